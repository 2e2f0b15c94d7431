import JvmDerived
import JvmDerived.Pilot.@@N@@Statement
import JvmDerived.Pilot.@@N@@Code
set_option linter.unusedVariables false
set_option linter.unusedSimpArgs false
namespace Jvm.Pilot.@@N@@
open Jvm Jvm.ClassFile Sem Op Lib Jvm.Free Jvm.Stand Jvm.LawKit Jvm.RoadKit Bundle Jvm.Pilot.@@N@@.Jvm.D
abbrev HW (a0 : Array Value) (Z : State) : Prop := ∀ d ∈ tables_1, d.before a0 Z = true
theorem tw {Z : State} {a0 : Array Value} (hw : HW a0 Z) (i : Nat) {d : Jvm.Cond} (h : tables_1[i]? = some d) : d.before a0 Z = true := hw d (List.mem_of_getElem? h)
abbrev rp (n : Nat) (v : Value) : List Value := List.replicate n v
section OwnKit
variable {p : Program} {l : Launch} {e : Env} {R : Room} {s : State} {m : MethodId} {args : Array Value} {below : List Frame} {meth : Method} {c : Code} {T : State} {locs : List Loc} {cells slots : Nat} {Z : State} {a0 : Array Value} {h h' : Heap} {Ev : State → Outcome → Prop}
def Go (p : Program) (e : Env) (below : List Frame) (Ev : State → Outcome → Prop) (T : State) (g : JFrame) : Prop :=
  ∃ (U : State) (o : Outcome), Steps p.tables e below (T.setTop g) U ∧ U.status = .running ∧ Ended U below o ∧ Ev U o
theorem Go.on {T T' : State} {g g' : JFrame} (K : Go p e below Ev T' g') (st : ∀ t, Steps p.tables e below (T'.setTop g') t → Steps p.tables e below (T.setTop g) t) : Go p e below Ev T g := by
  obtain ⟨U, o, h1, h2⟩ := K
  exact ⟨U, o, st _ h1, h2⟩
abbrev EndQ (s : State) (Q : Option Value → Heap → List Loc → Prop) (K N : Nat) : State → Outcome → Prop := fun U o => ∃ (v : Option Value) (L : List Loc), o = .returned v ∧ Q v U.heap L ∧ FrameEnd s o U L K N
theorem own_met {x : MethodName} {code : ByteArray} {ml : Nat} {ret : Option FieldType} {ws : List Jvm.Cond} {rm : Room} {as : Array Value} {h0 : Heap} {Q : Option Value → Heap → List Loc → Prop} {K N : Nat} {Ls : Array Slot} (hpn : plainFor x = true) (hef : ∀ m, entryFrame m as ml = mkF m 0 Ls [])
    (body : ∀ (p : Program) (e : Env) (s : State) (m : MethodId) (below : List Frame) (meth : Method) (c : Code) (T : State), Stand p l e rm s m as below meth c T [] 0 0 → p.tables.exec = Jvm.exec → c.code = code → c.maxLocals = ml → meth.sig.returnType = ret → meth.locks = false → meth.name = x.name → s.vm.findClass x.cls = some m.cls → Z.Warmed39 s.vm → T.heap = h0 → Go p e below (EndQ s Q K N) T (mkF m 0 Ls [])) :
    MetFree l x (head1 (Jvm.Cond.code x code ml ret :: ws) rm) (fun a U => a = as ∧ Z.Warmed39 U.vm ∧ U.heap = h0) (fun _ _ _ _ _ => True) (fun _ U o U' => ∃ v L, o = .returned v ∧ Q v U'.heap L ∧ FrameEnd U o U' L K N) := by
  refine MetFree.of_bodySF hpn hisR ?_
  intro p e s m args below meth c s₁ Bd hml0 hP hK
  obtain ⟨rfl, hZ, hh⟩ := hP
  have e0 : s₁.heap = h0 := by rw [← hh, Bd.state]; rfl
  obtain ⟨U, o, h1, h2, h3, h4⟩ := body p e s m below meth c s₁ (Stand.of_body Bd) Bd.exec Bd.bytes hml0 Bd.returns (BodyLoose.notSynchronized Bd) (name_of_methodNamed Bd.named Bd.method).1 (findClass_of_methodNamed Bd.named) hZ e0
  rw [← hef m] at h1
  exact ⟨U, o, h1, h2, h3, h4⟩
theorem g_leave (X : Stand p l e R s m args below meth c T locs cells slots) (hlk : meth.locks = false) {Q : Option Value → Heap → List Loc → Prop} {K N : Nat} {g : JFrame} {v : Option Value} (hv : meth.sig.returnType = none → v = none) (hK : cells ≤ K) (hN : slots ≤ N) (eT : T.heap = h) (hQ : Q v h locs)
    (hst : ∀ fs, (∀ (f : JFrame) (acts : List Action), f.method = m → f.locked = none → f.entered = [] → (doReturn e (T.setTop f) acts v).1 = T.setFrames fs) → Steps p.tables e below (T.setTop g) (T.setFrames fs)) : Go p e below (EndQ s Q K N) T g := by
  obtain ⟨fs, hr, hrun, hended, hW, hsame⟩ := X.leave (v := v) hv hlk
  exact ⟨_, _, hst fs hr, hrun, hended, _, _, rfl, by rw [show (T.setFrames fs).heap = T.heap from rfl, eT]; exact hQ, ⟨_, rfl⟩, hW, hsame.mono hK hN⟩
theorem g_retI (X : Stand p l e R s m args below meth c T locs cells slots) (hx : p.tables.exec = Jvm.exec) (hlk : meth.locks = false) {Q : Option Value → Heap → List Loc → Prop} {K N : Nat} {pc : Nat} {Ls : Array Slot} {z : Int32} {rest : List Value} (hret : meth.sig.returnType = some .int) (hd : decode c.code pc = .ok (.ireturn, 1)) (hK : cells ≤ K) (hN : slots ≤ N) (eT : T.heap = h) (hQ : Q (some (.int z)) h locs) : Go p e below (EndQ s Q K N) T (mkF m pc Ls (.int z :: rest)) :=
  g_leave X hlk (fun q => by rw [hret] at q; cases q) hK hN eT hQ (fun fs hr => retOut X hx hret rfl (Or.inl ⟨rfl, Or.inl rfl, _, rfl⟩) hd hr)
theorem g_retZ (X : Stand p l e R s m args below meth c T locs cells slots) (hx : p.tables.exec = Jvm.exec) (hlk : meth.locks = false) {Q : Option Value → Heap → List Loc → Prop} {K N : Nat} {pc : Nat} {Ls : Array Slot} {z : Int32} {rest : List Value} (hret : meth.sig.returnType = some .boolean) (hd : decode c.code pc = .ok (.ireturn, 1)) (hK : cells ≤ K) (hN : slots ≤ N) (eT : T.heap = h) (hQ : Q (some (.int (nar .boolean z))) h locs) : Go p e below (EndQ s Q K N) T (mkF m pc Ls (.int z :: rest)) :=
  g_leave X hlk (fun q => by rw [hret] at q; cases q) hK hN eT hQ (fun fs hr => retN X hx (t := .boolean) hret (by simp) hd hr)
theorem g_retD (X : Stand p l e R s m args below meth c T locs cells slots) (hx : p.tables.exec = Jvm.exec) (hlk : meth.locks = false) {Q : Option Value → Heap → List Loc → Prop} {K N : Nat} {pc : Nat} {Ls : Array Slot} {z : UInt64} {rest : List Value} (hret : meth.sig.returnType = some .double) (hd : decode c.code pc = .ok (.dreturn, 1)) (hK : cells ≤ K) (hN : slots ≤ N) (eT : T.heap = h) (hQ : Q (some (.double z)) h locs) : Go p e below (EndQ s Q K N) T (mkF m pc Ls (.double z :: rest)) :=
  g_leave X hlk (fun q => by rw [hret] at q; cases q) hK hN eT hQ (fun fs hr => retOut X hx hret rfl (Or.inr (Or.inr (Or.inl ⟨rfl, rfl, _, rfl⟩))) hd hr)
theorem g_retJ (X : Stand p l e R s m args below meth c T locs cells slots) (hx : p.tables.exec = Jvm.exec) (hlk : meth.locks = false) {Q : Option Value → Heap → List Loc → Prop} {K N : Nat} {pc : Nat} {Ls : Array Slot} {z : Int64} {rest : List Value} (hret : meth.sig.returnType = some .long) (hd : decode c.code pc = .ok (.lreturn, 1)) (hK : cells ≤ K) (hN : slots ≤ N) (eT : T.heap = h) (hQ : Q (some (.long z)) h locs) : Go p e below (EndQ s Q K N) T (mkF m pc Ls (.long z :: rest)) :=
  g_leave X hlk (fun q => by rw [hret] at q; cases q) hK hN eT hQ (fun fs hr => retOut X hx hret rfl (Or.inr (Or.inl ⟨rfl, rfl, _, rfl⟩)) hd hr)
theorem g_retA (X : Stand p l e R s m args below meth c T locs cells slots) (hx : p.tables.exec = Jvm.exec) (hlk : meth.locks = false) {Q : Option Value → Heap → List Loc → Prop} {K N : Nat} {pc : Nat} {Ls : Array Slot} {w : Value} {rest : List Value} {t : FieldType} (hret : meth.sig.returnType = some t) (ht : t.isReference = true) (hw : w.isRef = true) (hn : narrow t w = w) (hd : decode c.code pc = .ok (.areturn, 1)) (hK : cells ≤ K) (hN : slots ≤ N) (eT : T.heap = h) (hQ : Q (some w) h locs) : Go p e below (EndQ s Q K N) T (mkF m pc Ls (w :: rest)) :=
  g_leave X hlk (fun q => by rw [hret] at q; cases q) hK hN eT hQ (fun fs hr => retOut X hx hret hn (Or.inr (Or.inr (Or.inr (Or.inr ⟨rfl, ht, hw⟩)))) hd hr)
theorem g_retV (X : Stand p l e R s m args below meth c T locs cells slots) (hx : p.tables.exec = Jvm.exec) (hlk : meth.locks = false) {Q : Option Value → Heap → List Loc → Prop} {K N : Nat} {pc : Nat} {Ls : Array Slot} (hret : meth.sig.returnType = none) (hd : decode c.code pc = .ok (.return_, 1)) (hK : cells ≤ K) (hN : slots ≤ N) (eT : T.heap = h) (hQ : Q none h locs) : Go p e below (EndQ s Q K N) T (mkF m pc Ls []) :=
  g_leave X hlk (fun _ => rfl) hK hN eT hQ (fun fs hr => X.returnOut hx hret hd hr)
theorem g_iloadN (X : Stand p l e R s m args below meth c T locs cells slots) (hx : p.tables.exec = Jvm.exec) {pc : Nat} {Ls : Array Slot} {st : List Value} {k : Fin 4} {v : Int32} (q : Nat) (hd : decode c.code pc = .ok (.iload_n k, 1)) (hq : pc + 1 = q) (hl : Ls[k.val]? = some (.val (.int v))) (K : Go p e below Ev T (mkF m q Ls (.int v :: st))) : Go p e below Ev T (mkF m pc Ls st) := by
  subst hq
  exact K.on fun _ k => XS.iloadN X.here hx rfl hd hl k
theorem g_iload (X : Stand p l e R s m args below meth c T locs cells slots) (hx : p.tables.exec = Jvm.exec) {pc : Nat} {Ls : Array Slot} {st : List Value} {k : Nat} {v : Int32} (q : Nat) (hd : decode c.code pc = .ok (.iload k, 2)) (hq : pc + 2 = q) (hl : Ls[k]? = some (.val (.int v))) (K : Go p e below Ev T (mkF m q Ls (.int v :: st))) : Go p e below Ev T (mkF m pc Ls st) := by
  subst hq
  exact K.on fun _ k => XS.iload X.here hx rfl hd hl k
theorem g_istoreN (X : Stand p l e R s m args below meth c T locs cells slots) (hx : p.tables.exec = Jvm.exec) {pc : Nat} {Ls : Array Slot} {st : List Value} {k : Fin 4} {v : Int32} {l' : Array Slot} (q : Nat) (hd : decode c.code pc = .ok (.istore_n k, 1)) (hq : pc + 1 = q) (hl : storeLocals Ls k.val (.int v) = some l') (K : Go p e below Ev T (mkF m q l' st)) : Go p e below Ev T (mkF m pc Ls (.int v :: st)) := by
  subst hq
  exact K.on fun _ k => XS.istoreN X.here hx rfl hd rfl hl k
theorem g_istore (X : Stand p l e R s m args below meth c T locs cells slots) (hx : p.tables.exec = Jvm.exec) {pc : Nat} {Ls : Array Slot} {st : List Value} {k : Nat} {v : Int32} {l' : Array Slot} (q : Nat) (hd : decode c.code pc = .ok (.istore k, 2)) (hq : pc + 2 = q) (hl : storeLocals Ls k (.int v) = some l') (K : Go p e below Ev T (mkF m q l' st)) : Go p e below Ev T (mkF m pc Ls (.int v :: st)) := by
  subst hq
  exact K.on fun _ k => XS.istore X.here hx rfl hd rfl hl k
theorem g_lloadN (X : Stand p l e R s m args below meth c T locs cells slots) (hx : p.tables.exec = Jvm.exec) {pc : Nat} {Ls : Array Slot} {st : List Value} {k : Fin 4} {v : Int64} (q : Nat) (hd : decode c.code pc = .ok (.lload_n k, 1)) (hq : pc + 1 = q) (hl : Ls[k.val]? = some (.val (.long v))) (K : Go p e below Ev T (mkF m q Ls (.long v :: st))) : Go p e below Ev T (mkF m pc Ls st) := by
  subst hq
  exact K.on fun _ k => XS.lloadN X.here hx rfl hd hl k
theorem g_lload (X : Stand p l e R s m args below meth c T locs cells slots) (hx : p.tables.exec = Jvm.exec) {pc : Nat} {Ls : Array Slot} {st : List Value} {k : Nat} {v : Int64} (q : Nat) (hd : decode c.code pc = .ok (.lload k, 2)) (hq : pc + 2 = q) (hl : Ls[k]? = some (.val (.long v))) (K : Go p e below Ev T (mkF m q Ls (.long v :: st))) : Go p e below Ev T (mkF m pc Ls st) := by
  subst hq
  exact K.on fun _ k => XS.lload X.here hx rfl hd hl k
theorem g_lstoreN (X : Stand p l e R s m args below meth c T locs cells slots) (hx : p.tables.exec = Jvm.exec) {pc : Nat} {Ls : Array Slot} {st : List Value} {k : Fin 4} {v : Int64} {l' : Array Slot} (q : Nat) (hd : decode c.code pc = .ok (.lstore_n k, 1)) (hq : pc + 1 = q) (hl : storeLocals Ls k.val (.long v) = some l') (K : Go p e below Ev T (mkF m q l' st)) : Go p e below Ev T (mkF m pc Ls (.long v :: st)) := by
  subst hq
  exact K.on fun _ k => XS.lstoreN X.here hx rfl hd rfl hl k
theorem g_lstore (X : Stand p l e R s m args below meth c T locs cells slots) (hx : p.tables.exec = Jvm.exec) {pc : Nat} {Ls : Array Slot} {st : List Value} {k : Nat} {v : Int64} {l' : Array Slot} (q : Nat) (hd : decode c.code pc = .ok (.lstore k, 2)) (hq : pc + 2 = q) (hl : storeLocals Ls k (.long v) = some l') (K : Go p e below Ev T (mkF m q l' st)) : Go p e below Ev T (mkF m pc Ls (.long v :: st)) := by
  subst hq
  exact K.on fun _ k => XS.lstore X.here hx rfl hd rfl hl k
theorem g_dloadN (X : Stand p l e R s m args below meth c T locs cells slots) (hx : p.tables.exec = Jvm.exec) {pc : Nat} {Ls : Array Slot} {st : List Value} {k : Fin 4} {v : UInt64} (q : Nat) (hd : decode c.code pc = .ok (.dload_n k, 1)) (hq : pc + 1 = q) (hl : Ls[k.val]? = some (.val (.double v))) (K : Go p e below Ev T (mkF m q Ls (.double v :: st))) : Go p e below Ev T (mkF m pc Ls st) := by
  subst hq
  exact K.on fun _ k => XS.dloadN X.here hx rfl hd hl k
theorem g_dload (X : Stand p l e R s m args below meth c T locs cells slots) (hx : p.tables.exec = Jvm.exec) {pc : Nat} {Ls : Array Slot} {st : List Value} {k : Nat} {v : UInt64} (q : Nat) (hd : decode c.code pc = .ok (.dload k, 2)) (hq : pc + 2 = q) (hl : Ls[k]? = some (.val (.double v))) (K : Go p e below Ev T (mkF m q Ls (.double v :: st))) : Go p e below Ev T (mkF m pc Ls st) := by
  subst hq
  exact K.on fun _ k => XS.dload X.here hx rfl hd hl k
theorem g_dstoreN (X : Stand p l e R s m args below meth c T locs cells slots) (hx : p.tables.exec = Jvm.exec) {pc : Nat} {Ls : Array Slot} {st : List Value} {k : Fin 4} {v : UInt64} {l' : Array Slot} (q : Nat) (hd : decode c.code pc = .ok (.dstore_n k, 1)) (hq : pc + 1 = q) (hl : storeLocals Ls k.val (.double v) = some l') (K : Go p e below Ev T (mkF m q l' st)) : Go p e below Ev T (mkF m pc Ls (.double v :: st)) := by
  subst hq
  exact K.on fun _ k => XS.dstoreN X.here hx rfl hd rfl hl k
theorem g_dstore (X : Stand p l e R s m args below meth c T locs cells slots) (hx : p.tables.exec = Jvm.exec) {pc : Nat} {Ls : Array Slot} {st : List Value} {k : Nat} {v : UInt64} {l' : Array Slot} (q : Nat) (hd : decode c.code pc = .ok (.dstore k, 2)) (hq : pc + 2 = q) (hl : storeLocals Ls k (.double v) = some l') (K : Go p e below Ev T (mkF m q l' st)) : Go p e below Ev T (mkF m pc Ls (.double v :: st)) := by
  subst hq
  exact K.on fun _ k => XS.dstore X.here hx rfl hd rfl hl k
theorem g_aloadN (X : Stand p l e R s m args below meth c T locs cells slots) (hx : p.tables.exec = Jvm.exec) {pc : Nat} {Ls : Array Slot} {st : List Value} {k : Fin 4} {v : Value} (q : Nat) (hd : decode c.code pc = .ok (.aload_n k, 1)) (hq : pc + 1 = q) (hl : Ls[k.val]? = some (.val v)) (hv : v.isRef = true) (K : Go p e below Ev T (mkF m q Ls (v :: st))) : Go p e below Ev T (mkF m pc Ls st) := by
  subst hq
  exact K.on fun _ k => XS.aloadN X.here hx rfl hd hl hv k
theorem g_aload (X : Stand p l e R s m args below meth c T locs cells slots) (hx : p.tables.exec = Jvm.exec) {pc : Nat} {Ls : Array Slot} {st : List Value} {k : Nat} {v : Value} (q : Nat) (hd : decode c.code pc = .ok (.aload k, 2)) (hq : pc + 2 = q) (hl : Ls[k]? = some (.val v)) (hv : v.isRef = true) (K : Go p e below Ev T (mkF m q Ls (v :: st))) : Go p e below Ev T (mkF m pc Ls st) := by
  subst hq
  exact K.on fun _ k => XS.aload X.here hx rfl hd hl hv k
theorem g_astoreN (X : Stand p l e R s m args below meth c T locs cells slots) (hx : p.tables.exec = Jvm.exec) {pc : Nat} {Ls : Array Slot} {st : List Value} {k : Fin 4} {v : Value} {l' : Array Slot} (q : Nat) (hd : decode c.code pc = .ok (.astore_n k, 1)) (hq : pc + 1 = q) (hv : v.isRef = true) (hl : storeLocals Ls k.val v = some l') (K : Go p e below Ev T (mkF m q l' st)) : Go p e below Ev T (mkF m pc Ls (v :: st)) := by
  subst hq
  exact K.on fun _ k => XS.astoreN X.here hx rfl hd rfl hv hl k
theorem g_astore (X : Stand p l e R s m args below meth c T locs cells slots) (hx : p.tables.exec = Jvm.exec) {pc : Nat} {Ls : Array Slot} {st : List Value} {k : Nat} {v : Value} {l' : Array Slot} (q : Nat) (hd : decode c.code pc = .ok (.astore k, 2)) (hq : pc + 2 = q) (hv : v.isRef = true) (hl : storeLocals Ls k v = some l') (K : Go p e below Ev T (mkF m q l' st)) : Go p e below Ev T (mkF m pc Ls (v :: st)) := by
  subst hq
  exact K.on fun _ k => XS.astore X.here hx rfl hd rfl hv hl k
theorem g_iconst (X : Stand p l e R s m args below meth c T locs cells slots) (hx : p.tables.exec = Jvm.exec) {pc : Nat} {Ls : Array Slot} {st : List Value} {i : Int} (v : Int32) (q : Nat) (hd : decode c.code pc = .ok (.iconst i, 1)) (hq : pc + 1 = q) (hv : Int32.ofInt i = v) (K : Go p e below Ev T (mkF m q Ls (.int v :: st))) : Go p e below Ev T (mkF m pc Ls st) := by
  subst hq
  exact K.on fun _ k => XT.iconstV X.here hx rfl v hd hv k
theorem g_bipush (X : Stand p l e R s m args below meth c T locs cells slots) (hx : p.tables.exec = Jvm.exec) {pc : Nat} {Ls : Array Slot} {st : List Value} {i : Int} (v : Int32) (q : Nat) (hd : decode c.code pc = .ok (.bipush i, 2)) (hq : pc + 2 = q) (hv : (Int8.ofInt i).toInt32 = v) (K : Go p e below Ev T (mkF m q Ls (.int v :: st))) : Go p e below Ev T (mkF m pc Ls st) := by
  subst hq
  exact K.on fun _ k => XT.bipushV X.here hx rfl v hd hv k
theorem g_sipush (X : Stand p l e R s m args below meth c T locs cells slots) (hx : p.tables.exec = Jvm.exec) {pc : Nat} {Ls : Array Slot} {st : List Value} {i : Int} (v : Int32) (q : Nat) (hd : decode c.code pc = .ok (.sipush i, 3)) (hq : pc + 3 = q) (hv : (Int16.ofInt i).toInt32 = v) (K : Go p e below Ev T (mkF m q Ls (.int v :: st))) : Go p e below Ev T (mkF m pc Ls st) := by
  subst hq
  exact K.on fun _ k => XT.sipushV X.here hx rfl v hd hv k
theorem g_lconst (X : Stand p l e R s m args below meth c T locs cells slots) (hx : p.tables.exec = Jvm.exec) {pc : Nat} {Ls : Array Slot} {st : List Value} {i : Fin 2} (v : Int64) (q : Nat) (hd : decode c.code pc = .ok (.lconst i, 1)) (hq : pc + 1 = q) (hv : Int64.ofNat i = v) (K : Go p e below Ev T (mkF m q Ls (.long v :: st))) : Go p e below Ev T (mkF m pc Ls st) := by
  subst hq
  exact K.on fun _ k => XT.lconstV X.here hx rfl v hd hv k
theorem g_dconst0 (X : Stand p l e R s m args below meth c T locs cells slots) (hx : p.tables.exec = Jvm.exec) {pc : Nat} {Ls : Array Slot} {st : List Value}  (q : Nat) (hd : decode c.code pc = .ok (.dconst 0, 1)) (hq : pc + 1 = q)  (K : Go p e below Ev T (mkF m q Ls (.double 0 :: st))) : Go p e below Ev T (mkF m pc Ls st) := by
  subst hq
  exact K.on fun _ k => XS.dconst0 X.here hx rfl hd rfl k
theorem g_dconst1 (X : Stand p l e R s m args below meth c T locs cells slots) (hx : p.tables.exec = Jvm.exec) {pc : Nat} {Ls : Array Slot} {st : List Value}  (q : Nat) (hd : decode c.code pc = .ok (.dconst 1, 1)) (hq : pc + 1 = q)  (K : Go p e below Ev T (mkF m q Ls (.double 4607182418800017408 :: st))) : Go p e below Ev T (mkF m pc Ls st) := by
  subst hq
  exact K.on fun _ k => XS.dconst1 X.here hx rfl hd rfl k
theorem g_null (X : Stand p l e R s m args below meth c T locs cells slots) (hx : p.tables.exec = Jvm.exec) {pc : Nat} {Ls : Array Slot} {st : List Value}  (q : Nat) (hd : decode c.code pc = .ok (.aconst_null, 1)) (hq : pc + 1 = q)  (K : Go p e below Ev T (mkF m q Ls (.null :: st))) : Go p e below Ev T (mkF m pc Ls st) := by
  subst hq
  exact K.on fun _ k => XS.aconstNull X.here hx rfl hd k
theorem g_iinc (X : Stand p l e R s m args below meth c T locs cells slots) (hx : p.tables.exec = Jvm.exec) {pc : Nat} {Ls : Array Slot} {st : List Value} {k : Nat} {i : Int} {v w : Int32} {l' : Array Slot} (q : Nat) (hd : decode c.code pc = .ok (.iinc k i, 3)) (hq : pc + 3 = q) (hl : Ls[k]? = some (.val (.int v))) (hv : Int32.ofInt i = w) (hl' : storeLocals Ls k (.int (v + w)) = some l') (K : Go p e below Ev T (mkF m q l' st)) : Go p e below Ev T (mkF m pc Ls st) := by
  subst hq
  exact K.on fun _ k => XT.iincV X.here hx rfl w hd hv hl hl' k
theorem g_iadd (X : Stand p l e R s m args below meth c T locs cells slots) (hx : p.tables.exec = Jvm.exec) {pc : Nat} {Ls : Array Slot} {st : List Value} {x y : Int32} (q : Nat) (hd : decode c.code pc = .ok (.iadd, 1)) (hq : pc + 1 = q)  (K : Go p e below Ev T (mkF m q Ls (.int (x + y) :: st))) : Go p e below Ev T (mkF m pc Ls (.int y :: .int x :: st)) := by
  subst hq
  exact K.on fun _ k => XS.iadd X.here hx rfl hd rfl k
theorem g_ladd (X : Stand p l e R s m args below meth c T locs cells slots) (hx : p.tables.exec = Jvm.exec) {pc : Nat} {Ls : Array Slot} {st : List Value} {x y : Int64} (q : Nat) (hd : decode c.code pc = .ok (.ladd, 1)) (hq : pc + 1 = q)  (K : Go p e below Ev T (mkF m q Ls (.long (x + y) :: st))) : Go p e below Ev T (mkF m pc Ls (.long y :: .long x :: st)) := by
  subst hq
  exact K.on fun _ k => XS.ladd X.here hx rfl hd rfl k
theorem g_isub (X : Stand p l e R s m args below meth c T locs cells slots) (hx : p.tables.exec = Jvm.exec) {pc : Nat} {Ls : Array Slot} {st : List Value} {x y : Int32} (q : Nat) (hd : decode c.code pc = .ok (.isub, 1)) (hq : pc + 1 = q)  (K : Go p e below Ev T (mkF m q Ls (.int (x - y) :: st))) : Go p e below Ev T (mkF m pc Ls (.int y :: .int x :: st)) := by
  subst hq
  exact K.on fun _ k => XS.isub X.here hx rfl hd rfl k
theorem g_lsub (X : Stand p l e R s m args below meth c T locs cells slots) (hx : p.tables.exec = Jvm.exec) {pc : Nat} {Ls : Array Slot} {st : List Value} {x y : Int64} (q : Nat) (hd : decode c.code pc = .ok (.lsub, 1)) (hq : pc + 1 = q)  (K : Go p e below Ev T (mkF m q Ls (.long (x - y) :: st))) : Go p e below Ev T (mkF m pc Ls (.long y :: .long x :: st)) := by
  subst hq
  exact K.on fun _ k => XS.lsub X.here hx rfl hd rfl k
theorem g_imul (X : Stand p l e R s m args below meth c T locs cells slots) (hx : p.tables.exec = Jvm.exec) {pc : Nat} {Ls : Array Slot} {st : List Value} {x y : Int32} (q : Nat) (hd : decode c.code pc = .ok (.imul, 1)) (hq : pc + 1 = q)  (K : Go p e below Ev T (mkF m q Ls (.int (x * y) :: st))) : Go p e below Ev T (mkF m pc Ls (.int y :: .int x :: st)) := by
  subst hq
  exact K.on fun _ k => XS.imul X.here hx rfl hd rfl k
theorem g_lmul (X : Stand p l e R s m args below meth c T locs cells slots) (hx : p.tables.exec = Jvm.exec) {pc : Nat} {Ls : Array Slot} {st : List Value} {x y : Int64} (q : Nat) (hd : decode c.code pc = .ok (.lmul, 1)) (hq : pc + 1 = q)  (K : Go p e below Ev T (mkF m q Ls (.long (x * y) :: st))) : Go p e below Ev T (mkF m pc Ls (.long y :: .long x :: st)) := by
  subst hq
  exact K.on fun _ k => XS.lmul X.here hx rfl hd rfl k
theorem g_iand (X : Stand p l e R s m args below meth c T locs cells slots) (hx : p.tables.exec = Jvm.exec) {pc : Nat} {Ls : Array Slot} {st : List Value} {x y : Int32} (q : Nat) (hd : decode c.code pc = .ok (.iand, 1)) (hq : pc + 1 = q)  (K : Go p e below Ev T (mkF m q Ls (.int (x &&& y) :: st))) : Go p e below Ev T (mkF m pc Ls (.int y :: .int x :: st)) := by
  subst hq
  exact K.on fun _ k => XS.iand X.here hx rfl hd rfl k
theorem g_land (X : Stand p l e R s m args below meth c T locs cells slots) (hx : p.tables.exec = Jvm.exec) {pc : Nat} {Ls : Array Slot} {st : List Value} {x y : Int64} (q : Nat) (hd : decode c.code pc = .ok (.land, 1)) (hq : pc + 1 = q)  (K : Go p e below Ev T (mkF m q Ls (.long (x &&& y) :: st))) : Go p e below Ev T (mkF m pc Ls (.long y :: .long x :: st)) := by
  subst hq
  exact K.on fun _ k => XS.land X.here hx rfl hd rfl k
theorem g_ior (X : Stand p l e R s m args below meth c T locs cells slots) (hx : p.tables.exec = Jvm.exec) {pc : Nat} {Ls : Array Slot} {st : List Value} {x y : Int32} (q : Nat) (hd : decode c.code pc = .ok (.ior, 1)) (hq : pc + 1 = q)  (K : Go p e below Ev T (mkF m q Ls (.int (x ||| y) :: st))) : Go p e below Ev T (mkF m pc Ls (.int y :: .int x :: st)) := by
  subst hq
  exact K.on fun _ k => XS.ior X.here hx rfl hd rfl k
theorem g_lor (X : Stand p l e R s m args below meth c T locs cells slots) (hx : p.tables.exec = Jvm.exec) {pc : Nat} {Ls : Array Slot} {st : List Value} {x y : Int64} (q : Nat) (hd : decode c.code pc = .ok (.lor, 1)) (hq : pc + 1 = q)  (K : Go p e below Ev T (mkF m q Ls (.long (x ||| y) :: st))) : Go p e below Ev T (mkF m pc Ls (.long y :: .long x :: st)) := by
  subst hq
  exact K.on fun _ k => XS.lor X.here hx rfl hd rfl k
theorem g_irem (X : Stand p l e R s m args below meth c T locs cells slots) (hx : p.tables.exec = Jvm.exec) {pc : Nat} {Ls : Array Slot} {st : List Value} {x y : Int32} (q : Nat) (hd : decode c.code pc = .ok (.irem, 1)) (hq : pc + 1 = q) (hy : y ≠ 0) (K : Go p e below Ev T (mkF m q Ls (.int (x % y) :: st))) : Go p e below Ev T (mkF m pc Ls (.int y :: .int x :: st)) := by
  subst hq
  exact K.on fun _ k => iremM X hx rfl hd rfl hy k
theorem g_ishl (X : Stand p l e R s m args below meth c T locs cells slots) (hx : p.tables.exec = Jvm.exec) {pc : Nat} {Ls : Array Slot} {st : List Value} {x y : Int32} (q : Nat) (hd : decode c.code pc = .ok (.ishl, 1)) (hq : pc + 1 = q)  (K : Go p e below Ev T (mkF m q Ls (.int (x <<< (y &&& 31)) :: st))) : Go p e below Ev T (mkF m pc Ls (.int y :: .int x :: st)) := by
  subst hq
  exact K.on fun _ k => XS.ishl X.here hx rfl hd rfl k
theorem g_ishr (X : Stand p l e R s m args below meth c T locs cells slots) (hx : p.tables.exec = Jvm.exec) {pc : Nat} {Ls : Array Slot} {st : List Value} {x y : Int32} (q : Nat) (hd : decode c.code pc = .ok (.ishr, 1)) (hq : pc + 1 = q)  (K : Go p e below Ev T (mkF m q Ls (.int (x >>> (y &&& 31)) :: st))) : Go p e below Ev T (mkF m pc Ls (.int y :: .int x :: st)) := by
  subst hq
  exact K.on fun _ k => XS.ishr X.here hx rfl hd rfl k
theorem g_iushr (X : Stand p l e R s m args below meth c T locs cells slots) (hx : p.tables.exec = Jvm.exec) {pc : Nat} {Ls : Array Slot} {st : List Value} {x y : Int32} (q : Nat) (hd : decode c.code pc = .ok (.iushr, 1)) (hq : pc + 1 = q)  (K : Go p e below Ev T (mkF m q Ls (.int ((x.toUInt32 >>> (y &&& 31).toUInt32).toInt32) :: st))) : Go p e below Ev T (mkF m pc Ls (.int y :: .int x :: st)) := by
  subst hq
  exact K.on fun _ k => XS.iushr X.here hx rfl hd rfl k
theorem g_lshl (X : Stand p l e R s m args below meth c T locs cells slots) (hx : p.tables.exec = Jvm.exec) {pc : Nat} {Ls : Array Slot} {st : List Value} {x : Int64} {y : Int32} (q : Nat) (hd : decode c.code pc = .ok (.lshl, 1)) (hq : pc + 1 = q)  (K : Go p e below Ev T (mkF m q Ls (.long (x <<< (y &&& 0x3f).toInt64) :: st))) : Go p e below Ev T (mkF m pc Ls (.int y :: .long x :: st)) := by
  subst hq
  exact K.on fun _ k => XS.lshl X.here hx rfl hd rfl k
theorem g_lushr (X : Stand p l e R s m args below meth c T locs cells slots) (hx : p.tables.exec = Jvm.exec) {pc : Nat} {Ls : Array Slot} {st : List Value} {x : Int64} {y : Int32} (q : Nat) (hd : decode c.code pc = .ok (.lushr, 1)) (hq : pc + 1 = q)  (K : Go p e below Ev T (mkF m q Ls (.long ((x.toUInt64 >>> (y &&& 0x3f).toInt64.toUInt64).toInt64) :: st))) : Go p e below Ev T (mkF m pc Ls (.int y :: .long x :: st)) := by
  subst hq
  exact K.on fun _ k => XS.lushr X.here hx rfl hd rfl k
theorem g_i2l (X : Stand p l e R s m args below meth c T locs cells slots) (hx : p.tables.exec = Jvm.exec) {pc : Nat} {Ls : Array Slot} {st : List Value} {x : Int32} (q : Nat) (hd : decode c.code pc = .ok (.i2l, 1)) (hq : pc + 1 = q)  (K : Go p e below Ev T (mkF m q Ls (.long (x.toInt64) :: st))) : Go p e below Ev T (mkF m pc Ls (.int x :: st)) := by
  subst hq
  exact K.on fun _ k => XS.i2l X.here hx rfl hd rfl k
theorem g_l2i (X : Stand p l e R s m args below meth c T locs cells slots) (hx : p.tables.exec = Jvm.exec) {pc : Nat} {Ls : Array Slot} {st : List Value} {x : Int64} (q : Nat) (hd : decode c.code pc = .ok (.l2i, 1)) (hq : pc + 1 = q)  (K : Go p e below Ev T (mkF m q Ls (.int (x.toInt32) :: st))) : Go p e below Ev T (mkF m pc Ls (.long x :: st)) := by
  subst hq
  exact K.on fun _ k => XS.l2i X.here hx rfl hd rfl k
theorem g_lcmp (X : Stand p l e R s m args below meth c T locs cells slots) (hx : p.tables.exec = Jvm.exec) {pc : Nat} {Ls : Array Slot} {st : List Value} {x y : Int64} (q : Nat) (hd : decode c.code pc = .ok (.lcmp, 1)) (hq : pc + 1 = q)  (K : Go p e below Ev T (mkF m q Ls (.int (lcmpW x y) :: st))) : Go p e below Ev T (mkF m pc Ls (.long y :: .long x :: st)) := by
  subst hq
  exact K.on fun _ k => XS.lcmp X.here hx rfl hd rfl k
theorem g_i2d (X : Stand p l e R s m args below meth c T locs cells slots) (hx : p.tables.exec = Jvm.exec) {pc : Nat} {Ls : Array Slot} {st : List Value} {x : Int32} (q : Nat) (hd : decode c.code pc = .ok (.i2d, 1)) (hq : pc + 1 = q)  (K : Go p e below Ev T (mkF m q Ls (.double (FP.i2d x) :: st))) : Go p e below Ev T (mkF m pc Ls (.int x :: st)) := by
  subst hq
  exact K.on fun _ k => XS.i2dS X.here hx rfl hd rfl rfl k
theorem g_dneg (X : Stand p l e R s m args below meth c T locs cells slots) (hx : p.tables.exec = Jvm.exec) {pc : Nat} {Ls : Array Slot} {st : List Value} {x : UInt64} (q : Nat) (hd : decode c.code pc = .ok (.dneg, 1)) (hq : pc + 1 = q)  (K : Go p e below Ev T (mkF m q Ls (.double (FP.dneg x) :: st))) : Go p e below Ev T (mkF m pc Ls (.double x :: st)) := by
  subst hq
  exact K.on fun _ k => XS.dnegS X.here hx rfl hd rfl rfl k
theorem g_dadd (X : Stand p l e R s m args below meth c T locs cells slots) (hx : p.tables.exec = Jvm.exec) {pc : Nat} {Ls : Array Slot} {st : List Value} {x y : UInt64} (q : Nat) (hd : decode c.code pc = .ok (.dadd, 1)) (hq : pc + 1 = q) (hn : Jvm.Free.Fl.NoNaN64 (FP.dadd x y)) (K : Go p e below Ev T (mkF m q Ls (.double (FP.dadd x y) :: st))) : Go p e below Ev T (mkF m pc Ls (.double y :: .double x :: st)) := by
  subst hq
  exact K.on fun _ k => XS.daddS X.here hx rfl hd rfl hn rfl k
theorem g_dsub (X : Stand p l e R s m args below meth c T locs cells slots) (hx : p.tables.exec = Jvm.exec) {pc : Nat} {Ls : Array Slot} {st : List Value} {x y : UInt64} (q : Nat) (hd : decode c.code pc = .ok (.dsub, 1)) (hq : pc + 1 = q) (hn : Jvm.Free.Fl.NoNaN64 (FP.dsub x y)) (K : Go p e below Ev T (mkF m q Ls (.double (FP.dsub x y) :: st))) : Go p e below Ev T (mkF m pc Ls (.double y :: .double x :: st)) := by
  subst hq
  exact K.on fun _ k => XS.dsubS X.here hx rfl hd rfl hn rfl k
theorem g_dmul (X : Stand p l e R s m args below meth c T locs cells slots) (hx : p.tables.exec = Jvm.exec) {pc : Nat} {Ls : Array Slot} {st : List Value} {x y : UInt64} (q : Nat) (hd : decode c.code pc = .ok (.dmul, 1)) (hq : pc + 1 = q) (hn : Jvm.Free.Fl.NoNaN64 (FP.dmul x y)) (K : Go p e below Ev T (mkF m q Ls (.double (FP.dmul x y) :: st))) : Go p e below Ev T (mkF m pc Ls (.double y :: .double x :: st)) := by
  subst hq
  exact K.on fun _ k => XS.dmulS X.here hx rfl hd rfl hn rfl k
theorem g_ddiv (X : Stand p l e R s m args below meth c T locs cells slots) (hx : p.tables.exec = Jvm.exec) {pc : Nat} {Ls : Array Slot} {st : List Value} {x y : UInt64} (q : Nat) (hd : decode c.code pc = .ok (.ddiv, 1)) (hq : pc + 1 = q) (hn : Jvm.Free.Fl.NoNaN64 (FP.ddiv x y)) (K : Go p e below Ev T (mkF m q Ls (.double (FP.ddiv x y) :: st))) : Go p e below Ev T (mkF m pc Ls (.double y :: .double x :: st)) := by
  subst hq
  exact K.on fun _ k => XS.ddivS X.here hx rfl hd rfl hn rfl k
theorem g_dcmp (X : Stand p l e R s m args below meth c T locs cells slots) (hx : p.tables.exec = Jvm.exec) {pc : Nat} {Ls : Array Slot} {st : List Value} {x y : UInt64} {o : CmpOp} {r : Int32} (q : Nat) (hd : decode c.code pc = .ok (.dcmp o, 1)) (hq : pc + 1 = q) (hr : cmpValue (FP.dcmp x y) o = r) (K : Go p e below Ev T (mkF m q Ls (.int r :: st))) : Go p e below Ev T (mkF m pc Ls (.double y :: .double x :: st)) := by
  subst hq
  exact K.on fun _ k => XS.dcmpS X.here hx rfl hd rfl hr k
theorem g_dup (X : Stand p l e R s m args below meth c T locs cells slots) (hx : p.tables.exec = Jvm.exec) {pc : Nat} {Ls : Array Slot} {st : List Value} {x : Value} (q : Nat) (hd : decode c.code pc = .ok (.dup, 1)) (hq : pc + 1 = q) (hc : x.category = 1) (K : Go p e below Ev T (mkF m q Ls (x :: x :: st))) : Go p e below Ev T (mkF m pc Ls (x :: st)) := by
  subst hq
  exact K.on fun _ k => XS.dup X.here hx rfl hd rfl hc k
theorem g_pop (X : Stand p l e R s m args below meth c T locs cells slots) (hx : p.tables.exec = Jvm.exec) {pc : Nat} {Ls : Array Slot} {st : List Value} {x : Value} (q : Nat) (hd : decode c.code pc = .ok (.pop, 1)) (hq : pc + 1 = q) (hc : x.category = 1) (K : Go p e below Ev T (mkF m q Ls st)) : Go p e below Ev T (mkF m pc Ls (x :: st)) := by
  subst hq
  exact K.on fun _ k => XS.pop X.here hx rfl hd rfl hc k
theorem g_dupX1 (X : Stand p l e R s m args below meth c T locs cells slots) (hx : p.tables.exec = Jvm.exec) {pc : Nat} {Ls : Array Slot} {st : List Value} {x y : Value} (q : Nat) (hd : decode c.code pc = .ok (.dup_x1, 1)) (hq : pc + 1 = q) (hc : x.category = 1) (hc' : y.category = 1) (K : Go p e below Ev T (mkF m q Ls (x :: y :: x :: st))) : Go p e below Ev T (mkF m pc Ls (x :: y :: st)) := by
  subst hq
  exact K.on fun _ k => XS.dupX1 X.here hx rfl hd rfl hc hc' k
theorem g_dup2 (X : Stand p l e R s m args below meth c T locs cells slots) (hx : p.tables.exec = Jvm.exec) {pc : Nat} {Ls : Array Slot} {st : List Value} {x y : Value} (q : Nat) (hd : decode c.code pc = .ok (.dup2, 1)) (hq : pc + 1 = q) (hc : x.category = 1) (hc' : y.category = 1) (K : Go p e below Ev T (mkF m q Ls (x :: y :: x :: y :: st))) : Go p e below Ev T (mkF m pc Ls (x :: y :: st)) := by
  subst hq
  exact K.on fun _ k => XT.dup2 X.here hx rfl hd rfl hc hc' k
theorem g_ldc2J (X : Stand p l e R s m args below meth c T locs cells slots) (hx : p.tables.exec = Jvm.exec) {pc : Nat} {Ls : Array Slot} {st : List Value} {own : String} {i : Nat} {v : Int64} (q : Nat) (hZ : Z.Warmed39 s.vm) (hown : s.vm.findClass own = some m.cls) (w : (Jvm.Cond.constantLong own i v).before a0 Z = true) (hd : decode c.code pc = .ok (.ldc2_w i, 3)) (hq : pc + 3 = q) (K : Go p e below Ev T (mkF m q Ls (.long v :: st))) : Go p e below Ev T (mkF m pc Ls st) := by
  subst hq
  exact K.on fun _ k => X.ldc2J hx hown (mvT hZ w) rfl hd k
theorem g_ldc2D (X : Stand p l e R s m args below meth c T locs cells slots) (hx : p.tables.exec = Jvm.exec) {pc : Nat} {Ls : Array Slot} {st : List Value} {own : String} {i : Nat} {v : UInt64} (q : Nat) (hZ : Z.Warmed39 s.vm) (hown : s.vm.findClass own = some m.cls) (w : (Jvm.Cond.constantDouble own i v).before a0 Z = true) (hd : decode c.code pc = .ok (.ldc2_w i, 3)) (hq : pc + 3 = q) (K : Go p e below Ev T (mkF m q Ls (.double v :: st))) : Go p e below Ev T (mkF m pc Ls st) := by
  subst hq
  exact K.on (X.ldc2DoubleC hx hown (mvT hZ w) (g := mkF m pc Ls st) rfl hd)
theorem g_goto (X : Stand p l e R s m args below meth c T locs cells slots) (hx : p.tables.exec = Jvm.exec) {pc : Nat} {Ls : Array Slot} {st : List Value} {o : Int} (q : Nat) (hd : decode c.code pc = .ok (.goto o, 3)) (ho : 0 ≤ (pc : Int) + o) (hq : ((pc : Int) + o).toNat = q) (K : Go p e below Ev T (mkF m q Ls st)) : Go p e below Ev T (mkF m pc Ls st) :=
  K.on fun _ k => XS.goto X.here hx rfl rfl hd ho hq k
theorem own_i0 (x : Int32) : (x < 0 ↔ x.toInt < 0) ∧ (0 < x ↔ 0 < x.toInt) ∧ (x = 0 ↔ x.toInt = 0) := by
  refine ⟨by rw [Int32.lt_iff_toInt_lt]; simp, by rw [Int32.lt_iff_toInt_lt]; simp, ?_⟩
  rw [← Int32.toInt_inj]; simp
theorem g_if_eq (X : Stand p l e R s m args below meth c T locs cells slots) (hx : p.tables.exec = Jvm.exec) {pc : Nat} {Ls : Array Slot} {st : List Value} {x : Int32} {o : Int} (q1 q2 : Nat) (hd : decode c.code pc = .ok (.ifCond .eq o, 3)) (ho : 0 ≤ (pc : Int) + o) (h1 : ((pc : Int) + o).toNat = q1) (h2 : pc + 3 = q2) (Kt : x.toInt = 0 → Go p e below Ev T (mkF m q1 Ls st)) (Kf : x.toInt ≠ 0 → Go p e below Ev T (mkF m q2 Ls st)) : Go p e below Ev T (mkF m pc Ls (.int x :: st)) := by
  have Q := own_i0 x
  by_cases hc : x = 0
  · exact (Kt (by first | omega | (simp only [Q] at hc; omega))).on fun _ k => XS.ifYes X.here hx rfl rfl hd rfl (XT.i0_eq_t (by simpa using hc)) ho h1 k
  · subst h2
    exact (Kf (by first | omega | (simp only [Q] at hc; omega))).on fun _ k => XS.ifNo X.here hx rfl hd rfl (XT.i0_eq_f (by simpa using hc)) k
theorem g_if_ne (X : Stand p l e R s m args below meth c T locs cells slots) (hx : p.tables.exec = Jvm.exec) {pc : Nat} {Ls : Array Slot} {st : List Value} {x : Int32} {o : Int} (q1 q2 : Nat) (hd : decode c.code pc = .ok (.ifCond .ne o, 3)) (ho : 0 ≤ (pc : Int) + o) (h1 : ((pc : Int) + o).toNat = q1) (h2 : pc + 3 = q2) (Kt : x.toInt ≠ 0 → Go p e below Ev T (mkF m q1 Ls st)) (Kf : x.toInt = 0 → Go p e below Ev T (mkF m q2 Ls st)) : Go p e below Ev T (mkF m pc Ls (.int x :: st)) := by
  have Q := own_i0 x
  by_cases hc : ¬ x = 0
  · exact (Kt (by first | omega | (simp only [Q] at hc; omega))).on fun _ k => XS.ifYes X.here hx rfl rfl hd rfl (XT.i0_ne_t (by simpa using hc)) ho h1 k
  · subst h2
    exact (Kf (by first | omega | (simp only [Q] at hc; omega))).on fun _ k => XS.ifNo X.here hx rfl hd rfl (XT.i0_ne_f (by simpa using hc)) k
theorem g_if_lt (X : Stand p l e R s m args below meth c T locs cells slots) (hx : p.tables.exec = Jvm.exec) {pc : Nat} {Ls : Array Slot} {st : List Value} {x : Int32} {o : Int} (q1 q2 : Nat) (hd : decode c.code pc = .ok (.ifCond .lt o, 3)) (ho : 0 ≤ (pc : Int) + o) (h1 : ((pc : Int) + o).toNat = q1) (h2 : pc + 3 = q2) (Kt : x.toInt < 0 → Go p e below Ev T (mkF m q1 Ls st)) (Kf : 0 ≤ x.toInt → Go p e below Ev T (mkF m q2 Ls st)) : Go p e below Ev T (mkF m pc Ls (.int x :: st)) := by
  have Q := own_i0 x
  by_cases hc : x < 0
  · exact (Kt (by first | omega | (simp only [Q] at hc; omega))).on fun _ k => XS.ifYes X.here hx rfl rfl hd rfl (XT.i0_lt_t (by simpa using hc)) ho h1 k
  · subst h2
    exact (Kf (by first | omega | (simp only [Q] at hc; omega))).on fun _ k => XS.ifNo X.here hx rfl hd rfl (XT.i0_lt_f (by simpa using hc)) k
theorem g_if_ge (X : Stand p l e R s m args below meth c T locs cells slots) (hx : p.tables.exec = Jvm.exec) {pc : Nat} {Ls : Array Slot} {st : List Value} {x : Int32} {o : Int} (q1 q2 : Nat) (hd : decode c.code pc = .ok (.ifCond .ge o, 3)) (ho : 0 ≤ (pc : Int) + o) (h1 : ((pc : Int) + o).toNat = q1) (h2 : pc + 3 = q2) (Kt : 0 ≤ x.toInt → Go p e below Ev T (mkF m q1 Ls st)) (Kf : x.toInt < 0 → Go p e below Ev T (mkF m q2 Ls st)) : Go p e below Ev T (mkF m pc Ls (.int x :: st)) := by
  have Q := own_i0 x
  by_cases hc : ¬ x < 0
  · exact (Kt (by first | omega | (simp only [Q] at hc; omega))).on fun _ k => XS.ifYes X.here hx rfl rfl hd rfl (XT.i0_ge_t (by simpa using hc)) ho h1 k
  · subst h2
    exact (Kf (by first | omega | (simp only [Q] at hc; omega))).on fun _ k => XS.ifNo X.here hx rfl hd rfl (XT.i0_ge_f (by simpa using hc)) k
theorem g_if_gt (X : Stand p l e R s m args below meth c T locs cells slots) (hx : p.tables.exec = Jvm.exec) {pc : Nat} {Ls : Array Slot} {st : List Value} {x : Int32} {o : Int} (q1 q2 : Nat) (hd : decode c.code pc = .ok (.ifCond .gt o, 3)) (ho : 0 ≤ (pc : Int) + o) (h1 : ((pc : Int) + o).toNat = q1) (h2 : pc + 3 = q2) (Kt : 0 < x.toInt → Go p e below Ev T (mkF m q1 Ls st)) (Kf : x.toInt ≤ 0 → Go p e below Ev T (mkF m q2 Ls st)) : Go p e below Ev T (mkF m pc Ls (.int x :: st)) := by
  have Q := own_i0 x
  by_cases hc : 0 < x
  · exact (Kt (by first | omega | (simp only [Q] at hc; omega))).on fun _ k => XS.ifYes X.here hx rfl rfl hd rfl (XT.i0_gt_t (by simpa using hc)) ho h1 k
  · subst h2
    exact (Kf (by first | omega | (simp only [Q] at hc; omega))).on fun _ k => XS.ifNo X.here hx rfl hd rfl (XT.i0_gt_f (by simpa using hc)) k
theorem g_if_le (X : Stand p l e R s m args below meth c T locs cells slots) (hx : p.tables.exec = Jvm.exec) {pc : Nat} {Ls : Array Slot} {st : List Value} {x : Int32} {o : Int} (q1 q2 : Nat) (hd : decode c.code pc = .ok (.ifCond .le o, 3)) (ho : 0 ≤ (pc : Int) + o) (h1 : ((pc : Int) + o).toNat = q1) (h2 : pc + 3 = q2) (Kt : x.toInt ≤ 0 → Go p e below Ev T (mkF m q1 Ls st)) (Kf : 0 < x.toInt → Go p e below Ev T (mkF m q2 Ls st)) : Go p e below Ev T (mkF m pc Ls (.int x :: st)) := by
  have Q := own_i0 x
  by_cases hc : ¬ 0 < x
  · exact (Kt (by first | omega | (simp only [Q] at hc; omega))).on fun _ k => XS.ifYes X.here hx rfl rfl hd rfl (XT.i0_le_t (by simpa using hc)) ho h1 k
  · subst h2
    exact (Kf (by first | omega | (simp only [Q] at hc; omega))).on fun _ k => XS.ifNo X.here hx rfl hd rfl (XT.i0_le_f (by simpa using hc)) k
theorem own_ii (x y : Int32) : (x < y ↔ x.toInt < y.toInt) ∧ (y < x ↔ y.toInt < x.toInt) ∧ (x = y ↔ x.toInt = y.toInt) := by
  exact ⟨Int32.lt_iff_toInt_lt, Int32.lt_iff_toInt_lt, Int32.toInt_inj.symm⟩
theorem g_ic_eq (X : Stand p l e R s m args below meth c T locs cells slots) (hx : p.tables.exec = Jvm.exec) {pc : Nat} {Ls : Array Slot} {st : List Value} {x y : Int32} {o : Int} (q1 q2 : Nat) (hd : decode c.code pc = .ok (.if_icmp .eq o, 3)) (ho : 0 ≤ (pc : Int) + o) (h1 : ((pc : Int) + o).toNat = q1) (h2 : pc + 3 = q2) (Kt : x.toInt = y.toInt → Go p e below Ev T (mkF m q1 Ls st)) (Kf : x.toInt ≠ y.toInt → Go p e below Ev T (mkF m q2 Ls st)) : Go p e below Ev T (mkF m pc Ls (.int y :: .int x :: st)) := by
  have Q := own_ii x y
  by_cases hc : x = y
  · exact (Kt (by first | omega | (simp only [Q] at hc; omega))).on fun _ k => XS.icmpYes X.here hx rfl rfl hd rfl (XT.ii_eq_t (by simpa using hc)) ho h1 k
  · subst h2
    exact (Kf (by first | omega | (simp only [Q] at hc; omega))).on fun _ k => XS.icmpNo X.here hx rfl hd rfl (XT.ii_eq_f (by simpa using hc)) k
theorem g_ic_ne (X : Stand p l e R s m args below meth c T locs cells slots) (hx : p.tables.exec = Jvm.exec) {pc : Nat} {Ls : Array Slot} {st : List Value} {x y : Int32} {o : Int} (q1 q2 : Nat) (hd : decode c.code pc = .ok (.if_icmp .ne o, 3)) (ho : 0 ≤ (pc : Int) + o) (h1 : ((pc : Int) + o).toNat = q1) (h2 : pc + 3 = q2) (Kt : x.toInt ≠ y.toInt → Go p e below Ev T (mkF m q1 Ls st)) (Kf : x.toInt = y.toInt → Go p e below Ev T (mkF m q2 Ls st)) : Go p e below Ev T (mkF m pc Ls (.int y :: .int x :: st)) := by
  have Q := own_ii x y
  by_cases hc : ¬ x = y
  · exact (Kt (by first | omega | (simp only [Q] at hc; omega))).on fun _ k => XS.icmpYes X.here hx rfl rfl hd rfl (XT.ii_ne_t (by simpa using hc)) ho h1 k
  · subst h2
    exact (Kf (by first | omega | (simp only [Q] at hc; omega))).on fun _ k => XS.icmpNo X.here hx rfl hd rfl (XT.ii_ne_f (by simpa using hc)) k
theorem g_ic_lt (X : Stand p l e R s m args below meth c T locs cells slots) (hx : p.tables.exec = Jvm.exec) {pc : Nat} {Ls : Array Slot} {st : List Value} {x y : Int32} {o : Int} (q1 q2 : Nat) (hd : decode c.code pc = .ok (.if_icmp .lt o, 3)) (ho : 0 ≤ (pc : Int) + o) (h1 : ((pc : Int) + o).toNat = q1) (h2 : pc + 3 = q2) (Kt : x.toInt < y.toInt → Go p e below Ev T (mkF m q1 Ls st)) (Kf : y.toInt ≤ x.toInt → Go p e below Ev T (mkF m q2 Ls st)) : Go p e below Ev T (mkF m pc Ls (.int y :: .int x :: st)) := by
  have Q := own_ii x y
  by_cases hc : x < y
  · exact (Kt (by first | omega | (simp only [Q] at hc; omega))).on fun _ k => XS.icmpYes X.here hx rfl rfl hd rfl (XT.ii_lt_t (by simpa using hc)) ho h1 k
  · subst h2
    exact (Kf (by first | omega | (simp only [Q] at hc; omega))).on fun _ k => XS.icmpNo X.here hx rfl hd rfl (XT.ii_lt_f (by simpa using hc)) k
theorem g_ic_ge (X : Stand p l e R s m args below meth c T locs cells slots) (hx : p.tables.exec = Jvm.exec) {pc : Nat} {Ls : Array Slot} {st : List Value} {x y : Int32} {o : Int} (q1 q2 : Nat) (hd : decode c.code pc = .ok (.if_icmp .ge o, 3)) (ho : 0 ≤ (pc : Int) + o) (h1 : ((pc : Int) + o).toNat = q1) (h2 : pc + 3 = q2) (Kt : y.toInt ≤ x.toInt → Go p e below Ev T (mkF m q1 Ls st)) (Kf : x.toInt < y.toInt → Go p e below Ev T (mkF m q2 Ls st)) : Go p e below Ev T (mkF m pc Ls (.int y :: .int x :: st)) := by
  have Q := own_ii x y
  by_cases hc : ¬ x < y
  · exact (Kt (by first | omega | (simp only [Q] at hc; omega))).on fun _ k => XS.icmpYes X.here hx rfl rfl hd rfl (XT.ii_ge_t (by simpa using hc)) ho h1 k
  · subst h2
    exact (Kf (by first | omega | (simp only [Q] at hc; omega))).on fun _ k => XS.icmpNo X.here hx rfl hd rfl (XT.ii_ge_f (by simpa using hc)) k
theorem g_ic_gt (X : Stand p l e R s m args below meth c T locs cells slots) (hx : p.tables.exec = Jvm.exec) {pc : Nat} {Ls : Array Slot} {st : List Value} {x y : Int32} {o : Int} (q1 q2 : Nat) (hd : decode c.code pc = .ok (.if_icmp .gt o, 3)) (ho : 0 ≤ (pc : Int) + o) (h1 : ((pc : Int) + o).toNat = q1) (h2 : pc + 3 = q2) (Kt : y.toInt < x.toInt → Go p e below Ev T (mkF m q1 Ls st)) (Kf : x.toInt ≤ y.toInt → Go p e below Ev T (mkF m q2 Ls st)) : Go p e below Ev T (mkF m pc Ls (.int y :: .int x :: st)) := by
  have Q := own_ii x y
  by_cases hc : y < x
  · exact (Kt (by first | omega | (simp only [Q] at hc; omega))).on fun _ k => XS.icmpYes X.here hx rfl rfl hd rfl (XT.ii_gt_t (by simpa using hc)) ho h1 k
  · subst h2
    exact (Kf (by first | omega | (simp only [Q] at hc; omega))).on fun _ k => XS.icmpNo X.here hx rfl hd rfl (XT.ii_gt_f (by simpa using hc)) k
theorem g_ic_le (X : Stand p l e R s m args below meth c T locs cells slots) (hx : p.tables.exec = Jvm.exec) {pc : Nat} {Ls : Array Slot} {st : List Value} {x y : Int32} {o : Int} (q1 q2 : Nat) (hd : decode c.code pc = .ok (.if_icmp .le o, 3)) (ho : 0 ≤ (pc : Int) + o) (h1 : ((pc : Int) + o).toNat = q1) (h2 : pc + 3 = q2) (Kt : x.toInt ≤ y.toInt → Go p e below Ev T (mkF m q1 Ls st)) (Kf : y.toInt < x.toInt → Go p e below Ev T (mkF m q2 Ls st)) : Go p e below Ev T (mkF m pc Ls (.int y :: .int x :: st)) := by
  have Q := own_ii x y
  by_cases hc : ¬ y < x
  · exact (Kt (by first | omega | (simp only [Q] at hc; omega))).on fun _ k => XS.icmpYes X.here hx rfl rfl hd rfl (XT.ii_le_t (by simpa using hc)) ho h1 k
  · subst h2
    exact (Kf (by first | omega | (simp only [Q] at hc; omega))).on fun _ k => XS.icmpNo X.here hx rfl hd rfl (XT.ii_le_f (by simpa using hc)) k
theorem g_lc_eq (X : Stand p l e R s m args below meth c T locs cells slots) (hx : p.tables.exec = Jvm.exec) {pc : Nat} {Ls : Array Slot} {st : List Value} {x y : Int64} {o : Int} (q0 q1 q2 : Nat) (hd0 : decode c.code pc = .ok (.lcmp, 1)) (h0 : pc + 1 = q0) (hd : decode c.code q0 = .ok (.ifCond .eq o, 3)) (ho : 0 ≤ (q0 : Int) + o) (h1 : ((q0 : Int) + o).toNat = q1) (h2 : q0 + 3 = q2) (Kt : x.toInt = y.toInt → Go p e below Ev T (mkF m q1 Ls st)) (Kf : x.toInt ≠ y.toInt → Go p e below Ev T (mkF m q2 Ls st)) : Go p e below Ev T (mkF m pc Ls (.long y :: .long x :: st)) := by
  have Q := c_lcmp x y
  have C : x.toInt < y.toInt ∨ x.toInt = y.toInt ∨ y.toInt < x.toInt := by omega
  refine g_lcmp X hx q0 hd0 h0 (g_if_eq X hx q1 q2 hd ho h1 h2 (fun hc => Kt ?_) (fun hc => Kf ?_)) <;> (rcases C with C | C | C <;> first | (have := Q.1 C; omega) | (have := Q.2.1 C; omega) | (have := Q.2.2 C; omega))
theorem g_lc_ne (X : Stand p l e R s m args below meth c T locs cells slots) (hx : p.tables.exec = Jvm.exec) {pc : Nat} {Ls : Array Slot} {st : List Value} {x y : Int64} {o : Int} (q0 q1 q2 : Nat) (hd0 : decode c.code pc = .ok (.lcmp, 1)) (h0 : pc + 1 = q0) (hd : decode c.code q0 = .ok (.ifCond .ne o, 3)) (ho : 0 ≤ (q0 : Int) + o) (h1 : ((q0 : Int) + o).toNat = q1) (h2 : q0 + 3 = q2) (Kt : x.toInt ≠ y.toInt → Go p e below Ev T (mkF m q1 Ls st)) (Kf : x.toInt = y.toInt → Go p e below Ev T (mkF m q2 Ls st)) : Go p e below Ev T (mkF m pc Ls (.long y :: .long x :: st)) := by
  have Q := c_lcmp x y
  have C : x.toInt < y.toInt ∨ x.toInt = y.toInt ∨ y.toInt < x.toInt := by omega
  refine g_lcmp X hx q0 hd0 h0 (g_if_ne X hx q1 q2 hd ho h1 h2 (fun hc => Kt ?_) (fun hc => Kf ?_)) <;> (rcases C with C | C | C <;> first | (have := Q.1 C; omega) | (have := Q.2.1 C; omega) | (have := Q.2.2 C; omega))
theorem g_lc_lt (X : Stand p l e R s m args below meth c T locs cells slots) (hx : p.tables.exec = Jvm.exec) {pc : Nat} {Ls : Array Slot} {st : List Value} {x y : Int64} {o : Int} (q0 q1 q2 : Nat) (hd0 : decode c.code pc = .ok (.lcmp, 1)) (h0 : pc + 1 = q0) (hd : decode c.code q0 = .ok (.ifCond .lt o, 3)) (ho : 0 ≤ (q0 : Int) + o) (h1 : ((q0 : Int) + o).toNat = q1) (h2 : q0 + 3 = q2) (Kt : x.toInt < y.toInt → Go p e below Ev T (mkF m q1 Ls st)) (Kf : y.toInt ≤ x.toInt → Go p e below Ev T (mkF m q2 Ls st)) : Go p e below Ev T (mkF m pc Ls (.long y :: .long x :: st)) := by
  have Q := c_lcmp x y
  have C : x.toInt < y.toInt ∨ x.toInt = y.toInt ∨ y.toInt < x.toInt := by omega
  refine g_lcmp X hx q0 hd0 h0 (g_if_lt X hx q1 q2 hd ho h1 h2 (fun hc => Kt ?_) (fun hc => Kf ?_)) <;> (rcases C with C | C | C <;> first | (have := Q.1 C; omega) | (have := Q.2.1 C; omega) | (have := Q.2.2 C; omega))
theorem g_lc_ge (X : Stand p l e R s m args below meth c T locs cells slots) (hx : p.tables.exec = Jvm.exec) {pc : Nat} {Ls : Array Slot} {st : List Value} {x y : Int64} {o : Int} (q0 q1 q2 : Nat) (hd0 : decode c.code pc = .ok (.lcmp, 1)) (h0 : pc + 1 = q0) (hd : decode c.code q0 = .ok (.ifCond .ge o, 3)) (ho : 0 ≤ (q0 : Int) + o) (h1 : ((q0 : Int) + o).toNat = q1) (h2 : q0 + 3 = q2) (Kt : y.toInt ≤ x.toInt → Go p e below Ev T (mkF m q1 Ls st)) (Kf : x.toInt < y.toInt → Go p e below Ev T (mkF m q2 Ls st)) : Go p e below Ev T (mkF m pc Ls (.long y :: .long x :: st)) := by
  have Q := c_lcmp x y
  have C : x.toInt < y.toInt ∨ x.toInt = y.toInt ∨ y.toInt < x.toInt := by omega
  refine g_lcmp X hx q0 hd0 h0 (g_if_ge X hx q1 q2 hd ho h1 h2 (fun hc => Kt ?_) (fun hc => Kf ?_)) <;> (rcases C with C | C | C <;> first | (have := Q.1 C; omega) | (have := Q.2.1 C; omega) | (have := Q.2.2 C; omega))
theorem g_lc_gt (X : Stand p l e R s m args below meth c T locs cells slots) (hx : p.tables.exec = Jvm.exec) {pc : Nat} {Ls : Array Slot} {st : List Value} {x y : Int64} {o : Int} (q0 q1 q2 : Nat) (hd0 : decode c.code pc = .ok (.lcmp, 1)) (h0 : pc + 1 = q0) (hd : decode c.code q0 = .ok (.ifCond .gt o, 3)) (ho : 0 ≤ (q0 : Int) + o) (h1 : ((q0 : Int) + o).toNat = q1) (h2 : q0 + 3 = q2) (Kt : y.toInt < x.toInt → Go p e below Ev T (mkF m q1 Ls st)) (Kf : x.toInt ≤ y.toInt → Go p e below Ev T (mkF m q2 Ls st)) : Go p e below Ev T (mkF m pc Ls (.long y :: .long x :: st)) := by
  have Q := c_lcmp x y
  have C : x.toInt < y.toInt ∨ x.toInt = y.toInt ∨ y.toInt < x.toInt := by omega
  refine g_lcmp X hx q0 hd0 h0 (g_if_gt X hx q1 q2 hd ho h1 h2 (fun hc => Kt ?_) (fun hc => Kf ?_)) <;> (rcases C with C | C | C <;> first | (have := Q.1 C; omega) | (have := Q.2.1 C; omega) | (have := Q.2.2 C; omega))
theorem g_lc_le (X : Stand p l e R s m args below meth c T locs cells slots) (hx : p.tables.exec = Jvm.exec) {pc : Nat} {Ls : Array Slot} {st : List Value} {x y : Int64} {o : Int} (q0 q1 q2 : Nat) (hd0 : decode c.code pc = .ok (.lcmp, 1)) (h0 : pc + 1 = q0) (hd : decode c.code q0 = .ok (.ifCond .le o, 3)) (ho : 0 ≤ (q0 : Int) + o) (h1 : ((q0 : Int) + o).toNat = q1) (h2 : q0 + 3 = q2) (Kt : x.toInt ≤ y.toInt → Go p e below Ev T (mkF m q1 Ls st)) (Kf : y.toInt < x.toInt → Go p e below Ev T (mkF m q2 Ls st)) : Go p e below Ev T (mkF m pc Ls (.long y :: .long x :: st)) := by
  have Q := c_lcmp x y
  have C : x.toInt < y.toInt ∨ x.toInt = y.toInt ∨ y.toInt < x.toInt := by omega
  refine g_lcmp X hx q0 hd0 h0 (g_if_le X hx q1 q2 hd ho h1 h2 (fun hc => Kt ?_) (fun hc => Kf ?_)) <;> (rcases C with C | C | C <;> first | (have := Q.1 C; omega) | (have := Q.2.1 C; omega) | (have := Q.2.2 C; omega))
theorem own_cmpv (i j : Int) (o : CmpOp) : (i < j → (cmpValue (some (compare i j)) o).toInt = -1) ∧ (i = j → (cmpValue (some (compare i j)) o).toInt = 0) ∧ (j < i → (cmpValue (some (compare i j)) o).toInt = 1) := by
  refine ⟨fun q => ?_, fun q => ?_, fun q => ?_⟩
  · rw [show compare i j = .lt from by rw [Jvm.FP.Core.compare_ite]; simp [q]]; cases o <;> rfl
  · rw [show compare i j = .eq from by rw [Jvm.FP.Core.compare_ite]; simp [q]]; cases o <;> rfl
  · rw [show compare i j = .gt from by rw [Jvm.FP.Core.compare_ite]; simp [show ¬ i < j by omega, show ¬ i = j by omega]]; cases o <;> rfl
theorem g_new (X : Stand p l e R s m args below meth c T locs cells slots) (hx : p.tables.exec = Jvm.exec) {pc : Nat} {Ls : Array Slot} {st : List Value} (hZ : Z.Warmed39 s.vm) {own C : String} {i n : Nat} (hown : s.vm.findClass own = some m.cls) (w : (Jvm.Cond.classLink own i C).before a0 Z = true) (wi : (Jvm.Cond.instantiable C n).before a0 Z = true) (wz : (Jvm.Cond.initialized C).before a0 Z = true) (eT : T.heap = h) (q : Nat) (hd : decode c.code pc = .ok (.new i, 3)) (hq : pc + 3 = q) (hc : cells + 1 ≤ R.cells) (hl : slots + n ≤ R.slots)
    (K : ∀ (T' : State) (h' : Heap) (a : Addr), a = h.size → Stand p l e R s m args below meth c T' locs (cells + 1) (slots + n) → T'.heap = h' → Ext h h' → Exa Z h' a C → (∀ {O nm d : String} {ty : FieldType}, Laid Z a0 C O nm d → parseFieldDescriptor d = some ty → Fld Z h' a O nm d (defaultValue ty)) → Go p e below Ev T' (mkF m q Ls (.ref a :: st))) : Go p e below Ev T (mkF m pc Ls st) := by
  subst hq
  obtain ⟨T', h', X', e', E', A', D', -, st'⟩ := newO X hx hZ hown w wi wz eT (g := mkF m pc Ls st) rfl hd hc hl
  exact (K T' h' _ rfl X' e' E' A' D').on st'
theorem g_objinit (X : Stand p l e R s m args below meth c T locs cells slots) (hx : p.tables.exec = Jvm.exec) {pc : Nat} {Ls : Array Slot} {st : List Value} (hZ : Z.Warmed39 s.vm) {own : String} {i : Nat} (hown : s.vm.findClass own = some m.cls) (w1 : (Jvm.Cond.methodLink own i ⟨"java/lang/Object", "<init>", "()V"⟩).before a0 Z = true) (w2 : (Jvm.Cond.instanceMethod ⟨"java/lang/Object", "<init>", "()V"⟩).before a0 Z = true) (w3 : (Jvm.Cond.code ⟨"java/lang/Object", "<init>", "()V"⟩ object_method_1_code 1 none).before a0 Z = true) (eT : T.heap = h) {a : Addr} (W : Nat) (q : Nat) (hd : decode c.code pc = .ok (.invokespecial i, 3)) (hq : pc + 3 = q) (hsz : Ls.size = c.maxLocals) (hf : 1 ≤ R.frames) (hW : (st.map fun v => v.category).sum ≤ W) (hl : W + 12 ≤ R.locals) (K : ∀ T', Stand p l e R s m args below meth c T' locs cells slots → T'.heap = h → Go p e below Ev T' (mkF m q Ls st)) : Go p e below Ev T (mkF m pc Ls (.ref a :: st)) := by
  subst hq
  obtain ⟨T', X', e', st'⟩ := initO X hx hZ hown w1 w2 w3 eT (g := mkF m pc Ls (.ref a :: st)) rfl hsz rfl hd hf (W := W) (by show 2 * 0 + _ ≤ _; omega) hl
  exact (K T' X' e').on st'
theorem g_static (X : Stand p l e R s m args below meth c T locs cells slots) (hx : p.tables.exec = Jvm.exec) {pc : Nat} {Ls : Array Slot} {st : List Value} (hZ : Z.Warmed39 s.vm) {own : String} {i : Nat} {y : MethodName} {bytes : ByteArray} {maxL : Nat} {ret : Option FieldType} {rm : Room} {as' : Array Value} {Q : Option Value → Heap → List Loc → Prop} {argsL rest : List Value} (hown : s.vm.findClass own = some m.cls) (w1 : (Jvm.Cond.methodLink own i y).before a0 Z = true) (w2 : (Jvm.Cond.static y).before a0 Z = true) (w3 : (Jvm.Cond.initialized y.cls).before a0 Z = true) (w4 : (Jvm.Cond.code y bytes maxL ret).before a0 Z = true) (hy : y.cls ≠ "java/lang/invoke/MethodHandle" ∧ y.cls ≠ "java/lang/invoke/VarHandle") (hM : MetFree l y (head1 [Jvm.Cond.code y bytes maxL ret] rm) (fun a U => a = as' ∧ Z.Warmed39 U.vm ∧ U.heap = h) (fun _ _ _ _ _ => True) (fun _ U o U' => ∃ v L, o = .returned v ∧ Q v U'.heap L ∧ FrameEnd U o U' L rm.cells rm.slots)) (eT : T.heap = h) (hst : st = argsL.reverse ++ rest) (has : argsL.toArray = as') (W : Nat) (q : Nat) (hq : pc + 3 = q) (hsz : Ls.size = c.maxLocals) (hlen : ∀ sig, parseMethodDescriptor y.desc = some sig → argsL.length = sig.parameters.length) (hW : (rest.map fun v => v.category).sum ≤ W) (hf : rm.frames + 1 ≤ R.frames) (hl : W + (maxL + 11) + rm.locals ≤ R.locals) (hc : cells + rm.cells ≤ R.cells) (hs : slots + rm.slots ≤ R.slots) (hd : decode c.code pc = .ok (.invokestatic i, 3))
    (K : ∀ (v : Option Value) (T' : State) (L : List Loc), Stand p l e R s m args below meth c T' (locs ++ L) (cells + rm.cells) (slots + rm.slots) → Q v T'.heap L → Go p e below Ev T' (mkF m q Ls (v.toList ++ rest))) : Go p e below Ev T (mkF m pc Ls st) := by
  subst hq hst
  obtain ⟨v, vm1, ⟨T', L', k', n'⟩, -, X', ⟨L, hQ, l', y', z'⟩, st'⟩ := Jvm.LawKit.callS X hx hown (mvT hZ w1) (mvT hZ w2) (mvT hZ w3) (mvT hZ w4) hy (backOf (W := W) hM hZ w4 w3 hf hl) (g := mkF m pc Ls (argsL.reverse ++ rest)) rfl hsz (argsL := argsL) (rest := rest) hlen rfl (by show 2 * 0 + _ ≤ _; omega) hd (fun _ _ => ⟨has, eT, hc, hs⟩)
  dsimp only [Pt.U, Pt.locs, Pt.cells, Pt.slots] at X' l' y' z' st' hQ
  subst l' y' z'
  exact (K v T' L X' hQ).on fun t k => st' t k
theorem g_init (X : Stand p l e R s m args below meth c T locs cells slots) (hx : p.tables.exec = Jvm.exec) {pc : Nat} {Ls : Array Slot} {st : List Value} (hZ : Z.Warmed39 s.vm) {own : String} {i : Nat} {y : MethodName} {bytes : ByteArray} {maxL : Nat} {rm : Room} {as' : Array Value} {Q : Option Value → Heap → List Loc → Prop} {argsL rest : List Value} (hy1 : y.name = "<init>") (hown : s.vm.findClass own = some m.cls) (w1 : (Jvm.Cond.methodLink own i y).before a0 Z = true) (w2 : (Jvm.Cond.instanceMethod y).before a0 Z = true) (w3 : (Jvm.Cond.initialized y.cls).before a0 Z = true) (w4 : (Jvm.Cond.code y bytes maxL none).before a0 Z = true) (hy : y.cls ≠ "java/lang/invoke/MethodHandle" ∧ y.cls ≠ "java/lang/invoke/VarHandle") (hM : MetFree l y (head1 [Jvm.Cond.code y bytes maxL none] rm) (fun a U => a = as' ∧ Z.Warmed39 U.vm ∧ U.heap = h) (fun _ _ _ _ _ => True) (fun _ U o U' => ∃ v L, o = .returned v ∧ Q v U'.heap L ∧ FrameEnd U o U' L rm.cells rm.slots)) (eT : T.heap = h) {a : Addr} (hst : st = argsL.reverse ++ .ref a :: rest) (has : (.ref a :: argsL).toArray = as') (W : Nat) (q : Nat) (hq : pc + 3 = q) (hsz : Ls.size = c.maxLocals) (hlen : ∀ sig, parseMethodDescriptor y.desc = some sig → argsL.length = sig.parameters.length) (hW : (rest.map fun v => v.category).sum ≤ W) (hf : rm.frames + 1 ≤ R.frames) (hl : W + (maxL + 11) + rm.locals ≤ R.locals) (hc : cells + rm.cells ≤ R.cells) (hs : slots + rm.slots ≤ R.slots) (hd : decode c.code pc = .ok (.invokespecial i, 3))
    (K : ∀ (v : Option Value) (T' : State) (L : List Loc), Stand p l e R s m args below meth c T' (locs ++ L) (cells + rm.cells) (slots + rm.slots) → Q v T'.heap L → Go p e below Ev T' (mkF m q Ls (v.toList ++ rest))) : Go p e below Ev T (mkF m pc Ls st) := by
  subst hq hst
  obtain ⟨v, vm1, ⟨T', L', k', n'⟩, -, X', ⟨L, hQ, l', y', z'⟩, st'⟩ := X.specialBack hx hy1 hown (mvT hZ w1) (mvT hZ w2) (mvT hZ w4) hy (backOf (W := W) hM hZ w4 w3 hf hl) (g := mkF m pc Ls (argsL.reverse ++ .ref a :: rest)) rfl hsz (Steps.refl _) (a := a) (argsL := argsL) (rest := rest) hlen rfl (by show 2 * 0 + _ ≤ _; omega) hd (fun _ _ => ⟨has, eT, hc, hs⟩)
  dsimp only [Pt.U, Pt.locs, Pt.cells, Pt.slots] at X' l' y' z' st' hQ
  subst l' y' z'
  exact (K v T' L X' hQ).on fun t k => st'.trans k
theorem g_virt (X : Stand p l e R s m args below meth c T locs cells slots) (hx : p.tables.exec = Jvm.exec) {pc : Nat} {Ls : Array Slot} {st : List Value} (hZ : Z.Warmed39 s.vm) {own : String} {i : Nat} {y z : MethodName} {C : String} {bytes : ByteArray} {maxL : Nat} {ret : Option FieldType} {rm : Room} {as' : Array Value} {Q : Option Value → Heap → List Loc → Prop} {argsL rest : List Value} (hown : s.vm.findClass own = some m.cls) (w1 : (Jvm.Cond.methodLink own i y).before a0 Z = true) (w2 : (Jvm.Cond.declares y).before a0 Z = true) (w5 : (Jvm.Cond.selects y.cls y y).before a0 Z = true) (w6 : (Jvm.Cond.selects C y z).before a0 Z = true) (w7 : (Jvm.Cond.instanceMethod z).before a0 Z = true) (w3 : (Jvm.Cond.initialized z.cls).before a0 Z = true) (w4 : (Jvm.Cond.code z bytes maxL ret).before a0 Z = true) (hy : y.cls ≠ "java/lang/invoke/MethodHandle" ∧ y.cls ≠ "java/lang/invoke/VarHandle") (hM : MetFree l z (head1 [Jvm.Cond.code z bytes maxL ret] rm) (fun a U => a = as' ∧ Z.Warmed39 U.vm ∧ U.heap = h) (fun _ _ _ _ _ => True) (fun _ U o U' => ∃ v L, o = .returned v ∧ Q v U'.heap L ∧ FrameEnd U o U' L rm.cells rm.slots)) (eT : T.heap = h) {b : Addr} (E : Exa Z h b C) (hst : st = argsL.reverse ++ .ref b :: rest) (has : (.ref b :: argsL).toArray = as') (W : Nat) (q : Nat) (hq : pc + 3 = q) (hsz : Ls.size = c.maxLocals) (hlen : ∀ sig, parseMethodDescriptor y.desc = some sig → argsL.length = sig.parameters.length) (hW : (rest.map fun v => v.category).sum ≤ W) (hf : rm.frames + 1 ≤ R.frames) (hl : W + (maxL + 11) + rm.locals ≤ R.locals) (hc : cells + rm.cells ≤ R.cells) (hs : slots + rm.slots ≤ R.slots) (hd : decode c.code pc = .ok (.invokevirtual i, 3))
    (K : ∀ (v : Option Value) (T' : State) (L : List Loc), Stand p l e R s m args below meth c T' (locs ++ L) (cells + rm.cells) (slots + rm.slots) → Q v T'.heap L → Go p e below Ev T' (mkF m q Ls (v.toList ++ rest))) : Go p e below Ev T (mkF m pc Ls st) := by
  subst hq hst
  obtain ⟨cq, kq, qa, qb, qc⟩ := isOf hZ eT E
  obtain ⟨v, vm1, ⟨T', L', k', n'⟩, -, X', ⟨L, hQ, l', y', z'⟩, st'⟩ := X.virtualBack hx hown (mvT hZ w1) (mvT hZ w2) (notFace_of_selects (args := #[]) (mvT hZ w5)) (mvT hZ w6) (mvT hZ w7) hy (backOf (W := W) hM hZ w4 w3 hf hl) qa qc (g := mkF m pc Ls (argsL.reverse ++ .ref b :: rest)) rfl hsz (Steps.refl _) (argsL := argsL) (rest := rest) hlen rfl (by show 2 * 0 + _ ≤ _; omega) hd (fun _ _ => ⟨has, eT, hc, hs⟩)
  dsimp only [Pt.U, Pt.locs, Pt.cells, Pt.slots] at X' l' y' z' st' hQ
  subst l' y' z'
  exact (K v T' L X' hQ).on fun t k => st'.trans k
theorem own_at {n : Nat} (j : Int32) (h0 : 0 ≤ j.toInt) (z : Int32) (h1 : j.toInt < z.toInt) (S : n = z.toNatClampNeg) : ¬ (j < 0 ∨ n ≤ j.toNatClampNeg) := by
  subst S
  intro q
  rcases q with q | q
  · have := (own_i0 j).1.mp q; omega
  · simp only [Int32.toNatClampNeg] at q; omega
theorem own_ncl {j : Int32} {k : Nat} (h : j.toInt = (k : Int)) : j.toNatClampNeg = k := by simp only [Int32.toNatClampNeg]; omega
theorem g_newP (X : Stand p l e R s m args below meth c T locs cells slots) (hx : p.tables.exec = Jvm.exec) {pc : Nat} {Ls : Array Slot} {st : List Value} (hZ : Z.Warmed39 s.vm) {aty : ArrayType} (w : (Jvm.Cond.arrayClass (newarray.typeOf aty)).before a0 Z = true) (eT : T.heap = h) {n : Int32} (hn : 0 ≤ n.toInt) {cap : Nat} (hcap : n.toInt ≤ cap) (hb : cap * 8 ≤ 536870912) (q : Nat) (hd : decode c.code pc = .ok (.newarray aty, 2)) (hq : pc + 2 = q) (hc : cells + 1 ≤ R.cells) (hl : slots + cap ≤ R.slots) {ad : String} (had : "[" ++ (newarray.typeOf aty).toString = ad)
    (K : ∀ (T' : State) (h' : Heap) (k : ClassId) (a : Addr), a = h.size → Stand p l e R s m args below meth c T' locs (cells + 1) (slots + cap) → T'.heap = h' → Ext h h' → Arv Z h' a k (newarray.typeOf aty) n [] (defaultValue (newarray.typeOf aty)) → Exa Z h' a ad → Go p e below Ev T' (mkF m q Ls (.ref a :: st))) : Go p e below Ev T (mkF m pc Ls (.int n :: st)) := by
  subst hq
  have hn' : ¬ n < 0 := fun q => by have := (own_i0 n).1.mp q; omega
  obtain ⟨T', h', k, X', e', E', A', B', st'⟩ := newPE X hx hZ w eT (g := mkF m pc Ls (.int n :: st)) rfl hd rfl hn' (cap := cap) (by simp only [Int32.toNatClampNeg]; omega) hb hc hl had
  exact (K T' h' k _ rfl X' e' E' (Arv.new A' hn') B').on st'
theorem g_len (X : Stand p l e R s m args below meth c T locs cells slots) (hx : p.tables.exec = Jvm.exec) {pc : Nat} {Ls : Array Slot} {st : List Value} (hZ : Z.Warmed39 s.vm) (eT : T.heap = h) {a : Addr} {k : ClassId} {ty : FieldType} {z : Int32} {vs : List Value} {dv : Value} (V : Arv Z h a k ty z vs dv) (q : Nat) (hd : decode c.code pc = .ok (.arraylength, 1)) (hq : pc + 1 = q) (K : Go p e below Ev T (mkF m q Ls (.int z :: st))) : Go p e below Ev T (mkF m pc Ls (.ref a :: st)) := by
  subst hq
  obtain ⟨cl, A, q1, S, q3, H, G⟩ := V
  refine K.on fun t k => X.arraylength hx (by rw [eT]; exact A.1) (State.isArrayOf_alike hZ.alike A.2.1) (g := mkF m pc Ls (.ref a :: st)) rfl rfl hd t ?_
  rw [len_of S q3]
  exact k
theorem g_dastore (X : Stand p l e R s m args below meth c T locs cells slots) (hx : p.tables.exec = Jvm.exec) {pc : Nat} {Ls : Array Slot} {st : List Value} (hZ : Z.Warmed39 s.vm) (eT : T.heap = h) {a : Addr} {k : ClassId} {z j : Int32} {x : UInt64} {vs : List Value} {dv : Value} (V : Arv Z h a k .double z vs dv) (i : Nat) (hi : j.toInt = (i : Int)) (hz : j.toInt < z.toInt) (hv : i < vs.length) (q : Nat) (hd : decode c.code pc = .ok (.dastore, 1)) (hq : pc + 1 = q)
    (K : ∀ T' h', Stand p l e R s m args below meth c T' (locs ++ [⟨a, j.toNatClampNeg⟩]) cells slots → T'.heap = h' → Wr h h' a j.toNatClampNeg (.double x) → Arv Z h' a k .double z (vs.set i (.double x)) dv → Go p e below Ev T' (mkF m q Ls st)) : Go p e below Ev T (mkF m pc Ls (.double x :: .int j :: .ref a :: st)) := by
  subst hq
  obtain ⟨cl, A, q1, S, q3, H, G⟩ := V
  have hj := own_at j (by omega) z hz S
  obtain ⟨T', h', X', e', W', st'⟩ := stD X hx hZ eT A hj (g := mkF m pc Ls (.double x :: .int j :: .ref a :: st)) rfl rfl hd
  exact (K T' h' X' e' W' (Arv.set A q1 S q3 H G rfl W' i (own_ncl hi) hv)).on st'
theorem g_iastore (X : Stand p l e R s m args below meth c T locs cells slots) (hx : p.tables.exec = Jvm.exec) {pc : Nat} {Ls : Array Slot} {st : List Value} (hZ : Z.Warmed39 s.vm) (eT : T.heap = h) {a : Addr} {k : ClassId} {z j : Int32} {x : Int32} {vs : List Value} {dv : Value} (V : Arv Z h a k .int z vs dv) (i : Nat) (hi : j.toInt = (i : Int)) (hz : j.toInt < z.toInt) (hv : i < vs.length) (q : Nat) (hd : decode c.code pc = .ok (.iastore, 1)) (hq : pc + 1 = q)
    (K : ∀ T' h', Stand p l e R s m args below meth c T' (locs ++ [⟨a, j.toNatClampNeg⟩]) cells slots → T'.heap = h' → Wr h h' a j.toNatClampNeg (.int x) → Arv Z h' a k .int z (vs.set i (.int x)) dv → Go p e below Ev T' (mkF m q Ls st)) : Go p e below Ev T (mkF m pc Ls (.int x :: .int j :: .ref a :: st)) := by
  subst hq
  obtain ⟨cl, A, q1, S, q3, H, G⟩ := V
  have hj := own_at j (by omega) z hz S
  obtain ⟨T', h', X', e', W', st'⟩ := stI X hx hZ eT A hj (g := mkF m pc Ls (.int x :: .int j :: .ref a :: st)) rfl rfl hd
  exact (K T' h' X' e' W' (Arv.set A q1 S q3 H G rfl W' i (own_ncl hi) hv)).on st'
theorem g_daload (X : Stand p l e R s m args below meth c T locs cells slots) (hx : p.tables.exec = Jvm.exec) {pc : Nat} {Ls : Array Slot} {st : List Value} (hZ : Z.Warmed39 s.vm) (eT : T.heap = h) {a : Addr} {k : ClassId} {z j : Int32} {v : Value} {vs : List Value} {dv : Value} (V : Arv Z h a k .double z vs dv) (hi : 0 ≤ j.toInt) (hz : j.toInt < z.toInt) (hv : vs.getD j.toNatClampNeg dv = v) (q : Nat) (hd : decode c.code pc = .ok (.daload, 1)) (hq : pc + 1 = q) (K : Go p e below Ev T (mkF m q Ls (v :: st))) : Go p e below Ev T (mkF m pc Ls (.int j :: .ref a :: st)) := by
  subst hq
  obtain ⟨cl, A, q1, S, q3, H, G⟩ := V
  have hj := own_at j hi z hz S
  exact K.on fun t k => X.daload hx (by rw [eT]; exact A.1) (State.isArrayOf_alike hZ.alike A.2.1) A.2.2 hj (H.at hj hv) (g := mkF m pc Ls (.int j :: .ref a :: st)) rfl rfl hd t k
theorem g_iaload (X : Stand p l e R s m args below meth c T locs cells slots) (hx : p.tables.exec = Jvm.exec) {pc : Nat} {Ls : Array Slot} {st : List Value} (hZ : Z.Warmed39 s.vm) (eT : T.heap = h) {a : Addr} {k : ClassId} {z j : Int32} {v : Value} {vs : List Value} {dv : Value} (V : Arv Z h a k .int z vs dv) (hi : 0 ≤ j.toInt) (hz : j.toInt < z.toInt) (hv : vs.getD j.toNatClampNeg dv = v) (q : Nat) (hd : decode c.code pc = .ok (.iaload, 1)) (hq : pc + 1 = q) (K : Go p e below Ev T (mkF m q Ls (v :: st))) : Go p e below Ev T (mkF m pc Ls (.int j :: .ref a :: st)) := by
  subst hq
  obtain ⟨cl, A, q1, S, q3, H, G⟩ := V
  have hj := own_at j hi z hz S
  exact K.on fun t k => X.iaload hx (by rw [eT]; exact A.1) (State.isArrayOf_alike hZ.alike A.2.1) A.2.2 hj (H.at hj hv) (g := mkF m pc Ls (.int j :: .ref a :: st)) rfl rfl hd t k
theorem g_clone (X : Stand p l e R s m args below meth c T locs cells slots) (hx : p.tables.exec = Jvm.exec) {pc : Nat} {Ls : Array Slot} {st : List Value} (hZ : Z.Warmed39 s.vm) {own ad : String} {i : Nat} (hown : s.vm.findClass own = some m.cls) (w1 : (Jvm.Cond.methodLink own i ⟨ad, "clone", "()Ljava/lang/Object;"⟩).before a0 Z = true) (w2 : (Jvm.Cond.sameMethod ad "java/lang/Object" "clone" "()Ljava/lang/Object;").before a0 Z = true) (w3 : (Jvm.Cond.native ⟨"java/lang/Object", "clone", "()Ljava/lang/Object;"⟩).before a0 Z = true) (w4 : (Jvm.Cond.instanceMethod ⟨"java/lang/Object", "clone", "()Ljava/lang/Object;"⟩).before a0 Z = true) (w5 : (Jvm.Cond.selects ad ⟨ad, "clone", "()Ljava/lang/Object;"⟩ ⟨"java/lang/Object", "clone", "()Ljava/lang/Object;"⟩).before a0 Z = true) (w6 : (Jvm.Cond.castable ad "java/lang/Cloneable").before a0 Z = true) (eT : T.heap = h) {a : Addr} {k : ClassId} {ty : FieldType} {z : Int32} {vs : List Value} {dv : Value} (V : Arv Z h a k ty z vs dv) (E : Exa Z h a ad) (W cap : Nat) (q : Nat) (hd : decode c.code pc = .ok (.invokevirtual i, 3)) (hq : pc + 3 = q) (hsz : Ls.size = c.maxLocals) (hf : 1 ≤ R.frames) (hW : (st.map fun v => v.category).sum ≤ W) (hl : W + 14 ≤ R.locals) (hcap : z.toInt ≤ cap) (hc : cells + 1 ≤ R.cells) (hs : slots + cap ≤ R.slots)
    (K : ∀ (T' : State) (h' : Heap) (b : Addr), b = h.size → Stand p l e R s m args below meth c T' locs (cells + 1) (slots + cap) → T'.heap = h' → Ext h h' → Arv Z h' b k ty z vs dv → Exa Z h' b ad → Go p e below Ev T' (mkF m q Ls (.ref b :: st))) : Go p e below Ev T (mkF m pc Ls (.ref a :: st)) := by
  subst hq
  obtain ⟨T', h', X', e', E', V', B', st'⟩ := cloneH X hx hZ hown w1 w2 w3 w4 w5 w6 eT V.arh E (g := mkF m pc Ls (.ref a :: st)) rfl hsz rfl hd hf (W := W) (cap := cap) (by show 2 * 0 + _ ≤ _; omega) hl (by simp only [Int32.toNatClampNeg]; omega) hc hs
  exact (K T' h' _ rfl X' e' E' V' B').on st'
theorem g_cast (X : Stand p l e R s m args below meth c T locs cells slots) (hx : p.tables.exec = Jvm.exec) {pc : Nat} {Ls : Array Slot} {st : List Value} (hZ : Z.Warmed39 s.vm) {own C : String} {i : Nat} (hown : s.vm.findClass own = some m.cls) (w : (Jvm.Cond.classLink own i C).before a0 Z = true) (eT : T.heap = h) {a : Addr} (F : Ins Z h a C true) (q : Nat) (hd : decode c.code pc = .ok (.checkcast i, 3)) (hq : pc + 3 = q) (K : ∀ T', Stand p l e R s m args below meth c T' locs cells slots → T'.heap = h → Go p e below Ev T' (mkF m q Ls (.ref a :: st))) : Go p e below Ev T (mkF m pc Ls (.ref a :: st)) := by
  subst hq
  obtain ⟨T', X', e', st'⟩ := castY X hx hZ hown w eT F (g := mkF m pc Ls (.ref a :: st)) rfl rfl hd
  exact (K T' X' e').on st'
end OwnKit
theorem own_pd0 : parseMethodDescriptor "(II)I" = some ⟨[.int, .int], some .int⟩ := by decide +kernel
theorem own_pd1 : parseMethodDescriptor "(II)[I" = some ⟨[.int, .int], some (.array .int)⟩ := by decide +kernel
theorem own_pd2 : parseMethodDescriptor "(II)[D" = some ⟨[.int, .int], some (.array .double)⟩ := by decide +kernel
theorem own_pd3 : parseMethodDescriptor "(I)D" = some ⟨[.int], some .double⟩ := by decide +kernel
theorem own_pd4 : parseMethodDescriptor "(I)V" = some ⟨[.int], none⟩ := by decide +kernel
theorem own_pd5 : parseMethodDescriptor "()V" = some ⟨[], none⟩ := by decide +kernel
theorem own_pd6 : parseMethodDescriptor "([[I[[D)Z" = some ⟨[(.array (.array .int)), (.array (.array .double))], some .boolean⟩ := by decide +kernel
theorem own_pd7 : parseMethodDescriptor "(Lcom/example/tracefold/tracefold/mining/FactoredInverse;[[I[[D)V" = some ⟨[(.object "com/example/tracefold/tracefold/mining/FactoredInverse"), (.array (.array .int)), (.array (.array .double))], none⟩ := by decide +kernel
theorem own_pd8 : parseMethodDescriptor "([II)[I" = some ⟨[(.array .int), .int], some (.array .int)⟩ := by decide +kernel
theorem own_pd10 : parseMethodDescriptor "([DI)[D" = some ⟨[(.array .double), .int], some (.array .double)⟩ := by decide +kernel
theorem own_pd11 : parseMethodDescriptor "(Lcom/example/tracefold/tracefold/mining/FactoredInverse;[I)V" = some ⟨[(.object "com/example/tracefold/tracefold/mining/FactoredInverse"), (.array .int)], none⟩ := by decide +kernel
theorem own_pd12 : parseMethodDescriptor "([II)V" = some ⟨[(.array .int), .int], none⟩ := by decide +kernel
theorem own_pd13 : parseMethodDescriptor "(II)V" = some ⟨[.int, .int], none⟩ := by decide +kernel
theorem own_pd14 : parseMethodDescriptor "()J" = some ⟨[], some .long⟩ := by decide +kernel
theorem own_pd15 : parseMethodDescriptor "(I)I" = some ⟨[.int], some .int⟩ := by decide +kernel
theorem own_pd16 : parseMethodDescriptor "(ID)Z" = some ⟨[.int, .double], some .boolean⟩ := by decide +kernel
theorem own_pd19 : parseMethodDescriptor "(III)V" = some ⟨[.int, .int, .int], none⟩ := by decide +kernel
theorem own_pd20 : parseMethodDescriptor "(ID)V" = some ⟨[.int, .double], none⟩ := by decide +kernel
theorem own_pd22 : parseMethodDescriptor "([D)[D" = some ⟨[(.array .double)], some (.array .double)⟩ := by decide +kernel
theorem own_pd23 : parseMethodDescriptor "(ILcom/example/tracefold/tracefold/mining/SparseVector;)V" = some ⟨[.int, (.object "com/example/tracefold/tracefold/mining/SparseVector")], none⟩ := by decide +kernel
theorem own_pd24 : parseMethodDescriptor "()I" = some ⟨[], some .int⟩ := by decide +kernel
theorem own_pd25 : parseMethodDescriptor "([DIDD)[D" = some ⟨[(.array .double), .int, .double, .double], some (.array .double)⟩ := by decide +kernel
theorem own_pd26 : parseMethodDescriptor "(IID)V" = some ⟨[.int, .int, .double], none⟩ := by decide +kernel
def Q_rm0 (n0 : Nat) (v : Option Value) (h : Heap) (L : List Loc) : Prop := v = some (.int 1) ∧ Fr n0 L
theorem own_dlit {i : Int} {a : UInt64} (s : Bool) (c : Nat) (q : Int) (h : Jvm.FP.Core.val64 a = .fin s c q) (h2 : Jvm.FP.Core.signed s (c * 2 ^ q.toNat) = i * ((2 ^ (-q).toNat : Nat) : Int)) : Jvm.FP.Core.DInt i a := by
  show Jvm.FP.Core.Whole i _
  rw [h]
  exact h2
theorem own_dzero : Jvm.FP.Core.DInt 0 (0 : UInt64) := own_dlit false 0 (-1074) (by decide +kernel) (by decide +kernel)
theorem own_done : Jvm.FP.Core.DInt 1 (4607182418800017408 : UInt64) := own_dlit false (2 ^ 52) (-52) (by decide +kernel) (by decide +kernel)
set_option maxRecDepth 65536
set_option maxHeartbeats 40000000
section OwnKit2
variable {p : Program} {l : Launch} {e : Env} {R : Room} {s : State} {m : MethodId} {args : Array Value} {below : List Frame} {meth : Method} {c : Code} {T : State} {locs : List Loc} {cells slots : Nat} {Z : State} {a0 : Array Value} {h h' : Heap} {Ev : State → Outcome → Prop}
theorem g_anewA (X : Stand p l e R s m args below meth c T locs cells slots) (hx : p.tables.exec = Jvm.exec) {pc : Nat} {Ls : Array Slot} {st : List Value} (hZ : Z.Warmed39 s.vm) {own C : String} {ty : FieldType} {i : Nat} (hown : s.vm.findClass own = some m.cls) (hC : (FieldType.array ty).toString = C) (w1 : (Jvm.Cond.classLink own i C).before a0 Z = true) (w2 : (Jvm.Cond.arrayOver (.array ty)).before a0 Z = true) (eT : T.heap = h) {n : Int32} (hn : 0 ≤ n.toInt) {cap : Nat} (hcap : n.toInt ≤ cap) (hb : cap * 8 ≤ 536870912) (q : Nat) (hd : decode c.code pc = .ok (.anewarray i, 3)) (hq : pc + 3 = q) (hc : cells + 1 ≤ R.cells) (hl : slots + cap ≤ R.slots) {ad : String} (had : "[" ++ C = ad)
    (K : ∀ (T' : State) (h' : Heap) (k : ClassId) (a : Addr), a = h.size → Stand p l e R s m args below meth c T' locs (cells + 1) (slots + cap) → T'.heap = h' → Ext h h' → Arv Z h' a k (.array ty) n [] .null → Exa Z h' a ad → OvrA Z k ty C → Go p e below Ev T' (mkF m q Ls (.ref a :: st))) : Go p e below Ev T (mkF m pc Ls (.int n :: st)) := by
  subst hq
  have hn' : ¬ n < 0 := fun q => by have := (own_i0 n).1.mp q; omega
  obtain ⟨T', h', k, X', e', E', A', B', O', st'⟩ := newRA X hx hZ hown hC w1 w2 eT (g := mkF m pc Ls (.int n :: st)) rfl hd rfl hn' (cap := cap) (by simp only [Int32.toNatClampNeg]; omega) hb hc hl had
  exact (K T' h' k _ rfl X' e' E' (Arv.new A' hn') B' O').on st'
theorem g_aastoreA (X : Stand p l e R s m args below meth c T locs cells slots) (hx : p.tables.exec = Jvm.exec) {pc : Nat} {Ls : Array Slot} {st : List Value} (hZ : Z.Warmed39 s.vm) (eT : T.heap = h) {a y : Addr} {k : ClassId} {ty : FieldType} {C : String} {z j : Int32} {vs : List Value} {dv : Value} (V : Arv Z h a k (.array ty) z vs dv) (O : OvrA Z k ty C) (I : Ins Z h y C true) (i : Nat) (hi : j.toInt = (i : Int)) (hz : j.toInt < z.toInt) (hv : i < vs.length) (q : Nat) (hd : decode c.code pc = .ok (.aastore, 1)) (hq : pc + 1 = q)
    (K : ∀ T' h', Stand p l e R s m args below meth c T' (locs ++ [⟨a, j.toNatClampNeg⟩]) cells slots → T'.heap = h' → Wr h h' a j.toNatClampNeg (.ref y) → Arv Z h' a k (.array ty) z (vs.set i (.ref y)) dv → Go p e below Ev T' (mkF m q Ls st)) : Go p e below Ev T (mkF m pc Ls (.ref y :: .int j :: .ref a :: st)) := by
  subst hq
  obtain ⟨cl, A, q1, S, q3, H, G⟩ := V
  have hj := own_at j (by omega) z hz S
  obtain ⟨T', h', X', e', W', st'⟩ := Jvm.RoadKit.stR X hx hZ eT A hj rfl (Sto.ofVA A q1 O I) (g := mkF m pc Ls (.ref y :: .int j :: .ref a :: st)) rfl rfl hd
  exact (K T' h' X' e' W' (Arv.set A q1 S q3 H G rfl W' i (own_ncl hi) hv)).on st'
theorem g_aaload (X : Stand p l e R s m args below meth c T locs cells slots) (hx : p.tables.exec = Jvm.exec) {pc : Nat} {Ls : Array Slot} {st : List Value} (hZ : Z.Warmed39 s.vm) (eT : T.heap = h) {a : Addr} {k : ClassId} {ty : FieldType} {z j : Int32} {v : Value} {vs : List Value} {dv : Value} (V : Arv Z h a k ty z vs dv) (hty : ty.isReference = true) (hi : 0 ≤ j.toInt) (hz : j.toInt < z.toInt) (hv : vs.getD j.toNatClampNeg dv = v) (q : Nat) (hd : decode c.code pc = .ok (.aaload, 1)) (hq : pc + 1 = q) (K : Go p e below Ev T (mkF m q Ls (v :: st))) : Go p e below Ev T (mkF m pc Ls (.int j :: .ref a :: st)) := by
  subst hq
  obtain ⟨cl, A, q1, S, q3, H, G⟩ := V
  have hj := own_at j hi z hz S
  exact K.on fun t k => X.aaload hx (by rw [eT]; exact A.1) (State.isArrayOf_alike hZ.alike A.2.1) hty A.2.2 hj (H.at hj hv) (g := mkF m pc Ls (.int j :: .ref a :: st)) rfl rfl hd t k
theorem g_priv (X : Stand p l e R s m args below meth c T locs cells slots) (hx : p.tables.exec = Jvm.exec) {pc : Nat} {Ls : Array Slot} {st : List Value} (hZ : Z.Warmed39 s.vm) {own : String} {i : Nat} {y z : MethodName} {C : String} {bytes : ByteArray} {maxL : Nat} {ret : Option FieldType} {rm : Room} {as' : Array Value} {Q : Option Value → Heap → List Loc → Prop} {argsL rest : List Value} (hown : s.vm.findClass own = some m.cls) (w1 : (Jvm.Cond.methodLink own i y).before a0 Z = true) (w2 : (Jvm.Cond.privateMethod y).before a0 Z = true) (w5 : (Jvm.Cond.selects z.cls z z).before a0 Z = true) (hyz : z.cls = y.cls) (w7 : (Jvm.Cond.instanceMethod y).before a0 Z = true) (w3 : (Jvm.Cond.initialized y.cls).before a0 Z = true) (w4 : (Jvm.Cond.code y bytes maxL ret).before a0 Z = true) (hy : y.cls ≠ "java/lang/invoke/MethodHandle" ∧ y.cls ≠ "java/lang/invoke/VarHandle") (hM : MetFree l y (head1 [Jvm.Cond.code y bytes maxL ret] rm) (fun a U => a = as' ∧ Z.Warmed39 U.vm ∧ U.heap = h) (fun _ _ _ _ _ => True) (fun _ U o U' => ∃ v L, o = .returned v ∧ Q v U'.heap L ∧ FrameEnd U o U' L rm.cells rm.slots)) (eT : T.heap = h) {b : Addr} (E : Exa Z h b C) (hst : st = argsL.reverse ++ .ref b :: rest) (has : (.ref b :: argsL).toArray = as') (W : Nat) (q : Nat) (hq : pc + 3 = q) (hsz : Ls.size = c.maxLocals) (hlen : ∀ sig, parseMethodDescriptor y.desc = some sig → argsL.length = sig.parameters.length) (hW : (rest.map fun v => v.category).sum ≤ W) (hf : rm.frames + 1 ≤ R.frames) (hl : W + (maxL + 11) + rm.locals ≤ R.locals) (hc : cells + rm.cells ≤ R.cells) (hs : slots + rm.slots ≤ R.slots) (hd : decode c.code pc = .ok (.invokevirtual i, 3))
    (K : ∀ (v : Option Value) (T' : State) (L : List Loc), Stand p l e R s m args below meth c T' (locs ++ L) (cells + rm.cells) (slots + rm.slots) → Q v T'.heap L → Go p e below Ev T' (mkF m q Ls (v.toList ++ rest))) : Go p e below Ev T (mkF m pc Ls st) := by
  subst hq hst
  obtain ⟨cell, k, g1, g2, g3, g4, -⟩ := E
  have pa : s.PrivateAt y := Cond.privateMethod_at (mvP hZ w2 (args := #[]))
  obtain ⟨cc, rr, mm, s1, -, s2, -, kP, s3, s4⟩ := Cond.selects_spec (mvT hZ w5 : (Jvm.Cond.selects z.cls z z).before args s = true)
  have fc := findClass_of_methodNamed s2
  rw [hyz] at fc
  have sl : (Jvm.Cond.selects y.cls y y).before args s = true := selects_self_of_private fc s3 s4 pa (mvT hZ w7) hy
  obtain ⟨v, vm1, ⟨T', L', k', n'⟩, -, X', ⟨L, hQ, l', y', z'⟩, st'⟩ := X.privateBack hx hown (mvT hZ w1) (mvT hZ w7) sl pa (mvT hZ w4) hy (backOf (W := W) hM hZ w4 w3 hf hl) (g := mkF m pc Ls (argsL.reverse ++ .ref b :: rest)) rfl hsz (Steps.refl _) (a := b) (by rw [eT]; exact g1) (fun q w => by rw [w] at g4; cases g4) (argsL := argsL) (rest := rest) hlen rfl (by show 2 * 0 + _ ≤ _; omega) hd (fun _ _ => ⟨has, eT, hc, hs⟩)
  dsimp only [Pt.U, Pt.locs, Pt.cells, Pt.slots] at X' l' y' z' st' hQ
  subst l' y' z'
  exact (K v T' L X' hQ).on fun t k => st'.trans k
end OwnKit2
section OwnKit5
variable {p : Program} {l : Launch} {e : Env} {R : Room} {s : State} {m : MethodId} {args : Array Value} {below : List Frame} {meth : Method} {c : Code} {T : State} {locs : List Loc} {cells slots : Nat} {Z : State} {a0 : Array Value} {h h' : Heap} {Ev : State → Outcome → Prop}
section
variable {n0 n : Nat} {a b : Addr}
theorem own_keepset {C cd : Cell} (e : h[b]? = some cd) (q : C.cls = cd.cls ∧ C.vm = cd.vm ∧ C.slots.size = cd.slots.size) : Keep h (h.setIfInBounds b C) [b] := by
  refine ⟨by simp, fun x c hx r => ?_, fun x c hx => ?_⟩
  · have ne : b ≠ x := fun z => r (by simp [z])
    rw [Array.getElem?_setIfInBounds_ne ne]
    exact hx
  · by_cases ne : b = x
    · subst ne
      cases e.symm.trans hx
      exact ⟨C, by rw [Array.getElem?_setIfInBounds_self_of_lt (Array.getElem?_eq_some_iff.mp e).1], q⟩
    · exact ⟨c, by rw [Array.getElem?_setIfInBounds_ne ne]; exact hx, rfl, rfl, rfl⟩
def Lds (Z : State) (a0 : Array Value) (K : String) (fl : List (String × String × String)) : Prop := ∀ f ∈ fl, Laid Z a0 K f.1 f.2.1 f.2.2 ∧ ∃ t, parseFieldDescriptor f.2.2 = some t
end
theorem own_dupX2 {tb : Tables} [Ours tb] {e : Env} {below : List Frame} {T target : State} {m : MethodId} {c : Code} {g : JFrame} (h : At T m c below) (hx : tb.exec = Jvm.exec) (hg : g.method = m) {x y z : Value} {rest : List Value} (hd : decode c.code g.pc = .ok (.dup_x2, 1)) (hs : g.stack = x :: y :: z :: rest) (hc : x.category = 1) (hc' : y.category = 1) (hc'' : z.category = 1)
    (hr : Steps tb e below (T.setTop { g with pc := g.pc + 1, stack := x :: y :: z :: x :: rest }) target) : Steps tb e below (T.setTop g) target := by
  subst hg
  jvm_step h [h.top, hx, hd, dup_x2.wp_sem, hs, hc, hc', hc'']
  exact hr
theorem g_dupX2 (X : Stand p l e R s m args below meth c T locs cells slots) (hx : p.tables.exec = Jvm.exec) {pc : Nat} {Ls : Array Slot} {st : List Value} {x y z : Value} (q : Nat) (hd : decode c.code pc = .ok (.dup_x2, 1)) (hq : pc + 1 = q) (hc : x.category = 1) (hc' : y.category = 1) (hc'' : z.category = 1) (K : Go p e below Ev T (mkF m q Ls (x :: y :: z :: x :: st))) : Go p e below Ev T (mkF m pc Ls (x :: y :: z :: st)) := by
  subst hq
  exact K.on fun _ k => own_dupX2 X.here hx rfl hd rfl hc hc' hc'' k
theorem g_zaload (X : Stand p l e R s m args below meth c T locs cells slots) (hx : p.tables.exec = Jvm.exec) {pc : Nat} {Ls : Array Slot} {st : List Value} (hZ : Z.Warmed39 s.vm) (eT : T.heap = h) {a : Addr} {k : ClassId} {z j : Int32} {v : Value} {vs : List Value} {dv : Value} (V : Arv Z h a k .boolean z vs dv) (hi : 0 ≤ j.toInt) (hz : j.toInt < z.toInt) (hv : vs.getD j.toNatClampNeg dv = v) (q : Nat) (hd : decode c.code pc = .ok (.baload, 1)) (hq : pc + 1 = q) (K : Go p e below Ev T (mkF m q Ls (v :: st))) : Go p e below Ev T (mkF m pc Ls (.int j :: .ref a :: st)) := by
  subst hq
  obtain ⟨cl, A, q1, S, q3, H, G⟩ := V
  have hj := own_at j hi z hz S
  exact K.on fun t k => X.baloadBooleans hx (by rw [eT]; exact A.1) (State.isArrayOf_alike hZ.alike A.2.1) A.2.2 hj (H.at hj hv) (g := mkF m pc Ls (.int j :: .ref a :: st)) rfl rfl hd t k
theorem g_zastore (X : Stand p l e R s m args below meth c T locs cells slots) (hx : p.tables.exec = Jvm.exec) {pc : Nat} {Ls : Array Slot} {st : List Value} (hZ : Z.Warmed39 s.vm) (eT : T.heap = h) {a : Addr} {k : ClassId} {z j x : Int32} {vs : List Value} {dv : Value} (V : Arv Z h a k .boolean z vs dv) (i : Nat) (hi : j.toInt = (i : Int)) (hz : j.toInt < z.toInt) (hv : i < vs.length) (y : Int32) (hy : nar .boolean x = y) (q : Nat) (hd : decode c.code pc = .ok (.bastore, 1)) (hq : pc + 1 = q)
    (K : ∀ T' h', Stand p l e R s m args below meth c T' (locs ++ [⟨a, j.toNatClampNeg⟩]) cells slots → T'.heap = h' → Wr h h' a j.toNatClampNeg (.int y) → Arv Z h' a k .boolean z (vs.set i (.int y)) dv → Go p e below Ev T' (mkF m q Ls st)) : Go p e below Ev T (mkF m pc Ls (.int x :: .int j :: .ref a :: st)) := by
  subst hq hy
  obtain ⟨cl, A, q1, S, q3, H, G⟩ := V
  have hj := own_at j (by omega) z hz S
  obtain ⟨T', h', X', e', W', st'⟩ := stZ X hx hZ eT A hj (g := mkF m pc Ls (.int x :: .int j :: .ref a :: st)) rfl rfl hd
  exact (K T' h' X' e' W' (Arv.set A q1 S q3 H G (fits_nar_bool _) W' i (own_ncl hi) hv)).on st'
theorem g_copyP (X : Stand p l e R s m args below meth c T locs cells slots) (hx : p.tables.exec = Jvm.exec) {pc : Nat} {Ls : Array Slot} {st : List Value} (hZ : Z.Warmed39 s.vm) {own : String} {i : Nat} (hown : s.vm.findClass own = some m.cls) (w1 : (Jvm.Cond.methodLink own i Jvm.Stand.acN).before a0 Z = true) (w2 : (Jvm.Cond.native Jvm.Stand.acN).before a0 Z = true) (w3 : (Jvm.Cond.static Jvm.Stand.acN).before a0 Z = true) (w4 : (Jvm.Cond.initialized "java/lang/System").before a0 Z = true) (eT : T.heap = h) {a b : Addr} {k k' : ClassId} {ty : FieldType} (hty : ((refKind ty != refKind ty) || (!refKind ty && ty != ty)) = false) {z z' : Int32} {vs vs' : List Value} {dv dv' : Value} (A : Arv Z h a k ty z vs dv) (B : Arv Z h b k' ty z' vs' dv') (W : Nat) (q : Nat) (hd : decode c.code pc = .ok (.invokestatic i, 3)) (hq : pc + 3 = q) (hsz : Ls.size = c.maxLocals) (hf : 1 ≤ R.frames) (hW : (st.map fun v => v.category).sum ≤ W) (hl : W + (nativeFrameWords "java/lang/System" "arraycopy" 5 + 11) ≤ R.locals)
    (K : ∀ T', Stand p l e R s m args below meth c T' locs cells slots → T'.heap = h → Go p e below Ev T' (mkF m q Ls st)) : Go p e below Ev T (mkF m pc Ls (.int 0 :: .int 0 :: .ref b :: .int 0 :: .ref a :: st)) := by
  subst hq
  obtain ⟨cs, As, q1, S, q3, H, G⟩ := A
  obtain ⟨cd, Ad, q1', S', q3', H', G'⟩ := B
  obtain ⟨os, ks, hks, sc, hsk⟩ := State.isArrayOf_alike hZ.alike As.2.1
  obtain ⟨od, kd, hkd, sd, hdk⟩ := State.isArrayOf_alike hZ.alike Ad.2.1
  have l0 : (0 : Int32).toInt = 0 := by decide
  obtain ⟨vm₁, hW₁, X', st'⟩ := X.arraycopyK hx hown (mvT hZ w1) (mvT hZ w2) (mvT hZ w3) (mvT hZ w4) (n := 0) (srcPos := 0) (destPos := 0) (by rw [eT]; exact As.1) (by rw [eT]; exact Ad.1) os od As.2.2 Ad.2.2 hks hkd hsk hdk hty (by decide) (by decide) (by decide) (by rw [l0]; omega) (by rw [l0]; omega) (fun vm₁ hw i hi => absurd hi (Nat.not_lt_zero _)) (g := mkF m pc Ls (.int 0 :: .int 0 :: .ref b :: .int 0 :: .ref a :: st)) rfl hsz rfl hd hf (by show 2 * 0 + _ + _ ≤ _; omega)
  have e1 : copied cs cd 0 0 0 = cd := rfl
  have e2 : copyLocs b (0 : Int32).toNatClampNeg (0 : Int32).toNatClampNeg = [] := rfl
  rw [e1] at X' st'
  rw [e2, List.append_nil] at X'
  refine (K _ X' ?_).on st'
  show T.heap.setIfInBounds b cd = h
  rw [eT]
  refine Array.ext_getElem? fun i => ?_
  by_cases e : b = i
  · subst e
    rw [Array.getElem?_setIfInBounds_self_of_lt (Array.getElem?_eq_some_iff.mp Ad.1).1, Ad.1]
  · rw [Array.getElem?_setIfInBounds_ne e]
theorem g_copyI (X : Stand p l e R s m args below meth c T locs cells slots) (hx : p.tables.exec = Jvm.exec) {pc : Nat} {Ls : Array Slot} {st : List Value} (hZ : Z.Warmed39 s.vm) {own : String} {i : Nat} (hown : s.vm.findClass own = some m.cls) (w1 : (Jvm.Cond.methodLink own i Jvm.Stand.acN).before a0 Z = true) (w2 : (Jvm.Cond.native Jvm.Stand.acN).before a0 Z = true) (w3 : (Jvm.Cond.static Jvm.Stand.acN).before a0 Z = true) (w4 : (Jvm.Cond.initialized "java/lang/System").before a0 Z = true) (eT : T.heap = h) {a b : Addr} {k k' : ClassId} {z z' : Int32} {vs vs' : List Value} {dv dv' : Value} (A : Arv Z h a k .int z vs dv) (B : Arv Z h b k' .int z' vs' dv') {n : Int32} (N : Nat) (hN : n = Int32.ofNat N) (hNs : N < 2 ^ 31) (h1 : (N : Int) ≤ z.toInt) (h2 : (N : Int) ≤ z'.toInt) (h3 : N ≤ vs.length) (W : Nat) (q : Nat) (hd : decode c.code pc = .ok (.invokestatic i, 3)) (hq : pc + 3 = q) (hsz : Ls.size = c.maxLocals) (hf : 1 ≤ R.frames) (hW : (st.map fun v => v.category).sum ≤ W) (hl : W + (nativeFrameWords "java/lang/System" "arraycopy" 5 + 11) ≤ R.locals)
    (K : ∀ T' h', Stand p l e R s m args below meth c T' (locs ++ copyLocs b 0 N) cells slots → T'.heap = h' → Keep h h' [b] → Arv Z h' b k' .int z' (vs.take N ++ vs'.drop N) dv' → Go p e below Ev T' (mkF m q Ls st)) : Go p e below Ev T (mkF m pc Ls (.int n :: .int 0 :: .ref b :: .int 0 :: .ref a :: st)) := by
  subst hq hN
  obtain ⟨cs, As, q1, S, q3, H, G⟩ := A
  obtain ⟨cd, Ad, q1', S', q3', H', G'⟩ := B
  obtain ⟨os, ks, hks, sc, hsk⟩ := State.isArrayOf_alike hZ.alike As.2.1
  obtain ⟨od, kd, hkd, sd, hdk⟩ := State.isArrayOf_alike hZ.alike Ad.2.1
  have l0 : (0 : Int32).toInt = 0 := by decide
  have h00 : (0 : Int32).toNatClampNeg = 0 := by decide
  have ln : (Int32.ofNat N).toInt = N := Int32.toInt_ofNat_small hNs
  have lc : (Int32.ofNat N).toNatClampNeg = N := by show (Int32.ofNat N).toInt.toNat = N; rw [ln]; rfl
  have zs : (cs.slots.size : Int) = z.toInt := by rw [S]; simp only [Int32.toNatClampNeg]; omega
  have zd : (cd.slots.size : Int) = z'.toInt := by rw [S']; simp only [Int32.toNatClampNeg]; omega
  have n0' : ¬ Int32.ofNat N < 0 := fun q => by have := (own_i0 (Int32.ofNat N)).1.mp q; omega
  obtain ⟨vm₁, hW₁, X', st'⟩ := X.arraycopyK hx hown (mvT hZ w1) (mvT hZ w2) (mvT hZ w3) (mvT hZ w4) (n := Int32.ofNat N) (srcPos := 0) (destPos := 0) (by rw [eT]; exact As.1) (by rw [eT]; exact Ad.1) os od As.2.2 Ad.2.2 hks hkd hsk hdk (by decide) (by decide) (by decide) n0' (by rw [l0, ln]; omega) (by rw [l0, ln]; omega) (fun vm₁ hw i hi => by
    have hi' : i < cs.slots.size := by rw [lc] at hi; omega
    obtain ⟨x, ex⟩ := fit_I (G i hi') (by simp)
    have ee := H i hi'
    rw [ex] at ee
    rw [h00, Nat.zero_add, Array.getD_eq_getD_getElem?, ee]
    exact ⟨by simp [fits], trivial⟩) (g := mkF m pc Ls (.int (Int32.ofNat N) :: .int 0 :: .ref b :: .int 0 :: .ref a :: st)) rfl hsz rfl hd hf (by show 2 * 0 + _ + _ ≤ _; omega)
  have cf := Jvm.Free.SB.copied_facts cs cd 0 0 (Int32.ofNat N)
  have at_ := Jvm.Free.SBG.copied_at (cs := cs) (cd := cd) (p := 0) (n := N) (by decide) hNs (by omega)
  rw [lc, h00] at X'
  refine (K _ _ X' rfl ?_ ?_).on st'
  · show Keep h (T.heap.setIfInBounds b _) [b]
    rw [eT]
    exact own_keepset Ad.1 cf
  · refine ⟨copied cs cd 0 0 (Int32.ofNat N), ⟨?_, ?_, ?_⟩, cf.1.trans q1', cf.2.2.trans S', q3', fun j hj => ?_, fun j hj => ?_⟩
    · show (T.heap.setIfInBounds b _)[b]? = _
      rw [eT, Array.getElem?_setIfInBounds_self_of_lt (Array.getElem?_eq_some_iff.mp Ad.1).1]
    · obtain ⟨o1, k1, hk1, c1, hk2⟩ := Ad.2.1
      exact ⟨fun k h => o1 k (by rw [← cf.2.1]; exact h), k1, by rw [cf.1]; exact hk1, c1, hk2⟩
    · rw [cf.2.1]; exact Ad.2.2
    · rw [cf.2.2] at hj
      have := at_ j
      rw [show (Int32.ofNat 0) = (0 : Int32) from rfl] at this
      rw [this]
      by_cases hjN : j < N
      · rw [if_pos ⟨Nat.zero_le _, by omega⟩, Nat.sub_zero, Array.getD_eq_getD_getElem?, H j (by omega)]
        simp only [List.getD_eq_getElem?_getD]
        rw [List.getElem?_append_left (by rw [List.length_take]; omega), List.getElem?_take_of_lt hjN, List.getElem?_eq_getElem (by omega)]
        rfl
      · rw [if_neg (by omega), H' j hj]
        simp only [List.getD_eq_getElem?_getD]
        rw [List.getElem?_append_right (by rw [List.length_take]; omega), List.getElem?_drop, List.length_take, show N + (j - min N vs.length) = j by omega]
    · rw [cf.2.2] at hj
      by_cases hjN : j < N
      · have g := G j (by omega)
        simp only [List.getD_eq_getElem?_getD] at g ⊢
        rw [List.getElem?_append_left (by rw [List.length_take]; omega), List.getElem?_take_of_lt hjN, List.getElem?_eq_getElem (by omega)]
        rw [List.getElem?_eq_getElem (by omega)] at g
        exact g
      · have g := G' j hj
        simp only [List.getD_eq_getElem?_getD] at g ⊢
        rw [List.getElem?_append_right (by rw [List.length_take]; omega), List.getElem?_drop, List.length_take, show N + (j - min N vs.length) = j by omega]
        exact g
theorem own_frcopy {k : Nat} {b : Addr} {n : Nat} (q : k ≤ b) : Fr k (copyLocs b 0 n) := fun y hy => by
  obtain ⟨i, -, rfl⟩ := List.mem_map.mp hy
  exact q
end OwnKit5
section OwnMath
variable {p : Program} {l : Launch} {e : Env} {R : Room} {s : State} {m : MethodId} {args : Array Value} {below : List Frame} {meth : Method} {c : Code} {T : State} {locs : List Loc} {cells slots : Nat} {Z : State} {a0 : Array Value} {h h' : Heap} {Ev : State → Outcome → Prop}
theorem g_maxD (X : Stand p l e R s m args below meth c T locs cells slots) (hx : p.tables.exec = Jvm.exec) {pc : Nat} {Ls : Array Slot} {st : List Value} (hZ : Z.Warmed39 s.vm) {own : String} {i : Nat} {by0 : ByteArray} (hown : s.vm.findClass own = some m.cls) (w1 : (Jvm.Cond.methodLink own i ⟨"java/lang/Math", "max", "(DD)D"⟩).before a0 Z = true) (w2 : (Jvm.Cond.static ⟨"java/lang/Math", "max", "(DD)D"⟩).before a0 Z = true) (w3 : (Jvm.Cond.initialized "java/lang/Math").before a0 Z = true) (w4 : (Jvm.Cond.code ⟨"java/lang/Math", "max", "(DD)D"⟩ by0 4 (some .double)).before a0 Z = true) (hby0 : by0 = Jvm.Free.Fl.Abs.maxDCode) (eT : T.heap = h) {a b : UInt64} (ha : Jvm.Free.Fl.NoNaN64 a) (hb : Jvm.Free.Fl.NoNaN64 b) {r : UInt64} (hr : Jvm.Native.java_lang_Math.nans.pick64 true a b = r) (W : Nat) (q : Nat) (hd : decode c.code pc = .ok (.invokestatic i, 3)) (hq : pc + 3 = q) (hsz : Ls.size = c.maxLocals) (hW : (st.map fun v => v.category).sum ≤ W) (hf : 1 ≤ R.frames) (hl : W + 15 ≤ R.locals) (hc : cells ≤ R.cells) (hs : slots ≤ R.slots) (hpd : parseMethodDescriptor "(DD)D" = some ⟨[.double, .double], some .double⟩)
    (K : ∀ T', Stand p l e R s m args below meth c T' locs cells slots → T'.heap = h → Go p e below Ev T' (mkF m q Ls (.double r :: st))) : Go p e below Ev T (mkF m pc Ls (.double b :: .double a :: st)) := by
  subst hq hby0
  obtain ⟨T', X', e', st'⟩ := natS X hx hZ (y := ⟨"java/lang/Math", "max", "(DD)D"⟩) hown w1 w2 w3 w4 (by decide) eT (W := W) (F := fun a' => a' = #[.double a, .double b] ∧ Jvm.Free.Fl.NoNaN64 a ∧ Jvm.Free.Fl.NoNaN64 b) (val := .double (Jvm.Native.java_lang_Math.nans.pick64 true a b)) (val' := .double r) (fun hcd => Jvm.Free.Fl.Abs.maxD_pays a b hcd hf hl) (g := mkF m pc Ls (.double b :: .double a :: st)) rfl hsz (argsL := [.double a, .double b]) (rest := st) (lenOf hpd rfl) rfl (by show 2 * 0 + _ ≤ _; omega) hd hc hs ⟨rfl, ha, hb⟩ (by rw [hr])
  exact (K T' X' e').on st'
theorem g_absD (X : Stand p l e R s m args below meth c T locs cells slots) (hx : p.tables.exec = Jvm.exec) {pc : Nat} {Ls : Array Slot} {st : List Value} (hZ : Z.Warmed39 s.vm) {own : String} {i : Nat} {by0 : ByteArray} (hown : s.vm.findClass own = some m.cls) (w1 : (Jvm.Cond.methodLink own i ⟨"java/lang/Math", "abs", "(D)D"⟩).before a0 Z = true) (w2 : (Jvm.Cond.static ⟨"java/lang/Math", "abs", "(D)D"⟩).before a0 Z = true) (w3 : (Jvm.Cond.initialized "java/lang/Math").before a0 Z = true) (w4 : (Jvm.Cond.code ⟨"java/lang/Math", "abs", "(D)D"⟩ by0 2 (some .double)).before a0 Z = true) (hby0 : by0 = Jvm.Free.Fl.Abs.absDCode) (eT : T.heap = h) {a : UInt64} (ha : Jvm.Free.Fl.NoNaN64 a) (W : Nat) (q : Nat) (hd : decode c.code pc = .ok (.invokestatic i, 3)) (hq : pc + 3 = q) (hsz : Ls.size = c.maxLocals) (hW : (st.map fun v => v.category).sum ≤ W) (hf : 1 ≤ R.frames) (hl : W + 13 ≤ R.locals) (hc : cells ≤ R.cells) (hs : slots ≤ R.slots) (hpd : parseMethodDescriptor "(D)D" = some ⟨[.double], some .double⟩)
    (K : ∀ T', Stand p l e R s m args below meth c T' locs cells slots → T'.heap = h → Go p e below Ev T' (mkF m q Ls (.double (a &&& 0x7fffffffffffffff) :: st))) : Go p e below Ev T (mkF m pc Ls (.double a :: st)) := by
  subst hq hby0
  obtain ⟨T', X', e', st'⟩ := natS X hx hZ (y := ⟨"java/lang/Math", "abs", "(D)D"⟩) hown w1 w2 w3 w4 (by decide) eT (W := W) (F := fun a' => a' = #[.double a] ∧ Jvm.Free.Fl.NoNaN64 a) (val := .double (a &&& 0x7fffffffffffffff)) (val' := .double (a &&& 0x7fffffffffffffff)) (fun hcd => Jvm.Free.Fl.Abs.absD_pays a hcd hf hl) (g := mkF m pc Ls (.double a :: st)) rfl hsz (argsL := [.double a]) (rest := st) (lenOf hpd rfl) rfl (by show 2 * 0 + _ ≤ _; omega) hd hc hs ⟨rfl, ha⟩ rfl
  exact (K T' X' e').on st'
end OwnMath
def own_cn : Nat → String
  | 0 => "com/example/tracefold/tracefold/mining/FactoredInverse"
  | 1 => "com/example/tracefold/tracefold/mining/SparseVector"
  | 2 => "com/example/tracefold/tracefold/mining/FactoredInverse$StepQueue"
  | 3 => "com/example/tracefold/tracefold/mining/FactoredInverse$Elimination"
  | 4 => "com/example/tracefold/tracefold/mining/FactoredInverse$Lists"
  | _ => ""
def own_fls : Nat → List (String × String × String)
  | 0 => [("com/example/tracefold/tracefold/mining/FactoredInverse", "uColumns", "[I"), ("com/example/tracefold/tracefold/mining/FactoredInverse", "uValues", "[D"), ("com/example/tracefold/tracefold/mining/FactoredInverse", "lRows", "[I"), ("com/example/tracefold/tracefold/mining/FactoredInverse", "lValues", "[D"), ("com/example/tracefold/tracefold/mining/FactoredInverse", "uColumnSteps", "[I"), ("com/example/tracefold/tracefold/mining/FactoredInverse", "uColumnValues", "[D"), ("com/example/tracefold/tracefold/mining/FactoredInverse", "lRowSteps", "[I"), ("com/example/tracefold/tracefold/mining/FactoredInverse", "lRowValues", "[D"), ("com/example/tracefold/tracefold/mining/FactoredInverse", "etaRows", "[I"), ("com/example/tracefold/tracefold/mining/FactoredInverse", "etaPivots", "[D"), ("com/example/tracefold/tracefold/mining/FactoredInverse", "etaStarts", "[I"), ("com/example/tracefold/tracefold/mining/FactoredInverse", "etaPositions", "[I"), ("com/example/tracefold/tracefold/mining/FactoredInverse", "etaValues", "[D"), ("com/example/tracefold/tracefold/mining/FactoredInverse", "n", "I"), ("com/example/tracefold/tracefold/mining/FactoredInverse", "pivotRows", "[I"), ("com/example/tracefold/tracefold/mining/FactoredInverse", "pivotColumns", "[I"), ("com/example/tracefold/tracefold/mining/FactoredInverse", "pivotValues", "[D"), ("com/example/tracefold/tracefold/mining/FactoredInverse", "uStarts", "[I"), ("com/example/tracefold/tracefold/mining/FactoredInverse", "lStarts", "[I"), ("com/example/tracefold/tracefold/mining/FactoredInverse", "uColumnStarts", "[I"), ("com/example/tracefold/tracefold/mining/FactoredInverse", "lRowStarts", "[I"), ("com/example/tracefold/tracefold/mining/FactoredInverse", "rowSteps", "[I"), ("com/example/tracefold/tracefold/mining/FactoredInverse", "columnSteps", "[I"), ("com/example/tracefold/tracefold/mining/FactoredInverse", "written", "Lcom/example/tracefold/tracefold/mining/SparseVector;"), ("com/example/tracefold/tracefold/mining/FactoredInverse", "moved", "Lcom/example/tracefold/tracefold/mining/SparseVector;"), ("com/example/tracefold/tracefold/mining/FactoredInverse", "work", "Lcom/example/tracefold/tracefold/mining/SparseVector;"), ("com/example/tracefold/tracefold/mining/FactoredInverse", "steps", "Lcom/example/tracefold/tracefold/mining/SparseVector;"), ("com/example/tracefold/tracefold/mining/FactoredInverse", "queue", "Lcom/example/tracefold/tracefold/mining/FactoredInverse$StepQueue;"), ("com/example/tracefold/tracefold/mining/FactoredInverse", "etaCount", "I")]
  | 1 => [("com/example/tracefold/tracefold/mining/SparseVector", "values", "[D"), ("com/example/tracefold/tracefold/mining/SparseVector", "listed", "[Z"), ("com/example/tracefold/tracefold/mining/SparseVector", "positions", "[I"), ("com/example/tracefold/tracefold/mining/SparseVector", "size", "I")]
  | 2 => [("com/example/tracefold/tracefold/mining/FactoredInverse$StepQueue", "sweep", "I"), ("com/example/tracefold/tracefold/mining/FactoredInverse$StepQueue", "n", "I"), ("com/example/tracefold/tracefold/mining/FactoredInverse$StepQueue", "heap", "[I"), ("com/example/tracefold/tracefold/mining/FactoredInverse$StepQueue", "queued", "[Z")]
  | 3 => [("com/example/tracefold/tracefold/mining/FactoredInverse$Elimination", "this$0", "Lcom/example/tracefold/tracefold/mining/FactoredInverse;"), ("com/example/tracefold/tracefold/mining/FactoredInverse$Elimination", "rowColumns", "[[I"), ("com/example/tracefold/tracefold/mining/FactoredInverse$Elimination", "rowValues", "[[D"), ("com/example/tracefold/tracefold/mining/FactoredInverse$Elimination", "rowLengths", "[I"), ("com/example/tracefold/tracefold/mining/FactoredInverse$Elimination", "columnLengths", "[I"), ("com/example/tracefold/tracefold/mining/FactoredInverse$Elimination", "columnRows", "[[I"), ("com/example/tracefold/tracefold/mining/FactoredInverse$Elimination", "rowLists", "Lcom/example/tracefold/tracefold/mining/FactoredInverse$Lists;"), ("com/example/tracefold/tracefold/mining/FactoredInverse$Elimination", "columnLists", "Lcom/example/tracefold/tracefold/mining/FactoredInverse$Lists;"), ("com/example/tracefold/tracefold/mining/FactoredInverse$Elimination", "positions", "[I"), ("com/example/tracefold/tracefold/mining/FactoredInverse$Elimination", "uCount", "I"), ("com/example/tracefold/tracefold/mining/FactoredInverse$Elimination", "lCount", "I")]
  | 4 => [("com/example/tracefold/tracefold/mining/FactoredInverse$Lists", "first", "[I"), ("com/example/tracefold/tracefold/mining/FactoredInverse$Lists", "next", "[I"), ("com/example/tracefold/tracefold/mining/FactoredInverse$Lists", "previous", "[I"), ("com/example/tracefold/tracefold/mining/FactoredInverse$Lists", "listed", "[I")]
  | _ => []
def own_dvs : Nat → List Value
  | 0 => [.null, .null, .null, .null, .null, .null, .null, .null, .null, .null, .null, .null, .null, .int 0, .null, .null, .null, .null, .null, .null, .null, .null, .null, .null, .null, .null, .null, .null, .int 0]
  | 1 => [.null, .null, .null, .int 0]
  | 2 => [.int 0, .int 0, .null, .null]
  | 3 => [.null, .null, .null, .null, .null, .null, .null, .null, .null, .int 0, .int 0]
  | 4 => [.null, .null, .null, .null]
  | _ => []
def own_mn : Nat → MethodName
  | 1 => ⟨"com/example/tracefold/tracefold/mining/FactoredInverseTimesPinLaw", "entry", "(II)I"⟩
  | 2 => ⟨"com/example/tracefold/tracefold/mining/FactoredInverseTimesPinLaw", "cols", "(II)[I"⟩
  | 3 => ⟨"com/example/tracefold/tracefold/mining/FactoredInverseTimesPinLaw", "vals", "(II)[D"⟩
  | 4 => ⟨"com/example/tracefold/tracefold/mining/FactoredInverseTimesPinLaw", "pivotOf", "(I)D"⟩
  | 5 => ⟨"com/example/tracefold/tracefold/mining/FactoredInverseTimesPinLaw", "otherOf", "(I)D"⟩
  | 6 => ⟨"com/example/tracefold/tracefold/mining/FactoredInverse", "<init>", "(I)V"⟩
  | 7 => ⟨"java/lang/Object", "<init>", "()V"⟩
  | 8 => ⟨"com/example/tracefold/tracefold/mining/SparseVector", "<init>", "(I)V"⟩
  | 9 => ⟨"com/example/tracefold/tracefold/mining/FactoredInverse$StepQueue", "<init>", "(I)V"⟩
  | 10 => ⟨"com/example/tracefold/tracefold/mining/FactoredInverse", "invert", "([[I[[D)Z"⟩
  | 11 => ⟨"com/example/tracefold/tracefold/mining/FactoredInverse$Elimination", "<init>", "(Lcom/example/tracefold/tracefold/mining/FactoredInverse;[[I[[D)V"⟩
  | 12 => ⟨"java/lang/Math", "max", "(II)I"⟩
  | 13 => ⟨"java/util/Arrays", "copyOf", "([II)[I"⟩
  | 14 => ⟨"java/util/Arrays", "copyOf", "([DI)[D"⟩
  | 15 => ⟨"com/example/tracefold/tracefold/mining/FactoredInverse$Lists", "<init>", "(Lcom/example/tracefold/tracefold/mining/FactoredInverse;[I)V"⟩
  | 16 => ⟨"java/util/Arrays", "fill", "([II)V"⟩
  | 17 => ⟨"com/example/tracefold/tracefold/mining/FactoredInverse$Lists", "add", "(II)V"⟩
  | 18 => ⟨"com/example/tracefold/tracefold/mining/FactoredInverse$Elimination", "pivot", "()J"⟩
  | 19 => ⟨"com/example/tracefold/tracefold/mining/FactoredInverse$Lists", "first", "(I)I"⟩
  | 20 => ⟨"com/example/tracefold/tracefold/mining/FactoredInverse$Elimination", "find", "(II)I"⟩
  | 21 => ⟨"com/example/tracefold/tracefold/mining/FactoredInverse$Elimination", "qualifies", "(ID)Z"⟩
  | 22 => ⟨"java/lang/Math", "abs", "(D)D"⟩
  | 23 => ⟨"java/lang/Math", "max", "(DD)D"⟩
  | 24 => ⟨"com/example/tracefold/tracefold/mining/FactoredInverse$Lists", "next", "(I)I"⟩
  | 25 => ⟨"com/example/tracefold/tracefold/mining/FactoredInverse$Elimination", "eliminate", "(III)V"⟩
  | 26 => ⟨"com/example/tracefold/tracefold/mining/FactoredInverse$Elimination", "removeEntry", "(II)V"⟩
  | 27 => ⟨"com/example/tracefold/tracefold/mining/FactoredInverse$Elimination", "addU", "(ID)V"⟩
  | 28 => ⟨"java/lang/Math", "min", "(II)I"⟩
  | 29 => ⟨"com/example/tracefold/tracefold/mining/FactoredInverse$Lists", "remove", "(I)V"⟩
  | 30 => ⟨"com/example/tracefold/tracefold/mining/FactoredInverse$Elimination", "removeFromColumn", "(II)V"⟩
  | 31 => ⟨"com/example/tracefold/tracefold/mining/FactoredInverse$Lists", "move", "(II)V"⟩
  | 32 => ⟨"com/example/tracefold/tracefold/mining/FactoredInverse", "transpose", "()V"⟩
  | 33 => ⟨"com/example/tracefold/tracefold/mining/FactoredInverse", "times", "([D)[D"⟩
  | 34 => ⟨"com/example/tracefold/tracefold/mining/SparseVector", "set", "(ID)V"⟩
  | 35 => ⟨"com/example/tracefold/tracefold/mining/FactoredInverse", "replaceRow", "(ILcom/example/tracefold/tracefold/mining/SparseVector;)V"⟩
  | 36 => ⟨"com/example/tracefold/tracefold/mining/SparseVector", "size", "()I"⟩
  | 37 => ⟨"com/example/tracefold/tracefold/mining/SparseVector", "position", "(I)I"⟩
  | 38 => ⟨"com/example/tracefold/tracefold/mining/SparseVector", "get", "(I)D"⟩
  | 39 => ⟨"com/example/tracefold/tracefold/mining/FactoredInverseTimesPinLaw", "eta", "([DIDD)[D"⟩
  | 40 => ⟨"com/example/tracefold/tracefold/mining/FactoredInverse$Elimination", "addL", "(ID)V"⟩
  | 41 => ⟨"com/example/tracefold/tracefold/mining/FactoredInverse$Elimination", "subtract", "(IID)V"⟩
  | _ => ⟨"", "", ""⟩
def own_mc : Nat → ByteArray
  | 1 => method_3_code
  | 2 => method_6_code
  | 3 => method_7_code
  | 4 => method_4_code
  | 5 => method_5_code
  | 6 => prog_41_method_1_code
  | 7 => object_method_1_code
  | 8 => prog_74_method_1_code
  | 9 => prog_44_method_1_code
  | 10 => prog_41_method_2_code
  | 11 => prog_42_method_1_code
  | 12 => jdk_29_method_65_code
  | 13 => jdk_65_method_123_code
  | 14 => jdk_65_method_127_code
  | 15 => prog_43_method_1_code
  | 16 => jdk_65_method_103_code
  | 17 => prog_43_method_4_code
  | 18 => prog_42_method_2_code
  | 19 => prog_43_method_2_code
  | 20 => prog_42_method_4_code
  | 21 => prog_42_method_3_code
  | 22 => jdk_29_method_64_code
  | 23 => jdk_29_method_68_code
  | 24 => prog_43_method_3_code
  | 25 => prog_42_method_5_code
  | 26 => prog_42_method_7_code
  | 27 => prog_42_method_11_code
  | 28 => jdk_29_method_69_code
  | 29 => prog_43_method_5_code
  | 30 => prog_42_method_9_code
  | 31 => prog_43_method_6_code
  | 32 => prog_41_method_4_code
  | 33 => prog_41_method_5_code
  | 34 => prog_74_method_9_code
  | 35 => prog_41_method_10_code
  | 36 => prog_74_method_6_code
  | 37 => prog_74_method_7_code
  | 38 => prog_74_method_4_code
  | 39 => method_8_code
  | 40 => prog_42_method_12_code
  | 41 => prog_42_method_6_code
  | _ => code
def own_ml : Nat → Nat
  | 1 => 2
  | 2 => 2
  | 3 => 2
  | 4 => 2
  | 5 => 1
  | 6 => 2
  | 7 => 1
  | 8 => 2
  | 9 => 2
  | 10 => 7
  | 11 => 10
  | 12 => 2
  | 13 => 3
  | 14 => 3
  | 15 => 4
  | 16 => 4
  | 17 => 3
  | 18 => 12
  | 19 => 2
  | 20 => 4
  | 21 => 9
  | 22 => 2
  | 23 => 4
  | 24 => 2
  | 25 => 12
  | 26 => 4
  | 27 => 4
  | 28 => 2
  | 29 => 2
  | 30 => 4
  | 31 => 3
  | 32 => 8
  | 33 => 9
  | 34 => 4
  | 35 => 7
  | 36 => 1
  | 37 => 2
  | 38 => 2
  | 39 => 7
  | 40 => 4
  | 41 => 15
  | _ => 0
def own_mr : Nat → Option FieldType
  | 1 => (some .int)
  | 2 => (some (.array .int))
  | 3 => (some (.array .double))
  | 4 => (some .double)
  | 5 => (some .double)
  | 6 => none
  | 7 => none
  | 8 => none
  | 9 => none
  | 10 => (some .boolean)
  | 11 => none
  | 12 => (some .int)
  | 13 => (some (.array .int))
  | 14 => (some (.array .double))
  | 15 => none
  | 16 => none
  | 17 => none
  | 18 => (some .long)
  | 19 => (some .int)
  | 20 => (some .int)
  | 21 => (some .boolean)
  | 22 => (some .double)
  | 23 => (some .double)
  | 24 => (some .int)
  | 25 => none
  | 26 => none
  | 27 => none
  | 28 => (some .int)
  | 29 => none
  | 30 => none
  | 31 => none
  | 32 => none
  | 33 => (some (.array .double))
  | 34 => none
  | 35 => none
  | 36 => (some .int)
  | 37 => (some .int)
  | 38 => (some .double)
  | 39 => (some (.array .double))
  | 40 => none
  | 41 => none
  | _ => none
section OwnExec
open Jvm.Free.Fl (NoNaN64)
abbrev AD := Nat × Nat × List Value
def dX (D : Nat → UInt64) (i : Nat) : UInt64 := if i < 4096 then D i else UInt64.ofNat i
def iW (x : UInt64) : Int32 := x.toUInt32.toInt32
def own_w (x : Int32) : UInt64 := x.toUInt32.toUInt64
theorem own_iw (x : Int32) : iW (own_w x) = x := (congrArg UInt32.toInt32 (UInt32.toUInt32_toUInt64 x.toUInt32)).trans rfl
def den (A : Nat → Addr) (D : Nat → UInt64) (W : Nat → Value) : Value → Value
  | .ref i => .ref (A i)
  | .double j => .double (dX D j.toNat)
  | .retAddr k => W k
  | .int n => .int n
  | .long n => .long n
  | .float n => .int (iW (dX D n.toNat))
  | .null => .null
def kn : Value → Bool
  | .retAddr _ => false
  | _ => true
def rfA : Value → Bool
  | .ref _ => true
  | .null => true
  | _ => false
def denS (A : Nat → Addr) (D : Nat → UInt64) (W : Nat → Value) : Slot → Slot
  | .val v => .val (den A D W v)
  | .unset => .unset
  | .second => .second
def knS : Slot → Bool
  | .val v => kn v
  | _ => true
section
variable {A : Nat → Addr} {D : Nat → UInt64} {W : Nat → Value}
theorem den_cat {v : Value} (h : kn v = true) : (den A D W v).category = v.category := by cases v <;> first | rfl | simp [kn] at h
theorem rf_den {v : Value} (h : rfA v = true) : (den A D W v).isRef = true := by cases v <;> first | rfl | simp [rfA] at h
theorem rf_kn {v : Value} (h : rfA v = true) : kn v = true := by cases v <;> first | rfl | simp [rfA] at h
theorem den_get {L : Array Slot} {k : Nat} {v : Value} (h : L[k]? = some (.val v)) : (L.map (denS A D W))[k]? = some (.val (den A D W v)) := by rw [Array.getElem?_map, h]; rfl
theorem den_setAt {L L' : Array Slot} {i : Nat} {x : Slot} (h : setAt L i x = some L') : setAt (L.map (denS A D W)) i (denS A D W x) = some (L'.map (denS A D W)) := by
  unfold setAt at h ⊢
  split at h
  · rename_i q
    cases h
    rw [if_pos (by simpa using q), Array.map_setIfInBounds]
  · cases h
theorem den_self {L L' : Array Slot} {i : Nat} {v : Value} (hL : ∀ (j : Nat) (x : Slot), L[j]? = some x → knS x = true) (hv : kn v = true) (h : storeSelf L i v = some L') : storeSelf (L.map (denS A D W)) i (den A D W v) = some (L'.map (denS A D W)) := by
  unfold storeSelf at h ⊢
  cases e1 : setAt L i (.val v) with
  | none => rw [e1] at h; cases h
  | some L1 =>
    have f1 : setAt (L.map (denS A D W)) i (.val (den A D W v)) = some (L1.map (denS A D W)) := den_setAt e1
    rw [e1] at h
    rw [f1]
    rw [den_cat hv]
    dsimp only [bind, Option.bind] at h ⊢
    split at h
    · rename_i q
      rw [if_pos q]
      rw [Array.getElem?_map]
      cases e2 : L1[i + 1]? with
      | none => rw [e2] at h; cases h
      | some y =>
        rw [e2] at h
        dsimp only [Option.map] at h ⊢
        have hy : knS y = true := by
          have e3 : L1 = L.setIfInBounds i (.val v) := by
            unfold setAt at e1
            split at e1
            · exact (Option.some.inj e1).symm
            · cases e1
          rw [e3, Array.getElem?_setIfInBounds_ne (by omega)] at e2
          exact hL _ _ e2
        cases y with
        | unset => exact den_setAt h
        | second => exact den_setAt h
        | val old =>
          dsimp only [denS] at h ⊢
          rw [den_cat hy]
          split at h
          · rename_i q2
            rw [if_pos q2]
            cases e4 : setAt L1 (i + 2) .unset with
            | none => rw [e4] at h; cases h
            | some L2 =>
              rw [e4] at h
              have f4 : setAt (L1.map (denS A D W)) (i + 2) .unset = some (L2.map (denS A D W)) := den_setAt e4
              rw [f4]
              exact den_setAt h
          · rename_i q2
            rw [if_neg q2]
            exact den_setAt h
    · rename_i q
      rw [if_neg q]
      cases h
      rfl
theorem kn_set {L L1 : Array Slot} {i : Nat} {x : Slot} (hL : ∀ (j : Nat) (x : Slot), L[j]? = some x → knS x = true) (hx : knS x = true) (e1 : setAt L i x = some L1) : ∀ (j : Nat) (x : Slot), L1[j]? = some x → knS x = true := by
  intro j y hj
  unfold setAt at e1
  split at e1
  · cases e1
    rw [Array.getElem?_setIfInBounds] at hj
    split at hj
    · first
      | (cases hj; exact hx)
      | (split at hj
         · cases hj; exact hx
         · cases hj)
    · exact hL _ _ hj
  · cases e1
theorem den_store {L L' : Array Slot} {i : Nat} {v : Value} (hL : ∀ (j : Nat) (x : Slot), L[j]? = some x → knS x = true) (hv : kn v = true) (h : storeLocals L i v = some L') : storeLocals (L.map (denS A D W)) i (den A D W v) = some (L'.map (denS A D W)) := by
  unfold storeLocals at h ⊢
  rw [Array.getElem?_map]
  cases e : L[i]? with
  | none => rw [e] at h; cases h
  | some y =>
    rw [e] at h
    dsimp only [bind, Option.bind, Option.map] at h ⊢
    have hy := hL _ _ e
    cases y with
    | unset => exact den_self hL hv h
    | second =>
      dsimp only [denS] at h ⊢
      cases e4 : setAt L (i - 1) .unset with
      | none => rw [e4] at h; cases h
      | some L2 =>
        rw [e4] at h
        have f4 : setAt (L.map (denS A D W)) (i - 1) .unset = some (L2.map (denS A D W)) := den_setAt e4
        rw [f4]
        exact den_self (kn_set hL rfl e4) hv h
    | val old =>
      dsimp only [denS] at h ⊢
      rw [den_cat hy]
      split at h
      · rename_i q2
        rw [if_pos q2]
        cases e4 : setAt L (i + 1) .unset with
        | none => rw [e4] at h; cases h
        | some L2 =>
          rw [e4] at h
          have f4 : setAt (L.map (denS A D W)) (i + 1) .unset = some (L2.map (denS A D W)) := den_setAt e4
          rw [f4]
          exact den_self (kn_set hL rfl e4) hv h
      · rename_i q2
        rw [if_neg q2]
        exact den_self hL hv h
def own_knL (L : Array Slot) : Bool := L.toList.all knS
theorem own_knLe {L : Array Slot} (h : own_knL L = true) : ∀ (j : Nat) (x : Slot), L[j]? = some x → knS x = true := fun j x hj => by
  refine List.all_eq_true.mp h x (List.mem_of_getElem? (i := j) ?_)
  rw [Array.getElem?_toList]
  exact hj
end
def own_adn : Nat → String
  | 64 => "[I" | 65 => "[D" | 66 => "[Z" | 67 => "[[I" | _ => "[[D"
def own_aty : Nat → FieldType
  | 64 => .int | 65 => .double | 66 => .boolean | 67 => .array .int | _ => .array .double
def own_adv : Nat → Value
  | 64 => .int 0 | 65 => .double 0 | 66 => .int 0 | _ => .null
def HdF (Z : State) (h : Heap) (a : Addr) (k : ClassId) (A : Nat → Addr) (D : Nat → UInt64) (W : Nat → Value) (d : AD) : Prop :=
  if d.1 < 64 then Exa Z h a (own_cn d.1) ∧ ∀ (j : Nat) (v : Value) (f : String × String × String), d.2.2[j]? = some v → (own_fls d.1)[j]? = some f → Fld Z h a f.1 f.2.1 f.2.2 (den A D W v)
  else Exa Z h a (own_adn d.1) ∧ Arv Z h a k (own_aty d.1) (Int32.ofNat d.2.1) (d.2.2.map (den A D W)) (own_adv d.1) ∧ (d.1 = 67 → OvrA Z k .int "[I") ∧ (d.1 = 68 → OvrA Z k .double "[D")
def YgF (Z : State) (n0 : Nat) (h : Heap) (A : Nat → Addr) (K : Nat → ClassId) (D : Nat → UInt64) (W : Nat → Value) (ds : List AD) : Prop :=
  (∀ (i : Nat) (d : AD), ds[i]? = some d → n0 ≤ A i ∧ HdF Z h (A i) (K i) A D W d) ∧ ∀ i j, i < ds.length → j < ds.length → A i = A j → i = j
abbrev Pool := (Nat → Option (Nat × Nat)) × (Nat → Option String) × (Nat → Option Value)
def PoolOK (Z : State) (a0 : Array Value) (own : String) (P : Pool) : Prop :=
  (∀ i c j, P.1 i = some (c, j) → c < 64 ∧ ∃ f R0 host, (own_fls c)[j]? = some f ∧ ((Jvm.Cond.fieldLink own i R0 f.2.1 f.2.2).before a0 Z = true ∨ (Jvm.Cond.fieldLinkNest own i R0 f.2.1 f.2.2 host).before a0 Z = true) ∧ Via Z R0 f.1 f.2.1 f.2.2) ∧
  (∀ i C, P.2.1 i = some C → (Jvm.Cond.classLink own i C).before a0 Z = true) ∧
  (∀ i v, P.2.2 i = some v → (∃ n, v = .long n ∧ (Jvm.Cond.constantLong own i n).before a0 Z = true) ∨ (∃ b : UInt64, v = .double b ∧ 4096 ≤ b.toNat ∧ (Jvm.Cond.constantDouble own i b).before a0 Z = true))
variable {p : Program} {l : Launch} {e : Env} {R : Room} {s : State} {m : MethodId} {args : Array Value} {below : List Frame} {meth : Method} {c : Code} {T : State} {locs : List Loc} {cells slots : Nat} {Z : State} {a0 : Array Value} {h h' : Heap} {Ev : State → Outcome → Prop}
def stpQ0 (code : ByteArray) (P : Pool) (ds : List AD) (pc : Nat) (L : Array Slot) (st : List Value) : Option (Nat × Array Slot × List Value) :=
  match decode code pc with
  | .ok (.iload_n k, 1) => match L[k.val]? with
    | some (.val (.int v)) => some (pc + 1, L, .int v :: st)
    | some (.val (.float v)) => some (pc + 1, L, .float v :: st)
    | _ => none
  | .ok (.iload k, 2) => match L[k]? with
    | some (.val (.int v)) => some (pc + 2, L, .int v :: st)
    | some (.val (.float v)) => some (pc + 2, L, .float v :: st)
    | _ => none
  | .ok (.lload_n k, 1) => match L[k.val]? with
    | some (.val (.long v)) => some (pc + 1, L, .long v :: st)
    | _ => none
  | .ok (.lload k, 2) => match L[k]? with
    | some (.val (.long v)) => some (pc + 2, L, .long v :: st)
    | _ => none
  | .ok (.dload_n k, 1) => match L[k.val]? with
    | some (.val (.double v)) => some (pc + 1, L, .double v :: st)
    | _ => none
  | .ok (.aload_n k, 1) => match L[k.val]? with
    | some (.val v) => if rfA v = true then some (pc + 1, L, v :: st) else none
    | _ => none
  | .ok (.dload k, 2) => match L[k]? with
    | some (.val (.double v)) => some (pc + 2, L, .double v :: st)
    | _ => none
  | .ok (.aload k, 2) => match L[k]? with
    | some (.val v) => if rfA v = true then some (pc + 2, L, v :: st) else none
    | _ => none
  | _ => none
theorem stpQ0_ok {A : Nat → Addr} {K : Nat → ClassId} {D : Nat → UInt64} {W : Nat → Value} {code : ByteArray} {own : String} {P : Pool} {n0 : Nat} {ds : List AD} (X : Stand p l e R s m args below meth c T locs cells slots) (hx : p.tables.exec = Jvm.exec) (hby : c.code = code) (hZ : Z.Warmed39 s.vm) (hown : s.vm.findClass own = some m.cls) (hP : PoolOK Z a0 own P) (eT : T.heap = h) (Y : YgF Z n0 h A K D W ds) (hD0 : D 0 = 0) {pc pc' : Nat} {L L' : Array Slot} {st st' : List Value} (hs : stpQ0 code P ds pc L st = some (pc', L', st'))
    (K_ : ∀ T', Stand p l e R s m args below meth c T' locs cells slots → T'.heap = h → Go p e below Ev T' (mkF m pc' (L'.map (denS A D W)) (st'.map (den A D W)))) : Go p e below Ev T (mkF m pc (L.map (denS A D W)) (st.map (den A D W))) := by
  subst hby
  unfold stpQ0 at hs
  split at hs
  · next k hd =>
    split at hs
    · next v hl => cases hs; exact g_iloadN X hx _ hd rfl (den_get hl) (K_ _ X eT)
    · next v hl => cases hs; exact g_iloadN X hx _ hd rfl (den_get hl) (K_ _ X eT)
    · cases hs
  · next k hd =>
    split at hs
    · next v hl => cases hs; exact g_iload X hx _ hd rfl (den_get hl) (K_ _ X eT)
    · next v hl => cases hs; exact g_iload X hx _ hd rfl (den_get hl) (K_ _ X eT)
    · cases hs
  · next k hd =>
    split at hs
    · next v hl => cases hs; exact g_lloadN X hx _ hd rfl (den_get hl) (K_ _ X eT)
    · cases hs
  · next k hd =>
    split at hs
    · next v hl => cases hs; exact g_lload X hx _ hd rfl (den_get hl) (K_ _ X eT)
    · cases hs
  · next k hd =>
    split at hs
    · next v hl => cases hs; exact g_dloadN X hx _ hd rfl (den_get hl) (K_ _ X eT)
    · cases hs
  · next k hd =>
    split at hs
    · next v hl =>
      split at hs
      · next hr => cases hs; exact g_aloadN X hx _ hd rfl (den_get hl) (rf_den hr) (K_ _ X eT)
      · cases hs
    · cases hs
  · next k hd =>
    split at hs
    · next v hl => cases hs; exact g_dload X hx _ hd rfl (den_get hl) (K_ _ X eT)
    · cases hs
  · next k hd =>
    split at hs
    · next v hl =>
      split at hs
      · next hr => cases hs; exact g_aload X hx _ hd rfl (den_get hl) (rf_den hr) (K_ _ X eT)
      · cases hs
    · cases hs
  · cases hs
def stpQ1 (code : ByteArray) (P : Pool) (ds : List AD) (pc : Nat) (L : Array Slot) (st : List Value) : Option (Nat × Array Slot × List Value) :=
  match decode code pc with
  | .ok (.istore_n k, 1) => match st with
    | .int v :: r => if own_knL L = true then (storeLocals L k.val (.int v)).map fun L' => (pc + 1, L', r) else none
    | .float v :: r => if own_knL L = true then (storeLocals L k.val (.float v)).map fun L' => (pc + 1, L', r) else none
    | _ => none
  | .ok (.istore k, 2) => match st with
    | .int v :: r => if own_knL L = true then (storeLocals L k (.int v)).map fun L' => (pc + 2, L', r) else none
    | .float v :: r => if own_knL L = true then (storeLocals L k (.float v)).map fun L' => (pc + 2, L', r) else none
    | _ => none
  | .ok (.lstore_n k, 1) => match st with
    | .long v :: r => if own_knL L = true then (storeLocals L k.val (.long v)).map fun L' => (pc + 1, L', r) else none
    | _ => none
  | .ok (.lstore k, 2) => match st with
    | .long v :: r => if own_knL L = true then (storeLocals L k (.long v)).map fun L' => (pc + 2, L', r) else none
    | _ => none
  | .ok (.dstore_n k, 1) => match st with
    | .double v :: r => if own_knL L = true then (storeLocals L k.val (.double v)).map fun L' => (pc + 1, L', r) else none
    | _ => none
  | .ok (.dstore k, 2) => match st with
    | .double v :: r => if own_knL L = true then (storeLocals L k (.double v)).map fun L' => (pc + 2, L', r) else none
    | _ => none
  | .ok (.astore_n k, 1) => match st with
    | v :: r => if own_knL L = true ∧ rfA v = true then (storeLocals L k.val v).map fun L' => (pc + 1, L', r) else none
    | _ => none
  | .ok (.astore k, 2) => match st with
    | v :: r => if own_knL L = true ∧ rfA v = true then (storeLocals L k v).map fun L' => (pc + 2, L', r) else none
    | _ => none
  | _ => none
theorem stpQ1_ok {A : Nat → Addr} {K : Nat → ClassId} {D : Nat → UInt64} {W : Nat → Value} {code : ByteArray} {own : String} {P : Pool} {n0 : Nat} {ds : List AD} (X : Stand p l e R s m args below meth c T locs cells slots) (hx : p.tables.exec = Jvm.exec) (hby : c.code = code) (hZ : Z.Warmed39 s.vm) (hown : s.vm.findClass own = some m.cls) (hP : PoolOK Z a0 own P) (eT : T.heap = h) (Y : YgF Z n0 h A K D W ds) (hD0 : D 0 = 0) {pc pc' : Nat} {L L' : Array Slot} {st st' : List Value} (hs : stpQ1 code P ds pc L st = some (pc', L', st'))
    (K_ : ∀ T', Stand p l e R s m args below meth c T' locs cells slots → T'.heap = h → Go p e below Ev T' (mkF m pc' (L'.map (denS A D W)) (st'.map (den A D W)))) : Go p e below Ev T (mkF m pc (L.map (denS A D W)) (st.map (den A D W))) := by
  subst hby
  unfold stpQ1 at hs
  split at hs
  · next k hd =>
    split at hs
    · next v r =>
      split at hs
      · next hk =>
        cases e : storeLocals L k.val (.int v) with
        | none => rw [e] at hs; cases hs
        | some L' => rw [e] at hs; cases hs; exact g_istoreN X hx _ hd rfl (den_store (v := .int v) (own_knLe hk) rfl e) (K_ _ X eT)
      · cases hs
    · next v r =>
      split at hs
      · next hk =>
        cases e : storeLocals L k.val (.float v) with
        | none => rw [e] at hs; cases hs
        | some L' => rw [e] at hs; cases hs; exact g_istoreN X hx _ hd rfl (den_store (v := .float v) (own_knLe hk) rfl e) (K_ _ X eT)
      · cases hs
    · cases hs
  · next k hd =>
    split at hs
    · next v r =>
      split at hs
      · next hk =>
        cases e : storeLocals L k (.int v) with
        | none => rw [e] at hs; cases hs
        | some L' => rw [e] at hs; cases hs; exact g_istore X hx _ hd rfl (den_store (v := .int v) (own_knLe hk) rfl e) (K_ _ X eT)
      · cases hs
    · next v r =>
      split at hs
      · next hk =>
        cases e : storeLocals L k (.float v) with
        | none => rw [e] at hs; cases hs
        | some L' => rw [e] at hs; cases hs; exact g_istore X hx _ hd rfl (den_store (v := .float v) (own_knLe hk) rfl e) (K_ _ X eT)
      · cases hs
    · cases hs
  · next k hd =>
    split at hs
    · next v r =>
      split at hs
      · next hk =>
        cases e : storeLocals L k.val (.long v) with
        | none => rw [e] at hs; cases hs
        | some L' => rw [e] at hs; cases hs; exact g_lstoreN X hx _ hd rfl (den_store (v := .long v) (own_knLe hk) rfl e) (K_ _ X eT)
      · cases hs
    · cases hs
  · next k hd =>
    split at hs
    · next v r =>
      split at hs
      · next hk =>
        cases e : storeLocals L k (.long v) with
        | none => rw [e] at hs; cases hs
        | some L' => rw [e] at hs; cases hs; exact g_lstore X hx _ hd rfl (den_store (v := .long v) (own_knLe hk) rfl e) (K_ _ X eT)
      · cases hs
    · cases hs
  · next k hd =>
    split at hs
    · next v r =>
      split at hs
      · next hk =>
        cases e : storeLocals L k.val (.double v) with
        | none => rw [e] at hs; cases hs
        | some L' => rw [e] at hs; cases hs; exact g_dstoreN X hx _ hd rfl (den_store (v := .double v) (own_knLe hk) rfl e) (K_ _ X eT)
      · cases hs
    · cases hs
  · next k hd =>
    split at hs
    · next v r =>
      split at hs
      · next hk =>
        cases e : storeLocals L k (.double v) with
        | none => rw [e] at hs; cases hs
        | some L' => rw [e] at hs; cases hs; exact g_dstore X hx _ hd rfl (den_store (v := .double v) (own_knLe hk) rfl e) (K_ _ X eT)
      · cases hs
    · cases hs
  · next k hd =>
    split at hs
    · next v r =>
      split at hs
      · next hk =>
        cases e : storeLocals L k.val v with
        | none => rw [e] at hs; cases hs
        | some L' => rw [e] at hs; cases hs; exact g_astoreN X hx _ hd rfl (rf_den hk.2) (den_store (own_knLe hk.1) (rf_kn hk.2) e) (K_ _ X eT)
      · cases hs
    · cases hs
  · next k hd =>
    split at hs
    · next v r =>
      split at hs
      · next hk =>
        cases e : storeLocals L k v with
        | none => rw [e] at hs; cases hs
        | some L' => rw [e] at hs; cases hs; exact g_astore X hx _ hd rfl (rf_den hk.2) (den_store (own_knLe hk.1) (rf_kn hk.2) e) (K_ _ X eT)
      · cases hs
    · cases hs
  · cases hs
def stpQ2 (code : ByteArray) (P : Pool) (ds : List AD) (pc : Nat) (L : Array Slot) (st : List Value) : Option (Nat × Array Slot × List Value) :=
  match decode code pc with
  | .ok (.iconst i, 1) => some (pc + 1, L, .int (Int32.ofInt i) :: st)
  | .ok (.bipush i, 2) => some (pc + 2, L, .int ((Int8.ofInt i).toInt32) :: st)
  | .ok (.sipush i, 3) => some (pc + 3, L, .int ((Int16.ofInt i).toInt32) :: st)
  | .ok (.lconst k, 1) => some (pc + 1, L, .long (Int64.ofNat k.val) :: st)
  | .ok (.dconst 0, 1) => some (pc + 1, L, .double 0 :: st)
  | .ok (.dconst 1, 1) => some (pc + 1, L, .double 4607182418800017408 :: st)
  | .ok (.aconst_null, 1) => some (pc + 1, L, .null :: st)
  | .ok (.ldc2_w i, 3) => match P.2.2 i with
    | some v => some (pc + 3, L, v :: st)
    | _ => none
  | _ => none
theorem stpQ2_ok {A : Nat → Addr} {K : Nat → ClassId} {D : Nat → UInt64} {W : Nat → Value} {code : ByteArray} {own : String} {P : Pool} {n0 : Nat} {ds : List AD} (X : Stand p l e R s m args below meth c T locs cells slots) (hx : p.tables.exec = Jvm.exec) (hby : c.code = code) (hZ : Z.Warmed39 s.vm) (hown : s.vm.findClass own = some m.cls) (hP : PoolOK Z a0 own P) (eT : T.heap = h) (Y : YgF Z n0 h A K D W ds) (hD0 : D 0 = 0) {pc pc' : Nat} {L L' : Array Slot} {st st' : List Value} (hs : stpQ2 code P ds pc L st = some (pc', L', st'))
    (K_ : ∀ T', Stand p l e R s m args below meth c T' locs cells slots → T'.heap = h → Go p e below Ev T' (mkF m pc' (L'.map (denS A D W)) (st'.map (den A D W)))) : Go p e below Ev T (mkF m pc (L.map (denS A D W)) (st.map (den A D W))) := by
  subst hby
  unfold stpQ2 at hs
  split at hs
  · next i hd =>
    cases hs; exact g_iconst X hx (Int32.ofInt i) _ hd rfl rfl (K_ _ X eT)
  · next i hd =>
    cases hs; exact g_bipush X hx ((Int8.ofInt i).toInt32) _ hd rfl rfl (K_ _ X eT)
  · next i hd =>
    cases hs; exact g_sipush X hx ((Int16.ofInt i).toInt32) _ hd rfl rfl (K_ _ X eT)
  · next k hd =>
    cases hs; exact g_lconst X hx (Int64.ofNat k.val) _ hd rfl rfl (K_ _ X eT)
  · next hd =>
    cases hs; exact g_dconst0 X hx _ hd rfl (by have := K_ _ X eT; simpa [den, dX, hD0] using this)
  · next hd =>
    cases hs; exact g_dconst1 X hx _ hd rfl (K_ _ X eT)
  · next hd =>
    cases hs; exact g_null X hx _ hd rfl (K_ _ X eT)
  · next i hd =>
    split at hs
    · next v hv =>
      cases hs
      rcases hP.2.2 i v hv with ⟨n, rfl, w⟩ | ⟨b, rfl, hb, w⟩
      · exact g_ldc2J X hx _ hZ hown w hd rfl (K_ _ X eT)
      · exact g_ldc2D X hx _ hZ hown w hd rfl (by have := K_ _ X eT; simpa [den, dX, Nat.not_lt.mpr hb] using this)
    · cases hs
  · cases hs
def stpQ3 (code : ByteArray) (P : Pool) (ds : List AD) (pc : Nat) (L : Array Slot) (st : List Value) : Option (Nat × Array Slot × List Value) :=
  match decode code pc with
  | .ok (.iinc k i, 3) => match L[k]? with
    | some (.val (.int v)) => if own_knL L = true then (storeLocals L k (.int (v + Int32.ofInt i))).map fun L' => (pc + 3, L', st) else none
    | _ => none
  | .ok (.iadd, 1) => match st with
    | .int y :: .int x :: r => some (pc + 1, L, .int (x + y) :: r)
    | _ => none
  | .ok (.isub, 1) => match st with
    | .int y :: .int x :: r => some (pc + 1, L, .int (x - y) :: r)
    | _ => none
  | .ok (.imul, 1) => match st with
    | .int y :: .int x :: r => some (pc + 1, L, .int (x * y) :: r)
    | _ => none
  | .ok (.iand, 1) => match st with
    | .int y :: .int x :: r => some (pc + 1, L, .int (x &&& y) :: r)
    | _ => none
  | .ok (.ior, 1) => match st with
    | .int y :: .int x :: r => some (pc + 1, L, .int (x ||| y) :: r)
    | _ => none
  | .ok (.ishl, 1) => match st with
    | .int y :: .int x :: r => some (pc + 1, L, .int (x <<< (y &&& 31)) :: r)
    | _ => none
  | .ok (.ishr, 1) => match st with
    | .int y :: .int x :: r => some (pc + 1, L, .int (x >>> (y &&& 31)) :: r)
    | _ => none
  | _ => none
theorem stpQ3_ok {A : Nat → Addr} {K : Nat → ClassId} {D : Nat → UInt64} {W : Nat → Value} {code : ByteArray} {own : String} {P : Pool} {n0 : Nat} {ds : List AD} (X : Stand p l e R s m args below meth c T locs cells slots) (hx : p.tables.exec = Jvm.exec) (hby : c.code = code) (hZ : Z.Warmed39 s.vm) (hown : s.vm.findClass own = some m.cls) (hP : PoolOK Z a0 own P) (eT : T.heap = h) (Y : YgF Z n0 h A K D W ds) (hD0 : D 0 = 0) {pc pc' : Nat} {L L' : Array Slot} {st st' : List Value} (hs : stpQ3 code P ds pc L st = some (pc', L', st'))
    (K_ : ∀ T', Stand p l e R s m args below meth c T' locs cells slots → T'.heap = h → Go p e below Ev T' (mkF m pc' (L'.map (denS A D W)) (st'.map (den A D W)))) : Go p e below Ev T (mkF m pc (L.map (denS A D W)) (st.map (den A D W))) := by
  subst hby
  unfold stpQ3 at hs
  split at hs
  · next k i hd =>
    split at hs
    · next v hl =>
      split at hs
      · next hk =>
        cases e : storeLocals L k (.int (v + Int32.ofInt i)) with
        | none => rw [e] at hs; cases hs
        | some L' => rw [e] at hs; cases hs; exact g_iinc X hx _ hd rfl (den_get hl) rfl (den_store (v := .int _) (own_knLe hk) rfl e) (K_ _ X eT)
      · cases hs
    · cases hs
  · next hd =>
    split at hs
    · cases hs; exact g_iadd X hx _ hd rfl (K_ _ X eT)
    · cases hs
  · next hd =>
    split at hs
    · cases hs; exact g_isub X hx _ hd rfl (K_ _ X eT)
    · cases hs
  · next hd =>
    split at hs
    · cases hs; exact g_imul X hx _ hd rfl (K_ _ X eT)
    · cases hs
  · next hd =>
    split at hs
    · cases hs; exact g_iand X hx _ hd rfl (K_ _ X eT)
    · cases hs
  · next hd =>
    split at hs
    · cases hs; exact g_ior X hx _ hd rfl (K_ _ X eT)
    · cases hs
  · next hd =>
    split at hs
    · cases hs; exact g_ishl X hx _ hd rfl (K_ _ X eT)
    · cases hs
  · next hd =>
    split at hs
    · cases hs; exact g_ishr X hx _ hd rfl (K_ _ X eT)
    · cases hs
  · cases hs
def stpQ4 (code : ByteArray) (P : Pool) (ds : List AD) (pc : Nat) (L : Array Slot) (st : List Value) : Option (Nat × Array Slot × List Value) :=
  match decode code pc with
  | .ok (.ladd, 1) => match st with
    | .long y :: .long x :: r => some (pc + 1, L, .long (x + y) :: r)
    | _ => none
  | .ok (.lsub, 1) => match st with
    | .long y :: .long x :: r => some (pc + 1, L, .long (x - y) :: r)
    | _ => none
  | .ok (.lmul, 1) => match st with
    | .long y :: .long x :: r => some (pc + 1, L, .long (x * y) :: r)
    | _ => none
  | .ok (.land, 1) => match st with
    | .long y :: .long x :: r => some (pc + 1, L, .long (x &&& y) :: r)
    | _ => none
  | .ok (.lor, 1) => match st with
    | .long y :: .long x :: r => some (pc + 1, L, .long (x ||| y) :: r)
    | _ => none
  | .ok (.lshl, 1) => match st with
    | .int y :: .long x :: r => some (pc + 1, L, .long (x <<< (y &&& 0x3f).toInt64) :: r)
    | _ => none
  | .ok (.lushr, 1) => match st with
    | .int y :: .long x :: r => some (pc + 1, L, .long ((x.toUInt64 >>> (y &&& 0x3f).toInt64.toUInt64).toInt64) :: r)
    | _ => none
  | .ok (.i2l, 1) => match st with
    | .int x :: r => some (pc + 1, L, .long x.toInt64 :: r)
    | _ => none
  | _ => none
theorem stpQ4_ok {A : Nat → Addr} {K : Nat → ClassId} {D : Nat → UInt64} {W : Nat → Value} {code : ByteArray} {own : String} {P : Pool} {n0 : Nat} {ds : List AD} (X : Stand p l e R s m args below meth c T locs cells slots) (hx : p.tables.exec = Jvm.exec) (hby : c.code = code) (hZ : Z.Warmed39 s.vm) (hown : s.vm.findClass own = some m.cls) (hP : PoolOK Z a0 own P) (eT : T.heap = h) (Y : YgF Z n0 h A K D W ds) (hD0 : D 0 = 0) {pc pc' : Nat} {L L' : Array Slot} {st st' : List Value} (hs : stpQ4 code P ds pc L st = some (pc', L', st'))
    (K_ : ∀ T', Stand p l e R s m args below meth c T' locs cells slots → T'.heap = h → Go p e below Ev T' (mkF m pc' (L'.map (denS A D W)) (st'.map (den A D W)))) : Go p e below Ev T (mkF m pc (L.map (denS A D W)) (st.map (den A D W))) := by
  subst hby
  unfold stpQ4 at hs
  split at hs
  · next hd =>
    split at hs
    · cases hs; exact g_ladd X hx _ hd rfl (K_ _ X eT)
    · cases hs
  · next hd =>
    split at hs
    · cases hs; exact g_lsub X hx _ hd rfl (K_ _ X eT)
    · cases hs
  · next hd =>
    split at hs
    · cases hs; exact g_lmul X hx _ hd rfl (K_ _ X eT)
    · cases hs
  · next hd =>
    split at hs
    · cases hs; exact g_land X hx _ hd rfl (K_ _ X eT)
    · cases hs
  · next hd =>
    split at hs
    · cases hs; exact g_lor X hx _ hd rfl (K_ _ X eT)
    · cases hs
  · next hd =>
    split at hs
    · cases hs; exact g_lshl X hx _ hd rfl (K_ _ X eT)
    · cases hs
  · next hd =>
    split at hs
    · cases hs; exact g_lushr X hx _ hd rfl (K_ _ X eT)
    · cases hs
  · next hd =>
    split at hs
    · cases hs; exact g_i2l X hx _ hd rfl (K_ _ X eT)
    · cases hs
  · cases hs
def stpQ5 (code : ByteArray) (P : Pool) (ds : List AD) (pc : Nat) (L : Array Slot) (st : List Value) : Option (Nat × Array Slot × List Value) :=
  match decode code pc with
  | .ok (.l2i, 1) => match st with
    | .long x :: r => some (pc + 1, L, .int x.toInt32 :: r)
    | _ => none
  | .ok (.dup, 1) => match st with
    | x :: r => if (kn x = true ∧ x.category = 1) then some (pc + 1, L, x :: x :: r) else none
    | _ => none
  | .ok (.pop, 1) => match st with
    | x :: r => if (kn x = true ∧ x.category = 1) then some (pc + 1, L, r) else none
    | _ => none
  | .ok (.dup_x1, 1) => match st with
    | x :: y :: r => if (kn x = true ∧ x.category = 1) ∧ (kn y = true ∧ y.category = 1) then some (pc + 1, L, x :: y :: x :: r) else none
    | _ => none
  | .ok (.dup2, 1) => match st with
    | x :: y :: r => if (kn x = true ∧ x.category = 1) ∧ (kn y = true ∧ y.category = 1) then some (pc + 1, L, x :: y :: x :: y :: r) else none
    | _ => none
  | .ok (.dup_x2, 1) => match st with
    | x :: y :: z :: r => if (kn x = true ∧ x.category = 1) ∧ (kn y = true ∧ y.category = 1) ∧ (kn z = true ∧ z.category = 1) then some (pc + 1, L, x :: y :: z :: x :: r) else none
    | _ => none
  | .ok (.goto o, 3) => if 0 ≤ (pc : Int) + o then some (((pc : Int) + o).toNat, L, st) else none
  | .ok (.ifCond .eq o, 3) => match st with
    | .int x :: r => if 0 ≤ (pc : Int) + o then (if x.toInt = 0 then some (((pc : Int) + o).toNat, L, r) else some (pc + 3, L, r)) else none
    | _ => none
  | _ => none
theorem stpQ5_ok {A : Nat → Addr} {K : Nat → ClassId} {D : Nat → UInt64} {W : Nat → Value} {code : ByteArray} {own : String} {P : Pool} {n0 : Nat} {ds : List AD} (X : Stand p l e R s m args below meth c T locs cells slots) (hx : p.tables.exec = Jvm.exec) (hby : c.code = code) (hZ : Z.Warmed39 s.vm) (hown : s.vm.findClass own = some m.cls) (hP : PoolOK Z a0 own P) (eT : T.heap = h) (Y : YgF Z n0 h A K D W ds) (hD0 : D 0 = 0) {pc pc' : Nat} {L L' : Array Slot} {st st' : List Value} (hs : stpQ5 code P ds pc L st = some (pc', L', st'))
    (K_ : ∀ T', Stand p l e R s m args below meth c T' locs cells slots → T'.heap = h → Go p e below Ev T' (mkF m pc' (L'.map (denS A D W)) (st'.map (den A D W)))) : Go p e below Ev T (mkF m pc (L.map (denS A D W)) (st.map (den A D W))) := by
  subst hby
  unfold stpQ5 at hs
  split at hs
  · next hd =>
    split at hs
    · cases hs; exact g_l2i X hx _ hd rfl (K_ _ X eT)
    · cases hs
  · next hd =>
    split at hs
    · split at hs
      · next hk => cases hs; exact g_dup X hx _ hd rfl ((den_cat (hk).1).trans (hk).2) (K_ _ X eT)
      · cases hs
    · cases hs
  · next hd =>
    split at hs
    · split at hs
      · next hk => cases hs; exact g_pop X hx _ hd rfl ((den_cat (hk).1).trans (hk).2) (K_ _ X eT)
      · cases hs
    · cases hs
  · next hd =>
    split at hs
    · split at hs
      · next hk => cases hs; exact g_dupX1 X hx _ hd rfl ((den_cat (hk.1).1).trans (hk.1).2) ((den_cat (hk.2).1).trans (hk.2).2) (K_ _ X eT)
      · cases hs
    · cases hs
  · next hd =>
    split at hs
    · split at hs
      · next hk => cases hs; exact g_dup2 X hx _ hd rfl ((den_cat (hk.1).1).trans (hk.1).2) ((den_cat (hk.2).1).trans (hk.2).2) (K_ _ X eT)
      · cases hs
    · cases hs
  · next hd =>
    split at hs
    · split at hs
      · next hk => cases hs; exact g_dupX2 X hx _ hd rfl ((den_cat (hk.1).1).trans (hk.1).2) ((den_cat (hk.2.1).1).trans (hk.2.1).2) ((den_cat (hk.2.2).1).trans (hk.2.2).2) (K_ _ X eT)
      · cases hs
    · cases hs
  · next o hd =>
    split at hs
    · next ho => cases hs; exact g_goto X hx _ hd ho rfl (K_ _ X eT)
    · cases hs
  · next o hd =>
    split at hs
    · split at hs
      · next ho =>
        split at hs
        · next hc => cases hs; exact g_if_eq X hx _ _ hd ho rfl rfl (fun _ => K_ _ X eT) (fun hc' => by exfalso; omega)
        · next hc => cases hs; exact g_if_eq X hx _ _ hd ho rfl rfl (fun hc' => by exfalso; omega) (fun _ => K_ _ X eT)
      · cases hs
    · cases hs
  · cases hs
def stpQ6 (code : ByteArray) (P : Pool) (ds : List AD) (pc : Nat) (L : Array Slot) (st : List Value) : Option (Nat × Array Slot × List Value) :=
  match decode code pc with
  | .ok (.if_icmp .eq o, 3) => match st with
    | .int y :: .int x :: r => if 0 ≤ (pc : Int) + o then (if x.toInt = y.toInt then some (((pc : Int) + o).toNat, L, r) else some (pc + 3, L, r)) else none
    | _ => none
  | .ok (.ifCond .ne o, 3) => match st with
    | .int x :: r => if 0 ≤ (pc : Int) + o then (if x.toInt ≠ 0 then some (((pc : Int) + o).toNat, L, r) else some (pc + 3, L, r)) else none
    | _ => none
  | .ok (.if_icmp .ne o, 3) => match st with
    | .int y :: .int x :: r => if 0 ≤ (pc : Int) + o then (if x.toInt ≠ y.toInt then some (((pc : Int) + o).toNat, L, r) else some (pc + 3, L, r)) else none
    | _ => none
  | .ok (.ifCond .lt o, 3) => match st with
    | .int x :: r => if 0 ≤ (pc : Int) + o then (if x.toInt < 0 then some (((pc : Int) + o).toNat, L, r) else some (pc + 3, L, r)) else none
    | _ => none
  | .ok (.if_icmp .lt o, 3) => match st with
    | .int y :: .int x :: r => if 0 ≤ (pc : Int) + o then (if x.toInt < y.toInt then some (((pc : Int) + o).toNat, L, r) else some (pc + 3, L, r)) else none
    | _ => none
  | .ok (.ifCond .ge o, 3) => match st with
    | .int x :: r => if 0 ≤ (pc : Int) + o then (if x.toInt ≥ 0 then some (((pc : Int) + o).toNat, L, r) else some (pc + 3, L, r)) else none
    | _ => none
  | .ok (.if_icmp .ge o, 3) => match st with
    | .int y :: .int x :: r => if 0 ≤ (pc : Int) + o then (if x.toInt ≥ y.toInt then some (((pc : Int) + o).toNat, L, r) else some (pc + 3, L, r)) else none
    | _ => none
  | .ok (.ifCond .gt o, 3) => match st with
    | .int x :: r => if 0 ≤ (pc : Int) + o then (if x.toInt > 0 then some (((pc : Int) + o).toNat, L, r) else some (pc + 3, L, r)) else none
    | _ => none
  | _ => none
theorem stpQ6_ok {A : Nat → Addr} {K : Nat → ClassId} {D : Nat → UInt64} {W : Nat → Value} {code : ByteArray} {own : String} {P : Pool} {n0 : Nat} {ds : List AD} (X : Stand p l e R s m args below meth c T locs cells slots) (hx : p.tables.exec = Jvm.exec) (hby : c.code = code) (hZ : Z.Warmed39 s.vm) (hown : s.vm.findClass own = some m.cls) (hP : PoolOK Z a0 own P) (eT : T.heap = h) (Y : YgF Z n0 h A K D W ds) (hD0 : D 0 = 0) {pc pc' : Nat} {L L' : Array Slot} {st st' : List Value} (hs : stpQ6 code P ds pc L st = some (pc', L', st'))
    (K_ : ∀ T', Stand p l e R s m args below meth c T' locs cells slots → T'.heap = h → Go p e below Ev T' (mkF m pc' (L'.map (denS A D W)) (st'.map (den A D W)))) : Go p e below Ev T (mkF m pc (L.map (denS A D W)) (st.map (den A D W))) := by
  subst hby
  unfold stpQ6 at hs
  split at hs
  · next o hd =>
    split at hs
    · split at hs
      · next ho =>
        split at hs
        · next hc => cases hs; exact g_ic_eq X hx _ _ hd ho rfl rfl (fun _ => K_ _ X eT) (fun hc' => by exfalso; omega)
        · next hc => cases hs; exact g_ic_eq X hx _ _ hd ho rfl rfl (fun hc' => by exfalso; omega) (fun _ => K_ _ X eT)
      · cases hs
    · cases hs
  · next o hd =>
    split at hs
    · split at hs
      · next ho =>
        split at hs
        · next hc => cases hs; exact g_if_ne X hx _ _ hd ho rfl rfl (fun _ => K_ _ X eT) (fun hc' => by exfalso; omega)
        · next hc => cases hs; exact g_if_ne X hx _ _ hd ho rfl rfl (fun hc' => by exfalso; omega) (fun _ => K_ _ X eT)
      · cases hs
    · cases hs
  · next o hd =>
    split at hs
    · split at hs
      · next ho =>
        split at hs
        · next hc => cases hs; exact g_ic_ne X hx _ _ hd ho rfl rfl (fun _ => K_ _ X eT) (fun hc' => by exfalso; omega)
        · next hc => cases hs; exact g_ic_ne X hx _ _ hd ho rfl rfl (fun hc' => by exfalso; omega) (fun _ => K_ _ X eT)
      · cases hs
    · cases hs
  · next o hd =>
    split at hs
    · split at hs
      · next ho =>
        split at hs
        · next hc => cases hs; exact g_if_lt X hx _ _ hd ho rfl rfl (fun _ => K_ _ X eT) (fun hc' => by exfalso; omega)
        · next hc => cases hs; exact g_if_lt X hx _ _ hd ho rfl rfl (fun hc' => by exfalso; omega) (fun _ => K_ _ X eT)
      · cases hs
    · cases hs
  · next o hd =>
    split at hs
    · split at hs
      · next ho =>
        split at hs
        · next hc => cases hs; exact g_ic_lt X hx _ _ hd ho rfl rfl (fun _ => K_ _ X eT) (fun hc' => by exfalso; omega)
        · next hc => cases hs; exact g_ic_lt X hx _ _ hd ho rfl rfl (fun hc' => by exfalso; omega) (fun _ => K_ _ X eT)
      · cases hs
    · cases hs
  · next o hd =>
    split at hs
    · split at hs
      · next ho =>
        split at hs
        · next hc => cases hs; exact g_if_ge X hx _ _ hd ho rfl rfl (fun _ => K_ _ X eT) (fun hc' => by exfalso; omega)
        · next hc => cases hs; exact g_if_ge X hx _ _ hd ho rfl rfl (fun hc' => by exfalso; omega) (fun _ => K_ _ X eT)
      · cases hs
    · cases hs
  · next o hd =>
    split at hs
    · split at hs
      · next ho =>
        split at hs
        · next hc => cases hs; exact g_ic_ge X hx _ _ hd ho rfl rfl (fun _ => K_ _ X eT) (fun hc' => by exfalso; omega)
        · next hc => cases hs; exact g_ic_ge X hx _ _ hd ho rfl rfl (fun hc' => by exfalso; omega) (fun _ => K_ _ X eT)
      · cases hs
    · cases hs
  · next o hd =>
    split at hs
    · split at hs
      · next ho =>
        split at hs
        · next hc => cases hs; exact g_if_gt X hx _ _ hd ho rfl rfl (fun _ => K_ _ X eT) (fun hc' => by exfalso; omega)
        · next hc => cases hs; exact g_if_gt X hx _ _ hd ho rfl rfl (fun hc' => by exfalso; omega) (fun _ => K_ _ X eT)
      · cases hs
    · cases hs
  · cases hs
def stpQ7 (code : ByteArray) (P : Pool) (ds : List AD) (pc : Nat) (L : Array Slot) (st : List Value) : Option (Nat × Array Slot × List Value) :=
  match decode code pc with
  | .ok (.if_icmp .gt o, 3) => match st with
    | .int y :: .int x :: r => if 0 ≤ (pc : Int) + o then (if x.toInt > y.toInt then some (((pc : Int) + o).toNat, L, r) else some (pc + 3, L, r)) else none
    | _ => none
  | .ok (.ifCond .le o, 3) => match st with
    | .int x :: r => if 0 ≤ (pc : Int) + o then (if x.toInt ≤ 0 then some (((pc : Int) + o).toNat, L, r) else some (pc + 3, L, r)) else none
    | _ => none
  | .ok (.if_icmp .le o, 3) => match st with
    | .int y :: .int x :: r => if 0 ≤ (pc : Int) + o then (if x.toInt ≤ y.toInt then some (((pc : Int) + o).toNat, L, r) else some (pc + 3, L, r)) else none
    | _ => none
  | .ok (.lcmp, 1) => match decode code (pc + 1), st with
    | .ok (.ifCond .eq o, 3), .long y :: .long x :: r => if 0 ≤ ((pc + 1 : Nat) : Int) + o then (if x.toInt = y.toInt then some ((((pc + 1 : Nat) : Int) + o).toNat, L, r) else some (pc + 4, L, r)) else none
    | .ok (.ifCond .ne o, 3), .long y :: .long x :: r => if 0 ≤ ((pc + 1 : Nat) : Int) + o then (if x.toInt ≠ y.toInt then some ((((pc + 1 : Nat) : Int) + o).toNat, L, r) else some (pc + 4, L, r)) else none
    | .ok (.ifCond .lt o, 3), .long y :: .long x :: r => if 0 ≤ ((pc + 1 : Nat) : Int) + o then (if x.toInt < y.toInt then some ((((pc + 1 : Nat) : Int) + o).toNat, L, r) else some (pc + 4, L, r)) else none
    | .ok (.ifCond .ge o, 3), .long y :: .long x :: r => if 0 ≤ ((pc + 1 : Nat) : Int) + o then (if x.toInt ≥ y.toInt then some ((((pc + 1 : Nat) : Int) + o).toNat, L, r) else some (pc + 4, L, r)) else none
    | .ok (.ifCond .gt o, 3), .long y :: .long x :: r => if 0 ≤ ((pc + 1 : Nat) : Int) + o then (if x.toInt > y.toInt then some ((((pc + 1 : Nat) : Int) + o).toNat, L, r) else some (pc + 4, L, r)) else none
    | .ok (.ifCond .le o, 3), .long y :: .long x :: r => if 0 ≤ ((pc + 1 : Nat) : Int) + o then (if x.toInt ≤ y.toInt then some ((((pc + 1 : Nat) : Int) + o).toNat, L, r) else some (pc + 4, L, r)) else none
    | _, _ => none
  | .ok (.getfield i, 3) => match st with
    | .ref a :: r => match P.1 i, ds[a]? with
      | some (c, j), some d => if d.1 = c then (match d.2.2[j]? with | some v => some (pc + 3, L, v :: r) | none => none) else none
      | _, _ => none
    | _ => none
  | .ok (.arraylength, 1) => match st with
    | .ref a :: r => match ds[a]? with
      | some d => if 64 ≤ d.1 then some (pc + 1, L, .int (Int32.ofNat d.2.1) :: r) else none
      | none => none
    | _ => none
  | .ok (.iaload, 1) => match st with
    | .int j :: .ref a :: r => match ds[a]? with
      | some d => if d.1 = 64 ∧ 0 ≤ j.toInt ∧ j.toInt < (d.2.1 : Int) ∧ d.2.1 < 2147483648 then (match d.2.2[j.toNatClampNeg]? with | some v => some (pc + 1, L, v :: r) | none => none) else none
      | none => none
    | _ => none
  | .ok (.daload, 1) => match st with
    | .int j :: .ref a :: r => match ds[a]? with
      | some d => if d.1 = 65 ∧ 0 ≤ j.toInt ∧ j.toInt < (d.2.1 : Int) ∧ d.2.1 < 2147483648 then (match d.2.2[j.toNatClampNeg]? with | some v => some (pc + 1, L, v :: r) | none => none) else none
      | none => none
    | _ => none
  | _ => none
theorem stpQ7_ok {A : Nat → Addr} {K : Nat → ClassId} {D : Nat → UInt64} {W : Nat → Value} {code : ByteArray} {own : String} {P : Pool} {n0 : Nat} {ds : List AD} (X : Stand p l e R s m args below meth c T locs cells slots) (hx : p.tables.exec = Jvm.exec) (hby : c.code = code) (hZ : Z.Warmed39 s.vm) (hown : s.vm.findClass own = some m.cls) (hP : PoolOK Z a0 own P) (eT : T.heap = h) (Y : YgF Z n0 h A K D W ds) (hD0 : D 0 = 0) {pc pc' : Nat} {L L' : Array Slot} {st st' : List Value} (hs : stpQ7 code P ds pc L st = some (pc', L', st'))
    (K_ : ∀ T', Stand p l e R s m args below meth c T' locs cells slots → T'.heap = h → Go p e below Ev T' (mkF m pc' (L'.map (denS A D W)) (st'.map (den A D W)))) : Go p e below Ev T (mkF m pc (L.map (denS A D W)) (st.map (den A D W))) := by
  subst hby
  unfold stpQ7 at hs
  split at hs
  · next o hd =>
    split at hs
    · split at hs
      · next ho =>
        split at hs
        · next hc => cases hs; exact g_ic_gt X hx _ _ hd ho rfl rfl (fun _ => K_ _ X eT) (fun hc' => by exfalso; omega)
        · next hc => cases hs; exact g_ic_gt X hx _ _ hd ho rfl rfl (fun hc' => by exfalso; omega) (fun _ => K_ _ X eT)
      · cases hs
    · cases hs
  · next o hd =>
    split at hs
    · split at hs
      · next ho =>
        split at hs
        · next hc => cases hs; exact g_if_le X hx _ _ hd ho rfl rfl (fun _ => K_ _ X eT) (fun hc' => by exfalso; omega)
        · next hc => cases hs; exact g_if_le X hx _ _ hd ho rfl rfl (fun hc' => by exfalso; omega) (fun _ => K_ _ X eT)
      · cases hs
    · cases hs
  · next o hd =>
    split at hs
    · split at hs
      · next ho =>
        split at hs
        · next hc => cases hs; exact g_ic_le X hx _ _ hd ho rfl rfl (fun _ => K_ _ X eT) (fun hc' => by exfalso; omega)
        · next hc => cases hs; exact g_ic_le X hx _ _ hd ho rfl rfl (fun hc' => by exfalso; omega) (fun _ => K_ _ X eT)
      · cases hs
    · cases hs
  · next hd =>
    split at hs
    · next o y x r hd2 =>
      split at hs
      · next ho =>
        split at hs
        · next hc => cases hs; exact g_lc_eq X hx _ _ _ hd rfl hd2 ho rfl rfl (fun _ => K_ _ X eT) (fun hc' => by exfalso; omega)
        · next hc => cases hs; exact g_lc_eq X hx _ _ _ hd rfl hd2 ho rfl rfl (fun hc' => by exfalso; omega) (fun _ => K_ _ X eT)
      · cases hs
    · next o y x r hd2 =>
      split at hs
      · next ho =>
        split at hs
        · next hc => cases hs; exact g_lc_ne X hx _ _ _ hd rfl hd2 ho rfl rfl (fun _ => K_ _ X eT) (fun hc' => by exfalso; omega)
        · next hc => cases hs; exact g_lc_ne X hx _ _ _ hd rfl hd2 ho rfl rfl (fun hc' => by exfalso; omega) (fun _ => K_ _ X eT)
      · cases hs
    · next o y x r hd2 =>
      split at hs
      · next ho =>
        split at hs
        · next hc => cases hs; exact g_lc_lt X hx _ _ _ hd rfl hd2 ho rfl rfl (fun _ => K_ _ X eT) (fun hc' => by exfalso; omega)
        · next hc => cases hs; exact g_lc_lt X hx _ _ _ hd rfl hd2 ho rfl rfl (fun hc' => by exfalso; omega) (fun _ => K_ _ X eT)
      · cases hs
    · next o y x r hd2 =>
      split at hs
      · next ho =>
        split at hs
        · next hc => cases hs; exact g_lc_ge X hx _ _ _ hd rfl hd2 ho rfl rfl (fun _ => K_ _ X eT) (fun hc' => by exfalso; omega)
        · next hc => cases hs; exact g_lc_ge X hx _ _ _ hd rfl hd2 ho rfl rfl (fun hc' => by exfalso; omega) (fun _ => K_ _ X eT)
      · cases hs
    · next o y x r hd2 =>
      split at hs
      · next ho =>
        split at hs
        · next hc => cases hs; exact g_lc_gt X hx _ _ _ hd rfl hd2 ho rfl rfl (fun _ => K_ _ X eT) (fun hc' => by exfalso; omega)
        · next hc => cases hs; exact g_lc_gt X hx _ _ _ hd rfl hd2 ho rfl rfl (fun hc' => by exfalso; omega) (fun _ => K_ _ X eT)
      · cases hs
    · next o y x r hd2 =>
      split at hs
      · next ho =>
        split at hs
        · next hc => cases hs; exact g_lc_le X hx _ _ _ hd rfl hd2 ho rfl rfl (fun _ => K_ _ X eT) (fun hc' => by exfalso; omega)
        · next hc => cases hs; exact g_lc_le X hx _ _ _ hd rfl hd2 ho rfl rfl (fun hc' => by exfalso; omega) (fun _ => K_ _ X eT)
      · cases hs
    · cases hs
  · next i hd =>
    split at hs
    · split at hs
      · next c j d e1 e2 =>
        split at hs
        · next hc =>
          split at hs
          · next v hv =>
            cases hs
            obtain ⟨hlt, f, R0, host, hf, w, via⟩ := hP.1 i c j e1
            have H := (Y.1 _ _ e2).2
            unfold HdF at H
            rw [if_pos (by rw [hc]; exact hlt)] at H
            have F := H.2 j v f hv (by rw [hc]; exact hf)
            obtain ⟨T', X', e', st'⟩ := getF X hx hZ hown (host := host) w via eT F (g := mkF m pc _ _) rfl rfl hd
            exact (K_ T' X' e').on st'
          · cases hs
        · cases hs
      · cases hs
    · cases hs
  · next hd =>
    split at hs
    · split at hs
      · next d e2 =>
        split at hs
        · next hc =>
          cases hs
          have H := (Y.1 _ _ e2).2
          unfold HdF at H
          rw [if_neg (Nat.not_lt.mpr hc)] at H
          exact g_len X hx hZ eT H.2.1 _ hd rfl (K_ _ X eT)
        · cases hs
      · cases hs
    · cases hs
  · next hd =>
    split at hs
    · next j a r =>
      split at hs
      · next d e2 =>
        split at hs
        · next hc =>
          split at hs
          · next v hv =>
            cases hs
            have H := (Y.1 _ _ e2).2
            unfold HdF at H
            rw [if_neg (by omega)] at H
            have hz := Int32.toInt_ofNat_small (n := d.2.1) hc.2.2.2
            have hg : (d.2.2.map (den A D W)).getD j.toNatClampNeg (own_adv d.1) = den A D W v := by rw [List.getD_eq_getElem?_getD, List.getElem?_map, hv]; rfl
            have V := H.2.1
            rw [hc.1] at V hg
            exact g_iaload X hx hZ eT V hc.2.1 (by omega) hg _ hd rfl (K_ _ X eT)
          · cases hs
        · cases hs
      · cases hs
    · cases hs
  · next hd =>
    split at hs
    · next j a r =>
      split at hs
      · next d e2 =>
        split at hs
        · next hc =>
          split at hs
          · next v hv =>
            cases hs
            have H := (Y.1 _ _ e2).2
            unfold HdF at H
            rw [if_neg (by omega)] at H
            have hz := Int32.toInt_ofNat_small (n := d.2.1) hc.2.2.2
            have hg : (d.2.2.map (den A D W)).getD j.toNatClampNeg (own_adv d.1) = den A D W v := by rw [List.getD_eq_getElem?_getD, List.getElem?_map, hv]; rfl
            have V := H.2.1
            rw [hc.1] at V hg
            exact g_daload X hx hZ eT V hc.2.1 (by omega) hg _ hd rfl (K_ _ X eT)
          · cases hs
        · cases hs
      · cases hs
    · cases hs
  · cases hs
def stpQ8 (code : ByteArray) (P : Pool) (ds : List AD) (pc : Nat) (L : Array Slot) (st : List Value) : Option (Nat × Array Slot × List Value) :=
  match decode code pc with
  | .ok (.baload, 1) => match st with
    | .int j :: .ref a :: r => match ds[a]? with
      | some d => if d.1 = 66 ∧ 0 ≤ j.toInt ∧ j.toInt < (d.2.1 : Int) ∧ d.2.1 < 2147483648 then (match d.2.2[j.toNatClampNeg]? with | some v => some (pc + 1, L, v :: r) | none => none) else none
      | none => none
    | _ => none
  | .ok (.aaload, 1) => match st with
    | .int j :: .ref a :: r => match ds[a]? with
      | some d => if (d.1 = 67 ∨ d.1 = 68) ∧ 0 ≤ j.toInt ∧ j.toInt < (d.2.1 : Int) ∧ d.2.1 < 2147483648 then (match d.2.2[j.toNatClampNeg]? with | some v => some (pc + 1, L, v :: r) | none => none) else none
      | none => none
    | _ => none
  | .ok (.checkcast i, 3) => match st with
    | .ref a :: r => match P.2.1 i, ds[a]? with
      | some C, some d => if 64 ≤ d.1 ∧ own_adn d.1 = C then some (pc + 3, L, .ref a :: r) else none
      | _, _ => none
    | _ => none
  | _ => none
theorem stpQ8_ok {A : Nat → Addr} {K : Nat → ClassId} {D : Nat → UInt64} {W : Nat → Value} {code : ByteArray} {own : String} {P : Pool} {n0 : Nat} {ds : List AD} (X : Stand p l e R s m args below meth c T locs cells slots) (hx : p.tables.exec = Jvm.exec) (hby : c.code = code) (hZ : Z.Warmed39 s.vm) (hown : s.vm.findClass own = some m.cls) (hP : PoolOK Z a0 own P) (eT : T.heap = h) (Y : YgF Z n0 h A K D W ds) (hD0 : D 0 = 0) {pc pc' : Nat} {L L' : Array Slot} {st st' : List Value} (hs : stpQ8 code P ds pc L st = some (pc', L', st'))
    (K_ : ∀ T', Stand p l e R s m args below meth c T' locs cells slots → T'.heap = h → Go p e below Ev T' (mkF m pc' (L'.map (denS A D W)) (st'.map (den A D W)))) : Go p e below Ev T (mkF m pc (L.map (denS A D W)) (st.map (den A D W))) := by
  subst hby
  unfold stpQ8 at hs
  split at hs
  · next hd =>
    split at hs
    · next j a r =>
      split at hs
      · next d e2 =>
        split at hs
        · next hc =>
          split at hs
          · next v hv =>
            cases hs
            have H := (Y.1 _ _ e2).2
            unfold HdF at H
            rw [if_neg (by omega)] at H
            have hz := Int32.toInt_ofNat_small (n := d.2.1) hc.2.2.2
            have hg : (d.2.2.map (den A D W)).getD j.toNatClampNeg (own_adv d.1) = den A D W v := by rw [List.getD_eq_getElem?_getD, List.getElem?_map, hv]; rfl
            have V := H.2.1
            rw [hc.1] at V hg
            exact g_zaload X hx hZ eT V hc.2.1 (by omega) hg _ hd rfl (K_ _ X eT)
          · cases hs
        · cases hs
      · cases hs
    · cases hs
  · next hd =>
    split at hs
    · next j a r =>
      split at hs
      · next d e2 =>
        split at hs
        · next hc =>
          split at hs
          · next v hv =>
            cases hs
            have H := (Y.1 _ _ e2).2
            unfold HdF at H
            rw [if_neg (by omega)] at H
            have hz := Int32.toInt_ofNat_small (n := d.2.1) hc.2.2.2
            have hg : (d.2.2.map (den A D W)).getD j.toNatClampNeg (own_adv d.1) = den A D W v := by rw [List.getD_eq_getElem?_getD, List.getElem?_map, hv]; rfl
            exact g_aaload X hx hZ eT H.2.1 (by rcases hc.1 with q | q <;> rw [q] <;> rfl) hc.2.1 (by omega) hg _ hd rfl (K_ _ X eT)
          · cases hs
        · cases hs
      · cases hs
    · cases hs
  · next i hd =>
    split at hs
    · split at hs
      · next C d e1 e2 =>
        split at hs
        · next hc =>
          cases hs
          have H := (Y.1 _ _ e2).2
          unfold HdF at H
          rw [if_neg (Nat.not_lt.mpr hc.1)] at H
          have E := H.1
          rw [hc.2] at E
          refine g_cast X hx hZ hown (hP.2.1 i C e1) eT (Ins.self E) _ hd rfl ?_
          intro T' X' e'
          exact K_ T' X' e'
        · cases hs
      · cases hs
    · cases hs
  · cases hs
def stpQ (code : ByteArray) (P : Pool) (ds : List AD) (pc : Nat) (L : Array Slot) (st : List Value) : Option (Nat × Array Slot × List Value) :=
  match stpQ0 code P ds pc L st with
  | some r => some r
  | none => match stpQ1 code P ds pc L st with
  | some r => some r
  | none => match stpQ2 code P ds pc L st with
  | some r => some r
  | none => match stpQ3 code P ds pc L st with
  | some r => some r
  | none => match stpQ4 code P ds pc L st with
  | some r => some r
  | none => match stpQ5 code P ds pc L st with
  | some r => some r
  | none => match stpQ6 code P ds pc L st with
  | some r => some r
  | none => match stpQ7 code P ds pc L st with
  | some r => some r
  | none => match stpQ8 code P ds pc L st with
  | some r => some r
  | none => none
theorem stpQ_ok {A : Nat → Addr} {K : Nat → ClassId} {D : Nat → UInt64} {W : Nat → Value} {code : ByteArray} {own : String} {P : Pool} {n0 : Nat} {ds : List AD} (X : Stand p l e R s m args below meth c T locs cells slots) (hx : p.tables.exec = Jvm.exec) (hby : c.code = code) (hZ : Z.Warmed39 s.vm) (hown : s.vm.findClass own = some m.cls) (hP : PoolOK Z a0 own P) (eT : T.heap = h) (Y : YgF Z n0 h A K D W ds) (hD0 : D 0 = 0) {pc pc' : Nat} {L L' : Array Slot} {st st' : List Value} (hs : stpQ code P ds pc L st = some (pc', L', st'))
    (K_ : ∀ T', Stand p l e R s m args below meth c T' locs cells slots → T'.heap = h → Go p e below Ev T' (mkF m pc' (L'.map (denS A D W)) (st'.map (den A D W)))) : Go p e below Ev T (mkF m pc (L.map (denS A D W)) (st.map (den A D W))) := by
  unfold stpQ at hs
  split at hs
  · next r h1 => cases hs; exact stpQ0_ok X hx hby hZ hown hP eT Y hD0 h1 K_
  split at hs
  · next r h1 => cases hs; exact stpQ1_ok X hx hby hZ hown hP eT Y hD0 h1 K_
  split at hs
  · next r h1 => cases hs; exact stpQ2_ok X hx hby hZ hown hP eT Y hD0 h1 K_
  split at hs
  · next r h1 => cases hs; exact stpQ3_ok X hx hby hZ hown hP eT Y hD0 h1 K_
  split at hs
  · next r h1 => cases hs; exact stpQ4_ok X hx hby hZ hown hP eT Y hD0 h1 K_
  split at hs
  · next r h1 => cases hs; exact stpQ5_ok X hx hby hZ hown hP eT Y hD0 h1 K_
  split at hs
  · next r h1 => cases hs; exact stpQ6_ok X hx hby hZ hown hP eT Y hD0 h1 K_
  split at hs
  · next r h1 => cases hs; exact stpQ7_ok X hx hby hZ hown hP eT Y hD0 h1 K_
  split at hs
  · next r h1 => cases hs; exact stpQ8_ok X hx hby hZ hown hP eT Y hD0 h1 K_
  cases hs
end OwnExec
section OwnExecW
variable {p : Program} {l : Launch} {e : Env} {R : Room} {s : State} {m : MethodId} {args : Array Value} {below : List Frame} {meth : Method} {c : Code} {T : State} {locs : List Loc} {cells slots : Nat} {Z : State} {a0 : Array Value} {h h' : Heap} {Ev : State → Outcome → Prop}
section
variable {A : Nat → Addr} {K : Nat → ClassId} {D : Nat → UInt64} {W : Nat → Value} {n0 : Nat} {ds : List AD} {a b : Addr} {k : ClassId} {d d' : AD} {sl : Nat} {v : Value}
theorem HdF.ext (H : HdF Z h a k A D W d) (E : Ext h h') : HdF Z h' a k A D W d := by
  unfold HdF at H ⊢
  split at H
  · rename_i q; rw [if_pos q]; exact ⟨H.1.ext E, fun j v f h1 h2 => (H.2 j v f h1 h2).ext E⟩
  · rename_i q; rw [if_neg q]; exact ⟨H.1.ext E, H.2.1.ext E, H.2.2⟩
theorem HdF.other (H : HdF Z h b k A D W d) (Wh : Wr h h' a sl v) (q : b ≠ a) : HdF Z h' b k A D W d := by
  unfold HdF at H ⊢
  split at H
  · rename_i q'; rw [if_pos q']; exact ⟨H.1.wr Wh, fun j v f h1 h2 => (H.2 j v f h1 h2).other Wh (Or.inl q)⟩
  · rename_i q'; rw [if_neg q']; exact ⟨H.1.wr Wh, H.2.1.other Wh q, H.2.2⟩
theorem HdF.keep {ws : List Addr} (H : HdF Z h a k A D W d) (Kp : Keep h h' ws) (q : a ∉ ws) : HdF Z h' a k A D W d := by
  unfold HdF at H ⊢
  split at H
  · rename_i q'; rw [if_pos q']; exact ⟨H.1.keep Kp, fun j v f h1 h2 => (H.2 j v f h1 h2).keep Kp q⟩
  · rename_i q'; rw [if_neg q']; exact ⟨H.1.keep Kp, H.2.1.keep Kp q, H.2.2⟩
theorem HdF.lt (H : HdF Z h a k A D W d) : a < h.size := by
  unfold HdF at H
  split at H
  · exact H.1.lt
  · exact H.1.lt
theorem HdF.arr (H : HdF Z h a k A D W d) (q : 64 ≤ d.1) : Exa Z h a (own_adn d.1) ∧ Arv Z h a k (own_aty d.1) (Int32.ofNat d.2.1) (d.2.2.map (den A D W)) (own_adv d.1) ∧ (d.1 = 67 → OvrA Z k .int "[I") ∧ (d.1 = 68 → OvrA Z k .double "[D") := by
  unfold HdF at H
  rwa [if_neg (Nat.not_lt.mpr q)] at H
theorem YgF.wr (Y : YgF Z n0 h A K D W ds) {i : Nat} (e : ds[i]? = some d) (Wh : Wr h h' (A i) sl v) (H : HdF Z h' (A i) (K i) A D W d') : YgF Z n0 h' A K D W (ds.set i d') := by
  have hi : i < ds.length := (List.getElem?_eq_some_iff.mp e).1
  refine ⟨fun j x hj => ?_, fun x y hx hy q => Y.2 x y (by simpa using hx) (by simpa using hy) q⟩
  rw [List.getElem?_set] at hj
  split at hj
  · rename_i q
    subst q
    first
    | cases hj
    | (rw [if_pos hi] at hj; cases hj)
    exact ⟨(Y.1 _ _ e).1, H⟩
  · rename_i q
    have hjl : j < ds.length := (List.getElem?_eq_some_iff.mp hj).1
    exact ⟨(Y.1 _ _ hj).1, (Y.1 _ _ hj).2.other Wh fun z => q (Y.2 _ _ hi hjl z.symm)⟩
theorem YgF.wrA (Y : YgF Z n0 h A K D W ds) {i : Nat} {cd z : Nat} {vs vs' : List Value} (e : ds[i]? = some (cd, z, vs)) (q : 64 ≤ cd) (Wh : Wr h h' (A i) sl v) (V : Arv Z h' (A i) (K i) (own_aty cd) (Int32.ofNat z) (vs'.map (den A D W)) (own_adv cd)) : YgF Z n0 h' A K D W (ds.set i (cd, z, vs')) := by
  have H := (Y.1 _ _ e).2.arr q
  refine Y.wr e Wh ?_
  unfold HdF
  rw [if_neg (Nat.not_lt.mpr q)]
  exact ⟨H.1.wr Wh, V, H.2.2⟩
def ClsOK (Z : State) (a0 : Array Value) : Prop := ∀ c, c < 64 → Lds Z a0 (own_cn c) (own_fls c) ∧ ((own_fls c).map (·.2.1)).Pairwise (· ≠ ·)
theorem YgF.wrF (Y : YgF Z n0 h A K D W ds) (CL : ClsOK Z a0) {i j cd z : Nat} {vs : List Value} {f : String × String × String} {w : Value} (e : ds[i]? = some (cd, z, vs)) (q : cd < 64) (hf : (own_fls cd)[j]? = some f) (Wh : Wr h h' (A i) (Jvm.RoadKit.slotOf Z f.1 f.2.1 f.2.2) (den A D W w)) (F : ∃ v, Fld Z h (A i) f.1 f.2.1 f.2.2 v) : YgF Z n0 h' A K D W (ds.set i (cd, z, vs.set j w)) := by
  obtain ⟨L, hn⟩ := CL cd q
  have H := (Y.1 _ _ e).2
  unfold HdF at H
  rw [if_pos q] at H
  refine Y.wr e Wh ?_
  unfold HdF
  rw [if_pos q]
  refine ⟨H.1.wr Wh, fun x u g hx hg => ?_⟩
  rw [List.getElem?_set] at hx
  split at hx
  · rename_i q1
    subst q1
    cases hf.symm.trans hg
    split at hx
    · cases hx
      obtain ⟨v0, F⟩ := F
      exact F.same Wh
    · cases hx
  · rename_i q1
    have L1 := L _ (List.mem_of_getElem? hg)
    have L2 := L _ (List.mem_of_getElem? hf)
    obtain ⟨t1, p1⟩ := L1.2
    obtain ⟨t2, p2⟩ := L2.2
    obtain ⟨g1, r1⟩ := List.getElem?_eq_some_iff.mp hg
    obtain ⟨g2, r2⟩ := List.getElem?_eq_some_iff.mp hf
    have P' := List.pairwise_iff_getElem.mp hn
    have ne : g.2.1 ≠ f.2.1 := by
      rcases Nat.lt_or_gt_of_ne q1 with y | y
      · have := P' j x (by simpa using g2) (by simpa using g1) y
        intro z
        apply this
        simp [r1, r2, z]
      · have := P' x j (by simpa using g1) (by simpa using g2) y
        intro z
        apply this
        simp [r1, r2, z]
    exact (H.2 x u g hx hg).other Wh (Or.inr (slot_ne L1.1 L2.1 ne p1 p2))
end
def Sit (p : Program) (l : Launch) (e : Env) (R : Room) (s : State) (m : MethodId) (args : Array Value) (below : List Frame) (meth : Method) (c : Code) (Z : State) (n0 nB : Nat) (hB : Heap) (T : State) (A : Nat → Addr) (K : Nat → ClassId) (D : Nat → UInt64) (W : Nat → Value) (ds : List AD) (cells slots : Nat) : Prop :=
  ∃ (h : Heap) (locs : List Loc), Stand p l e R s m args below meth c T locs cells slots ∧ T.heap = h ∧ YgF Z n0 h A K D W ds ∧ Keep hB h ((List.range nB).map A) ∧ (∀ i, nB ≤ i → i < ds.length → hB.size ≤ A i) ∧ Fr n0 locs ∧ n0 ≤ h.size ∧ nB ≤ ds.length
theorem own_kw {A : Nat → Addr} {nB i : Nat} {hB : Heap} {n : Nat} (hsz : ∀ i, nB ≤ i → i < n → hB.size ≤ A i) (hi : i < n) : A i ∈ (List.range nB).map A ∨ hB.size ≤ A i := by
  by_cases q : i < nB
  · exact Or.inl (List.mem_map_of_mem (List.mem_range.mpr q))
  · exact Or.inr (hsz i (Nat.le_of_not_lt q) hi)
def own_tyOK : FieldType → Value → Bool
  | .int, .int _ => true
  | .double, .double _ => true
  | .array _, .ref _ => true
  | .array _, .null => true
  | .object _, .ref _ => true
  | .object _, .null => true
  | _, _ => false
def PutOK (Z : State) (a0 : Array Value) (own mn : String) (pw : Nat → Option FieldType) (P : Pool) : Prop := ∀ i ty, pw i = some ty → ∀ cc j, P.1 i = some (cc, j) → ∃ f kk, (own_fls cc)[j]? = some f ∧ ((Jvm.Cond.lays (own_cn cc) f.1 f.2.1 f.2.2).before a0 Z = true ∨ ((Jvm.Cond.laysFinal (own_cn cc) f.1 f.2.1 f.2.2).before a0 Z = true ∧ own = f.1 ∧ mn = "<init>")) ∧ (Jvm.Cond.instantiable (own_cn cc) kk).before a0 Z = true ∧ parseFieldDescriptor f.2.2 = some ty
def stpW (code : ByteArray) (P : Pool) (pw : Nat → Option FieldType) (ds : List AD) (pc : Nat) (L : Array Slot) (st : List Value) : Option (Nat × Array Slot × List Value × List AD) :=
  match decode code pc with
  | .ok (.putfield i, 3) => match st with
    | v :: .ref a :: r => match pw i, P.1 i, ds[a]? with
      | some ty, some (cc, j), some d => if d.1 = cc ∧ own_tyOK ty v = true ∧ j < d.2.2.length then some (pc + 3, L, r, ds.set a (d.1, d.2.1, d.2.2.set j v)) else none
      | _, _, _ => none
    | _ => none
  | .ok (.iastore, 1) => match st with
    | .int v :: .int j :: .ref a :: r => match ds[a]? with
      | some d => if d.1 = 64 ∧ 0 ≤ j.toInt ∧ j.toInt < (d.2.1 : Int) ∧ d.2.1 < 2147483648 ∧ j.toNatClampNeg < d.2.2.length then some (pc + 1, L, r, ds.set a (d.1, d.2.1, d.2.2.set j.toNatClampNeg (.int v))) else none
      | none => none
    | _ => none
  | .ok (.dastore, 1) => match st with
    | .double v :: .int j :: .ref a :: r => match ds[a]? with
      | some d => if d.1 = 65 ∧ 0 ≤ j.toInt ∧ j.toInt < (d.2.1 : Int) ∧ d.2.1 < 2147483648 ∧ j.toNatClampNeg < d.2.2.length then some (pc + 1, L, r, ds.set a (d.1, d.2.1, d.2.2.set j.toNatClampNeg (.double v))) else none
      | none => none
    | _ => none
  | .ok (.bastore, 1) => match st with
    | .int v :: .int j :: .ref a :: r => match ds[a]? with
      | some d => if d.1 = 66 ∧ 0 ≤ j.toInt ∧ j.toInt < (d.2.1 : Int) ∧ d.2.1 < 2147483648 ∧ j.toNatClampNeg < d.2.2.length then some (pc + 1, L, r, ds.set a (d.1, d.2.1, d.2.2.set j.toNatClampNeg (.int (nar .boolean v)))) else none
      | none => none
    | _ => none
  | .ok (.aastore, 1) => match st with
    | .ref v :: .int j :: .ref a :: r => match ds[a]?, ds[v]? with
      | some d, some dv => if ((d.1 = 67 ∧ dv.1 = 64) ∨ (d.1 = 68 ∧ dv.1 = 65)) ∧ 0 ≤ j.toInt ∧ j.toInt < (d.2.1 : Int) ∧ d.2.1 < 2147483648 ∧ j.toNatClampNeg < d.2.2.length then some (pc + 1, L, r, ds.set a (d.1, d.2.1, d.2.2.set j.toNatClampNeg (.ref v))) else none
      | _, _ => none
    | _ => none
  | _ => none
theorem own_ji {j : Int32} (h : 0 ≤ j.toInt) : j.toInt = (j.toNatClampNeg : Int) := by simp only [Int32.toNatClampNeg]; omega
theorem stpW_ok {A : Nat → Addr} {K : Nat → ClassId} {D : Nat → UInt64} {W : Nat → Value} {code : ByteArray} {own : String} {P : Pool} {pw : Nat → Option FieldType} {n0 nB : Nat} {hB : Heap} {ds ds' : List AD} (hx : p.tables.exec = Jvm.exec) (hby : c.code = code) (hZ : Z.Warmed39 s.vm) (hown : s.vm.findClass own = some m.cls) (hP : PoolOK Z a0 own P) (hW : PutOK Z a0 own meth.name pw P) (CL : ClsOK Z a0) (S : Sit p l e R s m args below meth c Z n0 nB hB T A K D W ds cells slots) {pc pc' : Nat} {L L' : Array Slot} {st st' : List Value} (hs : stpW code P pw ds pc L st = some (pc', L', st', ds'))
    (K_ : ∀ T', Sit p l e R s m args below meth c Z n0 nB hB T' A K D W ds' cells slots → Go p e below Ev T' (mkF m pc' (L'.map (denS A D W)) (st'.map (den A D W)))) : Go p e below Ev T (mkF m pc (L.map (denS A D W)) (st.map (den A D W))) := by
  subst hby
  obtain ⟨h, locs, X, eT, Y, Kp, hsz, N, hn, hnB⟩ := S
  unfold stpW at hs
  split at hs
  · next i hd =>
    split at hs
    · next v a r =>
      split at hs
      · next ty cc j d e0 e1 e2 =>
        split at hs
        · next hc =>
          cases hs
          obtain ⟨hlt, f, R0, host, hf, w, via⟩ := hP.1 i cc j e1
          obtain ⟨f', kk, hf', hL, wi, hty⟩ := hW i ty e0 cc j e1
          cases hf.symm.trans hf'
          have hal : a < ds.length := (List.getElem?_eq_some_iff.mp e2).1
          have H := (Y.1 _ _ e2).2
          unfold HdF at H
          rw [if_pos (by rw [hc.1]; exact hlt)] at H
          have hv0 : d.2.2[j]? = some (d.2.2[j]'hc.2.2) := List.getElem?_eq_getElem hc.2.2
          have F := H.2 j _ f hv0 (by rw [hc.1]; exact hf)
          have E := H.1
          rw [hc.1] at E
          have nf : narrow ty (den A D W v) = den A D W v ∧ fits ty (den A D W v) = true := by
            have q := hc.2.1
            cases ty <;> cases v <;> first | (simp [own_tyOK] at q; done) | exact ⟨rfl, rfl⟩
          obtain ⟨T', h', X', e', Wh, st'⟩ := putF X hx hZ hown (host := host) w via eT F E hL wi hty nf.1 nf.2 (g := mkF m pc _ _) rfl rfl hd
          refine (K_ T' ⟨h', _, X', e', ?_, Kp.wr Wh (own_kw hsz hal), ?_, Fr.snoc X' N (Y.1 _ _ e2).1, by rw [Wh.size]; exact hn, by simpa using hnB⟩).on st'
          · exact Y.wrF CL (cd := d.1) (z := d.2.1) (vs := d.2.2) e2 (by rw [hc.1]; exact hlt) (by rw [hc.1]; exact hf) Wh ⟨_, F⟩
          · intro i hi hl
            exact hsz i hi (by simpa using hl)
        · cases hs
      · cases hs
    · cases hs
  · next hd =>
    split at hs
    · next v j a r =>
      split at hs
      · next d e2 =>
        split at hs
        · next hc =>
          cases hs
          have hal : a < ds.length := (List.getElem?_eq_some_iff.mp e2).1
          have V := ((Y.1 _ _ e2).2.arr (by omega)).2.1
          have hz := Int32.toInt_ofNat_small (n := d.2.1) hc.2.2.2.1
          rw [hc.1] at V
          refine g_iastore X hx hZ eT V j.toNatClampNeg (own_ji hc.2.1) (by omega) (by simpa using hc.2.2.2.2) _ hd rfl ?_
          intro T' h' X' e' Wh V'
          refine K_ T' ⟨h', _, X', e', ?_, Kp.wr Wh (own_kw hsz hal), ?_, Fr.snoc X' N (Y.1 _ _ e2).1, by rw [Wh.size]; exact hn, by simpa using hnB⟩
          · exact Y.wrA (cd := d.1) (z := d.2.1) (vs := d.2.2) e2 (by omega) Wh (by rw [hc.1, List.map_set]; exact V')
          · intro i hi hl
            exact hsz i hi (by simpa using hl)
        · cases hs
      · cases hs
    · cases hs
  · next hd =>
    split at hs
    · next v j a r =>
      split at hs
      · next d e2 =>
        split at hs
        · next hc =>
          cases hs
          have hal : a < ds.length := (List.getElem?_eq_some_iff.mp e2).1
          have V := ((Y.1 _ _ e2).2.arr (by omega)).2.1
          have hz := Int32.toInt_ofNat_small (n := d.2.1) hc.2.2.2.1
          rw [hc.1] at V
          refine g_dastore X hx hZ eT V j.toNatClampNeg (own_ji hc.2.1) (by omega) (by simpa using hc.2.2.2.2) _ hd rfl ?_
          intro T' h' X' e' Wh V'
          refine K_ T' ⟨h', _, X', e', ?_, Kp.wr Wh (own_kw hsz hal), ?_, Fr.snoc X' N (Y.1 _ _ e2).1, by rw [Wh.size]; exact hn, by simpa using hnB⟩
          · exact Y.wrA (cd := d.1) (z := d.2.1) (vs := d.2.2) e2 (by omega) Wh (by rw [hc.1, List.map_set]; exact V')
          · intro i hi hl
            exact hsz i hi (by simpa using hl)
        · cases hs
      · cases hs
    · cases hs
  · next hd =>
    split at hs
    · next v j a r =>
      split at hs
      · next d e2 =>
        split at hs
        · next hc =>
          cases hs
          have hal : a < ds.length := (List.getElem?_eq_some_iff.mp e2).1
          have V := ((Y.1 _ _ e2).2.arr (by omega)).2.1
          have hz := Int32.toInt_ofNat_small (n := d.2.1) hc.2.2.2.1
          rw [hc.1] at V
          refine g_zastore X hx hZ eT V j.toNatClampNeg (own_ji hc.2.1) (by omega) (by simpa using hc.2.2.2.2) _ rfl _ hd rfl ?_
          intro T' h' X' e' Wh V'
          refine K_ T' ⟨h', _, X', e', ?_, Kp.wr Wh (own_kw hsz hal), ?_, Fr.snoc X' N (Y.1 _ _ e2).1, by rw [Wh.size]; exact hn, by simpa using hnB⟩
          · exact Y.wrA (cd := d.1) (z := d.2.1) (vs := d.2.2) e2 (by omega) Wh (by rw [hc.1, List.map_set]; exact V')
          · intro i hi hl
            exact hsz i hi (by simpa using hl)
        · cases hs
      · cases hs
    · cases hs
  · next hd =>
    split at hs
    · next v j a r =>
      split at hs
      · next d dv e2 e3 =>
        split at hs
        · next hc =>
          cases hs
          have hal : a < ds.length := (List.getElem?_eq_some_iff.mp e2).1
          have HA := (Y.1 _ _ e2).2.arr (by omega)
          have HV := (Y.1 _ _ e3).2.arr (by omega)
          have hz := Int32.toInt_ofNat_small (n := d.2.1) hc.2.2.2.1
          have V := HA.2.1
          rcases hc.1 with ⟨q1, q2⟩ | ⟨q1, q2⟩
          · rw [q1] at V
            have I := HV.1
            rw [q2] at I
            refine g_aastoreA X hx hZ eT V (HA.2.2.1 q1) (Ins.self I) j.toNatClampNeg (own_ji hc.2.1) (by omega) (by simpa using hc.2.2.2.2) _ hd rfl ?_
            intro T' h' X' e' Wh V'
            refine K_ T' ⟨h', _, X', e', ?_, Kp.wr Wh (own_kw hsz hal), ?_, Fr.snoc X' N (Y.1 _ _ e2).1, by rw [Wh.size]; exact hn, by simpa using hnB⟩
            · exact Y.wrA (cd := d.1) (z := d.2.1) (vs := d.2.2) e2 (by omega) Wh (by rw [q1, List.map_set]; exact V')
            · intro i hi hl
              exact hsz i hi (by simpa using hl)
          · rw [q1] at V
            have I := HV.1
            rw [q2] at I
            refine g_aastoreA X hx hZ eT V (HA.2.2.2 q1) (Ins.self I) j.toNatClampNeg (own_ji hc.2.1) (by omega) (by simpa using hc.2.2.2.2) _ hd rfl ?_
            intro T' h' X' e' Wh V'
            refine K_ T' ⟨h', _, X', e', ?_, Kp.wr Wh (own_kw hsz hal), ?_, Fr.snoc X' N (Y.1 _ _ e2).1, by rw [Wh.size]; exact hn, by simpa using hnB⟩
            · exact Y.wrA (cd := d.1) (z := d.2.1) (vs := d.2.2) e2 (by omega) Wh (by rw [q1, List.map_set]; exact V')
            · intro i hi hl
              exact hsz i hi (by simpa using hl)
        · cases hs
      · cases hs
    · cases hs
  · cases hs
end OwnExecW
section OwnExecN
variable {p : Program} {l : Launch} {e : Env} {R : Room} {s : State} {m : MethodId} {args : Array Value} {below : List Frame} {meth : Method} {c : Code} {T : State} {locs : List Loc} {cells slots : Nat} {Z : State} {a0 : Array Value} {h h' : Heap} {Ev : State → Outcome → Prop}
def okV (nA nD : Nat) : Value → Bool
  | .ref i => decide (i < nA)
  | .double j => decide (j.toNat < nD) || decide (4096 ≤ j.toNat)
  | .float j => decide (j.toNat < nD) || decide (4096 ≤ j.toNat)
  | _ => true
def okS (nA nD : Nat) : Slot → Bool
  | .val v => okV nA nD v
  | _ => true
def okD (nA nD : Nat) (d : AD) : Bool := d.2.2.all (okV nA nD)
def okSt (nA nD : Nat) (L : Array Slot) (st : List Value) (ds : List AD) : Bool := L.toList.all (okS nA nD) && (st.all (okV nA nD) && ds.all (okD nA nD))
section
variable {A A' : Nat → Addr} {K K' : Nat → ClassId} {D D' : Nat → UInt64} {W : Nat → Value} {nA nD n0 : Nat} {ds : List AD} {a : Addr} {k : ClassId} {d : AD}
theorem den_eq (hA : ∀ i, i < nA → A' i = A i) (hD : ∀ j, j < nD → D' j = D j) {v : Value} (h : okV nA nD v = true) : den A' D' W v = den A D W v := by
  cases v with
  | ref i => simp only [okV, decide_eq_true_eq] at h; simp only [den, hA i h]
  | double j =>
    simp only [okV, Bool.or_eq_true, decide_eq_true_eq] at h
    simp only [den, dX]
    split
    · rename_i q
      rw [hD _ (by omega)]
    · rfl
  | float j =>
    simp only [okV, Bool.or_eq_true, decide_eq_true_eq] at h
    simp only [den, dX]
    split
    · rename_i q
      rw [hD _ (by omega)]
    · rfl
  | _ => rfl
theorem denS_eq (hA : ∀ i, i < nA → A' i = A i) (hD : ∀ j, j < nD → D' j = D j) {v : Slot} (h : okS nA nD v = true) : denS A' D' W v = denS A D W v := by
  cases v with
  | val v => simp only [denS, den_eq hA hD h]
  | _ => rfl
theorem denL_eq (hA : ∀ i, i < nA → A' i = A i) (hD : ∀ j, j < nD → D' j = D j) {L : Array Slot} (h : L.toList.all (okS nA nD) = true) : L.map (denS A' D' W) = L.map (denS A D W) := by
  refine Array.map_congr_left fun x hx => denS_eq hA hD ?_
  exact List.all_eq_true.mp h x (by simpa using hx)
theorem denst_eq (hA : ∀ i, i < nA → A' i = A i) (hD : ∀ j, j < nD → D' j = D j) {L : List Value} (h : L.all (okV nA nD) = true) : L.map (den A' D' W) = L.map (den A D W) := List.map_congr_left fun x hx => den_eq hA hD (List.all_eq_true.mp h x hx)
theorem HdF.env (hA : ∀ i, i < nA → A' i = A i) (hD : ∀ j, j < nD → D' j = D j) (hd : okD nA nD d = true) (H : HdF Z h a k A D W d) : HdF Z h a k A' D' W d := by
  unfold HdF at H ⊢
  split at H
  · rename_i q
    rw [if_pos q]
    refine ⟨H.1, fun j v f h1 h2 => ?_⟩
    rw [den_eq hA hD (List.all_eq_true.mp hd v (List.mem_of_getElem? h1))]
    exact H.2 j v f h1 h2
  · rename_i q
    rw [if_neg q, denst_eq hA hD hd]
    exact H
theorem YgF.ext (Y : YgF Z n0 h A K D W ds) (E : Ext h h') : YgF Z n0 h' A K D W ds := ⟨fun i d hi => ⟨(Y.1 i d hi).1, (Y.1 i d hi).2.ext E⟩, Y.2⟩
theorem YgF.env (Y : YgF Z n0 h A K D W ds) (hA : ∀ i, i < ds.length → A' i = A i) (hK : ∀ i, i < ds.length → K' i = K i) (hD : ∀ j, j < nD → D' j = D j) (hd : ds.all (okD ds.length nD) = true) : YgF Z n0 h A' K' D' W ds := by
  refine ⟨fun i d hi => ?_, fun i j hi hj q => Y.2 i j hi hj (by rw [← hA i hi, ← hA j hj]; exact q)⟩
  have hl : i < ds.length := (List.getElem?_eq_some_iff.mp hi).1
  rw [hA i hl, hK i hl]
  exact ⟨(Y.1 i d hi).1, (Y.1 i d hi).2.env hA hD (List.all_eq_true.mp hd d (List.mem_of_getElem? hi))⟩
theorem YgF.push (Y : YgF Z n0 h A K D W ds) (hd : ds.all (okD ds.length nD) = true) (g : a = h.size) (z : n0 ≤ h.size) (E : Ext h h') (H : HdF Z h' a k (fun i => if i = ds.length then a else A i) D W d) : YgF Z n0 h' (fun i => if i = ds.length then a else A i) (fun i => if i = ds.length then k else K i) D W (ds ++ [d]) := by
  have hA : ∀ i, i < ds.length → (if i = ds.length then a else A i) = A i := fun i hi => if_neg (by omega)
  have hK : ∀ i, i < ds.length → (if i = ds.length then k else K i) = K i := fun i hi => if_neg (by omega)
  have Y' := (Y.env (A' := fun i => if i = ds.length then a else A i) (K' := fun i => if i = ds.length then k else K i) (nD := nD) hA hK (fun _ _ => rfl) hd).ext E
  refine ⟨fun i x hi => ?_, fun i j hi hj q => ?_⟩
  · by_cases q : i < ds.length
    · rw [List.getElem?_append_left q] at hi
      exact Y'.1 i x hi
    · rw [List.getElem?_append_right (by omega)] at hi
      have e0 : i = ds.length := by
        have := (List.getElem?_eq_some_iff.mp hi).1
        simp at this
        omega
      subst e0
      simp only [Nat.sub_self, List.getElem?_cons_zero, Option.some.injEq] at hi
      subst hi
      simp only [if_true]
      exact ⟨by rw [g]; exact z, H⟩
  · rw [List.length_append, List.length_singleton] at hi hj
    have lt : ∀ i, i < ds.length → A i < h.size := fun i hi => (Y.1 i _ (List.getElem?_eq_getElem hi)).2.lt
    by_cases q1 : i = ds.length <;> by_cases q2 : j = ds.length
    · omega
    · exfalso
      have := lt j (by omega)
      simp only [q1, if_true, if_neg q2] at q
      rw [g] at q
      exact absurd q (Nat.ne_of_gt this)
    · exfalso
      have := lt i (by omega)
      simp only [q2, if_true, if_neg q1] at q
      rw [g] at q
      exact absurd q (Nat.ne_of_lt this)
    · simp only [if_neg q1, if_neg q2] at q
      exact Y.2 i j (by omega) (by omega) q
end
def NewOK (Z : State) (a0 : Array Value) (own : String) (nw : Nat → Option (Nat × Nat)) : Prop := ∀ i cc n, nw i = some (cc, n) → cc < 64 ∧ (Jvm.Cond.classLink own i (own_cn cc)).before a0 Z = true ∧ (Jvm.Cond.instantiable (own_cn cc) n).before a0 Z = true ∧ (Jvm.Cond.initialized (own_cn cc)).before a0 Z = true ∧ ∀ (j : Nat) (v : Value) (f : String × String × String), (own_dvs cc)[j]? = some v → (own_fls cc)[j]? = some f → Laid Z a0 (own_cn cc) f.1 f.2.1 f.2.2 ∧ ∃ t, parseFieldDescriptor f.2.2 = some t ∧ ∀ (A : Nat → Addr) (D : Nat → UInt64) (W : Nat → Value), D 0 = 0 → den A D W v = defaultValue t
def ArrOK (Z : State) (a0 : Array Value) : Prop := (Jvm.Cond.arrayClass .int).before a0 Z = true ∧ (Jvm.Cond.arrayClass .double).before a0 Z = true ∧ (Jvm.Cond.arrayClass .boolean).before a0 Z = true ∧ (Jvm.Cond.arrayOver (.array .int)).before a0 Z = true ∧ (Jvm.Cond.arrayOver (.array .double)).before a0 Z = true
def own_atc : ArrayType → Option Nat
  | .int => some 64
  | .double => some 65
  | .boolean => some 66
  | _ => none
def own_pd (n : Nat) : Nat := if n ≤ 20 then n else 4
def own_dfv (cd : Nat) : Value := if cd = 65 then .double 0 else if cd = 67 ∨ cd = 68 then .null else .int 0
def stpN (code : ByteArray) (P : Pool) (nw : Nat → Option (Nat × Nat)) (nD : Nat) (ds : List AD) (pc : Nat) (L : Array Slot) (st : List Value) : Option (Nat × List Value × AD × Nat) :=
  match decode code pc with
  | .ok (.new i, 3) => match nw i with
    | some (cc, n) => if okSt ds.length nD L st ds = true then some (pc + 3, .ref ds.length :: st, (cc, 0, own_dvs cc), n) else none
    | none => none
  | .ok (.newarray t, 2) => match own_atc t, st with
    | some cd, .int n :: r => if okSt ds.length nD L r ds = true ∧ 0 ≤ n.toInt ∧ n.toInt ≤ 1000 then some (pc + 2, .ref ds.length :: r, (cd, n.toNatClampNeg, List.replicate (own_pd n.toNatClampNeg) (own_dfv cd)), n.toNatClampNeg) else none
    | _, _ => none
  | .ok (.anewarray i, 3) => match P.2.1 i, st with
    | some C, .int n :: r => if okSt ds.length nD L r ds = true ∧ 0 ≤ n.toInt ∧ n.toInt ≤ 1000 ∧ (C = "[I" ∨ C = "[D") then some (pc + 3, .ref ds.length :: r, (if C = "[I" then 67 else 68, n.toNatClampNeg, List.replicate (own_pd n.toNatClampNeg) .null), n.toNatClampNeg) else none
    | _, _ => none
  | _ => none
theorem own_ofn {n : Int32} (h : 0 ≤ n.toInt) : Int32.ofNat n.toNatClampNeg = n := by
  refine Int32.toInt_inj.mp ?_
  have r := rng32 n
  rw [Int32.toInt_ofNat_small (by simp only [Int32.toNatClampNeg]; omega)]
  exact (own_ji h).symm
theorem own_rep {D : Nat → UInt64} {A : Nat → Addr} {W : Nat → Value} (hD0 : D 0 = 0) (cd n : Nat) : (List.replicate n (own_dfv cd)).map (den A D W) = List.replicate n (own_adv cd) ∨ ¬ (64 ≤ cd ∧ cd ≤ 68) := by
  by_cases h : 64 ≤ cd ∧ cd ≤ 68
  · left
    rw [List.map_replicate]
    have q : cd = 64 ∨ cd = 65 ∨ cd = 66 ∨ cd = 67 ∨ cd = 68 := by omega
    rcases q with rfl | rfl | rfl | rfl | rfl
    · rfl
    · show List.replicate n (Value.double (dX D 0)) = List.replicate n (Value.double 0)
      rw [show dX D 0 = 0 from hD0]
    · rfl
    · rfl
    · rfl
  · exact Or.inr h
theorem stpN_ok {A : Nat → Addr} {K : Nat → ClassId} {D : Nat → UInt64} {W : Nat → Value} {code : ByteArray} {own : String} {P : Pool} {nw : Nat → Option (Nat × Nat)} {n0 nB nD : Nat} {hB : Heap} {ds : List AD} {d : AD} {w : Nat} (hx : p.tables.exec = Jvm.exec) (hby : c.code = code) (hZ : Z.Warmed39 s.vm) (hown : s.vm.findClass own = some m.cls) (hP : PoolOK Z a0 own P) (hN : NewOK Z a0 own nw) (hA : ArrOK Z a0) (hD0 : D 0 = 0) (S : Sit p l e R s m args below meth c Z n0 nB hB T A K D W ds cells slots) (hc : cells + 1 ≤ R.cells) (hl : slots + w ≤ R.slots) {pc pc' : Nat} {L : Array Slot} {st st' : List Value} (hs : stpN code P nw nD ds pc L st = some (pc', st', d, w))
    (K_ : ∀ T' A' K', (∀ i, i < ds.length → A' i = A i ∧ K' i = K i) → Sit p l e R s m args below meth c Z n0 nB hB T' A' K' D W (ds ++ [d]) (cells + 1) (slots + w) → Go p e below Ev T' (mkF m pc' (L.map (denS A' D W)) (st'.map (den A' D W)))) : Go p e below Ev T (mkF m pc (L.map (denS A D W)) (st.map (den A D W))) := by
  subst hby
  obtain ⟨h, locs, X, eT, Y, Kp, hsz, N, hn, hnB⟩ := S
  have go : ∀ (T' : State) (h' : Heap) (a : Addr) (k : ClassId) (st1 : List Value), a = h.size → Stand p l e R s m args below meth c T' locs (cells + 1) (slots + w) → T'.heap = h' → Ext h h' → okSt ds.length nD L st1 ds = true → HdF Z h' a k (fun i => if i = ds.length then a else A i) D W d → st' = .ref ds.length :: st1 → Go p e below Ev T' (mkF m pc' (L.map (denS A D W)) (.ref a :: st1.map (den A D W))) := by
    intro T' h' a k st1 g X' e' E ok H es
    subst es
    simp only [okSt, Bool.and_eq_true] at ok
    have hA : ∀ i, i < ds.length → (if i = ds.length then a else A i) = A i := fun i hi => if_neg (by omega)
    have G := K_ T' (fun i => if i = ds.length then a else A i) (fun i => if i = ds.length then k else K i) (fun i hi => ⟨hA i hi, if_neg (by omega)⟩) ⟨h', locs, X', e', Y.push ok.2.2 g hn E H, ?_, ?_, N, Nat.le_trans hn E.1, by rw [List.length_append]; omega⟩
    · rw [denL_eq (nD := nD) hA (fun _ _ => rfl) ok.1, List.map_cons, denst_eq (nD := nD) hA (fun _ _ => rfl) ok.2.1] at G
      simpa [den] using G
    · have e1 : (List.range nB).map (fun i => if i = ds.length then a else A i) = (List.range nB).map A := List.map_congr_left fun i hi => hA i (by have := List.mem_range.mp hi; omega)
      rw [e1]
      exact Kp.ext E
    · intro i hi hil
      rw [List.length_append, List.length_singleton] at hil
      by_cases q : i = ds.length
      · simp only [q, if_true, g]
        exact Kp.1
      · simp only [if_neg q]
        exact hsz i hi (by omega)
  unfold stpN at hs
  split at hs
  · next i hd =>
    split at hs
    · next cc n e0 =>
      split at hs
      · next ok =>
        obtain ⟨hlt, w1, w2, w3, dv⟩ := hN i cc n e0
        cases hs
        refine g_new X hx hZ hown w1 w2 w3 eT _ hd rfl hc hl ?_
        intro T' h' a g X' e' E Ea Dv
        refine go T' h' a 0 _ g X' e' E ok ?_ rfl
        unfold HdF
        rw [if_pos hlt]
        refine ⟨Ea, fun j v f h1 h2 => ?_⟩
        obtain ⟨ld, t, ht, hv⟩ := dv j v f h1 h2
        rw [hv _ _ _ hD0]
        exact Dv ld ht
      · cases hs
    · cases hs
  · next t hd =>
    split at hs
    · next cd n r ht =>
      split at hs
      · next ok =>
        cases hs
        have hcap : n.toInt ≤ (n.toNatClampNeg : Int) := by rw [own_ji ok.2.1]; exact Int.le_refl _
        have fin : ∀ (T' : State) (h' : Heap) (k : ClassId) (a : Addr), a = h.size → Stand p l e R s m args below meth c T' locs (cells + 1) (slots + n.toNatClampNeg) → T'.heap = h' → Ext h h' → Arv Z h' a k (own_aty cd) n [] (own_adv cd) → Exa Z h' a (own_adn cd) → 64 ≤ cd ∧ cd ≤ 66 → Go p e below Ev T' (mkF m (pc + 2) (L.map (denS A D W)) (.ref a :: r.map (den A D W))) := by
          intro T' h' k a g X' e' E V Ea hcd
          refine go T' h' a k r g X' e' E ok.1 ?_ rfl
          unfold HdF
          rw [if_neg (by omega)]
          refine ⟨Ea, ?_, fun q => by omega, fun q => by omega⟩
          show Arv Z h' a k (own_aty cd) (Int32.ofNat n.toNatClampNeg) ((List.replicate (own_pd n.toNatClampNeg) (own_dfv cd)).map (den _ D W)) (own_adv cd)
          rw [own_ofn ok.2.1]
          rcases own_rep (A := fun i => if i = ds.length then a else A i) (W := W) hD0 cd (own_pd n.toNatClampNeg) with q | q
          · rw [q]; exact V.pad (pad_rep [] _ _)
          · omega
        cases t <;> simp only [own_atc] at ht <;> first | (cases ht; done) | skip
        all_goals
          cases ht
          first
          | exact g_newP X hx hZ (aty := .boolean) hA.2.2.1 eT ok.2.1 (cap := n.toNatClampNeg) hcap (by simp only [Int32.toNatClampNeg]; omega) _ hd rfl hc hl (ad := "[Z") (by decide) (fun T' h' k a g X' e' E V Ea => fin T' h' k a g X' e' E V Ea (by decide))
          | exact g_newP X hx hZ (aty := .int) hA.1 eT ok.2.1 (cap := n.toNatClampNeg) hcap (by simp only [Int32.toNatClampNeg]; omega) _ hd rfl hc hl (ad := "[I") (by decide) (fun T' h' k a g X' e' E V Ea => fin T' h' k a g X' e' E V Ea (by decide))
          | exact g_newP X hx hZ (aty := .double) hA.2.1 eT ok.2.1 (cap := n.toNatClampNeg) hcap (by simp only [Int32.toNatClampNeg]; omega) _ hd rfl hc hl (ad := "[D") (by decide) (fun T' h' k a g X' e' E V Ea => fin T' h' k a g X' e' E V Ea (by decide))
      · cases hs
    · cases hs
  · next i hd =>
    split at hs
    · next C n r hC =>
      split at hs
      · next ok =>
        cases hs
        have hcap : n.toInt ≤ (n.toNatClampNeg : Int) := by rw [own_ji ok.2.1]; exact Int.le_refl _
        have wl := hP.2.1 i C hC
        rcases ok.2.2.2 with rfl | rfl
        · refine g_anewA X hx hZ hown (ty := .int) (C := "[I") (by decide) wl hA.2.2.2.1 eT ok.2.1 (cap := n.toNatClampNeg) hcap (by simp only [Int32.toNatClampNeg]; omega) _ hd rfl hc hl (ad := "[[I") (by decide) ?_
          intro T' h' k a g X' e' E V Ea O
          refine go T' h' a k r g X' e' E ok.1 ?_ rfl
          show HdF Z h' a k _ D W (67, n.toNatClampNeg, List.replicate (own_pd n.toNatClampNeg) .null)
          unfold HdF
          rw [if_neg (show ¬ (67 : Nat) < 64 by decide)]
          refine ⟨Ea, ?_, fun _ => O, fun q => absurd q (show ¬ (67 : Nat) = 68 by decide)⟩
          show Arv Z h' a k (.array .int) (Int32.ofNat n.toNatClampNeg) ((List.replicate (own_pd n.toNatClampNeg) Value.null).map (den _ D W)) .null
          rw [own_ofn ok.2.1, List.map_replicate]
          exact V.pad (pad_rep [] _ _)
        · refine g_anewA X hx hZ hown (ty := .double) (C := "[D") (by decide) wl hA.2.2.2.2 eT ok.2.1 (cap := n.toNatClampNeg) hcap (by simp only [Int32.toNatClampNeg]; omega) _ hd rfl hc hl (ad := "[[D") (by decide) ?_
          intro T' h' k a g X' e' E V Ea O
          refine go T' h' a k r g X' e' E ok.1 ?_ rfl
          show HdF Z h' a k _ D W (68, n.toNatClampNeg, List.replicate (own_pd n.toNatClampNeg) .null)
          unfold HdF
          rw [if_neg (show ¬ (68 : Nat) < 64 by decide)]
          refine ⟨Ea, ?_, fun q => absurd q (show ¬ (68 : Nat) = 67 by decide), fun _ => O⟩
          show Arv Z h' a k (.array .double) (Int32.ofNat n.toNatClampNeg) ((List.replicate (own_pd n.toNatClampNeg) Value.null).map (den _ D W)) .null
          rw [own_ofn ok.2.1, List.map_replicate]
          exact V.pad (pad_rep [] _ _)
      · cases hs
    · cases hs
  · cases hs
end OwnExecN
section OwnExecC
open Jvm.Free.Fl (NoNaN64)
variable {p : Program} {l : Launch} {e : Env} {R : Room} {s : State} {m : MethodId} {args : Array Value} {below : List Frame} {meth : Method} {c : Code} {T : State} {locs : List Loc} {cells slots : Nat} {Z : State} {a0 : Array Value} {h h' : Heap} {Ev : State → Outcome → Prop}
abbrev Op := Nat × Nat × Nat × Int32
def own_dv (cd : Nat) (x y : UInt64) : UInt64 :=
  if cd = 0 then FP.dadd x y else if cd = 1 then FP.dsub x y else if cd = 2 then FP.dmul x y else if cd = 3 then FP.ddiv x y else if cd = 4 then x &&& 0x7fffffffffffffff else if cd = 5 then Jvm.Native.java_lang_Math.nans.pick64 true x y else if cd = 6 then FP.dneg x else FP.i2d (iW x)
def vc1 (o : Op) (D : Nat → UInt64) : Prop :=
  if o.1 ≤ 3 then NoNaN64 (own_dv o.1 (dX D o.2.1) (dX D o.2.2.1))
  else if o.1 = 4 then NoNaN64 (dX D o.2.1)
  else if o.1 = 5 then NoNaN64 (dX D o.2.1) ∧ NoNaN64 (dX D o.2.2.1)
  else if o.1 ≤ 7 then True
  else if o.1 = 10 then cmpValue (FP.dcmp (dX D o.2.1) (dX D o.2.2.1)) .l = o.2.2.2
  else if o.1 = 11 then cmpValue (FP.dcmp (dX D o.2.1) (dX D o.2.2.1)) .g = o.2.2.2
  else if o.1 = 12 then (if o.2.2.2 = 0 then (cmpValue (FP.dcmp (dX D o.2.1) (dX D o.2.2.1)) .l).toInt = 0 else (cmpValue (FP.dcmp (dX D o.2.1) (dX D o.2.2.1)) .l).toInt ≠ 0)
  else if o.2.2.2 = 0 then (iW (dX D o.2.1)).toInt = 0 else (iW (dX D o.2.1)).toInt ≠ 0
def nxD (o : Op) (n : Nat) (D : Nat → UInt64) : Nat → UInt64 := if o.1 ≤ 7 then (fun i => if i = n then own_dv o.1 (dX D o.2.1) (dX D o.2.2.1) else D i) else D
def nxN (o : Op) (n : Nat) : Nat := if o.1 ≤ 7 then n + 1 else n
def okv : List Op → Nat → (Nat → UInt64) → Prop
  | [], _, _ => True
  | o :: t, n, D => vc1 o D ∧ okv t (nxN o n) (nxD o n D)
def finD : List Op → Nat → (Nat → UInt64) → Nat → UInt64
  | [], _, D => D
  | o :: t, n, D => finD t (nxN o n) (nxD o n D)
def finN : List Op → Nat → Nat
  | [], n => n
  | o :: t, n => finN t (nxN o n)
theorem okv_app : ∀ (a b : List Op) (n : Nat) (D : Nat → UInt64), okv (a ++ b) n D ↔ okv a n D ∧ okv b (finN a n) (finD a n D)
  | [], b, n, D => by simp [okv, finN, finD]
  | o :: t, b, n, D => by
    show vc1 o D ∧ okv (t ++ b) (nxN o n) (nxD o n D) ↔ (vc1 o D ∧ okv t (nxN o n) (nxD o n D)) ∧ okv b (finN t (nxN o n)) (finD t (nxN o n) (nxD o n D))
    rw [okv_app t b]
    constructor
    · rintro ⟨h1, h2, h3⟩; exact ⟨⟨h1, h2⟩, h3⟩
    · rintro ⟨⟨h1, h2⟩, h3⟩; exact ⟨h1, h2, h3⟩
theorem finD_app : ∀ (a b : List Op) (n : Nat) (D : Nat → UInt64), finD (a ++ b) n D = finD b (finN a n) (finD a n D)
  | [], _, _, _ => rfl
  | o :: t, b, n, D => finD_app t b (nxN o n) (nxD o n D)
theorem nxN_le (o : Op) (n : Nat) : n ≤ nxN o n := by unfold nxN; split <;> omega
theorem finN_le : ∀ (t : List Op) (n : Nat), n ≤ finN t n
  | [], n => Nat.le_refl n
  | o :: t, n => Nat.le_trans (nxN_le o n) (finN_le t (nxN o n))
theorem nxD_lt (o : Op) (n : Nat) (D : Nat → UInt64) {i : Nat} (h : i < n) : nxD o n D i = D i := by
  unfold nxD
  split
  · exact if_neg (by omega)
  · rfl
theorem finD_lt : ∀ (t : List Op) (n : Nat) (D : Nat → UInt64) {i : Nat}, i < n → finD t n D i = D i
  | [], _, _, _, _ => rfl
  | o :: t, n, D, i, h => (finD_lt t (nxN o n) (nxD o n D) (Nat.lt_of_lt_of_le h (nxN_le o n))).trans (nxD_lt o n D h)
def pA (π : List Nat) (n nc i : Nat) : Nat := if i < nc then π.getD i 0 else n + (i - nc)
def pD (δ : List Nat) (n nc j : Nat) : Nat := if j < 4096 then (if j < nc then δ.getD j 0 else n + (j - nc)) else j
def sb (π δ : List Nat) (ω : List Value) (n nc nD mD : Nat) : Value → Value
  | .ref i => .ref (pA π n nc i)
  | .double j => .double (UInt64.ofNat (pD δ nD mD j.toNat))
  | .retAddr k => ω.getD k .null
  | .int x => .int x
  | .long x => .long x
  | .float j => if pD δ nD mD j.toNat < 4096 then .float (UInt32.ofNat (pD δ nD mD j.toNat)) else .int (iW (UInt64.ofNat (pD δ nD mD j.toNat)))
  | .null => .null
def sbO (δ : List Nat) (nD mD : Nat) (o : Op) : Op := (o.1, pD δ nD mD o.2.1, pD δ nD mD o.2.2.1, o.2.2.2)
def sbD (π δ : List Nat) (ω : List Value) (n nc nD mD : Nat) (d : AD) : AD := (d.1, d.2.1, d.2.2.map (sb π δ ω n nc nD mD))
theorem dX_of {D : Nat → UInt64} {x : Nat} (h : x < 18446744073709551616) : dX D (UInt64.ofNat x).toNat = dX D x := by
  rw [UInt64.toNat_ofNat_of_lt' (by show x < 18446744073709551616; exact h)]
def stpD (code : ByteArray) (nD : Nat) (ds : List AD) (orc : List Int32) (pc : Nat) (L : Array Slot) (st : List Value) : Option (Nat × List Value × Op × List Int32) :=
  match decode code pc with
  | .ok (.dadd, 1) => match st with
    | .double y :: .double x :: r => if okSt ds.length nD L r ds = true ∧ nD < 4096 then some (pc + 1, .double (UInt64.ofNat nD) :: r, (0, x.toNat, y.toNat, 0), orc) else none
    | _ => none
  | .ok (.dsub, 1) => match st with
    | .double y :: .double x :: r => if okSt ds.length nD L r ds = true ∧ nD < 4096 then some (pc + 1, .double (UInt64.ofNat nD) :: r, (1, x.toNat, y.toNat, 0), orc) else none
    | _ => none
  | .ok (.dmul, 1) => match st with
    | .double y :: .double x :: r => if okSt ds.length nD L r ds = true ∧ nD < 4096 then some (pc + 1, .double (UInt64.ofNat nD) :: r, (2, x.toNat, y.toNat, 0), orc) else none
    | _ => none
  | .ok (.ddiv, 1) => match st with
    | .double y :: .double x :: r => if okSt ds.length nD L r ds = true ∧ nD < 4096 then some (pc + 1, .double (UInt64.ofNat nD) :: r, (3, x.toNat, y.toNat, 0), orc) else none
    | _ => none
  | .ok (.dneg, 1) => match st with
    | .double x :: r => if okSt ds.length nD L r ds = true ∧ nD < 4096 then some (pc + 1, .double (UInt64.ofNat nD) :: r, (6, x.toNat, 0, 0), orc) else none
    | _ => none
  | .ok (.dcmp .g, 1) => match st, orc with
    | .double y :: .double x :: r, z :: oc => some (pc + 1, .int z :: r, (11, x.toNat, y.toNat, z), oc)
    | _, _ => none
  | .ok (.dcmp .l, 1) => match decode code (pc + 1) with
    | .ok (.ifCond .eq o, 3) => match st, orc with
      | .double y :: .double x :: r, z :: oc => if 0 ≤ ((pc + 1 : Nat) : Int) + o then some (if z = 0 then (((pc + 1 : Nat) : Int) + o).toNat else pc + 4, r, (12, x.toNat, y.toNat, z), oc) else none
      | _, _ => none
    | .ok (.ifCond .ne o, 3) => match st, orc with
      | .double y :: .double x :: r, z :: oc => if 0 ≤ ((pc + 1 : Nat) : Int) + o then some (if z = 0 then pc + 4 else (((pc + 1 : Nat) : Int) + o).toNat, r, (12, x.toNat, y.toNat, z), oc) else none
      | _, _ => none
    | _ => match st, orc with
      | .double y :: .double x :: r, z :: oc => some (pc + 1, .int z :: r, (10, x.toNat, y.toNat, z), oc)
      | _, _ => none
  | .ok (.i2d, 1) => match st with
    | .float x :: r => if okSt ds.length nD L r ds = true ∧ nD < 4096 then some (pc + 1, .double (UInt64.ofNat nD) :: r, (7, x.toNat, 0, 0), orc) else none
    | _ => none
  | .ok (.ifCond .eq o, 3) => match st, orc with
    | .float x :: r, z :: oc => if 0 ≤ (pc : Int) + o then some (if z = 0 then ((pc : Int) + o).toNat else pc + 3, r, (13, x.toNat, 0, z), oc) else none
    | _, _ => none
  | .ok (.ifCond .ne o, 3) => match st, orc with
    | .float x :: r, z :: oc => if 0 ≤ (pc : Int) + o then some (if z = 0 then pc + 3 else ((pc : Int) + o).toNat, r, (13, x.toNat, 0, z), oc) else none
    | _, _ => none
  | _ => none
theorem own_dnew {A : Nat → Addr} {D : Nat → UInt64} {W : Nat → Value} {nD : Nat} {x : UInt64} (h : nD < 4096) : den A (fun i => if i = nD then x else D i) W (.double (UInt64.ofNat nD)) = .double x := by
  simp only [den]
  rw [dX_of (by omega)]
  simp [dX, h]
theorem Sit.dbl {n0 nB nD : Nat} {hB : Heap} {A : Nat → Addr} {K : Nat → ClassId} {D D' : Nat → UInt64} {W : Nat → Value} {ds : List AD} (S : Sit p l e R s m args below meth c Z n0 nB hB T A K D W ds cells slots) (hD : ∀ j, j < nD → D' j = D j) (hd : ds.all (okD ds.length nD) = true) : Sit p l e R s m args below meth c Z n0 nB hB T A K D' W ds cells slots := by
  obtain ⟨h, locs, X, eT, Y, r⟩ := S
  exact ⟨h, locs, X, eT, Y.env (fun _ _ => rfl) (fun _ _ => rfl) hD hd, r⟩
theorem stpD_ok {A : Nat → Addr} {K : Nat → ClassId} {D : Nat → UInt64} {W : Nat → Value} {code : ByteArray} {n0 nB nD : Nat} {hB : Heap} {ds : List AD} {o : Op} {orc orc' : List Int32} (hx : p.tables.exec = Jvm.exec) (hby : c.code = code) (S : Sit p l e R s m args below meth c Z n0 nB hB T A K D W ds cells slots) {pc pc' : Nat} {L : Array Slot} {st st' : List Value} (hs : stpD code nD ds orc pc L st = some (pc', st', o, orc')) (hv : vc1 o D)
    (K_ : Sit p l e R s m args below meth c Z n0 nB hB T A K (nxD o nD D) W ds cells slots → Go p e below Ev T (mkF m pc' (L.map (denS A (nxD o nD D) W)) (st'.map (den A (nxD o nD D) W)))) : Go p e below Ev T (mkF m pc (L.map (denS A D W)) (st.map (den A D W))) := by
  subst hby
  have S0 := S
  obtain ⟨h, locs, X, eT, Y, -⟩ := S
  have fin : ∀ (x : UInt64) (r : List Value) (q : Nat), okSt ds.length nD L r ds = true → nD < 4096 → (∀ i, nxD o nD D i = if i = nD then x else D i) → pc' = q → st' = .double (UInt64.ofNat nD) :: r → Go p e below Ev T (mkF m q (L.map (denS A D W)) (.double x :: r.map (den A D W))) := by
    intro x r q ok hn hx1 e1 e2
    subst e1 e2
    have hD : ∀ j, j < nD → nxD o nD D j = D j := fun j hj => nxD_lt o nD D hj
    simp only [okSt, Bool.and_eq_true] at ok
    have G := K_ (S0.dbl hD ok.2.2)
    rw [denL_eq (nA := ds.length) (fun _ _ => rfl) hD ok.1, List.map_cons, denst_eq (nA := ds.length) (fun _ _ => rfl) hD ok.2.1] at G
    have hf : nxD o nD D = fun i => if i = nD then x else D i := funext hx1
    rw [hf, own_dnew hn] at G
    exact G
  unfold stpD at hs
  split at hs
  · next hd =>
    split at hs
    · next y x r =>
      split at hs
      · next ok => cases hs; exact g_dadd X hx _ hd rfl hv (fin _ r _ ok.1 ok.2 (fun i => rfl) rfl rfl)
      · cases hs
    · cases hs
  · next hd =>
    split at hs
    · next y x r =>
      split at hs
      · next ok => cases hs; exact g_dsub X hx _ hd rfl hv (fin _ r _ ok.1 ok.2 (fun i => rfl) rfl rfl)
      · cases hs
    · cases hs
  · next hd =>
    split at hs
    · next y x r =>
      split at hs
      · next ok => cases hs; exact g_dmul X hx _ hd rfl hv (fin _ r _ ok.1 ok.2 (fun i => rfl) rfl rfl)
      · cases hs
    · cases hs
  · next hd =>
    split at hs
    · next y x r =>
      split at hs
      · next ok => cases hs; exact g_ddiv X hx _ hd rfl hv (fin _ r _ ok.1 ok.2 (fun i => rfl) rfl rfl)
      · cases hs
    · cases hs
  · next hd =>
    split at hs
    · next x r =>
      split at hs
      · next ok => cases hs; exact g_dneg X hx _ hd rfl (fin _ r _ ok.1 ok.2 (fun i => rfl) rfl rfl)
      · cases hs
    · cases hs
  · next hd =>
    split at hs
    · next y x r z oc => cases hs; exact g_dcmp X hx _ hd rfl hv (K_ S0)
    · cases hs
  · next hd =>
    split at hs
    · next o' hd2 =>
      split at hs
      · next y x r z oc =>
        split at hs
        · next ho =>
          cases hs
          have hv' : if z = 0 then (cmpValue (FP.dcmp (dX D x.toNat) (dX D y.toNat)) .l).toInt = 0 else (cmpValue (FP.dcmp (dX D x.toNat) (dX D y.toNat)) .l).toInt ≠ 0 := hv
          refine g_dcmp X hx _ hd rfl rfl (g_if_eq X hx _ _ hd2 ho rfl rfl (fun q => ?_) (fun q => ?_))
          · by_cases hz : z = 0
            · have G := K_ S0; rw [if_pos hz] at G; exact G
            · rw [if_neg hz] at hv'; exact absurd q hv'
          · by_cases hz : z = 0
            · rw [if_pos hz] at hv'; exact absurd hv' q
            · have G := K_ S0; rw [if_neg hz] at G; exact G
        · cases hs
      · cases hs
    · next o' hd2 =>
      split at hs
      · next y x r z oc =>
        split at hs
        · next ho =>
          cases hs
          have hv' : if z = 0 then (cmpValue (FP.dcmp (dX D x.toNat) (dX D y.toNat)) .l).toInt = 0 else (cmpValue (FP.dcmp (dX D x.toNat) (dX D y.toNat)) .l).toInt ≠ 0 := hv
          refine g_dcmp X hx _ hd rfl rfl (g_if_ne X hx _ _ hd2 ho rfl rfl (fun q => ?_) (fun q => ?_))
          · by_cases hz : z = 0
            · rw [if_pos hz] at hv'; exact absurd hv' q
            · have G := K_ S0; rw [if_neg hz] at G; exact G
          · by_cases hz : z = 0
            · have G := K_ S0; rw [if_pos hz] at G; exact G
            · rw [if_neg hz] at hv'; exact absurd q hv'
        · cases hs
      · cases hs
    · split at hs
      · next y x r z oc => cases hs; exact g_dcmp X hx _ hd rfl hv (K_ S0)
      · cases hs
  · next hd =>
    split at hs
    · next x r =>
      split at hs
      · next ok => cases hs; exact g_i2d X hx _ hd rfl (fin _ r _ ok.1 ok.2 (fun i => rfl) rfl rfl)
      · cases hs
    · cases hs
  · next o' hd =>
    split at hs
    · next x r z oc =>
      split at hs
      · next ho =>
        cases hs
        have hv' : if z = 0 then (iW (dX D x.toNat)).toInt = 0 else (iW (dX D x.toNat)).toInt ≠ 0 := hv
        refine g_if_eq X hx _ _ hd ho rfl rfl (fun q => ?_) (fun q => ?_)
        · by_cases hz : z = 0
          · have G := K_ S0; rw [if_pos hz] at G; exact G
          · rw [if_neg hz] at hv'; exact absurd q hv'
        · by_cases hz : z = 0
          · rw [if_pos hz] at hv'; exact absurd hv' q
          · have G := K_ S0; rw [if_neg hz] at G; exact G
      · cases hs
    · cases hs
  · next o' hd =>
    split at hs
    · next x r z oc =>
      split at hs
      · next ho =>
        cases hs
        have hv' : if z = 0 then (iW (dX D x.toNat)).toInt = 0 else (iW (dX D x.toNat)).toInt ≠ 0 := hv
        refine g_if_ne X hx _ _ hd ho rfl rfl (fun q => ?_) (fun q => ?_)
        · by_cases hz : z = 0
          · rw [if_pos hz] at hv'; exact absurd hv' q
          · have G := K_ S0; rw [if_neg hz] at G; exact G
        · by_cases hz : z = 0
          · have G := K_ S0; rw [if_pos hz] at G; exact G
          · rw [if_neg hz] at hv'; exact absurd q hv'
      · cases hs
    · cases hs
  · cases hs
end OwnExecC
section OwnExecK
variable {p : Program} {l : Launch} {e : Env} {R : Room} {s : State} {m : MethodId} {args : Array Value} {below : List Frame} {meth : Method} {c : Code} {T : State} {locs : List Loc} {cells slots : Nat} {Z : State} {a0 : Array Value} {h h' : Heap} {Ev : State → Outcome → Prop}
abbrev Cn := (Nat × List Value × List AD × Nat) × (Option Value × List AD × List Op) × (Nat × Nat × Nat × Nat)
def rmOf (r : Nat × Nat × Nat × Nat) : Room := { frames := r.1, cells := r.2.1, slots := r.2.2.1, locals := r.2.2.2 }
def QF (Z : State) (n0 : Nat) (h0 : Heap) (A : Nat → Addr) (K : Nat → ClassId) (D : Nat → UInt64) (W : Nat → Value) (cn : Cn) (v : Option Value) (h : Heap) (L : List Loc) : Prop :=
  ∃ (A' : Nat → Addr) (K' : Nat → ClassId), (∀ i, i < cn.1.2.2.1.length → A' i = A i ∧ K' i = K i) ∧ (∀ i, cn.1.2.2.1.length ≤ i → i < cn.2.1.2.1.length → h0.size ≤ A' i) ∧ v = cn.2.1.1.map (den A' (finD cn.2.1.2.2 cn.1.2.2.2 D) W) ∧ Fr n0 L ∧ Keep h0 h ((List.range cn.1.2.2.1.length).map A) ∧ YgF Z n0 h A' K' (finD cn.2.1.2.2 cn.1.2.2.2 D) W cn.2.1.2.1 ∧ cn.1.2.2.1.length ≤ cn.2.1.2.1.length
def CtM (l : Launch) (Z : State) (cn : Cn) (as' : Array Value) (h0 : Heap) (Q : Option Value → Heap → List Loc → Prop) : Prop :=
  MetFree l (own_mn cn.1.1) (head1 [Jvm.Cond.code (own_mn cn.1.1) (own_mc cn.1.1) (own_ml cn.1.1) (own_mr cn.1.1)] (rmOf cn.2.2)) (fun a U => a = as' ∧ Z.Warmed39 U.vm ∧ U.heap = h0) (fun _ _ _ _ _ => True) (fun _ U o U' => ∃ v L, o = .returned v ∧ Q v U'.heap L ∧ FrameEnd U o U' L (rmOf cn.2.2).cells (rmOf cn.2.2).slots)
def CtH (cn : Cn) : Prop := ∀ (l : Launch) (Z : State) (a0 : Array Value), (∀ d ∈ tables_1, d.before a0 Z = true) → ∀ (A : Nat → Addr) (K : Nat → ClassId) (D : Nat → UInt64) (W : Nat → Value) (h0 : Heap) (n0 : Nat), D 0 = 0 → n0 ≤ h0.size → YgF Z n0 h0 A K D W cn.1.2.2.1 → okv cn.2.1.2.2 cn.1.2.2.2 D → CtM l Z cn (cn.1.2.1.map (den A D W)).toArray h0 (QF Z n0 h0 A K D W cn)
def CallOK (Z : State) (own : String) (op : Instr) (kd mn np rc : Nat) : Prop :=
  ∀ {p : Program} {l : Launch} {e : Env} {R : Room} {s : State} {m : MethodId} {args : Array Value} {below : List Frame} {meth : Method} {c : Code} {T : State} {locs : List Loc} {cells slots : Nat} {h : Heap} {Ev : State → Outcome → Prop} {rm : Room} {as' : Array Value} {Q : Option Value → Heap → List Loc → Prop} {argsL rest : List Value} {b : Addr} {pc : Nat} {Ls : Array Slot},
    Stand p l e R s m args below meth c T locs cells slots → p.tables.exec = Jvm.exec → Z.Warmed39 s.vm → s.vm.findClass own = some m.cls →
    MetFree l (own_mn mn) (head1 [Jvm.Cond.code (own_mn mn) (own_mc mn) (own_ml mn) (own_mr mn)] rm) (fun a U => a = as' ∧ Z.Warmed39 U.vm ∧ U.heap = h) (fun _ _ _ _ _ => True) (fun _ U o U' => ∃ v L, o = .returned v ∧ Q v U'.heap L ∧ FrameEnd U o U' L rm.cells rm.slots) →
    T.heap = h → (kd = 1 → Exa Z h b (own_cn rc)) → (if kd = 0 then argsL.toArray else (.ref b :: argsL).toArray) = as' → Ls.size = c.maxLocals → argsL.length = np → rm.frames + 1 ≤ R.frames → (rest.map fun v => v.category).sum + (own_ml mn + 11) + rm.locals ≤ R.locals → cells + rm.cells ≤ R.cells → slots + rm.slots ≤ R.slots → decode c.code pc = .ok (op, 3) →
    (∀ (v : Option Value) (T' : State) (L : List Loc), Stand p l e R s m args below meth c T' (locs ++ L) (cells + rm.cells) (slots + rm.slots) → Q v T'.heap L → Go p e below Ev T' (mkF m (pc + 3) Ls (v.toList ++ rest))) →
    Go p e below Ev T (mkF m pc Ls (argsL.reverse ++ (if kd = 0 then rest else .ref b :: rest)))
def CallsOK (Z : State) (own : String) (cl : Instr → Option (Nat × Nat × Nat × Nat)) : Prop := ∀ op kd mn np rc, cl op = some (kd, mn, np, rc) → CallOK Z own op kd mn np rc
def okO : List Op → Nat → Bool
  | [], _ => true
  | o :: t, n => (decide (o.2.1 < n) || decide (4096 ≤ o.2.1)) && ((decide (o.2.2.1 < n) || decide (4096 ≤ o.2.2.1)) && okO t (nxN o n))
def okC (nA nD : Nat) (v : Value) : Bool := okV nA nD v
def okE (nA nD : Nat) (d : AD) : Bool := d.2.2.all (okC nA nD)
abbrev Sc := Cn × List Nat × List Nat × List Value
def own_upds (ds : List AD) (π : List Nat) (xs : List AD) : List AD := ds.zipIdx.map fun x => match π.findIdx? (· == x.2) with
  | some i => xs.getD i x.1
  | none => x.1
def recv (kd rc : Nat) (ds : List AD) (v : Option Value) : Bool :=
  match v with
  | some (.ref b) => (kd != 1) || (decide (rc < 64) && (match ds[b]? with | some d => d.1 == rc | none => false))
  | _ => false
theorem recv_e {kd rc : Nat} {ds : List AD} {v : Option Value} (h : recv kd rc ds v = true) : ∃ b, v = some (.ref b) ∧ (kd = 1 → rc < 64 ∧ ∃ d, ds[b]? = some d ∧ d.1 = rc) := by
  unfold recv at h
  split at h
  · next b =>
    refine ⟨b, rfl, fun q => ?_⟩
    subst q
    simp only [bne_self_eq_false, Bool.false_or, Bool.and_eq_true, decide_eq_true_eq] at h
    refine ⟨h.1, ?_⟩
    have h2 := h.2
    split at h2
    · next d e => exact ⟨d, e, by simpa using h2⟩
    · cases h2
  · cases h
def own_rest (kd np : Nat) (st : List Value) : List Value := if kd = 0 then st.drop np else (st.drop np).drop 1
def own_al (kd np : Nat) (st : List Value) : List Value := if kd = 0 then (st.take np).reverse else (match (st.drop np)[0]? with | some v => v :: (st.take np).reverse | none => [])
def stpC (code : ByteArray) (cl : Instr → Option (Nat × Nat × Nat × Nat)) (ml : Nat) (RR : Nat × Nat × Nat × Nat) (nD cells slots : Nat) (ds : List AD) (E : Sc) (pc : Nat) (L : Array Slot) (st : List Value) : Option (Nat × List Value × List AD × List Op) :=
  match decode code pc with
  | .ok (op, 3) => match cl op with
    | some (kd, mn, np, rc) =>
      let cn := E.1; let π := E.2.1; let δ := E.2.2.1; let ω := E.2.2.2
      let nc := cn.1.2.2.1.length; let mD := cn.1.2.2.2; let n := ds.length; let nc' := cn.2.1.2.1.length; let mD' := finN cn.2.1.2.2 mD
      let f := sb π δ ω n nc nD mD; let rest := own_rest kd np st
      let al := own_al kd np st
      if (mn = cn.1.1 ∧ kd ≤ 2 ∧ np ≤ st.length ∧ (kd = 0 ∨ recv kd rc ds (st.drop np)[0]? = true)) then
      if (cn.1.2.1.map f = al ∧ L.size = ml ∧ cn.2.2.1 + 1 ≤ RR.1 ∧ (rest.map fun v => v.category).sum + (own_ml mn + 11) + cn.2.2.2.2.2 ≤ RR.2.2.2 ∧ cells + cn.2.2.2.1 ≤ RR.2.1 ∧ slots + cn.2.2.2.2.1 ≤ RR.2.2.1) then
      if (π.length = nc ∧ π.all (fun i => decide (i < n)) = true ∧ π.Nodup ∧ (List.range nc).all (fun i => decide (ds[π.getD i 0]? = (cn.1.2.2.1[i]?).map (sbD π δ ω n nc nD mD))) = true ∧ δ.length = mD ∧ δ[0]? = some 0 ∧ δ.all (fun j => decide (j < nD) || (decide (4096 ≤ j) && decide (j < 18446744073709551616))) = true) then
      if (okSt n nD L rest ds = true ∧ rest.all kn = true ∧ ω.all (okV n nD) = true ∧ 0 < nD ∧ nD + (mD' - mD) ≤ 4096 ∧ mD' ≤ 4096 ∧ nc ≤ nc' ∧ cn.1.2.2.1.all (okE nc mD) = true ∧ cn.1.2.1.all (okC nc mD) = true ∧ cn.2.1.2.1.all (okE nc' mD') = true ∧ (cn.2.1.1.toList).all (okC nc' mD') = true ∧ okO cn.2.1.2.2 mD = true) then
        some (pc + 3, (cn.2.1.1.map f).toList ++ rest, own_upds ds π (cn.2.1.2.1.map (sbD π δ ω n nc nD mD)) ++ (cn.2.1.2.1.drop nc).map (sbD π δ ω n nc nD mD), cn.2.1.2.2.map (sbO δ nD mD))
      else none else none else none else none
    | none => none
  | _ => none
theorem HdF.congr {A A' : Nat → Addr} {D D' : Nat → UInt64} {W W' : Nat → Value} {a : Addr} {k : ClassId} {d d' : AD} (h1 : d'.1 = d.1) (h2 : d'.2.1 = d.2.1) (hv : d'.2.2.map (den A' D' W') = d.2.2.map (den A D W)) (H : HdF Z h a k A D W d) : HdF Z h a k A' D' W' d' := by
  unfold HdF at H ⊢
  rw [h1, h2, hv]
  split at H
  · rename_i q
    rw [if_pos q]
    refine ⟨H.1, fun j v f hj hf => ?_⟩
    have e1 : (d'.2.2.map (den A' D' W'))[j]? = some (den A' D' W' v) := by rw [List.getElem?_map, hj]; rfl
    rw [hv, List.getElem?_map] at e1
    cases e2 : d.2.2[j]? with
    | none => rw [e2] at e1; cases e1
    | some u =>
      rw [e2] at e1
      have e3 : den A D W u = den A' D' W' v := Option.some.inj e1
      rw [← e3]
      exact H.2 j u f e2 hf
  · rename_i q
    rw [if_neg q]
    exact H
section
variable {δ : List Nat} {nD mD : Nat}
theorem dX_pD {D Dc : Nat → UInt64} {mc i : Nat} (hr : ∀ j, j < mc → Dc j = dX D (pD δ nD mD j)) (hm : mc ≤ 4096) (hi : i < mc ∨ 4096 ≤ i) : dX Dc i = dX D (pD δ nD mD i) := by
  rcases hi with q | q
  · rw [← hr i q]; exact if_pos (by omega)
  · have e1 : pD δ nD mD i = i := if_neg (by omega)
    rw [e1]
    unfold dX
    rw [if_neg (by omega), if_neg (by omega)]
theorem vc_sb {D Dc : Nat → UInt64} {mc : Nat} {o : Op} (hr : ∀ j, j < mc → Dc j = dX D (pD δ nD mD j)) (hm : mc ≤ 4096) (h1 : o.2.1 < mc ∨ 4096 ≤ o.2.1) (h2 : o.2.2.1 < mc ∨ 4096 ≤ o.2.2.1) (h : vc1 (sbO δ nD mD o) D) : vc1 o Dc := by
  unfold vc1 sbO at *
  rw [dX_pD hr hm h1, dX_pD hr hm h2]
  exact h
theorem rel_sb {D Dc : Nat → UInt64} {mc : Nat} {o : Op} (hδ : ∀ j, j < mD → δ.getD j 0 < nD ∨ 4096 ≤ δ.getD j 0) (hr : ∀ j, j < mc → Dc j = dX D (pD δ nD mD j)) (hm : mD ≤ mc) (h0 : nxN o mc ≤ 4096) (h0' : nD + (nxN o mc - mD) ≤ 4096) (h1 : o.2.1 < mc ∨ 4096 ≤ o.2.1) (h2 : o.2.2.1 < mc ∨ 4096 ≤ o.2.2.1) : ∀ j, j < nxN o mc → nxD o mc Dc j = dX (nxD (sbO δ nD mD o) (nD + (mc - mD)) D) (pD δ nD mD j) := by
  intro j hj
  have hle := nxN_le o mc
  unfold nxD
  have es : (sbO δ nD mD o).1 = o.1 := rfl
  rw [es]
  by_cases q : o.1 ≤ 7
  · rw [if_pos q, if_pos q]
    have eN : nxN o mc = mc + 1 := if_pos q
    by_cases qj : j = mc
    · subst qj
      have ep : pD δ nD mD j = nD + (j - mD) := by unfold pD; rw [if_pos (by omega), if_neg (by omega)]
      have e2 : ∀ V : UInt64, dX (fun i => if i = nD + (j - mD) then V else D i) (nD + (j - mD)) = V := fun V => by
        unfold dX
        rw [if_pos (by omega)]
        exact if_pos rfl
      rw [ep, e2, if_pos rfl]
      show own_dv o.1 (dX Dc o.2.1) (dX Dc o.2.2.1) = own_dv o.1 (dX D (pD δ nD mD o.2.1)) (dX D (pD δ nD mD o.2.2.1))
      rw [dX_pD hr (by omega) h1, dX_pD hr (by omega) h2]
    · rw [if_neg qj, hr j (by omega)]
      have ep : pD δ nD mD j < nD + (mc - mD) ∨ 4096 ≤ pD δ nD mD j := by
        unfold pD
        rw [if_pos (by omega)]
        split
        · rename_i q2
          rcases hδ j q2 with y | y
          · left; omega
          · right; exact y
        · left; omega
      have e3 : ∀ (V : UInt64) (x : Nat), (x < nD + (mc - mD) ∨ 4096 ≤ x) → dX (fun i => if i = nD + (mc - mD) then V else D i) x = dX D x := fun V x hx => by
        unfold dX
        split
        · rcases hx with y | y
          · exact if_neg (by omega)
          · omega
        · rfl
      rw [e3 _ _ ep]
  · rw [if_neg q, if_neg q]
    have eN : nxN o mc = mc := if_neg q
    exact hr j (by omega)
theorem okv_sb (hδ : ∀ j, j < mD → δ.getD j 0 < nD ∨ 4096 ≤ δ.getD j 0) : ∀ (t : List Op) (mc : Nat) (Dc D : Nat → UInt64), mD ≤ mc → finN t mc ≤ 4096 → nD + (finN t mc - mD) ≤ 4096 → okO t mc = true → (∀ j, j < mc → Dc j = dX D (pD δ nD mD j)) → okv (t.map (sbO δ nD mD)) (nD + (mc - mD)) D →
    okv t mc Dc ∧ (∀ j, j < finN t mc → finD t mc Dc j = dX (finD (t.map (sbO δ nD mD)) (nD + (mc - mD)) D) (pD δ nD mD j)) ∧ finN (t.map (sbO δ nD mD)) (nD + (mc - mD)) = nD + (finN t mc - mD)
  | [], mc, Dc, D, hm, h1, h2, ho, hr, hv => ⟨trivial, hr, rfl⟩
  | o :: t, mc, Dc, D, hm, h1, h2, ho, hr, hv => by
    simp only [okO, Bool.and_eq_true, Bool.or_eq_true, decide_eq_true_eq] at ho
    have hf : finN (o :: t) mc = finN t (nxN o mc) := rfl
    rw [hf] at h1 h2
    have hle := finN_le t (nxN o mc)
    have hl2 := nxN_le o mc
    have eN : nxN (sbO δ nD mD o) (nD + (mc - mD)) = nD + (nxN o mc - mD) := by
      unfold nxN
      show (if o.1 ≤ 7 then _ else _) = _
      split <;> omega
    have hv2 : vc1 (sbO δ nD mD o) D ∧ okv (t.map (sbO δ nD mD)) (nxN (sbO δ nD mD o) (nD + (mc - mD))) (nxD (sbO δ nD mD o) (nD + (mc - mD)) D) := hv
    rw [eN] at hv2
    obtain ⟨i1, i2, i3⟩ := okv_sb hδ t (nxN o mc) (nxD o mc Dc) (nxD (sbO δ nD mD o) (nD + (mc - mD)) D) (by omega) h1 h2 ho.2.2 (rel_sb hδ hr hm (by omega) (by omega) ho.1 ho.2.1) hv2.2
    refine ⟨⟨vc_sb hr (by omega) ho.1 ho.2.1 hv2.1, i1⟩, fun j hj => ?_, ?_⟩
    · show finD t (nxN o mc) (nxD o mc Dc) j = dX (finD (t.map (sbO δ nD mD)) (nxN (sbO δ nD mD o) (nD + (mc - mD))) (nxD (sbO δ nD mD o) (nD + (mc - mD)) D)) (pD δ nD mD j)
      rw [eN]
      exact i2 j hj
    · show finN (t.map (sbO δ nD mD)) (nxN (sbO δ nD mD o) (nD + (mc - mD))) = _
      rw [eN]
      exact i3
end
theorem den_sb2 {A Ac : Nat → Addr} {D Dc : Nat → UInt64} {W Wc : Nat → Value} {π δ : List Nat} {ω : List Value} {n nc nD mD nA mX : Nat} (hA : ∀ i, i < nA → Ac i = A (pA π n nc i)) (hD : ∀ j, j < mX → Dc j = dX D (pD δ nD mD j)) (hmX : mX ≤ 4096) (hW : ∀ k, Wc k = den A D W (ω.getD k .null)) (hb : ∀ j, j < mX → pD δ nD mD j < 18446744073709551616) {v : Value} (hv0 : okC nA mX v = true) : den A D W (sb π δ ω n nc nD mD v) = den Ac Dc Wc v := by
  have hv : okV nA mX v = true := hv0
  cases v with
  | float j =>
    simp only [okV, Bool.or_eq_true, decide_eq_true_eq] at hv
    have q : j.toNat < mX ∨ 4096 ≤ j.toNat := hv
    simp only [sb]
    split
    · rename_i q2
      simp only [den]
      rw [UInt32.toNat_ofNat_of_lt' (by show pD δ nD mD j.toNat < 4294967296; omega), dX_pD hD hmX q]
    · rename_i q2
      simp only [den]
      rw [dX_pD hD hmX q, show dX D (pD δ nD mD j.toNat) = UInt64.ofNat (pD δ nD mD j.toNat) from if_neg q2]
  | ref i => simp only [okV, decide_eq_true_eq] at hv; simp only [sb, den, hA i hv]
  | double j =>
    simp only [okV, Bool.or_eq_true, decide_eq_true_eq] at hv
    simp only [sb, den]
    have q : j.toNat < mX ∨ 4096 ≤ j.toNat := hv
    have hb' : pD δ nD mD j.toNat < 18446744073709551616 := by
      rcases q with q | q
      · exact hb _ q
      · rw [show pD δ nD mD j.toNat = j.toNat from if_neg (by omega)]
        exact j.toNat_lt
    rw [dX_of hb', dX_pD hD hmX q]
  | retAddr k => simp only [sb, den, hW]
  | _ => rfl
theorem own_updl (ds : List AD) (π : List Nat) (xs : List AD) : (own_upds ds π xs).length = ds.length := by simp [own_upds]
theorem own_updg (ds : List AD) (π : List Nat) (xs : List AD) (k : Nat) : (own_upds ds π xs)[k]? = (ds[k]?).map fun d => match π.findIdx? (· == k) with
    | some i => xs.getD i d
    | none => d := by
  unfold own_upds
  rw [List.getElem?_map, List.getElem?_zipIdx]
  cases ds[k]? with
  | none => rfl
  | some d => simp
theorem own_fidx {π : List Nat} {k i : Nat} (h : π.findIdx? (· == k) = some i) : i < π.length ∧ π.getD i 0 = k := by
  obtain ⟨h1, h2, -⟩ := List.findIdx?_eq_some_iff_getElem.mp h
  refine ⟨h1, ?_⟩
  rw [List.getD_eq_getElem?_getD, List.getElem?_eq_getElem h1]
  simpa using h2
theorem own_fnone {π : List Nat} {k i : Nat} (h : π.findIdx? (· == k) = none) (hi : i < π.length) : π.getD i 0 ≠ k := by
  have := List.findIdx?_eq_none_iff.mp h (π[i]) (List.getElem_mem hi)
  rw [List.getD_eq_getElem?_getD, List.getElem?_eq_getElem hi]
  simpa using this
theorem own_catsum {A : Nat → Addr} {D : Nat → UInt64} {W : Nat → Value} : ∀ (r : List Value), r.all kn = true → ((r.map (den A D W)).map fun v => v.category).sum = (r.map fun v => v.category).sum
  | [], _ => rfl
  | v :: r, h => by
    simp only [List.all_cons, Bool.and_eq_true] at h
    simp only [List.map_cons, List.sum_cons, den_cat h.1, own_catsum r h.2]
theorem stpC_ok {A : Nat → Addr} {K : Nat → ClassId} {D : Nat → UInt64} {W : Nat → Value} {code : ByteArray} {own : String} {cl : Instr → Option (Nat × Nat × Nat × Nat)} {ml : Nat} {RR : Nat × Nat × Nat × Nat} {n0 nB nD : Nat} {hB : Heap} {ds ds' : List AD} {E : Sc} {ops : List Op} (hw : HW a0 Z) (hx : p.tables.exec = Jvm.exec) (hby : c.code = code) (hml : c.maxLocals = ml) (hR : R = rmOf RR) (hZ : Z.Warmed39 s.vm) (hown : s.vm.findClass own = some m.cls) (hC : CallsOK Z own cl) (hE : CtH E.1) (hD0 : D 0 = 0) (S : Sit p l e R s m args below meth c Z n0 nB hB T A K D W ds cells slots) {pc pc' : Nat} {L : Array Slot} {st st' : List Value} (hs : stpC code cl ml RR nD cells slots ds E pc L st = some (pc', st', ds', ops)) (hv : okv ops nD D)
    (K_ : ∀ T' A' K', (∀ i, i < ds.length → A' i = A i ∧ K' i = K i) → Sit p l e R s m args below meth c Z n0 nB hB T' A' K' (finD ops nD D) W ds' (cells + E.1.2.2.2.1) (slots + E.1.2.2.2.2.1) → Go p e below Ev T' (mkF m pc' (L.map (denS A' (finD ops nD D) W)) (st'.map (den A' (finD ops nD D) W)))) : Go p e below Ev T (mkF m pc (L.map (denS A D W)) (st.map (den A D W))) := by
  subst hby hR hml
  obtain ⟨h, locs, X, eT, Y, Kp, hsz, N, hn, hnB⟩ := S
  obtain ⟨⟨⟨mn', args', dsc, mD⟩, ⟨res, dsc', ops'⟩, rm⟩, π, δ, ω⟩ := E
  unfold stpC at hs
  split at hs
  case h_2 => cases hs
  next op hd =>
  split at hs
  case h_2 => cases hs
  next kd mn np rc hcl =>
  dsimp only at hs
  split at hs
  case isFalse => cases hs
  next c1 =>
  split at hs
  case isFalse => cases hs
  next c2 =>
  split at hs
  case isFalse => cases hs
  next c3 =>
  split at hs
  case isFalse => cases hs
  next c4 =>
  cases hs
  obtain ⟨rfl, hkd, hnp, hrec⟩ := c1
  obtain ⟨hargs, hLs, hrf, hrl, hrc, hrs⟩ := c2
  obtain ⟨hπl, hπn, hπd, hπm, hδl, hδ0, hδa⟩ := c3
  obtain ⟨hok, hkn, hω, hnD, hnD', hmD', hnc, hwd, hwa, hwd', hwr, hwo⟩ := c4
  generalize hnn : ds.length = n at *
  generalize hcc : dsc.length = nc at *
  have hm0 : 0 < mD := by
    have := (List.getElem?_eq_some_iff.mp hδ0).1
    omega
  have hmm : mD ≤ finN ops' mD := finN_le ops' mD
  have hδ : ∀ j, j < mD → (δ.getD j 0 < nD ∨ 4096 ≤ δ.getD j 0) ∧ δ.getD j 0 < 18446744073709551616 := fun j hj => by
    have hl : j < δ.length := by omega
    have := List.all_eq_true.mp hδa _ (List.getElem_mem hl)
    rw [List.getD_eq_getElem?_getD, List.getElem?_eq_getElem hl]
    simp only [Bool.or_eq_true, Bool.and_eq_true, decide_eq_true_eq] at this
    show (δ[j] < nD ∨ 4096 ≤ δ[j]) ∧ δ[j] < 18446744073709551616
    omega
  have hπ : ∀ i, i < nc → π.getD i 0 < n := fun i hi => by
    have hl : i < π.length := by omega
    have := List.all_eq_true.mp hπn _ (List.getElem_mem hl)
    rw [List.getD_eq_getElem?_getD, List.getElem?_eq_getElem hl]
    simpa using this
  have hpA : ∀ i, i < nc → pA π n nc i = π.getD i 0 := fun i hi => if_pos hi
  have hpb : ∀ j, j < finN ops' mD → pD δ nD mD j < 18446744073709551616 := fun j hj => by
    unfold pD
    rw [if_pos (by omega)]
    split
    · rename_i q; exact (hδ j q).2
    · omega
  -- the callee's view
  have hD0c : (fun j => dX D (pD δ nD mD j)) 0 = 0 := by
    show dX D (pD δ nD mD 0) = 0
    have : pD δ nD mD 0 = 0 := by
      unfold pD
      rw [if_pos (by decide), if_pos hm0, List.getD_eq_getElem?_getD, hδ0]
      rfl
    rw [this]
    exact hD0
  have dsb : ∀ v, okC nc mD v = true → den A D W (sb π δ ω n nc nD mD v) = den (fun i => A (pA π n nc i)) (fun j => dX D (pD δ nD mD j)) (fun k => den A D W (ω.getD k .null)) v := fun v hv => den_sb2 (nA := nc) (mX := mD) (fun _ _ => rfl) (fun _ _ => rfl) (by omega) (fun _ => rfl) (fun j hj => hpb j (by omega)) hv
  have Yc : YgF Z n0 h (fun i => A (pA π n nc i)) (fun i => K (pA π n nc i)) (fun j => dX D (pD δ nD mD j)) (fun k => den A D W (ω.getD k .null)) dsc := by
    refine ⟨fun i d hi => ?_, fun i j hi hj q => ?_⟩
    · have hl : i < nc := by have := (List.getElem?_eq_some_iff.mp hi).1; omega
      have e1 := List.all_eq_true.mp hπm i (List.mem_range.mpr hl)
      rw [decide_eq_true_eq, hi] at e1
      have y := Y.1 _ _ e1
      dsimp only
      rw [hpA i hl]
      refine ⟨y.1, HdF.congr (d := sbD π δ ω n nc nD mD d) rfl rfl ?_ y.2⟩
      show d.2.2.map _ = (d.2.2.map _).map _
      rw [List.map_map]
      exact List.map_congr_left fun v hv => (dsb v (List.all_eq_true.mp (List.all_eq_true.mp hwd d (List.mem_of_getElem? hi)) v hv)).symm
    · have hi' : i < nc := by omega
      have hj' : j < nc := by omega
      dsimp only at q
      rw [hpA i hi', hpA j hj'] at q
      have e1 := Y.2 _ _ (by rw [hnn]; exact hπ i hi') (by rw [hnn]; exact hπ j hj') q
      have li : i < π.length := by omega
      have lj : j < π.length := by omega
      rw [List.getD_eq_getElem?_getD, List.getElem?_eq_getElem li, List.getD_eq_getElem?_getD, List.getElem?_eq_getElem lj] at e1
      exact (List.getElem_inj hπd).mp e1
  obtain ⟨ov1, ov2, ov3⟩ := okv_sb (δ := δ) (nD := nD) (mD := mD) (fun j hj => (hδ j hj).1) ops' mD (fun j => dX D (pD δ nD mD j)) D (Nat.le_refl _) hmD' (by omega) hwo (fun _ _ => rfl) (by rw [Nat.sub_self, Nat.add_zero]; exact hv)
  rw [Nat.sub_self, Nat.add_zero] at ov2 ov3
  have hM := hE l Z a0 hw (fun i => A (pA π n nc i)) (fun i => K (pA π n nc i)) (fun j => dX D (pD δ nD mD j)) (fun k => den A D W (ω.getD k .null)) h n0 hD0c hn Yc ov1
  -- what comes behind the call
  have back : ∀ (rest : List Value), okSt n nD L rest ds = true → ∀ (v : Option Value) (T' : State) (L' : List Loc), Stand p l e (rmOf RR) s m args below meth c T' (locs ++ L') (cells + (rmOf rm).cells) (slots + (rmOf rm).slots) → QF Z n0 h (fun i => A (pA π n nc i)) (fun i => K (pA π n nc i)) (fun j => dX D (pD δ nD mD j)) (fun k => den A D W (ω.getD k .null)) ((mn, args', dsc, mD), (res, dsc', ops'), rm) v T'.heap L' →
      (∀ T' A' K', (∀ i, i < n → A' i = A i ∧ K' i = K i) → Sit p l e (rmOf RR) s m args below meth c Z n0 nB hB T' A' K' (finD (ops'.map (sbO δ nD mD)) nD D) W (own_upds ds π (dsc'.map (sbD π δ ω n nc nD mD)) ++ (dsc'.drop nc).map (sbD π δ ω n nc nD mD)) (cells + rm.2.1) (slots + rm.2.2.1) → Go p e below Ev T' (mkF m (pc + 3) (L.map (denS A' (finD (ops'.map (sbO δ nD mD)) nD D) W)) (((res.map (sb π δ ω n nc nD mD)).toList ++ rest).map (den A' (finD (ops'.map (sbO δ nD mD)) nD D) W)))) →
      Go p e below Ev T' (mkF m (pc + 3) (L.map (denS A D W)) (v.toList ++ rest.map (den A D W))) := by
    intro rest hokr v T' L' X' Q' KK
    obtain ⟨A1, K1, hAK, hfr, hvv, N', Kp', Y', hl'⟩ := Q'
    dsimp only at hAK hfr hvv Kp' Y' hl'
    rw [hcc] at hAK hfr Kp' hl'
    simp only [okSt, Bool.and_eq_true] at hokr
    generalize hD2 : finD (ops'.map (sbO δ nD mD)) nD D = D2 at *
    have hDlt : ∀ j, j < nD → D2 j = D j := fun j hj => by rw [← hD2]; exact finD_lt _ _ _ hj
    have hA2 : ∀ i, i < n → (fun i => if i < n then A i else A1 (nc + (i - n))) i = A i := fun i hi => if_pos hi
    have hr : ∀ i, i < dsc'.length → A1 i = (fun i => if i < n then A i else A1 (nc + (i - n))) (pA π n nc i) := fun i hi => by
      dsimp only
      unfold pA
      split
      · rename_i q
        rw [if_pos (hπ i q), (hAK i q).1, hpA i q]
      · rename_i q
        rw [if_neg (by omega), show nc + (n + (i - nc) - n) = i by omega]
    have hrK : ∀ i, i < dsc'.length → K1 i = (fun i => if i < n then K i else K1 (nc + (i - n))) (pA π n nc i) := fun i hi => by
      dsimp only
      unfold pA
      split
      · rename_i q
        rw [if_pos (hπ i q), (hAK i q).2, hpA i q]
      · rename_i q
        rw [if_neg (by omega), show nc + (n + (i - nc) - n) = i by omega]
    have hWe : ∀ k, den A D W (ω.getD k .null) = den (fun i => if i < n then A i else A1 (nc + (i - n))) D2 W (ω.getD k .null) := fun k => by
      by_cases q : k < ω.length
      · refine (den_eq (nA := n) (nD := nD) hA2 hDlt ?_).symm
        rw [List.getD_eq_getElem?_getD, List.getElem?_eq_getElem q]
        exact List.all_eq_true.mp hω _ (List.getElem_mem q)
      · rw [List.getD_eq_getElem?_getD, List.getElem?_eq_none (by omega)]
        rfl
    have dsb2 : ∀ v, okC dsc'.length (finN ops' mD) v = true → den (fun i => if i < n then A i else A1 (nc + (i - n))) D2 W (sb π δ ω n nc nD mD v) = den A1 (finD ops' mD (fun j => dX D (pD δ nD mD j))) (fun k => den A D W (ω.getD k .null)) v := fun v hv => den_sb2 (nA := dsc'.length) (mX := finN ops' mD) hr ov2 hmD' hWe hpb hv
    have hdc : ∀ (i : Nat) (d : AD), dsc'[i]? = some d → HdF Z T'.heap (A1 i) (K1 i) (fun i => if i < n then A i else A1 (nc + (i - n))) D2 W (sbD π δ ω n nc nD mD d) := fun i d hi => by
      refine HdF.congr (d := d) rfl rfl ?_ (Y'.1 i d hi).2
      show (d.2.2.map _).map _ = d.2.2.map _
      rw [List.map_map]
      exact List.map_congr_left fun v hv => dsb2 v (List.all_eq_true.mp (List.all_eq_true.mp hwd' d (List.mem_of_getElem? hi)) v hv)
    have hlt1 : ∀ i, i < n → A i < h.size := fun i hi => (Y.1 i _ (List.getElem?_eq_getElem (by omega))).2.lt
    have Y2 : YgF Z n0 T'.heap (fun i => if i < n then A i else A1 (nc + (i - n))) (fun i => if i < n then K i else K1 (nc + (i - n))) D2 W (own_upds ds π (dsc'.map (sbD π δ ω n nc nD mD)) ++ (dsc'.drop nc).map (sbD π δ ω n nc nD mD)) := by
      refine ⟨fun k d hk => ?_, fun i j hi hj q => ?_⟩
      · by_cases q : k < n
        · rw [List.getElem?_append_left (by rw [own_updl, hnn]; exact q), own_updg] at hk
          have hkl : k < ds.length := by omega
          rw [List.getElem?_eq_getElem hkl] at hk
          dsimp only [Option.map] at hk
          dsimp only
          rw [if_pos q, if_pos q]
          cases e1 : π.findIdx? (· == k) with
          | some i =>
            obtain ⟨hi, hik⟩ := own_fidx e1
            rw [e1] at hk
            have hi' : i < nc := by omega
            have hi2 : i < dsc'.length := by omega
            simp only [List.getD_eq_getElem?_getD, List.getElem?_map, List.getElem?_eq_getElem hi2, Option.map_some, Option.getD_some, Option.some.injEq] at hk
            have H := hdc i _ (List.getElem?_eq_getElem hi2)
            rw [(hAK i hi').1, (hAK i hi').2, hpA i hi', hik] at H
            subst hk
            exact ⟨(Y.1 k _ (List.getElem?_eq_getElem hkl)).1, H⟩
          | none =>
            rw [e1] at hk
            simp only [Option.some.injEq] at hk
            subst hk
            have y := Y.1 k _ (List.getElem?_eq_getElem hkl)
            refine ⟨y.1, HdF.env (nA := n) (nD := nD) hA2 hDlt (List.all_eq_true.mp hokr.2.2 _ (List.getElem_mem hkl)) (y.2.keep Kp' fun z => ?_)⟩
            obtain ⟨i, hi, ei⟩ := List.mem_map.mp z
            have hi' := List.mem_range.mp hi
            try dsimp only at ei
            rw [hpA i hi'] at ei
            exact own_fnone e1 (by omega) (Y.2 _ _ (by rw [hnn]; exact hπ i hi') hkl ei)
        · rw [List.getElem?_append_right (by rw [own_updl, hnn]; omega), own_updl, hnn, List.getElem?_map, List.getElem?_drop] at hk
          dsimp only
          rw [if_neg q, if_neg q]
          cases e1 : dsc'[nc + (k - n)]? with
          | none => rw [e1] at hk; cases hk
          | some x =>
            rw [e1] at hk
            cases hk
            exact ⟨(Y'.1 _ _ e1).1, hdc _ _ e1⟩
      · rw [List.length_append, own_updl, hnn, List.length_map, List.length_drop] at hi hj
        dsimp only at q
        by_cases q1 : i < n <;> by_cases q2 : j < n
        · rw [if_pos q1, if_pos q2] at q
          exact Y.2 i j (by omega) (by omega) q
        · rw [if_pos q1, if_neg q2] at q
          exact absurd q (Nat.ne_of_lt (Nat.lt_of_lt_of_le (hlt1 i q1) (hfr (nc + (j - n)) (by omega) (by omega))))
        · rw [if_neg q1, if_pos q2] at q
          exact absurd q (Nat.ne_of_gt (Nat.lt_of_lt_of_le (hlt1 j q2) (hfr (nc + (i - n)) (by omega) (by omega))))
        · rw [if_neg q1, if_neg q2] at q
          have := Y'.2 (nc + (i - n)) (nc + (j - n)) (by omega) (by omega) q
          omega
    have G := KK T' (fun i => if i < n then A i else A1 (nc + (i - n))) (fun i => if i < n then K i else K1 (nc + (i - n))) (fun i hi => ⟨if_pos hi, if_pos hi⟩) ⟨T'.heap, locs ++ L', X', rfl, Y2, ?_, ?_, Fr.app N N', Nat.le_trans hn Kp'.1, by rw [List.length_append, own_updl]; omega⟩
    · rw [denL_eq (nA := n) (nD := nD) hA2 hDlt hokr.1, List.map_append, denst_eq (nA := n) (nD := nD) hA2 hDlt hokr.2.1] at G
      have e1 : ((res.map (sb π δ ω n nc nD mD)).toList).map (den (fun i => if i < n then A i else A1 (nc + (i - n))) D2 W) = v.toList := by
        rw [hvv]
        cases res with
        | none => rfl
        | some r =>
          show [den _ D2 W (sb π δ ω n nc nD mD r)] = [_]
          rw [dsb2 r (List.all_eq_true.mp hwr r (by simp))]
      rw [e1] at G
      exact G
    · have e1 : (List.range nB).map (fun i => if i < n then A i else A1 (nc + (i - n))) = (List.range nB).map A := List.map_congr_left fun i hi => if_pos (by have := List.mem_range.mp hi; omega)
      rw [e1]
      refine Kp.trans Kp' fun x hx => ?_
      obtain ⟨i, hi, rfl⟩ := List.mem_map.mp hx
      rw [show pA π n nc i = π.getD i 0 from hpA i (List.mem_range.mp hi)]
      exact own_kw (n := n) hsz (hπ i (List.mem_range.mp hi))
    · intro i hi hil
      rw [List.length_append, own_updl, hnn, List.length_map, List.length_drop] at hil
      dsimp only
      by_cases q : i < n
      · rw [if_pos q]; exact hsz i hi (by omega)
      · rw [if_neg q]; exact Nat.le_trans Kp.1 (hfr _ (by omega) (by omega))
  have hsz2 : (L.map (denS A D W)).size = c.maxLocals := by rw [Array.size_map]; exact hLs
  have hda : ∀ al : List Value, args'.map (sb π δ ω n nc nD mD) = al → (args'.map (den (fun i => A (pA π n nc i)) (fun j => dX D (pD δ nD mD j)) (fun k => den A D W (ω.getD k .null)))).toArray = (al.map (den A D W)).toArray := by
    intro al e1
    rw [← e1, List.map_map]
    exact congrArg List.toArray (List.map_congr_left fun v hv => (dsb v (List.all_eq_true.mp hwa v hv)).symm)
  have htk : (st.take np).length = np := by rw [List.length_take]; omega
  by_cases hk0 : kd = 0
  · subst hk0
    simp only [if_true] at hargs hrl hok hkn K_
    have G := hC op 0 mn np rc hcl X hx hZ hown (argsL := ((st.take np).reverse).map (den A D W)) (rest := (st.drop np).map (den A D W)) (b := 0) hM eT (fun q => absurd q (by decide)) (by rw [hda _ hargs]; rfl) hsz2 (by rw [List.length_map, List.length_reverse, htk]) hrf (by rw [own_catsum (st.drop np) hkn]; exact hrl) hrc hrs hd (fun v T' L' X' Q' => back (st.drop np) hok v T' L' X' Q' K_)
    simp only [if_true] at G
    rw [← List.map_reverse, List.reverse_reverse, ← List.map_append, List.take_append_drop] at G
    exact G
  · rcases hrec with q | hrv
    · exact absurd q hk0
    · obtain ⟨b, hb, hb1⟩ := recv_e hrv
      have er : own_rest kd np st = (st.drop np).drop 1 := if_neg hk0
      have ea : own_al kd np st = .ref b :: (st.take np).reverse := by unfold own_al; rw [if_neg hk0, hb]
      rw [ea] at hargs
      rw [er] at hrl hok hkn K_
      have hdr : st.drop np = .ref b :: (st.drop np).drop 1 := by
        cases e1 : st.drop np with
        | nil => rw [e1] at hb; cases hb
        | cons x r => rw [e1] at hb; cases hb; rfl
      have G := hC op kd mn np rc hcl X hx hZ hown (argsL := ((st.take np).reverse).map (den A D W)) (rest := ((st.drop np).drop 1).map (den A D W)) (b := A b) hM eT (fun q => by
          obtain ⟨hlt, d, ed, ec⟩ := hb1 q
          have H := (Y.1 _ _ ed).2
          unfold HdF at H
          rw [if_pos (by omega)] at H
          rw [← ec]
          exact H.1) (by rw [if_neg hk0, hda _ hargs]; rfl) hsz2 (by rw [List.length_map, List.length_reverse, htk]) hrf (by rw [own_catsum _ hkn]; exact hrl) hrc hrs hd (fun v T' L' X' Q' => back ((st.drop np).drop 1) hok v T' L' X' Q' K_)
      rw [if_neg hk0, ← List.map_reverse, List.reverse_reverse] at G
      have e2 : st.map (den A D W) = (st.take np).map (den A D W) ++ (Value.ref (A b) :: ((st.drop np).drop 1).map (den A D W)) := by
        conv => lhs; rw [← List.take_append_drop np st, hdr]
        rw [List.map_append]
        rfl
      rw [e2]
      exact G
end OwnExecK
section OwnExecR
variable {p : Program} {l : Launch} {e : Env} {R : Room} {s : State} {m : MethodId} {args : Array Value} {below : List Frame} {meth : Method} {c : Code} {T : State} {locs : List Loc} {cells slots : Nat} {Z : State} {a0 : Array Value} {h h' : Heap} {Ev : State → Outcome → Prop}
abbrev clN (ad : String) : MethodName := ⟨ad, "clone", "()Ljava/lang/Object;"⟩
def NatOK (Z : State) (a0 : Array Value) (own : String) (nt : Instr → Option (Nat × Nat)) : Prop := ∀ op k cd, nt op = some (k, cd) →
  (k = 1 ∧ 64 ≤ cd ∧ cd ≤ 66 ∧ ∃ i, op = .invokevirtual i ∧ (Jvm.Cond.methodLink own i (clN (own_adn cd))).before a0 Z = true ∧ (Jvm.Cond.sameMethod (own_adn cd) "java/lang/Object" "clone" "()Ljava/lang/Object;").before a0 Z = true ∧ (Jvm.Cond.native (clN "java/lang/Object")).before a0 Z = true ∧ (Jvm.Cond.instanceMethod (clN "java/lang/Object")).before a0 Z = true ∧ (Jvm.Cond.selects (own_adn cd) (clN (own_adn cd)) (clN "java/lang/Object")).before a0 Z = true ∧ (Jvm.Cond.castable (own_adn cd) "java/lang/Cloneable").before a0 Z = true) ∨
  (k = 2 ∧ ∃ i, op = .invokestatic i ∧ (Jvm.Cond.methodLink own i Jvm.Stand.acN).before a0 Z = true ∧ (Jvm.Cond.native Jvm.Stand.acN).before a0 Z = true ∧ (Jvm.Cond.static Jvm.Stand.acN).before a0 Z = true ∧ (Jvm.Cond.initialized "java/lang/System").before a0 Z = true) ∨
  (k = 3 ∧ ∃ i, op = .invokestatic i ∧ (Jvm.Cond.methodLink own i ⟨"java/lang/Math", "abs", "(D)D"⟩).before a0 Z = true ∧ (Jvm.Cond.static ⟨"java/lang/Math", "abs", "(D)D"⟩).before a0 Z = true ∧ (Jvm.Cond.initialized "java/lang/Math").before a0 Z = true ∧ (Jvm.Cond.code ⟨"java/lang/Math", "abs", "(D)D"⟩ Jvm.Free.Fl.Abs.absDCode 2 (some .double)).before a0 Z = true) ∨
  (k = 4 ∧ ∃ i, op = .invokestatic i ∧ (Jvm.Cond.methodLink own i ⟨"java/lang/Math", "max", "(DD)D"⟩).before a0 Z = true ∧ (Jvm.Cond.static ⟨"java/lang/Math", "max", "(DD)D"⟩).before a0 Z = true ∧ (Jvm.Cond.initialized "java/lang/Math").before a0 Z = true ∧ (Jvm.Cond.code ⟨"java/lang/Math", "max", "(DD)D"⟩ Jvm.Free.Fl.Abs.maxDCode 4 (some .double)).before a0 Z = true) ∨
  (k = 5 ∧ ∃ i, op = .invokespecial i ∧ (Jvm.Cond.methodLink own i ⟨"java/lang/Object", "<init>", "()V"⟩).before a0 Z = true ∧ (Jvm.Cond.instanceMethod ⟨"java/lang/Object", "<init>", "()V"⟩).before a0 Z = true ∧ (Jvm.Cond.code ⟨"java/lang/Object", "<init>", "()V"⟩ object_method_1_code 1 none).before a0 Z = true)
def catS (r : List Value) : Nat := (r.map fun v => v.category).sum
def stpV (code : ByteArray) (nt : Instr → Option (Nat × Nat)) (ml : Nat) (RR : Nat × Nat × Nat × Nat) (nD cells slots : Nat) (ds : List AD) (pc : Nat) (L : Array Slot) (st : List Value) : Option (Nat × List Value × List AD × List Op × Nat × Nat) :=
  match decode code pc with
  | .ok (op, 3) => match nt op with
    | some (1, cd) => match st with
      | .ref a :: r => match ds[a]? with
        | some d => if d.1 = cd ∧ okSt ds.length nD L r ds = true ∧ r.all kn = true ∧ L.size = ml ∧ 1 ≤ RR.1 ∧ catS r + 14 ≤ RR.2.2.2 ∧ cells + 1 ≤ RR.2.1 ∧ slots + d.2.1 ≤ RR.2.2.1 ∧ d.2.1 < 2147483648 then some (pc + 3, .ref ds.length :: r, ds ++ [d], [], 1, d.2.1) else none
        | none => none
      | _ => none
    | some (2, _) => match st with
      | .int n :: .int i :: .ref b :: .int j :: .ref a :: r => match ds[a]?, ds[b]? with
        | some da, some db => if i = 0 ∧ j = 0 ∧ da.1 = db.1 ∧ (da.1 = 64 ∨ (da.1 = 65 ∧ n = 0)) ∧ r.all kn = true ∧ L.size = ml ∧ 1 ≤ RR.1 ∧ catS r + 40 ≤ RR.2.2.2 ∧ 0 ≤ n.toInt ∧ n.toInt ≤ 1000 ∧ n.toInt ≤ (da.2.1 : Int) ∧ n.toInt ≤ (db.2.1 : Int) ∧ da.2.1 < 2147483648 ∧ db.2.1 < 2147483648 ∧ n.toNatClampNeg ≤ da.2.2.length then some (pc + 3, r, if n = 0 then ds else ds.set b (db.1, db.2.1, da.2.2.take n.toNatClampNeg ++ db.2.2.drop n.toNatClampNeg), [], 0, 0) else none
        | _, _ => none
      | _ => none
    | some (3, _) => match st with
      | .double x :: r => if okSt ds.length nD L r ds = true ∧ nD < 4096 ∧ r.all kn = true ∧ L.size = ml ∧ 1 ≤ RR.1 ∧ catS r + 15 ≤ RR.2.2.2 ∧ cells ≤ RR.2.1 ∧ slots ≤ RR.2.2.1 then some (pc + 3, .double (UInt64.ofNat nD) :: r, ds, [(4, x.toNat, 0, 0)], 0, 0) else none
      | _ => none
    | some (4, _) => match st with
      | .double y :: .double x :: r => if okSt ds.length nD L r ds = true ∧ nD < 4096 ∧ r.all kn = true ∧ L.size = ml ∧ 1 ≤ RR.1 ∧ catS r + 15 ≤ RR.2.2.2 ∧ cells ≤ RR.2.1 ∧ slots ≤ RR.2.2.1 then some (pc + 3, .double (UInt64.ofNat nD) :: r, ds, [(5, x.toNat, y.toNat, 0)], 0, 0) else none
      | _ => none
    | some (5, _) => match st with
      | .ref a :: r => if r.all kn = true ∧ L.size = ml ∧ 1 ≤ RR.1 ∧ catS r + 12 ≤ RR.2.2.2 then some (pc + 3, r, ds, [], 0, 0) else none
      | _ => none
    | _ => none
  | _ => none
theorem own_grow {A : Nat → Addr} {K : Nat → ClassId} {D : Nat → UInt64} {W : Nat → Value} {n0 nB nD : Nat} {hB : Heap} {ds : List AD} {d : AD} {L : Array Slot} {st1 : List Value} {pc' : Nat} {a : Addr} {k : ClassId} {T' : State} {cells' slots' : Nat} (Y : YgF Z n0 h A K D W ds) (Kp : Keep hB h ((List.range nB).map A)) (hsz : ∀ i, nB ≤ i → i < ds.length → hB.size ≤ A i) (N : Fr n0 locs) (hn : n0 ≤ h.size) (hnB : nB ≤ ds.length) (g : a = h.size) (X' : Stand p l e R s m args below meth c T' locs cells' slots') (e' : T'.heap = h') (E : Ext h h') (ok : okSt ds.length nD L st1 ds = true) (H : HdF Z h' a k (fun i => if i = ds.length then a else A i) D W d)
    (K_ : ∀ A' K', (∀ i, i < ds.length → A' i = A i ∧ K' i = K i) → Sit p l e R s m args below meth c Z n0 nB hB T' A' K' D W (ds ++ [d]) cells' slots' → Go p e below Ev T' (mkF m pc' (L.map (denS A' D W)) ((.ref ds.length :: st1).map (den A' D W)))) : Go p e below Ev T' (mkF m pc' (L.map (denS A D W)) (.ref a :: st1.map (den A D W))) := by
  simp only [okSt, Bool.and_eq_true] at ok
  have hA : ∀ i, i < ds.length → (if i = ds.length then a else A i) = A i := fun i hi => if_neg (by omega)
  have G := K_ (fun i => if i = ds.length then a else A i) (fun i => if i = ds.length then k else K i) (fun i hi => ⟨hA i hi, if_neg (by omega)⟩) ⟨h', locs, X', e', Y.push ok.2.2 g hn E H, ?_, ?_, N, Nat.le_trans hn E.1, by rw [List.length_append]; omega⟩
  · rw [denL_eq (nD := nD) hA (fun _ _ => rfl) ok.1, List.map_cons, denst_eq (nD := nD) hA (fun _ _ => rfl) ok.2.1] at G
    simpa [den] using G
  · have e1 : (List.range nB).map (fun i => if i = ds.length then a else A i) = (List.range nB).map A := List.map_congr_left fun i hi => hA i (by have := List.mem_range.mp hi; omega)
    rw [e1]
    exact Kp.ext E
  · intro i hi hil
    rw [List.length_append, List.length_singleton] at hil
    by_cases q : i = ds.length
    · simp only [q, if_true, g]
      exact Kp.1
    · simp only [if_neg q]
      exact hsz i hi (by omega)
theorem YgF.kp {A : Nat → Addr} {K : Nat → ClassId} {D : Nat → UInt64} {W : Nat → Value} {n0 : Nat} {ds : List AD} {b : Nat} {d d' : AD} (Y : YgF Z n0 h A K D W ds) (e : ds[b]? = some d) (Kp : Keep h h' [A b]) (H : HdF Z h' (A b) (K b) A D W d') : YgF Z n0 h' A K D W (ds.set b d') := by
  have hi : b < ds.length := (List.getElem?_eq_some_iff.mp e).1
  refine ⟨fun j x hj => ?_, fun x y hx hy q => Y.2 x y (by simpa using hx) (by simpa using hy) q⟩
  rw [List.getElem?_set] at hj
  split at hj
  · rename_i q
    subst q
    first
    | cases hj
    | (rw [if_pos hi] at hj; cases hj)
    exact ⟨(Y.1 _ _ e).1, H⟩
  · rename_i q
    have hjl : j < ds.length := (List.getElem?_eq_some_iff.mp hj).1
    refine ⟨(Y.1 _ _ hj).1, (Y.1 _ _ hj).2.keep Kp fun z => q (Y.2 _ _ hi hjl ?_)⟩
    have z' : A j = A b := by simpa using z
    exact z'.symm
theorem stpV_ok {A : Nat → Addr} {K : Nat → ClassId} {D : Nat → UInt64} {W : Nat → Value} {code : ByteArray} {own : String} {nt : Instr → Option (Nat × Nat)} {ml : Nat} {RR : Nat × Nat × Nat × Nat} {n0 nB nD dc dsl : Nat} {hB : Heap} {ds ds' : List AD} {ops : List Op} (hx : p.tables.exec = Jvm.exec) (hby : c.code = code) (hml : c.maxLocals = ml) (hR : R = rmOf RR) (hZ : Z.Warmed39 s.vm) (hown : s.vm.findClass own = some m.cls) (hC : NatOK Z a0 own nt) (S : Sit p l e R s m args below meth c Z n0 nB hB T A K D W ds cells slots) {pc pc' : Nat} {L : Array Slot} {st st' : List Value} (hs : stpV code nt ml RR nD cells slots ds pc L st = some (pc', st', ds', ops, dc, dsl)) (hv : okv ops nD D)
    (K_ : ∀ T' A' K', (∀ i, i < ds.length → A' i = A i ∧ K' i = K i) → Sit p l e R s m args below meth c Z n0 nB hB T' A' K' (finD ops nD D) W ds' (cells + dc) (slots + dsl) → Go p e below Ev T' (mkF m pc' (L.map (denS A' (finD ops nD D) W)) (st'.map (den A' (finD ops nD D) W)))) : Go p e below Ev T (mkF m pc (L.map (denS A D W)) (st.map (den A D W))) := by
  subst hby hR hml
  have S0 := S
  obtain ⟨h, locs, X, eT, Y, Kp, hsz, N, hn, hnB⟩ := S
  unfold stpV at hs
  split at hs
  case h_2 => cases hs
  next op hd =>
  split at hs
  · next cd hnt =>
    split at hs
    · next a r =>
      split at hs
      · next d e2 =>
        split at hs
        · next hc =>
          cases hs
          obtain ⟨hcd, ok, hkn, hLs, hf, hl, hcc, hss, hz⟩ := hc
          rcases hC op 1 cd hnt with ⟨-, q1, q2, i, rfl, w1, w2, w3, w4, w5, w6⟩ | ⟨q, -⟩ | ⟨q, -⟩ | ⟨q, -⟩ | ⟨q, -⟩
          · have H := (Y.1 _ _ e2).2.arr (by omega)
            have V := H.2.1
            have E0 := H.1
            rw [hcd] at V E0
            refine g_clone X hx hZ hown w1 w2 w3 w4 w5 w6 eT V E0 (catS r) d.2.1 _ hd rfl (by rw [Array.size_map]; exact hLs) hf (by rw [own_catsum _ hkn]; exact Nat.le_refl _) hl (by rw [Int32.toInt_ofNat_small hz]; exact Int.le_refl _) hcc hss ?_
            intro T' h' b g X' e' E V' E'
            have okk := ok
            simp only [okSt, Bool.and_eq_true] at okk
            refine own_grow (d := d) (k := K a) Y Kp hsz N hn hnB g X' e' E ok ?_ (fun A' K' hAK S' => K_ T' A' K' hAK S')
            have hA : ∀ i, i < ds.length → (if i = ds.length then b else A i) = A i := fun i hi => if_neg (by omega)
            refine HdF.env (A := A) (D := D) (nA := ds.length) (nD := nD) hA (fun _ _ => rfl) (List.all_eq_true.mp okk.2.2 d (List.mem_of_getElem? e2)) ?_
            unfold HdF
            rw [if_neg (by omega), hcd]
            exact ⟨E', V', fun q => by omega, fun q => by omega⟩
          all_goals cases q
        · cases hs
      · cases hs
    · cases hs
  · next cd hnt =>
    split at hs
    · next n i b j a r =>
      split at hs
      · next da db e2 e3 =>
        split at hs
        · next hc =>
          cases hs
          obtain ⟨rfl, rfl, hab, hty, hkn, hLs, hf, hl, hn0, hn1, hna, hnb, hza, hzb, hle⟩ := hc
          rcases hC op 2 cd hnt with ⟨q, -⟩ | ⟨-, i, rfl, w1, w2, w3, w4⟩ | ⟨q, -⟩ | ⟨q, -⟩ | ⟨q, -⟩
          · cases q
          · have HA := ((Y.1 _ _ e2).2.arr (by omega)).2.1
            have HB := ((Y.1 _ _ e3).2.arr (by omega))
            have HV := HB.2.1
            have hbl : b < ds.length := (List.getElem?_eq_some_iff.mp e3).1
            have hfw : nativeFrameWords "java/lang/System" "arraycopy" 5 + 11 ≤ 40 := by decide
            by_cases q0 : n = 0
            · subst q0
              rw [← hab] at HV
              have hty2 : ((refKind (own_aty da.1) != refKind (own_aty da.1)) || (!refKind (own_aty da.1) && own_aty da.1 != own_aty da.1)) = false := by
                rcases hty with q | ⟨q, -⟩ <;> rw [q] <;> decide
              refine g_copyP X hx hZ hown w1 w2 w3 w4 eT hty2 HA HV (catS st') _ hd rfl (by rw [Array.size_map]; exact hLs) hf (by rw [own_catsum _ hkn]; exact Nat.le_refl _) (by show _ ≤ RR.2.2.2; omega) ?_
              intro T' X' e'
              have G := K_ T' A K (fun _ _ => ⟨rfl, rfl⟩) (by rw [if_pos rfl]; exact ⟨h, locs, X', e', Y, Kp, hsz, N, hn, hnB⟩)
              exact G
            · rcases hty with q | ⟨-, q⟩
              · have q' : db.1 = 64 := hab ▸ q
                rw [q] at HA
                rw [q'] at HV
                refine g_copyI X hx hZ hown w1 w2 w3 w4 eT HA HV n.toNatClampNeg (own_ofn hn0).symm (by simp only [Int32.toNatClampNeg]; omega) (by rw [Int32.toInt_ofNat_small hza, ← own_ji hn0]; exact hna) (by rw [Int32.toInt_ofNat_small hzb, ← own_ji hn0]; exact hnb) (by rw [List.length_map]; exact hle) (catS st') _ hd rfl (by rw [Array.size_map]; exact hLs) hf (by rw [own_catsum _ hkn]; exact Nat.le_refl _) (by show _ ≤ RR.2.2.2; omega) ?_
                intro T' h' X' e' K1 V'
                have G := K_ T' A K (fun _ _ => ⟨rfl, rfl⟩) (by
                  rw [if_neg q0]
                  refine ⟨h', _, X', e', Y.kp e3 K1 ?_, Kp.trans K1 (allS (own_kw hsz hbl) all0), fun i hi hl => hsz i hi (by simpa using hl), Fr.app N (own_frcopy (Y.1 _ _ e3).1), Nat.le_trans hn K1.1, by simpa using hnB⟩
                  unfold HdF
                  show if db.1 < 64 then _ else _
                  rw [if_neg (by omega)]
                  refine ⟨?_, ?_, fun z => by omega, fun z => by omega⟩
                  · exact HB.1.keep K1
                  · show Arv Z h' (A b) (K b) (own_aty db.1) (Int32.ofNat db.2.1) ((da.2.2.take n.toNatClampNeg ++ db.2.2.drop n.toNatClampNeg).map (den A D W)) (own_adv db.1)
                    rw [q', List.map_append, List.map_take, List.map_drop]
                    exact V')
                exact G
              · exact absurd q q0
          all_goals cases q
        · cases hs
      · cases hs
    · cases hs
  · next cd hnt =>
    split at hs
    · next x r =>
      split at hs
      · next hc =>
        cases hs
        obtain ⟨ok, hnD, hkn, hLs, hf, hl, hcc, hss⟩ := hc
        rcases hC op 3 cd hnt with ⟨q, -⟩ | ⟨q, -⟩ | ⟨-, i, rfl, w1, w2, w3, w4⟩ | ⟨q, -⟩ | ⟨q, -⟩
        · cases q
        · cases q
        · refine g_absD X hx hZ hown w1 w2 w3 w4 rfl eT hv.1 (catS r) _ hd rfl (by rw [Array.size_map]; exact hLs) (by rw [own_catsum _ hkn]; exact Nat.le_refl _) hf (by show _ ≤ RR.2.2.2; omega) hcc hss (by decide +kernel) ?_
          intro T' X' e'
          have okk := ok
          simp only [okSt, Bool.and_eq_true] at okk
          have hD : ∀ j, j < nD → finD [(4, x.toNat, 0, 0)] nD D j = D j := fun j hj => finD_lt _ _ _ hj
          have G := K_ T' A K (fun _ _ => ⟨rfl, rfl⟩) (Sit.dbl (D := D) (nD := nD) ⟨h, locs, X', e', Y, Kp, hsz, N, hn, hnB⟩ hD okk.2.2)
          rw [denL_eq (nA := ds.length) (fun _ _ => rfl) hD okk.1, List.map_cons, denst_eq (nA := ds.length) (fun _ _ => rfl) hD okk.2.1] at G
          have hf2 : finD [(4, x.toNat, 0, 0)] nD D = fun i => if i = nD then (dX D x.toNat &&& 0x7fffffffffffffff) else D i := rfl
          rw [hf2, own_dnew hnD] at G
          exact G
        · cases q
        · cases q
      · cases hs
    · cases hs
  · next cd hnt =>
    split at hs
    · next y x r =>
      split at hs
      · next hc =>
        cases hs
        obtain ⟨ok, hnD, hkn, hLs, hf, hl, hcc, hss⟩ := hc
        rcases hC op 4 cd hnt with ⟨q, -⟩ | ⟨q, -⟩ | ⟨q, -⟩ | ⟨-, i, rfl, w1, w2, w3, w4⟩ | ⟨q, -⟩
        · cases q
        · cases q
        · cases q
        · have hv1 : Jvm.Free.Fl.NoNaN64 (dX D x.toNat) ∧ Jvm.Free.Fl.NoNaN64 (dX D y.toNat) := hv.1
          refine g_maxD X hx hZ hown w1 w2 w3 w4 rfl eT hv1.1 hv1.2 (r := Jvm.Native.java_lang_Math.nans.pick64 true (dX D x.toNat) (dX D y.toNat)) rfl (catS r) _ hd rfl (by rw [Array.size_map]; exact hLs) (by rw [own_catsum _ hkn]; exact Nat.le_refl _) hf (by show _ ≤ RR.2.2.2; omega) hcc hss (by decide +kernel) ?_
          intro T' X' e'
          have okk := ok
          simp only [okSt, Bool.and_eq_true] at okk
          have hD : ∀ j, j < nD → finD [(5, x.toNat, y.toNat, 0)] nD D j = D j := fun j hj => finD_lt _ _ _ hj
          have G := K_ T' A K (fun _ _ => ⟨rfl, rfl⟩) (Sit.dbl (D := D) (nD := nD) ⟨h, locs, X', e', Y, Kp, hsz, N, hn, hnB⟩ hD okk.2.2)
          rw [denL_eq (nA := ds.length) (fun _ _ => rfl) hD okk.1, List.map_cons, denst_eq (nA := ds.length) (fun _ _ => rfl) hD okk.2.1] at G
          have hf2 : finD [(5, x.toNat, y.toNat, 0)] nD D = fun i => if i = nD then Jvm.Native.java_lang_Math.nans.pick64 true (dX D x.toNat) (dX D y.toNat) else D i := rfl
          rw [hf2, own_dnew hnD] at G
          exact G
        · cases q
      · cases hs
    · cases hs
  · next cd hnt =>
    split at hs
    · next a r =>
      split at hs
      · next hc =>
        cases hs
        obtain ⟨hkn, hLs, hf, hl⟩ := hc
        rcases hC op 5 cd hnt with ⟨q, -⟩ | ⟨q, -⟩ | ⟨q, -⟩ | ⟨q, -⟩ | ⟨-, i, rfl, w1, w2, w3⟩
        · cases q
        · cases q
        · cases q
        · cases q
        · refine g_objinit X hx hZ hown w1 w2 w3 eT (catS st') _ hd rfl (by rw [Array.size_map]; exact hLs) hf (by rw [own_catsum _ hkn]; exact Nat.le_refl _) (by show _ ≤ RR.2.2.2; omega) ?_
          intro T' X' e'
          exact K_ T' A K (fun _ _ => ⟨rfl, rfl⟩) ⟨h, locs, X', e', Y, Kp, hsz, N, hn, hnB⟩
      · cases hs
    · cases hs
  · cases hs
end OwnExecR
section OwnExecZ
variable {p : Program} {l : Launch} {e : Env} {R : Room} {s : State} {m : MethodId} {args : Array Value} {below : List Frame} {meth : Method} {c : Code} {T : State} {locs : List Loc} {cells slots : Nat} {Z : State} {a0 : Array Value} {h h' : Heap} {Ev : State → Outcome → Prop}
abbrev Md := Pool × (Nat → Option FieldType) × (Nat → Option (Nat × Nat)) × (Instr → Option (Nat × Nat × Nat × Nat)) × (Instr → Option (Nat × Nat))
def MdOK (Z : State) (a0 : Array Value) (own mn : String) (M : Md) : Prop := PoolOK Z a0 own M.1 ∧ PutOK Z a0 own mn M.2.1 M.1 ∧ NewOK Z a0 own M.2.2.1 ∧ CallsOK Z own M.2.2.2.1 ∧ NatOK Z a0 own M.2.2.2.2
def isRet (code : ByteArray) (pc : Nat) : Bool :=
  match decode code pc with
  | .ok (.ireturn, 1) => true
  | .ok (.lreturn, 1) => true
  | .ok (.dreturn, 1) => true
  | .ok (.areturn, 1) => true
  | .ok (.return_, 1) => true
  | _ => false
abbrev MS := Nat × Array Slot × List Value × List AD × Nat × Nat × Nat
def run (code : ByteArray) (M : Md) (ml : Nat) (RR : Nat × Nat × Nat × Nat) (to : Nat) : Nat → List Sc → List Int32 → MS → Option (MS × List Op)
  | 0, _, _, _ => none
  | f + 1, sc, orc, (pc, L, st, ds, nD, ce, sl) =>
    if isRet code pc = true ∨ pc = to then some ((pc, L, st, ds, nD, ce, sl), [])
    else match stpQ code M.1 ds pc L st with
    | some (pc', L', st') => run code M ml RR to f sc orc (pc', L', st', ds, nD, ce, sl)
    | none => match stpW code M.1 M.2.1 ds pc L st with
      | some (pc', L', st', ds') => run code M ml RR to f sc orc (pc', L', st', ds', nD, ce, sl)
      | none => match stpN code M.1 M.2.2.1 nD ds pc L st with
        | some (pc', st', d, w) => if ce + 1 ≤ RR.2.1 ∧ sl + w ≤ RR.2.2.1 then run code M ml RR to f sc orc (pc', L, st', ds ++ [d], nD, ce + 1, sl + w) else none
        | none => match stpD code nD ds orc pc L st with
          | some (pc', st', o, orc') => (run code M ml RR to f sc orc' (pc', L, st', ds, nxN o nD, ce, sl)).map fun r => (r.1, o :: r.2)
          | none => match stpV code M.2.2.2.2 ml RR nD ce sl ds pc L st with
            | some (pc', st', ds', ops, dc, dsl) => (run code M ml RR to f sc orc (pc', L, st', ds', finN ops nD, ce + dc, sl + dsl)).map fun r => (r.1, ops ++ r.2)
            | none => match sc with
              | E :: sc' => match stpC code M.2.2.2.1 ml RR nD ce sl ds E pc L st with
                | some (pc', st', ds', ops) => (run code M ml RR to f sc' orc (pc', L, st', ds', finN ops nD, ce + E.1.2.2.2.1, sl + E.1.2.2.2.2.1)).map fun r => (r.1, ops ++ r.2)
                | none => none
              | [] => none
theorem stpW_len {code : ByteArray} {P : Pool} {pw : Nat → Option FieldType} {ds ds' : List AD} {pc pc' : Nat} {L L' : Array Slot} {st st' : List Value} (hs : stpW code P pw ds pc L st = some (pc', L', st', ds')) : ds'.length = ds.length := by
  unfold stpW at hs
  repeat' split at hs
  all_goals first | (cases hs; done) | (cases hs; simp)
theorem stpV_len {code : ByteArray} {nt : Instr → Option (Nat × Nat)} {ml : Nat} {RR : Nat × Nat × Nat × Nat} {nD ce sl dc dsl : Nat} {ds ds' : List AD} {ops : List Op} {pc pc' : Nat} {L : Array Slot} {st st' : List Value} (hs : stpV code nt ml RR nD ce sl ds pc L st = some (pc', st', ds', ops, dc, dsl)) : ds.length ≤ ds'.length := by
  unfold stpV at hs
  repeat' split at hs
  all_goals first | (cases hs; done) | (cases hs; simp; done) | (cases hs; split <;> simp)
theorem stpC_len {code : ByteArray} {cl : Instr → Option (Nat × Nat × Nat × Nat)} {ml : Nat} {RR : Nat × Nat × Nat × Nat} {nD ce sl : Nat} {ds ds' : List AD} {E : Sc} {ops : List Op} {pc pc' : Nat} {L : Array Slot} {st st' : List Value} (hs : stpC code cl ml RR nD ce sl ds E pc L st = some (pc', st', ds', ops)) : ds.length ≤ ds'.length := by
  unfold stpC at hs
  split at hs
  · split at hs
    · dsimp only at hs
      split at hs
      · split at hs
        · split at hs
          · split at hs
            · cases hs
              rw [List.length_append, own_updl]
              omega
            · cases hs
          · cases hs
        · cases hs
      · cases hs
    · cases hs
  · cases hs
theorem run_ok {W : Nat → Value} {code : ByteArray} {own : String} {M : Md} {ml : Nat} {RR : Nat × Nat × Nat × Nat} {to n0 nB : Nat} {hB : Heap} (hw : HW a0 Z) (hx : p.tables.exec = Jvm.exec) (hby : c.code = code) (hml : c.maxLocals = ml) (hR : R = rmOf RR) (hZ : Z.Warmed39 s.vm) (hown : s.vm.findClass own = some m.cls) (hM : MdOK Z a0 own meth.name M) (CL : ClsOK Z a0) (hA : ArrOK Z a0) :
    ∀ (f : Nat) (sc : List Sc) (orc : List Int32) (pc : Nat) (L : Array Slot) (st : List Value) (ds : List AD) (nD ce sl pc' : Nat) (L' : Array Slot) (st' : List Value) (ds' : List AD) (nD' ce' sl' : Nat) (ops : List Op) (T : State) (A : Nat → Addr) (K : Nat → ClassId) (D : Nat → UInt64), run code M ml RR to f sc orc (pc, L, st, ds, nD, ce, sl) = some ((pc', L', st', ds', nD', ce', sl'), ops) → (∀ E ∈ sc, CtH E.1) → D 0 = 0 → 0 < nD → Sit p l e R s m args below meth c Z n0 nB hB T A K D W ds ce sl → okv ops nD D →
      (∀ T' A' K', (∀ i, i < ds.length → A' i = A i ∧ K' i = K i) → ds.length ≤ ds'.length → Sit p l e R s m args below meth c Z n0 nB hB T' A' K' (finD ops nD D) W ds' ce' sl' → Go p e below Ev T' (mkF m pc' (L'.map (denS A' (finD ops nD D) W)) (st'.map (den A' (finD ops nD D) W)))) →
      Go p e below Ev T (mkF m pc (L.map (denS A D W)) (st.map (den A D W))) := by
  obtain ⟨m1, m2, m3, m4, m5⟩ := hM
  intro f
  induction f with
  | zero => intro sc orc pc L st ds nD ce sl pc' L' st' ds' nD' ce' sl' ops T A K D hr; cases hr
  | succ f ih =>
    intro sc orc pc L st ds nD ce sl pc' L' st' ds' nD' ce' sl' ops T A K D hr hsc hD0 hnD S hv K_
    unfold run at hr
    split at hr
    · cases hr
      exact K_ T A K (fun _ _ => ⟨rfl, rfl⟩) (Nat.le_refl _) S
    · split at hr
      · next pc1 L1 st1 e1 =>
        obtain ⟨h, locs, X, eT, Y, r⟩ := S
        refine stpQ_ok X hx hby hZ hown m1 eT Y hD0 e1 ?_
        intro T' X' e'
        exact ih sc orc pc1 L1 st1 ds nD ce sl pc' L' st' ds' nD' ce' sl' ops T' A K D hr hsc hD0 hnD ⟨h, locs, X', e', Y, r⟩ hv K_
      · split at hr
        · next pc1 L1 st1 ds1 e1 =>
          refine stpW_ok hx hby hZ hown m1 m2 CL S e1 ?_
          intro T' S'
          have hl := stpW_len e1
          exact ih sc orc pc1 L1 st1 ds1 nD ce sl pc' L' st' ds' nD' ce' sl' ops T' A K D hr hsc hD0 hnD S' hv (fun T2 A2 K2 ha hle => K_ T2 A2 K2 (fun i hi => ha i (by omega)) (by omega))
        · split at hr
          · next pc1 st1 d w e1 =>
            split at hr
            · next hc =>
              refine stpN_ok hx hby hZ hown m1 m3 hA hD0 S (by rw [hR]; exact hc.1) (by rw [hR]; exact hc.2) e1 ?_
              intro T' A1 K1 hAK S'
              refine ih sc orc pc1 L st1 (ds ++ [d]) nD (ce + 1) (sl + w) pc' L' st' ds' nD' ce' sl' ops T' A1 K1 D hr hsc hD0 hnD S' hv (fun T2 A2 K2 ha hle S2 => K_ T2 A2 K2 (fun i hi => ?_) (by rw [List.length_append] at hle; omega) S2)
              have := ha i (by rw [List.length_append]; omega)
              exact ⟨this.1.trans (hAK i hi).1, this.2.trans (hAK i hi).2⟩
            · cases hr
          · split at hr
            · next pc1 st1 o orc1 e1 =>
              cases e2 : run code M ml RR to f sc orc1 (pc1, L, st1, ds, nxN o nD, ce, sl) with
              | none => rw [e2] at hr; cases hr
              | some r =>
                rw [e2] at hr
                obtain ⟨⟨a1, a2, a3, a4, a5, a6, a7⟩, ops1⟩ := r
                cases hr
                have hv' : vc1 o D ∧ okv ops1 (nxN o nD) (nxD o nD D) := hv
                refine stpD_ok hx hby S e1 hv'.1 ?_
                intro S'
                exact ih sc orc1 pc1 L st1 ds (nxN o nD) ce sl _ _ _ _ _ _ _ ops1 T A K (nxD o nD D) e2 hsc (by rw [nxD_lt o nD D hnD]; exact hD0) (Nat.lt_of_lt_of_le hnD (nxN_le o nD)) S' hv'.2 K_
            · split at hr
              · next pc1 st1 ds1 ops0 dc dsl e1 =>
                cases e2 : run code M ml RR to f sc orc (pc1, L, st1, ds1, finN ops0 nD, ce + dc, sl + dsl) with
                | none => rw [e2] at hr; cases hr
                | some r =>
                  rw [e2] at hr
                  obtain ⟨⟨a1, a2, a3, a4, a5, a6, a7⟩, ops1⟩ := r
                  cases hr
                  obtain ⟨v1, v2⟩ := (okv_app ops0 ops1 nD D).mp hv
                  have hl := stpV_len e1
                  refine stpV_ok hx hby hml hR hZ hown m5 S e1 v1 ?_
                  intro T' A1 K1 hAK S'
                  refine ih sc orc pc1 L st1 ds1 (finN ops0 nD) (ce + dc) (sl + dsl) _ _ _ _ _ _ _ ops1 T' A1 K1 (finD ops0 nD D) e2 hsc (by rw [finD_lt ops0 nD D hnD]; exact hD0) (Nat.lt_of_lt_of_le hnD (finN_le ops0 nD)) S' v2 (fun T2 A2 K2 ha hle S2 => ?_)
                  have G := K_ T2 A2 K2 (fun i hi => ⟨(ha i (by omega)).1.trans (hAK i hi).1, (ha i (by omega)).2.trans (hAK i hi).2⟩) (by omega)
                  rw [finD_app] at G
                  exact G S2
              · split at hr
                · next E sc1 =>
                  split at hr
                  · next pc1 st1 ds1 ops0 e1 =>
                    cases e2 : run code M ml RR to f sc1 orc (pc1, L, st1, ds1, finN ops0 nD, ce + E.1.2.2.2.1, sl + E.1.2.2.2.2.1) with
                    | none => rw [e2] at hr; cases hr
                    | some r =>
                      rw [e2] at hr
                      obtain ⟨⟨a1, a2, a3, a4, a5, a6, a7⟩, ops1⟩ := r
                      cases hr
                      obtain ⟨v1, v2⟩ := (okv_app ops0 ops1 nD D).mp hv
                      have hl := stpC_len e1
                      refine stpC_ok hw hx hby hml hR hZ hown m4 (hsc E (List.mem_cons_self ..)) hD0 S e1 v1 ?_
                      intro T' A1 K1 hAK S'
                      refine ih sc1 orc pc1 L st1 ds1 (finN ops0 nD) (ce + E.1.2.2.2.1) (sl + E.1.2.2.2.2.1) _ _ _ _ _ _ _ ops1 T' A1 K1 (finD ops0 nD D) e2 (fun x hx' => hsc x (List.mem_cons_of_mem _ hx')) (by rw [finD_lt ops0 nD D hnD]; exact hD0) (Nat.lt_of_lt_of_le hnD (finN_le ops0 nD)) S' v2 (fun T2 A2 K2 ha hle S2 => ?_)
                      have G := K_ T2 A2 K2 (fun i hi => ⟨(ha i (by omega)).1.trans (hAK i hi).1, (ha i (by omega)).2.trans (hAK i hi).2⟩) (by omega)
                      rw [finD_app] at G
                      exact G S2
                  · cases hr
                · cases hr
def retOK (code : ByteArray) (rt : Option FieldType) (pc : Nat) (st : List Value) (res : Option Value) : Bool :=
  match rt, decode code pc, st, res with
  | none, .ok (.return_, 1), [], none => true
  | some .int, .ok (.ireturn, 1), .int x :: _, some (.int y) => x == y
  | some .boolean, .ok (.ireturn, 1), .int x :: _, some (.int y) => x == y && (nar .boolean x == x)
  | some .long, .ok (.lreturn, 1), .long x :: _, some (.long y) => x == y
  | some .double, .ok (.dreturn, 1), .double x :: _, some (.double y) => x == y
  | some (.array _), .ok (.areturn, 1), .ref x :: _, some (.ref y) => x == y
  | some (.object _), .ok (.areturn, 1), .ref x :: _, some (.ref y) => x == y
  | _, _, _, _ => false
def dL (A : Nat → Addr) (D : Nat → UInt64) (W : Nat → Value) (L : Array Slot) : Array Slot := (L.toList.map (denS A D W)).toArray
theorem dL_eq (A : Nat → Addr) (D : Nat → UInt64) (W : Nat → Value) (L : Array Slot) : dL A D W L = L.map (denS A D W) := by
  unfold dL
  apply Array.ext'
  simp
def runIs (r : Option (MS × List Op)) (σ : MS) (ops : List Op) : Bool :=
  match r with
  | some (τ, o) => decide (o = ops) && (decide (τ.1 = σ.1) && (decide (τ.2.1.toList = σ.2.1.toList) && (decide (τ.2.2.1 = σ.2.2.1) && (decide (τ.2.2.2.1 = σ.2.2.2.1) && (decide (τ.2.2.2.2.1 = σ.2.2.2.2.1) && (decide (τ.2.2.2.2.2.1 = σ.2.2.2.2.2.1) && decide (τ.2.2.2.2.2.2 = σ.2.2.2.2.2.2)))))))
  | none => false
theorem runIs_e {r : Option (MS × List Op)} {σ : MS} {ops : List Op} (h : runIs r σ ops = true) : r = some (σ, ops) := by
  unfold runIs at h
  split at h
  · next τ o =>
    simp only [Bool.and_eq_true, decide_eq_true_eq] at h
    obtain ⟨rfl, h1, h2, h3, h4, h5, h6, h7⟩ := h
    obtain ⟨a1, a2, a3, a4, a5, a6, a7⟩ := τ
    obtain ⟨b1, b2, b3, b4, b5, b6, b7⟩ := σ
    dsimp only at h1 h2 h3 h4 h5 h6 h7
    have h2' : a2 = b2 := Array.ext' h2
    subst h1 h2' h3 h4 h5 h6 h7
    rfl
  · cases h
theorem seg {W : Nat → Value} {code : ByteArray} {own : String} {M : Md} {ml : Nat} {RR : Nat × Nat × Nat × Nat} {to n0 f nD pc pc' nD' cells' slots' : Nat} {sc : List Sc} {orc : List Int32} {L L' : Array Slot} {st st' : List Value} {ds ds' : List AD} {ops : List Op} {A : Nat → Addr} {K : Nat → ClassId} {D : Nat → UInt64} (hr : run code M ml RR to f sc orc (pc, L, st, ds, nD, cells, slots) = some ((pc', L', st', ds', nD', cells', slots'), ops)) (hsc : ∀ E ∈ sc, CtH E.1) (hw : HW a0 Z) (hx : p.tables.exec = Jvm.exec) (hby : c.code = code) (hml : c.maxLocals = ml) (hR : R = rmOf RR) (hZ : Z.Warmed39 s.vm) (hown : s.vm.findClass own = some m.cls) (hM : MdOK Z a0 own meth.name M ∧ ClsOK Z a0 ∧ ArrOK Z a0) (hD0 : D 0 = 0) (hnD : 0 < nD) (X : Stand p l e R s m args below meth c T locs cells slots) (eT : T.heap = h) (Y : YgF Z n0 h A K D W ds) (N : Fr n0 locs) (hn : n0 ≤ h.size) (hv : okv ops nD D)
    (K_ : ∀ T' h' locs' A' K', (∀ i, i < ds.length → A' i = A i ∧ K' i = K i) → Stand p l e R s m args below meth c T' locs' cells' slots' → T'.heap = h' → YgF Z n0 h' A' K' (finD ops nD D) W ds' → Fr n0 locs' → Keep h h' ((List.range ds.length).map A) → (∀ i, ds.length ≤ i → i < ds'.length → h.size ≤ A' i) → n0 ≤ h'.size → Go p e below Ev T' (mkF m pc' (dL A' (finD ops nD D) W L') (st'.map (den A' (finD ops nD D) W)))) : Go p e below Ev T (mkF m pc (dL A D W L) (st.map (den A D W))) := by
  rw [dL_eq]
  refine run_ok (nB := ds.length) (hB := h) (n0 := n0) hw hx hby hml hR hZ hown hM.1 hM.2.1 hM.2.2 f sc orc pc L st ds nD cells slots pc' L' st' ds' nD' cells' slots' ops T A K D hr hsc hD0 hnD ⟨h, locs, X, eT, Y, Keep.refl _ _, fun i h1 h2 => by omega, N, hn, Nat.le_refl _⟩ hv ?_
  intro T' A' K' hAK hle S'
  obtain ⟨h', locs', X', e', Y', Kp, hsz, N', hn', hnB⟩ := S'
  have hkr : (List.range ds.length).map A' = (List.range ds.length).map A := List.map_congr_left fun i hi => (hAK i (List.mem_range.mp hi)).1
  rw [hkr] at Kp
  have G := K_ T' h' locs' A' K' hAK X' e' Y' N' Kp hsz hn'
  rw [dL_eq] at G
  exact G
def own_al0 : List Value → List Slot
  | [] => []
  | v :: r => if v.category = 2 then .val v :: .second :: own_al0 r else .val v :: own_al0 r
theorem own_fold : ∀ (as : List Value) (acc : Array Slot), as.foldl (fun acc v => if v.category = 2 then (acc.push (.val v)).push .second else acc.push (.val v)) acc = acc ++ (own_al0 as).toArray
  | [], acc => by simp [own_al0]
  | v :: r, acc => by
    rw [List.foldl_cons, own_fold r]
    show (if v.category = 2 then (acc.push (.val v)).push .second else acc.push (.val v)) ++ (own_al0 r).toArray = acc ++ (if v.category = 2 then .val v :: .second :: own_al0 r else .val v :: own_al0 r).toArray
    by_cases hc : v.category = 2
    · rw [if_pos hc, if_pos hc]
      apply Array.ext'
      simp
    · rw [if_neg hc, if_neg hc]
      apply Array.ext'
      simp
theorem own_al0d {A : Nat → Addr} {D : Nat → UInt64} {W : Nat → Value} : ∀ (as : List Value), as.all kn = true → own_al0 (as.map (den A D W)) = (own_al0 as).map (denS A D W)
  | [], _ => rfl
  | v :: r, h => by
    rw [List.all_cons, Bool.and_eq_true] at h
    show (if (den A D W v).category = 2 then .val (den A D W v) :: .second :: own_al0 (r.map (den A D W)) else .val (den A D W v) :: own_al0 (r.map (den A D W))) = (if v.category = 2 then .val v :: .second :: own_al0 r else .val v :: own_al0 r).map (denS A D W)
    rw [den_cat h.1, own_al0d r h.2]
    by_cases hc : v.category = 2
    · rw [if_pos hc, if_pos hc]
      rfl
    · rw [if_neg hc, if_neg hc]
      rfl
def own_L0 (as : List Value) (ml : Nat) : List Slot := own_al0 as ++ List.replicate (ml - (own_al0 as).length) .unset
theorem own_ef {as : List Value} {ml : Nat} (h : as.all kn = true) (A : Nat → Addr) (D : Nat → UInt64) (W : Nat → Value) (m : MethodId) : entryFrame m (as.map (den A D W)).toArray ml = mkF m 0 (dL A D W (own_L0 as ml).toArray) [] := by
  have e3 : (as.map (den A D W)).toArray.foldl (init := #[]) (fun acc v => if v.category = 2 then (acc.push (.val v)).push .second else acc.push (.val v)) = ((own_al0 as).map (denS A D W)).toArray := by
    rw [List.foldl_toArray, own_fold, own_al0d as h]
    simp
  have e2 : argsToLocals (as.map (den A D W)).toArray ml = dL A D W (own_L0 as ml).toArray := by
    unfold dL argsToLocals own_L0
    dsimp only
    rw [e3]
    apply Array.ext'
    simp [denS]
  show mkF m 0 (argsToLocals (as.map (den A D W)).toArray ml) [] = _
  rw [e2]
def chk (mn nD f : Nat) (ds ds' : List AD) (res : Option Value) (ops : List Op) (RR : Nat × Nat × Nat × Nat) (M : Md) (L0 : Array Slot) (sc : List Sc) (orc : List Int32) : Bool :=
  match run (own_mc mn) M (own_ml mn) RR 1000000 f sc orc (0, L0, [], ds, nD, 0, 0) with
  | some (σ, o) => decide (o = ops) && (decide (σ.2.2.2.1 = ds') && (decide (0 < nD) && (decide (σ.2.2.2.2.2.1 ≤ RR.2.1) && (decide (σ.2.2.2.2.2.2 ≤ RR.2.2.1) && retOK (own_mc mn) (own_mr mn) σ.1 σ.2.2.1 res))))
  | none => false
theorem own_plf {mn : Nat} {own : String} (hcls : (own_mn mn).cls = own) (h : plainName own = true ∨ plainFor (own_mn mn) = true) : plainFor (own_mn mn) = true := h.elim (fun q => plainFor_of_name (by rw [hcls]; exact q)) id
theorem sc0 : ∀ E ∈ ([] : List Sc), CtH E.1 := fun _ q => by cases q
theorem scS {E : Sc} {t : List Sc} (h : CtH E.1) (r : ∀ x ∈ t, CtH x.1) : ∀ x ∈ E :: t, CtH x.1 := fun x hx => by
  rcases List.mem_cons.mp hx with rfl | hx
  · exact h
  · exact r x hx
theorem ctR {mn nD : Nat} {as : List Value} {ds ds' : List AD} {res : Option Value} {ops : List Op} {RR : Nat × Nat × Nat × Nat} {own : String} {M : Md} (f : Nat) (hpn : plainName own = true ∨ plainFor (own_mn mn) = true) (hcls : (own_mn mn).cls = own) (hM : ∀ (Z : State) (a0 : Array Value), (∀ d ∈ tables_1, d.before a0 Z = true) → MdOK Z a0 own (own_mn mn).name M ∧ ClsOK Z a0 ∧ ArrOK Z a0) (sc : List Sc) (orc : List Int32) (hsc : ∀ E ∈ sc, CtH E.1) (hc : (as.all kn && chk mn nD f ds ds' res ops RR M (own_L0 as (own_ml mn)).toArray sc orc) = true) : CtH ((mn, as, ds, nD), (res, ds', ops), RR) := by
  rw [Bool.and_eq_true] at hc
  obtain ⟨hkn, hc⟩ := hc
  generalize hL0 : (own_L0 as (own_ml mn)).toArray = L0 at hc
  unfold chk at hc
  split at hc
  case h_2 => cases hc
  next σ o hr =>
  simp only [Bool.and_eq_true, decide_eq_true_eq] at hc
  obtain ⟨rfl, hds, hnD, hce, hsl, hret⟩ := hc
  obtain ⟨pc', L', st', ds1, nD', ce', sl'⟩ := σ
  dsimp only at hds hce hsl hret
  subst hds
  intro l Z a0 hw A K D W h0 n0 hD0 hn Y hv
  obtain ⟨hMd, CL, hAr⟩ := hM Z a0 hw
  refine own_met (own_plf hcls hpn) (fun m => (own_ef hkn A D W m).trans (by rw [hL0, dL_eq])) ?_
  intro p e s m below meth c T X0 hx hby hml hretT hlk hnm hown hZ e0
  rw [hcls] at hown
  rw [← hnm] at hMd
  refine run_ok (nB := ds.length) (hB := h0) (n0 := n0) hw hx hby hml rfl hZ hown hMd CL hAr f sc orc 0 L0 [] ds nD 0 0 pc' L' st' ds1 nD' ce' sl' o T A K D hr hsc hD0 hnD ⟨h0, [], X0, e0, Y, Keep.refl _ _, fun i h1 h2 => by omega, Fr.nil n0, hn, Nat.le_refl _⟩ hv ?_
  intro T' A' K' hAK hle S'
  obtain ⟨h', locs', X', e', Y', Kp, hsz, N, hn', hnB⟩ := S'
  have hkr : (List.range ds.length).map A' = (List.range ds.length).map A := List.map_congr_left fun i hi => (hAK i (List.mem_range.mp hi)).1
  rw [hkr] at Kp
  have Q : ∀ r, r = res.map (den A' (finD o nD D) W) → QF Z n0 h0 A K D W ((mn, as, ds, nD), (res, ds1, o), RR) r h' locs' := fun r hr => ⟨A', K', hAK, hsz, hr, N, Kp, Y', hle⟩
  unfold retOK at hret
  split at hret
  · next e1 e2 => exact g_retV X' hx hlk (hretT.trans e1) (by rw [hby]; exact e2) hce hsl e' (Q _ rfl)
  · next x r y e1 e2 =>
    have q : x = y := by simpa using hret
    subst q
    exact g_retI X' hx hlk (hretT.trans e1) (by rw [hby]; exact e2) hce hsl e' (Q _ rfl)
  · next x r y e1 e2 =>
    simp only [Bool.and_eq_true, beq_iff_eq] at hret
    obtain ⟨rfl, q⟩ := hret
    exact g_retZ X' hx hlk (hretT.trans e1) (by rw [hby]; exact e2) hce hsl e' (Q _ (by rw [q]; rfl))
  · next x r y e1 e2 =>
    have q : x = y := by simpa using hret
    subst q
    exact g_retJ X' hx hlk (hretT.trans e1) (by rw [hby]; exact e2) hce hsl e' (Q _ rfl)
  · next x r y e1 e2 =>
    have q : x = y := by simpa using hret
    subst q
    exact g_retD X' hx hlk (hretT.trans e1) (by rw [hby]; exact e2) hce hsl e' (Q _ rfl)
  · next t x r y e1 e2 =>
    have q : x = y := by simpa using hret
    subst q
    exact g_retA X' hx hlk (hretT.trans e1) rfl rfl rfl (by rw [hby]; exact e2) hce hsl e' (Q _ rfl)
  · next t x r y e1 e2 =>
    have q : x = y := by simpa using hret
    subst q
    exact g_retA X' hx hlk (hretT.trans e1) rfl rfl rfl (by rw [hby]; exact e2) hce hsl e' (Q _ rfl)
  · cases hret
end OwnExecZ
abbrev vU (n : Nat) : Value := .retAddr n
abbrev vR (n : Nat) : Value := .ref n
abbrev vI (n : Int32) : Value := .int n
abbrev vD (n : UInt64) : Value := .double n
abbrev sR (n : Nat) : Slot := .val (.ref n)
abbrev sI (n : Int32) : Slot := .val (.int n)
abbrev sD (n : UInt64) : Slot := .val (.double n)
abbrev sF (n : UInt32) : Slot := .val (.float n)
abbrev sU : Slot := .unset
abbrev s2 : Slot := .second
def uS (a n : Nat) : List Value := (List.range n).map fun i => .retAddr (a + i)
def own_ed : List AD → List (Nat × AD) → List AD
  | ds, [] => ds
  | ds, (i, d) :: t => own_ed (ds.set i d) t
theorem own_ld_0 {Z : State} {a0 : Array Value} (hw : HW a0 Z) : Lds Z a0 (own_cn 0) (own_fls 0) := by
  intro f hf
  simp only [own_fls, List.mem_cons, List.not_mem_nil, or_false] at hf
  rcases hf with rfl | rfl | rfl | rfl | rfl | rfl | rfl | rfl | rfl | rfl | rfl | rfl | rfl | rfl | rfl | rfl | rfl | rfl | rfl | rfl | rfl | rfl | rfl | rfl | rfl | rfl | rfl | rfl | rfl
  · exact ⟨(Or.inl (tw hw 34 rfl)), (.array .int), by decide⟩
  · exact ⟨(Or.inl (tw hw 36 rfl)), (.array .double), by decide⟩
  · exact ⟨(Or.inl (tw hw 38 rfl)), (.array .int), by decide⟩
  · exact ⟨(Or.inl (tw hw 40 rfl)), (.array .double), by decide⟩
  · exact ⟨(Or.inl (tw hw 42 rfl)), (.array .int), by decide⟩
  · exact ⟨(Or.inl (tw hw 44 rfl)), (.array .double), by decide⟩
  · exact ⟨(Or.inl (tw hw 46 rfl)), (.array .int), by decide⟩
  · exact ⟨(Or.inl (tw hw 48 rfl)), (.array .double), by decide⟩
  · exact ⟨(Or.inl (tw hw 50 rfl)), (.array .int), by decide⟩
  · exact ⟨(Or.inl (tw hw 52 rfl)), (.array .double), by decide⟩
  · exact ⟨(Or.inl (tw hw 54 rfl)), (.array .int), by decide⟩
  · exact ⟨(Or.inl (tw hw 56 rfl)), (.array .int), by decide⟩
  · exact ⟨(Or.inl (tw hw 58 rfl)), (.array .double), by decide⟩
  · exact ⟨(Or.inr (tw hw 60 rfl)), .int, by decide⟩
  · exact ⟨(Or.inr (tw hw 62 rfl)), (.array .int), by decide⟩
  · exact ⟨(Or.inr (tw hw 64 rfl)), (.array .int), by decide⟩
  · exact ⟨(Or.inr (tw hw 66 rfl)), (.array .double), by decide⟩
  · exact ⟨(Or.inr (tw hw 68 rfl)), (.array .int), by decide⟩
  · exact ⟨(Or.inr (tw hw 70 rfl)), (.array .int), by decide⟩
  · exact ⟨(Or.inr (tw hw 72 rfl)), (.array .int), by decide⟩
  · exact ⟨(Or.inr (tw hw 74 rfl)), (.array .int), by decide⟩
  · exact ⟨(Or.inr (tw hw 76 rfl)), (.array .int), by decide⟩
  · exact ⟨(Or.inr (tw hw 78 rfl)), (.array .int), by decide⟩
  · exact ⟨(Or.inr (tw hw 94 rfl)), (.object "com/example/tracefold/tracefold/mining/SparseVector"), by decide⟩
  · exact ⟨(Or.inr (tw hw 96 rfl)), (.object "com/example/tracefold/tracefold/mining/SparseVector"), by decide⟩
  · exact ⟨(Or.inr (tw hw 98 rfl)), (.object "com/example/tracefold/tracefold/mining/SparseVector"), by decide⟩
  · exact ⟨(Or.inr (tw hw 100 rfl)), (.object "com/example/tracefold/tracefold/mining/SparseVector"), by decide⟩
  · exact ⟨(Or.inr (tw hw 117 rfl)), (.object "com/example/tracefold/tracefold/mining/FactoredInverse$StepQueue"), by decide⟩
  · exact ⟨(Or.inl (tw hw 126 rfl)), .int, by decide⟩
theorem own_pw_0 : ((own_fls 0).map (·.2.1)).Pairwise (· ≠ ·) := by decide +kernel
theorem own_nd_0 {Z : State} {a0 : Array Value} (hw : HW a0 Z) : ∀ (j : Nat) (v : Value) (f : String × String × String), (own_dvs 0)[j]? = some v → (own_fls 0)[j]? = some f → Laid Z a0 (own_cn 0) f.1 f.2.1 f.2.2 ∧ ∃ t, parseFieldDescriptor f.2.2 = some t ∧ ∀ (A : Nat → Addr) (D : Nat → UInt64) (W : Nat → Value), D 0 = 0 → den A D W v = defaultValue t := by
  intro j v f h1 h2
  obtain ⟨hl, -⟩ := List.getElem?_eq_some_iff.mp h1
  have hj : j < 29 := hl
  match j, hj, h1, h2 with
  | 0, _, h1, h2 => cases h1; cases h2; exact ⟨(Or.inl (tw hw 34 rfl)), (.array .int), by decide, fun A D W q => rfl⟩
  | 1, _, h1, h2 => cases h1; cases h2; exact ⟨(Or.inl (tw hw 36 rfl)), (.array .double), by decide, fun A D W q => rfl⟩
  | 2, _, h1, h2 => cases h1; cases h2; exact ⟨(Or.inl (tw hw 38 rfl)), (.array .int), by decide, fun A D W q => rfl⟩
  | 3, _, h1, h2 => cases h1; cases h2; exact ⟨(Or.inl (tw hw 40 rfl)), (.array .double), by decide, fun A D W q => rfl⟩
  | 4, _, h1, h2 => cases h1; cases h2; exact ⟨(Or.inl (tw hw 42 rfl)), (.array .int), by decide, fun A D W q => rfl⟩
  | 5, _, h1, h2 => cases h1; cases h2; exact ⟨(Or.inl (tw hw 44 rfl)), (.array .double), by decide, fun A D W q => rfl⟩
  | 6, _, h1, h2 => cases h1; cases h2; exact ⟨(Or.inl (tw hw 46 rfl)), (.array .int), by decide, fun A D W q => rfl⟩
  | 7, _, h1, h2 => cases h1; cases h2; exact ⟨(Or.inl (tw hw 48 rfl)), (.array .double), by decide, fun A D W q => rfl⟩
  | 8, _, h1, h2 => cases h1; cases h2; exact ⟨(Or.inl (tw hw 50 rfl)), (.array .int), by decide, fun A D W q => rfl⟩
  | 9, _, h1, h2 => cases h1; cases h2; exact ⟨(Or.inl (tw hw 52 rfl)), (.array .double), by decide, fun A D W q => rfl⟩
  | 10, _, h1, h2 => cases h1; cases h2; exact ⟨(Or.inl (tw hw 54 rfl)), (.array .int), by decide, fun A D W q => rfl⟩
  | 11, _, h1, h2 => cases h1; cases h2; exact ⟨(Or.inl (tw hw 56 rfl)), (.array .int), by decide, fun A D W q => rfl⟩
  | 12, _, h1, h2 => cases h1; cases h2; exact ⟨(Or.inl (tw hw 58 rfl)), (.array .double), by decide, fun A D W q => rfl⟩
  | 13, _, h1, h2 => cases h1; cases h2; exact ⟨(Or.inr (tw hw 60 rfl)), .int, by decide, fun A D W q => rfl⟩
  | 14, _, h1, h2 => cases h1; cases h2; exact ⟨(Or.inr (tw hw 62 rfl)), (.array .int), by decide, fun A D W q => rfl⟩
  | 15, _, h1, h2 => cases h1; cases h2; exact ⟨(Or.inr (tw hw 64 rfl)), (.array .int), by decide, fun A D W q => rfl⟩
  | 16, _, h1, h2 => cases h1; cases h2; exact ⟨(Or.inr (tw hw 66 rfl)), (.array .double), by decide, fun A D W q => rfl⟩
  | 17, _, h1, h2 => cases h1; cases h2; exact ⟨(Or.inr (tw hw 68 rfl)), (.array .int), by decide, fun A D W q => rfl⟩
  | 18, _, h1, h2 => cases h1; cases h2; exact ⟨(Or.inr (tw hw 70 rfl)), (.array .int), by decide, fun A D W q => rfl⟩
  | 19, _, h1, h2 => cases h1; cases h2; exact ⟨(Or.inr (tw hw 72 rfl)), (.array .int), by decide, fun A D W q => rfl⟩
  | 20, _, h1, h2 => cases h1; cases h2; exact ⟨(Or.inr (tw hw 74 rfl)), (.array .int), by decide, fun A D W q => rfl⟩
  | 21, _, h1, h2 => cases h1; cases h2; exact ⟨(Or.inr (tw hw 76 rfl)), (.array .int), by decide, fun A D W q => rfl⟩
  | 22, _, h1, h2 => cases h1; cases h2; exact ⟨(Or.inr (tw hw 78 rfl)), (.array .int), by decide, fun A D W q => rfl⟩
  | 23, _, h1, h2 => cases h1; cases h2; exact ⟨(Or.inr (tw hw 94 rfl)), (.object "com/example/tracefold/tracefold/mining/SparseVector"), by decide, fun A D W q => rfl⟩
  | 24, _, h1, h2 => cases h1; cases h2; exact ⟨(Or.inr (tw hw 96 rfl)), (.object "com/example/tracefold/tracefold/mining/SparseVector"), by decide, fun A D W q => rfl⟩
  | 25, _, h1, h2 => cases h1; cases h2; exact ⟨(Or.inr (tw hw 98 rfl)), (.object "com/example/tracefold/tracefold/mining/SparseVector"), by decide, fun A D W q => rfl⟩
  | 26, _, h1, h2 => cases h1; cases h2; exact ⟨(Or.inr (tw hw 100 rfl)), (.object "com/example/tracefold/tracefold/mining/SparseVector"), by decide, fun A D W q => rfl⟩
  | 27, _, h1, h2 => cases h1; cases h2; exact ⟨(Or.inr (tw hw 117 rfl)), (.object "com/example/tracefold/tracefold/mining/FactoredInverse$StepQueue"), by decide, fun A D W q => rfl⟩
  | 28, _, h1, h2 => cases h1; cases h2; exact ⟨(Or.inl (tw hw 126 rfl)), .int, by decide, fun A D W q => rfl⟩
theorem own_ld_1 {Z : State} {a0 : Array Value} (hw : HW a0 Z) : Lds Z a0 (own_cn 1) (own_fls 1) := by
  intro f hf
  simp only [own_fls, List.mem_cons, List.not_mem_nil, or_false] at hf
  rcases hf with rfl | rfl | rfl | rfl
  · exact ⟨(Or.inr (tw hw 87 rfl)), (.array .double), by decide⟩
  · exact ⟨(Or.inr (tw hw 90 rfl)), (.array .boolean), by decide⟩
  · exact ⟨(Or.inl (tw hw 92 rfl)), (.array .int), by decide⟩
  · exact ⟨(Or.inl (tw hw 304 rfl)), .int, by decide⟩
theorem own_pw_1 : ((own_fls 1).map (·.2.1)).Pairwise (· ≠ ·) := by decide +kernel
theorem own_nd_1 {Z : State} {a0 : Array Value} (hw : HW a0 Z) : ∀ (j : Nat) (v : Value) (f : String × String × String), (own_dvs 1)[j]? = some v → (own_fls 1)[j]? = some f → Laid Z a0 (own_cn 1) f.1 f.2.1 f.2.2 ∧ ∃ t, parseFieldDescriptor f.2.2 = some t ∧ ∀ (A : Nat → Addr) (D : Nat → UInt64) (W : Nat → Value), D 0 = 0 → den A D W v = defaultValue t := by
  intro j v f h1 h2
  obtain ⟨hl, -⟩ := List.getElem?_eq_some_iff.mp h1
  have hj : j < 4 := hl
  match j, hj, h1, h2 with
  | 0, _, h1, h2 => cases h1; cases h2; exact ⟨(Or.inr (tw hw 87 rfl)), (.array .double), by decide, fun A D W q => rfl⟩
  | 1, _, h1, h2 => cases h1; cases h2; exact ⟨(Or.inr (tw hw 90 rfl)), (.array .boolean), by decide, fun A D W q => rfl⟩
  | 2, _, h1, h2 => cases h1; cases h2; exact ⟨(Or.inl (tw hw 92 rfl)), (.array .int), by decide, fun A D W q => rfl⟩
  | 3, _, h1, h2 => cases h1; cases h2; exact ⟨(Or.inl (tw hw 304 rfl)), .int, by decide, fun A D W q => rfl⟩
theorem own_ld_2 {Z : State} {a0 : Array Value} (hw : HW a0 Z) : Lds Z a0 (own_cn 2) (own_fls 2) := by
  intro f hf
  simp only [own_fls, List.mem_cons, List.not_mem_nil, or_false] at hf
  rcases hf with rfl | rfl | rfl | rfl
  · exact ⟨(Or.inl (tw hw 109 rfl)), .int, by decide⟩
  · exact ⟨(Or.inr (tw hw 111 rfl)), .int, by decide⟩
  · exact ⟨(Or.inr (tw hw 113 rfl)), (.array .int), by decide⟩
  · exact ⟨(Or.inr (tw hw 115 rfl)), (.array .boolean), by decide⟩
theorem own_pw_2 : ((own_fls 2).map (·.2.1)).Pairwise (· ≠ ·) := by decide +kernel
theorem own_nd_2 {Z : State} {a0 : Array Value} (hw : HW a0 Z) : ∀ (j : Nat) (v : Value) (f : String × String × String), (own_dvs 2)[j]? = some v → (own_fls 2)[j]? = some f → Laid Z a0 (own_cn 2) f.1 f.2.1 f.2.2 ∧ ∃ t, parseFieldDescriptor f.2.2 = some t ∧ ∀ (A : Nat → Addr) (D : Nat → UInt64) (W : Nat → Value), D 0 = 0 → den A D W v = defaultValue t := by
  intro j v f h1 h2
  obtain ⟨hl, -⟩ := List.getElem?_eq_some_iff.mp h1
  have hj : j < 4 := hl
  match j, hj, h1, h2 with
  | 0, _, h1, h2 => cases h1; cases h2; exact ⟨(Or.inl (tw hw 109 rfl)), .int, by decide, fun A D W q => rfl⟩
  | 1, _, h1, h2 => cases h1; cases h2; exact ⟨(Or.inr (tw hw 111 rfl)), .int, by decide, fun A D W q => rfl⟩
  | 2, _, h1, h2 => cases h1; cases h2; exact ⟨(Or.inr (tw hw 113 rfl)), (.array .int), by decide, fun A D W q => rfl⟩
  | 3, _, h1, h2 => cases h1; cases h2; exact ⟨(Or.inr (tw hw 115 rfl)), (.array .boolean), by decide, fun A D W q => rfl⟩
theorem own_ld_3 {Z : State} {a0 : Array Value} (hw : HW a0 Z) : Lds Z a0 (own_cn 3) (own_fls 3) := by
  intro f hf
  simp only [own_fls, List.mem_cons, List.not_mem_nil, or_false] at hf
  rcases hf with rfl | rfl | rfl | rfl | rfl | rfl | rfl | rfl | rfl | rfl | rfl
  · exact ⟨(Or.inr (tw hw 134 rfl)), (.object "com/example/tracefold/tracefold/mining/FactoredInverse"), by decide⟩
  · exact ⟨(Or.inr (tw hw 139 rfl)), (.array (.array .int)), by decide⟩
  · exact ⟨(Or.inr (tw hw 142 rfl)), (.array (.array .double)), by decide⟩
  · exact ⟨(Or.inr (tw hw 144 rfl)), (.array .int), by decide⟩
  · exact ⟨(Or.inr (tw hw 146 rfl)), (.array .int), by decide⟩
  · exact ⟨(Or.inr (tw hw 172 rfl)), (.array (.array .int)), by decide⟩
  · exact ⟨(Or.inr (tw hw 197 rfl)), (.object "com/example/tracefold/tracefold/mining/FactoredInverse$Lists"), by decide⟩
  · exact ⟨(Or.inr (tw hw 199 rfl)), (.object "com/example/tracefold/tracefold/mining/FactoredInverse$Lists"), by decide⟩
  · exact ⟨(Or.inr (tw hw 201 rfl)), (.array .int), by decide⟩
  · exact ⟨(Or.inl (tw hw 252 rfl)), .int, by decide⟩
  · exact ⟨(Or.inl (tw hw 283 rfl)), .int, by decide⟩
theorem own_pw_3 : ((own_fls 3).map (·.2.1)).Pairwise (· ≠ ·) := by decide +kernel
theorem own_nd_3 {Z : State} {a0 : Array Value} (hw : HW a0 Z) : ∀ (j : Nat) (v : Value) (f : String × String × String), (own_dvs 3)[j]? = some v → (own_fls 3)[j]? = some f → Laid Z a0 (own_cn 3) f.1 f.2.1 f.2.2 ∧ ∃ t, parseFieldDescriptor f.2.2 = some t ∧ ∀ (A : Nat → Addr) (D : Nat → UInt64) (W : Nat → Value), D 0 = 0 → den A D W v = defaultValue t := by
  intro j v f h1 h2
  obtain ⟨hl, -⟩ := List.getElem?_eq_some_iff.mp h1
  have hj : j < 11 := hl
  match j, hj, h1, h2 with
  | 0, _, h1, h2 => cases h1; cases h2; exact ⟨(Or.inr (tw hw 134 rfl)), (.object "com/example/tracefold/tracefold/mining/FactoredInverse"), by decide, fun A D W q => rfl⟩
  | 1, _, h1, h2 => cases h1; cases h2; exact ⟨(Or.inr (tw hw 139 rfl)), (.array (.array .int)), by decide, fun A D W q => rfl⟩
  | 2, _, h1, h2 => cases h1; cases h2; exact ⟨(Or.inr (tw hw 142 rfl)), (.array (.array .double)), by decide, fun A D W q => rfl⟩
  | 3, _, h1, h2 => cases h1; cases h2; exact ⟨(Or.inr (tw hw 144 rfl)), (.array .int), by decide, fun A D W q => rfl⟩
  | 4, _, h1, h2 => cases h1; cases h2; exact ⟨(Or.inr (tw hw 146 rfl)), (.array .int), by decide, fun A D W q => rfl⟩
  | 5, _, h1, h2 => cases h1; cases h2; exact ⟨(Or.inr (tw hw 172 rfl)), (.array (.array .int)), by decide, fun A D W q => rfl⟩
  | 6, _, h1, h2 => cases h1; cases h2; exact ⟨(Or.inr (tw hw 197 rfl)), (.object "com/example/tracefold/tracefold/mining/FactoredInverse$Lists"), by decide, fun A D W q => rfl⟩
  | 7, _, h1, h2 => cases h1; cases h2; exact ⟨(Or.inr (tw hw 199 rfl)), (.object "com/example/tracefold/tracefold/mining/FactoredInverse$Lists"), by decide, fun A D W q => rfl⟩
  | 8, _, h1, h2 => cases h1; cases h2; exact ⟨(Or.inr (tw hw 201 rfl)), (.array .int), by decide, fun A D W q => rfl⟩
  | 9, _, h1, h2 => cases h1; cases h2; exact ⟨(Or.inl (tw hw 252 rfl)), .int, by decide, fun A D W q => rfl⟩
  | 10, _, h1, h2 => cases h1; cases h2; exact ⟨(Or.inl (tw hw 283 rfl)), .int, by decide, fun A D W q => rfl⟩
theorem own_ld_4 {Z : State} {a0 : Array Value} (hw : HW a0 Z) : Lds Z a0 (own_cn 4) (own_fls 4) := by
  intro f hf
  simp only [own_fls, List.mem_cons, List.not_mem_nil, or_false] at hf
  rcases hf with rfl | rfl | rfl | rfl
  · exact ⟨(Or.inr (tw hw 182 rfl)), (.array .int), by decide⟩
  · exact ⟨(Or.inr (tw hw 184 rfl)), (.array .int), by decide⟩
  · exact ⟨(Or.inr (tw hw 186 rfl)), (.array .int), by decide⟩
  · exact ⟨(Or.inr (tw hw 188 rfl)), (.array .int), by decide⟩
theorem own_pw_4 : ((own_fls 4).map (·.2.1)).Pairwise (· ≠ ·) := by decide +kernel
theorem own_nd_4 {Z : State} {a0 : Array Value} (hw : HW a0 Z) : ∀ (j : Nat) (v : Value) (f : String × String × String), (own_dvs 4)[j]? = some v → (own_fls 4)[j]? = some f → Laid Z a0 (own_cn 4) f.1 f.2.1 f.2.2 ∧ ∃ t, parseFieldDescriptor f.2.2 = some t ∧ ∀ (A : Nat → Addr) (D : Nat → UInt64) (W : Nat → Value), D 0 = 0 → den A D W v = defaultValue t := by
  intro j v f h1 h2
  obtain ⟨hl, -⟩ := List.getElem?_eq_some_iff.mp h1
  have hj : j < 4 := hl
  match j, hj, h1, h2 with
  | 0, _, h1, h2 => cases h1; cases h2; exact ⟨(Or.inr (tw hw 182 rfl)), (.array .int), by decide, fun A D W q => rfl⟩
  | 1, _, h1, h2 => cases h1; cases h2; exact ⟨(Or.inr (tw hw 184 rfl)), (.array .int), by decide, fun A D W q => rfl⟩
  | 2, _, h1, h2 => cases h1; cases h2; exact ⟨(Or.inr (tw hw 186 rfl)), (.array .int), by decide, fun A D W q => rfl⟩
  | 3, _, h1, h2 => cases h1; cases h2; exact ⟨(Or.inr (tw hw 188 rfl)), (.array .int), by decide, fun A D W q => rfl⟩
theorem own_cls {Z : State} {a0 : Array Value} (hw : HW a0 Z) : ClsOK Z a0 := fun c _ => match c with
  | 0 => ⟨own_ld_0 hw, own_pw_0⟩
  | 1 => ⟨own_ld_1 hw, own_pw_1⟩
  | 2 => ⟨own_ld_2 hw, own_pw_2⟩
  | 3 => ⟨own_ld_3 hw, own_pw_3⟩
  | 4 => ⟨own_ld_4 hw, own_pw_4⟩
  | _ + 5 => ⟨(fun _ q => by cases q), List.Pairwise.nil⟩
theorem own_arr {Z : State} {a0 : Array Value} (hw : HW a0 Z) : ArrOK Z a0 := ⟨(tw hw 9 rfl), (tw hw 16 rfl), (tw hw 88 rfl), (tw hw 5 rfl), (tw hw 12 rfl)⟩
def own_pf_0 : Nat → Option (Nat × Nat)
  | 7 => some (0, 0)
  | 13 => some (0, 1)
  | 17 => some (0, 2)
  | 20 => some (0, 3)
  | 23 => some (0, 4)
  | 26 => some (0, 5)
  | 29 => some (0, 6)
  | 32 => some (0, 7)
  | 35 => some (0, 8)
  | 38 => some (0, 9)
  | 41 => some (0, 10)
  | 44 => some (0, 11)
  | 47 => some (0, 12)
  | 50 => some (0, 13)
  | 54 => some (0, 14)
  | 57 => some (0, 15)
  | 60 => some (0, 16)
  | 63 => some (0, 17)
  | 66 => some (0, 18)
  | 69 => some (0, 19)
  | 72 => some (0, 20)
  | 75 => some (0, 21)
  | 78 => some (0, 22)
  | 86 => some (0, 23)
  | 90 => some (0, 24)
  | 93 => some (0, 25)
  | 96 => some (0, 26)
  | 102 => some (0, 27)
  | 106 => some (0, 28)
  | _ => none
def own_pc_0 : Nat → Option String
  | 136 => some "[D"
  | _ => none
def own_pk_0 : Nat → Option Value

  | _ => none
def own_pwI_0 : Nat → Option FieldType
  | 7 => some (.array .int)
  | 13 => some (.array .double)
  | 17 => some (.array .int)
  | 20 => some (.array .double)
  | 23 => some (.array .int)
  | 26 => some (.array .double)
  | 29 => some (.array .int)
  | 32 => some (.array .double)
  | 35 => some (.array .int)
  | 38 => some (.array .double)
  | 41 => some (.array .int)
  | 44 => some (.array .int)
  | 47 => some (.array .double)
  | 50 => some .int
  | 54 => some (.array .int)
  | 57 => some (.array .int)
  | 60 => some (.array .double)
  | 63 => some (.array .int)
  | 66 => some (.array .int)
  | 69 => some (.array .int)
  | 72 => some (.array .int)
  | 75 => some (.array .int)
  | 78 => some (.array .int)
  | 86 => some (.object "com/example/tracefold/tracefold/mining/SparseVector")
  | 90 => some (.object "com/example/tracefold/tracefold/mining/SparseVector")
  | 93 => some (.object "com/example/tracefold/tracefold/mining/SparseVector")
  | 96 => some (.object "com/example/tracefold/tracefold/mining/SparseVector")
  | 102 => some (.object "com/example/tracefold/tracefold/mining/FactoredInverse$StepQueue")
  | _ => none
def own_pwN_0 : Nat → Option FieldType
  | 23 => some (.array .int)
  | 26 => some (.array .double)
  | 29 => some (.array .int)
  | 32 => some (.array .double)
  | 106 => some .int
  | _ => none
def own_nw_0 : Nat → Option (Nat × Nat)
  | 81 => some (1, 4)
  | 99 => some (2, 6)
  | 109 => some (3, 11)
  | _ => none
def own_cl_0 : Instr → Option (Nat × Nat × Nat × Nat)
  | .invokespecial 83 => some (2, 8, 1, 0)
  | .invokespecial 101 => some (2, 9, 1, 0)
  | .invokespecial 111 => some (2, 11, 3, 0)
  | .invokestatic 125 => some (0, 16, 2, 0)
  | .invokestatic 131 => some (0, 13, 2, 0)
  | .invokevirtual 114 => some (1, 18, 0, 3)
  | .invokevirtual 118 => some (1, 25, 3, 3)
  | .invokevirtual 122 => some (1, 32, 0, 0)
  | .invokevirtual 162 => some (1, 38, 1, 1)
  | .invokevirtual 173 => some (1, 36, 0, 1)
  | .invokevirtual 176 => some (1, 37, 1, 1)
  | _ => none
def own_nt_0 : Instr → Option (Nat × Nat)
  | .invokespecial 1 => some (5, 0)
  | .invokevirtual 135 => some (1, 65)
  | _ => none
theorem own_po_0 {Z : State} {a0 : Array Value} (hw : HW a0 Z) : PoolOK Z a0 "com/example/tracefold/tracefold/mining/FactoredInverse" (own_pf_0, own_pc_0, own_pk_0) := by
  refine ⟨fun i c j h => ?_, fun i C h => ?_, fun i v h => ?_⟩
  · dsimp only at h
    unfold own_pf_0 at h
    split at h
    · cases h; exact ⟨by decide, _, _, "", rfl, Or.inl (tw hw 33 rfl), Via.refl⟩
    · cases h; exact ⟨by decide, _, _, "", rfl, Or.inl (tw hw 35 rfl), Via.refl⟩
    · cases h; exact ⟨by decide, _, _, "", rfl, Or.inl (tw hw 37 rfl), Via.refl⟩
    · cases h; exact ⟨by decide, _, _, "", rfl, Or.inl (tw hw 39 rfl), Via.refl⟩
    · cases h; exact ⟨by decide, _, _, "", rfl, Or.inl (tw hw 41 rfl), Via.refl⟩
    · cases h; exact ⟨by decide, _, _, "", rfl, Or.inl (tw hw 43 rfl), Via.refl⟩
    · cases h; exact ⟨by decide, _, _, "", rfl, Or.inl (tw hw 45 rfl), Via.refl⟩
    · cases h; exact ⟨by decide, _, _, "", rfl, Or.inl (tw hw 47 rfl), Via.refl⟩
    · cases h; exact ⟨by decide, _, _, "", rfl, Or.inl (tw hw 49 rfl), Via.refl⟩
    · cases h; exact ⟨by decide, _, _, "", rfl, Or.inl (tw hw 51 rfl), Via.refl⟩
    · cases h; exact ⟨by decide, _, _, "", rfl, Or.inl (tw hw 53 rfl), Via.refl⟩
    · cases h; exact ⟨by decide, _, _, "", rfl, Or.inl (tw hw 55 rfl), Via.refl⟩
    · cases h; exact ⟨by decide, _, _, "", rfl, Or.inl (tw hw 57 rfl), Via.refl⟩
    · cases h; exact ⟨by decide, _, _, "", rfl, Or.inl (tw hw 59 rfl), Via.refl⟩
    · cases h; exact ⟨by decide, _, _, "", rfl, Or.inl (tw hw 61 rfl), Via.refl⟩
    · cases h; exact ⟨by decide, _, _, "", rfl, Or.inl (tw hw 63 rfl), Via.refl⟩
    · cases h; exact ⟨by decide, _, _, "", rfl, Or.inl (tw hw 65 rfl), Via.refl⟩
    · cases h; exact ⟨by decide, _, _, "", rfl, Or.inl (tw hw 67 rfl), Via.refl⟩
    · cases h; exact ⟨by decide, _, _, "", rfl, Or.inl (tw hw 69 rfl), Via.refl⟩
    · cases h; exact ⟨by decide, _, _, "", rfl, Or.inl (tw hw 71 rfl), Via.refl⟩
    · cases h; exact ⟨by decide, _, _, "", rfl, Or.inl (tw hw 73 rfl), Via.refl⟩
    · cases h; exact ⟨by decide, _, _, "", rfl, Or.inl (tw hw 75 rfl), Via.refl⟩
    · cases h; exact ⟨by decide, _, _, "", rfl, Or.inl (tw hw 77 rfl), Via.refl⟩
    · cases h; exact ⟨by decide, _, _, "", rfl, Or.inl (tw hw 93 rfl), Via.refl⟩
    · cases h; exact ⟨by decide, _, _, "", rfl, Or.inl (tw hw 95 rfl), Via.refl⟩
    · cases h; exact ⟨by decide, _, _, "", rfl, Or.inl (tw hw 97 rfl), Via.refl⟩
    · cases h; exact ⟨by decide, _, _, "", rfl, Or.inl (tw hw 99 rfl), Via.refl⟩
    · cases h; exact ⟨by decide, _, _, "", rfl, Or.inl (tw hw 116 rfl), Via.refl⟩
    · cases h; exact ⟨by decide, _, _, "", rfl, Or.inl (tw hw 125 rfl), Via.refl⟩
    · cases h
  · dsimp only at h
    unfold own_pc_0 at h
    split at h
    · cases h; exact (tw hw 296 rfl)
    · cases h
  · cases h
theorem own_puI_0 {Z : State} {a0 : Array Value} (hw : HW a0 Z) : PutOK Z a0 "com/example/tracefold/tracefold/mining/FactoredInverse" "<init>" own_pwI_0 (own_pf_0, own_pc_0, own_pk_0) := by
  intro i ty h
  unfold own_pwI_0 at h
  split at h
  · cases h; intro cc j hj; cases hj; exact ⟨_, _, rfl, Or.inl (tw hw 34 rfl), (tw hw 25 rfl), by decide⟩
  · cases h; intro cc j hj; cases hj; exact ⟨_, _, rfl, Or.inl (tw hw 36 rfl), (tw hw 25 rfl), by decide⟩
  · cases h; intro cc j hj; cases hj; exact ⟨_, _, rfl, Or.inl (tw hw 38 rfl), (tw hw 25 rfl), by decide⟩
  · cases h; intro cc j hj; cases hj; exact ⟨_, _, rfl, Or.inl (tw hw 40 rfl), (tw hw 25 rfl), by decide⟩
  · cases h; intro cc j hj; cases hj; exact ⟨_, _, rfl, Or.inl (tw hw 42 rfl), (tw hw 25 rfl), by decide⟩
  · cases h; intro cc j hj; cases hj; exact ⟨_, _, rfl, Or.inl (tw hw 44 rfl), (tw hw 25 rfl), by decide⟩
  · cases h; intro cc j hj; cases hj; exact ⟨_, _, rfl, Or.inl (tw hw 46 rfl), (tw hw 25 rfl), by decide⟩
  · cases h; intro cc j hj; cases hj; exact ⟨_, _, rfl, Or.inl (tw hw 48 rfl), (tw hw 25 rfl), by decide⟩
  · cases h; intro cc j hj; cases hj; exact ⟨_, _, rfl, Or.inl (tw hw 50 rfl), (tw hw 25 rfl), by decide⟩
  · cases h; intro cc j hj; cases hj; exact ⟨_, _, rfl, Or.inl (tw hw 52 rfl), (tw hw 25 rfl), by decide⟩
  · cases h; intro cc j hj; cases hj; exact ⟨_, _, rfl, Or.inl (tw hw 54 rfl), (tw hw 25 rfl), by decide⟩
  · cases h; intro cc j hj; cases hj; exact ⟨_, _, rfl, Or.inl (tw hw 56 rfl), (tw hw 25 rfl), by decide⟩
  · cases h; intro cc j hj; cases hj; exact ⟨_, _, rfl, Or.inl (tw hw 58 rfl), (tw hw 25 rfl), by decide⟩
  · cases h; intro cc j hj; cases hj; exact ⟨_, _, rfl, Or.inr ⟨(tw hw 60 rfl), rfl, rfl⟩, (tw hw 25 rfl), by decide⟩
  · cases h; intro cc j hj; cases hj; exact ⟨_, _, rfl, Or.inr ⟨(tw hw 62 rfl), rfl, rfl⟩, (tw hw 25 rfl), by decide⟩
  · cases h; intro cc j hj; cases hj; exact ⟨_, _, rfl, Or.inr ⟨(tw hw 64 rfl), rfl, rfl⟩, (tw hw 25 rfl), by decide⟩
  · cases h; intro cc j hj; cases hj; exact ⟨_, _, rfl, Or.inr ⟨(tw hw 66 rfl), rfl, rfl⟩, (tw hw 25 rfl), by decide⟩
  · cases h; intro cc j hj; cases hj; exact ⟨_, _, rfl, Or.inr ⟨(tw hw 68 rfl), rfl, rfl⟩, (tw hw 25 rfl), by decide⟩
  · cases h; intro cc j hj; cases hj; exact ⟨_, _, rfl, Or.inr ⟨(tw hw 70 rfl), rfl, rfl⟩, (tw hw 25 rfl), by decide⟩
  · cases h; intro cc j hj; cases hj; exact ⟨_, _, rfl, Or.inr ⟨(tw hw 72 rfl), rfl, rfl⟩, (tw hw 25 rfl), by decide⟩
  · cases h; intro cc j hj; cases hj; exact ⟨_, _, rfl, Or.inr ⟨(tw hw 74 rfl), rfl, rfl⟩, (tw hw 25 rfl), by decide⟩
  · cases h; intro cc j hj; cases hj; exact ⟨_, _, rfl, Or.inr ⟨(tw hw 76 rfl), rfl, rfl⟩, (tw hw 25 rfl), by decide⟩
  · cases h; intro cc j hj; cases hj; exact ⟨_, _, rfl, Or.inr ⟨(tw hw 78 rfl), rfl, rfl⟩, (tw hw 25 rfl), by decide⟩
  · cases h; intro cc j hj; cases hj; exact ⟨_, _, rfl, Or.inr ⟨(tw hw 94 rfl), rfl, rfl⟩, (tw hw 25 rfl), by decide⟩
  · cases h; intro cc j hj; cases hj; exact ⟨_, _, rfl, Or.inr ⟨(tw hw 96 rfl), rfl, rfl⟩, (tw hw 25 rfl), by decide⟩
  · cases h; intro cc j hj; cases hj; exact ⟨_, _, rfl, Or.inr ⟨(tw hw 98 rfl), rfl, rfl⟩, (tw hw 25 rfl), by decide⟩
  · cases h; intro cc j hj; cases hj; exact ⟨_, _, rfl, Or.inr ⟨(tw hw 100 rfl), rfl, rfl⟩, (tw hw 25 rfl), by decide⟩
  · cases h; intro cc j hj; cases hj; exact ⟨_, _, rfl, Or.inr ⟨(tw hw 117 rfl), rfl, rfl⟩, (tw hw 25 rfl), by decide⟩
  · cases h
theorem own_puN_0 {Z : State} {a0 : Array Value} (hw : HW a0 Z) (mn : String) : PutOK Z a0 "com/example/tracefold/tracefold/mining/FactoredInverse" mn own_pwN_0 (own_pf_0, own_pc_0, own_pk_0) := by
  intro i ty h
  unfold own_pwN_0 at h
  split at h
  · cases h; intro cc j hj; cases hj; exact ⟨_, _, rfl, Or.inl (tw hw 42 rfl), (tw hw 25 rfl), by decide⟩
  · cases h; intro cc j hj; cases hj; exact ⟨_, _, rfl, Or.inl (tw hw 44 rfl), (tw hw 25 rfl), by decide⟩
  · cases h; intro cc j hj; cases hj; exact ⟨_, _, rfl, Or.inl (tw hw 46 rfl), (tw hw 25 rfl), by decide⟩
  · cases h; intro cc j hj; cases hj; exact ⟨_, _, rfl, Or.inl (tw hw 48 rfl), (tw hw 25 rfl), by decide⟩
  · cases h; intro cc j hj; cases hj; exact ⟨_, _, rfl, Or.inl (tw hw 126 rfl), (tw hw 25 rfl), by decide⟩
  · cases h
theorem own_ne_0 {Z : State} {a0 : Array Value} (hw : HW a0 Z) : NewOK Z a0 "com/example/tracefold/tracefold/mining/FactoredInverse" own_nw_0 := by
  intro i cc n h
  unfold own_nw_0 at h
  split at h
  · cases h; exact ⟨by decide, (tw hw 79 rfl), (tw hw 80 rfl), (tw hw 81 rfl), own_nd_1 hw⟩
  · cases h; exact ⟨by decide, (tw hw 101 rfl), (tw hw 102 rfl), (tw hw 103 rfl), own_nd_2 hw⟩
  · cases h; exact ⟨by decide, (tw hw 127 rfl), (tw hw 128 rfl), (tw hw 129 rfl), own_nd_3 hw⟩
  · cases h
theorem own_ca_0 {Z : State} {a0 : Array Value} (hw : HW a0 Z) : CallsOK Z "com/example/tracefold/tracefold/mining/FactoredInverse" own_cl_0 := by
  intro op kd mn np rc h
  unfold own_cl_0 at h
  split at h
  · cases h; intro p l e R s m args below meth c T locs cells slots h Ev rm as' Q argsL rest b pc Ls X hx hZ hown hM eT hE has hsz hnp hf hl hc hs hd K; exact g_init X hx hZ rfl hown (tw hw 82 rfl) (tw hw 83 rfl) (tw hw 81 rfl) (tw hw 84 rfl) (by decide) hM eT (a := b) rfl has _ _ rfl hsz (lenOf own_pd4 hnp) (Nat.le_refl _) hf hl hc hs hd K
  · cases h; intro p l e R s m args below meth c T locs cells slots h Ev rm as' Q argsL rest b pc Ls X hx hZ hown hM eT hE has hsz hnp hf hl hc hs hd K; exact g_init X hx hZ rfl hown (tw hw 104 rfl) (tw hw 105 rfl) (tw hw 103 rfl) (tw hw 106 rfl) (by decide) hM eT (a := b) rfl has _ _ rfl hsz (lenOf own_pd4 hnp) (Nat.le_refl _) hf hl hc hs hd K
  · cases h; intro p l e R s m args below meth c T locs cells slots h Ev rm as' Q argsL rest b pc Ls X hx hZ hown hM eT hE has hsz hnp hf hl hc hs hd K; exact g_init X hx hZ rfl hown (tw hw 130 rfl) (tw hw 131 rfl) (tw hw 129 rfl) (tw hw 132 rfl) (by decide) hM eT (a := b) rfl has _ _ rfl hsz (lenOf own_pd7 hnp) (Nat.le_refl _) hf hl hc hs hd K
  · cases h; intro p l e R s m args below meth c T locs cells slots h Ev rm as' Q argsL rest b pc Ls X hx hZ hown hM eT hE has hsz hnp hf hl hc hs hd K; exact g_static X hx hZ hown (tw hw 288 rfl) (tw hw 190 rfl) (tw hw 153 rfl) (tw hw 191 rfl) (by decide) hM eT rfl has _ _ rfl hsz (lenOf own_pd12 hnp) (Nat.le_refl _) hf hl hc hs hd K
  · cases h; intro p l e R s m args below meth c T locs cells slots h Ev rm as' Q argsL rest b pc Ls X hx hZ hown hM eT hE has hsz hnp hf hl hc hs hd K; exact g_static X hx hZ hown (tw hw 289 rfl) (tw hw 152 rfl) (tw hw 153 rfl) (tw hw 154 rfl) (by decide) hM eT rfl has _ _ rfl hsz (lenOf own_pd8 hnp) (Nat.le_refl _) hf hl hc hs hd K
  · cases h; intro p l e R s m args below meth c T locs cells slots h Ev rm as' Q argsL rest b pc Ls X hx hZ hown hM eT hE has hsz hnp hf hl hc hs hd K; exact g_virt X hx hZ (C := "com/example/tracefold/tracefold/mining/FactoredInverse$Elimination") hown (tw hw 203 rfl) (tw hw 204 rfl) (tw hw 206 rfl) (tw hw 206 rfl) (tw hw 205 rfl) (tw hw 129 rfl) (tw hw 207 rfl) (by decide) hM eT (b := b) (hE rfl) rfl has _ _ rfl hsz (lenOf own_pd14 hnp) (Nat.le_refl _) hf hl hc hs hd K
  · cases h; intro p l e R s m args below meth c T locs cells slots h Ev rm as' Q argsL rest b pc Ls X hx hZ hown hM eT hE has hsz hnp hf hl hc hs hd K; exact g_virt X hx hZ (C := "com/example/tracefold/tracefold/mining/FactoredInverse$Elimination") hown (tw hw 236 rfl) (tw hw 237 rfl) (tw hw 239 rfl) (tw hw 239 rfl) (tw hw 238 rfl) (tw hw 129 rfl) (tw hw 240 rfl) (by decide) hM eT (b := b) (hE rfl) rfl has _ _ rfl hsz (lenOf own_pd19 hnp) (Nat.le_refl _) hf hl hc hs hd K
  · cases h; intro p l e R s m args below meth c T locs cells slots h Ev rm as' Q argsL rest b pc Ls X hx hZ hown hM eT hE has hsz hnp hf hl hc hs hd K; exact g_priv X hx hZ (C := "com/example/tracefold/tracefold/mining/FactoredInverse") (z := ({ cls := "com/example/tracefold/tracefold/mining/FactoredInverse", name := "invert", desc := "([[I[[D)Z" } : Jvm.MethodName)) hown (tw hw 284 rfl) (tw hw 286 rfl) (tw hw 123 rfl) rfl (tw hw 285 rfl) (tw hw 26 rfl) (tw hw 287 rfl) (by decide) hM eT (b := b) (hE rfl) rfl has _ _ rfl hsz (lenOf own_pd5 hnp) (Nat.le_refl _) hf hl hc hs hd K
  · cases h; intro p l e R s m args below meth c T locs cells slots h Ev rm as' Q argsL rest b pc Ls X hx hZ hown hM eT hE has hsz hnp hf hl hc hs hd K; exact g_virt X hx hZ (C := "com/example/tracefold/tracefold/mining/SparseVector") hown (tw hw 320 rfl) (tw hw 321 rfl) (tw hw 323 rfl) (tw hw 323 rfl) (tw hw 322 rfl) (tw hw 81 rfl) (tw hw 324 rfl) (by decide) hM eT (b := b) (hE rfl) rfl has _ _ rfl hsz (lenOf own_pd3 hnp) (Nat.le_refl _) hf hl hc hs hd K
  · cases h; intro p l e R s m args below meth c T locs cells slots h Ev rm as' Q argsL rest b pc Ls X hx hZ hown hM eT hE has hsz hnp hf hl hc hs hd K; exact g_virt X hx hZ (C := "com/example/tracefold/tracefold/mining/SparseVector") hown (tw hw 310 rfl) (tw hw 311 rfl) (tw hw 313 rfl) (tw hw 313 rfl) (tw hw 312 rfl) (tw hw 81 rfl) (tw hw 314 rfl) (by decide) hM eT (b := b) (hE rfl) rfl has _ _ rfl hsz (lenOf own_pd24 hnp) (Nat.le_refl _) hf hl hc hs hd K
  · cases h; intro p l e R s m args below meth c T locs cells slots h Ev rm as' Q argsL rest b pc Ls X hx hZ hown hM eT hE has hsz hnp hf hl hc hs hd K; exact g_virt X hx hZ (C := "com/example/tracefold/tracefold/mining/SparseVector") hown (tw hw 315 rfl) (tw hw 316 rfl) (tw hw 318 rfl) (tw hw 318 rfl) (tw hw 317 rfl) (tw hw 81 rfl) (tw hw 319 rfl) (by decide) hM eT (b := b) (hE rfl) rfl has _ _ rfl hsz (lenOf own_pd15 hnp) (Nat.le_refl _) hf hl hc hs hd K
  · cases h
theorem own_na_0 {Z : State} {a0 : Array Value} (hw : HW a0 Z) : NatOK Z a0 "com/example/tracefold/tracefold/mining/FactoredInverse" own_nt_0 := by
  intro op k cd h
  unfold own_nt_0 at h
  split at h
  · cases h; exact Or.inr (Or.inr (Or.inr (Or.inr ⟨rfl, _, rfl, (tw hw 30 rfl), (tw hw 31 rfl), (tw hw 32 rfl)⟩)))
  · cases h; exact Or.inl ⟨rfl, by decide, by decide, _, rfl, (tw hw 295 rfl), (tw hw 167 rfl), (tw hw 160 rfl), (tw hw 158 rfl), (tw hw 168 rfl), (tw hw 169 rfl)⟩
  · cases h
def own_MI_0 : Md := ((own_pf_0, own_pc_0, own_pk_0), own_pwI_0, own_nw_0, own_cl_0, own_nt_0)
def own_MN_0 : Md := ((own_pf_0, own_pc_0, own_pk_0), own_pwN_0, own_nw_0, own_cl_0, own_nt_0)
theorem own_okI_0 (Z : State) (a0 : Array Value) (hw : HW a0 Z) : MdOK Z a0 "com/example/tracefold/tracefold/mining/FactoredInverse" "<init>" own_MI_0 ∧ ClsOK Z a0 ∧ ArrOK Z a0 := ⟨⟨own_po_0 hw, own_puI_0 hw, own_ne_0 hw, own_ca_0 hw, own_na_0 hw⟩, own_cls hw, own_arr hw⟩
theorem own_okN_0 (mn : String) (Z : State) (a0 : Array Value) (hw : HW a0 Z) : MdOK Z a0 "com/example/tracefold/tracefold/mining/FactoredInverse" mn own_MN_0 ∧ ClsOK Z a0 ∧ ArrOK Z a0 := ⟨⟨own_po_0 hw, own_puN_0 hw mn, own_ne_0 hw, own_ca_0 hw, own_na_0 hw⟩, own_cls hw, own_arr hw⟩
def own_pf_1 : Nat → Option (Nat × Nat)
  | 3 => some (3, 0)
  | 15 => some (0, 13)
  | 21 => some (3, 1)
  | 27 => some (3, 2)
  | 31 => some (3, 3)
  | 34 => some (3, 4)
  | 52 => some (3, 5)
  | 60 => some (3, 6)
  | 64 => some (3, 7)
  | 67 => some (3, 8)
  | 109 => some (0, 14)
  | 112 => some (0, 15)
  | 115 => some (0, 21)
  | 118 => some (0, 22)
  | 121 => some (0, 16)
  | 124 => some (0, 17)
  | 127 => some (3, 9)
  | 144 => some (0, 18)
  | 147 => some (3, 10)
  | 165 => some (0, 0)
  | 168 => some (0, 1)
  | 171 => some (0, 2)
  | 174 => some (0, 3)
  | _ => none
def own_pc_1 : Nat → Option String
  | 19 => some "[I"
  | 25 => some "[D"
  | _ => none
def own_pk_1 : Nat → Option Value
  | 74 => some (.long (-1))
  | 78 => some (.long 9223372036854775807)
  | 98 => some (.double 4472406533629990549)
  | 103 => some (.double 4591870180066957722)
  | 163 => some (.double 4397347889687374747)
  | _ => none
def own_pwI_1 : Nat → Option FieldType
  | 3 => some (.object "com/example/tracefold/tracefold/mining/FactoredInverse")
  | 21 => some (.array (.array .int))
  | 27 => some (.array (.array .double))
  | 31 => some (.array .int)
  | 34 => some (.array .int)
  | 52 => some (.array (.array .int))
  | 60 => some (.object "com/example/tracefold/tracefold/mining/FactoredInverse$Lists")
  | 64 => some (.object "com/example/tracefold/tracefold/mining/FactoredInverse$Lists")
  | 67 => some (.array .int)
  | _ => none
def own_pwN_1 : Nat → Option FieldType
  | 127 => some .int
  | 147 => some .int
  | 165 => some (.array .int)
  | 168 => some (.array .double)
  | 171 => some (.array .int)
  | 174 => some (.array .double)
  | _ => none
def own_nw_1 : Nat → Option (Nat × Nat)
  | 55 => some (4, 4)
  | _ => none
def own_cl_1 : Instr → Option (Nat × Nat × Nat × Nat)
  | .invokespecial 57 => some (2, 15, 2, 0)
  | .invokestatic 37 => some (0, 12, 2, 0)
  | .invokestatic 43 => some (0, 13, 2, 0)
  | .invokestatic 49 => some (0, 14, 2, 0)
  | .invokestatic 70 => some (0, 16, 2, 0)
  | .invokevirtual 80 => some (1, 19, 1, 4)
  | .invokevirtual 84 => some (1, 20, 2, 3)
  | .invokevirtual 87 => some (1, 21, 2, 3)
  | .invokevirtual 91 => some (1, 24, 1, 4)
  | .invokevirtual 105 => some (1, 26, 2, 3)
  | .invokevirtual 130 => some (1, 27, 2, 3)
  | .invokevirtual 134 => some (1, 29, 1, 4)
  | .invokevirtual 138 => some (1, 30, 2, 3)
  | .invokevirtual 141 => some (1, 31, 2, 4)
  | .invokevirtual 150 => some (1, 40, 2, 3)
  | .invokevirtual 153 => some (1, 41, 3, 3)
  | _ => none
def own_nt_1 : Instr → Option (Nat × Nat)
  | .invokespecial 9 => some (5, 0)
  | .invokestatic 94 => some (3, 0)
  | .invokestatic 100 => some (4, 0)
  | _ => none
theorem own_po_1 {Z : State} {a0 : Array Value} (hw : HW a0 Z) : PoolOK Z a0 "com/example/tracefold/tracefold/mining/FactoredInverse$Elimination" (own_pf_1, own_pc_1, own_pk_1) := by
  refine ⟨fun i c j h => ?_, fun i C h => ?_, fun i v h => ?_⟩
  · dsimp only at h
    unfold own_pf_1 at h
    split at h
    · cases h; exact ⟨by decide, _, _, "", rfl, Or.inl (tw hw 133 rfl), Via.refl⟩
    · cases h; exact ⟨by decide, _, _, _, rfl, Or.inr (tw hw 136 rfl), Via.refl⟩
    · cases h; exact ⟨by decide, _, _, "", rfl, Or.inl (tw hw 138 rfl), Via.refl⟩
    · cases h; exact ⟨by decide, _, _, "", rfl, Or.inl (tw hw 141 rfl), Via.refl⟩
    · cases h; exact ⟨by decide, _, _, "", rfl, Or.inl (tw hw 143 rfl), Via.refl⟩
    · cases h; exact ⟨by decide, _, _, "", rfl, Or.inl (tw hw 145 rfl), Via.refl⟩
    · cases h; exact ⟨by decide, _, _, "", rfl, Or.inl (tw hw 171 rfl), Via.refl⟩
    · cases h; exact ⟨by decide, _, _, "", rfl, Or.inl (tw hw 196 rfl), Via.refl⟩
    · cases h; exact ⟨by decide, _, _, "", rfl, Or.inl (tw hw 198 rfl), Via.refl⟩
    · cases h; exact ⟨by decide, _, _, "", rfl, Or.inl (tw hw 200 rfl), Via.refl⟩
    · cases h; exact ⟨by decide, _, _, _, rfl, Or.inr (tw hw 245 rfl), Via.refl⟩
    · cases h; exact ⟨by decide, _, _, _, rfl, Or.inr (tw hw 246 rfl), Via.refl⟩
    · cases h; exact ⟨by decide, _, _, _, rfl, Or.inr (tw hw 247 rfl), Via.refl⟩
    · cases h; exact ⟨by decide, _, _, _, rfl, Or.inr (tw hw 248 rfl), Via.refl⟩
    · cases h; exact ⟨by decide, _, _, _, rfl, Or.inr (tw hw 249 rfl), Via.refl⟩
    · cases h; exact ⟨by decide, _, _, _, rfl, Or.inr (tw hw 250 rfl), Via.refl⟩
    · cases h; exact ⟨by decide, _, _, "", rfl, Or.inl (tw hw 251 rfl), Via.refl⟩
    · cases h; exact ⟨by decide, _, _, _, rfl, Or.inr (tw hw 281 rfl), Via.refl⟩
    · cases h; exact ⟨by decide, _, _, "", rfl, Or.inl (tw hw 282 rfl), Via.refl⟩
    · cases h; exact ⟨by decide, _, _, _, rfl, Or.inr (tw hw 257 rfl), Via.refl⟩
    · cases h; exact ⟨by decide, _, _, _, rfl, Or.inr (tw hw 265 rfl), Via.refl⟩
    · cases h; exact ⟨by decide, _, _, _, rfl, Or.inr (tw hw 334 rfl), Via.refl⟩
    · cases h; exact ⟨by decide, _, _, _, rfl, Or.inr (tw hw 335 rfl), Via.refl⟩
    · cases h
  · dsimp only at h
    unfold own_pc_1 at h
    split at h
    · cases h; exact (tw hw 137 rfl)
    · cases h; exact (tw hw 140 rfl)
    · cases h
  · dsimp only at h
    unfold own_pk_1 at h
    split at h
    · cases h; exact Or.inl ⟨_, rfl, (tw hw 208 rfl)⟩
    · cases h; exact Or.inl ⟨_, rfl, (tw hw 209 rfl)⟩
    · cases h; exact Or.inr ⟨_, rfl, by decide, (tw hw 226 rfl)⟩
    · cases h; exact Or.inr ⟨_, rfl, by decide, (tw hw 230 rfl)⟩
    · cases h; exact Or.inr ⟨_, rfl, by decide, (tw hw 340 rfl)⟩
    · cases h
theorem own_puI_1 {Z : State} {a0 : Array Value} (hw : HW a0 Z) : PutOK Z a0 "com/example/tracefold/tracefold/mining/FactoredInverse$Elimination" "<init>" own_pwI_1 (own_pf_1, own_pc_1, own_pk_1) := by
  intro i ty h
  unfold own_pwI_1 at h
  split at h
  · cases h; intro cc j hj; cases hj; exact ⟨_, _, rfl, Or.inr ⟨(tw hw 134 rfl), rfl, rfl⟩, (tw hw 128 rfl), by decide⟩
  · cases h; intro cc j hj; cases hj; exact ⟨_, _, rfl, Or.inr ⟨(tw hw 139 rfl), rfl, rfl⟩, (tw hw 128 rfl), by decide⟩
  · cases h; intro cc j hj; cases hj; exact ⟨_, _, rfl, Or.inr ⟨(tw hw 142 rfl), rfl, rfl⟩, (tw hw 128 rfl), by decide⟩
  · cases h; intro cc j hj; cases hj; exact ⟨_, _, rfl, Or.inr ⟨(tw hw 144 rfl), rfl, rfl⟩, (tw hw 128 rfl), by decide⟩
  · cases h; intro cc j hj; cases hj; exact ⟨_, _, rfl, Or.inr ⟨(tw hw 146 rfl), rfl, rfl⟩, (tw hw 128 rfl), by decide⟩
  · cases h; intro cc j hj; cases hj; exact ⟨_, _, rfl, Or.inr ⟨(tw hw 172 rfl), rfl, rfl⟩, (tw hw 128 rfl), by decide⟩
  · cases h; intro cc j hj; cases hj; exact ⟨_, _, rfl, Or.inr ⟨(tw hw 197 rfl), rfl, rfl⟩, (tw hw 128 rfl), by decide⟩
  · cases h; intro cc j hj; cases hj; exact ⟨_, _, rfl, Or.inr ⟨(tw hw 199 rfl), rfl, rfl⟩, (tw hw 128 rfl), by decide⟩
  · cases h; intro cc j hj; cases hj; exact ⟨_, _, rfl, Or.inr ⟨(tw hw 201 rfl), rfl, rfl⟩, (tw hw 128 rfl), by decide⟩
  · cases h
theorem own_puN_1 {Z : State} {a0 : Array Value} (hw : HW a0 Z) (mn : String) : PutOK Z a0 "com/example/tracefold/tracefold/mining/FactoredInverse$Elimination" mn own_pwN_1 (own_pf_1, own_pc_1, own_pk_1) := by
  intro i ty h
  unfold own_pwN_1 at h
  split at h
  · cases h; intro cc j hj; cases hj; exact ⟨_, _, rfl, Or.inl (tw hw 252 rfl), (tw hw 128 rfl), by decide⟩
  · cases h; intro cc j hj; cases hj; exact ⟨_, _, rfl, Or.inl (tw hw 283 rfl), (tw hw 128 rfl), by decide⟩
  · cases h; intro cc j hj; cases hj; exact ⟨_, _, rfl, Or.inl (tw hw 34 rfl), (tw hw 25 rfl), by decide⟩
  · cases h; intro cc j hj; cases hj; exact ⟨_, _, rfl, Or.inl (tw hw 36 rfl), (tw hw 25 rfl), by decide⟩
  · cases h; intro cc j hj; cases hj; exact ⟨_, _, rfl, Or.inl (tw hw 38 rfl), (tw hw 25 rfl), by decide⟩
  · cases h; intro cc j hj; cases hj; exact ⟨_, _, rfl, Or.inl (tw hw 40 rfl), (tw hw 25 rfl), by decide⟩
  · cases h
theorem own_ne_1 {Z : State} {a0 : Array Value} (hw : HW a0 Z) : NewOK Z a0 "com/example/tracefold/tracefold/mining/FactoredInverse$Elimination" own_nw_1 := by
  intro i cc n h
  unfold own_nw_1 at h
  split at h
  · cases h; exact ⟨by decide, (tw hw 173 rfl), (tw hw 174 rfl), (tw hw 175 rfl), own_nd_4 hw⟩
  · cases h
theorem own_ca_1 {Z : State} {a0 : Array Value} (hw : HW a0 Z) : CallsOK Z "com/example/tracefold/tracefold/mining/FactoredInverse$Elimination" own_cl_1 := by
  intro op kd mn np rc h
  unfold own_cl_1 at h
  split at h
  · cases h; intro p l e R s m args below meth c T locs cells slots h Ev rm as' Q argsL rest b pc Ls X hx hZ hown hM eT hE has hsz hnp hf hl hc hs hd K; exact g_init X hx hZ rfl hown (tw hw 176 rfl) (tw hw 177 rfl) (tw hw 175 rfl) (tw hw 178 rfl) (by decide) hM eT (a := b) rfl has _ _ rfl hsz (lenOf own_pd11 hnp) (Nat.le_refl _) hf hl hc hs hd K
  · cases h; intro p l e R s m args below meth c T locs cells slots h Ev rm as' Q argsL rest b pc Ls X hx hZ hown hM eT hE has hsz hnp hf hl hc hs hd K; exact g_static X hx hZ hown (tw hw 147 rfl) (tw hw 148 rfl) (tw hw 149 rfl) (tw hw 150 rfl) (by decide) hM eT rfl has _ _ rfl hsz (lenOf own_pd0 hnp) (Nat.le_refl _) hf hl hc hs hd K
  · cases h; intro p l e R s m args below meth c T locs cells slots h Ev rm as' Q argsL rest b pc Ls X hx hZ hown hM eT hE has hsz hnp hf hl hc hs hd K; exact g_static X hx hZ hown (tw hw 151 rfl) (tw hw 152 rfl) (tw hw 153 rfl) (tw hw 154 rfl) (by decide) hM eT rfl has _ _ rfl hsz (lenOf own_pd8 hnp) (Nat.le_refl _) hf hl hc hs hd K
  · cases h; intro p l e R s m args below meth c T locs cells slots h Ev rm as' Q argsL rest b pc Ls X hx hZ hown hM eT hE has hsz hnp hf hl hc hs hd K; exact g_static X hx hZ hown (tw hw 163 rfl) (tw hw 164 rfl) (tw hw 153 rfl) (tw hw 165 rfl) (by decide) hM eT rfl has _ _ rfl hsz (lenOf own_pd10 hnp) (Nat.le_refl _) hf hl hc hs hd K
  · cases h; intro p l e R s m args below meth c T locs cells slots h Ev rm as' Q argsL rest b pc Ls X hx hZ hown hM eT hE has hsz hnp hf hl hc hs hd K; exact g_static X hx hZ hown (tw hw 202 rfl) (tw hw 190 rfl) (tw hw 153 rfl) (tw hw 191 rfl) (by decide) hM eT rfl has _ _ rfl hsz (lenOf own_pd12 hnp) (Nat.le_refl _) hf hl hc hs hd K
  · cases h; intro p l e R s m args below meth c T locs cells slots h Ev rm as' Q argsL rest b pc Ls X hx hZ hown hM eT hE has hsz hnp hf hl hc hs hd K; exact g_virt X hx hZ (C := "com/example/tracefold/tracefold/mining/FactoredInverse$Lists") hown (tw hw 210 rfl) (tw hw 211 rfl) (tw hw 213 rfl) (tw hw 213 rfl) (tw hw 212 rfl) (tw hw 175 rfl) (tw hw 214 rfl) (by decide) hM eT (b := b) (hE rfl) rfl has _ _ rfl hsz (lenOf own_pd15 hnp) (Nat.le_refl _) hf hl hc hs hd K
  · cases h; intro p l e R s m args below meth c T locs cells slots h Ev rm as' Q argsL rest b pc Ls X hx hZ hown hM eT hE has hsz hnp hf hl hc hs hd K; exact g_priv X hx hZ (C := "com/example/tracefold/tracefold/mining/FactoredInverse$Elimination") (z := ({ cls := "com/example/tracefold/tracefold/mining/FactoredInverse$Elimination", name := "pivot", desc := "()J" } : Jvm.MethodName)) hown (tw hw 215 rfl) (tw hw 217 rfl) (tw hw 206 rfl) rfl (tw hw 216 rfl) (tw hw 129 rfl) (tw hw 218 rfl) (by decide) hM eT (b := b) (hE rfl) rfl has _ _ rfl hsz (lenOf own_pd0 hnp) (Nat.le_refl _) hf hl hc hs hd K
  · cases h; intro p l e R s m args below meth c T locs cells slots h Ev rm as' Q argsL rest b pc Ls X hx hZ hown hM eT hE has hsz hnp hf hl hc hs hd K; exact g_priv X hx hZ (C := "com/example/tracefold/tracefold/mining/FactoredInverse$Elimination") (z := ({ cls := "com/example/tracefold/tracefold/mining/FactoredInverse$Elimination", name := "pivot", desc := "()J" } : Jvm.MethodName)) hown (tw hw 219 rfl) (tw hw 221 rfl) (tw hw 206 rfl) rfl (tw hw 220 rfl) (tw hw 129 rfl) (tw hw 222 rfl) (by decide) hM eT (b := b) (hE rfl) rfl has _ _ rfl hsz (lenOf own_pd16 hnp) (Nat.le_refl _) hf hl hc hs hd K
  · cases h; intro p l e R s m args below meth c T locs cells slots h Ev rm as' Q argsL rest b pc Ls X hx hZ hown hM eT hE has hsz hnp hf hl hc hs hd K; exact g_virt X hx hZ (C := "com/example/tracefold/tracefold/mining/FactoredInverse$Lists") hown (tw hw 231 rfl) (tw hw 232 rfl) (tw hw 234 rfl) (tw hw 234 rfl) (tw hw 233 rfl) (tw hw 175 rfl) (tw hw 235 rfl) (by decide) hM eT (b := b) (hE rfl) rfl has _ _ rfl hsz (lenOf own_pd15 hnp) (Nat.le_refl _) hf hl hc hs hd K
  · cases h; intro p l e R s m args below meth c T locs cells slots h Ev rm as' Q argsL rest b pc Ls X hx hZ hown hM eT hE has hsz hnp hf hl hc hs hd K; exact g_priv X hx hZ (C := "com/example/tracefold/tracefold/mining/FactoredInverse$Elimination") (z := ({ cls := "com/example/tracefold/tracefold/mining/FactoredInverse$Elimination", name := "pivot", desc := "()J" } : Jvm.MethodName)) hown (tw hw 241 rfl) (tw hw 243 rfl) (tw hw 206 rfl) rfl (tw hw 242 rfl) (tw hw 129 rfl) (tw hw 244 rfl) (by decide) hM eT (b := b) (hE rfl) rfl has _ _ rfl hsz (lenOf own_pd13 hnp) (Nat.le_refl _) hf hl hc hs hd K
  · cases h; intro p l e R s m args below meth c T locs cells slots h Ev rm as' Q argsL rest b pc Ls X hx hZ hown hM eT hE has hsz hnp hf hl hc hs hd K; exact g_priv X hx hZ (C := "com/example/tracefold/tracefold/mining/FactoredInverse$Elimination") (z := ({ cls := "com/example/tracefold/tracefold/mining/FactoredInverse$Elimination", name := "pivot", desc := "()J" } : Jvm.MethodName)) hown (tw hw 253 rfl) (tw hw 255 rfl) (tw hw 206 rfl) rfl (tw hw 254 rfl) (tw hw 129 rfl) (tw hw 256 rfl) (by decide) hM eT (b := b) (hE rfl) rfl has _ _ rfl hsz (lenOf own_pd20 hnp) (Nat.le_refl _) hf hl hc hs hd K
  · cases h; intro p l e R s m args below meth c T locs cells slots h Ev rm as' Q argsL rest b pc Ls X hx hZ hown hM eT hE has hsz hnp hf hl hc hs hd K; exact g_virt X hx hZ (C := "com/example/tracefold/tracefold/mining/FactoredInverse$Lists") hown (tw hw 266 rfl) (tw hw 267 rfl) (tw hw 269 rfl) (tw hw 269 rfl) (tw hw 268 rfl) (tw hw 175 rfl) (tw hw 270 rfl) (by decide) hM eT (b := b) (hE rfl) rfl has _ _ rfl hsz (lenOf own_pd4 hnp) (Nat.le_refl _) hf hl hc hs hd K
  · cases h; intro p l e R s m args below meth c T locs cells slots h Ev rm as' Q argsL rest b pc Ls X hx hZ hown hM eT hE has hsz hnp hf hl hc hs hd K; exact g_priv X hx hZ (C := "com/example/tracefold/tracefold/mining/FactoredInverse$Elimination") (z := ({ cls := "com/example/tracefold/tracefold/mining/FactoredInverse$Elimination", name := "pivot", desc := "()J" } : Jvm.MethodName)) hown (tw hw 271 rfl) (tw hw 273 rfl) (tw hw 206 rfl) rfl (tw hw 272 rfl) (tw hw 129 rfl) (tw hw 274 rfl) (by decide) hM eT (b := b) (hE rfl) rfl has _ _ rfl hsz (lenOf own_pd13 hnp) (Nat.le_refl _) hf hl hc hs hd K
  · cases h; intro p l e R s m args below meth c T locs cells slots h Ev rm as' Q argsL rest b pc Ls X hx hZ hown hM eT hE has hsz hnp hf hl hc hs hd K; exact g_virt X hx hZ (C := "com/example/tracefold/tracefold/mining/FactoredInverse$Lists") hown (tw hw 275 rfl) (tw hw 276 rfl) (tw hw 278 rfl) (tw hw 278 rfl) (tw hw 277 rfl) (tw hw 175 rfl) (tw hw 279 rfl) (by decide) hM eT (b := b) (hE rfl) rfl has _ _ rfl hsz (lenOf own_pd13 hnp) (Nat.le_refl _) hf hl hc hs hd K
  · cases h; intro p l e R s m args below meth c T locs cells slots h Ev rm as' Q argsL rest b pc Ls X hx hZ hown hM eT hE has hsz hnp hf hl hc hs hd K; exact g_priv X hx hZ (C := "com/example/tracefold/tracefold/mining/FactoredInverse$Elimination") (z := ({ cls := "com/example/tracefold/tracefold/mining/FactoredInverse$Elimination", name := "pivot", desc := "()J" } : Jvm.MethodName)) hown (tw hw 330 rfl) (tw hw 332 rfl) (tw hw 206 rfl) rfl (tw hw 331 rfl) (tw hw 129 rfl) (tw hw 333 rfl) (by decide) hM eT (b := b) (hE rfl) rfl has _ _ rfl hsz (lenOf own_pd20 hnp) (Nat.le_refl _) hf hl hc hs hd K
  · cases h; intro p l e R s m args below meth c T locs cells slots h Ev rm as' Q argsL rest b pc Ls X hx hZ hown hM eT hE has hsz hnp hf hl hc hs hd K; exact g_priv X hx hZ (C := "com/example/tracefold/tracefold/mining/FactoredInverse$Elimination") (z := ({ cls := "com/example/tracefold/tracefold/mining/FactoredInverse$Elimination", name := "pivot", desc := "()J" } : Jvm.MethodName)) hown (tw hw 336 rfl) (tw hw 338 rfl) (tw hw 206 rfl) rfl (tw hw 337 rfl) (tw hw 129 rfl) (tw hw 339 rfl) (by decide) hM eT (b := b) (hE rfl) rfl has _ _ rfl hsz (lenOf own_pd26 hnp) (Nat.le_refl _) hf hl hc hs hd K
  · cases h
theorem own_na_1 {Z : State} {a0 : Array Value} (hw : HW a0 Z) : NatOK Z a0 "com/example/tracefold/tracefold/mining/FactoredInverse$Elimination" own_nt_1 := by
  intro op k cd h
  unfold own_nt_1 at h
  split at h
  · cases h; exact Or.inr (Or.inr (Or.inr (Or.inr ⟨rfl, _, rfl, (tw hw 135 rfl), (tw hw 31 rfl), (tw hw 32 rfl)⟩)))
  · cases h; exact Or.inr (Or.inr (Or.inl ⟨rfl, _, rfl, (tw hw 223 rfl), (tw hw 224 rfl), (tw hw 149 rfl), (tw hw 225 rfl)⟩))
  · cases h; exact Or.inr (Or.inr (Or.inr (Or.inl ⟨rfl, _, rfl, (tw hw 227 rfl), (tw hw 228 rfl), (tw hw 149 rfl), (tw hw 229 rfl)⟩)))
  · cases h
def own_MI_1 : Md := ((own_pf_1, own_pc_1, own_pk_1), own_pwI_1, own_nw_1, own_cl_1, own_nt_1)
def own_MN_1 : Md := ((own_pf_1, own_pc_1, own_pk_1), own_pwN_1, own_nw_1, own_cl_1, own_nt_1)
theorem own_okI_1 (Z : State) (a0 : Array Value) (hw : HW a0 Z) : MdOK Z a0 "com/example/tracefold/tracefold/mining/FactoredInverse$Elimination" "<init>" own_MI_1 ∧ ClsOK Z a0 ∧ ArrOK Z a0 := ⟨⟨own_po_1 hw, own_puI_1 hw, own_ne_1 hw, own_ca_1 hw, own_na_1 hw⟩, own_cls hw, own_arr hw⟩
theorem own_okN_1 (mn : String) (Z : State) (a0 : Array Value) (hw : HW a0 Z) : MdOK Z a0 "com/example/tracefold/tracefold/mining/FactoredInverse$Elimination" mn own_MN_1 ∧ ClsOK Z a0 ∧ ArrOK Z a0 := ⟨⟨own_po_1 hw, own_puN_1 hw mn, own_ne_1 hw, own_ca_1 hw, own_na_1 hw⟩, own_cls hw, own_arr hw⟩
def own_pf_2 : Nat → Option (Nat × Nat)
  | 7 => some (0, 13)
  | 13 => some (4, 0)
  | 19 => some (4, 1)
  | 22 => some (4, 2)
  | 25 => some (4, 3)
  | _ => none
def own_pc_2 : Nat → Option String

  | _ => none
def own_pk_2 : Nat → Option Value

  | _ => none
def own_pwI_2 : Nat → Option FieldType
  | 13 => some (.array .int)
  | 19 => some (.array .int)
  | 22 => some (.array .int)
  | 25 => some (.array .int)
  | _ => none
def own_pwN_2 : Nat → Option FieldType

  | _ => none
def own_nw_2 : Nat → Option (Nat × Nat)

  | _ => none
def own_cl_2 : Instr → Option (Nat × Nat × Nat × Nat)
  | .invokestatic 28 => some (0, 16, 2, 0)
  | .invokevirtual 34 => some (1, 17, 2, 4)
  | .invokevirtual 38 => some (1, 29, 1, 4)
  | _ => none
def own_nt_2 : Instr → Option (Nat × Nat)
  | .invokespecial 1 => some (5, 0)
  | _ => none
theorem own_po_2 {Z : State} {a0 : Array Value} (hw : HW a0 Z) : PoolOK Z a0 "com/example/tracefold/tracefold/mining/FactoredInverse$Lists" (own_pf_2, own_pc_2, own_pk_2) := by
  refine ⟨fun i c j h => ?_, fun i C h => ?_, fun i v h => ?_⟩
  · dsimp only at h
    unfold own_pf_2 at h
    split at h
    · cases h; exact ⟨by decide, _, _, _, rfl, Or.inr (tw hw 180 rfl), Via.refl⟩
    · cases h; exact ⟨by decide, _, _, "", rfl, Or.inl (tw hw 181 rfl), Via.refl⟩
    · cases h; exact ⟨by decide, _, _, "", rfl, Or.inl (tw hw 183 rfl), Via.refl⟩
    · cases h; exact ⟨by decide, _, _, "", rfl, Or.inl (tw hw 185 rfl), Via.refl⟩
    · cases h; exact ⟨by decide, _, _, "", rfl, Or.inl (tw hw 187 rfl), Via.refl⟩
    · cases h
  · cases h
  · cases h
theorem own_puI_2 {Z : State} {a0 : Array Value} (hw : HW a0 Z) : PutOK Z a0 "com/example/tracefold/tracefold/mining/FactoredInverse$Lists" "<init>" own_pwI_2 (own_pf_2, own_pc_2, own_pk_2) := by
  intro i ty h
  unfold own_pwI_2 at h
  split at h
  · cases h; intro cc j hj; cases hj; exact ⟨_, _, rfl, Or.inr ⟨(tw hw 182 rfl), rfl, rfl⟩, (tw hw 174 rfl), by decide⟩
  · cases h; intro cc j hj; cases hj; exact ⟨_, _, rfl, Or.inr ⟨(tw hw 184 rfl), rfl, rfl⟩, (tw hw 174 rfl), by decide⟩
  · cases h; intro cc j hj; cases hj; exact ⟨_, _, rfl, Or.inr ⟨(tw hw 186 rfl), rfl, rfl⟩, (tw hw 174 rfl), by decide⟩
  · cases h; intro cc j hj; cases hj; exact ⟨_, _, rfl, Or.inr ⟨(tw hw 188 rfl), rfl, rfl⟩, (tw hw 174 rfl), by decide⟩
  · cases h
theorem own_puN_2 {Z : State} {a0 : Array Value} (hw : HW a0 Z) (mn : String) : PutOK Z a0 "com/example/tracefold/tracefold/mining/FactoredInverse$Lists" mn own_pwN_2 (own_pf_2, own_pc_2, own_pk_2) := by
  intro i ty h
  cases h
theorem own_ne_2 {Z : State} {a0 : Array Value} (hw : HW a0 Z) : NewOK Z a0 "com/example/tracefold/tracefold/mining/FactoredInverse$Lists" own_nw_2 := by
  intro i cc n h
  cases h
theorem own_ca_2 {Z : State} {a0 : Array Value} (hw : HW a0 Z) : CallsOK Z "com/example/tracefold/tracefold/mining/FactoredInverse$Lists" own_cl_2 := by
  intro op kd mn np rc h
  unfold own_cl_2 at h
  split at h
  · cases h; intro p l e R s m args below meth c T locs cells slots h Ev rm as' Q argsL rest b pc Ls X hx hZ hown hM eT hE has hsz hnp hf hl hc hs hd K; exact g_static X hx hZ hown (tw hw 189 rfl) (tw hw 190 rfl) (tw hw 153 rfl) (tw hw 191 rfl) (by decide) hM eT rfl has _ _ rfl hsz (lenOf own_pd12 hnp) (Nat.le_refl _) hf hl hc hs hd K
  · cases h; intro p l e R s m args below meth c T locs cells slots h Ev rm as' Q argsL rest b pc Ls X hx hZ hown hM eT hE has hsz hnp hf hl hc hs hd K; exact g_priv X hx hZ (C := "com/example/tracefold/tracefold/mining/FactoredInverse$Lists") (z := ({ cls := "com/example/tracefold/tracefold/mining/FactoredInverse$Lists", name := "first", desc := "(I)I" } : Jvm.MethodName)) hown (tw hw 192 rfl) (tw hw 194 rfl) (tw hw 213 rfl) rfl (tw hw 193 rfl) (tw hw 175 rfl) (tw hw 195 rfl) (by decide) hM eT (b := b) (hE rfl) rfl has _ _ rfl hsz (lenOf own_pd13 hnp) (Nat.le_refl _) hf hl hc hs hd K
  · cases h; intro p l e R s m args below meth c T locs cells slots h Ev rm as' Q argsL rest b pc Ls X hx hZ hown hM eT hE has hsz hnp hf hl hc hs hd K; exact g_virt X hx hZ (C := "com/example/tracefold/tracefold/mining/FactoredInverse$Lists") hown (tw hw 280 rfl) (tw hw 267 rfl) (tw hw 269 rfl) (tw hw 269 rfl) (tw hw 268 rfl) (tw hw 175 rfl) (tw hw 270 rfl) (by decide) hM eT (b := b) (hE rfl) rfl has _ _ rfl hsz (lenOf own_pd4 hnp) (Nat.le_refl _) hf hl hc hs hd K
  · cases h
theorem own_na_2 {Z : State} {a0 : Array Value} (hw : HW a0 Z) : NatOK Z a0 "com/example/tracefold/tracefold/mining/FactoredInverse$Lists" own_nt_2 := by
  intro op k cd h
  unfold own_nt_2 at h
  split at h
  · cases h; exact Or.inr (Or.inr (Or.inr (Or.inr ⟨rfl, _, rfl, (tw hw 179 rfl), (tw hw 31 rfl), (tw hw 32 rfl)⟩)))
  · cases h
def own_MI_2 : Md := ((own_pf_2, own_pc_2, own_pk_2), own_pwI_2, own_nw_2, own_cl_2, own_nt_2)
def own_MN_2 : Md := ((own_pf_2, own_pc_2, own_pk_2), own_pwN_2, own_nw_2, own_cl_2, own_nt_2)
theorem own_okI_2 (Z : State) (a0 : Array Value) (hw : HW a0 Z) : MdOK Z a0 "com/example/tracefold/tracefold/mining/FactoredInverse$Lists" "<init>" own_MI_2 ∧ ClsOK Z a0 ∧ ArrOK Z a0 := ⟨⟨own_po_2 hw, own_puI_2 hw, own_ne_2 hw, own_ca_2 hw, own_na_2 hw⟩, own_cls hw, own_arr hw⟩
theorem own_okN_2 (mn : String) (Z : State) (a0 : Array Value) (hw : HW a0 Z) : MdOK Z a0 "com/example/tracefold/tracefold/mining/FactoredInverse$Lists" mn own_MN_2 ∧ ClsOK Z a0 ∧ ArrOK Z a0 := ⟨⟨own_po_2 hw, own_puN_2 hw mn, own_ne_2 hw, own_ca_2 hw, own_na_2 hw⟩, own_cls hw, own_arr hw⟩
def own_pf_3 : Nat → Option (Nat × Nat)
  | 7 => some (2, 0)
  | 13 => some (2, 1)
  | 16 => some (2, 2)
  | 20 => some (2, 3)
  | _ => none
def own_pc_3 : Nat → Option String

  | _ => none
def own_pk_3 : Nat → Option Value

  | _ => none
def own_pwI_3 : Nat → Option FieldType
  | 7 => some .int
  | 13 => some .int
  | 16 => some (.array .int)
  | 20 => some (.array .boolean)
  | _ => none
def own_nw_3 : Nat → Option (Nat × Nat)

  | _ => none
def own_cl_3 : Instr → Option (Nat × Nat × Nat × Nat)

  | _ => none
def own_nt_3 : Instr → Option (Nat × Nat)
  | .invokespecial 1 => some (5, 0)
  | _ => none
theorem own_po_3 {Z : State} {a0 : Array Value} (hw : HW a0 Z) : PoolOK Z a0 "com/example/tracefold/tracefold/mining/FactoredInverse$StepQueue" (own_pf_3, own_pc_3, own_pk_3) := by
  refine ⟨fun i c j h => ?_, fun i C h => ?_, fun i v h => ?_⟩
  · dsimp only at h
    unfold own_pf_3 at h
    split at h
    · cases h; exact ⟨by decide, _, _, "", rfl, Or.inl (tw hw 108 rfl), Via.refl⟩
    · cases h; exact ⟨by decide, _, _, "", rfl, Or.inl (tw hw 110 rfl), Via.refl⟩
    · cases h; exact ⟨by decide, _, _, "", rfl, Or.inl (tw hw 112 rfl), Via.refl⟩
    · cases h; exact ⟨by decide, _, _, "", rfl, Or.inl (tw hw 114 rfl), Via.refl⟩
    · cases h
  · cases h
  · cases h
theorem own_puI_3 {Z : State} {a0 : Array Value} (hw : HW a0 Z) : PutOK Z a0 "com/example/tracefold/tracefold/mining/FactoredInverse$StepQueue" "<init>" own_pwI_3 (own_pf_3, own_pc_3, own_pk_3) := by
  intro i ty h
  unfold own_pwI_3 at h
  split at h
  · cases h; intro cc j hj; cases hj; exact ⟨_, _, rfl, Or.inl (tw hw 109 rfl), (tw hw 102 rfl), by decide⟩
  · cases h; intro cc j hj; cases hj; exact ⟨_, _, rfl, Or.inr ⟨(tw hw 111 rfl), rfl, rfl⟩, (tw hw 102 rfl), by decide⟩
  · cases h; intro cc j hj; cases hj; exact ⟨_, _, rfl, Or.inr ⟨(tw hw 113 rfl), rfl, rfl⟩, (tw hw 102 rfl), by decide⟩
  · cases h; intro cc j hj; cases hj; exact ⟨_, _, rfl, Or.inr ⟨(tw hw 115 rfl), rfl, rfl⟩, (tw hw 102 rfl), by decide⟩
  · cases h
theorem own_ne_3 {Z : State} {a0 : Array Value} (hw : HW a0 Z) : NewOK Z a0 "com/example/tracefold/tracefold/mining/FactoredInverse$StepQueue" own_nw_3 := by
  intro i cc n h
  cases h
theorem own_ca_3 {Z : State} {a0 : Array Value} (hw : HW a0 Z) : CallsOK Z "com/example/tracefold/tracefold/mining/FactoredInverse$StepQueue" own_cl_3 := by
  intro op kd mn np rc h
  cases h
theorem own_na_3 {Z : State} {a0 : Array Value} (hw : HW a0 Z) : NatOK Z a0 "com/example/tracefold/tracefold/mining/FactoredInverse$StepQueue" own_nt_3 := by
  intro op k cd h
  unfold own_nt_3 at h
  split at h
  · cases h; exact Or.inr (Or.inr (Or.inr (Or.inr ⟨rfl, _, rfl, (tw hw 107 rfl), (tw hw 31 rfl), (tw hw 32 rfl)⟩)))
  · cases h
def own_MI_3 : Md := ((own_pf_3, own_pc_3, own_pk_3), own_pwI_3, own_nw_3, own_cl_3, own_nt_3)
theorem own_okI_3 (Z : State) (a0 : Array Value) (hw : HW a0 Z) : MdOK Z a0 "com/example/tracefold/tracefold/mining/FactoredInverse$StepQueue" "<init>" own_MI_3 ∧ ClsOK Z a0 ∧ ArrOK Z a0 := ⟨⟨own_po_3 hw, own_puI_3 hw, own_ne_3 hw, own_ca_3 hw, own_na_3 hw⟩, own_cls hw, own_arr hw⟩
def own_pf_4 : Nat → Option (Nat × Nat)

  | _ => none
def own_pc_4 : Nat → Option String
  | 13 => some "[I"
  | 19 => some "[D"
  | _ => none
def own_pk_4 : Nat → Option Value

  | _ => none
def own_pwN_4 : Nat → Option FieldType

  | _ => none
def own_nw_4 : Nat → Option (Nat × Nat)
  | 32 => some (0, 29)
  | 37 => some (1, 4)
  | _ => none
def own_cl_4 : Instr → Option (Nat × Nat × Nat × Nat)
  | .invokespecial 34 => some (2, 6, 1, 0)
  | .invokespecial 39 => some (2, 8, 1, 0)
  | .invokestatic 15 => some (0, 2, 2, 0)
  | .invokestatic 21 => some (0, 3, 2, 0)
  | .invokestatic 56 => some (0, 39, 4, 0)
  | .invokevirtual 40 => some (1, 10, 2, 0)
  | .invokevirtual 44 => some (1, 34, 2, 1)
  | .invokevirtual 48 => some (1, 35, 2, 0)
  | .invokevirtual 52 => some (1, 33, 1, 0)
  | _ => none
def own_nt_4 : Instr → Option (Nat × Nat)

  | _ => none
theorem own_po_4 {Z : State} {a0 : Array Value} (hw : HW a0 Z) : PoolOK Z a0 "com/example/tracefold/tracefold/mining/FactoredInverseTimesPinLaw" (own_pf_4, own_pc_4, own_pk_4) := by
  refine ⟨fun i c j h => ?_, fun i C h => ?_, fun i v h => ?_⟩
  · cases h
  · dsimp only at h
    unfold own_pc_4 at h
    split at h
    · cases h; exact (tw hw 4 rfl)
    · cases h; exact (tw hw 11 rfl)
    · cases h
  · cases h
theorem own_puN_4 {Z : State} {a0 : Array Value} (hw : HW a0 Z) (mn : String) : PutOK Z a0 "com/example/tracefold/tracefold/mining/FactoredInverseTimesPinLaw" mn own_pwN_4 (own_pf_4, own_pc_4, own_pk_4) := by
  intro i ty h
  cases h
theorem own_ne_4 {Z : State} {a0 : Array Value} (hw : HW a0 Z) : NewOK Z a0 "com/example/tracefold/tracefold/mining/FactoredInverseTimesPinLaw" own_nw_4 := by
  intro i cc n h
  unfold own_nw_4 at h
  split at h
  · cases h; exact ⟨by decide, (tw hw 24 rfl), (tw hw 25 rfl), (tw hw 26 rfl), own_nd_0 hw⟩
  · cases h; exact ⟨by decide, (tw hw 118 rfl), (tw hw 80 rfl), (tw hw 81 rfl), own_nd_1 hw⟩
  · cases h
theorem own_ca_4 {Z : State} {a0 : Array Value} (hw : HW a0 Z) : CallsOK Z "com/example/tracefold/tracefold/mining/FactoredInverseTimesPinLaw" own_cl_4 := by
  intro op kd mn np rc h
  unfold own_cl_4 at h
  split at h
  · cases h; intro p l e R s m args below meth c T locs cells slots h Ev rm as' Q argsL rest b pc Ls X hx hZ hown hM eT hE has hsz hnp hf hl hc hs hd K; exact g_init X hx hZ rfl hown (tw hw 27 rfl) (tw hw 28 rfl) (tw hw 26 rfl) (tw hw 29 rfl) (by decide) hM eT (a := b) rfl has _ _ rfl hsz (lenOf own_pd4 hnp) (Nat.le_refl _) hf hl hc hs hd K
  · cases h; intro p l e R s m args below meth c T locs cells slots h Ev rm as' Q argsL rest b pc Ls X hx hZ hown hM eT hE has hsz hnp hf hl hc hs hd K; exact g_init X hx hZ rfl hown (tw hw 119 rfl) (tw hw 83 rfl) (tw hw 81 rfl) (tw hw 84 rfl) (by decide) hM eT (a := b) rfl has _ _ rfl hsz (lenOf own_pd4 hnp) (Nat.le_refl _) hf hl hc hs hd K
  · cases h; intro p l e R s m args below meth c T locs cells slots h Ev rm as' Q argsL rest b pc Ls X hx hZ hown hM eT hE has hsz hnp hf hl hc hs hd K; exact g_static X hx hZ hown (tw hw 6 rfl) (tw hw 7 rfl) (tw hw 2 rfl) (tw hw 8 rfl) (by decide) hM eT rfl has _ _ rfl hsz (lenOf own_pd1 hnp) (Nat.le_refl _) hf hl hc hs hd K
  · cases h; intro p l e R s m args below meth c T locs cells slots h Ev rm as' Q argsL rest b pc Ls X hx hZ hown hM eT hE has hsz hnp hf hl hc hs hd K; exact g_static X hx hZ hown (tw hw 13 rfl) (tw hw 14 rfl) (tw hw 2 rfl) (tw hw 15 rfl) (by decide) hM eT rfl has _ _ rfl hsz (lenOf own_pd2 hnp) (Nat.le_refl _) hf hl hc hs hd K
  · cases h; intro p l e R s m args below meth c T locs cells slots h Ev rm as' Q argsL rest b pc Ls X hx hZ hown hM eT hE has hsz hnp hf hl hc hs hd K; exact g_static X hx hZ hown (tw hw 325 rfl) (tw hw 326 rfl) (tw hw 2 rfl) (tw hw 327 rfl) (by decide) hM eT rfl has _ _ rfl hsz (lenOf own_pd25 hnp) (Nat.le_refl _) hf hl hc hs hd K
  · cases h; intro p l e R s m args below meth c T locs cells slots h Ev rm as' Q argsL rest b pc Ls X hx hZ hown hM eT hE has hsz hnp hf hl hc hs hd K; exact g_virt X hx hZ (C := "com/example/tracefold/tracefold/mining/FactoredInverse") hown (tw hw 120 rfl) (tw hw 121 rfl) (tw hw 123 rfl) (tw hw 123 rfl) (tw hw 122 rfl) (tw hw 26 rfl) (tw hw 124 rfl) (by decide) hM eT (b := b) (hE rfl) rfl has _ _ rfl hsz (lenOf own_pd6 hnp) (Nat.le_refl _) hf hl hc hs hd K
  · cases h; intro p l e R s m args below meth c T locs cells slots h Ev rm as' Q argsL rest b pc Ls X hx hZ hown hM eT hE has hsz hnp hf hl hc hs hd K; exact g_virt X hx hZ (C := "com/example/tracefold/tracefold/mining/SparseVector") hown (tw hw 298 rfl) (tw hw 299 rfl) (tw hw 301 rfl) (tw hw 301 rfl) (tw hw 300 rfl) (tw hw 81 rfl) (tw hw 302 rfl) (by decide) hM eT (b := b) (hE rfl) rfl has _ _ rfl hsz (lenOf own_pd20 hnp) (Nat.le_refl _) hf hl hc hs hd K
  · cases h; intro p l e R s m args below meth c T locs cells slots h Ev rm as' Q argsL rest b pc Ls X hx hZ hown hM eT hE has hsz hnp hf hl hc hs hd K; exact g_virt X hx hZ (C := "com/example/tracefold/tracefold/mining/FactoredInverse") hown (tw hw 305 rfl) (tw hw 306 rfl) (tw hw 308 rfl) (tw hw 308 rfl) (tw hw 307 rfl) (tw hw 26 rfl) (tw hw 309 rfl) (by decide) hM eT (b := b) (hE rfl) rfl has _ _ rfl hsz (lenOf own_pd23 hnp) (Nat.le_refl _) hf hl hc hs hd K
  · cases h; intro p l e R s m args below meth c T locs cells slots h Ev rm as' Q argsL rest b pc Ls X hx hZ hown hM eT hE has hsz hnp hf hl hc hs hd K; exact g_virt X hx hZ (C := "com/example/tracefold/tracefold/mining/FactoredInverse") hown (tw hw 290 rfl) (tw hw 291 rfl) (tw hw 293 rfl) (tw hw 293 rfl) (tw hw 292 rfl) (tw hw 26 rfl) (tw hw 294 rfl) (by decide) hM eT (b := b) (hE rfl) rfl has _ _ rfl hsz (lenOf own_pd22 hnp) (Nat.le_refl _) hf hl hc hs hd K
  · cases h
theorem own_na_4 {Z : State} {a0 : Array Value} (hw : HW a0 Z) : NatOK Z a0 "com/example/tracefold/tracefold/mining/FactoredInverseTimesPinLaw" own_nt_4 := by
  intro op k cd h
  cases h
def own_MN_4 : Md := ((own_pf_4, own_pc_4, own_pk_4), own_pwN_4, own_nw_4, own_cl_4, own_nt_4)
theorem own_okN_4 (mn : String) (Z : State) (a0 : Array Value) (hw : HW a0 Z) : MdOK Z a0 "com/example/tracefold/tracefold/mining/FactoredInverseTimesPinLaw" mn own_MN_4 ∧ ClsOK Z a0 ∧ ArrOK Z a0 := ⟨⟨own_po_4 hw, own_puN_4 hw mn, own_ne_4 hw, own_ca_4 hw, own_na_4 hw⟩, own_cls hw, own_arr hw⟩
def own_pf_5 : Nat → Option (Nat × Nat)
  | 7 => some (1, 0)
  | 13 => some (1, 1)
  | 17 => some (1, 2)
  | 30 => some (1, 3)
  | _ => none
def own_pc_5 : Nat → Option String

  | _ => none
def own_pk_5 : Nat → Option Value

  | _ => none
def own_pwI_5 : Nat → Option FieldType
  | 7 => some (.array .double)
  | 13 => some (.array .boolean)
  | 17 => some (.array .int)
  | _ => none
def own_pwN_5 : Nat → Option FieldType
  | 30 => some .int
  | _ => none
def own_nw_5 : Nat → Option (Nat × Nat)

  | _ => none
def own_cl_5 : Instr → Option (Nat × Nat × Nat × Nat)

  | _ => none
def own_nt_5 : Instr → Option (Nat × Nat)
  | .invokespecial 1 => some (5, 0)
  | _ => none
theorem own_po_5 {Z : State} {a0 : Array Value} (hw : HW a0 Z) : PoolOK Z a0 "com/example/tracefold/tracefold/mining/SparseVector" (own_pf_5, own_pc_5, own_pk_5) := by
  refine ⟨fun i c j h => ?_, fun i C h => ?_, fun i v h => ?_⟩
  · dsimp only at h
    unfold own_pf_5 at h
    split at h
    · cases h; exact ⟨by decide, _, _, "", rfl, Or.inl (tw hw 86 rfl), Via.refl⟩
    · cases h; exact ⟨by decide, _, _, "", rfl, Or.inl (tw hw 89 rfl), Via.refl⟩
    · cases h; exact ⟨by decide, _, _, "", rfl, Or.inl (tw hw 91 rfl), Via.refl⟩
    · cases h; exact ⟨by decide, _, _, "", rfl, Or.inl (tw hw 303 rfl), Via.refl⟩
    · cases h
  · cases h
  · cases h
theorem own_puI_5 {Z : State} {a0 : Array Value} (hw : HW a0 Z) : PutOK Z a0 "com/example/tracefold/tracefold/mining/SparseVector" "<init>" own_pwI_5 (own_pf_5, own_pc_5, own_pk_5) := by
  intro i ty h
  unfold own_pwI_5 at h
  split at h
  · cases h; intro cc j hj; cases hj; exact ⟨_, _, rfl, Or.inr ⟨(tw hw 87 rfl), rfl, rfl⟩, (tw hw 80 rfl), by decide⟩
  · cases h; intro cc j hj; cases hj; exact ⟨_, _, rfl, Or.inr ⟨(tw hw 90 rfl), rfl, rfl⟩, (tw hw 80 rfl), by decide⟩
  · cases h; intro cc j hj; cases hj; exact ⟨_, _, rfl, Or.inl (tw hw 92 rfl), (tw hw 80 rfl), by decide⟩
  · cases h
theorem own_puN_5 {Z : State} {a0 : Array Value} (hw : HW a0 Z) (mn : String) : PutOK Z a0 "com/example/tracefold/tracefold/mining/SparseVector" mn own_pwN_5 (own_pf_5, own_pc_5, own_pk_5) := by
  intro i ty h
  unfold own_pwN_5 at h
  split at h
  · cases h; intro cc j hj; cases hj; exact ⟨_, _, rfl, Or.inl (tw hw 304 rfl), (tw hw 80 rfl), by decide⟩
  · cases h
theorem own_ne_5 {Z : State} {a0 : Array Value} (hw : HW a0 Z) : NewOK Z a0 "com/example/tracefold/tracefold/mining/SparseVector" own_nw_5 := by
  intro i cc n h
  cases h
theorem own_ca_5 {Z : State} {a0 : Array Value} (hw : HW a0 Z) : CallsOK Z "com/example/tracefold/tracefold/mining/SparseVector" own_cl_5 := by
  intro op kd mn np rc h
  cases h
theorem own_na_5 {Z : State} {a0 : Array Value} (hw : HW a0 Z) : NatOK Z a0 "com/example/tracefold/tracefold/mining/SparseVector" own_nt_5 := by
  intro op k cd h
  unfold own_nt_5 at h
  split at h
  · cases h; exact Or.inr (Or.inr (Or.inr (Or.inr ⟨rfl, _, rfl, (tw hw 85 rfl), (tw hw 31 rfl), (tw hw 32 rfl)⟩)))
  · cases h
def own_MI_5 : Md := ((own_pf_5, own_pc_5, own_pk_5), own_pwI_5, own_nw_5, own_cl_5, own_nt_5)
def own_MN_5 : Md := ((own_pf_5, own_pc_5, own_pk_5), own_pwN_5, own_nw_5, own_cl_5, own_nt_5)
theorem own_okI_5 (Z : State) (a0 : Array Value) (hw : HW a0 Z) : MdOK Z a0 "com/example/tracefold/tracefold/mining/SparseVector" "<init>" own_MI_5 ∧ ClsOK Z a0 ∧ ArrOK Z a0 := ⟨⟨own_po_5 hw, own_puI_5 hw, own_ne_5 hw, own_ca_5 hw, own_na_5 hw⟩, own_cls hw, own_arr hw⟩
theorem own_okN_5 (mn : String) (Z : State) (a0 : Array Value) (hw : HW a0 Z) : MdOK Z a0 "com/example/tracefold/tracefold/mining/SparseVector" mn own_MN_5 ∧ ClsOK Z a0 ∧ ArrOK Z a0 := ⟨⟨own_po_5 hw, own_puN_5 hw mn, own_ne_5 hw, own_ca_5 hw, own_na_5 hw⟩, own_cls hw, own_arr hw⟩
def own_pf_6 : Nat → Option (Nat × Nat)

  | _ => none
def own_pc_6 : Nat → Option String

  | _ => none
def own_pk_6 : Nat → Option Value

  | _ => none
def own_pwN_6 : Nat → Option FieldType

  | _ => none
def own_nw_6 : Nat → Option (Nat × Nat)

  | _ => none
def own_cl_6 : Instr → Option (Nat × Nat × Nat × Nat)

  | _ => none
def own_nt_6 : Instr → Option (Nat × Nat)

  | _ => none
theorem own_po_6 {Z : State} {a0 : Array Value} (hw : HW a0 Z) : PoolOK Z a0 "java/lang/Math" (own_pf_6, own_pc_6, own_pk_6) := by
  refine ⟨fun i c j h => ?_, fun i C h => ?_, fun i v h => ?_⟩
  · cases h
  · cases h
  · cases h
theorem own_puN_6 {Z : State} {a0 : Array Value} (hw : HW a0 Z) (mn : String) : PutOK Z a0 "java/lang/Math" mn own_pwN_6 (own_pf_6, own_pc_6, own_pk_6) := by
  intro i ty h
  cases h
theorem own_ne_6 {Z : State} {a0 : Array Value} (hw : HW a0 Z) : NewOK Z a0 "java/lang/Math" own_nw_6 := by
  intro i cc n h
  cases h
theorem own_ca_6 {Z : State} {a0 : Array Value} (hw : HW a0 Z) : CallsOK Z "java/lang/Math" own_cl_6 := by
  intro op kd mn np rc h
  cases h
theorem own_na_6 {Z : State} {a0 : Array Value} (hw : HW a0 Z) : NatOK Z a0 "java/lang/Math" own_nt_6 := by
  intro op k cd h
  cases h
def own_MN_6 : Md := ((own_pf_6, own_pc_6, own_pk_6), own_pwN_6, own_nw_6, own_cl_6, own_nt_6)
theorem own_okN_6 (mn : String) (Z : State) (a0 : Array Value) (hw : HW a0 Z) : MdOK Z a0 "java/lang/Math" mn own_MN_6 ∧ ClsOK Z a0 ∧ ArrOK Z a0 := ⟨⟨own_po_6 hw, own_puN_6 hw mn, own_ne_6 hw, own_ca_6 hw, own_na_6 hw⟩, own_cls hw, own_arr hw⟩
def own_pf_7 : Nat → Option (Nat × Nat)

  | _ => none
def own_pc_7 : Nat → Option String
  | 317 => some "[I"
  | 329 => some "[D"
  | _ => none
def own_pk_7 : Nat → Option Value

  | _ => none
def own_pwN_7 : Nat → Option FieldType

  | _ => none
def own_nw_7 : Nat → Option (Nat × Nat)

  | _ => none
def own_cl_7 : Instr → Option (Nat × Nat × Nat × Nat)
  | .invokestatic 304 => some (0, 28, 2, 0)
  | _ => none
def own_nt_7 : Instr → Option (Nat × Nat)
  | .invokestatic 150 => some (2, 0)
  | .invokevirtual 316 => some (1, 64)
  | .invokevirtual 328 => some (1, 65)
  | _ => none
theorem own_po_7 {Z : State} {a0 : Array Value} (hw : HW a0 Z) : PoolOK Z a0 "java/util/Arrays" (own_pf_7, own_pc_7, own_pk_7) := by
  refine ⟨fun i c j h => ?_, fun i C h => ?_, fun i v h => ?_⟩
  · cases h
  · dsimp only at h
    unfold own_pc_7 at h
    split at h
    · cases h; exact (tw hw 162 rfl)
    · cases h; exact (tw hw 170 rfl)
    · cases h
  · cases h
theorem own_puN_7 {Z : State} {a0 : Array Value} (hw : HW a0 Z) (mn : String) : PutOK Z a0 "java/util/Arrays" mn own_pwN_7 (own_pf_7, own_pc_7, own_pk_7) := by
  intro i ty h
  cases h
theorem own_ne_7 {Z : State} {a0 : Array Value} (hw : HW a0 Z) : NewOK Z a0 "java/util/Arrays" own_nw_7 := by
  intro i cc n h
  cases h
theorem own_ca_7 {Z : State} {a0 : Array Value} (hw : HW a0 Z) : CallsOK Z "java/util/Arrays" own_cl_7 := by
  intro op kd mn np rc h
  unfold own_cl_7 at h
  split at h
  · cases h; intro p l e R s m args below meth c T locs cells slots h Ev rm as' Q argsL rest b pc Ls X hx hZ hown hM eT hE has hsz hnp hf hl hc hs hd K; exact g_static X hx hZ hown (tw hw 258 rfl) (tw hw 259 rfl) (tw hw 149 rfl) (tw hw 260 rfl) (by decide) hM eT rfl has _ _ rfl hsz (lenOf own_pd0 hnp) (Nat.le_refl _) hf hl hc hs hd K
  · cases h
theorem own_na_7 {Z : State} {a0 : Array Value} (hw : HW a0 Z) : NatOK Z a0 "java/util/Arrays" own_nt_7 := by
  intro op k cd h
  unfold own_nt_7 at h
  split at h
  · cases h; exact Or.inr (Or.inl ⟨rfl, _, rfl, (tw hw 261 rfl), (tw hw 264 rfl), (tw hw 262 rfl), (tw hw 263 rfl)⟩)
  · cases h; exact Or.inl ⟨rfl, by decide, by decide, _, rfl, (tw hw 155 rfl), (tw hw 156 rfl), (tw hw 160 rfl), (tw hw 158 rfl), (tw hw 159 rfl), (tw hw 161 rfl)⟩
  · cases h; exact Or.inl ⟨rfl, by decide, by decide, _, rfl, (tw hw 166 rfl), (tw hw 167 rfl), (tw hw 160 rfl), (tw hw 158 rfl), (tw hw 168 rfl), (tw hw 169 rfl)⟩
  · cases h
def own_MN_7 : Md := ((own_pf_7, own_pc_7, own_pk_7), own_pwN_7, own_nw_7, own_cl_7, own_nt_7)
theorem own_okN_7 (mn : String) (Z : State) (a0 : Array Value) (hw : HW a0 Z) : MdOK Z a0 "java/util/Arrays" mn own_MN_7 ∧ ClsOK Z a0 ∧ ArrOK Z a0 := ⟨⟨own_po_7 hw, own_puN_7 hw mn, own_ne_7 hw, own_ca_7 hw, own_na_7 hw⟩, own_cls hw, own_arr hw⟩
theorem own_pl_0 {n : Nat} : plainName "com/example/tracefold/tracefold/mining/FactoredInverse" = true ∨ plainFor (own_mn n) = true := Or.inl (by first | (simp [plainName, overriddenIn]; done) | decide +kernel)
theorem own_pl_1 {n : Nat} : plainName "com/example/tracefold/tracefold/mining/FactoredInverse$Elimination" = true ∨ plainFor (own_mn n) = true := Or.inl (by first | (simp [plainName, overriddenIn]; done) | decide +kernel)
theorem own_pl_2 {n : Nat} : plainName "com/example/tracefold/tracefold/mining/FactoredInverse$Lists" = true ∨ plainFor (own_mn n) = true := Or.inl (by first | (simp [plainName, overriddenIn]; done) | decide +kernel)
theorem own_pl_3 {n : Nat} : plainName "com/example/tracefold/tracefold/mining/FactoredInverse$StepQueue" = true ∨ plainFor (own_mn n) = true := Or.inl (by first | (simp [plainName, overriddenIn]; done) | decide +kernel)
theorem own_pl_4 {n : Nat} : plainName "com/example/tracefold/tracefold/mining/FactoredInverseTimesPinLaw" = true ∨ plainFor (own_mn n) = true := Or.inl (by first | (simp [plainName, overriddenIn]; done) | decide +kernel)
theorem own_pl_5 {n : Nat} : plainName "com/example/tracefold/tracefold/mining/SparseVector" = true ∨ plainFor (own_mn n) = true := Or.inl (by first | (simp [plainName, overriddenIn]; done) | decide +kernel)
theorem own_pl_6_12 : plainName "java/lang/Math" = true ∨ plainFor (own_mn 12) = true := Or.inr (Jvm.Free.JP.mathPlain rfl (by decide))
theorem own_pl_6_28 : plainName "java/lang/Math" = true ∨ plainFor (own_mn 28) = true := Or.inr (Jvm.Free.JP.mathPlain rfl (by decide))
theorem own_pl_7 {n : Nat} : plainName "java/util/Arrays" = true ∨ plainFor (own_mn n) = true := Or.inl (by first | (simp [plainName, overriddenIn]; done) | decide +kernel)
def dn_0 : List AD := []
def cn_0 : Cn := ((2, [.float 1, .float 2], dn_0, 3), (some (vR 0), (dn_0 ++ [(64, 2, [vI 0, vI 1])]), [(13, 1, 0, 1), (13, 2, 0, 1)]), (0, 1, 2, 0))
theorem ct_0 : CtH cn_0 := ctR 16 own_pl_4 rfl (own_okN_4 _) [] [1, 1] sc0 (by decide +kernel)
def dn_1 : List AD := []
def cn_1 : Cn := ((3, [.float 1, .float 2], dn_1, 3), (some (vR 0), (dn_1 ++ [(65, 2, [vD 3, vD 4])]), [(13, 1, 0, 1), (13, 2, 0, 1), (7, 1, 0, 0), (7, 2, 0, 0)]), (0, 1, 2, 0))
theorem ct_1 : CtH cn_1 := ctR 18 own_pl_4 rfl (own_okN_4 _) [] [1, 1] sc0 (by decide +kernel)
def dn_2 : List AD := [(1, 0, uS 0 4)]
def cn_2 : Cn := ((8, [vR 0, vI 2], dn_2, 1), (none, (own_ed dn_2 [(0, 1, 0, [vR 1, vR 2, vR 3, vU 3])] ++ [(65, 2, [vD 0, vD 0]), (66, 2, [vI 0, vI 0]), (64, 16, rp 16 (vI 0))]), []), (1, 3, 20, 12))
theorem ct_2 : CtH cn_2 := ctR 16 own_pl_5 rfl (own_okI_5) [] [] sc0 (by decide +kernel)
def dn_3 : List AD := [(2, 0, uS 0 4)]
def cn_3 : Cn := ((9, [vR 0, vI 2], dn_3, 1), (none, (own_ed dn_3 [(0, 2, 0, [vI (-1), vI 2, vR 1, vR 2])] ++ [(64, 2, [vI 0, vI 0]), (66, 2, [vI 0, vI 0])]), []), (1, 2, 4, 12))
theorem ct_3 : CtH cn_3 := ctR 18 own_pl_3 rfl (own_okI_3) [] [] sc0 (by decide +kernel)
def dn_4 : List AD := [(0, 0, uS 0 29)]
def cn_4 : Cn := ((6, [vR 0, vI 2], dn_4, 1), (none, (own_ed dn_4 [(0, 0, 0, [vR 1, vR 2, vR 3, vR 4, vR 5, vR 6, vR 7, vR 8, vR 9, vR 10, vR 11, vR 12, vR 13, vI 2, vR 14, vR 15, vR 16, vR 17, vR 18, vR 19, vR 20, vR 21, vR 22, vR 23, vR 27, vR 31, vR 35, vR 39, vU 28])] ++ [(64, 0, []), (65, 0, []), (64, 0, []), (65, 0, []), (64, 0, []), (65, 0, []), (64, 0, []), (65, 0, []), (64, 16, rp 16 (vI 0)), (65, 16, rp 16 (vD 0)), (64, 17, rp 17 (vI 0)), (64, 256, [vI 0, vI 0, vI 0, vI 0]), (65, 256, [vD 0, vD 0, vD 0, vD 0]), (64, 2, [vI 0, vI 0]), (64, 2, [vI 0, vI 0]), (65, 2, [vD 0, vD 0]), (64, 3, [vI 0, vI 0, vI 0]), (64, 3, [vI 0, vI 0, vI 0]), (64, 3, [vI 0, vI 0, vI 0]), (64, 3, [vI 0, vI 0, vI 0]), (64, 2, [vI 0, vI 0]), (64, 2, [vI 0, vI 0]), (1, 0, [vR 24, vR 25, vR 26, vI 0]), (65, 2, [vD 0, vD 0]), (66, 2, [vI 0, vI 0]), (64, 16, rp 16 (vI 0)), (1, 0, [vR 28, vR 29, vR 30, vI 0]), (65, 2, [vD 0, vD 0]), (66, 2, [vI 0, vI 0]), (64, 16, rp 16 (vI 0)), (1, 0, [vR 32, vR 33, vR 34, vI 0]), (65, 2, [vD 0, vD 0]), (66, 2, [vI 0, vI 0]), (64, 16, rp 16 (vI 0)), (1, 0, [vR 36, vR 37, vR 38, vI 0]), (65, 2, [vD 0, vD 0]), (66, 2, [vI 0, vI 0]), (64, 16, rp 16 (vI 0)), (2, 0, [vI (-1), vI 2, vR 40, vR 41]), (64, 2, [vI 0, vI 0]), (66, 2, [vI 0, vI 0])]), []), (2, 41, 689, 27))
theorem ct_4 : CtH cn_4 := ctR 133 own_pl_0 rfl (own_okI_0) [(cn_2, [23], [0], [.null, .null, .null, vI 0]), (cn_2, [27], [0], [.null, .null, .null, vI 0]), (cn_2, [31], [0], [.null, .null, .null, vI 0]), (cn_2, [35], [0], [.null, .null, .null, vI 0]), (cn_3, [39], [0], [vI 0, vI 0, .null, .null])] [] (scS ct_2 (scS ct_2 (scS ct_2 (scS ct_2 (scS ct_3 sc0))))) (by decide +kernel)
def dn_5 : List AD := []
def cn_5 : Cn := ((12, [vI 2, vI 1], dn_5, 1), (some (vI 2), (dn_5), []), (0, 0, 0, 0))
theorem ct_5 : CtH cn_5 := ctR 7 own_pl_6_12 rfl (own_okN_6 _) [] [] sc0 (by decide +kernel)
def dn_6 : List AD := [(64, 2, [vI 0, vI 1])]
def cn_6 : Cn := ((13, [vR 0, vI 2], dn_6, 1), (some (vR 1), (dn_6 ++ [(64, 2, [vI 0, vI 1])]), []), (1, 1, 2, 14))
theorem ct_6 : CtH cn_6 := ctR 9 own_pl_7 rfl (own_okN_7 _) [] [] sc0 (by decide +kernel)
def dn_7 : List AD := [(65, 2, [vD 1, vD 2])]
def cn_7 : Cn := ((14, [vR 0, vI 2], dn_7, 3), (some (vR 1), (dn_7 ++ [(65, 2, [vD 1, vD 2])]), []), (1, 1, 2, 14))
theorem ct_7 : CtH cn_7 := ctR 9 own_pl_7 rfl (own_okN_7 _) [] [] sc0 (by decide +kernel)
def dn_8 : List AD := [(64, 3, uS 0 3)]
def cn_8 : Cn := ((16, [vR 0, vI (-1)], dn_8, 1), (none, (own_ed dn_8 [(0, 64, 3, [vI (-1), vI (-1), vI (-1)])]), []), (0, 0, 0, 0))
theorem ct_8 : CtH cn_8 := ctR 37 own_pl_7 rfl (own_okN_7 _) [] [] sc0 (by decide +kernel)
def dn_9 : List AD := [(64, 2, [vU 0, vU 1])]
def cn_9 : Cn := ((16, [vR 0, vI (-1)], dn_9, 1), (none, (own_ed dn_9 [(0, 64, 2, [vI (-1), vI (-1)])]), []), (0, 0, 0, 0))
theorem ct_9 : CtH cn_9 := ctR 28 own_pl_7 rfl (own_okN_7 _) [] [] sc0 (by decide +kernel)
def dn_10 : List AD := [(4, 0, [vR 1, vR 2, vR 3, vR 4]), (64, 3, [vU 0, vU 1, vI (-1)]), (64, 2, [vU 2, vU 3]), (64, 2, [vU 4, vU 5]), (64, 2, [vU 6, vU 7])]
def cn_10 : Cn := ((17, [vR 0, vI 1, vI 2], dn_10, 1), (none, (own_ed dn_10 [(1, 64, 3, [vU 0, vU 1, vI 1]), (2, 64, 2, [vU 2, vI (-1)]), (3, 64, 2, [vU 4, vI (-1)]), (4, 64, 2, [vU 6, vI 2])]), []), (0, 0, 0, 0))
theorem ct_10 : CtH cn_10 := ctR 30 own_pl_2 rfl (own_okN_2 _) [] [] sc0 (by decide +kernel)
def dn_11 : List AD := [(4, 0, [vR 1, vR 2, vR 3, vR 4]), (64, 3, [vU 0, vU 1, vI 1]), (64, 2, [vU 2, vU 3]), (64, 2, [vU 4, vU 5]), (64, 2, [vU 6, vU 7])]
def cn_11 : Cn := ((17, [vR 0, vI 0, vI 2], dn_11, 1), (none, (own_ed dn_11 [(1, 64, 3, [vU 0, vU 1, vI 0]), (2, 64, 2, [vI 1, vU 3]), (3, 64, 2, [vI (-1), vI 0]), (4, 64, 2, [vI 2, vU 7])]), []), (0, 0, 0, 0))
theorem ct_11 : CtH cn_11 := ctR 38 own_pl_2 rfl (own_okN_2 _) [] [] sc0 (by decide +kernel)
def dn_12 : List AD := [(0, 0, uS 0 13 ++ [vI 2] ++ uS 13 15), (64, 2, [vI 2, vI 2]), (4, 0, [.null, .null, .null, .null])]
def cn_12 : Cn := ((15, [vR 2, vR 0, vR 1], dn_12, 1), (none, (own_ed dn_12 [(2, 4, 0, [vR 3, vR 4, vR 5, vR 6])] ++ [(64, 3, [vI (-1), vI (-1), vI 0]), (64, 2, [vI 1, vI (-1)]), (64, 2, [vI (-1), vI 0]), (64, 2, [vI 2, vI 2])]), []), (1, 4, 9, 15))
theorem ct_12 : CtH cn_12 := ctR 61 own_pl_2 rfl (own_okI_2) [(cn_8, [3], [0], [vI 0, vI 0, vI 0]), (cn_9, [6], [0], [vI 0, vI 0]), (cn_10, [2, 3, 4, 5, 6], [0], [vI (-1), vI (-1), vI 0, vI 0, vI 0, vI 0, vI (-1), vI (-1)]), (cn_11, [2, 3, 4, 5, 6], [0], [vI (-1), vI (-1), vI 0, vI (-1), vI 0, vI (-1), vI (-1), vI 2])] [] (scS ct_8 (scS ct_9 (scS ct_10 (scS ct_11 sc0)))) (by decide +kernel)
def dn_13 : List AD := [(67, 2, [vR 1, vR 2]), (64, 2, [vI 0, vI 1]), (64, 2, [vI 0, vI 1]), (68, 2, [vR 4, vR 5]), (65, 2, [vD 1, vD 2]), (65, 2, [vD 3, vD 4]), (0, 0, uS 0 13 ++ [vI 2] ++ uS 13 15), (3, 0, [vU 28] ++ rp 5 (.null) ++ [vU 29, vU 30, .null, vU 31, vU 32])]
def cn_13 : Cn := ((11, [vR 7, vR 6, vR 0, vR 3], dn_13, 5), (none, (own_ed dn_13 [(7, 3, 0, [vR 6, vR 8, vR 9, vR 10, vR 11, vR 16, vR 20, vR 25, vR 30, vU 31, vU 32])] ++ [(67, 2, [vR 12, vR 14]), (68, 2, [vR 13, vR 15]), (64, 2, [vI 2, vI 2]), (64, 2, [vI 2, vI 2]), (64, 2, [vI 0, vI 1]), (65, 2, [vD 1, vD 2]), (64, 2, [vI 0, vI 1]), (65, 2, [vD 3, vD 4]), (67, 2, [vR 17, vR 18]), (64, 2, [vI 0, vI 1]), (64, 2, [vI 0, vI 1]), (64, 2, [vI 2, vI 2]), (4, 0, [vR 21, vR 22, vR 23, vR 24]), (64, 3, [vI (-1), vI (-1), vI 0]), (64, 2, [vI 1, vI (-1)]), (64, 2, [vI (-1), vI 0]), (64, 2, [vI 2, vI 2]), (4, 0, [vR 26, vR 27, vR 28, vR 29]), (64, 3, [vI (-1), vI (-1), vI 0]), (64, 2, [vI 1, vI (-1)]), (64, 2, [vI (-1), vI 0]), (64, 2, [vI 2, vI 2]), (64, 2, [vI (-1), vI (-1)])]), []), (2, 23, 52, 32))
theorem ct_13 : CtH cn_13 := ctR 415 own_pl_1 rfl (own_okI_1) [(cn_5, [], [0], []), (cn_6, [1], [0], []), (cn_7, [4], [0, 1, 2], []), (cn_5, [], [0], []), (cn_6, [2], [0], []), (cn_7, [5], [0, 3, 4], []), (cn_5, [], [0], []), (cn_5, [], [0], []), (cn_12, [6, 10, 20], [0], uS 0 28), (cn_12, [6, 11, 25], [0], uS 0 28), (cn_9, [30], [0], [vI 0, vI 0])] [] (scS ct_5 (scS ct_6 (scS ct_7 (scS ct_5 (scS ct_6 (scS ct_7 (scS ct_5 (scS ct_5 (scS ct_12 (scS ct_12 (scS ct_9 sc0))))))))))) (by decide +kernel)
def dn_14 : List AD := [(4, 0, [vR 1] ++ uS 0 3), (64, 3, [vU 3, vI (-1), vU 4])]
def cn_14 : Cn := ((19, [vR 0, vI 1], dn_14, 1), (some (vI (-1)), (dn_14), []), (0, 0, 0, 0))
theorem ct_14 : CtH cn_14 := ctR 6 own_pl_2 rfl (own_okN_2 _) [] [] sc0 (by decide +kernel)
def dn_15 : List AD := [(4, 0, [vR 1] ++ uS 0 3), (64, 3, [vU 3, vU 4, vI 0])]
def cn_15 : Cn := ((19, [vR 0, vI 2], dn_15, 1), (some (vI 0), (dn_15), []), (0, 0, 0, 0))
theorem ct_15 : CtH cn_15 := ctR 6 own_pl_2 rfl (own_okN_2 _) [] [] sc0 (by decide +kernel)
def dn_16 : List AD := [(3, 0, [vU 0, vR 1] ++ uS 1 9), (67, 2, [vR 2, vU 10]), (64, 2, [vI 0, vU 11])]
def cn_16 : Cn := ((20, [vR 0, vI 0, vI 0], dn_16, 1), (some (vI 0), (dn_16), []), (0, 0, 0, 0))
theorem ct_16 : CtH cn_16 := ctR 13 own_pl_1 rfl (own_okN_1 _) [] [] sc0 (by decide +kernel)
def dn_17 : List AD := [(3, 0, [vU 0, vU 1, vR 1, vR 2] ++ uS 2 7), (68, 2, [vR 3, vU 9]), (64, 2, [vI 2, vU 10]), (65, 2, [vD 1, vD 2])]
def cn_17 : Cn := ((21, [vR 0, vI 0, vD 1], dn_17, 3), (some (vI 1), (dn_17), [(4, 1, 0, 0), (11, 3, 4472406533629990549, 1), (4, 1, 0, 0), (5, 0, 4, 0), (4, 2, 0, 0), (5, 5, 6, 0), (2, 4591870180066957722, 7, 0), (10, 3, 8, 1)]), (1, 0, 0, 17))
theorem ct_17 : CtH cn_17 := ctR 63 own_pl_1 rfl (own_okN_1 _) [] [1, 1] sc0 (by decide +kernel)
def dn_18 : List AD := [(4, 0, [vU 0, vR 1, vU 1, vU 2]), (64, 2, [vI 1, vU 3])]
def cn_18 : Cn := ((24, [vR 0, vI 0], dn_18, 1), (some (vI 1), (dn_18), []), (0, 0, 0, 0))
theorem ct_18 : CtH cn_18 := ctR 6 own_pl_2 rfl (own_okN_2 _) [] [] sc0 (by decide +kernel)
def dn_19 : List AD := [(4, 0, [vU 0, vR 1, vU 1, vU 2]), (64, 2, [vU 3, vI (-1)])]
def cn_19 : Cn := ((24, [vR 0, vI 1], dn_19, 1), (some (vI (-1)), (dn_19), []), (0, 0, 0, 0))
theorem ct_19 : CtH cn_19 := ctR 6 own_pl_2 rfl (own_okN_2 _) [] [] sc0 (by decide +kernel)
def dn_20 : List AD := [(0, 0, uS 0 13 ++ [vI 2] ++ uS 13 15), (3, 0, [vR 0, vR 2, vR 3, vR 4, vR 5, vR 9, vR 12, vR 15] ++ uS 28 3), (67, 2, [vR 6, vR 8]), (68, 2, [vR 7, vU 31]), (64, 2, [vI 2, vI 2]), (64, 2, [vI 2, vI 2]), (64, 2, [vI 0, vI 1]), (65, 2, [vD 1, vD 2]), (64, 2, [vI 0, vI 1]), (67, 2, [vR 10, vR 11]), (64, 2, [vI 0, vI 1]), (64, 2, [vI 0, vI 1]), (4, 0, [vR 13, vR 14, vU 32, vU 33]), (64, 3, [vU 34, vI (-1), vI 0]), (64, 2, [vI 1, vI (-1)]), (4, 0, [vR 16, vR 17, vU 35, vU 36]), (64, 3, [vU 37, vI (-1), vI 0]), (64, 2, [vI 1, vI (-1)])]
def cn_20 : Cn := ((18, [vR 1], dn_20, 3), (some (.long 0), (dn_20), [(4, 1, 0, 0), (11, 3, 4472406533629990549, 1), (4, 1, 0, 0), (5, 0, 4, 0), (4, 2, 0, 0), (5, 5, 6, 0), (2, 4591870180066957722, 7, 0), (10, 3, 8, 1)]), (2, 0, 0, 37))
theorem ct_20 : CtH cn_20 := ctR 455 own_pl_1 rfl (own_okN_1 _) [(cn_14, [15, 16], [0], [vR 17] ++ uS 35 3 ++ [vI 0]), (cn_14, [12, 13], [0], [vR 14] ++ uS 32 3 ++ [vI 0]), (cn_15, [15, 16], [0], [vR 17] ++ uS 35 3 ++ [vI (-1)]), (cn_16, [1, 2, 6], [0], [vR 0, vR 3, vR 4, vR 5, vR 9, vR 12, vR 15] ++ uS 28 3 ++ [vR 8, vI 1]), (cn_17, [1, 3, 4, 7], [0, 1, 2], [vR 0, vR 2, vR 5, vR 9, vR 12, vR 15] ++ uS 28 4 ++ [vI 2]), (cn_18, [15, 17], [0], [vR 16, vU 35, vU 36, vI (-1)]), (cn_19, [15, 17], [0], [vR 16, vU 35, vU 36, vI 1]), (cn_15, [12, 13], [0], [vR 14] ++ uS 32 3 ++ [vI (-1)]), (cn_18, [12, 14], [0], [vR 13, vU 32, vU 33, vI (-1)]), (cn_19, [12, 14], [0], [vR 13, vU 32, vU 33, vI 1])] [] (scS ct_14 (scS ct_14 (scS ct_15 (scS ct_16 (scS ct_17 (scS ct_18 (scS ct_19 (scS ct_15 (scS ct_18 (scS ct_19 sc0)))))))))) (by decide +kernel)
def dn_21 : List AD := [(3, 0, [vU 0, vR 1, vR 2, vR 3] ++ uS 1 7), (67, 2, [vR 4, vU 8]), (68, 2, [vR 5, vU 9]), (64, 2, [vI 2, vU 10]), (64, 2, [vU 11, vI 1]), (65, 2, [vU 12, vD 1])]
def cn_21 : Cn := ((26, [vR 0, vI 0, vI 0], dn_21, 2), (none, (own_ed dn_21 [(3, 64, 2, [vI 1, vU 10]), (4, 64, 2, [vI 1, vI 1]), (5, 65, 2, [vD 1, vD 1])]), []), (0, 0, 0, 0))
theorem ct_21 : CtH cn_21 := ctR 36 own_pl_1 rfl (own_okN_1 _) [] [] sc0 (by decide +kernel)
def dn_22 : List AD := []
def cn_22 : Cn := ((12, [vI 0, vI 2], dn_22, 1), (some (vI 2), (dn_22), []), (0, 0, 0, 0))
theorem ct_22 : CtH cn_22 := ctR 6 own_pl_6_12 rfl (own_okN_6 _) [] [] sc0 (by decide +kernel)
def dn_23 : List AD := []
def cn_23 : Cn := ((28, [vI 0, vI 2], dn_23, 1), (some (vI 0), (dn_23), []), (0, 0, 0, 0))
theorem ct_23 : CtH cn_23 := ctR 7 own_pl_6_28 rfl (own_okN_6 _) [] [] sc0 (by decide +kernel)
def dn_24 : List AD := [(64, 0, [])]
def cn_24 : Cn := ((13, [vR 0, vI 2], dn_24, 1), (some (vR 1), (dn_24 ++ [(64, 2, [vI 0, vI 0])]), []), (1, 1, 2, 40))
theorem ct_24 : CtH cn_24 := ctR 19 own_pl_7 rfl (own_okN_7 _) [(cn_23, [], [0], [])] [] (scS ct_23 sc0) (by decide +kernel)
def dn_25 : List AD := [(65, 0, [])]
def cn_25 : Cn := ((14, [vR 0, vI 2], dn_25, 1), (some (vR 1), (dn_25 ++ [(65, 2, [vD 0, vD 0])]), []), (1, 1, 2, 40))
theorem ct_25 : CtH cn_25 := ctR 19 own_pl_7 rfl (own_okN_7 _) [(cn_23, [], [0], [])] [] (scS ct_23 sc0) (by decide +kernel)
def dn_26 : List AD := [(0, 0, [vR 1, vR 2] ++ uS 0 11 ++ [vI 2] ++ uS 11 15), (64, 0, []), (65, 0, []), (3, 0, [vR 0] ++ uS 26 8 ++ [vI 0, vU 34])]
def cn_26 : Cn := ((27, [vR 3, vI 1, vD 1], dn_26, 2), (none, (own_ed dn_26 [(0, 0, 0, [vR 4, vR 5] ++ uS 0 11 ++ [vI 2] ++ uS 11 15), (3, 3, 0, [vR 0] ++ uS 26 8 ++ [vI 1, vU 34])] ++ [(64, 2, [vI 1, vI 0]), (65, 2, [vD 1, vD 0])]), []), (2, 2, 4, 55))
theorem ct_26 : CtH cn_26 := ctR 54 own_pl_1 rfl (own_okN_1 _) [(cn_22, [], [0], []), (cn_24, [1], [0], []), (cn_25, [2], [0], [])] [] (scS ct_22 (scS ct_24 (scS ct_25 sc0))) (by decide +kernel)
def dn_27 : List AD := [(4, 0, [vR 1, vR 2, vR 3, vR 4]), (64, 3, uS 0 3), (64, 2, [vI 1, vU 3]), (64, 2, [vI (-1), vU 4]), (64, 2, [vI 2, vU 5])]
def cn_27 : Cn := ((29, [vR 0, vI 0], dn_27, 1), (none, (own_ed dn_27 [(1, 64, 3, [vU 0, vU 1, vI 1]), (3, 64, 2, [vI (-1), vI (-1)]), (4, 64, 2, [vI (-1), vU 5])]), []), (0, 0, 0, 0))
theorem ct_27 : CtH cn_27 := ctR 39 own_pl_2 rfl (own_okN_2 _) [] [] sc0 (by decide +kernel)
def dn_28 : List AD := [(3, 0, uS 0 4 ++ [vR 1, vR 2] ++ uS 4 5), (64, 2, [vU 9, vI 2]), (67, 2, [vU 10, vR 3]), (64, 2, [vI 0, vI 1])]
def cn_28 : Cn := ((30, [vR 0, vI 1, vI 0], dn_28, 1), (none, (own_ed dn_28 [(1, 64, 2, [vU 9, vI 1]), (3, 64, 2, [vI 1, vI 1])]), []), (0, 0, 0, 0))
theorem ct_28 : CtH cn_28 := ctR 32 own_pl_1 rfl (own_okN_1 _) [] [] sc0 (by decide +kernel)
def dn_29 : List AD := [(4, 0, [vR 1, vR 2, vR 3, vR 4]), (64, 3, uS 0 3), (64, 2, [vU 3, vI (-1)]), (64, 2, [vU 4, vI (-1)]), (64, 2, [vU 5, vI 2])]
def cn_29 : Cn := ((29, [vR 0, vI 1], dn_29, 1), (none, (own_ed dn_29 [(1, 64, 3, [vU 0, vU 1, vI (-1)]), (4, 64, 2, [vU 5, vI (-1)])]), []), (0, 0, 0, 0))
theorem ct_29 : CtH cn_29 := ctR 28 own_pl_2 rfl (own_okN_2 _) [] [] sc0 (by decide +kernel)
def dn_30 : List AD := [(4, 0, [vR 1, vR 2, vR 3, vR 4]), (64, 3, [vU 0, vI (-1), vU 1]), (64, 2, [vU 2, vU 3]), (64, 2, [vU 4, vU 5]), (64, 2, [vU 6, vU 7])]
def cn_30 : Cn := ((17, [vR 0, vI 1, vI 1], dn_30, 1), (none, (own_ed dn_30 [(1, 64, 3, [vU 0, vI 1, vU 1]), (2, 64, 2, [vU 2, vI (-1)]), (3, 64, 2, [vU 4, vI (-1)]), (4, 64, 2, [vU 6, vI 1])]), []), (0, 0, 0, 0))
theorem ct_30 : CtH cn_30 := ctR 30 own_pl_2 rfl (own_okN_2 _) [] [] sc0 (by decide +kernel)
def dn_31 : List AD := [(4, 0, [vR 1, vR 2, vR 3, vR 4]), (64, 3, [vU 0, vI (-1), vU 1]), (64, 2, [vU 2, vI (-1)]), (64, 2, [vU 3, vI (-1)]), (64, 2, [vU 4, vI 2])]
def cn_31 : Cn := ((31, [vR 0, vI 1, vI 1], dn_31, 1), (none, (own_ed dn_31 [(1, 64, 3, [vU 0, vI 1, vI (-1)]), (4, 64, 2, [vU 4, vI 1])]), []), (1, 0, 0, 14))
theorem ct_31 : CtH cn_31 := ctR 20 own_pl_2 rfl (own_okN_2 _) [(cn_29, [0, 1, 2, 3, 4], [0], [vU 0, vI (-1)] ++ uS 1 4), (cn_30, [0, 1, 2, 3, 4], [0], [vU 0, vI (-1), vU 2, vI (-1), vU 3, vI (-1), vU 4, vI (-1)])] [] (scS ct_29 (scS ct_30 sc0)) (by decide +kernel)
def dn_32 : List AD := [(3, 0, [vU 0, vR 1] ++ uS 1 9), (67, 2, [vU 10, vR 2]), (64, 2, [vI 0, vU 11])]
def cn_32 : Cn := ((20, [vR 0, vI 1, vI 0], dn_32, 1), (some (vI 0), (dn_32), []), (0, 0, 0, 0))
theorem ct_32 : CtH cn_32 := ctR 13 own_pl_1 rfl (own_okN_1 _) [] [] sc0 (by decide +kernel)
def dn_33 : List AD := [(3, 0, [vU 0, vR 1, vR 2, vR 3] ++ uS 1 7), (67, 2, [vU 8, vR 4]), (68, 2, [vU 9, vR 5]), (64, 2, [vU 10, vI 2]), (64, 2, [vU 11, vI 1]), (65, 2, [vU 12, vD 1])]
def cn_33 : Cn := ((26, [vR 0, vI 1, vI 0], dn_33, 2), (none, (own_ed dn_33 [(3, 64, 2, [vU 10, vI 1]), (4, 64, 2, [vI 1, vI 1]), (5, 65, 2, [vD 1, vD 1])]), []), (0, 0, 0, 0))
theorem ct_33 : CtH cn_33 := ctR 36 own_pl_1 rfl (own_okN_1 _) [] [] sc0 (by decide +kernel)
def dn_34 : List AD := [(0, 0, [vU 0, vU 1, vR 1, vR 2] ++ uS 2 9 ++ [vI 2] ++ uS 11 15), (64, 0, []), (65, 0, []), (3, 0, [vR 0] ++ uS 26 9 ++ [vI 0])]
def cn_34 : Cn := ((40, [vR 3, vI 1, vD 1], dn_34, 2), (none, (own_ed dn_34 [(0, 0, 0, [vU 0, vU 1, vR 4, vR 5] ++ uS 2 9 ++ [vI 2] ++ uS 11 15), (3, 3, 0, [vR 0] ++ uS 26 9 ++ [vI 1])] ++ [(64, 2, [vI 1, vI 0]), (65, 2, [vD 1, vD 0])]), []), (2, 2, 4, 55))
theorem ct_34 : CtH cn_34 := ctR 54 own_pl_1 rfl (own_okN_1 _) [(cn_22, [], [0], []), (cn_24, [1], [0], []), (cn_25, [2], [0], [])] [] (scS ct_22 (scS ct_24 (scS ct_25 sc0))) (by decide +kernel)
def dn_35 : List AD := [(4, 0, uS 0 3 ++ [vR 1]), (64, 2, [vU 3, vI 1])]
def cn_35 : Cn := ((31, [vR 0, vI 1, vI 1], dn_35, 1), (none, (dn_35), []), (0, 0, 0, 0))
theorem ct_35 : CtH cn_35 := ctR 13 own_pl_2 rfl (own_okN_2 _) [] [] sc0 (by decide +kernel)
def dn_36 : List AD := [(3, 0, [vU 0, vR 1, vR 2, vR 3, vR 4, vU 1, vU 2, vR 9, vR 11, vU 3, vU 4]), (67, 2, [vR 5, vR 7]), (68, 2, [vR 6, vR 8]), (64, 2, [vI 1, vI 1]), (64, 2, [vU 5, vI 1]), (64, 2, [vI 1, vU 6]), (65, 2, [vD 2, vU 7]), (64, 2, [vI 1, vU 8]), (65, 2, [vD 3, vU 9]), (4, 0, uS 10 3 ++ [vR 10]), (64, 2, [vU 13, vI 1]), (64, 2, [vU 14, vI (-1)])]
def cn_36 : Cn := ((41, [vR 0, vI 1, vI 0, vD 1], dn_36, 4), (none, (own_ed dn_36 [(8, 65, 2, [vD 5, vU 9])]), [(2, 1, 2, 0), (1, 3, 4, 0), (4, 5, 0, 0), (4, 3, 0, 0), (4, 4, 0, 0), (5, 7, 8, 0), (2, 4397347889687374747, 9, 0), (11, 6, 10, 1)]), (1, 0, 0, 21))
theorem ct_36 : CtH cn_36 := ctR 130 own_pl_1 rfl (own_okN_1 _) [(cn_35, [9, 10], [0], uS 10 4)] [1] (scS ct_35 sc0) (by decide +kernel)
def dn_37 : List AD := [(0, 0, [vR 1, vR 2, vR 3, vR 4] ++ uS 0 9 ++ [vI 2, vR 5, vR 6, vR 7, vR 8, vR 9, vU 9, vU 10, vR 10, vR 11] ++ uS 11 6), (64, 0, []), (65, 0, []), (64, 0, []), (65, 0, []), (64, 2, [vU 17, vU 18]), (64, 2, [vU 19, vU 20]), (65, 2, [vU 21, vU 22]), (64, 3, uS 23 3), (64, 3, uS 26 3), (64, 2, [vU 29, vU 30]), (64, 2, [vU 31, vU 32]), (3, 0, [vR 0, vR 13, vR 14, vR 15, vR 16, vR 21, vR 24, vR 29, vR 34, vI 0, vI 0]), (67, 2, [vR 17, vR 19]), (68, 2, [vR 18, vR 20]), (64, 2, [vI 2, vI 2]), (64, 2, [vI 2, vI 2]), (64, 2, [vI 0, vI 1]), (65, 2, [vD 1, vD 2]), (64, 2, [vI 0, vI 1]), (65, 2, [vD 3, vD 4]), (67, 2, [vR 22, vR 23]), (64, 2, [vI 0, vI 1]), (64, 2, [vI 0, vI 1]), (4, 0, [vR 25, vR 26, vR 27, vR 28]), (64, 3, [vU 33, vI (-1), vU 34]), (64, 2, [vI 1, vI (-1)]), (64, 2, [vI (-1), vI 0]), (64, 2, [vI 2, vI 2]), (4, 0, [vR 30, vR 31, vR 32, vR 33]), (64, 3, [vU 35, vI (-1), vU 36]), (64, 2, [vI 1, vI (-1)]), (64, 2, [vI (-1), vI 0]), (64, 2, [vI 2, vI 2]), (64, 2, [vU 37, vI (-1)])]
def cn_37 : Cn := ((25, [vR 12, vI 0, vI 0, vI 0], dn_37, 5), (none, (own_ed dn_37 [(0, 0, 0, [vR 35, vR 36, vR 37, vR 38] ++ uS 0 9 ++ [vI 2, vR 5, vR 6, vR 7, vR 8, vR 9, vU 9, vU 10, vR 10, vR 11] ++ uS 11 6), (5, 64, 2, [vI 0, vU 18]), (6, 64, 2, [vI 0, vU 20]), (7, 65, 2, [vD 1, vU 22]), (8, 64, 3, [vI 0, vI 1, vU 25]), (9, 64, 3, [vI 0, vI 1, vU 28]), (10, 64, 2, [vI 0, vU 30]), (11, 64, 2, [vI 0, vU 32]), (12, 3, 0, [vR 0, vR 13, vR 14, vR 15, vR 16, vR 21, vR 24, vR 29, vR 34, vI 1, vI 1]), (15, 64, 2, [vI 1, vI 1]), (16, 64, 2, [vI 0, vI 1]), (17, 64, 2, [vI 1, vI 1]), (18, 65, 2, [vD 2, vD 2]), (19, 64, 2, [vI 1, vI 1]), (20, 65, 2, [vD 7, vD 4]), (23, 64, 2, [vI 1, vI 1]), (25, 64, 3, [vU 33, vI 1, vI (-1)]), (27, 64, 2, [vI (-1), vI (-1)]), (28, 64, 2, [vI (-1), vI 1]), (30, 64, 3, [vU 35, vI 1, vI (-1)]), (32, 64, 2, [vI (-1), vI (-1)]), (33, 64, 2, [vI (-1), vI 1])] ++ [(64, 2, [vI 1, vI 0]), (65, 2, [vD 2, vD 0]), (64, 2, [vI 1, vI 0]), (65, 2, [vD 5, vD 0])]), [(3, 3, 1, 0), (2, 5, 2, 0), (1, 4, 6, 0), (4, 7, 0, 0), (4, 4, 0, 0), (4, 6, 0, 0), (5, 9, 10, 0), (2, 4397347889687374747, 11, 0), (11, 8, 12, 1)]), (3, 4, 8, 70))
theorem ct_37 : CtH cn_37 := ctR 238 own_pl_1 rfl (own_okN_1 _) [(cn_16, [12, 13, 17], [0], [vR 0, vR 14, vR 15, vR 16, vR 21, vR 24, vR 29, vR 34, vI 0, vI 0, vR 19, vI 1]), (cn_21, [12, 13, 14, 15, 17, 18], [0, 2], [vR 0, vR 16, vR 21, vR 24, vR 29, vR 34, vI 0, vI 0, vR 19, vR 20, vI 2, vI 0, vD 1]), (cn_26, [0, 1, 2, 12], [0, 2], [vR 3, vR 4] ++ uS 0 9 ++ [vR 5, vR 6, vR 7, vR 8, vR 9, vU 9, vU 10, vR 10, vR 11] ++ uS 11 6 ++ [vR 13, vR 14, vR 15, vR 16, vR 21, vR 24, vR 29, vR 34, vI 0]), (cn_27, [24, 25, 26, 27, 28], [0], [vU 33, vI (-1), vU 34, vI (-1), vI 0, vI 2]), (cn_27, [29, 30, 31, 32, 33], [0], [vU 35, vI (-1), vU 36, vI (-1), vI 0, vI 2]), (cn_28, [12, 16, 21, 23], [0], [vR 0, vR 13, vR 14, vR 15, vR 24, vR 29, vR 34, vI 1, vI 0, vI 2, vR 22]), (cn_31, [29, 30, 31, 32, 33], [0], [vU 35, vI 1, vI 1, vI (-1), vI (-1)]), (cn_32, [12, 13, 19], [0], [vR 0, vR 14, vR 15, vR 16, vR 21, vR 24, vR 29, vR 34, vI 1, vI 0, vR 17, vI 1]), (cn_33, [12, 13, 14, 15, 19, 20], [0, 4], [vR 0, vR 16, vR 21, vR 24, vR 29, vR 34, vI 1, vI 0, vR 17, vR 18, vI 1, vI 0, vD 3]), (cn_34, [0, 3, 4, 12], [0, 5], [vR 35, vR 36] ++ uS 0 9 ++ [vR 5, vR 6, vR 7, vR 8, vR 9, vU 9, vU 10, vR 10, vR 11] ++ uS 11 6 ++ [vR 13, vR 14, vR 15, vR 16, vR 21, vR 24, vR 29, vR 34, vI 1]), (cn_36, [12, 13, 14, 15, 16, 17, 18, 19, 20, 29, 33, 34], [0, 5, 2, 4], [vR 0, vR 21, vR 24, vI 1, vI 1, vI 2, vI 1, vD 2, vI 1, vD 4, vR 30, vR 31, vR 32, vI (-1), vU 37]), (cn_31, [24, 25, 26, 27, 28], [0], [vU 33, vI 1, vI 1, vI (-1), vI (-1)])] [] (scS ct_16 (scS ct_21 (scS ct_26 (scS ct_27 (scS ct_27 (scS ct_28 (scS ct_31 (scS ct_32 (scS ct_33 (scS ct_34 (scS ct_36 (scS ct_31 sc0)))))))))))) (by decide +kernel)
def dn_38 : List AD := [(4, 0, [vR 1] ++ uS 0 3), (64, 3, [vU 3, vI 1, vU 4])]
def cn_38 : Cn := ((19, [vR 0, vI 1], dn_38, 1), (some (vI 1), (dn_38), []), (0, 0, 0, 0))
theorem ct_38 : CtH cn_38 := ctR 6 own_pl_2 rfl (own_okN_2 _) [] [] sc0 (by decide +kernel)
def dn_39 : List AD := [(3, 0, [vU 0, vR 1] ++ uS 1 9), (67, 2, [vU 10, vR 2]), (64, 2, [vI 1, vU 11])]
def cn_39 : Cn := ((20, [vR 0, vI 1, vI 1], dn_39, 1), (some (vI 0), (dn_39), []), (0, 0, 0, 0))
theorem ct_39 : CtH cn_39 := ctR 13 own_pl_1 rfl (own_okN_1 _) [] [] sc0 (by decide +kernel)
def dn_40 : List AD := [(3, 0, [vU 0, vU 1, vR 1, vR 2] ++ uS 2 7), (68, 2, [vU 9, vR 3]), (64, 2, [vU 10, vI 1]), (65, 2, [vD 1, vU 11])]
def cn_40 : Cn := ((21, [vR 0, vI 1, vD 1], dn_40, 2), (some (vI 1), (dn_40), [(4, 1, 0, 0), (11, 2, 4472406533629990549, 1), (4, 1, 0, 0), (5, 0, 3, 0), (2, 4591870180066957722, 4, 0), (10, 2, 5, 1)]), (1, 0, 0, 17))
theorem ct_40 : CtH cn_40 := ctR 45 own_pl_1 rfl (own_okN_1 _) [] [1, 1] sc0 (by decide +kernel)
def dn_41 : List AD := [(0, 0, uS 0 13 ++ [vI 2] ++ uS 13 15), (3, 0, [vR 0, vR 2, vR 3, vR 4, vR 5, vR 8, vR 10, vR 12] ++ uS 28 3), (67, 2, [vU 31, vR 6]), (68, 2, [vU 32, vR 7]), (64, 2, [vU 33, vI 1]), (64, 2, [vU 34, vI 1]), (64, 2, [vI 1, vU 35]), (65, 2, [vD 1, vU 36]), (67, 2, [vU 37, vR 9]), (64, 2, [vI 1, vU 38]), (4, 0, [vR 11] ++ uS 39 3), (64, 3, [vU 42, vI 1, vU 43]), (4, 0, [vR 13, vR 14, vU 44, vU 45]), (64, 3, [vU 46, vI 1, vU 47]), (64, 2, [vU 48, vI (-1)])]
def cn_41 : Cn := ((18, [vR 1], dn_41, 2), (some (.long 4294967297), (dn_41), [(4, 1, 0, 0), (11, 2, 4472406533629990549, 1), (4, 1, 0, 0), (5, 0, 3, 0), (2, 4591870180066957722, 4, 0), (10, 2, 5, 1)]), (2, 0, 0, 37))
theorem ct_41 : CtH cn_41 := ctR 139 own_pl_1 rfl (own_okN_1 _) [(cn_38, [12, 13], [0], [vR 14] ++ uS 44 4), (cn_39, [1, 2, 6], [0], [vR 0, vR 3, vR 4, vR 5, vR 8, vR 10, vR 12] ++ uS 28 4 ++ [vU 35]), (cn_40, [1, 3, 4, 7], [0, 1], [vR 0, vR 2, vR 5, vR 8, vR 10, vR 12] ++ uS 28 3 ++ [vU 32, vU 33, vU 36]), (cn_19, [12, 14], [0], [vR 13, vU 44, vU 45, vU 48]), (cn_38, [10, 11], [0], uS 39 5)] [] (scS ct_38 (scS ct_39 (scS ct_40 (scS ct_19 (scS ct_38 sc0))))) (by decide +kernel)
def dn_42 : List AD := [(3, 0, [vU 0, vR 1, vR 2, vR 3] ++ uS 1 7), (67, 2, [vU 8, vR 4]), (68, 2, [vU 9, vR 5]), (64, 2, [vU 10, vI 1]), (64, 2, [vI 1, vU 11]), (65, 2, [vD 1, vU 12])]
def cn_42 : Cn := ((26, [vR 0, vI 1, vI 0], dn_42, 2), (none, (own_ed dn_42 [(3, 64, 2, [vU 10, vI 0])]), []), (0, 0, 0, 0))
theorem ct_42 : CtH cn_42 := ctR 36 own_pl_1 rfl (own_okN_1 _) [] [] sc0 (by decide +kernel)
def dn_43 : List AD := [(4, 0, [vR 1, vR 2, vR 3, vR 4]), (64, 3, uS 0 3), (64, 2, [vU 3, vI (-1)]), (64, 2, [vU 4, vI (-1)]), (64, 2, [vU 5, vI 1])]
def cn_43 : Cn := ((29, [vR 0, vI 1], dn_43, 1), (none, (own_ed dn_43 [(1, 64, 3, [vU 0, vI (-1), vU 2]), (4, 64, 2, [vU 5, vI (-1)])]), []), (0, 0, 0, 0))
theorem ct_43 : CtH cn_43 := ctR 28 own_pl_2 rfl (own_okN_2 _) [] [] sc0 (by decide +kernel)
def dn_44 : List AD := [(0, 0, uS 0 14 ++ [vR 1, vR 2, vR 3, vR 4, vR 5, vU 14, vU 15, vR 6, vR 7] ++ uS 16 6), (64, 2, [vU 22, vU 23]), (64, 2, [vU 24, vU 25]), (65, 2, [vU 26, vU 27]), (64, 3, uS 28 3), (64, 3, uS 31 3), (64, 2, [vU 34, vU 35]), (64, 2, [vU 36, vU 37]), (3, 0, [vR 0, vR 9, vR 10, vR 11, vR 12, vR 15, vR 17, vR 22, vU 38, vI 1, vI 1]), (67, 2, [vU 39, vR 13]), (68, 2, [vU 40, vR 14]), (64, 2, [vU 41, vI 1]), (64, 2, [vU 42, vI 1]), (64, 2, [vI 1, vU 43]), (65, 2, [vD 1, vU 44]), (67, 2, [vU 45, vR 16]), (64, 2, [vI 1, vU 46]), (4, 0, [vR 18, vR 19, vR 20, vR 21]), (64, 3, uS 47 3), (64, 2, [vU 50, vI (-1)]), (64, 2, [vU 51, vI (-1)]), (64, 2, [vU 52, vI 1]), (4, 0, [vR 23, vR 24, vR 25, vR 26]), (64, 3, uS 53 3), (64, 2, [vU 56, vI (-1)]), (64, 2, [vU 57, vI (-1)]), (64, 2, [vU 58, vI 1])]
def cn_44 : Cn := ((25, [vR 8, vI 1, vI 1, vI 1], dn_44, 2), (none, (own_ed dn_44 [(1, 64, 2, [vU 22, vI 1]), (2, 64, 2, [vU 24, vI 1]), (3, 65, 2, [vU 26, vD 1]), (4, 64, 3, [vU 28, vI 1, vI 1]), (5, 64, 3, [vU 31, vI 1, vI 1]), (6, 64, 2, [vU 34, vI 1]), (7, 64, 2, [vU 36, vI 1]), (11, 64, 2, [vU 41, vI 0]), (12, 64, 2, [vU 42, vI 0]), (18, 64, 3, [vU 47, vI (-1), vU 49]), (21, 64, 2, [vU 52, vI (-1)]), (23, 64, 3, [vU 53, vI (-1), vU 55]), (26, 64, 2, [vU 58, vI (-1)])]), []), (1, 0, 0, 15))
theorem ct_44 : CtH cn_44 := ctR 136 own_pl_1 rfl (own_okN_1 _) [(cn_39, [8, 9, 13], [0], [vR 0, vR 10, vR 11, vR 12, vR 15, vR 17, vR 22, vU 38, vI 1, vI 1, vU 39, vU 43]), (cn_42, [8, 9, 10, 11, 13, 14], [0, 1], [vR 0, vR 12, vR 15, vR 17, vR 22, vU 38, vI 1, vI 1] ++ uS 39 3 ++ [vU 43, vU 44]), (cn_43, [17, 18, 19, 20, 21], [0], uS 47 6), (cn_43, [22, 23, 24, 25, 26], [0], uS 53 6)] [] (scS ct_39 (scS ct_42 (scS ct_43 (scS ct_43 sc0)))) (by decide +kernel)
def dn_45 : List AD := [(64, 3, uS 0 3)]
def cn_45 : Cn := ((16, [vR 0, vI 0], dn_45, 1), (none, (own_ed dn_45 [(0, 64, 3, [vI 0, vI 0, vI 0])]), []), (0, 0, 0, 0))
theorem ct_45 : CtH cn_45 := ctR 37 own_pl_7 rfl (own_okN_7 _) [] [] sc0 (by decide +kernel)
def dn_46 : List AD := []
def cn_46 : Cn := ((28, [vI 3, vI 2], dn_46, 1), (some (vI 2), (dn_46), []), (0, 0, 0, 0))
theorem ct_46 : CtH cn_46 := ctR 6 own_pl_6_28 rfl (own_okN_6 _) [] [] sc0 (by decide +kernel)
def dn_47 : List AD := [(64, 3, [vI 0, vI 0, vU 0])]
def cn_47 : Cn := ((13, [vR 0, vI 2], dn_47, 1), (some (vR 1), (dn_47 ++ [(64, 2, [vI 0, vI 0])]), []), (1, 1, 2, 40))
theorem ct_47 : CtH cn_47 := ctR 19 own_pl_7 rfl (own_okN_7 _) [(cn_46, [], [0], [])] [] (scS ct_46 sc0) (by decide +kernel)
def dn_48 : List AD := [(0, 0, [vR 9, vR 10, vR 11, vR 12, vR 1, vR 2, vR 3, vR 4] ++ uS 0 5 ++ [vI 2] ++ uS 5 3 ++ [vR 5, vR 6, vR 7, vR 8] ++ uS 8 8), (64, 0, []), (65, 0, []), (64, 0, []), (65, 0, []), (64, 3, [vI 0, vI 1, vI 1]), (64, 3, [vI 0, vI 1, vI 1]), (64, 3, [vI 0, vI 0, vI 0]), (64, 3, [vI 0, vI 0, vI 0]), (64, 2, [vI 1, vU 16]), (65, 2, [vD 1, vU 17]), (64, 2, [vI 1, vU 18]), (65, 2, [vD 2, vU 19])]
def cn_48 : Cn := ((32, [vR 0], dn_48, 3), (none, (own_ed dn_48 [(0, 0, 0, [vR 9, vR 10, vR 11, vR 12, vR 13, vR 14, vR 15, vR 16] ++ uS 0 5 ++ [vI 2] ++ uS 5 3 ++ [vR 5, vR 6, vR 7, vR 8] ++ uS 8 8), (7, 64, 3, [vI 0, vI 0, vI 1]), (8, 64, 3, [vI 0, vI 0, vI 1])] ++ [(64, 2, [vI 0, vI 0]), (65, 2, [vD 1, vD 0]), (64, 2, [vI 0, vI 0]), (65, 2, [vD 2, vD 0]), (64, 2, [vI 0, vI 1]), (64, 2, [vI 0, vI 1])]), []), (2, 6, 12, 54))
theorem ct_48 : CtH cn_48 := ctR 324 own_pl_0 rfl (own_okN_0 _) [(cn_45, [7], [0], [vI 0, vI 0, vI 0]), (cn_45, [8], [0], [vI 0, vI 0, vI 0]), (cn_47, [7], [0], [vI 1]), (cn_47, [8], [0], [vI 1])] [] (scS ct_45 (scS ct_45 (scS ct_47 (scS ct_47 sc0)))) (by decide +kernel)
def dn_49 : List AD := [(67, 2, [vR 1, vR 2]), (64, 2, [vI 0, vI 1]), (64, 2, [vI 0, vI 1]), (68, 2, [vR 4, vR 5]), (65, 2, [vD 1, vD 2]), (65, 2, [vD 3, vD 4]), (0, 0, [vR 7, vR 8, vR 9, vR 10, vR 11, vR 12, vR 13, vR 14] ++ uS 0 5 ++ [vI 2, vR 15, vR 16, vR 17, vR 18, vR 19, vR 20, vR 21, vR 22, vR 23] ++ uS 5 6), (64, 0, []), (65, 0, []), (64, 0, []), (65, 0, []), (64, 0, []), (65, 0, []), (64, 0, []), (65, 0, []), (64, 2, [vU 11, vU 12]), (64, 2, [vU 13, vU 14]), (65, 2, [vU 15, vU 16]), (64, 3, [vI 0, vI 0, vI 0]), (64, 3, [vI 0, vI 0, vI 0]), (64, 3, [vI 0, vI 0, vI 0]), (64, 3, [vI 0, vI 0, vI 0]), (64, 2, [vU 17, vU 18]), (64, 2, [vU 19, vU 20])]
def cn_49 : Cn := ((10, [vR 6, vR 0, vR 3], dn_49, 5), (some (vI 1), (own_ed dn_49 [(6, 0, 0, [vR 48, vR 49, vR 50, vR 51, vR 52, vR 53, vR 54, vR 55] ++ uS 0 5 ++ [vI 2, vR 15, vR 16, vR 17, vR 18, vR 19, vR 20, vR 21, vR 22, vR 23] ++ uS 5 5 ++ [vI 0]), (15, 64, 2, [vI 0, vI 1]), (16, 64, 2, [vI 0, vI 1]), (17, 65, 2, [vD 1, vD 13]), (18, 64, 3, [vI 0, vI 1, vI 1]), (19, 64, 3, [vI 0, vI 1, vI 1]), (20, 64, 3, [vI 0, vI 0, vI 1]), (21, 64, 3, [vI 0, vI 0, vI 1]), (22, 64, 2, [vI 0, vI 1]), (23, 64, 2, [vI 0, vI 1])] ++ [(3, 0, [vR 6, vR 25, vR 26, vR 27, vR 28, vR 33, vR 37, vR 42, vR 47, vI 1, vI 1]), (67, 2, [vR 29, vR 31]), (68, 2, [vR 30, vR 32]), (64, 2, [vI 1, vI 0]), (64, 2, [vI 0, vI 0]), (64, 2, [vI 1, vI 1]), (65, 2, [vD 2, vD 2]), (64, 2, [vI 1, vI 1]), (65, 2, [vD 13, vD 4]), (67, 2, [vR 34, vR 35]), (64, 2, [vI 0, vI 1]), (64, 2, [vI 1, vI 1]), (64, 2, [vI 2, vI 2]), (4, 0, [vR 38, vR 39, vR 40, vR 41]), (64, 3, [vI (-1), vI (-1), vI (-1)]), (64, 2, [vI 1, vI (-1)]), (64, 2, [vI (-1), vI (-1)]), (64, 2, [vI (-1), vI (-1)]), (4, 0, [vR 43, vR 44, vR 45, vR 46]), (64, 3, [vI (-1), vI (-1), vI (-1)]), (64, 2, [vI 1, vI (-1)]), (64, 2, [vI (-1), vI (-1)]), (64, 2, [vI (-1), vI (-1)]), (64, 2, [vI (-1), vI (-1)]), (64, 2, [vI 1, vI 0]), (65, 2, [vD 2, vD 0]), (64, 2, [vI 1, vI 0]), (65, 2, [vD 11, vD 0]), (64, 2, [vI 0, vI 0]), (65, 2, [vD 2, vD 0]), (64, 2, [vI 0, vI 0]), (65, 2, [vD 11, vD 0]), (64, 2, [vI 0, vI 1]), (64, 2, [vI 0, vI 1])]), [(4, 1, 0, 0), (11, 5, 4472406533629990549, 1), (4, 1, 0, 0), (5, 0, 6, 0), (4, 2, 0, 0), (5, 7, 8, 0), (2, 4591870180066957722, 9, 0), (10, 5, 10, 1), (3, 3, 1, 0), (2, 11, 2, 0), (1, 4, 12, 0), (4, 13, 0, 0), (4, 4, 0, 0), (4, 12, 0, 0), (5, 15, 16, 0), (2, 4397347889687374747, 17, 0), (11, 14, 18, 1), (4, 13, 0, 0), (11, 19, 4472406533629990549, 1), (4, 13, 0, 0), (5, 0, 20, 0), (2, 4591870180066957722, 21, 0), (10, 19, 22, 1)]), (4, 34, 83, 93))
theorem ct_49 : CtH cn_49 := ctR 65 own_pl_0 rfl (own_okN_0 _) [(cn_13, [0, 1, 2, 3, 4, 5, 6, 24], [0, 1, 2, 3, 4], [vR 7, vR 8, vR 9, vR 10, vR 11, vR 12, vR 13, vR 14] ++ uS 0 5 ++ [vR 15, vR 16, vR 17, vR 18, vR 19, vR 20, vR 21, vR 22, vR 23] ++ uS 5 5 ++ [vI 0, .null, .null, .null, vI 0, vI 0]), (cn_20, [6, 24, 25, 26, 27, 28, 29, 30, 31, 33, 34, 35, 37, 38, 39, 42, 43, 44], [0, 1, 2], [vR 7, vR 8, vR 9, vR 10, vR 11, vR 12, vR 13, vR 14] ++ uS 0 5 ++ [vR 15, vR 16, vR 17, vR 18, vR 19, vR 20, vR 21, vR 22, vR 23] ++ uS 5 5 ++ [vI 0, vR 47, vI 0, vI 0, vR 32, vR 40, vR 41, vI (-1), vR 45, vR 46, vI (-1)]), (cn_37, [6, 7, 8, 9, 10, 15, 16, 17, 18, 19, 22, 23, 24, 25, 26, 27, 28, 29, 30, 31, 32, 33, 34, 35, 37, 38, 39, 40, 41, 42, 43, 44, 45, 46, 47], [0, 1, 2, 3, 4], [vR 11, vR 12, vR 13, vR 14] ++ uS 0 5 ++ [vR 20, vR 21] ++ uS 5 5 ++ [vI 0] ++ uS 11 6 ++ rp 6 (vI 0) ++ uS 17 4 ++ [vI (-1), vI 0, vI (-1), vI 0, vI (-1)]), (cn_41, [6, 24, 25, 26, 27, 28, 31, 32, 33, 35, 37, 38, 42, 43, 44], [0, 13], [vR 48, vR 49, vR 50, vR 51, vR 11, vR 12, vR 13, vR 14] ++ uS 0 5 ++ [vR 15, vR 16, vR 17, vR 18, vR 19, vR 20, vR 21, vR 22, vR 23] ++ uS 5 5 ++ [vI 0, vR 47, vI 1, vI 1, vR 29, vR 30, vI 1, vI 0, vI 1, vD 4, vR 34, vI 1, vR 39, vR 40, vR 41, vI (-1), vI (-1), vR 45, vR 46, vI (-1), vI (-1), vI 1]), (cn_44, [6, 15, 16, 17, 18, 19, 22, 23, 24, 25, 26, 27, 28, 31, 32, 33, 35, 37, 38, 39, 40, 41, 42, 43, 44, 45, 46], [0, 13], [vR 48, vR 49, vR 50, vR 51, vR 11, vR 12, vR 13, vR 14] ++ uS 0 5 ++ [vI 2, vR 20, vR 21] ++ uS 5 5 ++ [vI 0, vI 0, vU 12, vI 0, vU 14, vD 1, vU 16, vI 0, vI 1, vI 0, vI 0, vI 1, vI 0, vI 0, vU 18, vI 0, vU 20, vR 47, vR 29, vR 30, vI 1, vI 0, vI 1, vD 4, vR 34, vI 1, vI (-1), vI 1, vI (-1), vI 1, vI (-1), vI (-1), vI (-1), vI 1, vI (-1), vI 1, vI (-1), vI (-1)]), (cn_48, [6, 11, 12, 13, 14, 18, 19, 20, 21, 48, 49, 50, 51], [0, 2, 11], uS 0 5 ++ [vR 15, vR 16, vR 17, vR 22, vR 23] ++ uS 5 5 ++ [vI 0, vI 0, vD 0, vI 0, vD 0])] [] (scS ct_13 (scS ct_20 (scS ct_37 (scS ct_41 (scS ct_44 (scS ct_48 sc0)))))) (by decide +kernel)
def dn_50 : List AD := []
def cn_50 : Cn := ((2, [.float 1, .float 2], dn_50, 3), (some (vR 0), (dn_50 ++ [(64, 1, [vI 1])]), [(13, 1, 0, 0), (13, 1, 0, 0), (13, 2, 0, 1)]), (0, 1, 1, 0))
theorem ct_50 : CtH cn_50 := ctR 14 own_pl_4 rfl (own_okN_4 _) [] [0, 0, 1] sc0 (by decide +kernel)
def dn_51 : List AD := []
def cn_51 : Cn := ((3, [.float 1, .float 2], dn_51, 3), (some (vR 0), (dn_51 ++ [(65, 1, [vD 3])]), [(13, 1, 0, 0), (13, 1, 0, 0), (13, 2, 0, 1), (7, 2, 0, 0)]), (0, 1, 1, 0))
theorem ct_51 : CtH cn_51 := ctR 15 own_pl_4 rfl (own_okN_4 _) [] [0, 0, 1] sc0 (by decide +kernel)
def dn_52 : List AD := []
def cn_52 : Cn := ((12, [vI 1, vI 1], dn_52, 1), (some (vI 1), (dn_52), []), (0, 0, 0, 0))
theorem ct_52 : CtH cn_52 := ctR 7 own_pl_6_12 rfl (own_okN_6 _) [] [] sc0 (by decide +kernel)
def dn_53 : List AD := [(64, 1, [vI 1])]
def cn_53 : Cn := ((13, [vR 0, vI 1], dn_53, 1), (some (vR 1), (dn_53 ++ [(64, 1, [vI 1])]), []), (1, 1, 1, 14))
theorem ct_53 : CtH cn_53 := ctR 9 own_pl_7 rfl (own_okN_7 _) [] [] sc0 (by decide +kernel)
def dn_54 : List AD := [(65, 1, [vD 1])]
def cn_54 : Cn := ((14, [vR 0, vI 1], dn_54, 2), (some (vR 1), (dn_54 ++ [(65, 1, [vD 1])]), []), (1, 1, 1, 14))
theorem ct_54 : CtH cn_54 := ctR 9 own_pl_7 rfl (own_okN_7 _) [] [] sc0 (by decide +kernel)
def cn_55 : Cn := ((17, [vR 0, vI 0, vI 1], dn_30, 1), (none, (own_ed dn_30 [(1, 64, 3, [vU 0, vI 0, vU 1]), (2, 64, 2, [vI (-1), vU 3]), (3, 64, 2, [vI (-1), vU 5]), (4, 64, 2, [vI 1, vU 7])]), []), (0, 0, 0, 0))
theorem ct_55 : CtH cn_55 := ctR 30 own_pl_2 rfl (own_okN_2 _) [] [] sc0 (by decide +kernel)
def dn_56 : List AD := [(0, 0, uS 0 13 ++ [vI 2] ++ uS 13 15), (64, 2, [vI 1, vI 2]), (4, 0, [.null, .null, .null, .null])]
def cn_56 : Cn := ((15, [vR 2, vR 0, vR 1], dn_56, 1), (none, (own_ed dn_56 [(2, 4, 0, [vR 3, vR 4, vR 5, vR 6])] ++ [(64, 3, [vI (-1), vI 0, vI 1]), (64, 2, [vI (-1), vI (-1)]), (64, 2, [vI (-1), vI (-1)]), (64, 2, [vI 1, vI 2])]), []), (1, 4, 9, 15))
theorem ct_56 : CtH cn_56 := ctR 61 own_pl_2 rfl (own_okI_2) [(cn_8, [3], [0], [vI 0, vI 0, vI 0]), (cn_9, [6], [0], [vI 0, vI 0]), (cn_10, [2, 3, 4, 5, 6], [0], [vI (-1), vI (-1), vI 0, vI 0, vI 0, vI 0, vI (-1), vI (-1)]), (cn_55, [2, 3, 4, 5, 6], [0], [vI (-1), vI 1, vI 0, vI (-1), vI 0, vI (-1), vI (-1), vI 2])] [] (scS ct_8 (scS ct_9 (scS ct_10 (scS ct_55 sc0)))) (by decide +kernel)
def dn_57 : List AD := [(67, 2, [vR 1, vR 2]), (64, 1, [vI 1]), (64, 2, [vI 0, vI 1]), (68, 2, [vR 4, vR 5]), (65, 1, [vD 1]), (65, 2, [vD 2, vD 3]), (0, 0, uS 0 13 ++ [vI 2] ++ uS 13 15), (3, 0, [vU 28] ++ rp 5 (.null) ++ [vU 29, vU 30, .null, vU 31, vU 32])]
def cn_57 : Cn := ((11, [vR 7, vR 6, vR 0, vR 3], dn_57, 4), (none, (own_ed dn_57 [(7, 3, 0, [vR 6, vR 8, vR 9, vR 10, vR 11, vR 16, vR 20, vR 25, vR 30, vU 31, vU 32])] ++ [(67, 2, [vR 12, vR 14]), (68, 2, [vR 13, vR 15]), (64, 2, [vI 1, vI 2]), (64, 2, [vI 1, vI 2]), (64, 1, [vI 1]), (65, 1, [vD 1]), (64, 2, [vI 0, vI 1]), (65, 2, [vD 2, vD 3]), (67, 2, [vR 17, vR 18]), (64, 1, [vI 1]), (64, 2, [vI 0, vI 1]), (64, 2, [vI 1, vI 2]), (4, 0, [vR 21, vR 22, vR 23, vR 24]), (64, 3, [vI (-1), vI 0, vI 1]), (64, 2, [vI (-1), vI (-1)]), (64, 2, [vI (-1), vI (-1)]), (64, 2, [vI 1, vI 2]), (4, 0, [vR 26, vR 27, vR 28, vR 29]), (64, 3, [vI (-1), vI 0, vI 1]), (64, 2, [vI (-1), vI (-1)]), (64, 2, [vI (-1), vI (-1)]), (64, 2, [vI 1, vI 2]), (64, 2, [vI (-1), vI (-1)])]), []), (2, 23, 49, 32))
theorem ct_57 : CtH cn_57 := ctR 375 own_pl_1 rfl (own_okI_1) [(cn_52, [], [0], []), (cn_53, [1], [0], []), (cn_54, [4], [0, 1], []), (cn_5, [], [0], []), (cn_6, [2], [0], []), (cn_7, [5], [0, 2, 3], []), (cn_52, [], [0], []), (cn_5, [], [0], []), (cn_56, [6, 10, 20], [0], uS 0 28), (cn_56, [6, 11, 25], [0], uS 0 28), (cn_9, [30], [0], [vI 0, vI 0])] [] (scS ct_52 (scS ct_53 (scS ct_54 (scS ct_5 (scS ct_6 (scS ct_7 (scS ct_52 (scS ct_5 (scS ct_56 (scS ct_56 (scS ct_9 sc0))))))))))) (by decide +kernel)
def dn_58 : List AD := [(4, 0, [vR 1] ++ uS 0 3), (64, 3, [vU 3, vI 0, vU 4])]
def cn_58 : Cn := ((19, [vR 0, vI 1], dn_58, 1), (some (vI 0), (dn_58), []), (0, 0, 0, 0))
theorem ct_58 : CtH cn_58 := ctR 6 own_pl_2 rfl (own_okN_2 _) [] [] sc0 (by decide +kernel)
def dn_59 : List AD := [(3, 0, [vU 0, vU 1, vR 1, vR 2] ++ uS 2 7), (68, 2, [vU 9, vR 3]), (64, 2, [vU 10, vI 2]), (65, 2, [vD 1, vD 2])]
def cn_59 : Cn := ((21, [vR 0, vI 1, vD 1], dn_59, 3), (some (vI 1), (dn_59), [(4, 1, 0, 0), (11, 3, 4472406533629990549, 1), (4, 1, 0, 0), (5, 0, 4, 0), (4, 2, 0, 0), (5, 5, 6, 0), (2, 4591870180066957722, 7, 0), (10, 3, 8, 1)]), (1, 0, 0, 17))
theorem ct_59 : CtH cn_59 := ctR 63 own_pl_1 rfl (own_okN_1 _) [] [1, 1] sc0 (by decide +kernel)
def dn_60 : List AD := [(4, 0, [vU 0, vR 1, vU 1, vU 2]), (64, 2, [vI (-1), vU 3])]
def cn_60 : Cn := ((24, [vR 0, vI 0], dn_60, 1), (some (vI (-1)), (dn_60), []), (0, 0, 0, 0))
theorem ct_60 : CtH cn_60 := ctR 6 own_pl_2 rfl (own_okN_2 _) [] [] sc0 (by decide +kernel)
def dn_61 : List AD := [(0, 0, uS 0 13 ++ [vI 2] ++ uS 13 15), (3, 0, [vR 0, vR 2, vR 3, vR 4, vR 5, vR 8, vR 10, vR 12] ++ uS 28 3), (67, 2, [vU 31, vR 6]), (68, 2, [vU 32, vR 7]), (64, 2, [vU 33, vI 2]), (64, 2, [vI 1, vU 34]), (64, 2, [vI 0, vU 35]), (65, 2, [vD 1, vD 2]), (67, 2, [vR 9, vU 36]), (64, 1, [vI 1]), (4, 0, [vR 11] ++ uS 37 3), (64, 3, [vU 40, vI 0, vU 41]), (4, 0, [vR 13, vR 14, vU 42, vU 43]), (64, 3, [vU 44, vI 0, vU 45]), (64, 2, [vI (-1), vU 46])]
def cn_61 : Cn := ((18, [vR 1], dn_61, 3), (some (.long 4294967296), (dn_61), [(4, 1, 0, 0), (11, 3, 4472406533629990549, 1), (4, 1, 0, 0), (5, 0, 4, 0), (4, 2, 0, 0), (5, 5, 6, 0), (2, 4591870180066957722, 7, 0), (10, 3, 8, 1)]), (2, 0, 0, 37))
theorem ct_61 : CtH cn_61 := ctR 139 own_pl_1 rfl (own_okN_1 _) [(cn_58, [12, 13], [0], [vR 14] ++ uS 42 4), (cn_32, [1, 2, 6], [0], [vR 0, vR 3, vR 4, vR 5, vR 8, vR 10, vR 12] ++ uS 28 4 ++ [vU 35]), (cn_59, [1, 3, 4, 7], [0, 1, 2], [vR 0, vR 2, vR 5, vR 8, vR 10, vR 12] ++ uS 28 3 ++ [vU 32, vU 33]), (cn_60, [12, 14], [0], [vR 13, vU 42, vU 43, vU 46]), (cn_58, [10, 11], [0], uS 37 5)] [] (scS ct_58 (scS ct_32 (scS ct_59 (scS ct_60 (scS ct_58 sc0))))) (by decide +kernel)
def dn_62 : List AD := [(4, 0, [vR 1, vR 2, vR 3, vR 4]), (64, 3, uS 0 3), (64, 2, [vI (-1), vU 3]), (64, 2, [vI (-1), vU 4]), (64, 2, [vI 1, vU 5])]
def cn_62 : Cn := ((29, [vR 0, vI 0], dn_62, 1), (none, (own_ed dn_62 [(1, 64, 3, [vU 0, vI (-1), vU 2]), (4, 64, 2, [vI (-1), vU 5])]), []), (0, 0, 0, 0))
theorem ct_62 : CtH cn_62 := ctR 28 own_pl_2 rfl (own_okN_2 _) [] [] sc0 (by decide +kernel)
def cn_63 : Cn := ((30, [vR 0, vI 1, vI 1], dn_28, 1), (none, (own_ed dn_28 [(1, 64, 2, [vU 9, vI 1])]), []), (0, 0, 0, 0))
theorem ct_63 : CtH cn_63 := ctR 42 own_pl_1 rfl (own_okN_1 _) [] [] sc0 (by decide +kernel)
def dn_64 : List AD := [(0, 0, [vR 1, vR 2] ++ uS 0 11 ++ [vI 2, vR 3, vR 4, vR 5, vR 6, vR 7, vU 11, vU 12, vR 8, vR 9] ++ uS 13 6), (64, 0, []), (65, 0, []), (64, 2, [vU 19, vU 20]), (64, 2, [vU 21, vU 22]), (65, 2, [vU 23, vU 24]), (64, 3, uS 25 3), (64, 3, uS 28 3), (64, 2, [vU 31, vU 32]), (64, 2, [vU 33, vU 34]), (3, 0, [vR 0, vR 11, vR 12, vR 13, vR 14, vR 17, vR 20, vR 25, vU 35, vI 0, vI 0]), (67, 2, [vU 36, vR 15]), (68, 2, [vU 37, vR 16]), (64, 2, [vU 38, vI 2]), (64, 2, [vI 1, vI 2]), (64, 2, [vI 0, vI 1]), (65, 2, [vD 1, vD 2]), (67, 2, [vR 18, vR 19]), (64, 1, [vI 1]), (64, 2, [vI 0, vI 1]), (4, 0, [vR 21, vR 22, vR 23, vR 24]), (64, 3, uS 39 3), (64, 2, [vU 42, vI (-1)]), (64, 2, [vU 43, vI (-1)]), (64, 2, [vU 44, vI 2]), (4, 0, [vR 26, vR 27, vR 28, vR 29]), (64, 3, [vU 45, vI 0, vU 46]), (64, 2, [vI (-1), vI (-1)]), (64, 2, [vI (-1), vI (-1)]), (64, 2, [vI 1, vI 2])]
def cn_64 : Cn := ((25, [vR 10, vI 0, vI 1, vI 0], dn_64, 3), (none, (own_ed dn_64 [(0, 0, 0, [vR 30, vR 31] ++ uS 0 11 ++ [vI 2, vR 3, vR 4, vR 5, vR 6, vR 7, vU 11, vU 12, vR 8, vR 9] ++ uS 13 6), (3, 64, 2, [vI 1, vU 20]), (4, 64, 2, [vI 0, vU 22]), (5, 65, 2, [vD 1, vU 24]), (6, 64, 3, [vI 0, vI 1, vU 27]), (7, 64, 3, [vI 0, vI 0, vU 30]), (8, 64, 2, [vU 31, vI 0]), (9, 64, 2, [vI 0, vU 34]), (10, 3, 0, [vR 0, vR 11, vR 12, vR 13, vR 14, vR 17, vR 20, vR 25, vU 35, vI 1, vI 0]), (13, 64, 2, [vU 38, vI 1]), (14, 64, 2, [vI 0, vI 1]), (15, 64, 2, [vI 1, vI 1]), (16, 65, 2, [vD 2, vD 2]), (21, 64, 3, [vU 39, vU 40, vI (-1)]), (24, 64, 2, [vU 44, vI (-1)]), (26, 64, 3, [vU 45, vI 1, vI (-1)]), (29, 64, 2, [vI (-1), vI 1])] ++ [(64, 2, [vI 1, vI 0]), (65, 2, [vD 2, vD 0])]), []), (3, 2, 4, 70))
theorem ct_64 : CtH cn_64 := ctR 185 own_pl_1 rfl (own_okN_1 _) [(cn_32, [10, 11, 15], [0], [vR 0, vR 12, vR 13, vR 14, vR 17, vR 20, vR 25, vU 35, vI 0, vI 0, vU 36, vI 1]), (cn_33, [10, 11, 12, 13, 15, 16], [0, 2], [vR 0, vR 14, vR 17, vR 20, vR 25, vU 35, vI 0, vI 0] ++ uS 36 3 ++ [vI 0, vD 1]), (cn_26, [0, 1, 2, 10], [0, 2], uS 0 11 ++ [vR 3, vR 4, vR 5, vR 6, vR 7, vU 11, vU 12, vR 8, vR 9] ++ uS 13 6 ++ [vR 11, vR 12, vR 13, vR 14, vR 17, vR 20, vR 25, vU 35, vI 0]), (cn_29, [20, 21, 22, 23, 24], [0], uS 39 6), (cn_62, [25, 26, 27, 28, 29], [0], [vU 45, vI 0, vU 46, vI (-1), vI (-1), vI 2]), (cn_63, [10, 14, 17, 19], [0], [vR 0, vR 11, vR 12, vR 13, vR 20, vR 25, vU 35, vI 1, vI 0, vI 1, vR 18]), (cn_31, [25, 26, 27, 28, 29], [0], [vU 45, vU 46, vI (-1), vI (-1), vI (-1)])] [] (scS ct_32 (scS ct_33 (scS ct_26 (scS ct_29 (scS ct_62 (scS ct_63 (scS ct_31 sc0))))))) (by decide +kernel)
def dn_65 : List AD := [(3, 0, [vU 0, vR 1] ++ uS 1 9), (67, 2, [vR 2, vU 10]), (64, 1, [vI 1])]
def cn_65 : Cn := ((20, [vR 0, vI 0, vI 1], dn_65, 1), (some (vI 0), (dn_65), []), (0, 0, 0, 0))
theorem ct_65 : CtH cn_65 := ctR 13 own_pl_1 rfl (own_okN_1 _) [] [] sc0 (by decide +kernel)
def dn_66 : List AD := [(3, 0, [vU 0, vU 1, vR 1, vR 2] ++ uS 2 7), (68, 2, [vR 3, vU 9]), (64, 2, [vI 1, vU 10]), (65, 1, [vD 1])]
def cn_66 : Cn := ((21, [vR 0, vI 0, vD 1], dn_66, 2), (some (vI 1), (dn_66), [(4, 1, 0, 0), (11, 2, 4472406533629990549, 1), (4, 1, 0, 0), (5, 0, 3, 0), (2, 4591870180066957722, 4, 0), (10, 2, 5, 1)]), (1, 0, 0, 17))
theorem ct_66 : CtH cn_66 := ctR 45 own_pl_1 rfl (own_okN_1 _) [] [1, 1] sc0 (by decide +kernel)
def dn_67 : List AD := [(0, 0, uS 0 13 ++ [vI 2] ++ uS 13 15), (3, 0, [vR 0, vR 2, vR 3, vR 4, vR 5, vR 8, vR 10, vR 12] ++ uS 28 3), (67, 2, [vR 6, vU 31]), (68, 2, [vR 7, vU 32]), (64, 2, [vI 1, vU 33]), (64, 2, [vU 34, vI 1]), (64, 1, [vI 1]), (65, 1, [vD 1]), (67, 2, [vU 35, vR 9]), (64, 2, [vI 0, vU 36]), (4, 0, [vR 11] ++ uS 37 3), (64, 3, [vU 40, vI 0, vU 41]), (4, 0, [vR 13, vR 14, vU 42, vU 43]), (64, 3, [vU 44, vI 1, vU 45]), (64, 2, [vU 46, vI (-1)])]
def cn_67 : Cn := ((18, [vR 1], dn_67, 2), (some (.long 1), (dn_67), [(4, 1, 0, 0), (11, 2, 4472406533629990549, 1), (4, 1, 0, 0), (5, 0, 3, 0), (2, 4591870180066957722, 4, 0), (10, 2, 5, 1)]), (2, 0, 0, 37))
theorem ct_67 : CtH cn_67 := ctR 139 own_pl_1 rfl (own_okN_1 _) [(cn_38, [12, 13], [0], [vR 14] ++ uS 42 4), (cn_65, [1, 2, 6], [0], [vR 0, vR 3, vR 4, vR 5, vR 8, vR 10, vR 12] ++ uS 28 4), (cn_66, [1, 3, 4, 7], [0, 1], [vR 0, vR 2, vR 5, vR 8, vR 10, vR 12] ++ uS 28 3 ++ [vU 32, vU 33]), (cn_19, [12, 14], [0], [vR 13, vU 42, vU 43, vU 46]), (cn_58, [10, 11], [0], uS 37 5)] [] (scS ct_38 (scS ct_65 (scS ct_66 (scS ct_19 (scS ct_58 sc0))))) (by decide +kernel)
def dn_68 : List AD := [(3, 0, [vU 0, vR 1, vR 2, vR 3] ++ uS 1 7), (67, 2, [vR 4, vU 8]), (68, 2, [vR 5, vU 9]), (64, 2, [vI 1, vU 10]), (64, 1, [vI 1]), (65, 1, [vD 1])]
def cn_68 : Cn := ((26, [vR 0, vI 0, vI 0], dn_68, 2), (none, (own_ed dn_68 [(3, 64, 2, [vI 0, vU 10])]), []), (0, 0, 0, 0))
theorem ct_68 : CtH cn_68 := ctR 36 own_pl_1 rfl (own_okN_1 _) [] [] sc0 (by decide +kernel)
def dn_69 : List AD := [(0, 0, uS 0 14 ++ [vR 1, vR 2, vR 3, vR 4, vR 5, vU 14, vU 15, vR 6, vR 7] ++ uS 16 6), (64, 2, [vU 22, vU 23]), (64, 2, [vU 24, vU 25]), (65, 2, [vU 26, vU 27]), (64, 3, uS 28 3), (64, 3, uS 31 3), (64, 2, [vU 34, vU 35]), (64, 2, [vU 36, vU 37]), (3, 0, [vR 0, vR 9, vR 10, vR 11, vR 12, vR 15, vR 17, vR 22, vU 38, vI 1, vI 0]), (67, 2, [vR 13, vU 39]), (68, 2, [vR 14, vU 40]), (64, 2, [vI 1, vU 41]), (64, 2, [vU 42, vI 1]), (64, 1, [vI 1]), (65, 1, [vD 1]), (67, 2, [vU 43, vR 16]), (64, 2, [vI 0, vU 44]), (4, 0, [vR 18, vR 19, vR 20, vR 21]), (64, 3, uS 45 3), (64, 2, [vI (-1), vU 48]), (64, 2, [vI (-1), vU 49]), (64, 2, [vI 1, vU 50]), (4, 0, [vR 23, vR 24, vR 25, vR 26]), (64, 3, uS 51 3), (64, 2, [vU 54, vI (-1)]), (64, 2, [vU 55, vI (-1)]), (64, 2, [vU 56, vI 1])]
def cn_69 : Cn := ((25, [vR 8, vI 1, vI 0, vI 1], dn_69, 2), (none, (own_ed dn_69 [(1, 64, 2, [vU 22, vI 0]), (2, 64, 2, [vU 24, vI 1]), (3, 65, 2, [vU 26, vD 1]), (4, 64, 3, [vU 28, vI 1, vI 1]), (5, 64, 3, [vU 31, vI 0, vI 0]), (6, 64, 2, [vI 1, vU 35]), (7, 64, 2, [vU 36, vI 1]), (11, 64, 2, [vI 0, vU 41]), (12, 64, 2, [vU 42, vI 0]), (18, 64, 3, [vU 45, vI (-1), vU 47]), (21, 64, 2, [vI (-1), vU 50]), (23, 64, 3, [vU 51, vI (-1), vU 53]), (26, 64, 2, [vU 56, vI (-1)])]), []), (1, 0, 0, 15))
theorem ct_69 : CtH cn_69 := ctR 136 own_pl_1 rfl (own_okN_1 _) [(cn_65, [8, 9, 13], [0], [vR 0, vR 10, vR 11, vR 12, vR 15, vR 17, vR 22, vU 38, vI 1, vI 0, vU 39]), (cn_68, [8, 9, 10, 11, 13, 14], [0, 1], [vR 0, vR 12, vR 15, vR 17, vR 22, vU 38, vI 1, vI 0] ++ uS 39 3), (cn_62, [17, 18, 19, 20, 21], [0], uS 45 6), (cn_43, [22, 23, 24, 25, 26], [0], uS 51 6)] [] (scS ct_65 (scS ct_68 (scS ct_62 (scS ct_43 sc0)))) (by decide +kernel)
def dn_70 : List AD := [(0, 0, [vR 8, vR 9, vU 0, vU 1, vR 1, vR 2, vR 3] ++ uS 2 6 ++ [vI 2] ++ uS 8 3 ++ [vR 4, vR 5, vR 6, vR 7] ++ uS 11 8), (64, 0, []), (65, 0, []), (64, 0, []), (64, 3, [vI 0, vI 1, vI 1]), (64, 3, [vI 0, vI 0, vI 0]), (64, 3, [vI 0, vI 0, vI 0]), (64, 3, [vI 0, vI 0, vI 0]), (64, 2, [vI 1, vU 19]), (65, 2, [vD 1, vU 20])]
def cn_70 : Cn := ((32, [vR 0], dn_70, 2), (none, (own_ed dn_70 [(0, 0, 0, [vR 8, vR 9, vU 0, vU 1, vR 10, vR 11, vR 3] ++ uS 2 6 ++ [vI 2] ++ uS 8 3 ++ [vR 4, vR 5, vR 6, vR 7] ++ uS 11 8), (6, 64, 3, [vI 0, vI 0, vI 1])] ++ [(64, 2, [vI 0, vI 0]), (65, 2, [vD 1, vD 0]), (64, 2, [vI 0, vI 1]), (64, 2, [vI 0, vI 0])]), []), (2, 4, 8, 54))
theorem ct_70 : CtH cn_70 := ctR 259 own_pl_0 rfl (own_okN_0 _) [(cn_45, [6], [0], [vI 0, vI 0, vI 0]), (cn_45, [7], [0], [vI 0, vI 0, vI 0]), (cn_47, [6], [0], [vI 1]), (cn_47, [7], [0], [vI 0])] [] (scS ct_45 (scS ct_45 (scS ct_47 (scS ct_47 sc0)))) (by decide +kernel)
def dn_71 : List AD := [(67, 2, [vR 1, vR 2]), (64, 1, [vI 1]), (64, 2, [vI 0, vI 1]), (68, 2, [vR 4, vR 5]), (65, 1, [vD 1]), (65, 2, [vD 2, vD 3]), (0, 0, [vR 7, vR 8, vU 0, vU 1, vR 9, vR 10, vR 11] ++ uS 2 6 ++ [vI 2, vR 12, vR 13, vR 14, vR 15, vR 16, vR 17, vR 18, vR 19, vR 20] ++ uS 8 6), (64, 0, []), (65, 0, []), (64, 0, []), (65, 0, []), (64, 0, []), (64, 2, [vU 14, vU 15]), (64, 2, [vU 16, vU 17]), (65, 2, [vU 18, vU 19]), (64, 3, [vI 0, vI 0, vI 0]), (64, 3, [vI 0, vI 0, vI 0]), (64, 3, [vI 0, vI 0, vI 0]), (64, 3, [vI 0, vI 0, vI 0]), (64, 2, [vU 20, vU 21]), (64, 2, [vU 22, vU 23])]
def cn_71 : Cn := ((10, [vR 6, vR 0, vR 3], dn_71, 4), (some (vI 1), (own_ed dn_71 [(6, 0, 0, [vR 45, vR 46, vU 0, vU 1, vR 47, vR 48, vR 11] ++ uS 2 6 ++ [vI 2, vR 12, vR 13, vR 14, vR 15, vR 16, vR 17, vR 18, vR 19, vR 20] ++ uS 8 5 ++ [vI 0]), (12, 64, 2, [vI 1, vI 0]), (13, 64, 2, [vI 0, vI 1]), (14, 65, 2, [vD 2, vD 1]), (15, 64, 3, [vI 0, vI 1, vI 1]), (17, 64, 3, [vI 0, vI 0, vI 1]), (19, 64, 2, [vI 1, vI 0]), (20, 64, 2, [vI 0, vI 1])] ++ [(3, 0, [vR 6, vR 22, vR 23, vR 24, vR 25, vR 30, vR 34, vR 39, vR 44, vI 1, vI 0]), (67, 2, [vR 26, vR 28]), (68, 2, [vR 27, vR 29]), (64, 2, [vI 0, vI 1]), (64, 2, [vI 0, vI 0]), (64, 1, [vI 1]), (65, 1, [vD 1]), (64, 2, [vI 1, vI 1]), (65, 2, [vD 3, vD 3]), (67, 2, [vR 31, vR 32]), (64, 1, [vI 1]), (64, 2, [vI 0, vI 1]), (64, 2, [vI 1, vI 2]), (4, 0, [vR 35, vR 36, vR 37, vR 38]), (64, 3, [vI (-1), vI (-1), vI (-1)]), (64, 2, [vI (-1), vI (-1)]), (64, 2, [vI (-1), vI (-1)]), (64, 2, [vI (-1), vI (-1)]), (4, 0, [vR 40, vR 41, vR 42, vR 43]), (64, 3, [vI (-1), vI (-1), vI (-1)]), (64, 2, [vI (-1), vI (-1)]), (64, 2, [vI (-1), vI (-1)]), (64, 2, [vI (-1), vI (-1)]), (64, 2, [vI (-1), vI (-1)]), (64, 2, [vI 1, vI 0]), (65, 2, [vD 3, vD 0]), (64, 2, [vI 0, vI 0]), (65, 2, [vD 3, vD 0]), (64, 2, [vI 0, vI 1]), (64, 2, [vI 0, vI 0])]), [(4, 2, 0, 0), (11, 4, 4472406533629990549, 1), (4, 2, 0, 0), (5, 0, 5, 0), (4, 3, 0, 0), (5, 6, 7, 0), (2, 4591870180066957722, 8, 0), (10, 4, 9, 1), (4, 1, 0, 0), (11, 10, 4472406533629990549, 1), (4, 1, 0, 0), (5, 0, 11, 0), (2, 4591870180066957722, 12, 0), (10, 10, 13, 1)]), (4, 30, 72, 93))
theorem ct_71 : CtH cn_71 := ctR 65 own_pl_0 rfl (own_okN_0 _) [(cn_57, [0, 1, 2, 3, 4, 5, 6, 21], [0, 1, 2, 3], [vR 7, vR 8, vU 0, vU 1, vR 9, vR 10, vR 11] ++ uS 2 6 ++ [vR 12, vR 13, vR 14, vR 15, vR 16, vR 17, vR 18, vR 19, vR 20] ++ uS 8 5 ++ [vI 0, .null, .null, .null, vI 0, vI 0]), (cn_61, [6, 21, 22, 23, 24, 25, 28, 29, 30, 31, 34, 35, 39, 40, 41], [0, 2, 3], [vR 7, vR 8, vU 0, vU 1, vR 9, vR 10, vR 11] ++ uS 2 6 ++ [vR 12, vR 13, vR 14, vR 15, vR 16, vR 17, vR 18, vR 19, vR 20] ++ uS 8 5 ++ [vI 0, vR 44, vI 0, vI 0, vR 26, vR 27, vI 1, vI 2, vI 1, vR 32, vR 36, vR 37, vR 38, vI (-1), vI 1, vR 42, vR 43, vI (-1), vI 1, vI (-1)]), (cn_64, [6, 7, 8, 12, 13, 14, 15, 16, 19, 20, 21, 22, 23, 24, 25, 28, 29, 30, 31, 32, 34, 35, 36, 37, 38, 39, 40, 41, 42, 43], [0, 2, 3], [vU 0, vU 1, vR 9, vR 10, vR 11] ++ uS 2 6 ++ [vR 17, vR 18] ++ uS 8 5 ++ [vI 0] ++ uS 14 6 ++ rp 6 (vI 0) ++ uS 20 4 ++ [vR 44, vR 26, vR 27, vI 1, vI (-1), vI 0, vI 1, vI (-1), vI (-1), vI 1, vI (-1), vI 1]), (cn_67, [6, 21, 22, 23, 24, 25, 26, 27, 30, 32, 34, 35, 39, 40, 41], [0, 1], [vR 45, vR 46, vU 0, vU 1, vR 9, vR 10, vR 11] ++ uS 2 6 ++ [vR 12, vR 13, vR 14, vR 15, vR 16, vR 17, vR 18, vR 19, vR 20] ++ uS 8 5 ++ [vI 0, vR 44, vI 1, vI 0, vR 28, vR 29, vI 1, vI 0, vR 31, vI 1, vR 36, vR 37, vR 38, vI (-1), vI (-1), vR 42, vR 43, vI (-1), vI (-1), vI (-1)]), (cn_69, [6, 12, 13, 14, 15, 16, 19, 20, 21, 22, 23, 24, 25, 26, 27, 30, 32, 34, 35, 36, 37, 38, 39, 40, 41, 42, 43], [0, 1], [vR 45, vR 46, vU 0, vU 1, vR 9, vR 10, vR 11] ++ uS 2 6 ++ [vI 2, vR 17, vR 18] ++ uS 8 5 ++ [vI 0, vI 1, vU 15, vI 0, vU 17, vD 2, vU 19, vI 0, vI 1, vI 0, vI 0, vI 0, vI 0, vU 20, vI 0, vI 0, vU 23, vR 44, vR 28, vR 29, vI 1, vI 0, vR 31, vI 1, vI (-1), vI 0] ++ rp 5 (vI (-1)) ++ [vI 1, vI (-1), vI (-1), vI (-1), vI (-1)]), (cn_70, [6, 9, 10, 11, 15, 16, 17, 18, 45, 46], [0, 3], uS 0 8 ++ [vR 12, vR 13, vR 14, vR 19, vR 20] ++ uS 8 5 ++ [vI 0, vI 0, vD 0])] [] (scS ct_57 (scS ct_61 (scS ct_64 (scS ct_67 (scS ct_69 (scS ct_70 sc0)))))) (by decide +kernel)
def dn_72 : List AD := []
def cn_72 : Cn := ((2, [.float 1, .float 2], dn_72, 3), (some (vR 0), (dn_72 ++ [(64, 1, [vI 0])]), [(13, 1, 0, 1), (13, 2, 0, 0), (13, 1, 0, 1)]), (0, 1, 1, 0))
theorem ct_72 : CtH cn_72 := ctR 14 own_pl_4 rfl (own_okN_4 _) [] [1, 0, 1] sc0 (by decide +kernel)
def dn_73 : List AD := []
def cn_73 : Cn := ((3, [.float 1, .float 2], dn_73, 3), (some (vR 0), (dn_73 ++ [(65, 1, [vD 3])]), [(13, 1, 0, 1), (13, 2, 0, 0), (13, 1, 0, 1), (7, 1, 0, 0)]), (0, 1, 1, 0))
theorem ct_73 : CtH cn_73 := ctR 15 own_pl_4 rfl (own_okN_4 _) [] [1, 0, 1] sc0 (by decide +kernel)
def dn_74 : List AD := [(64, 1, [vI 0])]
def cn_74 : Cn := ((13, [vR 0, vI 1], dn_74, 1), (some (vR 1), (dn_74 ++ [(64, 1, [vI 0])]), []), (1, 1, 1, 14))
theorem ct_74 : CtH cn_74 := ctR 9 own_pl_7 rfl (own_okN_7 _) [] [] sc0 (by decide +kernel)
def cn_75 : Cn := ((17, [vR 0, vI 0, vI 2], dn_10, 1), (none, (own_ed dn_10 [(1, 64, 3, [vU 0, vU 1, vI 0]), (2, 64, 2, [vI (-1), vU 3]), (3, 64, 2, [vI (-1), vU 5]), (4, 64, 2, [vI 2, vU 7])]), []), (0, 0, 0, 0))
theorem ct_75 : CtH cn_75 := ctR 30 own_pl_2 rfl (own_okN_2 _) [] [] sc0 (by decide +kernel)
def dn_76 : List AD := [(0, 0, uS 0 13 ++ [vI 2] ++ uS 13 15), (64, 2, [vI 2, vI 1]), (4, 0, [.null, .null, .null, .null])]
def cn_76 : Cn := ((15, [vR 2, vR 0, vR 1], dn_76, 1), (none, (own_ed dn_76 [(2, 4, 0, [vR 3, vR 4, vR 5, vR 6])] ++ [(64, 3, [vI (-1), vI 1, vI 0]), (64, 2, [vI (-1), vI (-1)]), (64, 2, [vI (-1), vI (-1)]), (64, 2, [vI 2, vI 1])]), []), (1, 4, 9, 15))
theorem ct_76 : CtH cn_76 := ctR 61 own_pl_2 rfl (own_okI_2) [(cn_8, [3], [0], [vI 0, vI 0, vI 0]), (cn_9, [6], [0], [vI 0, vI 0]), (cn_30, [2, 3, 4, 5, 6], [0], [vI (-1), vI (-1), vI 0, vI 0, vI 0, vI 0, vI (-1), vI (-1)]), (cn_75, [2, 3, 4, 5, 6], [0], [vI (-1), vI 1, vI 0, vI (-1), vI 0, vI (-1), vI (-1), vI 1])] [] (scS ct_8 (scS ct_9 (scS ct_30 (scS ct_75 sc0)))) (by decide +kernel)
def dn_77 : List AD := [(67, 2, [vR 1, vR 2]), (64, 1, [vI 0]), (64, 2, [vI 0, vI 1]), (68, 2, [vR 4, vR 5]), (65, 1, [vD 1]), (65, 2, [vD 2, vD 3]), (0, 0, uS 0 13 ++ [vI 2] ++ uS 13 15), (3, 0, [vU 28] ++ rp 5 (.null) ++ [vU 29, vU 30, .null, vU 31, vU 32])]
def cn_77 : Cn := ((11, [vR 7, vR 6, vR 0, vR 3], dn_77, 4), (none, (own_ed dn_77 [(7, 3, 0, [vR 6, vR 8, vR 9, vR 10, vR 11, vR 16, vR 20, vR 25, vR 30, vU 31, vU 32])] ++ [(67, 2, [vR 12, vR 14]), (68, 2, [vR 13, vR 15]), (64, 2, [vI 1, vI 2]), (64, 2, [vI 2, vI 1]), (64, 1, [vI 0]), (65, 1, [vD 1]), (64, 2, [vI 0, vI 1]), (65, 2, [vD 2, vD 3]), (67, 2, [vR 17, vR 18]), (64, 2, [vI 0, vI 1]), (64, 1, [vI 1]), (64, 2, [vI 2, vI 1]), (4, 0, [vR 21, vR 22, vR 23, vR 24]), (64, 3, [vI (-1), vI 0, vI 1]), (64, 2, [vI (-1), vI (-1)]), (64, 2, [vI (-1), vI (-1)]), (64, 2, [vI 1, vI 2]), (4, 0, [vR 26, vR 27, vR 28, vR 29]), (64, 3, [vI (-1), vI 1, vI 0]), (64, 2, [vI (-1), vI (-1)]), (64, 2, [vI (-1), vI (-1)]), (64, 2, [vI 2, vI 1]), (64, 2, [vI (-1), vI (-1)])]), []), (2, 23, 49, 32))
theorem ct_77 : CtH cn_77 := ctR 375 own_pl_1 rfl (own_okI_1) [(cn_52, [], [0], []), (cn_74, [1], [0], []), (cn_54, [4], [0, 1], []), (cn_5, [], [0], []), (cn_6, [2], [0], []), (cn_7, [5], [0, 2, 3], []), (cn_5, [], [0], []), (cn_52, [], [0], []), (cn_56, [6, 10, 20], [0], uS 0 28), (cn_76, [6, 11, 25], [0], uS 0 28), (cn_9, [30], [0], [vI 0, vI 0])] [] (scS ct_52 (scS ct_74 (scS ct_54 (scS ct_5 (scS ct_6 (scS ct_7 (scS ct_5 (scS ct_52 (scS ct_56 (scS ct_76 (scS ct_9 sc0))))))))))) (by decide +kernel)
def dn_78 : List AD := [(3, 0, [vU 0, vR 1] ++ uS 1 9), (67, 2, [vU 10, vR 2]), (64, 2, [vI 0, vI 1])]
def cn_78 : Cn := ((20, [vR 0, vI 1, vI 1], dn_78, 1), (some (vI 1), (dn_78), []), (0, 0, 0, 0))
theorem ct_78 : CtH cn_78 := ctR 23 own_pl_1 rfl (own_okN_1 _) [] [] sc0 (by decide +kernel)
def dn_79 : List AD := [(3, 0, [vU 0, vU 1, vR 1, vR 2] ++ uS 2 7), (68, 2, [vU 9, vR 3]), (64, 2, [vU 10, vI 2]), (65, 2, [vD 2, vD 1])]
def cn_79 : Cn := ((21, [vR 0, vI 1, vD 1], dn_79, 3), (some (vI 1), (dn_79), [(4, 1, 0, 0), (11, 3, 4472406533629990549, 1), (4, 2, 0, 0), (5, 0, 4, 0), (4, 1, 0, 0), (5, 5, 6, 0), (2, 4591870180066957722, 7, 0), (10, 3, 8, 1)]), (1, 0, 0, 17))
theorem ct_79 : CtH cn_79 := ctR 63 own_pl_1 rfl (own_okN_1 _) [] [1, 1] sc0 (by decide +kernel)
def dn_80 : List AD := [(0, 0, uS 0 13 ++ [vI 2] ++ uS 13 15), (3, 0, [vR 0, vR 2, vR 3, vR 4, vR 5, vR 8, vR 10, vR 12] ++ uS 28 3), (67, 2, [vU 31, vR 6]), (68, 2, [vU 32, vR 7]), (64, 2, [vU 33, vI 2]), (64, 2, [vU 34, vI 1]), (64, 2, [vI 0, vI 1]), (65, 2, [vD 1, vD 2]), (67, 2, [vU 35, vR 9]), (64, 1, [vI 1]), (4, 0, [vR 11] ++ uS 36 3), (64, 3, [vU 39, vI 0, vU 40]), (4, 0, [vR 13, vR 14, vU 41, vU 42]), (64, 3, [vU 43, vI 1, vU 44]), (64, 2, [vU 45, vI (-1)])]
def cn_80 : Cn := ((18, [vR 1], dn_80, 3), (some (.long 4294967297), (dn_80), [(4, 2, 0, 0), (11, 3, 4472406533629990549, 1), (4, 1, 0, 0), (5, 0, 4, 0), (4, 2, 0, 0), (5, 5, 6, 0), (2, 4591870180066957722, 7, 0), (10, 3, 8, 1)]), (2, 0, 0, 37))
theorem ct_80 : CtH cn_80 := ctR 139 own_pl_1 rfl (own_okN_1 _) [(cn_38, [12, 13], [0], [vR 14] ++ uS 41 4), (cn_78, [1, 2, 6], [0], [vR 0, vR 3, vR 4, vR 5, vR 8, vR 10, vR 12] ++ uS 28 4), (cn_79, [1, 3, 4, 7], [0, 2, 1], [vR 0, vR 2, vR 5, vR 8, vR 10, vR 12] ++ uS 28 3 ++ [vU 32, vU 33]), (cn_19, [12, 14], [0], [vR 13, vU 41, vU 42, vU 45]), (cn_58, [10, 11], [0], uS 36 5)] [] (scS ct_38 (scS ct_78 (scS ct_79 (scS ct_19 (scS ct_58 sc0))))) (by decide +kernel)
def cn_81 : Cn := ((26, [vR 0, vI 1, vI 1], dn_33, 2), (none, (own_ed dn_33 [(3, 64, 2, [vU 10, vI 1])]), []), (0, 0, 0, 0))
theorem ct_81 : CtH cn_81 := ctR 36 own_pl_1 rfl (own_okN_1 _) [] [] sc0 (by decide +kernel)
def cn_82 : Cn := ((27, [vR 3, vI 0, vD 1], dn_26, 2), (none, (own_ed dn_26 [(0, 0, 0, [vR 4, vR 5] ++ uS 0 11 ++ [vI 2] ++ uS 11 15), (3, 3, 0, [vR 0] ++ uS 26 8 ++ [vI 1, vU 34])] ++ [(64, 2, [vI 0, vI 0]), (65, 2, [vD 1, vD 0])]), []), (2, 2, 4, 55))
theorem ct_82 : CtH cn_82 := ctR 54 own_pl_1 rfl (own_okN_1 _) [(cn_22, [], [0], []), (cn_24, [1], [0], []), (cn_25, [2], [0], [])] [] (scS ct_22 (scS ct_24 (scS ct_25 sc0))) (by decide +kernel)
def dn_83 : List AD := [(3, 0, uS 0 4 ++ [vR 1, vR 2] ++ uS 4 5), (64, 2, [vI 2, vU 9]), (67, 2, [vR 3, vU 10]), (64, 2, [vI 0, vI 1])]
def cn_83 : Cn := ((30, [vR 0, vI 0, vI 1], dn_83, 1), (none, (own_ed dn_83 [(1, 64, 2, [vI 1, vU 9])]), []), (0, 0, 0, 0))
theorem ct_83 : CtH cn_83 := ctR 42 own_pl_1 rfl (own_okN_1 _) [] [] sc0 (by decide +kernel)
def dn_84 : List AD := [(4, 0, [vR 1, vR 2, vR 3, vR 4]), (64, 3, uS 0 3), (64, 2, [vI (-1), vU 3]), (64, 2, [vI (-1), vU 4]), (64, 2, [vI 2, vU 5])]
def cn_84 : Cn := ((29, [vR 0, vI 0], dn_84, 1), (none, (own_ed dn_84 [(1, 64, 3, [vU 0, vU 1, vI (-1)]), (4, 64, 2, [vI (-1), vU 5])]), []), (0, 0, 0, 0))
theorem ct_84 : CtH cn_84 := ctR 28 own_pl_2 rfl (own_okN_2 _) [] [] sc0 (by decide +kernel)
def dn_85 : List AD := [(4, 0, [vR 1, vR 2, vR 3, vR 4]), (64, 3, [vU 0, vI (-1), vU 1]), (64, 2, [vI (-1), vU 2]), (64, 2, [vI (-1), vU 3]), (64, 2, [vI 2, vU 4])]
def cn_85 : Cn := ((31, [vR 0, vI 0, vI 1], dn_85, 1), (none, (own_ed dn_85 [(1, 64, 3, [vU 0, vI 0, vI (-1)]), (4, 64, 2, [vI 1, vU 4])]), []), (1, 0, 0, 14))
theorem ct_85 : CtH cn_85 := ctR 20 own_pl_2 rfl (own_okN_2 _) [(cn_84, [0, 1, 2, 3, 4], [0], [vU 0, vI (-1)] ++ uS 1 4), (cn_55, [0, 1, 2, 3, 4], [0], [vU 0, vI (-1), vI (-1), vU 2, vI (-1), vU 3, vI (-1), vU 4])] [] (scS ct_84 (scS ct_55 sc0)) (by decide +kernel)
def dn_86 : List AD := [(0, 0, [vR 1, vR 2] ++ uS 0 11 ++ [vI 2, vR 3, vR 4, vR 5, vR 6, vR 7, vU 11, vU 12, vR 8, vR 9] ++ uS 13 6), (64, 0, []), (65, 0, []), (64, 2, [vU 19, vU 20]), (64, 2, [vU 21, vU 22]), (65, 2, [vU 23, vU 24]), (64, 3, uS 25 3), (64, 3, uS 28 3), (64, 2, [vU 31, vU 32]), (64, 2, [vU 33, vU 34]), (3, 0, [vR 0, vR 11, vR 12, vR 13, vR 14, vR 17, vR 20, vR 25, vU 35, vI 0, vI 0]), (67, 2, [vU 36, vR 15]), (68, 2, [vU 37, vR 16]), (64, 2, [vU 38, vI 2]), (64, 2, [vI 2, vI 1]), (64, 2, [vI 0, vI 1]), (65, 2, [vD 1, vD 2]), (67, 2, [vR 18, vR 19]), (64, 2, [vI 0, vI 1]), (64, 1, [vI 1]), (4, 0, [vR 21, vR 22, vR 23, vR 24]), (64, 3, uS 39 3), (64, 2, [vU 42, vI (-1)]), (64, 2, [vU 43, vI (-1)]), (64, 2, [vU 44, vI 2]), (4, 0, [vR 26, vR 27, vR 28, vR 29]), (64, 3, [vU 45, vI 1, vU 46]), (64, 2, [vI (-1), vI (-1)]), (64, 2, [vI (-1), vI (-1)]), (64, 2, [vI 2, vI 1])]
def cn_86 : Cn := ((25, [vR 10, vI 0, vI 1, vI 1], dn_86, 3), (none, (own_ed dn_86 [(0, 0, 0, [vR 30, vR 31] ++ uS 0 11 ++ [vI 2, vR 3, vR 4, vR 5, vR 6, vR 7, vU 11, vU 12, vR 8, vR 9] ++ uS 13 6), (3, 64, 2, [vI 1, vU 20]), (4, 64, 2, [vI 1, vU 22]), (5, 65, 2, [vD 2, vU 24]), (6, 64, 3, [vI 0, vI 1, vU 27]), (7, 64, 3, [vI 0, vI 0, vU 30]), (8, 64, 2, [vU 31, vI 0]), (9, 64, 2, [vU 33, vI 0]), (10, 3, 0, [vR 0, vR 11, vR 12, vR 13, vR 14, vR 17, vR 20, vR 25, vU 35, vI 1, vI 0]), (13, 64, 2, [vU 38, vI 1]), (14, 64, 2, [vI 1, vI 0]), (21, 64, 3, [vU 39, vU 40, vI (-1)]), (24, 64, 2, [vU 44, vI (-1)]), (26, 64, 3, [vU 45, vI 0, vI (-1)]), (29, 64, 2, [vI 1, vI (-1)])] ++ [(64, 2, [vI 0, vI 0]), (65, 2, [vD 1, vD 0])]), []), (3, 2, 4, 70))
theorem ct_86 : CtH cn_86 := ctR 185 own_pl_1 rfl (own_okN_1 _) [(cn_78, [10, 11, 15], [0], [vR 0, vR 12, vR 13, vR 14, vR 17, vR 20, vR 25, vU 35, vI 0, vI 0, vU 36]), (cn_81, [10, 11, 12, 13, 15, 16], [0, 2], [vR 0, vR 14, vR 17, vR 20, vR 25, vU 35, vI 0, vI 0] ++ uS 36 3 ++ [vI 0, vD 1]), (cn_82, [0, 1, 2, 10], [0, 1], uS 0 11 ++ [vR 3, vR 4, vR 5, vR 6, vR 7, vU 11, vU 12, vR 8, vR 9] ++ uS 13 6 ++ [vR 11, vR 12, vR 13, vR 14, vR 17, vR 20, vR 25, vU 35, vI 0]), (cn_29, [20, 21, 22, 23, 24], [0], uS 39 6), (cn_43, [25, 26, 27, 28, 29], [0], [vU 45, vI 1, vU 46, vI (-1), vI (-1), vI 2]), (cn_83, [10, 14, 17, 18], [0], [vR 0, vR 11, vR 12, vR 13, vR 20, vR 25, vU 35, vI 1, vI 0, vI 1, vR 19]), (cn_85, [25, 26, 27, 28, 29], [0], [vU 45, vU 46, vI (-1), vI (-1), vI (-1)])] [] (scS ct_78 (scS ct_81 (scS ct_82 (scS ct_29 (scS ct_43 (scS ct_83 (scS ct_85 sc0))))))) (by decide +kernel)
def dn_87 : List AD := [(3, 0, [vU 0, vR 1] ++ uS 1 9), (67, 2, [vR 2, vU 10]), (64, 1, [vI 0])]
def cn_87 : Cn := ((20, [vR 0, vI 0, vI 0], dn_87, 1), (some (vI 0), (dn_87), []), (0, 0, 0, 0))
theorem ct_87 : CtH cn_87 := ctR 13 own_pl_1 rfl (own_okN_1 _) [] [] sc0 (by decide +kernel)
def dn_88 : List AD := [(0, 0, uS 0 13 ++ [vI 2] ++ uS 13 15), (3, 0, [vR 0, vR 2, vR 3, vR 4, vR 5, vR 8, vR 10, vR 12] ++ uS 28 3), (67, 2, [vR 6, vU 31]), (68, 2, [vR 7, vU 32]), (64, 2, [vI 1, vU 33]), (64, 2, [vI 1, vU 34]), (64, 1, [vI 0]), (65, 1, [vD 1]), (67, 2, [vR 9, vU 35]), (64, 2, [vI 0, vU 36]), (4, 0, [vR 11] ++ uS 37 3), (64, 3, [vU 40, vI 0, vU 41]), (4, 0, [vR 13, vR 14, vU 42, vU 43]), (64, 3, [vU 44, vI 0, vU 45]), (64, 2, [vI (-1), vU 46])]
def cn_88 : Cn := ((18, [vR 1], dn_88, 2), (some (.long 0), (dn_88), [(4, 1, 0, 0), (11, 2, 4472406533629990549, 1), (4, 1, 0, 0), (5, 0, 3, 0), (2, 4591870180066957722, 4, 0), (10, 2, 5, 1)]), (2, 0, 0, 37))
theorem ct_88 : CtH cn_88 := ctR 139 own_pl_1 rfl (own_okN_1 _) [(cn_58, [12, 13], [0], [vR 14] ++ uS 42 4), (cn_87, [1, 2, 6], [0], [vR 0, vR 3, vR 4, vR 5, vR 8, vR 10, vR 12] ++ uS 28 4), (cn_66, [1, 3, 4, 7], [0, 1], [vR 0, vR 2, vR 5, vR 8, vR 10, vR 12] ++ uS 28 3 ++ [vU 32, vU 33]), (cn_60, [12, 14], [0], [vR 13, vU 42, vU 43, vU 46]), (cn_58, [10, 11], [0], uS 37 5)] [] (scS ct_58 (scS ct_87 (scS ct_66 (scS ct_60 (scS ct_58 sc0))))) (by decide +kernel)
def dn_89 : List AD := [(3, 0, [vU 0, vR 1, vR 2, vR 3] ++ uS 1 7), (67, 2, [vR 4, vU 8]), (68, 2, [vR 5, vU 9]), (64, 2, [vI 1, vU 10]), (64, 1, [vI 0]), (65, 1, [vD 1])]
def cn_89 : Cn := ((26, [vR 0, vI 0, vI 0], dn_89, 2), (none, (own_ed dn_89 [(3, 64, 2, [vI 0, vU 10])]), []), (0, 0, 0, 0))
theorem ct_89 : CtH cn_89 := ctR 36 own_pl_1 rfl (own_okN_1 _) [] [] sc0 (by decide +kernel)
def dn_90 : List AD := [(0, 0, uS 0 14 ++ [vR 1, vR 2, vR 3, vR 4, vR 5, vU 14, vU 15, vR 6, vR 7] ++ uS 16 6), (64, 2, [vU 22, vU 23]), (64, 2, [vU 24, vU 25]), (65, 2, [vU 26, vU 27]), (64, 3, uS 28 3), (64, 3, uS 31 3), (64, 2, [vU 34, vU 35]), (64, 2, [vU 36, vU 37]), (3, 0, [vR 0, vR 9, vR 10, vR 11, vR 12, vR 15, vR 17, vR 22, vU 38, vI 1, vI 0]), (67, 2, [vR 13, vU 39]), (68, 2, [vR 14, vU 40]), (64, 2, [vI 1, vU 41]), (64, 2, [vI 1, vU 42]), (64, 1, [vI 0]), (65, 1, [vD 1]), (67, 2, [vR 16, vU 43]), (64, 2, [vI 0, vU 44]), (4, 0, [vR 18, vR 19, vR 20, vR 21]), (64, 3, uS 45 3), (64, 2, [vI (-1), vU 48]), (64, 2, [vI (-1), vU 49]), (64, 2, [vI 1, vU 50]), (4, 0, [vR 23, vR 24, vR 25, vR 26]), (64, 3, uS 51 3), (64, 2, [vI (-1), vU 54]), (64, 2, [vI (-1), vU 55]), (64, 2, [vI 1, vU 56])]
def cn_90 : Cn := ((25, [vR 8, vI 1, vI 0, vI 0], dn_90, 2), (none, (own_ed dn_90 [(1, 64, 2, [vU 22, vI 0]), (2, 64, 2, [vU 24, vI 0]), (3, 65, 2, [vU 26, vD 1]), (4, 64, 3, [vU 28, vI 1, vI 1]), (5, 64, 3, [vU 31, vI 0, vI 0]), (6, 64, 2, [vI 1, vU 35]), (7, 64, 2, [vI 1, vU 37]), (11, 64, 2, [vI 0, vU 41]), (12, 64, 2, [vI 0, vU 42]), (18, 64, 3, [vU 45, vI (-1), vU 47]), (21, 64, 2, [vI (-1), vU 50]), (23, 64, 3, [vU 51, vI (-1), vU 53]), (26, 64, 2, [vI (-1), vU 56])]), []), (1, 0, 0, 15))
theorem ct_90 : CtH cn_90 := ctR 136 own_pl_1 rfl (own_okN_1 _) [(cn_87, [8, 9, 13], [0], [vR 0, vR 10, vR 11, vR 12, vR 15, vR 17, vR 22, vU 38, vI 1, vI 0, vU 39]), (cn_89, [8, 9, 10, 11, 13, 14], [0, 1], [vR 0, vR 12, vR 15, vR 17, vR 22, vU 38, vI 1, vI 0] ++ uS 39 3), (cn_62, [17, 18, 19, 20, 21], [0], uS 45 6), (cn_62, [22, 23, 24, 25, 26], [0], uS 51 6)] [] (scS ct_87 (scS ct_89 (scS ct_62 (scS ct_62 sc0)))) (by decide +kernel)
def dn_91 : List AD := [(64, 3, [vI 0, vI 1, vU 0])]
def cn_91 : Cn := ((13, [vR 0, vI 2], dn_91, 1), (some (vR 1), (dn_91 ++ [(64, 2, [vI 0, vI 1])]), []), (1, 1, 2, 40))
theorem ct_91 : CtH cn_91 := ctR 19 own_pl_7 rfl (own_okN_7 _) [(cn_46, [], [0], [])] [] (scS ct_46 sc0) (by decide +kernel)
def dn_92 : List AD := [(0, 0, [vR 8, vR 9, vU 0, vU 1, vR 1, vR 2, vR 3] ++ uS 2 6 ++ [vI 2] ++ uS 8 3 ++ [vR 4, vR 5, vR 6, vR 7] ++ uS 11 8), (64, 0, []), (65, 0, []), (64, 0, []), (64, 3, [vI 0, vI 1, vI 1]), (64, 3, [vI 0, vI 0, vI 0]), (64, 3, [vI 0, vI 0, vI 0]), (64, 3, [vI 0, vI 0, vI 0]), (64, 2, [vI 0, vU 19]), (65, 2, [vD 1, vU 20])]
def cn_92 : Cn := ((32, [vR 0], dn_92, 2), (none, (own_ed dn_92 [(0, 0, 0, [vR 8, vR 9, vU 0, vU 1, vR 10, vR 11, vR 3] ++ uS 2 6 ++ [vI 2] ++ uS 8 3 ++ [vR 4, vR 5, vR 6, vR 7] ++ uS 11 8), (6, 64, 3, [vI 0, vI 1, vI 1])] ++ [(64, 2, [vI 0, vI 0]), (65, 2, [vD 1, vD 0]), (64, 2, [vI 1, vI 1]), (64, 2, [vI 0, vI 0])]), []), (2, 4, 8, 54))
theorem ct_92 : CtH cn_92 := ctR 259 own_pl_0 rfl (own_okN_0 _) [(cn_45, [6], [0], [vI 0, vI 0, vI 0]), (cn_45, [7], [0], [vI 0, vI 0, vI 0]), (cn_91, [6], [0], [vI 1]), (cn_47, [7], [0], [vI 0])] [] (scS ct_45 (scS ct_45 (scS ct_91 (scS ct_47 sc0)))) (by decide +kernel)
def dn_93 : List AD := [(67, 2, [vR 1, vR 2]), (64, 1, [vI 0]), (64, 2, [vI 0, vI 1]), (68, 2, [vR 4, vR 5]), (65, 1, [vD 1]), (65, 2, [vD 2, vD 3]), (0, 0, [vR 7, vR 8, vU 0, vU 1, vR 9, vR 10, vR 11] ++ uS 2 6 ++ [vI 2, vR 12, vR 13, vR 14, vR 15, vR 16, vR 17, vR 18, vR 19, vR 20] ++ uS 8 6), (64, 0, []), (65, 0, []), (64, 0, []), (65, 0, []), (64, 0, []), (64, 2, [vU 14, vU 15]), (64, 2, [vU 16, vU 17]), (65, 2, [vU 18, vU 19]), (64, 3, [vI 0, vI 0, vI 0]), (64, 3, [vI 0, vI 0, vI 0]), (64, 3, [vI 0, vI 0, vI 0]), (64, 3, [vI 0, vI 0, vI 0]), (64, 2, [vU 20, vU 21]), (64, 2, [vU 22, vU 23])]
def cn_93 : Cn := ((10, [vR 6, vR 0, vR 3], dn_93, 4), (some (vI 1), (own_ed dn_93 [(6, 0, 0, [vR 45, vR 46, vU 0, vU 1, vR 47, vR 48, vR 11] ++ uS 2 6 ++ [vI 2, vR 12, vR 13, vR 14, vR 15, vR 16, vR 17, vR 18, vR 19, vR 20] ++ uS 8 5 ++ [vI 0]), (12, 64, 2, [vI 1, vI 0]), (13, 64, 2, [vI 1, vI 0]), (14, 65, 2, [vD 3, vD 1]), (15, 64, 3, [vI 0, vI 1, vI 1]), (17, 64, 3, [vI 0, vI 1, vI 1]), (19, 64, 2, [vI 1, vI 0]), (20, 64, 2, [vI 1, vI 0])] ++ [(3, 0, [vR 6, vR 22, vR 23, vR 24, vR 25, vR 30, vR 34, vR 39, vR 44, vI 1, vI 0]), (67, 2, [vR 26, vR 28]), (68, 2, [vR 27, vR 29]), (64, 2, [vI 0, vI 1]), (64, 2, [vI 0, vI 0]), (64, 1, [vI 0]), (65, 1, [vD 1]), (64, 2, [vI 0, vI 1]), (65, 2, [vD 2, vD 3]), (67, 2, [vR 31, vR 32]), (64, 2, [vI 0, vI 1]), (64, 1, [vI 1]), (64, 2, [vI 2, vI 1]), (4, 0, [vR 35, vR 36, vR 37, vR 38]), (64, 3, [vI (-1), vI (-1), vI (-1)]), (64, 2, [vI (-1), vI (-1)]), (64, 2, [vI (-1), vI (-1)]), (64, 2, [vI (-1), vI (-1)]), (4, 0, [vR 40, vR 41, vR 42, vR 43]), (64, 3, [vI (-1), vI (-1), vI (-1)]), (64, 2, [vI (-1), vI (-1)]), (64, 2, [vI (-1), vI (-1)]), (64, 2, [vI (-1), vI (-1)]), (64, 2, [vI (-1), vI (-1)]), (64, 2, [vI 0, vI 0]), (65, 2, [vD 2, vD 0]), (64, 2, [vI 0, vI 0]), (65, 2, [vD 2, vD 0]), (64, 2, [vI 1, vI 1]), (64, 2, [vI 0, vI 0])]), [(4, 3, 0, 0), (11, 4, 4472406533629990549, 1), (4, 2, 0, 0), (5, 0, 5, 0), (4, 3, 0, 0), (5, 6, 7, 0), (2, 4591870180066957722, 8, 0), (10, 4, 9, 1), (4, 1, 0, 0), (11, 10, 4472406533629990549, 1), (4, 1, 0, 0), (5, 0, 11, 0), (2, 4591870180066957722, 12, 0), (10, 10, 13, 1)]), (4, 30, 72, 93))
theorem ct_93 : CtH cn_93 := ctR 65 own_pl_0 rfl (own_okN_0 _) [(cn_77, [0, 1, 2, 3, 4, 5, 6, 21], [0, 1, 2, 3], [vR 7, vR 8, vU 0, vU 1, vR 9, vR 10, vR 11] ++ uS 2 6 ++ [vR 12, vR 13, vR 14, vR 15, vR 16, vR 17, vR 18, vR 19, vR 20] ++ uS 8 5 ++ [vI 0, .null, .null, .null, vI 0, vI 0]), (cn_80, [6, 21, 22, 23, 24, 25, 28, 29, 30, 32, 34, 35, 39, 40, 41], [0, 2, 3], [vR 7, vR 8, vU 0, vU 1, vR 9, vR 10, vR 11] ++ uS 2 6 ++ [vR 12, vR 13, vR 14, vR 15, vR 16, vR 17, vR 18, vR 19, vR 20] ++ uS 8 5 ++ [vI 0, vR 44, vI 0, vI 0, vR 26, vR 27, vI 1, vI 2, vR 31, vR 36, vR 37, vR 38, vI (-1), vI 1, vR 42, vR 43, vI (-1), vI 0, vI (-1)]), (cn_86, [6, 7, 8, 12, 13, 14, 15, 16, 19, 20, 21, 22, 23, 24, 25, 28, 29, 30, 31, 32, 34, 35, 36, 37, 38, 39, 40, 41, 42, 43], [0, 2, 3], [vU 0, vU 1, vR 9, vR 10, vR 11] ++ uS 2 6 ++ [vR 17, vR 18] ++ uS 8 5 ++ [vI 0] ++ uS 14 6 ++ rp 6 (vI 0) ++ uS 20 4 ++ [vR 44, vR 26, vR 27, vI 1, vI (-1), vI 0, vI 1, vI (-1), vI (-1), vI 1, vI (-1), vI 0]), (cn_88, [6, 21, 22, 23, 24, 25, 26, 27, 30, 31, 34, 35, 39, 40, 41], [0, 1], [vR 45, vR 46, vU 0, vU 1, vR 9, vR 10, vR 11] ++ uS 2 6 ++ [vR 12, vR 13, vR 14, vR 15, vR 16, vR 17, vR 18, vR 19, vR 20] ++ uS 8 5 ++ [vI 0, vR 44, vI 1, vI 0, vR 28, vR 29, vI 1, vI 0, vR 32, vI 1, vR 36, vR 37, vR 38, vI (-1), vI (-1), vR 42, vR 43, vI (-1), vI (-1), vI (-1)]), (cn_90, [6, 12, 13, 14, 15, 16, 19, 20, 21, 22, 23, 24, 25, 26, 27, 30, 31, 34, 35, 36, 37, 38, 39, 40, 41, 42, 43], [0, 1], [vR 45, vR 46, vU 0, vU 1, vR 9, vR 10, vR 11] ++ uS 2 6 ++ [vI 2, vR 17, vR 18] ++ uS 8 5 ++ [vI 0, vI 1, vU 15, vI 1, vU 17, vD 3, vU 19, vI 0, vI 1, vI 0, vI 0, vI 0, vI 0, vU 20, vI 0, vU 22, vI 0, vR 44, vR 28, vR 29, vI 1, vI 0, vR 32, vI 1, vI (-1), vI 0] ++ rp 5 (vI (-1)) ++ [vI 0, vI (-1), vI (-1), vI (-1), vI (-1)]), (cn_92, [6, 9, 10, 11, 15, 16, 17, 18, 45, 46], [0, 2], uS 0 8 ++ [vR 12, vR 13, vR 14, vR 19, vR 20] ++ uS 8 5 ++ [vI 0, vI 0, vD 0])] [] (scS ct_77 (scS ct_80 (scS ct_86 (scS ct_88 (scS ct_90 (scS ct_92 sc0)))))) (by decide +kernel)
def dn_94 : List AD := [(67, 2, [vR 1, vR 2]), (64, 2, [vI 0, vI 1]), (64, 1, [vI 1]), (68, 2, [vR 4, vR 5]), (65, 2, [vD 1, vD 2]), (65, 1, [vD 3]), (0, 0, uS 0 13 ++ [vI 2] ++ uS 13 15), (3, 0, [vU 28] ++ rp 5 (.null) ++ [vU 29, vU 30, .null, vU 31, vU 32])]
def cn_94 : Cn := ((11, [vR 7, vR 6, vR 0, vR 3], dn_94, 4), (none, (own_ed dn_94 [(7, 3, 0, [vR 6, vR 8, vR 9, vR 10, vR 11, vR 16, vR 20, vR 25, vR 30, vU 31, vU 32])] ++ [(67, 2, [vR 12, vR 14]), (68, 2, [vR 13, vR 15]), (64, 2, [vI 2, vI 1]), (64, 2, [vI 1, vI 2]), (64, 2, [vI 0, vI 1]), (65, 2, [vD 1, vD 2]), (64, 1, [vI 1]), (65, 1, [vD 3]), (67, 2, [vR 17, vR 18]), (64, 1, [vI 0]), (64, 2, [vI 0, vI 1]), (64, 2, [vI 1, vI 2]), (4, 0, [vR 21, vR 22, vR 23, vR 24]), (64, 3, [vI (-1), vI 1, vI 0]), (64, 2, [vI (-1), vI (-1)]), (64, 2, [vI (-1), vI (-1)]), (64, 2, [vI 2, vI 1]), (4, 0, [vR 26, vR 27, vR 28, vR 29]), (64, 3, [vI (-1), vI 0, vI 1]), (64, 2, [vI (-1), vI (-1)]), (64, 2, [vI (-1), vI (-1)]), (64, 2, [vI 1, vI 2]), (64, 2, [vI (-1), vI (-1)])]), []), (2, 23, 49, 32))
theorem ct_94 : CtH cn_94 := ctR 375 own_pl_1 rfl (own_okI_1) [(cn_5, [], [0], []), (cn_6, [1], [0], []), (cn_7, [4], [0, 1, 2], []), (cn_52, [], [0], []), (cn_53, [2], [0], []), (cn_54, [5], [0, 3], []), (cn_52, [], [0], []), (cn_5, [], [0], []), (cn_76, [6, 10, 20], [0], uS 0 28), (cn_56, [6, 11, 25], [0], uS 0 28), (cn_9, [30], [0], [vI 0, vI 0])] [] (scS ct_5 (scS ct_6 (scS ct_7 (scS ct_52 (scS ct_53 (scS ct_54 (scS ct_52 (scS ct_5 (scS ct_76 (scS ct_56 (scS ct_9 sc0))))))))))) (by decide +kernel)
def dn_95 : List AD := [(0, 0, uS 0 13 ++ [vI 2] ++ uS 13 15), (3, 0, [vR 0, vR 2, vR 3, vR 4, vR 5, vR 8, vR 10, vR 12] ++ uS 28 3), (67, 2, [vR 6, vU 31]), (68, 2, [vR 7, vU 32]), (64, 2, [vI 2, vU 33]), (64, 2, [vI 1, vU 34]), (64, 2, [vI 0, vU 35]), (65, 2, [vD 1, vD 2]), (67, 2, [vR 9, vU 36]), (64, 1, [vI 0]), (4, 0, [vR 11] ++ uS 37 3), (64, 3, [vU 40, vI 1, vU 41]), (4, 0, [vR 13, vR 14, vU 42, vU 43]), (64, 3, [vU 44, vI 0, vU 45]), (64, 2, [vI (-1), vU 46])]
def cn_95 : Cn := ((18, [vR 1], dn_95, 3), (some (.long 0), (dn_95), [(4, 1, 0, 0), (11, 3, 4472406533629990549, 1), (4, 1, 0, 0), (5, 0, 4, 0), (4, 2, 0, 0), (5, 5, 6, 0), (2, 4591870180066957722, 7, 0), (10, 3, 8, 1)]), (2, 0, 0, 37))
theorem ct_95 : CtH cn_95 := ctR 139 own_pl_1 rfl (own_okN_1 _) [(cn_58, [12, 13], [0], [vR 14] ++ uS 42 4), (cn_16, [1, 2, 6], [0], [vR 0, vR 3, vR 4, vR 5, vR 8, vR 10, vR 12] ++ uS 28 4 ++ [vU 35]), (cn_17, [1, 3, 4, 7], [0, 1, 2], [vR 0, vR 2, vR 5, vR 8, vR 10, vR 12] ++ uS 28 3 ++ [vU 32, vU 33]), (cn_60, [12, 14], [0], [vR 13, vU 42, vU 43, vU 46]), (cn_38, [10, 11], [0], uS 37 5)] [] (scS ct_58 (scS ct_16 (scS ct_17 (scS ct_60 (scS ct_38 sc0))))) (by decide +kernel)
def dn_96 : List AD := [(0, 0, [vR 1, vR 2] ++ uS 0 11 ++ [vI 2, vR 3, vR 4, vR 5, vR 6, vR 7, vU 11, vU 12, vR 8, vR 9] ++ uS 13 6), (64, 0, []), (65, 0, []), (64, 2, [vU 19, vU 20]), (64, 2, [vU 21, vU 22]), (65, 2, [vU 23, vU 24]), (64, 3, uS 25 3), (64, 3, uS 28 3), (64, 2, [vU 31, vU 32]), (64, 2, [vU 33, vU 34]), (3, 0, [vR 0, vR 11, vR 12, vR 13, vR 14, vR 17, vR 20, vR 25, vU 35, vI 0, vI 0]), (67, 2, [vR 15, vU 36]), (68, 2, [vR 16, vU 37]), (64, 2, [vI 2, vU 38]), (64, 2, [vI 1, vI 2]), (64, 2, [vI 0, vI 1]), (65, 2, [vD 1, vD 2]), (67, 2, [vR 18, vR 19]), (64, 1, [vI 0]), (64, 2, [vI 0, vI 1]), (4, 0, [vR 21, vR 22, vR 23, vR 24]), (64, 3, uS 39 3), (64, 2, [vI (-1), vU 42]), (64, 2, [vI (-1), vU 43]), (64, 2, [vI 2, vU 44]), (4, 0, [vR 26, vR 27, vR 28, vR 29]), (64, 3, [vU 45, vI 0, vU 46]), (64, 2, [vI (-1), vI (-1)]), (64, 2, [vI (-1), vI (-1)]), (64, 2, [vI 1, vI 2])]
def cn_96 : Cn := ((25, [vR 10, vI 0, vI 0, vI 0], dn_96, 3), (none, (own_ed dn_96 [(0, 0, 0, [vR 30, vR 31] ++ uS 0 11 ++ [vI 2, vR 3, vR 4, vR 5, vR 6, vR 7, vU 11, vU 12, vR 8, vR 9] ++ uS 13 6), (3, 64, 2, [vI 0, vU 20]), (4, 64, 2, [vI 0, vU 22]), (5, 65, 2, [vD 1, vU 24]), (6, 64, 3, [vI 0, vI 1, vU 27]), (7, 64, 3, [vI 0, vI 0, vU 30]), (8, 64, 2, [vI 0, vU 32]), (9, 64, 2, [vI 0, vU 34]), (10, 3, 0, [vR 0, vR 11, vR 12, vR 13, vR 14, vR 17, vR 20, vR 25, vU 35, vI 1, vI 0]), (13, 64, 2, [vI 1, vU 38]), (14, 64, 2, [vI 0, vI 1]), (15, 64, 2, [vI 1, vI 1]), (16, 65, 2, [vD 2, vD 2]), (19, 64, 2, [vI 1, vI 1]), (21, 64, 3, [vU 39, vU 40, vI (-1)]), (24, 64, 2, [vI (-1), vU 44]), (26, 64, 3, [vU 45, vI 1, vI (-1)]), (29, 64, 2, [vI (-1), vI 1])] ++ [(64, 2, [vI 1, vI 0]), (65, 2, [vD 2, vD 0])]), []), (3, 2, 4, 70))
theorem ct_96 : CtH cn_96 := ctR 185 own_pl_1 rfl (own_okN_1 _) [(cn_16, [10, 11, 15], [0], [vR 0, vR 12, vR 13, vR 14, vR 17, vR 20, vR 25, vU 35, vI 0, vI 0, vU 36, vI 1]), (cn_21, [10, 11, 12, 13, 15, 16], [0, 2], [vR 0, vR 14, vR 17, vR 20, vR 25, vU 35, vI 0, vI 0] ++ uS 36 3 ++ [vI 0, vD 1]), (cn_26, [0, 1, 2, 10], [0, 2], uS 0 11 ++ [vR 3, vR 4, vR 5, vR 6, vR 7, vU 11, vU 12, vR 8, vR 9] ++ uS 13 6 ++ [vR 11, vR 12, vR 13, vR 14, vR 17, vR 20, vR 25, vU 35, vI 0]), (cn_84, [20, 21, 22, 23, 24], [0], uS 39 6), (cn_62, [25, 26, 27, 28, 29], [0], [vU 45, vI 0, vU 46, vI (-1), vI (-1), vI 2]), (cn_28, [10, 14, 17, 19], [0], [vR 0, vR 11, vR 12, vR 13, vR 20, vR 25, vU 35, vI 1, vI 0, vI 1, vR 18]), (cn_31, [25, 26, 27, 28, 29], [0], [vU 45, vU 46, vI (-1), vI (-1), vI (-1)])] [] (scS ct_16 (scS ct_21 (scS ct_26 (scS ct_84 (scS ct_62 (scS ct_28 (scS ct_31 sc0))))))) (by decide +kernel)
def dn_97 : List AD := [(3, 0, [vU 0, vR 1] ++ uS 1 9), (67, 2, [vU 10, vR 2]), (64, 1, [vI 1])]
def cn_97 : Cn := ((20, [vR 0, vI 1, vI 1], dn_97, 1), (some (vI 0), (dn_97), []), (0, 0, 0, 0))
theorem ct_97 : CtH cn_97 := ctR 13 own_pl_1 rfl (own_okN_1 _) [] [] sc0 (by decide +kernel)
def dn_98 : List AD := [(3, 0, [vU 0, vU 1, vR 1, vR 2] ++ uS 2 7), (68, 2, [vU 9, vR 3]), (64, 2, [vU 10, vI 1]), (65, 1, [vD 1])]
def cn_98 : Cn := ((21, [vR 0, vI 1, vD 1], dn_98, 2), (some (vI 1), (dn_98), [(4, 1, 0, 0), (11, 2, 4472406533629990549, 1), (4, 1, 0, 0), (5, 0, 3, 0), (2, 4591870180066957722, 4, 0), (10, 2, 5, 1)]), (1, 0, 0, 17))
theorem ct_98 : CtH cn_98 := ctR 45 own_pl_1 rfl (own_okN_1 _) [] [1, 1] sc0 (by decide +kernel)
def dn_99 : List AD := [(0, 0, uS 0 13 ++ [vI 2] ++ uS 13 15), (3, 0, [vR 0, vR 2, vR 3, vR 4, vR 5, vR 8, vR 10, vR 12] ++ uS 28 3), (67, 2, [vU 31, vR 6]), (68, 2, [vU 32, vR 7]), (64, 2, [vU 33, vI 1]), (64, 2, [vU 34, vI 1]), (64, 1, [vI 1]), (65, 1, [vD 1]), (67, 2, [vU 35, vR 9]), (64, 2, [vI 1, vU 36]), (4, 0, [vR 11] ++ uS 37 3), (64, 3, [vU 40, vI 1, vU 41]), (4, 0, [vR 13, vR 14, vU 42, vU 43]), (64, 3, [vU 44, vI 1, vU 45]), (64, 2, [vU 46, vI (-1)])]
def cn_99 : Cn := ((18, [vR 1], dn_99, 2), (some (.long 4294967297), (dn_99), [(4, 1, 0, 0), (11, 2, 4472406533629990549, 1), (4, 1, 0, 0), (5, 0, 3, 0), (2, 4591870180066957722, 4, 0), (10, 2, 5, 1)]), (2, 0, 0, 37))
theorem ct_99 : CtH cn_99 := ctR 139 own_pl_1 rfl (own_okN_1 _) [(cn_38, [12, 13], [0], [vR 14] ++ uS 42 4), (cn_97, [1, 2, 6], [0], [vR 0, vR 3, vR 4, vR 5, vR 8, vR 10, vR 12] ++ uS 28 4), (cn_98, [1, 3, 4, 7], [0, 1], [vR 0, vR 2, vR 5, vR 8, vR 10, vR 12] ++ uS 28 3 ++ [vU 32, vU 33]), (cn_19, [12, 14], [0], [vR 13, vU 42, vU 43, vU 46]), (cn_38, [10, 11], [0], uS 37 5)] [] (scS ct_38 (scS ct_97 (scS ct_98 (scS ct_19 (scS ct_38 sc0))))) (by decide +kernel)
def dn_100 : List AD := [(3, 0, [vU 0, vR 1, vR 2, vR 3] ++ uS 1 7), (67, 2, [vU 8, vR 4]), (68, 2, [vU 9, vR 5]), (64, 2, [vU 10, vI 1]), (64, 1, [vI 1]), (65, 1, [vD 1])]
def cn_100 : Cn := ((26, [vR 0, vI 1, vI 0], dn_100, 2), (none, (own_ed dn_100 [(3, 64, 2, [vU 10, vI 0])]), []), (0, 0, 0, 0))
theorem ct_100 : CtH cn_100 := ctR 36 own_pl_1 rfl (own_okN_1 _) [] [] sc0 (by decide +kernel)
def dn_101 : List AD := [(0, 0, uS 0 14 ++ [vR 1, vR 2, vR 3, vR 4, vR 5, vU 14, vU 15, vR 6, vR 7] ++ uS 16 6), (64, 2, [vU 22, vU 23]), (64, 2, [vU 24, vU 25]), (65, 2, [vU 26, vU 27]), (64, 3, uS 28 3), (64, 3, uS 31 3), (64, 2, [vU 34, vU 35]), (64, 2, [vU 36, vU 37]), (3, 0, [vR 0, vR 9, vR 10, vR 11, vR 12, vR 15, vR 17, vR 22, vU 38, vI 1, vI 0]), (67, 2, [vU 39, vR 13]), (68, 2, [vU 40, vR 14]), (64, 2, [vU 41, vI 1]), (64, 2, [vU 42, vI 1]), (64, 1, [vI 1]), (65, 1, [vD 1]), (67, 2, [vU 43, vR 16]), (64, 2, [vI 1, vU 44]), (4, 0, [vR 18, vR 19, vR 20, vR 21]), (64, 3, uS 45 3), (64, 2, [vU 48, vI (-1)]), (64, 2, [vU 49, vI (-1)]), (64, 2, [vU 50, vI 1]), (4, 0, [vR 23, vR 24, vR 25, vR 26]), (64, 3, uS 51 3), (64, 2, [vU 54, vI (-1)]), (64, 2, [vU 55, vI (-1)]), (64, 2, [vU 56, vI 1])]
def cn_101 : Cn := ((25, [vR 8, vI 1, vI 1, vI 1], dn_101, 2), (none, (own_ed dn_101 [(1, 64, 2, [vU 22, vI 1]), (2, 64, 2, [vU 24, vI 1]), (3, 65, 2, [vU 26, vD 1]), (4, 64, 3, [vU 28, vI 1, vI 1]), (5, 64, 3, [vU 31, vI 0, vI 0]), (6, 64, 2, [vU 34, vI 1]), (7, 64, 2, [vU 36, vI 1]), (11, 64, 2, [vU 41, vI 0]), (12, 64, 2, [vU 42, vI 0]), (18, 64, 3, [vU 45, vI (-1), vU 47]), (21, 64, 2, [vU 50, vI (-1)]), (23, 64, 3, [vU 51, vI (-1), vU 53]), (26, 64, 2, [vU 56, vI (-1)])]), []), (1, 0, 0, 15))
theorem ct_101 : CtH cn_101 := ctR 136 own_pl_1 rfl (own_okN_1 _) [(cn_97, [8, 9, 13], [0], [vR 0, vR 10, vR 11, vR 12, vR 15, vR 17, vR 22, vU 38, vI 1, vI 0, vU 39]), (cn_100, [8, 9, 10, 11, 13, 14], [0, 1], [vR 0, vR 12, vR 15, vR 17, vR 22, vU 38, vI 1, vI 0] ++ uS 39 3), (cn_43, [17, 18, 19, 20, 21], [0], uS 45 6), (cn_43, [22, 23, 24, 25, 26], [0], uS 51 6)] [] (scS ct_97 (scS ct_100 (scS ct_43 (scS ct_43 sc0)))) (by decide +kernel)
def dn_102 : List AD := [(67, 2, [vR 1, vR 2]), (64, 2, [vI 0, vI 1]), (64, 1, [vI 1]), (68, 2, [vR 4, vR 5]), (65, 2, [vD 1, vD 2]), (65, 1, [vD 3]), (0, 0, [vR 7, vR 8, vU 0, vU 1, vR 9, vR 10, vR 11] ++ uS 2 6 ++ [vI 2, vR 12, vR 13, vR 14, vR 15, vR 16, vR 17, vR 18, vR 19, vR 20] ++ uS 8 6), (64, 0, []), (65, 0, []), (64, 0, []), (65, 0, []), (64, 0, []), (64, 2, [vU 14, vU 15]), (64, 2, [vU 16, vU 17]), (65, 2, [vU 18, vU 19]), (64, 3, [vI 0, vI 0, vI 0]), (64, 3, [vI 0, vI 0, vI 0]), (64, 3, [vI 0, vI 0, vI 0]), (64, 3, [vI 0, vI 0, vI 0]), (64, 2, [vU 20, vU 21]), (64, 2, [vU 22, vU 23])]
def cn_102 : Cn := ((10, [vR 6, vR 0, vR 3], dn_102, 4), (some (vI 1), (own_ed dn_102 [(6, 0, 0, [vR 45, vR 46, vU 0, vU 1, vR 47, vR 48, vR 11] ++ uS 2 6 ++ [vI 2, vR 12, vR 13, vR 14, vR 15, vR 16, vR 17, vR 18, vR 19, vR 20] ++ uS 8 5 ++ [vI 0]), (12, 64, 2, [vI 0, vI 1]), (13, 64, 2, [vI 0, vI 1]), (14, 65, 2, [vD 1, vD 3]), (15, 64, 3, [vI 0, vI 1, vI 1]), (17, 64, 3, [vI 0, vI 0, vI 1]), (19, 64, 2, [vI 0, vI 1]), (20, 64, 2, [vI 0, vI 1])] ++ [(3, 0, [vR 6, vR 22, vR 23, vR 24, vR 25, vR 30, vR 34, vR 39, vR 44, vI 1, vI 0]), (67, 2, [vR 26, vR 28]), (68, 2, [vR 27, vR 29]), (64, 2, [vI 1, vI 0]), (64, 2, [vI 0, vI 0]), (64, 2, [vI 1, vI 1]), (65, 2, [vD 2, vD 2]), (64, 1, [vI 1]), (65, 1, [vD 3]), (67, 2, [vR 31, vR 32]), (64, 1, [vI 0]), (64, 2, [vI 1, vI 1]), (64, 2, [vI 1, vI 2]), (4, 0, [vR 35, vR 36, vR 37, vR 38]), (64, 3, [vI (-1), vI (-1), vI (-1)]), (64, 2, [vI (-1), vI (-1)]), (64, 2, [vI (-1), vI (-1)]), (64, 2, [vI (-1), vI (-1)]), (4, 0, [vR 40, vR 41, vR 42, vR 43]), (64, 3, [vI (-1), vI (-1), vI (-1)]), (64, 2, [vI (-1), vI (-1)]), (64, 2, [vI (-1), vI (-1)]), (64, 2, [vI (-1), vI (-1)]), (64, 2, [vI (-1), vI (-1)]), (64, 2, [vI 1, vI 0]), (65, 2, [vD 2, vD 0]), (64, 2, [vI 0, vI 0]), (65, 2, [vD 2, vD 0]), (64, 2, [vI 0, vI 1]), (64, 2, [vI 0, vI 0])]), [(4, 1, 0, 0), (11, 4, 4472406533629990549, 1), (4, 1, 0, 0), (5, 0, 5, 0), (4, 2, 0, 0), (5, 6, 7, 0), (2, 4591870180066957722, 8, 0), (10, 4, 9, 1), (4, 3, 0, 0), (11, 10, 4472406533629990549, 1), (4, 3, 0, 0), (5, 0, 11, 0), (2, 4591870180066957722, 12, 0), (10, 10, 13, 1)]), (4, 30, 72, 93))
theorem ct_102 : CtH cn_102 := ctR 65 own_pl_0 rfl (own_okN_0 _) [(cn_94, [0, 1, 2, 3, 4, 5, 6, 21], [0, 1, 2, 3], [vR 7, vR 8, vU 0, vU 1, vR 9, vR 10, vR 11] ++ uS 2 6 ++ [vR 12, vR 13, vR 14, vR 15, vR 16, vR 17, vR 18, vR 19, vR 20] ++ uS 8 5 ++ [vI 0, .null, .null, .null, vI 0, vI 0]), (cn_95, [6, 21, 22, 23, 24, 25, 26, 27, 30, 31, 34, 35, 39, 40, 41], [0, 1, 2], [vR 7, vR 8, vU 0, vU 1, vR 9, vR 10, vR 11] ++ uS 2 6 ++ [vR 12, vR 13, vR 14, vR 15, vR 16, vR 17, vR 18, vR 19, vR 20] ++ uS 8 5 ++ [vI 0, vR 44, vI 0, vI 0, vR 28, vR 29, vI 1, vI 2, vI 1, vR 32, vR 36, vR 37, vR 38, vI (-1), vI 0, vR 42, vR 43, vI (-1), vI 1, vI (-1)]), (cn_96, [6, 7, 8, 12, 13, 14, 15, 16, 19, 20, 21, 22, 23, 24, 25, 26, 27, 30, 31, 32, 34, 35, 36, 37, 38, 39, 40, 41, 42, 43], [0, 1, 2], [vU 0, vU 1, vR 9, vR 10, vR 11] ++ uS 2 6 ++ [vR 17, vR 18] ++ uS 8 5 ++ [vI 0] ++ uS 14 6 ++ rp 6 (vI 0) ++ uS 20 4 ++ [vR 44, vR 28, vR 29, vI 1, vI (-1), vI 1, vI 0, vI (-1), vI (-1), vI 1, vI (-1), vI 1]), (cn_99, [6, 21, 22, 23, 24, 25, 28, 29, 30, 32, 34, 35, 39, 40, 41], [0, 3], [vR 45, vR 46, vU 0, vU 1, vR 9, vR 10, vR 11] ++ uS 2 6 ++ [vR 12, vR 13, vR 14, vR 15, vR 16, vR 17, vR 18, vR 19, vR 20] ++ uS 8 5 ++ [vI 0, vR 44, vI 1, vI 0, vR 26, vR 27, vI 1, vI 0, vR 31, vI 1, vR 36, vR 37, vR 38, vI (-1), vI (-1), vR 42, vR 43, vI (-1), vI (-1), vI (-1)]), (cn_101, [6, 12, 13, 14, 15, 16, 19, 20, 21, 22, 23, 24, 25, 28, 29, 30, 32, 34, 35, 36, 37, 38, 39, 40, 41, 42, 43], [0, 3], [vR 45, vR 46, vU 0, vU 1, vR 9, vR 10, vR 11] ++ uS 2 6 ++ [vI 2, vR 17, vR 18] ++ uS 8 5 ++ [vI 0, vI 0, vU 15, vI 0, vU 17, vD 1, vU 19, vI 0, vI 1] ++ rp 5 (vI 0) ++ [vU 21, vI 0, vU 23, vR 44, vR 26, vR 27, vI 1, vI 0, vR 31, vI 1, vI (-1), vI 1] ++ rp 5 (vI (-1)) ++ [vI 1, vI (-1), vI (-1), vI (-1), vI (-1)]), (cn_70, [6, 9, 10, 11, 15, 16, 17, 18, 45, 46], [0, 2], uS 0 8 ++ [vR 12, vR 13, vR 14, vR 19, vR 20] ++ uS 8 5 ++ [vI 0, vI 0, vD 0])] [] (scS ct_94 (scS ct_95 (scS ct_96 (scS ct_99 (scS ct_101 (scS ct_70 sc0)))))) (by decide +kernel)
def dn_103 : List AD := [(67, 2, [vR 1, vR 2]), (64, 2, [vI 0, vI 1]), (64, 1, [vI 0]), (68, 2, [vR 4, vR 5]), (65, 2, [vD 1, vD 2]), (65, 1, [vD 3]), (0, 0, uS 0 13 ++ [vI 2] ++ uS 13 15), (3, 0, [vU 28] ++ rp 5 (.null) ++ [vU 29, vU 30, .null, vU 31, vU 32])]
def cn_103 : Cn := ((11, [vR 7, vR 6, vR 0, vR 3], dn_103, 4), (none, (own_ed dn_103 [(7, 3, 0, [vR 6, vR 8, vR 9, vR 10, vR 11, vR 16, vR 20, vR 25, vR 30, vU 31, vU 32])] ++ [(67, 2, [vR 12, vR 14]), (68, 2, [vR 13, vR 15]), (64, 2, [vI 2, vI 1]), (64, 2, [vI 2, vI 1]), (64, 2, [vI 0, vI 1]), (65, 2, [vD 1, vD 2]), (64, 1, [vI 0]), (65, 1, [vD 3]), (67, 2, [vR 17, vR 18]), (64, 2, [vI 0, vI 1]), (64, 1, [vI 0]), (64, 2, [vI 2, vI 1]), (4, 0, [vR 21, vR 22, vR 23, vR 24]), (64, 3, [vI (-1), vI 1, vI 0]), (64, 2, [vI (-1), vI (-1)]), (64, 2, [vI (-1), vI (-1)]), (64, 2, [vI 2, vI 1]), (4, 0, [vR 26, vR 27, vR 28, vR 29]), (64, 3, [vI (-1), vI 1, vI 0]), (64, 2, [vI (-1), vI (-1)]), (64, 2, [vI (-1), vI (-1)]), (64, 2, [vI 2, vI 1]), (64, 2, [vI (-1), vI (-1)])]), []), (2, 23, 49, 32))
theorem ct_103 : CtH cn_103 := ctR 375 own_pl_1 rfl (own_okI_1) [(cn_5, [], [0], []), (cn_6, [1], [0], []), (cn_7, [4], [0, 1, 2], []), (cn_52, [], [0], []), (cn_74, [2], [0], []), (cn_54, [5], [0, 3], []), (cn_5, [], [0], []), (cn_52, [], [0], []), (cn_76, [6, 10, 20], [0], uS 0 28), (cn_76, [6, 11, 25], [0], uS 0 28), (cn_9, [30], [0], [vI 0, vI 0])] [] (scS ct_5 (scS ct_6 (scS ct_7 (scS ct_52 (scS ct_74 (scS ct_54 (scS ct_5 (scS ct_52 (scS ct_76 (scS ct_76 (scS ct_9 sc0))))))))))) (by decide +kernel)
def dn_104 : List AD := [(3, 0, [vU 0, vR 1] ++ uS 1 9), (67, 2, [vR 2, vU 10]), (64, 2, [vI 0, vI 1])]
def cn_104 : Cn := ((20, [vR 0, vI 0, vI 1], dn_104, 1), (some (vI 1), (dn_104), []), (0, 0, 0, 0))
theorem ct_104 : CtH cn_104 := ctR 23 own_pl_1 rfl (own_okN_1 _) [] [] sc0 (by decide +kernel)
def dn_105 : List AD := [(3, 0, [vU 0, vU 1, vR 1, vR 2] ++ uS 2 7), (68, 2, [vR 3, vU 9]), (64, 2, [vI 2, vU 10]), (65, 2, [vD 2, vD 1])]
def cn_105 : Cn := ((21, [vR 0, vI 0, vD 1], dn_105, 3), (some (vI 1), (dn_105), [(4, 1, 0, 0), (11, 3, 4472406533629990549, 1), (4, 2, 0, 0), (5, 0, 4, 0), (4, 1, 0, 0), (5, 5, 6, 0), (2, 4591870180066957722, 7, 0), (10, 3, 8, 1)]), (1, 0, 0, 17))
theorem ct_105 : CtH cn_105 := ctR 63 own_pl_1 rfl (own_okN_1 _) [] [1, 1] sc0 (by decide +kernel)
def dn_106 : List AD := [(0, 0, uS 0 13 ++ [vI 2] ++ uS 13 15), (3, 0, [vR 0, vR 2, vR 3, vR 4, vR 5, vR 8, vR 10, vR 12] ++ uS 28 3), (67, 2, [vR 6, vU 31]), (68, 2, [vR 7, vU 32]), (64, 2, [vI 2, vU 33]), (64, 2, [vU 34, vI 1]), (64, 2, [vI 0, vI 1]), (65, 2, [vD 1, vD 2]), (67, 2, [vU 35, vR 9]), (64, 1, [vI 0]), (4, 0, [vR 11] ++ uS 36 3), (64, 3, [vU 39, vI 1, vU 40]), (4, 0, [vR 13, vR 14, vU 41, vU 42]), (64, 3, [vU 43, vI 1, vU 44]), (64, 2, [vU 45, vI (-1)])]
def cn_106 : Cn := ((18, [vR 1], dn_106, 3), (some (.long 1), (dn_106), [(4, 2, 0, 0), (11, 3, 4472406533629990549, 1), (4, 1, 0, 0), (5, 0, 4, 0), (4, 2, 0, 0), (5, 5, 6, 0), (2, 4591870180066957722, 7, 0), (10, 3, 8, 1)]), (2, 0, 0, 37))
theorem ct_106 : CtH cn_106 := ctR 139 own_pl_1 rfl (own_okN_1 _) [(cn_38, [12, 13], [0], [vR 14] ++ uS 41 4), (cn_104, [1, 2, 6], [0], [vR 0, vR 3, vR 4, vR 5, vR 8, vR 10, vR 12] ++ uS 28 4), (cn_105, [1, 3, 4, 7], [0, 2, 1], [vR 0, vR 2, vR 5, vR 8, vR 10, vR 12] ++ uS 28 3 ++ [vU 32, vU 33]), (cn_19, [12, 14], [0], [vR 13, vU 41, vU 42, vU 45]), (cn_38, [10, 11], [0], uS 36 5)] [] (scS ct_38 (scS ct_104 (scS ct_105 (scS ct_19 (scS ct_38 sc0))))) (by decide +kernel)
def cn_107 : Cn := ((26, [vR 0, vI 0, vI 1], dn_21, 2), (none, (own_ed dn_21 [(3, 64, 2, [vI 1, vU 10])]), []), (0, 0, 0, 0))
theorem ct_107 : CtH cn_107 := ctR 36 own_pl_1 rfl (own_okN_1 _) [] [] sc0 (by decide +kernel)
def cn_108 : Cn := ((30, [vR 0, vI 0, vI 0], dn_83, 1), (none, (own_ed dn_83 [(1, 64, 2, [vI 1, vU 9]), (3, 64, 2, [vI 1, vI 1])]), []), (0, 0, 0, 0))
theorem ct_108 : CtH cn_108 := ctR 32 own_pl_1 rfl (own_okN_1 _) [] [] sc0 (by decide +kernel)
def dn_109 : List AD := [(0, 0, [vR 1, vR 2] ++ uS 0 11 ++ [vI 2, vR 3, vR 4, vR 5, vR 6, vR 7, vU 11, vU 12, vR 8, vR 9] ++ uS 13 6), (64, 0, []), (65, 0, []), (64, 2, [vU 19, vU 20]), (64, 2, [vU 21, vU 22]), (65, 2, [vU 23, vU 24]), (64, 3, uS 25 3), (64, 3, uS 28 3), (64, 2, [vU 31, vU 32]), (64, 2, [vU 33, vU 34]), (3, 0, [vR 0, vR 11, vR 12, vR 13, vR 14, vR 17, vR 20, vR 25, vU 35, vI 0, vI 0]), (67, 2, [vR 15, vU 36]), (68, 2, [vR 16, vU 37]), (64, 2, [vI 2, vU 38]), (64, 2, [vI 2, vI 1]), (64, 2, [vI 0, vI 1]), (65, 2, [vD 1, vD 2]), (67, 2, [vR 18, vR 19]), (64, 2, [vI 0, vI 1]), (64, 1, [vI 0]), (4, 0, [vR 21, vR 22, vR 23, vR 24]), (64, 3, uS 39 3), (64, 2, [vI (-1), vU 42]), (64, 2, [vI (-1), vU 43]), (64, 2, [vI 2, vU 44]), (4, 0, [vR 26, vR 27, vR 28, vR 29]), (64, 3, [vU 45, vI 1, vU 46]), (64, 2, [vI (-1), vI (-1)]), (64, 2, [vI (-1), vI (-1)]), (64, 2, [vI 2, vI 1])]
def cn_109 : Cn := ((25, [vR 10, vI 0, vI 0, vI 1], dn_109, 3), (none, (own_ed dn_109 [(0, 0, 0, [vR 30, vR 31] ++ uS 0 11 ++ [vI 2, vR 3, vR 4, vR 5, vR 6, vR 7, vU 11, vU 12, vR 8, vR 9] ++ uS 13 6), (3, 64, 2, [vI 0, vU 20]), (4, 64, 2, [vI 1, vU 22]), (5, 65, 2, [vD 2, vU 24]), (6, 64, 3, [vI 0, vI 1, vU 27]), (7, 64, 3, [vI 0, vI 0, vU 30]), (8, 64, 2, [vI 0, vU 32]), (9, 64, 2, [vU 33, vI 0]), (10, 3, 0, [vR 0, vR 11, vR 12, vR 13, vR 14, vR 17, vR 20, vR 25, vU 35, vI 1, vI 0]), (13, 64, 2, [vI 1, vU 38]), (14, 64, 2, [vI 1, vI 0]), (18, 64, 2, [vI 1, vI 1]), (21, 64, 3, [vU 39, vU 40, vI (-1)]), (24, 64, 2, [vI (-1), vU 44]), (26, 64, 3, [vU 45, vI 0, vI (-1)]), (29, 64, 2, [vI 1, vI (-1)])] ++ [(64, 2, [vI 0, vI 0]), (65, 2, [vD 1, vD 0])]), []), (3, 2, 4, 70))
theorem ct_109 : CtH cn_109 := ctR 185 own_pl_1 rfl (own_okN_1 _) [(cn_104, [10, 11, 15], [0], [vR 0, vR 12, vR 13, vR 14, vR 17, vR 20, vR 25, vU 35, vI 0, vI 0, vU 36]), (cn_107, [10, 11, 12, 13, 15, 16], [0, 2], [vR 0, vR 14, vR 17, vR 20, vR 25, vU 35, vI 0, vI 0] ++ uS 36 3 ++ [vI 0, vD 1]), (cn_82, [0, 1, 2, 10], [0, 1], uS 0 11 ++ [vR 3, vR 4, vR 5, vR 6, vR 7, vU 11, vU 12, vR 8, vR 9] ++ uS 13 6 ++ [vR 11, vR 12, vR 13, vR 14, vR 17, vR 20, vR 25, vU 35, vI 0]), (cn_84, [20, 21, 22, 23, 24], [0], uS 39 6), (cn_43, [25, 26, 27, 28, 29], [0], [vU 45, vI 1, vU 46, vI (-1), vI (-1), vI 2]), (cn_108, [10, 14, 17, 18], [0], [vR 0, vR 11, vR 12, vR 13, vR 20, vR 25, vU 35, vI 1, vI 0, vI 1, vR 19]), (cn_85, [25, 26, 27, 28, 29], [0], [vU 45, vU 46, vI (-1), vI (-1), vI (-1)])] [] (scS ct_104 (scS ct_107 (scS ct_82 (scS ct_84 (scS ct_43 (scS ct_108 (scS ct_85 sc0))))))) (by decide +kernel)
def dn_110 : List AD := [(3, 0, [vU 0, vR 1] ++ uS 1 9), (67, 2, [vU 10, vR 2]), (64, 1, [vI 0])]
def cn_110 : Cn := ((20, [vR 0, vI 1, vI 0], dn_110, 1), (some (vI 0), (dn_110), []), (0, 0, 0, 0))
theorem ct_110 : CtH cn_110 := ctR 13 own_pl_1 rfl (own_okN_1 _) [] [] sc0 (by decide +kernel)
def dn_111 : List AD := [(0, 0, uS 0 13 ++ [vI 2] ++ uS 13 15), (3, 0, [vR 0, vR 2, vR 3, vR 4, vR 5, vR 8, vR 10, vR 12] ++ uS 28 3), (67, 2, [vU 31, vR 6]), (68, 2, [vU 32, vR 7]), (64, 2, [vU 33, vI 1]), (64, 2, [vI 1, vU 34]), (64, 1, [vI 0]), (65, 1, [vD 1]), (67, 2, [vR 9, vU 35]), (64, 2, [vI 1, vU 36]), (4, 0, [vR 11] ++ uS 37 3), (64, 3, [vU 40, vI 1, vU 41]), (4, 0, [vR 13, vR 14, vU 42, vU 43]), (64, 3, [vU 44, vI 0, vU 45]), (64, 2, [vI (-1), vU 46])]
def cn_111 : Cn := ((18, [vR 1], dn_111, 2), (some (.long 4294967296), (dn_111), [(4, 1, 0, 0), (11, 2, 4472406533629990549, 1), (4, 1, 0, 0), (5, 0, 3, 0), (2, 4591870180066957722, 4, 0), (10, 2, 5, 1)]), (2, 0, 0, 37))
theorem ct_111 : CtH cn_111 := ctR 139 own_pl_1 rfl (own_okN_1 _) [(cn_58, [12, 13], [0], [vR 14] ++ uS 42 4), (cn_110, [1, 2, 6], [0], [vR 0, vR 3, vR 4, vR 5, vR 8, vR 10, vR 12] ++ uS 28 4), (cn_98, [1, 3, 4, 7], [0, 1], [vR 0, vR 2, vR 5, vR 8, vR 10, vR 12] ++ uS 28 3 ++ [vU 32, vU 33]), (cn_60, [12, 14], [0], [vR 13, vU 42, vU 43, vU 46]), (cn_38, [10, 11], [0], uS 37 5)] [] (scS ct_58 (scS ct_110 (scS ct_98 (scS ct_60 (scS ct_38 sc0))))) (by decide +kernel)
def dn_112 : List AD := [(3, 0, [vU 0, vR 1, vR 2, vR 3] ++ uS 1 7), (67, 2, [vU 8, vR 4]), (68, 2, [vU 9, vR 5]), (64, 2, [vU 10, vI 1]), (64, 1, [vI 0]), (65, 1, [vD 1])]
def cn_112 : Cn := ((26, [vR 0, vI 1, vI 0], dn_112, 2), (none, (own_ed dn_112 [(3, 64, 2, [vU 10, vI 0])]), []), (0, 0, 0, 0))
theorem ct_112 : CtH cn_112 := ctR 36 own_pl_1 rfl (own_okN_1 _) [] [] sc0 (by decide +kernel)
def dn_113 : List AD := [(0, 0, uS 0 14 ++ [vR 1, vR 2, vR 3, vR 4, vR 5, vU 14, vU 15, vR 6, vR 7] ++ uS 16 6), (64, 2, [vU 22, vU 23]), (64, 2, [vU 24, vU 25]), (65, 2, [vU 26, vU 27]), (64, 3, uS 28 3), (64, 3, uS 31 3), (64, 2, [vU 34, vU 35]), (64, 2, [vU 36, vU 37]), (3, 0, [vR 0, vR 9, vR 10, vR 11, vR 12, vR 15, vR 17, vR 22, vU 38, vI 1, vI 0]), (67, 2, [vU 39, vR 13]), (68, 2, [vU 40, vR 14]), (64, 2, [vU 41, vI 1]), (64, 2, [vI 1, vU 42]), (64, 1, [vI 0]), (65, 1, [vD 1]), (67, 2, [vR 16, vU 43]), (64, 2, [vI 1, vU 44]), (4, 0, [vR 18, vR 19, vR 20, vR 21]), (64, 3, uS 45 3), (64, 2, [vU 48, vI (-1)]), (64, 2, [vU 49, vI (-1)]), (64, 2, [vU 50, vI 1]), (4, 0, [vR 23, vR 24, vR 25, vR 26]), (64, 3, uS 51 3), (64, 2, [vI (-1), vU 54]), (64, 2, [vI (-1), vU 55]), (64, 2, [vI 1, vU 56])]
def cn_113 : Cn := ((25, [vR 8, vI 1, vI 1, vI 0], dn_113, 2), (none, (own_ed dn_113 [(1, 64, 2, [vU 22, vI 1]), (2, 64, 2, [vU 24, vI 0]), (3, 65, 2, [vU 26, vD 1]), (4, 64, 3, [vU 28, vI 1, vI 1]), (5, 64, 3, [vU 31, vI 0, vI 0]), (6, 64, 2, [vU 34, vI 1]), (7, 64, 2, [vI 1, vU 37]), (11, 64, 2, [vU 41, vI 0]), (12, 64, 2, [vI 0, vU 42]), (18, 64, 3, [vU 45, vI (-1), vU 47]), (21, 64, 2, [vU 50, vI (-1)]), (23, 64, 3, [vU 51, vI (-1), vU 53]), (26, 64, 2, [vI (-1), vU 56])]), []), (1, 0, 0, 15))
theorem ct_113 : CtH cn_113 := ctR 136 own_pl_1 rfl (own_okN_1 _) [(cn_110, [8, 9, 13], [0], [vR 0, vR 10, vR 11, vR 12, vR 15, vR 17, vR 22, vU 38, vI 1, vI 0, vU 39]), (cn_112, [8, 9, 10, 11, 13, 14], [0, 1], [vR 0, vR 12, vR 15, vR 17, vR 22, vU 38, vI 1, vI 0] ++ uS 39 3), (cn_43, [17, 18, 19, 20, 21], [0], uS 45 6), (cn_62, [22, 23, 24, 25, 26], [0], uS 51 6)] [] (scS ct_110 (scS ct_112 (scS ct_43 (scS ct_62 sc0)))) (by decide +kernel)
def dn_114 : List AD := [(67, 2, [vR 1, vR 2]), (64, 2, [vI 0, vI 1]), (64, 1, [vI 0]), (68, 2, [vR 4, vR 5]), (65, 2, [vD 1, vD 2]), (65, 1, [vD 3]), (0, 0, [vR 7, vR 8, vU 0, vU 1, vR 9, vR 10, vR 11] ++ uS 2 6 ++ [vI 2, vR 12, vR 13, vR 14, vR 15, vR 16, vR 17, vR 18, vR 19, vR 20] ++ uS 8 6), (64, 0, []), (65, 0, []), (64, 0, []), (65, 0, []), (64, 0, []), (64, 2, [vU 14, vU 15]), (64, 2, [vU 16, vU 17]), (65, 2, [vU 18, vU 19]), (64, 3, [vI 0, vI 0, vI 0]), (64, 3, [vI 0, vI 0, vI 0]), (64, 3, [vI 0, vI 0, vI 0]), (64, 3, [vI 0, vI 0, vI 0]), (64, 2, [vU 20, vU 21]), (64, 2, [vU 22, vU 23])]
def cn_114 : Cn := ((10, [vR 6, vR 0, vR 3], dn_114, 4), (some (vI 1), (own_ed dn_114 [(6, 0, 0, [vR 45, vR 46, vU 0, vU 1, vR 47, vR 48, vR 11] ++ uS 2 6 ++ [vI 2, vR 12, vR 13, vR 14, vR 15, vR 16, vR 17, vR 18, vR 19, vR 20] ++ uS 8 5 ++ [vI 0]), (12, 64, 2, [vI 0, vI 1]), (13, 64, 2, [vI 1, vI 0]), (14, 65, 2, [vD 2, vD 3]), (15, 64, 3, [vI 0, vI 1, vI 1]), (17, 64, 3, [vI 0, vI 1, vI 1]), (19, 64, 2, [vI 0, vI 1]), (20, 64, 2, [vI 1, vI 0])] ++ [(3, 0, [vR 6, vR 22, vR 23, vR 24, vR 25, vR 30, vR 34, vR 39, vR 44, vI 1, vI 0]), (67, 2, [vR 26, vR 28]), (68, 2, [vR 27, vR 29]), (64, 2, [vI 1, vI 0]), (64, 2, [vI 0, vI 0]), (64, 2, [vI 0, vI 1]), (65, 2, [vD 1, vD 2]), (64, 1, [vI 0]), (65, 1, [vD 3]), (67, 2, [vR 31, vR 32]), (64, 2, [vI 1, vI 1]), (64, 1, [vI 0]), (64, 2, [vI 2, vI 1]), (4, 0, [vR 35, vR 36, vR 37, vR 38]), (64, 3, [vI (-1), vI (-1), vI (-1)]), (64, 2, [vI (-1), vI (-1)]), (64, 2, [vI (-1), vI (-1)]), (64, 2, [vI (-1), vI (-1)]), (4, 0, [vR 40, vR 41, vR 42, vR 43]), (64, 3, [vI (-1), vI (-1), vI (-1)]), (64, 2, [vI (-1), vI (-1)]), (64, 2, [vI (-1), vI (-1)]), (64, 2, [vI (-1), vI (-1)]), (64, 2, [vI (-1), vI (-1)]), (64, 2, [vI 0, vI 0]), (65, 2, [vD 1, vD 0]), (64, 2, [vI 0, vI 0]), (65, 2, [vD 1, vD 0]), (64, 2, [vI 1, vI 1]), (64, 2, [vI 0, vI 0])]), [(4, 2, 0, 0), (11, 4, 4472406533629990549, 1), (4, 1, 0, 0), (5, 0, 5, 0), (4, 2, 0, 0), (5, 6, 7, 0), (2, 4591870180066957722, 8, 0), (10, 4, 9, 1), (4, 3, 0, 0), (11, 10, 4472406533629990549, 1), (4, 3, 0, 0), (5, 0, 11, 0), (2, 4591870180066957722, 12, 0), (10, 10, 13, 1)]), (4, 30, 72, 93))
theorem ct_114 : CtH cn_114 := ctR 65 own_pl_0 rfl (own_okN_0 _) [(cn_103, [0, 1, 2, 3, 4, 5, 6, 21], [0, 1, 2, 3], [vR 7, vR 8, vU 0, vU 1, vR 9, vR 10, vR 11] ++ uS 2 6 ++ [vR 12, vR 13, vR 14, vR 15, vR 16, vR 17, vR 18, vR 19, vR 20] ++ uS 8 5 ++ [vI 0, .null, .null, .null, vI 0, vI 0]), (cn_106, [6, 21, 22, 23, 24, 25, 26, 27, 30, 32, 34, 35, 39, 40, 41], [0, 1, 2], [vR 7, vR 8, vU 0, vU 1, vR 9, vR 10, vR 11] ++ uS 2 6 ++ [vR 12, vR 13, vR 14, vR 15, vR 16, vR 17, vR 18, vR 19, vR 20] ++ uS 8 5 ++ [vI 0, vR 44, vI 0, vI 0, vR 28, vR 29, vI 1, vI 2, vR 31, vR 36, vR 37, vR 38, vI (-1), vI 0, vR 42, vR 43, vI (-1), vI 0, vI (-1)]), (cn_109, [6, 7, 8, 12, 13, 14, 15, 16, 19, 20, 21, 22, 23, 24, 25, 26, 27, 30, 31, 32, 34, 35, 36, 37, 38, 39, 40, 41, 42, 43], [0, 1, 2], [vU 0, vU 1, vR 9, vR 10, vR 11] ++ uS 2 6 ++ [vR 17, vR 18] ++ uS 8 5 ++ [vI 0] ++ uS 14 6 ++ rp 6 (vI 0) ++ uS 20 4 ++ [vR 44, vR 28, vR 29, vI 1, vI (-1), vI 1, vI 0, vI (-1), vI (-1), vI 1, vI (-1), vI 0]), (cn_111, [6, 21, 22, 23, 24, 25, 28, 29, 30, 31, 34, 35, 39, 40, 41], [0, 3], [vR 45, vR 46, vU 0, vU 1, vR 9, vR 10, vR 11] ++ uS 2 6 ++ [vR 12, vR 13, vR 14, vR 15, vR 16, vR 17, vR 18, vR 19, vR 20] ++ uS 8 5 ++ [vI 0, vR 44, vI 1, vI 0, vR 26, vR 27, vI 1, vI 0, vR 32, vI 1, vR 36, vR 37, vR 38, vI (-1), vI (-1), vR 42, vR 43, vI (-1), vI (-1), vI (-1)]), (cn_113, [6, 12, 13, 14, 15, 16, 19, 20, 21, 22, 23, 24, 25, 28, 29, 30, 31, 34, 35, 36, 37, 38, 39, 40, 41, 42, 43], [0, 3], [vR 45, vR 46, vU 0, vU 1, vR 9, vR 10, vR 11] ++ uS 2 6 ++ [vI 2, vR 17, vR 18] ++ uS 8 5 ++ [vI 0, vI 0, vU 15, vI 1, vU 17, vD 2, vU 19, vI 0, vI 1] ++ rp 5 (vI 0) ++ [vU 21, vU 22, vI 0, vR 44, vR 26, vR 27, vI 1, vI 0, vR 32, vI 1, vI (-1), vI 1] ++ rp 5 (vI (-1)) ++ [vI 0, vI (-1), vI (-1), vI (-1), vI (-1)]), (cn_92, [6, 9, 10, 11, 15, 16, 17, 18, 45, 46], [0, 1], uS 0 8 ++ [vR 12, vR 13, vR 14, vR 19, vR 20] ++ uS 8 5 ++ [vI 0, vI 0, vD 0])] [] (scS ct_103 (scS ct_106 (scS ct_109 (scS ct_111 (scS ct_113 (scS ct_92 sc0)))))) (by decide +kernel)
def dn_115 : List AD := [(4, 0, [vR 1, vR 2, vR 3, vR 4]), (64, 3, [vU 0, vI 1, vU 1]), (64, 2, [vU 2, vU 3]), (64, 2, [vU 4, vU 5]), (64, 2, [vU 6, vU 7])]
def cn_115 : Cn := ((17, [vR 0, vI 0, vI 1], dn_115, 1), (none, (own_ed dn_115 [(1, 64, 3, [vU 0, vI 0, vU 1]), (2, 64, 2, [vI 1, vU 3]), (3, 64, 2, [vI (-1), vI 0]), (4, 64, 2, [vI 1, vU 7])]), []), (0, 0, 0, 0))
theorem ct_115 : CtH cn_115 := ctR 38 own_pl_2 rfl (own_okN_2 _) [] [] sc0 (by decide +kernel)
def dn_116 : List AD := [(0, 0, uS 0 13 ++ [vI 2] ++ uS 13 15), (64, 2, [vI 1, vI 1]), (4, 0, [.null, .null, .null, .null])]
def cn_116 : Cn := ((15, [vR 2, vR 0, vR 1], dn_116, 1), (none, (own_ed dn_116 [(2, 4, 0, [vR 3, vR 4, vR 5, vR 6])] ++ [(64, 3, [vI (-1), vI 0, vI (-1)]), (64, 2, [vI 1, vI (-1)]), (64, 2, [vI (-1), vI 0]), (64, 2, [vI 1, vI 1])]), []), (1, 4, 9, 15))
theorem ct_116 : CtH cn_116 := ctR 61 own_pl_2 rfl (own_okI_2) [(cn_8, [3], [0], [vI 0, vI 0, vI 0]), (cn_9, [6], [0], [vI 0, vI 0]), (cn_30, [2, 3, 4, 5, 6], [0], [vI (-1), vI (-1), vI 0, vI 0, vI 0, vI 0, vI (-1), vI (-1)]), (cn_115, [2, 3, 4, 5, 6], [0], [vI (-1), vI (-1), vI 0, vI (-1), vI 0, vI (-1), vI (-1), vI 1])] [] (scS ct_8 (scS ct_9 (scS ct_30 (scS ct_115 sc0)))) (by decide +kernel)
def dn_117 : List AD := [(67, 2, [vR 1, vR 2]), (64, 1, [vI 0]), (64, 1, [vI 1]), (68, 2, [vR 4, vR 5]), (65, 1, [vD 1]), (65, 1, [vD 2]), (0, 0, uS 0 13 ++ [vI 2] ++ uS 13 15), (3, 0, [vU 28] ++ rp 5 (.null) ++ [vU 29, vU 30, .null, vU 31, vU 32])]
def cn_117 : Cn := ((11, [vR 7, vR 6, vR 0, vR 3], dn_117, 3), (none, (own_ed dn_117 [(7, 3, 0, [vR 6, vR 8, vR 9, vR 10, vR 11, vR 16, vR 20, vR 25, vR 30, vU 31, vU 32])] ++ [(67, 2, [vR 12, vR 14]), (68, 2, [vR 13, vR 15]), (64, 2, [vI 1, vI 1]), (64, 2, [vI 1, vI 1]), (64, 1, [vI 0]), (65, 1, [vD 1]), (64, 1, [vI 1]), (65, 1, [vD 2]), (67, 2, [vR 17, vR 18]), (64, 1, [vI 0]), (64, 1, [vI 1]), (64, 2, [vI 1, vI 1]), (4, 0, [vR 21, vR 22, vR 23, vR 24]), (64, 3, [vI (-1), vI 0, vI (-1)]), (64, 2, [vI 1, vI (-1)]), (64, 2, [vI (-1), vI 0]), (64, 2, [vI 1, vI 1]), (4, 0, [vR 26, vR 27, vR 28, vR 29]), (64, 3, [vI (-1), vI 0, vI (-1)]), (64, 2, [vI 1, vI (-1)]), (64, 2, [vI (-1), vI 0]), (64, 2, [vI 1, vI 1]), (64, 2, [vI (-1), vI (-1)])]), []), (2, 23, 46, 32))
theorem ct_117 : CtH cn_117 := ctR 335 own_pl_1 rfl (own_okI_1) [(cn_52, [], [0], []), (cn_74, [1], [0], []), (cn_54, [4], [0, 1], []), (cn_52, [], [0], []), (cn_53, [2], [0], []), (cn_54, [5], [0, 2], []), (cn_52, [], [0], []), (cn_52, [], [0], []), (cn_116, [6, 10, 20], [0], uS 0 28), (cn_116, [6, 11, 25], [0], uS 0 28), (cn_9, [30], [0], [vI 0, vI 0])] [] (scS ct_52 (scS ct_74 (scS ct_54 (scS ct_52 (scS ct_53 (scS ct_54 (scS ct_52 (scS ct_52 (scS ct_116 (scS ct_116 (scS ct_9 sc0))))))))))) (by decide +kernel)
def dn_118 : List AD := [(0, 0, uS 0 13 ++ [vI 2] ++ uS 13 15), (3, 0, [vR 0, vR 2, vR 3, vR 4, vR 5, vR 8, vR 10, vR 12] ++ uS 28 3), (67, 2, [vR 6, vU 31]), (68, 2, [vR 7, vU 32]), (64, 2, [vI 1, vU 33]), (64, 2, [vI 1, vU 34]), (64, 1, [vI 0]), (65, 1, [vD 1]), (67, 2, [vR 9, vU 35]), (64, 1, [vI 0]), (4, 0, [vR 11] ++ uS 36 3), (64, 3, [vU 39, vI 0, vU 40]), (4, 0, [vR 13, vR 14, vU 41, vU 42]), (64, 3, [vU 43, vI 0, vU 44]), (64, 2, [vI 1, vU 45])]
def cn_118 : Cn := ((18, [vR 1], dn_118, 2), (some (.long 0), (dn_118), [(4, 1, 0, 0), (11, 2, 4472406533629990549, 1), (4, 1, 0, 0), (5, 0, 3, 0), (2, 4591870180066957722, 4, 0), (10, 2, 5, 1)]), (2, 0, 0, 37))
theorem ct_118 : CtH cn_118 := ctR 146 own_pl_1 rfl (own_okN_1 _) [(cn_58, [12, 13], [0], [vR 14] ++ uS 41 4), (cn_87, [1, 2, 6], [0], [vR 0, vR 3, vR 4, vR 5, vR 8, vR 10, vR 12] ++ uS 28 4), (cn_66, [1, 3, 4, 7], [0, 1], [vR 0, vR 2, vR 5, vR 8, vR 10, vR 12] ++ uS 28 3 ++ [vU 32, vU 33]), (cn_18, [12, 14], [0], [vR 13, vU 41, vU 42, vU 45]), (cn_58, [10, 11], [0], uS 36 5)] [] (scS ct_58 (scS ct_87 (scS ct_66 (scS ct_18 (scS ct_58 sc0))))) (by decide +kernel)
def dn_119 : List AD := [(4, 0, [vR 1, vR 2, vR 3, vR 4]), (64, 3, uS 0 3), (64, 2, [vI 1, vU 3]), (64, 2, [vI (-1), vU 4]), (64, 2, [vI 1, vU 5])]
def cn_119 : Cn := ((29, [vR 0, vI 0], dn_119, 1), (none, (own_ed dn_119 [(1, 64, 3, [vU 0, vI 1, vU 2]), (3, 64, 2, [vI (-1), vI (-1)]), (4, 64, 2, [vI (-1), vU 5])]), []), (0, 0, 0, 0))
theorem ct_119 : CtH cn_119 := ctR 39 own_pl_2 rfl (own_okN_2 _) [] [] sc0 (by decide +kernel)
def dn_120 : List AD := [(0, 0, uS 0 14 ++ [vR 1, vR 2, vR 3, vR 4, vR 5, vU 14, vU 15, vR 6, vR 7] ++ uS 16 6), (64, 2, [vU 22, vU 23]), (64, 2, [vU 24, vU 25]), (65, 2, [vU 26, vU 27]), (64, 3, uS 28 3), (64, 3, uS 31 3), (64, 2, [vU 34, vU 35]), (64, 2, [vU 36, vU 37]), (3, 0, [vR 0, vR 9, vR 10, vR 11, vR 12, vR 15, vR 17, vR 22, vU 38, vI 0, vI 0]), (67, 2, [vR 13, vU 39]), (68, 2, [vR 14, vU 40]), (64, 2, [vI 1, vU 41]), (64, 2, [vI 1, vU 42]), (64, 1, [vI 0]), (65, 1, [vD 1]), (67, 2, [vR 16, vU 43]), (64, 1, [vI 0]), (4, 0, [vR 18, vR 19, vR 20, vR 21]), (64, 3, uS 44 3), (64, 2, [vI 1, vU 47]), (64, 2, [vI (-1), vU 48]), (64, 2, [vI 1, vU 49]), (4, 0, [vR 23, vR 24, vR 25, vR 26]), (64, 3, uS 50 3), (64, 2, [vI 1, vU 53]), (64, 2, [vI (-1), vU 54]), (64, 2, [vI 1, vU 55])]
def cn_120 : Cn := ((25, [vR 8, vI 0, vI 0, vI 0], dn_120, 2), (none, (own_ed dn_120 [(1, 64, 2, [vI 0, vU 23]), (2, 64, 2, [vI 0, vU 25]), (3, 65, 2, [vD 1, vU 27]), (4, 64, 3, [vI 0, vI 0, vU 30]), (5, 64, 3, [vI 0, vI 0, vU 33]), (6, 64, 2, [vI 0, vU 35]), (7, 64, 2, [vI 0, vU 37]), (11, 64, 2, [vI 0, vU 41]), (12, 64, 2, [vI 0, vU 42]), (18, 64, 3, [vU 44, vI 1, vU 46]), (20, 64, 2, [vI (-1), vI (-1)]), (21, 64, 2, [vI (-1), vU 49]), (23, 64, 3, [vU 50, vI 1, vU 52]), (25, 64, 2, [vI (-1), vI (-1)]), (26, 64, 2, [vI (-1), vU 55])]), []), (1, 0, 0, 15))
theorem ct_120 : CtH cn_120 := ctR 136 own_pl_1 rfl (own_okN_1 _) [(cn_87, [8, 9, 13], [0], [vR 0, vR 10, vR 11, vR 12, vR 15, vR 17, vR 22, vU 38, vI 0, vI 0, vU 39]), (cn_89, [8, 9, 10, 11, 13, 14], [0, 1], [vR 0, vR 12, vR 15, vR 17, vR 22, vU 38, vI 0, vI 0] ++ uS 39 3), (cn_119, [17, 18, 19, 20, 21], [0], uS 44 6), (cn_119, [22, 23, 24, 25, 26], [0], uS 50 6)] [] (scS ct_87 (scS ct_89 (scS ct_119 (scS ct_119 sc0)))) (by decide +kernel)
def dn_121 : List AD := [(0, 0, uS 0 13 ++ [vI 2] ++ uS 13 15), (3, 0, [vR 0, vR 2, vR 3, vR 4, vR 5, vR 8, vR 10, vR 12] ++ uS 28 3), (67, 2, [vU 31, vR 6]), (68, 2, [vU 32, vR 7]), (64, 2, [vU 33, vI 1]), (64, 2, [vU 34, vI 1]), (64, 1, [vI 1]), (65, 1, [vD 1]), (67, 2, [vU 35, vR 9]), (64, 1, [vI 1]), (4, 0, [vR 11] ++ uS 36 3), (64, 3, [vU 39, vI 1, vU 40]), (4, 0, [vR 13, vR 14, vU 41, vU 42]), (64, 3, [vU 43, vI 1, vU 44]), (64, 2, [vU 45, vI (-1)])]
def cn_121 : Cn := ((18, [vR 1], dn_121, 2), (some (.long 4294967297), (dn_121), [(4, 1, 0, 0), (11, 2, 4472406533629990549, 1), (4, 1, 0, 0), (5, 0, 3, 0), (2, 4591870180066957722, 4, 0), (10, 2, 5, 1)]), (2, 0, 0, 37))
theorem ct_121 : CtH cn_121 := ctR 139 own_pl_1 rfl (own_okN_1 _) [(cn_38, [12, 13], [0], [vR 14] ++ uS 41 4), (cn_97, [1, 2, 6], [0], [vR 0, vR 3, vR 4, vR 5, vR 8, vR 10, vR 12] ++ uS 28 4), (cn_98, [1, 3, 4, 7], [0, 1], [vR 0, vR 2, vR 5, vR 8, vR 10, vR 12] ++ uS 28 3 ++ [vU 32, vU 33]), (cn_19, [12, 14], [0], [vR 13, vU 41, vU 42, vU 45]), (cn_38, [10, 11], [0], uS 36 5)] [] (scS ct_38 (scS ct_97 (scS ct_98 (scS ct_19 (scS ct_38 sc0))))) (by decide +kernel)
def dn_122 : List AD := [(0, 0, uS 0 14 ++ [vR 1, vR 2, vR 3, vR 4, vR 5, vU 14, vU 15, vR 6, vR 7] ++ uS 16 6), (64, 2, [vU 22, vU 23]), (64, 2, [vU 24, vU 25]), (65, 2, [vU 26, vU 27]), (64, 3, uS 28 3), (64, 3, uS 31 3), (64, 2, [vU 34, vU 35]), (64, 2, [vU 36, vU 37]), (3, 0, [vR 0, vR 9, vR 10, vR 11, vR 12, vR 15, vR 17, vR 22, vU 38, vI 0, vI 0]), (67, 2, [vU 39, vR 13]), (68, 2, [vU 40, vR 14]), (64, 2, [vU 41, vI 1]), (64, 2, [vU 42, vI 1]), (64, 1, [vI 1]), (65, 1, [vD 1]), (67, 2, [vU 43, vR 16]), (64, 1, [vI 1]), (4, 0, [vR 18, vR 19, vR 20, vR 21]), (64, 3, uS 44 3), (64, 2, [vU 47, vI (-1)]), (64, 2, [vU 48, vI (-1)]), (64, 2, [vU 49, vI 1]), (4, 0, [vR 23, vR 24, vR 25, vR 26]), (64, 3, uS 50 3), (64, 2, [vU 53, vI (-1)]), (64, 2, [vU 54, vI (-1)]), (64, 2, [vU 55, vI 1])]
def cn_122 : Cn := ((25, [vR 8, vI 1, vI 1, vI 1], dn_122, 2), (none, (own_ed dn_122 [(1, 64, 2, [vU 22, vI 1]), (2, 64, 2, [vU 24, vI 1]), (3, 65, 2, [vU 26, vD 1]), (4, 64, 3, [vU 28, vI 0, vI 0]), (5, 64, 3, [vU 31, vI 0, vI 0]), (6, 64, 2, [vU 34, vI 1]), (7, 64, 2, [vU 36, vI 1]), (11, 64, 2, [vU 41, vI 0]), (12, 64, 2, [vU 42, vI 0]), (18, 64, 3, [vU 44, vI (-1), vU 46]), (21, 64, 2, [vU 49, vI (-1)]), (23, 64, 3, [vU 50, vI (-1), vU 52]), (26, 64, 2, [vU 55, vI (-1)])]), []), (1, 0, 0, 15))
theorem ct_122 : CtH cn_122 := ctR 136 own_pl_1 rfl (own_okN_1 _) [(cn_97, [8, 9, 13], [0], [vR 0, vR 10, vR 11, vR 12, vR 15, vR 17, vR 22, vU 38, vI 0, vI 0, vU 39]), (cn_100, [8, 9, 10, 11, 13, 14], [0, 1], [vR 0, vR 12, vR 15, vR 17, vR 22, vU 38, vI 0, vI 0] ++ uS 39 3), (cn_43, [17, 18, 19, 20, 21], [0], uS 44 6), (cn_43, [22, 23, 24, 25, 26], [0], uS 50 6)] [] (scS ct_97 (scS ct_100 (scS ct_43 (scS ct_43 sc0)))) (by decide +kernel)
def dn_123 : List AD := [(0, 0, uS 0 4 ++ [vR 1, vU 4, vR 2] ++ uS 5 6 ++ [vI 2] ++ uS 11 3 ++ [vR 3, vR 4, vR 5, vR 6] ++ uS 14 8), (64, 0, []), (64, 0, []), (64, 3, [vI 0, vI 0, vI 0]), (64, 3, [vI 0, vI 0, vI 0]), (64, 3, [vI 0, vI 0, vI 0]), (64, 3, [vI 0, vI 0, vI 0])]
def cn_123 : Cn := ((32, [vR 0], dn_123, 1), (none, (dn_123 ++ [(64, 2, [vI 0, vI 0]), (64, 2, [vI 0, vI 0])]), []), (2, 2, 4, 54))
theorem ct_123 : CtH cn_123 := ctR 194 own_pl_0 rfl (own_okN_0 _) [(cn_45, [5], [0], [vI 0, vI 0, vI 0]), (cn_45, [6], [0], [vI 0, vI 0, vI 0]), (cn_47, [5], [0], [vI 0]), (cn_47, [6], [0], [vI 0])] [] (scS ct_45 (scS ct_45 (scS ct_47 (scS ct_47 sc0)))) (by decide +kernel)
def dn_124 : List AD := [(67, 2, [vR 1, vR 2]), (64, 1, [vI 0]), (64, 1, [vI 1]), (68, 2, [vR 4, vR 5]), (65, 1, [vD 1]), (65, 1, [vD 2]), (0, 0, uS 0 4 ++ [vR 7, vU 4, vR 8] ++ uS 5 6 ++ [vI 2, vR 9, vR 10, vR 11, vR 12, vR 13, vR 14, vR 15, vR 16, vR 17] ++ uS 11 6), (64, 0, []), (64, 0, []), (64, 2, [vU 17, vU 18]), (64, 2, [vU 19, vU 20]), (65, 2, [vU 21, vU 22]), (64, 3, [vI 0, vI 0, vI 0]), (64, 3, [vI 0, vI 0, vI 0]), (64, 3, [vI 0, vI 0, vI 0]), (64, 3, [vI 0, vI 0, vI 0]), (64, 2, [vU 23, vU 24]), (64, 2, [vU 25, vU 26])]
def cn_124 : Cn := ((10, [vR 6, vR 0, vR 3], dn_124, 3), (some (vI 1), (own_ed dn_124 [(6, 0, 0, uS 0 4 ++ [vR 7, vU 4, vR 8] ++ uS 5 6 ++ [vI 2, vR 9, vR 10, vR 11, vR 12, vR 13, vR 14, vR 15, vR 16, vR 17] ++ uS 11 5 ++ [vI 0]), (9, 64, 2, [vI 0, vI 1]), (10, 64, 2, [vI 0, vI 1]), (11, 65, 2, [vD 1, vD 2]), (16, 64, 2, [vI 0, vI 1]), (17, 64, 2, [vI 0, vI 1])] ++ [(3, 0, [vR 6, vR 19, vR 20, vR 21, vR 22, vR 27, vR 31, vR 36, vR 41, vI 0, vI 0]), (67, 2, [vR 23, vR 25]), (68, 2, [vR 24, vR 26]), (64, 2, [vI 0, vI 0]), (64, 2, [vI 0, vI 0]), (64, 1, [vI 0]), (65, 1, [vD 1]), (64, 1, [vI 1]), (65, 1, [vD 2]), (67, 2, [vR 28, vR 29]), (64, 1, [vI 0]), (64, 1, [vI 1]), (64, 2, [vI 1, vI 1]), (4, 0, [vR 32, vR 33, vR 34, vR 35]), (64, 3, [vI (-1), vI (-1), vI (-1)]), (64, 2, [vI 1, vI (-1)]), (64, 2, [vI (-1), vI (-1)]), (64, 2, [vI (-1), vI (-1)]), (4, 0, [vR 37, vR 38, vR 39, vR 40]), (64, 3, [vI (-1), vI (-1), vI (-1)]), (64, 2, [vI 1, vI (-1)]), (64, 2, [vI (-1), vI (-1)]), (64, 2, [vI (-1), vI (-1)]), (64, 2, [vI (-1), vI (-1)]), (64, 2, [vI 0, vI 0]), (64, 2, [vI 0, vI 0])]), [(4, 1, 0, 0), (11, 3, 4472406533629990549, 1), (4, 1, 0, 0), (5, 0, 4, 0), (2, 4591870180066957722, 5, 0), (10, 3, 6, 1), (4, 2, 0, 0), (11, 7, 4472406533629990549, 1), (4, 2, 0, 0), (5, 0, 8, 0), (2, 4591870180066957722, 9, 0), (10, 7, 10, 1)]), (3, 26, 61, 73))
theorem ct_124 : CtH cn_124 := ctR 65 own_pl_0 rfl (own_okN_0 _) [(cn_117, [0, 1, 2, 3, 4, 5, 6, 18], [0, 1, 2], uS 0 4 ++ [vR 7, vU 4, vR 8] ++ uS 5 6 ++ [vR 9, vR 10, vR 11, vR 12, vR 13, vR 14, vR 15, vR 16, vR 17] ++ uS 11 5 ++ [vI 0, .null, .null, .null, vI 0, vI 0]), (cn_118, [6, 18, 19, 20, 21, 22, 23, 24, 27, 28, 31, 32, 36, 37, 38], [0, 1], uS 0 4 ++ [vR 7, vU 4, vR 8] ++ uS 5 6 ++ [vR 9, vR 10, vR 11, vR 12, vR 13, vR 14, vR 15, vR 16, vR 17] ++ uS 11 5 ++ [vI 0, vR 41, vI 0, vI 0, vR 25, vR 26, vI 1, vI 1, vR 29, vR 33, vR 34, vR 35, vI (-1), vI (-1), vR 39, vR 40, vI (-1), vI (-1), vI (-1)]), (cn_120, [6, 9, 10, 11, 12, 13, 16, 17, 18, 19, 20, 21, 22, 23, 24, 27, 28, 31, 32, 33, 34, 35, 36, 37, 38, 39, 40], [0, 1], uS 0 4 ++ [vR 7, vU 4, vR 8] ++ uS 5 6 ++ [vI 2, vR 14, vR 15] ++ uS 11 5 ++ [vI 0] ++ uS 17 6 ++ rp 6 (vI 0) ++ uS 23 4 ++ [vR 41, vR 25, vR 26, vI 1, vI 1, vR 29, vI (-1), vI 0, vI (-1), vI (-1), vI 0, vI 1, vI (-1), vI 0, vI (-1), vI (-1), vI 0, vI 1]), (cn_121, [6, 18, 19, 20, 21, 22, 25, 26, 27, 29, 31, 32, 36, 37, 38], [0, 2], uS 0 4 ++ [vR 7, vU 4, vR 8] ++ uS 5 6 ++ [vR 9, vR 10, vR 11, vR 12, vR 13, vR 14, vR 15, vR 16, vR 17] ++ uS 11 5 ++ [vI 0, vR 41, vI 0, vI 0, vR 23, vR 24, vI 0, vI 0, vR 28, vR 33, vR 34, vR 35, vI (-1), vI (-1), vR 39, vR 40, vI (-1), vI (-1), vI 1]), (cn_122, [6, 9, 10, 11, 12, 13, 16, 17, 18, 19, 20, 21, 22, 25, 26, 27, 29, 31, 32, 33, 34, 35, 36, 37, 38, 39, 40], [0, 2], uS 0 4 ++ [vR 7, vU 4, vR 8] ++ uS 5 6 ++ [vI 2, vR 14, vR 15] ++ uS 11 5 ++ [vI 0, vI 0, vU 18, vI 0, vU 20, vD 1, vU 22] ++ rp 7 (vI 0) ++ [vU 24, vI 0, vU 26, vR 41, vR 23, vR 24, vI 0, vI 0, vR 28, vI (-1), vI 1, vI (-1), vI 1, vI (-1), vI (-1), vI (-1), vI 1, vI (-1), vI 1, vI (-1), vI (-1)]), (cn_123, [6, 7, 8, 12, 13, 14, 15], [0], uS 0 11 ++ [vR 9, vR 10, vR 11, vR 16, vR 17] ++ uS 11 5 ++ [vI 0])] [] (scS ct_117 (scS ct_118 (scS ct_120 (scS ct_121 (scS ct_122 (scS ct_123 sc0)))))) (by decide +kernel)
def dn_125 : List AD := [(67, 2, [vR 1, vR 2]), (64, 1, [vI 1]), (64, 1, [vI 0]), (68, 2, [vR 4, vR 5]), (65, 1, [vD 1]), (65, 1, [vD 2]), (0, 0, uS 0 13 ++ [vI 2] ++ uS 13 15), (3, 0, [vU 28] ++ rp 5 (.null) ++ [vU 29, vU 30, .null, vU 31, vU 32])]
def cn_125 : Cn := ((11, [vR 7, vR 6, vR 0, vR 3], dn_125, 3), (none, (own_ed dn_125 [(7, 3, 0, [vR 6, vR 8, vR 9, vR 10, vR 11, vR 16, vR 20, vR 25, vR 30, vU 31, vU 32])] ++ [(67, 2, [vR 12, vR 14]), (68, 2, [vR 13, vR 15]), (64, 2, [vI 1, vI 1]), (64, 2, [vI 1, vI 1]), (64, 1, [vI 1]), (65, 1, [vD 1]), (64, 1, [vI 0]), (65, 1, [vD 2]), (67, 2, [vR 17, vR 18]), (64, 1, [vI 1]), (64, 1, [vI 0]), (64, 2, [vI 1, vI 1]), (4, 0, [vR 21, vR 22, vR 23, vR 24]), (64, 3, [vI (-1), vI 0, vI (-1)]), (64, 2, [vI 1, vI (-1)]), (64, 2, [vI (-1), vI 0]), (64, 2, [vI 1, vI 1]), (4, 0, [vR 26, vR 27, vR 28, vR 29]), (64, 3, [vI (-1), vI 0, vI (-1)]), (64, 2, [vI 1, vI (-1)]), (64, 2, [vI (-1), vI 0]), (64, 2, [vI 1, vI 1]), (64, 2, [vI (-1), vI (-1)])]), []), (2, 23, 46, 32))
theorem ct_125 : CtH cn_125 := ctR 335 own_pl_1 rfl (own_okI_1) [(cn_52, [], [0], []), (cn_53, [1], [0], []), (cn_54, [4], [0, 1], []), (cn_52, [], [0], []), (cn_74, [2], [0], []), (cn_54, [5], [0, 2], []), (cn_52, [], [0], []), (cn_52, [], [0], []), (cn_116, [6, 10, 20], [0], uS 0 28), (cn_116, [6, 11, 25], [0], uS 0 28), (cn_9, [30], [0], [vI 0, vI 0])] [] (scS ct_52 (scS ct_53 (scS ct_54 (scS ct_52 (scS ct_74 (scS ct_54 (scS ct_52 (scS ct_52 (scS ct_116 (scS ct_116 (scS ct_9 sc0))))))))))) (by decide +kernel)
def dn_126 : List AD := [(0, 0, uS 0 13 ++ [vI 2] ++ uS 13 15), (3, 0, [vR 0, vR 2, vR 3, vR 4, vR 5, vR 8, vR 10, vR 12] ++ uS 28 3), (67, 2, [vU 31, vR 6]), (68, 2, [vU 32, vR 7]), (64, 2, [vU 33, vI 1]), (64, 2, [vI 1, vU 34]), (64, 1, [vI 0]), (65, 1, [vD 1]), (67, 2, [vR 9, vU 35]), (64, 1, [vI 1]), (4, 0, [vR 11] ++ uS 36 3), (64, 3, [vU 39, vI 0, vU 40]), (4, 0, [vR 13, vR 14, vU 41, vU 42]), (64, 3, [vU 43, vI 0, vU 44]), (64, 2, [vI 1, vU 45])]
def cn_126 : Cn := ((18, [vR 1], dn_126, 2), (some (.long 4294967296), (dn_126), [(4, 1, 0, 0), (11, 2, 4472406533629990549, 1), (4, 1, 0, 0), (5, 0, 3, 0), (2, 4591870180066957722, 4, 0), (10, 2, 5, 1)]), (2, 0, 0, 37))
theorem ct_126 : CtH cn_126 := ctR 146 own_pl_1 rfl (own_okN_1 _) [(cn_58, [12, 13], [0], [vR 14] ++ uS 41 4), (cn_110, [1, 2, 6], [0], [vR 0, vR 3, vR 4, vR 5, vR 8, vR 10, vR 12] ++ uS 28 4), (cn_98, [1, 3, 4, 7], [0, 1], [vR 0, vR 2, vR 5, vR 8, vR 10, vR 12] ++ uS 28 3 ++ [vU 32, vU 33]), (cn_18, [12, 14], [0], [vR 13, vU 41, vU 42, vU 45]), (cn_58, [10, 11], [0], uS 36 5)] [] (scS ct_58 (scS ct_110 (scS ct_98 (scS ct_18 (scS ct_58 sc0))))) (by decide +kernel)
def dn_127 : List AD := [(4, 0, [vU 0, vR 1, vR 2, vR 3]), (64, 2, [vU 1, vI (-1)]), (64, 2, [vU 2, vI 0]), (64, 2, [vU 3, vU 4])]
def cn_127 : Cn := ((29, [vR 0, vI 1], dn_127, 1), (none, (own_ed dn_127 [(1, 64, 2, [vI (-1), vI (-1)]), (3, 64, 2, [vU 3, vI (-1)])]), []), (0, 0, 0, 0))
theorem ct_127 : CtH cn_127 := ctR 29 own_pl_2 rfl (own_okN_2 _) [] [] sc0 (by decide +kernel)
def dn_128 : List AD := [(0, 0, uS 0 14 ++ [vR 1, vR 2, vR 3, vR 4, vR 5, vU 14, vU 15, vR 6, vR 7] ++ uS 16 6), (64, 2, [vU 22, vU 23]), (64, 2, [vU 24, vU 25]), (65, 2, [vU 26, vU 27]), (64, 3, uS 28 3), (64, 3, uS 31 3), (64, 2, [vU 34, vU 35]), (64, 2, [vU 36, vU 37]), (3, 0, [vR 0, vR 9, vR 10, vR 11, vR 12, vR 15, vR 17, vR 21, vU 38, vI 0, vI 0]), (67, 2, [vU 39, vR 13]), (68, 2, [vU 40, vR 14]), (64, 2, [vU 41, vI 1]), (64, 2, [vI 1, vU 42]), (64, 1, [vI 0]), (65, 1, [vD 1]), (67, 2, [vR 16, vU 43]), (64, 1, [vI 1]), (4, 0, [vU 44, vR 18, vR 19, vR 20]), (64, 2, [vU 45, vI (-1)]), (64, 2, [vU 46, vI 0]), (64, 2, [vU 47, vU 48]), (4, 0, [vR 22, vR 23, vR 24, vR 25]), (64, 3, uS 49 3), (64, 2, [vI 1, vU 52]), (64, 2, [vI (-1), vU 53]), (64, 2, [vI 1, vU 54])]
def cn_128 : Cn := ((25, [vR 8, vI 0, vI 1, vI 0], dn_128, 2), (none, (own_ed dn_128 [(1, 64, 2, [vI 1, vU 23]), (2, 64, 2, [vI 0, vU 25]), (3, 65, 2, [vD 1, vU 27]), (4, 64, 3, [vI 0, vI 0, vU 30]), (5, 64, 3, [vI 0, vI 0, vU 33]), (6, 64, 2, [vU 34, vI 0]), (7, 64, 2, [vI 0, vU 37]), (11, 64, 2, [vU 41, vI 0]), (12, 64, 2, [vI 0, vU 42]), (18, 64, 2, [vI (-1), vI (-1)]), (20, 64, 2, [vU 47, vI (-1)]), (22, 64, 3, [vU 49, vI 1, vU 51]), (24, 64, 2, [vI (-1), vI (-1)]), (25, 64, 2, [vI (-1), vU 54])]), []), (1, 0, 0, 15))
theorem ct_128 : CtH cn_128 := ctR 136 own_pl_1 rfl (own_okN_1 _) [(cn_110, [8, 9, 13], [0], [vR 0, vR 10, vR 11, vR 12, vR 15, vR 17, vR 21, vU 38, vI 0, vI 0, vU 39]), (cn_112, [8, 9, 10, 11, 13, 14], [0, 1], [vR 0, vR 12, vR 15, vR 17, vR 21, vU 38, vI 0, vI 0] ++ uS 39 3), (cn_127, [17, 18, 19, 20], [0], uS 44 5), (cn_119, [21, 22, 23, 24, 25], [0], uS 49 6)] [] (scS ct_110 (scS ct_112 (scS ct_127 (scS ct_119 sc0)))) (by decide +kernel)
def dn_129 : List AD := [(0, 0, uS 0 13 ++ [vI 2] ++ uS 13 15), (3, 0, [vR 0, vR 2, vR 3, vR 4, vR 5, vR 8, vR 10, vR 12] ++ uS 28 3), (67, 2, [vR 6, vU 31]), (68, 2, [vR 7, vU 32]), (64, 2, [vI 1, vU 33]), (64, 2, [vU 34, vI 1]), (64, 1, [vI 1]), (65, 1, [vD 1]), (67, 2, [vU 35, vR 9]), (64, 1, [vI 0]), (4, 0, [vR 11] ++ uS 36 3), (64, 3, [vU 39, vI 0, vU 40]), (4, 0, [vR 13, vR 14, vU 41, vU 42]), (64, 3, [vU 43, vI 1, vU 44]), (64, 2, [vU 45, vI (-1)])]
def cn_129 : Cn := ((18, [vR 1], dn_129, 2), (some (.long 1), (dn_129), [(4, 1, 0, 0), (11, 2, 4472406533629990549, 1), (4, 1, 0, 0), (5, 0, 3, 0), (2, 4591870180066957722, 4, 0), (10, 2, 5, 1)]), (2, 0, 0, 37))
theorem ct_129 : CtH cn_129 := ctR 139 own_pl_1 rfl (own_okN_1 _) [(cn_38, [12, 13], [0], [vR 14] ++ uS 41 4), (cn_65, [1, 2, 6], [0], [vR 0, vR 3, vR 4, vR 5, vR 8, vR 10, vR 12] ++ uS 28 4), (cn_66, [1, 3, 4, 7], [0, 1], [vR 0, vR 2, vR 5, vR 8, vR 10, vR 12] ++ uS 28 3 ++ [vU 32, vU 33]), (cn_19, [12, 14], [0], [vR 13, vU 41, vU 42, vU 45]), (cn_58, [10, 11], [0], uS 36 5)] [] (scS ct_38 (scS ct_65 (scS ct_66 (scS ct_19 (scS ct_58 sc0))))) (by decide +kernel)
def dn_130 : List AD := [(0, 0, uS 0 14 ++ [vR 1, vR 2, vR 3, vR 4, vR 5, vU 14, vU 15, vR 6, vR 7] ++ uS 16 6), (64, 2, [vU 22, vU 23]), (64, 2, [vU 24, vU 25]), (65, 2, [vU 26, vU 27]), (64, 3, uS 28 3), (64, 3, uS 31 3), (64, 2, [vU 34, vU 35]), (64, 2, [vU 36, vU 37]), (3, 0, [vR 0, vR 9, vR 10, vR 11, vR 12, vR 15, vR 17, vR 22, vU 38, vI 0, vI 0]), (67, 2, [vR 13, vU 39]), (68, 2, [vR 14, vU 40]), (64, 2, [vI 1, vU 41]), (64, 2, [vU 42, vI 1]), (64, 1, [vI 1]), (65, 1, [vD 1]), (67, 2, [vU 43, vR 16]), (64, 1, [vI 0]), (4, 0, [vR 18, vR 19, vR 20, vR 21]), (64, 3, uS 44 3), (64, 2, [vI (-1), vU 47]), (64, 2, [vI (-1), vU 48]), (64, 2, [vI 1, vU 49]), (4, 0, [vR 23, vR 24, vR 25, vR 26]), (64, 3, uS 50 3), (64, 2, [vU 53, vI (-1)]), (64, 2, [vU 54, vI (-1)]), (64, 2, [vU 55, vI 1])]
def cn_130 : Cn := ((25, [vR 8, vI 1, vI 0, vI 1], dn_130, 2), (none, (own_ed dn_130 [(1, 64, 2, [vU 22, vI 0]), (2, 64, 2, [vU 24, vI 1]), (3, 65, 2, [vU 26, vD 1]), (4, 64, 3, [vU 28, vI 0, vI 0]), (5, 64, 3, [vU 31, vI 0, vI 0]), (6, 64, 2, [vI 1, vU 35]), (7, 64, 2, [vU 36, vI 1]), (11, 64, 2, [vI 0, vU 41]), (12, 64, 2, [vU 42, vI 0]), (18, 64, 3, [vU 44, vI (-1), vU 46]), (21, 64, 2, [vI (-1), vU 49]), (23, 64, 3, [vU 50, vI (-1), vU 52]), (26, 64, 2, [vU 55, vI (-1)])]), []), (1, 0, 0, 15))
theorem ct_130 : CtH cn_130 := ctR 136 own_pl_1 rfl (own_okN_1 _) [(cn_65, [8, 9, 13], [0], [vR 0, vR 10, vR 11, vR 12, vR 15, vR 17, vR 22, vU 38, vI 0, vI 0, vU 39]), (cn_68, [8, 9, 10, 11, 13, 14], [0, 1], [vR 0, vR 12, vR 15, vR 17, vR 22, vU 38, vI 0, vI 0] ++ uS 39 3), (cn_62, [17, 18, 19, 20, 21], [0], uS 44 6), (cn_43, [22, 23, 24, 25, 26], [0], uS 50 6)] [] (scS ct_65 (scS ct_68 (scS ct_62 (scS ct_43 sc0)))) (by decide +kernel)
def dn_131 : List AD := [(67, 2, [vR 1, vR 2]), (64, 1, [vI 1]), (64, 1, [vI 0]), (68, 2, [vR 4, vR 5]), (65, 1, [vD 1]), (65, 1, [vD 2]), (0, 0, uS 0 4 ++ [vR 7, vU 4, vR 8] ++ uS 5 6 ++ [vI 2, vR 9, vR 10, vR 11, vR 12, vR 13, vR 14, vR 15, vR 16, vR 17] ++ uS 11 6), (64, 0, []), (64, 0, []), (64, 2, [vU 17, vU 18]), (64, 2, [vU 19, vU 20]), (65, 2, [vU 21, vU 22]), (64, 3, [vI 0, vI 0, vI 0]), (64, 3, [vI 0, vI 0, vI 0]), (64, 3, [vI 0, vI 0, vI 0]), (64, 3, [vI 0, vI 0, vI 0]), (64, 2, [vU 23, vU 24]), (64, 2, [vU 25, vU 26])]
def cn_131 : Cn := ((10, [vR 6, vR 0, vR 3], dn_131, 3), (some (vI 1), (own_ed dn_131 [(6, 0, 0, uS 0 4 ++ [vR 7, vU 4, vR 8] ++ uS 5 6 ++ [vI 2, vR 9, vR 10, vR 11, vR 12, vR 13, vR 14, vR 15, vR 16, vR 17] ++ uS 11 5 ++ [vI 0]), (9, 64, 2, [vI 1, vI 0]), (10, 64, 2, [vI 0, vI 1]), (11, 65, 2, [vD 2, vD 1]), (16, 64, 2, [vI 1, vI 0]), (17, 64, 2, [vI 0, vI 1])] ++ [(3, 0, [vR 6, vR 19, vR 20, vR 21, vR 22, vR 27, vR 31, vR 36, vR 41, vI 0, vI 0]), (67, 2, [vR 23, vR 25]), (68, 2, [vR 24, vR 26]), (64, 2, [vI 0, vI 0]), (64, 2, [vI 0, vI 0]), (64, 1, [vI 1]), (65, 1, [vD 1]), (64, 1, [vI 0]), (65, 1, [vD 2]), (67, 2, [vR 28, vR 29]), (64, 1, [vI 1]), (64, 1, [vI 0]), (64, 2, [vI 1, vI 1]), (4, 0, [vR 32, vR 33, vR 34, vR 35]), (64, 3, [vI (-1), vI (-1), vI (-1)]), (64, 2, [vI (-1), vI (-1)]), (64, 2, [vI (-1), vI 0]), (64, 2, [vI (-1), vI (-1)]), (4, 0, [vR 37, vR 38, vR 39, vR 40]), (64, 3, [vI (-1), vI (-1), vI (-1)]), (64, 2, [vI 1, vI (-1)]), (64, 2, [vI (-1), vI (-1)]), (64, 2, [vI (-1), vI (-1)]), (64, 2, [vI (-1), vI (-1)]), (64, 2, [vI 0, vI 0]), (64, 2, [vI 0, vI 0])]), [(4, 2, 0, 0), (11, 3, 4472406533629990549, 1), (4, 2, 0, 0), (5, 0, 4, 0), (2, 4591870180066957722, 5, 0), (10, 3, 6, 1), (4, 1, 0, 0), (11, 7, 4472406533629990549, 1), (4, 1, 0, 0), (5, 0, 8, 0), (2, 4591870180066957722, 9, 0), (10, 7, 10, 1)]), (3, 26, 61, 73))
theorem ct_131 : CtH cn_131 := ctR 65 own_pl_0 rfl (own_okN_0 _) [(cn_125, [0, 1, 2, 3, 4, 5, 6, 18], [0, 1, 2], uS 0 4 ++ [vR 7, vU 4, vR 8] ++ uS 5 6 ++ [vR 9, vR 10, vR 11, vR 12, vR 13, vR 14, vR 15, vR 16, vR 17] ++ uS 11 5 ++ [vI 0, .null, .null, .null, vI 0, vI 0]), (cn_126, [6, 18, 19, 20, 21, 22, 25, 26, 27, 28, 31, 32, 36, 37, 38], [0, 2], uS 0 4 ++ [vR 7, vU 4, vR 8] ++ uS 5 6 ++ [vR 9, vR 10, vR 11, vR 12, vR 13, vR 14, vR 15, vR 16, vR 17] ++ uS 11 5 ++ [vI 0, vR 41, vI 0, vI 0, vR 23, vR 24, vI 1, vI 1, vR 29, vR 33, vR 34, vR 35, vI (-1), vI (-1), vR 39, vR 40, vI (-1), vI (-1), vI (-1)]), (cn_128, [6, 9, 10, 11, 12, 13, 16, 17, 18, 19, 20, 21, 22, 25, 26, 27, 28, 31, 33, 34, 35, 36, 37, 38, 39, 40], [0, 2], uS 0 4 ++ [vR 7, vU 4, vR 8] ++ uS 5 6 ++ [vI 2, vR 14, vR 15] ++ uS 11 5 ++ [vI 0] ++ uS 17 6 ++ rp 6 (vI 0) ++ uS 23 4 ++ [vR 41, vR 23, vR 24, vI 1, vI 1, vR 29, vR 32, vI 1, vI (-1), vI 1, vI 1, vI (-1), vI 0, vI (-1), vI (-1), vI 0, vI 1]), (cn_129, [6, 18, 19, 20, 21, 22, 23, 24, 27, 29, 31, 32, 36, 37, 38], [0, 1], uS 0 4 ++ [vR 7, vU 4, vR 8] ++ uS 5 6 ++ [vR 9, vR 10, vR 11, vR 12, vR 13, vR 14, vR 15, vR 16, vR 17] ++ uS 11 5 ++ [vI 0, vR 41, vI 0, vI 0, vR 25, vR 26, vI 0, vI 0, vR 28, vR 33, vR 34, vR 35, vI (-1), vI (-1), vR 39, vR 40, vI (-1), vI (-1), vI 1]), (cn_130, [6, 9, 10, 11, 12, 13, 16, 17, 18, 19, 20, 21, 22, 23, 24, 27, 29, 31, 32, 33, 34, 35, 36, 37, 38, 39, 40], [0, 1], uS 0 4 ++ [vR 7, vU 4, vR 8] ++ uS 5 6 ++ [vI 2, vR 14, vR 15] ++ uS 11 5 ++ [vI 0, vI 1, vU 18, vI 0, vU 20, vD 2, vU 22] ++ rp 6 (vI 0) ++ [vU 23, vI 0, vI 0, vU 26, vR 41, vR 25, vR 26, vI 0, vI 0, vR 28, vI (-1), vI 0, vI (-1), vI (-1), vI 0, vI (-1), vI (-1), vI 1, vI (-1), vI 1, vI (-1), vI (-1)]), (cn_123, [6, 7, 8, 12, 13, 14, 15], [0], uS 0 11 ++ [vR 9, vR 10, vR 11, vR 16, vR 17] ++ uS 11 5 ++ [vI 0])] [] (scS ct_125 (scS ct_126 (scS ct_128 (scS ct_129 (scS ct_130 (scS ct_123 sc0)))))) (by decide +kernel)
def dn_132 : List AD := [(1, 0, [vR 1, vR 2, vR 3, vI 0]), (65, 2, [vU 0, vU 1]), (66, 2, [vI 0, vU 2]), (64, 16, uS 3 16)]
def cn_132 : Cn := ((34, [vR 0, vI 0, vD 1], dn_132, 2), (none, (own_ed dn_132 [(0, 1, 0, [vR 1, vR 2, vR 3, vI 1]), (1, 65, 2, [vD 1, vU 1]), (2, 66, 2, [vI 1, vU 2]), (3, 64, 16, [vI 0] ++ uS 4 15)]), []), (0, 0, 0, 0))
theorem ct_132 : CtH cn_132 := ctR 34 own_pl_5 rfl (own_okN_5 _) [] [] sc0 (by decide +kernel)
def dn_133 : List AD := [(1, 0, [vR 1, vR 2, vR 3, vI 1]), (65, 2, [vU 0, vU 1]), (66, 2, [vU 2, vI 0]), (64, 16, uS 3 16)]
def cn_133 : Cn := ((34, [vR 0, vI 1, vD 1], dn_133, 2), (none, (own_ed dn_133 [(0, 1, 0, [vR 1, vR 2, vR 3, vI 2]), (1, 65, 2, [vU 0, vD 1]), (2, 66, 2, [vU 2, vI 1]), (3, 64, 16, [vU 3, vI 1] ++ uS 5 14)]), []), (0, 0, 0, 0))
theorem ct_133 : CtH cn_133 := ctR 34 own_pl_5 rfl (own_okN_5 _) [] [] sc0 (by decide +kernel)
def dn_134 : List AD := [(1, 0, uS 0 3 ++ [vI 2])]
def cn_134 : Cn := ((36, [vR 0], dn_134, 1), (some (vI 2), (dn_134), []), (0, 0, 0, 0))
theorem ct_134 : CtH cn_134 := ctR 4 own_pl_5 rfl (own_okN_5 _) [] [] sc0 (by decide +kernel)
def dn_135 : List AD := [(1, 0, [vU 0, vU 1, vR 1, vU 2]), (64, 16, [vI 0] ++ uS 3 15)]
def cn_135 : Cn := ((37, [vR 0, vI 0], dn_135, 1), (some (vI 0), (dn_135), []), (0, 0, 0, 0))
theorem ct_135 : CtH cn_135 := ctR 6 own_pl_5 rfl (own_okN_5 _) [] [] sc0 (by decide +kernel)
def dn_136 : List AD := [(1, 0, [vU 0, vU 1, vR 1, vU 2]), (64, 16, [vU 3, vI 1] ++ uS 4 14)]
def cn_136 : Cn := ((37, [vR 0, vI 1], dn_136, 1), (some (vI 1), (dn_136), []), (0, 0, 0, 0))
theorem ct_136 : CtH cn_136 := ctR 6 own_pl_5 rfl (own_okN_5 _) [] [] sc0 (by decide +kernel)
def dn_137 : List AD := [(1, 0, [vR 1] ++ uS 0 3), (65, 2, [vU 3, vD 1])]
def cn_137 : Cn := ((38, [vR 0, vI 1], dn_137, 2), (some (vD 1), (dn_137), []), (0, 0, 0, 0))
theorem ct_137 : CtH cn_137 := ctR 6 own_pl_5 rfl (own_okN_5 _) [] [] sc0 (by decide +kernel)
def dn_138 : List AD := [(1, 0, [vR 1] ++ uS 0 3), (65, 2, [vD 1, vU 3])]
def cn_138 : Cn := ((38, [vR 0, vI 0], dn_138, 2), (some (vD 1), (dn_138), []), (0, 0, 0, 0))
theorem ct_138 : CtH cn_138 := ctR 6 own_pl_5 rfl (own_okN_5 _) [] [] sc0 (by decide +kernel)
def dn_139 : List AD := [(0, 0, uS 0 8 ++ [vR 1, vR 2, vR 3, vR 4, vR 5] ++ uS 8 15 ++ [vI 0]), (64, 16, uS 23 16), (65, 16, uS 39 16), (64, 17, [vI 0] ++ uS 55 16), (64, 256, uS 71 4), (65, 256, uS 75 4), (1, 0, [vR 7, vU 79, vR 8, vI 2]), (65, 2, [vD 1, vD 2]), (64, 16, [vI 0, vI 1] ++ uS 80 14)]
def cn_139 : Cn := ((35, [vR 0, vI 0, vR 6], dn_139, 3), (none, (own_ed dn_139 [(0, 0, 0, uS 0 8 ++ [vR 1, vR 2, vR 3, vR 4, vR 5] ++ uS 8 15 ++ [vI 1]), (1, 64, 16, [vI 0] ++ uS 24 15), (2, 65, 16, [vD 1] ++ uS 40 15), (3, 64, 17, [vI 0, vI 1] ++ uS 56 15), (4, 64, 256, [vI 1] ++ uS 72 3), (5, 65, 256, [vD 2] ++ uS 76 3)]), [(12, 2, 0, 1)]), (1, 0, 0, 15))
theorem ct_139 : CtH cn_139 := ctR 96 own_pl_0 rfl (own_okN_0 _) [(cn_134, [6], [0], [vR 7, vU 79, vR 8]), (cn_135, [6, 8], [0], [vR 7, vU 79, vI 2, vI 1] ++ uS 80 14), (cn_134, [6], [0], [vR 7, vU 79, vR 8]), (cn_136, [6, 8], [0], [vR 7, vU 79, vI 2, vI 0] ++ uS 80 14), (cn_137, [6, 7], [0, 2], [vU 79, vR 8, vI 2, vD 1]), (cn_137, [6, 7], [0, 2], [vU 79, vR 8, vI 2, vD 1]), (cn_134, [6], [0], [vR 7, vU 79, vR 8]), (cn_138, [6, 7], [0, 1], [vU 79, vR 8, vI 2, vD 2])] [1] (scS ct_134 (scS ct_135 (scS ct_134 (scS ct_136 (scS ct_137 (scS ct_137 (scS ct_134 (scS ct_138 sc0)))))))) (by decide +kernel)
def dn_140 : List AD := [(0, 0, uS 0 8 ++ [vR 1, vR 2, vR 3] ++ uS 8 17 ++ [vI 0]), (64, 16, uS 25 16), (65, 16, uS 41 16), (64, 17, [vI 0] ++ uS 57 16), (1, 0, [vR 5, vU 73, vR 6, vI 2]), (65, 2, [vD 1, vD 2]), (64, 16, [vI 0, vI 1] ++ uS 74 14)]
def cn_140 : Cn := ((35, [vR 0, vI 0, vR 4], dn_140, 3), (none, (own_ed dn_140 [(0, 0, 0, uS 0 8 ++ [vR 1, vR 2, vR 3] ++ uS 8 17 ++ [vI 1]), (1, 64, 16, [vI 0] ++ uS 26 15), (2, 65, 16, [vD 1] ++ uS 42 15), (3, 64, 17, [vI 0, vI 0] ++ uS 58 15)]), [(12, 2, 0, 0)]), (1, 0, 0, 15))
theorem ct_140 : CtH cn_140 := ctR 78 own_pl_0 rfl (own_okN_0 _) [(cn_134, [4], [0], [vR 5, vU 73, vR 6]), (cn_135, [4, 6], [0], [vR 5, vU 73, vI 2, vI 1] ++ uS 74 14), (cn_134, [4], [0], [vR 5, vU 73, vR 6]), (cn_136, [4, 6], [0], [vR 5, vU 73, vI 2, vI 0] ++ uS 74 14), (cn_137, [4, 5], [0, 2], [vU 73, vR 6, vI 2, vD 1]), (cn_134, [4], [0], [vR 5, vU 73, vR 6]), (cn_138, [4, 5], [0, 1], [vU 73, vR 6, vI 2, vD 2])] [0] (scS ct_134 (scS ct_135 (scS ct_134 (scS ct_136 (scS ct_137 (scS ct_134 (scS ct_138 sc0))))))) (by decide +kernel)
def dn_141 : List AD := [(1, 0, [vR 1, vR 2, vR 3, vI 0]), (65, 2, [vU 0, vU 1]), (66, 2, [vU 2, vI 0]), (64, 16, uS 3 16)]
def cn_141 : Cn := ((34, [vR 0, vI 1, vD 1], dn_141, 2), (none, (own_ed dn_141 [(0, 1, 0, [vR 1, vR 2, vR 3, vI 1]), (1, 65, 2, [vU 0, vD 1]), (2, 66, 2, [vU 2, vI 1]), (3, 64, 16, [vI 1] ++ uS 4 15)]), []), (0, 0, 0, 0))
theorem ct_141 : CtH cn_141 := ctR 34 own_pl_5 rfl (own_okN_5 _) [] [] sc0 (by decide +kernel)
def dn_142 : List AD := [(1, 0, [vR 1, vR 2, vR 3, vI 1]), (65, 2, [vU 0, vU 1]), (66, 2, [vI 0, vU 2]), (64, 16, uS 3 16)]
def cn_142 : Cn := ((34, [vR 0, vI 0, vD 1], dn_142, 2), (none, (own_ed dn_142 [(0, 1, 0, [vR 1, vR 2, vR 3, vI 2]), (1, 65, 2, [vD 1, vU 1]), (2, 66, 2, [vI 1, vU 2]), (3, 64, 16, [vU 3, vI 0] ++ uS 5 14)]), []), (0, 0, 0, 0))
theorem ct_142 : CtH cn_142 := ctR 34 own_pl_5 rfl (own_okN_5 _) [] [] sc0 (by decide +kernel)
def dn_143 : List AD := [(1, 0, [vU 0, vU 1, vR 1, vU 2]), (64, 16, [vI 1] ++ uS 3 15)]
def cn_143 : Cn := ((37, [vR 0, vI 0], dn_143, 1), (some (vI 1), (dn_143), []), (0, 0, 0, 0))
theorem ct_143 : CtH cn_143 := ctR 6 own_pl_5 rfl (own_okN_5 _) [] [] sc0 (by decide +kernel)
def dn_144 : List AD := [(1, 0, [vU 0, vU 1, vR 1, vU 2]), (64, 16, [vU 3, vI 0] ++ uS 4 14)]
def cn_144 : Cn := ((37, [vR 0, vI 1], dn_144, 1), (some (vI 0), (dn_144), []), (0, 0, 0, 0))
theorem ct_144 : CtH cn_144 := ctR 6 own_pl_5 rfl (own_okN_5 _) [] [] sc0 (by decide +kernel)
def dn_145 : List AD := [(0, 0, uS 0 8 ++ [vR 1, vR 2, vR 3, vR 4, vR 5] ++ uS 8 15 ++ [vI 0]), (64, 16, uS 23 16), (65, 16, uS 39 16), (64, 17, [vI 0] ++ uS 55 16), (64, 256, uS 71 4), (65, 256, uS 75 4), (1, 0, [vR 7, vU 79, vR 8, vI 2]), (65, 2, [vD 1, vD 2]), (64, 16, [vI 1, vI 0] ++ uS 80 14)]
def cn_145 : Cn := ((35, [vR 0, vI 1, vR 6], dn_145, 3), (none, (own_ed dn_145 [(0, 0, 0, uS 0 8 ++ [vR 1, vR 2, vR 3, vR 4, vR 5] ++ uS 8 15 ++ [vI 1]), (1, 64, 16, [vI 1] ++ uS 24 15), (2, 65, 16, [vD 2] ++ uS 40 15), (3, 64, 17, [vI 0, vI 1] ++ uS 56 15), (4, 64, 256, [vI 0] ++ uS 72 3), (5, 65, 256, [vD 1] ++ uS 76 3)]), [(12, 1, 0, 1)]), (1, 0, 0, 15))
theorem ct_145 : CtH cn_145 := ctR 96 own_pl_0 rfl (own_okN_0 _) [(cn_134, [6], [0], [vR 7, vU 79, vR 8]), (cn_143, [6, 8], [0], [vR 7, vU 79, vI 2, vI 0] ++ uS 80 14), (cn_134, [6], [0], [vR 7, vU 79, vR 8]), (cn_144, [6, 8], [0], [vR 7, vU 79, vI 2, vI 1] ++ uS 80 14), (cn_138, [6, 7], [0, 1], [vU 79, vR 8, vI 2, vD 2]), (cn_138, [6, 7], [0, 1], [vU 79, vR 8, vI 2, vD 2]), (cn_134, [6], [0], [vR 7, vU 79, vR 8]), (cn_137, [6, 7], [0, 2], [vU 79, vR 8, vI 2, vD 1])] [1] (scS ct_134 (scS ct_143 (scS ct_134 (scS ct_144 (scS ct_138 (scS ct_138 (scS ct_134 (scS ct_137 sc0)))))))) (by decide +kernel)
def dn_146 : List AD := [(0, 0, uS 0 8 ++ [vR 1, vR 2, vR 3] ++ uS 8 17 ++ [vI 0]), (64, 16, uS 25 16), (65, 16, uS 41 16), (64, 17, [vI 0] ++ uS 57 16), (1, 0, [vR 5, vU 73, vR 6, vI 2]), (65, 2, [vD 1, vD 2]), (64, 16, [vI 1, vI 0] ++ uS 74 14)]
def cn_146 : Cn := ((35, [vR 0, vI 1, vR 4], dn_146, 3), (none, (own_ed dn_146 [(0, 0, 0, uS 0 8 ++ [vR 1, vR 2, vR 3] ++ uS 8 17 ++ [vI 1]), (1, 64, 16, [vI 1] ++ uS 26 15), (2, 65, 16, [vD 2] ++ uS 42 15), (3, 64, 17, [vI 0, vI 0] ++ uS 58 15)]), [(12, 1, 0, 0)]), (1, 0, 0, 15))
theorem ct_146 : CtH cn_146 := ctR 78 own_pl_0 rfl (own_okN_0 _) [(cn_134, [4], [0], [vR 5, vU 73, vR 6]), (cn_143, [4, 6], [0], [vR 5, vU 73, vI 2, vI 0] ++ uS 74 14), (cn_134, [4], [0], [vR 5, vU 73, vR 6]), (cn_144, [4, 6], [0], [vR 5, vU 73, vI 2, vI 1] ++ uS 74 14), (cn_138, [4, 5], [0, 1], [vU 73, vR 6, vI 2, vD 2]), (cn_134, [4], [0], [vR 5, vU 73, vR 6]), (cn_137, [4, 5], [0, 2], [vU 73, vR 6, vI 2, vD 1])] [0] (scS ct_134 (scS ct_143 (scS ct_134 (scS ct_144 (scS ct_138 (scS ct_134 (scS ct_137 sc0))))))) (by decide +kernel)
def dn_147 : List AD := [(1, 0, [vR 1, vR 2, vU 0, vU 1]), (65, 2, [vU 2, vU 3]), (66, 2, [vI 1, vU 4])]
def cn_147 : Cn := ((34, [vR 0, vI 0, vD 1], dn_147, 2), (none, (own_ed dn_147 [(1, 65, 2, [vD 1, vU 3])]), []), (0, 0, 0, 0))
theorem ct_147 : CtH cn_147 := ctR 12 own_pl_5 rfl (own_okN_5 _) [] [] sc0 (by decide +kernel)
def dn_148 : List AD := [(1, 0, [vR 1, vR 2, vU 0, vU 1]), (65, 2, [vU 2, vU 3]), (66, 2, [vU 4, vI 1])]
def cn_148 : Cn := ((34, [vR 0, vI 1, vD 1], dn_148, 2), (none, (own_ed dn_148 [(1, 65, 2, [vU 2, vD 1])]), []), (0, 0, 0, 0))
theorem ct_148 : CtH cn_148 := ctR 12 own_pl_5 rfl (own_okN_5 _) [] [] sc0 (by decide +kernel)
def dn_149 : List AD := [(0, 0, uS 0 8 ++ [vR 1, vR 2, vR 3, vR 4, vR 5] ++ uS 8 15 ++ [vI 1]), (64, 16, uS 23 16), (65, 16, uS 39 16), (64, 17, [vU 55, vI 1] ++ uS 56 15), (64, 256, uS 71 4), (65, 256, uS 75 4), (1, 0, [vR 7, vU 79, vR 8, vI 2]), (65, 2, [vD 1, vD 2]), (64, 16, [vI 0, vI 1] ++ uS 80 14)]
def cn_149 : Cn := ((35, [vR 0, vI 0, vR 6], dn_149, 3), (none, (own_ed dn_149 [(0, 0, 0, uS 0 8 ++ [vR 1, vR 2, vR 3, vR 4, vR 5] ++ uS 8 15 ++ [vI 2]), (1, 64, 16, [vU 23, vI 0] ++ uS 25 14), (2, 65, 16, [vU 39, vD 1] ++ uS 41 14), (3, 64, 17, [vU 55, vI 1, vI 2] ++ uS 57 14), (4, 64, 256, [vU 71, vI 1, vU 73, vU 74]), (5, 65, 256, [vU 75, vD 2, vU 77, vU 78])]), [(12, 2, 0, 1)]), (1, 0, 0, 15))
theorem ct_149 : CtH cn_149 := ctR 96 own_pl_0 rfl (own_okN_0 _) [(cn_134, [6], [0], [vR 7, vU 79, vR 8]), (cn_135, [6, 8], [0], [vR 7, vU 79, vI 2, vI 1] ++ uS 80 14), (cn_134, [6], [0], [vR 7, vU 79, vR 8]), (cn_136, [6, 8], [0], [vR 7, vU 79, vI 2, vI 0] ++ uS 80 14), (cn_137, [6, 7], [0, 2], [vU 79, vR 8, vI 2, vD 1]), (cn_137, [6, 7], [0, 2], [vU 79, vR 8, vI 2, vD 1]), (cn_134, [6], [0], [vR 7, vU 79, vR 8]), (cn_138, [6, 7], [0, 1], [vU 79, vR 8, vI 2, vD 2])] [1] (scS ct_134 (scS ct_135 (scS ct_134 (scS ct_136 (scS ct_137 (scS ct_137 (scS ct_134 (scS ct_138 sc0)))))))) (by decide +kernel)
def dn_150 : List AD := [(0, 0, uS 0 8 ++ [vR 1, vR 2, vR 3] ++ uS 8 17 ++ [vI 1]), (64, 16, uS 25 16), (65, 16, uS 41 16), (64, 17, [vU 57, vI 1] ++ uS 58 15), (1, 0, [vR 5, vU 73, vR 6, vI 2]), (65, 2, [vD 1, vD 2]), (64, 16, [vI 0, vI 1] ++ uS 74 14)]
def cn_150 : Cn := ((35, [vR 0, vI 0, vR 4], dn_150, 3), (none, (own_ed dn_150 [(0, 0, 0, uS 0 8 ++ [vR 1, vR 2, vR 3] ++ uS 8 17 ++ [vI 2]), (1, 64, 16, [vU 25, vI 0] ++ uS 27 14), (2, 65, 16, [vU 41, vD 1] ++ uS 43 14), (3, 64, 17, [vU 57, vI 1, vI 1] ++ uS 59 14)]), [(12, 2, 0, 0)]), (1, 0, 0, 15))
theorem ct_150 : CtH cn_150 := ctR 78 own_pl_0 rfl (own_okN_0 _) [(cn_134, [4], [0], [vR 5, vU 73, vR 6]), (cn_135, [4, 6], [0], [vR 5, vU 73, vI 2, vI 1] ++ uS 74 14), (cn_134, [4], [0], [vR 5, vU 73, vR 6]), (cn_136, [4, 6], [0], [vR 5, vU 73, vI 2, vI 0] ++ uS 74 14), (cn_137, [4, 5], [0, 2], [vU 73, vR 6, vI 2, vD 1]), (cn_134, [4], [0], [vR 5, vU 73, vR 6]), (cn_138, [4, 5], [0, 1], [vU 73, vR 6, vI 2, vD 2])] [0] (scS ct_134 (scS ct_135 (scS ct_134 (scS ct_136 (scS ct_137 (scS ct_134 (scS ct_138 sc0))))))) (by decide +kernel)
def cn_151 : Cn := ((35, [vR 0, vI 1, vR 6], dn_149, 3), (none, (own_ed dn_149 [(0, 0, 0, uS 0 8 ++ [vR 1, vR 2, vR 3, vR 4, vR 5] ++ uS 8 15 ++ [vI 2]), (1, 64, 16, [vU 23, vI 1] ++ uS 25 14), (2, 65, 16, [vU 39, vD 2] ++ uS 41 14), (3, 64, 17, [vU 55, vI 1, vI 2] ++ uS 57 14), (4, 64, 256, [vU 71, vI 0, vU 73, vU 74]), (5, 65, 256, [vU 75, vD 1, vU 77, vU 78])]), [(12, 1, 0, 1)]), (1, 0, 0, 15))
theorem ct_151 : CtH cn_151 := ctR 96 own_pl_0 rfl (own_okN_0 _) [(cn_134, [6], [0], [vR 7, vU 79, vR 8]), (cn_135, [6, 8], [0], [vR 7, vU 79, vI 2, vI 1] ++ uS 80 14), (cn_138, [6, 7], [0, 1], [vU 79, vR 8, vI 2, vD 2]), (cn_138, [6, 7], [0, 1], [vU 79, vR 8, vI 2, vD 2]), (cn_134, [6], [0], [vR 7, vU 79, vR 8]), (cn_136, [6, 8], [0], [vR 7, vU 79, vI 2, vI 0] ++ uS 80 14), (cn_134, [6], [0], [vR 7, vU 79, vR 8]), (cn_137, [6, 7], [0, 2], [vU 79, vR 8, vI 2, vD 1])] [1] (scS ct_134 (scS ct_135 (scS ct_138 (scS ct_138 (scS ct_134 (scS ct_136 (scS ct_134 (scS ct_137 sc0)))))))) (by decide +kernel)
def cn_152 : Cn := ((35, [vR 0, vI 1, vR 4], dn_150, 3), (none, (own_ed dn_150 [(0, 0, 0, uS 0 8 ++ [vR 1, vR 2, vR 3] ++ uS 8 17 ++ [vI 2]), (1, 64, 16, [vU 25, vI 1] ++ uS 27 14), (2, 65, 16, [vU 41, vD 2] ++ uS 43 14), (3, 64, 17, [vU 57, vI 1, vI 1] ++ uS 59 14)]), [(12, 1, 0, 0)]), (1, 0, 0, 15))
theorem ct_152 : CtH cn_152 := ctR 78 own_pl_0 rfl (own_okN_0 _) [(cn_134, [4], [0], [vR 5, vU 73, vR 6]), (cn_135, [4, 6], [0], [vR 5, vU 73, vI 2, vI 1] ++ uS 74 14), (cn_138, [4, 5], [0, 1], [vU 73, vR 6, vI 2, vD 2]), (cn_134, [4], [0], [vR 5, vU 73, vR 6]), (cn_136, [4, 6], [0], [vR 5, vU 73, vI 2, vI 0] ++ uS 74 14), (cn_134, [4], [0], [vR 5, vU 73, vR 6]), (cn_137, [4, 5], [0, 2], [vU 73, vR 6, vI 2, vD 1])] [0] (scS ct_134 (scS ct_135 (scS ct_138 (scS ct_134 (scS ct_136 (scS ct_134 (scS ct_137 sc0))))))) (by decide +kernel)
def dn_153 : List AD := [(0, 0, uS 0 8 ++ [vR 1, vR 2, vR 3, vR 4, vR 5] ++ uS 8 15 ++ [vI 1]), (64, 16, uS 23 16), (65, 16, uS 39 16), (64, 17, [vU 55, vI 0] ++ uS 56 15), (64, 256, uS 71 4), (65, 256, uS 75 4), (1, 0, [vR 7, vU 79, vR 8, vI 2]), (65, 2, [vD 1, vD 2]), (64, 16, [vI 0, vI 1] ++ uS 80 14)]
def cn_153 : Cn := ((35, [vR 0, vI 0, vR 6], dn_153, 3), (none, (own_ed dn_153 [(0, 0, 0, uS 0 8 ++ [vR 1, vR 2, vR 3, vR 4, vR 5] ++ uS 8 15 ++ [vI 2]), (1, 64, 16, [vU 23, vI 0] ++ uS 25 14), (2, 65, 16, [vU 39, vD 1] ++ uS 41 14), (3, 64, 17, [vU 55, vI 0, vI 1] ++ uS 57 14), (4, 64, 256, [vI 1] ++ uS 72 3), (5, 65, 256, [vD 2] ++ uS 76 3)]), [(12, 2, 0, 1)]), (1, 0, 0, 15))
theorem ct_153 : CtH cn_153 := ctR 96 own_pl_0 rfl (own_okN_0 _) [(cn_134, [6], [0], [vR 7, vU 79, vR 8]), (cn_135, [6, 8], [0], [vR 7, vU 79, vI 2, vI 1] ++ uS 80 14), (cn_134, [6], [0], [vR 7, vU 79, vR 8]), (cn_136, [6, 8], [0], [vR 7, vU 79, vI 2, vI 0] ++ uS 80 14), (cn_137, [6, 7], [0, 2], [vU 79, vR 8, vI 2, vD 1]), (cn_137, [6, 7], [0, 2], [vU 79, vR 8, vI 2, vD 1]), (cn_134, [6], [0], [vR 7, vU 79, vR 8]), (cn_138, [6, 7], [0, 1], [vU 79, vR 8, vI 2, vD 2])] [1] (scS ct_134 (scS ct_135 (scS ct_134 (scS ct_136 (scS ct_137 (scS ct_137 (scS ct_134 (scS ct_138 sc0)))))))) (by decide +kernel)
def dn_154 : List AD := [(0, 0, uS 0 8 ++ [vR 1, vR 2, vR 3] ++ uS 8 17 ++ [vI 1]), (64, 16, uS 25 16), (65, 16, uS 41 16), (64, 17, [vU 57, vI 0] ++ uS 58 15), (1, 0, [vR 5, vU 73, vR 6, vI 2]), (65, 2, [vD 1, vD 2]), (64, 16, [vI 0, vI 1] ++ uS 74 14)]
def cn_154 : Cn := ((35, [vR 0, vI 0, vR 4], dn_154, 3), (none, (own_ed dn_154 [(0, 0, 0, uS 0 8 ++ [vR 1, vR 2, vR 3] ++ uS 8 17 ++ [vI 2]), (1, 64, 16, [vU 25, vI 0] ++ uS 27 14), (2, 65, 16, [vU 41, vD 1] ++ uS 43 14), (3, 64, 17, [vU 57, vI 0, vI 0] ++ uS 59 14)]), [(12, 2, 0, 0)]), (1, 0, 0, 15))
theorem ct_154 : CtH cn_154 := ctR 78 own_pl_0 rfl (own_okN_0 _) [(cn_134, [4], [0], [vR 5, vU 73, vR 6]), (cn_135, [4, 6], [0], [vR 5, vU 73, vI 2, vI 1] ++ uS 74 14), (cn_134, [4], [0], [vR 5, vU 73, vR 6]), (cn_136, [4, 6], [0], [vR 5, vU 73, vI 2, vI 0] ++ uS 74 14), (cn_137, [4, 5], [0, 2], [vU 73, vR 6, vI 2, vD 1]), (cn_134, [4], [0], [vR 5, vU 73, vR 6]), (cn_138, [4, 5], [0, 1], [vU 73, vR 6, vI 2, vD 2])] [0] (scS ct_134 (scS ct_135 (scS ct_134 (scS ct_136 (scS ct_137 (scS ct_134 (scS ct_138 sc0))))))) (by decide +kernel)
def cn_155 : Cn := ((35, [vR 0, vI 1, vR 6], dn_153, 3), (none, (own_ed dn_153 [(0, 0, 0, uS 0 8 ++ [vR 1, vR 2, vR 3, vR 4, vR 5] ++ uS 8 15 ++ [vI 2]), (1, 64, 16, [vU 23, vI 1] ++ uS 25 14), (2, 65, 16, [vU 39, vD 2] ++ uS 41 14), (3, 64, 17, [vU 55, vI 0, vI 1] ++ uS 57 14), (4, 64, 256, [vI 0] ++ uS 72 3), (5, 65, 256, [vD 1] ++ uS 76 3)]), [(12, 1, 0, 1)]), (1, 0, 0, 15))
theorem ct_155 : CtH cn_155 := ctR 96 own_pl_0 rfl (own_okN_0 _) [(cn_134, [6], [0], [vR 7, vU 79, vR 8]), (cn_135, [6, 8], [0], [vR 7, vU 79, vI 2, vI 1] ++ uS 80 14), (cn_138, [6, 7], [0, 1], [vU 79, vR 8, vI 2, vD 2]), (cn_138, [6, 7], [0, 1], [vU 79, vR 8, vI 2, vD 2]), (cn_134, [6], [0], [vR 7, vU 79, vR 8]), (cn_136, [6, 8], [0], [vR 7, vU 79, vI 2, vI 0] ++ uS 80 14), (cn_134, [6], [0], [vR 7, vU 79, vR 8]), (cn_137, [6, 7], [0, 2], [vU 79, vR 8, vI 2, vD 1])] [1] (scS ct_134 (scS ct_135 (scS ct_138 (scS ct_138 (scS ct_134 (scS ct_136 (scS ct_134 (scS ct_137 sc0)))))))) (by decide +kernel)
def cn_156 : Cn := ((35, [vR 0, vI 1, vR 4], dn_154, 3), (none, (own_ed dn_154 [(0, 0, 0, uS 0 8 ++ [vR 1, vR 2, vR 3] ++ uS 8 17 ++ [vI 2]), (1, 64, 16, [vU 25, vI 1] ++ uS 27 14), (2, 65, 16, [vU 41, vD 2] ++ uS 43 14), (3, 64, 17, [vU 57, vI 0, vI 0] ++ uS 59 14)]), [(12, 1, 0, 0)]), (1, 0, 0, 15))
theorem ct_156 : CtH cn_156 := ctR 78 own_pl_0 rfl (own_okN_0 _) [(cn_134, [4], [0], [vR 5, vU 73, vR 6]), (cn_135, [4, 6], [0], [vR 5, vU 73, vI 2, vI 1] ++ uS 74 14), (cn_138, [4, 5], [0, 1], [vU 73, vR 6, vI 2, vD 2]), (cn_134, [4], [0], [vR 5, vU 73, vR 6]), (cn_136, [4, 6], [0], [vR 5, vU 73, vI 2, vI 0] ++ uS 74 14), (cn_134, [4], [0], [vR 5, vU 73, vR 6]), (cn_137, [4, 5], [0, 2], [vU 73, vR 6, vI 2, vD 1])] [0] (scS ct_134 (scS ct_135 (scS ct_138 (scS ct_134 (scS ct_136 (scS ct_134 (scS ct_137 sc0))))))) (by decide +kernel)
def dn_157 : List AD := [(0, 0, uS 0 8 ++ [vR 1, vR 2, vR 3, vR 4, vR 5] ++ uS 8 15 ++ [vI 1]), (64, 16, uS 23 16), (65, 16, uS 39 16), (64, 17, [vU 55, vI 1] ++ uS 56 15), (64, 256, uS 71 4), (65, 256, uS 75 4), (1, 0, [vR 7, vU 79, vR 8, vI 2]), (65, 2, [vD 1, vD 2]), (64, 16, [vI 1, vI 0] ++ uS 80 14)]
def cn_157 : Cn := ((35, [vR 0, vI 0, vR 6], dn_157, 3), (none, (own_ed dn_157 [(0, 0, 0, uS 0 8 ++ [vR 1, vR 2, vR 3, vR 4, vR 5] ++ uS 8 15 ++ [vI 2]), (1, 64, 16, [vU 23, vI 0] ++ uS 25 14), (2, 65, 16, [vU 39, vD 1] ++ uS 41 14), (3, 64, 17, [vU 55, vI 1, vI 2] ++ uS 57 14), (4, 64, 256, [vU 71, vI 1, vU 73, vU 74]), (5, 65, 256, [vU 75, vD 2, vU 77, vU 78])]), [(12, 2, 0, 1)]), (1, 0, 0, 15))
theorem ct_157 : CtH cn_157 := ctR 96 own_pl_0 rfl (own_okN_0 _) [(cn_134, [6], [0], [vR 7, vU 79, vR 8]), (cn_143, [6, 8], [0], [vR 7, vU 79, vI 2, vI 0] ++ uS 80 14), (cn_137, [6, 7], [0, 2], [vU 79, vR 8, vI 2, vD 1]), (cn_137, [6, 7], [0, 2], [vU 79, vR 8, vI 2, vD 1]), (cn_134, [6], [0], [vR 7, vU 79, vR 8]), (cn_144, [6, 8], [0], [vR 7, vU 79, vI 2, vI 1] ++ uS 80 14), (cn_134, [6], [0], [vR 7, vU 79, vR 8]), (cn_138, [6, 7], [0, 1], [vU 79, vR 8, vI 2, vD 2])] [1] (scS ct_134 (scS ct_143 (scS ct_137 (scS ct_137 (scS ct_134 (scS ct_144 (scS ct_134 (scS ct_138 sc0)))))))) (by decide +kernel)
def dn_158 : List AD := [(0, 0, uS 0 8 ++ [vR 1, vR 2, vR 3] ++ uS 8 17 ++ [vI 1]), (64, 16, uS 25 16), (65, 16, uS 41 16), (64, 17, [vU 57, vI 1] ++ uS 58 15), (1, 0, [vR 5, vU 73, vR 6, vI 2]), (65, 2, [vD 1, vD 2]), (64, 16, [vI 1, vI 0] ++ uS 74 14)]
def cn_158 : Cn := ((35, [vR 0, vI 0, vR 4], dn_158, 3), (none, (own_ed dn_158 [(0, 0, 0, uS 0 8 ++ [vR 1, vR 2, vR 3] ++ uS 8 17 ++ [vI 2]), (1, 64, 16, [vU 25, vI 0] ++ uS 27 14), (2, 65, 16, [vU 41, vD 1] ++ uS 43 14), (3, 64, 17, [vU 57, vI 1, vI 1] ++ uS 59 14)]), [(12, 2, 0, 0)]), (1, 0, 0, 15))
theorem ct_158 : CtH cn_158 := ctR 78 own_pl_0 rfl (own_okN_0 _) [(cn_134, [4], [0], [vR 5, vU 73, vR 6]), (cn_143, [4, 6], [0], [vR 5, vU 73, vI 2, vI 0] ++ uS 74 14), (cn_137, [4, 5], [0, 2], [vU 73, vR 6, vI 2, vD 1]), (cn_134, [4], [0], [vR 5, vU 73, vR 6]), (cn_144, [4, 6], [0], [vR 5, vU 73, vI 2, vI 1] ++ uS 74 14), (cn_134, [4], [0], [vR 5, vU 73, vR 6]), (cn_138, [4, 5], [0, 1], [vU 73, vR 6, vI 2, vD 2])] [0] (scS ct_134 (scS ct_143 (scS ct_137 (scS ct_134 (scS ct_144 (scS ct_134 (scS ct_138 sc0))))))) (by decide +kernel)
def cn_159 : Cn := ((35, [vR 0, vI 1, vR 6], dn_157, 3), (none, (own_ed dn_157 [(0, 0, 0, uS 0 8 ++ [vR 1, vR 2, vR 3, vR 4, vR 5] ++ uS 8 15 ++ [vI 2]), (1, 64, 16, [vU 23, vI 1] ++ uS 25 14), (2, 65, 16, [vU 39, vD 2] ++ uS 41 14), (3, 64, 17, [vU 55, vI 1, vI 2] ++ uS 57 14), (4, 64, 256, [vU 71, vI 0, vU 73, vU 74]), (5, 65, 256, [vU 75, vD 1, vU 77, vU 78])]), [(12, 1, 0, 1)]), (1, 0, 0, 15))
theorem ct_159 : CtH cn_159 := ctR 96 own_pl_0 rfl (own_okN_0 _) [(cn_134, [6], [0], [vR 7, vU 79, vR 8]), (cn_143, [6, 8], [0], [vR 7, vU 79, vI 2, vI 0] ++ uS 80 14), (cn_134, [6], [0], [vR 7, vU 79, vR 8]), (cn_144, [6, 8], [0], [vR 7, vU 79, vI 2, vI 1] ++ uS 80 14), (cn_138, [6, 7], [0, 1], [vU 79, vR 8, vI 2, vD 2]), (cn_138, [6, 7], [0, 1], [vU 79, vR 8, vI 2, vD 2]), (cn_134, [6], [0], [vR 7, vU 79, vR 8]), (cn_137, [6, 7], [0, 2], [vU 79, vR 8, vI 2, vD 1])] [1] (scS ct_134 (scS ct_143 (scS ct_134 (scS ct_144 (scS ct_138 (scS ct_138 (scS ct_134 (scS ct_137 sc0)))))))) (by decide +kernel)
def cn_160 : Cn := ((35, [vR 0, vI 1, vR 4], dn_158, 3), (none, (own_ed dn_158 [(0, 0, 0, uS 0 8 ++ [vR 1, vR 2, vR 3] ++ uS 8 17 ++ [vI 2]), (1, 64, 16, [vU 25, vI 1] ++ uS 27 14), (2, 65, 16, [vU 41, vD 2] ++ uS 43 14), (3, 64, 17, [vU 57, vI 1, vI 1] ++ uS 59 14)]), [(12, 1, 0, 0)]), (1, 0, 0, 15))
theorem ct_160 : CtH cn_160 := ctR 78 own_pl_0 rfl (own_okN_0 _) [(cn_134, [4], [0], [vR 5, vU 73, vR 6]), (cn_143, [4, 6], [0], [vR 5, vU 73, vI 2, vI 0] ++ uS 74 14), (cn_134, [4], [0], [vR 5, vU 73, vR 6]), (cn_144, [4, 6], [0], [vR 5, vU 73, vI 2, vI 1] ++ uS 74 14), (cn_138, [4, 5], [0, 1], [vU 73, vR 6, vI 2, vD 2]), (cn_134, [4], [0], [vR 5, vU 73, vR 6]), (cn_137, [4, 5], [0, 2], [vU 73, vR 6, vI 2, vD 1])] [0] (scS ct_134 (scS ct_143 (scS ct_134 (scS ct_144 (scS ct_138 (scS ct_134 (scS ct_137 sc0))))))) (by decide +kernel)
def dn_161 : List AD := [(0, 0, uS 0 8 ++ [vR 1, vR 2, vR 3, vR 4, vR 5] ++ uS 8 15 ++ [vI 1]), (64, 16, uS 23 16), (65, 16, uS 39 16), (64, 17, [vU 55, vI 0] ++ uS 56 15), (64, 256, uS 71 4), (65, 256, uS 75 4), (1, 0, [vR 7, vU 79, vR 8, vI 2]), (65, 2, [vD 1, vD 2]), (64, 16, [vI 1, vI 0] ++ uS 80 14)]
def cn_161 : Cn := ((35, [vR 0, vI 0, vR 6], dn_161, 3), (none, (own_ed dn_161 [(0, 0, 0, uS 0 8 ++ [vR 1, vR 2, vR 3, vR 4, vR 5] ++ uS 8 15 ++ [vI 2]), (1, 64, 16, [vU 23, vI 0] ++ uS 25 14), (2, 65, 16, [vU 39, vD 1] ++ uS 41 14), (3, 64, 17, [vU 55, vI 0, vI 1] ++ uS 57 14), (4, 64, 256, [vI 1] ++ uS 72 3), (5, 65, 256, [vD 2] ++ uS 76 3)]), [(12, 2, 0, 1)]), (1, 0, 0, 15))
theorem ct_161 : CtH cn_161 := ctR 96 own_pl_0 rfl (own_okN_0 _) [(cn_134, [6], [0], [vR 7, vU 79, vR 8]), (cn_143, [6, 8], [0], [vR 7, vU 79, vI 2, vI 0] ++ uS 80 14), (cn_137, [6, 7], [0, 2], [vU 79, vR 8, vI 2, vD 1]), (cn_137, [6, 7], [0, 2], [vU 79, vR 8, vI 2, vD 1]), (cn_134, [6], [0], [vR 7, vU 79, vR 8]), (cn_144, [6, 8], [0], [vR 7, vU 79, vI 2, vI 1] ++ uS 80 14), (cn_134, [6], [0], [vR 7, vU 79, vR 8]), (cn_138, [6, 7], [0, 1], [vU 79, vR 8, vI 2, vD 2])] [1] (scS ct_134 (scS ct_143 (scS ct_137 (scS ct_137 (scS ct_134 (scS ct_144 (scS ct_134 (scS ct_138 sc0)))))))) (by decide +kernel)
def dn_162 : List AD := [(0, 0, uS 0 8 ++ [vR 1, vR 2, vR 3] ++ uS 8 17 ++ [vI 1]), (64, 16, uS 25 16), (65, 16, uS 41 16), (64, 17, [vU 57, vI 0] ++ uS 58 15), (1, 0, [vR 5, vU 73, vR 6, vI 2]), (65, 2, [vD 1, vD 2]), (64, 16, [vI 1, vI 0] ++ uS 74 14)]
def cn_162 : Cn := ((35, [vR 0, vI 0, vR 4], dn_162, 3), (none, (own_ed dn_162 [(0, 0, 0, uS 0 8 ++ [vR 1, vR 2, vR 3] ++ uS 8 17 ++ [vI 2]), (1, 64, 16, [vU 25, vI 0] ++ uS 27 14), (2, 65, 16, [vU 41, vD 1] ++ uS 43 14), (3, 64, 17, [vU 57, vI 0, vI 0] ++ uS 59 14)]), [(12, 2, 0, 0)]), (1, 0, 0, 15))
theorem ct_162 : CtH cn_162 := ctR 78 own_pl_0 rfl (own_okN_0 _) [(cn_134, [4], [0], [vR 5, vU 73, vR 6]), (cn_143, [4, 6], [0], [vR 5, vU 73, vI 2, vI 0] ++ uS 74 14), (cn_137, [4, 5], [0, 2], [vU 73, vR 6, vI 2, vD 1]), (cn_134, [4], [0], [vR 5, vU 73, vR 6]), (cn_144, [4, 6], [0], [vR 5, vU 73, vI 2, vI 1] ++ uS 74 14), (cn_134, [4], [0], [vR 5, vU 73, vR 6]), (cn_138, [4, 5], [0, 1], [vU 73, vR 6, vI 2, vD 2])] [0] (scS ct_134 (scS ct_143 (scS ct_137 (scS ct_134 (scS ct_144 (scS ct_134 (scS ct_138 sc0))))))) (by decide +kernel)
def cn_163 : Cn := ((35, [vR 0, vI 1, vR 6], dn_161, 3), (none, (own_ed dn_161 [(0, 0, 0, uS 0 8 ++ [vR 1, vR 2, vR 3, vR 4, vR 5] ++ uS 8 15 ++ [vI 2]), (1, 64, 16, [vU 23, vI 1] ++ uS 25 14), (2, 65, 16, [vU 39, vD 2] ++ uS 41 14), (3, 64, 17, [vU 55, vI 0, vI 1] ++ uS 57 14), (4, 64, 256, [vI 0] ++ uS 72 3), (5, 65, 256, [vD 1] ++ uS 76 3)]), [(12, 1, 0, 1)]), (1, 0, 0, 15))
theorem ct_163 : CtH cn_163 := ctR 96 own_pl_0 rfl (own_okN_0 _) [(cn_134, [6], [0], [vR 7, vU 79, vR 8]), (cn_143, [6, 8], [0], [vR 7, vU 79, vI 2, vI 0] ++ uS 80 14), (cn_134, [6], [0], [vR 7, vU 79, vR 8]), (cn_144, [6, 8], [0], [vR 7, vU 79, vI 2, vI 1] ++ uS 80 14), (cn_138, [6, 7], [0, 1], [vU 79, vR 8, vI 2, vD 2]), (cn_138, [6, 7], [0, 1], [vU 79, vR 8, vI 2, vD 2]), (cn_134, [6], [0], [vR 7, vU 79, vR 8]), (cn_137, [6, 7], [0, 2], [vU 79, vR 8, vI 2, vD 1])] [1] (scS ct_134 (scS ct_143 (scS ct_134 (scS ct_144 (scS ct_138 (scS ct_138 (scS ct_134 (scS ct_137 sc0)))))))) (by decide +kernel)
def cn_164 : Cn := ((35, [vR 0, vI 1, vR 4], dn_162, 3), (none, (own_ed dn_162 [(0, 0, 0, uS 0 8 ++ [vR 1, vR 2, vR 3] ++ uS 8 17 ++ [vI 2]), (1, 64, 16, [vU 25, vI 1] ++ uS 27 14), (2, 65, 16, [vU 41, vD 2] ++ uS 43 14), (3, 64, 17, [vU 57, vI 0, vI 0] ++ uS 59 14)]), [(12, 1, 0, 0)]), (1, 0, 0, 15))
theorem ct_164 : CtH cn_164 := ctR 78 own_pl_0 rfl (own_okN_0 _) [(cn_134, [4], [0], [vR 5, vU 73, vR 6]), (cn_143, [4, 6], [0], [vR 5, vU 73, vI 2, vI 0] ++ uS 74 14), (cn_134, [4], [0], [vR 5, vU 73, vR 6]), (cn_144, [4, 6], [0], [vR 5, vU 73, vI 2, vI 1] ++ uS 74 14), (cn_138, [4, 5], [0, 1], [vU 73, vR 6, vI 2, vD 2]), (cn_134, [4], [0], [vR 5, vU 73, vR 6]), (cn_137, [4, 5], [0, 2], [vU 73, vR 6, vI 2, vD 1])] [0] (scS ct_134 (scS ct_143 (scS ct_134 (scS ct_144 (scS ct_138 (scS ct_134 (scS ct_137 sc0))))))) (by decide +kernel)
def dn_165 : List AD := [(65, 2, [vD 3, vD 4])]
def cn_165 : Cn := ((39, [vR 0, vI 0, vD 1, vD 2], dn_165, 5), (some (vR 1), (dn_165 ++ [(65, 2, [vD 7, vD 4])]), [(2, 1, 3, 0), (2, 2, 4, 0), (0, 5, 6, 0)]), (0, 1, 2, 0))
theorem ct_165 : CtH cn_165 := ctR 34 own_pl_4 rfl (own_okN_4 _) [] [] sc0 (by decide +kernel)
def dn_166 : List AD := [(65, 2, [vD 3, vD 4])]
def cn_166 : Cn := ((39, [vR 0, vI 1, vD 1, vD 2], dn_166, 5), (some (vR 1), (dn_166 ++ [(65, 2, [vD 3, vD 7])]), [(2, 1, 4, 0), (2, 2, 3, 0), (0, 5, 6, 0)]), (0, 1, 2, 0))
theorem ct_166 : CtH cn_166 := ctR 34 own_pl_4 rfl (own_okN_4 _) [] [] sc0 (by decide +kernel)
section Fix
open Jvm.FP Jvm.FP.Core Jvm.Free.Fl
def shd (k : Int) : Datum → Datum
  | .fin s c q => .fin s c (q + k)
  | .nan => .nan
  | .inf s => .inf s
def DFix (i : Int) (k : Nat) (a : UInt64) : Prop := Whole i (shd (k : Int) (val64 a))
theorem own_shdfin {i : Int} {k : Nat} {d : Datum} (h : Whole i (shd k d)) : ∃ s c q, d = .fin s c q := by
  cases d with
  | nan => exact h.elim
  | inf => exact h.elim
  | fin s c q => exact ⟨s, c, q, rfl⟩
theorem own_fixnn {i : Int} {k : Nat} {a : UInt64} (h : DFix i k a) : NoNaN64 a := by
  obtain ⟨s, c, q, e⟩ := own_shdfin h
  exact noNaN64_no.mpr ((notNaN_iff a).mpr (by rw [e]; intro q; cases q))
theorem own_sgn {i : Int} {s : Bool} (h : s = decide (i < 0)) : signed s i.natAbs = i := by
  subst h
  unfold signed
  by_cases hn : i < 0 <;> simp [hn] <;> omega
theorem own_fixrr {i : Int} {k : Nat} {s : Bool} (h0 : i ≠ 0) (hi : i.natAbs ≤ 2 ^ 53) (hk : k ≤ 1000) (hs : s = decide (i < 0)) : Whole i (shd k (roundRatio b64 s i.natAbs 1 (-(k : Int)))) := by
  obtain ⟨c', q', hfit, hv⟩ := natFit good_b64 wide_b64 s (n := i.natAbs) hi
  obtain ⟨f1, f2, f3, f4⟩ := hfit
  have hp : b64.p = 53 := by decide
  have hmin : b64.qmin = -1074 := by decide
  have hq : -52 ≤ q' := by
    refine Int.le_of_not_gt fun hlt => ?_
    rw [show (q' - 0).toNat = 0 by omega, Nat.pow_zero, Nat.mul_one, Nat.mul_one] at hv
    have h53 : 2 ^ 53 ≤ 2 ^ (0 - q').toNat := Nat.pow_le_pow_right (by decide) (by omega)
    have : 1 * 2 ^ (0 - q').toNat ≤ i.natAbs * 2 ^ (0 - q').toNat := Nat.mul_le_mul_right _ (by omega)
    rw [hp] at f1
    omega
  have hfit2 : Core.fits b64 (.fin s c' (q' - k)) := ⟨f1, by rw [hmin]; omega, by omega, f4.elim (fun q => by rw [hmin] at q; omega) Or.inr⟩
  rw [roundRatio_exact good_b64 (by decide) hfit2 (by rw [show -(k : Int) - (q' - k) = 0 - q' by omega, show q' - k - -(k : Int) = q' - 0 by omega]; exact hv)]
  show signed s (c' * 2 ^ (q' - k + k).toNat) = i * ((2 ^ (-(q' - k + k)).toNat : Nat) : Int)
  rw [show q' - k + k = q' by omega]
  rw [show (0 - q').toNat = (-q').toNat by omega, show (q' - 0).toNat = q'.toNat by omega, Nat.mul_one] at hv
  rw [← hv, signed_mul, own_sgn hs]
theorem own_fixround {i : Int} {k : Nat} {d : Datum} (hi : i.natAbs ≤ 2 ^ 53) (hk : k ≤ 1000) (h : Whole i (shd k d)) : Whole i (shd k (round b64 d)) := by
  obtain ⟨s, c, q, rfl⟩ := own_shdfin h
  have h' : Whole i (.fin s c (q + k)) := h
  by_cases h0 : i = 0
  · subst h0
    have hc : c = 0 := (whole_zero h').mpr rfl
    subst hc
    show Whole 0 (shd k (roundRatio b64 s 0 1 q))
    unfold roundRatio
    rw [if_pos rfl]
    show signed s (0 * _) = 0 * _
    rw [Nat.zero_mul, Int.zero_mul, signed_zero]
  · have hn := whole_natAbs h'
    have e1 : round b64 (.fin s c q) = roundRatio b64 s i.natAbs 1 (-(k : Int)) := by
      refine roundRatio_congr (by decide) (by decide) ?_
      rw [show q - -(k : Int) = q + k by omega, show -(k : Int) - q = -(q + k) by omega, Nat.mul_one, Nat.mul_one]
      exact hn
    rw [e1]
    exact own_fixrr h0 hi hk (whole_sign h' h0)
theorem own_fixadd {i j : Int} {k : Nat} {a b : UInt64} (ha : DFix i k a) (hb : DFix j k b) (h : (i + j).natAbs ≤ 2 ^ 53) (hk : k ≤ 1000) : DFix (i + j) k (FP.dadd a b) := by
  show Whole _ (shd k (val64 (Core.dadd a b)))
  rw [val64_dadd]
  refine own_fixround h hk ?_
  obtain ⟨s, c, q, ea⟩ := own_shdfin ha
  obtain ⟨t, d, r, eb⟩ := own_shdfin hb
  have ha' : Whole i (.fin s c (q + k)) := by have := ha; unfold DFix at this; rw [ea] at this; exact this
  have hb' : Whole j (.fin t d (r + k)) := by have := hb; unfold DFix at this; rw [eb] at this; exact this
  rw [ea, eb]
  have e : shd k (exactSum (.fin s c q) (.fin t d r)) = exactSum (.fin s c (q + k)) (.fin t d (r + k)) := by
    simp only [exactSum, shd]
    have e0 : min (q + (k : Int)) (r + k) = min q r + k := by omega
    have e1 : sumUnits s c (q + k) t d (r + k) (min q r + k) = sumUnits s c q t d r (min q r) := by
      unfold sumUnits inUnits
      rw [show q + (k : Int) - (min q r + k) = q - min q r by omega, show r + (k : Int) - (min q r + k) = r - min q r by omega]
    rw [e0, e1]
  rw [e]
  exact whole_sum ha' hb'
theorem own_fixneg {i : Int} {k : Nat} {a : UInt64} (ha : DFix i k a) : Whole (-i) (shd k (negate (val64 a))) := by
  obtain ⟨s, c, q, ea⟩ := own_shdfin ha
  have ha' : Whole i (.fin s c (q + k)) := by have := ha; unfold DFix at this; rw [ea] at this; exact this
  rw [ea]
  exact whole_negate ha'
theorem own_fixsub {i j : Int} {k : Nat} {a b : UInt64} (ha : DFix i k a) (hb : DFix j k b) (h : (i - j).natAbs ≤ 2 ^ 53) (hk : k ≤ 1000) : DFix (i - j) k (FP.dsub a b) := by
  have hb2 : DFix (-j) k (Core.dneg b) := by
    show Whole _ (shd k (val64 (Core.dneg b)))
    rw [Core.val64_dneg]; exact own_fixneg hb
  have := own_fixadd ha hb2 (by rw [← Int.sub_eq_add_neg]; exact h) hk
  rw [← Int.sub_eq_add_neg] at this
  show DFix (i - j) k (Core.dsub a b)
  rw [dsub_eq]; exact this
theorem own_fixmul {i j : Int} {k l : Nat} {a b : UInt64} (ha : DFix i k a) (hb : DFix j l b) (h : (i * j).natAbs ≤ 2 ^ 53) (hk : k + l ≤ 1000) : DFix (i * j) (k + l) (FP.dmul a b) := by
  show Whole _ (shd _ (val64 (Core.dmul a b)))
  rw [val64_dmul]
  refine own_fixround h hk ?_
  obtain ⟨s, c, q, ea⟩ := own_shdfin ha
  obtain ⟨t, d, r, eb⟩ := own_shdfin hb
  have ha' : Whole i (.fin s c (q + k)) := by have := ha; unfold DFix at this; rw [ea] at this; exact this
  have hb' : Whole j (.fin t d (r + l)) := by have := hb; unfold DFix at this; rw [eb] at this; exact this
  rw [ea, eb]
  have e : shd ((k + l : Nat) : Int) (exactProduct (.fin s c q) (.fin t d r)) = exactProduct (.fin s c (q + k)) (.fin t d (r + l)) := by
    simp only [exactProduct, shd]
    rw [show q + r + ((k + l : Nat) : Int) = q + k + (r + l) by omega]
  rw [e]
  exact whole_product ha' hb'
theorem own_fixcmp {i j : Int} {k : Nat} {a b : UInt64} (ha : DFix i k a) (hb : DFix j k b) : FP.dcmp a b = some (compare i j) := by
  obtain ⟨s, c, q, ea⟩ := own_shdfin ha
  obtain ⟨t, d, r, eb⟩ := own_shdfin hb
  have ha' : Whole i (.fin s c (q + k)) := by have := ha; unfold DFix at this; rw [ea] at this; exact this
  have hb' : Whole j (.fin t d (r + k)) := by have := hb; unfold DFix at this; rw [eb] at this; exact this
  show order (val64 a) (val64 b) = _
  rw [ea, eb, ← order_whole ha' hb']
  simp only [order]
  have e0 : min (q + (k : Int)) (r + k) = min q r + k := by omega
  unfold inUnits
  rw [e0, show q + (k : Int) - (min q r + k) = q - min q r by omega, show r + (k : Int) - (min q r + k) = r - min q r by omega]
theorem own_fixlift {i : Int} {k : Nat} {a : UInt64} (ha : DFix i k a) (m : Nat) : DFix (i * ((2 ^ m : Nat) : Int)) (k + m) a := by
  obtain ⟨s, c, q, ea⟩ := own_shdfin ha
  have h : signed s (c * 2 ^ (q + k).toNat) = i * ((2 ^ (-(q + (k : Int))).toNat : Nat) : Int) := by have := ha; unfold DFix at this; rw [ea] at this; exact this
  show Whole _ (shd _ (val64 a))
  rw [ea]
  show signed s (c * 2 ^ (q + ((k + m : Nat) : Int)).toNat) = i * ((2 ^ m : Nat) : Int) * ((2 ^ (-(q + ((k + m : Nat) : Int))).toNat : Nat) : Int)
  have p2 : ((2 ^ (-(q + (k : Int))).toNat : Nat) : Int) ≠ 0 := by have := Nat.two_pow_pos (-(q + (k : Int))).toNat; omega
  refine Int.eq_of_mul_eq_mul_right p2 ?_
  rw [← signed_mul, Nat.mul_assoc, ← Nat.pow_add]
  rw [show (q + ((k + m : Nat) : Int)).toNat + (-(q + (k : Int))).toNat = (q + k).toNat + (m + (-(q + ((k + m : Nat) : Int))).toNat) by omega]
  rw [Nat.pow_add, ← Nat.mul_assoc, signed_mul, h, Nat.pow_add]
  rw [Int.natCast_mul]
  simp only [Int.mul_assoc]
  rw [Int.mul_comm ((2 ^ (-(q + (k : Int))).toNat : Nat) : Int), Int.mul_assoc]
theorem own_fix0 {i : Int} {a : UInt64} : DFix i 0 a ↔ DInt i a := by
  have e : shd ((0 : Nat) : Int) (val64 a) = val64 a := by
    cases val64 a with
    | nan => rfl
    | inf => rfl
    | fin s c q => show Datum.fin s c (q + ((0 : Nat) : Int)) = _; rw [show q + ((0 : Nat) : Int) = q by omega]
  unfold DFix DInt
  rw [e]
theorem own_fixint {i : Int} {a : UInt64} (h : DInt i a) (m : Nat) : DFix (i * ((2 ^ m : Nat) : Int)) m a := by
  have := own_fixlift (own_fix0.mpr h) m
  rwa [Nat.zero_add] at this
theorem own_fixdiv {i j t : Int} {k l M : Nat} {a b : UInt64} (ha : DFix i k a) (hb : DFix j l b) (hj : j ≠ 0) (ht : i * ((2 ^ (l + M) : Nat) : Int) = t * j * ((2 ^ k : Nat) : Int)) (h : t.natAbs ≤ 2 ^ 53) (hM : M ≤ 1000) : DFix t M (FP.ddiv a b) := by
  show Whole _ (shd _ (val64 (Core.ddiv a b)))
  rw [val64_ddiv]
  obtain ⟨s, c, q, ea⟩ := own_shdfin ha
  obtain ⟨u, d, r, eb⟩ := own_shdfin hb
  have ha' : Whole i (.fin s c (q + k)) := by have := ha; unfold DFix at this; rw [ea] at this; exact this
  have hb' : Whole j (.fin u d (r + l)) := by have := hb; unfold DFix at this; rw [eb] at this; exact this
  have hd : d ≠ 0 := fun q => hj ((whole_zero hb').mp q)
  have p1 : (0 : Int) < ((2 ^ (l + M) : Nat) : Int) := by have := Nat.two_pow_pos (l + M); omega
  have p2 : (0 : Int) < ((2 ^ k : Nat) : Int) := by have := Nat.two_pow_pos k; omega
  rw [ea, eb]
  show Whole t (shd M (if d = 0 then _ else roundRatio b64 (s != u) c d (q - r)))
  rw [if_neg hd]
  by_cases h0 : t = 0
  · subst h0
    have hi0 : i = 0 := by
      rw [Int.zero_mul, Int.zero_mul] at ht
      rcases Int.mul_eq_zero.mp ht with q | q
      · exact q
      · omega
    have hc : c = 0 := (whole_zero ha').mpr hi0
    subst hc
    unfold roundRatio
    rw [if_pos rfl]
    show signed _ (0 * _) = 0 * _
    rw [Nat.zero_mul, Int.zero_mul, signed_zero]
  · have hi0 : i ≠ 0 := by
      intro q; subst q
      rw [Int.zero_mul] at ht
      rcases Int.mul_eq_zero.mp ht.symm with q | q
      · rcases Int.mul_eq_zero.mp q with q | q
        · exact h0 q
        · exact hj q
      · omega
    have hsg : (s != u) = decide (t < 0) := by
      rw [whole_sign ha' hi0, whole_sign hb' hj]
      have m1 : i < 0 ↔ t * j < 0 := by
        constructor
        · intro q
          refine Int.lt_of_not_ge fun g => ?_
          have a1 := Int.mul_nonneg g (Int.le_of_lt p2)
          have a2 := Int.mul_neg_of_neg_of_pos q p1
          omega
        · intro q
          refine Int.lt_of_not_ge fun g => ?_
          have a1 := Int.mul_nonneg g (Int.le_of_lt p1)
          have a2 := Int.mul_neg_of_neg_of_pos q p2
          omega
      have m2 : decide (i < 0) = decide (t * j < 0) := decide_eq_decide.mpr m1
      rw [m2]
      rcases Int.lt_or_gt_of_ne hj with g | g
      · rcases Int.lt_or_gt_of_ne h0 with f | f
        · have := Int.mul_pos_of_neg_of_neg f g
          simp [f, g, show ¬ t * j < 0 by omega]
        · have := Int.mul_neg_of_pos_of_neg f g
          simp [g, show ¬ t < 0 by omega, this]
      · rcases Int.lt_or_gt_of_ne h0 with f | f
        · have := Int.mul_neg_of_neg_of_pos f g
          simp [f, this, show ¬ j < 0 by omega]
        · have := Int.mul_pos f g
          simp [show ¬ t < 0 by omega, show ¬ j < 0 by omega, show ¬ t * j < 0 by omega]
    have hn1 := whole_natAbs ha'
    have hn2 := whole_natAbs hb'
    have hn3 : i.natAbs * 2 ^ (l + M) = t.natAbs * j.natAbs * 2 ^ k := by
      have := congrArg Int.natAbs ht
      rw [Int.natAbs_mul, Int.natAbs_mul, Int.natAbs_mul, Int.natAbs_natCast, Int.natAbs_natCast] at this
      exact this
    have hjp : 0 < j.natAbs := by omega
    have key : c * 1 * 2 ^ (q - r - -(M : Int)).toNat = t.natAbs * d * 2 ^ (-(M : Int) - (q - r)).toNat := by
      have hF : 0 < j.natAbs * 2 ^ (-(r + (l : Int))).toNat * 2 ^ (q + (k : Int)).toNat * 2 ^ k := Nat.mul_pos (Nat.mul_pos (Nat.mul_pos hjp (Nat.two_pow_pos _)) (Nat.two_pow_pos _)) (Nat.two_pow_pos _)
      refine Nat.eq_of_mul_eq_mul_right hF ?_
      have hex : (-(q + (k : Int))).toNat + (q - r - -(M : Int)).toNat + (r + (l : Int)).toNat + k = (-(M : Int) - (q - r)).toNat + (-(r + (l : Int))).toNat + (q + (k : Int)).toNat + (l + M) := by omega
      have L : c * 1 * 2 ^ (q - r - -(M : Int)).toNat * (j.natAbs * 2 ^ (-(r + (l : Int))).toNat * 2 ^ (q + (k : Int)).toNat * 2 ^ k) = i.natAbs * d * 2 ^ ((-(q + (k : Int))).toNat + (q - r - -(M : Int)).toNat + (r + (l : Int)).toNat + k) := by
        calc c * 1 * 2 ^ (q - r - -(M : Int)).toNat * (j.natAbs * 2 ^ (-(r + (l : Int))).toNat * 2 ^ (q + (k : Int)).toNat * 2 ^ k) = (c * 2 ^ (q + (k : Int)).toNat) * (j.natAbs * 2 ^ (-(r + (l : Int))).toNat) * 2 ^ (q - r - -(M : Int)).toNat * 2 ^ k := by rw [Nat.mul_one]; ac_rfl
          _ = (i.natAbs * 2 ^ (-(q + (k : Int))).toNat) * (d * 2 ^ (r + (l : Int)).toNat) * 2 ^ (q - r - -(M : Int)).toNat * 2 ^ k := by rw [hn1, hn2]
          _ = _ := by simp only [Nat.pow_add]; ac_rfl
      have Rr : t.natAbs * d * 2 ^ (-(M : Int) - (q - r)).toNat * (j.natAbs * 2 ^ (-(r + (l : Int))).toNat * 2 ^ (q + (k : Int)).toNat * 2 ^ k) = i.natAbs * d * 2 ^ ((-(M : Int) - (q - r)).toNat + (-(r + (l : Int))).toNat + (q + (k : Int)).toNat + (l + M)) := by
        calc t.natAbs * d * 2 ^ (-(M : Int) - (q - r)).toNat * (j.natAbs * 2 ^ (-(r + (l : Int))).toNat * 2 ^ (q + (k : Int)).toNat * 2 ^ k) = (t.natAbs * j.natAbs * 2 ^ k) * (d * 2 ^ (-(M : Int) - (q - r)).toNat * 2 ^ (-(r + (l : Int))).toNat * 2 ^ (q + (k : Int)).toNat) := by ac_rfl
          _ = (i.natAbs * 2 ^ (l + M)) * (d * 2 ^ (-(M : Int) - (q - r)).toNat * 2 ^ (-(r + (l : Int))).toNat * 2 ^ (q + (k : Int)).toNat) := by rw [hn3]
          _ = _ := by simp only [Nat.pow_add]; ac_rfl
      rw [L, Rr, hex]
    rw [roundRatio_congr (A' := t.natAbs) (B' := 1) (e' := -(M : Int)) (by omega) (by decide) (by simpa using key)]
    exact own_fixrr h0 h hM hsg
end Fix
open Jvm.FP.Core in
def PA (k j : Int) (ar ao : UInt64) : Prop := (k = 1 ∨ k = -1 ∨ k = 2 ∨ k = -2) ∧ (-8 ≤ j ∧ j ≤ 8) ∧ DInt k ar ∧ DInt j ao
def Er (r : Bool) (k j v0 v1 z0 z1 : Int) : Prop := (bif r then k * z1 + j * z0 else k * z0 + j * z1) = (bif r then v1 else v0) ∧ (bif r then z0 = v0 else z1 = v1)
theorem own_divk {d k : Int} (N : Int) (hk : k = 1 ∨ k = -1 ∨ k = 2 ∨ k = -2) (he : d % 2 = 0) (b : -N ≤ d ∧ d ≤ N) : ∃ t : Int, d = t * k ∧ (d % 4 = 0 → t % 2 = 0) ∧ (-N ≤ t ∧ t ≤ N) := by
  rcases hk with rfl | rfl | rfl | rfl
  · exact ⟨d, by omega, by omega, by omega⟩
  · exact ⟨-d, by omega, by omega, by omega⟩
  · exact ⟨d / 2, by omega, by omega, by omega⟩
  · exact ⟨-(d / 2), by omega, by omega, by omega⟩
theorem own_b53 {i : Int} (h : -9007199254740992 ≤ i ∧ i ≤ 9007199254740992) : i.natAbs ≤ 2 ^ 53 := by
  have : (2 : Nat) ^ 53 = 9007199254740992 := by decide
  omega
theorem own_bj {j B N : Int} (hj : -8 ≤ j ∧ j ≤ 8) (hB : -N ≤ B ∧ B ≤ N) (hN : 0 ≤ N) : -(8 * N) ≤ j * B ∧ j * B ≤ 8 * N := by
  have h : j = -8 ∨ j = -7 ∨ j = -6 ∨ j = -5 ∨ j = -4 ∨ j = -3 ∨ j = -2 ∨ j = -1 ∨ j = 0 ∨ j = 1 ∨ j = 2 ∨ j = 3 ∨ j = 4 ∨ j = 5 ∨ j = 6 ∨ j = 7 ∨ j = 8 := by omega
  rcases h with rfl | rfl | rfl | rfl | rfl | rfl | rfl | rfl | rfl | rfl | rfl | rfl | rfl | rfl | rfl | rfl | rfl <;> omega
theorem own_jm {j B m : Int} (h : B % m = 0) : (j * B) % m = 0 := by
  rw [Int.mul_emod, h, Int.mul_zero, Int.zero_emod]
theorem own_eta1 {A B k j t : Int} {x y ar ao : UInt64} (hx : DFix A 2 x) (hy : DFix B 2 y) (H : PA k j ar ao) (bA : -274877906944 ≤ A ∧ A ≤ 274877906944) (bB : -274877906944 ≤ B ∧ B ≤ 274877906944) (ht : A - j * B = t * k) (bt : -4398046511104 ≤ t ∧ t ≤ 4398046511104) :
    Jvm.Free.Fl.NoNaN64 (FP.dmul ao y) ∧ Jvm.Free.Fl.NoNaN64 (FP.dsub x (FP.dmul ao y)) ∧ Jvm.Free.Fl.NoNaN64 (FP.ddiv (FP.dsub x (FP.dmul ao y)) ar) ∧ DFix t 2 (FP.ddiv (FP.dsub x (FP.dmul ao y)) ar) := by
  obtain ⟨hk, bj, hr, ho⟩ := H
  have bP := own_bj bj bB (by decide)
  have h1 : DFix (j * B) 2 (FP.dmul ao y) := own_fixmul (k := 0) (l := 2) (own_fix0.mpr ho) hy (own_b53 (by omega)) (by decide)
  have h2 := own_fixsub hx h1 (own_b53 (by omega)) (by decide)
  have h3 : DFix t 2 (FP.ddiv (FP.dsub x (FP.dmul ao y)) ar) := own_fixdiv h2 (own_fix0.mpr hr) (by rcases hk with rfl | rfl | rfl | rfl <;> decide) (M := 2) (by rw [ht]) (own_b53 (by omega)) (by decide)
  exact ⟨own_fixnn h1, own_fixnn h2, own_fixnn h3, h3⟩
theorem own_eta0 {A k j t : Int} {x ar ao : UInt64} (hx : DFix A 2 x) (H : PA k j ar ao) (ht : A = t * k) (bt : -4398046511104 ≤ t ∧ t ≤ 4398046511104) : Jvm.Free.Fl.NoNaN64 (FP.ddiv x ar) ∧ DFix t 2 (FP.ddiv x ar) := by
  obtain ⟨hk, bj, hr, ho⟩ := H
  have h3 : DFix t 2 (FP.ddiv x ar) := own_fixdiv hx (own_fix0.mpr hr) (by rcases hk with rfl | rfl | rfl | rfl <;> decide) (M := 2) (by rw [ht]) (own_b53 (by omega)) (by decide)
  exact ⟨own_fixnn h3, h3⟩
def own_s4 : Option (Int32 × UInt64 × Int32) → Slot
  | none => .unset
  | some x => .val (.int x.1)
def own_s5 : Option (Int32 × UInt64 × Int32) → Slot
  | none => .unset
  | some x => .val (.double x.2.1)
def own_s6 : Option (Int32 × UInt64 × Int32) → Slot
  | none => .unset
  | some _ => .second
def own_s7 : Option (Int32 × UInt64 × Int32) → Slot
  | none => .unset
  | some x => .val (.int x.2.2)
theorem own_en {A B k j : Int} {x y ar ao : UInt64} (H : PA k j ar ao) (fA : DFix A 2 x) (fB : DFix B 2 y) (N : Int) (hN : 0 ≤ N ∧ N ≤ 274877906944) (bA : -N ≤ A ∧ A ≤ N) (bB : -N ≤ B ∧ B ≤ N) (mA : A % 2 = 0) (mB : B % 2 = 0) : ∃ t : Int, k * t + j * B = A ∧ (A % 4 = 0 → B % 4 = 0 → t % 2 = 0) ∧ (-(9 * N) ≤ t ∧ t ≤ 9 * N) ∧ Jvm.Free.Fl.NoNaN64 (FP.dmul ao y) ∧ Jvm.Free.Fl.NoNaN64 (FP.dsub x (FP.dmul ao y)) ∧ Jvm.Free.Fl.NoNaN64 (FP.ddiv (FP.dsub x (FP.dmul ao y)) ar) ∧ DFix t 2 (FP.ddiv (FP.dsub x (FP.dmul ao y)) ar) := by
  have bj := own_bj (B := B) H.2.1 bB hN.1
  have jm2 := own_jm (j := j) (B := B) (m := 2) mB
  obtain ⟨t, ht, ev, bt⟩ := own_divk (d := A - j * B) (9 * N) H.1 (by omega) (by omega)
  have Q := own_eta1 fA fB H (by omega) (by omega) ht (by omega)
  refine ⟨t, by rw [Int.mul_comm k]; omega, fun h1 h2 => ev ?_, bt, Q⟩
  have jm4 := own_jm (j := j) (B := B) (m := 4) h2
  omega
theorem own_ez {A B k j : Int} {x ar ao : UInt64} (H : PA k j ar ao) (hz : j = 0) (fA : DFix A 2 x) (N : Int) (hN : 0 ≤ N ∧ N ≤ 274877906944) (bA : -N ≤ A ∧ A ≤ N) (mA : A % 2 = 0) : ∃ t : Int, k * t + j * B = A ∧ (A % 4 = 0 → t % 2 = 0) ∧ (-(9 * N) ≤ t ∧ t ≤ 9 * N) ∧ Jvm.Free.Fl.NoNaN64 (FP.ddiv x ar) ∧ DFix t 2 (FP.ddiv x ar) := by
  obtain ⟨t, ht, ev, bt⟩ := own_divk (d := A) (9 * N) H.1 (by omega) (by omega)
  have Q := own_eta0 fA H ht (by omega)
  exact ⟨t, by rw [Int.mul_comm k, hz, Int.zero_mul]; omega, ev, bt, Q⟩
theorem own_f4 {i : Int} {x : UInt64} (d : Jvm.FP.Core.DInt i x) : DFix (4 * i) 2 x := by have := own_fixint d 2; rwa [Int.mul_comm] at this
def zI (n : Nat) (l : List Value) : List Value := l ++ List.replicate (n - l.length) (.int 0)
def zD (n : Nat) (l : List Value) : List Value := l ++ List.replicate (n - l.length) (.double 0)
theorem own_dz {i : Int} {k : Nat} {x : UInt64} (h : DFix i k x) : (i = 0 ∧ (cmpValue (FP.dcmp x 0) .l).toInt = 0) ∨ (i ≠ 0 ∧ (cmpValue (FP.dcmp x 0) .l).toInt ≠ 0) := by
  have h0 : DFix 0 k 0 := by have := own_fixint own_dzero k; rwa [Int.zero_mul] at this
  have hc := own_fixcmp h h0
  have Q := own_cmpv i 0 .l
  rw [hc]
  have C : i < 0 ∨ i = 0 ∨ 0 < i := by omega
  rcases C with C | C | C
  · have := Q.1 C; exact Or.inr ⟨by omega, by omega⟩
  · have := Q.2.1 C; exact Or.inl ⟨C, by omega⟩
  · have := Q.2.2 C; exact Or.inr ⟨by omega, by omega⟩
theorem own_divD {D I : Int} (N : Int) (hD : D = 1 ∨ D = -1 ∨ D = 2 ∨ D = -2 ∨ D = 4 ∨ D = -4 ∨ D = 8 ∨ D = -8) (b : -N ≤ I ∧ I ≤ N) : ∃ t : Int, t * D = 8 * I ∧ (-(8 * N) ≤ t ∧ t ≤ 8 * N) := by
  rcases hD with rfl | rfl | rfl | rfl | rfl | rfl | rfl | rfl
  · exact ⟨8 * I, by omega, by omega⟩
  · exact ⟨-(8 * I), by omega, by omega⟩
  · exact ⟨4 * I, by omega, by omega⟩
  · exact ⟨-(4 * I), by omega, by omega⟩
  · exact ⟨2 * I, by omega, by omega⟩
  · exact ⟨-(2 * I), by omega, by omega⟩
  · exact ⟨I, by omega, by omega⟩
  · exact ⟨-I, by omega, by omega⟩
theorem own_lu {a u L D P0 P1 I X1 X0 M10 M11 : Int} (hI : I = 2 * P1 - L * P0) (h1 : X1 * D = 8 * I) (h0 : 2 * (8 * P0 - u * X1) = X0 * a) (hM0 : 2 * M10 = L * a) (hM1 : 2 * M11 = D + L * u) : a * X0 + u * (2 * X1) = 16 * P0 ∧ M10 * X0 + M11 * (2 * X1) = 16 * P1 := by
  have e1 : u * (2 * X1) = 2 * (u * X1) := Int.mul_left_comm ..
  have e2 : a * X0 = X0 * a := Int.mul_comm ..
  have e3 : M11 * (2 * X1) = (2 * M11) * X1 := by rw [Int.mul_comm 2 M11, Int.mul_assoc]
  have e4 : 2 * (M10 * X0) = L * (X0 * a) := by rw [← Int.mul_assoc, hM0, Int.mul_assoc, Int.mul_comm a]
  have e5 : L * (2 * (8 * P0 - u * X1)) = 16 * (L * P0) - 2 * (L * (u * X1)) := by
    rw [Int.mul_left_comm, Int.mul_sub, Int.mul_left_comm L 8]
    omega
  have e6 : (D + L * u) * X1 = X1 * D + L * (u * X1) := by rw [Int.add_mul, Int.mul_comm D, Int.mul_assoc]
  rw [hM1, e6] at e3
  rw [← h0, e5] at e4
  refine ⟨by omega, by omega⟩
theorem own_b4 {L B N : Int} (hj : -4 ≤ L ∧ L ≤ 4) (hB : -N ≤ B ∧ B ≤ N) (hN : 0 ≤ N) : -(4 * N) ≤ L * B ∧ L * B ≤ 4 * N := by
  have h : L = -4 ∨ L = -3 ∨ L = -2 ∨ L = -1 ∨ L = 0 ∨ L = 1 ∨ L = 2 ∨ L = 3 ∨ L = 4 := by omega
  rcases h with rfl | rfl | rfl | rfl | rfl | rfl | rfl | rfl | rfl <;> omega
def own_D (l : List UInt64) : Nat → UInt64 := fun i => l.getD i 0
theorem YgF.congr {Z : State} {n0 : Nat} {h : Heap} {A : Nat → Addr} {K : Nat → ClassId} {D D' : Nat → UInt64} {W W' : Nat → Value} {ds ds' : List AD} (Y : YgF Z n0 h A K D W ds) (e : ds'.map (fun d => (d.1, d.2.1, d.2.2.map (den A D' W'))) = ds.map (fun d => (d.1, d.2.1, d.2.2.map (den A D W)))) : YgF Z n0 h A K D' W' ds' := by
  have hl : ds'.length = ds.length := by simpa using congrArg List.length e
  refine ⟨fun i d' hi => ?_, fun i j hi hj q => Y.2 i j (by omega) (by omega) q⟩
  have e1 : (ds'.map (fun d => (d.1, d.2.1, d.2.2.map (den A D' W'))))[i]? = some (d'.1, d'.2.1, d'.2.2.map (den A D' W')) := by rw [List.getElem?_map, hi]; rfl
  rw [e, List.getElem?_map] at e1
  cases e2 : ds[i]? with
  | none => rw [e2] at e1; cases e1
  | some d =>
    rw [e2] at e1
    have e3 : (d.1, d.2.1, d.2.2.map (den A D W)) = (d'.1, d'.2.1, d'.2.2.map (den A D' W')) := Option.some.inj e1
    simp only [Prod.mk.injEq] at e3
    exact ⟨(Y.1 i d e2).1, HdF.congr (d := d) e3.1.symm e3.2.1.symm e3.2.2.symm (Y.1 i d e2).2⟩
theorem goE {p : Program} {e : Env} {below : List Frame} {Ev : State → Outcome → Prop} {T : State} {F F' : JFrame} (G : Go p e below Ev T F') (h : F' = F) : Go p e below Ev T F := by
  subst h
  exact G
section OwnYf
variable {Z : State} {n0 : Nat} {h h' : Heap} {A A' : Nat → Addr} {K K' : Nat → ClassId} {D : Nat → UInt64} {W : Nat → Value} {ds : List AD}
abbrev OB := Addr × ClassId × Nat × Nat × List Value
def own_A (l : List Addr) : Nat → Addr := fun i => l.getD i 0
def own_K (l : List ClassId) : Nat → ClassId := fun i => l.getD i 0
def own_W (l : List Value) : Nat → Value := fun i => l.getD i .null
def own_W9 (x y : Value) (l : List Value) : Nat → Value := fun k => if k = 90 then x else if k = 91 then y else l.getD k .null
theorem own_uS (vs : List Value) : (uS 0 vs.length).map (den A D (fun k => vs.getD k .null)) = vs := by
  unfold uS
  rw [List.map_map]
  refine List.ext_getElem (by simp) fun i h1 h2 => ?_
  simp only [List.getElem_map, List.getElem_range, Function.comp, den, Nat.zero_add]
  rw [List.getD_eq_getElem?_getD, List.getElem?_eq_getElem h2]
  rfl
def HO (Z : State) (h : Heap) (o : OB) : Prop := HdF Z h o.1 o.2.1 (fun _ => 0) (fun _ => 0) (fun k => o.2.2.2.2.getD k .null) (o.2.2.1, o.2.2.2.1, uS 0 o.2.2.2.2.length)
theorem HO.of {a : Addr} {k : ClassId} {d : AD} (H : HdF Z h a k A D W d) : HO Z h (a, k, d.1, d.2.1, d.2.2.map (den A D W)) := HdF.congr (d := d) rfl rfl (own_uS _) H
theorem HO.to {o : OB} {d : AD} (H : HO Z h o) (h1 : d.1 = o.2.2.1) (h2 : d.2.1 = o.2.2.2.1) (e : d.2.2.map (den A D W) = o.2.2.2.2) : HdF Z h o.1 o.2.1 A D W d := HdF.congr (d := (o.2.2.1, o.2.2.2.1, uS 0 o.2.2.2.2.length)) h1 h2 (e.trans (own_uS _).symm) H
def Yf (Z : State) (n0 : Nat) (h : Heap) (os : List OB) : Prop := (∀ (i : Nat) (o : OB), os[i]? = some o → n0 ≤ o.1 ∧ HO Z h o) ∧ ∀ (i j : Nat) (o o' : OB), os[i]? = some o → os[j]? = some o' → o.1 = o'.1 → i = j
def own_fl (A : Nat → Addr) (K : Nat → ClassId) (D : Nat → UInt64) (W : Nat → Value) : Nat → List AD → List OB
  | _, [] => []
  | i, d :: t => (A i, K i, d.1, d.2.1, d.2.2.map (den A D W)) :: own_fl A K D W (i + 1) t
theorem own_flg : ∀ (ds : List AD) (i j : Nat), (own_fl A K D W i ds)[j]? = (ds[j]?).map fun d => (A (i + j), K (i + j), d.1, d.2.1, d.2.2.map (den A D W))
  | [], i, j => by simp [own_fl]
  | d :: t, i, 0 => by simp [own_fl]
  | d :: t, i, j + 1 => by
    show (own_fl A K D W (i + 1) t)[j]? = _
    rw [own_flg t (i + 1) j, show i + 1 + j = i + (j + 1) by omega]
    rfl
theorem own_flg0 {j : Nat} {d : AD} (e : ds[j]? = some d) : (own_fl A K D W 0 ds)[j]? = some (A j, K j, d.1, d.2.1, d.2.2.map (den A D W)) := by
  rw [own_flg, e, Nat.zero_add]
  rfl
theorem own_flg1 {j : Nat} {o : OB} (e : (own_fl A K D W 0 ds)[j]? = some o) : ∃ d, ds[j]? = some d ∧ o = (A j, K j, d.1, d.2.1, d.2.2.map (den A D W)) := by
  cases e1 : ds[j]? with
  | none => rw [own_flg, e1] at e; cases e
  | some d => rw [own_flg0 e1] at e; exact ⟨d, rfl, (Option.some.inj e).symm⟩
theorem YgF.fl (Y : YgF Z n0 h A K D W ds) : Yf Z n0 h (own_fl A K D W 0 ds) := by
  refine ⟨fun i o hi => ?_, fun i j o o' hi hj q => ?_⟩
  · obtain ⟨d, e, rfl⟩ := own_flg1 hi
    exact ⟨(Y.1 i d e).1, HO.of (Y.1 i d e).2⟩
  · obtain ⟨d, e, rfl⟩ := own_flg1 hi
    obtain ⟨d', e', rfl⟩ := own_flg1 hj
    exact Y.2 i j (List.getElem?_eq_some_iff.mp e).1 (List.getElem?_eq_some_iff.mp e').1 q
theorem Yf.to {os : List OB} (Y : Yf Z n0 h os) (e : own_fl A K D W 0 ds = os) : YgF Z n0 h A K D W ds := by
  subst e
  refine ⟨fun i d hi => ?_, fun i j hi hj q => ?_⟩
  · have y := Y.1 i _ (own_flg0 hi)
    exact ⟨y.1, HO.to y.2 rfl rfl rfl⟩
  · exact Y.2 i j _ _ (own_flg0 (List.getElem?_eq_getElem hi)) (own_flg0 (List.getElem?_eq_getElem hj)) q
theorem Yf.pick {os os' : List OB} (Y : Yf Z n0 h os) (J : List Nat) (hJ : J.Nodup) (e : J.map (fun j => os[j]?) = os'.map some) : Yf Z n0 h os' := by
  have key : ∀ (i : Nat) (o : OB), os'[i]? = some o → ∃ j, J[i]? = some j ∧ os[j]? = some o := by
    intro i o hi
    have e1 : (os'.map some)[i]? = some (some o) := by rw [List.getElem?_map, hi]; rfl
    rw [← e, List.getElem?_map] at e1
    cases e2 : J[i]? with
    | none => rw [e2] at e1; cases e1
    | some j => rw [e2] at e1; exact ⟨j, rfl, Option.some.inj e1⟩
  refine ⟨fun i o hi => ?_, fun i j o o' hi hj q => ?_⟩
  · obtain ⟨j, -, hj⟩ := key i o hi
    exact Y.1 j o hj
  · obtain ⟨x, hx, ex⟩ := key i o hi
    obtain ⟨y, hy, ey⟩ := key j o' hj
    have exy := Y.2 x y o o' ex ey q
    obtain ⟨l1, g1⟩ := List.getElem?_eq_some_iff.mp hx
    obtain ⟨l2, g2⟩ := List.getElem?_eq_some_iff.mp hy
    exact (List.getElem_inj hJ).mp (g1.trans (exy.trans g2.symm))
theorem Yf.join {os1 os2 os1' : List OB} (Y : Yf Z n0 h (os1 ++ os2)) (Y' : Yf Z n0 h' os1') (hK : Keep h h' (os1.map (·.1))) (hs : ∀ o ∈ os1', o.1 ∈ os1.map (·.1) ∨ h.size ≤ o.1) : Yf Z n0 h' (os1' ++ os2) := by
  have k2 : ∀ (i : Nat) (o : OB), os2[i]? = some o → (os1 ++ os2)[os1.length + i]? = some o := fun i o hi => by
    rw [List.getElem?_append_right (by omega), Nat.add_sub_cancel_left]
    exact hi
  have nm : ∀ (i : Nat) (o : OB), os2[i]? = some o → o.1 ∉ os1.map (·.1) := fun i o hi hm => by
    obtain ⟨o1, h1, e1⟩ := List.mem_map.mp hm
    obtain ⟨j, hj⟩ := List.mem_iff_getElem?.mp h1
    have hl : j < os1.length := (List.getElem?_eq_some_iff.mp hj).1
    have := Y.2 j (os1.length + i) o1 o (by rw [List.getElem?_append_left hl]; exact hj) (k2 i o hi) e1
    omega
  have lt2 : ∀ (i : Nat) (o : OB), os2[i]? = some o → o.1 < h.size := fun i o hi => HdF.lt (Y.1 _ o (k2 i o hi)).2
  have cr : ∀ (i j : Nat) (o o' : OB), os1'[i]? = some o → os2[j]? = some o' → o.1 = o'.1 → False := fun i j o o' hi hj q => by
    rcases hs o (List.mem_of_getElem? hi) with z | z
    · rw [q] at z
      exact nm j o' hj z
    · have := lt2 j o' hj
      rw [← q] at this
      exact absurd this (Nat.not_lt.mpr z)
  refine ⟨fun i o hi => ?_, fun i j o o' hi hj q => ?_⟩
  · by_cases c : i < os1'.length
    · rw [List.getElem?_append_left c] at hi
      exact Y'.1 i o hi
    · rw [List.getElem?_append_right (by omega)] at hi
      have y := Y.1 _ o (k2 _ o hi)
      exact ⟨y.1, HdF.keep y.2 hK (nm _ o hi)⟩
  · by_cases c : i < os1'.length <;> by_cases c' : j < os1'.length
    · rw [List.getElem?_append_left c] at hi
      rw [List.getElem?_append_left c'] at hj
      exact Y'.2 i j o o' hi hj q
    · rw [List.getElem?_append_left c] at hi
      rw [List.getElem?_append_right (by omega)] at hj
      exact (cr _ _ _ _ hi hj q).elim
    · rw [List.getElem?_append_right (by omega)] at hi
      rw [List.getElem?_append_left c'] at hj
      exact (cr _ _ _ _ hj hi q.symm).elim
    · rw [List.getElem?_append_right (by omega)] at hi hj
      have := Y.2 _ _ o o' (k2 _ o hi) (k2 _ o' hj) q
      omega
theorem YgF.bare (Y : YgF Z n0 h A K D W ds) (i : Nat) {c z : Nat} {vs : List Value} (e : ds[i]? = some (c, z, vs)) (hc : c < 64) : YgF Z n0 h A K D W (ds.set i (c, z, [])) := by
  refine ⟨fun j d hj => ?_, fun x y hx hy q => Y.2 x y (by simpa using hx) (by simpa using hy) q⟩
  by_cases q : i = j
  · subst q
    have hl : i < ds.length := (List.getElem?_eq_some_iff.mp e).1
    rw [List.getElem?_set_self hl] at hj
    cases hj
    have H := (Y.1 i _ e).2
    refine ⟨(Y.1 i _ e).1, ?_⟩
    unfold HdF at H ⊢
    rw [if_pos hc] at H ⊢
    exact ⟨H.1, fun j v f hj _ => by cases hj⟩
  · rw [List.getElem?_set_ne q] at hj
    exact Y.1 j d hj
theorem own_kp {hM : Heap} {ws : List Addr} {n n' : Nat} (K1 : Keep hM h ws) (hf : ∀ i, i < n → A i ∈ ws ∨ hM.size ≤ A i) (K2 : Keep h h' ((List.range n).map A)) (hA : ∀ i, i < n → A' i = A i ∧ K' i = K i) (hn : ∀ i, n ≤ i → i < n' → h.size ≤ A' i) : Keep hM h' ws ∧ ∀ i, i < n' → A' i ∈ ws ∨ hM.size ≤ A' i := by
  refine ⟨K1.trans K2 fun x hx => ?_, fun i hi => ?_⟩
  · obtain ⟨i, hi, rfl⟩ := List.mem_map.mp hx
    exact hf i (List.mem_range.mp hi)
  · by_cases q : i < n
    · rw [(hA i q).1]
      exact hf i q
    · exact Or.inr (Nat.le_trans K1.1 (hn i (by omega) hi))
theorem own_dzD {i : Int} {k : Nat} {x z : UInt64} (h : DFix i k x) (hz : z = 0) : (i = 0 ∧ (cmpValue (FP.dcmp x z) .l).toInt = 0) ∨ (i ≠ 0 ∧ (cmpValue (FP.dcmp x z) .l).toInt ≠ 0) := by
  subst hz
  exact own_dz h
def vcB (o : Op) (D : Nat → UInt64) : Bool :=
  if o.1 ≤ 3 then decide (own_dv o.1 (dX D o.2.1) (dX D o.2.2.1) &&& 0x7fffffffffffffff ≤ (0x7ff0000000000000 : UInt64))
  else if o.1 = 4 then decide (dX D o.2.1 &&& 0x7fffffffffffffff ≤ (0x7ff0000000000000 : UInt64))
  else if o.1 = 5 then decide (dX D o.2.1 &&& 0x7fffffffffffffff ≤ (0x7ff0000000000000 : UInt64)) && decide (dX D o.2.2.1 &&& 0x7fffffffffffffff ≤ (0x7ff0000000000000 : UInt64))
  else if o.1 ≤ 7 then true
  else if o.1 = 10 then decide (cmpValue (FP.dcmp (dX D o.2.1) (dX D o.2.2.1)) .l = o.2.2.2)
  else if o.1 = 11 then decide (cmpValue (FP.dcmp (dX D o.2.1) (dX D o.2.2.1)) .g = o.2.2.2)
  else if o.1 = 12 then decide ((cmpValue (FP.dcmp (dX D o.2.1) (dX D o.2.2.1)) .l).toInt = 0 ↔ o.2.2.2 = 0)
  else decide ((iW (dX D o.2.1)).toInt = 0 ↔ o.2.2.2 = 0)
theorem vcB_ok {o : Op} {D : Nat → UInt64} (h : vcB o D = true) : vc1 o D := by
  unfold vcB at h
  unfold vc1
  split at h
  · rename_i q; rw [if_pos q]; exact of_decide_eq_true h
  · rename_i q; rw [if_neg q]
    split at h
    · rename_i q; rw [if_pos q]; exact of_decide_eq_true h
    · rename_i q; rw [if_neg q]
      split at h
      · rename_i q; rw [if_pos q]
        simp only [Bool.and_eq_true, decide_eq_true_eq] at h
        exact h
      · rename_i q; rw [if_neg q]
        split at h
        · rename_i q; rw [if_pos q]; trivial
        · rename_i q; rw [if_neg q]
          split at h
          · rename_i q; rw [if_pos q]; exact of_decide_eq_true h
          · rename_i q; rw [if_neg q]
            split at h
            · rename_i q; rw [if_pos q]; exact of_decide_eq_true h
            · rename_i q; rw [if_neg q]
              split at h
              · rename_i q; rw [if_pos q]
                have h' := of_decide_eq_true h
                split
                · rename_i z; exact h'.mpr z
                · rename_i z; exact fun y => z (h'.mp y)
              · rename_i q; rw [if_neg q]
                have h' := of_decide_eq_true h
                split
                · rename_i z; exact h'.mpr z
                · rename_i z; exact fun y => z (h'.mp y)
def okvB : List Op → Nat → (Nat → UInt64) → Bool
  | [], _, _ => true
  | o :: t, n, D => vcB o D && okvB t (nxN o n) (nxD o n D)
theorem okvB_ok : ∀ (t : List Op) (n : Nat) (D : Nat → UInt64), okvB t n D = true → okv t n D
  | [], _, _, _ => trivial
  | o :: t, n, D, h => by
    unfold okvB at h
    rw [Bool.and_eq_true] at h
    exact ⟨vcB_ok h.1, okvB_ok t _ _ h.2⟩
def relB : List Op → Nat → (Nat → Bool) → Bool
  | [], _, _ => true
  | o :: t, n, R => ((R o.2.1 && R o.2.2.1) || o.1 == 7) && relB t (nxN o n) (if o.1 ≤ 7 then (fun i => if i = n then R o.2.1 && R o.2.2.1 else R i) else R)
theorem dX_rel {R : Nat → Bool} {D D' : Nat → UInt64} (h : ∀ i, i < 4096 → R i = true → D' i = D i) {i : Nat} (hi : R i = true) : dX D' i = dX D i := by
  unfold dX
  split
  · rename_i q; exact h i q hi
  · rfl
theorem okv_rel : ∀ (t : List Op) (n : Nat) (R : Nat → Bool) (D D' : Nat → UInt64), relB t n R = true → (∀ i, i < 4096 → R i = true → D' i = D i) → okv t n D → okv t n D'
  | [], _, _, _, _, _, _, _ => trivial
  | o :: t, n, R, D, D', hb, h, hv => by
    unfold relB at hb
    rw [Bool.and_eq_true, Bool.or_eq_true] at hb
    obtain ⟨h1, h2⟩ := hb
    have hv' : vc1 o D ∧ okv t (nxN o n) (nxD o n D) := hv
    refine ⟨?_, okv_rel t (nxN o n) _ (nxD o n D) (nxD o n D') h2 ?_ hv'.2⟩
    · rcases h1 with h1 | h1
      · rw [Bool.and_eq_true] at h1
        have e1 := dX_rel h h1.1
        have e2 := dX_rel h h1.2
        have v := hv'.1
        unfold vc1 at v ⊢
        rw [e1, e2]
        exact v
      · have q : o.1 = 7 := by simpa using h1
        unfold vc1
        rw [q]
        simp
    · intro i hi hr
      unfold nxD
      by_cases p7 : o.1 ≤ 7
      · rw [if_pos p7] at hr
        rw [if_pos p7, if_pos p7]
        by_cases q : i = n
        · rw [if_pos q, Bool.and_eq_true] at hr
          rw [if_pos q, if_pos q, dX_rel h hr.1, dX_rel h hr.2]
        · rw [if_neg q] at hr
          rw [if_neg q, if_neg q]
          exact h i hi hr
      · rw [if_neg p7] at hr
        rw [if_neg p7, if_neg p7]
        exact h i hi hr
end OwnYf
def dsE (cnt : Int32) (er ep es eo ev : List Value) : List AD := [(65, 2, [vD 1, vD 2]), (0, 0, [vU 0, vU 1, vU 2, vU 3, vU 4, vU 5, vU 6, vU 7, vR 2, vR 3, vR 4, vR 5, vR 6, vU 8, vU 9, vU 10, vU 11, vU 12, vU 13, vU 14, vU 15, vU 16, vU 17, vU 18, vU 19, vU 20, vU 21, vU 22, vI cnt]), (64, 16, er), (65, 16, ep), (64, 17, es), (64, 256, eo), (65, 256, ev)]
def EtaRuns (cnt : Int32) (er ep es eo ev : List Value) (ar1 ao1 ar2 ao2 : UInt64) (E : Int → Int → Int → Int → Prop) : Prop := ∀ {p : Program} {l : Launch} {e : Env} {s : State} {m : MethodId} {args : Array Value} {below : List Frame} {meth : Method} {c : Code} {T0 Z : State} {a0 : Array Value} {h0 : Heap} {n0 : Nat} {Ev : State → Outcome → Prop} {A : Nat → Addr} {K : Nat → ClassId} {D : Nat → UInt64} {W : Nat → Value} {i0 i1 : Int}, Stand p l e (rmOf (1, 2, 4, 14)) s m args below meth c T0 [] 0 0 → p.tables.exec = Jvm.exec → c.code = own_mc 33 → c.maxLocals = 9 → s.vm.findClass "com/example/tracefold/tracefold/mining/FactoredInverse" = some m.cls → Z.Warmed39 s.vm → (∀ d ∈ tables_1, d.before a0 Z = true) → T0.heap = h0 → n0 ≤ h0.size → D 0 = 0 → D 3 = ar1 → D 4 = ao1 → D 5 = ar2 → D 6 = ao2 → Jvm.FP.Core.DInt i0 (D 1) → Jvm.FP.Core.DInt i1 (D 2) → (-2147483648 ≤ i0 ∧ i0 ≤ 2147483648) → (-2147483648 ≤ i1 ∧ i1 ≤ 2147483648) → YgF Z n0 h0 A K D W (dsE cnt er ep es eo ev) → (∀ (T1 : State) (h1 : Heap) (L1 : List Loc) (A1 : Nat → Addr) (K1 : Nat → ClassId) (y0 y1 : UInt64) (Y0 Y1 : Int) (sh : Option (Int32 × UInt64 × Int32)), (∀ i, i < 7 → A1 i = A i ∧ K1 i = K i) → Stand p l e (rmOf (1, 2, 4, 14)) s m args below meth c T1 L1 1 2 → T1.heap = h1 → Keep h0 h1 ((List.range 7).map A) → h0.size ≤ A1 7 → Yf Z n0 h1 [(A1 7, K1 7, 65, 2, [.double y0, .double y1]), (A1 0, K1 0, 65, 2, [.double (D 1), .double (D 2)]), (A1 1, K1 1, 0, 0, [W 0, W 1, W 2, W 3, W 4, W 5, W 6, W 7, .ref (A1 2), .ref (A1 3), .ref (A1 4), .ref (A1 5), .ref (A1 6), W 8, W 9, W 10, W 11, W 12, W 13, W 14, W 15, W 16, W 17, W 18, W 19, W 20, W 21, W 22, .int cnt])] → Fr n0 L1 → n0 ≤ h1.size → DFix Y0 2 y0 → DFix Y1 2 y1 → (-4398046511104 ≤ Y0 ∧ Y0 ≤ 4398046511104) → (-4398046511104 ≤ Y1 ∧ Y1 ≤ 4398046511104) → E i0 i1 Y0 Y1 → Go p e below Ev T1 (mkF m 101 #[.val (.ref (A1 1)), .val (.ref (A1 0)), .val (.ref (A1 7)), .val (.int (-1)), own_s4 sh, own_s5 sh, own_s6 sh, own_s7 sh, .unset] [])) → Go p e below Ev T0 (mkF m 0 #[.val (.ref (A 1)), .val (.ref (A 0)), .unset, .unset, .unset, .unset, .unset, .unset, .unset] [])
theorem er_c : runIs (run (own_mc 33) own_MN_0 9 (1, 2, 4, 14) 101 13 [] [] (0, #[sR 1, sR 0, sU, sU, sU, sU, sU, sU, sU], [], (dsE 0 (zI 16 []) (zD 16 []) (zI 17 []) (zI 4 []) (zD 4 [])), 7, 0, 0)) (101, #[sR 1, sR 0, sR 7, sI (-1), sU, sU, sU, sU, sU], [], (dsE 0 (zI 16 []) (zD 16 []) (zI 17 []) (zI 4 []) (zD 4 [])) ++ [(65, 2, [vD 1, vD 2])], 7, 1, 2) [] = true := by decide +kernel
theorem eta_c {ar1 ao1 ar2 ao2 : UInt64}  : EtaRuns 0 (zI 16 []) (zD 16 []) (zI 17 []) (zI 4 []) (zD 4 []) ar1 ao1 ar2 ao2 (fun i0 i1 Y0 Y1 => Y0 = 4 * i0 ∧ Y1 = 4 * i1) := by
  intro p l e s m args below meth c T0 Z a0 h0 n0 Ev A K D W i0 i1 X0 hx hby hml hown hZ hw e0 Z0 D0 hd3 hd4 hd5 hd6 d0 d1 b0 b1 Y0 KK
  subst hd3 hd4 hd5 hd6
  have f0 := own_f4 d0
  have f1 := own_f4 d1
  refine seg (runIs_e er_c) sc0 hw hx hby hml rfl hZ hown (own_okN_0 _ Z a0 hw) D0 (by decide) X0 e0 Y0 (Fr.nil n0) Z0 trivial ?_
  intro T1 h1 L1 A1 K1 hAK X1 e1 Y1 N1 Kp hf hn1
  exact KK T1 h1 L1 A1 K1 (D 1) (D 2) (4 * i0) (4 * i1) none hAK X1 e1 Kp (hf 7 (by decide) (by decide)) (Yf.pick Y1.fl [7, 0, 1] (by decide) rfl) N1 hn1 f0 f1 (by omega) (by omega) ⟨rfl, rfl⟩
theorem er_c0n : runIs (run (own_mc 33) own_MN_0 9 (1, 2, 4, 14) 101 72 [] [] (0, #[sR 1, sR 0, sU, sU, sU, sU, sU, sU, sU], [], (dsE 1 (zI 16 []) (zD 16 [vD 3]) (zI 17 [vI 0, vI 1]) (zI 4 [vI 1]) (zD 4 [vD 4])), 7, 0, 0)) (101, #[sR 1, sR 0, sR 7, sI (-1), sI 0, sD 8, s2, sI 1, sU], [], (dsE 1 (zI 16 []) (zD 16 [vD 3]) (zI 17 [vI 0, vI 1]) (zI 4 [vI 1]) (zD 4 [vD 4])) ++ [(65, 2, [vD 9, vD 2])], 10, 1, 2) [(2, 4, 2, 0), (1, 1, 7, 0), (3, 8, 3, 0)] = true := by decide +kernel
theorem eta_c0n {ar1 ao1 ar2 ao2 : UInt64} {k1 j1 : Int} (H1 : PA k1 j1 ar1 ao1) : EtaRuns 1 (zI 16 []) (zD 16 [vD 3]) (zI 17 [vI 0, vI 1]) (zI 4 [vI 1]) (zD 4 [vD 4]) ar1 ao1 ar2 ao2 (fun i0 i1 Y0 Y1 => Er false k1 j1 (4 * i0) (4 * i1) Y0 Y1) := by
  intro p l e s m args below meth c T0 Z a0 h0 n0 Ev A K D W i0 i1 X0 hx hby hml hown hZ hw e0 Z0 D0 hd3 hd4 hd5 hd6 d0 d1 b0 b1 Y0 KK
  subst hd3 hd4 hd5 hd6
  have f0 := own_f4 d0
  have f1 := own_f4 d1
  obtain ⟨t1, R1, e1_, b1_, v1, w1, x1, g1⟩ := own_en H1 f0 f1 8589934592 (by decide) (by omega) (by omega) (by omega) (by omega)
  refine seg (runIs_e er_c0n) sc0 hw hx hby hml rfl hZ hown (own_okN_0 _ Z a0 hw) D0 (by decide) X0 e0 Y0 (Fr.nil n0) Z0 ⟨v1, w1, x1, trivial⟩ ?_
  intro T1 h1 L1 A1 K1 hAK X1 e1 Y1 N1 Kp hf hn1
  exact KK T1 h1 L1 A1 K1 (FP.ddiv (FP.dsub (D 1) (FP.dmul (D 4) (D 2))) (D 3)) (D 2) t1 (4 * i1) (some (0, _, 1)) hAK X1 e1 Kp (hf 7 (by decide) (by decide)) (Yf.pick Y1.fl [7, 0, 1] (by decide) rfl) N1 hn1 g1 f1 (by omega) (by omega) ⟨R1, rfl⟩
theorem er_c0z : runIs (run (own_mc 33) own_MN_0 9 (1, 2, 4, 14) 101 48 [] [] (0, #[sR 1, sR 0, sU, sU, sU, sU, sU, sU, sU], [], (dsE 1 (zI 16 []) (zD 16 [vD 3]) (zI 17 []) (zI 4 []) (zD 4 [])), 7, 0, 0)) (101, #[sR 1, sR 0, sR 7, sI (-1), sI 0, sD 1, s2, sI 0, sU], [], (dsE 1 (zI 16 []) (zD 16 [vD 3]) (zI 17 []) (zI 4 []) (zD 4 [])) ++ [(65, 2, [vD 7, vD 2])], 8, 1, 2) [(3, 1, 3, 0)] = true := by decide +kernel
theorem eta_c0z {ar1 ao1 ar2 ao2 : UInt64} {k1 j1 : Int} (H1 : PA k1 j1 ar1 ao1) (hz1 : j1 = 0) : EtaRuns 1 (zI 16 []) (zD 16 [vD 3]) (zI 17 []) (zI 4 []) (zD 4 []) ar1 ao1 ar2 ao2 (fun i0 i1 Y0 Y1 => Er false k1 j1 (4 * i0) (4 * i1) Y0 Y1) := by
  intro p l e s m args below meth c T0 Z a0 h0 n0 Ev A K D W i0 i1 X0 hx hby hml hown hZ hw e0 Z0 D0 hd3 hd4 hd5 hd6 d0 d1 b0 b1 Y0 KK
  subst hd3 hd4 hd5 hd6
  have f0 := own_f4 d0
  have f1 := own_f4 d1
  obtain ⟨t1, R1, e1_, b1_, x1, g1⟩ := own_ez (B := (4 * i1)) H1 hz1 f0 8589934592 (by decide) (by omega) (by omega)
  refine seg (runIs_e er_c0z) sc0 hw hx hby hml rfl hZ hown (own_okN_0 _ Z a0 hw) D0 (by decide) X0 e0 Y0 (Fr.nil n0) Z0 ⟨x1, trivial⟩ ?_
  intro T1 h1 L1 A1 K1 hAK X1 e1 Y1 N1 Kp hf hn1
  exact KK T1 h1 L1 A1 K1 (FP.ddiv (D 1) (D 3)) (D 2) t1 (4 * i1) (some (0, _, 0)) hAK X1 e1 Kp (hf 7 (by decide) (by decide)) (Yf.pick Y1.fl [7, 0, 1] (by decide) rfl) N1 hn1 g1 f1 (by omega) (by omega) ⟨R1, rfl⟩
theorem er_c1n : runIs (run (own_mc 33) own_MN_0 9 (1, 2, 4, 14) 101 72 [] [] (0, #[sR 1, sR 0, sU, sU, sU, sU, sU, sU, sU], [], (dsE 1 (zI 16 [vI 1]) (zD 16 [vD 3]) (zI 17 [vI 0, vI 1]) (zI 4 []) (zD 4 [vD 4])), 7, 0, 0)) (101, #[sR 1, sR 0, sR 7, sI (-1), sI 1, sD 8, s2, sI 1, sU], [], (dsE 1 (zI 16 [vI 1]) (zD 16 [vD 3]) (zI 17 [vI 0, vI 1]) (zI 4 []) (zD 4 [vD 4])) ++ [(65, 2, [vD 1, vD 9])], 10, 1, 2) [(2, 4, 1, 0), (1, 2, 7, 0), (3, 8, 3, 0)] = true := by decide +kernel
theorem eta_c1n {ar1 ao1 ar2 ao2 : UInt64} {k1 j1 : Int} (H1 : PA k1 j1 ar1 ao1) : EtaRuns 1 (zI 16 [vI 1]) (zD 16 [vD 3]) (zI 17 [vI 0, vI 1]) (zI 4 []) (zD 4 [vD 4]) ar1 ao1 ar2 ao2 (fun i0 i1 Y0 Y1 => Er true k1 j1 (4 * i0) (4 * i1) Y0 Y1) := by
  intro p l e s m args below meth c T0 Z a0 h0 n0 Ev A K D W i0 i1 X0 hx hby hml hown hZ hw e0 Z0 D0 hd3 hd4 hd5 hd6 d0 d1 b0 b1 Y0 KK
  subst hd3 hd4 hd5 hd6
  have f0 := own_f4 d0
  have f1 := own_f4 d1
  obtain ⟨t1, R1, e1_, b1_, v1, w1, x1, g1⟩ := own_en H1 f1 f0 8589934592 (by decide) (by omega) (by omega) (by omega) (by omega)
  refine seg (runIs_e er_c1n) sc0 hw hx hby hml rfl hZ hown (own_okN_0 _ Z a0 hw) D0 (by decide) X0 e0 Y0 (Fr.nil n0) Z0 ⟨v1, w1, x1, trivial⟩ ?_
  intro T1 h1 L1 A1 K1 hAK X1 e1 Y1 N1 Kp hf hn1
  exact KK T1 h1 L1 A1 K1 (D 1) (FP.ddiv (FP.dsub (D 2) (FP.dmul (D 4) (D 1))) (D 3)) (4 * i0) t1 (some (1, _, 1)) hAK X1 e1 Kp (hf 7 (by decide) (by decide)) (Yf.pick Y1.fl [7, 0, 1] (by decide) rfl) N1 hn1 f0 g1 (by omega) (by omega) ⟨R1, rfl⟩
theorem er_c1z : runIs (run (own_mc 33) own_MN_0 9 (1, 2, 4, 14) 101 48 [] [] (0, #[sR 1, sR 0, sU, sU, sU, sU, sU, sU, sU], [], (dsE 1 (zI 16 [vI 1]) (zD 16 [vD 3]) (zI 17 []) (zI 4 []) (zD 4 [])), 7, 0, 0)) (101, #[sR 1, sR 0, sR 7, sI (-1), sI 1, sD 2, s2, sI 0, sU], [], (dsE 1 (zI 16 [vI 1]) (zD 16 [vD 3]) (zI 17 []) (zI 4 []) (zD 4 [])) ++ [(65, 2, [vD 1, vD 7])], 8, 1, 2) [(3, 2, 3, 0)] = true := by decide +kernel
theorem eta_c1z {ar1 ao1 ar2 ao2 : UInt64} {k1 j1 : Int} (H1 : PA k1 j1 ar1 ao1) (hz1 : j1 = 0) : EtaRuns 1 (zI 16 [vI 1]) (zD 16 [vD 3]) (zI 17 []) (zI 4 []) (zD 4 []) ar1 ao1 ar2 ao2 (fun i0 i1 Y0 Y1 => Er true k1 j1 (4 * i0) (4 * i1) Y0 Y1) := by
  intro p l e s m args below meth c T0 Z a0 h0 n0 Ev A K D W i0 i1 X0 hx hby hml hown hZ hw e0 Z0 D0 hd3 hd4 hd5 hd6 d0 d1 b0 b1 Y0 KK
  subst hd3 hd4 hd5 hd6
  have f0 := own_f4 d0
  have f1 := own_f4 d1
  obtain ⟨t1, R1, e1_, b1_, x1, g1⟩ := own_ez (B := (4 * i0)) H1 hz1 f1 8589934592 (by decide) (by omega) (by omega)
  refine seg (runIs_e er_c1z) sc0 hw hx hby hml rfl hZ hown (own_okN_0 _ Z a0 hw) D0 (by decide) X0 e0 Y0 (Fr.nil n0) Z0 ⟨x1, trivial⟩ ?_
  intro T1 h1 L1 A1 K1 hAK X1 e1 Y1 N1 Kp hf hn1
  exact KK T1 h1 L1 A1 K1 (D 1) (FP.ddiv (D 2) (D 3)) (4 * i0) t1 (some (1, _, 0)) hAK X1 e1 Kp (hf 7 (by decide) (by decide)) (Yf.pick Y1.fl [7, 0, 1] (by decide) rfl) N1 hn1 f0 g1 (by omega) (by omega) ⟨R1, rfl⟩
theorem er_c0n0n : runIs (run (own_mc 33) own_MN_0 9 (1, 2, 4, 14) 101 131 [] [] (0, #[sR 1, sR 0, sU, sU, sU, sU, sU, sU, sU], [], (dsE 2 (zI 16 []) (zD 16 [vD 3, vD 5]) (zI 17 [vI 0, vI 1, vI 2]) (zI 4 [vI 1, vI 1]) (zD 4 [vD 4, vD 6])), 7, 0, 0)) (101, #[sR 1, sR 0, sR 7, sI (-1), sI 0, sD 11, s2, sI 1, sU], [], (dsE 2 (zI 16 []) (zD 16 [vD 3, vD 5]) (zI 17 [vI 0, vI 1, vI 2]) (zI 4 [vI 1, vI 1]) (zD 4 [vD 4, vD 6])) ++ [(65, 2, [vD 12, vD 2])], 13, 1, 2) [(2, 6, 2, 0), (1, 1, 7, 0), (3, 8, 5, 0), (2, 4, 2, 0), (1, 9, 10, 0), (3, 11, 3, 0)] = true := by decide +kernel
theorem eta_c0n0n {ar1 ao1 ar2 ao2 : UInt64} {k1 j1 : Int} (H1 : PA k1 j1 ar1 ao1) {k2 j2 : Int} (H2 : PA k2 j2 ar2 ao2) : EtaRuns 2 (zI 16 []) (zD 16 [vD 3, vD 5]) (zI 17 [vI 0, vI 1, vI 2]) (zI 4 [vI 1, vI 1]) (zD 4 [vD 4, vD 6]) ar1 ao1 ar2 ao2 (fun i0 i1 Y0 Y1 => ∃ z0 z1, Er false k2 j2 (4 * i0) (4 * i1) z0 z1 ∧ Er false k1 j1 z0 z1 Y0 Y1) := by
  intro p l e s m args below meth c T0 Z a0 h0 n0 Ev A K D W i0 i1 X0 hx hby hml hown hZ hw e0 Z0 D0 hd3 hd4 hd5 hd6 d0 d1 b0 b1 Y0 KK
  subst hd3 hd4 hd5 hd6
  have f0 := own_f4 d0
  have f1 := own_f4 d1
  obtain ⟨t2, R2, e2_, b2_, v2, w2, x2, g2⟩ := own_en H2 f0 f1 8589934592 (by decide) (by omega) (by omega) (by omega) (by omega)
  have m2 := e2_ (by omega) (by omega)
  obtain ⟨t1, R1, e1_, b1_, v1, w1, x1, g1⟩ := own_en H1 g2 f1 274877906944 (by decide) (by omega) (by omega) (by omega) (by omega)
  refine seg (runIs_e er_c0n0n) sc0 hw hx hby hml rfl hZ hown (own_okN_0 _ Z a0 hw) D0 (by decide) X0 e0 Y0 (Fr.nil n0) Z0 ⟨v2, w2, x2, v1, w1, x1, trivial⟩ ?_
  intro T1 h1 L1 A1 K1 hAK X1 e1 Y1 N1 Kp hf hn1
  exact KK T1 h1 L1 A1 K1 (FP.ddiv (FP.dsub (FP.ddiv (FP.dsub (D 1) (FP.dmul (D 6) (D 2))) (D 5)) (FP.dmul (D 4) (D 2))) (D 3)) (D 2) t1 (4 * i1) (some (0, _, 1)) hAK X1 e1 Kp (hf 7 (by decide) (by decide)) (Yf.pick Y1.fl [7, 0, 1] (by decide) rfl) N1 hn1 g1 f1 (by omega) (by omega) ⟨_, _, ⟨R2, rfl⟩, ⟨R1, rfl⟩⟩
theorem er_c0n0z : runIs (run (own_mc 33) own_MN_0 9 (1, 2, 4, 14) 101 107 [] [] (0, #[sR 1, sR 0, sU, sU, sU, sU, sU, sU, sU], [], (dsE 2 (zI 16 []) (zD 16 [vD 3, vD 5]) (zI 17 [vI 0, vI 1, vI 1]) (zI 4 [vI 1]) (zD 4 [vD 4])), 7, 0, 0)) (101, #[sR 1, sR 0, sR 7, sI (-1), sI 0, sD 9, s2, sI 1, sU], [], (dsE 2 (zI 16 []) (zD 16 [vD 3, vD 5]) (zI 17 [vI 0, vI 1, vI 1]) (zI 4 [vI 1]) (zD 4 [vD 4])) ++ [(65, 2, [vD 10, vD 2])], 11, 1, 2) [(3, 1, 5, 0), (2, 4, 2, 0), (1, 7, 8, 0), (3, 9, 3, 0)] = true := by decide +kernel
theorem eta_c0n0z {ar1 ao1 ar2 ao2 : UInt64} {k1 j1 : Int} (H1 : PA k1 j1 ar1 ao1) {k2 j2 : Int} (H2 : PA k2 j2 ar2 ao2) (hz2 : j2 = 0) : EtaRuns 2 (zI 16 []) (zD 16 [vD 3, vD 5]) (zI 17 [vI 0, vI 1, vI 1]) (zI 4 [vI 1]) (zD 4 [vD 4]) ar1 ao1 ar2 ao2 (fun i0 i1 Y0 Y1 => ∃ z0 z1, Er false k2 j2 (4 * i0) (4 * i1) z0 z1 ∧ Er false k1 j1 z0 z1 Y0 Y1) := by
  intro p l e s m args below meth c T0 Z a0 h0 n0 Ev A K D W i0 i1 X0 hx hby hml hown hZ hw e0 Z0 D0 hd3 hd4 hd5 hd6 d0 d1 b0 b1 Y0 KK
  subst hd3 hd4 hd5 hd6
  have f0 := own_f4 d0
  have f1 := own_f4 d1
  obtain ⟨t2, R2, e2_, b2_, x2, g2⟩ := own_ez (B := (4 * i1)) H2 hz2 f0 8589934592 (by decide) (by omega) (by omega)
  have m2 := e2_ (by omega)
  obtain ⟨t1, R1, e1_, b1_, v1, w1, x1, g1⟩ := own_en H1 g2 f1 274877906944 (by decide) (by omega) (by omega) (by omega) (by omega)
  refine seg (runIs_e er_c0n0z) sc0 hw hx hby hml rfl hZ hown (own_okN_0 _ Z a0 hw) D0 (by decide) X0 e0 Y0 (Fr.nil n0) Z0 ⟨x2, v1, w1, x1, trivial⟩ ?_
  intro T1 h1 L1 A1 K1 hAK X1 e1 Y1 N1 Kp hf hn1
  exact KK T1 h1 L1 A1 K1 (FP.ddiv (FP.dsub (FP.ddiv (D 1) (D 5)) (FP.dmul (D 4) (D 2))) (D 3)) (D 2) t1 (4 * i1) (some (0, _, 1)) hAK X1 e1 Kp (hf 7 (by decide) (by decide)) (Yf.pick Y1.fl [7, 0, 1] (by decide) rfl) N1 hn1 g1 f1 (by omega) (by omega) ⟨_, _, ⟨R2, rfl⟩, ⟨R1, rfl⟩⟩
theorem er_c0n1n : runIs (run (own_mc 33) own_MN_0 9 (1, 2, 4, 14) 101 131 [] [] (0, #[sR 1, sR 0, sU, sU, sU, sU, sU, sU, sU], [], (dsE 2 (zI 16 [vI 0, vI 1]) (zD 16 [vD 3, vD 5]) (zI 17 [vI 0, vI 1, vI 2]) (zI 4 [vI 1]) (zD 4 [vD 4, vD 6])), 7, 0, 0)) (101, #[sR 1, sR 0, sR 7, sI (-1), sI 0, sD 11, s2, sI 1, sU], [], (dsE 2 (zI 16 [vI 0, vI 1]) (zD 16 [vD 3, vD 5]) (zI 17 [vI 0, vI 1, vI 2]) (zI 4 [vI 1]) (zD 4 [vD 4, vD 6])) ++ [(65, 2, [vD 12, vD 9])], 13, 1, 2) [(2, 6, 1, 0), (1, 2, 7, 0), (3, 8, 5, 0), (2, 4, 9, 0), (1, 1, 10, 0), (3, 11, 3, 0)] = true := by decide +kernel
theorem eta_c0n1n {ar1 ao1 ar2 ao2 : UInt64} {k1 j1 : Int} (H1 : PA k1 j1 ar1 ao1) {k2 j2 : Int} (H2 : PA k2 j2 ar2 ao2) : EtaRuns 2 (zI 16 [vI 0, vI 1]) (zD 16 [vD 3, vD 5]) (zI 17 [vI 0, vI 1, vI 2]) (zI 4 [vI 1]) (zD 4 [vD 4, vD 6]) ar1 ao1 ar2 ao2 (fun i0 i1 Y0 Y1 => ∃ z0 z1, Er true k2 j2 (4 * i0) (4 * i1) z0 z1 ∧ Er false k1 j1 z0 z1 Y0 Y1) := by
  intro p l e s m args below meth c T0 Z a0 h0 n0 Ev A K D W i0 i1 X0 hx hby hml hown hZ hw e0 Z0 D0 hd3 hd4 hd5 hd6 d0 d1 b0 b1 Y0 KK
  subst hd3 hd4 hd5 hd6
  have f0 := own_f4 d0
  have f1 := own_f4 d1
  obtain ⟨t2, R2, e2_, b2_, v2, w2, x2, g2⟩ := own_en H2 f1 f0 8589934592 (by decide) (by omega) (by omega) (by omega) (by omega)
  have m2 := e2_ (by omega) (by omega)
  obtain ⟨t1, R1, e1_, b1_, v1, w1, x1, g1⟩ := own_en H1 f0 g2 274877906944 (by decide) (by omega) (by omega) (by omega) (by omega)
  refine seg (runIs_e er_c0n1n) sc0 hw hx hby hml rfl hZ hown (own_okN_0 _ Z a0 hw) D0 (by decide) X0 e0 Y0 (Fr.nil n0) Z0 ⟨v2, w2, x2, v1, w1, x1, trivial⟩ ?_
  intro T1 h1 L1 A1 K1 hAK X1 e1 Y1 N1 Kp hf hn1
  exact KK T1 h1 L1 A1 K1 (FP.ddiv (FP.dsub (D 1) (FP.dmul (D 4) (FP.ddiv (FP.dsub (D 2) (FP.dmul (D 6) (D 1))) (D 5)))) (D 3)) (FP.ddiv (FP.dsub (D 2) (FP.dmul (D 6) (D 1))) (D 5)) t1 t2 (some (0, _, 1)) hAK X1 e1 Kp (hf 7 (by decide) (by decide)) (Yf.pick Y1.fl [7, 0, 1] (by decide) rfl) N1 hn1 g1 g2 (by omega) (by omega) ⟨_, _, ⟨R2, rfl⟩, ⟨R1, rfl⟩⟩
theorem er_c0n1z : runIs (run (own_mc 33) own_MN_0 9 (1, 2, 4, 14) 101 107 [] [] (0, #[sR 1, sR 0, sU, sU, sU, sU, sU, sU, sU], [], (dsE 2 (zI 16 [vI 0, vI 1]) (zD 16 [vD 3, vD 5]) (zI 17 [vI 0, vI 1, vI 1]) (zI 4 [vI 1]) (zD 4 [vD 4])), 7, 0, 0)) (101, #[sR 1, sR 0, sR 7, sI (-1), sI 0, sD 9, s2, sI 1, sU], [], (dsE 2 (zI 16 [vI 0, vI 1]) (zD 16 [vD 3, vD 5]) (zI 17 [vI 0, vI 1, vI 1]) (zI 4 [vI 1]) (zD 4 [vD 4])) ++ [(65, 2, [vD 10, vD 7])], 11, 1, 2) [(3, 2, 5, 0), (2, 4, 7, 0), (1, 1, 8, 0), (3, 9, 3, 0)] = true := by decide +kernel
theorem eta_c0n1z {ar1 ao1 ar2 ao2 : UInt64} {k1 j1 : Int} (H1 : PA k1 j1 ar1 ao1) {k2 j2 : Int} (H2 : PA k2 j2 ar2 ao2) (hz2 : j2 = 0) : EtaRuns 2 (zI 16 [vI 0, vI 1]) (zD 16 [vD 3, vD 5]) (zI 17 [vI 0, vI 1, vI 1]) (zI 4 [vI 1]) (zD 4 [vD 4]) ar1 ao1 ar2 ao2 (fun i0 i1 Y0 Y1 => ∃ z0 z1, Er true k2 j2 (4 * i0) (4 * i1) z0 z1 ∧ Er false k1 j1 z0 z1 Y0 Y1) := by
  intro p l e s m args below meth c T0 Z a0 h0 n0 Ev A K D W i0 i1 X0 hx hby hml hown hZ hw e0 Z0 D0 hd3 hd4 hd5 hd6 d0 d1 b0 b1 Y0 KK
  subst hd3 hd4 hd5 hd6
  have f0 := own_f4 d0
  have f1 := own_f4 d1
  obtain ⟨t2, R2, e2_, b2_, x2, g2⟩ := own_ez (B := (4 * i0)) H2 hz2 f1 8589934592 (by decide) (by omega) (by omega)
  have m2 := e2_ (by omega)
  obtain ⟨t1, R1, e1_, b1_, v1, w1, x1, g1⟩ := own_en H1 f0 g2 274877906944 (by decide) (by omega) (by omega) (by omega) (by omega)
  refine seg (runIs_e er_c0n1z) sc0 hw hx hby hml rfl hZ hown (own_okN_0 _ Z a0 hw) D0 (by decide) X0 e0 Y0 (Fr.nil n0) Z0 ⟨x2, v1, w1, x1, trivial⟩ ?_
  intro T1 h1 L1 A1 K1 hAK X1 e1 Y1 N1 Kp hf hn1
  exact KK T1 h1 L1 A1 K1 (FP.ddiv (FP.dsub (D 1) (FP.dmul (D 4) (FP.ddiv (D 2) (D 5)))) (D 3)) (FP.ddiv (D 2) (D 5)) t1 t2 (some (0, _, 1)) hAK X1 e1 Kp (hf 7 (by decide) (by decide)) (Yf.pick Y1.fl [7, 0, 1] (by decide) rfl) N1 hn1 g1 g2 (by omega) (by omega) ⟨_, _, ⟨R2, rfl⟩, ⟨R1, rfl⟩⟩
theorem er_c0z0n : runIs (run (own_mc 33) own_MN_0 9 (1, 2, 4, 14) 101 107 [] [] (0, #[sR 1, sR 0, sU, sU, sU, sU, sU, sU, sU], [], (dsE 2 (zI 16 []) (zD 16 [vD 3, vD 5]) (zI 17 [vI 0, vI 0, vI 1]) (zI 4 [vI 1]) (zD 4 [vD 6])), 7, 0, 0)) (101, #[sR 1, sR 0, sR 7, sI (-1), sI 0, sD 9, s2, sI 0, sU], [], (dsE 2 (zI 16 []) (zD 16 [vD 3, vD 5]) (zI 17 [vI 0, vI 0, vI 1]) (zI 4 [vI 1]) (zD 4 [vD 6])) ++ [(65, 2, [vD 10, vD 2])], 11, 1, 2) [(2, 6, 2, 0), (1, 1, 7, 0), (3, 8, 5, 0), (3, 9, 3, 0)] = true := by decide +kernel
theorem eta_c0z0n {ar1 ao1 ar2 ao2 : UInt64} {k1 j1 : Int} (H1 : PA k1 j1 ar1 ao1) (hz1 : j1 = 0) {k2 j2 : Int} (H2 : PA k2 j2 ar2 ao2) : EtaRuns 2 (zI 16 []) (zD 16 [vD 3, vD 5]) (zI 17 [vI 0, vI 0, vI 1]) (zI 4 [vI 1]) (zD 4 [vD 6]) ar1 ao1 ar2 ao2 (fun i0 i1 Y0 Y1 => ∃ z0 z1, Er false k2 j2 (4 * i0) (4 * i1) z0 z1 ∧ Er false k1 j1 z0 z1 Y0 Y1) := by
  intro p l e s m args below meth c T0 Z a0 h0 n0 Ev A K D W i0 i1 X0 hx hby hml hown hZ hw e0 Z0 D0 hd3 hd4 hd5 hd6 d0 d1 b0 b1 Y0 KK
  subst hd3 hd4 hd5 hd6
  have f0 := own_f4 d0
  have f1 := own_f4 d1
  obtain ⟨t2, R2, e2_, b2_, v2, w2, x2, g2⟩ := own_en H2 f0 f1 8589934592 (by decide) (by omega) (by omega) (by omega) (by omega)
  have m2 := e2_ (by omega) (by omega)
  obtain ⟨t1, R1, e1_, b1_, x1, g1⟩ := own_ez (B := (4 * i1)) H1 hz1 g2 274877906944 (by decide) (by omega) (by omega)
  refine seg (runIs_e er_c0z0n) sc0 hw hx hby hml rfl hZ hown (own_okN_0 _ Z a0 hw) D0 (by decide) X0 e0 Y0 (Fr.nil n0) Z0 ⟨v2, w2, x2, x1, trivial⟩ ?_
  intro T1 h1 L1 A1 K1 hAK X1 e1 Y1 N1 Kp hf hn1
  exact KK T1 h1 L1 A1 K1 (FP.ddiv (FP.ddiv (FP.dsub (D 1) (FP.dmul (D 6) (D 2))) (D 5)) (D 3)) (D 2) t1 (4 * i1) (some (0, _, 0)) hAK X1 e1 Kp (hf 7 (by decide) (by decide)) (Yf.pick Y1.fl [7, 0, 1] (by decide) rfl) N1 hn1 g1 f1 (by omega) (by omega) ⟨_, _, ⟨R2, rfl⟩, ⟨R1, rfl⟩⟩
theorem er_c0z0z : runIs (run (own_mc 33) own_MN_0 9 (1, 2, 4, 14) 101 83 [] [] (0, #[sR 1, sR 0, sU, sU, sU, sU, sU, sU, sU], [], (dsE 2 (zI 16 []) (zD 16 [vD 3, vD 5]) (zI 17 []) (zI 4 []) (zD 4 [])), 7, 0, 0)) (101, #[sR 1, sR 0, sR 7, sI (-1), sI 0, sD 7, s2, sI 0, sU], [], (dsE 2 (zI 16 []) (zD 16 [vD 3, vD 5]) (zI 17 []) (zI 4 []) (zD 4 [])) ++ [(65, 2, [vD 8, vD 2])], 9, 1, 2) [(3, 1, 5, 0), (3, 7, 3, 0)] = true := by decide +kernel
theorem eta_c0z0z {ar1 ao1 ar2 ao2 : UInt64} {k1 j1 : Int} (H1 : PA k1 j1 ar1 ao1) (hz1 : j1 = 0) {k2 j2 : Int} (H2 : PA k2 j2 ar2 ao2) (hz2 : j2 = 0) : EtaRuns 2 (zI 16 []) (zD 16 [vD 3, vD 5]) (zI 17 []) (zI 4 []) (zD 4 []) ar1 ao1 ar2 ao2 (fun i0 i1 Y0 Y1 => ∃ z0 z1, Er false k2 j2 (4 * i0) (4 * i1) z0 z1 ∧ Er false k1 j1 z0 z1 Y0 Y1) := by
  intro p l e s m args below meth c T0 Z a0 h0 n0 Ev A K D W i0 i1 X0 hx hby hml hown hZ hw e0 Z0 D0 hd3 hd4 hd5 hd6 d0 d1 b0 b1 Y0 KK
  subst hd3 hd4 hd5 hd6
  have f0 := own_f4 d0
  have f1 := own_f4 d1
  obtain ⟨t2, R2, e2_, b2_, x2, g2⟩ := own_ez (B := (4 * i1)) H2 hz2 f0 8589934592 (by decide) (by omega) (by omega)
  have m2 := e2_ (by omega)
  obtain ⟨t1, R1, e1_, b1_, x1, g1⟩ := own_ez (B := (4 * i1)) H1 hz1 g2 274877906944 (by decide) (by omega) (by omega)
  refine seg (runIs_e er_c0z0z) sc0 hw hx hby hml rfl hZ hown (own_okN_0 _ Z a0 hw) D0 (by decide) X0 e0 Y0 (Fr.nil n0) Z0 ⟨x2, x1, trivial⟩ ?_
  intro T1 h1 L1 A1 K1 hAK X1 e1 Y1 N1 Kp hf hn1
  exact KK T1 h1 L1 A1 K1 (FP.ddiv (FP.ddiv (D 1) (D 5)) (D 3)) (D 2) t1 (4 * i1) (some (0, _, 0)) hAK X1 e1 Kp (hf 7 (by decide) (by decide)) (Yf.pick Y1.fl [7, 0, 1] (by decide) rfl) N1 hn1 g1 f1 (by omega) (by omega) ⟨_, _, ⟨R2, rfl⟩, ⟨R1, rfl⟩⟩
theorem er_c0z1n : runIs (run (own_mc 33) own_MN_0 9 (1, 2, 4, 14) 101 107 [] [] (0, #[sR 1, sR 0, sU, sU, sU, sU, sU, sU, sU], [], (dsE 2 (zI 16 [vI 0, vI 1]) (zD 16 [vD 3, vD 5]) (zI 17 [vI 0, vI 0, vI 1]) (zI 4 []) (zD 4 [vD 6])), 7, 0, 0)) (101, #[sR 1, sR 0, sR 7, sI (-1), sI 0, sD 1, s2, sI 0, sU], [], (dsE 2 (zI 16 [vI 0, vI 1]) (zD 16 [vD 3, vD 5]) (zI 17 [vI 0, vI 0, vI 1]) (zI 4 []) (zD 4 [vD 6])) ++ [(65, 2, [vD 10, vD 9])], 11, 1, 2) [(2, 6, 1, 0), (1, 2, 7, 0), (3, 8, 5, 0), (3, 1, 3, 0)] = true := by decide +kernel
theorem eta_c0z1n {ar1 ao1 ar2 ao2 : UInt64} {k1 j1 : Int} (H1 : PA k1 j1 ar1 ao1) (hz1 : j1 = 0) {k2 j2 : Int} (H2 : PA k2 j2 ar2 ao2) : EtaRuns 2 (zI 16 [vI 0, vI 1]) (zD 16 [vD 3, vD 5]) (zI 17 [vI 0, vI 0, vI 1]) (zI 4 []) (zD 4 [vD 6]) ar1 ao1 ar2 ao2 (fun i0 i1 Y0 Y1 => ∃ z0 z1, Er true k2 j2 (4 * i0) (4 * i1) z0 z1 ∧ Er false k1 j1 z0 z1 Y0 Y1) := by
  intro p l e s m args below meth c T0 Z a0 h0 n0 Ev A K D W i0 i1 X0 hx hby hml hown hZ hw e0 Z0 D0 hd3 hd4 hd5 hd6 d0 d1 b0 b1 Y0 KK
  subst hd3 hd4 hd5 hd6
  have f0 := own_f4 d0
  have f1 := own_f4 d1
  obtain ⟨t2, R2, e2_, b2_, v2, w2, x2, g2⟩ := own_en H2 f1 f0 8589934592 (by decide) (by omega) (by omega) (by omega) (by omega)
  have m2 := e2_ (by omega) (by omega)
  obtain ⟨t1, R1, e1_, b1_, x1, g1⟩ := own_ez (B := t2) H1 hz1 f0 274877906944 (by decide) (by omega) (by omega)
  refine seg (runIs_e er_c0z1n) sc0 hw hx hby hml rfl hZ hown (own_okN_0 _ Z a0 hw) D0 (by decide) X0 e0 Y0 (Fr.nil n0) Z0 ⟨v2, w2, x2, x1, trivial⟩ ?_
  intro T1 h1 L1 A1 K1 hAK X1 e1 Y1 N1 Kp hf hn1
  exact KK T1 h1 L1 A1 K1 (FP.ddiv (D 1) (D 3)) (FP.ddiv (FP.dsub (D 2) (FP.dmul (D 6) (D 1))) (D 5)) t1 t2 (some (0, _, 0)) hAK X1 e1 Kp (hf 7 (by decide) (by decide)) (Yf.pick Y1.fl [7, 0, 1] (by decide) rfl) N1 hn1 g1 g2 (by omega) (by omega) ⟨_, _, ⟨R2, rfl⟩, ⟨R1, rfl⟩⟩
theorem er_c0z1z : runIs (run (own_mc 33) own_MN_0 9 (1, 2, 4, 14) 101 83 [] [] (0, #[sR 1, sR 0, sU, sU, sU, sU, sU, sU, sU], [], (dsE 2 (zI 16 [vI 0, vI 1]) (zD 16 [vD 3, vD 5]) (zI 17 []) (zI 4 []) (zD 4 [])), 7, 0, 0)) (101, #[sR 1, sR 0, sR 7, sI (-1), sI 0, sD 1, s2, sI 0, sU], [], (dsE 2 (zI 16 [vI 0, vI 1]) (zD 16 [vD 3, vD 5]) (zI 17 []) (zI 4 []) (zD 4 [])) ++ [(65, 2, [vD 8, vD 7])], 9, 1, 2) [(3, 2, 5, 0), (3, 1, 3, 0)] = true := by decide +kernel
theorem eta_c0z1z {ar1 ao1 ar2 ao2 : UInt64} {k1 j1 : Int} (H1 : PA k1 j1 ar1 ao1) (hz1 : j1 = 0) {k2 j2 : Int} (H2 : PA k2 j2 ar2 ao2) (hz2 : j2 = 0) : EtaRuns 2 (zI 16 [vI 0, vI 1]) (zD 16 [vD 3, vD 5]) (zI 17 []) (zI 4 []) (zD 4 []) ar1 ao1 ar2 ao2 (fun i0 i1 Y0 Y1 => ∃ z0 z1, Er true k2 j2 (4 * i0) (4 * i1) z0 z1 ∧ Er false k1 j1 z0 z1 Y0 Y1) := by
  intro p l e s m args below meth c T0 Z a0 h0 n0 Ev A K D W i0 i1 X0 hx hby hml hown hZ hw e0 Z0 D0 hd3 hd4 hd5 hd6 d0 d1 b0 b1 Y0 KK
  subst hd3 hd4 hd5 hd6
  have f0 := own_f4 d0
  have f1 := own_f4 d1
  obtain ⟨t2, R2, e2_, b2_, x2, g2⟩ := own_ez (B := (4 * i0)) H2 hz2 f1 8589934592 (by decide) (by omega) (by omega)
  have m2 := e2_ (by omega)
  obtain ⟨t1, R1, e1_, b1_, x1, g1⟩ := own_ez (B := t2) H1 hz1 f0 274877906944 (by decide) (by omega) (by omega)
  refine seg (runIs_e er_c0z1z) sc0 hw hx hby hml rfl hZ hown (own_okN_0 _ Z a0 hw) D0 (by decide) X0 e0 Y0 (Fr.nil n0) Z0 ⟨x2, x1, trivial⟩ ?_
  intro T1 h1 L1 A1 K1 hAK X1 e1 Y1 N1 Kp hf hn1
  exact KK T1 h1 L1 A1 K1 (FP.ddiv (D 1) (D 3)) (FP.ddiv (D 2) (D 5)) t1 t2 (some (0, _, 0)) hAK X1 e1 Kp (hf 7 (by decide) (by decide)) (Yf.pick Y1.fl [7, 0, 1] (by decide) rfl) N1 hn1 g1 g2 (by omega) (by omega) ⟨_, _, ⟨R2, rfl⟩, ⟨R1, rfl⟩⟩
theorem er_c1n0n : runIs (run (own_mc 33) own_MN_0 9 (1, 2, 4, 14) 101 131 [] [] (0, #[sR 1, sR 0, sU, sU, sU, sU, sU, sU, sU], [], (dsE 2 (zI 16 [vI 1]) (zD 16 [vD 3, vD 5]) (zI 17 [vI 0, vI 1, vI 2]) (zI 4 [vI 0, vI 1]) (zD 4 [vD 4, vD 6])), 7, 0, 0)) (101, #[sR 1, sR 0, sR 7, sI (-1), sI 1, sD 11, s2, sI 1, sU], [], (dsE 2 (zI 16 [vI 1]) (zD 16 [vD 3, vD 5]) (zI 17 [vI 0, vI 1, vI 2]) (zI 4 [vI 0, vI 1]) (zD 4 [vD 4, vD 6])) ++ [(65, 2, [vD 9, vD 12])], 13, 1, 2) [(2, 6, 2, 0), (1, 1, 7, 0), (3, 8, 5, 0), (2, 4, 9, 0), (1, 2, 10, 0), (3, 11, 3, 0)] = true := by decide +kernel
theorem eta_c1n0n {ar1 ao1 ar2 ao2 : UInt64} {k1 j1 : Int} (H1 : PA k1 j1 ar1 ao1) {k2 j2 : Int} (H2 : PA k2 j2 ar2 ao2) : EtaRuns 2 (zI 16 [vI 1]) (zD 16 [vD 3, vD 5]) (zI 17 [vI 0, vI 1, vI 2]) (zI 4 [vI 0, vI 1]) (zD 4 [vD 4, vD 6]) ar1 ao1 ar2 ao2 (fun i0 i1 Y0 Y1 => ∃ z0 z1, Er false k2 j2 (4 * i0) (4 * i1) z0 z1 ∧ Er true k1 j1 z0 z1 Y0 Y1) := by
  intro p l e s m args below meth c T0 Z a0 h0 n0 Ev A K D W i0 i1 X0 hx hby hml hown hZ hw e0 Z0 D0 hd3 hd4 hd5 hd6 d0 d1 b0 b1 Y0 KK
  subst hd3 hd4 hd5 hd6
  have f0 := own_f4 d0
  have f1 := own_f4 d1
  obtain ⟨t2, R2, e2_, b2_, v2, w2, x2, g2⟩ := own_en H2 f0 f1 8589934592 (by decide) (by omega) (by omega) (by omega) (by omega)
  have m2 := e2_ (by omega) (by omega)
  obtain ⟨t1, R1, e1_, b1_, v1, w1, x1, g1⟩ := own_en H1 f1 g2 274877906944 (by decide) (by omega) (by omega) (by omega) (by omega)
  refine seg (runIs_e er_c1n0n) sc0 hw hx hby hml rfl hZ hown (own_okN_0 _ Z a0 hw) D0 (by decide) X0 e0 Y0 (Fr.nil n0) Z0 ⟨v2, w2, x2, v1, w1, x1, trivial⟩ ?_
  intro T1 h1 L1 A1 K1 hAK X1 e1 Y1 N1 Kp hf hn1
  exact KK T1 h1 L1 A1 K1 (FP.ddiv (FP.dsub (D 1) (FP.dmul (D 6) (D 2))) (D 5)) (FP.ddiv (FP.dsub (D 2) (FP.dmul (D 4) (FP.ddiv (FP.dsub (D 1) (FP.dmul (D 6) (D 2))) (D 5)))) (D 3)) t2 t1 (some (1, _, 1)) hAK X1 e1 Kp (hf 7 (by decide) (by decide)) (Yf.pick Y1.fl [7, 0, 1] (by decide) rfl) N1 hn1 g2 g1 (by omega) (by omega) ⟨_, _, ⟨R2, rfl⟩, ⟨R1, rfl⟩⟩
theorem er_c1n0z : runIs (run (own_mc 33) own_MN_0 9 (1, 2, 4, 14) 101 107 [] [] (0, #[sR 1, sR 0, sU, sU, sU, sU, sU, sU, sU], [], (dsE 2 (zI 16 [vI 1]) (zD 16 [vD 3, vD 5]) (zI 17 [vI 0, vI 1, vI 1]) (zI 4 []) (zD 4 [vD 4])), 7, 0, 0)) (101, #[sR 1, sR 0, sR 7, sI (-1), sI 1, sD 9, s2, sI 1, sU], [], (dsE 2 (zI 16 [vI 1]) (zD 16 [vD 3, vD 5]) (zI 17 [vI 0, vI 1, vI 1]) (zI 4 []) (zD 4 [vD 4])) ++ [(65, 2, [vD 7, vD 10])], 11, 1, 2) [(3, 1, 5, 0), (2, 4, 7, 0), (1, 2, 8, 0), (3, 9, 3, 0)] = true := by decide +kernel
theorem eta_c1n0z {ar1 ao1 ar2 ao2 : UInt64} {k1 j1 : Int} (H1 : PA k1 j1 ar1 ao1) {k2 j2 : Int} (H2 : PA k2 j2 ar2 ao2) (hz2 : j2 = 0) : EtaRuns 2 (zI 16 [vI 1]) (zD 16 [vD 3, vD 5]) (zI 17 [vI 0, vI 1, vI 1]) (zI 4 []) (zD 4 [vD 4]) ar1 ao1 ar2 ao2 (fun i0 i1 Y0 Y1 => ∃ z0 z1, Er false k2 j2 (4 * i0) (4 * i1) z0 z1 ∧ Er true k1 j1 z0 z1 Y0 Y1) := by
  intro p l e s m args below meth c T0 Z a0 h0 n0 Ev A K D W i0 i1 X0 hx hby hml hown hZ hw e0 Z0 D0 hd3 hd4 hd5 hd6 d0 d1 b0 b1 Y0 KK
  subst hd3 hd4 hd5 hd6
  have f0 := own_f4 d0
  have f1 := own_f4 d1
  obtain ⟨t2, R2, e2_, b2_, x2, g2⟩ := own_ez (B := (4 * i1)) H2 hz2 f0 8589934592 (by decide) (by omega) (by omega)
  have m2 := e2_ (by omega)
  obtain ⟨t1, R1, e1_, b1_, v1, w1, x1, g1⟩ := own_en H1 f1 g2 274877906944 (by decide) (by omega) (by omega) (by omega) (by omega)
  refine seg (runIs_e er_c1n0z) sc0 hw hx hby hml rfl hZ hown (own_okN_0 _ Z a0 hw) D0 (by decide) X0 e0 Y0 (Fr.nil n0) Z0 ⟨x2, v1, w1, x1, trivial⟩ ?_
  intro T1 h1 L1 A1 K1 hAK X1 e1 Y1 N1 Kp hf hn1
  exact KK T1 h1 L1 A1 K1 (FP.ddiv (D 1) (D 5)) (FP.ddiv (FP.dsub (D 2) (FP.dmul (D 4) (FP.ddiv (D 1) (D 5)))) (D 3)) t2 t1 (some (1, _, 1)) hAK X1 e1 Kp (hf 7 (by decide) (by decide)) (Yf.pick Y1.fl [7, 0, 1] (by decide) rfl) N1 hn1 g2 g1 (by omega) (by omega) ⟨_, _, ⟨R2, rfl⟩, ⟨R1, rfl⟩⟩
theorem er_c1n1n : runIs (run (own_mc 33) own_MN_0 9 (1, 2, 4, 14) 101 131 [] [] (0, #[sR 1, sR 0, sU, sU, sU, sU, sU, sU, sU], [], (dsE 2 (zI 16 [vI 1, vI 1]) (zD 16 [vD 3, vD 5]) (zI 17 [vI 0, vI 1, vI 2]) (zI 4 []) (zD 4 [vD 4, vD 6])), 7, 0, 0)) (101, #[sR 1, sR 0, sR 7, sI (-1), sI 1, sD 11, s2, sI 1, sU], [], (dsE 2 (zI 16 [vI 1, vI 1]) (zD 16 [vD 3, vD 5]) (zI 17 [vI 0, vI 1, vI 2]) (zI 4 []) (zD 4 [vD 4, vD 6])) ++ [(65, 2, [vD 1, vD 12])], 13, 1, 2) [(2, 6, 1, 0), (1, 2, 7, 0), (3, 8, 5, 0), (2, 4, 1, 0), (1, 9, 10, 0), (3, 11, 3, 0)] = true := by decide +kernel
theorem eta_c1n1n {ar1 ao1 ar2 ao2 : UInt64} {k1 j1 : Int} (H1 : PA k1 j1 ar1 ao1) {k2 j2 : Int} (H2 : PA k2 j2 ar2 ao2) : EtaRuns 2 (zI 16 [vI 1, vI 1]) (zD 16 [vD 3, vD 5]) (zI 17 [vI 0, vI 1, vI 2]) (zI 4 []) (zD 4 [vD 4, vD 6]) ar1 ao1 ar2 ao2 (fun i0 i1 Y0 Y1 => ∃ z0 z1, Er true k2 j2 (4 * i0) (4 * i1) z0 z1 ∧ Er true k1 j1 z0 z1 Y0 Y1) := by
  intro p l e s m args below meth c T0 Z a0 h0 n0 Ev A K D W i0 i1 X0 hx hby hml hown hZ hw e0 Z0 D0 hd3 hd4 hd5 hd6 d0 d1 b0 b1 Y0 KK
  subst hd3 hd4 hd5 hd6
  have f0 := own_f4 d0
  have f1 := own_f4 d1
  obtain ⟨t2, R2, e2_, b2_, v2, w2, x2, g2⟩ := own_en H2 f1 f0 8589934592 (by decide) (by omega) (by omega) (by omega) (by omega)
  have m2 := e2_ (by omega) (by omega)
  obtain ⟨t1, R1, e1_, b1_, v1, w1, x1, g1⟩ := own_en H1 g2 f0 274877906944 (by decide) (by omega) (by omega) (by omega) (by omega)
  refine seg (runIs_e er_c1n1n) sc0 hw hx hby hml rfl hZ hown (own_okN_0 _ Z a0 hw) D0 (by decide) X0 e0 Y0 (Fr.nil n0) Z0 ⟨v2, w2, x2, v1, w1, x1, trivial⟩ ?_
  intro T1 h1 L1 A1 K1 hAK X1 e1 Y1 N1 Kp hf hn1
  exact KK T1 h1 L1 A1 K1 (D 1) (FP.ddiv (FP.dsub (FP.ddiv (FP.dsub (D 2) (FP.dmul (D 6) (D 1))) (D 5)) (FP.dmul (D 4) (D 1))) (D 3)) (4 * i0) t1 (some (1, _, 1)) hAK X1 e1 Kp (hf 7 (by decide) (by decide)) (Yf.pick Y1.fl [7, 0, 1] (by decide) rfl) N1 hn1 f0 g1 (by omega) (by omega) ⟨_, _, ⟨R2, rfl⟩, ⟨R1, rfl⟩⟩
theorem er_c1n1z : runIs (run (own_mc 33) own_MN_0 9 (1, 2, 4, 14) 101 107 [] [] (0, #[sR 1, sR 0, sU, sU, sU, sU, sU, sU, sU], [], (dsE 2 (zI 16 [vI 1, vI 1]) (zD 16 [vD 3, vD 5]) (zI 17 [vI 0, vI 1, vI 1]) (zI 4 []) (zD 4 [vD 4])), 7, 0, 0)) (101, #[sR 1, sR 0, sR 7, sI (-1), sI 1, sD 9, s2, sI 1, sU], [], (dsE 2 (zI 16 [vI 1, vI 1]) (zD 16 [vD 3, vD 5]) (zI 17 [vI 0, vI 1, vI 1]) (zI 4 []) (zD 4 [vD 4])) ++ [(65, 2, [vD 1, vD 10])], 11, 1, 2) [(3, 2, 5, 0), (2, 4, 1, 0), (1, 7, 8, 0), (3, 9, 3, 0)] = true := by decide +kernel
theorem eta_c1n1z {ar1 ao1 ar2 ao2 : UInt64} {k1 j1 : Int} (H1 : PA k1 j1 ar1 ao1) {k2 j2 : Int} (H2 : PA k2 j2 ar2 ao2) (hz2 : j2 = 0) : EtaRuns 2 (zI 16 [vI 1, vI 1]) (zD 16 [vD 3, vD 5]) (zI 17 [vI 0, vI 1, vI 1]) (zI 4 []) (zD 4 [vD 4]) ar1 ao1 ar2 ao2 (fun i0 i1 Y0 Y1 => ∃ z0 z1, Er true k2 j2 (4 * i0) (4 * i1) z0 z1 ∧ Er true k1 j1 z0 z1 Y0 Y1) := by
  intro p l e s m args below meth c T0 Z a0 h0 n0 Ev A K D W i0 i1 X0 hx hby hml hown hZ hw e0 Z0 D0 hd3 hd4 hd5 hd6 d0 d1 b0 b1 Y0 KK
  subst hd3 hd4 hd5 hd6
  have f0 := own_f4 d0
  have f1 := own_f4 d1
  obtain ⟨t2, R2, e2_, b2_, x2, g2⟩ := own_ez (B := (4 * i0)) H2 hz2 f1 8589934592 (by decide) (by omega) (by omega)
  have m2 := e2_ (by omega)
  obtain ⟨t1, R1, e1_, b1_, v1, w1, x1, g1⟩ := own_en H1 g2 f0 274877906944 (by decide) (by omega) (by omega) (by omega) (by omega)
  refine seg (runIs_e er_c1n1z) sc0 hw hx hby hml rfl hZ hown (own_okN_0 _ Z a0 hw) D0 (by decide) X0 e0 Y0 (Fr.nil n0) Z0 ⟨x2, v1, w1, x1, trivial⟩ ?_
  intro T1 h1 L1 A1 K1 hAK X1 e1 Y1 N1 Kp hf hn1
  exact KK T1 h1 L1 A1 K1 (D 1) (FP.ddiv (FP.dsub (FP.ddiv (D 2) (D 5)) (FP.dmul (D 4) (D 1))) (D 3)) (4 * i0) t1 (some (1, _, 1)) hAK X1 e1 Kp (hf 7 (by decide) (by decide)) (Yf.pick Y1.fl [7, 0, 1] (by decide) rfl) N1 hn1 f0 g1 (by omega) (by omega) ⟨_, _, ⟨R2, rfl⟩, ⟨R1, rfl⟩⟩
theorem er_c1z0n : runIs (run (own_mc 33) own_MN_0 9 (1, 2, 4, 14) 101 107 [] [] (0, #[sR 1, sR 0, sU, sU, sU, sU, sU, sU, sU], [], (dsE 2 (zI 16 [vI 1]) (zD 16 [vD 3, vD 5]) (zI 17 [vI 0, vI 0, vI 1]) (zI 4 [vI 1]) (zD 4 [vD 6])), 7, 0, 0)) (101, #[sR 1, sR 0, sR 7, sI (-1), sI 1, sD 2, s2, sI 0, sU], [], (dsE 2 (zI 16 [vI 1]) (zD 16 [vD 3, vD 5]) (zI 17 [vI 0, vI 0, vI 1]) (zI 4 [vI 1]) (zD 4 [vD 6])) ++ [(65, 2, [vD 9, vD 10])], 11, 1, 2) [(2, 6, 2, 0), (1, 1, 7, 0), (3, 8, 5, 0), (3, 2, 3, 0)] = true := by decide +kernel
theorem eta_c1z0n {ar1 ao1 ar2 ao2 : UInt64} {k1 j1 : Int} (H1 : PA k1 j1 ar1 ao1) (hz1 : j1 = 0) {k2 j2 : Int} (H2 : PA k2 j2 ar2 ao2) : EtaRuns 2 (zI 16 [vI 1]) (zD 16 [vD 3, vD 5]) (zI 17 [vI 0, vI 0, vI 1]) (zI 4 [vI 1]) (zD 4 [vD 6]) ar1 ao1 ar2 ao2 (fun i0 i1 Y0 Y1 => ∃ z0 z1, Er false k2 j2 (4 * i0) (4 * i1) z0 z1 ∧ Er true k1 j1 z0 z1 Y0 Y1) := by
  intro p l e s m args below meth c T0 Z a0 h0 n0 Ev A K D W i0 i1 X0 hx hby hml hown hZ hw e0 Z0 D0 hd3 hd4 hd5 hd6 d0 d1 b0 b1 Y0 KK
  subst hd3 hd4 hd5 hd6
  have f0 := own_f4 d0
  have f1 := own_f4 d1
  obtain ⟨t2, R2, e2_, b2_, v2, w2, x2, g2⟩ := own_en H2 f0 f1 8589934592 (by decide) (by omega) (by omega) (by omega) (by omega)
  have m2 := e2_ (by omega) (by omega)
  obtain ⟨t1, R1, e1_, b1_, x1, g1⟩ := own_ez (B := t2) H1 hz1 f1 274877906944 (by decide) (by omega) (by omega)
  refine seg (runIs_e er_c1z0n) sc0 hw hx hby hml rfl hZ hown (own_okN_0 _ Z a0 hw) D0 (by decide) X0 e0 Y0 (Fr.nil n0) Z0 ⟨v2, w2, x2, x1, trivial⟩ ?_
  intro T1 h1 L1 A1 K1 hAK X1 e1 Y1 N1 Kp hf hn1
  exact KK T1 h1 L1 A1 K1 (FP.ddiv (FP.dsub (D 1) (FP.dmul (D 6) (D 2))) (D 5)) (FP.ddiv (D 2) (D 3)) t2 t1 (some (1, _, 0)) hAK X1 e1 Kp (hf 7 (by decide) (by decide)) (Yf.pick Y1.fl [7, 0, 1] (by decide) rfl) N1 hn1 g2 g1 (by omega) (by omega) ⟨_, _, ⟨R2, rfl⟩, ⟨R1, rfl⟩⟩
theorem er_c1z0z : runIs (run (own_mc 33) own_MN_0 9 (1, 2, 4, 14) 101 83 [] [] (0, #[sR 1, sR 0, sU, sU, sU, sU, sU, sU, sU], [], (dsE 2 (zI 16 [vI 1]) (zD 16 [vD 3, vD 5]) (zI 17 []) (zI 4 []) (zD 4 [])), 7, 0, 0)) (101, #[sR 1, sR 0, sR 7, sI (-1), sI 1, sD 2, s2, sI 0, sU], [], (dsE 2 (zI 16 [vI 1]) (zD 16 [vD 3, vD 5]) (zI 17 []) (zI 4 []) (zD 4 [])) ++ [(65, 2, [vD 7, vD 8])], 9, 1, 2) [(3, 1, 5, 0), (3, 2, 3, 0)] = true := by decide +kernel
theorem eta_c1z0z {ar1 ao1 ar2 ao2 : UInt64} {k1 j1 : Int} (H1 : PA k1 j1 ar1 ao1) (hz1 : j1 = 0) {k2 j2 : Int} (H2 : PA k2 j2 ar2 ao2) (hz2 : j2 = 0) : EtaRuns 2 (zI 16 [vI 1]) (zD 16 [vD 3, vD 5]) (zI 17 []) (zI 4 []) (zD 4 []) ar1 ao1 ar2 ao2 (fun i0 i1 Y0 Y1 => ∃ z0 z1, Er false k2 j2 (4 * i0) (4 * i1) z0 z1 ∧ Er true k1 j1 z0 z1 Y0 Y1) := by
  intro p l e s m args below meth c T0 Z a0 h0 n0 Ev A K D W i0 i1 X0 hx hby hml hown hZ hw e0 Z0 D0 hd3 hd4 hd5 hd6 d0 d1 b0 b1 Y0 KK
  subst hd3 hd4 hd5 hd6
  have f0 := own_f4 d0
  have f1 := own_f4 d1
  obtain ⟨t2, R2, e2_, b2_, x2, g2⟩ := own_ez (B := (4 * i1)) H2 hz2 f0 8589934592 (by decide) (by omega) (by omega)
  have m2 := e2_ (by omega)
  obtain ⟨t1, R1, e1_, b1_, x1, g1⟩ := own_ez (B := t2) H1 hz1 f1 274877906944 (by decide) (by omega) (by omega)
  refine seg (runIs_e er_c1z0z) sc0 hw hx hby hml rfl hZ hown (own_okN_0 _ Z a0 hw) D0 (by decide) X0 e0 Y0 (Fr.nil n0) Z0 ⟨x2, x1, trivial⟩ ?_
  intro T1 h1 L1 A1 K1 hAK X1 e1 Y1 N1 Kp hf hn1
  exact KK T1 h1 L1 A1 K1 (FP.ddiv (D 1) (D 5)) (FP.ddiv (D 2) (D 3)) t2 t1 (some (1, _, 0)) hAK X1 e1 Kp (hf 7 (by decide) (by decide)) (Yf.pick Y1.fl [7, 0, 1] (by decide) rfl) N1 hn1 g2 g1 (by omega) (by omega) ⟨_, _, ⟨R2, rfl⟩, ⟨R1, rfl⟩⟩
theorem er_c1z1n : runIs (run (own_mc 33) own_MN_0 9 (1, 2, 4, 14) 101 107 [] [] (0, #[sR 1, sR 0, sU, sU, sU, sU, sU, sU, sU], [], (dsE 2 (zI 16 [vI 1, vI 1]) (zD 16 [vD 3, vD 5]) (zI 17 [vI 0, vI 0, vI 1]) (zI 4 []) (zD 4 [vD 6])), 7, 0, 0)) (101, #[sR 1, sR 0, sR 7, sI (-1), sI 1, sD 9, s2, sI 0, sU], [], (dsE 2 (zI 16 [vI 1, vI 1]) (zD 16 [vD 3, vD 5]) (zI 17 [vI 0, vI 0, vI 1]) (zI 4 []) (zD 4 [vD 6])) ++ [(65, 2, [vD 1, vD 10])], 11, 1, 2) [(2, 6, 1, 0), (1, 2, 7, 0), (3, 8, 5, 0), (3, 9, 3, 0)] = true := by decide +kernel
theorem eta_c1z1n {ar1 ao1 ar2 ao2 : UInt64} {k1 j1 : Int} (H1 : PA k1 j1 ar1 ao1) (hz1 : j1 = 0) {k2 j2 : Int} (H2 : PA k2 j2 ar2 ao2) : EtaRuns 2 (zI 16 [vI 1, vI 1]) (zD 16 [vD 3, vD 5]) (zI 17 [vI 0, vI 0, vI 1]) (zI 4 []) (zD 4 [vD 6]) ar1 ao1 ar2 ao2 (fun i0 i1 Y0 Y1 => ∃ z0 z1, Er true k2 j2 (4 * i0) (4 * i1) z0 z1 ∧ Er true k1 j1 z0 z1 Y0 Y1) := by
  intro p l e s m args below meth c T0 Z a0 h0 n0 Ev A K D W i0 i1 X0 hx hby hml hown hZ hw e0 Z0 D0 hd3 hd4 hd5 hd6 d0 d1 b0 b1 Y0 KK
  subst hd3 hd4 hd5 hd6
  have f0 := own_f4 d0
  have f1 := own_f4 d1
  obtain ⟨t2, R2, e2_, b2_, v2, w2, x2, g2⟩ := own_en H2 f1 f0 8589934592 (by decide) (by omega) (by omega) (by omega) (by omega)
  have m2 := e2_ (by omega) (by omega)
  obtain ⟨t1, R1, e1_, b1_, x1, g1⟩ := own_ez (B := (4 * i0)) H1 hz1 g2 274877906944 (by decide) (by omega) (by omega)
  refine seg (runIs_e er_c1z1n) sc0 hw hx hby hml rfl hZ hown (own_okN_0 _ Z a0 hw) D0 (by decide) X0 e0 Y0 (Fr.nil n0) Z0 ⟨v2, w2, x2, x1, trivial⟩ ?_
  intro T1 h1 L1 A1 K1 hAK X1 e1 Y1 N1 Kp hf hn1
  exact KK T1 h1 L1 A1 K1 (D 1) (FP.ddiv (FP.ddiv (FP.dsub (D 2) (FP.dmul (D 6) (D 1))) (D 5)) (D 3)) (4 * i0) t1 (some (1, _, 0)) hAK X1 e1 Kp (hf 7 (by decide) (by decide)) (Yf.pick Y1.fl [7, 0, 1] (by decide) rfl) N1 hn1 f0 g1 (by omega) (by omega) ⟨_, _, ⟨R2, rfl⟩, ⟨R1, rfl⟩⟩
theorem er_c1z1z : runIs (run (own_mc 33) own_MN_0 9 (1, 2, 4, 14) 101 83 [] [] (0, #[sR 1, sR 0, sU, sU, sU, sU, sU, sU, sU], [], (dsE 2 (zI 16 [vI 1, vI 1]) (zD 16 [vD 3, vD 5]) (zI 17 []) (zI 4 []) (zD 4 [])), 7, 0, 0)) (101, #[sR 1, sR 0, sR 7, sI (-1), sI 1, sD 7, s2, sI 0, sU], [], (dsE 2 (zI 16 [vI 1, vI 1]) (zD 16 [vD 3, vD 5]) (zI 17 []) (zI 4 []) (zD 4 [])) ++ [(65, 2, [vD 1, vD 8])], 9, 1, 2) [(3, 2, 5, 0), (3, 7, 3, 0)] = true := by decide +kernel
theorem eta_c1z1z {ar1 ao1 ar2 ao2 : UInt64} {k1 j1 : Int} (H1 : PA k1 j1 ar1 ao1) (hz1 : j1 = 0) {k2 j2 : Int} (H2 : PA k2 j2 ar2 ao2) (hz2 : j2 = 0) : EtaRuns 2 (zI 16 [vI 1, vI 1]) (zD 16 [vD 3, vD 5]) (zI 17 []) (zI 4 []) (zD 4 []) ar1 ao1 ar2 ao2 (fun i0 i1 Y0 Y1 => ∃ z0 z1, Er true k2 j2 (4 * i0) (4 * i1) z0 z1 ∧ Er true k1 j1 z0 z1 Y0 Y1) := by
  intro p l e s m args below meth c T0 Z a0 h0 n0 Ev A K D W i0 i1 X0 hx hby hml hown hZ hw e0 Z0 D0 hd3 hd4 hd5 hd6 d0 d1 b0 b1 Y0 KK
  subst hd3 hd4 hd5 hd6
  have f0 := own_f4 d0
  have f1 := own_f4 d1
  obtain ⟨t2, R2, e2_, b2_, x2, g2⟩ := own_ez (B := (4 * i0)) H2 hz2 f1 8589934592 (by decide) (by omega) (by omega)
  have m2 := e2_ (by omega)
  obtain ⟨t1, R1, e1_, b1_, x1, g1⟩ := own_ez (B := (4 * i0)) H1 hz1 g2 274877906944 (by decide) (by omega) (by omega)
  refine seg (runIs_e er_c1z1z) sc0 hw hx hby hml rfl hZ hown (own_okN_0 _ Z a0 hw) D0 (by decide) X0 e0 Y0 (Fr.nil n0) Z0 ⟨x2, x1, trivial⟩ ?_
  intro T1 h1 L1 A1 K1 hAK X1 e1 Y1 N1 Kp hf hn1
  exact KK T1 h1 L1 A1 K1 (D 1) (FP.ddiv (FP.ddiv (D 2) (D 5)) (D 3)) (4 * i0) t1 (some (1, _, 0)) hAK X1 e1 Kp (hf 7 (by decide) (by decide)) (Yf.pick Y1.fl [7, 0, 1] (by decide) rfl) N1 hn1 f0 g1 (by omega) (by omega) ⟨_, _, ⟨R2, rfl⟩, ⟨R1, rfl⟩⟩
theorem own_b2 {L B N : Int} (hj : -2 ≤ L ∧ L ≤ 2) (hB : -N ≤ B ∧ B ≤ N) (hN : 0 ≤ N) : -(2 * N) ≤ L * B ∧ L * B ≤ 2 * N := by
  have h : L = -2 ∨ L = -1 ∨ L = 0 ∨ L = 1 ∨ L = 2 := by omega
  rcases h with rfl | rfl | rfl | rfl | rfl <;> omega
def SEH (Du Dl : Prop) (a u L Dd m00 m01 m10 m11 : Int) (pv0 pv1 : UInt64) : Prop := (a = 1 ∨ a = -1 ∨ a = 2 ∨ a = -2) ∧ (-2 ≤ u ∧ u ≤ 2) ∧ (-4 ≤ L ∧ L ≤ 4) ∧ (Dd = 1 ∨ Dd = -1 ∨ Dd = 2 ∨ Dd = -2 ∨ Dd = 4 ∨ Dd = -4 ∨ Dd = 8 ∨ Dd = -8) ∧ DFix a 0 pv0 ∧ Du ∧ Dl ∧ DFix Dd 1 pv1 ∧ m00 = a ∧ m01 = u ∧ 2 * m10 = L * a ∧ 2 * m11 = Dd + L * u
def EHB (E : Int → Int → Int → Int → Prop) (i0 i1 Y0 Y1 : Int) : Prop := E i0 i1 Y0 Y1 ∧ (-4398046511104 ≤ Y0 ∧ Y0 ≤ 4398046511104) ∧ (-4398046511104 ≤ Y1 ∧ Y1 ≤ 4398046511104)
theorem own_lift {i j : Int} {k : Nat} {x : UInt64} (m : Nat) (N : Int) (h : DFix i k x) (hN : ((2 ^ m : Nat) : Int) = N) (hj : i * N = j) : DFix j (k + m) x := by
  have := own_fixlift h m
  rw [hN, hj] at this
  exact this
theorem own_arE {a u L Dd m00 m01 m10 m11 Iv Xv R0 R1 : Int} {pv0 pv1 xd yd : UInt64} {Du Dl : Prop} (S : SEH Du Dl a u L Dd m00 m01 m10 m11 pv0 pv1) (bR : -4398046511104 ≤ R0 ∧ R0 ≤ 4398046511104) (hI : Iv = 2 * R1 - L * R0) (hX : Xv * Dd = 8 * Iv) (bX : -211106232532992 ≤ Xv ∧ Xv ≤ 211106232532992) (fx : DFix Xv 5 xd) (fy : DFix (8 * R0 - u * Xv) 5 yd) :
    ∃ X0 : Int, DFix X0 6 (FP.ddiv yd pv0) ∧ DFix (2 * Xv) 6 xd ∧ (-1125899906842624 ≤ X0 ∧ X0 ≤ 1125899906842624) ∧ m00 * X0 + m01 * (2 * Xv) = 16 * R0 ∧ m10 * X0 + m11 * (2 * Xv) = 16 * R1 := by
  obtain ⟨sa, su, sL, sD, da, -, -, -, q00, q01, q10, q11⟩ := S
  have bu := own_b2 su bX (by decide)
  obtain ⟨X0, hX0, -, bX0⟩ := own_divk (d := 2 * (8 * R0 - u * Xv)) 1125899906842624 sa (by omega) (by omega)
  have F0 : DFix X0 6 (FP.ddiv yd pv0) := own_fixdiv fy da (by rcases sa with rfl | rfl | rfl | rfl <;> decide) (M := 6) (by have e1 : ((2 ^ (0 + 6) : Nat) : Int) = 64 := rfl; have e2 : ((2 ^ 5 : Nat) : Int) = 32 := rfl; rw [e1, e2, ← hX0]; omega) (own_b53 (by omega)) (by decide)
  obtain ⟨G0, G1⟩ := own_lu (M10 := m10) (M11 := m11) hI hX hX0 q10 q11
  exact ⟨X0, F0, own_lift 1 2 fx rfl (by omega), by omega, by rw [q00, q01]; exact G0, G1⟩
theorem own_arU {a u L Dd m00 m01 m10 m11 Iv R0 R1 : Int} {pv0 pv1 zd yd : UInt64} {Du Dl : Prop} (S : SEH Du Dl a u L Dd m00 m01 m10 m11 pv0 pv1) (bR0 : -4398046511104 ≤ R0 ∧ R0 ≤ 4398046511104) (bR1 : -4398046511104 ≤ R1 ∧ R1 ≤ 4398046511104) (hI : Iv = 2 * R1 - L * R0) (fy : DFix R0 2 yd) (fz : DFix Iv 3 zd) :
    ∃ Xv : Int, Xv * Dd = 8 * Iv ∧ (-211106232532992 ≤ Xv ∧ Xv ≤ 211106232532992) ∧ DFix Xv 5 (FP.ddiv zd pv1) ∧ DFix (8 * R0) 5 yd ∧ ∀ uv, DFix u 0 uv → DFix (u * Xv) 5 (FP.dmul uv (FP.ddiv zd pv1)) ∧ DFix (8 * R0 - u * Xv) 5 (FP.dsub yd (FP.dmul uv (FP.ddiv zd pv1))) := by
  obtain ⟨sa, su, sL, sD, -, -, -, dd, -, -, -, -⟩ := S
  have bL := own_b4 sL (B := R0) bR0 (by decide)
  obtain ⟨Xv, hX, bX⟩ := own_divD (I := Iv) 26388279066624 sD (by omega)
  have fx : DFix Xv 5 (FP.ddiv zd pv1) := own_fixdiv fz dd (by rcases sD with rfl | rfl | rfl | rfl | rfl | rfl | rfl | rfl <;> decide) (M := 5) (by have e1 : ((2 ^ (1 + 5) : Nat) : Int) = 64 := rfl; have e2 : ((2 ^ 3 : Nat) : Int) = 8 := rfl; rw [e1, e2, hX]; omega) (own_b53 (by omega)) (by decide)
  have bu := own_b2 su bX (by decide)
  have fy5 : DFix (8 * R0) 5 yd := own_lift 3 8 fy rfl (by omega)
  refine ⟨Xv, hX, by omega, fx, fy5, fun uv du => ?_⟩
  have fp : DFix (u * Xv) 5 (FP.dmul uv (FP.ddiv zd pv1)) := own_fixmul (k := 0) (l := 5) du fx (own_b53 (by omega)) (by decide)
  exact ⟨fp, own_fixsub fy5 fp (own_b53 (by omega)) (by decide)⟩
theorem own_arL {a u L Dd m00 m01 m10 m11 R0 R1 : Int} {pv0 pv1 zd yd : UInt64} {Du Dl : Prop} (S : SEH Du Dl a u L Dd m00 m01 m10 m11 pv0 pv1) (bR0 : -4398046511104 ≤ R0 ∧ R0 ≤ 4398046511104) (bR1 : -4398046511104 ≤ R1 ∧ R1 ≤ 4398046511104) (fy : DFix R0 2 yd) (fz : DFix R1 2 zd) :
    DFix (2 * R1) 3 zd ∧ ∀ lv, DFix L 1 lv → DFix (L * R0) 3 (FP.dmul lv yd) ∧ DFix (2 * R1 - L * R0) 3 (FP.dsub zd (FP.dmul lv yd)) := by
  obtain ⟨-, -, sL, -⟩ := S
  have bL := own_b4 sL (B := R0) bR0 (by decide)
  have fz3 : DFix (2 * R1) 3 zd := own_lift 1 2 fz rfl (by omega)
  refine ⟨fz3, fun lv dl => ?_⟩
  have fp : DFix (L * R0) 3 (FP.dmul lv yd) := own_fixmul (k := 1) (l := 2) dl fy (own_b53 (by omega)) (by decide)
  exact ⟨fp, own_fixsub fz3 fp (own_b53 (by omega)) (by decide)⟩
def Q_tm (Z : State) (n0 : Nat) (vv fi : Addr) (rest : List OB) (v0 v1 : UInt64) (M00 M01 M10 M11 : Int) (E : Int → Int → Int → Int → Prop) (i0 i1 : Int) (v : Option Value) (h : Heap) (L : List Loc) : Prop := ∃ (pr : Addr) (kp kv kf : ClassId) (x0 x1 : UInt64) (Y0 Y1 X0 X1 : Int), v = some (.ref pr) ∧ Fr n0 L ∧ n0 ≤ h.size ∧ Yf Z n0 h ([(pr, kp, 65, 2, [.double x0, .double x1]), (vv, kv, 65, 2, [.double v0, .double v1]), (fi, kf, 0, 0, [])] ++ rest) ∧ EHB E i0 i1 Y0 Y1 ∧ DFix X0 6 x0 ∧ DFix X1 6 x1 ∧ (-1125899906842624 ≤ X0 ∧ X0 ≤ 1125899906842624) ∧ (-1125899906842624 ≤ X1 ∧ X1 ≤ 1125899906842624) ∧ M00 * X0 + M01 * X1 = 16 * Y0 ∧ M10 * X0 + M11 * X1 = 16 * Y1
theorem own_d307 : decode (own_mc 33) 307 = .ok (.areturn, 1) := by decide +kernel
def TmSpec (l : Launch) (Z : State) (n0 : Nat) (M00 M01 M10 M11 : Int) (W : Nat → Value) (lu : List OB) : Prop := ∀ (A : Nat → Addr) (K : Nat → ClassId) (cnt : Int32) (er ep es eo ev : List Value) (ar1 ao1 ar2 ao2 : UInt64) (E : Int → Int → Int → Int → Prop) (h0 : Heap) (D : Nat → UInt64) (i0 i1 : Int) (rest : List OB), EtaRuns cnt er ep es eo ev ar1 ao1 ar2 ao2 E → n0 ≤ h0.size → D 0 = 0 → D 3 = ar1 → D 4 = ao1 → D 5 = ar2 → D 6 = ao2 → Jvm.FP.Core.DInt i0 (D 1) → Jvm.FP.Core.DInt i1 (D 2) → (-2147483648 ≤ i0 ∧ i0 ≤ 2147483648) → (-2147483648 ≤ i1 ∧ i1 ≤ 2147483648) → Yf Z n0 h0 (own_fl A K D W 0 (dsE cnt er ep es eo ev) ++ (lu ++ rest)) → MetFree l (own_mn 33) (head1 [Jvm.Cond.code (own_mn 33) (own_mc 33) (own_ml 33) (own_mr 33)] (rmOf (1, 2, 4, 14))) (fun a U => a = #[.ref (A 1), .ref (A 0)] ∧ Z.Warmed39 U.vm ∧ U.heap = h0) (fun _ _ _ _ _ => True) (fun _ U o U' => ∃ v L, o = .returned v ∧ Q_tm Z n0 (A 0) (A 1) rest (D 1) (D 2) M00 M01 M10 M11 E i0 i1 v U'.heap L ∧ FrameEnd U o U' L (rmOf (1, 2, 4, 14)).cells (rmOf (1, 2, 4, 14)).slots)
def tmA (A1 la : Nat → Addr) : Nat → Addr := own_A [A1 1, A1 0, A1 7, la 0, la 1, la 2, la 3, la 4, la 5, la 6, la 7, la 8]
def tmK (A1 la : Nat → ClassId) : Nat → ClassId := own_K [A1 1, A1 0, A1 7, la 0, la 1, la 2, la 3, la 4, la 5, la 6, la 7, la 8]
def tmL (g : Nat → Value) (la : Nat → Addr) : Nat → Value := own_W [g 0, g 1, .ref (la 4), .ref (la 5), .ref (la 7), .ref (la 8), g 6, g 7, .int 2, .ref (la 0), .ref (la 1), .ref (la 2), g 12, .ref (la 3), .ref (la 6), g 15, g 16, g 17, g 18, g 19, g 20, g 21, g 22, g 23, g 24, g 25, g 26]
def tmW (A1 : Nat → Addr) (x y : UInt64) (cnt : Int32) (g : Nat → Value) : Nat → Value := own_W9 (.double x) (.double y) [(g 0), (g 1), (g 6), (g 7), .ref (A1 2), .ref (A1 3), .ref (A1 4), .ref (A1 5), .ref (A1 6), (g 12), (g 15), (g 16), (g 17), (g 18), (g 19), (g 20), (g 21), (g 22), .int cnt]
section OwnLu
variable {p : Program} {l : Launch} {e : Env} {s : State} {m : MethodId} {args : Array Value} {below : List Frame} {meth : Method} {c : Code} {T0 Z : State} {a0 : Array Value} {h0 hM : Heap} {n0 : Nat} {L0 : List Loc} {A : Nat → Addr} {K : Nat → ClassId} {D : Nat → UInt64} {W : Nat → Value} {vv fi : Addr} {oM rest : List OB} {v0 v1 : UInt64} {ce sl : Nat} {ds : List AD} {Ev : State → Outcome → Prop} {M00 M01 M10 M11 a u L Dd i0 i1 Y0 Y1 Iv : Int} {E : Int → Int → Int → Int → Prop}
def LUB (p : Program) (l : Launch) (e : Env) (s : State) (m : MethodId) (args : Array Value) (below : List Frame) (meth : Method) (c : Code) (T0 Z : State) (a0 : Array Value) (h0 hM : Heap) (n0 : Nat) (L0 : List Loc) (A : Nat → Addr) (W : Nat → Value) (vv fi : Addr) (oM rest : List OB) (v0 v1 : UInt64) (ce sl n : Nat) : Prop :=
  Stand p l e (rmOf (1, 2, 4, 14)) s m args below meth c T0 L0 ce sl ∧ p.tables.exec = Jvm.exec ∧ c.code = own_mc 33 ∧ c.maxLocals = 9 ∧ meth.sig.returnType = some (.array .double) ∧ meth.locks = false ∧ s.vm.findClass "com/example/tracefold/tracefold/mining/FactoredInverse" = some m.cls ∧ Z.Warmed39 s.vm ∧ (∀ d ∈ tables_1, d.before a0 Z = true) ∧ T0.heap = h0 ∧ n0 ≤ h0.size ∧ Fr n0 L0 ∧ W 90 = .double v0 ∧ W 91 = .double v1 ∧ A 1 = vv ∧ A 0 = fi ∧ Yf Z n0 hM (oM ++ rest) ∧ Keep hM h0 (oM.map (·.1)) ∧ ∀ i, i < n → A i ∈ oM.map (·.1) ∨ hM.size ≤ A i
def LUH (p : Program) (l : Launch) (e : Env) (s : State) (m : MethodId) (args : Array Value) (below : List Frame) (meth : Method) (c : Code) (T0 Z : State) (a0 : Array Value) (h0 hM : Heap) (n0 : Nat) (L0 : List Loc) (A : Nat → Addr) (K : Nat → ClassId) (D : Nat → UInt64) (W : Nat → Value) (vv fi : Addr) (oM rest : List OB) (v0 v1 : UInt64) (ce sl : Nat) (ds : List AD) : Prop := LUB p l e s m args below meth c T0 Z a0 h0 hM n0 L0 A W vv fi oM rest v0 v1 ce sl ds.length ∧ D 0 = 0 ∧ YgF Z n0 h0 A K D W ds
theorem segH {f to pc pc' nD nD' ce' sl' : Nat} {orc : List Int32} {L L' : Array Slot} {st st' : List Value} {ds' : List AD} {ops : List Op} (hr : runIs (run (own_mc 33) own_MN_0 9 (1, 2, 4, 14) to f [] orc (pc, L, st, ds, nD, ce, sl)) (pc', L', st', ds', nD', ce', sl') ops = true) (H : LUH p l e s m args below meth c T0 Z a0 h0 hM n0 L0 A K D W vv fi oM rest v0 v1 ce sl ds) (hnD : 0 < nD) (h2 : 2 ≤ ds.length) (hv : okv ops nD D)
    (K_ : ∀ T1 h1 L1 A1 K1, LUH p l e s m args below meth c T1 Z a0 h1 hM n0 L1 A1 K1 (finD ops nD D) W vv fi oM rest v0 v1 ce' sl' ds' → Go p e below Ev T1 (mkF m pc' (dL A1 (finD ops nD D) W L') (st'.map (den A1 (finD ops nD D) W)))) : Go p e below Ev T0 (mkF m pc (dL A D W L) (st.map (den A D W))) := by
  obtain ⟨⟨XS, hx, hby, hml, hret, hlk, hown, hZ, hw, e0, Z0, N0, w0, w1, hvv, hfi, YM, KM, hf⟩, D0, Y⟩ := H
  refine seg (runIs_e hr) sc0 hw hx hby hml rfl hZ hown (own_okN_0 _ Z a0 hw) D0 hnD XS e0 Y N0 Z0 hv ?_
  intro T1 h1 L1 A1 K1 hA1 X1 e1 Y1 N1 Kp f1 n1
  obtain ⟨KM1, hf1⟩ := own_kp (n' := ds'.length) KM hf Kp hA1 f1
  exact K_ T1 h1 L1 A1 K1 ⟨⟨X1, hx, hby, hml, hret, hlk, hown, hZ, hw, e1, n1, N1, w0, w1, (hA1 1 (by omega)).1.trans hvv, (hA1 0 (by omega)).1.trans hfi, YM, KM1, hf1⟩, (finD_lt ops nD D hnD).trans D0, Y1⟩
theorem LUH.re {D' : Nat → UInt64} {ds' : List AD} (H : LUH p l e s m args below meth c T0 Z a0 h0 hM n0 L0 A K D W vv fi oM rest v0 v1 ce sl ds) (d0 : D' 0 = D 0) (e' : ds'.map (fun d => (d.1, d.2.1, d.2.2.map (den A D' W))) = ds.map (fun d => (d.1, d.2.1, d.2.2.map (den A D W)))) : LUH p l e s m args below meth c T0 Z a0 h0 hM n0 L0 A K D' W vv fi oM rest v0 v1 ce sl ds' := by
  obtain ⟨⟨XS, hx, hby, hml, hret, hlk, hown, hZ, hw, e0, Z0, N0, w0, w1, hvv, hfi, YM, KM, hf⟩, D0, Y⟩ := H
  have hl : ds'.length = ds.length := by simpa using congrArg List.length e'
  exact ⟨⟨XS, hx, hby, hml, hret, hlk, hown, hZ, hw, e0, Z0, N0, w0, w1, hvv, hfi, YM, KM, fun i hi => hf i (by omega)⟩, d0.trans D0, Y.congr e'⟩
theorem endH {Ls : Array Slot} {vs fv : List Value} {x0 x1 : UInt64} {X0 X1 : Int} (H : LUH p l e s m args below meth c T0 Z a0 h0 hM n0 L0 A K D W vv fi oM rest v0 v1 2 4 ds) (g12 : ds[12]? = some (65, 2, vs)) (gx : vs.map (den A D W) = [.double x0, .double x1]) (g1 : ds[1]? = some (65, 2, [vU 90, vU 91])) (g0 : ds[0]? = some (0, 0, fv)) (B : EHB E i0 i1 Y0 Y1) (f0 : DFix X0 6 x0) (f1 : DFix X1 6 x1) (b0 : -1125899906842624 ≤ X0 ∧ X0 ≤ 1125899906842624) (b1 : -1125899906842624 ≤ X1 ∧ X1 ≤ 1125899906842624) (m0 : M00 * X0 + M01 * X1 = 16 * Y0) (m1 : M10 * X0 + M11 * X1 = 16 * Y1) : Go p e below (EndQ s (Q_tm Z n0 vv fi rest v0 v1 M00 M01 M10 M11 E i0 i1) 2 4) T0 (mkF m 307 Ls [.ref (A 12)]) := by
  obtain ⟨⟨XS, hx, hby, hml, hret, hlk, hown, hZ, hw, e0, Z0, N0, w0, w1, hvv, hfi, YM, KM, hf⟩, D0, Y⟩ := H
  have hl : 12 < ds.length := (List.getElem?_eq_some_iff.mp g12).1
  have c12 := own_flg0 (A := A) (K := K) (D := D) (W := W) ((List.getElem?_set_ne (by decide : (0 : Nat) ≠ 12)).trans g12 : (ds.set 0 (0, 0, []))[12]? = _)
  have c1 := own_flg0 (A := A) (K := K) (D := D) (W := W) ((List.getElem?_set_ne (by decide : (0 : Nat) ≠ 1)).trans g1 : (ds.set 0 (0, 0, []))[1]? = _)
  have c0 := own_flg0 (A := A) (K := K) (D := D) (W := W) (List.getElem?_set_self (by omega) : (ds.set 0 (0, 0, []))[0]? = _)
  have Yp : Yf Z n0 h0 [(A 12, K 12, 65, 2, vs.map (den A D W)), (A 1, K 1, 65, 2, [W 90, W 91]), (A 0, K 0, 0, 0, [])] := Yf.pick (Y.bare 0 g0 (by decide)).fl [12, 1, 0] (by decide) (by
    simp only [List.map_cons, List.map_nil]
    rw [c12, c1, c0]
    all_goals rfl)
  rw [gx, w0, w1, hvv, hfi] at Yp
  have Yq := Yf.join YM Yp KM (fun o ho => by
    simp only [List.mem_cons, List.not_mem_nil, or_false] at ho
    rcases ho with rfl | rfl | rfl
    · exact hf 12 (by omega)
    · exact hvv ▸ hf 1 (by omega)
    · exact hfi ▸ hf 0 (by omega))
  exact g_retA XS hx hlk hret rfl rfl rfl (by rw [hby]; exact own_d307) (by decide) (by decide) e0 ⟨A 12, K 12, K 1, K 0, x0, x1, Y0, Y1, X0, X1, rfl, N0, Z0, Yq, B, f0, f1, b0, b1, m0, m1⟩
theorem tmG {la : Nat → Addr} {g : Nat → Value} {luo : List OB} (hw : HW a0 Z) (hlu : luo.map (·.1) = [la 0, la 1, la 2, la 3, la 4, la 5, la 6, la 7, la 8]) (F : ∀ {p : Program} {e : Env} {s : State} {m : MethodId} {args : Array Value} {below : List Frame} {meth : Method} {c : Code} {T1 : State} {h0 h1 : Heap} {L1 : List Loc} {A1 : Nat → Addr} {K1 : Nat → ClassId} {cnt : Int32} {oM rest : List OB} {vv fi : Addr} {x y y0 y1 : UInt64} {Y0 Y1 i0 i1 : Int} {E : Int → Int → Int → Int → Prop} (sh : Option (Int32 × UInt64 × Int32)), LUB p l e s m args below meth c T1 Z a0 h1 h0 n0 L1 (tmA A1 la) (tmW A1 x y cnt g) vv fi oM rest x y 1 2 12 → Yf Z n0 h1 ([(A1 7, K1 7, 65, 2, [.double y0, .double y1]), (A1 0, K1 0, 65, 2, [.double x, .double y]), (A1 1, K1 1, 0, 0, [tmL g la 0, tmL g la 1, tmL g la 2, tmL g la 3, tmL g la 4, tmL g la 5, tmL g la 6, tmL g la 7, .ref (A1 2), .ref (A1 3), .ref (A1 4), .ref (A1 5), .ref (A1 6), tmL g la 8, tmL g la 9, tmL g la 10, tmL g la 11, tmL g la 12, tmL g la 13, tmL g la 14, tmL g la 15, tmL g la 16, tmL g la 17, tmL g la 18, tmL g la 19, tmL g la 20, tmL g la 21, tmL g la 22, .int cnt])] ++ (luo ++ rest)) → EHB E i0 i1 Y0 Y1 → DFix Y0 2 y0 → DFix Y1 2 y1 → Go p e below (EndQ s (Q_tm Z n0 vv fi rest x y M00 M01 M10 M11 E i0 i1) 2 4) T1 (mkF m 101 #[.val (.ref (A1 1)), .val (.ref (A1 0)), .val (.ref (A1 7)), .val (.int (-1)), own_s4 sh, own_s5 sh, own_s6 sh, own_s7 sh, .unset] [])) : TmSpec l Z n0 M00 M01 M10 M11 (tmL g la) luo := by
  intro A K cnt er ep es eo ev ar1 ao1 ar2 ao2 E h0 D i0 i1 rest hR Z0 D0 h3 h4 h5 h6 d0 d1 b0 b1 YM
  unfold EtaRuns at hR
  refine own_met (own_plf (mn := 33) rfl own_pl_0) (own_ef (as := [vR 1, vR 0]) rfl A D (tmL g la)) ?_
  intro p e s m below meth c T0 X0 hx hby hml hret hlk hnm hown hZ e0
  refine goE (hR (A := A) (K := K) (D := D) (W := tmL g la) X0 hx hby hml hown hZ hw e0 Z0 D0 h3 h4 h5 h6 d0 d1 b0 b1 (Yf.to (Yf.pick (os' := own_fl A K D (tmL g la) 0 (dsE cnt er ep es eo ev)) YM [0, 1, 2, 3, 4, 5, 6] (by decide) rfl) rfl) ?_) rfl
  intro T1 h1 L1 A1 K1 y0 y1 Y0 Y1 sh hA1 X1 e1 Kp hsz YB N1 hn1 f0 f1 bY0 bY1 hE
  have a0' := (hA1 0 (by decide)).1
  have a1' := (hA1 1 (by decide)).1
  have YJ := Yf.join (os1 := own_fl A K D (tmL g la) 0 (dsE cnt er ep es eo ev)) (os2 := luo ++ rest) YM YB Kp (fun o ho => by
    simp only [List.mem_cons, List.not_mem_nil, or_false] at ho
    rcases ho with rfl | rfl | rfl
    · exact Or.inr hsz
    · exact Or.inl (show A1 0 ∈ [A 0, A 1, A 2, A 3, A 4, A 5, A 6] by rw [a0']; simp)
    · exact Or.inl (show A1 1 ∈ [A 0, A 1, A 2, A 3, A 4, A 5, A 6] by rw [a1']; simp))
  have eM : (own_fl A K D (tmL g la) 0 (dsE cnt er ep es eo ev) ++ luo).map (·.1) = [A 0, A 1, A 2, A 3, A 4, A 5, A 6] ++ [la 0, la 1, la 2, la 3, la 4, la 5, la 6, la 7, la 8] := by rw [List.map_append, hlu]; rfl
  have YM' : Yf Z n0 h0 ((own_fl A K D (tmL g la) 0 (dsE cnt er ep es eo ev) ++ luo) ++ rest) := by rw [List.append_assoc]; exact YM
  have KM : Keep h0 h1 ((own_fl A K D (tmL g la) 0 (dsE cnt er ep es eo ev) ++ luo).map (·.1)) := by
    rw [eM]
    exact (Keep.refl h0 _).trans Kp (fun x hx => Or.inl (List.mem_append_left _ (show x ∈ [A 0, A 1, A 2, A 3, A 4, A 5, A 6] from hx)))
  refine F (cnt := cnt) sh ⟨X1, hx, hby, hml, hret, hlk, hown, hZ, hw, e1, hn1, N1, rfl, rfl, a0', a1', YM', KM, ?_⟩ YJ ⟨hE, bY0, bY1⟩ f0 f1
  rw [eM]
  exact fun i hi => match i, hi with
    | 0, _ => Or.inl (show A1 1 ∈ [A 0, A 1, A 2, A 3, A 4, A 5, A 6] ++ [la 0, la 1, la 2, la 3, la 4, la 5, la 6, la 7, la 8] by rw [a1']; simp)
    | 1, _ => Or.inl (show A1 0 ∈ [A 0, A 1, A 2, A 3, A 4, A 5, A 6] ++ [la 0, la 1, la 2, la 3, la 4, la 5, la 6, la 7, la 8] by rw [a0']; simp)
    | 2, _ => Or.inr hsz
    | 3, _ => Or.inl (show la 0 ∈ [A 0, A 1, A 2, A 3, A 4, A 5, A 6] ++ [la 0, la 1, la 2, la 3, la 4, la 5, la 6, la 7, la 8] by simp)
    | 4, _ => Or.inl (show la 1 ∈ [A 0, A 1, A 2, A 3, A 4, A 5, A 6] ++ [la 0, la 1, la 2, la 3, la 4, la 5, la 6, la 7, la 8] by simp)
    | 5, _ => Or.inl (show la 2 ∈ [A 0, A 1, A 2, A 3, A 4, A 5, A 6] ++ [la 0, la 1, la 2, la 3, la 4, la 5, la 6, la 7, la 8] by simp)
    | 6, _ => Or.inl (show la 3 ∈ [A 0, A 1, A 2, A 3, A 4, A 5, A 6] ++ [la 0, la 1, la 2, la 3, la 4, la 5, la 6, la 7, la 8] by simp)
    | 7, _ => Or.inl (show la 4 ∈ [A 0, A 1, A 2, A 3, A 4, A 5, A 6] ++ [la 0, la 1, la 2, la 3, la 4, la 5, la 6, la 7, la 8] by simp)
    | 8, _ => Or.inl (show la 5 ∈ [A 0, A 1, A 2, A 3, A 4, A 5, A 6] ++ [la 0, la 1, la 2, la 3, la 4, la 5, la 6, la 7, la 8] by simp)
    | 9, _ => Or.inl (show la 6 ∈ [A 0, A 1, A 2, A 3, A 4, A 5, A 6] ++ [la 0, la 1, la 2, la 3, la 4, la 5, la 6, la 7, la 8] by simp)
    | 10, _ => Or.inl (show la 7 ∈ [A 0, A 1, A 2, A 3, A 4, A 5, A 6] ++ [la 0, la 1, la 2, la 3, la 4, la 5, la 6, la 7, la 8] by simp)
    | 11, _ => Or.inl (show la 8 ∈ [A 0, A 1, A 2, A 3, A 4, A 5, A 6] ++ [la 0, la 1, la 2, la 3, la 4, la 5, la 6, la 7, la 8] by simp)
def lud_00ul (a b : UInt64) : List AD := [(0, 0, [vU 0, vU 1, vR 7, vR 8, vR 10, vR 11] ++ uS 2 7 ++ [vI 2, vR 3, vR 4, vR 5, vU 9, vR 6, vR 9] ++ uS 10 9), (65, 2, [vU 90, vU 91]), (65, 2, [vD a, vD b]), (64, 2, [vI 0, vI 1]), (64, 2, [vI 0, vI 1]), (65, 2, [vD 3, vD 4]), (64, 3, [vI 0, vI 1, vI 1]), (64, 2, [vI 1, vI 0]), (65, 2, [vD 5, vD 0]), (64, 3, [vI 0, vI 0, vI 1]), (64, 2, [vI 0, vI 0]), (65, 2, [vD 6, vD 0])]
theorem f_00ul_1 : ∀ b7 : Bool, runIs (run (own_mc 33) own_MN_0 9 (1, 2, 4, 14) 124 17 [] [] (101, #[sR 0, sR 1, sR 2, sI (-1), (bif b7 then sF 8 else sU), (bif b7 then sD 7 else sU), (bif b7 then s2 else sU), (bif b7 then sF 9 else sU), sU], [], lud_00ul 1 2, 10, 1, 2)) (124, #[sR 0, sR 1, sR 2, sI 0, sD 1, s2, sU, (bif b7 then sF 9 else sU), sU], [vD 0, vD 1], lud_00ul 1 2, 10, 1, 2) [] = true := by decide +kernel
theorem f_00ul_2z : ∀ b7 : Bool, runIs (run (own_mc 33) own_MN_0 9 (1, 2, 4, 14) 103 5 [] [0] (124, #[sR 0, sR 1, sR 2, sI 0, sD 1, s2, sU, (bif b7 then sF 9 else sU), sU], [vD 0, vD 1], lud_00ul 1 2, 10, 1, 2)) (103, #[sR 0, sR 1, sR 2, sI 1, sD 1, s2, sU, (bif b7 then sF 9 else sU), sU], [], lud_00ul 1 2, 10, 1, 2) [(12, 1, 0, 0)] = true := by decide +kernel
theorem f_00ul_2n : ∀ b7 : Bool, runIs (run (own_mc 33) own_MN_0 9 (1, 2, 4, 14) 103 43 [] [1] (124, #[sR 0, sR 1, sR 2, sI 0, sD 1, s2, sU, (bif b7 then sF 9 else sU), sU], [vD 0, vD 1], lud_00ul 1 2, 10, 1, 2)) (103, #[sR 0, sR 1, sR 2, sI 1, sD 1, s2, sI 1, (bif b7 then sF 9 else sU), sU], [], lud_00ul 1 11, 12, 1, 2) [(12, 1, 0, 1), (2, 5, 1, 0), (1, 2, 10, 0)] = true := by decide +kernel
theorem f_00ul_3 : ∀ b6 b7 : Bool, runIs (run (own_mc 33) own_MN_0 9 (1, 2, 4, 14) 124 15 [] [] (103, #[sR 0, sR 1, sR 2, sI 1, sD 7, s2, (bif b6 then sI 1 else sU), (bif b7 then sF 9 else sU), sU], [], lud_00ul 1 2, 10, 1, 2)) (124, #[sR 0, sR 1, sR 2, sI 1, sD 2, s2, (bif b6 then sI 1 else sU), (bif b7 then sF 9 else sU), sU], [vD 0, vD 2], lud_00ul 1 2, 10, 1, 2) [] = true := by decide +kernel
theorem f_00ul_4z : ∀ b6 b7 : Bool, runIs (run (own_mc 33) own_MN_0 9 (1, 2, 4, 14) 183 9 [] [0] (124, #[sR 0, sR 1, sR 2, sI 1, sD 2, s2, (bif b6 then sI 1 else sU), (bif b7 then sF 9 else sU), sU], [vD 0, vD 2], lud_00ul 1 2, 10, 1, 2)) (183, #[sR 0, sR 1, sR 2, sI 2, sD 2, s2, (bif b6 then sI 1 else sU), (bif b7 then sF 9 else sU), sU], [], lud_00ul 1 2, 10, 1, 2) [(12, 2, 0, 0)] = true := by decide +kernel
theorem f_00ul_4n : ∀ b6 b7 : Bool, runIs (run (own_mc 33) own_MN_0 9 (1, 2, 4, 14) 183 22 [] [1] (124, #[sR 0, sR 1, sR 2, sI 1, sD 2, s2, (bif b6 then sI 1 else sU), (bif b7 then sF 9 else sU), sU], [vD 0, vD 2], lud_00ul 1 2, 10, 1, 2)) (183, #[sR 0, sR 1, sR 2, sI 2, sD 2, s2, sI 1, (bif b7 then sF 9 else sU), sU], [], lud_00ul 1 2, 10, 1, 2) [(12, 2, 0, 1)] = true := by decide +kernel
theorem f_00ul_5 : ∀ b6 b7 : Bool, runIs (run (own_mc 33) own_MN_0 9 (1, 2, 4, 14) 240 36 [] [] (183, #[sR 0, sR 1, sR 2, sI 2, sD 7, s2, (bif b6 then sI 1 else sU), (bif b7 then sF 9 else sU), sU], [], lud_00ul 1 2, 10, 1, 2)) (240, #[sR 0, sR 1, sR 2, sR 12, sI 1, sI 1, sD 10, s2, sU], [vD 0, vD 10], lud_00ul 1 2 ++ [(65, 2, [vD 0, vD 10])], 11, 2, 4) [(3, 2, 4, 0)] = true := by decide +kernel
theorem f_00ul_6z : runIs (run (own_mc 33) own_MN_0 9 (1, 2, 4, 14) 198 5 [] [0] (240, #[sR 0, sR 1, sR 2, sR 12, sI 1, sI 1, sD 7, s2, sU], [vD 0, vD 7], lud_00ul 1 2 ++ [(65, 2, [vD 0, vD 7])], 10, 2, 4)) (198, #[sR 0, sR 1, sR 2, sR 12, sI 0, sI 1, sD 7, s2, sU], [], lud_00ul 1 2 ++ [(65, 2, [vD 0, vD 7])], 10, 2, 4) [(12, 7, 0, 0)] = true := by decide +kernel
theorem f_00ul_6n : runIs (run (own_mc 33) own_MN_0 9 (1, 2, 4, 14) 198 46 [] [1] (240, #[sR 0, sR 1, sR 2, sR 12, sI 1, sI 1, sD 7, s2, sU], [vD 0, vD 7], lud_00ul 1 2 ++ [(65, 2, [vD 0, vD 7])], 10, 2, 4)) (198, #[sR 0, sR 1, sR 2, sR 12, sI 0, sI 1, sD 7, s2, sI 1], [], lud_00ul 11 2 ++ [(65, 2, [vD 0, vD 7])], 12, 2, 4) [(12, 7, 0, 1), (2, 6, 7, 0), (1, 1, 10, 0)] = true := by decide +kernel
theorem f_00ul_7 : ∀ b8 : Bool, runIs (run (own_mc 33) own_MN_0 9 (1, 2, 4, 14) 240 27 [] [] (198, #[sR 0, sR 1, sR 2, sR 12, sI 0, sI 1, sD 7, s2, (bif b8 then sI 1 else sU)], [], lud_00ul 1 2 ++ [(65, 2, [vD 0, vD 7])], 10, 2, 4)) (240, #[sR 0, sR 1, sR 2, sR 12, sI 0, sI 0, sD 10, s2, (bif b8 then sI 1 else sU)], [vD 0, vD 10], lud_00ul 1 2 ++ [(65, 2, [vD 10, vD 7])], 11, 2, 4) [(3, 1, 3, 0)] = true := by decide +kernel
theorem f_00ul_8z : ∀ b8 : Bool, runIs (run (own_mc 33) own_MN_0 9 (1, 2, 4, 14) 1000000 8 [] [0] (240, #[sR 0, sR 1, sR 2, sR 12, sI 0, sI 0, sD 10, s2, (bif b8 then sI 1 else sU)], [vD 0, vD 10], lud_00ul 1 2 ++ [(65, 2, [vD 10, vD 7])], 11, 2, 4)) (307, #[sR 0, sR 1, sR 2, sR 12, sI (-1), sI 0, sD 10, s2, (bif b8 then sI 1 else sU)], [vR 12], lud_00ul 1 2 ++ [(65, 2, [vD 10, vD 7])], 11, 2, 4) [(12, 10, 0, 0)] = true := by decide +kernel
theorem f_00ul_8n : ∀ b8 : Bool, runIs (run (own_mc 33) own_MN_0 9 (1, 2, 4, 14) 1000000 21 [] [1] (240, #[sR 0, sR 1, sR 2, sR 12, sI 0, sI 0, sD 10, s2, (bif b8 then sI 1 else sU)], [vD 0, vD 10], lud_00ul 1 2 ++ [(65, 2, [vD 10, vD 7])], 11, 2, 4)) (307, #[sR 0, sR 1, sR 2, sR 12, sI (-1), sI 0, sD 10, s2, sI 0], [vR 12], lud_00ul 1 2 ++ [(65, 2, [vD 10, vD 7])], 11, 2, 4) [(12, 10, 0, 1)] = true := by decide +kernel
theorem lu_00ul_E {Xv : Int} (b8 : Bool) (H : LUH p l e s m args below meth c T0 Z a0 h0 hM n0 L0 A K D W vv fi oM rest v0 v1 2 4 (lud_00ul 1 2 ++ [(65, 2, [vD 0, vD 7])])) (S : SEH (DFix u 0 (D 6)) (DFix L 1 (D 5)) a u L Dd M00 M01 M10 M11 (D 3) (D 4)) (B : EHB E i0 i1 Y0 Y1) (hI : Iv = 2 * Y1 - L * Y0) (hX : Xv * Dd = 8 * Iv) (bX : -211106232532992 ≤ Xv ∧ Xv ≤ 211106232532992) (fx : DFix Xv 5 (D 7)) (fy : DFix (8 * Y0 - u * Xv) 5 (D 1)) : Go p e below (EndQ s (Q_tm Z n0 vv fi rest v0 v1 M00 M01 M10 M11 E i0 i1) 2 4) T0 (mkF m 198 (dL A D W #[sR 0, sR 1, sR 2, sR 12, sI 0, sI 1, sD 7, s2, (bif b8 then sI 1 else sU)]) []) := by
  obtain ⟨X0, F0, F1, bX0, G0, G1⟩ := own_arE S B.2.1 hI hX bX fx fy
  refine segH (f_00ul_7 b8) H (by decide) (by decide) ⟨own_fixnn F0, trivial⟩ ?_
  intro T1 h1 L1 A1 K1 H1
  rcases own_dzD F0 H.2.1 with ⟨hz, hc⟩ | ⟨hz, hc⟩
  · refine segH (f_00ul_8z b8) H1 (by decide) (by decide) ⟨hc, trivial⟩ ?_
    intro T2 h2 L2 A2 K2 H2
    exact goE (endH H2 rfl rfl rfl rfl B F0 F1 bX0 (by omega) G0 G1) rfl
  · refine segH (f_00ul_8n b8) H1 (by decide) (by decide) ⟨hc, trivial⟩ ?_
    intro T2 h2 L2 A2 K2 H2
    exact goE (endH H2 rfl rfl rfl rfl B F0 F1 bX0 (by omega) G0 G1) rfl
theorem lu_00ul_U  (b6 : Bool) (b7 : Bool) (H : LUH p l e s m args below meth c T0 Z a0 h0 hM n0 L0 A K D W vv fi oM rest v0 v1 1 2 (lud_00ul 1 2)) (S : SEH (DFix u 0 (D 6)) (DFix L 1 (D 5)) a u L Dd M00 M01 M10 M11 (D 3) (D 4)) (B : EHB E i0 i1 Y0 Y1) (hI : Iv = 2 * Y1 - L * Y0) (fy : DFix Y0 2 (D 1)) (fz : DFix Iv 3 (D 2)) : Go p e below (EndQ s (Q_tm Z n0 vv fi rest v0 v1 M00 M01 M10 M11 E i0 i1) 2 4) T0 (mkF m 183 (dL A D W #[sR 0, sR 1, sR 2, sI 2, sD 7, s2, (bif b6 then sI 1 else sU), (bif b7 then sF 9 else sU), sU]) []) := by
  obtain ⟨Xv, hX, bX, fx, fy5, hu⟩ := own_arU S B.2.1 B.2.2 hI fy fz
  obtain ⟨fp, fs⟩ := hu _ S.2.2.2.2.2.1
  refine segH (f_00ul_5 b6 b7) H (by decide) (by decide) ⟨own_fixnn fx, trivial⟩ ?_
  intro T1 h1 L1 A1 K1 H1
  rcases own_dzD fx H.2.1 with ⟨hz, hc⟩ | ⟨hz, hc⟩
  · refine goE (segH (f_00ul_6z) (H1.re (D' := (own_D [(D 0), (D 1), (D 2), (D 3), (D 4), (D 5), (D 6), (FP.ddiv (D 2) (D 4)), (D 8), (D 9)])) rfl rfl) (by decide) (by decide) ⟨hc, trivial⟩ ?_) rfl
    intro T2 h2 L2 A2 K2 H2
    exact goE (lu_00ul_E (D := (own_D [(D 0), (D 1), (D 2), (D 3), (D 4), (D 5), (D 6), (FP.ddiv (D 2) (D 4)), (D 8), (D 9)])) false (H2.re rfl rfl) S B hI hX bX fx (by rw [show 8 * Y0 - u * Xv = 8 * Y0 by rw [hz, Int.mul_zero]; omega]; exact fy5)) rfl
  · refine goE (segH (f_00ul_6n) (H1.re (D' := (own_D [(D 0), (D 1), (D 2), (D 3), (D 4), (D 5), (D 6), (FP.ddiv (D 2) (D 4)), (D 8), (D 9)])) rfl rfl) (by decide) (by decide) ⟨hc, own_fixnn fp, own_fixnn fs, trivial⟩ ?_) rfl
    intro T2 h2 L2 A2 K2 H2
    exact goE (lu_00ul_E (D := (own_D [(D 0), (FP.dsub (D 1) (FP.dmul (D 6) (FP.ddiv (D 2) (D 4)))), (D 2), (D 3), (D 4), (D 5), (D 6), (FP.ddiv (D 2) (D 4)), (D 8), (D 9)])) true (H2.re rfl rfl) S B hI hX bX fx fs) rfl
theorem lu_00ul_L1  (b6 : Bool) (b7 : Bool) (H : LUH p l e s m args below meth c T0 Z a0 h0 hM n0 L0 A K D W vv fi oM rest v0 v1 1 2 (lud_00ul 1 2)) (S : SEH (DFix u 0 (D 6)) (DFix L 1 (D 5)) a u L Dd M00 M01 M10 M11 (D 3) (D 4)) (B : EHB E i0 i1 Y0 Y1) (hI : Iv = 2 * Y1 - L * Y0) (fy : DFix Y0 2 (D 1)) (fz : DFix Iv 3 (D 2)) : Go p e below (EndQ s (Q_tm Z n0 vv fi rest v0 v1 M00 M01 M10 M11 E i0 i1) 2 4) T0 (mkF m 103 (dL A D W #[sR 0, sR 1, sR 2, sI 1, sD 7, s2, (bif b6 then sI 1 else sU), (bif b7 then sF 9 else sU), sU]) []) := by
  refine segH (f_00ul_3 b6 b7) H (by decide) (by decide) trivial ?_
  intro T1 h1 L1 A1 K1 H1
  rcases own_dzD fz H.2.1 with ⟨hz, hc⟩ | ⟨hz, hc⟩
  · refine segH (f_00ul_4z b6 b7) H1 (by decide) (by decide) ⟨hc, trivial⟩ ?_
    intro T2 h2 L2 A2 K2 H2
    exact goE (lu_00ul_U (D := (own_D [(D 0), (D 1), (D 2), (D 3), (D 4), (D 5), (D 6), (D 2), (D 8), (D 9)])) b6 b7 (H2.re rfl rfl) S B hI fy fz) (by cases b6 <;> cases b7 <;> rfl)
  · refine segH (f_00ul_4n b6 b7) H1 (by decide) (by decide) ⟨hc, trivial⟩ ?_
    intro T2 h2 L2 A2 K2 H2
    exact goE (lu_00ul_U (D := (own_D [(D 0), (D 1), (D 2), (D 3), (D 4), (D 5), (D 6), (D 2), (D 8), (D 9)])) true b7 (H2.re rfl rfl) S B hI fy fz) (by cases b7 <;> rfl)
theorem lu_00ul_L0  (b7 : Bool) (H : LUH p l e s m args below meth c T0 Z a0 h0 hM n0 L0 A K D W vv fi oM rest v0 v1 1 2 (lud_00ul 1 2)) (S : SEH (DFix u 0 (D 6)) (DFix L 1 (D 5)) a u L Dd M00 M01 M10 M11 (D 3) (D 4)) (B : EHB E i0 i1 Y0 Y1) (f0_ : DFix Y0 2 (D 1)) (f1_ : DFix Y1 2 (D 2)) : Go p e below (EndQ s (Q_tm Z n0 vv fi rest v0 v1 M00 M01 M10 M11 E i0 i1) 2 4) T0 (mkF m 101 (dL A D W #[sR 0, sR 1, sR 2, sI (-1), (bif b7 then sF 8 else sU), (bif b7 then sD 7 else sU), (bif b7 then s2 else sU), (bif b7 then sF 9 else sU), sU]) []) := by
  obtain ⟨fz3, hl⟩ := own_arL S B.2.1 B.2.2 f0_ f1_
  obtain ⟨fp, fs⟩ := hl _ S.2.2.2.2.2.2.1
  refine segH (f_00ul_1 b7) H (by decide) (by decide) trivial ?_
  intro T1 h1 L1 A1 K1 H1
  rcases own_dzD f0_ H.2.1 with ⟨hz, hc⟩ | ⟨hz, hc⟩
  · refine segH (f_00ul_2z b7) H1 (by decide) (by decide) ⟨hc, trivial⟩ ?_
    intro T2 h2 L2 A2 K2 H2
    exact goE (lu_00ul_L1 (Iv := 2 * Y1 - L * Y0) (D := (own_D [(D 0), (D 1), (D 2), (D 3), (D 4), (D 5), (D 6), (D 1), (D 8), (D 9)])) false b7 (H2.re rfl rfl) S B rfl f0_ (by rw [show 2 * Y1 - L * Y0 = 2 * Y1 by rw [hz, Int.mul_zero]; omega]; exact fz3)) (by cases b7 <;> rfl)
  · refine segH (f_00ul_2n b7) H1 (by decide) (by decide) ⟨hc, own_fixnn fp, own_fixnn fs, trivial⟩ ?_
    intro T2 h2 L2 A2 K2 H2
    exact goE (lu_00ul_L1 (Iv := 2 * Y1 - L * Y0) (D := (own_D [(D 0), (D 1), (FP.dsub (D 2) (FP.dmul (D 5) (D 1))), (D 3), (D 4), (D 5), (D 6), (D 1), (D 8), (D 9)])) true b7 (H2.re rfl rfl) S B rfl f0_ fs) (by cases b7 <;> rfl)
def luo_00ul (la : Nat → Addr) (kl : Nat → ClassId) (pv0 pv1 lv uv : UInt64) : List OB := [(la 0, kl 0, 64, 2, [.int 0, .int 1]), (la 1, kl 1, 64, 2, [.int 0, .int 1]), (la 2, kl 2, 65, 2, [.double pv0, .double pv1]), (la 3, kl 3, 64, 3, [.int 0, .int 1, .int 1]), (la 4, kl 4, 64, 2, [.int 1, .int 0]), (la 5, kl 5, 65, 2, [.double lv, .double 0]), (la 6, kl 6, 64, 3, [.int 0, .int 0, .int 1]), (la 7, kl 7, 64, 2, [.int 0, .int 0]), (la 8, kl 8, 65, 2, [.double uv, .double 0])]
theorem tm_00ul (hw : HW a0 Z) {la : Nat → Addr} {kl : Nat → ClassId} {g : Nat → Value} {pv0 pv1 lv uv : UInt64} (S : SEH (DFix u 0 uv) (DFix L 1 lv) a u L Dd M00 M01 M10 M11 pv0 pv1) : TmSpec l Z n0 M00 M01 M10 M11 (tmL g la) (luo_00ul la kl pv0 pv1 lv uv) := by
  refine tmG hw rfl ?_
  intro p e s m args below meth c T1 h0 h1 L1 A1 K1 cnt oM rest vv fi x y y0 y1 Y0 Y1 i0 i1 E sh G YJ B f0 f1
  rcases sh with _ | ⟨n4, x5, n7⟩
  · exact goE (lu_00ul_L0 (K := tmK K1 kl) (D := (own_D [0, y0, y1, pv0, pv1, lv, uv, 0, 0, 0])) false ⟨G, rfl, Yf.to (Yf.pick (os' := own_fl (tmA A1 la) (tmK K1 kl) (own_D [0, y0, y1, pv0, pv1, lv, uv, 0, 0, 0]) (tmW A1 x y cnt g) 0 (lud_00ul 1 2)) YJ [2, 1, 0, 3, 4, 5, 6, 7, 8, 9, 10, 11] (by decide) rfl) rfl⟩ S B f0 f1) rfl
  · obtain ⟨w4, rfl⟩ : ∃ w, iW w = n4 := ⟨_, own_iw n4⟩
    obtain ⟨w7, rfl⟩ : ∃ w, iW w = n7 := ⟨_, own_iw n7⟩
    exact goE (lu_00ul_L0 (K := tmK K1 kl) (D := (own_D [0, y0, y1, pv0, pv1, lv, uv, x5, w4, w7])) true ⟨G, rfl, Yf.to (Yf.pick (os' := own_fl (tmA A1 la) (tmK K1 kl) (own_D [0, y0, y1, pv0, pv1, lv, uv, x5, w4, w7]) (tmW A1 x y cnt g) 0 (lud_00ul 1 2)) YJ [2, 1, 0, 3, 4, 5, 6, 7, 8, 9, 10, 11] (by decide) rfl) rfl⟩ S B f0 f1) rfl
def lud_10u (a b : UInt64) : List AD := [(0, 0, [vU 0, vU 1, vR 7, vR 8, vR 10, vR 11] ++ uS 2 7 ++ [vI 2, vR 3, vR 4, vR 5, vU 9, vR 6, vR 9] ++ uS 10 9), (65, 2, [vU 90, vU 91]), (65, 2, [vD a, vD b]), (64, 2, [vI 1, vI 0]), (64, 2, [vI 0, vI 1]), (65, 2, [vD 3, vD 4]), (64, 3, [vI 0, vI 0, vI 0]), (64, 0, []), (65, 0, []), (64, 3, [vI 0, vI 0, vI 1]), (64, 2, [vI 0, vI 0]), (65, 2, [vD 6, vD 0])]
theorem f_10u_1 : ∀ b7 : Bool, runIs (run (own_mc 33) own_MN_0 9 (1, 2, 4, 14) 124 17 [] [] (101, #[sR 0, sR 1, sR 2, sI (-1), (bif b7 then sF 8 else sU), (bif b7 then sD 7 else sU), (bif b7 then s2 else sU), (bif b7 then sF 9 else sU), sU], [], lud_10u 1 2, 10, 1, 2)) (124, #[sR 0, sR 1, sR 2, sI 0, sD 2, s2, sU, (bif b7 then sF 9 else sU), sU], [vD 0, vD 2], lud_10u 1 2, 10, 1, 2) [] = true := by decide +kernel
theorem f_10u_2z : ∀ b7 : Bool, runIs (run (own_mc 33) own_MN_0 9 (1, 2, 4, 14) 103 5 [] [0] (124, #[sR 0, sR 1, sR 2, sI 0, sD 2, s2, sU, (bif b7 then sF 9 else sU), sU], [vD 0, vD 2], lud_10u 1 2, 10, 1, 2)) (103, #[sR 0, sR 1, sR 2, sI 1, sD 2, s2, sU, (bif b7 then sF 9 else sU), sU], [], lud_10u 1 2, 10, 1, 2) [(12, 2, 0, 0)] = true := by decide +kernel
theorem f_10u_2n : ∀ b7 : Bool, runIs (run (own_mc 33) own_MN_0 9 (1, 2, 4, 14) 103 18 [] [1] (124, #[sR 0, sR 1, sR 2, sI 0, sD 2, s2, sU, (bif b7 then sF 9 else sU), sU], [vD 0, vD 2], lud_10u 1 2, 10, 1, 2)) (103, #[sR 0, sR 1, sR 2, sI 1, sD 2, s2, sI 0, (bif b7 then sF 9 else sU), sU], [], lud_10u 1 2, 10, 1, 2) [(12, 2, 0, 1)] = true := by decide +kernel
theorem f_10u_3 : ∀ b6 b7 : Bool, runIs (run (own_mc 33) own_MN_0 9 (1, 2, 4, 14) 124 15 [] [] (103, #[sR 0, sR 1, sR 2, sI 1, sD 7, s2, (bif b6 then sI 0 else sU), (bif b7 then sF 9 else sU), sU], [], lud_10u 1 2, 10, 1, 2)) (124, #[sR 0, sR 1, sR 2, sI 1, sD 1, s2, (bif b6 then sI 0 else sU), (bif b7 then sF 9 else sU), sU], [vD 0, vD 1], lud_10u 1 2, 10, 1, 2) [] = true := by decide +kernel
theorem f_10u_4z : ∀ b6 b7 : Bool, runIs (run (own_mc 33) own_MN_0 9 (1, 2, 4, 14) 183 9 [] [0] (124, #[sR 0, sR 1, sR 2, sI 1, sD 1, s2, (bif b6 then sI 0 else sU), (bif b7 then sF 9 else sU), sU], [vD 0, vD 1], lud_10u 1 2, 10, 1, 2)) (183, #[sR 0, sR 1, sR 2, sI 2, sD 1, s2, (bif b6 then sI 0 else sU), (bif b7 then sF 9 else sU), sU], [], lud_10u 1 2, 10, 1, 2) [(12, 1, 0, 0)] = true := by decide +kernel
theorem f_10u_4n : ∀ b6 b7 : Bool, runIs (run (own_mc 33) own_MN_0 9 (1, 2, 4, 14) 183 22 [] [1] (124, #[sR 0, sR 1, sR 2, sI 1, sD 1, s2, (bif b6 then sI 0 else sU), (bif b7 then sF 9 else sU), sU], [vD 0, vD 1], lud_10u 1 2, 10, 1, 2)) (183, #[sR 0, sR 1, sR 2, sI 2, sD 1, s2, sI 0, (bif b7 then sF 9 else sU), sU], [], lud_10u 1 2, 10, 1, 2) [(12, 1, 0, 1)] = true := by decide +kernel
theorem f_10u_5 : ∀ b6 b7 : Bool, runIs (run (own_mc 33) own_MN_0 9 (1, 2, 4, 14) 240 36 [] [] (183, #[sR 0, sR 1, sR 2, sI 2, sD 7, s2, (bif b6 then sI 0 else sU), (bif b7 then sF 9 else sU), sU], [], lud_10u 1 2, 10, 1, 2)) (240, #[sR 0, sR 1, sR 2, sR 12, sI 1, sI 1, sD 10, s2, sU], [vD 0, vD 10], lud_10u 1 2 ++ [(65, 2, [vD 0, vD 10])], 11, 2, 4) [(3, 1, 4, 0)] = true := by decide +kernel
theorem f_10u_6z : runIs (run (own_mc 33) own_MN_0 9 (1, 2, 4, 14) 198 5 [] [0] (240, #[sR 0, sR 1, sR 2, sR 12, sI 1, sI 1, sD 7, s2, sU], [vD 0, vD 7], lud_10u 1 2 ++ [(65, 2, [vD 0, vD 7])], 10, 2, 4)) (198, #[sR 0, sR 1, sR 2, sR 12, sI 0, sI 1, sD 7, s2, sU], [], lud_10u 1 2 ++ [(65, 2, [vD 0, vD 7])], 10, 2, 4) [(12, 7, 0, 0)] = true := by decide +kernel
theorem f_10u_6n : runIs (run (own_mc 33) own_MN_0 9 (1, 2, 4, 14) 198 46 [] [1] (240, #[sR 0, sR 1, sR 2, sR 12, sI 1, sI 1, sD 7, s2, sU], [vD 0, vD 7], lud_10u 1 2 ++ [(65, 2, [vD 0, vD 7])], 10, 2, 4)) (198, #[sR 0, sR 1, sR 2, sR 12, sI 0, sI 1, sD 7, s2, sI 1], [], lud_10u 1 11 ++ [(65, 2, [vD 0, vD 7])], 12, 2, 4) [(12, 7, 0, 1), (2, 6, 7, 0), (1, 2, 10, 0)] = true := by decide +kernel
theorem f_10u_7 : ∀ b8 : Bool, runIs (run (own_mc 33) own_MN_0 9 (1, 2, 4, 14) 240 27 [] [] (198, #[sR 0, sR 1, sR 2, sR 12, sI 0, sI 1, sD 7, s2, (bif b8 then sI 1 else sU)], [], lud_10u 1 2 ++ [(65, 2, [vD 0, vD 7])], 10, 2, 4)) (240, #[sR 0, sR 1, sR 2, sR 12, sI 0, sI 0, sD 10, s2, (bif b8 then sI 1 else sU)], [vD 0, vD 10], lud_10u 1 2 ++ [(65, 2, [vD 10, vD 7])], 11, 2, 4) [(3, 2, 3, 0)] = true := by decide +kernel
theorem f_10u_8z : ∀ b8 : Bool, runIs (run (own_mc 33) own_MN_0 9 (1, 2, 4, 14) 1000000 8 [] [0] (240, #[sR 0, sR 1, sR 2, sR 12, sI 0, sI 0, sD 10, s2, (bif b8 then sI 1 else sU)], [vD 0, vD 10], lud_10u 1 2 ++ [(65, 2, [vD 10, vD 7])], 11, 2, 4)) (307, #[sR 0, sR 1, sR 2, sR 12, sI (-1), sI 0, sD 10, s2, (bif b8 then sI 1 else sU)], [vR 12], lud_10u 1 2 ++ [(65, 2, [vD 10, vD 7])], 11, 2, 4) [(12, 10, 0, 0)] = true := by decide +kernel
theorem f_10u_8n : ∀ b8 : Bool, runIs (run (own_mc 33) own_MN_0 9 (1, 2, 4, 14) 1000000 21 [] [1] (240, #[sR 0, sR 1, sR 2, sR 12, sI 0, sI 0, sD 10, s2, (bif b8 then sI 1 else sU)], [vD 0, vD 10], lud_10u 1 2 ++ [(65, 2, [vD 10, vD 7])], 11, 2, 4)) (307, #[sR 0, sR 1, sR 2, sR 12, sI (-1), sI 0, sD 10, s2, sI 0], [vR 12], lud_10u 1 2 ++ [(65, 2, [vD 10, vD 7])], 11, 2, 4) [(12, 10, 0, 1)] = true := by decide +kernel
theorem lu_10u_E {Xv : Int} (b8 : Bool) (H : LUH p l e s m args below meth c T0 Z a0 h0 hM n0 L0 A K D W vv fi oM rest v0 v1 2 4 (lud_10u 1 2 ++ [(65, 2, [vD 0, vD 7])])) (S : SEH (DFix u 0 (D 6)) (L = 0) a u L Dd M10 M11 M00 M01 (D 3) (D 4)) (B : EHB E i0 i1 Y0 Y1) (hI : Iv = 2 * Y0 - L * Y1) (hX : Xv * Dd = 8 * Iv) (bX : -211106232532992 ≤ Xv ∧ Xv ≤ 211106232532992) (fx : DFix Xv 5 (D 7)) (fy : DFix (8 * Y1 - u * Xv) 5 (D 2)) : Go p e below (EndQ s (Q_tm Z n0 vv fi rest v0 v1 M00 M01 M10 M11 E i0 i1) 2 4) T0 (mkF m 198 (dL A D W #[sR 0, sR 1, sR 2, sR 12, sI 0, sI 1, sD 7, s2, (bif b8 then sI 1 else sU)]) []) := by
  obtain ⟨X0, F0, F1, bX0, G0, G1⟩ := own_arE S B.2.2 hI hX bX fx fy
  refine segH (f_10u_7 b8) H (by decide) (by decide) ⟨own_fixnn F0, trivial⟩ ?_
  intro T1 h1 L1 A1 K1 H1
  rcases own_dzD F0 H.2.1 with ⟨hz, hc⟩ | ⟨hz, hc⟩
  · refine segH (f_10u_8z b8) H1 (by decide) (by decide) ⟨hc, trivial⟩ ?_
    intro T2 h2 L2 A2 K2 H2
    exact goE (endH H2 rfl rfl rfl rfl B F0 F1 bX0 (by omega) G1 G0) rfl
  · refine segH (f_10u_8n b8) H1 (by decide) (by decide) ⟨hc, trivial⟩ ?_
    intro T2 h2 L2 A2 K2 H2
    exact goE (endH H2 rfl rfl rfl rfl B F0 F1 bX0 (by omega) G1 G0) rfl
theorem lu_10u_U  (b6 : Bool) (b7 : Bool) (H : LUH p l e s m args below meth c T0 Z a0 h0 hM n0 L0 A K D W vv fi oM rest v0 v1 1 2 (lud_10u 1 2)) (S : SEH (DFix u 0 (D 6)) (L = 0) a u L Dd M10 M11 M00 M01 (D 3) (D 4)) (B : EHB E i0 i1 Y0 Y1) (hI : Iv = 2 * Y0 - L * Y1) (fy : DFix Y1 2 (D 2)) (fz : DFix Iv 3 (D 1)) : Go p e below (EndQ s (Q_tm Z n0 vv fi rest v0 v1 M00 M01 M10 M11 E i0 i1) 2 4) T0 (mkF m 183 (dL A D W #[sR 0, sR 1, sR 2, sI 2, sD 7, s2, (bif b6 then sI 0 else sU), (bif b7 then sF 9 else sU), sU]) []) := by
  obtain ⟨Xv, hX, bX, fx, fy5, hu⟩ := own_arU S B.2.2 B.2.1 hI fy fz
  obtain ⟨fp, fs⟩ := hu _ S.2.2.2.2.2.1
  refine segH (f_10u_5 b6 b7) H (by decide) (by decide) ⟨own_fixnn fx, trivial⟩ ?_
  intro T1 h1 L1 A1 K1 H1
  rcases own_dzD fx H.2.1 with ⟨hz, hc⟩ | ⟨hz, hc⟩
  · refine goE (segH (f_10u_6z) (H1.re (D' := (own_D [(D 0), (D 1), (D 2), (D 3), (D 4), (D 5), (D 6), (FP.ddiv (D 1) (D 4)), (D 8), (D 9)])) rfl rfl) (by decide) (by decide) ⟨hc, trivial⟩ ?_) rfl
    intro T2 h2 L2 A2 K2 H2
    exact goE (lu_10u_E (D := (own_D [(D 0), (D 1), (D 2), (D 3), (D 4), (D 5), (D 6), (FP.ddiv (D 1) (D 4)), (D 8), (D 9)])) false (H2.re rfl rfl) S B hI hX bX fx (by rw [show 8 * Y1 - u * Xv = 8 * Y1 by rw [hz, Int.mul_zero]; omega]; exact fy5)) rfl
  · refine goE (segH (f_10u_6n) (H1.re (D' := (own_D [(D 0), (D 1), (D 2), (D 3), (D 4), (D 5), (D 6), (FP.ddiv (D 1) (D 4)), (D 8), (D 9)])) rfl rfl) (by decide) (by decide) ⟨hc, own_fixnn fp, own_fixnn fs, trivial⟩ ?_) rfl
    intro T2 h2 L2 A2 K2 H2
    exact goE (lu_10u_E (D := (own_D [(D 0), (D 1), (FP.dsub (D 2) (FP.dmul (D 6) (FP.ddiv (D 1) (D 4)))), (D 3), (D 4), (D 5), (D 6), (FP.ddiv (D 1) (D 4)), (D 8), (D 9)])) true (H2.re rfl rfl) S B hI hX bX fx fs) rfl
theorem lu_10u_L1  (b6 : Bool) (b7 : Bool) (H : LUH p l e s m args below meth c T0 Z a0 h0 hM n0 L0 A K D W vv fi oM rest v0 v1 1 2 (lud_10u 1 2)) (S : SEH (DFix u 0 (D 6)) (L = 0) a u L Dd M10 M11 M00 M01 (D 3) (D 4)) (B : EHB E i0 i1 Y0 Y1) (hI : Iv = 2 * Y0 - L * Y1) (fy : DFix Y1 2 (D 2)) (fz : DFix Iv 3 (D 1)) : Go p e below (EndQ s (Q_tm Z n0 vv fi rest v0 v1 M00 M01 M10 M11 E i0 i1) 2 4) T0 (mkF m 103 (dL A D W #[sR 0, sR 1, sR 2, sI 1, sD 7, s2, (bif b6 then sI 0 else sU), (bif b7 then sF 9 else sU), sU]) []) := by
  refine segH (f_10u_3 b6 b7) H (by decide) (by decide) trivial ?_
  intro T1 h1 L1 A1 K1 H1
  rcases own_dzD fz H.2.1 with ⟨hz, hc⟩ | ⟨hz, hc⟩
  · refine segH (f_10u_4z b6 b7) H1 (by decide) (by decide) ⟨hc, trivial⟩ ?_
    intro T2 h2 L2 A2 K2 H2
    exact goE (lu_10u_U (D := (own_D [(D 0), (D 1), (D 2), (D 3), (D 4), (D 5), (D 6), (D 1), (D 8), (D 9)])) b6 b7 (H2.re rfl rfl) S B hI fy fz) (by cases b6 <;> cases b7 <;> rfl)
  · refine segH (f_10u_4n b6 b7) H1 (by decide) (by decide) ⟨hc, trivial⟩ ?_
    intro T2 h2 L2 A2 K2 H2
    exact goE (lu_10u_U (D := (own_D [(D 0), (D 1), (D 2), (D 3), (D 4), (D 5), (D 6), (D 1), (D 8), (D 9)])) true b7 (H2.re rfl rfl) S B hI fy fz) (by cases b7 <;> rfl)
theorem lu_10u_L0  (b7 : Bool) (H : LUH p l e s m args below meth c T0 Z a0 h0 hM n0 L0 A K D W vv fi oM rest v0 v1 1 2 (lud_10u 1 2)) (S : SEH (DFix u 0 (D 6)) (L = 0) a u L Dd M10 M11 M00 M01 (D 3) (D 4)) (B : EHB E i0 i1 Y0 Y1) (f0_ : DFix Y0 2 (D 1)) (f1_ : DFix Y1 2 (D 2)) : Go p e below (EndQ s (Q_tm Z n0 vv fi rest v0 v1 M00 M01 M10 M11 E i0 i1) 2 4) T0 (mkF m 101 (dL A D W #[sR 0, sR 1, sR 2, sI (-1), (bif b7 then sF 8 else sU), (bif b7 then sD 7 else sU), (bif b7 then s2 else sU), (bif b7 then sF 9 else sU), sU]) []) := by
  obtain ⟨fz3, hl⟩ := own_arL S B.2.2 B.2.1 f1_ f0_
  refine segH (f_10u_1 b7) H (by decide) (by decide) trivial ?_
  intro T1 h1 L1 A1 K1 H1
  rcases own_dzD f1_ H.2.1 with ⟨hz, hc⟩ | ⟨hz, hc⟩
  · refine segH (f_10u_2z b7) H1 (by decide) (by decide) ⟨hc, trivial⟩ ?_
    intro T2 h2 L2 A2 K2 H2
    exact goE (lu_10u_L1 (Iv := 2 * Y0 - L * Y1) (D := (own_D [(D 0), (D 1), (D 2), (D 3), (D 4), (D 5), (D 6), (D 2), (D 8), (D 9)])) false b7 (H2.re rfl rfl) S B rfl f1_ (by rw [show 2 * Y0 - L * Y1 = 2 * Y0 by rw [S.2.2.2.2.2.2.1, Int.zero_mul]; omega]; exact fz3)) (by cases b7 <;> rfl)
  · refine segH (f_10u_2n b7) H1 (by decide) (by decide) ⟨hc, trivial⟩ ?_
    intro T2 h2 L2 A2 K2 H2
    exact goE (lu_10u_L1 (Iv := 2 * Y0 - L * Y1) (D := (own_D [(D 0), (D 1), (D 2), (D 3), (D 4), (D 5), (D 6), (D 2), (D 8), (D 9)])) true b7 (H2.re rfl rfl) S B rfl f1_ (by rw [show 2 * Y0 - L * Y1 = 2 * Y0 by rw [S.2.2.2.2.2.2.1, Int.zero_mul]; omega]; exact fz3)) (by cases b7 <;> rfl)
def luo_10u (la : Nat → Addr) (kl : Nat → ClassId) (pv0 pv1 uv : UInt64) : List OB := [(la 0, kl 0, 64, 2, [.int 1, .int 0]), (la 1, kl 1, 64, 2, [.int 0, .int 1]), (la 2, kl 2, 65, 2, [.double pv0, .double pv1]), (la 3, kl 3, 64, 3, [.int 0, .int 0, .int 0]), (la 4, kl 4, 64, 0, []), (la 5, kl 5, 65, 0, []), (la 6, kl 6, 64, 3, [.int 0, .int 0, .int 1]), (la 7, kl 7, 64, 2, [.int 0, .int 0]), (la 8, kl 8, 65, 2, [.double uv, .double 0])]
theorem tm_10u (hw : HW a0 Z) {la : Nat → Addr} {kl : Nat → ClassId} {g : Nat → Value} {pv0 pv1 uv : UInt64} (S : SEH (DFix u 0 uv) (L = 0) a u L Dd M10 M11 M00 M01 pv0 pv1) : TmSpec l Z n0 M00 M01 M10 M11 (tmL g la) (luo_10u la kl pv0 pv1 uv) := by
  refine tmG hw rfl ?_
  intro p e s m args below meth c T1 h0 h1 L1 A1 K1 cnt oM rest vv fi x y y0 y1 Y0 Y1 i0 i1 E sh G YJ B f0 f1
  rcases sh with _ | ⟨n4, x5, n7⟩
  · exact goE (lu_10u_L0 (K := tmK K1 kl) (D := (own_D [0, y0, y1, pv0, pv1, 0, uv, 0, 0, 0])) false ⟨G, rfl, Yf.to (Yf.pick (os' := own_fl (tmA A1 la) (tmK K1 kl) (own_D [0, y0, y1, pv0, pv1, 0, uv, 0, 0, 0]) (tmW A1 x y cnt g) 0 (lud_10u 1 2)) YJ [2, 1, 0, 3, 4, 5, 6, 7, 8, 9, 10, 11] (by decide) rfl) rfl⟩ S B f0 f1) rfl
  · obtain ⟨w4, rfl⟩ : ∃ w, iW w = n4 := ⟨_, own_iw n4⟩
    obtain ⟨w7, rfl⟩ : ∃ w, iW w = n7 := ⟨_, own_iw n7⟩
    exact goE (lu_10u_L0 (K := tmK K1 kl) (D := (own_D [0, y0, y1, pv0, pv1, 0, uv, x5, w4, w7])) true ⟨G, rfl, Yf.to (Yf.pick (os' := own_fl (tmA A1 la) (tmK K1 kl) (own_D [0, y0, y1, pv0, pv1, 0, uv, x5, w4, w7]) (tmW A1 x y cnt g) 0 (lud_10u 1 2)) YJ [2, 1, 0, 3, 4, 5, 6, 7, 8, 9, 10, 11] (by decide) rfl) rfl⟩ S B f0 f1) rfl
def lud_11u (a b : UInt64) : List AD := [(0, 0, [vU 0, vU 1, vR 7, vR 8, vR 10, vR 11] ++ uS 2 7 ++ [vI 2, vR 3, vR 4, vR 5, vU 9, vR 6, vR 9] ++ uS 10 9), (65, 2, [vU 90, vU 91]), (65, 2, [vD a, vD b]), (64, 2, [vI 1, vI 0]), (64, 2, [vI 1, vI 0]), (65, 2, [vD 3, vD 4]), (64, 3, [vI 0, vI 0, vI 0]), (64, 0, []), (65, 0, []), (64, 3, [vI 0, vI 1, vI 1]), (64, 2, [vI 0, vI 0]), (65, 2, [vD 6, vD 0])]
theorem f_11u_1 : ∀ b7 : Bool, runIs (run (own_mc 33) own_MN_0 9 (1, 2, 4, 14) 124 17 [] [] (101, #[sR 0, sR 1, sR 2, sI (-1), (bif b7 then sF 8 else sU), (bif b7 then sD 7 else sU), (bif b7 then s2 else sU), (bif b7 then sF 9 else sU), sU], [], lud_11u 1 2, 10, 1, 2)) (124, #[sR 0, sR 1, sR 2, sI 0, sD 2, s2, sU, (bif b7 then sF 9 else sU), sU], [vD 0, vD 2], lud_11u 1 2, 10, 1, 2) [] = true := by decide +kernel
theorem f_11u_2z : ∀ b7 : Bool, runIs (run (own_mc 33) own_MN_0 9 (1, 2, 4, 14) 103 5 [] [0] (124, #[sR 0, sR 1, sR 2, sI 0, sD 2, s2, sU, (bif b7 then sF 9 else sU), sU], [vD 0, vD 2], lud_11u 1 2, 10, 1, 2)) (103, #[sR 0, sR 1, sR 2, sI 1, sD 2, s2, sU, (bif b7 then sF 9 else sU), sU], [], lud_11u 1 2, 10, 1, 2) [(12, 2, 0, 0)] = true := by decide +kernel
theorem f_11u_2n : ∀ b7 : Bool, runIs (run (own_mc 33) own_MN_0 9 (1, 2, 4, 14) 103 18 [] [1] (124, #[sR 0, sR 1, sR 2, sI 0, sD 2, s2, sU, (bif b7 then sF 9 else sU), sU], [vD 0, vD 2], lud_11u 1 2, 10, 1, 2)) (103, #[sR 0, sR 1, sR 2, sI 1, sD 2, s2, sI 0, (bif b7 then sF 9 else sU), sU], [], lud_11u 1 2, 10, 1, 2) [(12, 2, 0, 1)] = true := by decide +kernel
theorem f_11u_3 : ∀ b6 b7 : Bool, runIs (run (own_mc 33) own_MN_0 9 (1, 2, 4, 14) 124 15 [] [] (103, #[sR 0, sR 1, sR 2, sI 1, sD 7, s2, (bif b6 then sI 0 else sU), (bif b7 then sF 9 else sU), sU], [], lud_11u 1 2, 10, 1, 2)) (124, #[sR 0, sR 1, sR 2, sI 1, sD 1, s2, (bif b6 then sI 0 else sU), (bif b7 then sF 9 else sU), sU], [vD 0, vD 1], lud_11u 1 2, 10, 1, 2) [] = true := by decide +kernel
theorem f_11u_4z : ∀ b6 b7 : Bool, runIs (run (own_mc 33) own_MN_0 9 (1, 2, 4, 14) 183 9 [] [0] (124, #[sR 0, sR 1, sR 2, sI 1, sD 1, s2, (bif b6 then sI 0 else sU), (bif b7 then sF 9 else sU), sU], [vD 0, vD 1], lud_11u 1 2, 10, 1, 2)) (183, #[sR 0, sR 1, sR 2, sI 2, sD 1, s2, (bif b6 then sI 0 else sU), (bif b7 then sF 9 else sU), sU], [], lud_11u 1 2, 10, 1, 2) [(12, 1, 0, 0)] = true := by decide +kernel
theorem f_11u_4n : ∀ b6 b7 : Bool, runIs (run (own_mc 33) own_MN_0 9 (1, 2, 4, 14) 183 22 [] [1] (124, #[sR 0, sR 1, sR 2, sI 1, sD 1, s2, (bif b6 then sI 0 else sU), (bif b7 then sF 9 else sU), sU], [vD 0, vD 1], lud_11u 1 2, 10, 1, 2)) (183, #[sR 0, sR 1, sR 2, sI 2, sD 1, s2, sI 0, (bif b7 then sF 9 else sU), sU], [], lud_11u 1 2, 10, 1, 2) [(12, 1, 0, 1)] = true := by decide +kernel
theorem f_11u_5 : ∀ b6 b7 : Bool, runIs (run (own_mc 33) own_MN_0 9 (1, 2, 4, 14) 240 36 [] [] (183, #[sR 0, sR 1, sR 2, sI 2, sD 7, s2, (bif b6 then sI 0 else sU), (bif b7 then sF 9 else sU), sU], [], lud_11u 1 2, 10, 1, 2)) (240, #[sR 0, sR 1, sR 2, sR 12, sI 1, sI 0, sD 10, s2, sU], [vD 0, vD 10], lud_11u 1 2 ++ [(65, 2, [vD 10, vD 0])], 11, 2, 4) [(3, 1, 4, 0)] = true := by decide +kernel
theorem f_11u_6z : runIs (run (own_mc 33) own_MN_0 9 (1, 2, 4, 14) 198 5 [] [0] (240, #[sR 0, sR 1, sR 2, sR 12, sI 1, sI 0, sD 7, s2, sU], [vD 0, vD 7], lud_11u 1 2 ++ [(65, 2, [vD 7, vD 0])], 10, 2, 4)) (198, #[sR 0, sR 1, sR 2, sR 12, sI 0, sI 0, sD 7, s2, sU], [], lud_11u 1 2 ++ [(65, 2, [vD 7, vD 0])], 10, 2, 4) [(12, 7, 0, 0)] = true := by decide +kernel
theorem f_11u_6n : runIs (run (own_mc 33) own_MN_0 9 (1, 2, 4, 14) 198 46 [] [1] (240, #[sR 0, sR 1, sR 2, sR 12, sI 1, sI 0, sD 7, s2, sU], [vD 0, vD 7], lud_11u 1 2 ++ [(65, 2, [vD 7, vD 0])], 10, 2, 4)) (198, #[sR 0, sR 1, sR 2, sR 12, sI 0, sI 0, sD 7, s2, sI 1], [], lud_11u 1 11 ++ [(65, 2, [vD 7, vD 0])], 12, 2, 4) [(12, 7, 0, 1), (2, 6, 7, 0), (1, 2, 10, 0)] = true := by decide +kernel
theorem f_11u_7 : ∀ b8 : Bool, runIs (run (own_mc 33) own_MN_0 9 (1, 2, 4, 14) 240 27 [] [] (198, #[sR 0, sR 1, sR 2, sR 12, sI 0, sI 0, sD 7, s2, (bif b8 then sI 1 else sU)], [], lud_11u 1 2 ++ [(65, 2, [vD 7, vD 0])], 10, 2, 4)) (240, #[sR 0, sR 1, sR 2, sR 12, sI 0, sI 1, sD 10, s2, (bif b8 then sI 1 else sU)], [vD 0, vD 10], lud_11u 1 2 ++ [(65, 2, [vD 7, vD 10])], 11, 2, 4) [(3, 2, 3, 0)] = true := by decide +kernel
theorem f_11u_8z : ∀ b8 : Bool, runIs (run (own_mc 33) own_MN_0 9 (1, 2, 4, 14) 1000000 8 [] [0] (240, #[sR 0, sR 1, sR 2, sR 12, sI 0, sI 1, sD 10, s2, (bif b8 then sI 1 else sU)], [vD 0, vD 10], lud_11u 1 2 ++ [(65, 2, [vD 7, vD 10])], 11, 2, 4)) (307, #[sR 0, sR 1, sR 2, sR 12, sI (-1), sI 1, sD 10, s2, (bif b8 then sI 1 else sU)], [vR 12], lud_11u 1 2 ++ [(65, 2, [vD 7, vD 10])], 11, 2, 4) [(12, 10, 0, 0)] = true := by decide +kernel
theorem f_11u_8n : ∀ b8 : Bool, runIs (run (own_mc 33) own_MN_0 9 (1, 2, 4, 14) 1000000 21 [] [1] (240, #[sR 0, sR 1, sR 2, sR 12, sI 0, sI 1, sD 10, s2, (bif b8 then sI 1 else sU)], [vD 0, vD 10], lud_11u 1 2 ++ [(65, 2, [vD 7, vD 10])], 11, 2, 4)) (307, #[sR 0, sR 1, sR 2, sR 12, sI (-1), sI 1, sD 10, s2, sI 1], [vR 12], lud_11u 1 2 ++ [(65, 2, [vD 7, vD 10])], 11, 2, 4) [(12, 10, 0, 1)] = true := by decide +kernel
theorem lu_11u_E {Xv : Int} (b8 : Bool) (H : LUH p l e s m args below meth c T0 Z a0 h0 hM n0 L0 A K D W vv fi oM rest v0 v1 2 4 (lud_11u 1 2 ++ [(65, 2, [vD 7, vD 0])])) (S : SEH (DFix u 0 (D 6)) (L = 0) a u L Dd M11 M10 M01 M00 (D 3) (D 4)) (B : EHB E i0 i1 Y0 Y1) (hI : Iv = 2 * Y0 - L * Y1) (hX : Xv * Dd = 8 * Iv) (bX : -211106232532992 ≤ Xv ∧ Xv ≤ 211106232532992) (fx : DFix Xv 5 (D 7)) (fy : DFix (8 * Y1 - u * Xv) 5 (D 2)) : Go p e below (EndQ s (Q_tm Z n0 vv fi rest v0 v1 M00 M01 M10 M11 E i0 i1) 2 4) T0 (mkF m 198 (dL A D W #[sR 0, sR 1, sR 2, sR 12, sI 0, sI 0, sD 7, s2, (bif b8 then sI 1 else sU)]) []) := by
  obtain ⟨X0, F0, F1, bX0, G0, G1⟩ := own_arE S B.2.2 hI hX bX fx fy
  refine segH (f_11u_7 b8) H (by decide) (by decide) ⟨own_fixnn F0, trivial⟩ ?_
  intro T1 h1 L1 A1 K1 H1
  rcases own_dzD F0 H.2.1 with ⟨hz, hc⟩ | ⟨hz, hc⟩
  · refine segH (f_11u_8z b8) H1 (by decide) (by decide) ⟨hc, trivial⟩ ?_
    intro T2 h2 L2 A2 K2 H2
    exact goE (endH H2 rfl rfl rfl rfl B F1 F0 (by omega) bX0 (by rw [Int.add_comm]; exact G1) (by rw [Int.add_comm]; exact G0)) rfl
  · refine segH (f_11u_8n b8) H1 (by decide) (by decide) ⟨hc, trivial⟩ ?_
    intro T2 h2 L2 A2 K2 H2
    exact goE (endH H2 rfl rfl rfl rfl B F1 F0 (by omega) bX0 (by rw [Int.add_comm]; exact G1) (by rw [Int.add_comm]; exact G0)) rfl
theorem lu_11u_U  (b6 : Bool) (b7 : Bool) (H : LUH p l e s m args below meth c T0 Z a0 h0 hM n0 L0 A K D W vv fi oM rest v0 v1 1 2 (lud_11u 1 2)) (S : SEH (DFix u 0 (D 6)) (L = 0) a u L Dd M11 M10 M01 M00 (D 3) (D 4)) (B : EHB E i0 i1 Y0 Y1) (hI : Iv = 2 * Y0 - L * Y1) (fy : DFix Y1 2 (D 2)) (fz : DFix Iv 3 (D 1)) : Go p e below (EndQ s (Q_tm Z n0 vv fi rest v0 v1 M00 M01 M10 M11 E i0 i1) 2 4) T0 (mkF m 183 (dL A D W #[sR 0, sR 1, sR 2, sI 2, sD 7, s2, (bif b6 then sI 0 else sU), (bif b7 then sF 9 else sU), sU]) []) := by
  obtain ⟨Xv, hX, bX, fx, fy5, hu⟩ := own_arU S B.2.2 B.2.1 hI fy fz
  obtain ⟨fp, fs⟩ := hu _ S.2.2.2.2.2.1
  refine segH (f_11u_5 b6 b7) H (by decide) (by decide) ⟨own_fixnn fx, trivial⟩ ?_
  intro T1 h1 L1 A1 K1 H1
  rcases own_dzD fx H.2.1 with ⟨hz, hc⟩ | ⟨hz, hc⟩
  · refine goE (segH (f_11u_6z) (H1.re (D' := (own_D [(D 0), (D 1), (D 2), (D 3), (D 4), (D 5), (D 6), (FP.ddiv (D 1) (D 4)), (D 8), (D 9)])) rfl rfl) (by decide) (by decide) ⟨hc, trivial⟩ ?_) rfl
    intro T2 h2 L2 A2 K2 H2
    exact goE (lu_11u_E (D := (own_D [(D 0), (D 1), (D 2), (D 3), (D 4), (D 5), (D 6), (FP.ddiv (D 1) (D 4)), (D 8), (D 9)])) false (H2.re rfl rfl) S B hI hX bX fx (by rw [show 8 * Y1 - u * Xv = 8 * Y1 by rw [hz, Int.mul_zero]; omega]; exact fy5)) rfl
  · refine goE (segH (f_11u_6n) (H1.re (D' := (own_D [(D 0), (D 1), (D 2), (D 3), (D 4), (D 5), (D 6), (FP.ddiv (D 1) (D 4)), (D 8), (D 9)])) rfl rfl) (by decide) (by decide) ⟨hc, own_fixnn fp, own_fixnn fs, trivial⟩ ?_) rfl
    intro T2 h2 L2 A2 K2 H2
    exact goE (lu_11u_E (D := (own_D [(D 0), (D 1), (FP.dsub (D 2) (FP.dmul (D 6) (FP.ddiv (D 1) (D 4)))), (D 3), (D 4), (D 5), (D 6), (FP.ddiv (D 1) (D 4)), (D 8), (D 9)])) true (H2.re rfl rfl) S B hI hX bX fx fs) rfl
theorem lu_11u_L1  (b6 : Bool) (b7 : Bool) (H : LUH p l e s m args below meth c T0 Z a0 h0 hM n0 L0 A K D W vv fi oM rest v0 v1 1 2 (lud_11u 1 2)) (S : SEH (DFix u 0 (D 6)) (L = 0) a u L Dd M11 M10 M01 M00 (D 3) (D 4)) (B : EHB E i0 i1 Y0 Y1) (hI : Iv = 2 * Y0 - L * Y1) (fy : DFix Y1 2 (D 2)) (fz : DFix Iv 3 (D 1)) : Go p e below (EndQ s (Q_tm Z n0 vv fi rest v0 v1 M00 M01 M10 M11 E i0 i1) 2 4) T0 (mkF m 103 (dL A D W #[sR 0, sR 1, sR 2, sI 1, sD 7, s2, (bif b6 then sI 0 else sU), (bif b7 then sF 9 else sU), sU]) []) := by
  refine segH (f_11u_3 b6 b7) H (by decide) (by decide) trivial ?_
  intro T1 h1 L1 A1 K1 H1
  rcases own_dzD fz H.2.1 with ⟨hz, hc⟩ | ⟨hz, hc⟩
  · refine segH (f_11u_4z b6 b7) H1 (by decide) (by decide) ⟨hc, trivial⟩ ?_
    intro T2 h2 L2 A2 K2 H2
    exact goE (lu_11u_U (D := (own_D [(D 0), (D 1), (D 2), (D 3), (D 4), (D 5), (D 6), (D 1), (D 8), (D 9)])) b6 b7 (H2.re rfl rfl) S B hI fy fz) (by cases b6 <;> cases b7 <;> rfl)
  · refine segH (f_11u_4n b6 b7) H1 (by decide) (by decide) ⟨hc, trivial⟩ ?_
    intro T2 h2 L2 A2 K2 H2
    exact goE (lu_11u_U (D := (own_D [(D 0), (D 1), (D 2), (D 3), (D 4), (D 5), (D 6), (D 1), (D 8), (D 9)])) true b7 (H2.re rfl rfl) S B hI fy fz) (by cases b7 <;> rfl)
theorem lu_11u_L0  (b7 : Bool) (H : LUH p l e s m args below meth c T0 Z a0 h0 hM n0 L0 A K D W vv fi oM rest v0 v1 1 2 (lud_11u 1 2)) (S : SEH (DFix u 0 (D 6)) (L = 0) a u L Dd M11 M10 M01 M00 (D 3) (D 4)) (B : EHB E i0 i1 Y0 Y1) (f0_ : DFix Y0 2 (D 1)) (f1_ : DFix Y1 2 (D 2)) : Go p e below (EndQ s (Q_tm Z n0 vv fi rest v0 v1 M00 M01 M10 M11 E i0 i1) 2 4) T0 (mkF m 101 (dL A D W #[sR 0, sR 1, sR 2, sI (-1), (bif b7 then sF 8 else sU), (bif b7 then sD 7 else sU), (bif b7 then s2 else sU), (bif b7 then sF 9 else sU), sU]) []) := by
  obtain ⟨fz3, hl⟩ := own_arL S B.2.2 B.2.1 f1_ f0_
  refine segH (f_11u_1 b7) H (by decide) (by decide) trivial ?_
  intro T1 h1 L1 A1 K1 H1
  rcases own_dzD f1_ H.2.1 with ⟨hz, hc⟩ | ⟨hz, hc⟩
  · refine segH (f_11u_2z b7) H1 (by decide) (by decide) ⟨hc, trivial⟩ ?_
    intro T2 h2 L2 A2 K2 H2
    exact goE (lu_11u_L1 (Iv := 2 * Y0 - L * Y1) (D := (own_D [(D 0), (D 1), (D 2), (D 3), (D 4), (D 5), (D 6), (D 2), (D 8), (D 9)])) false b7 (H2.re rfl rfl) S B rfl f1_ (by rw [show 2 * Y0 - L * Y1 = 2 * Y0 by rw [S.2.2.2.2.2.2.1, Int.zero_mul]; omega]; exact fz3)) (by cases b7 <;> rfl)
  · refine segH (f_11u_2n b7) H1 (by decide) (by decide) ⟨hc, trivial⟩ ?_
    intro T2 h2 L2 A2 K2 H2
    exact goE (lu_11u_L1 (Iv := 2 * Y0 - L * Y1) (D := (own_D [(D 0), (D 1), (D 2), (D 3), (D 4), (D 5), (D 6), (D 2), (D 8), (D 9)])) true b7 (H2.re rfl rfl) S B rfl f1_ (by rw [show 2 * Y0 - L * Y1 = 2 * Y0 by rw [S.2.2.2.2.2.2.1, Int.zero_mul]; omega]; exact fz3)) (by cases b7 <;> rfl)
def luo_11u (la : Nat → Addr) (kl : Nat → ClassId) (pv0 pv1 uv : UInt64) : List OB := [(la 0, kl 0, 64, 2, [.int 1, .int 0]), (la 1, kl 1, 64, 2, [.int 1, .int 0]), (la 2, kl 2, 65, 2, [.double pv0, .double pv1]), (la 3, kl 3, 64, 3, [.int 0, .int 0, .int 0]), (la 4, kl 4, 64, 0, []), (la 5, kl 5, 65, 0, []), (la 6, kl 6, 64, 3, [.int 0, .int 1, .int 1]), (la 7, kl 7, 64, 2, [.int 0, .int 0]), (la 8, kl 8, 65, 2, [.double uv, .double 0])]
theorem tm_11u (hw : HW a0 Z) {la : Nat → Addr} {kl : Nat → ClassId} {g : Nat → Value} {pv0 pv1 uv : UInt64} (S : SEH (DFix u 0 uv) (L = 0) a u L Dd M11 M10 M01 M00 pv0 pv1) : TmSpec l Z n0 M00 M01 M10 M11 (tmL g la) (luo_11u la kl pv0 pv1 uv) := by
  refine tmG hw rfl ?_
  intro p e s m args below meth c T1 h0 h1 L1 A1 K1 cnt oM rest vv fi x y y0 y1 Y0 Y1 i0 i1 E sh G YJ B f0 f1
  rcases sh with _ | ⟨n4, x5, n7⟩
  · exact goE (lu_11u_L0 (K := tmK K1 kl) (D := (own_D [0, y0, y1, pv0, pv1, 0, uv, 0, 0, 0])) false ⟨G, rfl, Yf.to (Yf.pick (os' := own_fl (tmA A1 la) (tmK K1 kl) (own_D [0, y0, y1, pv0, pv1, 0, uv, 0, 0, 0]) (tmW A1 x y cnt g) 0 (lud_11u 1 2)) YJ [2, 1, 0, 3, 4, 5, 6, 7, 8, 9, 10, 11] (by decide) rfl) rfl⟩ S B f0 f1) rfl
  · obtain ⟨w4, rfl⟩ : ∃ w, iW w = n4 := ⟨_, own_iw n4⟩
    obtain ⟨w7, rfl⟩ : ∃ w, iW w = n7 := ⟨_, own_iw n7⟩
    exact goE (lu_11u_L0 (K := tmK K1 kl) (D := (own_D [0, y0, y1, pv0, pv1, 0, uv, x5, w4, w7])) true ⟨G, rfl, Yf.to (Yf.pick (os' := own_fl (tmA A1 la) (tmK K1 kl) (own_D [0, y0, y1, pv0, pv1, 0, uv, x5, w4, w7]) (tmW A1 x y cnt g) 0 (lud_11u 1 2)) YJ [2, 1, 0, 3, 4, 5, 6, 7, 8, 9, 10, 11] (by decide) rfl) rfl⟩ S B f0 f1) rfl
def lud_00u (a b : UInt64) : List AD := [(0, 0, [vU 0, vU 1, vR 7, vR 8, vR 10, vR 11] ++ uS 2 7 ++ [vI 2, vR 3, vR 4, vR 5, vU 9, vR 6, vR 9] ++ uS 10 9), (65, 2, [vU 90, vU 91]), (65, 2, [vD a, vD b]), (64, 2, [vI 0, vI 1]), (64, 2, [vI 0, vI 1]), (65, 2, [vD 3, vD 4]), (64, 3, [vI 0, vI 0, vI 0]), (64, 0, []), (65, 0, []), (64, 3, [vI 0, vI 0, vI 1]), (64, 2, [vI 0, vI 0]), (65, 2, [vD 6, vD 0])]
theorem f_00u_1 : ∀ b7 : Bool, runIs (run (own_mc 33) own_MN_0 9 (1, 2, 4, 14) 124 17 [] [] (101, #[sR 0, sR 1, sR 2, sI (-1), (bif b7 then sF 8 else sU), (bif b7 then sD 7 else sU), (bif b7 then s2 else sU), (bif b7 then sF 9 else sU), sU], [], lud_00u 1 2, 10, 1, 2)) (124, #[sR 0, sR 1, sR 2, sI 0, sD 1, s2, sU, (bif b7 then sF 9 else sU), sU], [vD 0, vD 1], lud_00u 1 2, 10, 1, 2) [] = true := by decide +kernel
theorem f_00u_2z : ∀ b7 : Bool, runIs (run (own_mc 33) own_MN_0 9 (1, 2, 4, 14) 103 5 [] [0] (124, #[sR 0, sR 1, sR 2, sI 0, sD 1, s2, sU, (bif b7 then sF 9 else sU), sU], [vD 0, vD 1], lud_00u 1 2, 10, 1, 2)) (103, #[sR 0, sR 1, sR 2, sI 1, sD 1, s2, sU, (bif b7 then sF 9 else sU), sU], [], lud_00u 1 2, 10, 1, 2) [(12, 1, 0, 0)] = true := by decide +kernel
theorem f_00u_2n : ∀ b7 : Bool, runIs (run (own_mc 33) own_MN_0 9 (1, 2, 4, 14) 103 18 [] [1] (124, #[sR 0, sR 1, sR 2, sI 0, sD 1, s2, sU, (bif b7 then sF 9 else sU), sU], [vD 0, vD 1], lud_00u 1 2, 10, 1, 2)) (103, #[sR 0, sR 1, sR 2, sI 1, sD 1, s2, sI 0, (bif b7 then sF 9 else sU), sU], [], lud_00u 1 2, 10, 1, 2) [(12, 1, 0, 1)] = true := by decide +kernel
theorem f_00u_3 : ∀ b6 b7 : Bool, runIs (run (own_mc 33) own_MN_0 9 (1, 2, 4, 14) 124 15 [] [] (103, #[sR 0, sR 1, sR 2, sI 1, sD 7, s2, (bif b6 then sI 0 else sU), (bif b7 then sF 9 else sU), sU], [], lud_00u 1 2, 10, 1, 2)) (124, #[sR 0, sR 1, sR 2, sI 1, sD 2, s2, (bif b6 then sI 0 else sU), (bif b7 then sF 9 else sU), sU], [vD 0, vD 2], lud_00u 1 2, 10, 1, 2) [] = true := by decide +kernel
theorem f_00u_4z : ∀ b6 b7 : Bool, runIs (run (own_mc 33) own_MN_0 9 (1, 2, 4, 14) 183 9 [] [0] (124, #[sR 0, sR 1, sR 2, sI 1, sD 2, s2, (bif b6 then sI 0 else sU), (bif b7 then sF 9 else sU), sU], [vD 0, vD 2], lud_00u 1 2, 10, 1, 2)) (183, #[sR 0, sR 1, sR 2, sI 2, sD 2, s2, (bif b6 then sI 0 else sU), (bif b7 then sF 9 else sU), sU], [], lud_00u 1 2, 10, 1, 2) [(12, 2, 0, 0)] = true := by decide +kernel
theorem f_00u_4n : ∀ b6 b7 : Bool, runIs (run (own_mc 33) own_MN_0 9 (1, 2, 4, 14) 183 22 [] [1] (124, #[sR 0, sR 1, sR 2, sI 1, sD 2, s2, (bif b6 then sI 0 else sU), (bif b7 then sF 9 else sU), sU], [vD 0, vD 2], lud_00u 1 2, 10, 1, 2)) (183, #[sR 0, sR 1, sR 2, sI 2, sD 2, s2, sI 0, (bif b7 then sF 9 else sU), sU], [], lud_00u 1 2, 10, 1, 2) [(12, 2, 0, 1)] = true := by decide +kernel
theorem f_00u_5 : ∀ b6 b7 : Bool, runIs (run (own_mc 33) own_MN_0 9 (1, 2, 4, 14) 240 36 [] [] (183, #[sR 0, sR 1, sR 2, sI 2, sD 7, s2, (bif b6 then sI 0 else sU), (bif b7 then sF 9 else sU), sU], [], lud_00u 1 2, 10, 1, 2)) (240, #[sR 0, sR 1, sR 2, sR 12, sI 1, sI 1, sD 10, s2, sU], [vD 0, vD 10], lud_00u 1 2 ++ [(65, 2, [vD 0, vD 10])], 11, 2, 4) [(3, 2, 4, 0)] = true := by decide +kernel
theorem f_00u_6z : runIs (run (own_mc 33) own_MN_0 9 (1, 2, 4, 14) 198 5 [] [0] (240, #[sR 0, sR 1, sR 2, sR 12, sI 1, sI 1, sD 7, s2, sU], [vD 0, vD 7], lud_00u 1 2 ++ [(65, 2, [vD 0, vD 7])], 10, 2, 4)) (198, #[sR 0, sR 1, sR 2, sR 12, sI 0, sI 1, sD 7, s2, sU], [], lud_00u 1 2 ++ [(65, 2, [vD 0, vD 7])], 10, 2, 4) [(12, 7, 0, 0)] = true := by decide +kernel
theorem f_00u_6n : runIs (run (own_mc 33) own_MN_0 9 (1, 2, 4, 14) 198 46 [] [1] (240, #[sR 0, sR 1, sR 2, sR 12, sI 1, sI 1, sD 7, s2, sU], [vD 0, vD 7], lud_00u 1 2 ++ [(65, 2, [vD 0, vD 7])], 10, 2, 4)) (198, #[sR 0, sR 1, sR 2, sR 12, sI 0, sI 1, sD 7, s2, sI 1], [], lud_00u 11 2 ++ [(65, 2, [vD 0, vD 7])], 12, 2, 4) [(12, 7, 0, 1), (2, 6, 7, 0), (1, 1, 10, 0)] = true := by decide +kernel
theorem f_00u_7 : ∀ b8 : Bool, runIs (run (own_mc 33) own_MN_0 9 (1, 2, 4, 14) 240 27 [] [] (198, #[sR 0, sR 1, sR 2, sR 12, sI 0, sI 1, sD 7, s2, (bif b8 then sI 1 else sU)], [], lud_00u 1 2 ++ [(65, 2, [vD 0, vD 7])], 10, 2, 4)) (240, #[sR 0, sR 1, sR 2, sR 12, sI 0, sI 0, sD 10, s2, (bif b8 then sI 1 else sU)], [vD 0, vD 10], lud_00u 1 2 ++ [(65, 2, [vD 10, vD 7])], 11, 2, 4) [(3, 1, 3, 0)] = true := by decide +kernel
theorem f_00u_8z : ∀ b8 : Bool, runIs (run (own_mc 33) own_MN_0 9 (1, 2, 4, 14) 1000000 8 [] [0] (240, #[sR 0, sR 1, sR 2, sR 12, sI 0, sI 0, sD 10, s2, (bif b8 then sI 1 else sU)], [vD 0, vD 10], lud_00u 1 2 ++ [(65, 2, [vD 10, vD 7])], 11, 2, 4)) (307, #[sR 0, sR 1, sR 2, sR 12, sI (-1), sI 0, sD 10, s2, (bif b8 then sI 1 else sU)], [vR 12], lud_00u 1 2 ++ [(65, 2, [vD 10, vD 7])], 11, 2, 4) [(12, 10, 0, 0)] = true := by decide +kernel
theorem f_00u_8n : ∀ b8 : Bool, runIs (run (own_mc 33) own_MN_0 9 (1, 2, 4, 14) 1000000 21 [] [1] (240, #[sR 0, sR 1, sR 2, sR 12, sI 0, sI 0, sD 10, s2, (bif b8 then sI 1 else sU)], [vD 0, vD 10], lud_00u 1 2 ++ [(65, 2, [vD 10, vD 7])], 11, 2, 4)) (307, #[sR 0, sR 1, sR 2, sR 12, sI (-1), sI 0, sD 10, s2, sI 0], [vR 12], lud_00u 1 2 ++ [(65, 2, [vD 10, vD 7])], 11, 2, 4) [(12, 10, 0, 1)] = true := by decide +kernel
theorem lu_00u_E {Xv : Int} (b8 : Bool) (H : LUH p l e s m args below meth c T0 Z a0 h0 hM n0 L0 A K D W vv fi oM rest v0 v1 2 4 (lud_00u 1 2 ++ [(65, 2, [vD 0, vD 7])])) (S : SEH (DFix u 0 (D 6)) (L = 0) a u L Dd M00 M01 M10 M11 (D 3) (D 4)) (B : EHB E i0 i1 Y0 Y1) (hI : Iv = 2 * Y1 - L * Y0) (hX : Xv * Dd = 8 * Iv) (bX : -211106232532992 ≤ Xv ∧ Xv ≤ 211106232532992) (fx : DFix Xv 5 (D 7)) (fy : DFix (8 * Y0 - u * Xv) 5 (D 1)) : Go p e below (EndQ s (Q_tm Z n0 vv fi rest v0 v1 M00 M01 M10 M11 E i0 i1) 2 4) T0 (mkF m 198 (dL A D W #[sR 0, sR 1, sR 2, sR 12, sI 0, sI 1, sD 7, s2, (bif b8 then sI 1 else sU)]) []) := by
  obtain ⟨X0, F0, F1, bX0, G0, G1⟩ := own_arE S B.2.1 hI hX bX fx fy
  refine segH (f_00u_7 b8) H (by decide) (by decide) ⟨own_fixnn F0, trivial⟩ ?_
  intro T1 h1 L1 A1 K1 H1
  rcases own_dzD F0 H.2.1 with ⟨hz, hc⟩ | ⟨hz, hc⟩
  · refine segH (f_00u_8z b8) H1 (by decide) (by decide) ⟨hc, trivial⟩ ?_
    intro T2 h2 L2 A2 K2 H2
    exact goE (endH H2 rfl rfl rfl rfl B F0 F1 bX0 (by omega) G0 G1) rfl
  · refine segH (f_00u_8n b8) H1 (by decide) (by decide) ⟨hc, trivial⟩ ?_
    intro T2 h2 L2 A2 K2 H2
    exact goE (endH H2 rfl rfl rfl rfl B F0 F1 bX0 (by omega) G0 G1) rfl
theorem lu_00u_U  (b6 : Bool) (b7 : Bool) (H : LUH p l e s m args below meth c T0 Z a0 h0 hM n0 L0 A K D W vv fi oM rest v0 v1 1 2 (lud_00u 1 2)) (S : SEH (DFix u 0 (D 6)) (L = 0) a u L Dd M00 M01 M10 M11 (D 3) (D 4)) (B : EHB E i0 i1 Y0 Y1) (hI : Iv = 2 * Y1 - L * Y0) (fy : DFix Y0 2 (D 1)) (fz : DFix Iv 3 (D 2)) : Go p e below (EndQ s (Q_tm Z n0 vv fi rest v0 v1 M00 M01 M10 M11 E i0 i1) 2 4) T0 (mkF m 183 (dL A D W #[sR 0, sR 1, sR 2, sI 2, sD 7, s2, (bif b6 then sI 0 else sU), (bif b7 then sF 9 else sU), sU]) []) := by
  obtain ⟨Xv, hX, bX, fx, fy5, hu⟩ := own_arU S B.2.1 B.2.2 hI fy fz
  obtain ⟨fp, fs⟩ := hu _ S.2.2.2.2.2.1
  refine segH (f_00u_5 b6 b7) H (by decide) (by decide) ⟨own_fixnn fx, trivial⟩ ?_
  intro T1 h1 L1 A1 K1 H1
  rcases own_dzD fx H.2.1 with ⟨hz, hc⟩ | ⟨hz, hc⟩
  · refine goE (segH (f_00u_6z) (H1.re (D' := (own_D [(D 0), (D 1), (D 2), (D 3), (D 4), (D 5), (D 6), (FP.ddiv (D 2) (D 4)), (D 8), (D 9)])) rfl rfl) (by decide) (by decide) ⟨hc, trivial⟩ ?_) rfl
    intro T2 h2 L2 A2 K2 H2
    exact goE (lu_00u_E (D := (own_D [(D 0), (D 1), (D 2), (D 3), (D 4), (D 5), (D 6), (FP.ddiv (D 2) (D 4)), (D 8), (D 9)])) false (H2.re rfl rfl) S B hI hX bX fx (by rw [show 8 * Y0 - u * Xv = 8 * Y0 by rw [hz, Int.mul_zero]; omega]; exact fy5)) rfl
  · refine goE (segH (f_00u_6n) (H1.re (D' := (own_D [(D 0), (D 1), (D 2), (D 3), (D 4), (D 5), (D 6), (FP.ddiv (D 2) (D 4)), (D 8), (D 9)])) rfl rfl) (by decide) (by decide) ⟨hc, own_fixnn fp, own_fixnn fs, trivial⟩ ?_) rfl
    intro T2 h2 L2 A2 K2 H2
    exact goE (lu_00u_E (D := (own_D [(D 0), (FP.dsub (D 1) (FP.dmul (D 6) (FP.ddiv (D 2) (D 4)))), (D 2), (D 3), (D 4), (D 5), (D 6), (FP.ddiv (D 2) (D 4)), (D 8), (D 9)])) true (H2.re rfl rfl) S B hI hX bX fx fs) rfl
theorem lu_00u_L1  (b6 : Bool) (b7 : Bool) (H : LUH p l e s m args below meth c T0 Z a0 h0 hM n0 L0 A K D W vv fi oM rest v0 v1 1 2 (lud_00u 1 2)) (S : SEH (DFix u 0 (D 6)) (L = 0) a u L Dd M00 M01 M10 M11 (D 3) (D 4)) (B : EHB E i0 i1 Y0 Y1) (hI : Iv = 2 * Y1 - L * Y0) (fy : DFix Y0 2 (D 1)) (fz : DFix Iv 3 (D 2)) : Go p e below (EndQ s (Q_tm Z n0 vv fi rest v0 v1 M00 M01 M10 M11 E i0 i1) 2 4) T0 (mkF m 103 (dL A D W #[sR 0, sR 1, sR 2, sI 1, sD 7, s2, (bif b6 then sI 0 else sU), (bif b7 then sF 9 else sU), sU]) []) := by
  refine segH (f_00u_3 b6 b7) H (by decide) (by decide) trivial ?_
  intro T1 h1 L1 A1 K1 H1
  rcases own_dzD fz H.2.1 with ⟨hz, hc⟩ | ⟨hz, hc⟩
  · refine segH (f_00u_4z b6 b7) H1 (by decide) (by decide) ⟨hc, trivial⟩ ?_
    intro T2 h2 L2 A2 K2 H2
    exact goE (lu_00u_U (D := (own_D [(D 0), (D 1), (D 2), (D 3), (D 4), (D 5), (D 6), (D 2), (D 8), (D 9)])) b6 b7 (H2.re rfl rfl) S B hI fy fz) (by cases b6 <;> cases b7 <;> rfl)
  · refine segH (f_00u_4n b6 b7) H1 (by decide) (by decide) ⟨hc, trivial⟩ ?_
    intro T2 h2 L2 A2 K2 H2
    exact goE (lu_00u_U (D := (own_D [(D 0), (D 1), (D 2), (D 3), (D 4), (D 5), (D 6), (D 2), (D 8), (D 9)])) true b7 (H2.re rfl rfl) S B hI fy fz) (by cases b7 <;> rfl)
theorem lu_00u_L0  (b7 : Bool) (H : LUH p l e s m args below meth c T0 Z a0 h0 hM n0 L0 A K D W vv fi oM rest v0 v1 1 2 (lud_00u 1 2)) (S : SEH (DFix u 0 (D 6)) (L = 0) a u L Dd M00 M01 M10 M11 (D 3) (D 4)) (B : EHB E i0 i1 Y0 Y1) (f0_ : DFix Y0 2 (D 1)) (f1_ : DFix Y1 2 (D 2)) : Go p e below (EndQ s (Q_tm Z n0 vv fi rest v0 v1 M00 M01 M10 M11 E i0 i1) 2 4) T0 (mkF m 101 (dL A D W #[sR 0, sR 1, sR 2, sI (-1), (bif b7 then sF 8 else sU), (bif b7 then sD 7 else sU), (bif b7 then s2 else sU), (bif b7 then sF 9 else sU), sU]) []) := by
  obtain ⟨fz3, hl⟩ := own_arL S B.2.1 B.2.2 f0_ f1_
  refine segH (f_00u_1 b7) H (by decide) (by decide) trivial ?_
  intro T1 h1 L1 A1 K1 H1
  rcases own_dzD f0_ H.2.1 with ⟨hz, hc⟩ | ⟨hz, hc⟩
  · refine segH (f_00u_2z b7) H1 (by decide) (by decide) ⟨hc, trivial⟩ ?_
    intro T2 h2 L2 A2 K2 H2
    exact goE (lu_00u_L1 (Iv := 2 * Y1 - L * Y0) (D := (own_D [(D 0), (D 1), (D 2), (D 3), (D 4), (D 5), (D 6), (D 1), (D 8), (D 9)])) false b7 (H2.re rfl rfl) S B rfl f0_ (by rw [show 2 * Y1 - L * Y0 = 2 * Y1 by rw [S.2.2.2.2.2.2.1, Int.zero_mul]; omega]; exact fz3)) (by cases b7 <;> rfl)
  · refine segH (f_00u_2n b7) H1 (by decide) (by decide) ⟨hc, trivial⟩ ?_
    intro T2 h2 L2 A2 K2 H2
    exact goE (lu_00u_L1 (Iv := 2 * Y1 - L * Y0) (D := (own_D [(D 0), (D 1), (D 2), (D 3), (D 4), (D 5), (D 6), (D 1), (D 8), (D 9)])) true b7 (H2.re rfl rfl) S B rfl f0_ (by rw [show 2 * Y1 - L * Y0 = 2 * Y1 by rw [S.2.2.2.2.2.2.1, Int.zero_mul]; omega]; exact fz3)) (by cases b7 <;> rfl)
def luo_00u (la : Nat → Addr) (kl : Nat → ClassId) (pv0 pv1 uv : UInt64) : List OB := [(la 0, kl 0, 64, 2, [.int 0, .int 1]), (la 1, kl 1, 64, 2, [.int 0, .int 1]), (la 2, kl 2, 65, 2, [.double pv0, .double pv1]), (la 3, kl 3, 64, 3, [.int 0, .int 0, .int 0]), (la 4, kl 4, 64, 0, []), (la 5, kl 5, 65, 0, []), (la 6, kl 6, 64, 3, [.int 0, .int 0, .int 1]), (la 7, kl 7, 64, 2, [.int 0, .int 0]), (la 8, kl 8, 65, 2, [.double uv, .double 0])]
theorem tm_00u (hw : HW a0 Z) {la : Nat → Addr} {kl : Nat → ClassId} {g : Nat → Value} {pv0 pv1 uv : UInt64} (S : SEH (DFix u 0 uv) (L = 0) a u L Dd M00 M01 M10 M11 pv0 pv1) : TmSpec l Z n0 M00 M01 M10 M11 (tmL g la) (luo_00u la kl pv0 pv1 uv) := by
  refine tmG hw rfl ?_
  intro p e s m args below meth c T1 h0 h1 L1 A1 K1 cnt oM rest vv fi x y y0 y1 Y0 Y1 i0 i1 E sh G YJ B f0 f1
  rcases sh with _ | ⟨n4, x5, n7⟩
  · exact goE (lu_00u_L0 (K := tmK K1 kl) (D := (own_D [0, y0, y1, pv0, pv1, 0, uv, 0, 0, 0])) false ⟨G, rfl, Yf.to (Yf.pick (os' := own_fl (tmA A1 la) (tmK K1 kl) (own_D [0, y0, y1, pv0, pv1, 0, uv, 0, 0, 0]) (tmW A1 x y cnt g) 0 (lud_00u 1 2)) YJ [2, 1, 0, 3, 4, 5, 6, 7, 8, 9, 10, 11] (by decide) rfl) rfl⟩ S B f0 f1) rfl
  · obtain ⟨w4, rfl⟩ : ∃ w, iW w = n4 := ⟨_, own_iw n4⟩
    obtain ⟨w7, rfl⟩ : ∃ w, iW w = n7 := ⟨_, own_iw n7⟩
    exact goE (lu_00u_L0 (K := tmK K1 kl) (D := (own_D [0, y0, y1, pv0, pv1, 0, uv, x5, w4, w7])) true ⟨G, rfl, Yf.to (Yf.pick (os' := own_fl (tmA A1 la) (tmK K1 kl) (own_D [0, y0, y1, pv0, pv1, 0, uv, x5, w4, w7]) (tmW A1 x y cnt g) 0 (lud_00u 1 2)) YJ [2, 1, 0, 3, 4, 5, 6, 7, 8, 9, 10, 11] (by decide) rfl) rfl⟩ S B f0 f1) rfl
def lud_01u (a b : UInt64) : List AD := [(0, 0, [vU 0, vU 1, vR 7, vR 8, vR 10, vR 11] ++ uS 2 7 ++ [vI 2, vR 3, vR 4, vR 5, vU 9, vR 6, vR 9] ++ uS 10 9), (65, 2, [vU 90, vU 91]), (65, 2, [vD a, vD b]), (64, 2, [vI 0, vI 1]), (64, 2, [vI 1, vI 0]), (65, 2, [vD 3, vD 4]), (64, 3, [vI 0, vI 0, vI 0]), (64, 0, []), (65, 0, []), (64, 3, [vI 0, vI 1, vI 1]), (64, 2, [vI 0, vI 0]), (65, 2, [vD 6, vD 0])]
theorem f_01u_1 : ∀ b7 : Bool, runIs (run (own_mc 33) own_MN_0 9 (1, 2, 4, 14) 124 17 [] [] (101, #[sR 0, sR 1, sR 2, sI (-1), (bif b7 then sF 8 else sU), (bif b7 then sD 7 else sU), (bif b7 then s2 else sU), (bif b7 then sF 9 else sU), sU], [], lud_01u 1 2, 10, 1, 2)) (124, #[sR 0, sR 1, sR 2, sI 0, sD 1, s2, sU, (bif b7 then sF 9 else sU), sU], [vD 0, vD 1], lud_01u 1 2, 10, 1, 2) [] = true := by decide +kernel
theorem f_01u_2z : ∀ b7 : Bool, runIs (run (own_mc 33) own_MN_0 9 (1, 2, 4, 14) 103 5 [] [0] (124, #[sR 0, sR 1, sR 2, sI 0, sD 1, s2, sU, (bif b7 then sF 9 else sU), sU], [vD 0, vD 1], lud_01u 1 2, 10, 1, 2)) (103, #[sR 0, sR 1, sR 2, sI 1, sD 1, s2, sU, (bif b7 then sF 9 else sU), sU], [], lud_01u 1 2, 10, 1, 2) [(12, 1, 0, 0)] = true := by decide +kernel
theorem f_01u_2n : ∀ b7 : Bool, runIs (run (own_mc 33) own_MN_0 9 (1, 2, 4, 14) 103 18 [] [1] (124, #[sR 0, sR 1, sR 2, sI 0, sD 1, s2, sU, (bif b7 then sF 9 else sU), sU], [vD 0, vD 1], lud_01u 1 2, 10, 1, 2)) (103, #[sR 0, sR 1, sR 2, sI 1, sD 1, s2, sI 0, (bif b7 then sF 9 else sU), sU], [], lud_01u 1 2, 10, 1, 2) [(12, 1, 0, 1)] = true := by decide +kernel
theorem f_01u_3 : ∀ b6 b7 : Bool, runIs (run (own_mc 33) own_MN_0 9 (1, 2, 4, 14) 124 15 [] [] (103, #[sR 0, sR 1, sR 2, sI 1, sD 7, s2, (bif b6 then sI 0 else sU), (bif b7 then sF 9 else sU), sU], [], lud_01u 1 2, 10, 1, 2)) (124, #[sR 0, sR 1, sR 2, sI 1, sD 2, s2, (bif b6 then sI 0 else sU), (bif b7 then sF 9 else sU), sU], [vD 0, vD 2], lud_01u 1 2, 10, 1, 2) [] = true := by decide +kernel
theorem f_01u_4z : ∀ b6 b7 : Bool, runIs (run (own_mc 33) own_MN_0 9 (1, 2, 4, 14) 183 9 [] [0] (124, #[sR 0, sR 1, sR 2, sI 1, sD 2, s2, (bif b6 then sI 0 else sU), (bif b7 then sF 9 else sU), sU], [vD 0, vD 2], lud_01u 1 2, 10, 1, 2)) (183, #[sR 0, sR 1, sR 2, sI 2, sD 2, s2, (bif b6 then sI 0 else sU), (bif b7 then sF 9 else sU), sU], [], lud_01u 1 2, 10, 1, 2) [(12, 2, 0, 0)] = true := by decide +kernel
theorem f_01u_4n : ∀ b6 b7 : Bool, runIs (run (own_mc 33) own_MN_0 9 (1, 2, 4, 14) 183 22 [] [1] (124, #[sR 0, sR 1, sR 2, sI 1, sD 2, s2, (bif b6 then sI 0 else sU), (bif b7 then sF 9 else sU), sU], [vD 0, vD 2], lud_01u 1 2, 10, 1, 2)) (183, #[sR 0, sR 1, sR 2, sI 2, sD 2, s2, sI 0, (bif b7 then sF 9 else sU), sU], [], lud_01u 1 2, 10, 1, 2) [(12, 2, 0, 1)] = true := by decide +kernel
theorem f_01u_5 : ∀ b6 b7 : Bool, runIs (run (own_mc 33) own_MN_0 9 (1, 2, 4, 14) 240 36 [] [] (183, #[sR 0, sR 1, sR 2, sI 2, sD 7, s2, (bif b6 then sI 0 else sU), (bif b7 then sF 9 else sU), sU], [], lud_01u 1 2, 10, 1, 2)) (240, #[sR 0, sR 1, sR 2, sR 12, sI 1, sI 0, sD 10, s2, sU], [vD 0, vD 10], lud_01u 1 2 ++ [(65, 2, [vD 10, vD 0])], 11, 2, 4) [(3, 2, 4, 0)] = true := by decide +kernel
theorem f_01u_6z : runIs (run (own_mc 33) own_MN_0 9 (1, 2, 4, 14) 198 5 [] [0] (240, #[sR 0, sR 1, sR 2, sR 12, sI 1, sI 0, sD 7, s2, sU], [vD 0, vD 7], lud_01u 1 2 ++ [(65, 2, [vD 7, vD 0])], 10, 2, 4)) (198, #[sR 0, sR 1, sR 2, sR 12, sI 0, sI 0, sD 7, s2, sU], [], lud_01u 1 2 ++ [(65, 2, [vD 7, vD 0])], 10, 2, 4) [(12, 7, 0, 0)] = true := by decide +kernel
theorem f_01u_6n : runIs (run (own_mc 33) own_MN_0 9 (1, 2, 4, 14) 198 46 [] [1] (240, #[sR 0, sR 1, sR 2, sR 12, sI 1, sI 0, sD 7, s2, sU], [vD 0, vD 7], lud_01u 1 2 ++ [(65, 2, [vD 7, vD 0])], 10, 2, 4)) (198, #[sR 0, sR 1, sR 2, sR 12, sI 0, sI 0, sD 7, s2, sI 1], [], lud_01u 11 2 ++ [(65, 2, [vD 7, vD 0])], 12, 2, 4) [(12, 7, 0, 1), (2, 6, 7, 0), (1, 1, 10, 0)] = true := by decide +kernel
theorem f_01u_7 : ∀ b8 : Bool, runIs (run (own_mc 33) own_MN_0 9 (1, 2, 4, 14) 240 27 [] [] (198, #[sR 0, sR 1, sR 2, sR 12, sI 0, sI 0, sD 7, s2, (bif b8 then sI 1 else sU)], [], lud_01u 1 2 ++ [(65, 2, [vD 7, vD 0])], 10, 2, 4)) (240, #[sR 0, sR 1, sR 2, sR 12, sI 0, sI 1, sD 10, s2, (bif b8 then sI 1 else sU)], [vD 0, vD 10], lud_01u 1 2 ++ [(65, 2, [vD 7, vD 10])], 11, 2, 4) [(3, 1, 3, 0)] = true := by decide +kernel
theorem f_01u_8z : ∀ b8 : Bool, runIs (run (own_mc 33) own_MN_0 9 (1, 2, 4, 14) 1000000 8 [] [0] (240, #[sR 0, sR 1, sR 2, sR 12, sI 0, sI 1, sD 10, s2, (bif b8 then sI 1 else sU)], [vD 0, vD 10], lud_01u 1 2 ++ [(65, 2, [vD 7, vD 10])], 11, 2, 4)) (307, #[sR 0, sR 1, sR 2, sR 12, sI (-1), sI 1, sD 10, s2, (bif b8 then sI 1 else sU)], [vR 12], lud_01u 1 2 ++ [(65, 2, [vD 7, vD 10])], 11, 2, 4) [(12, 10, 0, 0)] = true := by decide +kernel
theorem f_01u_8n : ∀ b8 : Bool, runIs (run (own_mc 33) own_MN_0 9 (1, 2, 4, 14) 1000000 21 [] [1] (240, #[sR 0, sR 1, sR 2, sR 12, sI 0, sI 1, sD 10, s2, (bif b8 then sI 1 else sU)], [vD 0, vD 10], lud_01u 1 2 ++ [(65, 2, [vD 7, vD 10])], 11, 2, 4)) (307, #[sR 0, sR 1, sR 2, sR 12, sI (-1), sI 1, sD 10, s2, sI 1], [vR 12], lud_01u 1 2 ++ [(65, 2, [vD 7, vD 10])], 11, 2, 4) [(12, 10, 0, 1)] = true := by decide +kernel
theorem lu_01u_E {Xv : Int} (b8 : Bool) (H : LUH p l e s m args below meth c T0 Z a0 h0 hM n0 L0 A K D W vv fi oM rest v0 v1 2 4 (lud_01u 1 2 ++ [(65, 2, [vD 7, vD 0])])) (S : SEH (DFix u 0 (D 6)) (L = 0) a u L Dd M01 M00 M11 M10 (D 3) (D 4)) (B : EHB E i0 i1 Y0 Y1) (hI : Iv = 2 * Y1 - L * Y0) (hX : Xv * Dd = 8 * Iv) (bX : -211106232532992 ≤ Xv ∧ Xv ≤ 211106232532992) (fx : DFix Xv 5 (D 7)) (fy : DFix (8 * Y0 - u * Xv) 5 (D 1)) : Go p e below (EndQ s (Q_tm Z n0 vv fi rest v0 v1 M00 M01 M10 M11 E i0 i1) 2 4) T0 (mkF m 198 (dL A D W #[sR 0, sR 1, sR 2, sR 12, sI 0, sI 0, sD 7, s2, (bif b8 then sI 1 else sU)]) []) := by
  obtain ⟨X0, F0, F1, bX0, G0, G1⟩ := own_arE S B.2.1 hI hX bX fx fy
  refine segH (f_01u_7 b8) H (by decide) (by decide) ⟨own_fixnn F0, trivial⟩ ?_
  intro T1 h1 L1 A1 K1 H1
  rcases own_dzD F0 H.2.1 with ⟨hz, hc⟩ | ⟨hz, hc⟩
  · refine segH (f_01u_8z b8) H1 (by decide) (by decide) ⟨hc, trivial⟩ ?_
    intro T2 h2 L2 A2 K2 H2
    exact goE (endH H2 rfl rfl rfl rfl B F1 F0 (by omega) bX0 (by rw [Int.add_comm]; exact G0) (by rw [Int.add_comm]; exact G1)) rfl
  · refine segH (f_01u_8n b8) H1 (by decide) (by decide) ⟨hc, trivial⟩ ?_
    intro T2 h2 L2 A2 K2 H2
    exact goE (endH H2 rfl rfl rfl rfl B F1 F0 (by omega) bX0 (by rw [Int.add_comm]; exact G0) (by rw [Int.add_comm]; exact G1)) rfl
theorem lu_01u_U  (b6 : Bool) (b7 : Bool) (H : LUH p l e s m args below meth c T0 Z a0 h0 hM n0 L0 A K D W vv fi oM rest v0 v1 1 2 (lud_01u 1 2)) (S : SEH (DFix u 0 (D 6)) (L = 0) a u L Dd M01 M00 M11 M10 (D 3) (D 4)) (B : EHB E i0 i1 Y0 Y1) (hI : Iv = 2 * Y1 - L * Y0) (fy : DFix Y0 2 (D 1)) (fz : DFix Iv 3 (D 2)) : Go p e below (EndQ s (Q_tm Z n0 vv fi rest v0 v1 M00 M01 M10 M11 E i0 i1) 2 4) T0 (mkF m 183 (dL A D W #[sR 0, sR 1, sR 2, sI 2, sD 7, s2, (bif b6 then sI 0 else sU), (bif b7 then sF 9 else sU), sU]) []) := by
  obtain ⟨Xv, hX, bX, fx, fy5, hu⟩ := own_arU S B.2.1 B.2.2 hI fy fz
  obtain ⟨fp, fs⟩ := hu _ S.2.2.2.2.2.1
  refine segH (f_01u_5 b6 b7) H (by decide) (by decide) ⟨own_fixnn fx, trivial⟩ ?_
  intro T1 h1 L1 A1 K1 H1
  rcases own_dzD fx H.2.1 with ⟨hz, hc⟩ | ⟨hz, hc⟩
  · refine goE (segH (f_01u_6z) (H1.re (D' := (own_D [(D 0), (D 1), (D 2), (D 3), (D 4), (D 5), (D 6), (FP.ddiv (D 2) (D 4)), (D 8), (D 9)])) rfl rfl) (by decide) (by decide) ⟨hc, trivial⟩ ?_) rfl
    intro T2 h2 L2 A2 K2 H2
    exact goE (lu_01u_E (D := (own_D [(D 0), (D 1), (D 2), (D 3), (D 4), (D 5), (D 6), (FP.ddiv (D 2) (D 4)), (D 8), (D 9)])) false (H2.re rfl rfl) S B hI hX bX fx (by rw [show 8 * Y0 - u * Xv = 8 * Y0 by rw [hz, Int.mul_zero]; omega]; exact fy5)) rfl
  · refine goE (segH (f_01u_6n) (H1.re (D' := (own_D [(D 0), (D 1), (D 2), (D 3), (D 4), (D 5), (D 6), (FP.ddiv (D 2) (D 4)), (D 8), (D 9)])) rfl rfl) (by decide) (by decide) ⟨hc, own_fixnn fp, own_fixnn fs, trivial⟩ ?_) rfl
    intro T2 h2 L2 A2 K2 H2
    exact goE (lu_01u_E (D := (own_D [(D 0), (FP.dsub (D 1) (FP.dmul (D 6) (FP.ddiv (D 2) (D 4)))), (D 2), (D 3), (D 4), (D 5), (D 6), (FP.ddiv (D 2) (D 4)), (D 8), (D 9)])) true (H2.re rfl rfl) S B hI hX bX fx fs) rfl
theorem lu_01u_L1  (b6 : Bool) (b7 : Bool) (H : LUH p l e s m args below meth c T0 Z a0 h0 hM n0 L0 A K D W vv fi oM rest v0 v1 1 2 (lud_01u 1 2)) (S : SEH (DFix u 0 (D 6)) (L = 0) a u L Dd M01 M00 M11 M10 (D 3) (D 4)) (B : EHB E i0 i1 Y0 Y1) (hI : Iv = 2 * Y1 - L * Y0) (fy : DFix Y0 2 (D 1)) (fz : DFix Iv 3 (D 2)) : Go p e below (EndQ s (Q_tm Z n0 vv fi rest v0 v1 M00 M01 M10 M11 E i0 i1) 2 4) T0 (mkF m 103 (dL A D W #[sR 0, sR 1, sR 2, sI 1, sD 7, s2, (bif b6 then sI 0 else sU), (bif b7 then sF 9 else sU), sU]) []) := by
  refine segH (f_01u_3 b6 b7) H (by decide) (by decide) trivial ?_
  intro T1 h1 L1 A1 K1 H1
  rcases own_dzD fz H.2.1 with ⟨hz, hc⟩ | ⟨hz, hc⟩
  · refine segH (f_01u_4z b6 b7) H1 (by decide) (by decide) ⟨hc, trivial⟩ ?_
    intro T2 h2 L2 A2 K2 H2
    exact goE (lu_01u_U (D := (own_D [(D 0), (D 1), (D 2), (D 3), (D 4), (D 5), (D 6), (D 2), (D 8), (D 9)])) b6 b7 (H2.re rfl rfl) S B hI fy fz) (by cases b6 <;> cases b7 <;> rfl)
  · refine segH (f_01u_4n b6 b7) H1 (by decide) (by decide) ⟨hc, trivial⟩ ?_
    intro T2 h2 L2 A2 K2 H2
    exact goE (lu_01u_U (D := (own_D [(D 0), (D 1), (D 2), (D 3), (D 4), (D 5), (D 6), (D 2), (D 8), (D 9)])) true b7 (H2.re rfl rfl) S B hI fy fz) (by cases b7 <;> rfl)
theorem lu_01u_L0  (b7 : Bool) (H : LUH p l e s m args below meth c T0 Z a0 h0 hM n0 L0 A K D W vv fi oM rest v0 v1 1 2 (lud_01u 1 2)) (S : SEH (DFix u 0 (D 6)) (L = 0) a u L Dd M01 M00 M11 M10 (D 3) (D 4)) (B : EHB E i0 i1 Y0 Y1) (f0_ : DFix Y0 2 (D 1)) (f1_ : DFix Y1 2 (D 2)) : Go p e below (EndQ s (Q_tm Z n0 vv fi rest v0 v1 M00 M01 M10 M11 E i0 i1) 2 4) T0 (mkF m 101 (dL A D W #[sR 0, sR 1, sR 2, sI (-1), (bif b7 then sF 8 else sU), (bif b7 then sD 7 else sU), (bif b7 then s2 else sU), (bif b7 then sF 9 else sU), sU]) []) := by
  obtain ⟨fz3, hl⟩ := own_arL S B.2.1 B.2.2 f0_ f1_
  refine segH (f_01u_1 b7) H (by decide) (by decide) trivial ?_
  intro T1 h1 L1 A1 K1 H1
  rcases own_dzD f0_ H.2.1 with ⟨hz, hc⟩ | ⟨hz, hc⟩
  · refine segH (f_01u_2z b7) H1 (by decide) (by decide) ⟨hc, trivial⟩ ?_
    intro T2 h2 L2 A2 K2 H2
    exact goE (lu_01u_L1 (Iv := 2 * Y1 - L * Y0) (D := (own_D [(D 0), (D 1), (D 2), (D 3), (D 4), (D 5), (D 6), (D 1), (D 8), (D 9)])) false b7 (H2.re rfl rfl) S B rfl f0_ (by rw [show 2 * Y1 - L * Y0 = 2 * Y1 by rw [S.2.2.2.2.2.2.1, Int.zero_mul]; omega]; exact fz3)) (by cases b7 <;> rfl)
  · refine segH (f_01u_2n b7) H1 (by decide) (by decide) ⟨hc, trivial⟩ ?_
    intro T2 h2 L2 A2 K2 H2
    exact goE (lu_01u_L1 (Iv := 2 * Y1 - L * Y0) (D := (own_D [(D 0), (D 1), (D 2), (D 3), (D 4), (D 5), (D 6), (D 1), (D 8), (D 9)])) true b7 (H2.re rfl rfl) S B rfl f0_ (by rw [show 2 * Y1 - L * Y0 = 2 * Y1 by rw [S.2.2.2.2.2.2.1, Int.zero_mul]; omega]; exact fz3)) (by cases b7 <;> rfl)
def luo_01u (la : Nat → Addr) (kl : Nat → ClassId) (pv0 pv1 uv : UInt64) : List OB := [(la 0, kl 0, 64, 2, [.int 0, .int 1]), (la 1, kl 1, 64, 2, [.int 1, .int 0]), (la 2, kl 2, 65, 2, [.double pv0, .double pv1]), (la 3, kl 3, 64, 3, [.int 0, .int 0, .int 0]), (la 4, kl 4, 64, 0, []), (la 5, kl 5, 65, 0, []), (la 6, kl 6, 64, 3, [.int 0, .int 1, .int 1]), (la 7, kl 7, 64, 2, [.int 0, .int 0]), (la 8, kl 8, 65, 2, [.double uv, .double 0])]
theorem tm_01u (hw : HW a0 Z) {la : Nat → Addr} {kl : Nat → ClassId} {g : Nat → Value} {pv0 pv1 uv : UInt64} (S : SEH (DFix u 0 uv) (L = 0) a u L Dd M01 M00 M11 M10 pv0 pv1) : TmSpec l Z n0 M00 M01 M10 M11 (tmL g la) (luo_01u la kl pv0 pv1 uv) := by
  refine tmG hw rfl ?_
  intro p e s m args below meth c T1 h0 h1 L1 A1 K1 cnt oM rest vv fi x y y0 y1 Y0 Y1 i0 i1 E sh G YJ B f0 f1
  rcases sh with _ | ⟨n4, x5, n7⟩
  · exact goE (lu_01u_L0 (K := tmK K1 kl) (D := (own_D [0, y0, y1, pv0, pv1, 0, uv, 0, 0, 0])) false ⟨G, rfl, Yf.to (Yf.pick (os' := own_fl (tmA A1 la) (tmK K1 kl) (own_D [0, y0, y1, pv0, pv1, 0, uv, 0, 0, 0]) (tmW A1 x y cnt g) 0 (lud_01u 1 2)) YJ [2, 1, 0, 3, 4, 5, 6, 7, 8, 9, 10, 11] (by decide) rfl) rfl⟩ S B f0 f1) rfl
  · obtain ⟨w4, rfl⟩ : ∃ w, iW w = n4 := ⟨_, own_iw n4⟩
    obtain ⟨w7, rfl⟩ : ∃ w, iW w = n7 := ⟨_, own_iw n7⟩
    exact goE (lu_01u_L0 (K := tmK K1 kl) (D := (own_D [0, y0, y1, pv0, pv1, 0, uv, x5, w4, w7])) true ⟨G, rfl, Yf.to (Yf.pick (os' := own_fl (tmA A1 la) (tmK K1 kl) (own_D [0, y0, y1, pv0, pv1, 0, uv, x5, w4, w7]) (tmW A1 x y cnt g) 0 (lud_01u 1 2)) YJ [2, 1, 0, 3, 4, 5, 6, 7, 8, 9, 10, 11] (by decide) rfl) rfl⟩ S B f0 f1) rfl
def lud_00 (a b : UInt64) : List AD := [(0, 0, [vU 0, vU 1, vR 7, vR 8, vR 10, vR 11] ++ uS 2 7 ++ [vI 2, vR 3, vR 4, vR 5, vU 9, vR 6, vR 9] ++ uS 10 9), (65, 2, [vU 90, vU 91]), (65, 2, [vD a, vD b]), (64, 2, [vI 0, vI 1]), (64, 2, [vI 0, vI 1]), (65, 2, [vD 3, vD 4]), (64, 3, [vI 0, vI 0, vI 0]), (64, 0, []), (65, 0, []), (64, 3, [vI 0, vI 0, vI 0]), (64, 0, []), (65, 0, [])]
theorem f_00_1 : ∀ b7 : Bool, runIs (run (own_mc 33) own_MN_0 9 (1, 2, 4, 14) 124 17 [] [] (101, #[sR 0, sR 1, sR 2, sI (-1), (bif b7 then sF 8 else sU), (bif b7 then sD 7 else sU), (bif b7 then s2 else sU), (bif b7 then sF 9 else sU), sU], [], lud_00 1 2, 10, 1, 2)) (124, #[sR 0, sR 1, sR 2, sI 0, sD 1, s2, sU, (bif b7 then sF 9 else sU), sU], [vD 0, vD 1], lud_00 1 2, 10, 1, 2) [] = true := by decide +kernel
theorem f_00_2z : ∀ b7 : Bool, runIs (run (own_mc 33) own_MN_0 9 (1, 2, 4, 14) 103 5 [] [0] (124, #[sR 0, sR 1, sR 2, sI 0, sD 1, s2, sU, (bif b7 then sF 9 else sU), sU], [vD 0, vD 1], lud_00 1 2, 10, 1, 2)) (103, #[sR 0, sR 1, sR 2, sI 1, sD 1, s2, sU, (bif b7 then sF 9 else sU), sU], [], lud_00 1 2, 10, 1, 2) [(12, 1, 0, 0)] = true := by decide +kernel
theorem f_00_2n : ∀ b7 : Bool, runIs (run (own_mc 33) own_MN_0 9 (1, 2, 4, 14) 103 18 [] [1] (124, #[sR 0, sR 1, sR 2, sI 0, sD 1, s2, sU, (bif b7 then sF 9 else sU), sU], [vD 0, vD 1], lud_00 1 2, 10, 1, 2)) (103, #[sR 0, sR 1, sR 2, sI 1, sD 1, s2, sI 0, (bif b7 then sF 9 else sU), sU], [], lud_00 1 2, 10, 1, 2) [(12, 1, 0, 1)] = true := by decide +kernel
theorem f_00_3 : ∀ b6 b7 : Bool, runIs (run (own_mc 33) own_MN_0 9 (1, 2, 4, 14) 124 15 [] [] (103, #[sR 0, sR 1, sR 2, sI 1, sD 7, s2, (bif b6 then sI 0 else sU), (bif b7 then sF 9 else sU), sU], [], lud_00 1 2, 10, 1, 2)) (124, #[sR 0, sR 1, sR 2, sI 1, sD 2, s2, (bif b6 then sI 0 else sU), (bif b7 then sF 9 else sU), sU], [vD 0, vD 2], lud_00 1 2, 10, 1, 2) [] = true := by decide +kernel
theorem f_00_4z : ∀ b6 b7 : Bool, runIs (run (own_mc 33) own_MN_0 9 (1, 2, 4, 14) 183 9 [] [0] (124, #[sR 0, sR 1, sR 2, sI 1, sD 2, s2, (bif b6 then sI 0 else sU), (bif b7 then sF 9 else sU), sU], [vD 0, vD 2], lud_00 1 2, 10, 1, 2)) (183, #[sR 0, sR 1, sR 2, sI 2, sD 2, s2, (bif b6 then sI 0 else sU), (bif b7 then sF 9 else sU), sU], [], lud_00 1 2, 10, 1, 2) [(12, 2, 0, 0)] = true := by decide +kernel
theorem f_00_4n : ∀ b6 b7 : Bool, runIs (run (own_mc 33) own_MN_0 9 (1, 2, 4, 14) 183 22 [] [1] (124, #[sR 0, sR 1, sR 2, sI 1, sD 2, s2, (bif b6 then sI 0 else sU), (bif b7 then sF 9 else sU), sU], [vD 0, vD 2], lud_00 1 2, 10, 1, 2)) (183, #[sR 0, sR 1, sR 2, sI 2, sD 2, s2, sI 0, (bif b7 then sF 9 else sU), sU], [], lud_00 1 2, 10, 1, 2) [(12, 2, 0, 1)] = true := by decide +kernel
theorem f_00_5 : ∀ b6 b7 : Bool, runIs (run (own_mc 33) own_MN_0 9 (1, 2, 4, 14) 240 36 [] [] (183, #[sR 0, sR 1, sR 2, sI 2, sD 7, s2, (bif b6 then sI 0 else sU), (bif b7 then sF 9 else sU), sU], [], lud_00 1 2, 10, 1, 2)) (240, #[sR 0, sR 1, sR 2, sR 12, sI 1, sI 1, sD 10, s2, sU], [vD 0, vD 10], lud_00 1 2 ++ [(65, 2, [vD 0, vD 10])], 11, 2, 4) [(3, 2, 4, 0)] = true := by decide +kernel
theorem f_00_6z : runIs (run (own_mc 33) own_MN_0 9 (1, 2, 4, 14) 198 5 [] [0] (240, #[sR 0, sR 1, sR 2, sR 12, sI 1, sI 1, sD 7, s2, sU], [vD 0, vD 7], lud_00 1 2 ++ [(65, 2, [vD 0, vD 7])], 10, 2, 4)) (198, #[sR 0, sR 1, sR 2, sR 12, sI 0, sI 1, sD 7, s2, sU], [], lud_00 1 2 ++ [(65, 2, [vD 0, vD 7])], 10, 2, 4) [(12, 7, 0, 0)] = true := by decide +kernel
theorem f_00_6n : runIs (run (own_mc 33) own_MN_0 9 (1, 2, 4, 14) 198 18 [] [1] (240, #[sR 0, sR 1, sR 2, sR 12, sI 1, sI 1, sD 7, s2, sU], [vD 0, vD 7], lud_00 1 2 ++ [(65, 2, [vD 0, vD 7])], 10, 2, 4)) (198, #[sR 0, sR 1, sR 2, sR 12, sI 0, sI 1, sD 7, s2, sI 0], [], lud_00 1 2 ++ [(65, 2, [vD 0, vD 7])], 10, 2, 4) [(12, 7, 0, 1)] = true := by decide +kernel
theorem f_00_7 : ∀ b8 : Bool, runIs (run (own_mc 33) own_MN_0 9 (1, 2, 4, 14) 240 27 [] [] (198, #[sR 0, sR 1, sR 2, sR 12, sI 0, sI 1, sD 7, s2, (bif b8 then sI 0 else sU)], [], lud_00 1 2 ++ [(65, 2, [vD 0, vD 7])], 10, 2, 4)) (240, #[sR 0, sR 1, sR 2, sR 12, sI 0, sI 0, sD 10, s2, (bif b8 then sI 0 else sU)], [vD 0, vD 10], lud_00 1 2 ++ [(65, 2, [vD 10, vD 7])], 11, 2, 4) [(3, 1, 3, 0)] = true := by decide +kernel
theorem f_00_8z : ∀ b8 : Bool, runIs (run (own_mc 33) own_MN_0 9 (1, 2, 4, 14) 1000000 8 [] [0] (240, #[sR 0, sR 1, sR 2, sR 12, sI 0, sI 0, sD 10, s2, (bif b8 then sI 0 else sU)], [vD 0, vD 10], lud_00 1 2 ++ [(65, 2, [vD 10, vD 7])], 11, 2, 4)) (307, #[sR 0, sR 1, sR 2, sR 12, sI (-1), sI 0, sD 10, s2, (bif b8 then sI 0 else sU)], [vR 12], lud_00 1 2 ++ [(65, 2, [vD 10, vD 7])], 11, 2, 4) [(12, 10, 0, 0)] = true := by decide +kernel
theorem f_00_8n : ∀ b8 : Bool, runIs (run (own_mc 33) own_MN_0 9 (1, 2, 4, 14) 1000000 21 [] [1] (240, #[sR 0, sR 1, sR 2, sR 12, sI 0, sI 0, sD 10, s2, (bif b8 then sI 0 else sU)], [vD 0, vD 10], lud_00 1 2 ++ [(65, 2, [vD 10, vD 7])], 11, 2, 4)) (307, #[sR 0, sR 1, sR 2, sR 12, sI (-1), sI 0, sD 10, s2, sI 0], [vR 12], lud_00 1 2 ++ [(65, 2, [vD 10, vD 7])], 11, 2, 4) [(12, 10, 0, 1)] = true := by decide +kernel
theorem lu_00_E {Xv : Int} (b8 : Bool) (H : LUH p l e s m args below meth c T0 Z a0 h0 hM n0 L0 A K D W vv fi oM rest v0 v1 2 4 (lud_00 1 2 ++ [(65, 2, [vD 0, vD 7])])) (S : SEH (u = 0) (L = 0) a u L Dd M00 M01 M10 M11 (D 3) (D 4)) (B : EHB E i0 i1 Y0 Y1) (hI : Iv = 2 * Y1 - L * Y0) (hX : Xv * Dd = 8 * Iv) (bX : -211106232532992 ≤ Xv ∧ Xv ≤ 211106232532992) (fx : DFix Xv 5 (D 7)) (fy : DFix (8 * Y0 - u * Xv) 5 (D 1)) : Go p e below (EndQ s (Q_tm Z n0 vv fi rest v0 v1 M00 M01 M10 M11 E i0 i1) 2 4) T0 (mkF m 198 (dL A D W #[sR 0, sR 1, sR 2, sR 12, sI 0, sI 1, sD 7, s2, (bif b8 then sI 0 else sU)]) []) := by
  obtain ⟨X0, F0, F1, bX0, G0, G1⟩ := own_arE S B.2.1 hI hX bX fx fy
  refine segH (f_00_7 b8) H (by decide) (by decide) ⟨own_fixnn F0, trivial⟩ ?_
  intro T1 h1 L1 A1 K1 H1
  rcases own_dzD F0 H.2.1 with ⟨hz, hc⟩ | ⟨hz, hc⟩
  · refine segH (f_00_8z b8) H1 (by decide) (by decide) ⟨hc, trivial⟩ ?_
    intro T2 h2 L2 A2 K2 H2
    exact goE (endH H2 rfl rfl rfl rfl B F0 F1 bX0 (by omega) G0 G1) rfl
  · refine segH (f_00_8n b8) H1 (by decide) (by decide) ⟨hc, trivial⟩ ?_
    intro T2 h2 L2 A2 K2 H2
    exact goE (endH H2 rfl rfl rfl rfl B F0 F1 bX0 (by omega) G0 G1) rfl
theorem lu_00_U  (b6 : Bool) (b7 : Bool) (H : LUH p l e s m args below meth c T0 Z a0 h0 hM n0 L0 A K D W vv fi oM rest v0 v1 1 2 (lud_00 1 2)) (S : SEH (u = 0) (L = 0) a u L Dd M00 M01 M10 M11 (D 3) (D 4)) (B : EHB E i0 i1 Y0 Y1) (hI : Iv = 2 * Y1 - L * Y0) (fy : DFix Y0 2 (D 1)) (fz : DFix Iv 3 (D 2)) : Go p e below (EndQ s (Q_tm Z n0 vv fi rest v0 v1 M00 M01 M10 M11 E i0 i1) 2 4) T0 (mkF m 183 (dL A D W #[sR 0, sR 1, sR 2, sI 2, sD 7, s2, (bif b6 then sI 0 else sU), (bif b7 then sF 9 else sU), sU]) []) := by
  obtain ⟨Xv, hX, bX, fx, fy5, hu⟩ := own_arU S B.2.1 B.2.2 hI fy fz
  refine segH (f_00_5 b6 b7) H (by decide) (by decide) ⟨own_fixnn fx, trivial⟩ ?_
  intro T1 h1 L1 A1 K1 H1
  rcases own_dzD fx H.2.1 with ⟨hz, hc⟩ | ⟨hz, hc⟩
  · refine goE (segH (f_00_6z) (H1.re (D' := (own_D [(D 0), (D 1), (D 2), (D 3), (D 4), (D 5), (D 6), (FP.ddiv (D 2) (D 4)), (D 8), (D 9)])) rfl rfl) (by decide) (by decide) ⟨hc, trivial⟩ ?_) rfl
    intro T2 h2 L2 A2 K2 H2
    exact goE (lu_00_E (D := (own_D [(D 0), (D 1), (D 2), (D 3), (D 4), (D 5), (D 6), (FP.ddiv (D 2) (D 4)), (D 8), (D 9)])) false (H2.re rfl rfl) S B hI hX bX fx (by rw [show 8 * Y0 - u * Xv = 8 * Y0 by rw [S.2.2.2.2.2.1, Int.zero_mul]; omega]; exact fy5)) rfl
  · refine goE (segH (f_00_6n) (H1.re (D' := (own_D [(D 0), (D 1), (D 2), (D 3), (D 4), (D 5), (D 6), (FP.ddiv (D 2) (D 4)), (D 8), (D 9)])) rfl rfl) (by decide) (by decide) ⟨hc, trivial⟩ ?_) rfl
    intro T2 h2 L2 A2 K2 H2
    exact goE (lu_00_E (D := (own_D [(D 0), (D 1), (D 2), (D 3), (D 4), (D 5), (D 6), (FP.ddiv (D 2) (D 4)), (D 8), (D 9)])) true (H2.re rfl rfl) S B hI hX bX fx (by rw [show 8 * Y0 - u * Xv = 8 * Y0 by rw [S.2.2.2.2.2.1, Int.zero_mul]; omega]; exact fy5)) rfl
theorem lu_00_L1  (b6 : Bool) (b7 : Bool) (H : LUH p l e s m args below meth c T0 Z a0 h0 hM n0 L0 A K D W vv fi oM rest v0 v1 1 2 (lud_00 1 2)) (S : SEH (u = 0) (L = 0) a u L Dd M00 M01 M10 M11 (D 3) (D 4)) (B : EHB E i0 i1 Y0 Y1) (hI : Iv = 2 * Y1 - L * Y0) (fy : DFix Y0 2 (D 1)) (fz : DFix Iv 3 (D 2)) : Go p e below (EndQ s (Q_tm Z n0 vv fi rest v0 v1 M00 M01 M10 M11 E i0 i1) 2 4) T0 (mkF m 103 (dL A D W #[sR 0, sR 1, sR 2, sI 1, sD 7, s2, (bif b6 then sI 0 else sU), (bif b7 then sF 9 else sU), sU]) []) := by
  refine segH (f_00_3 b6 b7) H (by decide) (by decide) trivial ?_
  intro T1 h1 L1 A1 K1 H1
  rcases own_dzD fz H.2.1 with ⟨hz, hc⟩ | ⟨hz, hc⟩
  · refine segH (f_00_4z b6 b7) H1 (by decide) (by decide) ⟨hc, trivial⟩ ?_
    intro T2 h2 L2 A2 K2 H2
    exact goE (lu_00_U (D := (own_D [(D 0), (D 1), (D 2), (D 3), (D 4), (D 5), (D 6), (D 2), (D 8), (D 9)])) b6 b7 (H2.re rfl rfl) S B hI fy fz) (by cases b6 <;> cases b7 <;> rfl)
  · refine segH (f_00_4n b6 b7) H1 (by decide) (by decide) ⟨hc, trivial⟩ ?_
    intro T2 h2 L2 A2 K2 H2
    exact goE (lu_00_U (D := (own_D [(D 0), (D 1), (D 2), (D 3), (D 4), (D 5), (D 6), (D 2), (D 8), (D 9)])) true b7 (H2.re rfl rfl) S B hI fy fz) (by cases b7 <;> rfl)
theorem lu_00_L0  (b7 : Bool) (H : LUH p l e s m args below meth c T0 Z a0 h0 hM n0 L0 A K D W vv fi oM rest v0 v1 1 2 (lud_00 1 2)) (S : SEH (u = 0) (L = 0) a u L Dd M00 M01 M10 M11 (D 3) (D 4)) (B : EHB E i0 i1 Y0 Y1) (f0_ : DFix Y0 2 (D 1)) (f1_ : DFix Y1 2 (D 2)) : Go p e below (EndQ s (Q_tm Z n0 vv fi rest v0 v1 M00 M01 M10 M11 E i0 i1) 2 4) T0 (mkF m 101 (dL A D W #[sR 0, sR 1, sR 2, sI (-1), (bif b7 then sF 8 else sU), (bif b7 then sD 7 else sU), (bif b7 then s2 else sU), (bif b7 then sF 9 else sU), sU]) []) := by
  obtain ⟨fz3, hl⟩ := own_arL S B.2.1 B.2.2 f0_ f1_
  refine segH (f_00_1 b7) H (by decide) (by decide) trivial ?_
  intro T1 h1 L1 A1 K1 H1
  rcases own_dzD f0_ H.2.1 with ⟨hz, hc⟩ | ⟨hz, hc⟩
  · refine segH (f_00_2z b7) H1 (by decide) (by decide) ⟨hc, trivial⟩ ?_
    intro T2 h2 L2 A2 K2 H2
    exact goE (lu_00_L1 (Iv := 2 * Y1 - L * Y0) (D := (own_D [(D 0), (D 1), (D 2), (D 3), (D 4), (D 5), (D 6), (D 1), (D 8), (D 9)])) false b7 (H2.re rfl rfl) S B rfl f0_ (by rw [show 2 * Y1 - L * Y0 = 2 * Y1 by rw [S.2.2.2.2.2.2.1, Int.zero_mul]; omega]; exact fz3)) (by cases b7 <;> rfl)
  · refine segH (f_00_2n b7) H1 (by decide) (by decide) ⟨hc, trivial⟩ ?_
    intro T2 h2 L2 A2 K2 H2
    exact goE (lu_00_L1 (Iv := 2 * Y1 - L * Y0) (D := (own_D [(D 0), (D 1), (D 2), (D 3), (D 4), (D 5), (D 6), (D 1), (D 8), (D 9)])) true b7 (H2.re rfl rfl) S B rfl f0_ (by rw [show 2 * Y1 - L * Y0 = 2 * Y1 by rw [S.2.2.2.2.2.2.1, Int.zero_mul]; omega]; exact fz3)) (by cases b7 <;> rfl)
def luo_00 (la : Nat → Addr) (kl : Nat → ClassId) (pv0 pv1 : UInt64) : List OB := [(la 0, kl 0, 64, 2, [.int 0, .int 1]), (la 1, kl 1, 64, 2, [.int 0, .int 1]), (la 2, kl 2, 65, 2, [.double pv0, .double pv1]), (la 3, kl 3, 64, 3, [.int 0, .int 0, .int 0]), (la 4, kl 4, 64, 0, []), (la 5, kl 5, 65, 0, []), (la 6, kl 6, 64, 3, [.int 0, .int 0, .int 0]), (la 7, kl 7, 64, 0, []), (la 8, kl 8, 65, 0, [])]
theorem tm_00 (hw : HW a0 Z) {la : Nat → Addr} {kl : Nat → ClassId} {g : Nat → Value} {pv0 pv1 : UInt64} (S : SEH (u = 0) (L = 0) a u L Dd M00 M01 M10 M11 pv0 pv1) : TmSpec l Z n0 M00 M01 M10 M11 (tmL g la) (luo_00 la kl pv0 pv1) := by
  refine tmG hw rfl ?_
  intro p e s m args below meth c T1 h0 h1 L1 A1 K1 cnt oM rest vv fi x y y0 y1 Y0 Y1 i0 i1 E sh G YJ B f0 f1
  rcases sh with _ | ⟨n4, x5, n7⟩
  · exact goE (lu_00_L0 (K := tmK K1 kl) (D := (own_D [0, y0, y1, pv0, pv1, 0, 0, 0, 0, 0])) false ⟨G, rfl, Yf.to (Yf.pick (os' := own_fl (tmA A1 la) (tmK K1 kl) (own_D [0, y0, y1, pv0, pv1, 0, 0, 0, 0, 0]) (tmW A1 x y cnt g) 0 (lud_00 1 2)) YJ [2, 1, 0, 3, 4, 5, 6, 7, 8, 9, 10, 11] (by decide) rfl) rfl⟩ S B f0 f1) rfl
  · obtain ⟨w4, rfl⟩ : ∃ w, iW w = n4 := ⟨_, own_iw n4⟩
    obtain ⟨w7, rfl⟩ : ∃ w, iW w = n7 := ⟨_, own_iw n7⟩
    exact goE (lu_00_L0 (K := tmK K1 kl) (D := (own_D [0, y0, y1, pv0, pv1, 0, 0, x5, w4, w7])) true ⟨G, rfl, Yf.to (Yf.pick (os' := own_fl (tmA A1 la) (tmK K1 kl) (own_D [0, y0, y1, pv0, pv1, 0, 0, x5, w4, w7]) (tmW A1 x y cnt g) 0 (lud_00 1 2)) YJ [2, 1, 0, 3, 4, 5, 6, 7, 8, 9, 10, 11] (by decide) rfl) rfl⟩ S B f0 f1) rfl
def lud_10 (a b : UInt64) : List AD := [(0, 0, [vU 0, vU 1, vR 7, vR 8, vR 10, vR 11] ++ uS 2 7 ++ [vI 2, vR 3, vR 4, vR 5, vU 9, vR 6, vR 9] ++ uS 10 9), (65, 2, [vU 90, vU 91]), (65, 2, [vD a, vD b]), (64, 2, [vI 1, vI 0]), (64, 2, [vI 0, vI 1]), (65, 2, [vD 3, vD 4]), (64, 3, [vI 0, vI 0, vI 0]), (64, 0, []), (65, 0, []), (64, 3, [vI 0, vI 0, vI 0]), (64, 0, []), (65, 0, [])]
theorem f_10_1 : ∀ b7 : Bool, runIs (run (own_mc 33) own_MN_0 9 (1, 2, 4, 14) 124 17 [] [] (101, #[sR 0, sR 1, sR 2, sI (-1), (bif b7 then sF 8 else sU), (bif b7 then sD 7 else sU), (bif b7 then s2 else sU), (bif b7 then sF 9 else sU), sU], [], lud_10 1 2, 10, 1, 2)) (124, #[sR 0, sR 1, sR 2, sI 0, sD 2, s2, sU, (bif b7 then sF 9 else sU), sU], [vD 0, vD 2], lud_10 1 2, 10, 1, 2) [] = true := by decide +kernel
theorem f_10_2z : ∀ b7 : Bool, runIs (run (own_mc 33) own_MN_0 9 (1, 2, 4, 14) 103 5 [] [0] (124, #[sR 0, sR 1, sR 2, sI 0, sD 2, s2, sU, (bif b7 then sF 9 else sU), sU], [vD 0, vD 2], lud_10 1 2, 10, 1, 2)) (103, #[sR 0, sR 1, sR 2, sI 1, sD 2, s2, sU, (bif b7 then sF 9 else sU), sU], [], lud_10 1 2, 10, 1, 2) [(12, 2, 0, 0)] = true := by decide +kernel
theorem f_10_2n : ∀ b7 : Bool, runIs (run (own_mc 33) own_MN_0 9 (1, 2, 4, 14) 103 18 [] [1] (124, #[sR 0, sR 1, sR 2, sI 0, sD 2, s2, sU, (bif b7 then sF 9 else sU), sU], [vD 0, vD 2], lud_10 1 2, 10, 1, 2)) (103, #[sR 0, sR 1, sR 2, sI 1, sD 2, s2, sI 0, (bif b7 then sF 9 else sU), sU], [], lud_10 1 2, 10, 1, 2) [(12, 2, 0, 1)] = true := by decide +kernel
theorem f_10_3 : ∀ b6 b7 : Bool, runIs (run (own_mc 33) own_MN_0 9 (1, 2, 4, 14) 124 15 [] [] (103, #[sR 0, sR 1, sR 2, sI 1, sD 7, s2, (bif b6 then sI 0 else sU), (bif b7 then sF 9 else sU), sU], [], lud_10 1 2, 10, 1, 2)) (124, #[sR 0, sR 1, sR 2, sI 1, sD 1, s2, (bif b6 then sI 0 else sU), (bif b7 then sF 9 else sU), sU], [vD 0, vD 1], lud_10 1 2, 10, 1, 2) [] = true := by decide +kernel
theorem f_10_4z : ∀ b6 b7 : Bool, runIs (run (own_mc 33) own_MN_0 9 (1, 2, 4, 14) 183 9 [] [0] (124, #[sR 0, sR 1, sR 2, sI 1, sD 1, s2, (bif b6 then sI 0 else sU), (bif b7 then sF 9 else sU), sU], [vD 0, vD 1], lud_10 1 2, 10, 1, 2)) (183, #[sR 0, sR 1, sR 2, sI 2, sD 1, s2, (bif b6 then sI 0 else sU), (bif b7 then sF 9 else sU), sU], [], lud_10 1 2, 10, 1, 2) [(12, 1, 0, 0)] = true := by decide +kernel
theorem f_10_4n : ∀ b6 b7 : Bool, runIs (run (own_mc 33) own_MN_0 9 (1, 2, 4, 14) 183 22 [] [1] (124, #[sR 0, sR 1, sR 2, sI 1, sD 1, s2, (bif b6 then sI 0 else sU), (bif b7 then sF 9 else sU), sU], [vD 0, vD 1], lud_10 1 2, 10, 1, 2)) (183, #[sR 0, sR 1, sR 2, sI 2, sD 1, s2, sI 0, (bif b7 then sF 9 else sU), sU], [], lud_10 1 2, 10, 1, 2) [(12, 1, 0, 1)] = true := by decide +kernel
theorem f_10_5 : ∀ b6 b7 : Bool, runIs (run (own_mc 33) own_MN_0 9 (1, 2, 4, 14) 240 36 [] [] (183, #[sR 0, sR 1, sR 2, sI 2, sD 7, s2, (bif b6 then sI 0 else sU), (bif b7 then sF 9 else sU), sU], [], lud_10 1 2, 10, 1, 2)) (240, #[sR 0, sR 1, sR 2, sR 12, sI 1, sI 1, sD 10, s2, sU], [vD 0, vD 10], lud_10 1 2 ++ [(65, 2, [vD 0, vD 10])], 11, 2, 4) [(3, 1, 4, 0)] = true := by decide +kernel
theorem f_10_6z : runIs (run (own_mc 33) own_MN_0 9 (1, 2, 4, 14) 198 5 [] [0] (240, #[sR 0, sR 1, sR 2, sR 12, sI 1, sI 1, sD 7, s2, sU], [vD 0, vD 7], lud_10 1 2 ++ [(65, 2, [vD 0, vD 7])], 10, 2, 4)) (198, #[sR 0, sR 1, sR 2, sR 12, sI 0, sI 1, sD 7, s2, sU], [], lud_10 1 2 ++ [(65, 2, [vD 0, vD 7])], 10, 2, 4) [(12, 7, 0, 0)] = true := by decide +kernel
theorem f_10_6n : runIs (run (own_mc 33) own_MN_0 9 (1, 2, 4, 14) 198 18 [] [1] (240, #[sR 0, sR 1, sR 2, sR 12, sI 1, sI 1, sD 7, s2, sU], [vD 0, vD 7], lud_10 1 2 ++ [(65, 2, [vD 0, vD 7])], 10, 2, 4)) (198, #[sR 0, sR 1, sR 2, sR 12, sI 0, sI 1, sD 7, s2, sI 0], [], lud_10 1 2 ++ [(65, 2, [vD 0, vD 7])], 10, 2, 4) [(12, 7, 0, 1)] = true := by decide +kernel
theorem f_10_7 : ∀ b8 : Bool, runIs (run (own_mc 33) own_MN_0 9 (1, 2, 4, 14) 240 27 [] [] (198, #[sR 0, sR 1, sR 2, sR 12, sI 0, sI 1, sD 7, s2, (bif b8 then sI 0 else sU)], [], lud_10 1 2 ++ [(65, 2, [vD 0, vD 7])], 10, 2, 4)) (240, #[sR 0, sR 1, sR 2, sR 12, sI 0, sI 0, sD 10, s2, (bif b8 then sI 0 else sU)], [vD 0, vD 10], lud_10 1 2 ++ [(65, 2, [vD 10, vD 7])], 11, 2, 4) [(3, 2, 3, 0)] = true := by decide +kernel
theorem f_10_8z : ∀ b8 : Bool, runIs (run (own_mc 33) own_MN_0 9 (1, 2, 4, 14) 1000000 8 [] [0] (240, #[sR 0, sR 1, sR 2, sR 12, sI 0, sI 0, sD 10, s2, (bif b8 then sI 0 else sU)], [vD 0, vD 10], lud_10 1 2 ++ [(65, 2, [vD 10, vD 7])], 11, 2, 4)) (307, #[sR 0, sR 1, sR 2, sR 12, sI (-1), sI 0, sD 10, s2, (bif b8 then sI 0 else sU)], [vR 12], lud_10 1 2 ++ [(65, 2, [vD 10, vD 7])], 11, 2, 4) [(12, 10, 0, 0)] = true := by decide +kernel
theorem f_10_8n : ∀ b8 : Bool, runIs (run (own_mc 33) own_MN_0 9 (1, 2, 4, 14) 1000000 21 [] [1] (240, #[sR 0, sR 1, sR 2, sR 12, sI 0, sI 0, sD 10, s2, (bif b8 then sI 0 else sU)], [vD 0, vD 10], lud_10 1 2 ++ [(65, 2, [vD 10, vD 7])], 11, 2, 4)) (307, #[sR 0, sR 1, sR 2, sR 12, sI (-1), sI 0, sD 10, s2, sI 0], [vR 12], lud_10 1 2 ++ [(65, 2, [vD 10, vD 7])], 11, 2, 4) [(12, 10, 0, 1)] = true := by decide +kernel
theorem lu_10_E {Xv : Int} (b8 : Bool) (H : LUH p l e s m args below meth c T0 Z a0 h0 hM n0 L0 A K D W vv fi oM rest v0 v1 2 4 (lud_10 1 2 ++ [(65, 2, [vD 0, vD 7])])) (S : SEH (u = 0) (L = 0) a u L Dd M10 M11 M00 M01 (D 3) (D 4)) (B : EHB E i0 i1 Y0 Y1) (hI : Iv = 2 * Y0 - L * Y1) (hX : Xv * Dd = 8 * Iv) (bX : -211106232532992 ≤ Xv ∧ Xv ≤ 211106232532992) (fx : DFix Xv 5 (D 7)) (fy : DFix (8 * Y1 - u * Xv) 5 (D 2)) : Go p e below (EndQ s (Q_tm Z n0 vv fi rest v0 v1 M00 M01 M10 M11 E i0 i1) 2 4) T0 (mkF m 198 (dL A D W #[sR 0, sR 1, sR 2, sR 12, sI 0, sI 1, sD 7, s2, (bif b8 then sI 0 else sU)]) []) := by
  obtain ⟨X0, F0, F1, bX0, G0, G1⟩ := own_arE S B.2.2 hI hX bX fx fy
  refine segH (f_10_7 b8) H (by decide) (by decide) ⟨own_fixnn F0, trivial⟩ ?_
  intro T1 h1 L1 A1 K1 H1
  rcases own_dzD F0 H.2.1 with ⟨hz, hc⟩ | ⟨hz, hc⟩
  · refine segH (f_10_8z b8) H1 (by decide) (by decide) ⟨hc, trivial⟩ ?_
    intro T2 h2 L2 A2 K2 H2
    exact goE (endH H2 rfl rfl rfl rfl B F0 F1 bX0 (by omega) G1 G0) rfl
  · refine segH (f_10_8n b8) H1 (by decide) (by decide) ⟨hc, trivial⟩ ?_
    intro T2 h2 L2 A2 K2 H2
    exact goE (endH H2 rfl rfl rfl rfl B F0 F1 bX0 (by omega) G1 G0) rfl
theorem lu_10_U  (b6 : Bool) (b7 : Bool) (H : LUH p l e s m args below meth c T0 Z a0 h0 hM n0 L0 A K D W vv fi oM rest v0 v1 1 2 (lud_10 1 2)) (S : SEH (u = 0) (L = 0) a u L Dd M10 M11 M00 M01 (D 3) (D 4)) (B : EHB E i0 i1 Y0 Y1) (hI : Iv = 2 * Y0 - L * Y1) (fy : DFix Y1 2 (D 2)) (fz : DFix Iv 3 (D 1)) : Go p e below (EndQ s (Q_tm Z n0 vv fi rest v0 v1 M00 M01 M10 M11 E i0 i1) 2 4) T0 (mkF m 183 (dL A D W #[sR 0, sR 1, sR 2, sI 2, sD 7, s2, (bif b6 then sI 0 else sU), (bif b7 then sF 9 else sU), sU]) []) := by
  obtain ⟨Xv, hX, bX, fx, fy5, hu⟩ := own_arU S B.2.2 B.2.1 hI fy fz
  refine segH (f_10_5 b6 b7) H (by decide) (by decide) ⟨own_fixnn fx, trivial⟩ ?_
  intro T1 h1 L1 A1 K1 H1
  rcases own_dzD fx H.2.1 with ⟨hz, hc⟩ | ⟨hz, hc⟩
  · refine goE (segH (f_10_6z) (H1.re (D' := (own_D [(D 0), (D 1), (D 2), (D 3), (D 4), (D 5), (D 6), (FP.ddiv (D 1) (D 4)), (D 8), (D 9)])) rfl rfl) (by decide) (by decide) ⟨hc, trivial⟩ ?_) rfl
    intro T2 h2 L2 A2 K2 H2
    exact goE (lu_10_E (D := (own_D [(D 0), (D 1), (D 2), (D 3), (D 4), (D 5), (D 6), (FP.ddiv (D 1) (D 4)), (D 8), (D 9)])) false (H2.re rfl rfl) S B hI hX bX fx (by rw [show 8 * Y1 - u * Xv = 8 * Y1 by rw [S.2.2.2.2.2.1, Int.zero_mul]; omega]; exact fy5)) rfl
  · refine goE (segH (f_10_6n) (H1.re (D' := (own_D [(D 0), (D 1), (D 2), (D 3), (D 4), (D 5), (D 6), (FP.ddiv (D 1) (D 4)), (D 8), (D 9)])) rfl rfl) (by decide) (by decide) ⟨hc, trivial⟩ ?_) rfl
    intro T2 h2 L2 A2 K2 H2
    exact goE (lu_10_E (D := (own_D [(D 0), (D 1), (D 2), (D 3), (D 4), (D 5), (D 6), (FP.ddiv (D 1) (D 4)), (D 8), (D 9)])) true (H2.re rfl rfl) S B hI hX bX fx (by rw [show 8 * Y1 - u * Xv = 8 * Y1 by rw [S.2.2.2.2.2.1, Int.zero_mul]; omega]; exact fy5)) rfl
theorem lu_10_L1  (b6 : Bool) (b7 : Bool) (H : LUH p l e s m args below meth c T0 Z a0 h0 hM n0 L0 A K D W vv fi oM rest v0 v1 1 2 (lud_10 1 2)) (S : SEH (u = 0) (L = 0) a u L Dd M10 M11 M00 M01 (D 3) (D 4)) (B : EHB E i0 i1 Y0 Y1) (hI : Iv = 2 * Y0 - L * Y1) (fy : DFix Y1 2 (D 2)) (fz : DFix Iv 3 (D 1)) : Go p e below (EndQ s (Q_tm Z n0 vv fi rest v0 v1 M00 M01 M10 M11 E i0 i1) 2 4) T0 (mkF m 103 (dL A D W #[sR 0, sR 1, sR 2, sI 1, sD 7, s2, (bif b6 then sI 0 else sU), (bif b7 then sF 9 else sU), sU]) []) := by
  refine segH (f_10_3 b6 b7) H (by decide) (by decide) trivial ?_
  intro T1 h1 L1 A1 K1 H1
  rcases own_dzD fz H.2.1 with ⟨hz, hc⟩ | ⟨hz, hc⟩
  · refine segH (f_10_4z b6 b7) H1 (by decide) (by decide) ⟨hc, trivial⟩ ?_
    intro T2 h2 L2 A2 K2 H2
    exact goE (lu_10_U (D := (own_D [(D 0), (D 1), (D 2), (D 3), (D 4), (D 5), (D 6), (D 1), (D 8), (D 9)])) b6 b7 (H2.re rfl rfl) S B hI fy fz) (by cases b6 <;> cases b7 <;> rfl)
  · refine segH (f_10_4n b6 b7) H1 (by decide) (by decide) ⟨hc, trivial⟩ ?_
    intro T2 h2 L2 A2 K2 H2
    exact goE (lu_10_U (D := (own_D [(D 0), (D 1), (D 2), (D 3), (D 4), (D 5), (D 6), (D 1), (D 8), (D 9)])) true b7 (H2.re rfl rfl) S B hI fy fz) (by cases b7 <;> rfl)
theorem lu_10_L0  (b7 : Bool) (H : LUH p l e s m args below meth c T0 Z a0 h0 hM n0 L0 A K D W vv fi oM rest v0 v1 1 2 (lud_10 1 2)) (S : SEH (u = 0) (L = 0) a u L Dd M10 M11 M00 M01 (D 3) (D 4)) (B : EHB E i0 i1 Y0 Y1) (f0_ : DFix Y0 2 (D 1)) (f1_ : DFix Y1 2 (D 2)) : Go p e below (EndQ s (Q_tm Z n0 vv fi rest v0 v1 M00 M01 M10 M11 E i0 i1) 2 4) T0 (mkF m 101 (dL A D W #[sR 0, sR 1, sR 2, sI (-1), (bif b7 then sF 8 else sU), (bif b7 then sD 7 else sU), (bif b7 then s2 else sU), (bif b7 then sF 9 else sU), sU]) []) := by
  obtain ⟨fz3, hl⟩ := own_arL S B.2.2 B.2.1 f1_ f0_
  refine segH (f_10_1 b7) H (by decide) (by decide) trivial ?_
  intro T1 h1 L1 A1 K1 H1
  rcases own_dzD f1_ H.2.1 with ⟨hz, hc⟩ | ⟨hz, hc⟩
  · refine segH (f_10_2z b7) H1 (by decide) (by decide) ⟨hc, trivial⟩ ?_
    intro T2 h2 L2 A2 K2 H2
    exact goE (lu_10_L1 (Iv := 2 * Y0 - L * Y1) (D := (own_D [(D 0), (D 1), (D 2), (D 3), (D 4), (D 5), (D 6), (D 2), (D 8), (D 9)])) false b7 (H2.re rfl rfl) S B rfl f1_ (by rw [show 2 * Y0 - L * Y1 = 2 * Y0 by rw [S.2.2.2.2.2.2.1, Int.zero_mul]; omega]; exact fz3)) (by cases b7 <;> rfl)
  · refine segH (f_10_2n b7) H1 (by decide) (by decide) ⟨hc, trivial⟩ ?_
    intro T2 h2 L2 A2 K2 H2
    exact goE (lu_10_L1 (Iv := 2 * Y0 - L * Y1) (D := (own_D [(D 0), (D 1), (D 2), (D 3), (D 4), (D 5), (D 6), (D 2), (D 8), (D 9)])) true b7 (H2.re rfl rfl) S B rfl f1_ (by rw [show 2 * Y0 - L * Y1 = 2 * Y0 by rw [S.2.2.2.2.2.2.1, Int.zero_mul]; omega]; exact fz3)) (by cases b7 <;> rfl)
def luo_10 (la : Nat → Addr) (kl : Nat → ClassId) (pv0 pv1 : UInt64) : List OB := [(la 0, kl 0, 64, 2, [.int 1, .int 0]), (la 1, kl 1, 64, 2, [.int 0, .int 1]), (la 2, kl 2, 65, 2, [.double pv0, .double pv1]), (la 3, kl 3, 64, 3, [.int 0, .int 0, .int 0]), (la 4, kl 4, 64, 0, []), (la 5, kl 5, 65, 0, []), (la 6, kl 6, 64, 3, [.int 0, .int 0, .int 0]), (la 7, kl 7, 64, 0, []), (la 8, kl 8, 65, 0, [])]
theorem tm_10 (hw : HW a0 Z) {la : Nat → Addr} {kl : Nat → ClassId} {g : Nat → Value} {pv0 pv1 : UInt64} (S : SEH (u = 0) (L = 0) a u L Dd M10 M11 M00 M01 pv0 pv1) : TmSpec l Z n0 M00 M01 M10 M11 (tmL g la) (luo_10 la kl pv0 pv1) := by
  refine tmG hw rfl ?_
  intro p e s m args below meth c T1 h0 h1 L1 A1 K1 cnt oM rest vv fi x y y0 y1 Y0 Y1 i0 i1 E sh G YJ B f0 f1
  rcases sh with _ | ⟨n4, x5, n7⟩
  · exact goE (lu_10_L0 (K := tmK K1 kl) (D := (own_D [0, y0, y1, pv0, pv1, 0, 0, 0, 0, 0])) false ⟨G, rfl, Yf.to (Yf.pick (os' := own_fl (tmA A1 la) (tmK K1 kl) (own_D [0, y0, y1, pv0, pv1, 0, 0, 0, 0, 0]) (tmW A1 x y cnt g) 0 (lud_10 1 2)) YJ [2, 1, 0, 3, 4, 5, 6, 7, 8, 9, 10, 11] (by decide) rfl) rfl⟩ S B f0 f1) rfl
  · obtain ⟨w4, rfl⟩ : ∃ w, iW w = n4 := ⟨_, own_iw n4⟩
    obtain ⟨w7, rfl⟩ : ∃ w, iW w = n7 := ⟨_, own_iw n7⟩
    exact goE (lu_10_L0 (K := tmK K1 kl) (D := (own_D [0, y0, y1, pv0, pv1, 0, 0, x5, w4, w7])) true ⟨G, rfl, Yf.to (Yf.pick (os' := own_fl (tmA A1 la) (tmK K1 kl) (own_D [0, y0, y1, pv0, pv1, 0, 0, x5, w4, w7]) (tmW A1 x y cnt g) 0 (lud_10 1 2)) YJ [2, 1, 0, 3, 4, 5, 6, 7, 8, 9, 10, 11] (by decide) rfl) rfl⟩ S B f0 f1) rfl
end OwnLu
open Jvm.FP.Core in
theorem own_row {B C X Y K : Int} {b c x y : UInt64} (hb : DInt B b) (hc : DInt C c) (bB : -2 ≤ B ∧ B ≤ 2) (bC : -2 ≤ C ∧ C ≤ 2) (hx : DFix X 6 x) (hy : DFix Y 6 y) (bX : -1125899906842624 ≤ X ∧ X ≤ 1125899906842624) (bY : -1125899906842624 ≤ Y ∧ Y ≤ 1125899906842624) (e : B * X + C * Y = K) :
    Jvm.Free.Fl.NoNaN64 (FP.dmul b x) ∧ Jvm.Free.Fl.NoNaN64 (FP.dmul c y) ∧ Jvm.Free.Fl.NoNaN64 (FP.dadd (FP.dmul b x) (FP.dmul c y)) ∧ DFix K 6 (FP.dadd (FP.dmul b x) (FP.dmul c y)) := by
  have p1 : -2251799813685248 ≤ B * X ∧ B * X ≤ 2251799813685248 := by
    have h : B = -2 ∨ B = -1 ∨ B = 0 ∨ B = 1 ∨ B = 2 := by omega
    rcases h with rfl | rfl | rfl | rfl | rfl <;> omega
  have p2 : -2251799813685248 ≤ C * Y ∧ C * Y ≤ 2251799813685248 := by
    have h : C = -2 ∨ C = -1 ∨ C = 0 ∨ C = 1 ∨ C = 2 := by omega
    rcases h with rfl | rfl | rfl | rfl | rfl <;> omega
  have h1 : DFix (B * X) 6 (FP.dmul b x) := own_fixmul (k := 0) (l := 6) (own_fix0.mpr hb) hx (own_b53 (by omega)) (by decide)
  have h2 : DFix (C * Y) 6 (FP.dmul c y) := own_fixmul (k := 0) (l := 6) (own_fix0.mpr hc) hy (own_b53 (by omega)) (by decide)
  have h3 := own_fixadd h1 h2 (own_b53 (by omega)) (by decide)
  rw [e] at h3
  exact ⟨own_fixnn h1, own_fixnn h2, own_fixnn h3, h3⟩
theorem own_etaF {k j A B K : Int} {ar ao x y : UInt64} (H : PA k j ar ao) (hx : DFix A 6 x) (hy : DFix B 6 y) (bA : -703687441776640 ≤ A ∧ A ≤ 703687441776640) (bB : -703687441776640 ≤ B ∧ B ≤ 703687441776640) (e : k * A + j * B = K) :
    Jvm.Free.Fl.NoNaN64 (FP.dmul ar x) ∧ Jvm.Free.Fl.NoNaN64 (FP.dmul ao y) ∧ Jvm.Free.Fl.NoNaN64 (FP.dadd (FP.dmul ar x) (FP.dmul ao y)) ∧ DFix K 6 (FP.dadd (FP.dmul ar x) (FP.dmul ao y)) ∧ (-7036874417766400 ≤ K ∧ K ≤ 7036874417766400) := by
  obtain ⟨hk, bj, hr, ho⟩ := H
  have p2 := own_bj bj bB (by decide)
  have p1 : -1407374883553280 ≤ k * A ∧ k * A ≤ 1407374883553280 := by rcases hk with rfl | rfl | rfl | rfl <;> omega
  have h1 : DFix (k * A) 6 (FP.dmul ar x) := own_fixmul (k := 0) (l := 6) (own_fix0.mpr hr) hx (own_b53 (by omega)) (by decide)
  have h2 : DFix (j * B) 6 (FP.dmul ao y) := own_fixmul (k := 0) (l := 6) (own_fix0.mpr ho) hy (own_b53 (by omega)) (by decide)
  have h3 := own_fixadd h1 h2 (own_b53 (by omega)) (by decide)
  rw [e] at h3
  exact ⟨own_fixnn h1, own_fixnn h2, own_fixnn h3, h3, by omega⟩
theorem own_cmp0 {K : Int} {k : Nat} {x y : UInt64} (h1 : DFix K k x) (h2 : DFix K k y) : (cmpValue (FP.dcmp x y) .l).toInt = 0 := by
  rw [own_fixcmp h1 h2]
  exact (own_cmpv K K .l).2.1 rfl
theorem own_m5 {b : Int32} (h : -2 ≤ b.toInt ∧ b.toInt ≤ 2) : b ∈ ([-2, -1, 0, 1, 2] : List Int32) := by
  have q : b.toInt = -2 ∨ b.toInt = -1 ∨ b.toInt = 0 ∨ b.toInt = 1 ∨ b.toInt = 2 := by omega
  simp only [List.mem_cons, List.not_mem_nil, or_false]
  rcases q with q | q | q | q | q
  · exact Or.inl (Int32.toInt_inj.mp (q.trans (by decide)))
  · exact Or.inr (Or.inl (Int32.toInt_inj.mp (q.trans (by decide))))
  · exact Or.inr (Or.inr (Or.inl (Int32.toInt_inj.mp (q.trans (by decide)))))
  · exact Or.inr (Or.inr (Or.inr (Or.inl (Int32.toInt_inj.mp (q.trans (by decide))))))
  · exact Or.inr (Or.inr (Or.inr (Or.inr (Int32.toInt_inj.mp (q.trans (by decide))))))
def own_all4 (f : Int32 → Int32 → Int32 → Int32 → Bool) : Bool := ([-2, -1, 0, 1, 2] : List Int32).all fun b0 => ([-2, -1, 0, 1, 2] : List Int32).all fun b1 => ([-2, -1, 0, 1, 2] : List Int32).all fun b2 => ([-2, -1, 0, 1, 2] : List Int32).all fun b3 => f b0 b1 b2 b3
theorem own_all4e {f : Int32 → Int32 → Int32 → Int32 → Bool} (h : own_all4 f = true) {b0 b1 b2 b3 : Int32} (h0 : -2 ≤ b0.toInt ∧ b0.toInt ≤ 2) (h1 : -2 ≤ b1.toInt ∧ b1.toInt ≤ 2) (h2 : -2 ≤ b2.toInt ∧ b2.toInt ≤ 2) (h3 : -2 ≤ b3.toInt ∧ b3.toInt ≤ 2) : f b0 b1 b2 b3 = true :=
  List.all_eq_true.mp (List.all_eq_true.mp (List.all_eq_true.mp (List.all_eq_true.mp h b0 (own_m5 h0)) b1 (own_m5 h1)) b2 (own_m5 h2)) b3 (own_m5 h3)
theorem own_det : own_all4 (fun b0 b1 b2 b3 => decide ((b0 * b3 - b1 * b2 : Int32).toInt = b0.toInt * b3.toInt - b1.toInt * b2.toInt)) = true := by decide +kernel
theorem own_r01 (x : Int32) : ∀ r : Int32, x &&& (1 : Int32) = r → r = 0 ∨ r = 1 := by
  intro r h
  have := c_mask x 1 1 (by decide) (by decide)
  have e : ((2 ^ 1 : Nat) : Int) = 2 := rfl
  rw [e, h] at this
  have q : r.toInt = 0 ∨ r.toInt = 1 := by omega
  rcases q with q | q
  · exact Or.inl (Int32.toInt_inj.mp (q.trans (by decide)))
  · exact Or.inr (Int32.toInt_inj.mp (q.trans (by decide)))
theorem own_mone : Jvm.FP.Core.DInt (-1) (13830554455654793216 : UInt64) := own_dlit true (2 ^ 52) (-52) (by decide +kernel) (by decide +kernel)
theorem own_two : Jvm.FP.Core.DInt 2 (4611686018427387904 : UInt64) := own_dlit false (2 ^ 52) (-51) (by decide +kernel) (by decide +kernel)
theorem own_mtwo : Jvm.FP.Core.DInt (-2) (13835058055282163712 : UInt64) := own_dlit true (2 ^ 52) (-51) (by decide +kernel) (by decide +kernel)
theorem own_rem (x y z : Int32) (d s : Int) (hd : 0 < d) (hd' : d ≤ 100) (hs : 0 ≤ s ∧ s ≤ 100) (hy : y.toInt = d) (hz : z.toInt = s) : -s ≤ ((x &&& (255 : Int32)) % y - z).toInt ∧ ((x &&& (255 : Int32)) % y - z).toInt < d - s := by
  have h1 := c_mask x 255 8 (by decide) (by decide)
  have e : ((2 ^ 8 : Nat) : Int) = 256 := rfl
  rw [e] at h1
  have h2 := (c_irem (x &&& (255 : Int32)) y d hy).1 (by omega)
  have b1 := Int.emod_nonneg (x &&& (255 : Int32)).toInt (b := d) (by omega)
  have b2 := Int.emod_lt_of_pos (x &&& (255 : Int32)).toInt (b := d) hd
  have h3 := c_isub ((x &&& (255 : Int32)) % y) z
  have r := rng32 ((x &&& (255 : Int32)) % y - z)
  omega
def own_dt (d : Int32) : Bool := d == 1 || d == -1 || d == 2 || d == -2 || d == 4 || d == -4
theorem own_dtT {d : Int32} (h : d.toInt = 1 ∨ d.toInt = -1 ∨ d.toInt = 2 ∨ d.toInt = -2 ∨ d.toInt = 4 ∨ d.toInt = -4) : own_dt d = true := by
  rcases h with q | q | q | q | q | q
  · rw [Int32.toInt_inj.mp (q.trans (by decide) : d.toInt = (1 : Int32).toInt)]; rfl
  · rw [Int32.toInt_inj.mp (q.trans (by decide) : d.toInt = (-1 : Int32).toInt)]; rfl
  · rw [Int32.toInt_inj.mp (q.trans (by decide) : d.toInt = (2 : Int32).toInt)]; rfl
  · rw [Int32.toInt_inj.mp (q.trans (by decide) : d.toInt = (-2 : Int32).toInt)]; rfl
  · rw [Int32.toInt_inj.mp (q.trans (by decide) : d.toInt = (4 : Int32).toInt)]; rfl
  · rw [Int32.toInt_inj.mp (q.trans (by decide) : d.toInt = (-4 : Int32).toInt)]; rfl
theorem own_pz {b : Int32} (h : b.toInt = 0) : (b == 0) = true := by rw [(own_i0 b).2.2.mpr h]; rfl
theorem own_pn {b : Int32} (h : b.toInt ≠ 0) : (b != 0) = true := by
  have : b ≠ 0 := fun q => h ((own_i0 b).2.2.mp q)
  simp [bne_iff_ne, this]
open Jvm.FP.Core in
theorem own_full {B0 B1 B2 B3 : Int} {x0 x1 x2 x3 : UInt64} (h0 : DInt B0 x0) (h1 : DInt B1 x1) (h2 : DInt B2 x2) (h3 : DInt B3 x3) (q0 : -2 ≤ B0 ∧ B0 ≤ 2) (q1 : -2 ≤ B1 ∧ B1 ≤ 2) (q2 : -2 ≤ B2 ∧ B2 ≤ 2) (q3 : -2 ≤ B3 ∧ B3 ≤ 2) (z0 : B0 ≠ 0) (hd : B0 * B3 - B1 * B2 = 1 ∨ B0 * B3 - B1 * B2 = -1 ∨ B0 * B3 - B1 * B2 = 2 ∨ B0 * B3 - B1 * B2 = -2 ∨ B0 * B3 - B1 * B2 = 4 ∨ B0 * B3 - B1 * B2 = -4) :
    ∃ L D : Int, (-4 ≤ L ∧ L ≤ 4) ∧ (D = 1 ∨ D = -1 ∨ D = 2 ∨ D = -2 ∨ D = 4 ∨ D = -4 ∨ D = 8 ∨ D = -8) ∧ DFix L 1 (FP.ddiv x2 x0) ∧ DFix D 1 (FP.dsub x3 (FP.dmul (FP.ddiv x2 x0) x1)) ∧ 2 * B2 = L * B0 ∧ 2 * B3 = D + L * B1 := by
  have key : ∃ L : Int, (-4 ≤ L ∧ L ≤ 4) ∧ 2 * B2 = L * B0 ∧ (2 * B3 - L * B1 = 1 ∨ 2 * B3 - L * B1 = -1 ∨ 2 * B3 - L * B1 = 2 ∨ 2 * B3 - L * B1 = -2 ∨ 2 * B3 - L * B1 = 4 ∨ 2 * B3 - L * B1 = -4 ∨ 2 * B3 - L * B1 = 8 ∨ 2 * B3 - L * B1 = -8) := by
    have c : B0 = 1 ∨ B0 = -1 ∨ B0 = 2 ∨ B0 = -2 := by omega
    have cm : B2 * B1 = B1 * B2 := Int.mul_comm ..
    have ng : -B2 * B1 = -(B1 * B2) := by rw [Int.neg_mul, cm]
    have tw : 2 * B2 * B1 = 2 * (B1 * B2) := by rw [Int.mul_assoc, cm]
    have nt : -(2 * B2) * B1 = -(2 * (B1 * B2)) := by rw [Int.neg_mul, tw]
    rcases c with rfl | rfl | rfl | rfl
    · exact ⟨2 * B2, by omega, by omega, by rw [tw]; omega⟩
    · exact ⟨-(2 * B2), by omega, by omega, by rw [nt]; omega⟩
    · exact ⟨B2, by omega, by omega, by rw [cm]; omega⟩
    · exact ⟨-B2, by omega, by omega, by rw [ng]; omega⟩
  obtain ⟨L, bL, e1, e2⟩ := key
  have hL : DFix L 1 (FP.ddiv x2 x0) := own_fixdiv (own_fix0.mpr h2) (own_fix0.mpr h0) z0 (M := 1) (by rw [show ((2 ^ (0 + 1) : Nat) : Int) = 2 from rfl, show ((2 ^ 0 : Nat) : Int) = 1 from rfl]; omega) (own_b53 (by omega)) (by decide)
  have bp := own_b4 (L := L) (B := B1) (N := 2) bL (by omega) (by decide)
  have hm : DFix (L * B1) 1 (FP.dmul (FP.ddiv x2 x0) x1) := own_fixmul (k := 1) (l := 0) hL (own_fix0.mpr h1) (own_b53 (by omega)) (by decide)
  have h3' : DFix (2 * B3) 1 x3 := by have := own_fixint h3 1; rw [show B3 * ((2 ^ 1 : Nat) : Int) = 2 * B3 by rw [show ((2 ^ 1 : Nat) : Int) = 2 from rfl]; omega] at this; exact this
  exact ⟨L, 2 * B3 - L * B1, bL, e2, hL, own_fixsub h3' hm (own_b53 (by omega)) (by decide), e1, by omega⟩
theorem own_fix1 {B : Int} {x : UInt64} (h : Jvm.FP.Core.DInt B x) : DFix (2 * B) 1 x := by have := own_fixint h 1; rw [show B * ((2 ^ 1 : Nat) : Int) = 2 * B by rw [show ((2 ^ 1 : Nat) : Int) = 2 from rfl]; omega] at this; exact this
theorem own_kb {k j A B K N : Int} {ar ao : UInt64} (H : PA k j ar ao) (bA : -N ≤ A ∧ A ≤ N) (bB : -N ≤ B ∧ B ≤ N) (hN : 0 ≤ N) (e : k * A + j * B = K) : -(10 * N) ≤ K ∧ K ≤ 10 * N := by
  obtain ⟨hk, bj, -, -⟩ := H
  have p2 := own_bj bj bB hN
  have p1 : -(2 * N) ≤ k * A ∧ k * A ≤ 2 * N := by rcases hk with rfl | rfl | rfl | rfl <;> omega
  omega
theorem HdF.obj {Z : State} {h : Heap} {a : Addr} {k : ClassId} {A : Nat → Addr} {D : Nat → UInt64} {W : Nat → Value} {d : AD} (H : HdF Z h a k A D W d) (q : d.1 < 64) : Exa Z h a (own_cn d.1) := by
  unfold HdF at H
  rw [if_pos q] at H
  exact H.1
theorem YgF.nil {Z : State} {n0 : Nat} {h : Heap} {A : Nat → Addr} {K : Nat → ClassId} {D : Nat → UInt64} {W : Nat → Value} : YgF Z n0 h A K D W [] := ⟨fun i d q => by simp at q, fun i j q => absurd q (Nat.not_lt_zero _)⟩
theorem own_fla {A : Nat → Addr} {K : Nat → ClassId} {D : Nat → UInt64} {W : Nat → Value} {ds : List AD} : (own_fl A K D W 0 ds).map (·.1) = (List.range ds.length).map A := by
  apply List.ext_getElem?
  intro i
  rw [List.getElem?_map, List.getElem?_map, own_flg]
  by_cases q : i < ds.length
  · rw [List.getElem?_eq_getElem q, List.getElem?_range q]
    simp
  · rw [List.getElem?_eq_none (by omega), List.getElem?_eq_none (by rw [List.length_range]; omega)]
    rfl
theorem Yf.segj {Z : State} {n0 : Nat} {h h' : Heap} {A A' : Nat → Addr} {K K' : Nat → ClassId} {D D' : Nat → UInt64} {W : Nat → Value} {ds ds' : List AD} {os2 : List OB} (Y : Yf Z n0 h (own_fl A K D W 0 ds ++ os2)) (Y' : YgF Z n0 h' A' K' D' W ds') (Kp : Keep h h' ((List.range ds.length).map A)) (hA : ∀ i, i < ds.length → A' i = A i ∧ K' i = K i) (hf : ∀ i, ds.length ≤ i → i < ds'.length → h.size ≤ A' i) : Yf Z n0 h' (own_fl A' K' D' W 0 ds' ++ os2) := by
  refine Yf.join Y Y'.fl (by rw [own_fla]; exact Kp) (fun o ho => ?_)
  obtain ⟨i, hi⟩ := List.mem_iff_getElem?.mp ho
  obtain ⟨d, e, rfl⟩ := own_flg1 hi
  have hl : i < ds'.length := (List.getElem?_eq_some_iff.mp e).1
  rw [own_fla]
  by_cases q : i < ds.length
  · exact Or.inl (List.mem_map.mpr ⟨i, List.mem_range.mpr q, (hA i q).1.symm⟩)
  · exact Or.inr (hf i (by omega) hl)
theorem Yf.swap {Z : State} {n0 : Nat} {h : Heap} {a b c : List OB} (Y : Yf Z n0 h (a ++ (b ++ c))) : Yf Z n0 h (a ++ (c ++ b)) := by
  have key : ∀ (i : Nat) (o : OB), (a ++ (c ++ b))[i]? = some o → ∃ j, (a ++ (b ++ c))[j]? = some o ∧ ((i < a.length ∧ j = i) ∨ (a.length ≤ i ∧ i < a.length + c.length ∧ j = i + b.length) ∨ (a.length + c.length ≤ i ∧ i = j + c.length ∧ j < a.length + b.length)) := by
    intro i o hi
    by_cases h1 : i < a.length
    · rw [List.getElem?_append_left h1] at hi
      exact ⟨i, by rw [List.getElem?_append_left h1]; exact hi, Or.inl ⟨h1, rfl⟩⟩
    · rw [List.getElem?_append_right (by omega)] at hi
      by_cases h2 : i < a.length + c.length
      · rw [List.getElem?_append_left (by omega)] at hi
        refine ⟨i + b.length, ?_, Or.inr (Or.inl ⟨by omega, h2, rfl⟩)⟩
        rw [List.getElem?_append_right (by omega), List.getElem?_append_right (by omega), show i + b.length - a.length - b.length = i - a.length by omega]
        exact hi
      · rw [List.getElem?_append_right (by omega)] at hi
        have hb := (List.getElem?_eq_some_iff.mp hi).1
        refine ⟨i - c.length, ?_, Or.inr (Or.inr ⟨by omega, by omega, by omega⟩)⟩
        rw [List.getElem?_append_right (by omega), List.getElem?_append_left (by omega), show i - c.length - a.length = i - a.length - c.length by omega]
        exact hi
  refine ⟨fun i o hi => ?_, fun i j o o' hi hj q => ?_⟩
  · obtain ⟨x, hx, -⟩ := key i o hi
    exact Y.1 x o hx
  · obtain ⟨x, hx, cx⟩ := key i o hi
    obtain ⟨y, hy, cy⟩ := key j o' hj
    have := Y.2 x y o o' hx hy q
    omega
theorem own_Dge {l : List UInt64} {i : Nat} (h : l.length ≤ i) : own_D l i = 0 := by
  unfold own_D
  rw [List.getD_eq_getElem?_getD, List.getElem?_eq_none h]
  rfl
def QB (D : Nat → UInt64) : Prop := (-2 ≤ (iW (D 7)).toInt ∧ (iW (D 7)).toInt ≤ 2) ∧ (-2 ≤ (iW (D 8)).toInt ∧ (iW (D 8)).toInt ≤ 2) ∧ (-2 ≤ (iW (D 9)).toInt ∧ (iW (D 9)).toInt ≤ 2) ∧ (-2 ≤ (iW (D 10)).toInt ∧ (iW (D 10)).toInt ≤ 2)
def VB (D : Nat → UInt64) (i0 i1 : Int) : Prop := Jvm.FP.Core.DInt i0 (D 1) ∧ Jvm.FP.Core.DInt i1 (D 2) ∧ (-2147483648 ≤ i0 ∧ i0 ≤ 2147483648) ∧ (-2147483648 ≤ i1 ∧ i1 ≤ 2147483648)
def lwC (o1 r1 o2 r2 : Slot) (a b c d : UInt64) : Array Slot := #[sF 12, sF 13, sF 14, sF 15, sF 16, sF 7, sF 8, sF 9, sF 10, sF 11, sR 11, sR 12, o1, r1, sD a, s2, sD b, s2, o2, r2, sD c, s2, sD d, s2, sR 0, sR 1, sR 7, sU, sU]
def lwE (o1 r1 o2 r2 x y : Slot) : Array Slot := #[sF 12, sF 13, sF 14, sF 15, sF 16, sF 7, sF 8, sF 9, sF 10, sF 11, sR 4, sR 5, o1, r1, sD 3, s2, sD 4, s2, o2, r2, sD 5, s2, sD 6, s2, sR 1, sR 2, sR 3, x, y]
def dX6 : List AD := [(65, 2, [vD 19, vD 20]), (65, 2, [vD 1, vD 2]), (0, 0, []), (1, 0, []), (67, 2, [vU 23, vU 24]), (68, 2, [vU 25, vU 26])]
def dC1 (D : Nat → UInt64) (x y : UInt64) : Nat → UInt64 := own_D [D 0, D 1, D 2, D 3, D 4, D 5, D 6, D 7, D 8, D 9, D 10, D 11, D 12, D 13, D 14, D 15, D 16, x, y]
def dC2 (D : Nat → UInt64) (x y : UInt64) : Nat → UInt64 := own_D [D 0, D 1, D 2, D 5, D 6, D 3, D 4, D 7, D 8, D 9, D 10, D 11, D 12, D 13, D 14, D 15, D 16, x, y]
def dE1 (D : Nat → UInt64) (x y : UInt64) : Nat → UInt64 := own_D [D 0, D 1, D 2, D 3, D 4, D 5, D 6, D 7, D 8, D 9, D 10, D 11, D 12, D 13, D 14, D 15, D 16, D 17, D 18, x, y]
def dE2 (D : Nat → UInt64) (x y : UInt64) : Nat → UInt64 := own_D [D 0, D 1, D 2, D 5, D 6, D 3, D 4, D 7, D 8, D 9, D 10, D 11, D 12, D 13, D 14, D 15, D 16, D 17, D 18, x, y]
def cA (pr : Addr) (A : Nat → Addr) : Nat → Addr := own_A [pr, A 0, A 1, A 7, A 11, A 12]
def cK (a b c : ClassId) (K : Nat → ClassId) : Nat → ClassId := own_K [a, b, c, K 7, K 11, K 12]
def own_AJ (J : List Nat) (A : Nat → Addr) : Nat → Addr := own_A (J.map A)
def own_KJ (J : List Nat) (K : Nat → ClassId) : Nat → ClassId := own_K (J.map K)
def own_gJ (J : List Nat) (A : Nat → Addr) : Nat → Value := fun k => .ref (own_AJ J A k)
theorem own_bag {l l' : List UInt64} (n nD : Nat) (h0 : own_D l 0 = own_D l' 0) (hm : (l.drop 11).take (n - 11) = (l'.drop 11).take (n - 11)) (hl : l.length = nD) (hl' : l'.length = nD) (i : Nat) (hi : i < 4096) (hr : (decide (i = 0) || (decide (11 ≤ i) && decide (i < n)) || decide (nD ≤ i)) = true) : own_D l i = own_D l' i := by
  simp only [Bool.or_eq_true, Bool.and_eq_true, decide_eq_true_eq] at hr
  rcases hr with (hr | hr) | hr
  · subst hr; exact h0
  · have e := congrArg (fun x => x[i - 11]?) hm
    simp only [List.getElem?_take, List.getElem?_drop] at e
    rw [if_pos (by omega), if_pos (by omega), show 11 + (i - 11) = i by omega] at e
    unfold own_D
    rw [List.getD_eq_getElem?_getD, List.getD_eq_getElem?_getD, e]
  · rw [own_Dge (by omega), own_Dge (by omega)]
def DS6 (x : Int) : Prop := x = 1 ∨ x = -1 ∨ x = 2 ∨ x = -2 ∨ x = 4 ∨ x = -4
def QB4 (D : Nat → UInt64) : Prop := (-2 ≤ (iW (D 1)).toInt ∧ (iW (D 1)).toInt ≤ 2) ∧ (-2 ≤ (iW (D 2)).toInt ∧ (iW (D 2)).toInt ≤ 2) ∧ (-2 ≤ (iW (D 3)).toInt ∧ (iW (D 3)).toInt ≤ 2) ∧ (-2 ≤ (iW (D 4)).toInt ∧ (iW (D 4)).toInt ≤ 2)
def HB4 (D : Nat → UInt64) : Prop := QB4 D ∧ iW (D 1) * iW (D 4) - iW (D 2) * iW (D 3) = iW (D 5) ∧ DS6 (iW (D 5)).toInt
def own_pt (t : Bool) (b : Int32) : Bool := bif t then b != 0 else b == 0
theorem own_vb {D : Nat → UInt64} {t0 t1 t2 t3 : Bool} {f : Int32 → Int32 → Int32 → Int32 → Bool} (h : own_all4 (fun b0 b1 b2 b3 => !(own_pt t0 b0 && (own_pt t1 b1 && (own_pt t2 b2 && (own_pt t3 b3 && own_dt (b0 * b3 - b1 * b2))))) || f b0 b1 b2 b3) = true) (H : HB4 D) (z0 : own_pt t0 (iW (D 1)) = true) (z1 : own_pt t1 (iW (D 2)) = true) (z2 : own_pt t2 (iW (D 3)) = true) (z3 : own_pt t3 (iW (D 4)) = true) : f (iW (D 1)) (iW (D 2)) (iW (D 3)) (iW (D 4)) = true := by
  have hd : own_dt (iW (D 1) * iW (D 4) - iW (D 2) * iW (D 3)) = true := by
    rw [H.2.1]
    exact own_dtT H.2.2
  have h1 := own_all4e h H.1.1 H.1.2.1 H.1.2.2.1 H.1.2.2.2
  rw [z0, z1, z2, z3, hd] at h1
  exact h1
theorem own_hdi {D : Nat → UInt64} (H : HB4 D) : (iW (D 5)).toInt = (iW (D 1)).toInt * (iW (D 4)).toInt - (iW (D 2)).toInt * (iW (D 3)).toInt := by
  rw [← H.2.1]
  exact of_decide_eq_true (own_all4e own_det H.1.1 H.1.2.1 H.1.2.2.1 H.1.2.2.2)
def fr84 (D : Nat → UInt64) : Array Slot := #[.val (.int (iW (D 6))), .val (.int (iW (D 7))), .val (.int (iW (D 8))), .val (.int (iW (D 9))), .val (.int (iW (D 10))), .val (.int (iW (D 1))), .val (.int (iW (D 2))), .val (.int (iW (D 3))), .val (.int (iW (D 4))), .val (.int (iW (D 5))), .unset, .unset, .unset, .unset, .unset, .unset, .unset, .unset, .unset, .unset, .unset, .unset, .unset, .unset, .unset, .unset, .unset, .unset, .unset]
def fr136 (D : Nat → UInt64) (c10 c11 : Addr) : Array Slot := #[.val (.int (iW (D 6))), .val (.int (iW (D 7))), .val (.int (iW (D 8))), .val (.int (iW (D 9))), .val (.int (iW (D 10))), .val (.int (iW (D 1))), .val (.int (iW (D 2))), .val (.int (iW (D 3))), .val (.int (iW (D 4))), .val (.int (iW (D 5))), .val (.ref c10), .val (.ref c11), .unset, .unset, .unset, .unset, .unset, .unset, .unset, .unset, .unset, .unset, .unset, .unset, .unset, .unset, .unset, .unset, .unset]
def fr208 (D : Nat → UInt64) (c10 c11 : Addr) (w3 w4 ar1 ao1 w5 w6 ar2 ao2 : UInt64) : Array Slot := #[.val (.int (iW (D 6))), .val (.int (iW (D 7))), .val (.int (iW (D 8))), .val (.int (iW (D 9))), .val (.int (iW (D 10))), .val (.int (iW (D 1))), .val (.int (iW (D 2))), .val (.int (iW (D 3))), .val (.int (iW (D 4))), .val (.int (iW (D 5))), .val (.ref c10), .val (.ref c11), .val (.int (iW w3)), .val (.int (iW w4)), .val (.double ar1), .second, .val (.double ao1), .second, .val (.int (iW w5)), .val (.int (iW w6)), .val (.double ar2), .second, .val (.double ao2), .second, .unset, .unset, .unset, .unset, .unset]
def dsC0 : List AD := dsE 0 (zI 16 []) (zD 16 []) (zI 17 []) (zI 4 []) (zD 4 []) ++ [(1, 0, [vR 8, vR 9, vR 10, vI 0]), (65, 2, [vD 0, vD 0]), (66, 2, [vI 0, vI 0]), (64, 16, rp 16 (vI 0)), (67, 2, [vU 23, vU 24]), (68, 2, [vU 25, vU 26])]
section OwnLaw
variable {p : Program} {l : Launch} {e : Env} {s : State} {m : MethodId} {args : Array Value} {below : List Frame} {meth : Method} {c : Code} {T0 Z : State} {a0 : Array Value} {h0 : Heap} {n0 : Nat} {L0 : List Loc} {A : Nat → Addr} {K : Nat → ClassId} {D : Nat → UInt64} {W : Nat → Value} {ce sl : Nat} {ds : List AD} {Ev : State → Outcome → Prop} {k1 j1 k2 j2 i0 i1 : Int} {lu : List OB}
def LWB (p : Program) (l : Launch) (e : Env) (s : State) (m : MethodId) (args : Array Value) (below : List Frame) (meth : Method) (c : Code) (T0 Z : State) (a0 : Array Value) (h0 : Heap) (n0 : Nat) (L0 : List Loc) (ce sl : Nat) : Prop := Stand p l e room_1 s m args below meth c T0 L0 ce sl ∧ p.tables.exec = Jvm.exec ∧ c.code = code ∧ c.maxLocals = maxLocals ∧ meth.sig.returnType = ret ∧ meth.locks = false ∧ s.vm.findClass "com/example/tracefold/tracefold/mining/FactoredInverseTimesPinLaw" = some m.cls ∧ Z.Warmed39 s.vm ∧ (∀ d ∈ tables_1, d.before a0 Z = true) ∧ T0.heap = h0 ∧ n0 ≤ h0.size ∧ Fr n0 L0
theorem segL {sc : List Sc} {f to pc pc' nD nD' ce' sl' : Nat} {orc : List Int32} {L L' : Array Slot} {st st' : List Value} {ds' : List AD} {ops : List Op} (hr : runIs (run code own_MN_4 29 (8, 192, 1792, 208) to f sc orc (pc, L, st, ds, nD, ce, sl)) (pc', L', st', ds', nD', ce', sl') ops = true) (hsc : ∀ E ∈ sc, CtH E.1) (B : LWB p l e s m args below meth c T0 Z a0 h0 n0 L0 ce sl) (Y : YgF Z n0 h0 A K D W ds) (D0 : D 0 = 0) (hnD : 0 < nD) (hv : okv ops nD D)
    (K_ : ∀ T1 h1 L1 A1 K1, LWB p l e s m args below meth c T1 Z a0 h1 n0 L1 ce' sl' → (∀ i, i < ds.length → A1 i = A i ∧ K1 i = K i) → Keep h0 h1 ((List.range ds.length).map A) → (∀ i, ds.length ≤ i → i < ds'.length → h0.size ≤ A1 i) → YgF Z n0 h1 A1 K1 (finD ops nD D) W ds' → Go p e below Ev T1 (mkF m pc' (dL A1 (finD ops nD D) W L') (st'.map (den A1 (finD ops nD D) W)))) : Go p e below Ev T0 (mkF m pc (dL A D W L) (st.map (den A D W))) := by
  obtain ⟨XS, hx, hby, hml, hret, hlk, hown, hZ, hw, e0, Z0, N0⟩ := B
  refine seg (runIs_e hr) hsc hw hx hby hml rfl hZ hown (own_okN_4 _ Z a0 hw) D0 hnD XS e0 Y N0 Z0 hv ?_
  intro T1 h1 L1 A1 K1 hA1 X1 e1 Y1 N1 Kp f1 n1
  exact K_ T1 h1 L1 A1 K1 ⟨X1, hx, hby, hml, hret, hlk, hown, hZ, hw, e1, n1, N1⟩ hA1 Kp f1 Y1
theorem LWB.more {ce' sl' : Nat} (B : LWB p l e s m args below meth c T0 Z a0 h0 n0 L0 ce sl) (h1 : ce ≤ ce') (h2 : sl ≤ sl') : LWB p l e s m args below meth c T0 Z a0 h0 n0 L0 ce' sl' := ⟨B.1.more h1 h2, B.2⟩
theorem y13 (Y : Yf Z n0 h0 (own_fl A K D W 0 dsC0 ++ lu)) : YgF Z n0 h0 A K D W dsC0 := Yf.to (Yf.pick (os' := own_fl A K D W 0 dsC0) Y [0, 1, 2, 3, 4, 5, 6, 7, 8, 9, 10, 11, 12] (by decide) rfl) rfl
theorem cTail {cnt : Int32} {er ep es eo ev av a8 a9 a10 : List Value} {Ls : Array Slot} {E : Int → Int → Int → Int → Prop} {T1 : State} {h1 : Heap} {L1 : List Loc} {A1 : Nat → Addr} {K1 : Nat → ClassId} {M00 M01 M10 M11 : Int} (Y : Yf Z n0 h0 (own_fl A K D W 0 dsC0 ++ lu)) (Y1 : YgF Z n0 h1 A1 K1 D W (dsE cnt er ep es eo ev ++ [(1, 0, av), (65, 2, a8), (66, 2, a9), (64, 16, a10), (67, 2, [vU 23, vU 24]), (68, 2, [vU 25, vU 26])])) (B1 : LWB p l e s m args below meth c T1 Z a0 h1 n0 L1 90 860) (hA1 : ∀ i, i < dsC0.length → A1 i = A i ∧ K1 i = K i) (Kp : Keep h0 h1 ((List.range dsC0.length).map A)) (f1 : ∀ i, dsC0.length ≤ i → i < (dsE cnt er ep es eo ev ++ [(1, 0, av), (65, 2, a8), (66, 2, a9), (64, 16, a10), (67, 2, [vU 23, vU 24]), (68, 2, [vU 25, vU 26])]).length → h0.size ≤ A1 i) (hs : Ls.size = 29) (D0 : D 0 = 0) (V : VB D i0 i1) (HT : TmSpec l Z n0 M00 M01 M10 M11 W lu) (HR : EtaRuns cnt er ep es eo ev (D 3) (D 4) (D 5) (D 6) E)
    (KK : ∀ (T2 : State) (h2 : Heap) (L2 : List Loc) (pr : Addr) (kp kv kf : ClassId) (x0 x1 : UInt64) (y0 y1 u0 u1 : Int), LWB p l e s m args below meth c T2 Z a0 h2 n0 L2 92 864 → Yf Z n0 h2 [(pr, kp, 65, 2, [.double x0, .double x1]), (A1 0, kv, 65, 2, [.double (D 1), .double (D 2)]), (A1 1, kf, 0, 0, []), (A1 7, K1 7, 1, 0, []), (A1 11, K1 11, 67, 2, [W 23, W 24]), (A1 12, K1 12, 68, 2, [W 25, W 26])] → EHB E i0 i1 y0 y1 → DFix u0 6 x0 → DFix u1 6 x1 → (-1125899906842624 ≤ u0 ∧ u0 ≤ 1125899906842624) → (-1125899906842624 ≤ u1 ∧ u1 ≤ 1125899906842624) → M00 * u0 + M01 * u1 = 16 * y0 → M10 * u0 + M11 * u1 = 16 * y1 → Go p e below Ev T2 (mkF m 333 Ls [.ref pr])) : Go p e below Ev T1 (mkF m 330 Ls [.ref (A1 0), .ref (A1 1)]) := by
  obtain ⟨X1, hx, hby, hml, hret, hlk, hown, hZ, hw, e1, n1, N1⟩ := B1
  have YJ := Yf.segj Y (YgF.bare Y1 7 rfl (by decide)) Kp hA1 f1
  have YS := Yf.swap (a := own_fl A1 K1 D W 0 (dsE cnt er ep es eo ev)) (b := [(A1 7, K1 7, 1, 0, []), (A1 8, K1 8, 65, 2, a8.map (den A1 D W)), (A1 9, K1 9, 66, 2, a9.map (den A1 D W)), (A1 10, K1 10, 64, 16, a10.map (den A1 D W)), (A1 11, K1 11, 67, 2, [W 23, W 24]), (A1 12, K1 12, 68, 2, [W 25, W 26])]) (c := lu) YJ
  have hM := HT A1 K1 cnt er ep es eo ev (D 3) (D 4) (D 5) (D 6) E h1 D i0 i1 _ HR n1 D0 rfl rfl rfl rfl V.1 V.2.1 V.2.2.1 V.2.2.2 YS
  refine own_ca_4 hw (.invokevirtual 52) 1 33 1 0 rfl X1 hx hZ hown (argsL := [.ref (A1 0)]) (rest := []) (b := A1 1) hM e1 (fun _ => (Y1.1 1 _ rfl).2.obj (by show (0 : Nat) < 64; decide)) rfl (by rw [hml]; exact hs) rfl (by decide) (by decide) (by decide) (by decide) (hb hby at_330) ?_
  intro v T2 L2 X2 Q2
  obtain ⟨pr, kp, kv, kf, x0, x1, y0, y1, u0, u1, rfl, N2, n2, Y2, HE, F0, F1, bX0, bX1, M0, M1⟩ := Q2
  exact KK T2 _ _ pr kp kv kf x0 x1 y0 y1 u0 u1 ⟨X2.more (by decide) (by decide), hx, hby, hml, hret, hlk, hown, hZ, hw, rfl, n2, N1.app N2⟩ (Yf.pick Y2 [0, 1, 2, 3, 7, 8] (by decide) rfl) HE F0 F1 bX0 bX1 M0 M1
theorem eE_xx : runIs (run code own_MN_4 29 (8, 192, 1792, 208) 1000000 62 [] [0, 0] (333, lwE (sI 0) (sF 17) (sI 0) (sF 18) sU sU, [vR 0], dX6, 21, 92, 864)) (454, lwE (sI 0) (sF 17) (sI 0) (sF 18) (sR 0) (sR 6), [vI 1], dX6 ++ [(65, 2, [vD 25, vD 30])], 31, 93, 866) [(7, 7, 0, 0), (2, 21, 19, 0), (7, 8, 0, 0), (2, 23, 20, 0), (0, 22, 24, 0), (7, 9, 0, 0), (2, 26, 19, 0), (7, 10, 0, 0), (2, 28, 20, 0), (0, 27, 29, 0), (12, 25, 1, 0), (12, 30, 2, 0)] = true := by decide +kernel
theorem rmE_xx {Y0 Y1 X0 X1 : Int} (B : LWB p l e s m args below meth c T0 Z a0 h0 n0 L0 92 864) (Y : YgF Z n0 h0 A K D W dX6) (D0 : D 0 = 0) (Q : QB D) (V : VB D i0 i1) (HE : EHB (fun i0 i1 Y0 Y1 => Y0 = 4 * i0 ∧ Y1 = 4 * i1) i0 i1 Y0 Y1) (F0 : DFix X0 6 (D 19)) (F1 : DFix X1 6 (D 20)) (bX0 : -1125899906842624 ≤ X0 ∧ X0 ≤ 1125899906842624) (bX1 : -1125899906842624 ≤ X1 ∧ X1 ≤ 1125899906842624) (M0 : (iW (D 7)).toInt * X0 + (iW (D 8)).toInt * X1 = 16 * Y0) (M1 : (iW (D 9)).toInt * X0 + (iW (D 10)).toInt * X1 = 16 * Y1) : Go p e below (EndQ s (Q_rm0 n0) 192 1792) T0 (mkF m 333 (dL A D W (lwE (sI 0) (sF 17) (sI 0) (sF 18) sU sU)) [.ref (A 0)]) := by
  obtain ⟨hE, bY0, bY1⟩ := HE
  obtain ⟨q0, q1, q2, q3⟩ := Q
  obtain ⟨d0, d1, b0, b1⟩ := V
  have m0 := Jvm.FP.Core.i2d_int (iW (D 7))
  have m1 := Jvm.FP.Core.i2d_int (iW (D 8))
  have m2 := Jvm.FP.Core.i2d_int (iW (D 9))
  have m3 := Jvm.FP.Core.i2d_int (iW (D 10))
  have W0 := own_row m0 m1 q0 q1 F0 F1 bX0 bX1 M0
  have W1 := own_row m2 m3 q2 q3 F0 F1 bX0 bX1 M1
  obtain ⟨s1, s2⟩ := (hE : Y0 = 4 * i0 ∧ Y1 = 4 * i1)
  have w0 : DFix (64 * i0) 6 (D 1) := own_lift 6 64 (own_fix0.mpr d0) rfl (by omega)
  have C0 : (cmpValue (FP.dcmp (FP.dadd (FP.dmul (FP.i2d (iW (D 7))) (D 19)) (FP.dmul (FP.i2d (iW (D 8))) (D 20))) (D 1)) .l).toInt = 0 := own_cmp0 (K := 64 * i0) (by have := W0.2.2.2; rw [show (16 * Y0) = 64 * i0 by omega] at this; exact this) w0
  have w1 : DFix (64 * i1) 6 (D 2) := own_lift 6 64 (own_fix0.mpr d1) rfl (by omega)
  have C1 : (cmpValue (FP.dcmp (FP.dadd (FP.dmul (FP.i2d (iW (D 9))) (D 19)) (FP.dmul (FP.i2d (iW (D 10))) (D 20))) (D 2)) .l).toInt = 0 := own_cmp0 (K := 64 * i1) (by have := W1.2.2.2; rw [show (16 * Y1) = 64 * i1 by omega] at this; exact this) w1
  refine goE (segL eE_xx sc0 B Y D0 (by decide) ⟨trivial, W0.1, trivial, W0.2.1, W0.2.2.1, trivial, W1.1, trivial, W1.2.1, W1.2.2.1, C0, C1, trivial⟩ ?_) rfl
  intro T1 h1 L1 A1 K1 B1 hA1 Kp f1 Y1_
  obtain ⟨X1, hx, hby, hml, hret, hlk, hown, hZ, hw, e1, n1, N1⟩ := B1
  exact goE (g_retZ X1 hx hlk hret (hb hby at_454) (by decide) (by decide) e1 ⟨rfl, N1⟩) rfl
theorem eE_x0 : runIs (run code own_MN_4 29 (8, 192, 1792, 208) 1000000 68 [(cn_165, [6], [0, 5, 6, 25, 30], [])] [0, 0] (333, lwE (sI 0) (sF 17) (sI 1) (sI 0) sU sU, [vR 0], dX6, 21, 92, 864)) (454, lwE (sI 0) (sF 17) (sI 1) (sI 0) (sR 0) (sR 7), [vI 1], dX6 ++ [(65, 2, [vD 25, vD 30]), (65, 2, [vD 33, vD 30])], 34, 94, 868) [(7, 7, 0, 0), (2, 21, 19, 0), (7, 8, 0, 0), (2, 23, 20, 0), (0, 22, 24, 0), (7, 9, 0, 0), (2, 26, 19, 0), (7, 10, 0, 0), (2, 28, 20, 0), (0, 27, 29, 0), (2, 5, 25, 0), (2, 6, 30, 0), (0, 31, 32, 0), (12, 33, 1, 0), (12, 30, 2, 0)] = true := by decide +kernel
theorem rmE_x0 {Y0 Y1 X0 X1 : Int} (B : LWB p l e s m args below meth c T0 Z a0 h0 n0 L0 92 864) (Y : YgF Z n0 h0 A K D W dX6) (D0 : D 0 = 0) (Q : QB D) (V : VB D i0 i1) (H2 : PA k2 j2 (D 5) (D 6)) (HE : EHB (fun i0 i1 Y0 Y1 => Er false k2 j2 (4 * i0) (4 * i1) Y0 Y1) i0 i1 Y0 Y1) (F0 : DFix X0 6 (D 19)) (F1 : DFix X1 6 (D 20)) (bX0 : -1125899906842624 ≤ X0 ∧ X0 ≤ 1125899906842624) (bX1 : -1125899906842624 ≤ X1 ∧ X1 ≤ 1125899906842624) (M0 : (iW (D 7)).toInt * X0 + (iW (D 8)).toInt * X1 = 16 * Y0) (M1 : (iW (D 9)).toInt * X0 + (iW (D 10)).toInt * X1 = 16 * Y1) : Go p e below (EndQ s (Q_rm0 n0) 192 1792) T0 (mkF m 333 (dL A D W (lwE (sI 0) (sF 17) (sI 1) (sI 0) sU sU)) [.ref (A 0)]) := by
  obtain ⟨hE, bY0, bY1⟩ := HE
  obtain ⟨q0, q1, q2, q3⟩ := Q
  obtain ⟨d0, d1, b0, b1⟩ := V
  have m0 := Jvm.FP.Core.i2d_int (iW (D 7))
  have m1 := Jvm.FP.Core.i2d_int (iW (D 8))
  have m2 := Jvm.FP.Core.i2d_int (iW (D 9))
  have m3 := Jvm.FP.Core.i2d_int (iW (D 10))
  have W0 := own_row m0 m1 q0 q1 F0 F1 bX0 bX1 M0
  have W1 := own_row m2 m3 q2 q3 F0 F1 bX0 bX1 M1
  obtain ⟨u2_, s2_⟩ := (hE : Er false k2 j2 (4 * i0) (4 * i1) Y0 Y1)
  have u2 : k2 * Y0 + j2 * Y1 = (4 * i0) := u2_
  have s2 : Y1 = (4 * i1) := s2_
  have V2 := own_etaF (K := 16 * (4 * i0)) H2 W0.2.2.2 W1.2.2.2 (by omega) (by omega) (by rw [Int.mul_left_comm k2, Int.mul_left_comm j2]; omega)
  have w0 : DFix (64 * i0) 6 (D 1) := own_lift 6 64 (own_fix0.mpr d0) rfl (by omega)
  have C0 : (cmpValue (FP.dcmp (FP.dadd (FP.dmul (D 5) (FP.dadd (FP.dmul (FP.i2d (iW (D 7))) (D 19)) (FP.dmul (FP.i2d (iW (D 8))) (D 20)))) (FP.dmul (D 6) (FP.dadd (FP.dmul (FP.i2d (iW (D 9))) (D 19)) (FP.dmul (FP.i2d (iW (D 10))) (D 20))))) (D 1)) .l).toInt = 0 := own_cmp0 (K := 64 * i0) (by have := V2.2.2.2.1; rw [show (16 * (4 * i0)) = 64 * i0 by omega] at this; exact this) w0
  have w1 : DFix (64 * i1) 6 (D 2) := own_lift 6 64 (own_fix0.mpr d1) rfl (by omega)
  have C1 : (cmpValue (FP.dcmp (FP.dadd (FP.dmul (FP.i2d (iW (D 9))) (D 19)) (FP.dmul (FP.i2d (iW (D 10))) (D 20))) (D 2)) .l).toInt = 0 := own_cmp0 (K := 64 * i1) (by have := W1.2.2.2; rw [show (16 * Y1) = 64 * i1 by omega] at this; exact this) w1
  refine goE (segL eE_x0 (scS ct_165 sc0) B Y D0 (by decide) ⟨trivial, W0.1, trivial, W0.2.1, W0.2.2.1, trivial, W1.1, trivial, W1.2.1, W1.2.2.1, V2.1, V2.2.1, V2.2.2.1, C0, C1, trivial⟩ ?_) rfl
  intro T1 h1 L1 A1 K1 B1 hA1 Kp f1 Y1_
  obtain ⟨X1, hx, hby, hml, hret, hlk, hown, hZ, hw, e1, n1, N1⟩ := B1
  exact goE (g_retZ X1 hx hlk hret (hb hby at_454) (by decide) (by decide) e1 ⟨rfl, N1⟩) rfl
theorem eE_x1 : runIs (run code own_MN_4 29 (8, 192, 1792, 208) 1000000 68 [(cn_166, [6], [0, 5, 6, 25, 30], [])] [0, 0] (333, lwE (sI 0) (sF 17) (sI 1) (sI 1) sU sU, [vR 0], dX6, 21, 92, 864)) (454, lwE (sI 0) (sF 17) (sI 1) (sI 1) (sR 0) (sR 7), [vI 1], dX6 ++ [(65, 2, [vD 25, vD 30]), (65, 2, [vD 25, vD 33])], 34, 94, 868) [(7, 7, 0, 0), (2, 21, 19, 0), (7, 8, 0, 0), (2, 23, 20, 0), (0, 22, 24, 0), (7, 9, 0, 0), (2, 26, 19, 0), (7, 10, 0, 0), (2, 28, 20, 0), (0, 27, 29, 0), (2, 5, 30, 0), (2, 6, 25, 0), (0, 31, 32, 0), (12, 25, 1, 0), (12, 33, 2, 0)] = true := by decide +kernel
theorem rmE_x1 {Y0 Y1 X0 X1 : Int} (B : LWB p l e s m args below meth c T0 Z a0 h0 n0 L0 92 864) (Y : YgF Z n0 h0 A K D W dX6) (D0 : D 0 = 0) (Q : QB D) (V : VB D i0 i1) (H2 : PA k2 j2 (D 5) (D 6)) (HE : EHB (fun i0 i1 Y0 Y1 => Er true k2 j2 (4 * i0) (4 * i1) Y0 Y1) i0 i1 Y0 Y1) (F0 : DFix X0 6 (D 19)) (F1 : DFix X1 6 (D 20)) (bX0 : -1125899906842624 ≤ X0 ∧ X0 ≤ 1125899906842624) (bX1 : -1125899906842624 ≤ X1 ∧ X1 ≤ 1125899906842624) (M0 : (iW (D 7)).toInt * X0 + (iW (D 8)).toInt * X1 = 16 * Y0) (M1 : (iW (D 9)).toInt * X0 + (iW (D 10)).toInt * X1 = 16 * Y1) : Go p e below (EndQ s (Q_rm0 n0) 192 1792) T0 (mkF m 333 (dL A D W (lwE (sI 0) (sF 17) (sI 1) (sI 1) sU sU)) [.ref (A 0)]) := by
  obtain ⟨hE, bY0, bY1⟩ := HE
  obtain ⟨q0, q1, q2, q3⟩ := Q
  obtain ⟨d0, d1, b0, b1⟩ := V
  have m0 := Jvm.FP.Core.i2d_int (iW (D 7))
  have m1 := Jvm.FP.Core.i2d_int (iW (D 8))
  have m2 := Jvm.FP.Core.i2d_int (iW (D 9))
  have m3 := Jvm.FP.Core.i2d_int (iW (D 10))
  have W0 := own_row m0 m1 q0 q1 F0 F1 bX0 bX1 M0
  have W1 := own_row m2 m3 q2 q3 F0 F1 bX0 bX1 M1
  obtain ⟨u2_, s2_⟩ := (hE : Er true k2 j2 (4 * i0) (4 * i1) Y0 Y1)
  have u2 : k2 * Y1 + j2 * Y0 = (4 * i1) := u2_
  have s2 : Y0 = (4 * i0) := s2_
  have V2 := own_etaF (K := 16 * (4 * i1)) H2 W1.2.2.2 W0.2.2.2 (by omega) (by omega) (by rw [Int.mul_left_comm k2, Int.mul_left_comm j2]; omega)
  have w0 : DFix (64 * i0) 6 (D 1) := own_lift 6 64 (own_fix0.mpr d0) rfl (by omega)
  have C0 : (cmpValue (FP.dcmp (FP.dadd (FP.dmul (FP.i2d (iW (D 7))) (D 19)) (FP.dmul (FP.i2d (iW (D 8))) (D 20))) (D 1)) .l).toInt = 0 := own_cmp0 (K := 64 * i0) (by have := W0.2.2.2; rw [show (16 * Y0) = 64 * i0 by omega] at this; exact this) w0
  have w1 : DFix (64 * i1) 6 (D 2) := own_lift 6 64 (own_fix0.mpr d1) rfl (by omega)
  have C1 : (cmpValue (FP.dcmp (FP.dadd (FP.dmul (D 5) (FP.dadd (FP.dmul (FP.i2d (iW (D 9))) (D 19)) (FP.dmul (FP.i2d (iW (D 10))) (D 20)))) (FP.dmul (D 6) (FP.dadd (FP.dmul (FP.i2d (iW (D 7))) (D 19)) (FP.dmul (FP.i2d (iW (D 8))) (D 20))))) (D 2)) .l).toInt = 0 := own_cmp0 (K := 64 * i1) (by have := V2.2.2.2.1; rw [show (16 * (4 * i1)) = 64 * i1 by omega] at this; exact this) w1
  refine goE (segL eE_x1 (scS ct_166 sc0) B Y D0 (by decide) ⟨trivial, W0.1, trivial, W0.2.1, W0.2.2.1, trivial, W1.1, trivial, W1.2.1, W1.2.2.1, V2.1, V2.2.1, V2.2.2.1, C0, C1, trivial⟩ ?_) rfl
  intro T1 h1 L1 A1 K1 B1 hA1 Kp f1 Y1_
  obtain ⟨X1, hx, hby, hml, hret, hlk, hown, hZ, hw, e1, n1, N1⟩ := B1
  exact goE (g_retZ X1 hx hlk hret (hb hby at_454) (by decide) (by decide) e1 ⟨rfl, N1⟩) rfl
theorem eE_0x : runIs (run code own_MN_4 29 (8, 192, 1792, 208) 1000000 68 [(cn_165, [6], [0, 3, 4, 25, 30], [])] [0, 0] (333, lwE (sI 1) (sI 0) (sI 0) (sF 18) sU sU, [vR 0], dX6, 21, 92, 864)) (454, lwE (sI 1) (sI 0) (sI 0) (sF 18) (sR 0) (sR 7), [vI 1], dX6 ++ [(65, 2, [vD 25, vD 30]), (65, 2, [vD 33, vD 30])], 34, 94, 868) [(7, 7, 0, 0), (2, 21, 19, 0), (7, 8, 0, 0), (2, 23, 20, 0), (0, 22, 24, 0), (7, 9, 0, 0), (2, 26, 19, 0), (7, 10, 0, 0), (2, 28, 20, 0), (0, 27, 29, 0), (2, 3, 25, 0), (2, 4, 30, 0), (0, 31, 32, 0), (12, 33, 1, 0), (12, 30, 2, 0)] = true := by decide +kernel
theorem rmE_0x {Y0 Y1 X0 X1 : Int} (B : LWB p l e s m args below meth c T0 Z a0 h0 n0 L0 92 864) (Y : YgF Z n0 h0 A K D W dX6) (D0 : D 0 = 0) (Q : QB D) (V : VB D i0 i1) (H1 : PA k1 j1 (D 3) (D 4)) (HE : EHB (fun i0 i1 Y0 Y1 => Er false k1 j1 (4 * i0) (4 * i1) Y0 Y1) i0 i1 Y0 Y1) (F0 : DFix X0 6 (D 19)) (F1 : DFix X1 6 (D 20)) (bX0 : -1125899906842624 ≤ X0 ∧ X0 ≤ 1125899906842624) (bX1 : -1125899906842624 ≤ X1 ∧ X1 ≤ 1125899906842624) (M0 : (iW (D 7)).toInt * X0 + (iW (D 8)).toInt * X1 = 16 * Y0) (M1 : (iW (D 9)).toInt * X0 + (iW (D 10)).toInt * X1 = 16 * Y1) : Go p e below (EndQ s (Q_rm0 n0) 192 1792) T0 (mkF m 333 (dL A D W (lwE (sI 1) (sI 0) (sI 0) (sF 18) sU sU)) [.ref (A 0)]) := by
  obtain ⟨hE, bY0, bY1⟩ := HE
  obtain ⟨q0, q1, q2, q3⟩ := Q
  obtain ⟨d0, d1, b0, b1⟩ := V
  have m0 := Jvm.FP.Core.i2d_int (iW (D 7))
  have m1 := Jvm.FP.Core.i2d_int (iW (D 8))
  have m2 := Jvm.FP.Core.i2d_int (iW (D 9))
  have m3 := Jvm.FP.Core.i2d_int (iW (D 10))
  have W0 := own_row m0 m1 q0 q1 F0 F1 bX0 bX1 M0
  have W1 := own_row m2 m3 q2 q3 F0 F1 bX0 bX1 M1
  obtain ⟨u1_, s1_⟩ := (hE : Er false k1 j1 (4 * i0) (4 * i1) Y0 Y1)
  have u1 : k1 * Y0 + j1 * Y1 = (4 * i0) := u1_
  have s1 : Y1 = (4 * i1) := s1_
  have V1 := own_etaF (K := 16 * (4 * i0)) H1 W0.2.2.2 W1.2.2.2 (by omega) (by omega) (by rw [Int.mul_left_comm k1, Int.mul_left_comm j1]; omega)
  have w0 : DFix (64 * i0) 6 (D 1) := own_lift 6 64 (own_fix0.mpr d0) rfl (by omega)
  have C0 : (cmpValue (FP.dcmp (FP.dadd (FP.dmul (D 3) (FP.dadd (FP.dmul (FP.i2d (iW (D 7))) (D 19)) (FP.dmul (FP.i2d (iW (D 8))) (D 20)))) (FP.dmul (D 4) (FP.dadd (FP.dmul (FP.i2d (iW (D 9))) (D 19)) (FP.dmul (FP.i2d (iW (D 10))) (D 20))))) (D 1)) .l).toInt = 0 := own_cmp0 (K := 64 * i0) (by have := V1.2.2.2.1; rw [show (16 * (4 * i0)) = 64 * i0 by omega] at this; exact this) w0
  have w1 : DFix (64 * i1) 6 (D 2) := own_lift 6 64 (own_fix0.mpr d1) rfl (by omega)
  have C1 : (cmpValue (FP.dcmp (FP.dadd (FP.dmul (FP.i2d (iW (D 9))) (D 19)) (FP.dmul (FP.i2d (iW (D 10))) (D 20))) (D 2)) .l).toInt = 0 := own_cmp0 (K := 64 * i1) (by have := W1.2.2.2; rw [show (16 * Y1) = 64 * i1 by omega] at this; exact this) w1
  refine goE (segL eE_0x (scS ct_165 sc0) B Y D0 (by decide) ⟨trivial, W0.1, trivial, W0.2.1, W0.2.2.1, trivial, W1.1, trivial, W1.2.1, W1.2.2.1, V1.1, V1.2.1, V1.2.2.1, C0, C1, trivial⟩ ?_) rfl
  intro T1 h1 L1 A1 K1 B1 hA1 Kp f1 Y1_
  obtain ⟨X1, hx, hby, hml, hret, hlk, hown, hZ, hw, e1, n1, N1⟩ := B1
  exact goE (g_retZ X1 hx hlk hret (hb hby at_454) (by decide) (by decide) e1 ⟨rfl, N1⟩) rfl
theorem eE_00 : runIs (run code own_MN_4 29 (8, 192, 1792, 208) 1000000 74 [(cn_165, [6], [0, 3, 4, 25, 30], []), (cn_165, [7], [0, 5, 6, 33, 30], [])] [0, 0] (333, lwE (sI 1) (sI 0) (sI 1) (sI 0) sU sU, [vR 0], dX6, 21, 92, 864)) (454, lwE (sI 1) (sI 0) (sI 1) (sI 0) (sR 0) (sR 8), [vI 1], dX6 ++ [(65, 2, [vD 25, vD 30]), (65, 2, [vD 33, vD 30]), (65, 2, [vD 36, vD 30])], 37, 95, 870) [(7, 7, 0, 0), (2, 21, 19, 0), (7, 8, 0, 0), (2, 23, 20, 0), (0, 22, 24, 0), (7, 9, 0, 0), (2, 26, 19, 0), (7, 10, 0, 0), (2, 28, 20, 0), (0, 27, 29, 0), (2, 3, 25, 0), (2, 4, 30, 0), (0, 31, 32, 0), (2, 5, 33, 0), (2, 6, 30, 0), (0, 34, 35, 0), (12, 36, 1, 0), (12, 30, 2, 0)] = true := by decide +kernel
theorem rmE_00 {Y0 Y1 X0 X1 : Int} (B : LWB p l e s m args below meth c T0 Z a0 h0 n0 L0 92 864) (Y : YgF Z n0 h0 A K D W dX6) (D0 : D 0 = 0) (Q : QB D) (V : VB D i0 i1) (H1 : PA k1 j1 (D 3) (D 4)) (H2 : PA k2 j2 (D 5) (D 6)) (HE : EHB (fun i0 i1 Y0 Y1 => ∃ z0 z1, Er false k2 j2 (4 * i0) (4 * i1) z0 z1 ∧ Er false k1 j1 z0 z1 Y0 Y1) i0 i1 Y0 Y1) (F0 : DFix X0 6 (D 19)) (F1 : DFix X1 6 (D 20)) (bX0 : -1125899906842624 ≤ X0 ∧ X0 ≤ 1125899906842624) (bX1 : -1125899906842624 ≤ X1 ∧ X1 ≤ 1125899906842624) (M0 : (iW (D 7)).toInt * X0 + (iW (D 8)).toInt * X1 = 16 * Y0) (M1 : (iW (D 9)).toInt * X0 + (iW (D 10)).toInt * X1 = 16 * Y1) : Go p e below (EndQ s (Q_rm0 n0) 192 1792) T0 (mkF m 333 (dL A D W (lwE (sI 1) (sI 0) (sI 1) (sI 0) sU sU)) [.ref (A 0)]) := by
  obtain ⟨hE, bY0, bY1⟩ := HE
  obtain ⟨q0, q1, q2, q3⟩ := Q
  obtain ⟨d0, d1, b0, b1⟩ := V
  have m0 := Jvm.FP.Core.i2d_int (iW (D 7))
  have m1 := Jvm.FP.Core.i2d_int (iW (D 8))
  have m2 := Jvm.FP.Core.i2d_int (iW (D 9))
  have m3 := Jvm.FP.Core.i2d_int (iW (D 10))
  have W0 := own_row m0 m1 q0 q1 F0 F1 bX0 bX1 M0
  have W1 := own_row m2 m3 q2 q3 F0 F1 bX0 bX1 M1
  obtain ⟨t0, t1, E2, E1⟩ := hE
  obtain ⟨u1_, s1_⟩ := (E1 : Er false k1 j1 t0 t1 Y0 Y1)
  have u1 : k1 * Y0 + j1 * Y1 = t0 := u1_
  have s1 : Y1 = t1 := s1_
  subst s1
  have bt := own_kb H1 (N := 4398046511104) bY0 bY1 (by decide) u1
  have V1 := own_etaF (K := 16 * t0) H1 W0.2.2.2 W1.2.2.2 (by omega) (by omega) (by rw [Int.mul_left_comm k1, Int.mul_left_comm j1]; omega)
  obtain ⟨u2_, s2_⟩ := (E2 : Er false k2 j2 (4 * i0) (4 * i1) t0 Y1)
  have u2 : k2 * t0 + j2 * Y1 = (4 * i0) := u2_
  have s2 : Y1 = (4 * i1) := s2_
  have V2 := own_etaF (K := 16 * (4 * i0)) H2 V1.2.2.2.1 W1.2.2.2 (by omega) (by omega) (by rw [Int.mul_left_comm k2, Int.mul_left_comm j2]; omega)
  have w0 : DFix (64 * i0) 6 (D 1) := own_lift 6 64 (own_fix0.mpr d0) rfl (by omega)
  have C0 : (cmpValue (FP.dcmp (FP.dadd (FP.dmul (D 5) (FP.dadd (FP.dmul (D 3) (FP.dadd (FP.dmul (FP.i2d (iW (D 7))) (D 19)) (FP.dmul (FP.i2d (iW (D 8))) (D 20)))) (FP.dmul (D 4) (FP.dadd (FP.dmul (FP.i2d (iW (D 9))) (D 19)) (FP.dmul (FP.i2d (iW (D 10))) (D 20)))))) (FP.dmul (D 6) (FP.dadd (FP.dmul (FP.i2d (iW (D 9))) (D 19)) (FP.dmul (FP.i2d (iW (D 10))) (D 20))))) (D 1)) .l).toInt = 0 := own_cmp0 (K := 64 * i0) (by have := V2.2.2.2.1; rw [show (16 * (4 * i0)) = 64 * i0 by omega] at this; exact this) w0
  have w1 : DFix (64 * i1) 6 (D 2) := own_lift 6 64 (own_fix0.mpr d1) rfl (by omega)
  have C1 : (cmpValue (FP.dcmp (FP.dadd (FP.dmul (FP.i2d (iW (D 9))) (D 19)) (FP.dmul (FP.i2d (iW (D 10))) (D 20))) (D 2)) .l).toInt = 0 := own_cmp0 (K := 64 * i1) (by have := W1.2.2.2; rw [show (16 * Y1) = 64 * i1 by omega] at this; exact this) w1
  refine goE (segL eE_00 (scS ct_165 (scS ct_165 sc0)) B Y D0 (by decide) ⟨trivial, W0.1, trivial, W0.2.1, W0.2.2.1, trivial, W1.1, trivial, W1.2.1, W1.2.2.1, V1.1, V1.2.1, V1.2.2.1, V2.1, V2.2.1, V2.2.2.1, C0, C1, trivial⟩ ?_) rfl
  intro T1 h1 L1 A1 K1 B1 hA1 Kp f1 Y1_
  obtain ⟨X1, hx, hby, hml, hret, hlk, hown, hZ, hw, e1, n1, N1⟩ := B1
  exact goE (g_retZ X1 hx hlk hret (hb hby at_454) (by decide) (by decide) e1 ⟨rfl, N1⟩) rfl
theorem eE_01 : runIs (run code own_MN_4 29 (8, 192, 1792, 208) 1000000 74 [(cn_165, [6], [0, 3, 4, 25, 30], []), (cn_166, [7], [0, 5, 6, 33, 30], [])] [0, 0] (333, lwE (sI 1) (sI 0) (sI 1) (sI 1) sU sU, [vR 0], dX6, 21, 92, 864)) (454, lwE (sI 1) (sI 0) (sI 1) (sI 1) (sR 0) (sR 8), [vI 1], dX6 ++ [(65, 2, [vD 25, vD 30]), (65, 2, [vD 33, vD 30]), (65, 2, [vD 33, vD 36])], 37, 95, 870) [(7, 7, 0, 0), (2, 21, 19, 0), (7, 8, 0, 0), (2, 23, 20, 0), (0, 22, 24, 0), (7, 9, 0, 0), (2, 26, 19, 0), (7, 10, 0, 0), (2, 28, 20, 0), (0, 27, 29, 0), (2, 3, 25, 0), (2, 4, 30, 0), (0, 31, 32, 0), (2, 5, 30, 0), (2, 6, 33, 0), (0, 34, 35, 0), (12, 33, 1, 0), (12, 36, 2, 0)] = true := by decide +kernel
theorem rmE_01 {Y0 Y1 X0 X1 : Int} (B : LWB p l e s m args below meth c T0 Z a0 h0 n0 L0 92 864) (Y : YgF Z n0 h0 A K D W dX6) (D0 : D 0 = 0) (Q : QB D) (V : VB D i0 i1) (H1 : PA k1 j1 (D 3) (D 4)) (H2 : PA k2 j2 (D 5) (D 6)) (HE : EHB (fun i0 i1 Y0 Y1 => ∃ z0 z1, Er true k2 j2 (4 * i0) (4 * i1) z0 z1 ∧ Er false k1 j1 z0 z1 Y0 Y1) i0 i1 Y0 Y1) (F0 : DFix X0 6 (D 19)) (F1 : DFix X1 6 (D 20)) (bX0 : -1125899906842624 ≤ X0 ∧ X0 ≤ 1125899906842624) (bX1 : -1125899906842624 ≤ X1 ∧ X1 ≤ 1125899906842624) (M0 : (iW (D 7)).toInt * X0 + (iW (D 8)).toInt * X1 = 16 * Y0) (M1 : (iW (D 9)).toInt * X0 + (iW (D 10)).toInt * X1 = 16 * Y1) : Go p e below (EndQ s (Q_rm0 n0) 192 1792) T0 (mkF m 333 (dL A D W (lwE (sI 1) (sI 0) (sI 1) (sI 1) sU sU)) [.ref (A 0)]) := by
  obtain ⟨hE, bY0, bY1⟩ := HE
  obtain ⟨q0, q1, q2, q3⟩ := Q
  obtain ⟨d0, d1, b0, b1⟩ := V
  have m0 := Jvm.FP.Core.i2d_int (iW (D 7))
  have m1 := Jvm.FP.Core.i2d_int (iW (D 8))
  have m2 := Jvm.FP.Core.i2d_int (iW (D 9))
  have m3 := Jvm.FP.Core.i2d_int (iW (D 10))
  have W0 := own_row m0 m1 q0 q1 F0 F1 bX0 bX1 M0
  have W1 := own_row m2 m3 q2 q3 F0 F1 bX0 bX1 M1
  obtain ⟨t0, t1, E2, E1⟩ := hE
  obtain ⟨u1_, s1_⟩ := (E1 : Er false k1 j1 t0 t1 Y0 Y1)
  have u1 : k1 * Y0 + j1 * Y1 = t0 := u1_
  have s1 : Y1 = t1 := s1_
  subst s1
  have bt := own_kb H1 (N := 4398046511104) bY0 bY1 (by decide) u1
  have V1 := own_etaF (K := 16 * t0) H1 W0.2.2.2 W1.2.2.2 (by omega) (by omega) (by rw [Int.mul_left_comm k1, Int.mul_left_comm j1]; omega)
  obtain ⟨u2_, s2_⟩ := (E2 : Er true k2 j2 (4 * i0) (4 * i1) t0 Y1)
  have u2 : k2 * Y1 + j2 * t0 = (4 * i1) := u2_
  have s2 : t0 = (4 * i0) := s2_
  have V2 := own_etaF (K := 16 * (4 * i1)) H2 W1.2.2.2 V1.2.2.2.1 (by omega) (by omega) (by rw [Int.mul_left_comm k2, Int.mul_left_comm j2]; omega)
  have w0 : DFix (64 * i0) 6 (D 1) := own_lift 6 64 (own_fix0.mpr d0) rfl (by omega)
  have C0 : (cmpValue (FP.dcmp (FP.dadd (FP.dmul (D 3) (FP.dadd (FP.dmul (FP.i2d (iW (D 7))) (D 19)) (FP.dmul (FP.i2d (iW (D 8))) (D 20)))) (FP.dmul (D 4) (FP.dadd (FP.dmul (FP.i2d (iW (D 9))) (D 19)) (FP.dmul (FP.i2d (iW (D 10))) (D 20))))) (D 1)) .l).toInt = 0 := own_cmp0 (K := 64 * i0) (by have := V1.2.2.2.1; rw [show (16 * t0) = 64 * i0 by omega] at this; exact this) w0
  have w1 : DFix (64 * i1) 6 (D 2) := own_lift 6 64 (own_fix0.mpr d1) rfl (by omega)
  have C1 : (cmpValue (FP.dcmp (FP.dadd (FP.dmul (D 5) (FP.dadd (FP.dmul (FP.i2d (iW (D 9))) (D 19)) (FP.dmul (FP.i2d (iW (D 10))) (D 20)))) (FP.dmul (D 6) (FP.dadd (FP.dmul (D 3) (FP.dadd (FP.dmul (FP.i2d (iW (D 7))) (D 19)) (FP.dmul (FP.i2d (iW (D 8))) (D 20)))) (FP.dmul (D 4) (FP.dadd (FP.dmul (FP.i2d (iW (D 9))) (D 19)) (FP.dmul (FP.i2d (iW (D 10))) (D 20))))))) (D 2)) .l).toInt = 0 := own_cmp0 (K := 64 * i1) (by have := V2.2.2.2.1; rw [show (16 * (4 * i1)) = 64 * i1 by omega] at this; exact this) w1
  refine goE (segL eE_01 (scS ct_165 (scS ct_166 sc0)) B Y D0 (by decide) ⟨trivial, W0.1, trivial, W0.2.1, W0.2.2.1, trivial, W1.1, trivial, W1.2.1, W1.2.2.1, V1.1, V1.2.1, V1.2.2.1, V2.1, V2.2.1, V2.2.2.1, C0, C1, trivial⟩ ?_) rfl
  intro T1 h1 L1 A1 K1 B1 hA1 Kp f1 Y1_
  obtain ⟨X1, hx, hby, hml, hret, hlk, hown, hZ, hw, e1, n1, N1⟩ := B1
  exact goE (g_retZ X1 hx hlk hret (hb hby at_454) (by decide) (by decide) e1 ⟨rfl, N1⟩) rfl
theorem eE_1x : runIs (run code own_MN_4 29 (8, 192, 1792, 208) 1000000 68 [(cn_166, [6], [0, 3, 4, 25, 30], [])] [0, 0] (333, lwE (sI 1) (sI 1) (sI 0) (sF 18) sU sU, [vR 0], dX6, 21, 92, 864)) (454, lwE (sI 1) (sI 1) (sI 0) (sF 18) (sR 0) (sR 7), [vI 1], dX6 ++ [(65, 2, [vD 25, vD 30]), (65, 2, [vD 25, vD 33])], 34, 94, 868) [(7, 7, 0, 0), (2, 21, 19, 0), (7, 8, 0, 0), (2, 23, 20, 0), (0, 22, 24, 0), (7, 9, 0, 0), (2, 26, 19, 0), (7, 10, 0, 0), (2, 28, 20, 0), (0, 27, 29, 0), (2, 3, 30, 0), (2, 4, 25, 0), (0, 31, 32, 0), (12, 25, 1, 0), (12, 33, 2, 0)] = true := by decide +kernel
theorem rmE_1x {Y0 Y1 X0 X1 : Int} (B : LWB p l e s m args below meth c T0 Z a0 h0 n0 L0 92 864) (Y : YgF Z n0 h0 A K D W dX6) (D0 : D 0 = 0) (Q : QB D) (V : VB D i0 i1) (H1 : PA k1 j1 (D 3) (D 4)) (HE : EHB (fun i0 i1 Y0 Y1 => Er true k1 j1 (4 * i0) (4 * i1) Y0 Y1) i0 i1 Y0 Y1) (F0 : DFix X0 6 (D 19)) (F1 : DFix X1 6 (D 20)) (bX0 : -1125899906842624 ≤ X0 ∧ X0 ≤ 1125899906842624) (bX1 : -1125899906842624 ≤ X1 ∧ X1 ≤ 1125899906842624) (M0 : (iW (D 7)).toInt * X0 + (iW (D 8)).toInt * X1 = 16 * Y0) (M1 : (iW (D 9)).toInt * X0 + (iW (D 10)).toInt * X1 = 16 * Y1) : Go p e below (EndQ s (Q_rm0 n0) 192 1792) T0 (mkF m 333 (dL A D W (lwE (sI 1) (sI 1) (sI 0) (sF 18) sU sU)) [.ref (A 0)]) := by
  obtain ⟨hE, bY0, bY1⟩ := HE
  obtain ⟨q0, q1, q2, q3⟩ := Q
  obtain ⟨d0, d1, b0, b1⟩ := V
  have m0 := Jvm.FP.Core.i2d_int (iW (D 7))
  have m1 := Jvm.FP.Core.i2d_int (iW (D 8))
  have m2 := Jvm.FP.Core.i2d_int (iW (D 9))
  have m3 := Jvm.FP.Core.i2d_int (iW (D 10))
  have W0 := own_row m0 m1 q0 q1 F0 F1 bX0 bX1 M0
  have W1 := own_row m2 m3 q2 q3 F0 F1 bX0 bX1 M1
  obtain ⟨u1_, s1_⟩ := (hE : Er true k1 j1 (4 * i0) (4 * i1) Y0 Y1)
  have u1 : k1 * Y1 + j1 * Y0 = (4 * i1) := u1_
  have s1 : Y0 = (4 * i0) := s1_
  have V1 := own_etaF (K := 16 * (4 * i1)) H1 W1.2.2.2 W0.2.2.2 (by omega) (by omega) (by rw [Int.mul_left_comm k1, Int.mul_left_comm j1]; omega)
  have w0 : DFix (64 * i0) 6 (D 1) := own_lift 6 64 (own_fix0.mpr d0) rfl (by omega)
  have C0 : (cmpValue (FP.dcmp (FP.dadd (FP.dmul (FP.i2d (iW (D 7))) (D 19)) (FP.dmul (FP.i2d (iW (D 8))) (D 20))) (D 1)) .l).toInt = 0 := own_cmp0 (K := 64 * i0) (by have := W0.2.2.2; rw [show (16 * Y0) = 64 * i0 by omega] at this; exact this) w0
  have w1 : DFix (64 * i1) 6 (D 2) := own_lift 6 64 (own_fix0.mpr d1) rfl (by omega)
  have C1 : (cmpValue (FP.dcmp (FP.dadd (FP.dmul (D 3) (FP.dadd (FP.dmul (FP.i2d (iW (D 9))) (D 19)) (FP.dmul (FP.i2d (iW (D 10))) (D 20)))) (FP.dmul (D 4) (FP.dadd (FP.dmul (FP.i2d (iW (D 7))) (D 19)) (FP.dmul (FP.i2d (iW (D 8))) (D 20))))) (D 2)) .l).toInt = 0 := own_cmp0 (K := 64 * i1) (by have := V1.2.2.2.1; rw [show (16 * (4 * i1)) = 64 * i1 by omega] at this; exact this) w1
  refine goE (segL eE_1x (scS ct_166 sc0) B Y D0 (by decide) ⟨trivial, W0.1, trivial, W0.2.1, W0.2.2.1, trivial, W1.1, trivial, W1.2.1, W1.2.2.1, V1.1, V1.2.1, V1.2.2.1, C0, C1, trivial⟩ ?_) rfl
  intro T1 h1 L1 A1 K1 B1 hA1 Kp f1 Y1_
  obtain ⟨X1, hx, hby, hml, hret, hlk, hown, hZ, hw, e1, n1, N1⟩ := B1
  exact goE (g_retZ X1 hx hlk hret (hb hby at_454) (by decide) (by decide) e1 ⟨rfl, N1⟩) rfl
theorem eE_10 : runIs (run code own_MN_4 29 (8, 192, 1792, 208) 1000000 74 [(cn_166, [6], [0, 3, 4, 25, 30], []), (cn_165, [7], [0, 5, 6, 25, 33], [])] [0, 0] (333, lwE (sI 1) (sI 1) (sI 1) (sI 0) sU sU, [vR 0], dX6, 21, 92, 864)) (454, lwE (sI 1) (sI 1) (sI 1) (sI 0) (sR 0) (sR 8), [vI 1], dX6 ++ [(65, 2, [vD 25, vD 30]), (65, 2, [vD 25, vD 33]), (65, 2, [vD 36, vD 33])], 37, 95, 870) [(7, 7, 0, 0), (2, 21, 19, 0), (7, 8, 0, 0), (2, 23, 20, 0), (0, 22, 24, 0), (7, 9, 0, 0), (2, 26, 19, 0), (7, 10, 0, 0), (2, 28, 20, 0), (0, 27, 29, 0), (2, 3, 30, 0), (2, 4, 25, 0), (0, 31, 32, 0), (2, 5, 25, 0), (2, 6, 33, 0), (0, 34, 35, 0), (12, 36, 1, 0), (12, 33, 2, 0)] = true := by decide +kernel
theorem rmE_10 {Y0 Y1 X0 X1 : Int} (B : LWB p l e s m args below meth c T0 Z a0 h0 n0 L0 92 864) (Y : YgF Z n0 h0 A K D W dX6) (D0 : D 0 = 0) (Q : QB D) (V : VB D i0 i1) (H1 : PA k1 j1 (D 3) (D 4)) (H2 : PA k2 j2 (D 5) (D 6)) (HE : EHB (fun i0 i1 Y0 Y1 => ∃ z0 z1, Er false k2 j2 (4 * i0) (4 * i1) z0 z1 ∧ Er true k1 j1 z0 z1 Y0 Y1) i0 i1 Y0 Y1) (F0 : DFix X0 6 (D 19)) (F1 : DFix X1 6 (D 20)) (bX0 : -1125899906842624 ≤ X0 ∧ X0 ≤ 1125899906842624) (bX1 : -1125899906842624 ≤ X1 ∧ X1 ≤ 1125899906842624) (M0 : (iW (D 7)).toInt * X0 + (iW (D 8)).toInt * X1 = 16 * Y0) (M1 : (iW (D 9)).toInt * X0 + (iW (D 10)).toInt * X1 = 16 * Y1) : Go p e below (EndQ s (Q_rm0 n0) 192 1792) T0 (mkF m 333 (dL A D W (lwE (sI 1) (sI 1) (sI 1) (sI 0) sU sU)) [.ref (A 0)]) := by
  obtain ⟨hE, bY0, bY1⟩ := HE
  obtain ⟨q0, q1, q2, q3⟩ := Q
  obtain ⟨d0, d1, b0, b1⟩ := V
  have m0 := Jvm.FP.Core.i2d_int (iW (D 7))
  have m1 := Jvm.FP.Core.i2d_int (iW (D 8))
  have m2 := Jvm.FP.Core.i2d_int (iW (D 9))
  have m3 := Jvm.FP.Core.i2d_int (iW (D 10))
  have W0 := own_row m0 m1 q0 q1 F0 F1 bX0 bX1 M0
  have W1 := own_row m2 m3 q2 q3 F0 F1 bX0 bX1 M1
  obtain ⟨t0, t1, E2, E1⟩ := hE
  obtain ⟨u1_, s1_⟩ := (E1 : Er true k1 j1 t0 t1 Y0 Y1)
  have u1 : k1 * Y1 + j1 * Y0 = t1 := u1_
  have s1 : Y0 = t0 := s1_
  subst s1
  have bt := own_kb H1 (N := 4398046511104) bY1 bY0 (by decide) u1
  have V1 := own_etaF (K := 16 * t1) H1 W1.2.2.2 W0.2.2.2 (by omega) (by omega) (by rw [Int.mul_left_comm k1, Int.mul_left_comm j1]; omega)
  obtain ⟨u2_, s2_⟩ := (E2 : Er false k2 j2 (4 * i0) (4 * i1) Y0 t1)
  have u2 : k2 * Y0 + j2 * t1 = (4 * i0) := u2_
  have s2 : t1 = (4 * i1) := s2_
  have V2 := own_etaF (K := 16 * (4 * i0)) H2 W0.2.2.2 V1.2.2.2.1 (by omega) (by omega) (by rw [Int.mul_left_comm k2, Int.mul_left_comm j2]; omega)
  have w0 : DFix (64 * i0) 6 (D 1) := own_lift 6 64 (own_fix0.mpr d0) rfl (by omega)
  have C0 : (cmpValue (FP.dcmp (FP.dadd (FP.dmul (D 5) (FP.dadd (FP.dmul (FP.i2d (iW (D 7))) (D 19)) (FP.dmul (FP.i2d (iW (D 8))) (D 20)))) (FP.dmul (D 6) (FP.dadd (FP.dmul (D 3) (FP.dadd (FP.dmul (FP.i2d (iW (D 9))) (D 19)) (FP.dmul (FP.i2d (iW (D 10))) (D 20)))) (FP.dmul (D 4) (FP.dadd (FP.dmul (FP.i2d (iW (D 7))) (D 19)) (FP.dmul (FP.i2d (iW (D 8))) (D 20))))))) (D 1)) .l).toInt = 0 := own_cmp0 (K := 64 * i0) (by have := V2.2.2.2.1; rw [show (16 * (4 * i0)) = 64 * i0 by omega] at this; exact this) w0
  have w1 : DFix (64 * i1) 6 (D 2) := own_lift 6 64 (own_fix0.mpr d1) rfl (by omega)
  have C1 : (cmpValue (FP.dcmp (FP.dadd (FP.dmul (D 3) (FP.dadd (FP.dmul (FP.i2d (iW (D 9))) (D 19)) (FP.dmul (FP.i2d (iW (D 10))) (D 20)))) (FP.dmul (D 4) (FP.dadd (FP.dmul (FP.i2d (iW (D 7))) (D 19)) (FP.dmul (FP.i2d (iW (D 8))) (D 20))))) (D 2)) .l).toInt = 0 := own_cmp0 (K := 64 * i1) (by have := V1.2.2.2.1; rw [show (16 * t1) = 64 * i1 by omega] at this; exact this) w1
  refine goE (segL eE_10 (scS ct_166 (scS ct_165 sc0)) B Y D0 (by decide) ⟨trivial, W0.1, trivial, W0.2.1, W0.2.2.1, trivial, W1.1, trivial, W1.2.1, W1.2.2.1, V1.1, V1.2.1, V1.2.2.1, V2.1, V2.2.1, V2.2.2.1, C0, C1, trivial⟩ ?_) rfl
  intro T1 h1 L1 A1 K1 B1 hA1 Kp f1 Y1_
  obtain ⟨X1, hx, hby, hml, hret, hlk, hown, hZ, hw, e1, n1, N1⟩ := B1
  exact goE (g_retZ X1 hx hlk hret (hb hby at_454) (by decide) (by decide) e1 ⟨rfl, N1⟩) rfl
theorem eE_11 : runIs (run code own_MN_4 29 (8, 192, 1792, 208) 1000000 74 [(cn_166, [6], [0, 3, 4, 25, 30], []), (cn_166, [7], [0, 5, 6, 25, 33], [])] [0, 0] (333, lwE (sI 1) (sI 1) (sI 1) (sI 1) sU sU, [vR 0], dX6, 21, 92, 864)) (454, lwE (sI 1) (sI 1) (sI 1) (sI 1) (sR 0) (sR 8), [vI 1], dX6 ++ [(65, 2, [vD 25, vD 30]), (65, 2, [vD 25, vD 33]), (65, 2, [vD 25, vD 36])], 37, 95, 870) [(7, 7, 0, 0), (2, 21, 19, 0), (7, 8, 0, 0), (2, 23, 20, 0), (0, 22, 24, 0), (7, 9, 0, 0), (2, 26, 19, 0), (7, 10, 0, 0), (2, 28, 20, 0), (0, 27, 29, 0), (2, 3, 30, 0), (2, 4, 25, 0), (0, 31, 32, 0), (2, 5, 33, 0), (2, 6, 25, 0), (0, 34, 35, 0), (12, 25, 1, 0), (12, 36, 2, 0)] = true := by decide +kernel
theorem rmE_11 {Y0 Y1 X0 X1 : Int} (B : LWB p l e s m args below meth c T0 Z a0 h0 n0 L0 92 864) (Y : YgF Z n0 h0 A K D W dX6) (D0 : D 0 = 0) (Q : QB D) (V : VB D i0 i1) (H1 : PA k1 j1 (D 3) (D 4)) (H2 : PA k2 j2 (D 5) (D 6)) (HE : EHB (fun i0 i1 Y0 Y1 => ∃ z0 z1, Er true k2 j2 (4 * i0) (4 * i1) z0 z1 ∧ Er true k1 j1 z0 z1 Y0 Y1) i0 i1 Y0 Y1) (F0 : DFix X0 6 (D 19)) (F1 : DFix X1 6 (D 20)) (bX0 : -1125899906842624 ≤ X0 ∧ X0 ≤ 1125899906842624) (bX1 : -1125899906842624 ≤ X1 ∧ X1 ≤ 1125899906842624) (M0 : (iW (D 7)).toInt * X0 + (iW (D 8)).toInt * X1 = 16 * Y0) (M1 : (iW (D 9)).toInt * X0 + (iW (D 10)).toInt * X1 = 16 * Y1) : Go p e below (EndQ s (Q_rm0 n0) 192 1792) T0 (mkF m 333 (dL A D W (lwE (sI 1) (sI 1) (sI 1) (sI 1) sU sU)) [.ref (A 0)]) := by
  obtain ⟨hE, bY0, bY1⟩ := HE
  obtain ⟨q0, q1, q2, q3⟩ := Q
  obtain ⟨d0, d1, b0, b1⟩ := V
  have m0 := Jvm.FP.Core.i2d_int (iW (D 7))
  have m1 := Jvm.FP.Core.i2d_int (iW (D 8))
  have m2 := Jvm.FP.Core.i2d_int (iW (D 9))
  have m3 := Jvm.FP.Core.i2d_int (iW (D 10))
  have W0 := own_row m0 m1 q0 q1 F0 F1 bX0 bX1 M0
  have W1 := own_row m2 m3 q2 q3 F0 F1 bX0 bX1 M1
  obtain ⟨t0, t1, E2, E1⟩ := hE
  obtain ⟨u1_, s1_⟩ := (E1 : Er true k1 j1 t0 t1 Y0 Y1)
  have u1 : k1 * Y1 + j1 * Y0 = t1 := u1_
  have s1 : Y0 = t0 := s1_
  subst s1
  have bt := own_kb H1 (N := 4398046511104) bY1 bY0 (by decide) u1
  have V1 := own_etaF (K := 16 * t1) H1 W1.2.2.2 W0.2.2.2 (by omega) (by omega) (by rw [Int.mul_left_comm k1, Int.mul_left_comm j1]; omega)
  obtain ⟨u2_, s2_⟩ := (E2 : Er true k2 j2 (4 * i0) (4 * i1) Y0 t1)
  have u2 : k2 * t1 + j2 * Y0 = (4 * i1) := u2_
  have s2 : Y0 = (4 * i0) := s2_
  have V2 := own_etaF (K := 16 * (4 * i1)) H2 V1.2.2.2.1 W0.2.2.2 (by omega) (by omega) (by rw [Int.mul_left_comm k2, Int.mul_left_comm j2]; omega)
  have w0 : DFix (64 * i0) 6 (D 1) := own_lift 6 64 (own_fix0.mpr d0) rfl (by omega)
  have C0 : (cmpValue (FP.dcmp (FP.dadd (FP.dmul (FP.i2d (iW (D 7))) (D 19)) (FP.dmul (FP.i2d (iW (D 8))) (D 20))) (D 1)) .l).toInt = 0 := own_cmp0 (K := 64 * i0) (by have := W0.2.2.2; rw [show (16 * Y0) = 64 * i0 by omega] at this; exact this) w0
  have w1 : DFix (64 * i1) 6 (D 2) := own_lift 6 64 (own_fix0.mpr d1) rfl (by omega)
  have C1 : (cmpValue (FP.dcmp (FP.dadd (FP.dmul (D 5) (FP.dadd (FP.dmul (D 3) (FP.dadd (FP.dmul (FP.i2d (iW (D 9))) (D 19)) (FP.dmul (FP.i2d (iW (D 10))) (D 20)))) (FP.dmul (D 4) (FP.dadd (FP.dmul (FP.i2d (iW (D 7))) (D 19)) (FP.dmul (FP.i2d (iW (D 8))) (D 20)))))) (FP.dmul (D 6) (FP.dadd (FP.dmul (FP.i2d (iW (D 7))) (D 19)) (FP.dmul (FP.i2d (iW (D 8))) (D 20))))) (D 2)) .l).toInt = 0 := own_cmp0 (K := 64 * i1) (by have := V2.2.2.2.1; rw [show (16 * (4 * i1)) = 64 * i1 by omega] at this; exact this) w1
  refine goE (segL eE_11 (scS ct_166 (scS ct_166 sc0)) B Y D0 (by decide) ⟨trivial, W0.1, trivial, W0.2.1, W0.2.2.1, trivial, W1.1, trivial, W1.2.1, W1.2.2.1, V1.1, V1.2.1, V1.2.2.1, V2.1, V2.2.1, V2.2.2.1, C0, C1, trivial⟩ ?_) rfl
  intro T1 h1 L1 A1 K1 B1 hA1 Kp f1 Y1_
  obtain ⟨X1, hx, hby, hml, hret, hlk, hown, hZ, hw, e1, n1, N1⟩ := B1
  exact goE (g_retZ X1 hx hlk hret (hb hby at_454) (by decide) (by decide) e1 ⟨rfl, N1⟩) rfl
theorem eC_x_x : runIs (run code own_MN_4 29 (8, 192, 1792, 208) 330 8 [] [] (258, (lwC (sI 0) (sF 17) (sI 0) (sF 18) 3 4 5 6), [], dsC0, 19, 90, 860)) (330, (lwC (sI 0) (sF 17) (sI 0) (sF 18) 3 4 5 6), [vR 0, vR 1], dsE 0 (zI 16 []) (zD 16 []) (zI 17 []) (zI 4 []) (zD 4 []) ++ [(1, 0, [vR 8, vR 9, vR 10, vI 0]), (65, 2, [vD 0, vD 0]), (66, 2, [vI 0, vI 0]), (64, 16, rp 16 (vI 0)), (67, 2, [vU 23, vU 24]), (68, 2, [vU 25, vU 26])], 19, 90, 860) [] = true := by decide +kernel
theorem rmC_x_x (B : LWB p l e s m args below meth c T0 Z a0 h0 n0 L0 90 860) (D0 : D 0 = 0) (Q : QB D) (V : VB D i0 i1) (HT : TmSpec l Z n0 (iW (D 7)).toInt (iW (D 8)).toInt (iW (D 9)).toInt (iW (D 10)).toInt W lu) (Y : Yf Z n0 h0 (own_fl A K D W 0 dsC0 ++ lu)) : Go p e below (EndQ s (Q_rm0 n0) 192 1792) T0 (mkF m 258 (dL A D W (lwC (sI 0) (sF 17) (sI 0) (sF 18) 3 4 5 6)) []) := by
  refine goE (segL eC_x_x sc0 B (y13 Y) D0 (by decide) trivial ?_) rfl
  intro T1 h1 L1 A1 K1 B1 hA1 Kp f1 Y1
  refine goE (cTail Y Y1 B1 hA1 Kp f1 rfl D0 V HT (E := (fun i0 i1 Y0 Y1 => Y0 = 4 * i0 ∧ Y1 = 4 * i1)) (eta_c ) ?_) rfl
  intro T2 h2 L2 pr kp kv kf x0 x1 y0 y1 u0 u1 B2 YE HE F0 F1 bX0 bX1 M0 M1
  exact goE (rmE_xx (A := cA pr A1) (K := cK kp kv kf K1) (D := dE1 D x0 x1) (W := W) B2 (Yf.to YE rfl) D0 Q V HE F0 F1 bX0 bX1 M0 M1) rfl
theorem eC_x_0n : runIs (run code own_MN_4 29 (8, 192, 1792, 208) 330 22 [(cn_132, [7, 8, 9, 10], [0, 3], [vD 0, vD 0] ++ rp 17 (vI 0)), (cn_133, [7, 8, 9, 10], [0, 4], [vD 3, vD 0, vI 1] ++ rp 16 (vI 0)), (cn_139, [1, 2, 3, 4, 5, 6, 7, 8, 10], [0, 3, 4], uS 0 23 ++ rp 16 (vI 0) ++ rp 16 (vD 0) ++ rp 20 (vI 0) ++ [vD 0, vD 0, vD 0, vD 0, vR 9] ++ rp 14 (vI 0))] [] (258, (lwC (sI 0) (sF 17) (sI 1) (sI 0) 5 6 3 4), [], dsC0, 19, 90, 860)) (330, (lwC (sI 0) (sF 17) (sI 1) (sI 0) 5 6 3 4), [vR 0, vR 1], dsE 1 (zI 16 []) (zD 16 [vD 3]) (zI 17 [vI 0, vI 1]) (zI 4 [vI 1]) (zD 4 [vD 4]) ++ [(1, 0, [vR 8, vR 9, vR 10, vI 2]), (65, 2, [vD 3, vD 4]), (66, 2, [vI 1, vI 1]), (64, 16, [vI 0, vI 1] ++ rp 14 (vI 0)), (67, 2, [vU 23, vU 24]), (68, 2, [vU 25, vU 26])], 19, 90, 860) [(12, 4, 0, 1)] = true := by decide +kernel
theorem rmC_x_0n (B : LWB p l e s m args below meth c T0 Z a0 h0 n0 L0 90 860) (D0 : D 0 = 0) (Q : QB D) (V : VB D i0 i1) (H2 : PA k2 j2 (D 3) (D 4)) (z2 : (cmpValue (FP.dcmp (D 4) (D 0)) .l).toInt ≠ 0) (HT : TmSpec l Z n0 (iW (D 7)).toInt (iW (D 8)).toInt (iW (D 9)).toInt (iW (D 10)).toInt W lu) (Y : Yf Z n0 h0 (own_fl A K D W 0 dsC0 ++ lu)) : Go p e below (EndQ s (Q_rm0 n0) 192 1792) T0 (mkF m 258 (dL A D W (lwC (sI 0) (sF 17) (sI 1) (sI 0) 5 6 3 4)) []) := by
  refine goE (segL eC_x_0n (scS ct_132 (scS ct_133 (scS ct_139 sc0))) B (y13 Y) D0 (by decide) ⟨z2, trivial⟩ ?_) rfl
  intro T1 h1 L1 A1 K1 B1 hA1 Kp f1 Y1
  refine goE (cTail Y Y1 B1 hA1 Kp f1 rfl D0 V HT (E := (fun i0 i1 Y0 Y1 => Er false k2 j2 (4 * i0) (4 * i1) Y0 Y1)) (eta_c0n H2) ?_) rfl
  intro T2 h2 L2 pr kp kv kf x0 x1 y0 y1 u0 u1 B2 YE HE F0 F1 bX0 bX1 M0 M1
  exact goE (rmE_x0 (A := cA pr A1) (K := cK kp kv kf K1) (D := dE2 D x0 x1) (W := W) B2 (Yf.to YE rfl) D0 Q V H2 HE F0 F1 bX0 bX1 M0 M1) rfl
theorem eC_x_0z : runIs (run code own_MN_4 29 (8, 192, 1792, 208) 330 22 [(cn_132, [7, 8, 9, 10], [0, 3], [vD 0, vD 0] ++ rp 17 (vI 0)), (cn_133, [7, 8, 9, 10], [0, 4], [vD 3, vD 0, vI 1] ++ rp 16 (vI 0)), (cn_140, [1, 2, 3, 4, 7, 8, 10], [0, 3, 4], uS 0 8 ++ [vR 5, vR 6] ++ uS 8 15 ++ rp 16 (vI 0) ++ rp 16 (vD 0) ++ rp 16 (vI 0) ++ [vR 9] ++ rp 14 (vI 0))] [] (258, (lwC (sI 0) (sF 17) (sI 1) (sI 0) 5 6 3 4), [], dsC0, 19, 90, 860)) (330, (lwC (sI 0) (sF 17) (sI 1) (sI 0) 5 6 3 4), [vR 0, vR 1], dsE 1 (zI 16 []) (zD 16 [vD 3]) (zI 17 []) (zI 4 []) (zD 4 []) ++ [(1, 0, [vR 8, vR 9, vR 10, vI 2]), (65, 2, [vD 3, vD 4]), (66, 2, [vI 1, vI 1]), (64, 16, [vI 0, vI 1] ++ rp 14 (vI 0)), (67, 2, [vU 23, vU 24]), (68, 2, [vU 25, vU 26])], 19, 90, 860) [(12, 4, 0, 0)] = true := by decide +kernel
theorem rmC_x_0z (B : LWB p l e s m args below meth c T0 Z a0 h0 n0 L0 90 860) (D0 : D 0 = 0) (Q : QB D) (V : VB D i0 i1) (H2 : PA k2 j2 (D 3) (D 4)) (z2 : (cmpValue (FP.dcmp (D 4) (D 0)) .l).toInt = 0) (HT : TmSpec l Z n0 (iW (D 7)).toInt (iW (D 8)).toInt (iW (D 9)).toInt (iW (D 10)).toInt W lu) (Y : Yf Z n0 h0 (own_fl A K D W 0 dsC0 ++ lu)) : Go p e below (EndQ s (Q_rm0 n0) 192 1792) T0 (mkF m 258 (dL A D W (lwC (sI 0) (sF 17) (sI 1) (sI 0) 5 6 3 4)) []) := by
  have hz2 : j2 = 0 := by
    rcases own_dzD (own_fix0.mpr H2.2.2.2) D0 with ⟨q, -⟩ | ⟨-, q⟩
    · exact q
    · exact absurd z2 q
  refine goE (segL eC_x_0z (scS ct_132 (scS ct_133 (scS ct_140 sc0))) B (y13 Y) D0 (by decide) ⟨z2, trivial⟩ ?_) rfl
  intro T1 h1 L1 A1 K1 B1 hA1 Kp f1 Y1
  refine goE (cTail Y Y1 B1 hA1 Kp f1 rfl D0 V HT (E := (fun i0 i1 Y0 Y1 => Er false k2 j2 (4 * i0) (4 * i1) Y0 Y1)) (eta_c0z H2 hz2) ?_) rfl
  intro T2 h2 L2 pr kp kv kf x0 x1 y0 y1 u0 u1 B2 YE HE F0 F1 bX0 bX1 M0 M1
  exact goE (rmE_x0 (A := cA pr A1) (K := cK kp kv kf K1) (D := dE2 D x0 x1) (W := W) B2 (Yf.to YE rfl) D0 Q V H2 HE F0 F1 bX0 bX1 M0 M1) rfl
theorem eC_x_1n : runIs (run code own_MN_4 29 (8, 192, 1792, 208) 330 22 [(cn_141, [7, 8, 9, 10], [0, 3], [vD 0, vD 0] ++ rp 17 (vI 0)), (cn_142, [7, 8, 9, 10], [0, 4], [vD 0, vD 3, vI 1, vI 1] ++ rp 15 (vI 0)), (cn_145, [1, 2, 3, 4, 5, 6, 7, 8, 10], [0, 4, 3], uS 0 23 ++ rp 16 (vI 0) ++ rp 16 (vD 0) ++ rp 20 (vI 0) ++ [vD 0, vD 0, vD 0, vD 0, vR 9] ++ rp 14 (vI 0))] [] (258, (lwC (sI 0) (sF 17) (sI 1) (sI 1) 5 6 3 4), [], dsC0, 19, 90, 860)) (330, (lwC (sI 0) (sF 17) (sI 1) (sI 1) 5 6 3 4), [vR 0, vR 1], dsE 1 (zI 16 [vI 1]) (zD 16 [vD 3]) (zI 17 [vI 0, vI 1]) (zI 4 []) (zD 4 [vD 4]) ++ [(1, 0, [vR 8, vR 9, vR 10, vI 2]), (65, 2, [vD 4, vD 3]), (66, 2, [vI 1, vI 1]), (64, 16, [vI 1] ++ rp 15 (vI 0)), (67, 2, [vU 23, vU 24]), (68, 2, [vU 25, vU 26])], 19, 90, 860) [(12, 4, 0, 1)] = true := by decide +kernel
theorem rmC_x_1n (B : LWB p l e s m args below meth c T0 Z a0 h0 n0 L0 90 860) (D0 : D 0 = 0) (Q : QB D) (V : VB D i0 i1) (H2 : PA k2 j2 (D 3) (D 4)) (z2 : (cmpValue (FP.dcmp (D 4) (D 0)) .l).toInt ≠ 0) (HT : TmSpec l Z n0 (iW (D 7)).toInt (iW (D 8)).toInt (iW (D 9)).toInt (iW (D 10)).toInt W lu) (Y : Yf Z n0 h0 (own_fl A K D W 0 dsC0 ++ lu)) : Go p e below (EndQ s (Q_rm0 n0) 192 1792) T0 (mkF m 258 (dL A D W (lwC (sI 0) (sF 17) (sI 1) (sI 1) 5 6 3 4)) []) := by
  refine goE (segL eC_x_1n (scS ct_141 (scS ct_142 (scS ct_145 sc0))) B (y13 Y) D0 (by decide) ⟨z2, trivial⟩ ?_) rfl
  intro T1 h1 L1 A1 K1 B1 hA1 Kp f1 Y1
  refine goE (cTail Y Y1 B1 hA1 Kp f1 rfl D0 V HT (E := (fun i0 i1 Y0 Y1 => Er true k2 j2 (4 * i0) (4 * i1) Y0 Y1)) (eta_c1n H2) ?_) rfl
  intro T2 h2 L2 pr kp kv kf x0 x1 y0 y1 u0 u1 B2 YE HE F0 F1 bX0 bX1 M0 M1
  exact goE (rmE_x1 (A := cA pr A1) (K := cK kp kv kf K1) (D := dE2 D x0 x1) (W := W) B2 (Yf.to YE rfl) D0 Q V H2 HE F0 F1 bX0 bX1 M0 M1) rfl
theorem eC_x_1z : runIs (run code own_MN_4 29 (8, 192, 1792, 208) 330 22 [(cn_141, [7, 8, 9, 10], [0, 3], [vD 0, vD 0] ++ rp 17 (vI 0)), (cn_142, [7, 8, 9, 10], [0, 4], [vD 0, vD 3, vI 1, vI 1] ++ rp 15 (vI 0)), (cn_146, [1, 2, 3, 4, 7, 8, 10], [0, 4, 3], uS 0 8 ++ [vR 5, vR 6] ++ uS 8 15 ++ rp 16 (vI 0) ++ rp 16 (vD 0) ++ rp 16 (vI 0) ++ [vR 9] ++ rp 14 (vI 0))] [] (258, (lwC (sI 0) (sF 17) (sI 1) (sI 1) 5 6 3 4), [], dsC0, 19, 90, 860)) (330, (lwC (sI 0) (sF 17) (sI 1) (sI 1) 5 6 3 4), [vR 0, vR 1], dsE 1 (zI 16 [vI 1]) (zD 16 [vD 3]) (zI 17 []) (zI 4 []) (zD 4 []) ++ [(1, 0, [vR 8, vR 9, vR 10, vI 2]), (65, 2, [vD 4, vD 3]), (66, 2, [vI 1, vI 1]), (64, 16, [vI 1] ++ rp 15 (vI 0)), (67, 2, [vU 23, vU 24]), (68, 2, [vU 25, vU 26])], 19, 90, 860) [(12, 4, 0, 0)] = true := by decide +kernel
theorem rmC_x_1z (B : LWB p l e s m args below meth c T0 Z a0 h0 n0 L0 90 860) (D0 : D 0 = 0) (Q : QB D) (V : VB D i0 i1) (H2 : PA k2 j2 (D 3) (D 4)) (z2 : (cmpValue (FP.dcmp (D 4) (D 0)) .l).toInt = 0) (HT : TmSpec l Z n0 (iW (D 7)).toInt (iW (D 8)).toInt (iW (D 9)).toInt (iW (D 10)).toInt W lu) (Y : Yf Z n0 h0 (own_fl A K D W 0 dsC0 ++ lu)) : Go p e below (EndQ s (Q_rm0 n0) 192 1792) T0 (mkF m 258 (dL A D W (lwC (sI 0) (sF 17) (sI 1) (sI 1) 5 6 3 4)) []) := by
  have hz2 : j2 = 0 := by
    rcases own_dzD (own_fix0.mpr H2.2.2.2) D0 with ⟨q, -⟩ | ⟨-, q⟩
    · exact q
    · exact absurd z2 q
  refine goE (segL eC_x_1z (scS ct_141 (scS ct_142 (scS ct_146 sc0))) B (y13 Y) D0 (by decide) ⟨z2, trivial⟩ ?_) rfl
  intro T1 h1 L1 A1 K1 B1 hA1 Kp f1 Y1
  refine goE (cTail Y Y1 B1 hA1 Kp f1 rfl D0 V HT (E := (fun i0 i1 Y0 Y1 => Er true k2 j2 (4 * i0) (4 * i1) Y0 Y1)) (eta_c1z H2 hz2) ?_) rfl
  intro T2 h2 L2 pr kp kv kf x0 x1 y0 y1 u0 u1 B2 YE HE F0 F1 bX0 bX1 M0 M1
  exact goE (rmE_x1 (A := cA pr A1) (K := cK kp kv kf K1) (D := dE2 D x0 x1) (W := W) B2 (Yf.to YE rfl) D0 Q V H2 HE F0 F1 bX0 bX1 M0 M1) rfl
theorem eC_0n_x : runIs (run code own_MN_4 29 (8, 192, 1792, 208) 330 22 [(cn_132, [7, 8, 9, 10], [0, 3], [vD 0, vD 0] ++ rp 17 (vI 0)), (cn_133, [7, 8, 9, 10], [0, 4], [vD 3, vD 0, vI 1] ++ rp 16 (vI 0)), (cn_139, [1, 2, 3, 4, 5, 6, 7, 8, 10], [0, 3, 4], uS 0 23 ++ rp 16 (vI 0) ++ rp 16 (vD 0) ++ rp 20 (vI 0) ++ [vD 0, vD 0, vD 0, vD 0, vR 9] ++ rp 14 (vI 0))] [] (258, (lwC (sI 1) (sI 0) (sI 0) (sF 18) 3 4 5 6), [], dsC0, 19, 90, 860)) (330, (lwC (sI 1) (sI 0) (sI 0) (sF 18) 3 4 5 6), [vR 0, vR 1], dsE 1 (zI 16 []) (zD 16 [vD 3]) (zI 17 [vI 0, vI 1]) (zI 4 [vI 1]) (zD 4 [vD 4]) ++ [(1, 0, [vR 8, vR 9, vR 10, vI 2]), (65, 2, [vD 3, vD 4]), (66, 2, [vI 1, vI 1]), (64, 16, [vI 0, vI 1] ++ rp 14 (vI 0)), (67, 2, [vU 23, vU 24]), (68, 2, [vU 25, vU 26])], 19, 90, 860) [(12, 4, 0, 1)] = true := by decide +kernel
theorem rmC_0n_x (B : LWB p l e s m args below meth c T0 Z a0 h0 n0 L0 90 860) (D0 : D 0 = 0) (Q : QB D) (V : VB D i0 i1) (H1 : PA k1 j1 (D 3) (D 4)) (z1 : (cmpValue (FP.dcmp (D 4) (D 0)) .l).toInt ≠ 0) (HT : TmSpec l Z n0 (iW (D 7)).toInt (iW (D 8)).toInt (iW (D 9)).toInt (iW (D 10)).toInt W lu) (Y : Yf Z n0 h0 (own_fl A K D W 0 dsC0 ++ lu)) : Go p e below (EndQ s (Q_rm0 n0) 192 1792) T0 (mkF m 258 (dL A D W (lwC (sI 1) (sI 0) (sI 0) (sF 18) 3 4 5 6)) []) := by
  refine goE (segL eC_0n_x (scS ct_132 (scS ct_133 (scS ct_139 sc0))) B (y13 Y) D0 (by decide) ⟨z1, trivial⟩ ?_) rfl
  intro T1 h1 L1 A1 K1 B1 hA1 Kp f1 Y1
  refine goE (cTail Y Y1 B1 hA1 Kp f1 rfl D0 V HT (E := (fun i0 i1 Y0 Y1 => Er false k1 j1 (4 * i0) (4 * i1) Y0 Y1)) (eta_c0n H1) ?_) rfl
  intro T2 h2 L2 pr kp kv kf x0 x1 y0 y1 u0 u1 B2 YE HE F0 F1 bX0 bX1 M0 M1
  exact goE (rmE_0x (A := cA pr A1) (K := cK kp kv kf K1) (D := dE1 D x0 x1) (W := W) B2 (Yf.to YE rfl) D0 Q V H1 HE F0 F1 bX0 bX1 M0 M1) rfl
theorem eC_0n_0n : runIs (run code own_MN_4 29 (8, 192, 1792, 208) 330 36 [(cn_132, [7, 8, 9, 10], [0, 3], [vD 0, vD 0] ++ rp 17 (vI 0)), (cn_133, [7, 8, 9, 10], [0, 4], [vD 3, vD 0, vI 1] ++ rp 16 (vI 0)), (cn_139, [1, 2, 3, 4, 5, 6, 7, 8, 10], [0, 3, 4], uS 0 23 ++ rp 16 (vI 0) ++ rp 16 (vD 0) ++ rp 20 (vI 0) ++ [vD 0, vD 0, vD 0, vD 0, vR 9] ++ rp 14 (vI 0)), (cn_147, [7, 8, 9], [0, 5], [vR 10, vI 2, vD 3, vD 4, vI 1]), (cn_148, [7, 8, 9], [0, 6], [vR 10, vI 2, vD 5, vD 4, vI 1]), (cn_149, [1, 2, 3, 4, 5, 6, 7, 8, 10], [0, 5, 6], uS 0 23 ++ rp 16 (vI 0) ++ [vD 3] ++ rp 15 (vD 0) ++ rp 16 (vI 0) ++ [vI 1, vI 0, vI 0, vI 0, vD 4, vD 0, vD 0, vD 0, vR 9] ++ rp 14 (vI 0))] [] (258, (lwC (sI 1) (sI 0) (sI 1) (sI 0) 3 4 5 6), [], dsC0, 19, 90, 860)) (330, (lwC (sI 1) (sI 0) (sI 1) (sI 0) 3 4 5 6), [vR 0, vR 1], dsE 2 (zI 16 []) (zD 16 [vD 3, vD 5]) (zI 17 [vI 0, vI 1, vI 2]) (zI 4 [vI 1, vI 1]) (zD 4 [vD 4, vD 6]) ++ [(1, 0, [vR 8, vR 9, vR 10, vI 2]), (65, 2, [vD 5, vD 6]), (66, 2, [vI 1, vI 1]), (64, 16, [vI 0, vI 1] ++ rp 14 (vI 0)), (67, 2, [vU 23, vU 24]), (68, 2, [vU 25, vU 26])], 19, 90, 860) [(12, 4, 0, 1), (12, 6, 0, 1)] = true := by decide +kernel
theorem rmC_0n_0n (B : LWB p l e s m args below meth c T0 Z a0 h0 n0 L0 90 860) (D0 : D 0 = 0) (Q : QB D) (V : VB D i0 i1) (H1 : PA k1 j1 (D 3) (D 4)) (z1 : (cmpValue (FP.dcmp (D 4) (D 0)) .l).toInt ≠ 0) (H2 : PA k2 j2 (D 5) (D 6)) (z2 : (cmpValue (FP.dcmp (D 6) (D 0)) .l).toInt ≠ 0) (HT : TmSpec l Z n0 (iW (D 7)).toInt (iW (D 8)).toInt (iW (D 9)).toInt (iW (D 10)).toInt W lu) (Y : Yf Z n0 h0 (own_fl A K D W 0 dsC0 ++ lu)) : Go p e below (EndQ s (Q_rm0 n0) 192 1792) T0 (mkF m 258 (dL A D W (lwC (sI 1) (sI 0) (sI 1) (sI 0) 3 4 5 6)) []) := by
  refine goE (segL eC_0n_0n (scS ct_132 (scS ct_133 (scS ct_139 (scS ct_147 (scS ct_148 (scS ct_149 sc0)))))) B (y13 Y) D0 (by decide) ⟨z1, z2, trivial⟩ ?_) rfl
  intro T1 h1 L1 A1 K1 B1 hA1 Kp f1 Y1
  refine goE (cTail Y Y1 B1 hA1 Kp f1 rfl D0 V HT (E := (fun i0 i1 Y0 Y1 => ∃ z0 z1, Er false k2 j2 (4 * i0) (4 * i1) z0 z1 ∧ Er false k1 j1 z0 z1 Y0 Y1)) (eta_c0n0n H1 H2) ?_) rfl
  intro T2 h2 L2 pr kp kv kf x0 x1 y0 y1 u0 u1 B2 YE HE F0 F1 bX0 bX1 M0 M1
  exact goE (rmE_00 (A := cA pr A1) (K := cK kp kv kf K1) (D := dE1 D x0 x1) (W := W) B2 (Yf.to YE rfl) D0 Q V H1 H2 HE F0 F1 bX0 bX1 M0 M1) rfl
theorem eC_0n_0z : runIs (run code own_MN_4 29 (8, 192, 1792, 208) 330 36 [(cn_132, [7, 8, 9, 10], [0, 3], [vD 0, vD 0] ++ rp 17 (vI 0)), (cn_133, [7, 8, 9, 10], [0, 4], [vD 3, vD 0, vI 1] ++ rp 16 (vI 0)), (cn_139, [1, 2, 3, 4, 5, 6, 7, 8, 10], [0, 3, 4], uS 0 23 ++ rp 16 (vI 0) ++ rp 16 (vD 0) ++ rp 20 (vI 0) ++ [vD 0, vD 0, vD 0, vD 0, vR 9] ++ rp 14 (vI 0)), (cn_147, [7, 8, 9], [0, 5], [vR 10, vI 2, vD 3, vD 4, vI 1]), (cn_148, [7, 8, 9], [0, 6], [vR 10, vI 2, vD 5, vD 4, vI 1]), (cn_150, [1, 2, 3, 4, 7, 8, 10], [0, 5, 6], uS 0 8 ++ [vR 5, vR 6] ++ uS 8 15 ++ rp 16 (vI 0) ++ [vD 3] ++ rp 15 (vD 0) ++ rp 16 (vI 0) ++ [vR 9] ++ rp 14 (vI 0))] [] (258, (lwC (sI 1) (sI 0) (sI 1) (sI 0) 3 4 5 6), [], dsC0, 19, 90, 860)) (330, (lwC (sI 1) (sI 0) (sI 1) (sI 0) 3 4 5 6), [vR 0, vR 1], dsE 2 (zI 16 []) (zD 16 [vD 3, vD 5]) (zI 17 [vI 0, vI 1, vI 1]) (zI 4 [vI 1]) (zD 4 [vD 4]) ++ [(1, 0, [vR 8, vR 9, vR 10, vI 2]), (65, 2, [vD 5, vD 6]), (66, 2, [vI 1, vI 1]), (64, 16, [vI 0, vI 1] ++ rp 14 (vI 0)), (67, 2, [vU 23, vU 24]), (68, 2, [vU 25, vU 26])], 19, 90, 860) [(12, 4, 0, 1), (12, 6, 0, 0)] = true := by decide +kernel
theorem rmC_0n_0z (B : LWB p l e s m args below meth c T0 Z a0 h0 n0 L0 90 860) (D0 : D 0 = 0) (Q : QB D) (V : VB D i0 i1) (H1 : PA k1 j1 (D 3) (D 4)) (z1 : (cmpValue (FP.dcmp (D 4) (D 0)) .l).toInt ≠ 0) (H2 : PA k2 j2 (D 5) (D 6)) (z2 : (cmpValue (FP.dcmp (D 6) (D 0)) .l).toInt = 0) (HT : TmSpec l Z n0 (iW (D 7)).toInt (iW (D 8)).toInt (iW (D 9)).toInt (iW (D 10)).toInt W lu) (Y : Yf Z n0 h0 (own_fl A K D W 0 dsC0 ++ lu)) : Go p e below (EndQ s (Q_rm0 n0) 192 1792) T0 (mkF m 258 (dL A D W (lwC (sI 1) (sI 0) (sI 1) (sI 0) 3 4 5 6)) []) := by
  have hz2 : j2 = 0 := by
    rcases own_dzD (own_fix0.mpr H2.2.2.2) D0 with ⟨q, -⟩ | ⟨-, q⟩
    · exact q
    · exact absurd z2 q
  refine goE (segL eC_0n_0z (scS ct_132 (scS ct_133 (scS ct_139 (scS ct_147 (scS ct_148 (scS ct_150 sc0)))))) B (y13 Y) D0 (by decide) ⟨z1, z2, trivial⟩ ?_) rfl
  intro T1 h1 L1 A1 K1 B1 hA1 Kp f1 Y1
  refine goE (cTail Y Y1 B1 hA1 Kp f1 rfl D0 V HT (E := (fun i0 i1 Y0 Y1 => ∃ z0 z1, Er false k2 j2 (4 * i0) (4 * i1) z0 z1 ∧ Er false k1 j1 z0 z1 Y0 Y1)) (eta_c0n0z H1 H2 hz2) ?_) rfl
  intro T2 h2 L2 pr kp kv kf x0 x1 y0 y1 u0 u1 B2 YE HE F0 F1 bX0 bX1 M0 M1
  exact goE (rmE_00 (A := cA pr A1) (K := cK kp kv kf K1) (D := dE1 D x0 x1) (W := W) B2 (Yf.to YE rfl) D0 Q V H1 H2 HE F0 F1 bX0 bX1 M0 M1) rfl
theorem eC_0n_1n : runIs (run code own_MN_4 29 (8, 192, 1792, 208) 330 36 [(cn_132, [7, 8, 9, 10], [0, 3], [vD 0, vD 0] ++ rp 17 (vI 0)), (cn_133, [7, 8, 9, 10], [0, 4], [vD 3, vD 0, vI 1] ++ rp 16 (vI 0)), (cn_139, [1, 2, 3, 4, 5, 6, 7, 8, 10], [0, 3, 4], uS 0 23 ++ rp 16 (vI 0) ++ rp 16 (vD 0) ++ rp 20 (vI 0) ++ [vD 0, vD 0, vD 0, vD 0, vR 9] ++ rp 14 (vI 0)), (cn_148, [7, 8, 9], [0, 5], [vR 10, vI 2, vD 3, vD 4, vI 1]), (cn_147, [7, 8, 9], [0, 6], [vR 10, vI 2, vD 3, vD 5, vI 1]), (cn_151, [1, 2, 3, 4, 5, 6, 7, 8, 10], [0, 6, 5], uS 0 23 ++ rp 16 (vI 0) ++ [vD 3] ++ rp 15 (vD 0) ++ rp 16 (vI 0) ++ [vI 1, vI 0, vI 0, vI 0, vD 4, vD 0, vD 0, vD 0, vR 9] ++ rp 14 (vI 0))] [] (258, (lwC (sI 1) (sI 0) (sI 1) (sI 1) 3 4 5 6), [], dsC0, 19, 90, 860)) (330, (lwC (sI 1) (sI 0) (sI 1) (sI 1) 3 4 5 6), [vR 0, vR 1], dsE 2 (zI 16 [vI 0, vI 1]) (zD 16 [vD 3, vD 5]) (zI 17 [vI 0, vI 1, vI 2]) (zI 4 [vI 1]) (zD 4 [vD 4, vD 6]) ++ [(1, 0, [vR 8, vR 9, vR 10, vI 2]), (65, 2, [vD 6, vD 5]), (66, 2, [vI 1, vI 1]), (64, 16, [vI 0, vI 1] ++ rp 14 (vI 0)), (67, 2, [vU 23, vU 24]), (68, 2, [vU 25, vU 26])], 19, 90, 860) [(12, 4, 0, 1), (12, 6, 0, 1)] = true := by decide +kernel
theorem rmC_0n_1n (B : LWB p l e s m args below meth c T0 Z a0 h0 n0 L0 90 860) (D0 : D 0 = 0) (Q : QB D) (V : VB D i0 i1) (H1 : PA k1 j1 (D 3) (D 4)) (z1 : (cmpValue (FP.dcmp (D 4) (D 0)) .l).toInt ≠ 0) (H2 : PA k2 j2 (D 5) (D 6)) (z2 : (cmpValue (FP.dcmp (D 6) (D 0)) .l).toInt ≠ 0) (HT : TmSpec l Z n0 (iW (D 7)).toInt (iW (D 8)).toInt (iW (D 9)).toInt (iW (D 10)).toInt W lu) (Y : Yf Z n0 h0 (own_fl A K D W 0 dsC0 ++ lu)) : Go p e below (EndQ s (Q_rm0 n0) 192 1792) T0 (mkF m 258 (dL A D W (lwC (sI 1) (sI 0) (sI 1) (sI 1) 3 4 5 6)) []) := by
  refine goE (segL eC_0n_1n (scS ct_132 (scS ct_133 (scS ct_139 (scS ct_148 (scS ct_147 (scS ct_151 sc0)))))) B (y13 Y) D0 (by decide) ⟨z1, z2, trivial⟩ ?_) rfl
  intro T1 h1 L1 A1 K1 B1 hA1 Kp f1 Y1
  refine goE (cTail Y Y1 B1 hA1 Kp f1 rfl D0 V HT (E := (fun i0 i1 Y0 Y1 => ∃ z0 z1, Er true k2 j2 (4 * i0) (4 * i1) z0 z1 ∧ Er false k1 j1 z0 z1 Y0 Y1)) (eta_c0n1n H1 H2) ?_) rfl
  intro T2 h2 L2 pr kp kv kf x0 x1 y0 y1 u0 u1 B2 YE HE F0 F1 bX0 bX1 M0 M1
  exact goE (rmE_01 (A := cA pr A1) (K := cK kp kv kf K1) (D := dE1 D x0 x1) (W := W) B2 (Yf.to YE rfl) D0 Q V H1 H2 HE F0 F1 bX0 bX1 M0 M1) rfl
theorem eC_0n_1z : runIs (run code own_MN_4 29 (8, 192, 1792, 208) 330 36 [(cn_132, [7, 8, 9, 10], [0, 3], [vD 0, vD 0] ++ rp 17 (vI 0)), (cn_133, [7, 8, 9, 10], [0, 4], [vD 3, vD 0, vI 1] ++ rp 16 (vI 0)), (cn_139, [1, 2, 3, 4, 5, 6, 7, 8, 10], [0, 3, 4], uS 0 23 ++ rp 16 (vI 0) ++ rp 16 (vD 0) ++ rp 20 (vI 0) ++ [vD 0, vD 0, vD 0, vD 0, vR 9] ++ rp 14 (vI 0)), (cn_148, [7, 8, 9], [0, 5], [vR 10, vI 2, vD 3, vD 4, vI 1]), (cn_147, [7, 8, 9], [0, 6], [vR 10, vI 2, vD 3, vD 5, vI 1]), (cn_152, [1, 2, 3, 4, 7, 8, 10], [0, 6, 5], uS 0 8 ++ [vR 5, vR 6] ++ uS 8 15 ++ rp 16 (vI 0) ++ [vD 3] ++ rp 15 (vD 0) ++ rp 16 (vI 0) ++ [vR 9] ++ rp 14 (vI 0))] [] (258, (lwC (sI 1) (sI 0) (sI 1) (sI 1) 3 4 5 6), [], dsC0, 19, 90, 860)) (330, (lwC (sI 1) (sI 0) (sI 1) (sI 1) 3 4 5 6), [vR 0, vR 1], dsE 2 (zI 16 [vI 0, vI 1]) (zD 16 [vD 3, vD 5]) (zI 17 [vI 0, vI 1, vI 1]) (zI 4 [vI 1]) (zD 4 [vD 4]) ++ [(1, 0, [vR 8, vR 9, vR 10, vI 2]), (65, 2, [vD 6, vD 5]), (66, 2, [vI 1, vI 1]), (64, 16, [vI 0, vI 1] ++ rp 14 (vI 0)), (67, 2, [vU 23, vU 24]), (68, 2, [vU 25, vU 26])], 19, 90, 860) [(12, 4, 0, 1), (12, 6, 0, 0)] = true := by decide +kernel
theorem rmC_0n_1z (B : LWB p l e s m args below meth c T0 Z a0 h0 n0 L0 90 860) (D0 : D 0 = 0) (Q : QB D) (V : VB D i0 i1) (H1 : PA k1 j1 (D 3) (D 4)) (z1 : (cmpValue (FP.dcmp (D 4) (D 0)) .l).toInt ≠ 0) (H2 : PA k2 j2 (D 5) (D 6)) (z2 : (cmpValue (FP.dcmp (D 6) (D 0)) .l).toInt = 0) (HT : TmSpec l Z n0 (iW (D 7)).toInt (iW (D 8)).toInt (iW (D 9)).toInt (iW (D 10)).toInt W lu) (Y : Yf Z n0 h0 (own_fl A K D W 0 dsC0 ++ lu)) : Go p e below (EndQ s (Q_rm0 n0) 192 1792) T0 (mkF m 258 (dL A D W (lwC (sI 1) (sI 0) (sI 1) (sI 1) 3 4 5 6)) []) := by
  have hz2 : j2 = 0 := by
    rcases own_dzD (own_fix0.mpr H2.2.2.2) D0 with ⟨q, -⟩ | ⟨-, q⟩
    · exact q
    · exact absurd z2 q
  refine goE (segL eC_0n_1z (scS ct_132 (scS ct_133 (scS ct_139 (scS ct_148 (scS ct_147 (scS ct_152 sc0)))))) B (y13 Y) D0 (by decide) ⟨z1, z2, trivial⟩ ?_) rfl
  intro T1 h1 L1 A1 K1 B1 hA1 Kp f1 Y1
  refine goE (cTail Y Y1 B1 hA1 Kp f1 rfl D0 V HT (E := (fun i0 i1 Y0 Y1 => ∃ z0 z1, Er true k2 j2 (4 * i0) (4 * i1) z0 z1 ∧ Er false k1 j1 z0 z1 Y0 Y1)) (eta_c0n1z H1 H2 hz2) ?_) rfl
  intro T2 h2 L2 pr kp kv kf x0 x1 y0 y1 u0 u1 B2 YE HE F0 F1 bX0 bX1 M0 M1
  exact goE (rmE_01 (A := cA pr A1) (K := cK kp kv kf K1) (D := dE1 D x0 x1) (W := W) B2 (Yf.to YE rfl) D0 Q V H1 H2 HE F0 F1 bX0 bX1 M0 M1) rfl
theorem eC_0z_x : runIs (run code own_MN_4 29 (8, 192, 1792, 208) 330 22 [(cn_132, [7, 8, 9, 10], [0, 3], [vD 0, vD 0] ++ rp 17 (vI 0)), (cn_133, [7, 8, 9, 10], [0, 4], [vD 3, vD 0, vI 1] ++ rp 16 (vI 0)), (cn_140, [1, 2, 3, 4, 7, 8, 10], [0, 3, 4], uS 0 8 ++ [vR 5, vR 6] ++ uS 8 15 ++ rp 16 (vI 0) ++ rp 16 (vD 0) ++ rp 16 (vI 0) ++ [vR 9] ++ rp 14 (vI 0))] [] (258, (lwC (sI 1) (sI 0) (sI 0) (sF 18) 3 4 5 6), [], dsC0, 19, 90, 860)) (330, (lwC (sI 1) (sI 0) (sI 0) (sF 18) 3 4 5 6), [vR 0, vR 1], dsE 1 (zI 16 []) (zD 16 [vD 3]) (zI 17 []) (zI 4 []) (zD 4 []) ++ [(1, 0, [vR 8, vR 9, vR 10, vI 2]), (65, 2, [vD 3, vD 4]), (66, 2, [vI 1, vI 1]), (64, 16, [vI 0, vI 1] ++ rp 14 (vI 0)), (67, 2, [vU 23, vU 24]), (68, 2, [vU 25, vU 26])], 19, 90, 860) [(12, 4, 0, 0)] = true := by decide +kernel
theorem rmC_0z_x (B : LWB p l e s m args below meth c T0 Z a0 h0 n0 L0 90 860) (D0 : D 0 = 0) (Q : QB D) (V : VB D i0 i1) (H1 : PA k1 j1 (D 3) (D 4)) (z1 : (cmpValue (FP.dcmp (D 4) (D 0)) .l).toInt = 0) (HT : TmSpec l Z n0 (iW (D 7)).toInt (iW (D 8)).toInt (iW (D 9)).toInt (iW (D 10)).toInt W lu) (Y : Yf Z n0 h0 (own_fl A K D W 0 dsC0 ++ lu)) : Go p e below (EndQ s (Q_rm0 n0) 192 1792) T0 (mkF m 258 (dL A D W (lwC (sI 1) (sI 0) (sI 0) (sF 18) 3 4 5 6)) []) := by
  have hz1 : j1 = 0 := by
    rcases own_dzD (own_fix0.mpr H1.2.2.2) D0 with ⟨q, -⟩ | ⟨-, q⟩
    · exact q
    · exact absurd z1 q
  refine goE (segL eC_0z_x (scS ct_132 (scS ct_133 (scS ct_140 sc0))) B (y13 Y) D0 (by decide) ⟨z1, trivial⟩ ?_) rfl
  intro T1 h1 L1 A1 K1 B1 hA1 Kp f1 Y1
  refine goE (cTail Y Y1 B1 hA1 Kp f1 rfl D0 V HT (E := (fun i0 i1 Y0 Y1 => Er false k1 j1 (4 * i0) (4 * i1) Y0 Y1)) (eta_c0z H1 hz1) ?_) rfl
  intro T2 h2 L2 pr kp kv kf x0 x1 y0 y1 u0 u1 B2 YE HE F0 F1 bX0 bX1 M0 M1
  exact goE (rmE_0x (A := cA pr A1) (K := cK kp kv kf K1) (D := dE1 D x0 x1) (W := W) B2 (Yf.to YE rfl) D0 Q V H1 HE F0 F1 bX0 bX1 M0 M1) rfl
theorem eC_0z_0n : runIs (run code own_MN_4 29 (8, 192, 1792, 208) 330 36 [(cn_132, [7, 8, 9, 10], [0, 3], [vD 0, vD 0] ++ rp 17 (vI 0)), (cn_133, [7, 8, 9, 10], [0, 4], [vD 3, vD 0, vI 1] ++ rp 16 (vI 0)), (cn_140, [1, 2, 3, 4, 7, 8, 10], [0, 3, 4], uS 0 8 ++ [vR 5, vR 6] ++ uS 8 15 ++ rp 16 (vI 0) ++ rp 16 (vD 0) ++ rp 16 (vI 0) ++ [vR 9] ++ rp 14 (vI 0)), (cn_147, [7, 8, 9], [0, 5], [vR 10, vI 2, vD 3, vD 4, vI 1]), (cn_148, [7, 8, 9], [0, 6], [vR 10, vI 2, vD 5, vD 4, vI 1]), (cn_153, [1, 2, 3, 4, 5, 6, 7, 8, 10], [0, 5, 6], uS 0 23 ++ rp 16 (vI 0) ++ [vD 3] ++ rp 15 (vD 0) ++ rp 20 (vI 0) ++ [vD 0, vD 0, vD 0, vD 0, vR 9] ++ rp 14 (vI 0))] [] (258, (lwC (sI 1) (sI 0) (sI 1) (sI 0) 3 4 5 6), [], dsC0, 19, 90, 860)) (330, (lwC (sI 1) (sI 0) (sI 1) (sI 0) 3 4 5 6), [vR 0, vR 1], dsE 2 (zI 16 []) (zD 16 [vD 3, vD 5]) (zI 17 [vI 0, vI 0, vI 1]) (zI 4 [vI 1]) (zD 4 [vD 6]) ++ [(1, 0, [vR 8, vR 9, vR 10, vI 2]), (65, 2, [vD 5, vD 6]), (66, 2, [vI 1, vI 1]), (64, 16, [vI 0, vI 1] ++ rp 14 (vI 0)), (67, 2, [vU 23, vU 24]), (68, 2, [vU 25, vU 26])], 19, 90, 860) [(12, 4, 0, 0), (12, 6, 0, 1)] = true := by decide +kernel
theorem rmC_0z_0n (B : LWB p l e s m args below meth c T0 Z a0 h0 n0 L0 90 860) (D0 : D 0 = 0) (Q : QB D) (V : VB D i0 i1) (H1 : PA k1 j1 (D 3) (D 4)) (z1 : (cmpValue (FP.dcmp (D 4) (D 0)) .l).toInt = 0) (H2 : PA k2 j2 (D 5) (D 6)) (z2 : (cmpValue (FP.dcmp (D 6) (D 0)) .l).toInt ≠ 0) (HT : TmSpec l Z n0 (iW (D 7)).toInt (iW (D 8)).toInt (iW (D 9)).toInt (iW (D 10)).toInt W lu) (Y : Yf Z n0 h0 (own_fl A K D W 0 dsC0 ++ lu)) : Go p e below (EndQ s (Q_rm0 n0) 192 1792) T0 (mkF m 258 (dL A D W (lwC (sI 1) (sI 0) (sI 1) (sI 0) 3 4 5 6)) []) := by
  have hz1 : j1 = 0 := by
    rcases own_dzD (own_fix0.mpr H1.2.2.2) D0 with ⟨q, -⟩ | ⟨-, q⟩
    · exact q
    · exact absurd z1 q
  refine goE (segL eC_0z_0n (scS ct_132 (scS ct_133 (scS ct_140 (scS ct_147 (scS ct_148 (scS ct_153 sc0)))))) B (y13 Y) D0 (by decide) ⟨z1, z2, trivial⟩ ?_) rfl
  intro T1 h1 L1 A1 K1 B1 hA1 Kp f1 Y1
  refine goE (cTail Y Y1 B1 hA1 Kp f1 rfl D0 V HT (E := (fun i0 i1 Y0 Y1 => ∃ z0 z1, Er false k2 j2 (4 * i0) (4 * i1) z0 z1 ∧ Er false k1 j1 z0 z1 Y0 Y1)) (eta_c0z0n H1 hz1 H2) ?_) rfl
  intro T2 h2 L2 pr kp kv kf x0 x1 y0 y1 u0 u1 B2 YE HE F0 F1 bX0 bX1 M0 M1
  exact goE (rmE_00 (A := cA pr A1) (K := cK kp kv kf K1) (D := dE1 D x0 x1) (W := W) B2 (Yf.to YE rfl) D0 Q V H1 H2 HE F0 F1 bX0 bX1 M0 M1) rfl
theorem eC_0z_0z : runIs (run code own_MN_4 29 (8, 192, 1792, 208) 330 36 [(cn_132, [7, 8, 9, 10], [0, 3], [vD 0, vD 0] ++ rp 17 (vI 0)), (cn_133, [7, 8, 9, 10], [0, 4], [vD 3, vD 0, vI 1] ++ rp 16 (vI 0)), (cn_140, [1, 2, 3, 4, 7, 8, 10], [0, 3, 4], uS 0 8 ++ [vR 5, vR 6] ++ uS 8 15 ++ rp 16 (vI 0) ++ rp 16 (vD 0) ++ rp 16 (vI 0) ++ [vR 9] ++ rp 14 (vI 0)), (cn_147, [7, 8, 9], [0, 5], [vR 10, vI 2, vD 3, vD 4, vI 1]), (cn_148, [7, 8, 9], [0, 6], [vR 10, vI 2, vD 5, vD 4, vI 1]), (cn_154, [1, 2, 3, 4, 7, 8, 10], [0, 5, 6], uS 0 8 ++ [vR 5, vR 6] ++ uS 8 15 ++ rp 16 (vI 0) ++ [vD 3] ++ rp 15 (vD 0) ++ rp 16 (vI 0) ++ [vR 9] ++ rp 14 (vI 0))] [] (258, (lwC (sI 1) (sI 0) (sI 1) (sI 0) 3 4 5 6), [], dsC0, 19, 90, 860)) (330, (lwC (sI 1) (sI 0) (sI 1) (sI 0) 3 4 5 6), [vR 0, vR 1], dsE 2 (zI 16 []) (zD 16 [vD 3, vD 5]) (zI 17 []) (zI 4 []) (zD 4 []) ++ [(1, 0, [vR 8, vR 9, vR 10, vI 2]), (65, 2, [vD 5, vD 6]), (66, 2, [vI 1, vI 1]), (64, 16, [vI 0, vI 1] ++ rp 14 (vI 0)), (67, 2, [vU 23, vU 24]), (68, 2, [vU 25, vU 26])], 19, 90, 860) [(12, 4, 0, 0), (12, 6, 0, 0)] = true := by decide +kernel
theorem rmC_0z_0z (B : LWB p l e s m args below meth c T0 Z a0 h0 n0 L0 90 860) (D0 : D 0 = 0) (Q : QB D) (V : VB D i0 i1) (H1 : PA k1 j1 (D 3) (D 4)) (z1 : (cmpValue (FP.dcmp (D 4) (D 0)) .l).toInt = 0) (H2 : PA k2 j2 (D 5) (D 6)) (z2 : (cmpValue (FP.dcmp (D 6) (D 0)) .l).toInt = 0) (HT : TmSpec l Z n0 (iW (D 7)).toInt (iW (D 8)).toInt (iW (D 9)).toInt (iW (D 10)).toInt W lu) (Y : Yf Z n0 h0 (own_fl A K D W 0 dsC0 ++ lu)) : Go p e below (EndQ s (Q_rm0 n0) 192 1792) T0 (mkF m 258 (dL A D W (lwC (sI 1) (sI 0) (sI 1) (sI 0) 3 4 5 6)) []) := by
  have hz1 : j1 = 0 := by
    rcases own_dzD (own_fix0.mpr H1.2.2.2) D0 with ⟨q, -⟩ | ⟨-, q⟩
    · exact q
    · exact absurd z1 q
  have hz2 : j2 = 0 := by
    rcases own_dzD (own_fix0.mpr H2.2.2.2) D0 with ⟨q, -⟩ | ⟨-, q⟩
    · exact q
    · exact absurd z2 q
  refine goE (segL eC_0z_0z (scS ct_132 (scS ct_133 (scS ct_140 (scS ct_147 (scS ct_148 (scS ct_154 sc0)))))) B (y13 Y) D0 (by decide) ⟨z1, z2, trivial⟩ ?_) rfl
  intro T1 h1 L1 A1 K1 B1 hA1 Kp f1 Y1
  refine goE (cTail Y Y1 B1 hA1 Kp f1 rfl D0 V HT (E := (fun i0 i1 Y0 Y1 => ∃ z0 z1, Er false k2 j2 (4 * i0) (4 * i1) z0 z1 ∧ Er false k1 j1 z0 z1 Y0 Y1)) (eta_c0z0z H1 hz1 H2 hz2) ?_) rfl
  intro T2 h2 L2 pr kp kv kf x0 x1 y0 y1 u0 u1 B2 YE HE F0 F1 bX0 bX1 M0 M1
  exact goE (rmE_00 (A := cA pr A1) (K := cK kp kv kf K1) (D := dE1 D x0 x1) (W := W) B2 (Yf.to YE rfl) D0 Q V H1 H2 HE F0 F1 bX0 bX1 M0 M1) rfl
theorem eC_0z_1n : runIs (run code own_MN_4 29 (8, 192, 1792, 208) 330 36 [(cn_132, [7, 8, 9, 10], [0, 3], [vD 0, vD 0] ++ rp 17 (vI 0)), (cn_133, [7, 8, 9, 10], [0, 4], [vD 3, vD 0, vI 1] ++ rp 16 (vI 0)), (cn_140, [1, 2, 3, 4, 7, 8, 10], [0, 3, 4], uS 0 8 ++ [vR 5, vR 6] ++ uS 8 15 ++ rp 16 (vI 0) ++ rp 16 (vD 0) ++ rp 16 (vI 0) ++ [vR 9] ++ rp 14 (vI 0)), (cn_148, [7, 8, 9], [0, 5], [vR 10, vI 2, vD 3, vD 4, vI 1]), (cn_147, [7, 8, 9], [0, 6], [vR 10, vI 2, vD 3, vD 5, vI 1]), (cn_155, [1, 2, 3, 4, 5, 6, 7, 8, 10], [0, 6, 5], uS 0 23 ++ rp 16 (vI 0) ++ [vD 3] ++ rp 15 (vD 0) ++ rp 20 (vI 0) ++ [vD 0, vD 0, vD 0, vD 0, vR 9] ++ rp 14 (vI 0))] [] (258, (lwC (sI 1) (sI 0) (sI 1) (sI 1) 3 4 5 6), [], dsC0, 19, 90, 860)) (330, (lwC (sI 1) (sI 0) (sI 1) (sI 1) 3 4 5 6), [vR 0, vR 1], dsE 2 (zI 16 [vI 0, vI 1]) (zD 16 [vD 3, vD 5]) (zI 17 [vI 0, vI 0, vI 1]) (zI 4 []) (zD 4 [vD 6]) ++ [(1, 0, [vR 8, vR 9, vR 10, vI 2]), (65, 2, [vD 6, vD 5]), (66, 2, [vI 1, vI 1]), (64, 16, [vI 0, vI 1] ++ rp 14 (vI 0)), (67, 2, [vU 23, vU 24]), (68, 2, [vU 25, vU 26])], 19, 90, 860) [(12, 4, 0, 0), (12, 6, 0, 1)] = true := by decide +kernel
theorem rmC_0z_1n (B : LWB p l e s m args below meth c T0 Z a0 h0 n0 L0 90 860) (D0 : D 0 = 0) (Q : QB D) (V : VB D i0 i1) (H1 : PA k1 j1 (D 3) (D 4)) (z1 : (cmpValue (FP.dcmp (D 4) (D 0)) .l).toInt = 0) (H2 : PA k2 j2 (D 5) (D 6)) (z2 : (cmpValue (FP.dcmp (D 6) (D 0)) .l).toInt ≠ 0) (HT : TmSpec l Z n0 (iW (D 7)).toInt (iW (D 8)).toInt (iW (D 9)).toInt (iW (D 10)).toInt W lu) (Y : Yf Z n0 h0 (own_fl A K D W 0 dsC0 ++ lu)) : Go p e below (EndQ s (Q_rm0 n0) 192 1792) T0 (mkF m 258 (dL A D W (lwC (sI 1) (sI 0) (sI 1) (sI 1) 3 4 5 6)) []) := by
  have hz1 : j1 = 0 := by
    rcases own_dzD (own_fix0.mpr H1.2.2.2) D0 with ⟨q, -⟩ | ⟨-, q⟩
    · exact q
    · exact absurd z1 q
  refine goE (segL eC_0z_1n (scS ct_132 (scS ct_133 (scS ct_140 (scS ct_148 (scS ct_147 (scS ct_155 sc0)))))) B (y13 Y) D0 (by decide) ⟨z1, z2, trivial⟩ ?_) rfl
  intro T1 h1 L1 A1 K1 B1 hA1 Kp f1 Y1
  refine goE (cTail Y Y1 B1 hA1 Kp f1 rfl D0 V HT (E := (fun i0 i1 Y0 Y1 => ∃ z0 z1, Er true k2 j2 (4 * i0) (4 * i1) z0 z1 ∧ Er false k1 j1 z0 z1 Y0 Y1)) (eta_c0z1n H1 hz1 H2) ?_) rfl
  intro T2 h2 L2 pr kp kv kf x0 x1 y0 y1 u0 u1 B2 YE HE F0 F1 bX0 bX1 M0 M1
  exact goE (rmE_01 (A := cA pr A1) (K := cK kp kv kf K1) (D := dE1 D x0 x1) (W := W) B2 (Yf.to YE rfl) D0 Q V H1 H2 HE F0 F1 bX0 bX1 M0 M1) rfl
theorem eC_0z_1z : runIs (run code own_MN_4 29 (8, 192, 1792, 208) 330 36 [(cn_132, [7, 8, 9, 10], [0, 3], [vD 0, vD 0] ++ rp 17 (vI 0)), (cn_133, [7, 8, 9, 10], [0, 4], [vD 3, vD 0, vI 1] ++ rp 16 (vI 0)), (cn_140, [1, 2, 3, 4, 7, 8, 10], [0, 3, 4], uS 0 8 ++ [vR 5, vR 6] ++ uS 8 15 ++ rp 16 (vI 0) ++ rp 16 (vD 0) ++ rp 16 (vI 0) ++ [vR 9] ++ rp 14 (vI 0)), (cn_148, [7, 8, 9], [0, 5], [vR 10, vI 2, vD 3, vD 4, vI 1]), (cn_147, [7, 8, 9], [0, 6], [vR 10, vI 2, vD 3, vD 5, vI 1]), (cn_156, [1, 2, 3, 4, 7, 8, 10], [0, 6, 5], uS 0 8 ++ [vR 5, vR 6] ++ uS 8 15 ++ rp 16 (vI 0) ++ [vD 3] ++ rp 15 (vD 0) ++ rp 16 (vI 0) ++ [vR 9] ++ rp 14 (vI 0))] [] (258, (lwC (sI 1) (sI 0) (sI 1) (sI 1) 3 4 5 6), [], dsC0, 19, 90, 860)) (330, (lwC (sI 1) (sI 0) (sI 1) (sI 1) 3 4 5 6), [vR 0, vR 1], dsE 2 (zI 16 [vI 0, vI 1]) (zD 16 [vD 3, vD 5]) (zI 17 []) (zI 4 []) (zD 4 []) ++ [(1, 0, [vR 8, vR 9, vR 10, vI 2]), (65, 2, [vD 6, vD 5]), (66, 2, [vI 1, vI 1]), (64, 16, [vI 0, vI 1] ++ rp 14 (vI 0)), (67, 2, [vU 23, vU 24]), (68, 2, [vU 25, vU 26])], 19, 90, 860) [(12, 4, 0, 0), (12, 6, 0, 0)] = true := by decide +kernel
theorem rmC_0z_1z (B : LWB p l e s m args below meth c T0 Z a0 h0 n0 L0 90 860) (D0 : D 0 = 0) (Q : QB D) (V : VB D i0 i1) (H1 : PA k1 j1 (D 3) (D 4)) (z1 : (cmpValue (FP.dcmp (D 4) (D 0)) .l).toInt = 0) (H2 : PA k2 j2 (D 5) (D 6)) (z2 : (cmpValue (FP.dcmp (D 6) (D 0)) .l).toInt = 0) (HT : TmSpec l Z n0 (iW (D 7)).toInt (iW (D 8)).toInt (iW (D 9)).toInt (iW (D 10)).toInt W lu) (Y : Yf Z n0 h0 (own_fl A K D W 0 dsC0 ++ lu)) : Go p e below (EndQ s (Q_rm0 n0) 192 1792) T0 (mkF m 258 (dL A D W (lwC (sI 1) (sI 0) (sI 1) (sI 1) 3 4 5 6)) []) := by
  have hz1 : j1 = 0 := by
    rcases own_dzD (own_fix0.mpr H1.2.2.2) D0 with ⟨q, -⟩ | ⟨-, q⟩
    · exact q
    · exact absurd z1 q
  have hz2 : j2 = 0 := by
    rcases own_dzD (own_fix0.mpr H2.2.2.2) D0 with ⟨q, -⟩ | ⟨-, q⟩
    · exact q
    · exact absurd z2 q
  refine goE (segL eC_0z_1z (scS ct_132 (scS ct_133 (scS ct_140 (scS ct_148 (scS ct_147 (scS ct_156 sc0)))))) B (y13 Y) D0 (by decide) ⟨z1, z2, trivial⟩ ?_) rfl
  intro T1 h1 L1 A1 K1 B1 hA1 Kp f1 Y1
  refine goE (cTail Y Y1 B1 hA1 Kp f1 rfl D0 V HT (E := (fun i0 i1 Y0 Y1 => ∃ z0 z1, Er true k2 j2 (4 * i0) (4 * i1) z0 z1 ∧ Er false k1 j1 z0 z1 Y0 Y1)) (eta_c0z1z H1 hz1 H2 hz2) ?_) rfl
  intro T2 h2 L2 pr kp kv kf x0 x1 y0 y1 u0 u1 B2 YE HE F0 F1 bX0 bX1 M0 M1
  exact goE (rmE_01 (A := cA pr A1) (K := cK kp kv kf K1) (D := dE1 D x0 x1) (W := W) B2 (Yf.to YE rfl) D0 Q V H1 H2 HE F0 F1 bX0 bX1 M0 M1) rfl
theorem eC_1n_x : runIs (run code own_MN_4 29 (8, 192, 1792, 208) 330 22 [(cn_141, [7, 8, 9, 10], [0, 3], [vD 0, vD 0] ++ rp 17 (vI 0)), (cn_142, [7, 8, 9, 10], [0, 4], [vD 0, vD 3, vI 1, vI 1] ++ rp 15 (vI 0)), (cn_145, [1, 2, 3, 4, 5, 6, 7, 8, 10], [0, 4, 3], uS 0 23 ++ rp 16 (vI 0) ++ rp 16 (vD 0) ++ rp 20 (vI 0) ++ [vD 0, vD 0, vD 0, vD 0, vR 9] ++ rp 14 (vI 0))] [] (258, (lwC (sI 1) (sI 1) (sI 0) (sF 18) 3 4 5 6), [], dsC0, 19, 90, 860)) (330, (lwC (sI 1) (sI 1) (sI 0) (sF 18) 3 4 5 6), [vR 0, vR 1], dsE 1 (zI 16 [vI 1]) (zD 16 [vD 3]) (zI 17 [vI 0, vI 1]) (zI 4 []) (zD 4 [vD 4]) ++ [(1, 0, [vR 8, vR 9, vR 10, vI 2]), (65, 2, [vD 4, vD 3]), (66, 2, [vI 1, vI 1]), (64, 16, [vI 1] ++ rp 15 (vI 0)), (67, 2, [vU 23, vU 24]), (68, 2, [vU 25, vU 26])], 19, 90, 860) [(12, 4, 0, 1)] = true := by decide +kernel
theorem rmC_1n_x (B : LWB p l e s m args below meth c T0 Z a0 h0 n0 L0 90 860) (D0 : D 0 = 0) (Q : QB D) (V : VB D i0 i1) (H1 : PA k1 j1 (D 3) (D 4)) (z1 : (cmpValue (FP.dcmp (D 4) (D 0)) .l).toInt ≠ 0) (HT : TmSpec l Z n0 (iW (D 7)).toInt (iW (D 8)).toInt (iW (D 9)).toInt (iW (D 10)).toInt W lu) (Y : Yf Z n0 h0 (own_fl A K D W 0 dsC0 ++ lu)) : Go p e below (EndQ s (Q_rm0 n0) 192 1792) T0 (mkF m 258 (dL A D W (lwC (sI 1) (sI 1) (sI 0) (sF 18) 3 4 5 6)) []) := by
  refine goE (segL eC_1n_x (scS ct_141 (scS ct_142 (scS ct_145 sc0))) B (y13 Y) D0 (by decide) ⟨z1, trivial⟩ ?_) rfl
  intro T1 h1 L1 A1 K1 B1 hA1 Kp f1 Y1
  refine goE (cTail Y Y1 B1 hA1 Kp f1 rfl D0 V HT (E := (fun i0 i1 Y0 Y1 => Er true k1 j1 (4 * i0) (4 * i1) Y0 Y1)) (eta_c1n H1) ?_) rfl
  intro T2 h2 L2 pr kp kv kf x0 x1 y0 y1 u0 u1 B2 YE HE F0 F1 bX0 bX1 M0 M1
  exact goE (rmE_1x (A := cA pr A1) (K := cK kp kv kf K1) (D := dE1 D x0 x1) (W := W) B2 (Yf.to YE rfl) D0 Q V H1 HE F0 F1 bX0 bX1 M0 M1) rfl
theorem eC_1n_0n : runIs (run code own_MN_4 29 (8, 192, 1792, 208) 330 36 [(cn_141, [7, 8, 9, 10], [0, 3], [vD 0, vD 0] ++ rp 17 (vI 0)), (cn_142, [7, 8, 9, 10], [0, 4], [vD 0, vD 3, vI 1, vI 1] ++ rp 15 (vI 0)), (cn_145, [1, 2, 3, 4, 5, 6, 7, 8, 10], [0, 4, 3], uS 0 23 ++ rp 16 (vI 0) ++ rp 16 (vD 0) ++ rp 20 (vI 0) ++ [vD 0, vD 0, vD 0, vD 0, vR 9] ++ rp 14 (vI 0)), (cn_147, [7, 8, 9], [0, 5], [vR 10, vI 2, vD 4, vD 3, vI 1]), (cn_148, [7, 8, 9], [0, 6], [vR 10, vI 2, vD 5, vD 3, vI 1]), (cn_157, [1, 2, 3, 4, 5, 6, 7, 8, 10], [0, 5, 6], uS 0 23 ++ [vI 1] ++ rp 15 (vI 0) ++ [vD 3] ++ rp 15 (vD 0) ++ rp 20 (vI 0) ++ [vD 4, vD 0, vD 0, vD 0, vR 9] ++ rp 14 (vI 0))] [] (258, (lwC (sI 1) (sI 1) (sI 1) (sI 0) 3 4 5 6), [], dsC0, 19, 90, 860)) (330, (lwC (sI 1) (sI 1) (sI 1) (sI 0) 3 4 5 6), [vR 0, vR 1], dsE 2 (zI 16 [vI 1]) (zD 16 [vD 3, vD 5]) (zI 17 [vI 0, vI 1, vI 2]) (zI 4 [vI 0, vI 1]) (zD 4 [vD 4, vD 6]) ++ [(1, 0, [vR 8, vR 9, vR 10, vI 2]), (65, 2, [vD 5, vD 6]), (66, 2, [vI 1, vI 1]), (64, 16, [vI 1] ++ rp 15 (vI 0)), (67, 2, [vU 23, vU 24]), (68, 2, [vU 25, vU 26])], 19, 90, 860) [(12, 4, 0, 1), (12, 6, 0, 1)] = true := by decide +kernel
theorem rmC_1n_0n (B : LWB p l e s m args below meth c T0 Z a0 h0 n0 L0 90 860) (D0 : D 0 = 0) (Q : QB D) (V : VB D i0 i1) (H1 : PA k1 j1 (D 3) (D 4)) (z1 : (cmpValue (FP.dcmp (D 4) (D 0)) .l).toInt ≠ 0) (H2 : PA k2 j2 (D 5) (D 6)) (z2 : (cmpValue (FP.dcmp (D 6) (D 0)) .l).toInt ≠ 0) (HT : TmSpec l Z n0 (iW (D 7)).toInt (iW (D 8)).toInt (iW (D 9)).toInt (iW (D 10)).toInt W lu) (Y : Yf Z n0 h0 (own_fl A K D W 0 dsC0 ++ lu)) : Go p e below (EndQ s (Q_rm0 n0) 192 1792) T0 (mkF m 258 (dL A D W (lwC (sI 1) (sI 1) (sI 1) (sI 0) 3 4 5 6)) []) := by
  refine goE (segL eC_1n_0n (scS ct_141 (scS ct_142 (scS ct_145 (scS ct_147 (scS ct_148 (scS ct_157 sc0)))))) B (y13 Y) D0 (by decide) ⟨z1, z2, trivial⟩ ?_) rfl
  intro T1 h1 L1 A1 K1 B1 hA1 Kp f1 Y1
  refine goE (cTail Y Y1 B1 hA1 Kp f1 rfl D0 V HT (E := (fun i0 i1 Y0 Y1 => ∃ z0 z1, Er false k2 j2 (4 * i0) (4 * i1) z0 z1 ∧ Er true k1 j1 z0 z1 Y0 Y1)) (eta_c1n0n H1 H2) ?_) rfl
  intro T2 h2 L2 pr kp kv kf x0 x1 y0 y1 u0 u1 B2 YE HE F0 F1 bX0 bX1 M0 M1
  exact goE (rmE_10 (A := cA pr A1) (K := cK kp kv kf K1) (D := dE1 D x0 x1) (W := W) B2 (Yf.to YE rfl) D0 Q V H1 H2 HE F0 F1 bX0 bX1 M0 M1) rfl
theorem eC_1n_0z : runIs (run code own_MN_4 29 (8, 192, 1792, 208) 330 36 [(cn_141, [7, 8, 9, 10], [0, 3], [vD 0, vD 0] ++ rp 17 (vI 0)), (cn_142, [7, 8, 9, 10], [0, 4], [vD 0, vD 3, vI 1, vI 1] ++ rp 15 (vI 0)), (cn_145, [1, 2, 3, 4, 5, 6, 7, 8, 10], [0, 4, 3], uS 0 23 ++ rp 16 (vI 0) ++ rp 16 (vD 0) ++ rp 20 (vI 0) ++ [vD 0, vD 0, vD 0, vD 0, vR 9] ++ rp 14 (vI 0)), (cn_147, [7, 8, 9], [0, 5], [vR 10, vI 2, vD 4, vD 3, vI 1]), (cn_148, [7, 8, 9], [0, 6], [vR 10, vI 2, vD 5, vD 3, vI 1]), (cn_158, [1, 2, 3, 4, 7, 8, 10], [0, 5, 6], uS 0 8 ++ [vR 5, vR 6] ++ uS 8 15 ++ [vI 1] ++ rp 15 (vI 0) ++ [vD 3] ++ rp 15 (vD 0) ++ rp 16 (vI 0) ++ [vR 9] ++ rp 14 (vI 0))] [] (258, (lwC (sI 1) (sI 1) (sI 1) (sI 0) 3 4 5 6), [], dsC0, 19, 90, 860)) (330, (lwC (sI 1) (sI 1) (sI 1) (sI 0) 3 4 5 6), [vR 0, vR 1], dsE 2 (zI 16 [vI 1]) (zD 16 [vD 3, vD 5]) (zI 17 [vI 0, vI 1, vI 1]) (zI 4 []) (zD 4 [vD 4]) ++ [(1, 0, [vR 8, vR 9, vR 10, vI 2]), (65, 2, [vD 5, vD 6]), (66, 2, [vI 1, vI 1]), (64, 16, [vI 1] ++ rp 15 (vI 0)), (67, 2, [vU 23, vU 24]), (68, 2, [vU 25, vU 26])], 19, 90, 860) [(12, 4, 0, 1), (12, 6, 0, 0)] = true := by decide +kernel
theorem rmC_1n_0z (B : LWB p l e s m args below meth c T0 Z a0 h0 n0 L0 90 860) (D0 : D 0 = 0) (Q : QB D) (V : VB D i0 i1) (H1 : PA k1 j1 (D 3) (D 4)) (z1 : (cmpValue (FP.dcmp (D 4) (D 0)) .l).toInt ≠ 0) (H2 : PA k2 j2 (D 5) (D 6)) (z2 : (cmpValue (FP.dcmp (D 6) (D 0)) .l).toInt = 0) (HT : TmSpec l Z n0 (iW (D 7)).toInt (iW (D 8)).toInt (iW (D 9)).toInt (iW (D 10)).toInt W lu) (Y : Yf Z n0 h0 (own_fl A K D W 0 dsC0 ++ lu)) : Go p e below (EndQ s (Q_rm0 n0) 192 1792) T0 (mkF m 258 (dL A D W (lwC (sI 1) (sI 1) (sI 1) (sI 0) 3 4 5 6)) []) := by
  have hz2 : j2 = 0 := by
    rcases own_dzD (own_fix0.mpr H2.2.2.2) D0 with ⟨q, -⟩ | ⟨-, q⟩
    · exact q
    · exact absurd z2 q
  refine goE (segL eC_1n_0z (scS ct_141 (scS ct_142 (scS ct_145 (scS ct_147 (scS ct_148 (scS ct_158 sc0)))))) B (y13 Y) D0 (by decide) ⟨z1, z2, trivial⟩ ?_) rfl
  intro T1 h1 L1 A1 K1 B1 hA1 Kp f1 Y1
  refine goE (cTail Y Y1 B1 hA1 Kp f1 rfl D0 V HT (E := (fun i0 i1 Y0 Y1 => ∃ z0 z1, Er false k2 j2 (4 * i0) (4 * i1) z0 z1 ∧ Er true k1 j1 z0 z1 Y0 Y1)) (eta_c1n0z H1 H2 hz2) ?_) rfl
  intro T2 h2 L2 pr kp kv kf x0 x1 y0 y1 u0 u1 B2 YE HE F0 F1 bX0 bX1 M0 M1
  exact goE (rmE_10 (A := cA pr A1) (K := cK kp kv kf K1) (D := dE1 D x0 x1) (W := W) B2 (Yf.to YE rfl) D0 Q V H1 H2 HE F0 F1 bX0 bX1 M0 M1) rfl
theorem eC_1n_1n : runIs (run code own_MN_4 29 (8, 192, 1792, 208) 330 36 [(cn_141, [7, 8, 9, 10], [0, 3], [vD 0, vD 0] ++ rp 17 (vI 0)), (cn_142, [7, 8, 9, 10], [0, 4], [vD 0, vD 3, vI 1, vI 1] ++ rp 15 (vI 0)), (cn_145, [1, 2, 3, 4, 5, 6, 7, 8, 10], [0, 4, 3], uS 0 23 ++ rp 16 (vI 0) ++ rp 16 (vD 0) ++ rp 20 (vI 0) ++ [vD 0, vD 0, vD 0, vD 0, vR 9] ++ rp 14 (vI 0)), (cn_148, [7, 8, 9], [0, 5], [vR 10, vI 2, vD 4, vD 3, vI 1]), (cn_147, [7, 8, 9], [0, 6], [vR 10, vI 2, vD 4, vD 5, vI 1]), (cn_159, [1, 2, 3, 4, 5, 6, 7, 8, 10], [0, 6, 5], uS 0 23 ++ [vI 1] ++ rp 15 (vI 0) ++ [vD 3] ++ rp 15 (vD 0) ++ rp 20 (vI 0) ++ [vD 4, vD 0, vD 0, vD 0, vR 9] ++ rp 14 (vI 0))] [] (258, (lwC (sI 1) (sI 1) (sI 1) (sI 1) 3 4 5 6), [], dsC0, 19, 90, 860)) (330, (lwC (sI 1) (sI 1) (sI 1) (sI 1) 3 4 5 6), [vR 0, vR 1], dsE 2 (zI 16 [vI 1, vI 1]) (zD 16 [vD 3, vD 5]) (zI 17 [vI 0, vI 1, vI 2]) (zI 4 []) (zD 4 [vD 4, vD 6]) ++ [(1, 0, [vR 8, vR 9, vR 10, vI 2]), (65, 2, [vD 6, vD 5]), (66, 2, [vI 1, vI 1]), (64, 16, [vI 1] ++ rp 15 (vI 0)), (67, 2, [vU 23, vU 24]), (68, 2, [vU 25, vU 26])], 19, 90, 860) [(12, 4, 0, 1), (12, 6, 0, 1)] = true := by decide +kernel
theorem rmC_1n_1n (B : LWB p l e s m args below meth c T0 Z a0 h0 n0 L0 90 860) (D0 : D 0 = 0) (Q : QB D) (V : VB D i0 i1) (H1 : PA k1 j1 (D 3) (D 4)) (z1 : (cmpValue (FP.dcmp (D 4) (D 0)) .l).toInt ≠ 0) (H2 : PA k2 j2 (D 5) (D 6)) (z2 : (cmpValue (FP.dcmp (D 6) (D 0)) .l).toInt ≠ 0) (HT : TmSpec l Z n0 (iW (D 7)).toInt (iW (D 8)).toInt (iW (D 9)).toInt (iW (D 10)).toInt W lu) (Y : Yf Z n0 h0 (own_fl A K D W 0 dsC0 ++ lu)) : Go p e below (EndQ s (Q_rm0 n0) 192 1792) T0 (mkF m 258 (dL A D W (lwC (sI 1) (sI 1) (sI 1) (sI 1) 3 4 5 6)) []) := by
  refine goE (segL eC_1n_1n (scS ct_141 (scS ct_142 (scS ct_145 (scS ct_148 (scS ct_147 (scS ct_159 sc0)))))) B (y13 Y) D0 (by decide) ⟨z1, z2, trivial⟩ ?_) rfl
  intro T1 h1 L1 A1 K1 B1 hA1 Kp f1 Y1
  refine goE (cTail Y Y1 B1 hA1 Kp f1 rfl D0 V HT (E := (fun i0 i1 Y0 Y1 => ∃ z0 z1, Er true k2 j2 (4 * i0) (4 * i1) z0 z1 ∧ Er true k1 j1 z0 z1 Y0 Y1)) (eta_c1n1n H1 H2) ?_) rfl
  intro T2 h2 L2 pr kp kv kf x0 x1 y0 y1 u0 u1 B2 YE HE F0 F1 bX0 bX1 M0 M1
  exact goE (rmE_11 (A := cA pr A1) (K := cK kp kv kf K1) (D := dE1 D x0 x1) (W := W) B2 (Yf.to YE rfl) D0 Q V H1 H2 HE F0 F1 bX0 bX1 M0 M1) rfl
theorem eC_1n_1z : runIs (run code own_MN_4 29 (8, 192, 1792, 208) 330 36 [(cn_141, [7, 8, 9, 10], [0, 3], [vD 0, vD 0] ++ rp 17 (vI 0)), (cn_142, [7, 8, 9, 10], [0, 4], [vD 0, vD 3, vI 1, vI 1] ++ rp 15 (vI 0)), (cn_145, [1, 2, 3, 4, 5, 6, 7, 8, 10], [0, 4, 3], uS 0 23 ++ rp 16 (vI 0) ++ rp 16 (vD 0) ++ rp 20 (vI 0) ++ [vD 0, vD 0, vD 0, vD 0, vR 9] ++ rp 14 (vI 0)), (cn_148, [7, 8, 9], [0, 5], [vR 10, vI 2, vD 4, vD 3, vI 1]), (cn_147, [7, 8, 9], [0, 6], [vR 10, vI 2, vD 4, vD 5, vI 1]), (cn_160, [1, 2, 3, 4, 7, 8, 10], [0, 6, 5], uS 0 8 ++ [vR 5, vR 6] ++ uS 8 15 ++ [vI 1] ++ rp 15 (vI 0) ++ [vD 3] ++ rp 15 (vD 0) ++ rp 16 (vI 0) ++ [vR 9] ++ rp 14 (vI 0))] [] (258, (lwC (sI 1) (sI 1) (sI 1) (sI 1) 3 4 5 6), [], dsC0, 19, 90, 860)) (330, (lwC (sI 1) (sI 1) (sI 1) (sI 1) 3 4 5 6), [vR 0, vR 1], dsE 2 (zI 16 [vI 1, vI 1]) (zD 16 [vD 3, vD 5]) (zI 17 [vI 0, vI 1, vI 1]) (zI 4 []) (zD 4 [vD 4]) ++ [(1, 0, [vR 8, vR 9, vR 10, vI 2]), (65, 2, [vD 6, vD 5]), (66, 2, [vI 1, vI 1]), (64, 16, [vI 1] ++ rp 15 (vI 0)), (67, 2, [vU 23, vU 24]), (68, 2, [vU 25, vU 26])], 19, 90, 860) [(12, 4, 0, 1), (12, 6, 0, 0)] = true := by decide +kernel
theorem rmC_1n_1z (B : LWB p l e s m args below meth c T0 Z a0 h0 n0 L0 90 860) (D0 : D 0 = 0) (Q : QB D) (V : VB D i0 i1) (H1 : PA k1 j1 (D 3) (D 4)) (z1 : (cmpValue (FP.dcmp (D 4) (D 0)) .l).toInt ≠ 0) (H2 : PA k2 j2 (D 5) (D 6)) (z2 : (cmpValue (FP.dcmp (D 6) (D 0)) .l).toInt = 0) (HT : TmSpec l Z n0 (iW (D 7)).toInt (iW (D 8)).toInt (iW (D 9)).toInt (iW (D 10)).toInt W lu) (Y : Yf Z n0 h0 (own_fl A K D W 0 dsC0 ++ lu)) : Go p e below (EndQ s (Q_rm0 n0) 192 1792) T0 (mkF m 258 (dL A D W (lwC (sI 1) (sI 1) (sI 1) (sI 1) 3 4 5 6)) []) := by
  have hz2 : j2 = 0 := by
    rcases own_dzD (own_fix0.mpr H2.2.2.2) D0 with ⟨q, -⟩ | ⟨-, q⟩
    · exact q
    · exact absurd z2 q
  refine goE (segL eC_1n_1z (scS ct_141 (scS ct_142 (scS ct_145 (scS ct_148 (scS ct_147 (scS ct_160 sc0)))))) B (y13 Y) D0 (by decide) ⟨z1, z2, trivial⟩ ?_) rfl
  intro T1 h1 L1 A1 K1 B1 hA1 Kp f1 Y1
  refine goE (cTail Y Y1 B1 hA1 Kp f1 rfl D0 V HT (E := (fun i0 i1 Y0 Y1 => ∃ z0 z1, Er true k2 j2 (4 * i0) (4 * i1) z0 z1 ∧ Er true k1 j1 z0 z1 Y0 Y1)) (eta_c1n1z H1 H2 hz2) ?_) rfl
  intro T2 h2 L2 pr kp kv kf x0 x1 y0 y1 u0 u1 B2 YE HE F0 F1 bX0 bX1 M0 M1
  exact goE (rmE_11 (A := cA pr A1) (K := cK kp kv kf K1) (D := dE1 D x0 x1) (W := W) B2 (Yf.to YE rfl) D0 Q V H1 H2 HE F0 F1 bX0 bX1 M0 M1) rfl
theorem eC_1z_x : runIs (run code own_MN_4 29 (8, 192, 1792, 208) 330 22 [(cn_141, [7, 8, 9, 10], [0, 3], [vD 0, vD 0] ++ rp 17 (vI 0)), (cn_142, [7, 8, 9, 10], [0, 4], [vD 0, vD 3, vI 1, vI 1] ++ rp 15 (vI 0)), (cn_146, [1, 2, 3, 4, 7, 8, 10], [0, 4, 3], uS 0 8 ++ [vR 5, vR 6] ++ uS 8 15 ++ rp 16 (vI 0) ++ rp 16 (vD 0) ++ rp 16 (vI 0) ++ [vR 9] ++ rp 14 (vI 0))] [] (258, (lwC (sI 1) (sI 1) (sI 0) (sF 18) 3 4 5 6), [], dsC0, 19, 90, 860)) (330, (lwC (sI 1) (sI 1) (sI 0) (sF 18) 3 4 5 6), [vR 0, vR 1], dsE 1 (zI 16 [vI 1]) (zD 16 [vD 3]) (zI 17 []) (zI 4 []) (zD 4 []) ++ [(1, 0, [vR 8, vR 9, vR 10, vI 2]), (65, 2, [vD 4, vD 3]), (66, 2, [vI 1, vI 1]), (64, 16, [vI 1] ++ rp 15 (vI 0)), (67, 2, [vU 23, vU 24]), (68, 2, [vU 25, vU 26])], 19, 90, 860) [(12, 4, 0, 0)] = true := by decide +kernel
theorem rmC_1z_x (B : LWB p l e s m args below meth c T0 Z a0 h0 n0 L0 90 860) (D0 : D 0 = 0) (Q : QB D) (V : VB D i0 i1) (H1 : PA k1 j1 (D 3) (D 4)) (z1 : (cmpValue (FP.dcmp (D 4) (D 0)) .l).toInt = 0) (HT : TmSpec l Z n0 (iW (D 7)).toInt (iW (D 8)).toInt (iW (D 9)).toInt (iW (D 10)).toInt W lu) (Y : Yf Z n0 h0 (own_fl A K D W 0 dsC0 ++ lu)) : Go p e below (EndQ s (Q_rm0 n0) 192 1792) T0 (mkF m 258 (dL A D W (lwC (sI 1) (sI 1) (sI 0) (sF 18) 3 4 5 6)) []) := by
  have hz1 : j1 = 0 := by
    rcases own_dzD (own_fix0.mpr H1.2.2.2) D0 with ⟨q, -⟩ | ⟨-, q⟩
    · exact q
    · exact absurd z1 q
  refine goE (segL eC_1z_x (scS ct_141 (scS ct_142 (scS ct_146 sc0))) B (y13 Y) D0 (by decide) ⟨z1, trivial⟩ ?_) rfl
  intro T1 h1 L1 A1 K1 B1 hA1 Kp f1 Y1
  refine goE (cTail Y Y1 B1 hA1 Kp f1 rfl D0 V HT (E := (fun i0 i1 Y0 Y1 => Er true k1 j1 (4 * i0) (4 * i1) Y0 Y1)) (eta_c1z H1 hz1) ?_) rfl
  intro T2 h2 L2 pr kp kv kf x0 x1 y0 y1 u0 u1 B2 YE HE F0 F1 bX0 bX1 M0 M1
  exact goE (rmE_1x (A := cA pr A1) (K := cK kp kv kf K1) (D := dE1 D x0 x1) (W := W) B2 (Yf.to YE rfl) D0 Q V H1 HE F0 F1 bX0 bX1 M0 M1) rfl
theorem eC_1z_0n : runIs (run code own_MN_4 29 (8, 192, 1792, 208) 330 36 [(cn_141, [7, 8, 9, 10], [0, 3], [vD 0, vD 0] ++ rp 17 (vI 0)), (cn_142, [7, 8, 9, 10], [0, 4], [vD 0, vD 3, vI 1, vI 1] ++ rp 15 (vI 0)), (cn_146, [1, 2, 3, 4, 7, 8, 10], [0, 4, 3], uS 0 8 ++ [vR 5, vR 6] ++ uS 8 15 ++ rp 16 (vI 0) ++ rp 16 (vD 0) ++ rp 16 (vI 0) ++ [vR 9] ++ rp 14 (vI 0)), (cn_147, [7, 8, 9], [0, 5], [vR 10, vI 2, vD 4, vD 3, vI 1]), (cn_148, [7, 8, 9], [0, 6], [vR 10, vI 2, vD 5, vD 3, vI 1]), (cn_161, [1, 2, 3, 4, 5, 6, 7, 8, 10], [0, 5, 6], uS 0 23 ++ [vI 1] ++ rp 15 (vI 0) ++ [vD 3] ++ rp 15 (vD 0) ++ rp 20 (vI 0) ++ [vD 0, vD 0, vD 0, vD 0, vR 9] ++ rp 14 (vI 0))] [] (258, (lwC (sI 1) (sI 1) (sI 1) (sI 0) 3 4 5 6), [], dsC0, 19, 90, 860)) (330, (lwC (sI 1) (sI 1) (sI 1) (sI 0) 3 4 5 6), [vR 0, vR 1], dsE 2 (zI 16 [vI 1]) (zD 16 [vD 3, vD 5]) (zI 17 [vI 0, vI 0, vI 1]) (zI 4 [vI 1]) (zD 4 [vD 6]) ++ [(1, 0, [vR 8, vR 9, vR 10, vI 2]), (65, 2, [vD 5, vD 6]), (66, 2, [vI 1, vI 1]), (64, 16, [vI 1] ++ rp 15 (vI 0)), (67, 2, [vU 23, vU 24]), (68, 2, [vU 25, vU 26])], 19, 90, 860) [(12, 4, 0, 0), (12, 6, 0, 1)] = true := by decide +kernel
theorem rmC_1z_0n (B : LWB p l e s m args below meth c T0 Z a0 h0 n0 L0 90 860) (D0 : D 0 = 0) (Q : QB D) (V : VB D i0 i1) (H1 : PA k1 j1 (D 3) (D 4)) (z1 : (cmpValue (FP.dcmp (D 4) (D 0)) .l).toInt = 0) (H2 : PA k2 j2 (D 5) (D 6)) (z2 : (cmpValue (FP.dcmp (D 6) (D 0)) .l).toInt ≠ 0) (HT : TmSpec l Z n0 (iW (D 7)).toInt (iW (D 8)).toInt (iW (D 9)).toInt (iW (D 10)).toInt W lu) (Y : Yf Z n0 h0 (own_fl A K D W 0 dsC0 ++ lu)) : Go p e below (EndQ s (Q_rm0 n0) 192 1792) T0 (mkF m 258 (dL A D W (lwC (sI 1) (sI 1) (sI 1) (sI 0) 3 4 5 6)) []) := by
  have hz1 : j1 = 0 := by
    rcases own_dzD (own_fix0.mpr H1.2.2.2) D0 with ⟨q, -⟩ | ⟨-, q⟩
    · exact q
    · exact absurd z1 q
  refine goE (segL eC_1z_0n (scS ct_141 (scS ct_142 (scS ct_146 (scS ct_147 (scS ct_148 (scS ct_161 sc0)))))) B (y13 Y) D0 (by decide) ⟨z1, z2, trivial⟩ ?_) rfl
  intro T1 h1 L1 A1 K1 B1 hA1 Kp f1 Y1
  refine goE (cTail Y Y1 B1 hA1 Kp f1 rfl D0 V HT (E := (fun i0 i1 Y0 Y1 => ∃ z0 z1, Er false k2 j2 (4 * i0) (4 * i1) z0 z1 ∧ Er true k1 j1 z0 z1 Y0 Y1)) (eta_c1z0n H1 hz1 H2) ?_) rfl
  intro T2 h2 L2 pr kp kv kf x0 x1 y0 y1 u0 u1 B2 YE HE F0 F1 bX0 bX1 M0 M1
  exact goE (rmE_10 (A := cA pr A1) (K := cK kp kv kf K1) (D := dE1 D x0 x1) (W := W) B2 (Yf.to YE rfl) D0 Q V H1 H2 HE F0 F1 bX0 bX1 M0 M1) rfl
theorem eC_1z_0z : runIs (run code own_MN_4 29 (8, 192, 1792, 208) 330 36 [(cn_141, [7, 8, 9, 10], [0, 3], [vD 0, vD 0] ++ rp 17 (vI 0)), (cn_142, [7, 8, 9, 10], [0, 4], [vD 0, vD 3, vI 1, vI 1] ++ rp 15 (vI 0)), (cn_146, [1, 2, 3, 4, 7, 8, 10], [0, 4, 3], uS 0 8 ++ [vR 5, vR 6] ++ uS 8 15 ++ rp 16 (vI 0) ++ rp 16 (vD 0) ++ rp 16 (vI 0) ++ [vR 9] ++ rp 14 (vI 0)), (cn_147, [7, 8, 9], [0, 5], [vR 10, vI 2, vD 4, vD 3, vI 1]), (cn_148, [7, 8, 9], [0, 6], [vR 10, vI 2, vD 5, vD 3, vI 1]), (cn_162, [1, 2, 3, 4, 7, 8, 10], [0, 5, 6], uS 0 8 ++ [vR 5, vR 6] ++ uS 8 15 ++ [vI 1] ++ rp 15 (vI 0) ++ [vD 3] ++ rp 15 (vD 0) ++ rp 16 (vI 0) ++ [vR 9] ++ rp 14 (vI 0))] [] (258, (lwC (sI 1) (sI 1) (sI 1) (sI 0) 3 4 5 6), [], dsC0, 19, 90, 860)) (330, (lwC (sI 1) (sI 1) (sI 1) (sI 0) 3 4 5 6), [vR 0, vR 1], dsE 2 (zI 16 [vI 1]) (zD 16 [vD 3, vD 5]) (zI 17 []) (zI 4 []) (zD 4 []) ++ [(1, 0, [vR 8, vR 9, vR 10, vI 2]), (65, 2, [vD 5, vD 6]), (66, 2, [vI 1, vI 1]), (64, 16, [vI 1] ++ rp 15 (vI 0)), (67, 2, [vU 23, vU 24]), (68, 2, [vU 25, vU 26])], 19, 90, 860) [(12, 4, 0, 0), (12, 6, 0, 0)] = true := by decide +kernel
theorem rmC_1z_0z (B : LWB p l e s m args below meth c T0 Z a0 h0 n0 L0 90 860) (D0 : D 0 = 0) (Q : QB D) (V : VB D i0 i1) (H1 : PA k1 j1 (D 3) (D 4)) (z1 : (cmpValue (FP.dcmp (D 4) (D 0)) .l).toInt = 0) (H2 : PA k2 j2 (D 5) (D 6)) (z2 : (cmpValue (FP.dcmp (D 6) (D 0)) .l).toInt = 0) (HT : TmSpec l Z n0 (iW (D 7)).toInt (iW (D 8)).toInt (iW (D 9)).toInt (iW (D 10)).toInt W lu) (Y : Yf Z n0 h0 (own_fl A K D W 0 dsC0 ++ lu)) : Go p e below (EndQ s (Q_rm0 n0) 192 1792) T0 (mkF m 258 (dL A D W (lwC (sI 1) (sI 1) (sI 1) (sI 0) 3 4 5 6)) []) := by
  have hz1 : j1 = 0 := by
    rcases own_dzD (own_fix0.mpr H1.2.2.2) D0 with ⟨q, -⟩ | ⟨-, q⟩
    · exact q
    · exact absurd z1 q
  have hz2 : j2 = 0 := by
    rcases own_dzD (own_fix0.mpr H2.2.2.2) D0 with ⟨q, -⟩ | ⟨-, q⟩
    · exact q
    · exact absurd z2 q
  refine goE (segL eC_1z_0z (scS ct_141 (scS ct_142 (scS ct_146 (scS ct_147 (scS ct_148 (scS ct_162 sc0)))))) B (y13 Y) D0 (by decide) ⟨z1, z2, trivial⟩ ?_) rfl
  intro T1 h1 L1 A1 K1 B1 hA1 Kp f1 Y1
  refine goE (cTail Y Y1 B1 hA1 Kp f1 rfl D0 V HT (E := (fun i0 i1 Y0 Y1 => ∃ z0 z1, Er false k2 j2 (4 * i0) (4 * i1) z0 z1 ∧ Er true k1 j1 z0 z1 Y0 Y1)) (eta_c1z0z H1 hz1 H2 hz2) ?_) rfl
  intro T2 h2 L2 pr kp kv kf x0 x1 y0 y1 u0 u1 B2 YE HE F0 F1 bX0 bX1 M0 M1
  exact goE (rmE_10 (A := cA pr A1) (K := cK kp kv kf K1) (D := dE1 D x0 x1) (W := W) B2 (Yf.to YE rfl) D0 Q V H1 H2 HE F0 F1 bX0 bX1 M0 M1) rfl
theorem eC_1z_1n : runIs (run code own_MN_4 29 (8, 192, 1792, 208) 330 36 [(cn_141, [7, 8, 9, 10], [0, 3], [vD 0, vD 0] ++ rp 17 (vI 0)), (cn_142, [7, 8, 9, 10], [0, 4], [vD 0, vD 3, vI 1, vI 1] ++ rp 15 (vI 0)), (cn_146, [1, 2, 3, 4, 7, 8, 10], [0, 4, 3], uS 0 8 ++ [vR 5, vR 6] ++ uS 8 15 ++ rp 16 (vI 0) ++ rp 16 (vD 0) ++ rp 16 (vI 0) ++ [vR 9] ++ rp 14 (vI 0)), (cn_148, [7, 8, 9], [0, 5], [vR 10, vI 2, vD 4, vD 3, vI 1]), (cn_147, [7, 8, 9], [0, 6], [vR 10, vI 2, vD 4, vD 5, vI 1]), (cn_163, [1, 2, 3, 4, 5, 6, 7, 8, 10], [0, 6, 5], uS 0 23 ++ [vI 1] ++ rp 15 (vI 0) ++ [vD 3] ++ rp 15 (vD 0) ++ rp 20 (vI 0) ++ [vD 0, vD 0, vD 0, vD 0, vR 9] ++ rp 14 (vI 0))] [] (258, (lwC (sI 1) (sI 1) (sI 1) (sI 1) 3 4 5 6), [], dsC0, 19, 90, 860)) (330, (lwC (sI 1) (sI 1) (sI 1) (sI 1) 3 4 5 6), [vR 0, vR 1], dsE 2 (zI 16 [vI 1, vI 1]) (zD 16 [vD 3, vD 5]) (zI 17 [vI 0, vI 0, vI 1]) (zI 4 []) (zD 4 [vD 6]) ++ [(1, 0, [vR 8, vR 9, vR 10, vI 2]), (65, 2, [vD 6, vD 5]), (66, 2, [vI 1, vI 1]), (64, 16, [vI 1] ++ rp 15 (vI 0)), (67, 2, [vU 23, vU 24]), (68, 2, [vU 25, vU 26])], 19, 90, 860) [(12, 4, 0, 0), (12, 6, 0, 1)] = true := by decide +kernel
theorem rmC_1z_1n (B : LWB p l e s m args below meth c T0 Z a0 h0 n0 L0 90 860) (D0 : D 0 = 0) (Q : QB D) (V : VB D i0 i1) (H1 : PA k1 j1 (D 3) (D 4)) (z1 : (cmpValue (FP.dcmp (D 4) (D 0)) .l).toInt = 0) (H2 : PA k2 j2 (D 5) (D 6)) (z2 : (cmpValue (FP.dcmp (D 6) (D 0)) .l).toInt ≠ 0) (HT : TmSpec l Z n0 (iW (D 7)).toInt (iW (D 8)).toInt (iW (D 9)).toInt (iW (D 10)).toInt W lu) (Y : Yf Z n0 h0 (own_fl A K D W 0 dsC0 ++ lu)) : Go p e below (EndQ s (Q_rm0 n0) 192 1792) T0 (mkF m 258 (dL A D W (lwC (sI 1) (sI 1) (sI 1) (sI 1) 3 4 5 6)) []) := by
  have hz1 : j1 = 0 := by
    rcases own_dzD (own_fix0.mpr H1.2.2.2) D0 with ⟨q, -⟩ | ⟨-, q⟩
    · exact q
    · exact absurd z1 q
  refine goE (segL eC_1z_1n (scS ct_141 (scS ct_142 (scS ct_146 (scS ct_148 (scS ct_147 (scS ct_163 sc0)))))) B (y13 Y) D0 (by decide) ⟨z1, z2, trivial⟩ ?_) rfl
  intro T1 h1 L1 A1 K1 B1 hA1 Kp f1 Y1
  refine goE (cTail Y Y1 B1 hA1 Kp f1 rfl D0 V HT (E := (fun i0 i1 Y0 Y1 => ∃ z0 z1, Er true k2 j2 (4 * i0) (4 * i1) z0 z1 ∧ Er true k1 j1 z0 z1 Y0 Y1)) (eta_c1z1n H1 hz1 H2) ?_) rfl
  intro T2 h2 L2 pr kp kv kf x0 x1 y0 y1 u0 u1 B2 YE HE F0 F1 bX0 bX1 M0 M1
  exact goE (rmE_11 (A := cA pr A1) (K := cK kp kv kf K1) (D := dE1 D x0 x1) (W := W) B2 (Yf.to YE rfl) D0 Q V H1 H2 HE F0 F1 bX0 bX1 M0 M1) rfl
theorem eC_1z_1z : runIs (run code own_MN_4 29 (8, 192, 1792, 208) 330 36 [(cn_141, [7, 8, 9, 10], [0, 3], [vD 0, vD 0] ++ rp 17 (vI 0)), (cn_142, [7, 8, 9, 10], [0, 4], [vD 0, vD 3, vI 1, vI 1] ++ rp 15 (vI 0)), (cn_146, [1, 2, 3, 4, 7, 8, 10], [0, 4, 3], uS 0 8 ++ [vR 5, vR 6] ++ uS 8 15 ++ rp 16 (vI 0) ++ rp 16 (vD 0) ++ rp 16 (vI 0) ++ [vR 9] ++ rp 14 (vI 0)), (cn_148, [7, 8, 9], [0, 5], [vR 10, vI 2, vD 4, vD 3, vI 1]), (cn_147, [7, 8, 9], [0, 6], [vR 10, vI 2, vD 4, vD 5, vI 1]), (cn_164, [1, 2, 3, 4, 7, 8, 10], [0, 6, 5], uS 0 8 ++ [vR 5, vR 6] ++ uS 8 15 ++ [vI 1] ++ rp 15 (vI 0) ++ [vD 3] ++ rp 15 (vD 0) ++ rp 16 (vI 0) ++ [vR 9] ++ rp 14 (vI 0))] [] (258, (lwC (sI 1) (sI 1) (sI 1) (sI 1) 3 4 5 6), [], dsC0, 19, 90, 860)) (330, (lwC (sI 1) (sI 1) (sI 1) (sI 1) 3 4 5 6), [vR 0, vR 1], dsE 2 (zI 16 [vI 1, vI 1]) (zD 16 [vD 3, vD 5]) (zI 17 []) (zI 4 []) (zD 4 []) ++ [(1, 0, [vR 8, vR 9, vR 10, vI 2]), (65, 2, [vD 6, vD 5]), (66, 2, [vI 1, vI 1]), (64, 16, [vI 1] ++ rp 15 (vI 0)), (67, 2, [vU 23, vU 24]), (68, 2, [vU 25, vU 26])], 19, 90, 860) [(12, 4, 0, 0), (12, 6, 0, 0)] = true := by decide +kernel
theorem rmC_1z_1z (B : LWB p l e s m args below meth c T0 Z a0 h0 n0 L0 90 860) (D0 : D 0 = 0) (Q : QB D) (V : VB D i0 i1) (H1 : PA k1 j1 (D 3) (D 4)) (z1 : (cmpValue (FP.dcmp (D 4) (D 0)) .l).toInt = 0) (H2 : PA k2 j2 (D 5) (D 6)) (z2 : (cmpValue (FP.dcmp (D 6) (D 0)) .l).toInt = 0) (HT : TmSpec l Z n0 (iW (D 7)).toInt (iW (D 8)).toInt (iW (D 9)).toInt (iW (D 10)).toInt W lu) (Y : Yf Z n0 h0 (own_fl A K D W 0 dsC0 ++ lu)) : Go p e below (EndQ s (Q_rm0 n0) 192 1792) T0 (mkF m 258 (dL A D W (lwC (sI 1) (sI 1) (sI 1) (sI 1) 3 4 5 6)) []) := by
  have hz1 : j1 = 0 := by
    rcases own_dzD (own_fix0.mpr H1.2.2.2) D0 with ⟨q, -⟩ | ⟨-, q⟩
    · exact q
    · exact absurd z1 q
  have hz2 : j2 = 0 := by
    rcases own_dzD (own_fix0.mpr H2.2.2.2) D0 with ⟨q, -⟩ | ⟨-, q⟩
    · exact q
    · exact absurd z2 q
  refine goE (segL eC_1z_1z (scS ct_141 (scS ct_142 (scS ct_146 (scS ct_148 (scS ct_147 (scS ct_164 sc0)))))) B (y13 Y) D0 (by decide) ⟨z1, z2, trivial⟩ ?_) rfl
  intro T1 h1 L1 A1 K1 B1 hA1 Kp f1 Y1
  refine goE (cTail Y Y1 B1 hA1 Kp f1 rfl D0 V HT (E := (fun i0 i1 Y0 Y1 => ∃ z0 z1, Er true k2 j2 (4 * i0) (4 * i1) z0 z1 ∧ Er true k1 j1 z0 z1 Y0 Y1)) (eta_c1z1z H1 hz1 H2 hz2) ?_) rfl
  intro T2 h2 L2 pr kp kv kf x0 x1 y0 y1 u0 u1 B2 YE HE F0 F1 bX0 bX1 M0 M1
  exact goE (rmE_11 (A := cA pr A1) (K := cK kp kv kf K1) (D := dE1 D x0 x1) (W := W) B2 (Yf.to YE rfl) D0 Q V H1 H2 HE F0 F1 bX0 bX1 M0 M1) rfl
theorem rm258 {o1 r1 o2 r2 : Int32} (B : LWB p l e s m args below meth c T0 Z a0 h0 n0 L0 90 860) (D0 : D 0 = 0) (ho1 : o1 = 0 ∨ o1 = 1) (hr1 : r1 = 0 ∨ r1 = 1) (ho2 : o2 = 0 ∨ o2 = 1) (hr2 : r2 = 0 ∨ r2 = 1) (Q : QB D) (V : VB D i0 i1) (H1 : PA k1 j1 (D 3) (D 4)) (H2 : PA k2 j2 (D 5) (D 6)) (HT : TmSpec l Z n0 (iW (D 7)).toInt (iW (D 8)).toInt (iW (D 9)).toInt (iW (D 10)).toInt W lu) (Y : Yf Z n0 h0 (own_fl A K D W 0 dsC0 ++ lu)) : Go p e below (EndQ s (Q_rm0 n0) 192 1792) T0 (mkF m 258 #[.val (.int (iW (D 12))), .val (.int (iW (D 13))), .val (.int (iW (D 14))), .val (.int (iW (D 15))), .val (.int (iW (D 16))), .val (.int (iW (D 7))), .val (.int (iW (D 8))), .val (.int (iW (D 9))), .val (.int (iW (D 10))), .val (.int (iW (D 11))), .val (.ref (A 11)), .val (.ref (A 12)), .val (.int o1), .val (.int r1), .val (.double (D 3)), .second, .val (.double (D 4)), .second, .val (.int o2), .val (.int r2), .val (.double (D 5)), .second, .val (.double (D 6)), .second, .val (.ref (A 0)), .val (.ref (A 1)), .val (.ref (A 7)), .unset, .unset] []) := by
  have D1 := own_dzD (own_fix0.mpr H1.2.2.2) D0
  have D2 := own_dzD (own_fix0.mpr H2.2.2.2) D0
  rcases ho1 with rfl | rfl
  · skip
    rcases ho2 with rfl | rfl
    · skip
      obtain ⟨w1, rfl⟩ : ∃ w, iW w = r1 := ⟨_, own_iw r1⟩
      obtain ⟨w2, rfl⟩ : ∃ w, iW w = r2 := ⟨_, own_iw r2⟩
      exact goE (rmC_x_x (A := A) (K := K) (D := dC1 D w1 w2) (W := W) B D0 Q V HT Y) rfl
    · rcases hr2 with rfl | rfl
      · rcases D2 with ⟨-, z2⟩ | ⟨-, z2⟩
        · skip
          obtain ⟨w1, rfl⟩ : ∃ w, iW w = r1 := ⟨_, own_iw r1⟩
          exact goE (rmC_x_0z (A := A) (K := K) (D := dC2 D w1 0) (W := W) B D0 Q V H2 z2 HT Y) rfl
        · skip
          obtain ⟨w1, rfl⟩ : ∃ w, iW w = r1 := ⟨_, own_iw r1⟩
          exact goE (rmC_x_0n (A := A) (K := K) (D := dC2 D w1 0) (W := W) B D0 Q V H2 z2 HT Y) rfl
      · rcases D2 with ⟨-, z2⟩ | ⟨-, z2⟩
        · skip
          obtain ⟨w1, rfl⟩ : ∃ w, iW w = r1 := ⟨_, own_iw r1⟩
          exact goE (rmC_x_1z (A := A) (K := K) (D := dC2 D w1 0) (W := W) B D0 Q V H2 z2 HT Y) rfl
        · skip
          obtain ⟨w1, rfl⟩ : ∃ w, iW w = r1 := ⟨_, own_iw r1⟩
          exact goE (rmC_x_1n (A := A) (K := K) (D := dC2 D w1 0) (W := W) B D0 Q V H2 z2 HT Y) rfl
  · rcases hr1 with rfl | rfl
    · rcases D1 with ⟨-, z1⟩ | ⟨-, z1⟩
      · skip
        rcases ho2 with rfl | rfl
        · skip
          obtain ⟨w2, rfl⟩ : ∃ w, iW w = r2 := ⟨_, own_iw r2⟩
          exact goE (rmC_0z_x (A := A) (K := K) (D := dC1 D 0 w2) (W := W) B D0 Q V H1 z1 HT Y) rfl
        · rcases hr2 with rfl | rfl
          · rcases D2 with ⟨-, z2⟩ | ⟨-, z2⟩
            · skip
              exact goE (rmC_0z_0z (A := A) (K := K) (D := dC1 D 0 0) (W := W) B D0 Q V H1 z1 H2 z2 HT Y) rfl
            · skip
              exact goE (rmC_0z_0n (A := A) (K := K) (D := dC1 D 0 0) (W := W) B D0 Q V H1 z1 H2 z2 HT Y) rfl
          · rcases D2 with ⟨-, z2⟩ | ⟨-, z2⟩
            · skip
              exact goE (rmC_0z_1z (A := A) (K := K) (D := dC1 D 0 0) (W := W) B D0 Q V H1 z1 H2 z2 HT Y) rfl
            · skip
              exact goE (rmC_0z_1n (A := A) (K := K) (D := dC1 D 0 0) (W := W) B D0 Q V H1 z1 H2 z2 HT Y) rfl
      · skip
        rcases ho2 with rfl | rfl
        · skip
          obtain ⟨w2, rfl⟩ : ∃ w, iW w = r2 := ⟨_, own_iw r2⟩
          exact goE (rmC_0n_x (A := A) (K := K) (D := dC1 D 0 w2) (W := W) B D0 Q V H1 z1 HT Y) rfl
        · rcases hr2 with rfl | rfl
          · rcases D2 with ⟨-, z2⟩ | ⟨-, z2⟩
            · skip
              exact goE (rmC_0n_0z (A := A) (K := K) (D := dC1 D 0 0) (W := W) B D0 Q V H1 z1 H2 z2 HT Y) rfl
            · skip
              exact goE (rmC_0n_0n (A := A) (K := K) (D := dC1 D 0 0) (W := W) B D0 Q V H1 z1 H2 z2 HT Y) rfl
          · rcases D2 with ⟨-, z2⟩ | ⟨-, z2⟩
            · skip
              exact goE (rmC_0n_1z (A := A) (K := K) (D := dC1 D 0 0) (W := W) B D0 Q V H1 z1 H2 z2 HT Y) rfl
            · skip
              exact goE (rmC_0n_1n (A := A) (K := K) (D := dC1 D 0 0) (W := W) B D0 Q V H1 z1 H2 z2 HT Y) rfl
    · rcases D1 with ⟨-, z1⟩ | ⟨-, z1⟩
      · skip
        rcases ho2 with rfl | rfl
        · skip
          obtain ⟨w2, rfl⟩ : ∃ w, iW w = r2 := ⟨_, own_iw r2⟩
          exact goE (rmC_1z_x (A := A) (K := K) (D := dC1 D 0 w2) (W := W) B D0 Q V H1 z1 HT Y) rfl
        · rcases hr2 with rfl | rfl
          · rcases D2 with ⟨-, z2⟩ | ⟨-, z2⟩
            · skip
              exact goE (rmC_1z_0z (A := A) (K := K) (D := dC1 D 0 0) (W := W) B D0 Q V H1 z1 H2 z2 HT Y) rfl
            · skip
              exact goE (rmC_1z_0n (A := A) (K := K) (D := dC1 D 0 0) (W := W) B D0 Q V H1 z1 H2 z2 HT Y) rfl
          · rcases D2 with ⟨-, z2⟩ | ⟨-, z2⟩
            · skip
              exact goE (rmC_1z_1z (A := A) (K := K) (D := dC1 D 0 0) (W := W) B D0 Q V H1 z1 H2 z2 HT Y) rfl
            · skip
              exact goE (rmC_1z_1n (A := A) (K := K) (D := dC1 D 0 0) (W := W) B D0 Q V H1 z1 H2 z2 HT Y) rfl
      · skip
        rcases ho2 with rfl | rfl
        · skip
          obtain ⟨w2, rfl⟩ : ∃ w, iW w = r2 := ⟨_, own_iw r2⟩
          exact goE (rmC_1n_x (A := A) (K := K) (D := dC1 D 0 w2) (W := W) B D0 Q V H1 z1 HT Y) rfl
        · rcases hr2 with rfl | rfl
          · rcases D2 with ⟨-, z2⟩ | ⟨-, z2⟩
            · skip
              exact goE (rmC_1n_0z (A := A) (K := K) (D := dC1 D 0 0) (W := W) B D0 Q V H1 z1 H2 z2 HT Y) rfl
            · skip
              exact goE (rmC_1n_0n (A := A) (K := K) (D := dC1 D 0 0) (W := W) B D0 Q V H1 z1 H2 z2 HT Y) rfl
          · rcases D2 with ⟨-, z2⟩ | ⟨-, z2⟩
            · skip
              exact goE (rmC_1n_1z (A := A) (K := K) (D := dC1 D 0 0) (W := W) B D0 Q V H1 z1 H2 z2 HT Y) rfl
            · skip
              exact goE (rmC_1n_1n (A := A) (K := K) (D := dC1 D 0 0) (W := W) B D0 Q V H1 z1 H2 z2 HT Y) rfl
theorem d1_0 : decode method_3_code 0 = .ok (.iload_n 0, 1) := by decide +kernel
theorem d1_1 : decode method_3_code 1 = .ok (.iload_n 1, 1) := by decide +kernel
theorem d1_2 : decode method_3_code 2 = .ok (.iushr, 1) := by decide +kernel
theorem d1_3 : decode method_3_code 3 = .ok (.sipush 255, 3) := by decide +kernel
theorem d1_6 : decode method_3_code 6 = .ok (.iand, 1) := by decide +kernel
theorem d1_7 : decode method_3_code 7 = .ok (.iconst 5, 1) := by decide +kernel
theorem d1_8 : decode method_3_code 8 = .ok (.irem, 1) := by decide +kernel
theorem d1_9 : decode method_3_code 9 = .ok (.iconst 2, 1) := by decide +kernel
theorem d1_10 : decode method_3_code 10 = .ok (.isub, 1) := by decide +kernel
theorem d1_11 : decode method_3_code 11 = .ok (.ireturn, 1) := by decide +kernel
theorem own_pf0 : plainFor (⟨"com/example/tracefold/tracefold/mining/FactoredInverseTimesPinLaw", "entry", "(II)I"⟩ : MethodName) = true := plainFor_of_name (by first | (simp [plainName, overriddenIn]; done) | decide +kernel)
def Q_rmEn (n0 : Nat) (h0 : Heap) (v : Option Value) (h : Heap) (L : List Loc) : Prop := ∃ r : Int32, v = some (.int r) ∧ (-2 ≤ r.toInt ∧ r.toInt ≤ 2) ∧ Fr n0 L ∧ h = h0
theorem ef_rmEn (x sh : Int32) (m : MethodId) : entryFrame m #[(.int x), (.int sh)] 2 = mkF m 0 #[.val (.int x), .val (.int sh)] [] := by first | (simp [entryFrame, mkF, argsToLocals, Value.category]; done) | rfl
theorem rmEn (l : Launch) (Z : State) (a0 : Array Value) (hw : HW a0 Z) (x sh : Int32) (h0 : Heap) (n0 : Nat) (Z0 : n0 ≤ h0.size)  :
    MetFree l (⟨"com/example/tracefold/tracefold/mining/FactoredInverseTimesPinLaw", "entry", "(II)I"⟩ : MethodName) (head1 [Jvm.Cond.code (⟨"com/example/tracefold/tracefold/mining/FactoredInverseTimesPinLaw", "entry", "(II)I"⟩ : MethodName) method_3_code 2 (some .int)] ({ frames := 0, cells := 0, slots := 0, locals := 0 } : Room)) (fun as_ U => as_ = #[(.int x), (.int sh)] ∧ Z.Warmed39 U.vm ∧ U.heap = h0) (fun _ _ _ _ _ => True) (fun _ U o U' => ∃ v L, o = .returned v ∧ Q_rmEn n0 h0 v U'.heap L ∧ FrameEnd U o U' L ({ frames := 0, cells := 0, slots := 0, locals := 0 } : Room).cells ({ frames := 0, cells := 0, slots := 0, locals := 0 } : Room).slots) := by
  refine own_met own_pf0 (ef_rmEn x sh) ?_
  intro p e s m below meth c T0 X0 hx hby hml hret hlk hnm hown hZ e0
  have N0 := Fr.nil n0
  refine g_iloadN X0 hx 1 (hb hby d1_0) rfl rfl ?_
  refine g_iloadN X0 hx 2 (hb hby d1_1) rfl rfl ?_
  refine g_iushr X0 hx 3 (hb hby d1_2) rfl ?_
  refine g_sipush X0 hx (255 : Int32) 6 (hb hby d1_3) rfl (by decide) ?_
  refine g_iand X0 hx 7 (hb hby d1_6) rfl ?_
  refine g_iconst X0 hx (5 : Int32) 8 (hb hby d1_7) rfl (by decide) ?_
  refine g_irem X0 hx 9 (hb hby d1_8) rfl (by decide) ?_
  refine g_iconst X0 hx (2 : Int32) 10 (hb hby d1_9) rfl (by decide) ?_
  refine g_isub X0 hx 11 (hb hby d1_10) rfl ?_
  exact g_retI X0 hx hlk hret (hb hby d1_11) (by decide) (by decide) e0 ⟨_, rfl, (by have := own_rem ((x.toUInt32 >>> (sh &&& 31).toUInt32).toInt32) 5 2 5 2 (by decide) (by decide) (by decide) (by decide) (by decide); omega), N0, rfl⟩
theorem d5_0 : decode method_5_code 0 = .ok (.iload_n 0, 1) := by decide +kernel
theorem d5_1 : decode method_5_code 1 = .ok (.sipush 255, 3) := by decide +kernel
theorem d5_4 : decode method_5_code 4 = .ok (.iand, 1) := by decide +kernel
theorem d5_5 : decode method_5_code 5 = .ok (.bipush 17, 2) := by decide +kernel
theorem d5_7 : decode method_5_code 7 = .ok (.irem, 1) := by decide +kernel
theorem d5_8 : decode method_5_code 8 = .ok (.bipush 8, 2) := by decide +kernel
theorem d5_10 : decode method_5_code 10 = .ok (.isub, 1) := by decide +kernel
theorem d5_11 : decode method_5_code 11 = .ok (.i2d, 1) := by decide +kernel
theorem d5_12 : decode method_5_code 12 = .ok (.dreturn, 1) := by decide +kernel
theorem own_pf1 : plainFor (⟨"com/example/tracefold/tracefold/mining/FactoredInverseTimesPinLaw", "otherOf", "(I)D"⟩ : MethodName) = true := plainFor_of_name (by first | (simp [plainName, overriddenIn]; done) | decide +kernel)
def Q_rmOt (n0 : Nat) (h0 : Heap) (v : Option Value) (h : Heap) (L : List Loc) : Prop := ∃ (d : UInt64) (j : Int), v = some (.double d) ∧ Jvm.FP.Core.DInt j d ∧ (-8 ≤ j ∧ j ≤ 8) ∧ Fr n0 L ∧ h = h0
theorem ef_rmOt (x : Int32) (m : MethodId) : entryFrame m #[(.int x)] 1 = mkF m 0 #[.val (.int x)] [] := by first | (simp [entryFrame, mkF, argsToLocals, Value.category]; done) | rfl
theorem rmOt (l : Launch) (Z : State) (a0 : Array Value) (hw : HW a0 Z) (x : Int32) (h0 : Heap) (n0 : Nat) (Z0 : n0 ≤ h0.size)  :
    MetFree l (⟨"com/example/tracefold/tracefold/mining/FactoredInverseTimesPinLaw", "otherOf", "(I)D"⟩ : MethodName) (head1 [Jvm.Cond.code (⟨"com/example/tracefold/tracefold/mining/FactoredInverseTimesPinLaw", "otherOf", "(I)D"⟩ : MethodName) method_5_code 1 (some .double)] ({ frames := 0, cells := 0, slots := 0, locals := 0 } : Room)) (fun as_ U => as_ = #[(.int x)] ∧ Z.Warmed39 U.vm ∧ U.heap = h0) (fun _ _ _ _ _ => True) (fun _ U o U' => ∃ v L, o = .returned v ∧ Q_rmOt n0 h0 v U'.heap L ∧ FrameEnd U o U' L ({ frames := 0, cells := 0, slots := 0, locals := 0 } : Room).cells ({ frames := 0, cells := 0, slots := 0, locals := 0 } : Room).slots) := by
  refine own_met own_pf1 (ef_rmOt x) ?_
  intro p e s m below meth c T0 X0 hx hby hml hret hlk hnm hown hZ e0
  have N0 := Fr.nil n0
  refine g_iloadN X0 hx 1 (hb hby d5_0) rfl rfl ?_
  refine g_sipush X0 hx (255 : Int32) 4 (hb hby d5_1) rfl (by decide) ?_
  refine g_iand X0 hx 5 (hb hby d5_4) rfl ?_
  refine g_bipush X0 hx (17 : Int32) 7 (hb hby d5_5) rfl (by decide) ?_
  refine g_irem X0 hx 8 (hb hby d5_7) rfl (by decide) ?_
  refine g_bipush X0 hx (8 : Int32) 10 (hb hby d5_8) rfl (by decide) ?_
  refine g_isub X0 hx 11 (hb hby d5_10) rfl ?_
  refine g_i2d X0 hx 12 (hb hby d5_11) rfl ?_
  exact g_retD X0 hx hlk hret (hb hby d5_12) (by decide) (by decide) e0 ⟨_, _, rfl, Jvm.FP.Core.i2d_int _, (by have := own_rem x 17 8 17 8 (by decide) (by decide) (by decide) (by decide) (by decide); omega), N0, rfl⟩
theorem d4_0 : decode method_4_code 0 = .ok (.iload_n 0, 1) := by decide +kernel
theorem d4_1 : decode method_4_code 1 = .ok (.bipush 8, 2) := by decide +kernel
theorem d4_3 : decode method_4_code 3 = .ok (.iushr, 1) := by decide +kernel
theorem d4_4 : decode method_4_code 4 = .ok (.iconst 3, 1) := by decide +kernel
theorem d4_5 : decode method_4_code 5 = .ok (.iand, 1) := by decide +kernel
theorem d4_6 : decode method_4_code 6 = .ok (.istore_n 1, 1) := by decide +kernel
theorem d4_7 : decode method_4_code 7 = .ok (.iload_n 1, 1) := by decide +kernel
theorem d4_8 : decode method_4_code 8 = .ok (.ifCond .ne 5, 3) := by decide +kernel
theorem d4_11 : decode method_4_code 11 = .ok (.dconst 1, 1) := by decide +kernel
theorem d4_12 : decode method_4_code 12 = .ok (.dreturn, 1) := by decide +kernel
theorem d4_13 : decode method_4_code 13 = .ok (.iload_n 1, 1) := by decide +kernel
theorem d4_14 : decode method_4_code 14 = .ok (.iconst 1, 1) := by decide +kernel
theorem d4_15 : decode method_4_code 15 = .ok (.if_icmp .ne 7, 3) := by decide +kernel
theorem d4_18 : decode method_4_code 18 = .ok (.ldc2_w 60, 3) := by decide +kernel
theorem d4_21 : decode method_4_code 21 = .ok (.dreturn, 1) := by decide +kernel
theorem d4_22 : decode method_4_code 22 = .ok (.iload_n 1, 1) := by decide +kernel
theorem d4_23 : decode method_4_code 23 = .ok (.iconst 2, 1) := by decide +kernel
theorem d4_24 : decode method_4_code 24 = .ok (.if_icmp .ne 7, 3) := by decide +kernel
theorem d4_27 : decode method_4_code 27 = .ok (.ldc2_w 62, 3) := by decide +kernel
theorem d4_30 : decode method_4_code 30 = .ok (.dreturn, 1) := by decide +kernel
theorem d4_31 : decode method_4_code 31 = .ok (.ldc2_w 64, 3) := by decide +kernel
theorem d4_34 : decode method_4_code 34 = .ok (.dreturn, 1) := by decide +kernel
theorem own_pf2 : plainFor (⟨"com/example/tracefold/tracefold/mining/FactoredInverseTimesPinLaw", "pivotOf", "(I)D"⟩ : MethodName) = true := plainFor_of_name (by first | (simp [plainName, overriddenIn]; done) | decide +kernel)
def Q_rmPv (n0 : Nat) (h0 : Heap) (v : Option Value) (h : Heap) (L : List Loc) : Prop := ∃ (d : UInt64) (k : Int), v = some (.double d) ∧ Jvm.FP.Core.DInt k d ∧ (k = 1 ∨ k = -1 ∨ k = 2 ∨ k = -2) ∧ Fr n0 L ∧ h = h0
theorem ef_rmPv (x : Int32) (m : MethodId) : entryFrame m #[(.int x)] 2 = mkF m 0 #[.val (.int x), .unset] [] := by first | (simp [entryFrame, mkF, argsToLocals, Value.category]; done) | rfl
theorem rmPv (l : Launch) (Z : State) (a0 : Array Value) (hw : HW a0 Z) (x : Int32) (h0 : Heap) (n0 : Nat) (Z0 : n0 ≤ h0.size)  :
    MetFree l (⟨"com/example/tracefold/tracefold/mining/FactoredInverseTimesPinLaw", "pivotOf", "(I)D"⟩ : MethodName) (head1 [Jvm.Cond.code (⟨"com/example/tracefold/tracefold/mining/FactoredInverseTimesPinLaw", "pivotOf", "(I)D"⟩ : MethodName) method_4_code 2 (some .double)] ({ frames := 0, cells := 0, slots := 0, locals := 0 } : Room)) (fun as_ U => as_ = #[(.int x)] ∧ Z.Warmed39 U.vm ∧ U.heap = h0) (fun _ _ _ _ _ => True) (fun _ U o U' => ∃ v L, o = .returned v ∧ Q_rmPv n0 h0 v U'.heap L ∧ FrameEnd U o U' L ({ frames := 0, cells := 0, slots := 0, locals := 0 } : Room).cells ({ frames := 0, cells := 0, slots := 0, locals := 0 } : Room).slots) := by
  refine own_met own_pf2 (ef_rmPv x) ?_
  intro p e s m below meth c T0 X0 hx hby hml hret hlk hnm hown hZ e0
  have N0 := Fr.nil n0
  refine g_iloadN X0 hx 1 (hb hby d4_0) rfl rfl ?_
  refine g_bipush X0 hx (8 : Int32) 3 (hb hby d4_1) rfl (by decide) ?_
  refine g_iushr X0 hx 4 (hb hby d4_3) rfl ?_
  refine g_iconst X0 hx (3 : Int32) 5 (hb hby d4_4) rfl (by decide) ?_
  refine g_iand X0 hx 6 (hb hby d4_5) rfl ?_
  refine g_istoreN (l' := #[.val (.int x), .val (.int (((x.toUInt32 >>> ((8 : Int32) &&& 31).toUInt32).toInt32) &&& (3 : Int32)))]) X0 hx 7 (hb hby d4_6) rfl rfl ?_
  refine g_iloadN X0 hx 8 (hb hby d4_7) rfl rfl ?_
  refine g_if_ne X0 hx 13 11 (hb hby d4_8) (by decide) (by decide) rfl (fun c1 => ?_) (fun c1 => ?_)
  · skip
    refine g_iloadN X0 hx 14 (hb hby d4_13) rfl rfl ?_
    refine g_iconst X0 hx (1 : Int32) 15 (hb hby d4_14) rfl (by decide) ?_
    have ll3 : ((1 : Int32) : Int32).toInt = 1 := by decide
    refine g_ic_ne X0 hx 22 18 (hb hby d4_15) (by decide) (by decide) rfl (fun c2 => ?_) (fun c2 => ?_)
    · skip
      refine g_iloadN X0 hx 23 (hb hby d4_22) rfl rfl ?_
      refine g_iconst X0 hx (2 : Int32) 24 (hb hby d4_23) rfl (by decide) ?_
      have ll5 : ((2 : Int32) : Int32).toInt = 2 := by decide
      refine g_ic_ne X0 hx 31 27 (hb hby d4_24) (by decide) (by decide) rfl (fun c4 => ?_) (fun c4 => ?_)
      · skip
        refine g_ldc2D X0 hx 34 hZ hown (tw hw 297 rfl) (hb hby d4_31) rfl ?_
        exact g_retD X0 hx hlk hret (hb hby d4_34) (by decide) (by decide) e0 ⟨_, -2, rfl, own_mtwo, (by decide), N0, rfl⟩
      · skip
        refine g_ldc2D X0 hx 30 hZ hown (tw hw 329 rfl) (hb hby d4_27) rfl ?_
        exact g_retD X0 hx hlk hret (hb hby d4_30) (by decide) (by decide) e0 ⟨_, 2, rfl, own_two, (by decide), N0, rfl⟩
    · skip
      refine g_ldc2D X0 hx 21 hZ hown (tw hw 328 rfl) (hb hby d4_18) rfl ?_
      exact g_retD X0 hx hlk hret (hb hby d4_21) (by decide) (by decide) e0 ⟨_, -1, rfl, own_mone, (by decide), N0, rfl⟩
  · skip
    refine g_dconst1 X0 hx 12 (hb hby d4_11) rfl ?_
    exact g_retD X0 hx hlk hret (hb hby d4_12) (by decide) (by decide) e0 ⟨_, 1, rfl, own_done, (by decide), N0, rfl⟩
theorem midA {p0 p1 p2 p3 p4 b0 b1 b2 b3 dt o1 r1 : Int32} {ar1 ao1 : UInt64} {c10 c11 : Addr} (B : LWB p l e s m args below meth c T0 Z a0 h0 n0 L0 6 12) (KK : ∀ (T1 : State) (L1 : List Loc) (o r : Int32) (ar ao : UInt64) (k j : Int), Stand p l e room_1 s m args below meth c T1 L1 6 12 → T1.heap = h0 → Fr n0 L1 → (o = 0 ∨ o = 1) → (r = 0 ∨ r = 1) → PA k j ar ao → Go p e below Ev T1 (mkF m 172 #[.val (.int p0), .val (.int p1), .val (.int p2), .val (.int p3), .val (.int p4), .val (.int b0), .val (.int b1), .val (.int b2), .val (.int b3), .val (.int dt), .val (.ref c10), .val (.ref c11), .val (.int o), .val (.int r), .val (.double ar), .second, .val (.double ao), .second, .unset, .unset, .unset, .unset, .unset, .unset, .unset, .unset, .unset, .unset, .unset] [])) : Go p e below Ev T0 (mkF m 136 #[.val (.int p0), .val (.int p1), .val (.int p2), .val (.int p3), .val (.int p4), .val (.int b0), .val (.int b1), .val (.int b2), .val (.int b3), .val (.int dt), .val (.ref c10), .val (.ref c11), .unset, .unset, .unset, .unset, .unset, .unset, .unset, .unset, .unset, .unset, .unset, .unset, .unset, .unset, .unset, .unset, .unset] []) := by
  obtain ⟨X0, hx, hby, hml, hret, hlk, hown, hZ, hw, e0, Z0, N0⟩ := B
  refine g_iloadN X0 hx 137 (hb hby at_136) rfl rfl ?_
  refine g_bipush X0 hx (11 : Int32) 139 (hb hby at_137) rfl (by decide) ?_
  refine g_iushr X0 hx 140 (hb hby at_139) rfl ?_
  refine g_iconst X0 hx (1 : Int32) 141 (hb hby at_140) rfl (by decide) ?_
  refine g_iand X0 hx 142 (hb hby at_141) rfl ?_
  refine g_if_eq X0 hx 149 145 (hb hby at_142) (by decide) (by decide) rfl (fun c6 => ?_) (fun c6 => ?_)
  · skip
    refine g_iconst X0 hx (0 : Int32) 150 (hb hby at_149) rfl (by decide) ?_
    refine g_istore (l' := #[.val (.int p0), .val (.int p1), .val (.int p2), .val (.int p3), .val (.int p4), .val (.int b0), .val (.int b1), .val (.int b2), .val (.int b3), .val (.int dt), .val (.ref c10), .val (.ref c11), .val (.int (0 : Int32)), .unset, .unset, .unset, .unset, .unset, .unset, .unset, .unset, .unset, .unset, .unset, .unset, .unset, .unset, .unset, .unset]) X0 hx 152 (hb hby at_150) rfl rfl ?_
    refine g_iloadN X0 hx 153 (hb hby at_152) rfl rfl ?_
    refine g_bipush X0 hx (10 : Int32) 155 (hb hby at_153) rfl (by decide) ?_
    refine g_iushr X0 hx 156 (hb hby at_155) rfl ?_
    refine g_iconst X0 hx (1 : Int32) 157 (hb hby at_156) rfl (by decide) ?_
    refine g_iand X0 hx 158 (hb hby at_157) rfl ?_
    refine g_istore (l' := #[.val (.int p0), .val (.int p1), .val (.int p2), .val (.int p3), .val (.int p4), .val (.int b0), .val (.int b1), .val (.int b2), .val (.int b3), .val (.int dt), .val (.ref c10), .val (.ref c11), .val (.int (0 : Int32)), .val (.int (((p1.toUInt32 >>> ((10 : Int32) &&& 31).toUInt32).toInt32) &&& (1 : Int32))), .unset, .unset, .unset, .unset, .unset, .unset, .unset, .unset, .unset, .unset, .unset, .unset, .unset, .unset, .unset]) X0 hx 160 (hb hby at_158) rfl rfl ?_
    generalize hr : (((p1.toUInt32 >>> ((10 : Int32) &&& 31).toUInt32).toInt32) &&& (1 : Int32)) = r
    have hr' := own_r01 _ r hr
    refine g_iloadN X0 hx 161 (hb hby at_160) rfl rfl ?_
    refine g_static X0 hx hZ hown (tw hw 18 rfl) (tw hw 19 rfl) (tw hw 2 rfl) (tw hw 20 rfl) (by decide) (rmPv l Z a0 hw p1 h0 n0 Z0) e0 (argsL := [(.int p1)]) (rest := []) rfl rfl 0 164 rfl (by rw [hml]; rfl) (lenOf own_pd3 rfl) (Nat.le_refl _) (by decide) (by decide) (by decide) (by decide) (hb hby at_161) ?_
    intro v7 T7 L7 X7 hQ7
    obtain ⟨ar, k, rfl, Dar, Bar, N7, E7⟩ := hQ7
    have N8 := Fr.app N0 N7
    show Go p e below _ T7 (mkF m 164 #[.val (.int p0), .val (.int p1), .val (.int p2), .val (.int p3), .val (.int p4), .val (.int b0), .val (.int b1), .val (.int b2), .val (.int b3), .val (.int dt), .val (.ref c10), .val (.ref c11), .val (.int (0 : Int32)), .val (.int r), .unset, .unset, .unset, .unset, .unset, .unset, .unset, .unset, .unset, .unset, .unset, .unset, .unset, .unset, .unset] [(.double ar)])
    refine g_dstore (l' := #[.val (.int p0), .val (.int p1), .val (.int p2), .val (.int p3), .val (.int p4), .val (.int b0), .val (.int b1), .val (.int b2), .val (.int b3), .val (.int dt), .val (.ref c10), .val (.ref c11), .val (.int (0 : Int32)), .val (.int r), .val (.double ar), .second, .unset, .unset, .unset, .unset, .unset, .unset, .unset, .unset, .unset, .unset, .unset, .unset, .unset]) X7 hx 166 (hb hby at_164) rfl rfl ?_
    refine g_iloadN X7 hx 167 (hb hby at_166) rfl rfl ?_
    refine g_static X7 hx hZ hown (tw hw 21 rfl) (tw hw 22 rfl) (tw hw 2 rfl) (tw hw 23 rfl) (by decide) (rmOt l Z a0 hw p1 h0 n0 Z0) E7 (argsL := [(.int p1)]) (rest := []) rfl rfl 0 170 rfl (by rw [hml]; rfl) (lenOf own_pd3 rfl) (Nat.le_refl _) (by decide) (by decide) (by decide) (by decide) (hb hby at_167) ?_
    intro v9 T9 L9 X9 hQ9
    obtain ⟨ao, j, rfl, Dao, Bao, N9, E9⟩ := hQ9
    have N10 := Fr.app N8 N9
    show Go p e below _ T9 (mkF m 170 #[.val (.int p0), .val (.int p1), .val (.int p2), .val (.int p3), .val (.int p4), .val (.int b0), .val (.int b1), .val (.int b2), .val (.int b3), .val (.int dt), .val (.ref c10), .val (.ref c11), .val (.int (0 : Int32)), .val (.int r), .val (.double ar), .second, .unset, .unset, .unset, .unset, .unset, .unset, .unset, .unset, .unset, .unset, .unset, .unset, .unset] [(.double ao)])
    refine g_dstore (l' := #[.val (.int p0), .val (.int p1), .val (.int p2), .val (.int p3), .val (.int p4), .val (.int b0), .val (.int b1), .val (.int b2), .val (.int b3), .val (.int dt), .val (.ref c10), .val (.ref c11), .val (.int (0 : Int32)), .val (.int r), .val (.double ar), .second, .val (.double ao), .second, .unset, .unset, .unset, .unset, .unset, .unset, .unset, .unset, .unset, .unset, .unset]) X9 hx 172 (hb hby at_170) rfl rfl ?_
    exact KK T9 _ _ r ar ao k j X9 E9 N10 (Or.inl rfl) hr' ⟨Bar, Bao, Dar, Dao⟩
  · skip
    refine g_iconst X0 hx (1 : Int32) 146 (hb hby at_145) rfl (by decide) ?_
    refine g_goto X0 hx 150 (hb hby at_146) (by decide) (by decide) ?_
    refine g_istore (l' := #[.val (.int p0), .val (.int p1), .val (.int p2), .val (.int p3), .val (.int p4), .val (.int b0), .val (.int b1), .val (.int b2), .val (.int b3), .val (.int dt), .val (.ref c10), .val (.ref c11), .val (.int (1 : Int32)), .unset, .unset, .unset, .unset, .unset, .unset, .unset, .unset, .unset, .unset, .unset, .unset, .unset, .unset, .unset, .unset]) X0 hx 152 (hb hby at_150) rfl rfl ?_
    refine g_iloadN X0 hx 153 (hb hby at_152) rfl rfl ?_
    refine g_bipush X0 hx (10 : Int32) 155 (hb hby at_153) rfl (by decide) ?_
    refine g_iushr X0 hx 156 (hb hby at_155) rfl ?_
    refine g_iconst X0 hx (1 : Int32) 157 (hb hby at_156) rfl (by decide) ?_
    refine g_iand X0 hx 158 (hb hby at_157) rfl ?_
    refine g_istore (l' := #[.val (.int p0), .val (.int p1), .val (.int p2), .val (.int p3), .val (.int p4), .val (.int b0), .val (.int b1), .val (.int b2), .val (.int b3), .val (.int dt), .val (.ref c10), .val (.ref c11), .val (.int (1 : Int32)), .val (.int (((p1.toUInt32 >>> ((10 : Int32) &&& 31).toUInt32).toInt32) &&& (1 : Int32))), .unset, .unset, .unset, .unset, .unset, .unset, .unset, .unset, .unset, .unset, .unset, .unset, .unset, .unset, .unset]) X0 hx 160 (hb hby at_158) rfl rfl ?_
    generalize hr : (((p1.toUInt32 >>> ((10 : Int32) &&& 31).toUInt32).toInt32) &&& (1 : Int32)) = r
    have hr' := own_r01 _ r hr
    refine g_iloadN X0 hx 161 (hb hby at_160) rfl rfl ?_
    refine g_static X0 hx hZ hown (tw hw 18 rfl) (tw hw 19 rfl) (tw hw 2 rfl) (tw hw 20 rfl) (by decide) (rmPv l Z a0 hw p1 h0 n0 Z0) e0 (argsL := [(.int p1)]) (rest := []) rfl rfl 0 164 rfl (by rw [hml]; rfl) (lenOf own_pd3 rfl) (Nat.le_refl _) (by decide) (by decide) (by decide) (by decide) (hb hby at_161) ?_
    intro v11 T11 L11 X11 hQ11
    obtain ⟨ar, k, rfl, Dar, Bar, N11, E11⟩ := hQ11
    have N12 := Fr.app N0 N11
    show Go p e below _ T11 (mkF m 164 #[.val (.int p0), .val (.int p1), .val (.int p2), .val (.int p3), .val (.int p4), .val (.int b0), .val (.int b1), .val (.int b2), .val (.int b3), .val (.int dt), .val (.ref c10), .val (.ref c11), .val (.int (1 : Int32)), .val (.int r), .unset, .unset, .unset, .unset, .unset, .unset, .unset, .unset, .unset, .unset, .unset, .unset, .unset, .unset, .unset] [(.double ar)])
    refine g_dstore (l' := #[.val (.int p0), .val (.int p1), .val (.int p2), .val (.int p3), .val (.int p4), .val (.int b0), .val (.int b1), .val (.int b2), .val (.int b3), .val (.int dt), .val (.ref c10), .val (.ref c11), .val (.int (1 : Int32)), .val (.int r), .val (.double ar), .second, .unset, .unset, .unset, .unset, .unset, .unset, .unset, .unset, .unset, .unset, .unset, .unset, .unset]) X11 hx 166 (hb hby at_164) rfl rfl ?_
    refine g_iloadN X11 hx 167 (hb hby at_166) rfl rfl ?_
    refine g_static X11 hx hZ hown (tw hw 21 rfl) (tw hw 22 rfl) (tw hw 2 rfl) (tw hw 23 rfl) (by decide) (rmOt l Z a0 hw p1 h0 n0 Z0) E11 (argsL := [(.int p1)]) (rest := []) rfl rfl 0 170 rfl (by rw [hml]; rfl) (lenOf own_pd3 rfl) (Nat.le_refl _) (by decide) (by decide) (by decide) (by decide) (hb hby at_167) ?_
    intro v13 T13 L13 X13 hQ13
    obtain ⟨ao, j, rfl, Dao, Bao, N13, E13⟩ := hQ13
    have N14 := Fr.app N12 N13
    show Go p e below _ T13 (mkF m 170 #[.val (.int p0), .val (.int p1), .val (.int p2), .val (.int p3), .val (.int p4), .val (.int b0), .val (.int b1), .val (.int b2), .val (.int b3), .val (.int dt), .val (.ref c10), .val (.ref c11), .val (.int (1 : Int32)), .val (.int r), .val (.double ar), .second, .unset, .unset, .unset, .unset, .unset, .unset, .unset, .unset, .unset, .unset, .unset, .unset, .unset] [(.double ao)])
    refine g_dstore (l' := #[.val (.int p0), .val (.int p1), .val (.int p2), .val (.int p3), .val (.int p4), .val (.int b0), .val (.int b1), .val (.int b2), .val (.int b3), .val (.int dt), .val (.ref c10), .val (.ref c11), .val (.int (1 : Int32)), .val (.int r), .val (.double ar), .second, .val (.double ao), .second, .unset, .unset, .unset, .unset, .unset, .unset, .unset, .unset, .unset, .unset, .unset]) X13 hx 172 (hb hby at_170) rfl rfl ?_
    exact KK T13 _ _ r ar ao k j X13 E13 N14 (Or.inr rfl) hr' ⟨Bar, Bao, Dar, Dao⟩
theorem midB {p0 p1 p2 p3 p4 b0 b1 b2 b3 dt o1 r1 : Int32} {ar1 ao1 : UInt64} {c10 c11 : Addr} (B : LWB p l e s m args below meth c T0 Z a0 h0 n0 L0 6 12) (KK : ∀ (T1 : State) (L1 : List Loc) (o r : Int32) (ar ao : UInt64) (k j : Int), Stand p l e room_1 s m args below meth c T1 L1 6 12 → T1.heap = h0 → Fr n0 L1 → (o = 0 ∨ o = 1) → (r = 0 ∨ r = 1) → PA k j ar ao → Go p e below Ev T1 (mkF m 208 #[.val (.int p0), .val (.int p1), .val (.int p2), .val (.int p3), .val (.int p4), .val (.int b0), .val (.int b1), .val (.int b2), .val (.int b3), .val (.int dt), .val (.ref c10), .val (.ref c11), .val (.int o1), .val (.int r1), .val (.double ar1), .second, .val (.double ao1), .second, .val (.int o), .val (.int r), .val (.double ar), .second, .val (.double ao), .second, .unset, .unset, .unset, .unset, .unset] [])) : Go p e below Ev T0 (mkF m 172 #[.val (.int p0), .val (.int p1), .val (.int p2), .val (.int p3), .val (.int p4), .val (.int b0), .val (.int b1), .val (.int b2), .val (.int b3), .val (.int dt), .val (.ref c10), .val (.ref c11), .val (.int o1), .val (.int r1), .val (.double ar1), .second, .val (.double ao1), .second, .unset, .unset, .unset, .unset, .unset, .unset, .unset, .unset, .unset, .unset, .unset] []) := by
  obtain ⟨X0, hx, hby, hml, hret, hlk, hown, hZ, hw, e0, Z0, N0⟩ := B
  refine g_iloadN X0 hx 173 (hb hby at_172) rfl rfl ?_
  refine g_bipush X0 hx (11 : Int32) 175 (hb hby at_173) rfl (by decide) ?_
  refine g_iushr X0 hx 176 (hb hby at_175) rfl ?_
  refine g_iconst X0 hx (1 : Int32) 177 (hb hby at_176) rfl (by decide) ?_
  refine g_iand X0 hx 178 (hb hby at_177) rfl ?_
  refine g_if_eq X0 hx 185 181 (hb hby at_178) (by decide) (by decide) rfl (fun c15 => ?_) (fun c15 => ?_)
  · skip
    refine g_iconst X0 hx (0 : Int32) 186 (hb hby at_185) rfl (by decide) ?_
    refine g_istore (l' := #[.val (.int p0), .val (.int p1), .val (.int p2), .val (.int p3), .val (.int p4), .val (.int b0), .val (.int b1), .val (.int b2), .val (.int b3), .val (.int dt), .val (.ref c10), .val (.ref c11), .val (.int o1), .val (.int r1), .val (.double ar1), .second, .val (.double ao1), .second, .val (.int (0 : Int32)), .unset, .unset, .unset, .unset, .unset, .unset, .unset, .unset, .unset, .unset]) X0 hx 188 (hb hby at_186) rfl rfl ?_
    refine g_iloadN X0 hx 189 (hb hby at_188) rfl rfl ?_
    refine g_bipush X0 hx (10 : Int32) 191 (hb hby at_189) rfl (by decide) ?_
    refine g_iushr X0 hx 192 (hb hby at_191) rfl ?_
    refine g_iconst X0 hx (1 : Int32) 193 (hb hby at_192) rfl (by decide) ?_
    refine g_iand X0 hx 194 (hb hby at_193) rfl ?_
    refine g_istore (l' := #[.val (.int p0), .val (.int p1), .val (.int p2), .val (.int p3), .val (.int p4), .val (.int b0), .val (.int b1), .val (.int b2), .val (.int b3), .val (.int dt), .val (.ref c10), .val (.ref c11), .val (.int o1), .val (.int r1), .val (.double ar1), .second, .val (.double ao1), .second, .val (.int (0 : Int32)), .val (.int (((p2.toUInt32 >>> ((10 : Int32) &&& 31).toUInt32).toInt32) &&& (1 : Int32))), .unset, .unset, .unset, .unset, .unset, .unset, .unset, .unset, .unset]) X0 hx 196 (hb hby at_194) rfl rfl ?_
    generalize hr : (((p2.toUInt32 >>> ((10 : Int32) &&& 31).toUInt32).toInt32) &&& (1 : Int32)) = r
    have hr' := own_r01 _ r hr
    refine g_iloadN X0 hx 197 (hb hby at_196) rfl rfl ?_
    refine g_static X0 hx hZ hown (tw hw 18 rfl) (tw hw 19 rfl) (tw hw 2 rfl) (tw hw 20 rfl) (by decide) (rmPv l Z a0 hw p2 h0 n0 Z0) e0 (argsL := [(.int p2)]) (rest := []) rfl rfl 0 200 rfl (by rw [hml]; rfl) (lenOf own_pd3 rfl) (Nat.le_refl _) (by decide) (by decide) (by decide) (by decide) (hb hby at_197) ?_
    intro v16 T16 L16 X16 hQ16
    obtain ⟨ar, k, rfl, Dar, Bar, N16, E16⟩ := hQ16
    have N17 := Fr.app N0 N16
    show Go p e below _ T16 (mkF m 200 #[.val (.int p0), .val (.int p1), .val (.int p2), .val (.int p3), .val (.int p4), .val (.int b0), .val (.int b1), .val (.int b2), .val (.int b3), .val (.int dt), .val (.ref c10), .val (.ref c11), .val (.int o1), .val (.int r1), .val (.double ar1), .second, .val (.double ao1), .second, .val (.int (0 : Int32)), .val (.int r), .unset, .unset, .unset, .unset, .unset, .unset, .unset, .unset, .unset] [(.double ar)])
    refine g_dstore (l' := #[.val (.int p0), .val (.int p1), .val (.int p2), .val (.int p3), .val (.int p4), .val (.int b0), .val (.int b1), .val (.int b2), .val (.int b3), .val (.int dt), .val (.ref c10), .val (.ref c11), .val (.int o1), .val (.int r1), .val (.double ar1), .second, .val (.double ao1), .second, .val (.int (0 : Int32)), .val (.int r), .val (.double ar), .second, .unset, .unset, .unset, .unset, .unset, .unset, .unset]) X16 hx 202 (hb hby at_200) rfl rfl ?_
    refine g_iloadN X16 hx 203 (hb hby at_202) rfl rfl ?_
    refine g_static X16 hx hZ hown (tw hw 21 rfl) (tw hw 22 rfl) (tw hw 2 rfl) (tw hw 23 rfl) (by decide) (rmOt l Z a0 hw p2 h0 n0 Z0) E16 (argsL := [(.int p2)]) (rest := []) rfl rfl 0 206 rfl (by rw [hml]; rfl) (lenOf own_pd3 rfl) (Nat.le_refl _) (by decide) (by decide) (by decide) (by decide) (hb hby at_203) ?_
    intro v18 T18 L18 X18 hQ18
    obtain ⟨ao, j, rfl, Dao, Bao, N18, E18⟩ := hQ18
    have N19 := Fr.app N17 N18
    show Go p e below _ T18 (mkF m 206 #[.val (.int p0), .val (.int p1), .val (.int p2), .val (.int p3), .val (.int p4), .val (.int b0), .val (.int b1), .val (.int b2), .val (.int b3), .val (.int dt), .val (.ref c10), .val (.ref c11), .val (.int o1), .val (.int r1), .val (.double ar1), .second, .val (.double ao1), .second, .val (.int (0 : Int32)), .val (.int r), .val (.double ar), .second, .unset, .unset, .unset, .unset, .unset, .unset, .unset] [(.double ao)])
    refine g_dstore (l' := #[.val (.int p0), .val (.int p1), .val (.int p2), .val (.int p3), .val (.int p4), .val (.int b0), .val (.int b1), .val (.int b2), .val (.int b3), .val (.int dt), .val (.ref c10), .val (.ref c11), .val (.int o1), .val (.int r1), .val (.double ar1), .second, .val (.double ao1), .second, .val (.int (0 : Int32)), .val (.int r), .val (.double ar), .second, .val (.double ao), .second, .unset, .unset, .unset, .unset, .unset]) X18 hx 208 (hb hby at_206) rfl rfl ?_
    exact KK T18 _ _ r ar ao k j X18 E18 N19 (Or.inl rfl) hr' ⟨Bar, Bao, Dar, Dao⟩
  · skip
    refine g_iconst X0 hx (1 : Int32) 182 (hb hby at_181) rfl (by decide) ?_
    refine g_goto X0 hx 186 (hb hby at_182) (by decide) (by decide) ?_
    refine g_istore (l' := #[.val (.int p0), .val (.int p1), .val (.int p2), .val (.int p3), .val (.int p4), .val (.int b0), .val (.int b1), .val (.int b2), .val (.int b3), .val (.int dt), .val (.ref c10), .val (.ref c11), .val (.int o1), .val (.int r1), .val (.double ar1), .second, .val (.double ao1), .second, .val (.int (1 : Int32)), .unset, .unset, .unset, .unset, .unset, .unset, .unset, .unset, .unset, .unset]) X0 hx 188 (hb hby at_186) rfl rfl ?_
    refine g_iloadN X0 hx 189 (hb hby at_188) rfl rfl ?_
    refine g_bipush X0 hx (10 : Int32) 191 (hb hby at_189) rfl (by decide) ?_
    refine g_iushr X0 hx 192 (hb hby at_191) rfl ?_
    refine g_iconst X0 hx (1 : Int32) 193 (hb hby at_192) rfl (by decide) ?_
    refine g_iand X0 hx 194 (hb hby at_193) rfl ?_
    refine g_istore (l' := #[.val (.int p0), .val (.int p1), .val (.int p2), .val (.int p3), .val (.int p4), .val (.int b0), .val (.int b1), .val (.int b2), .val (.int b3), .val (.int dt), .val (.ref c10), .val (.ref c11), .val (.int o1), .val (.int r1), .val (.double ar1), .second, .val (.double ao1), .second, .val (.int (1 : Int32)), .val (.int (((p2.toUInt32 >>> ((10 : Int32) &&& 31).toUInt32).toInt32) &&& (1 : Int32))), .unset, .unset, .unset, .unset, .unset, .unset, .unset, .unset, .unset]) X0 hx 196 (hb hby at_194) rfl rfl ?_
    generalize hr : (((p2.toUInt32 >>> ((10 : Int32) &&& 31).toUInt32).toInt32) &&& (1 : Int32)) = r
    have hr' := own_r01 _ r hr
    refine g_iloadN X0 hx 197 (hb hby at_196) rfl rfl ?_
    refine g_static X0 hx hZ hown (tw hw 18 rfl) (tw hw 19 rfl) (tw hw 2 rfl) (tw hw 20 rfl) (by decide) (rmPv l Z a0 hw p2 h0 n0 Z0) e0 (argsL := [(.int p2)]) (rest := []) rfl rfl 0 200 rfl (by rw [hml]; rfl) (lenOf own_pd3 rfl) (Nat.le_refl _) (by decide) (by decide) (by decide) (by decide) (hb hby at_197) ?_
    intro v20 T20 L20 X20 hQ20
    obtain ⟨ar, k, rfl, Dar, Bar, N20, E20⟩ := hQ20
    have N21 := Fr.app N0 N20
    show Go p e below _ T20 (mkF m 200 #[.val (.int p0), .val (.int p1), .val (.int p2), .val (.int p3), .val (.int p4), .val (.int b0), .val (.int b1), .val (.int b2), .val (.int b3), .val (.int dt), .val (.ref c10), .val (.ref c11), .val (.int o1), .val (.int r1), .val (.double ar1), .second, .val (.double ao1), .second, .val (.int (1 : Int32)), .val (.int r), .unset, .unset, .unset, .unset, .unset, .unset, .unset, .unset, .unset] [(.double ar)])
    refine g_dstore (l' := #[.val (.int p0), .val (.int p1), .val (.int p2), .val (.int p3), .val (.int p4), .val (.int b0), .val (.int b1), .val (.int b2), .val (.int b3), .val (.int dt), .val (.ref c10), .val (.ref c11), .val (.int o1), .val (.int r1), .val (.double ar1), .second, .val (.double ao1), .second, .val (.int (1 : Int32)), .val (.int r), .val (.double ar), .second, .unset, .unset, .unset, .unset, .unset, .unset, .unset]) X20 hx 202 (hb hby at_200) rfl rfl ?_
    refine g_iloadN X20 hx 203 (hb hby at_202) rfl rfl ?_
    refine g_static X20 hx hZ hown (tw hw 21 rfl) (tw hw 22 rfl) (tw hw 2 rfl) (tw hw 23 rfl) (by decide) (rmOt l Z a0 hw p2 h0 n0 Z0) E20 (argsL := [(.int p2)]) (rest := []) rfl rfl 0 206 rfl (by rw [hml]; rfl) (lenOf own_pd3 rfl) (Nat.le_refl _) (by decide) (by decide) (by decide) (by decide) (hb hby at_203) ?_
    intro v22 T22 L22 X22 hQ22
    obtain ⟨ao, j, rfl, Dao, Bao, N22, E22⟩ := hQ22
    have N23 := Fr.app N21 N22
    show Go p e below _ T22 (mkF m 206 #[.val (.int p0), .val (.int p1), .val (.int p2), .val (.int p3), .val (.int p4), .val (.int b0), .val (.int b1), .val (.int b2), .val (.int b3), .val (.int dt), .val (.ref c10), .val (.ref c11), .val (.int o1), .val (.int r1), .val (.double ar1), .second, .val (.double ao1), .second, .val (.int (1 : Int32)), .val (.int r), .val (.double ar), .second, .unset, .unset, .unset, .unset, .unset, .unset, .unset] [(.double ao)])
    refine g_dstore (l' := #[.val (.int p0), .val (.int p1), .val (.int p2), .val (.int p3), .val (.int p4), .val (.int b0), .val (.int b1), .val (.int b2), .val (.int b3), .val (.int dt), .val (.ref c10), .val (.ref c11), .val (.int o1), .val (.int r1), .val (.double ar1), .second, .val (.double ao1), .second, .val (.int (1 : Int32)), .val (.int r), .val (.double ar), .second, .val (.double ao), .second, .unset, .unset, .unset, .unset, .unset]) X22 hx 208 (hb hby at_206) rfl rfl ?_
    exact KK T22 _ _ r ar ao k j X22 E22 N23 (Or.inr rfl) hr' ⟨Bar, Bao, Dar, Dao⟩
theorem mid136 {c10 c11 : Addr} (B : LWB p l e s m args below meth c T0 Z a0 h0 n0 L0 6 12) (KK : ∀ (T1 : State) (L1 : List Loc) (w3 w4 w5 w6 ar1 ao1 ar2 ao2 : UInt64) (k1 j1 k2 j2 : Int), LWB p l e s m args below meth c T1 Z a0 h0 n0 L1 6 12 → (iW w3 = 0 ∨ iW w3 = 1) → (iW w4 = 0 ∨ iW w4 = 1) → (iW w5 = 0 ∨ iW w5 = 1) → (iW w6 = 0 ∨ iW w6 = 1) → PA k1 j1 ar1 ao1 → PA k2 j2 ar2 ao2 → Go p e below Ev T1 (mkF m 208 (fr208 D c10 c11 w3 w4 ar1 ao1 w5 w6 ar2 ao2) [])) : Go p e below Ev T0 (mkF m 136 (fr136 D c10 c11) []) := by
  have B0 := B
  obtain ⟨-, hx, hby, hml, hret, hlk, hown, hZ, hw, e0, Z0, -⟩ := B0
  refine goE (midA (o1 := 0) (r1 := 0) (ar1 := 0) (ao1 := 0) (p0 := iW (D 6)) (p1 := iW (D 7)) (p2 := iW (D 8)) (p3 := iW (D 9)) (p4 := iW (D 10)) (b0 := iW (D 1)) (b1 := iW (D 2)) (b2 := iW (D 3)) (b3 := iW (D 4)) (dt := iW (D 5)) (c10 := c10) (c11 := c11) B ?_) rfl
  intro T1 L1 o1 r1 ar1 ao1 k1 j1 X1 e1 N1 ho1 hr1 H1
  refine goE (midB (o1 := o1) (r1 := r1) (ar1 := ar1) (ao1 := ao1) (p0 := iW (D 6)) (p1 := iW (D 7)) (p2 := iW (D 8)) (p3 := iW (D 9)) (p4 := iW (D 10)) (b0 := iW (D 1)) (b1 := iW (D 2)) (b2 := iW (D 3)) (b3 := iW (D 4)) (dt := iW (D 5)) (c10 := c10) (c11 := c11) ⟨X1, hx, hby, hml, hret, hlk, hown, hZ, hw, e1, Z0, N1⟩ ?_) rfl
  intro T2 L2 o2 r2 ar2 ao2 k2 j2 X2 e2 N2 ho2 hr2 H2
  obtain ⟨w3, rfl⟩ : ∃ w, iW w = o1 := ⟨_, own_iw o1⟩
  obtain ⟨w4, rfl⟩ : ∃ w, iW w = r1 := ⟨_, own_iw r1⟩
  obtain ⟨w5, rfl⟩ : ∃ w, iW w = o2 := ⟨_, own_iw o2⟩
  obtain ⟨w6, rfl⟩ : ∃ w, iW w = r2 := ⟨_, own_iw r2⟩
  exact KK T2 L2 w3 w4 w5 w6 ar1 ao1 ar2 ao2 k1 j1 k2 j2 ⟨X2, hx, hby, hml, hret, hlk, hown, hZ, hw, e2, Z0, N2⟩ ho1 hr1 ho2 hr2 H1 H2
def l84 : Array Slot := #[sF 6, sF 7, sF 8, sF 9, sF 10, sF 1, sF 2, sF 3, sF 4, sF 5, sU, sU, sU, sU, sU, sU, sU, sU, sU, sU, sU, sU, sU, sU, sU, sU, sU, sU, sU]
def l136 : Array Slot := #[sF 6, sF 7, sF 8, sF 9, sF 10, sF 1, sF 2, sF 3, sF 4, sF 5, sR 0, sR 3, sU, sU, sU, sU, sU, sU, sU, sU, sU, sU, sU, sU, sU, sU, sU, sU, sU]
theorem eB1_00ul : runIs (run code own_MN_4 29 (8, 192, 1792, 208) 136 32 [(cn_0, [], [0, 1, 2], []), (cn_0, [], [0, 3, 4], []), (cn_1, [], [0, 1, 2], []), (cn_1, [], [0, 3, 4], [])] [] (84, l84, [], [], 11, 0, 0)) (136, l136, [], [(67, 2, [vR 1, vR 2]), (64, 2, [vI 0, vI 1]), (64, 2, [vI 0, vI 1]), (68, 2, [vR 4, vR 5]), (65, 2, [vD 11, vD 12]), (65, 2, [vD 13, vD 14])], 15, 6, 12) [(13, 1, 0, 1), (13, 2, 0, 1), (13, 3, 0, 1), (13, 4, 0, 1), (13, 1, 0, 1), (13, 2, 0, 1), (7, 1, 0, 0), (7, 2, 0, 0), (13, 3, 0, 1), (13, 4, 0, 1), (7, 3, 0, 0), (7, 4, 0, 0)] = true := by decide +kernel
def dsB_00ul : List AD := [(67, 2, [vR 1, vR 2]), (64, 2, [vI 0, vI 1]), (64, 2, [vI 0, vI 1]), (68, 2, [vR 4, vR 5]), (65, 2, [vD 11, vD 12]), (65, 2, [vD 13, vD 14]), (65, 2, [vD 23, vD 24]), (0, 0, [vR 77, vR 78, vR 79, vR 80, vR 81, vR 82, vR 83, vR 84, vR 16, vR 17, vR 18, vR 19, vR 20, vI 2, vR 21, vR 22, vR 23, vR 24, vR 25, vR 26, vR 27, vR 28, vR 29, vR 30, vR 34, vR 38, vR 42, vR 46, vI 0]), (64, 0, []), (65, 0, []), (64, 0, []), (65, 0, []), (64, 0, []), (65, 0, []), (64, 0, []), (65, 0, []), (64, 16, rp 16 (vI 0)), (65, 16, rp 16 (vD 0)), (64, 17, rp 17 (vI 0)), (64, 256, [vI 0, vI 0, vI 0, vI 0]), (65, 256, [vD 0, vD 0, vD 0, vD 0]), (64, 2, [vI 0, vI 1]), (64, 2, [vI 0, vI 1]), (65, 2, [vD 11, vD 33]), (64, 3, [vI 0, vI 1, vI 1]), (64, 3, [vI 0, vI 1, vI 1]), (64, 3, [vI 0, vI 0, vI 1]), (64, 3, [vI 0, vI 0, vI 1]), (64, 2, [vI 0, vI 1]), (64, 2, [vI 0, vI 1]), (1, 0, [vR 31, vR 32, vR 33, vI 0]), (65, 2, [vD 0, vD 0]), (66, 2, [vI 0, vI 0]), (64, 16, rp 16 (vI 0)), (1, 0, [vR 35, vR 36, vR 37, vI 0]), (65, 2, [vD 0, vD 0]), (66, 2, [vI 0, vI 0]), (64, 16, rp 16 (vI 0)), (1, 0, [vR 39, vR 40, vR 41, vI 0]), (65, 2, [vD 0, vD 0]), (66, 2, [vI 0, vI 0]), (64, 16, rp 16 (vI 0)), (1, 0, [vR 43, vR 44, vR 45, vI 0]), (65, 2, [vD 0, vD 0]), (66, 2, [vI 0, vI 0]), (64, 16, rp 16 (vI 0)), (2, 0, [vI (-1), vI 2, vR 47, vR 48]), (64, 2, [vI 0, vI 0]), (66, 2, [vI 0, vI 0]), (1, 0, [vR 50, vR 51, vR 52, vI 0]), (65, 2, [vD 0, vD 0]), (66, 2, [vI 0, vI 0]), (64, 16, rp 16 (vI 0)), (3, 0, [vR 7, vR 54, vR 55, vR 56, vR 57, vR 62, vR 66, vR 71, vR 76, vI 1, vI 1]), (67, 2, [vR 58, vR 60]), (68, 2, [vR 59, vR 61]), (64, 2, [vI 1, vI 0]), (64, 2, [vI 0, vI 0]), (64, 2, [vI 1, vI 1]), (65, 2, [vD 12, vD 12]), (64, 2, [vI 1, vI 1]), (65, 2, [vD 33, vD 14]), (67, 2, [vR 63, vR 64]), (64, 2, [vI 0, vI 1]), (64, 2, [vI 1, vI 1]), (64, 2, [vI 2, vI 2]), (4, 0, [vR 67, vR 68, vR 69, vR 70]), (64, 3, [vI (-1), vI (-1), vI (-1)]), (64, 2, [vI 1, vI (-1)]), (64, 2, [vI (-1), vI (-1)]), (64, 2, [vI (-1), vI (-1)]), (4, 0, [vR 72, vR 73, vR 74, vR 75]), (64, 3, [vI (-1), vI (-1), vI (-1)]), (64, 2, [vI 1, vI (-1)]), (64, 2, [vI (-1), vI (-1)]), (64, 2, [vI (-1), vI (-1)]), (64, 2, [vI (-1), vI (-1)]), (64, 2, [vI 1, vI 0]), (65, 2, [vD 12, vD 0]), (64, 2, [vI 1, vI 0]), (65, 2, [vD 31, vD 0]), (64, 2, [vI 0, vI 0]), (65, 2, [vD 12, vD 0]), (64, 2, [vI 0, vI 0]), (65, 2, [vD 31, vD 0]), (64, 2, [vI 0, vI 1]), (64, 2, [vI 0, vI 1])]
def opsB_00ul : List Op := [(7, 9, 0, 0), (7, 10, 0, 0), (4, 11, 0, 0), (11, 25, 4472406533629990549, 1), (4, 11, 0, 0), (5, 0, 26, 0), (4, 12, 0, 0), (5, 27, 28, 0), (2, 4591870180066957722, 29, 0), (10, 25, 30, 1), (3, 13, 11, 0), (2, 31, 12, 0), (1, 14, 32, 0), (4, 33, 0, 0), (4, 14, 0, 0), (4, 32, 0, 0), (5, 35, 36, 0), (2, 4397347889687374747, 37, 0), (11, 34, 38, 1), (4, 33, 0, 0), (11, 39, 4472406533629990549, 1), (4, 33, 0, 0), (5, 0, 40, 0), (2, 4591870180066957722, 41, 0), (10, 39, 42, 1)]
theorem eB2_00ul : runIs (run code own_MN_4 29 (8, 192, 1792, 208) 258 30 [(cn_4, [7], [0], rp 13 (.null) ++ [vI 0] ++ rp 14 (.null) ++ [vI 0]), (cn_2, [49], [0], [.null, .null, .null, vI 0]), (cn_49, [0, 1, 2, 3, 4, 5, 7, 8, 9, 10, 11, 12, 13, 14, 15, 21, 22, 23, 24, 25, 26, 27, 28, 29], [0, 11, 12, 13, 14], [vR 16, vR 17, vR 18, vR 19, vR 20, vR 30, vR 34, vR 38, vR 42, vR 46] ++ rp 5 (vI 0) ++ [vD 0, vD 0, vI 0, vI 0, vI 0, vI 0])] [] (208, #[sF 6, sF 7, sF 8, sF 9, sF 10, sF 1, sF 2, sF 3, sF 4, sF 5, sR 0, sR 3, sF 15, sF 16, sD 17, s2, sD 18, s2, sF 19, sF 20, sD 21, s2, sD 22, s2, sU, sU, sU, sU, sU], [], [(67, 2, [vR 1, vR 2]), (64, 2, [vI 0, vI 1]), (64, 2, [vI 0, vI 1]), (68, 2, [vR 4, vR 5]), (65, 2, [vD 11, vD 12]), (65, 2, [vD 13, vD 14])], 23, 6, 12)) (258, #[sF 6, sF 7, sF 8, sF 9, sF 10, sF 1, sF 2, sF 3, sF 4, sF 5, sR 0, sR 3, sF 15, sF 16, sD 17, s2, sD 18, s2, sF 19, sF 20, sD 21, s2, sD 22, s2, sR 6, sR 7, sR 49, sU, sU], [], dsB_00ul, 43, 87, 839) opsB_00ul = true := by decide +kernel
def vcD_00ul (b0 b1 b2 b3 : Int32) : Nat → UInt64 := own_D [0, 0, 0, 0, 0, 0, 0, 0, 0, 0, 0, FP.i2d b0, FP.i2d b1, FP.i2d b2, FP.i2d b3, 0, 0, 0, 0, 0, 0, 0, 0]
def bD_00ul (D : Nat → UInt64) (w3 w4 ar1 ao1 w5 w6 ar2 ao2 : UInt64) : Nat → UInt64 := own_D [0, D 1, D 2, D 3, D 4, D 5, D 6, D 7, D 8, D 9, D 10, FP.i2d (iW (D 1)), FP.i2d (iW (D 2)), FP.i2d (iW (D 3)), FP.i2d (iW (D 4)), w3, w4, ar1, ao1, w5, w6, ar2, ao2]
theorem vcA_00ul : own_all4 (fun b0 b1 b2 b3 => !(own_pt true b0 && (own_pt true b1 && (own_pt true b2 && (own_pt true b3 && own_dt (b0 * b3 - b1 * b2))))) || okvB opsB_00ul 23 (vcD_00ul b0 b1 b2 b3)) = true := by decide +kernel
theorem vcR_00ul : relB opsB_00ul 23 (fun i => decide (i = 0) || (decide (11 ≤ i) && decide (i < 15)) || decide (23 ≤ i)) = true := by decide +kernel
theorem rm84_00ul (B : LWB p l e s m args below meth c T0 Z a0 h0 n0 L0 0 0) (D0 : D 0 = 0) (H : HB4 D) (z0 : (iW (D 1)).toInt ≠ 0) (z1 : (iW (D 2)).toInt ≠ 0) (z2 : (iW (D 3)).toInt ≠ 0) (z3 : (iW (D 4)).toInt ≠ 0) : Go p e below (EndQ s (Q_rm0 n0) 192 1792) T0 (mkF m 84 (fr84 D) []) := by
  obtain ⟨q0, q1, q2, q3⟩ := H.1
  have vB := own_vb (f := fun b0 b1 b2 b3 => okvB opsB_00ul 23 (vcD_00ul b0 b1 b2 b3)) vcA_00ul H (own_pn z0) (own_pn z1) (own_pn z2) (own_pn z3)
  refine goE (segL (A := fun _ => 0) (K := fun _ => 0) (D := D) (W := fun _ => .null) eB1_00ul (scS ct_0 (scS ct_0 (scS ct_1 (scS ct_1 sc0)))) B YgF.nil D0 (by decide) ⟨z0, z1, z2, z3, z0, z1, trivial, trivial, z2, z3, trivial, trivial, trivial⟩ ?_) rfl
  intro T1 h1 L1 A1 K1 B1 hA1 Kp1 f1 Y1
  refine goE (mid136 (D := D) (c10 := A1 0) (c11 := A1 3) (B1.more (by decide) (by decide)) ?_) rfl
  intro T2 L2 w3 w4 w5 w6 ar1 ao1 ar2 ao2 k1 j1 k2 j2 B2 ho1 hr1 ho2 hr2 H1 H2
  refine goE (segL (A := A1) (K := K1) (D := bD_00ul D w3 w4 ar1 ao1 w5 w6 ar2 ao2) (W := fun _ => .null) eB2_00ul (scS ct_4 (scS ct_2 (scS ct_49 sc0))) B2 (YgF.congr Y1 rfl) rfl (by decide) (okv_rel _ _ _ (vcD_00ul (iW (D 1)) (iW (D 2)) (iW (D 3)) (iW (D 4))) _ vcR_00ul (fun i hi hr => by unfold bD_00ul vcD_00ul; apply own_bag 15 23 (i := i) (hi := hi) (hr := hr) <;> rfl) (okvB_ok _ _ _ vB)) ?_) rfl
  intro T3 h3 L3 A3 K3 B3 hA3 Kp3 f3 Y3
  obtain ⟨L_, D_, sL, sD, dl, dd, e10, e11⟩ := own_full (Jvm.FP.Core.i2d_int (iW (D 1))) (Jvm.FP.Core.i2d_int (iW (D 2))) (Jvm.FP.Core.i2d_int (iW (D 3))) (Jvm.FP.Core.i2d_int (iW (D 4))) q0 q1 q2 q3 z0 (by rw [← own_hdi H]; exact H.2.2)
  have r3 := rng32 (iW (D 9))
  have r4 := rng32 (iW (D 10))
  have HT := tm_00ul (l := l) (n0 := n0) B3.2.2.2.2.2.2.2.2.1 (la := (own_AJ [21, 22, 23, 25, 79, 80, 26, 81, 82] A3)) (kl := (own_KJ [21, 22, 23, 25, 79, 80, 26, 81, 82] K3)) (g := (own_gJ [77, 78, 79, 80, 81, 82, 83, 84, 0, 21, 22, 23, 24, 25, 26, 27, 28, 29, 30, 34, 38, 42, 46, 1, 2, 4, 5] A3)) (M00 := (iW (D 1)).toInt) (M01 := (iW (D 2)).toInt) (M10 := (iW (D 3)).toInt) (M11 := (iW (D 4)).toInt) (a := (iW (D 1)).toInt) (u := (iW (D 2)).toInt) (L := L_) (Dd := D_) ⟨by omega, by omega, sL, sD, own_fix0.mpr (Jvm.FP.Core.i2d_int (iW (D 1))), own_fix0.mpr (Jvm.FP.Core.i2d_int (iW (D 2))), dl, dd, rfl, rfl, e10, e11⟩
  exact goE (rm258 (A := own_AJ [6, 7, 16, 17, 18, 19, 20, 49, 50, 51, 52, 0, 3] A3) (K := own_KJ [6, 7, 16, 17, 18, 19, 20, 49, 50, 51, 52, 0, 3] K3) (D := own_D [0, FP.i2d (iW (D 9)), FP.i2d (iW (D 10)), ar1, ao1, ar2, ao2, D 1, D 2, D 3, D 4, D 5, D 6, D 7, D 8, D 9, D 10]) (W := tmL (own_gJ [77, 78, 79, 80, 81, 82, 83, 84, 0, 21, 22, 23, 24, 25, 26, 27, 28, 29, 30, 34, 38, 42, 46, 1, 2, 4, 5] A3) (own_AJ [21, 22, 23, 25, 79, 80, 26, 81, 82] A3)) (B3.more (by decide) (by decide)) rfl ho1 hr1 ho2 hr2 ⟨q0, q1, q2, q3⟩ ⟨Jvm.FP.Core.i2d_int _, Jvm.FP.Core.i2d_int _, by omega, by omega⟩ H1 H2 HT (Yf.pick Y3.fl [6, 7, 16, 17, 18, 19, 20, 49, 50, 51, 52, 0, 3, 21, 22, 23, 25, 79, 80, 26, 81, 82] (by decide) rfl)) rfl
theorem eB1_10u : runIs (run code own_MN_4 29 (8, 192, 1792, 208) 136 32 [(cn_50, [], [0, 1, 2], []), (cn_0, [], [0, 3, 4], []), (cn_51, [], [0, 1, 2], []), (cn_1, [], [0, 3, 4], [])] [] (84, l84, [], [], 11, 0, 0)) (136, l136, [], [(67, 2, [vR 1, vR 2]), (64, 1, [vI 1]), (64, 2, [vI 0, vI 1]), (68, 2, [vR 4, vR 5]), (65, 1, [vD 11]), (65, 2, [vD 12, vD 13])], 14, 6, 10) [(13, 1, 0, 0), (13, 1, 0, 0), (13, 2, 0, 1), (13, 3, 0, 1), (13, 4, 0, 1), (13, 1, 0, 0), (13, 1, 0, 0), (13, 2, 0, 1), (7, 2, 0, 0), (13, 3, 0, 1), (13, 4, 0, 1), (7, 3, 0, 0), (7, 4, 0, 0)] = true := by decide +kernel
def dsB_10u : List AD := [(67, 2, [vR 1, vR 2]), (64, 1, [vI 1]), (64, 2, [vI 0, vI 1]), (68, 2, [vR 4, vR 5]), (65, 1, [vD 11]), (65, 2, [vD 12, vD 13]), (65, 2, [vD 22, vD 23]), (0, 0, [vR 77, vR 78, vR 10, vR 11, vR 79, vR 80, vR 14, vR 15, vR 16, vR 17, vR 18, vR 19, vR 20, vI 2, vR 21, vR 22, vR 23, vR 24, vR 25, vR 26, vR 27, vR 28, vR 29, vR 30, vR 34, vR 38, vR 42, vR 46, vI 0]), (64, 0, []), (65, 0, []), (64, 0, []), (65, 0, []), (64, 0, []), (65, 0, []), (64, 0, []), (65, 0, []), (64, 16, rp 16 (vI 0)), (65, 16, rp 16 (vD 0)), (64, 17, rp 17 (vI 0)), (64, 256, [vI 0, vI 0, vI 0, vI 0]), (65, 256, [vD 0, vD 0, vD 0, vD 0]), (64, 2, [vI 1, vI 0]), (64, 2, [vI 0, vI 1]), (65, 2, [vD 12, vD 11]), (64, 3, [vI 0, vI 1, vI 1]), (64, 3, [vI 0, vI 0, vI 0]), (64, 3, [vI 0, vI 0, vI 1]), (64, 3, [vI 0, vI 0, vI 0]), (64, 2, [vI 1, vI 0]), (64, 2, [vI 0, vI 1]), (1, 0, [vR 31, vR 32, vR 33, vI 0]), (65, 2, [vD 0, vD 0]), (66, 2, [vI 0, vI 0]), (64, 16, rp 16 (vI 0)), (1, 0, [vR 35, vR 36, vR 37, vI 0]), (65, 2, [vD 0, vD 0]), (66, 2, [vI 0, vI 0]), (64, 16, rp 16 (vI 0)), (1, 0, [vR 39, vR 40, vR 41, vI 0]), (65, 2, [vD 0, vD 0]), (66, 2, [vI 0, vI 0]), (64, 16, rp 16 (vI 0)), (1, 0, [vR 43, vR 44, vR 45, vI 0]), (65, 2, [vD 0, vD 0]), (66, 2, [vI 0, vI 0]), (64, 16, rp 16 (vI 0)), (2, 0, [vI (-1), vI 2, vR 47, vR 48]), (64, 2, [vI 0, vI 0]), (66, 2, [vI 0, vI 0]), (1, 0, [vR 50, vR 51, vR 52, vI 0]), (65, 2, [vD 0, vD 0]), (66, 2, [vI 0, vI 0]), (64, 16, rp 16 (vI 0)), (3, 0, [vR 7, vR 54, vR 55, vR 56, vR 57, vR 62, vR 66, vR 71, vR 76, vI 1, vI 0]), (67, 2, [vR 58, vR 60]), (68, 2, [vR 59, vR 61]), (64, 2, [vI 0, vI 1]), (64, 2, [vI 0, vI 0]), (64, 1, [vI 1]), (65, 1, [vD 11]), (64, 2, [vI 1, vI 1]), (65, 2, [vD 13, vD 13]), (67, 2, [vR 63, vR 64]), (64, 1, [vI 1]), (64, 2, [vI 0, vI 1]), (64, 2, [vI 1, vI 2]), (4, 0, [vR 67, vR 68, vR 69, vR 70]), (64, 3, [vI (-1), vI (-1), vI (-1)]), (64, 2, [vI (-1), vI (-1)]), (64, 2, [vI (-1), vI (-1)]), (64, 2, [vI (-1), vI (-1)]), (4, 0, [vR 72, vR 73, vR 74, vR 75]), (64, 3, [vI (-1), vI (-1), vI (-1)]), (64, 2, [vI (-1), vI (-1)]), (64, 2, [vI (-1), vI (-1)]), (64, 2, [vI (-1), vI (-1)]), (64, 2, [vI (-1), vI (-1)]), (64, 2, [vI 1, vI 0]), (65, 2, [vD 13, vD 0]), (64, 2, [vI 0, vI 0]), (65, 2, [vD 13, vD 0]), (64, 2, [vI 0, vI 1]), (64, 2, [vI 0, vI 0])]
def opsB_10u : List Op := [(7, 9, 0, 0), (7, 10, 0, 0), (4, 12, 0, 0), (11, 24, 4472406533629990549, 1), (4, 12, 0, 0), (5, 0, 25, 0), (4, 13, 0, 0), (5, 26, 27, 0), (2, 4591870180066957722, 28, 0), (10, 24, 29, 1), (4, 11, 0, 0), (11, 30, 4472406533629990549, 1), (4, 11, 0, 0), (5, 0, 31, 0), (2, 4591870180066957722, 32, 0), (10, 30, 33, 1)]
theorem eB2_10u : runIs (run code own_MN_4 29 (8, 192, 1792, 208) 258 30 [(cn_4, [7], [0], rp 13 (.null) ++ [vI 0] ++ rp 14 (.null) ++ [vI 0]), (cn_2, [49], [0], [.null, .null, .null, vI 0]), (cn_71, [0, 1, 2, 3, 4, 5, 7, 8, 9, 12, 13, 14, 21, 22, 23, 24, 25, 26, 27, 28, 29], [0, 11, 12, 13], [vR 10, vR 11, vR 15, vR 16, vR 17, vR 18, vR 19, vR 20, vR 30, vR 34, vR 38, vR 42, vR 46] ++ rp 5 (vI 0) ++ [vD 0, vD 0, vI 0, vI 0, vI 0, vI 0])] [] (208, #[sF 6, sF 7, sF 8, sF 9, sF 10, sF 1, sF 2, sF 3, sF 4, sF 5, sR 0, sR 3, sF 14, sF 15, sD 16, s2, sD 17, s2, sF 18, sF 19, sD 20, s2, sD 21, s2, sU, sU, sU, sU, sU], [], [(67, 2, [vR 1, vR 2]), (64, 1, [vI 1]), (64, 2, [vI 0, vI 1]), (68, 2, [vR 4, vR 5]), (65, 1, [vD 11]), (65, 2, [vD 12, vD 13])], 22, 6, 12)) (258, #[sF 6, sF 7, sF 8, sF 9, sF 10, sF 1, sF 2, sF 3, sF 4, sF 5, sR 0, sR 3, sF 14, sF 15, sD 16, s2, sD 17, s2, sF 18, sF 19, sD 20, s2, sD 21, s2, sR 6, sR 7, sR 49, sU, sU], [], dsB_10u, 34, 83, 828) opsB_10u = true := by decide +kernel
def vcD_10u (b0 b1 b2 b3 : Int32) : Nat → UInt64 := own_D [0, 0, 0, 0, 0, 0, 0, 0, 0, 0, 0, FP.i2d b1, FP.i2d b2, FP.i2d b3, 0, 0, 0, 0, 0, 0, 0, 0]
def bD_10u (D : Nat → UInt64) (w3 w4 ar1 ao1 w5 w6 ar2 ao2 : UInt64) : Nat → UInt64 := own_D [0, D 1, D 2, D 3, D 4, D 5, D 6, D 7, D 8, D 9, D 10, FP.i2d (iW (D 2)), FP.i2d (iW (D 3)), FP.i2d (iW (D 4)), w3, w4, ar1, ao1, w5, w6, ar2, ao2]
theorem vcA_10u : own_all4 (fun b0 b1 b2 b3 => !(own_pt false b0 && (own_pt true b1 && (own_pt true b2 && (own_pt true b3 && own_dt (b0 * b3 - b1 * b2))))) || okvB opsB_10u 22 (vcD_10u b0 b1 b2 b3)) = true := by decide +kernel
theorem vcR_10u : relB opsB_10u 22 (fun i => decide (i = 0) || (decide (11 ≤ i) && decide (i < 14)) || decide (22 ≤ i)) = true := by decide +kernel
theorem rm84_10u (B : LWB p l e s m args below meth c T0 Z a0 h0 n0 L0 0 0) (D0 : D 0 = 0) (H : HB4 D) (z0 : (iW (D 1)).toInt = 0) (z1 : (iW (D 2)).toInt ≠ 0) (z2 : (iW (D 3)).toInt ≠ 0) (z3 : (iW (D 4)).toInt ≠ 0) : Go p e below (EndQ s (Q_rm0 n0) 192 1792) T0 (mkF m 84 (fr84 D) []) := by
  obtain ⟨q0, q1, q2, q3⟩ := H.1
  have vB := own_vb (f := fun b0 b1 b2 b3 => okvB opsB_10u 22 (vcD_10u b0 b1 b2 b3)) vcA_10u H (own_pz z0) (own_pn z1) (own_pn z2) (own_pn z3)
  refine goE (segL (A := fun _ => 0) (K := fun _ => 0) (D := D) (W := fun _ => .null) eB1_10u (scS ct_50 (scS ct_0 (scS ct_51 (scS ct_1 sc0)))) B YgF.nil D0 (by decide) ⟨z0, z0, z1, z2, z3, z0, z0, z1, trivial, z2, z3, trivial, trivial, trivial⟩ ?_) rfl
  intro T1 h1 L1 A1 K1 B1 hA1 Kp1 f1 Y1
  refine goE (mid136 (D := D) (c10 := A1 0) (c11 := A1 3) (B1.more (by decide) (by decide)) ?_) rfl
  intro T2 L2 w3 w4 w5 w6 ar1 ao1 ar2 ao2 k1 j1 k2 j2 B2 ho1 hr1 ho2 hr2 H1 H2
  refine goE (segL (A := A1) (K := K1) (D := bD_10u D w3 w4 ar1 ao1 w5 w6 ar2 ao2) (W := fun _ => .null) eB2_10u (scS ct_4 (scS ct_2 (scS ct_71 sc0))) B2 (YgF.congr Y1 rfl) rfl (by decide) (okv_rel _ _ _ (vcD_10u (iW (D 1)) (iW (D 2)) (iW (D 3)) (iW (D 4))) _ vcR_10u (fun i hi hr => by unfold bD_10u vcD_10u; apply own_bag 14 22 (i := i) (hi := hi) (hr := hr) <;> rfl) (okvB_ok _ _ _ vB)) ?_) rfl
  intro T3 h3 L3 A3 K3 B3 hA3 Kp3 f3 Y3
  have r3 := rng32 (iW (D 9))
  have r4 := rng32 (iW (D 10))
  have HT := tm_10u (l := l) (n0 := n0) B3.2.2.2.2.2.2.2.2.1 (la := (own_AJ [21, 22, 23, 25, 10, 11, 26, 79, 80] A3)) (kl := (own_KJ [21, 22, 23, 25, 10, 11, 26, 79, 80] K3)) (g := (own_gJ [77, 78, 10, 11, 79, 80, 14, 15, 0, 21, 22, 23, 24, 25, 26, 27, 28, 29, 30, 34, 38, 42, 46, 1, 2, 4, 5] A3)) (M00 := (iW (D 1)).toInt) (M01 := (iW (D 2)).toInt) (M10 := (iW (D 3)).toInt) (M11 := (iW (D 4)).toInt) (a := (iW (D 3)).toInt) (u := (iW (D 4)).toInt) (L := 0) (Dd := 2 * (iW (D 2)).toInt) ⟨by omega, by omega, by decide, by omega, own_fix0.mpr (Jvm.FP.Core.i2d_int (iW (D 3))), own_fix0.mpr (Jvm.FP.Core.i2d_int (iW (D 4))), rfl, own_fix1 (Jvm.FP.Core.i2d_int (iW (D 2))), rfl, rfl, by rw [Int.zero_mul]; omega, by rw [Int.zero_mul]; omega⟩
  exact goE (rm258 (A := own_AJ [6, 7, 16, 17, 18, 19, 20, 49, 50, 51, 52, 0, 3] A3) (K := own_KJ [6, 7, 16, 17, 18, 19, 20, 49, 50, 51, 52, 0, 3] K3) (D := own_D [0, FP.i2d (iW (D 9)), FP.i2d (iW (D 10)), ar1, ao1, ar2, ao2, D 1, D 2, D 3, D 4, D 5, D 6, D 7, D 8, D 9, D 10]) (W := tmL (own_gJ [77, 78, 10, 11, 79, 80, 14, 15, 0, 21, 22, 23, 24, 25, 26, 27, 28, 29, 30, 34, 38, 42, 46, 1, 2, 4, 5] A3) (own_AJ [21, 22, 23, 25, 10, 11, 26, 79, 80] A3)) (B3.more (by decide) (by decide)) rfl ho1 hr1 ho2 hr2 ⟨q0, q1, q2, q3⟩ ⟨Jvm.FP.Core.i2d_int _, Jvm.FP.Core.i2d_int _, by omega, by omega⟩ H1 H2 HT (Yf.pick Y3.fl [6, 7, 16, 17, 18, 19, 20, 49, 50, 51, 52, 0, 3, 21, 22, 23, 25, 10, 11, 26, 79, 80] (by decide) rfl)) rfl
theorem eB1_11u : runIs (run code own_MN_4 29 (8, 192, 1792, 208) 136 32 [(cn_72, [], [0, 1, 2], []), (cn_0, [], [0, 3, 4], []), (cn_73, [], [0, 1, 2], []), (cn_1, [], [0, 3, 4], [])] [] (84, l84, [], [], 11, 0, 0)) (136, l136, [], [(67, 2, [vR 1, vR 2]), (64, 1, [vI 0]), (64, 2, [vI 0, vI 1]), (68, 2, [vR 4, vR 5]), (65, 1, [vD 11]), (65, 2, [vD 12, vD 13])], 14, 6, 10) [(13, 1, 0, 1), (13, 2, 0, 0), (13, 1, 0, 1), (13, 3, 0, 1), (13, 4, 0, 1), (13, 1, 0, 1), (13, 2, 0, 0), (13, 1, 0, 1), (7, 1, 0, 0), (13, 3, 0, 1), (13, 4, 0, 1), (7, 3, 0, 0), (7, 4, 0, 0)] = true := by decide +kernel
def dsB_11u : List AD := [(67, 2, [vR 1, vR 2]), (64, 1, [vI 0]), (64, 2, [vI 0, vI 1]), (68, 2, [vR 4, vR 5]), (65, 1, [vD 11]), (65, 2, [vD 12, vD 13]), (65, 2, [vD 22, vD 23]), (0, 0, [vR 77, vR 78, vR 10, vR 11, vR 79, vR 80, vR 14, vR 15, vR 16, vR 17, vR 18, vR 19, vR 20, vI 2, vR 21, vR 22, vR 23, vR 24, vR 25, vR 26, vR 27, vR 28, vR 29, vR 30, vR 34, vR 38, vR 42, vR 46, vI 0]), (64, 0, []), (65, 0, []), (64, 0, []), (65, 0, []), (64, 0, []), (65, 0, []), (64, 0, []), (65, 0, []), (64, 16, rp 16 (vI 0)), (65, 16, rp 16 (vD 0)), (64, 17, rp 17 (vI 0)), (64, 256, [vI 0, vI 0, vI 0, vI 0]), (65, 256, [vD 0, vD 0, vD 0, vD 0]), (64, 2, [vI 1, vI 0]), (64, 2, [vI 1, vI 0]), (65, 2, [vD 13, vD 11]), (64, 3, [vI 0, vI 1, vI 1]), (64, 3, [vI 0, vI 0, vI 0]), (64, 3, [vI 0, vI 1, vI 1]), (64, 3, [vI 0, vI 0, vI 0]), (64, 2, [vI 1, vI 0]), (64, 2, [vI 1, vI 0]), (1, 0, [vR 31, vR 32, vR 33, vI 0]), (65, 2, [vD 0, vD 0]), (66, 2, [vI 0, vI 0]), (64, 16, rp 16 (vI 0)), (1, 0, [vR 35, vR 36, vR 37, vI 0]), (65, 2, [vD 0, vD 0]), (66, 2, [vI 0, vI 0]), (64, 16, rp 16 (vI 0)), (1, 0, [vR 39, vR 40, vR 41, vI 0]), (65, 2, [vD 0, vD 0]), (66, 2, [vI 0, vI 0]), (64, 16, rp 16 (vI 0)), (1, 0, [vR 43, vR 44, vR 45, vI 0]), (65, 2, [vD 0, vD 0]), (66, 2, [vI 0, vI 0]), (64, 16, rp 16 (vI 0)), (2, 0, [vI (-1), vI 2, vR 47, vR 48]), (64, 2, [vI 0, vI 0]), (66, 2, [vI 0, vI 0]), (1, 0, [vR 50, vR 51, vR 52, vI 0]), (65, 2, [vD 0, vD 0]), (66, 2, [vI 0, vI 0]), (64, 16, rp 16 (vI 0)), (3, 0, [vR 7, vR 54, vR 55, vR 56, vR 57, vR 62, vR 66, vR 71, vR 76, vI 1, vI 0]), (67, 2, [vR 58, vR 60]), (68, 2, [vR 59, vR 61]), (64, 2, [vI 0, vI 1]), (64, 2, [vI 0, vI 0]), (64, 1, [vI 0]), (65, 1, [vD 11]), (64, 2, [vI 0, vI 1]), (65, 2, [vD 12, vD 13]), (67, 2, [vR 63, vR 64]), (64, 2, [vI 0, vI 1]), (64, 1, [vI 1]), (64, 2, [vI 2, vI 1]), (4, 0, [vR 67, vR 68, vR 69, vR 70]), (64, 3, [vI (-1), vI (-1), vI (-1)]), (64, 2, [vI (-1), vI (-1)]), (64, 2, [vI (-1), vI (-1)]), (64, 2, [vI (-1), vI (-1)]), (4, 0, [vR 72, vR 73, vR 74, vR 75]), (64, 3, [vI (-1), vI (-1), vI (-1)]), (64, 2, [vI (-1), vI (-1)]), (64, 2, [vI (-1), vI (-1)]), (64, 2, [vI (-1), vI (-1)]), (64, 2, [vI (-1), vI (-1)]), (64, 2, [vI 0, vI 0]), (65, 2, [vD 12, vD 0]), (64, 2, [vI 0, vI 0]), (65, 2, [vD 12, vD 0]), (64, 2, [vI 1, vI 1]), (64, 2, [vI 0, vI 0])]
def opsB_11u : List Op := [(7, 9, 0, 0), (7, 10, 0, 0), (4, 13, 0, 0), (11, 24, 4472406533629990549, 1), (4, 12, 0, 0), (5, 0, 25, 0), (4, 13, 0, 0), (5, 26, 27, 0), (2, 4591870180066957722, 28, 0), (10, 24, 29, 1), (4, 11, 0, 0), (11, 30, 4472406533629990549, 1), (4, 11, 0, 0), (5, 0, 31, 0), (2, 4591870180066957722, 32, 0), (10, 30, 33, 1)]
theorem eB2_11u : runIs (run code own_MN_4 29 (8, 192, 1792, 208) 258 30 [(cn_4, [7], [0], rp 13 (.null) ++ [vI 0] ++ rp 14 (.null) ++ [vI 0]), (cn_2, [49], [0], [.null, .null, .null, vI 0]), (cn_93, [0, 1, 2, 3, 4, 5, 7, 8, 9, 12, 13, 14, 21, 22, 23, 24, 25, 26, 27, 28, 29], [0, 11, 12, 13], [vR 10, vR 11, vR 15, vR 16, vR 17, vR 18, vR 19, vR 20, vR 30, vR 34, vR 38, vR 42, vR 46] ++ rp 5 (vI 0) ++ [vD 0, vD 0, vI 0, vI 0, vI 0, vI 0])] [] (208, #[sF 6, sF 7, sF 8, sF 9, sF 10, sF 1, sF 2, sF 3, sF 4, sF 5, sR 0, sR 3, sF 14, sF 15, sD 16, s2, sD 17, s2, sF 18, sF 19, sD 20, s2, sD 21, s2, sU, sU, sU, sU, sU], [], [(67, 2, [vR 1, vR 2]), (64, 1, [vI 0]), (64, 2, [vI 0, vI 1]), (68, 2, [vR 4, vR 5]), (65, 1, [vD 11]), (65, 2, [vD 12, vD 13])], 22, 6, 12)) (258, #[sF 6, sF 7, sF 8, sF 9, sF 10, sF 1, sF 2, sF 3, sF 4, sF 5, sR 0, sR 3, sF 14, sF 15, sD 16, s2, sD 17, s2, sF 18, sF 19, sD 20, s2, sD 21, s2, sR 6, sR 7, sR 49, sU, sU], [], dsB_11u, 34, 83, 828) opsB_11u = true := by decide +kernel
def vcD_11u (b0 b1 b2 b3 : Int32) : Nat → UInt64 := own_D [0, 0, 0, 0, 0, 0, 0, 0, 0, 0, 0, FP.i2d b0, FP.i2d b2, FP.i2d b3, 0, 0, 0, 0, 0, 0, 0, 0]
def bD_11u (D : Nat → UInt64) (w3 w4 ar1 ao1 w5 w6 ar2 ao2 : UInt64) : Nat → UInt64 := own_D [0, D 1, D 2, D 3, D 4, D 5, D 6, D 7, D 8, D 9, D 10, FP.i2d (iW (D 1)), FP.i2d (iW (D 3)), FP.i2d (iW (D 4)), w3, w4, ar1, ao1, w5, w6, ar2, ao2]
theorem vcA_11u : own_all4 (fun b0 b1 b2 b3 => !(own_pt true b0 && (own_pt false b1 && (own_pt true b2 && (own_pt true b3 && own_dt (b0 * b3 - b1 * b2))))) || okvB opsB_11u 22 (vcD_11u b0 b1 b2 b3)) = true := by decide +kernel
theorem vcR_11u : relB opsB_11u 22 (fun i => decide (i = 0) || (decide (11 ≤ i) && decide (i < 14)) || decide (22 ≤ i)) = true := by decide +kernel
theorem rm84_11u (B : LWB p l e s m args below meth c T0 Z a0 h0 n0 L0 0 0) (D0 : D 0 = 0) (H : HB4 D) (z0 : (iW (D 1)).toInt ≠ 0) (z1 : (iW (D 2)).toInt = 0) (z2 : (iW (D 3)).toInt ≠ 0) (z3 : (iW (D 4)).toInt ≠ 0) : Go p e below (EndQ s (Q_rm0 n0) 192 1792) T0 (mkF m 84 (fr84 D) []) := by
  obtain ⟨q0, q1, q2, q3⟩ := H.1
  have vB := own_vb (f := fun b0 b1 b2 b3 => okvB opsB_11u 22 (vcD_11u b0 b1 b2 b3)) vcA_11u H (own_pn z0) (own_pz z1) (own_pn z2) (own_pn z3)
  refine goE (segL (A := fun _ => 0) (K := fun _ => 0) (D := D) (W := fun _ => .null) eB1_11u (scS ct_72 (scS ct_0 (scS ct_73 (scS ct_1 sc0)))) B YgF.nil D0 (by decide) ⟨z0, z1, z0, z2, z3, z0, z1, z0, trivial, z2, z3, trivial, trivial, trivial⟩ ?_) rfl
  intro T1 h1 L1 A1 K1 B1 hA1 Kp1 f1 Y1
  refine goE (mid136 (D := D) (c10 := A1 0) (c11 := A1 3) (B1.more (by decide) (by decide)) ?_) rfl
  intro T2 L2 w3 w4 w5 w6 ar1 ao1 ar2 ao2 k1 j1 k2 j2 B2 ho1 hr1 ho2 hr2 H1 H2
  refine goE (segL (A := A1) (K := K1) (D := bD_11u D w3 w4 ar1 ao1 w5 w6 ar2 ao2) (W := fun _ => .null) eB2_11u (scS ct_4 (scS ct_2 (scS ct_93 sc0))) B2 (YgF.congr Y1 rfl) rfl (by decide) (okv_rel _ _ _ (vcD_11u (iW (D 1)) (iW (D 2)) (iW (D 3)) (iW (D 4))) _ vcR_11u (fun i hi hr => by unfold bD_11u vcD_11u; apply own_bag 14 22 (i := i) (hi := hi) (hr := hr) <;> rfl) (okvB_ok _ _ _ vB)) ?_) rfl
  intro T3 h3 L3 A3 K3 B3 hA3 Kp3 f3 Y3
  have r3 := rng32 (iW (D 9))
  have r4 := rng32 (iW (D 10))
  have HT := tm_11u (l := l) (n0 := n0) B3.2.2.2.2.2.2.2.2.1 (la := (own_AJ [21, 22, 23, 25, 10, 11, 26, 79, 80] A3)) (kl := (own_KJ [21, 22, 23, 25, 10, 11, 26, 79, 80] K3)) (g := (own_gJ [77, 78, 10, 11, 79, 80, 14, 15, 0, 21, 22, 23, 24, 25, 26, 27, 28, 29, 30, 34, 38, 42, 46, 1, 2, 4, 5] A3)) (M00 := (iW (D 1)).toInt) (M01 := (iW (D 2)).toInt) (M10 := (iW (D 3)).toInt) (M11 := (iW (D 4)).toInt) (a := (iW (D 4)).toInt) (u := (iW (D 3)).toInt) (L := 0) (Dd := 2 * (iW (D 1)).toInt) ⟨by omega, by omega, by decide, by omega, own_fix0.mpr (Jvm.FP.Core.i2d_int (iW (D 4))), own_fix0.mpr (Jvm.FP.Core.i2d_int (iW (D 3))), rfl, own_fix1 (Jvm.FP.Core.i2d_int (iW (D 1))), rfl, rfl, by rw [Int.zero_mul]; omega, by rw [Int.zero_mul]; omega⟩
  exact goE (rm258 (A := own_AJ [6, 7, 16, 17, 18, 19, 20, 49, 50, 51, 52, 0, 3] A3) (K := own_KJ [6, 7, 16, 17, 18, 19, 20, 49, 50, 51, 52, 0, 3] K3) (D := own_D [0, FP.i2d (iW (D 9)), FP.i2d (iW (D 10)), ar1, ao1, ar2, ao2, D 1, D 2, D 3, D 4, D 5, D 6, D 7, D 8, D 9, D 10]) (W := tmL (own_gJ [77, 78, 10, 11, 79, 80, 14, 15, 0, 21, 22, 23, 24, 25, 26, 27, 28, 29, 30, 34, 38, 42, 46, 1, 2, 4, 5] A3) (own_AJ [21, 22, 23, 25, 10, 11, 26, 79, 80] A3)) (B3.more (by decide) (by decide)) rfl ho1 hr1 ho2 hr2 ⟨q0, q1, q2, q3⟩ ⟨Jvm.FP.Core.i2d_int _, Jvm.FP.Core.i2d_int _, by omega, by omega⟩ H1 H2 HT (Yf.pick Y3.fl [6, 7, 16, 17, 18, 19, 20, 49, 50, 51, 52, 0, 3, 21, 22, 23, 25, 10, 11, 26, 79, 80] (by decide) rfl)) rfl
theorem eB1_00u : runIs (run code own_MN_4 29 (8, 192, 1792, 208) 136 32 [(cn_0, [], [0, 1, 2], []), (cn_50, [], [0, 3, 4], []), (cn_1, [], [0, 1, 2], []), (cn_51, [], [0, 3, 4], [])] [] (84, l84, [], [], 11, 0, 0)) (136, l136, [], [(67, 2, [vR 1, vR 2]), (64, 2, [vI 0, vI 1]), (64, 1, [vI 1]), (68, 2, [vR 4, vR 5]), (65, 2, [vD 11, vD 12]), (65, 1, [vD 13])], 14, 6, 10) [(13, 1, 0, 1), (13, 2, 0, 1), (13, 3, 0, 0), (13, 3, 0, 0), (13, 4, 0, 1), (13, 1, 0, 1), (13, 2, 0, 1), (7, 1, 0, 0), (7, 2, 0, 0), (13, 3, 0, 0), (13, 3, 0, 0), (13, 4, 0, 1), (7, 4, 0, 0)] = true := by decide +kernel
def dsB_00u : List AD := [(67, 2, [vR 1, vR 2]), (64, 2, [vI 0, vI 1]), (64, 1, [vI 1]), (68, 2, [vR 4, vR 5]), (65, 2, [vD 11, vD 12]), (65, 1, [vD 13]), (65, 2, [vD 22, vD 23]), (0, 0, [vR 77, vR 78, vR 10, vR 11, vR 79, vR 80, vR 14, vR 15, vR 16, vR 17, vR 18, vR 19, vR 20, vI 2, vR 21, vR 22, vR 23, vR 24, vR 25, vR 26, vR 27, vR 28, vR 29, vR 30, vR 34, vR 38, vR 42, vR 46, vI 0]), (64, 0, []), (65, 0, []), (64, 0, []), (65, 0, []), (64, 0, []), (65, 0, []), (64, 0, []), (65, 0, []), (64, 16, rp 16 (vI 0)), (65, 16, rp 16 (vD 0)), (64, 17, rp 17 (vI 0)), (64, 256, [vI 0, vI 0, vI 0, vI 0]), (65, 256, [vD 0, vD 0, vD 0, vD 0]), (64, 2, [vI 0, vI 1]), (64, 2, [vI 0, vI 1]), (65, 2, [vD 11, vD 13]), (64, 3, [vI 0, vI 1, vI 1]), (64, 3, [vI 0, vI 0, vI 0]), (64, 3, [vI 0, vI 0, vI 1]), (64, 3, [vI 0, vI 0, vI 0]), (64, 2, [vI 0, vI 1]), (64, 2, [vI 0, vI 1]), (1, 0, [vR 31, vR 32, vR 33, vI 0]), (65, 2, [vD 0, vD 0]), (66, 2, [vI 0, vI 0]), (64, 16, rp 16 (vI 0)), (1, 0, [vR 35, vR 36, vR 37, vI 0]), (65, 2, [vD 0, vD 0]), (66, 2, [vI 0, vI 0]), (64, 16, rp 16 (vI 0)), (1, 0, [vR 39, vR 40, vR 41, vI 0]), (65, 2, [vD 0, vD 0]), (66, 2, [vI 0, vI 0]), (64, 16, rp 16 (vI 0)), (1, 0, [vR 43, vR 44, vR 45, vI 0]), (65, 2, [vD 0, vD 0]), (66, 2, [vI 0, vI 0]), (64, 16, rp 16 (vI 0)), (2, 0, [vI (-1), vI 2, vR 47, vR 48]), (64, 2, [vI 0, vI 0]), (66, 2, [vI 0, vI 0]), (1, 0, [vR 50, vR 51, vR 52, vI 0]), (65, 2, [vD 0, vD 0]), (66, 2, [vI 0, vI 0]), (64, 16, rp 16 (vI 0)), (3, 0, [vR 7, vR 54, vR 55, vR 56, vR 57, vR 62, vR 66, vR 71, vR 76, vI 1, vI 0]), (67, 2, [vR 58, vR 60]), (68, 2, [vR 59, vR 61]), (64, 2, [vI 1, vI 0]), (64, 2, [vI 0, vI 0]), (64, 2, [vI 1, vI 1]), (65, 2, [vD 12, vD 12]), (64, 1, [vI 1]), (65, 1, [vD 13]), (67, 2, [vR 63, vR 64]), (64, 1, [vI 0]), (64, 2, [vI 1, vI 1]), (64, 2, [vI 1, vI 2]), (4, 0, [vR 67, vR 68, vR 69, vR 70]), (64, 3, [vI (-1), vI (-1), vI (-1)]), (64, 2, [vI (-1), vI (-1)]), (64, 2, [vI (-1), vI (-1)]), (64, 2, [vI (-1), vI (-1)]), (4, 0, [vR 72, vR 73, vR 74, vR 75]), (64, 3, [vI (-1), vI (-1), vI (-1)]), (64, 2, [vI (-1), vI (-1)]), (64, 2, [vI (-1), vI (-1)]), (64, 2, [vI (-1), vI (-1)]), (64, 2, [vI (-1), vI (-1)]), (64, 2, [vI 1, vI 0]), (65, 2, [vD 12, vD 0]), (64, 2, [vI 0, vI 0]), (65, 2, [vD 12, vD 0]), (64, 2, [vI 0, vI 1]), (64, 2, [vI 0, vI 0])]
def opsB_00u : List Op := [(7, 9, 0, 0), (7, 10, 0, 0), (4, 11, 0, 0), (11, 24, 4472406533629990549, 1), (4, 11, 0, 0), (5, 0, 25, 0), (4, 12, 0, 0), (5, 26, 27, 0), (2, 4591870180066957722, 28, 0), (10, 24, 29, 1), (4, 13, 0, 0), (11, 30, 4472406533629990549, 1), (4, 13, 0, 0), (5, 0, 31, 0), (2, 4591870180066957722, 32, 0), (10, 30, 33, 1)]
theorem eB2_00u : runIs (run code own_MN_4 29 (8, 192, 1792, 208) 258 30 [(cn_4, [7], [0], rp 13 (.null) ++ [vI 0] ++ rp 14 (.null) ++ [vI 0]), (cn_2, [49], [0], [.null, .null, .null, vI 0]), (cn_102, [0, 1, 2, 3, 4, 5, 7, 8, 9, 12, 13, 14, 21, 22, 23, 24, 25, 26, 27, 28, 29], [0, 11, 12, 13], [vR 10, vR 11, vR 15, vR 16, vR 17, vR 18, vR 19, vR 20, vR 30, vR 34, vR 38, vR 42, vR 46] ++ rp 5 (vI 0) ++ [vD 0, vD 0, vI 0, vI 0, vI 0, vI 0])] [] (208, #[sF 6, sF 7, sF 8, sF 9, sF 10, sF 1, sF 2, sF 3, sF 4, sF 5, sR 0, sR 3, sF 14, sF 15, sD 16, s2, sD 17, s2, sF 18, sF 19, sD 20, s2, sD 21, s2, sU, sU, sU, sU, sU], [], [(67, 2, [vR 1, vR 2]), (64, 2, [vI 0, vI 1]), (64, 1, [vI 1]), (68, 2, [vR 4, vR 5]), (65, 2, [vD 11, vD 12]), (65, 1, [vD 13])], 22, 6, 12)) (258, #[sF 6, sF 7, sF 8, sF 9, sF 10, sF 1, sF 2, sF 3, sF 4, sF 5, sR 0, sR 3, sF 14, sF 15, sD 16, s2, sD 17, s2, sF 18, sF 19, sD 20, s2, sD 21, s2, sR 6, sR 7, sR 49, sU, sU], [], dsB_00u, 34, 83, 828) opsB_00u = true := by decide +kernel
def vcD_00u (b0 b1 b2 b3 : Int32) : Nat → UInt64 := own_D [0, 0, 0, 0, 0, 0, 0, 0, 0, 0, 0, FP.i2d b0, FP.i2d b1, FP.i2d b3, 0, 0, 0, 0, 0, 0, 0, 0]
def bD_00u (D : Nat → UInt64) (w3 w4 ar1 ao1 w5 w6 ar2 ao2 : UInt64) : Nat → UInt64 := own_D [0, D 1, D 2, D 3, D 4, D 5, D 6, D 7, D 8, D 9, D 10, FP.i2d (iW (D 1)), FP.i2d (iW (D 2)), FP.i2d (iW (D 4)), w3, w4, ar1, ao1, w5, w6, ar2, ao2]
theorem vcA_00u : own_all4 (fun b0 b1 b2 b3 => !(own_pt true b0 && (own_pt true b1 && (own_pt false b2 && (own_pt true b3 && own_dt (b0 * b3 - b1 * b2))))) || okvB opsB_00u 22 (vcD_00u b0 b1 b2 b3)) = true := by decide +kernel
theorem vcR_00u : relB opsB_00u 22 (fun i => decide (i = 0) || (decide (11 ≤ i) && decide (i < 14)) || decide (22 ≤ i)) = true := by decide +kernel
theorem rm84_00u (B : LWB p l e s m args below meth c T0 Z a0 h0 n0 L0 0 0) (D0 : D 0 = 0) (H : HB4 D) (z0 : (iW (D 1)).toInt ≠ 0) (z1 : (iW (D 2)).toInt ≠ 0) (z2 : (iW (D 3)).toInt = 0) (z3 : (iW (D 4)).toInt ≠ 0) : Go p e below (EndQ s (Q_rm0 n0) 192 1792) T0 (mkF m 84 (fr84 D) []) := by
  obtain ⟨q0, q1, q2, q3⟩ := H.1
  have vB := own_vb (f := fun b0 b1 b2 b3 => okvB opsB_00u 22 (vcD_00u b0 b1 b2 b3)) vcA_00u H (own_pn z0) (own_pn z1) (own_pz z2) (own_pn z3)
  refine goE (segL (A := fun _ => 0) (K := fun _ => 0) (D := D) (W := fun _ => .null) eB1_00u (scS ct_0 (scS ct_50 (scS ct_1 (scS ct_51 sc0)))) B YgF.nil D0 (by decide) ⟨z0, z1, z2, z2, z3, z0, z1, trivial, trivial, z2, z2, z3, trivial, trivial⟩ ?_) rfl
  intro T1 h1 L1 A1 K1 B1 hA1 Kp1 f1 Y1
  refine goE (mid136 (D := D) (c10 := A1 0) (c11 := A1 3) (B1.more (by decide) (by decide)) ?_) rfl
  intro T2 L2 w3 w4 w5 w6 ar1 ao1 ar2 ao2 k1 j1 k2 j2 B2 ho1 hr1 ho2 hr2 H1 H2
  refine goE (segL (A := A1) (K := K1) (D := bD_00u D w3 w4 ar1 ao1 w5 w6 ar2 ao2) (W := fun _ => .null) eB2_00u (scS ct_4 (scS ct_2 (scS ct_102 sc0))) B2 (YgF.congr Y1 rfl) rfl (by decide) (okv_rel _ _ _ (vcD_00u (iW (D 1)) (iW (D 2)) (iW (D 3)) (iW (D 4))) _ vcR_00u (fun i hi hr => by unfold bD_00u vcD_00u; apply own_bag 14 22 (i := i) (hi := hi) (hr := hr) <;> rfl) (okvB_ok _ _ _ vB)) ?_) rfl
  intro T3 h3 L3 A3 K3 B3 hA3 Kp3 f3 Y3
  have r3 := rng32 (iW (D 9))
  have r4 := rng32 (iW (D 10))
  have HT := tm_00u (l := l) (n0 := n0) B3.2.2.2.2.2.2.2.2.1 (la := (own_AJ [21, 22, 23, 25, 10, 11, 26, 79, 80] A3)) (kl := (own_KJ [21, 22, 23, 25, 10, 11, 26, 79, 80] K3)) (g := (own_gJ [77, 78, 10, 11, 79, 80, 14, 15, 0, 21, 22, 23, 24, 25, 26, 27, 28, 29, 30, 34, 38, 42, 46, 1, 2, 4, 5] A3)) (M00 := (iW (D 1)).toInt) (M01 := (iW (D 2)).toInt) (M10 := (iW (D 3)).toInt) (M11 := (iW (D 4)).toInt) (a := (iW (D 1)).toInt) (u := (iW (D 2)).toInt) (L := 0) (Dd := 2 * (iW (D 4)).toInt) ⟨by omega, by omega, by decide, by omega, own_fix0.mpr (Jvm.FP.Core.i2d_int (iW (D 1))), own_fix0.mpr (Jvm.FP.Core.i2d_int (iW (D 2))), rfl, own_fix1 (Jvm.FP.Core.i2d_int (iW (D 4))), rfl, rfl, by rw [Int.zero_mul]; omega, by rw [Int.zero_mul]; omega⟩
  exact goE (rm258 (A := own_AJ [6, 7, 16, 17, 18, 19, 20, 49, 50, 51, 52, 0, 3] A3) (K := own_KJ [6, 7, 16, 17, 18, 19, 20, 49, 50, 51, 52, 0, 3] K3) (D := own_D [0, FP.i2d (iW (D 9)), FP.i2d (iW (D 10)), ar1, ao1, ar2, ao2, D 1, D 2, D 3, D 4, D 5, D 6, D 7, D 8, D 9, D 10]) (W := tmL (own_gJ [77, 78, 10, 11, 79, 80, 14, 15, 0, 21, 22, 23, 24, 25, 26, 27, 28, 29, 30, 34, 38, 42, 46, 1, 2, 4, 5] A3) (own_AJ [21, 22, 23, 25, 10, 11, 26, 79, 80] A3)) (B3.more (by decide) (by decide)) rfl ho1 hr1 ho2 hr2 ⟨q0, q1, q2, q3⟩ ⟨Jvm.FP.Core.i2d_int _, Jvm.FP.Core.i2d_int _, by omega, by omega⟩ H1 H2 HT (Yf.pick Y3.fl [6, 7, 16, 17, 18, 19, 20, 49, 50, 51, 52, 0, 3, 21, 22, 23, 25, 10, 11, 26, 79, 80] (by decide) rfl)) rfl
theorem eB1_01u : runIs (run code own_MN_4 29 (8, 192, 1792, 208) 136 32 [(cn_0, [], [0, 1, 2], []), (cn_72, [], [0, 3, 4], []), (cn_1, [], [0, 1, 2], []), (cn_73, [], [0, 3, 4], [])] [] (84, l84, [], [], 11, 0, 0)) (136, l136, [], [(67, 2, [vR 1, vR 2]), (64, 2, [vI 0, vI 1]), (64, 1, [vI 0]), (68, 2, [vR 4, vR 5]), (65, 2, [vD 11, vD 12]), (65, 1, [vD 13])], 14, 6, 10) [(13, 1, 0, 1), (13, 2, 0, 1), (13, 3, 0, 1), (13, 4, 0, 0), (13, 3, 0, 1), (13, 1, 0, 1), (13, 2, 0, 1), (7, 1, 0, 0), (7, 2, 0, 0), (13, 3, 0, 1), (13, 4, 0, 0), (13, 3, 0, 1), (7, 3, 0, 0)] = true := by decide +kernel
def dsB_01u : List AD := [(67, 2, [vR 1, vR 2]), (64, 2, [vI 0, vI 1]), (64, 1, [vI 0]), (68, 2, [vR 4, vR 5]), (65, 2, [vD 11, vD 12]), (65, 1, [vD 13]), (65, 2, [vD 22, vD 23]), (0, 0, [vR 77, vR 78, vR 10, vR 11, vR 79, vR 80, vR 14, vR 15, vR 16, vR 17, vR 18, vR 19, vR 20, vI 2, vR 21, vR 22, vR 23, vR 24, vR 25, vR 26, vR 27, vR 28, vR 29, vR 30, vR 34, vR 38, vR 42, vR 46, vI 0]), (64, 0, []), (65, 0, []), (64, 0, []), (65, 0, []), (64, 0, []), (65, 0, []), (64, 0, []), (65, 0, []), (64, 16, rp 16 (vI 0)), (65, 16, rp 16 (vD 0)), (64, 17, rp 17 (vI 0)), (64, 256, [vI 0, vI 0, vI 0, vI 0]), (65, 256, [vD 0, vD 0, vD 0, vD 0]), (64, 2, [vI 0, vI 1]), (64, 2, [vI 1, vI 0]), (65, 2, [vD 12, vD 13]), (64, 3, [vI 0, vI 1, vI 1]), (64, 3, [vI 0, vI 0, vI 0]), (64, 3, [vI 0, vI 1, vI 1]), (64, 3, [vI 0, vI 0, vI 0]), (64, 2, [vI 0, vI 1]), (64, 2, [vI 1, vI 0]), (1, 0, [vR 31, vR 32, vR 33, vI 0]), (65, 2, [vD 0, vD 0]), (66, 2, [vI 0, vI 0]), (64, 16, rp 16 (vI 0)), (1, 0, [vR 35, vR 36, vR 37, vI 0]), (65, 2, [vD 0, vD 0]), (66, 2, [vI 0, vI 0]), (64, 16, rp 16 (vI 0)), (1, 0, [vR 39, vR 40, vR 41, vI 0]), (65, 2, [vD 0, vD 0]), (66, 2, [vI 0, vI 0]), (64, 16, rp 16 (vI 0)), (1, 0, [vR 43, vR 44, vR 45, vI 0]), (65, 2, [vD 0, vD 0]), (66, 2, [vI 0, vI 0]), (64, 16, rp 16 (vI 0)), (2, 0, [vI (-1), vI 2, vR 47, vR 48]), (64, 2, [vI 0, vI 0]), (66, 2, [vI 0, vI 0]), (1, 0, [vR 50, vR 51, vR 52, vI 0]), (65, 2, [vD 0, vD 0]), (66, 2, [vI 0, vI 0]), (64, 16, rp 16 (vI 0)), (3, 0, [vR 7, vR 54, vR 55, vR 56, vR 57, vR 62, vR 66, vR 71, vR 76, vI 1, vI 0]), (67, 2, [vR 58, vR 60]), (68, 2, [vR 59, vR 61]), (64, 2, [vI 1, vI 0]), (64, 2, [vI 0, vI 0]), (64, 2, [vI 0, vI 1]), (65, 2, [vD 11, vD 12]), (64, 1, [vI 0]), (65, 1, [vD 13]), (67, 2, [vR 63, vR 64]), (64, 2, [vI 1, vI 1]), (64, 1, [vI 0]), (64, 2, [vI 2, vI 1]), (4, 0, [vR 67, vR 68, vR 69, vR 70]), (64, 3, [vI (-1), vI (-1), vI (-1)]), (64, 2, [vI (-1), vI (-1)]), (64, 2, [vI (-1), vI (-1)]), (64, 2, [vI (-1), vI (-1)]), (4, 0, [vR 72, vR 73, vR 74, vR 75]), (64, 3, [vI (-1), vI (-1), vI (-1)]), (64, 2, [vI (-1), vI (-1)]), (64, 2, [vI (-1), vI (-1)]), (64, 2, [vI (-1), vI (-1)]), (64, 2, [vI (-1), vI (-1)]), (64, 2, [vI 0, vI 0]), (65, 2, [vD 11, vD 0]), (64, 2, [vI 0, vI 0]), (65, 2, [vD 11, vD 0]), (64, 2, [vI 1, vI 1]), (64, 2, [vI 0, vI 0])]
def opsB_01u : List Op := [(7, 9, 0, 0), (7, 10, 0, 0), (4, 12, 0, 0), (11, 24, 4472406533629990549, 1), (4, 11, 0, 0), (5, 0, 25, 0), (4, 12, 0, 0), (5, 26, 27, 0), (2, 4591870180066957722, 28, 0), (10, 24, 29, 1), (4, 13, 0, 0), (11, 30, 4472406533629990549, 1), (4, 13, 0, 0), (5, 0, 31, 0), (2, 4591870180066957722, 32, 0), (10, 30, 33, 1)]
theorem eB2_01u : runIs (run code own_MN_4 29 (8, 192, 1792, 208) 258 30 [(cn_4, [7], [0], rp 13 (.null) ++ [vI 0] ++ rp 14 (.null) ++ [vI 0]), (cn_2, [49], [0], [.null, .null, .null, vI 0]), (cn_114, [0, 1, 2, 3, 4, 5, 7, 8, 9, 12, 13, 14, 21, 22, 23, 24, 25, 26, 27, 28, 29], [0, 11, 12, 13], [vR 10, vR 11, vR 15, vR 16, vR 17, vR 18, vR 19, vR 20, vR 30, vR 34, vR 38, vR 42, vR 46] ++ rp 5 (vI 0) ++ [vD 0, vD 0, vI 0, vI 0, vI 0, vI 0])] [] (208, #[sF 6, sF 7, sF 8, sF 9, sF 10, sF 1, sF 2, sF 3, sF 4, sF 5, sR 0, sR 3, sF 14, sF 15, sD 16, s2, sD 17, s2, sF 18, sF 19, sD 20, s2, sD 21, s2, sU, sU, sU, sU, sU], [], [(67, 2, [vR 1, vR 2]), (64, 2, [vI 0, vI 1]), (64, 1, [vI 0]), (68, 2, [vR 4, vR 5]), (65, 2, [vD 11, vD 12]), (65, 1, [vD 13])], 22, 6, 12)) (258, #[sF 6, sF 7, sF 8, sF 9, sF 10, sF 1, sF 2, sF 3, sF 4, sF 5, sR 0, sR 3, sF 14, sF 15, sD 16, s2, sD 17, s2, sF 18, sF 19, sD 20, s2, sD 21, s2, sR 6, sR 7, sR 49, sU, sU], [], dsB_01u, 34, 83, 828) opsB_01u = true := by decide +kernel
def vcD_01u (b0 b1 b2 b3 : Int32) : Nat → UInt64 := own_D [0, 0, 0, 0, 0, 0, 0, 0, 0, 0, 0, FP.i2d b0, FP.i2d b1, FP.i2d b2, 0, 0, 0, 0, 0, 0, 0, 0]
def bD_01u (D : Nat → UInt64) (w3 w4 ar1 ao1 w5 w6 ar2 ao2 : UInt64) : Nat → UInt64 := own_D [0, D 1, D 2, D 3, D 4, D 5, D 6, D 7, D 8, D 9, D 10, FP.i2d (iW (D 1)), FP.i2d (iW (D 2)), FP.i2d (iW (D 3)), w3, w4, ar1, ao1, w5, w6, ar2, ao2]
theorem vcA_01u : own_all4 (fun b0 b1 b2 b3 => !(own_pt true b0 && (own_pt true b1 && (own_pt true b2 && (own_pt false b3 && own_dt (b0 * b3 - b1 * b2))))) || okvB opsB_01u 22 (vcD_01u b0 b1 b2 b3)) = true := by decide +kernel
theorem vcR_01u : relB opsB_01u 22 (fun i => decide (i = 0) || (decide (11 ≤ i) && decide (i < 14)) || decide (22 ≤ i)) = true := by decide +kernel
theorem rm84_01u (B : LWB p l e s m args below meth c T0 Z a0 h0 n0 L0 0 0) (D0 : D 0 = 0) (H : HB4 D) (z0 : (iW (D 1)).toInt ≠ 0) (z1 : (iW (D 2)).toInt ≠ 0) (z2 : (iW (D 3)).toInt ≠ 0) (z3 : (iW (D 4)).toInt = 0) : Go p e below (EndQ s (Q_rm0 n0) 192 1792) T0 (mkF m 84 (fr84 D) []) := by
  obtain ⟨q0, q1, q2, q3⟩ := H.1
  have vB := own_vb (f := fun b0 b1 b2 b3 => okvB opsB_01u 22 (vcD_01u b0 b1 b2 b3)) vcA_01u H (own_pn z0) (own_pn z1) (own_pn z2) (own_pz z3)
  refine goE (segL (A := fun _ => 0) (K := fun _ => 0) (D := D) (W := fun _ => .null) eB1_01u (scS ct_0 (scS ct_72 (scS ct_1 (scS ct_73 sc0)))) B YgF.nil D0 (by decide) ⟨z0, z1, z2, z3, z2, z0, z1, trivial, trivial, z2, z3, z2, trivial, trivial⟩ ?_) rfl
  intro T1 h1 L1 A1 K1 B1 hA1 Kp1 f1 Y1
  refine goE (mid136 (D := D) (c10 := A1 0) (c11 := A1 3) (B1.more (by decide) (by decide)) ?_) rfl
  intro T2 L2 w3 w4 w5 w6 ar1 ao1 ar2 ao2 k1 j1 k2 j2 B2 ho1 hr1 ho2 hr2 H1 H2
  refine goE (segL (A := A1) (K := K1) (D := bD_01u D w3 w4 ar1 ao1 w5 w6 ar2 ao2) (W := fun _ => .null) eB2_01u (scS ct_4 (scS ct_2 (scS ct_114 sc0))) B2 (YgF.congr Y1 rfl) rfl (by decide) (okv_rel _ _ _ (vcD_01u (iW (D 1)) (iW (D 2)) (iW (D 3)) (iW (D 4))) _ vcR_01u (fun i hi hr => by unfold bD_01u vcD_01u; apply own_bag 14 22 (i := i) (hi := hi) (hr := hr) <;> rfl) (okvB_ok _ _ _ vB)) ?_) rfl
  intro T3 h3 L3 A3 K3 B3 hA3 Kp3 f3 Y3
  have r3 := rng32 (iW (D 9))
  have r4 := rng32 (iW (D 10))
  have HT := tm_01u (l := l) (n0 := n0) B3.2.2.2.2.2.2.2.2.1 (la := (own_AJ [21, 22, 23, 25, 10, 11, 26, 79, 80] A3)) (kl := (own_KJ [21, 22, 23, 25, 10, 11, 26, 79, 80] K3)) (g := (own_gJ [77, 78, 10, 11, 79, 80, 14, 15, 0, 21, 22, 23, 24, 25, 26, 27, 28, 29, 30, 34, 38, 42, 46, 1, 2, 4, 5] A3)) (M00 := (iW (D 1)).toInt) (M01 := (iW (D 2)).toInt) (M10 := (iW (D 3)).toInt) (M11 := (iW (D 4)).toInt) (a := (iW (D 2)).toInt) (u := (iW (D 1)).toInt) (L := 0) (Dd := 2 * (iW (D 3)).toInt) ⟨by omega, by omega, by decide, by omega, own_fix0.mpr (Jvm.FP.Core.i2d_int (iW (D 2))), own_fix0.mpr (Jvm.FP.Core.i2d_int (iW (D 1))), rfl, own_fix1 (Jvm.FP.Core.i2d_int (iW (D 3))), rfl, rfl, by rw [Int.zero_mul]; omega, by rw [Int.zero_mul]; omega⟩
  exact goE (rm258 (A := own_AJ [6, 7, 16, 17, 18, 19, 20, 49, 50, 51, 52, 0, 3] A3) (K := own_KJ [6, 7, 16, 17, 18, 19, 20, 49, 50, 51, 52, 0, 3] K3) (D := own_D [0, FP.i2d (iW (D 9)), FP.i2d (iW (D 10)), ar1, ao1, ar2, ao2, D 1, D 2, D 3, D 4, D 5, D 6, D 7, D 8, D 9, D 10]) (W := tmL (own_gJ [77, 78, 10, 11, 79, 80, 14, 15, 0, 21, 22, 23, 24, 25, 26, 27, 28, 29, 30, 34, 38, 42, 46, 1, 2, 4, 5] A3) (own_AJ [21, 22, 23, 25, 10, 11, 26, 79, 80] A3)) (B3.more (by decide) (by decide)) rfl ho1 hr1 ho2 hr2 ⟨q0, q1, q2, q3⟩ ⟨Jvm.FP.Core.i2d_int _, Jvm.FP.Core.i2d_int _, by omega, by omega⟩ H1 H2 HT (Yf.pick Y3.fl [6, 7, 16, 17, 18, 19, 20, 49, 50, 51, 52, 0, 3, 21, 22, 23, 25, 10, 11, 26, 79, 80] (by decide) rfl)) rfl
theorem eB1_00 : runIs (run code own_MN_4 29 (8, 192, 1792, 208) 136 32 [(cn_72, [], [0, 1, 2], []), (cn_50, [], [0, 3, 4], []), (cn_73, [], [0, 1, 2], []), (cn_51, [], [0, 3, 4], [])] [] (84, l84, [], [], 11, 0, 0)) (136, l136, [], [(67, 2, [vR 1, vR 2]), (64, 1, [vI 0]), (64, 1, [vI 1]), (68, 2, [vR 4, vR 5]), (65, 1, [vD 11]), (65, 1, [vD 12])], 13, 6, 8) [(13, 1, 0, 1), (13, 2, 0, 0), (13, 1, 0, 1), (13, 3, 0, 0), (13, 3, 0, 0), (13, 4, 0, 1), (13, 1, 0, 1), (13, 2, 0, 0), (13, 1, 0, 1), (7, 1, 0, 0), (13, 3, 0, 0), (13, 3, 0, 0), (13, 4, 0, 1), (7, 4, 0, 0)] = true := by decide +kernel
def dsB_00 : List AD := [(67, 2, [vR 1, vR 2]), (64, 1, [vI 0]), (64, 1, [vI 1]), (68, 2, [vR 4, vR 5]), (65, 1, [vD 11]), (65, 1, [vD 12]), (65, 2, [vD 21, vD 22]), (0, 0, [vR 8, vR 9, vR 10, vR 11, vR 12, vR 13, vR 14, vR 15, vR 16, vR 17, vR 18, vR 19, vR 20, vI 2, vR 21, vR 22, vR 23, vR 24, vR 25, vR 26, vR 27, vR 28, vR 29, vR 30, vR 34, vR 38, vR 42, vR 46, vI 0]), (64, 0, []), (65, 0, []), (64, 0, []), (65, 0, []), (64, 0, []), (65, 0, []), (64, 0, []), (65, 0, []), (64, 16, rp 16 (vI 0)), (65, 16, rp 16 (vD 0)), (64, 17, rp 17 (vI 0)), (64, 256, [vI 0, vI 0, vI 0, vI 0]), (65, 256, [vD 0, vD 0, vD 0, vD 0]), (64, 2, [vI 0, vI 1]), (64, 2, [vI 0, vI 1]), (65, 2, [vD 11, vD 12]), (64, 3, [vI 0, vI 0, vI 0]), (64, 3, [vI 0, vI 0, vI 0]), (64, 3, [vI 0, vI 0, vI 0]), (64, 3, [vI 0, vI 0, vI 0]), (64, 2, [vI 0, vI 1]), (64, 2, [vI 0, vI 1]), (1, 0, [vR 31, vR 32, vR 33, vI 0]), (65, 2, [vD 0, vD 0]), (66, 2, [vI 0, vI 0]), (64, 16, rp 16 (vI 0)), (1, 0, [vR 35, vR 36, vR 37, vI 0]), (65, 2, [vD 0, vD 0]), (66, 2, [vI 0, vI 0]), (64, 16, rp 16 (vI 0)), (1, 0, [vR 39, vR 40, vR 41, vI 0]), (65, 2, [vD 0, vD 0]), (66, 2, [vI 0, vI 0]), (64, 16, rp 16 (vI 0)), (1, 0, [vR 43, vR 44, vR 45, vI 0]), (65, 2, [vD 0, vD 0]), (66, 2, [vI 0, vI 0]), (64, 16, rp 16 (vI 0)), (2, 0, [vI (-1), vI 2, vR 47, vR 48]), (64, 2, [vI 0, vI 0]), (66, 2, [vI 0, vI 0]), (1, 0, [vR 50, vR 51, vR 52, vI 0]), (65, 2, [vD 0, vD 0]), (66, 2, [vI 0, vI 0]), (64, 16, rp 16 (vI 0)), (3, 0, [vR 7, vR 54, vR 55, vR 56, vR 57, vR 62, vR 66, vR 71, vR 76, vI 0, vI 0]), (67, 2, [vR 58, vR 60]), (68, 2, [vR 59, vR 61]), (64, 2, [vI 0, vI 0]), (64, 2, [vI 0, vI 0]), (64, 1, [vI 0]), (65, 1, [vD 11]), (64, 1, [vI 1]), (65, 1, [vD 12]), (67, 2, [vR 63, vR 64]), (64, 1, [vI 0]), (64, 1, [vI 1]), (64, 2, [vI 1, vI 1]), (4, 0, [vR 67, vR 68, vR 69, vR 70]), (64, 3, [vI (-1), vI (-1), vI (-1)]), (64, 2, [vI 1, vI (-1)]), (64, 2, [vI (-1), vI (-1)]), (64, 2, [vI (-1), vI (-1)]), (4, 0, [vR 72, vR 73, vR 74, vR 75]), (64, 3, [vI (-1), vI (-1), vI (-1)]), (64, 2, [vI 1, vI (-1)]), (64, 2, [vI (-1), vI (-1)]), (64, 2, [vI (-1), vI (-1)]), (64, 2, [vI (-1), vI (-1)]), (64, 2, [vI 0, vI 0]), (64, 2, [vI 0, vI 0])]
def opsB_00 : List Op := [(7, 9, 0, 0), (7, 10, 0, 0), (4, 11, 0, 0), (11, 23, 4472406533629990549, 1), (4, 11, 0, 0), (5, 0, 24, 0), (2, 4591870180066957722, 25, 0), (10, 23, 26, 1), (4, 12, 0, 0), (11, 27, 4472406533629990549, 1), (4, 12, 0, 0), (5, 0, 28, 0), (2, 4591870180066957722, 29, 0), (10, 27, 30, 1)]
theorem eB2_00 : runIs (run code own_MN_4 29 (8, 192, 1792, 208) 258 30 [(cn_4, [7], [0], rp 13 (.null) ++ [vI 0] ++ rp 14 (.null) ++ [vI 0]), (cn_2, [49], [0], [.null, .null, .null, vI 0]), (cn_124, [0, 1, 2, 3, 4, 5, 7, 12, 14, 21, 22, 23, 24, 25, 26, 27, 28, 29], [0, 11, 12], [vR 8, vR 9, vR 10, vR 11, vR 13, vR 15, vR 16, vR 17, vR 18, vR 19, vR 20, vR 30, vR 34, vR 38, vR 42, vR 46] ++ rp 5 (vI 0) ++ [vD 0, vD 0, vI 0, vI 0, vI 0, vI 0])] [] (208, #[sF 6, sF 7, sF 8, sF 9, sF 10, sF 1, sF 2, sF 3, sF 4, sF 5, sR 0, sR 3, sF 13, sF 14, sD 15, s2, sD 16, s2, sF 17, sF 18, sD 19, s2, sD 20, s2, sU, sU, sU, sU, sU], [], [(67, 2, [vR 1, vR 2]), (64, 1, [vI 0]), (64, 1, [vI 1]), (68, 2, [vR 4, vR 5]), (65, 1, [vD 11]), (65, 1, [vD 12])], 21, 6, 12)) (258, #[sF 6, sF 7, sF 8, sF 9, sF 10, sF 1, sF 2, sF 3, sF 4, sF 5, sR 0, sR 3, sF 13, sF 14, sD 15, s2, sD 16, s2, sF 17, sF 18, sD 19, s2, sD 20, s2, sR 6, sR 7, sR 49, sU, sU], [], dsB_00, 31, 79, 817) opsB_00 = true := by decide +kernel
def vcD_00 (b0 b1 b2 b3 : Int32) : Nat → UInt64 := own_D [0, 0, 0, 0, 0, 0, 0, 0, 0, 0, 0, FP.i2d b0, FP.i2d b3, 0, 0, 0, 0, 0, 0, 0, 0]
def bD_00 (D : Nat → UInt64) (w3 w4 ar1 ao1 w5 w6 ar2 ao2 : UInt64) : Nat → UInt64 := own_D [0, D 1, D 2, D 3, D 4, D 5, D 6, D 7, D 8, D 9, D 10, FP.i2d (iW (D 1)), FP.i2d (iW (D 4)), w3, w4, ar1, ao1, w5, w6, ar2, ao2]
theorem vcA_00 : own_all4 (fun b0 b1 b2 b3 => !(own_pt true b0 && (own_pt false b1 && (own_pt false b2 && (own_pt true b3 && own_dt (b0 * b3 - b1 * b2))))) || okvB opsB_00 21 (vcD_00 b0 b1 b2 b3)) = true := by decide +kernel
theorem vcR_00 : relB opsB_00 21 (fun i => decide (i = 0) || (decide (11 ≤ i) && decide (i < 13)) || decide (21 ≤ i)) = true := by decide +kernel
theorem rm84_00 (B : LWB p l e s m args below meth c T0 Z a0 h0 n0 L0 0 0) (D0 : D 0 = 0) (H : HB4 D) (z0 : (iW (D 1)).toInt ≠ 0) (z1 : (iW (D 2)).toInt = 0) (z2 : (iW (D 3)).toInt = 0) (z3 : (iW (D 4)).toInt ≠ 0) : Go p e below (EndQ s (Q_rm0 n0) 192 1792) T0 (mkF m 84 (fr84 D) []) := by
  obtain ⟨q0, q1, q2, q3⟩ := H.1
  have vB := own_vb (f := fun b0 b1 b2 b3 => okvB opsB_00 21 (vcD_00 b0 b1 b2 b3)) vcA_00 H (own_pn z0) (own_pz z1) (own_pz z2) (own_pn z3)
  refine goE (segL (A := fun _ => 0) (K := fun _ => 0) (D := D) (W := fun _ => .null) eB1_00 (scS ct_72 (scS ct_50 (scS ct_73 (scS ct_51 sc0)))) B YgF.nil D0 (by decide) ⟨z0, z1, z0, z2, z2, z3, z0, z1, z0, trivial, z2, z2, z3, trivial, trivial⟩ ?_) rfl
  intro T1 h1 L1 A1 K1 B1 hA1 Kp1 f1 Y1
  refine goE (mid136 (D := D) (c10 := A1 0) (c11 := A1 3) (B1.more (by decide) (by decide)) ?_) rfl
  intro T2 L2 w3 w4 w5 w6 ar1 ao1 ar2 ao2 k1 j1 k2 j2 B2 ho1 hr1 ho2 hr2 H1 H2
  refine goE (segL (A := A1) (K := K1) (D := bD_00 D w3 w4 ar1 ao1 w5 w6 ar2 ao2) (W := fun _ => .null) eB2_00 (scS ct_4 (scS ct_2 (scS ct_124 sc0))) B2 (YgF.congr Y1 rfl) rfl (by decide) (okv_rel _ _ _ (vcD_00 (iW (D 1)) (iW (D 2)) (iW (D 3)) (iW (D 4))) _ vcR_00 (fun i hi hr => by unfold bD_00 vcD_00; apply own_bag 13 21 (i := i) (hi := hi) (hr := hr) <;> rfl) (okvB_ok _ _ _ vB)) ?_) rfl
  intro T3 h3 L3 A3 K3 B3 hA3 Kp3 f3 Y3
  have r3 := rng32 (iW (D 9))
  have r4 := rng32 (iW (D 10))
  have HT := tm_00 (l := l) (n0 := n0) B3.2.2.2.2.2.2.2.2.1 (la := (own_AJ [21, 22, 23, 25, 10, 11, 26, 12, 13] A3)) (kl := (own_KJ [21, 22, 23, 25, 10, 11, 26, 12, 13] K3)) (g := (own_gJ [8, 9, 10, 11, 12, 13, 14, 15, 0, 21, 22, 23, 24, 25, 26, 27, 28, 29, 30, 34, 38, 42, 46, 1, 2, 4, 5] A3)) (M00 := (iW (D 1)).toInt) (M01 := (iW (D 2)).toInt) (M10 := (iW (D 3)).toInt) (M11 := (iW (D 4)).toInt) (a := (iW (D 1)).toInt) (u := 0) (L := 0) (Dd := 2 * (iW (D 4)).toInt) ⟨by omega, by omega, by decide, by omega, own_fix0.mpr (Jvm.FP.Core.i2d_int (iW (D 1))), rfl, rfl, own_fix1 (Jvm.FP.Core.i2d_int (iW (D 4))), rfl, z1, by rw [Int.zero_mul]; omega, by rw [Int.zero_mul]; omega⟩
  exact goE (rm258 (A := own_AJ [6, 7, 16, 17, 18, 19, 20, 49, 50, 51, 52, 0, 3] A3) (K := own_KJ [6, 7, 16, 17, 18, 19, 20, 49, 50, 51, 52, 0, 3] K3) (D := own_D [0, FP.i2d (iW (D 9)), FP.i2d (iW (D 10)), ar1, ao1, ar2, ao2, D 1, D 2, D 3, D 4, D 5, D 6, D 7, D 8, D 9, D 10]) (W := tmL (own_gJ [8, 9, 10, 11, 12, 13, 14, 15, 0, 21, 22, 23, 24, 25, 26, 27, 28, 29, 30, 34, 38, 42, 46, 1, 2, 4, 5] A3) (own_AJ [21, 22, 23, 25, 10, 11, 26, 12, 13] A3)) (B3.more (by decide) (by decide)) rfl ho1 hr1 ho2 hr2 ⟨q0, q1, q2, q3⟩ ⟨Jvm.FP.Core.i2d_int _, Jvm.FP.Core.i2d_int _, by omega, by omega⟩ H1 H2 HT (Yf.pick Y3.fl [6, 7, 16, 17, 18, 19, 20, 49, 50, 51, 52, 0, 3, 21, 22, 23, 25, 10, 11, 26, 12, 13] (by decide) rfl)) rfl
theorem eB1_10 : runIs (run code own_MN_4 29 (8, 192, 1792, 208) 136 32 [(cn_50, [], [0, 1, 2], []), (cn_72, [], [0, 3, 4], []), (cn_51, [], [0, 1, 2], []), (cn_73, [], [0, 3, 4], [])] [] (84, l84, [], [], 11, 0, 0)) (136, l136, [], [(67, 2, [vR 1, vR 2]), (64, 1, [vI 1]), (64, 1, [vI 0]), (68, 2, [vR 4, vR 5]), (65, 1, [vD 11]), (65, 1, [vD 12])], 13, 6, 8) [(13, 1, 0, 0), (13, 1, 0, 0), (13, 2, 0, 1), (13, 3, 0, 1), (13, 4, 0, 0), (13, 3, 0, 1), (13, 1, 0, 0), (13, 1, 0, 0), (13, 2, 0, 1), (7, 2, 0, 0), (13, 3, 0, 1), (13, 4, 0, 0), (13, 3, 0, 1), (7, 3, 0, 0)] = true := by decide +kernel
def dsB_10 : List AD := [(67, 2, [vR 1, vR 2]), (64, 1, [vI 1]), (64, 1, [vI 0]), (68, 2, [vR 4, vR 5]), (65, 1, [vD 11]), (65, 1, [vD 12]), (65, 2, [vD 21, vD 22]), (0, 0, [vR 8, vR 9, vR 10, vR 11, vR 12, vR 13, vR 14, vR 15, vR 16, vR 17, vR 18, vR 19, vR 20, vI 2, vR 21, vR 22, vR 23, vR 24, vR 25, vR 26, vR 27, vR 28, vR 29, vR 30, vR 34, vR 38, vR 42, vR 46, vI 0]), (64, 0, []), (65, 0, []), (64, 0, []), (65, 0, []), (64, 0, []), (65, 0, []), (64, 0, []), (65, 0, []), (64, 16, rp 16 (vI 0)), (65, 16, rp 16 (vD 0)), (64, 17, rp 17 (vI 0)), (64, 256, [vI 0, vI 0, vI 0, vI 0]), (65, 256, [vD 0, vD 0, vD 0, vD 0]), (64, 2, [vI 1, vI 0]), (64, 2, [vI 0, vI 1]), (65, 2, [vD 12, vD 11]), (64, 3, [vI 0, vI 0, vI 0]), (64, 3, [vI 0, vI 0, vI 0]), (64, 3, [vI 0, vI 0, vI 0]), (64, 3, [vI 0, vI 0, vI 0]), (64, 2, [vI 1, vI 0]), (64, 2, [vI 0, vI 1]), (1, 0, [vR 31, vR 32, vR 33, vI 0]), (65, 2, [vD 0, vD 0]), (66, 2, [vI 0, vI 0]), (64, 16, rp 16 (vI 0)), (1, 0, [vR 35, vR 36, vR 37, vI 0]), (65, 2, [vD 0, vD 0]), (66, 2, [vI 0, vI 0]), (64, 16, rp 16 (vI 0)), (1, 0, [vR 39, vR 40, vR 41, vI 0]), (65, 2, [vD 0, vD 0]), (66, 2, [vI 0, vI 0]), (64, 16, rp 16 (vI 0)), (1, 0, [vR 43, vR 44, vR 45, vI 0]), (65, 2, [vD 0, vD 0]), (66, 2, [vI 0, vI 0]), (64, 16, rp 16 (vI 0)), (2, 0, [vI (-1), vI 2, vR 47, vR 48]), (64, 2, [vI 0, vI 0]), (66, 2, [vI 0, vI 0]), (1, 0, [vR 50, vR 51, vR 52, vI 0]), (65, 2, [vD 0, vD 0]), (66, 2, [vI 0, vI 0]), (64, 16, rp 16 (vI 0)), (3, 0, [vR 7, vR 54, vR 55, vR 56, vR 57, vR 62, vR 66, vR 71, vR 76, vI 0, vI 0]), (67, 2, [vR 58, vR 60]), (68, 2, [vR 59, vR 61]), (64, 2, [vI 0, vI 0]), (64, 2, [vI 0, vI 0]), (64, 1, [vI 1]), (65, 1, [vD 11]), (64, 1, [vI 0]), (65, 1, [vD 12]), (67, 2, [vR 63, vR 64]), (64, 1, [vI 1]), (64, 1, [vI 0]), (64, 2, [vI 1, vI 1]), (4, 0, [vR 67, vR 68, vR 69, vR 70]), (64, 3, [vI (-1), vI (-1), vI (-1)]), (64, 2, [vI (-1), vI (-1)]), (64, 2, [vI (-1), vI 0]), (64, 2, [vI (-1), vI (-1)]), (4, 0, [vR 72, vR 73, vR 74, vR 75]), (64, 3, [vI (-1), vI (-1), vI (-1)]), (64, 2, [vI 1, vI (-1)]), (64, 2, [vI (-1), vI (-1)]), (64, 2, [vI (-1), vI (-1)]), (64, 2, [vI (-1), vI (-1)]), (64, 2, [vI 0, vI 0]), (64, 2, [vI 0, vI 0])]
def opsB_10 : List Op := [(7, 9, 0, 0), (7, 10, 0, 0), (4, 12, 0, 0), (11, 23, 4472406533629990549, 1), (4, 12, 0, 0), (5, 0, 24, 0), (2, 4591870180066957722, 25, 0), (10, 23, 26, 1), (4, 11, 0, 0), (11, 27, 4472406533629990549, 1), (4, 11, 0, 0), (5, 0, 28, 0), (2, 4591870180066957722, 29, 0), (10, 27, 30, 1)]
theorem eB2_10 : runIs (run code own_MN_4 29 (8, 192, 1792, 208) 258 30 [(cn_4, [7], [0], rp 13 (.null) ++ [vI 0] ++ rp 14 (.null) ++ [vI 0]), (cn_2, [49], [0], [.null, .null, .null, vI 0]), (cn_131, [0, 1, 2, 3, 4, 5, 7, 12, 14, 21, 22, 23, 24, 25, 26, 27, 28, 29], [0, 11, 12], [vR 8, vR 9, vR 10, vR 11, vR 13, vR 15, vR 16, vR 17, vR 18, vR 19, vR 20, vR 30, vR 34, vR 38, vR 42, vR 46] ++ rp 5 (vI 0) ++ [vD 0, vD 0, vI 0, vI 0, vI 0, vI 0])] [] (208, #[sF 6, sF 7, sF 8, sF 9, sF 10, sF 1, sF 2, sF 3, sF 4, sF 5, sR 0, sR 3, sF 13, sF 14, sD 15, s2, sD 16, s2, sF 17, sF 18, sD 19, s2, sD 20, s2, sU, sU, sU, sU, sU], [], [(67, 2, [vR 1, vR 2]), (64, 1, [vI 1]), (64, 1, [vI 0]), (68, 2, [vR 4, vR 5]), (65, 1, [vD 11]), (65, 1, [vD 12])], 21, 6, 12)) (258, #[sF 6, sF 7, sF 8, sF 9, sF 10, sF 1, sF 2, sF 3, sF 4, sF 5, sR 0, sR 3, sF 13, sF 14, sD 15, s2, sD 16, s2, sF 17, sF 18, sD 19, s2, sD 20, s2, sR 6, sR 7, sR 49, sU, sU], [], dsB_10, 31, 79, 817) opsB_10 = true := by decide +kernel
def vcD_10 (b0 b1 b2 b3 : Int32) : Nat → UInt64 := own_D [0, 0, 0, 0, 0, 0, 0, 0, 0, 0, 0, FP.i2d b1, FP.i2d b2, 0, 0, 0, 0, 0, 0, 0, 0]
def bD_10 (D : Nat → UInt64) (w3 w4 ar1 ao1 w5 w6 ar2 ao2 : UInt64) : Nat → UInt64 := own_D [0, D 1, D 2, D 3, D 4, D 5, D 6, D 7, D 8, D 9, D 10, FP.i2d (iW (D 2)), FP.i2d (iW (D 3)), w3, w4, ar1, ao1, w5, w6, ar2, ao2]
theorem vcA_10 : own_all4 (fun b0 b1 b2 b3 => !(own_pt false b0 && (own_pt true b1 && (own_pt true b2 && (own_pt false b3 && own_dt (b0 * b3 - b1 * b2))))) || okvB opsB_10 21 (vcD_10 b0 b1 b2 b3)) = true := by decide +kernel
theorem vcR_10 : relB opsB_10 21 (fun i => decide (i = 0) || (decide (11 ≤ i) && decide (i < 13)) || decide (21 ≤ i)) = true := by decide +kernel
theorem rm84_10 (B : LWB p l e s m args below meth c T0 Z a0 h0 n0 L0 0 0) (D0 : D 0 = 0) (H : HB4 D) (z0 : (iW (D 1)).toInt = 0) (z1 : (iW (D 2)).toInt ≠ 0) (z2 : (iW (D 3)).toInt ≠ 0) (z3 : (iW (D 4)).toInt = 0) : Go p e below (EndQ s (Q_rm0 n0) 192 1792) T0 (mkF m 84 (fr84 D) []) := by
  obtain ⟨q0, q1, q2, q3⟩ := H.1
  have vB := own_vb (f := fun b0 b1 b2 b3 => okvB opsB_10 21 (vcD_10 b0 b1 b2 b3)) vcA_10 H (own_pz z0) (own_pn z1) (own_pn z2) (own_pz z3)
  refine goE (segL (A := fun _ => 0) (K := fun _ => 0) (D := D) (W := fun _ => .null) eB1_10 (scS ct_50 (scS ct_72 (scS ct_51 (scS ct_73 sc0)))) B YgF.nil D0 (by decide) ⟨z0, z0, z1, z2, z3, z2, z0, z0, z1, trivial, z2, z3, z2, trivial, trivial⟩ ?_) rfl
  intro T1 h1 L1 A1 K1 B1 hA1 Kp1 f1 Y1
  refine goE (mid136 (D := D) (c10 := A1 0) (c11 := A1 3) (B1.more (by decide) (by decide)) ?_) rfl
  intro T2 L2 w3 w4 w5 w6 ar1 ao1 ar2 ao2 k1 j1 k2 j2 B2 ho1 hr1 ho2 hr2 H1 H2
  refine goE (segL (A := A1) (K := K1) (D := bD_10 D w3 w4 ar1 ao1 w5 w6 ar2 ao2) (W := fun _ => .null) eB2_10 (scS ct_4 (scS ct_2 (scS ct_131 sc0))) B2 (YgF.congr Y1 rfl) rfl (by decide) (okv_rel _ _ _ (vcD_10 (iW (D 1)) (iW (D 2)) (iW (D 3)) (iW (D 4))) _ vcR_10 (fun i hi hr => by unfold bD_10 vcD_10; apply own_bag 13 21 (i := i) (hi := hi) (hr := hr) <;> rfl) (okvB_ok _ _ _ vB)) ?_) rfl
  intro T3 h3 L3 A3 K3 B3 hA3 Kp3 f3 Y3
  have r3 := rng32 (iW (D 9))
  have r4 := rng32 (iW (D 10))
  have HT := tm_10 (l := l) (n0 := n0) B3.2.2.2.2.2.2.2.2.1 (la := (own_AJ [21, 22, 23, 25, 10, 11, 26, 12, 13] A3)) (kl := (own_KJ [21, 22, 23, 25, 10, 11, 26, 12, 13] K3)) (g := (own_gJ [8, 9, 10, 11, 12, 13, 14, 15, 0, 21, 22, 23, 24, 25, 26, 27, 28, 29, 30, 34, 38, 42, 46, 1, 2, 4, 5] A3)) (M00 := (iW (D 1)).toInt) (M01 := (iW (D 2)).toInt) (M10 := (iW (D 3)).toInt) (M11 := (iW (D 4)).toInt) (a := (iW (D 3)).toInt) (u := 0) (L := 0) (Dd := 2 * (iW (D 2)).toInt) ⟨by omega, by omega, by decide, by omega, own_fix0.mpr (Jvm.FP.Core.i2d_int (iW (D 3))), rfl, rfl, own_fix1 (Jvm.FP.Core.i2d_int (iW (D 2))), rfl, z3, by rw [Int.zero_mul]; omega, by rw [Int.zero_mul]; omega⟩
  exact goE (rm258 (A := own_AJ [6, 7, 16, 17, 18, 19, 20, 49, 50, 51, 52, 0, 3] A3) (K := own_KJ [6, 7, 16, 17, 18, 19, 20, 49, 50, 51, 52, 0, 3] K3) (D := own_D [0, FP.i2d (iW (D 9)), FP.i2d (iW (D 10)), ar1, ao1, ar2, ao2, D 1, D 2, D 3, D 4, D 5, D 6, D 7, D 8, D 9, D 10]) (W := tmL (own_gJ [8, 9, 10, 11, 12, 13, 14, 15, 0, 21, 22, 23, 24, 25, 26, 27, 28, 29, 30, 34, 38, 42, 46, 1, 2, 4, 5] A3) (own_AJ [21, 22, 23, 25, 10, 11, 26, 12, 13] A3)) (B3.more (by decide) (by decide)) rfl ho1 hr1 ho2 hr2 ⟨q0, q1, q2, q3⟩ ⟨Jvm.FP.Core.i2d_int _, Jvm.FP.Core.i2d_int _, by omega, by omega⟩ H1 H2 HT (Yf.pick Y3.fl [6, 7, 16, 17, 18, 19, 20, 49, 50, 51, 52, 0, 3, 21, 22, 23, 25, 10, 11, 26, 12, 13] (by decide) rfl)) rfl
theorem rm84 (B : LWB p l e s m args below meth c T0 Z a0 h0 n0 L0 0 0) (D0 : D 0 = 0) (H : HB4 D) : Go p e below (EndQ s (Q_rm0 n0) 192 1792) T0 (mkF m 84 (fr84 D) []) := by
  have hdi := own_hdi H
  have hds : (iW (D 5)).toInt = 1 ∨ (iW (D 5)).toInt = -1 ∨ (iW (D 5)).toInt = 2 ∨ (iW (D 5)).toInt = -2 ∨ (iW (D 5)).toInt = 4 ∨ (iW (D 5)).toInt = -4 := H.2.2
  rcases Decidable.em ((iW (D 1)).toInt = 0) with z0 | z0
  · skip
    rcases Decidable.em ((iW (D 2)).toInt = 0) with z1 | z1
    · skip
      rcases Decidable.em ((iW (D 3)).toInt = 0) with z2 | z2
      · skip
        rcases Decidable.em ((iW (D 4)).toInt = 0) with z3 | z3
        · skip
          exfalso; rw [z0, z1, z2, z3] at hdi; simp only [Int.zero_mul, Int.mul_zero] at hdi; omega
        · skip
          exfalso; rw [z0, z1, z2] at hdi; simp only [Int.zero_mul, Int.mul_zero] at hdi; omega
      · skip
        rcases Decidable.em ((iW (D 4)).toInt = 0) with z3 | z3
        · skip
          exfalso; rw [z0, z1, z3] at hdi; simp only [Int.zero_mul, Int.mul_zero] at hdi; omega
        · skip
          exfalso; rw [z0, z1] at hdi; simp only [Int.zero_mul, Int.mul_zero] at hdi; omega
    · skip
      rcases Decidable.em ((iW (D 3)).toInt = 0) with z2 | z2
      · skip
        rcases Decidable.em ((iW (D 4)).toInt = 0) with z3 | z3
        · skip
          exfalso; rw [z0, z2, z3] at hdi; simp only [Int.zero_mul, Int.mul_zero] at hdi; omega
        · skip
          exfalso; rw [z0, z2] at hdi; simp only [Int.zero_mul, Int.mul_zero] at hdi; omega
      · skip
        rcases Decidable.em ((iW (D 4)).toInt = 0) with z3 | z3
        · skip
          exact rm84_10 B D0 H z0 z1 z2 z3
        · skip
          exact rm84_10u B D0 H z0 z1 z2 z3
  · skip
    rcases Decidable.em ((iW (D 2)).toInt = 0) with z1 | z1
    · skip
      rcases Decidable.em ((iW (D 3)).toInt = 0) with z2 | z2
      · skip
        rcases Decidable.em ((iW (D 4)).toInt = 0) with z3 | z3
        · skip
          exfalso; rw [z1, z2, z3] at hdi; simp only [Int.zero_mul, Int.mul_zero] at hdi; omega
        · skip
          exact rm84_00 B D0 H z0 z1 z2 z3
      · skip
        rcases Decidable.em ((iW (D 4)).toInt = 0) with z3 | z3
        · skip
          exfalso; rw [z1, z3] at hdi; simp only [Int.zero_mul, Int.mul_zero] at hdi; omega
        · skip
          exact rm84_11u B D0 H z0 z1 z2 z3
    · skip
      rcases Decidable.em ((iW (D 3)).toInt = 0) with z2 | z2
      · skip
        rcases Decidable.em ((iW (D 4)).toInt = 0) with z3 | z3
        · skip
          exfalso; rw [z2, z3] at hdi; simp only [Int.zero_mul, Int.mul_zero] at hdi; omega
        · skip
          exact rm84_00u B D0 H z0 z1 z2 z3
      · skip
        rcases Decidable.em ((iW (D 4)).toInt = 0) with z3 | z3
        · skip
          exact rm84_01u B D0 H z0 z1 z2 z3
        · skip
          exact rm84_00ul B D0 H z0 z1 z2 z3
theorem w84 {p0 p1 p2 p3 p4 b0 b1 b2 b3 dt : Int32} (B : LWB p l e s m args below meth c T0 Z a0 h0 n0 L0 0 0) (q0 : -2 ≤ b0.toInt ∧ b0.toInt ≤ 2) (q1 : -2 ≤ b1.toInt ∧ b1.toInt ≤ 2) (q2 : -2 ≤ b2.toInt ∧ b2.toInt ≤ 2) (q3 : -2 ≤ b3.toInt ∧ b3.toInt ≤ 2) (hdt : b0 * b3 - b1 * b2 = dt) (hds : dt.toInt = 1 ∨ dt.toInt = -1 ∨ dt.toInt = 2 ∨ dt.toInt = -2 ∨ dt.toInt = 4 ∨ dt.toInt = -4) : Go p e below (EndQ s (Q_rm0 n0) 192 1792) T0 (mkF m 84 #[.val (.int p0), .val (.int p1), .val (.int p2), .val (.int p3), .val (.int p4), .val (.int b0), .val (.int b1), .val (.int b2), .val (.int b3), .val (.int dt), .unset, .unset, .unset, .unset, .unset, .unset, .unset, .unset, .unset, .unset, .unset, .unset, .unset, .unset, .unset, .unset, .unset, .unset, .unset] []) := by
  obtain ⟨w0_, rfl⟩ : ∃ w, iW w = b0 := ⟨_, own_iw b0⟩
  obtain ⟨w1_, rfl⟩ : ∃ w, iW w = b1 := ⟨_, own_iw b1⟩
  obtain ⟨w2_, rfl⟩ : ∃ w, iW w = b2 := ⟨_, own_iw b2⟩
  obtain ⟨w3_, rfl⟩ : ∃ w, iW w = b3 := ⟨_, own_iw b3⟩
  obtain ⟨w4_, rfl⟩ : ∃ w, iW w = dt := ⟨_, own_iw dt⟩
  obtain ⟨w5_, rfl⟩ : ∃ w, iW w = p0 := ⟨_, own_iw p0⟩
  obtain ⟨w6_, rfl⟩ : ∃ w, iW w = p1 := ⟨_, own_iw p1⟩
  obtain ⟨w7_, rfl⟩ : ∃ w, iW w = p2 := ⟨_, own_iw p2⟩
  obtain ⟨w8_, rfl⟩ : ∃ w, iW w = p3 := ⟨_, own_iw p3⟩
  obtain ⟨w9_, rfl⟩ : ∃ w, iW w = p4 := ⟨_, own_iw p4⟩
  exact goE (rm84 (D := own_D [0, w0_, w1_, w2_, w3_, w4_, w5_, w6_, w7_, w8_, w9_]) B rfl ⟨⟨q0, q1, q2, q3⟩, hdt, hds⟩) rfl
end OwnLaw
theorem own_pfx : plainFor x = true := plainFor_of_name (show plainName "com/example/tracefold/tracefold/mining/FactoredInverseTimesPinLaw" = true by first | (simp [plainName, overriddenIn]; done) | decide +kernel)
theorem ef_rm0 (p0 : Int32) (p1 : Int32) (p2 : Int32) (p3 : Int32) (p4 : Int32) (m : MethodId) : entryFrame m #[(.int p0), (.int p1), (.int p2), (.int p3), (.int p4)] maxLocals = mkF m 0 #[.val (.int p0), .val (.int p1), .val (.int p2), .val (.int p3), .val (.int p4), .unset, .unset, .unset, .unset, .unset, .unset, .unset, .unset, .unset, .unset, .unset, .unset, .unset, .unset, .unset, .unset, .unset, .unset, .unset, .unset, .unset, .unset, .unset, .unset] [] := by first | (simp [entryFrame, mkF, argsToLocals, Value.category, maxLocals]; done) | rfl
theorem rm0 (l : Launch) (Z : State) (a0 : Array Value) (hw : HW a0 Z) (ws : List Jvm.Cond) (p0 : Int32) (p1 : Int32) (p2 : Int32) (p3 : Int32) (p4 : Int32) (h0 : Heap) (n0 : Nat) (Z0 : n0 ≤ h0.size)  :
    MetFree l x (head1 (Jvm.Cond.code x code maxLocals ret :: ws) room_1) (fun as_ U => as_ = #[(.int p0), (.int p1), (.int p2), (.int p3), (.int p4)] ∧ Z.Warmed39 U.vm ∧ U.heap = h0) (fun _ _ _ _ _ => True) (fun _ U o U' => ∃ v L, o = .returned v ∧ Q_rm0 n0 v U'.heap L ∧ FrameEnd U o U' L 192 1792) := by
  refine own_met own_pfx (ef_rm0 p0 p1 p2 p3 p4) ?_
  intro p e s m below meth c T0 X0 hx hby hml hret hlk hnm hown hZ e0
  have N0 := Fr.nil n0
  refine g_iloadN X0 hx 1 (hb hby at_0) rfl rfl ?_
  refine g_iconst X0 hx (0 : Int32) 2 (hb hby at_1) rfl (by decide) ?_
  refine g_static X0 hx hZ hown (tw hw 0 rfl) (tw hw 1 rfl) (tw hw 2 rfl) (tw hw 3 rfl) (by decide) (rmEn l Z a0 hw p0 (0 : Int32) h0 n0 Z0) e0 (argsL := [(.int p0), (.int (0 : Int32))]) (rest := []) rfl rfl 0 5 rfl (by rw [hml]; rfl) (lenOf own_pd0 rfl) (Nat.le_refl _) (by decide) (by decide) (by decide) (by decide) (hb hby at_2) ?_
  intro v24 T24 L24 X24 hQ24
  obtain ⟨b0, rfl, q0, N24, E24⟩ := hQ24
  have N25 := Fr.app N0 N24
  show Go p e below _ T24 (mkF m 5 #[.val (.int p0), .val (.int p1), .val (.int p2), .val (.int p3), .val (.int p4), .unset, .unset, .unset, .unset, .unset, .unset, .unset, .unset, .unset, .unset, .unset, .unset, .unset, .unset, .unset, .unset, .unset, .unset, .unset, .unset, .unset, .unset, .unset, .unset] [(.int b0)])
  refine g_istore (l' := #[.val (.int p0), .val (.int p1), .val (.int p2), .val (.int p3), .val (.int p4), .val (.int b0), .unset, .unset, .unset, .unset, .unset, .unset, .unset, .unset, .unset, .unset, .unset, .unset, .unset, .unset, .unset, .unset, .unset, .unset, .unset, .unset, .unset, .unset, .unset]) X24 hx 7 (hb hby at_5) rfl rfl ?_
  refine g_iloadN X24 hx 8 (hb hby at_7) rfl rfl ?_
  refine g_bipush X24 hx (8 : Int32) 10 (hb hby at_8) rfl (by decide) ?_
  refine g_static X24 hx hZ hown (tw hw 0 rfl) (tw hw 1 rfl) (tw hw 2 rfl) (tw hw 3 rfl) (by decide) (rmEn l Z a0 hw p0 (8 : Int32) h0 n0 Z0) E24 (argsL := [(.int p0), (.int (8 : Int32))]) (rest := []) rfl rfl 0 13 rfl (by rw [hml]; rfl) (lenOf own_pd0 rfl) (Nat.le_refl _) (by decide) (by decide) (by decide) (by decide) (hb hby at_10) ?_
  intro v26 T26 L26 X26 hQ26
  obtain ⟨b1, rfl, q1, N26, E26⟩ := hQ26
  have N27 := Fr.app N25 N26
  show Go p e below _ T26 (mkF m 13 #[.val (.int p0), .val (.int p1), .val (.int p2), .val (.int p3), .val (.int p4), .val (.int b0), .unset, .unset, .unset, .unset, .unset, .unset, .unset, .unset, .unset, .unset, .unset, .unset, .unset, .unset, .unset, .unset, .unset, .unset, .unset, .unset, .unset, .unset, .unset] [(.int b1)])
  refine g_istore (l' := #[.val (.int p0), .val (.int p1), .val (.int p2), .val (.int p3), .val (.int p4), .val (.int b0), .val (.int b1), .unset, .unset, .unset, .unset, .unset, .unset, .unset, .unset, .unset, .unset, .unset, .unset, .unset, .unset, .unset, .unset, .unset, .unset, .unset, .unset, .unset, .unset]) X26 hx 15 (hb hby at_13) rfl rfl ?_
  refine g_iloadN X26 hx 16 (hb hby at_15) rfl rfl ?_
  refine g_bipush X26 hx (16 : Int32) 18 (hb hby at_16) rfl (by decide) ?_
  refine g_static X26 hx hZ hown (tw hw 0 rfl) (tw hw 1 rfl) (tw hw 2 rfl) (tw hw 3 rfl) (by decide) (rmEn l Z a0 hw p0 (16 : Int32) h0 n0 Z0) E26 (argsL := [(.int p0), (.int (16 : Int32))]) (rest := []) rfl rfl 0 21 rfl (by rw [hml]; rfl) (lenOf own_pd0 rfl) (Nat.le_refl _) (by decide) (by decide) (by decide) (by decide) (hb hby at_18) ?_
  intro v28 T28 L28 X28 hQ28
  obtain ⟨b2, rfl, q2, N28, E28⟩ := hQ28
  have N29 := Fr.app N27 N28
  show Go p e below _ T28 (mkF m 21 #[.val (.int p0), .val (.int p1), .val (.int p2), .val (.int p3), .val (.int p4), .val (.int b0), .val (.int b1), .unset, .unset, .unset, .unset, .unset, .unset, .unset, .unset, .unset, .unset, .unset, .unset, .unset, .unset, .unset, .unset, .unset, .unset, .unset, .unset, .unset, .unset] [(.int b2)])
  refine g_istore (l' := #[.val (.int p0), .val (.int p1), .val (.int p2), .val (.int p3), .val (.int p4), .val (.int b0), .val (.int b1), .val (.int b2), .unset, .unset, .unset, .unset, .unset, .unset, .unset, .unset, .unset, .unset, .unset, .unset, .unset, .unset, .unset, .unset, .unset, .unset, .unset, .unset, .unset]) X28 hx 23 (hb hby at_21) rfl rfl ?_
  refine g_iloadN X28 hx 24 (hb hby at_23) rfl rfl ?_
  refine g_bipush X28 hx (24 : Int32) 26 (hb hby at_24) rfl (by decide) ?_
  refine g_static X28 hx hZ hown (tw hw 0 rfl) (tw hw 1 rfl) (tw hw 2 rfl) (tw hw 3 rfl) (by decide) (rmEn l Z a0 hw p0 (24 : Int32) h0 n0 Z0) E28 (argsL := [(.int p0), (.int (24 : Int32))]) (rest := []) rfl rfl 0 29 rfl (by rw [hml]; rfl) (lenOf own_pd0 rfl) (Nat.le_refl _) (by decide) (by decide) (by decide) (by decide) (hb hby at_26) ?_
  intro v30 T30 L30 X30 hQ30
  obtain ⟨b3, rfl, q3, N30, E30⟩ := hQ30
  have N31 := Fr.app N29 N30
  show Go p e below _ T30 (mkF m 29 #[.val (.int p0), .val (.int p1), .val (.int p2), .val (.int p3), .val (.int p4), .val (.int b0), .val (.int b1), .val (.int b2), .unset, .unset, .unset, .unset, .unset, .unset, .unset, .unset, .unset, .unset, .unset, .unset, .unset, .unset, .unset, .unset, .unset, .unset, .unset, .unset, .unset] [(.int b3)])
  refine g_istore (l' := #[.val (.int p0), .val (.int p1), .val (.int p2), .val (.int p3), .val (.int p4), .val (.int b0), .val (.int b1), .val (.int b2), .val (.int b3), .unset, .unset, .unset, .unset, .unset, .unset, .unset, .unset, .unset, .unset, .unset, .unset, .unset, .unset, .unset, .unset, .unset, .unset, .unset, .unset]) X30 hx 31 (hb hby at_29) rfl rfl ?_
  refine g_iload X30 hx 33 (hb hby at_31) rfl rfl ?_
  refine g_iload X30 hx 35 (hb hby at_33) rfl rfl ?_
  refine g_imul X30 hx 36 (hb hby at_35) rfl ?_
  refine g_iload X30 hx 38 (hb hby at_36) rfl rfl ?_
  refine g_iload X30 hx 40 (hb hby at_38) rfl rfl ?_
  refine g_imul X30 hx 41 (hb hby at_40) rfl ?_
  refine g_isub X30 hx 42 (hb hby at_41) rfl ?_
  refine g_istore (l' := #[.val (.int p0), .val (.int p1), .val (.int p2), .val (.int p3), .val (.int p4), .val (.int b0), .val (.int b1), .val (.int b2), .val (.int b3), .val (.int ((b0 * b3) - (b1 * b2))), .unset, .unset, .unset, .unset, .unset, .unset, .unset, .unset, .unset, .unset, .unset, .unset, .unset, .unset, .unset, .unset, .unset, .unset, .unset]) X30 hx 44 (hb hby at_42) rfl rfl ?_
  refine g_iload X30 hx 46 (hb hby at_44) rfl rfl ?_
  refine g_iconst X30 hx (1 : Int32) 47 (hb hby at_46) rfl (by decide) ?_
  generalize hdt : ((b0 * b3) - (b1 * b2)) = dt
  have lm1 : (-1 : Int32).toInt = -1 := by decide
  have lm2 : (-2 : Int32).toInt = -2 := by decide
  have lm4 : (-4 : Int32).toInt = -4 := by decide
  have lp1 : (1 : Int32).toInt = 1 := by decide
  have lp2 : (2 : Int32).toInt = 2 := by decide
  have lp4 : (4 : Int32).toInt = 4 := by decide
  have ll33 : ((1 : Int32) : Int32).toInt = 1 := by decide
  refine g_ic_eq X30 hx 84 50 (hb hby at_47) (by decide) (by decide) rfl (fun c32 => ?_) (fun c32 => ?_)
  · skip
    exact w84 ⟨X30, hx, hby, hml, hret, hlk, hown, hZ, hw, E30, Z0, N31⟩ q0 q1 q2 q3 hdt (by omega)
  · skip
    refine g_iload X30 hx 52 (hb hby at_50) rfl rfl ?_
    refine g_iconst X30 hx (-1 : Int32) 53 (hb hby at_52) rfl (by decide) ?_
    have ll35 : ((-1 : Int32) : Int32).toInt = -1 := by decide
    refine g_ic_eq X30 hx 84 56 (hb hby at_53) (by decide) (by decide) rfl (fun c34 => ?_) (fun c34 => ?_)
    · skip
      exact w84 ⟨X30, hx, hby, hml, hret, hlk, hown, hZ, hw, E30, Z0, N31⟩ q0 q1 q2 q3 hdt (by omega)
    · skip
      refine g_iload X30 hx 58 (hb hby at_56) rfl rfl ?_
      refine g_iconst X30 hx (2 : Int32) 59 (hb hby at_58) rfl (by decide) ?_
      have ll37 : ((2 : Int32) : Int32).toInt = 2 := by decide
      refine g_ic_eq X30 hx 84 62 (hb hby at_59) (by decide) (by decide) rfl (fun c36 => ?_) (fun c36 => ?_)
      · skip
        exact w84 ⟨X30, hx, hby, hml, hret, hlk, hown, hZ, hw, E30, Z0, N31⟩ q0 q1 q2 q3 hdt (by omega)
      · skip
        refine g_iload X30 hx 64 (hb hby at_62) rfl rfl ?_
        refine g_bipush X30 hx (-2 : Int32) 66 (hb hby at_64) rfl (by decide) ?_
        have ll39 : ((-2 : Int32) : Int32).toInt = -2 := by decide
        refine g_ic_eq X30 hx 84 69 (hb hby at_66) (by decide) (by decide) rfl (fun c38 => ?_) (fun c38 => ?_)
        · skip
          exact w84 ⟨X30, hx, hby, hml, hret, hlk, hown, hZ, hw, E30, Z0, N31⟩ q0 q1 q2 q3 hdt (by omega)
        · skip
          refine g_iload X30 hx 71 (hb hby at_69) rfl rfl ?_
          refine g_iconst X30 hx (4 : Int32) 72 (hb hby at_71) rfl (by decide) ?_
          have ll41 : ((4 : Int32) : Int32).toInt = 4 := by decide
          refine g_ic_eq X30 hx 84 75 (hb hby at_72) (by decide) (by decide) rfl (fun c40 => ?_) (fun c40 => ?_)
          · skip
            exact w84 ⟨X30, hx, hby, hml, hret, hlk, hown, hZ, hw, E30, Z0, N31⟩ q0 q1 q2 q3 hdt (by omega)
          · skip
            refine g_iload X30 hx 77 (hb hby at_75) rfl rfl ?_
            refine g_bipush X30 hx (-4 : Int32) 79 (hb hby at_77) rfl (by decide) ?_
            have ll43 : ((-4 : Int32) : Int32).toInt = -4 := by decide
            refine g_ic_eq X30 hx 84 82 (hb hby at_79) (by decide) (by decide) rfl (fun c42 => ?_) (fun c42 => ?_)
            · skip
              exact w84 ⟨X30, hx, hby, hml, hret, hlk, hown, hZ, hw, E30, Z0, N31⟩ q0 q1 q2 q3 hdt (by omega)
            · skip
              refine g_iconst X30 hx (1 : Int32) 83 (hb hby at_82) rfl (by decide) ?_
              exact g_retZ X30 hx hlk hret (hb hby at_83) (by decide) (by decide) E30 ⟨rfl, N31⟩
theorem comes_1 {Post : Tables → Env → Array Value → State → Outcome → State → Prop} (hpost : ∀ tb e args s v u, (limb_1_1.after args s (.returned v) u = true ∧ limb_1_2.after args s (.returned v) u = true ∧ True) → FrameEnd s (.returned v) u (Jvm.fieldLocs frame_1_writes args s ++ Jvm.arrayLocs frame_1_arrays args s ++ Jvm.staticLocs frame_1_statics s) 192 1792 → Post tb e args s (.returned v) u) :
    ArmFor flags0 classFile x code maxLocals ret World_1 tables_1 room_1 Calls_1 rest_1 Pre_1 Post := by
  intro l hfl _ _ p e ha hc hk s m args below hf hA hF happ hP
  obtain ⟨hcalls, hrest, hpre⟩ := hP
  obtain ⟨-, -, -, hnamed, -, -, -, hat⟩ := (Spec.applies_iff hf).mp happ
  obtain ⟨hg, hn⟩ := and_e (Cond.before_iff.mp (show (Jvm.Cond.and given_1 narrow_1).before args s = true from hpre))
  obtain ⟨h1, g0⟩ := and_e hg
  obtain ⟨t0, g1⟩ := and_e g0
  obtain ⟨t1, g2⟩ := and_e g1
  obtain ⟨t2, g3⟩ := and_e g2
  obtain ⟨t3, g4⟩ := and_e g3
  have t4 := g4
  obtain ⟨w0, w1, w2, w3, w4, rfl⟩ : ∃ w0 w1 w2 w3 w4 : Value, args = #[w0, w1, w2, w3, w4] := by
    have hs : args.size = 5 := by simpa [Cond.value, given_1] using h1
    obtain ⟨L⟩ := args
    match L, hs with
    | [w0, w1, w2, w3, w4], _ => exact ⟨w0, w1, w2, w3, w4, rfl⟩
  have hw := fun d (hd : d ∈ tables_1) => atoms_spec (ws := Jvm.Cond.code x code maxLocals ret :: tables_1) hat d (List.mem_cons_of_mem _ hd)
  obtain ⟨i0, e0⟩ := is_v t0
  obtain rfl : w0 = (.int i0) := Option.some.inj e0
  obtain ⟨i1, e1⟩ := is_v t1
  obtain rfl : w1 = (.int i1) := Option.some.inj e1
  obtain ⟨i2, e2⟩ := is_v t2
  obtain rfl : w2 = (.int i2) := Option.some.inj e2
  obtain ⟨i3, e3⟩ := is_v t3
  obtain rfl : w3 = (.int i3) := Option.some.inj e3
  obtain ⟨i4, e4⟩ := is_v t4
  obtain rfl : w4 = (.int i4) := Option.some.inj e4
  obtain ⟨n, o, h1, h2, h3, _, L, rfl, ⟨rfl, N⟩, hq⟩ := rm0 l s _ hw tables_1 i0 i1 i2 i3 i4 s.heap s.heap.size (Nat.le_refl _)  p e ha hc hk s m _ below hf ((Spec.applies_iff_loose hf).mp happ).1 ⟨rfl, State.Warmed39.refl s, rfl⟩ trivial
  refine ⟨n, _, h1, h2, h3, hpost _ _ _ _ _ _ ⟨Cond.after_iff.mpr rfl, Cond.after_iff.mpr (eq_i res_at (Term.int_eval (1)) rfl), trivial⟩ ⟨hq.1, hq.2.1, (hq.2.2.sift fun y hy => Or.inr (N y hy)).mono (by decide) (by decide)⟩⟩
theorem main_1_1 : Claimed_1_1 := comes_1 fun _ _ _ _ _ _ h hF => ⟨h.1, hF⟩
theorem main_1_2 : Claimed_1_2 := comes_1 fun _ _ _ _ _ _ h hF => ⟨h.2.1, hF⟩
end Jvm.Pilot.@@N@@
namespace Jvm.Pilot.@@N@@
open Jvm Jvm.ClassFile Sem Op Lib Jvm.Free Jvm.Stand Jvm.Pilot.@@N@@.Jvm.D
/-! MADE BY PROGRAM (witnessworld.py) out of the Statement's table words and the real class files: 21 classes; the members and pool entries that the words name. The judged class is class 1, her method 1. -/
namespace start1
open Jvm.ClassFile
def u (s : String) : CpInfo := .utf8 (stringToUtf16 s)
def gap : Nat → List CpInfo → List CpInfo
  | 0, r => r
  | n + 1, r => .unusable :: gap n r
def poolList (es : List (Nat × CpInfo)) (last : Nat) : List CpInfo := es.foldr (fun e r => gap e.1 (e.2 :: r)) (gap last [])
def pool (es : List (Nat × CpInfo)) (last : Nat) : Array CpInfo := ⟨poolList es last⟩
def fileOf (pool : Array CpInfo) (this : Nat) (attrs : Array Attribute := #[]) (ms : Array MethodInfo := #[]) (fl : Nat := 33) (sup : Nat := 0) (ifs : Array Nat := #[]) (fds : Array FieldInfo := #[]) : ClassFile where
  minorVersion := 0
  majorVersion := 65
  constantPool := pool
  accessFlags := fl
  thisClass := this
  superClass := sup
  interfaces := ifs
  fields := fds
  methods := ms
  attributes := attrs
def plain (name : String) (sup : Option ClassId) : Class where
  name := name
  kind := .ordinary
  loader := none
  accessFlags := 33
  super := sup
  interfaces := #[]
  cf := none
  fields := #[]
  methods := #[]
  instanceTypes := #[]
  staticTypes := #[]
  resolved := #[]
  callSites := []
  init := .initialized
  statics := none
  mirror := none

def pool0 : Array CpInfo := pool [(5, u "<init>"), (0, u "()V"), (1, .class_ 10), (1, u "java/lang/Object"), (85, u "clone"), (0, u "()Ljava/lang/Object;")] 26

def k0c0 : Code := { maxStack := 0, maxLocals := 1, code := object_method_1_code, exceptionTable := #[], attributes := #[] }
def k0m0 : Method := { name := "<init>", desc := "()V", sig := { parameters := [], returnType := none }, accessFlags := 1, code := some k0c0 }
def k0m1 : Method := { name := "clone", desc := "()Ljava/lang/Object;", sig := { parameters := [], returnType := some (.object "java/lang/Object") }, accessFlags := 260, code := none }
def k0 : Class := { plain "java/lang/Object" none with
  accessFlags := 33
  interfaces := #[]
  cf := some (fileOf pool0 8 #[] #[⟨1, 5, 6, #[]⟩, ⟨260, 96, 97, #[]⟩] 33 0 #[] #[])
  fields := #[]
  methods := #[k0m0, k0m1]
  instanceTypes := #[]
  staticTypes := #[]
  resolved := Array.replicate 124 none
  statics := none }

def pool1 : Array CpInfo := pool [(2, .class_ 4), (1, u "java/lang/Object"), (0, u "<init>"), (0, u "()V"), (0, .methodref 8 9), (0, .class_ 10), (0, .nameAndType 11 12), (0, u "com/example/tracefold/tracefold/mining/FactoredInverseTimesPinLaw"), (0, u "entry"), (0, u "(II)I"), (0, .class_ 14), (0, u "[I"), (0, .methodref 8 16), (0, .nameAndType 17 18), (0, u "cols"), (0, u "(II)[I"), (0, .class_ 20), (0, u "[D"), (0, .methodref 8 22), (0, .nameAndType 23 24), (0, u "vals"), (0, u "(II)[D"), (0, .methodref 8 26), (0, .nameAndType 27 28), (0, u "pivotOf"), (0, u "(I)D"), (0, .methodref 8 30), (0, .nameAndType 31 28), (0, u "otherOf"), (0, .class_ 33), (0, u "com/example/tracefold/tracefold/mining/FactoredInverse"), (0, .methodref 32 35), (0, .nameAndType 5 36), (0, u "(I)V"), (0, .class_ 38), (0, u "com/example/tracefold/tracefold/mining/SparseVector"), (0, .methodref 37 35), (0, .methodref 32 41), (0, .nameAndType 42 43), (0, u "invert"), (0, u "([[I[[D)Z"), (0, .methodref 37 45), (0, .nameAndType 46 47), (0, u "set"), (0, u "(ID)V"), (0, .methodref 32 49), (0, .nameAndType 50 51), (0, u "replaceRow"), (0, u "(ILcom/example/tracefold/tracefold/mining/SparseVector;)V"), (0, .methodref 32 53), (0, .nameAndType 54 55), (0, u "times"), (0, u "([D)[D"), (0, .methodref 8 57), (0, .nameAndType 58 59), (0, u "eta"), (0, u "([DIDD)[D"), (0, .double 13830554455654793216), (1, .double 4611686018427387904), (1, .double 13835058055282163712), (3, u "law"), (0, u "(IIIII)Z")] 7

def k1m0 : Method := { name := "<init>", desc := "()V", sig := { parameters := [], returnType := none }, accessFlags := 1, code := none }
def k1c1 : Code := { maxStack := 9, maxLocals := 29, code := code, exceptionTable := #[], attributes := #[] }
def k1m1 : Method := { name := "law", desc := "(IIIII)Z", sig := { parameters := [.int, .int, .int, .int, .int], returnType := some .boolean }, accessFlags := 9, code := some k1c1 }
def k1c2 : Code := { maxStack := 2, maxLocals := 2, code := method_3_code, exceptionTable := #[], attributes := #[] }
def k1m2 : Method := { name := "entry", desc := "(II)I", sig := { parameters := [.int, .int], returnType := some .int }, accessFlags := 10, code := some k1c2 }
def k1c3 : Code := { maxStack := 2, maxLocals := 2, code := method_4_code, exceptionTable := #[], attributes := #[] }
def k1m3 : Method := { name := "pivotOf", desc := "(I)D", sig := { parameters := [.int], returnType := some .double }, accessFlags := 10, code := some k1c3 }
def k1c4 : Code := { maxStack := 2, maxLocals := 1, code := method_5_code, exceptionTable := #[], attributes := #[] }
def k1m4 : Method := { name := "otherOf", desc := "(I)D", sig := { parameters := [.int], returnType := some .double }, accessFlags := 10, code := some k1c4 }
def k1c5 : Code := { maxStack := 4, maxLocals := 2, code := method_6_code, exceptionTable := #[], attributes := #[] }
def k1m5 : Method := { name := "cols", desc := "(II)[I", sig := { parameters := [.int, .int], returnType := some (.array .int) }, accessFlags := 10, code := some k1c5 }
def k1c6 : Code := { maxStack := 5, maxLocals := 2, code := method_7_code, exceptionTable := #[], attributes := #[] }
def k1m6 : Method := { name := "vals", desc := "(II)[D", sig := { parameters := [.int, .int], returnType := some (.array .double) }, accessFlags := 10, code := some k1c6 }
def k1c7 : Code := { maxStack := 9, maxLocals := 7, code := method_8_code, exceptionTable := #[], attributes := #[] }
def k1m7 : Method := { name := "eta", desc := "([DIDD)[D", sig := { parameters := [(.array .double), .int, .double, .double], returnType := some (.array .double) }, accessFlags := 10, code := some k1c7 }
def k1 : Class := { plain "com/example/tracefold/tracefold/mining/FactoredInverseTimesPinLaw" (some 0) with
  accessFlags := 49
  interfaces := #[]
  cf := some (fileOf pool1 8 #[] #[⟨1, 5, 6, #[]⟩, ⟨9, 68, 69, #[]⟩, ⟨10, 11, 12, #[]⟩, ⟨10, 27, 28, #[]⟩, ⟨10, 31, 28, #[]⟩, ⟨10, 17, 18, #[]⟩, ⟨10, 23, 24, #[]⟩, ⟨10, 58, 59, #[]⟩] 49 2 #[] #[])
  fields := #[]
  methods := #[k1m0, k1m1, k1m2, k1m3, k1m4, k1m5, k1m6, k1m7]
  instanceTypes := #[]
  staticTypes := #[]
  resolved := Array.replicate 77 none
  statics := none }

def pool2 : Array CpInfo := pool [(1, .class_ 2), (0, u "com/example/tracefold/tracefold/mining/BasisInverse"), (0, .class_ 4), (0, u "java/lang/Object")] 14

def k2 : Class := { plain "com/example/tracefold/tracefold/mining/BasisInverse" (some 0) with
  accessFlags := 1536
  interfaces := #[]
  cf := some (fileOf pool2 1 #[] #[] 1536 3 #[] #[])
  fields := #[]
  methods := #[]
  instanceTypes := #[]
  staticTypes := #[]
  resolved := Array.replicate 19 none
  statics := none }

def pool3 : Array CpInfo := pool [(1, .methodref 2 3), (0, .class_ 4), (0, .nameAndType 5 6), (0, u "java/lang/Object"), (0, u "<init>"), (0, u "()V"), (0, .fieldref 8 9), (0, .class_ 10), (0, .nameAndType 11 12), (0, u "com/example/tracefold/tracefold/mining/FactoredInverse"), (0, u "uColumns"), (0, u "[I"), (0, .fieldref 8 14), (0, .nameAndType 15 16), (0, u "uValues"), (0, u "[D"), (0, .fieldref 8 18), (0, .nameAndType 19 12), (0, u "lRows"), (0, .fieldref 8 21), (0, .nameAndType 22 16), (0, u "lValues"), (0, .fieldref 8 24), (0, .nameAndType 25 12), (0, u "uColumnSteps"), (0, .fieldref 8 27), (0, .nameAndType 28 16), (0, u "uColumnValues"), (0, .fieldref 8 30), (0, .nameAndType 31 12), (0, u "lRowSteps"), (0, .fieldref 8 33), (0, .nameAndType 34 16), (0, u "lRowValues"), (0, .fieldref 8 36), (0, .nameAndType 37 12), (0, u "etaRows"), (0, .fieldref 8 39), (0, .nameAndType 40 16), (0, u "etaPivots"), (0, .fieldref 8 42), (0, .nameAndType 43 12), (0, u "etaStarts"), (0, .fieldref 8 45), (0, .nameAndType 46 12), (0, u "etaPositions"), (0, .fieldref 8 48), (0, .nameAndType 49 16), (0, u "etaValues"), (0, .fieldref 8 51), (0, .nameAndType 52 53), (0, u "n"), (0, u "I"), (0, .fieldref 8 55), (0, .nameAndType 56 12), (0, u "pivotRows"), (0, .fieldref 8 58), (0, .nameAndType 59 12), (0, u "pivotColumns"), (0, .fieldref 8 61), (0, .nameAndType 62 16), (0, u "pivotValues"), (0, .fieldref 8 64), (0, .nameAndType 65 12), (0, u "uStarts"), (0, .fieldref 8 67), (0, .nameAndType 68 12), (0, u "lStarts"), (0, .fieldref 8 70), (0, .nameAndType 71 12), (0, u "uColumnStarts"), (0, .fieldref 8 73), (0, .nameAndType 74 12), (0, u "lRowStarts"), (0, .fieldref 8 76), (0, .nameAndType 77 12), (0, u "rowSteps"), (0, .fieldref 8 79), (0, .nameAndType 80 12), (0, u "columnSteps"), (0, .class_ 82), (0, u "com/example/tracefold/tracefold/mining/SparseVector"), (0, .methodref 81 84), (0, .nameAndType 5 85), (0, u "(I)V"), (0, .fieldref 8 87), (0, .nameAndType 88 89), (0, u "written"), (0, u "Lcom/example/tracefold/tracefold/mining/SparseVector;"), (0, .fieldref 8 91), (0, .nameAndType 92 89), (0, u "moved"), (0, .fieldref 8 94), (0, .nameAndType 95 89), (0, u "work"), (0, .fieldref 8 97), (0, .nameAndType 98 89), (0, u "steps"), (0, .class_ 100), (0, u "com/example/tracefold/tracefold/mining/FactoredInverse$StepQueue"), (0, .methodref 99 84), (0, .fieldref 8 103), (0, .nameAndType 104 105), (0, u "queue"), (0, u "Lcom/example/tracefold/tracefold/mining/FactoredInverse$StepQueue;"), (0, .fieldref 8 107), (0, .nameAndType 108 53), (0, u "etaCount"), (0, .class_ 110), (0, u "com/example/tracefold/tracefold/mining/FactoredInverse$Elimination"), (0, .methodref 109 112), (0, .nameAndType 5 113), (0, u "(Lcom/example/tracefold/tracefold/mining/FactoredInverse;[[I[[D)V"), (0, .methodref 109 115), (0, .nameAndType 116 117), (0, u "pivot"), (0, u "()J"), (0, .methodref 109 119), (0, .nameAndType 120 121), (0, u "eliminate"), (0, u "(III)V"), (0, .methodref 8 123), (0, .nameAndType 124 6), (0, u "transpose"), (0, .methodref 126 127), (0, .class_ 128), (0, .nameAndType 129 130), (0, u "java/util/Arrays"), (0, u "fill"), (0, u "([II)V"), (0, .methodref 126 132), (0, .nameAndType 133 134), (0, u "copyOf"), (0, u "([II)[I"), (0, .methodref 136 137), (0, .class_ 16), (0, .nameAndType 138 139), (0, u "clone"), (0, u "()Ljava/lang/Object;"), (21, u "()I"), (0, .methodref 81 163), (0, .nameAndType 164 165), (0, u "get"), (0, u "(I)D"), (7, .methodref 81 174), (0, .nameAndType 175 161), (0, u "size"), (0, .methodref 81 177), (0, .nameAndType 178 179), (0, u "position"), (0, u "(I)I"), (2, .methodref 126 183), (0, .nameAndType 133 184), (0, u "([DI)[D"), (0, .class_ 186), (0, u "com/example/tracefold/tracefold/mining/BasisInverse"), (0, u "PIVOT"), (0, u "D"), (1, u "THRESHOLD"), (2, u "CANDIDATES"), (1, u "CANCELLED"), (4, u "invert"), (0, u "([[I[[D)Z"), (3, u "times"), (0, u "([D)[D"), (6, u "replaceRow"), (0, u "(ILcom/example/tracefold/tracefold/mining/SparseVector;)V"), (3, .class_ 219), (0, u "com/example/tracefold/tracefold/mining/FactoredInverse$Lists")] 4

def k3c0 : Code := { maxStack := 4, maxLocals := 2, code := prog_41_method_1_code, exceptionTable := #[], attributes := #[] }
def k3m0 : Method := { name := "<init>", desc := "(I)V", sig := { parameters := [.int], returnType := none }, accessFlags := 0, code := some k3c0 }
def k3c1 : Code := { maxStack := 5, maxLocals := 7, code := prog_41_method_2_code, exceptionTable := #[], attributes := #[] }
def k3m1 : Method := { name := "invert", desc := "([[I[[D)Z", sig := { parameters := [(.array (.array .int)), (.array (.array .double))], returnType := some .boolean }, accessFlags := 1, code := some k3c1 }
def k3c2 : Code := { maxStack := 5, maxLocals := 8, code := prog_41_method_4_code, exceptionTable := #[], attributes := #[] }
def k3m2 : Method := { name := "transpose", desc := "()V", sig := { parameters := [], returnType := none }, accessFlags := 2, code := some k3c2 }
def k3c3 : Code := { maxStack := 8, maxLocals := 9, code := prog_41_method_5_code, exceptionTable := #[], attributes := #[] }
def k3m3 : Method := { name := "times", desc := "([D)[D", sig := { parameters := [(.array .double)], returnType := some (.array .double) }, accessFlags := 1, code := some k3c3 }
def k3c4 : Code := { maxStack := 4, maxLocals := 7, code := prog_41_method_10_code, exceptionTable := #[], attributes := #[] }
def k3m4 : Method := { name := "replaceRow", desc := "(ILcom/example/tracefold/tracefold/mining/SparseVector;)V", sig := { parameters := [.int, (.object "com/example/tracefold/tracefold/mining/SparseVector")], returnType := none }, accessFlags := 1, code := some k3c4 }
def k3 : Class := { plain "com/example/tracefold/tracefold/mining/FactoredInverse" (some 0) with
  accessFlags := 48
  interfaces := #[2]
  cf := some (fileOf pool3 8 #[.nestMembers #[99, 218, 109]] #[⟨0, 5, 85, #[]⟩, ⟨1, 200, 201, #[]⟩, ⟨2, 124, 6, #[]⟩, ⟨1, 205, 206, #[]⟩, ⟨1, 213, 214, #[]⟩] 48 2 #[185] #[⟨26, 187, 188, #[]⟩, ⟨26, 190, 188, #[]⟩, ⟨26, 193, 53, #[]⟩, ⟨26, 195, 188, #[]⟩, ⟨18, 52, 53, #[]⟩, ⟨18, 56, 12, #[]⟩, ⟨18, 59, 12, #[]⟩, ⟨18, 62, 16, #[]⟩, ⟨18, 65, 12, #[]⟩, ⟨18, 68, 12, #[]⟩, ⟨2, 11, 12, #[]⟩, ⟨2, 15, 16, #[]⟩, ⟨2, 19, 12, #[]⟩, ⟨2, 22, 16, #[]⟩, ⟨18, 71, 12, #[]⟩, ⟨18, 74, 12, #[]⟩, ⟨2, 25, 12, #[]⟩, ⟨2, 28, 16, #[]⟩, ⟨2, 31, 12, #[]⟩, ⟨2, 34, 16, #[]⟩, ⟨2, 37, 12, #[]⟩, ⟨2, 40, 16, #[]⟩, ⟨2, 43, 12, #[]⟩, ⟨2, 46, 12, #[]⟩, ⟨2, 49, 16, #[]⟩, ⟨2, 108, 53, #[]⟩, ⟨18, 77, 12, #[]⟩, ⟨18, 80, 12, #[]⟩, ⟨18, 88, 89, #[]⟩, ⟨18, 92, 89, #[]⟩, ⟨18, 95, 89, #[]⟩, ⟨18, 98, 89, #[]⟩, ⟨18, 104, 105, #[]⟩])
  fields := #[⟨"PIVOT", .double, 26, 0, 0⟩, ⟨"THRESHOLD", .double, 26, 1, 0⟩, ⟨"CANDIDATES", .int, 26, 2, 0⟩, ⟨"CANCELLED", .double, 26, 3, 0⟩, ⟨"n", .int, 18, 0, 0⟩, ⟨"pivotRows", (.array .int), 18, 1, 0⟩, ⟨"pivotColumns", (.array .int), 18, 2, 0⟩, ⟨"pivotValues", (.array .double), 18, 3, 0⟩, ⟨"uStarts", (.array .int), 18, 4, 0⟩, ⟨"lStarts", (.array .int), 18, 5, 0⟩, ⟨"uColumns", (.array .int), 2, 6, 0⟩, ⟨"uValues", (.array .double), 2, 7, 0⟩, ⟨"lRows", (.array .int), 2, 8, 0⟩, ⟨"lValues", (.array .double), 2, 9, 0⟩, ⟨"uColumnStarts", (.array .int), 18, 10, 0⟩, ⟨"lRowStarts", (.array .int), 18, 11, 0⟩, ⟨"uColumnSteps", (.array .int), 2, 12, 0⟩, ⟨"uColumnValues", (.array .double), 2, 13, 0⟩, ⟨"lRowSteps", (.array .int), 2, 14, 0⟩, ⟨"lRowValues", (.array .double), 2, 15, 0⟩, ⟨"etaRows", (.array .int), 2, 16, 0⟩, ⟨"etaPivots", (.array .double), 2, 17, 0⟩, ⟨"etaStarts", (.array .int), 2, 18, 0⟩, ⟨"etaPositions", (.array .int), 2, 19, 0⟩, ⟨"etaValues", (.array .double), 2, 20, 0⟩, ⟨"etaCount", .int, 2, 21, 0⟩, ⟨"rowSteps", (.array .int), 18, 22, 0⟩, ⟨"columnSteps", (.array .int), 18, 23, 0⟩, ⟨"written", (.object "com/example/tracefold/tracefold/mining/SparseVector"), 18, 24, 0⟩, ⟨"moved", (.object "com/example/tracefold/tracefold/mining/SparseVector"), 18, 25, 0⟩, ⟨"work", (.object "com/example/tracefold/tracefold/mining/SparseVector"), 18, 26, 0⟩, ⟨"steps", (.object "com/example/tracefold/tracefold/mining/SparseVector"), 18, 27, 0⟩, ⟨"queue", (.object "com/example/tracefold/tracefold/mining/FactoredInverse$StepQueue"), 18, 28, 0⟩]
  methods := #[k3m0, k3m1, k3m2, k3m3, k3m4]
  instanceTypes := #[.int, (.array .int), (.array .int), (.array .double), (.array .int), (.array .int), (.array .int), (.array .double), (.array .int), (.array .double), (.array .int), (.array .int), (.array .int), (.array .double), (.array .int), (.array .double), (.array .int), (.array .double), (.array .int), (.array .int), (.array .double), .int, (.array .int), (.array .int), (.object "com/example/tracefold/tracefold/mining/SparseVector"), (.object "com/example/tracefold/tracefold/mining/SparseVector"), (.object "com/example/tracefold/tracefold/mining/SparseVector"), (.object "com/example/tracefold/tracefold/mining/SparseVector"), (.object "com/example/tracefold/tracefold/mining/FactoredInverse$StepQueue")]
  staticTypes := #[.double, .double, .int, .double]
  resolved := Array.replicate 224 none
  statics := none }

def pool4 : Array CpInfo := pool [(1, .methodref 2 3), (0, .class_ 4), (0, .nameAndType 5 6), (0, u "java/lang/Object"), (0, u "<init>"), (0, u "()V"), (0, .fieldref 8 9), (0, .class_ 10), (0, .nameAndType 11 12), (0, u "com/example/tracefold/tracefold/mining/SparseVector"), (0, u "values"), (0, u "[D"), (0, .fieldref 8 14), (0, .nameAndType 15 16), (0, u "listed"), (0, u "[Z"), (0, .fieldref 8 18), (0, .nameAndType 19 20), (0, u "positions"), (0, u "[I"), (4, .class_ 27), (1, u "java/util/Arrays"), (2, .fieldref 8 31), (0, .nameAndType 32 33), (0, u "size"), (0, u "I"), (0, .methodref 25 35), (0, .nameAndType 36 37), (0, u "copyOf"), (0, u "([II)[I"), (2, u "set"), (0, u "(ID)V"), (0, u "(I)V"), (5, u "get"), (0, u "(I)D"), (1, u "()I"), (0, u "position"), (0, u "(I)I")] 5

def k4c0 : Code := { maxStack := 2, maxLocals := 2, code := prog_74_method_1_code, exceptionTable := #[], attributes := #[] }
def k4m0 : Method := { name := "<init>", desc := "(I)V", sig := { parameters := [.int], returnType := none }, accessFlags := 0, code := some k4c0 }
def k4c1 : Code := { maxStack := 2, maxLocals := 2, code := prog_74_method_4_code, exceptionTable := #[], attributes := #[] }
def k4m1 : Method := { name := "get", desc := "(I)D", sig := { parameters := [.int], returnType := some .double }, accessFlags := 0, code := some k4c1 }
def k4c2 : Code := { maxStack := 1, maxLocals := 1, code := prog_74_method_6_code, exceptionTable := #[], attributes := #[] }
def k4m2 : Method := { name := "size", desc := "()I", sig := { parameters := [], returnType := some .int }, accessFlags := 0, code := some k4c2 }
def k4c3 : Code := { maxStack := 2, maxLocals := 2, code := prog_74_method_7_code, exceptionTable := #[], attributes := #[] }
def k4m3 : Method := { name := "position", desc := "(I)I", sig := { parameters := [.int], returnType := some .int }, accessFlags := 0, code := some k4c3 }
def k4c4 : Code := { maxStack := 5, maxLocals := 4, code := prog_74_method_9_code, exceptionTable := #[], attributes := #[] }
def k4m4 : Method := { name := "set", desc := "(ID)V", sig := { parameters := [.int, .double], returnType := none }, accessFlags := 0, code := some k4c4 }
def k4 : Class := { plain "com/example/tracefold/tracefold/mining/SparseVector" (some 0) with
  accessFlags := 48
  interfaces := #[]
  cf := some (fileOf pool4 8 #[] #[⟨0, 5, 42, #[]⟩, ⟨0, 48, 49, #[]⟩, ⟨0, 32, 51, #[]⟩, ⟨0, 52, 53, #[]⟩, ⟨0, 40, 41, #[]⟩] 48 2 #[] #[⟨18, 11, 12, #[]⟩, ⟨18, 15, 16, #[]⟩, ⟨2, 19, 20, #[]⟩, ⟨2, 32, 33, #[]⟩])
  fields := #[⟨"values", (.array .double), 18, 0, 0⟩, ⟨"listed", (.array .boolean), 18, 1, 0⟩, ⟨"positions", (.array .int), 2, 2, 0⟩, ⟨"size", .int, 2, 3, 0⟩]
  methods := #[k4m0, k4m1, k4m2, k4m3, k4m4]
  instanceTypes := #[(.array .double), (.array .boolean), (.array .int), .int]
  staticTypes := #[]
  resolved := Array.replicate 59 none
  statics := none }

def pool5 : Array CpInfo := pool [(1, .methodref 2 3), (0, .class_ 4), (0, .nameAndType 5 6), (0, u "java/lang/Object"), (0, u "<init>"), (0, u "()V"), (0, .fieldref 8 9), (0, .class_ 10), (0, .nameAndType 11 12), (0, u "com/example/tracefold/tracefold/mining/FactoredInverse$StepQueue"), (0, u "sweep"), (0, u "I"), (0, .fieldref 8 14), (0, .nameAndType 15 12), (0, u "n"), (0, .fieldref 8 17), (0, .nameAndType 18 19), (0, u "heap"), (0, u "[I"), (0, .fieldref 8 21), (0, .nameAndType 22 23), (0, u "queued"), (0, u "[Z"), (2, u "largestFirst"), (0, u "Z"), (2, u "size"), (10, u "SWEEP"), (2, u "(I)V"), (13, .class_ 59), (0, u "com/example/tracefold/tracefold/mining/FactoredInverse")] 2

def k5c0 : Code := { maxStack := 2, maxLocals := 2, code := prog_44_method_1_code, exceptionTable := #[], attributes := #[] }
def k5m0 : Method := { name := "<init>", desc := "(I)V", sig := { parameters := [.int], returnType := none }, accessFlags := 0, code := some k5c0 }
def k5 : Class := { plain "com/example/tracefold/tracefold/mining/FactoredInverse$StepQueue" (some 0) with
  accessFlags := 48
  interfaces := #[]
  cf := some (fileOf pool5 8 #[.nestHost 58] #[⟨0, 5, 44, #[]⟩] 48 2 #[] #[⟨26, 41, 12, #[]⟩, ⟨18, 15, 12, #[]⟩, ⟨18, 18, 19, #[]⟩, ⟨18, 22, 23, #[]⟩, ⟨2, 30, 12, #[]⟩, ⟨2, 26, 27, #[]⟩, ⟨2, 11, 12, #[]⟩])
  fields := #[⟨"SWEEP", .int, 26, 0, 0⟩, ⟨"n", .int, 18, 0, 0⟩, ⟨"heap", (.array .int), 18, 1, 0⟩, ⟨"queued", (.array .boolean), 18, 2, 0⟩, ⟨"size", .int, 2, 3, 0⟩, ⟨"largestFirst", .boolean, 2, 4, 0⟩, ⟨"sweep", .int, 2, 5, 0⟩]
  methods := #[k5m0]
  instanceTypes := #[.int, (.array .int), (.array .boolean), .int, .boolean, .int]
  staticTypes := #[.int]
  resolved := Array.replicate 62 none
  statics := none }

def pool6 : Array CpInfo := pool [(1, .class_ 2), (0, u "com/example/tracefold/tracefold/mining/FactoredInverse"), (0, .fieldref 4 5), (0, .class_ 6), (0, .nameAndType 7 8), (0, u "com/example/tracefold/tracefold/mining/FactoredInverse$Elimination"), (0, u "this$0"), (0, u "Lcom/example/tracefold/tracefold/mining/FactoredInverse;"), (0, .methodref 10 11), (0, .class_ 12), (0, .nameAndType 13 14), (0, u "java/lang/Object"), (0, u "<init>"), (0, u "()V"), (0, .fieldref 1 16), (0, .nameAndType 17 18), (0, u "n"), (0, u "I"), (0, .class_ 20), (0, u "[I"), (0, .fieldref 4 22), (0, .nameAndType 23 24), (0, u "rowColumns"), (0, u "[[I"), (0, .class_ 26), (0, u "[D"), (0, .fieldref 4 28), (0, .nameAndType 29 30), (0, u "rowValues"), (0, u "[[D"), (0, .fieldref 4 32), (0, .nameAndType 33 20), (0, u "rowLengths"), (0, .fieldref 4 35), (0, .nameAndType 36 20), (0, u "columnLengths"), (0, .methodref 38 39), (0, .class_ 40), (0, .nameAndType 41 42), (0, u "java/lang/Math"), (0, u "max"), (0, u "(II)I"), (0, .methodref 44 45), (0, .class_ 46), (0, .nameAndType 47 48), (0, u "java/util/Arrays"), (0, u "copyOf"), (0, u "([II)[I"), (0, .methodref 44 50), (0, .nameAndType 47 51), (0, u "([DI)[D"), (0, .fieldref 4 53), (0, .nameAndType 54 24), (0, u "columnRows"), (0, .class_ 56), (0, u "com/example/tracefold/tracefold/mining/FactoredInverse$Lists"), (0, .methodref 55 58), (0, .nameAndType 13 59), (0, u "(Lcom/example/tracefold/tracefold/mining/FactoredInverse;[I)V"), (0, .fieldref 4 61), (0, .nameAndType 62 63), (0, u "rowLists"), (0, u "Lcom/example/tracefold/tracefold/mining/FactoredInverse$Lists;"), (0, .fieldref 4 65), (0, .nameAndType 66 63), (0, u "columnLists"), (0, .fieldref 4 68), (0, .nameAndType 69 20), (0, u "positions"), (0, .methodref 44 71), (0, .nameAndType 72 73), (0, u "fill"), (0, u "([II)V"), (0, .long 18446744073709551615), (3, .long 9223372036854775807), (1, .methodref 55 81), (0, .nameAndType 82 83), (0, u "first"), (0, u "(I)I"), (0, .methodref 4 85), (0, .nameAndType 86 42), (0, u "find"), (0, .methodref 4 88), (0, .nameAndType 89 90), (0, u "qualifies"), (0, u "(ID)Z"), (0, .methodref 55 92), (0, .nameAndType 93 83), (0, u "next"), (0, .methodref 38 95), (0, .nameAndType 96 97), (0, u "abs"), (0, u "(D)D"), (0, .double 4472406533629990549), (1, .methodref 38 101), (0, .nameAndType 41 102), (0, u "(DD)D"), (0, .double 4591870180066957722), (1, .methodref 4 106), (0, .nameAndType 107 108), (0, u "removeEntry"), (0, u "(II)V"), (0, .fieldref 1 110), (0, .nameAndType 111 20), (0, u "pivotRows"), (0, .fieldref 1 113), (0, .nameAndType 114 20), (0, u "pivotColumns"), (0, .fieldref 1 116), (0, .nameAndType 117 20), (0, u "rowSteps"), (0, .fieldref 1 119), (0, .nameAndType 120 20), (0, u "columnSteps"), (0, .fieldref 1 122), (0, .nameAndType 123 26), (0, u "pivotValues"), (0, .fieldref 1 125), (0, .nameAndType 126 20), (0, u "uStarts"), (0, .fieldref 4 128), (0, .nameAndType 129 18), (0, u "uCount"), (0, .methodref 4 131), (0, .nameAndType 132 133), (0, u "addU"), (0, u "(ID)V"), (0, .methodref 55 135), (0, .nameAndType 136 137), (0, u "remove"), (0, u "(I)V"), (0, .methodref 4 139), (0, .nameAndType 140 108), (0, u "removeFromColumn"), (0, .methodref 55 142), (0, .nameAndType 143 108), (0, u "move"), (0, .fieldref 1 145), (0, .nameAndType 146 20), (0, u "lStarts"), (0, .fieldref 4 148), (0, .nameAndType 149 18), (0, u "lCount"), (0, .methodref 4 151), (0, .nameAndType 152 133), (0, u "addL"), (0, .methodref 4 154), (0, .nameAndType 155 156), (0, u "subtract"), (0, u "(IID)V"), (6, .double 4397347889687374747), (1, .fieldref 1 166), (0, .nameAndType 167 20), (0, u "uColumns"), (0, .fieldref 1 169), (0, .nameAndType 170 26), (0, u "uValues"), (0, .fieldref 1 172), (0, .nameAndType 173 20), (0, u "lRows"), (0, .fieldref 1 175), (0, .nameAndType 176 26), (0, u "lValues"), (0, u "(Lcom/example/tracefold/tracefold/mining/FactoredInverse;[[I[[D)V"), (6, u "pivot"), (0, u "()J"), (0, u "eliminate"), (0, u "(III)V")] 6

def k6c0 : Code := { maxStack := 6, maxLocals := 10, code := prog_42_method_1_code, exceptionTable := #[], attributes := #[] }
def k6m0 : Method := { name := "<init>", desc := "(Lcom/example/tracefold/tracefold/mining/FactoredInverse;[[I[[D)V", sig := { parameters := [(.object "com/example/tracefold/tracefold/mining/FactoredInverse"), (.array (.array .int)), (.array (.array .double))], returnType := none }, accessFlags := 0, code := some k6c0 }
def k6c1 : Code := { maxStack := 6, maxLocals := 12, code := prog_42_method_2_code, exceptionTable := #[], attributes := #[] }
def k6m1 : Method := { name := "pivot", desc := "()J", sig := { parameters := [], returnType := some .long }, accessFlags := 0, code := some k6c1 }
def k6c2 : Code := { maxStack := 6, maxLocals := 9, code := prog_42_method_3_code, exceptionTable := #[], attributes := #[] }
def k6m2 : Method := { name := "qualifies", desc := "(ID)Z", sig := { parameters := [.int, .double], returnType := some .boolean }, accessFlags := 2, code := some k6c2 }
def k6c3 : Code := { maxStack := 2, maxLocals := 4, code := prog_42_method_4_code, exceptionTable := #[], attributes := #[] }
def k6m3 : Method := { name := "find", desc := "(II)I", sig := { parameters := [.int, .int], returnType := some .int }, accessFlags := 2, code := some k6c3 }
def k6c4 : Code := { maxStack := 5, maxLocals := 12, code := prog_42_method_5_code, exceptionTable := #[], attributes := #[] }
def k6m4 : Method := { name := "eliminate", desc := "(III)V", sig := { parameters := [.int, .int, .int], returnType := none }, accessFlags := 0, code := some k6c4 }
def k6c5 : Code := { maxStack := 8, maxLocals := 15, code := prog_42_method_6_code, exceptionTable := #[], attributes := #[] }
def k6m5 : Method := { name := "subtract", desc := "(IID)V", sig := { parameters := [.int, .int, .double], returnType := none }, accessFlags := 2, code := some k6c5 }
def k6c6 : Code := { maxStack := 4, maxLocals := 4, code := prog_42_method_7_code, exceptionTable := #[], attributes := #[] }
def k6m6 : Method := { name := "removeEntry", desc := "(II)V", sig := { parameters := [.int, .int], returnType := none }, accessFlags := 2, code := some k6c6 }
def k6c7 : Code := { maxStack := 7, maxLocals := 4, code := prog_42_method_9_code, exceptionTable := #[], attributes := #[] }
def k6m7 : Method := { name := "removeFromColumn", desc := "(II)V", sig := { parameters := [.int, .int], returnType := none }, accessFlags := 2, code := some k6c7 }
def k6c8 : Code := { maxStack := 5, maxLocals := 4, code := prog_42_method_11_code, exceptionTable := #[], attributes := #[] }
def k6m8 : Method := { name := "addU", desc := "(ID)V", sig := { parameters := [.int, .double], returnType := none }, accessFlags := 2, code := some k6c8 }
def k6c9 : Code := { maxStack := 5, maxLocals := 4, code := prog_42_method_12_code, exceptionTable := #[], attributes := #[] }
def k6m9 : Method := { name := "addL", desc := "(ID)V", sig := { parameters := [.int, .double], returnType := none }, accessFlags := 2, code := some k6c9 }
def k6 : Class := { plain "com/example/tracefold/tracefold/mining/FactoredInverse$Elimination" (some 0) with
  accessFlags := 48
  interfaces := #[]
  cf := some (fileOf pool6 4 #[.nestHost 1] #[⟨0, 13, 177, #[]⟩, ⟨0, 184, 185, #[]⟩, ⟨2, 89, 90, #[]⟩, ⟨2, 86, 42, #[]⟩, ⟨0, 186, 187, #[]⟩, ⟨2, 155, 156, #[]⟩, ⟨2, 107, 108, #[]⟩, ⟨2, 140, 108, #[]⟩, ⟨2, 132, 133, #[]⟩, ⟨2, 152, 133, #[]⟩] 48 10 #[] #[⟨18, 23, 24, #[]⟩, ⟨18, 29, 30, #[]⟩, ⟨18, 33, 20, #[]⟩, ⟨18, 54, 24, #[]⟩, ⟨18, 36, 20, #[]⟩, ⟨18, 62, 63, #[]⟩, ⟨18, 66, 63, #[]⟩, ⟨18, 69, 20, #[]⟩, ⟨2, 129, 18, #[]⟩, ⟨2, 149, 18, #[]⟩, ⟨4112, 7, 8, #[]⟩])
  fields := #[⟨"rowColumns", (.array (.array .int)), 18, 0, 0⟩, ⟨"rowValues", (.array (.array .double)), 18, 1, 0⟩, ⟨"rowLengths", (.array .int), 18, 2, 0⟩, ⟨"columnRows", (.array (.array .int)), 18, 3, 0⟩, ⟨"columnLengths", (.array .int), 18, 4, 0⟩, ⟨"rowLists", (.object "com/example/tracefold/tracefold/mining/FactoredInverse$Lists"), 18, 5, 0⟩, ⟨"columnLists", (.object "com/example/tracefold/tracefold/mining/FactoredInverse$Lists"), 18, 6, 0⟩, ⟨"positions", (.array .int), 18, 7, 0⟩, ⟨"uCount", .int, 2, 8, 0⟩, ⟨"lCount", .int, 2, 9, 0⟩, ⟨"this$0", (.object "com/example/tracefold/tracefold/mining/FactoredInverse"), 4112, 10, 0⟩]
  methods := #[k6m0, k6m1, k6m2, k6m3, k6m4, k6m5, k6m6, k6m7, k6m8, k6m9]
  instanceTypes := #[(.array (.array .int)), (.array (.array .double)), (.array .int), (.array (.array .int)), (.array .int), (.object "com/example/tracefold/tracefold/mining/FactoredInverse$Lists"), (.object "com/example/tracefold/tracefold/mining/FactoredInverse$Lists"), (.array .int), .int, .int, (.object "com/example/tracefold/tracefold/mining/FactoredInverse")]
  staticTypes := #[]
  resolved := Array.replicate 194 none
  statics := none }

def pool7 : Array CpInfo := pool [(1, .class_ 2), (0, u "java/lang/Math"), (1, .class_ 6), (1, u "java/lang/Object"), (0, u "<init>"), (0, u "()V"), (5, u "(D)D"), (37, u "(DD)D"), (45, .class_ 100), (1, u "java/lang/Math$RandomNumberGeneratorHolder"), (23, u "abs"), (47, u "negativeZeroFloatBits"), (0, u "J"), (2, u "negativeZeroDoubleBits"), (21, u "max"), (2, u "min"), (43, u "$assertionsDisabled"), (0, u "Z"), (88, u "(II)I"), (2, u "twoToTheDoubleScaleDown"), (0, u "D"), (4, u "twoToTheDoubleScaleUp"), (9, u "E"), (3, u "PI"), (2, u "TAU"), (2, u "DEGREES_TO_RADIANS"), (0, u "RADIANS_TO_DEGREES")] 94

def k7m0 : Method := { name := "<init>", desc := "()V", sig := { parameters := [], returnType := none }, accessFlags := 2, code := none }
def k7c1 : Code := { maxStack := 4, maxLocals := 2, code := jdk_29_method_64_code, exceptionTable := #[], attributes := #[] }
def k7m1 : Method := { name := "abs", desc := "(D)D", sig := { parameters := [.double], returnType := some .double }, accessFlags := 9, code := some k7c1 }
def k7c2 : Code := { maxStack := 2, maxLocals := 2, code := jdk_29_method_65_code, exceptionTable := #[], attributes := #[] }
def k7m2 : Method := { name := "max", desc := "(II)I", sig := { parameters := [.int, .int], returnType := some .int }, accessFlags := 9, code := some k7c2 }
def k7c3 : Code := { maxStack := 4, maxLocals := 4, code := jdk_29_method_68_code, exceptionTable := #[], attributes := #[] }
def k7m3 : Method := { name := "max", desc := "(DD)D", sig := { parameters := [.double, .double], returnType := some .double }, accessFlags := 9, code := some k7c3 }
def k7c4 : Code := { maxStack := 2, maxLocals := 2, code := jdk_29_method_69_code, exceptionTable := #[], attributes := #[] }
def k7m4 : Method := { name := "min", desc := "(II)I", sig := { parameters := [.int, .int], returnType := some .int }, accessFlags := 9, code := some k7c4 }
def k7 : Class := { plain "java/lang/Math" (some 0) with
  accessFlags := 49
  interfaces := #[]
  cf := some (fileOf pool7 1 #[.nestMembers #[98]] #[⟨2, 7, 8, #[]⟩, ⟨9, 124, 14, #[]⟩, ⟨9, 198, 335, #[]⟩, ⟨9, 198, 52, #[]⟩, ⟨9, 201, 335, #[]⟩] 49 4 #[] #[⟨25, 354, 339, #[]⟩, ⟨25, 358, 339, #[]⟩, ⟨25, 361, 339, #[]⟩, ⟨26, 364, 339, #[]⟩, ⟨26, 365, 339, #[]⟩, ⟨26, 172, 173, #[]⟩, ⟨26, 176, 173, #[]⟩, ⟨8, 344, 339, #[]⟩, ⟨8, 338, 339, #[]⟩, ⟨4120, 245, 246, #[]⟩])
  fields := #[⟨"E", .double, 25, 0, 0⟩, ⟨"PI", .double, 25, 1, 0⟩, ⟨"TAU", .double, 25, 2, 0⟩, ⟨"DEGREES_TO_RADIANS", .double, 26, 3, 0⟩, ⟨"RADIANS_TO_DEGREES", .double, 26, 4, 0⟩, ⟨"negativeZeroFloatBits", .long, 26, 5, 0⟩, ⟨"negativeZeroDoubleBits", .long, 26, 6, 0⟩, ⟨"twoToTheDoubleScaleUp", .double, 8, 7, 0⟩, ⟨"twoToTheDoubleScaleDown", .double, 8, 8, 0⟩, ⟨"$assertionsDisabled", .boolean, 4120, 9, 0⟩]
  methods := #[k7m0, k7m1, k7m2, k7m3, k7m4]
  instanceTypes := #[]
  staticTypes := #[.double, .double, .double, .double, .double, .long, .long, .double, .double, .boolean]
  resolved := Array.replicate 460 none
  statics := none }

def pool8 : Array CpInfo := pool [(2, .class_ 4), (1, u "java/lang/Object"), (0, u "<init>"), (0, u "()V"), (7, .class_ 16), (1, u "java/util/Arrays"), (57, .class_ 76), (1, u "java/util/Arrays$NaturalOrder"), (32, u "()Ljava/lang/Object;"), (3, .class_ 115), (1, u "java/util/Arrays$LegacyMergeSort"), (1, u "Z"), (10, .nameAndType 129 109), (0, u "clone"), (20, .methodref 151 152), (0, .class_ 153), (0, .nameAndType 154 155), (0, u "java/lang/System"), (0, u "arraycopy"), (0, u "(Ljava/lang/Object;ILjava/lang/Object;II)V"), (146, u "copyOf"), (1, .methodref 305 306), (0, .class_ 307), (0, .nameAndType 308 309), (0, u "java/lang/Math"), (0, u "min"), (0, u "(II)I"), (6, .methodref 317 128), (0, .class_ 318), (0, u "[I"), (9, .methodref 329 128), (0, .class_ 330), (0, u "[D"), (44, .class_ 376), (0, u "java/util/Arrays$ArrayList"), (68, u "$assertionsDisabled"), (269, u "MIN_ARRAY_SORT_GRAN"), (0, u "I"), (2, u "INSERTIONSORT_THRESHOLD"), (120, u "fill"), (4, u "([II)V"), (25, u "([II)[I"), (3, u "([DI)[D"), (99, .class_ 976), (0, u "java/util/Arrays$ArrayItr")] 52

def k8m0 : Method := { name := "<init>", desc := "()V", sig := { parameters := [], returnType := none }, accessFlags := 2, code := none }
def k8c1 : Code := { maxStack := 3, maxLocals := 4, code := jdk_65_method_103_code, exceptionTable := #[], attributes := #[] }
def k8m1 : Method := { name := "fill", desc := "([II)V", sig := { parameters := [(.array .int), .int], returnType := none }, accessFlags := 9, code := some k8c1 }
def k8c2 : Code := { maxStack := 6, maxLocals := 3, code := jdk_65_method_123_code, exceptionTable := #[], attributes := #[] }
def k8m2 : Method := { name := "copyOf", desc := "([II)[I", sig := { parameters := [(.array .int), .int], returnType := some (.array .int) }, accessFlags := 9, code := some k8c2 }
def k8c3 : Code := { maxStack := 6, maxLocals := 3, code := jdk_65_method_127_code, exceptionTable := #[], attributes := #[] }
def k8m3 : Method := { name := "copyOf", desc := "([DI)[D", sig := { parameters := [(.array .double), .int], returnType := some (.array .double) }, accessFlags := 9, code := some k8c3 }
def k8 : Class := { plain "java/util/Arrays" (some 0) with
  accessFlags := 49
  interfaces := #[]
  cf := some (fileOf pool8 14 #[.nestMembers #[975, 375, 113, 74]] #[⟨2, 5, 6, #[]⟩, ⟨9, 840, 845, #[]⟩, ⟨9, 302, 871, #[]⟩, ⟨9, 302, 875, #[]⟩] 49 2 #[] #[⟨26, 715, 716, #[]⟩, ⟨26, 719, 716, #[]⟩, ⟨4120, 445, 117, #[]⟩])
  fields := #[⟨"MIN_ARRAY_SORT_GRAN", .int, 26, 0, 0⟩, ⟨"INSERTIONSORT_THRESHOLD", .int, 26, 1, 0⟩, ⟨"$assertionsDisabled", .boolean, 4120, 2, 0⟩]
  methods := #[k8m0, k8m1, k8m2, k8m3]
  instanceTypes := #[]
  staticTypes := #[.int, .int, .boolean]
  resolved := Array.replicate 1029 none
  statics := none }

def pool9 : Array CpInfo := pool [(1, .class_ 2), (0, u "java/lang/Cloneable"), (0, .class_ 4), (0, u "java/lang/Object")] 2

def k9 : Class := { plain "java/lang/Cloneable" (some 0) with
  accessFlags := 1537
  interfaces := #[]
  cf := some (fileOf pool9 1 #[] #[] 1537 3 #[] #[])
  fields := #[]
  methods := #[]
  instanceTypes := #[]
  staticTypes := #[]
  resolved := Array.replicate 7 none
  statics := none }

def pool10 : Array CpInfo := pool [(1, .methodref 2 3), (0, .class_ 4), (0, .nameAndType 5 6), (0, u "java/lang/Object"), (0, u "<init>"), (0, u "()V"), (0, .fieldref 8 9), (0, .class_ 10), (0, .nameAndType 11 12), (0, u "com/example/tracefold/tracefold/mining/FactoredInverse"), (0, u "n"), (0, u "I"), (0, .fieldref 14 15), (0, .class_ 16), (0, .nameAndType 17 18), (0, u "com/example/tracefold/tracefold/mining/FactoredInverse$Lists"), (0, u "first"), (0, u "[I"), (0, .fieldref 14 20), (0, .nameAndType 21 18), (0, u "next"), (0, .fieldref 14 23), (0, .nameAndType 24 18), (0, u "previous"), (0, .fieldref 14 26), (0, .nameAndType 27 18), (0, u "listed"), (0, .methodref 29 30), (0, .class_ 31), (0, .nameAndType 32 33), (0, u "java/util/Arrays"), (0, u "fill"), (0, u "([II)V"), (0, .methodref 14 35), (0, .nameAndType 36 37), (0, u "add"), (0, u "(II)V"), (0, .methodref 14 39), (0, .nameAndType 40 41), (0, u "remove"), (0, u "(I)V"), (0, u "(Lcom/example/tracefold/tracefold/mining/FactoredInverse;[I)V"), (5, u "(I)I"), (0, u "move")] 5

def k10c0 : Code := { maxStack := 4, maxLocals := 4, code := prog_43_method_1_code, exceptionTable := #[], attributes := #[] }
def k10m0 : Method := { name := "<init>", desc := "(Lcom/example/tracefold/tracefold/mining/FactoredInverse;[I)V", sig := { parameters := [(.object "com/example/tracefold/tracefold/mining/FactoredInverse"), (.array .int)], returnType := none }, accessFlags := 0, code := some k10c0 }
def k10c1 : Code := { maxStack := 2, maxLocals := 2, code := prog_43_method_2_code, exceptionTable := #[], attributes := #[] }
def k10m1 : Method := { name := "first", desc := "(I)I", sig := { parameters := [.int], returnType := some .int }, accessFlags := 0, code := some k10c1 }
def k10c2 : Code := { maxStack := 2, maxLocals := 2, code := prog_43_method_3_code, exceptionTable := #[], attributes := #[] }
def k10m2 : Method := { name := "next", desc := "(I)I", sig := { parameters := [.int], returnType := some .int }, accessFlags := 0, code := some k10c2 }
def k10c3 : Code := { maxStack := 4, maxLocals := 3, code := prog_43_method_4_code, exceptionTable := #[], attributes := #[] }
def k10m3 : Method := { name := "add", desc := "(II)V", sig := { parameters := [.int, .int], returnType := none }, accessFlags := 2, code := some k10c3 }
def k10c4 : Code := { maxStack := 4, maxLocals := 2, code := prog_43_method_5_code, exceptionTable := #[], attributes := #[] }
def k10m4 : Method := { name := "remove", desc := "(I)V", sig := { parameters := [.int], returnType := none }, accessFlags := 0, code := some k10c4 }
def k10c5 : Code := { maxStack := 3, maxLocals := 3, code := prog_43_method_6_code, exceptionTable := #[], attributes := #[] }
def k10m5 : Method := { name := "move", desc := "(II)V", sig := { parameters := [.int, .int], returnType := none }, accessFlags := 0, code := some k10c5 }
def k10 : Class := { plain "com/example/tracefold/tracefold/mining/FactoredInverse$Lists" (some 0) with
  accessFlags := 48
  interfaces := #[]
  cf := some (fileOf pool10 14 #[.nestHost 8] #[⟨0, 5, 42, #[]⟩, ⟨0, 17, 48, #[]⟩, ⟨0, 21, 48, #[]⟩, ⟨2, 36, 37, #[]⟩, ⟨0, 40, 41, #[]⟩, ⟨0, 49, 37, #[]⟩] 48 2 #[] #[⟨18, 17, 18, #[]⟩, ⟨18, 21, 18, #[]⟩, ⟨18, 24, 18, #[]⟩, ⟨18, 27, 18, #[]⟩])
  fields := #[⟨"first", (.array .int), 18, 0, 0⟩, ⟨"next", (.array .int), 18, 1, 0⟩, ⟨"previous", (.array .int), 18, 2, 0⟩, ⟨"listed", (.array .int), 18, 3, 0⟩]
  methods := #[k10m0, k10m1, k10m2, k10m3, k10m4, k10m5]
  instanceTypes := #[(.array .int), (.array .int), (.array .int), (.array .int)]
  staticTypes := #[]
  resolved := Array.replicate 55 none
  statics := none }

def pool11 : Array CpInfo := pool [(2, .class_ 4), (1, u "java/lang/Object"), (0, u "<init>"), (0, u "()V"), (1, .class_ 10), (1, u "java/lang/System"), (0, u "allowSecurityManager"), (0, u "I"), (16, u "cons"), (0, u "Ljava/io/Console;"), (77, .class_ 110), (1, u "java/lang/System$CallersHolder"), (43, u "initialErrStream"), (0, u "Ljava/io/PrintStream;"), (19, u "security"), (0, u "Ljava/lang/SecurityManager;"), (31, .class_ 209), (0, u "java/lang/System$1"), (7, u "props"), (0, u "Ljava/util/Properties;"), (2, u "lineSeparator"), (0, u "Ljava/lang/String;"), (96, .class_ 321), (1, u "java/lang/System$LoggerFinder"), (5, .class_ 328), (0, u "java/lang/System$Logger"), (67, u "err"), (2, u "out"), (91, u "notSupportedJnuEncoding"), (15, u "in"), (17, u "initialIn"), (0, u "Ljava/io/InputStream;"), (35, u "bootLayer"), (0, u "Ljava/lang/ModuleLayer;"), (99, .class_ 664), (0, u "java/lang/System$2"), (9, u "NEVER"), (2, u "MAYBE"), (49, u "arraycopy"), (0, u "(Ljava/lang/Object;ILjava/lang/Object;II)V"), (72, .class_ 802), (0, u "java/lang/System$Logger$Level")] 31

def k11m0 : Method := { name := "<init>", desc := "()V", sig := { parameters := [], returnType := none }, accessFlags := 2, code := none }
def k11m1 : Method := { name := "arraycopy", desc := "(Ljava/lang/Object;ILjava/lang/Object;II)V", sig := { parameters := [(.object "java/lang/Object"), .int, (.object "java/lang/Object"), .int, .int], returnType := none }, accessFlags := 265, code := none }
def k11 : Class := { plain "java/lang/System" (some 0) with
  accessFlags := 49
  interfaces := #[]
  cf := some (fileOf pool11 8 #[.nestMembers #[319, 327, 801, 108, 663, 208]] #[⟨2, 5, 6, #[]⟩, ⟨265, 727, 728, #[]⟩] 49 2 #[] #[⟨25, 507, 526, #[]⟩, ⟨25, 399, 155, #[]⟩, ⟨25, 396, 155, #[]⟩, ⟨10, 525, 526, #[]⟩, ⟨26, 674, 12, #[]⟩, ⟨26, 677, 12, #[]⟩, ⟨10, 11, 12, #[]⟩, ⟨74, 175, 176, #[]⟩, ⟨10, 491, 222, #[]⟩, ⟨74, 29, 30, #[]⟩, ⟨74, 154, 155, #[]⟩, ⟨10, 217, 218, #[]⟩, ⟨10, 221, 222, #[]⟩, ⟨8, 562, 563, #[]⟩])
  fields := #[⟨"in", (.object "java/io/InputStream"), 25, 0, 0⟩, ⟨"out", (.object "java/io/PrintStream"), 25, 1, 0⟩, ⟨"err", (.object "java/io/PrintStream"), 25, 2, 0⟩, ⟨"initialIn", (.object "java/io/InputStream"), 10, 3, 0⟩, ⟨"NEVER", .int, 26, 4, 0⟩, ⟨"MAYBE", .int, 26, 5, 0⟩, ⟨"allowSecurityManager", .int, 10, 6, 0⟩, ⟨"security", (.object "java/lang/SecurityManager"), 74, 7, 0⟩, ⟨"notSupportedJnuEncoding", (.object "java/lang/String"), 10, 8, 0⟩, ⟨"cons", (.object "java/io/Console"), 74, 9, 0⟩, ⟨"initialErrStream", (.object "java/io/PrintStream"), 74, 10, 0⟩, ⟨"props", (.object "java/util/Properties"), 10, 11, 0⟩, ⟨"lineSeparator", (.object "java/lang/String"), 10, 12, 0⟩, ⟨"bootLayer", (.object "java/lang/ModuleLayer"), 8, 13, 0⟩]
  methods := #[k11m0, k11m1]
  instanceTypes := #[]
  staticTypes := #[(.object "java/io/InputStream"), (.object "java/io/PrintStream"), (.object "java/io/PrintStream"), (.object "java/io/InputStream"), .int, .int, .int, (.object "java/lang/SecurityManager"), (.object "java/lang/String"), (.object "java/io/Console"), (.object "java/io/PrintStream"), (.object "java/util/Properties"), (.object "java/lang/String"), (.object "java/lang/ModuleLayer")]
  resolved := Array.replicate 834 none
  statics := none }

def pool12 : Array CpInfo := pool [(1, u "java/io/Serializable"), (0, .class_ 1), (0, u "java/lang/Object"), (0, .class_ 3)] 3

def k12 : Class := { plain "java/io/Serializable" (some 0) with
  accessFlags := 1537
  interfaces := #[]
  cf := some (fileOf pool12 2 #[] #[] 1537 4 #[] #[])
  fields := #[]
  methods := #[]
  instanceTypes := #[]
  staticTypes := #[]
  resolved := Array.replicate 8 none
  statics := none }

def k13 : Class := { plain "boolean" none with kind := .primitive 'Z', accessFlags := 0x411 }
def k14 : Class := { plain "[Z" (some 0) with kind := .array 13 .boolean, interfaces := #[9, 12], accessFlags := 1041 }

def k15 : Class := { plain "byte" none with kind := .primitive 'B', accessFlags := 0x411 }
def k16 : Class := { plain "[B" (some 0) with kind := .array 15 .byte, interfaces := #[9, 12], accessFlags := 1041 }

def k17 : Class := { plain "double" none with kind := .primitive 'D', accessFlags := 0x411 }
def k18 : Class := { plain "[D" (some 0) with kind := .array 17 .double, interfaces := #[9, 12], accessFlags := 1041 }

def k19 : Class := { plain "int" none with kind := .primitive 'I', accessFlags := 0x411 }
def k20 : Class := { plain "[I" (some 0) with kind := .array 19 .int, interfaces := #[9, 12], accessFlags := 1041 }

def k21 : Class := { plain "[[D" (some 0) with kind := .array 18 (.array .double), interfaces := #[9, 12], accessFlags := 1041 }

def k22 : Class := { plain "[[I" (some 0) with kind := .array 20 (.array .int), interfaces := #[9, 12], accessFlags := 1041 }

def heap : Heap := #[]
def classes : Array Class := #[k0, k1, k2, k3, k4, k5, k6, k7, k8, k9, k10, k11, k12, k13, k14, k15, k16, k17, k18, k19, k20, k21, k22]
def interned : List (Array UInt16 × Addr) := []
def slotsUsed : Nat := 0
def theMethod : MethodId := ⟨1, 1⟩
def args0 : Array Value := #[.int 5, .int 3, .int 4, .int 7, .int 9]
def aboutOver (below : List Frame) : State where
  vm := { classes := classes, interned := interned.toArray }
  heap := heap
  slotsUsed := slotsUsed
  threads := #[{ frames := .invoking theMethod args0 :: below }]
def below0 : List Frame := [.native { method := ⟨0, 0⟩, args := #[] }]
def about1 : State := aboutOver below0
def p0 : Program := .bare "" "" ""
def e0 : Env := launch0.env 0 0 0
theorem w_frames : about1.frames = Frame.invoking theMethod args0 :: below0 := rfl
set_option maxRecDepth 65536 in
theorem w_args : argsFit about1.vm theMethod args0 = true := by decide +kernel
set_option maxRecDepth 65536 in
theorem w_heap : heapFits about1 = true := by decide +kernel
set_option maxRecDepth 65536 in
theorem w_runnable : about1.curStatus? = some .runnable := by decide +kernel
set_option maxRecDepth 65536 in
theorem w_alone : about1.alone = true := by decide +kernel
set_option maxRecDepth 65536 in
theorem w_named : about1.methodNamed? x = some theMethod := by decide +kernel
set_option maxRecDepth 65536 in
theorem w_hears : about1.hears theMethod below0 = true := by decide +kernel
set_option maxRecDepth 65536 in
theorem w_ripe : about1.ripe theMethod args0 below0 = true := by decide +kernel
theorem w_running : about1.status = .running := rfl
set_option maxRecDepth 65536 in
theorem w_room : about1.hasRoom e0.platform room_1 = true :=
  launch0.hasRoom_least _ room_1 (by decide +kernel) (by decide +kernel) (by decide +kernel) (by decide +kernel) (by decide +kernel) (by decide +kernel)
theorem allAtoms_all (ts : List Jvm.Cond) (a : Array Jvm.Value) (st : Jvm.State) : (allAtoms ts).before a st = ts.all (fun c => c.before a st) := by
  induction ts with
  | nil => rfl
  | cons c t ih =>
    show (Jvm.Cond.and c (allAtoms t)).before a st = _
    rw [Jvm.Cond.before_and, ih, List.all_cons]
def words1 : List Jvm.Cond := Jvm.Cond.code x code maxLocals ret :: tables_1
theorem code_word {y : MethodName} {bytes : ByteArray} {mx : Nat} {rt : Option FieldType} {a : Array Value} {s : State} {m : MethodId} {meth : Method} {c : Code} (h1 : s.methodNamed? y = some m) (h2 : s.vm.method? m = some meth) (h3 : meth.code = some c) (h4 : c.code = bytes)
    (h5 : (c.maxLocals == mx && c.exceptionTable.isEmpty && decide (c.maxStack ≤ mostOperands) && decide (meth.sig.returnType = rt) && !meth.locks && decide (parseMethodDescriptor y.desc = some meth.sig)) = true) : (Jvm.Cond.code y bytes mx rt).before a s = true := by
  simp only [Bool.and_eq_true, beq_iff_eq, Bool.not_eq_true', decide_eq_true_eq] at h5
  obtain ⟨⟨⟨⟨⟨g1, g2⟩, g3⟩, g4⟩, g5⟩, g6⟩ := h5
  simp [Cond.before, Cond.holds, Cond.value, h1, h2, h3, h4, g1, g2, g3, g4, g5, g6]
def isCode : Jvm.Cond → Bool
  | .code _ _ _ _ => true
  | _ => false
theorem all_split {L : List Jvm.Cond} {P : Jvm.Cond → Bool} (h1 : L.all (fun c => isCode c || P c) = true) (h2 : ∀ c ∈ L.filter isCode, P c = true) : L.all P = true := by
  refine List.all_eq_true.mpr fun c hc => ?_
  have h := List.all_eq_true.mp h1 c hc
  rcases Bool.eq_false_or_eq_true (isCode c) with hi | hi
  · exact h2 c (List.mem_filter.mpr ⟨hc, hi⟩)
  · simpa [hi] using h
set_option maxRecDepth 65536 in
theorem w_c0 : (Jvm.Cond.code x code maxLocals ret).before args0 about1 = true := code_word (m := ⟨1, 1⟩) (meth := k1m1) (c := k1c1) (by decide +kernel) rfl rfl rfl (by decide +kernel)
set_option maxRecDepth 65536 in
theorem w_c1 : (Jvm.Cond.code ⟨"com/example/tracefold/tracefold/mining/FactoredInverseTimesPinLaw", "entry", "(II)I"⟩ method_3_code (2 : Nat) (Option.some .int)).before args0 about1 = true := code_word (m := ⟨1, 2⟩) (meth := k1m2) (c := k1c2) (by decide +kernel) rfl rfl rfl (by decide +kernel)
set_option maxRecDepth 65536 in
theorem w_c2 : (Jvm.Cond.code ⟨"com/example/tracefold/tracefold/mining/FactoredInverseTimesPinLaw", "cols", "(II)[I"⟩ method_6_code (2 : Nat) (Option.some (.array .int))).before args0 about1 = true := code_word (m := ⟨1, 5⟩) (meth := k1m5) (c := k1c5) (by decide +kernel) rfl rfl rfl (by decide +kernel)
set_option maxRecDepth 65536 in
theorem w_c3 : (Jvm.Cond.code ⟨"com/example/tracefold/tracefold/mining/FactoredInverseTimesPinLaw", "vals", "(II)[D"⟩ method_7_code (2 : Nat) (Option.some (.array .double))).before args0 about1 = true := code_word (m := ⟨1, 6⟩) (meth := k1m6) (c := k1c6) (by decide +kernel) rfl rfl rfl (by decide +kernel)
set_option maxRecDepth 65536 in
theorem w_c4 : (Jvm.Cond.code ⟨"com/example/tracefold/tracefold/mining/FactoredInverseTimesPinLaw", "pivotOf", "(I)D"⟩ method_4_code (2 : Nat) (Option.some .double)).before args0 about1 = true := code_word (m := ⟨1, 3⟩) (meth := k1m3) (c := k1c3) (by decide +kernel) rfl rfl rfl (by decide +kernel)
set_option maxRecDepth 65536 in
theorem w_c5 : (Jvm.Cond.code ⟨"com/example/tracefold/tracefold/mining/FactoredInverseTimesPinLaw", "otherOf", "(I)D"⟩ method_5_code (1 : Nat) (Option.some .double)).before args0 about1 = true := code_word (m := ⟨1, 4⟩) (meth := k1m4) (c := k1c4) (by decide +kernel) rfl rfl rfl (by decide +kernel)
set_option maxRecDepth 65536 in
theorem w_c6 : (Jvm.Cond.code ⟨"com/example/tracefold/tracefold/mining/FactoredInverse", "<init>", "(I)V"⟩ prog_41_method_1_code (2 : Nat) (Option.none : Option Jvm.ClassFile.FieldType)).before args0 about1 = true := code_word (m := ⟨3, 0⟩) (meth := k3m0) (c := k3c0) (by decide +kernel) rfl rfl rfl (by decide +kernel)
set_option maxRecDepth 65536 in
theorem w_c7 : (Jvm.Cond.code ⟨"java/lang/Object", "<init>", "()V"⟩ object_method_1_code (1 : Nat) (Option.none : Option Jvm.ClassFile.FieldType)).before args0 about1 = true := code_word (m := ⟨0, 0⟩) (meth := k0m0) (c := k0c0) (by decide +kernel) rfl rfl rfl (by decide +kernel)
set_option maxRecDepth 65536 in
theorem w_c8 : (Jvm.Cond.code ⟨"com/example/tracefold/tracefold/mining/SparseVector", "<init>", "(I)V"⟩ prog_74_method_1_code (2 : Nat) (Option.none : Option Jvm.ClassFile.FieldType)).before args0 about1 = true := code_word (m := ⟨4, 0⟩) (meth := k4m0) (c := k4c0) (by decide +kernel) rfl rfl rfl (by decide +kernel)
set_option maxRecDepth 65536 in
theorem w_c9 : (Jvm.Cond.code ⟨"com/example/tracefold/tracefold/mining/FactoredInverse$StepQueue", "<init>", "(I)V"⟩ prog_44_method_1_code (2 : Nat) (Option.none : Option Jvm.ClassFile.FieldType)).before args0 about1 = true := code_word (m := ⟨5, 0⟩) (meth := k5m0) (c := k5c0) (by decide +kernel) rfl rfl rfl (by decide +kernel)
set_option maxRecDepth 65536 in
theorem w_c10 : (Jvm.Cond.code ⟨"com/example/tracefold/tracefold/mining/FactoredInverse", "invert", "([[I[[D)Z"⟩ prog_41_method_2_code (7 : Nat) (Option.some .boolean)).before args0 about1 = true := code_word (m := ⟨3, 1⟩) (meth := k3m1) (c := k3c1) (by decide +kernel) rfl rfl rfl (by decide +kernel)
set_option maxRecDepth 65536 in
theorem w_c11 : (Jvm.Cond.code ⟨"com/example/tracefold/tracefold/mining/FactoredInverse$Elimination", "<init>", "(Lcom/example/tracefold/tracefold/mining/FactoredInverse;[[I[[D)V"⟩ prog_42_method_1_code (10 : Nat) (Option.none : Option Jvm.ClassFile.FieldType)).before args0 about1 = true := code_word (m := ⟨6, 0⟩) (meth := k6m0) (c := k6c0) (by decide +kernel) rfl rfl rfl (by decide +kernel)
set_option maxRecDepth 65536 in
theorem w_c12 : (Jvm.Cond.code ⟨"java/lang/Math", "max", "(II)I"⟩ jdk_29_method_65_code (2 : Nat) (Option.some .int)).before args0 about1 = true := code_word (m := ⟨7, 2⟩) (meth := k7m2) (c := k7c2) (by decide +kernel) rfl rfl rfl (by decide +kernel)
set_option maxRecDepth 65536 in
theorem w_c13 : (Jvm.Cond.code ⟨"java/util/Arrays", "copyOf", "([II)[I"⟩ jdk_65_method_123_code (3 : Nat) (Option.some (.array .int))).before args0 about1 = true := code_word (m := ⟨8, 2⟩) (meth := k8m2) (c := k8c2) (by decide +kernel) rfl rfl rfl (by decide +kernel)
set_option maxRecDepth 65536 in
theorem w_c14 : (Jvm.Cond.code ⟨"java/util/Arrays", "copyOf", "([DI)[D"⟩ jdk_65_method_127_code (3 : Nat) (Option.some (.array .double))).before args0 about1 = true := code_word (m := ⟨8, 3⟩) (meth := k8m3) (c := k8c3) (by decide +kernel) rfl rfl rfl (by decide +kernel)
set_option maxRecDepth 65536 in
theorem w_c15 : (Jvm.Cond.code ⟨"com/example/tracefold/tracefold/mining/FactoredInverse$Lists", "<init>", "(Lcom/example/tracefold/tracefold/mining/FactoredInverse;[I)V"⟩ prog_43_method_1_code (4 : Nat) (Option.none : Option Jvm.ClassFile.FieldType)).before args0 about1 = true := code_word (m := ⟨10, 0⟩) (meth := k10m0) (c := k10c0) (by decide +kernel) rfl rfl rfl (by decide +kernel)
set_option maxRecDepth 65536 in
theorem w_c16 : (Jvm.Cond.code ⟨"java/util/Arrays", "fill", "([II)V"⟩ jdk_65_method_103_code (4 : Nat) (Option.none : Option Jvm.ClassFile.FieldType)).before args0 about1 = true := code_word (m := ⟨8, 1⟩) (meth := k8m1) (c := k8c1) (by decide +kernel) rfl rfl rfl (by decide +kernel)
set_option maxRecDepth 65536 in
theorem w_c17 : (Jvm.Cond.code ⟨"com/example/tracefold/tracefold/mining/FactoredInverse$Lists", "add", "(II)V"⟩ prog_43_method_4_code (3 : Nat) (Option.none : Option Jvm.ClassFile.FieldType)).before args0 about1 = true := code_word (m := ⟨10, 3⟩) (meth := k10m3) (c := k10c3) (by decide +kernel) rfl rfl rfl (by decide +kernel)
set_option maxRecDepth 65536 in
theorem w_c18 : (Jvm.Cond.code ⟨"com/example/tracefold/tracefold/mining/FactoredInverse$Elimination", "pivot", "()J"⟩ prog_42_method_2_code (12 : Nat) (Option.some .long)).before args0 about1 = true := code_word (m := ⟨6, 1⟩) (meth := k6m1) (c := k6c1) (by decide +kernel) rfl rfl rfl (by decide +kernel)
set_option maxRecDepth 65536 in
theorem w_c19 : (Jvm.Cond.code ⟨"com/example/tracefold/tracefold/mining/FactoredInverse$Lists", "first", "(I)I"⟩ prog_43_method_2_code (2 : Nat) (Option.some .int)).before args0 about1 = true := code_word (m := ⟨10, 1⟩) (meth := k10m1) (c := k10c1) (by decide +kernel) rfl rfl rfl (by decide +kernel)
set_option maxRecDepth 65536 in
theorem w_c20 : (Jvm.Cond.code ⟨"com/example/tracefold/tracefold/mining/FactoredInverse$Elimination", "find", "(II)I"⟩ prog_42_method_4_code (4 : Nat) (Option.some .int)).before args0 about1 = true := code_word (m := ⟨6, 3⟩) (meth := k6m3) (c := k6c3) (by decide +kernel) rfl rfl rfl (by decide +kernel)
set_option maxRecDepth 65536 in
theorem w_c21 : (Jvm.Cond.code ⟨"com/example/tracefold/tracefold/mining/FactoredInverse$Elimination", "qualifies", "(ID)Z"⟩ prog_42_method_3_code (9 : Nat) (Option.some .boolean)).before args0 about1 = true := code_word (m := ⟨6, 2⟩) (meth := k6m2) (c := k6c2) (by decide +kernel) rfl rfl rfl (by decide +kernel)
set_option maxRecDepth 65536 in
theorem w_c22 : (Jvm.Cond.code ⟨"java/lang/Math", "abs", "(D)D"⟩ jdk_29_method_64_code (2 : Nat) (Option.some .double)).before args0 about1 = true := code_word (m := ⟨7, 1⟩) (meth := k7m1) (c := k7c1) (by decide +kernel) rfl rfl rfl (by decide +kernel)
set_option maxRecDepth 65536 in
theorem w_c23 : (Jvm.Cond.code ⟨"java/lang/Math", "max", "(DD)D"⟩ jdk_29_method_68_code (4 : Nat) (Option.some .double)).before args0 about1 = true := code_word (m := ⟨7, 3⟩) (meth := k7m3) (c := k7c3) (by decide +kernel) rfl rfl rfl (by decide +kernel)
set_option maxRecDepth 65536 in
theorem w_c24 : (Jvm.Cond.code ⟨"com/example/tracefold/tracefold/mining/FactoredInverse$Lists", "next", "(I)I"⟩ prog_43_method_3_code (2 : Nat) (Option.some .int)).before args0 about1 = true := code_word (m := ⟨10, 2⟩) (meth := k10m2) (c := k10c2) (by decide +kernel) rfl rfl rfl (by decide +kernel)
set_option maxRecDepth 65536 in
theorem w_c25 : (Jvm.Cond.code ⟨"com/example/tracefold/tracefold/mining/FactoredInverse$Elimination", "eliminate", "(III)V"⟩ prog_42_method_5_code (12 : Nat) (Option.none : Option Jvm.ClassFile.FieldType)).before args0 about1 = true := code_word (m := ⟨6, 4⟩) (meth := k6m4) (c := k6c4) (by decide +kernel) rfl rfl rfl (by decide +kernel)
set_option maxRecDepth 65536 in
theorem w_c26 : (Jvm.Cond.code ⟨"com/example/tracefold/tracefold/mining/FactoredInverse$Elimination", "removeEntry", "(II)V"⟩ prog_42_method_7_code (4 : Nat) (Option.none : Option Jvm.ClassFile.FieldType)).before args0 about1 = true := code_word (m := ⟨6, 6⟩) (meth := k6m6) (c := k6c6) (by decide +kernel) rfl rfl rfl (by decide +kernel)
set_option maxRecDepth 65536 in
theorem w_c27 : (Jvm.Cond.code ⟨"com/example/tracefold/tracefold/mining/FactoredInverse$Elimination", "addU", "(ID)V"⟩ prog_42_method_11_code (4 : Nat) (Option.none : Option Jvm.ClassFile.FieldType)).before args0 about1 = true := code_word (m := ⟨6, 8⟩) (meth := k6m8) (c := k6c8) (by decide +kernel) rfl rfl rfl (by decide +kernel)
set_option maxRecDepth 65536 in
theorem w_c28 : (Jvm.Cond.code ⟨"java/lang/Math", "min", "(II)I"⟩ jdk_29_method_69_code (2 : Nat) (Option.some .int)).before args0 about1 = true := code_word (m := ⟨7, 4⟩) (meth := k7m4) (c := k7c4) (by decide +kernel) rfl rfl rfl (by decide +kernel)
set_option maxRecDepth 65536 in
theorem w_c29 : (Jvm.Cond.code ⟨"com/example/tracefold/tracefold/mining/FactoredInverse$Lists", "remove", "(I)V"⟩ prog_43_method_5_code (2 : Nat) (Option.none : Option Jvm.ClassFile.FieldType)).before args0 about1 = true := code_word (m := ⟨10, 4⟩) (meth := k10m4) (c := k10c4) (by decide +kernel) rfl rfl rfl (by decide +kernel)
set_option maxRecDepth 65536 in
theorem w_c30 : (Jvm.Cond.code ⟨"com/example/tracefold/tracefold/mining/FactoredInverse$Elimination", "removeFromColumn", "(II)V"⟩ prog_42_method_9_code (4 : Nat) (Option.none : Option Jvm.ClassFile.FieldType)).before args0 about1 = true := code_word (m := ⟨6, 7⟩) (meth := k6m7) (c := k6c7) (by decide +kernel) rfl rfl rfl (by decide +kernel)
set_option maxRecDepth 65536 in
theorem w_c31 : (Jvm.Cond.code ⟨"com/example/tracefold/tracefold/mining/FactoredInverse$Lists", "move", "(II)V"⟩ prog_43_method_6_code (3 : Nat) (Option.none : Option Jvm.ClassFile.FieldType)).before args0 about1 = true := code_word (m := ⟨10, 5⟩) (meth := k10m5) (c := k10c5) (by decide +kernel) rfl rfl rfl (by decide +kernel)
set_option maxRecDepth 65536 in
theorem w_c32 : (Jvm.Cond.code ⟨"com/example/tracefold/tracefold/mining/FactoredInverse", "transpose", "()V"⟩ prog_41_method_4_code (8 : Nat) (Option.none : Option Jvm.ClassFile.FieldType)).before args0 about1 = true := code_word (m := ⟨3, 2⟩) (meth := k3m2) (c := k3c2) (by decide +kernel) rfl rfl rfl (by decide +kernel)
set_option maxRecDepth 65536 in
theorem w_c33 : (Jvm.Cond.code ⟨"com/example/tracefold/tracefold/mining/FactoredInverse", "times", "([D)[D"⟩ prog_41_method_5_code (9 : Nat) (Option.some (.array .double))).before args0 about1 = true := code_word (m := ⟨3, 3⟩) (meth := k3m3) (c := k3c3) (by decide +kernel) rfl rfl rfl (by decide +kernel)
set_option maxRecDepth 65536 in
theorem w_c34 : (Jvm.Cond.code ⟨"com/example/tracefold/tracefold/mining/SparseVector", "set", "(ID)V"⟩ prog_74_method_9_code (4 : Nat) (Option.none : Option Jvm.ClassFile.FieldType)).before args0 about1 = true := code_word (m := ⟨4, 4⟩) (meth := k4m4) (c := k4c4) (by decide +kernel) rfl rfl rfl (by decide +kernel)
set_option maxRecDepth 65536 in
theorem w_c35 : (Jvm.Cond.code ⟨"com/example/tracefold/tracefold/mining/FactoredInverse", "replaceRow", "(ILcom/example/tracefold/tracefold/mining/SparseVector;)V"⟩ prog_41_method_10_code (7 : Nat) (Option.none : Option Jvm.ClassFile.FieldType)).before args0 about1 = true := code_word (m := ⟨3, 4⟩) (meth := k3m4) (c := k3c4) (by decide +kernel) rfl rfl rfl (by decide +kernel)
set_option maxRecDepth 65536 in
theorem w_c36 : (Jvm.Cond.code ⟨"com/example/tracefold/tracefold/mining/SparseVector", "size", "()I"⟩ prog_74_method_6_code (1 : Nat) (Option.some .int)).before args0 about1 = true := code_word (m := ⟨4, 2⟩) (meth := k4m2) (c := k4c2) (by decide +kernel) rfl rfl rfl (by decide +kernel)
set_option maxRecDepth 65536 in
theorem w_c37 : (Jvm.Cond.code ⟨"com/example/tracefold/tracefold/mining/SparseVector", "position", "(I)I"⟩ prog_74_method_7_code (2 : Nat) (Option.some .int)).before args0 about1 = true := code_word (m := ⟨4, 3⟩) (meth := k4m3) (c := k4c3) (by decide +kernel) rfl rfl rfl (by decide +kernel)
set_option maxRecDepth 65536 in
theorem w_c38 : (Jvm.Cond.code ⟨"com/example/tracefold/tracefold/mining/SparseVector", "get", "(I)D"⟩ prog_74_method_4_code (2 : Nat) (Option.some .double)).before args0 about1 = true := code_word (m := ⟨4, 1⟩) (meth := k4m1) (c := k4c1) (by decide +kernel) rfl rfl rfl (by decide +kernel)
set_option maxRecDepth 65536 in
theorem w_c39 : (Jvm.Cond.code ⟨"com/example/tracefold/tracefold/mining/FactoredInverseTimesPinLaw", "eta", "([DIDD)[D"⟩ method_8_code (7 : Nat) (Option.some (.array .double))).before args0 about1 = true := code_word (m := ⟨1, 7⟩) (meth := k1m7) (c := k1c7) (by decide +kernel) rfl rfl rfl (by decide +kernel)
set_option maxRecDepth 65536 in
theorem w_c40 : (Jvm.Cond.code ⟨"com/example/tracefold/tracefold/mining/FactoredInverse$Elimination", "addL", "(ID)V"⟩ prog_42_method_12_code (4 : Nat) (Option.none : Option Jvm.ClassFile.FieldType)).before args0 about1 = true := code_word (m := ⟨6, 9⟩) (meth := k6m9) (c := k6c9) (by decide +kernel) rfl rfl rfl (by decide +kernel)
set_option maxRecDepth 65536 in
theorem w_c41 : (Jvm.Cond.code ⟨"com/example/tracefold/tracefold/mining/FactoredInverse$Elimination", "subtract", "(IID)V"⟩ prog_42_method_6_code (15 : Nat) (Option.none : Option Jvm.ClassFile.FieldType)).before args0 about1 = true := code_word (m := ⟨6, 5⟩) (meth := k6m5) (c := k6c5) (by decide +kernel) rfl rfl rfl (by decide +kernel)
def codes1 : List Jvm.Cond := [Jvm.Cond.code x code maxLocals ret, Jvm.Cond.code ⟨"com/example/tracefold/tracefold/mining/FactoredInverseTimesPinLaw", "entry", "(II)I"⟩ method_3_code (2 : Nat) (Option.some .int), Jvm.Cond.code ⟨"com/example/tracefold/tracefold/mining/FactoredInverseTimesPinLaw", "cols", "(II)[I"⟩ method_6_code (2 : Nat) (Option.some (.array .int)), Jvm.Cond.code ⟨"com/example/tracefold/tracefold/mining/FactoredInverseTimesPinLaw", "vals", "(II)[D"⟩ method_7_code (2 : Nat) (Option.some (.array .double)), Jvm.Cond.code ⟨"com/example/tracefold/tracefold/mining/FactoredInverseTimesPinLaw", "pivotOf", "(I)D"⟩ method_4_code (2 : Nat) (Option.some .double), Jvm.Cond.code ⟨"com/example/tracefold/tracefold/mining/FactoredInverseTimesPinLaw", "otherOf", "(I)D"⟩ method_5_code (1 : Nat) (Option.some .double), Jvm.Cond.code ⟨"com/example/tracefold/tracefold/mining/FactoredInverse", "<init>", "(I)V"⟩ prog_41_method_1_code (2 : Nat) (Option.none : Option Jvm.ClassFile.FieldType), Jvm.Cond.code ⟨"java/lang/Object", "<init>", "()V"⟩ object_method_1_code (1 : Nat) (Option.none : Option Jvm.ClassFile.FieldType), Jvm.Cond.code ⟨"com/example/tracefold/tracefold/mining/SparseVector", "<init>", "(I)V"⟩ prog_74_method_1_code (2 : Nat) (Option.none : Option Jvm.ClassFile.FieldType), Jvm.Cond.code ⟨"com/example/tracefold/tracefold/mining/FactoredInverse$StepQueue", "<init>", "(I)V"⟩ prog_44_method_1_code (2 : Nat) (Option.none : Option Jvm.ClassFile.FieldType), Jvm.Cond.code ⟨"com/example/tracefold/tracefold/mining/FactoredInverse", "invert", "([[I[[D)Z"⟩ prog_41_method_2_code (7 : Nat) (Option.some .boolean), Jvm.Cond.code ⟨"com/example/tracefold/tracefold/mining/FactoredInverse$Elimination", "<init>", "(Lcom/example/tracefold/tracefold/mining/FactoredInverse;[[I[[D)V"⟩ prog_42_method_1_code (10 : Nat) (Option.none : Option Jvm.ClassFile.FieldType), Jvm.Cond.code ⟨"java/lang/Math", "max", "(II)I"⟩ jdk_29_method_65_code (2 : Nat) (Option.some .int), Jvm.Cond.code ⟨"java/util/Arrays", "copyOf", "([II)[I"⟩ jdk_65_method_123_code (3 : Nat) (Option.some (.array .int)), Jvm.Cond.code ⟨"java/util/Arrays", "copyOf", "([DI)[D"⟩ jdk_65_method_127_code (3 : Nat) (Option.some (.array .double)), Jvm.Cond.code ⟨"com/example/tracefold/tracefold/mining/FactoredInverse$Lists", "<init>", "(Lcom/example/tracefold/tracefold/mining/FactoredInverse;[I)V"⟩ prog_43_method_1_code (4 : Nat) (Option.none : Option Jvm.ClassFile.FieldType), Jvm.Cond.code ⟨"java/util/Arrays", "fill", "([II)V"⟩ jdk_65_method_103_code (4 : Nat) (Option.none : Option Jvm.ClassFile.FieldType), Jvm.Cond.code ⟨"com/example/tracefold/tracefold/mining/FactoredInverse$Lists", "add", "(II)V"⟩ prog_43_method_4_code (3 : Nat) (Option.none : Option Jvm.ClassFile.FieldType), Jvm.Cond.code ⟨"com/example/tracefold/tracefold/mining/FactoredInverse$Elimination", "pivot", "()J"⟩ prog_42_method_2_code (12 : Nat) (Option.some .long), Jvm.Cond.code ⟨"com/example/tracefold/tracefold/mining/FactoredInverse$Lists", "first", "(I)I"⟩ prog_43_method_2_code (2 : Nat) (Option.some .int), Jvm.Cond.code ⟨"com/example/tracefold/tracefold/mining/FactoredInverse$Elimination", "find", "(II)I"⟩ prog_42_method_4_code (4 : Nat) (Option.some .int), Jvm.Cond.code ⟨"com/example/tracefold/tracefold/mining/FactoredInverse$Elimination", "qualifies", "(ID)Z"⟩ prog_42_method_3_code (9 : Nat) (Option.some .boolean), Jvm.Cond.code ⟨"java/lang/Math", "abs", "(D)D"⟩ jdk_29_method_64_code (2 : Nat) (Option.some .double), Jvm.Cond.code ⟨"java/lang/Math", "max", "(DD)D"⟩ jdk_29_method_68_code (4 : Nat) (Option.some .double), Jvm.Cond.code ⟨"com/example/tracefold/tracefold/mining/FactoredInverse$Lists", "next", "(I)I"⟩ prog_43_method_3_code (2 : Nat) (Option.some .int), Jvm.Cond.code ⟨"com/example/tracefold/tracefold/mining/FactoredInverse$Elimination", "eliminate", "(III)V"⟩ prog_42_method_5_code (12 : Nat) (Option.none : Option Jvm.ClassFile.FieldType), Jvm.Cond.code ⟨"com/example/tracefold/tracefold/mining/FactoredInverse$Elimination", "removeEntry", "(II)V"⟩ prog_42_method_7_code (4 : Nat) (Option.none : Option Jvm.ClassFile.FieldType), Jvm.Cond.code ⟨"com/example/tracefold/tracefold/mining/FactoredInverse$Elimination", "addU", "(ID)V"⟩ prog_42_method_11_code (4 : Nat) (Option.none : Option Jvm.ClassFile.FieldType), Jvm.Cond.code ⟨"java/lang/Math", "min", "(II)I"⟩ jdk_29_method_69_code (2 : Nat) (Option.some .int), Jvm.Cond.code ⟨"com/example/tracefold/tracefold/mining/FactoredInverse$Lists", "remove", "(I)V"⟩ prog_43_method_5_code (2 : Nat) (Option.none : Option Jvm.ClassFile.FieldType), Jvm.Cond.code ⟨"com/example/tracefold/tracefold/mining/FactoredInverse$Elimination", "removeFromColumn", "(II)V"⟩ prog_42_method_9_code (4 : Nat) (Option.none : Option Jvm.ClassFile.FieldType), Jvm.Cond.code ⟨"com/example/tracefold/tracefold/mining/FactoredInverse$Lists", "move", "(II)V"⟩ prog_43_method_6_code (3 : Nat) (Option.none : Option Jvm.ClassFile.FieldType), Jvm.Cond.code ⟨"com/example/tracefold/tracefold/mining/FactoredInverse", "transpose", "()V"⟩ prog_41_method_4_code (8 : Nat) (Option.none : Option Jvm.ClassFile.FieldType), Jvm.Cond.code ⟨"com/example/tracefold/tracefold/mining/FactoredInverse", "times", "([D)[D"⟩ prog_41_method_5_code (9 : Nat) (Option.some (.array .double)), Jvm.Cond.code ⟨"com/example/tracefold/tracefold/mining/SparseVector", "set", "(ID)V"⟩ prog_74_method_9_code (4 : Nat) (Option.none : Option Jvm.ClassFile.FieldType), Jvm.Cond.code ⟨"com/example/tracefold/tracefold/mining/FactoredInverse", "replaceRow", "(ILcom/example/tracefold/tracefold/mining/SparseVector;)V"⟩ prog_41_method_10_code (7 : Nat) (Option.none : Option Jvm.ClassFile.FieldType), Jvm.Cond.code ⟨"com/example/tracefold/tracefold/mining/SparseVector", "size", "()I"⟩ prog_74_method_6_code (1 : Nat) (Option.some .int), Jvm.Cond.code ⟨"com/example/tracefold/tracefold/mining/SparseVector", "position", "(I)I"⟩ prog_74_method_7_code (2 : Nat) (Option.some .int), Jvm.Cond.code ⟨"com/example/tracefold/tracefold/mining/SparseVector", "get", "(I)D"⟩ prog_74_method_4_code (2 : Nat) (Option.some .double), Jvm.Cond.code ⟨"com/example/tracefold/tracefold/mining/FactoredInverseTimesPinLaw", "eta", "([DIDD)[D"⟩ method_8_code (7 : Nat) (Option.some (.array .double)), Jvm.Cond.code ⟨"com/example/tracefold/tracefold/mining/FactoredInverse$Elimination", "addL", "(ID)V"⟩ prog_42_method_12_code (4 : Nat) (Option.none : Option Jvm.ClassFile.FieldType), Jvm.Cond.code ⟨"com/example/tracefold/tracefold/mining/FactoredInverse$Elimination", "subtract", "(IID)V"⟩ prog_42_method_6_code (15 : Nat) (Option.none : Option Jvm.ClassFile.FieldType)]
set_option maxRecDepth 65536 in
theorem codes_eq : words1.filter isCode = codes1 := rfl
theorem w_codes : ∀ c ∈ words1.filter isCode, c.before args0 about1 = true := by
  rw [codes_eq]
  intro c hc
  simp only [codes1, List.mem_cons, List.not_mem_nil, or_false] at hc
  rcases hc with rfl | rfl | rfl | rfl | rfl | rfl | rfl | rfl | rfl | rfl | rfl | rfl | rfl | rfl | rfl | rfl | rfl | rfl | rfl | rfl | rfl | rfl | rfl | rfl | rfl | rfl | rfl | rfl | rfl | rfl | rfl | rfl | rfl | rfl | rfl | rfl | rfl | rfl | rfl | rfl | rfl | rfl
  · exact w_c0
  · exact w_c1
  · exact w_c2
  · exact w_c3
  · exact w_c4
  · exact w_c5
  · exact w_c6
  · exact w_c7
  · exact w_c8
  · exact w_c9
  · exact w_c10
  · exact w_c11
  · exact w_c12
  · exact w_c13
  · exact w_c14
  · exact w_c15
  · exact w_c16
  · exact w_c17
  · exact w_c18
  · exact w_c19
  · exact w_c20
  · exact w_c21
  · exact w_c22
  · exact w_c23
  · exact w_c24
  · exact w_c25
  · exact w_c26
  · exact w_c27
  · exact w_c28
  · exact w_c29
  · exact w_c30
  · exact w_c31
  · exact w_c32
  · exact w_c33
  · exact w_c34
  · exact w_c35
  · exact w_c36
  · exact w_c37
  · exact w_c38
  · exact w_c39
  · exact w_c40
  · exact w_c41
set_option maxRecDepth 65536 in
theorem w_t1 : (words1.take 24).all (fun c => isCode c || c.before args0 about1) = true := by decide +kernel
set_option maxRecDepth 65536 in
theorem w_t2 : ((words1.drop 24).take 24).all (fun c => isCode c || c.before args0 about1) = true := by decide +kernel
set_option maxRecDepth 65536 in
theorem w_t3 : (((words1.drop 24).drop 24).take 24).all (fun c => isCode c || c.before args0 about1) = true := by decide +kernel
set_option maxRecDepth 65536 in
theorem w_t4 : ((((words1.drop 24).drop 24).drop 24).take 24).all (fun c => isCode c || c.before args0 about1) = true := by decide +kernel
set_option maxRecDepth 65536 in
theorem w_t5 : (((((words1.drop 24).drop 24).drop 24).drop 24).take 24).all (fun c => isCode c || c.before args0 about1) = true := by decide +kernel
set_option maxRecDepth 65536 in
theorem w_t6 : ((((((words1.drop 24).drop 24).drop 24).drop 24).drop 24).take 24).all (fun c => isCode c || c.before args0 about1) = true := by decide +kernel
set_option maxRecDepth 65536 in
theorem w_t7 : (((((((words1.drop 24).drop 24).drop 24).drop 24).drop 24).drop 24).take 24).all (fun c => isCode c || c.before args0 about1) = true := by decide +kernel
set_option maxRecDepth 65536 in
theorem w_t8 : ((((((((words1.drop 24).drop 24).drop 24).drop 24).drop 24).drop 24).drop 24).take 24).all (fun c => isCode c || c.before args0 about1) = true := by decide +kernel
set_option maxRecDepth 65536 in
theorem w_t9 : (((((((((words1.drop 24).drop 24).drop 24).drop 24).drop 24).drop 24).drop 24).drop 24).take 24).all (fun c => isCode c || c.before args0 about1) = true := by decide +kernel
set_option maxRecDepth 65536 in
theorem w_t10 : ((((((((((words1.drop 24).drop 24).drop 24).drop 24).drop 24).drop 24).drop 24).drop 24).drop 24).take 24).all (fun c => isCode c || c.before args0 about1) = true := by decide +kernel
set_option maxRecDepth 65536 in
theorem w_t11 : (((((((((((words1.drop 24).drop 24).drop 24).drop 24).drop 24).drop 24).drop 24).drop 24).drop 24).drop 24).take 24).all (fun c => isCode c || c.before args0 about1) = true := by decide +kernel
set_option maxRecDepth 65536 in
theorem w_t12 : ((((((((((((words1.drop 24).drop 24).drop 24).drop 24).drop 24).drop 24).drop 24).drop 24).drop 24).drop 24).drop 24).take 24).all (fun c => isCode c || c.before args0 about1) = true := by decide +kernel
set_option maxRecDepth 65536 in
theorem w_t13 : (((((((((((((words1.drop 24).drop 24).drop 24).drop 24).drop 24).drop 24).drop 24).drop 24).drop 24).drop 24).drop 24).drop 24).take 24).all (fun c => isCode c || c.before args0 about1) = true := by decide +kernel
set_option maxRecDepth 65536 in
theorem w_t14 : ((((((((((((((words1.drop 24).drop 24).drop 24).drop 24).drop 24).drop 24).drop 24).drop 24).drop 24).drop 24).drop 24).drop 24).drop 24).take 24).all (fun c => isCode c || c.before args0 about1) = true := by decide +kernel
set_option maxRecDepth 65536 in
theorem w_t15 : ((((((((((((((words1.drop 24).drop 24).drop 24).drop 24).drop 24).drop 24).drop 24).drop 24).drop 24).drop 24).drop 24).drop 24).drop 24).drop 24).all (fun c => isCode c || c.before args0 about1) = true := by decide +kernel
theorem w_tables : (allAtoms (Jvm.Cond.code x code maxLocals ret :: tables_1)).before args0 about1 = true := by
  rw [allAtoms_all]
  show words1.all (fun c => c.before args0 about1) = true
  refine all_split ?_ w_codes
  rw [← List.take_append_drop 24 words1, List.all_append, w_t1, ← List.take_append_drop 24 (words1.drop 24), List.all_append, w_t2, ← List.take_append_drop 24 ((words1.drop 24).drop 24), List.all_append, w_t3, ← List.take_append_drop 24 (((words1.drop 24).drop 24).drop 24), List.all_append, w_t4, ← List.take_append_drop 24 ((((words1.drop 24).drop 24).drop 24).drop 24), List.all_append, w_t5, ← List.take_append_drop 24 (((((words1.drop 24).drop 24).drop 24).drop 24).drop 24), List.all_append, w_t6, ← List.take_append_drop 24 ((((((words1.drop 24).drop 24).drop 24).drop 24).drop 24).drop 24), List.all_append, w_t7, ← List.take_append_drop 24 (((((((words1.drop 24).drop 24).drop 24).drop 24).drop 24).drop 24).drop 24), List.all_append, w_t8, ← List.take_append_drop 24 ((((((((words1.drop 24).drop 24).drop 24).drop 24).drop 24).drop 24).drop 24).drop 24), List.all_append, w_t9, ← List.take_append_drop 24 (((((((((words1.drop 24).drop 24).drop 24).drop 24).drop 24).drop 24).drop 24).drop 24).drop 24), List.all_append, w_t10, ← List.take_append_drop 24 ((((((((((words1.drop 24).drop 24).drop 24).drop 24).drop 24).drop 24).drop 24).drop 24).drop 24).drop 24), List.all_append, w_t11, ← List.take_append_drop 24 (((((((((((words1.drop 24).drop 24).drop 24).drop 24).drop 24).drop 24).drop 24).drop 24).drop 24).drop 24).drop 24), List.all_append, w_t12, ← List.take_append_drop 24 ((((((((((((words1.drop 24).drop 24).drop 24).drop 24).drop 24).drop 24).drop 24).drop 24).drop 24).drop 24).drop 24).drop 24), List.all_append, w_t13, ← List.take_append_drop 24 (((((((((((((words1.drop 24).drop 24).drop 24).drop 24).drop 24).drop 24).drop 24).drop 24).drop 24).drop 24).drop 24).drop 24).drop 24), List.all_append, w_t14, w_t15]
  rfl
set_option maxRecDepth 65536 in
theorem w_case : (Jvm.Cond.and given_1 narrow_1).before args0 about1 = true := by decide +kernel
theorem w_applies : (headSpec (Jvm.Cond.code x code maxLocals ret :: tables_1) room_1).applies x e0.platform about1 = true :=
  (Spec.applies_iff w_frames).mpr ⟨w_running, w_runnable, w_alone, w_named, w_hears, w_ripe, w_room, w_tables⟩
theorem atStart : AtStart classFile x code maxLocals ret World_1 tables_1 room_1 Calls_1 rest_1 Pre_1 launch0 p0 e0 about1 theMethod args0 below0 :=
  ⟨lists_1, trivial, launch0.admits_env _ _ _, launch0.least_env, fairChoices_fair.cas, fairChoices_fair.clock, w_frames, w_args, w_heap, w_applies, trivial, trivial, w_case⟩
end start1
theorem witness_1 : WitnessClaimed_1 := ⟨start1.p0, start1.e0, start1.about1, start1.theMethod, start1.args0, start1.below0, start1.atStart⟩
end Jvm.Pilot.@@N@@
