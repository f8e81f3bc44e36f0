import JvmDerived
import JvmDerived.Pilot.@@N@@Statement
import JvmDerived.Pilot.@@N@@Code
set_option linter.unusedVariables false
set_option linter.unusedSimpArgs false
namespace Jvm.RoadKit
open Sem ClassFile Op Lib Jvm.Stand Jvm.Free Jvm.LawKit
section New
variable {p : Program} {l : Launch} {e : Env} {R : Room} {s : State} {m : MethodId} {args : Array Value} {below : List Frame} {meth : Method} {c : Code} {T : State} {locs : List Loc} {cells slots : Nat}
theorem retI (X : Stand p l e R s m args below meth c T locs cells slots) (hx : p.tables.exec = Jvm.exec) {pc : Nat} {Ls : Array Slot} {z : Int32} {rest : List Value} (hret : meth.sig.returnType = some .int) (hd : decode c.code pc = .ok (.ireturn, 1)) {fs : List Frame}
    (hl : ∀ (f : JFrame) (acts : List Action), f.method = m → f.locked = none → f.entered = [] → (doReturn e (T.setTop f) acts (some (.int z))).1 = T.setFrames fs) : Steps p.tables e below (T.setTop (mkF m pc Ls (.int z :: rest))) (T.setFrames fs) := by
  have hm' : T.vm.method? m = some meth := X.method'
  have hn : narrow .int (.int z) = .int z := rfl
  show Steps p.tables e below (T.setTop { method := m, pc := pc, locals := Ls, stack := _ :: rest, locked := none }) _
  jvm_step X.here [X.here.top, hx, hd, hm', hret, hn]
  first | (intro acts; rw [hl _ acts rfl rfl rfl]) | rw [hl _ _ rfl rfl rfl]
  exact Steps.refl _
/-- the walk that stands at g in T comes to its end, with Q -/
def OE (FE : State → Outcome → State → List Loc → Nat → Nat → Prop) (p : Program) (e : Env) (below : List Frame) (s : State) (Q : Option Value → Heap → List Loc → Prop) (kc ks : Nat) (T : State) (g : JFrame) : Prop :=
  ∃ s₂ o, Steps p.tables e below (T.setTop g) s₂ ∧ s₂.status = .running ∧ Ended s₂ below o ∧ ∃ v L, o = .returned v ∧ Q v s₂.heap L ∧ FE s o s₂ L kc ks
variable {FE : State → Outcome → State → List Loc → Nat → Nat → Prop} {Q : Option Value → Heap → List Loc → Prop} {kc ks : Nat} {s' : State}
theorem OE.of {T' : State} {g g' : JFrame} (k : ∀ t, Steps p.tables e below (T'.setTop g') t → Steps p.tables e below (T.setTop g) t) (h : OE FE p e below s Q kc ks T' g') : OE FE p e below s Q kc ks T g := by
  obtain ⟨s₂, o, h1, h2⟩ := h
  exact ⟨s₂, o, k _ h1, h2⟩
theorem OE.retN (X : Stand p l e R s m args below meth c T locs cells slots) (hx : p.tables.exec = Jvm.exec) {pc : Nat} {Ls : Array Slot} {z : Int32} {t : FieldType} {rest : List Value} (hret : meth.sig.returnType = some t) (ht : t = .boolean ∨ t = .byte ∨ t = .char ∨ t = .short) (hlk : meth.locks = false)
    (hd : decode c.code pc = .ok (.ireturn, 1)) (hc : cells ≤ kc) (hs : slots ≤ ks) (hQ : Q (some (.int (nar t z))) T.heap locs) : OE FrameEnd p e below s Q kc ks T (mkF m pc Ls (.int z :: rest)) := by
  obtain ⟨fs, hr, hrun, hended, hW, hsame⟩ := X.leave (v := some (.int (nar t z))) (fun h => by rw [hret] at h; cases h) hlk
  exact ⟨_, _, Jvm.RoadKit.retN X hx hret ht hd hr, hrun, hended, _, _, rfl, hQ, ⟨_, rfl⟩, hW, hsame.mono hc hs⟩
theorem OE.retI (X : Stand p l e R s m args below meth c T locs cells slots) (hx : p.tables.exec = Jvm.exec) {pc : Nat} {Ls : Array Slot} {z : Int32} {rest : List Value} (hret : meth.sig.returnType = some .int) (hlk : meth.locks = false)
    (hd : decode c.code pc = .ok (.ireturn, 1)) (hc : cells ≤ kc) (hs : slots ≤ ks) (hQ : Q (some (.int z)) T.heap locs) : OE FrameEnd p e below s Q kc ks T (mkF m pc Ls (.int z :: rest)) := by
  obtain ⟨fs, hr, hrun, hended, hW, hsame⟩ := X.leave (v := some (.int z)) (fun h => by rw [hret] at h; cases h) hlk
  exact ⟨_, _, Jvm.RoadKit.retI X hx hret hd hr, hrun, hended, _, _, rfl, hQ, ⟨_, rfl⟩, hW, hsame.mono hc hs⟩
theorem OE.retJ (X : Stand p l e R s m args below meth c T locs cells slots) (hx : p.tables.exec = Jvm.exec) {pc : Nat} {Ls : Array Slot} {z : Int64} (hret : meth.sig.returnType = some .long) (hlk : meth.locks = false)
    (hd : decode c.code pc = .ok (.lreturn, 1)) (hc : cells ≤ kc) (hs : slots ≤ ks) (hQ : Q (some (.long z)) T.heap locs) : OE FrameEnd p e below s Q kc ks T (mkF m pc Ls [.long z]) := by
  obtain ⟨fs, hr, hrun, hended, hW, hsame⟩ := X.leave (v := some (.long z)) (fun h => by rw [hret] at h; cases h) hlk
  exact ⟨_, _, X.lreturnOut hx hret hd hr, hrun, hended, _, _, rfl, hQ, ⟨_, rfl⟩, hW, hsame.mono hc hs⟩
theorem OE.retD (X : Stand p l e R s m args below meth c T locs cells slots) (hx : p.tables.exec = Jvm.exec) {pc : Nat} {Ls : Array Slot} {z : UInt64} (hret : meth.sig.returnType = some .double) (hlk : meth.locks = false)
    (hd : decode c.code pc = .ok (.dreturn, 1)) (hc : cells ≤ kc) (hs : slots ≤ ks) (hQ : Q (some (.double z)) T.heap locs) : OE FrameEnd p e below s Q kc ks T (mkF m pc Ls [.double z]) := by
  obtain ⟨fs, hr, hrun, hended, hW, hsame⟩ := X.leave (v := some (.double z)) (fun h => by rw [hret] at h; cases h) hlk
  exact ⟨_, _, Jvm.RoadKit.retOut X hx hret rfl (Or.inr (Or.inr (Or.inl ⟨rfl, rfl, _, rfl⟩))) hd hr, hrun, hended, _, _, rfl, hQ, ⟨_, rfl⟩, hW, hsame.mono hc hs⟩
theorem OE.retA (X : Stand p l e R s m args below meth c T locs cells slots) (hx : p.tables.exec = Jvm.exec) {pc : Nat} {Ls : Array Slot} {w : Value} {t : FieldType} (hw : w.isRef = true) (hret : meth.sig.returnType = some t) (ht : t.isReference = true) (hlk : meth.locks = false)
    (hd : decode c.code pc = .ok (.areturn, 1)) (hc : cells ≤ kc) (hs : slots ≤ ks) (hQ : Q (some w) T.heap locs) : OE FrameEnd p e below s Q kc ks T (mkF m pc Ls [w]) := by
  obtain ⟨fs, hr, hrun, hended, hW, hsame⟩ := X.leave (v := some w) (fun h => by rw [hret] at h; cases h) hlk
  exact ⟨_, _, X.areturnOut hx hw hret ht hd hr, hrun, hended, _, _, rfl, hQ, ⟨_, rfl⟩, hW, hsame.mono hc hs⟩
theorem OE.ret0 (X : Stand p l e R s m args below meth c T locs cells slots) (hx : p.tables.exec = Jvm.exec) {pc : Nat} {Ls : Array Slot} (hret : meth.sig.returnType = none) (hlk : meth.locks = false)
    (hd : decode c.code pc = .ok (.return_, 1)) (hc : cells ≤ kc) (hs : slots ≤ ks) (hQ : Q none T.heap locs) : OE FrameEnd p e below s Q kc ks T (mkF m pc Ls []) := by
  obtain ⟨fs, hr, hrun, hended, hW, hsame⟩ := X.leave (v := none) (fun _ => rfl) hlk
  exact ⟨_, _, X.returnOut hx hret hd hr, hrun, hended, _, _, rfl, hQ, ⟨_, rfl⟩, hW, hsame.mono hc hs⟩
theorem OE.iload (X : Stand p l e R s' m args below meth c T locs cells slots) (hx : p.tables.exec = Jvm.exec) {code : ByteArray} (hby : c.code = code) {pc : Nat} {Ls : Array Slot} {k : Nat} {v : Int32} {st : List Value} (hd : decode code pc = .ok (.iload k, 2)) (hl : Ls[k]? = some (.val (.int v))) (h : OE FE p e below s Q kc ks T (mkF m (pc + 2) Ls (.int v :: st))) : OE FE p e below s Q kc ks T (mkF m pc Ls (st)) := OE.of (fun _ k' => XS.iload X.here hx rfl (hb hby hd) hl k') h
theorem OE.iloadN (X : Stand p l e R s' m args below meth c T locs cells slots) (hx : p.tables.exec = Jvm.exec) {code : ByteArray} (hby : c.code = code) {pc : Nat} {Ls : Array Slot} {k : Fin 4} {v : Int32} {st : List Value} (hd : decode code pc = .ok (.iload_n k, 1)) (hl : Ls[k.val]? = some (.val (.int v))) (h : OE FE p e below s Q kc ks T (mkF m (pc + 1) Ls (.int v :: st))) : OE FE p e below s Q kc ks T (mkF m pc Ls (st)) := OE.of (fun _ k' => XS.iloadN X.here hx rfl (hb hby hd) hl k') h
theorem OE.lload (X : Stand p l e R s' m args below meth c T locs cells slots) (hx : p.tables.exec = Jvm.exec) {code : ByteArray} (hby : c.code = code) {pc : Nat} {Ls : Array Slot} {k : Nat} {v : Int64} {st : List Value} (hd : decode code pc = .ok (.lload k, 2)) (hl : Ls[k]? = some (.val (.long v))) (h : OE FE p e below s Q kc ks T (mkF m (pc + 2) Ls (.long v :: st))) : OE FE p e below s Q kc ks T (mkF m pc Ls (st)) := OE.of (fun _ k' => XS.lload X.here hx rfl (hb hby hd) hl k') h
theorem OE.lloadN (X : Stand p l e R s' m args below meth c T locs cells slots) (hx : p.tables.exec = Jvm.exec) {code : ByteArray} (hby : c.code = code) {pc : Nat} {Ls : Array Slot} {k : Fin 4} {v : Int64} {st : List Value} (hd : decode code pc = .ok (.lload_n k, 1)) (hl : Ls[k.val]? = some (.val (.long v))) (h : OE FE p e below s Q kc ks T (mkF m (pc + 1) Ls (.long v :: st))) : OE FE p e below s Q kc ks T (mkF m pc Ls (st)) := OE.of (fun _ k' => XS.lloadN X.here hx rfl (hb hby hd) hl k') h
theorem OE.dload (X : Stand p l e R s' m args below meth c T locs cells slots) (hx : p.tables.exec = Jvm.exec) {code : ByteArray} (hby : c.code = code) {pc : Nat} {Ls : Array Slot} {k : Nat} {v : UInt64} {st : List Value} (hd : decode code pc = .ok (.dload k, 2)) (hl : Ls[k]? = some (.val (.double v))) (h : OE FE p e below s Q kc ks T (mkF m (pc + 2) Ls (.double v :: st))) : OE FE p e below s Q kc ks T (mkF m pc Ls (st)) := OE.of (fun _ k' => XS.dload X.here hx rfl (hb hby hd) hl k') h
theorem OE.dloadN (X : Stand p l e R s' m args below meth c T locs cells slots) (hx : p.tables.exec = Jvm.exec) {code : ByteArray} (hby : c.code = code) {pc : Nat} {Ls : Array Slot} {k : Fin 4} {v : UInt64} {st : List Value} (hd : decode code pc = .ok (.dload_n k, 1)) (hl : Ls[k.val]? = some (.val (.double v))) (h : OE FE p e below s Q kc ks T (mkF m (pc + 1) Ls (.double v :: st))) : OE FE p e below s Q kc ks T (mkF m pc Ls (st)) := OE.of (fun _ k' => XS.dloadN X.here hx rfl (hb hby hd) hl k') h
theorem OE.dstore (X : Stand p l e R s' m args below meth c T locs cells slots) (hx : p.tables.exec = Jvm.exec) {code : ByteArray} (hby : c.code = code) {pc : Nat} {Ls : Array Slot} {k : Nat} {v : UInt64} {st : List Value} {l' : Array Slot} (hd : decode code pc = .ok (.dstore k, 2)) (hl : storeLocals Ls k (.double v) = some l') (h : OE FE p e below s Q kc ks T (mkF m (pc + 2) l' (st))) : OE FE p e below s Q kc ks T (mkF m pc Ls (.double v :: st)) := OE.of (fun _ k' => XS.dstore X.here hx rfl (hb hby hd) rfl hl k') h
theorem OE.dstoreN (X : Stand p l e R s' m args below meth c T locs cells slots) (hx : p.tables.exec = Jvm.exec) {code : ByteArray} (hby : c.code = code) {pc : Nat} {Ls : Array Slot} {k : Fin 4} {v : UInt64} {st : List Value} {l' : Array Slot} (hd : decode code pc = .ok (.dstore_n k, 1)) (hl : storeLocals Ls k.val (.double v) = some l') (h : OE FE p e below s Q kc ks T (mkF m (pc + 1) l' (st))) : OE FE p e below s Q kc ks T (mkF m pc Ls (.double v :: st)) := OE.of (fun _ k' => XS.dstoreN X.here hx rfl (hb hby hd) rfl hl k') h
theorem OE.i2d (X : Stand p l e R s' m args below meth c T locs cells slots) (hx : p.tables.exec = Jvm.exec) {code : ByteArray} (hby : c.code = code) {pc : Nat} {Ls : Array Slot} {x : Int32} {st : List Value} (hd : decode code pc = .ok (.i2d, 1))  (h : OE FE p e below s Q kc ks T (mkF m (pc + 1) Ls (.double (FP.i2d x) :: st))) : OE FE p e below s Q kc ks T (mkF m pc Ls (.int x :: st)) := OE.of (fun _ k' => XS.i2dS X.here hx rfl (hb hby hd) rfl rfl k') h
theorem OE.dneg (X : Stand p l e R s' m args below meth c T locs cells slots) (hx : p.tables.exec = Jvm.exec) {code : ByteArray} (hby : c.code = code) {pc : Nat} {Ls : Array Slot} {x : UInt64} {st : List Value} (hd : decode code pc = .ok (.dneg, 1))  (h : OE FE p e below s Q kc ks T (mkF m (pc + 1) Ls (.double (FP.dneg x) :: st))) : OE FE p e below s Q kc ks T (mkF m pc Ls (.double x :: st)) := OE.of (fun _ k' => XS.dnegS X.here hx rfl (hb hby hd) rfl rfl k') h
theorem OE.dcmp (X : Stand p l e R s' m args below meth c T locs cells slots) (hx : p.tables.exec = Jvm.exec) {code : ByteArray} (hby : c.code = code) {pc : Nat} {Ls : Array Slot} {o : CmpOp} {x y : UInt64} {st : List Value} (hd : decode code pc = .ok (.dcmp o, 1))  (h : OE FE p e below s Q kc ks T (mkF m (pc + 1) Ls (.int (cmpValue (FP.dcmp x y) o) :: st))) : OE FE p e below s Q kc ks T (mkF m pc Ls (.double y :: .double x :: st)) := OE.of (fun _ k' => XS.dcmpS X.here hx rfl (hb hby hd) rfl rfl k') h
theorem OE.dadd (X : Stand p l e R s' m args below meth c T locs cells slots) (hx : p.tables.exec = Jvm.exec) {code : ByteArray} (hby : c.code = code) {pc : Nat} {Ls : Array Slot} {x y : UInt64} {st : List Value} (hd : decode code pc = .ok (.dadd, 1)) (hn : Jvm.Free.Fl.NoNaN64 (FP.dadd x y)) (h : OE FE p e below s Q kc ks T (mkF m (pc + 1) Ls (.double (FP.dadd x y) :: st))) : OE FE p e below s Q kc ks T (mkF m pc Ls (.double y :: .double x :: st)) := OE.of (fun _ k' => XS.daddS X.here hx rfl (hb hby hd) rfl hn rfl k') h
theorem OE.dsub (X : Stand p l e R s' m args below meth c T locs cells slots) (hx : p.tables.exec = Jvm.exec) {code : ByteArray} (hby : c.code = code) {pc : Nat} {Ls : Array Slot} {x y : UInt64} {st : List Value} (hd : decode code pc = .ok (.dsub, 1)) (hn : Jvm.Free.Fl.NoNaN64 (FP.dsub x y)) (h : OE FE p e below s Q kc ks T (mkF m (pc + 1) Ls (.double (FP.dsub x y) :: st))) : OE FE p e below s Q kc ks T (mkF m pc Ls (.double y :: .double x :: st)) := OE.of (fun _ k' => XS.dsubS X.here hx rfl (hb hby hd) rfl hn rfl k') h
theorem OE.dmul (X : Stand p l e R s' m args below meth c T locs cells slots) (hx : p.tables.exec = Jvm.exec) {code : ByteArray} (hby : c.code = code) {pc : Nat} {Ls : Array Slot} {x y : UInt64} {st : List Value} (hd : decode code pc = .ok (.dmul, 1)) (hn : Jvm.Free.Fl.NoNaN64 (FP.dmul x y)) (h : OE FE p e below s Q kc ks T (mkF m (pc + 1) Ls (.double (FP.dmul x y) :: st))) : OE FE p e below s Q kc ks T (mkF m pc Ls (.double y :: .double x :: st)) := OE.of (fun _ k' => XS.dmulS X.here hx rfl (hb hby hd) rfl hn rfl k') h
theorem OE.aload (X : Stand p l e R s' m args below meth c T locs cells slots) (hx : p.tables.exec = Jvm.exec) {code : ByteArray} (hby : c.code = code) {pc : Nat} {Ls : Array Slot} {k : Nat} {v : Value} {st : List Value} (hd : decode code pc = .ok (.aload k, 2)) (hl : Ls[k]? = some (.val v)) (hv : v.isRef = true) (h : OE FE p e below s Q kc ks T (mkF m (pc + 2) Ls (v :: st))) : OE FE p e below s Q kc ks T (mkF m pc Ls (st)) := OE.of (fun _ k' => XS.aload X.here hx rfl (hb hby hd) hl hv k') h
theorem OE.aloadN (X : Stand p l e R s' m args below meth c T locs cells slots) (hx : p.tables.exec = Jvm.exec) {code : ByteArray} (hby : c.code = code) {pc : Nat} {Ls : Array Slot} {k : Fin 4} {v : Value} {st : List Value} (hd : decode code pc = .ok (.aload_n k, 1)) (hl : Ls[k.val]? = some (.val v)) (hv : v.isRef = true) (h : OE FE p e below s Q kc ks T (mkF m (pc + 1) Ls (v :: st))) : OE FE p e below s Q kc ks T (mkF m pc Ls (st)) := OE.of (fun _ k' => XS.aloadN X.here hx rfl (hb hby hd) hl hv k') h
theorem OE.istore (X : Stand p l e R s' m args below meth c T locs cells slots) (hx : p.tables.exec = Jvm.exec) {code : ByteArray} (hby : c.code = code) {pc : Nat} {Ls : Array Slot} {k : Nat} {v : Int32} {st : List Value} {l' : Array Slot} (hd : decode code pc = .ok (.istore k, 2)) (hl : storeLocals Ls k (.int v) = some l') (h : OE FE p e below s Q kc ks T (mkF m (pc + 2) l' (st))) : OE FE p e below s Q kc ks T (mkF m pc Ls (.int v :: st)) := OE.of (fun _ k' => XS.istore X.here hx rfl (hb hby hd) rfl hl k') h
theorem OE.istoreN (X : Stand p l e R s' m args below meth c T locs cells slots) (hx : p.tables.exec = Jvm.exec) {code : ByteArray} (hby : c.code = code) {pc : Nat} {Ls : Array Slot} {k : Fin 4} {v : Int32} {st : List Value} {l' : Array Slot} (hd : decode code pc = .ok (.istore_n k, 1)) (hl : storeLocals Ls k.val (.int v) = some l') (h : OE FE p e below s Q kc ks T (mkF m (pc + 1) l' (st))) : OE FE p e below s Q kc ks T (mkF m pc Ls (.int v :: st)) := OE.of (fun _ k' => XS.istoreN X.here hx rfl (hb hby hd) rfl hl k') h
theorem OE.lstore (X : Stand p l e R s' m args below meth c T locs cells slots) (hx : p.tables.exec = Jvm.exec) {code : ByteArray} (hby : c.code = code) {pc : Nat} {Ls : Array Slot} {k : Nat} {v : Int64} {st : List Value} {l' : Array Slot} (hd : decode code pc = .ok (.lstore k, 2)) (hl : storeLocals Ls k (.long v) = some l') (h : OE FE p e below s Q kc ks T (mkF m (pc + 2) l' (st))) : OE FE p e below s Q kc ks T (mkF m pc Ls (.long v :: st)) := OE.of (fun _ k' => XS.lstore X.here hx rfl (hb hby hd) rfl hl k') h
theorem OE.lstoreN (X : Stand p l e R s' m args below meth c T locs cells slots) (hx : p.tables.exec = Jvm.exec) {code : ByteArray} (hby : c.code = code) {pc : Nat} {Ls : Array Slot} {k : Fin 4} {v : Int64} {st : List Value} {l' : Array Slot} (hd : decode code pc = .ok (.lstore_n k, 1)) (hl : storeLocals Ls k.val (.long v) = some l') (h : OE FE p e below s Q kc ks T (mkF m (pc + 1) l' (st))) : OE FE p e below s Q kc ks T (mkF m pc Ls (.long v :: st)) := OE.of (fun _ k' => XS.lstoreN X.here hx rfl (hb hby hd) rfl hl k') h
theorem OE.astore (X : Stand p l e R s' m args below meth c T locs cells slots) (hx : p.tables.exec = Jvm.exec) {code : ByteArray} (hby : c.code = code) {pc : Nat} {Ls : Array Slot} {k : Nat} {v : Value} {st : List Value} {l' : Array Slot} (hd : decode code pc = .ok (.astore k, 2)) (hv : v.isRef = true) (hl : storeLocals Ls k v = some l') (h : OE FE p e below s Q kc ks T (mkF m (pc + 2) l' (st))) : OE FE p e below s Q kc ks T (mkF m pc Ls (v :: st)) := OE.of (fun _ k' => XS.astore X.here hx rfl (hb hby hd) rfl hv hl k') h
theorem OE.astoreN (X : Stand p l e R s' m args below meth c T locs cells slots) (hx : p.tables.exec = Jvm.exec) {code : ByteArray} (hby : c.code = code) {pc : Nat} {Ls : Array Slot} {k : Fin 4} {v : Value} {st : List Value} {l' : Array Slot} (hd : decode code pc = .ok (.astore_n k, 1)) (hv : v.isRef = true) (hl : storeLocals Ls k.val v = some l') (h : OE FE p e below s Q kc ks T (mkF m (pc + 1) l' (st))) : OE FE p e below s Q kc ks T (mkF m pc Ls (v :: st)) := OE.of (fun _ k' => XS.astoreN X.here hx rfl (hb hby hd) rfl hv hl k') h
theorem OE.iconst (X : Stand p l e R s' m args below meth c T locs cells slots) (hx : p.tables.exec = Jvm.exec) {code : ByteArray} (hby : c.code = code) {pc : Nat} {Ls : Array Slot} {i : Int} {st : List Value} (hd : decode code pc = .ok (.iconst i, 1)) (z : Int32) (hz : Int32.ofInt i = z) (h : OE FE p e below s Q kc ks T (mkF m (pc + 1) Ls (.int z :: st))) : OE FE p e below s Q kc ks T (mkF m pc Ls (st)) := OE.of (fun _ k' => XS.iconst X.here hx rfl (hb hby hd) (by subst hz; exact k')) h
theorem OE.bipush (X : Stand p l e R s' m args below meth c T locs cells slots) (hx : p.tables.exec = Jvm.exec) {code : ByteArray} (hby : c.code = code) {pc : Nat} {Ls : Array Slot} {i : Int} {st : List Value} (hd : decode code pc = .ok (.bipush i, 2)) (z : Int32) (hz : (Int8.ofInt i).toInt32 = z) (h : OE FE p e below s Q kc ks T (mkF m (pc + 2) Ls (.int z :: st))) : OE FE p e below s Q kc ks T (mkF m pc Ls (st)) := OE.of (fun _ k' => XS.bipush X.here hx rfl (hb hby hd) (by subst hz; exact k')) h
theorem OE.sipush (X : Stand p l e R s' m args below meth c T locs cells slots) (hx : p.tables.exec = Jvm.exec) {code : ByteArray} (hby : c.code = code) {pc : Nat} {Ls : Array Slot} {i : Int} {st : List Value} (hd : decode code pc = .ok (.sipush i, 3)) (z : Int32) (hz : (Int16.ofInt i).toInt32 = z) (h : OE FE p e below s Q kc ks T (mkF m (pc + 3) Ls (.int z :: st))) : OE FE p e below s Q kc ks T (mkF m pc Ls (st)) := OE.of (fun _ k' => XS.sipush X.here hx rfl (hb hby hd) (by subst hz; exact k')) h
theorem OE.lconst (X : Stand p l e R s' m args below meth c T locs cells slots) (hx : p.tables.exec = Jvm.exec) {code : ByteArray} (hby : c.code = code) {pc : Nat} {Ls : Array Slot} {i : Fin 2} {st : List Value} (hd : decode code pc = .ok (.lconst i, 1)) (z : Int64) (hz : Int64.ofNat i = z) (h : OE FE p e below s Q kc ks T (mkF m (pc + 1) Ls (.long z :: st))) : OE FE p e below s Q kc ks T (mkF m pc Ls (st)) := OE.of (fun _ k' => XS.lconst X.here hx rfl (hb hby hd) (by subst hz; exact k')) h
theorem OE.aconstNull (X : Stand p l e R s' m args below meth c T locs cells slots) (hx : p.tables.exec = Jvm.exec) {code : ByteArray} (hby : c.code = code) {pc : Nat} {Ls : Array Slot} {st : List Value} (hd : decode code pc = .ok (.aconst_null, 1))  (h : OE FE p e below s Q kc ks T (mkF m (pc + 1) Ls (.null :: st))) : OE FE p e below s Q kc ks T (mkF m pc Ls (st)) := OE.of (fun _ k' => XS.aconstNull X.here hx rfl (hb hby hd) k') h
theorem OE.iadd (X : Stand p l e R s' m args below meth c T locs cells slots) (hx : p.tables.exec = Jvm.exec) {code : ByteArray} (hby : c.code = code) {pc : Nat} {Ls : Array Slot} {x y : Int32} {st : List Value} (hd : decode code pc = .ok (.iadd, 1))  (h : OE FE p e below s Q kc ks T (mkF m (pc + 1) Ls (.int (x + y) :: st))) : OE FE p e below s Q kc ks T (mkF m pc Ls (.int y :: .int x :: st)) := OE.of (fun _ k' => XS.iadd X.here hx rfl (hb hby hd) rfl k') h
theorem OE.ladd (X : Stand p l e R s' m args below meth c T locs cells slots) (hx : p.tables.exec = Jvm.exec) {code : ByteArray} (hby : c.code = code) {pc : Nat} {Ls : Array Slot} {x y : Int64} {st : List Value} (hd : decode code pc = .ok (.ladd, 1))  (h : OE FE p e below s Q kc ks T (mkF m (pc + 1) Ls (.long (x + y) :: st))) : OE FE p e below s Q kc ks T (mkF m pc Ls (.long y :: .long x :: st)) := OE.of (fun _ k' => XS.ladd X.here hx rfl (hb hby hd) rfl k') h
theorem OE.isub (X : Stand p l e R s' m args below meth c T locs cells slots) (hx : p.tables.exec = Jvm.exec) {code : ByteArray} (hby : c.code = code) {pc : Nat} {Ls : Array Slot} {x y : Int32} {st : List Value} (hd : decode code pc = .ok (.isub, 1))  (h : OE FE p e below s Q kc ks T (mkF m (pc + 1) Ls (.int (x - y) :: st))) : OE FE p e below s Q kc ks T (mkF m pc Ls (.int y :: .int x :: st)) := OE.of (fun _ k' => XS.isub X.here hx rfl (hb hby hd) rfl k') h
theorem OE.lsub (X : Stand p l e R s' m args below meth c T locs cells slots) (hx : p.tables.exec = Jvm.exec) {code : ByteArray} (hby : c.code = code) {pc : Nat} {Ls : Array Slot} {x y : Int64} {st : List Value} (hd : decode code pc = .ok (.lsub, 1))  (h : OE FE p e below s Q kc ks T (mkF m (pc + 1) Ls (.long (x - y) :: st))) : OE FE p e below s Q kc ks T (mkF m pc Ls (.long y :: .long x :: st)) := OE.of (fun _ k' => XS.lsub X.here hx rfl (hb hby hd) rfl k') h
theorem OE.imul (X : Stand p l e R s' m args below meth c T locs cells slots) (hx : p.tables.exec = Jvm.exec) {code : ByteArray} (hby : c.code = code) {pc : Nat} {Ls : Array Slot} {x y : Int32} {st : List Value} (hd : decode code pc = .ok (.imul, 1))  (h : OE FE p e below s Q kc ks T (mkF m (pc + 1) Ls (.int (x * y) :: st))) : OE FE p e below s Q kc ks T (mkF m pc Ls (.int y :: .int x :: st)) := OE.of (fun _ k' => XS.imul X.here hx rfl (hb hby hd) rfl k') h
theorem OE.lmul (X : Stand p l e R s' m args below meth c T locs cells slots) (hx : p.tables.exec = Jvm.exec) {code : ByteArray} (hby : c.code = code) {pc : Nat} {Ls : Array Slot} {x y : Int64} {st : List Value} (hd : decode code pc = .ok (.lmul, 1))  (h : OE FE p e below s Q kc ks T (mkF m (pc + 1) Ls (.long (x * y) :: st))) : OE FE p e below s Q kc ks T (mkF m pc Ls (.long y :: .long x :: st)) := OE.of (fun _ k' => XS.lmul X.here hx rfl (hb hby hd) rfl k') h
theorem OE.iand (X : Stand p l e R s' m args below meth c T locs cells slots) (hx : p.tables.exec = Jvm.exec) {code : ByteArray} (hby : c.code = code) {pc : Nat} {Ls : Array Slot} {x y : Int32} {st : List Value} (hd : decode code pc = .ok (.iand, 1))  (h : OE FE p e below s Q kc ks T (mkF m (pc + 1) Ls (.int (x &&& y) :: st))) : OE FE p e below s Q kc ks T (mkF m pc Ls (.int y :: .int x :: st)) := OE.of (fun _ k' => XS.iand X.here hx rfl (hb hby hd) rfl k') h
theorem OE.land (X : Stand p l e R s' m args below meth c T locs cells slots) (hx : p.tables.exec = Jvm.exec) {code : ByteArray} (hby : c.code = code) {pc : Nat} {Ls : Array Slot} {x y : Int64} {st : List Value} (hd : decode code pc = .ok (.land, 1))  (h : OE FE p e below s Q kc ks T (mkF m (pc + 1) Ls (.long (x &&& y) :: st))) : OE FE p e below s Q kc ks T (mkF m pc Ls (.long y :: .long x :: st)) := OE.of (fun _ k' => XS.land X.here hx rfl (hb hby hd) rfl k') h
theorem OE.ior (X : Stand p l e R s' m args below meth c T locs cells slots) (hx : p.tables.exec = Jvm.exec) {code : ByteArray} (hby : c.code = code) {pc : Nat} {Ls : Array Slot} {x y : Int32} {st : List Value} (hd : decode code pc = .ok (.ior, 1))  (h : OE FE p e below s Q kc ks T (mkF m (pc + 1) Ls (.int (x ||| y) :: st))) : OE FE p e below s Q kc ks T (mkF m pc Ls (.int y :: .int x :: st)) := OE.of (fun _ k' => XS.ior X.here hx rfl (hb hby hd) rfl k') h
theorem OE.lor (X : Stand p l e R s' m args below meth c T locs cells slots) (hx : p.tables.exec = Jvm.exec) {code : ByteArray} (hby : c.code = code) {pc : Nat} {Ls : Array Slot} {x y : Int64} {st : List Value} (hd : decode code pc = .ok (.lor, 1))  (h : OE FE p e below s Q kc ks T (mkF m (pc + 1) Ls (.long (x ||| y) :: st))) : OE FE p e below s Q kc ks T (mkF m pc Ls (.long y :: .long x :: st)) := OE.of (fun _ k' => XS.lor X.here hx rfl (hb hby hd) rfl k') h
theorem OE.ixor (X : Stand p l e R s' m args below meth c T locs cells slots) (hx : p.tables.exec = Jvm.exec) {code : ByteArray} (hby : c.code = code) {pc : Nat} {Ls : Array Slot} {x y : Int32} {st : List Value} (hd : decode code pc = .ok (.ixor, 1))  (h : OE FE p e below s Q kc ks T (mkF m (pc + 1) Ls (.int (x ^^^ y) :: st))) : OE FE p e below s Q kc ks T (mkF m pc Ls (.int y :: .int x :: st)) := OE.of (fun _ k' => XS.ixor X.here hx rfl (hb hby hd) rfl k') h
theorem OE.lxor (X : Stand p l e R s' m args below meth c T locs cells slots) (hx : p.tables.exec = Jvm.exec) {code : ByteArray} (hby : c.code = code) {pc : Nat} {Ls : Array Slot} {x y : Int64} {st : List Value} (hd : decode code pc = .ok (.lxor, 1))  (h : OE FE p e below s Q kc ks T (mkF m (pc + 1) Ls (.long (x ^^^ y) :: st))) : OE FE p e below s Q kc ks T (mkF m pc Ls (.long y :: .long x :: st)) := OE.of (fun _ k' => XS.lxor X.here hx rfl (hb hby hd) rfl k') h
theorem OE.ishl (X : Stand p l e R s' m args below meth c T locs cells slots) (hx : p.tables.exec = Jvm.exec) {code : ByteArray} (hby : c.code = code) {pc : Nat} {Ls : Array Slot} {x y : Int32} {st : List Value} (hd : decode code pc = .ok (.ishl, 1))  (h : OE FE p e below s Q kc ks T (mkF m (pc + 1) Ls (.int (x <<< (y &&& 31)) :: st))) : OE FE p e below s Q kc ks T (mkF m pc Ls (.int y :: .int x :: st)) := OE.of (fun _ k' => XS.ishl X.here hx rfl (hb hby hd) rfl k') h
theorem OE.ishr (X : Stand p l e R s' m args below meth c T locs cells slots) (hx : p.tables.exec = Jvm.exec) {code : ByteArray} (hby : c.code = code) {pc : Nat} {Ls : Array Slot} {x y : Int32} {st : List Value} (hd : decode code pc = .ok (.ishr, 1))  (h : OE FE p e below s Q kc ks T (mkF m (pc + 1) Ls (.int (x >>> (y &&& 31)) :: st))) : OE FE p e below s Q kc ks T (mkF m pc Ls (.int y :: .int x :: st)) := OE.of (fun _ k' => XS.ishr X.here hx rfl (hb hby hd) rfl k') h
theorem OE.iushr (X : Stand p l e R s' m args below meth c T locs cells slots) (hx : p.tables.exec = Jvm.exec) {code : ByteArray} (hby : c.code = code) {pc : Nat} {Ls : Array Slot} {x y : Int32} {st : List Value} (hd : decode code pc = .ok (.iushr, 1))  (h : OE FE p e below s Q kc ks T (mkF m (pc + 1) Ls (.int ((x.toUInt32 >>> (y &&& 31).toUInt32).toInt32) :: st))) : OE FE p e below s Q kc ks T (mkF m pc Ls (.int y :: .int x :: st)) := OE.of (fun _ k' => XS.iushr X.here hx rfl (hb hby hd) rfl k') h
theorem OE.lshl (X : Stand p l e R s' m args below meth c T locs cells slots) (hx : p.tables.exec = Jvm.exec) {code : ByteArray} (hby : c.code = code) {pc : Nat} {Ls : Array Slot} {x : Int64} {y : Int32} {st : List Value} (hd : decode code pc = .ok (.lshl, 1))  (h : OE FE p e below s Q kc ks T (mkF m (pc + 1) Ls (.long (x <<< (y &&& 0x3f).toInt64) :: st))) : OE FE p e below s Q kc ks T (mkF m pc Ls (.int y :: .long x :: st)) := OE.of (fun _ k' => XS.lshl X.here hx rfl (hb hby hd) rfl k') h
theorem OE.lshr (X : Stand p l e R s' m args below meth c T locs cells slots) (hx : p.tables.exec = Jvm.exec) {code : ByteArray} (hby : c.code = code) {pc : Nat} {Ls : Array Slot} {x : Int64} {y : Int32} {st : List Value} (hd : decode code pc = .ok (.lshr, 1))  (h : OE FE p e below s Q kc ks T (mkF m (pc + 1) Ls (.long (x >>> (y &&& 0x3f).toInt64) :: st))) : OE FE p e below s Q kc ks T (mkF m pc Ls (.int y :: .long x :: st)) := OE.of (fun _ k' => XS.lshr X.here hx rfl (hb hby hd) rfl k') h
theorem OE.lushr (X : Stand p l e R s' m args below meth c T locs cells slots) (hx : p.tables.exec = Jvm.exec) {code : ByteArray} (hby : c.code = code) {pc : Nat} {Ls : Array Slot} {x : Int64} {y : Int32} {st : List Value} (hd : decode code pc = .ok (.lushr, 1))  (h : OE FE p e below s Q kc ks T (mkF m (pc + 1) Ls (.long ((x.toUInt64 >>> (y &&& 0x3f).toInt64.toUInt64).toInt64) :: st))) : OE FE p e below s Q kc ks T (mkF m pc Ls (.int y :: .long x :: st)) := OE.of (fun _ k' => XS.lushr X.here hx rfl (hb hby hd) rfl k') h
theorem OE.ineg (X : Stand p l e R s' m args below meth c T locs cells slots) (hx : p.tables.exec = Jvm.exec) {code : ByteArray} (hby : c.code = code) {pc : Nat} {Ls : Array Slot} {x : Int32} {st : List Value} (hd : decode code pc = .ok (.ineg, 1))  (h : OE FE p e below s Q kc ks T (mkF m (pc + 1) Ls (.int (-x) :: st))) : OE FE p e below s Q kc ks T (mkF m pc Ls (.int x :: st)) := OE.of (fun _ k' => XS.ineg X.here hx rfl (hb hby hd) rfl k') h
theorem OE.lneg (X : Stand p l e R s' m args below meth c T locs cells slots) (hx : p.tables.exec = Jvm.exec) {code : ByteArray} (hby : c.code = code) {pc : Nat} {Ls : Array Slot} {x : Int64} {st : List Value} (hd : decode code pc = .ok (.lneg, 1))  (h : OE FE p e below s Q kc ks T (mkF m (pc + 1) Ls (.long (-x) :: st))) : OE FE p e below s Q kc ks T (mkF m pc Ls (.long x :: st)) := OE.of (fun _ k' => XS.lneg X.here hx rfl (hb hby hd) rfl k') h
theorem OE.i2l (X : Stand p l e R s' m args below meth c T locs cells slots) (hx : p.tables.exec = Jvm.exec) {code : ByteArray} (hby : c.code = code) {pc : Nat} {Ls : Array Slot} {x : Int32} {st : List Value} (hd : decode code pc = .ok (.i2l, 1))  (h : OE FE p e below s Q kc ks T (mkF m (pc + 1) Ls (.long x.toInt64 :: st))) : OE FE p e below s Q kc ks T (mkF m pc Ls (.int x :: st)) := OE.of (fun _ k' => XS.i2l X.here hx rfl (hb hby hd) rfl k') h
theorem OE.l2i (X : Stand p l e R s' m args below meth c T locs cells slots) (hx : p.tables.exec = Jvm.exec) {code : ByteArray} (hby : c.code = code) {pc : Nat} {Ls : Array Slot} {x : Int64} {st : List Value} (hd : decode code pc = .ok (.l2i, 1))  (h : OE FE p e below s Q kc ks T (mkF m (pc + 1) Ls (.int x.toInt32 :: st))) : OE FE p e below s Q kc ks T (mkF m pc Ls (.long x :: st)) := OE.of (fun _ k' => XS.l2i X.here hx rfl (hb hby hd) rfl k') h
theorem OE.i2b (X : Stand p l e R s' m args below meth c T locs cells slots) (hx : p.tables.exec = Jvm.exec) {code : ByteArray} (hby : c.code = code) {pc : Nat} {Ls : Array Slot} {x : Int32} {st : List Value} (hd : decode code pc = .ok (.i2b, 1))  (h : OE FE p e below s Q kc ks T (mkF m (pc + 1) Ls (.int x.toInt8.toInt32 :: st))) : OE FE p e below s Q kc ks T (mkF m pc Ls (.int x :: st)) := OE.of (fun _ k' => XS.i2b X.here hx rfl (hb hby hd) rfl k') h
theorem OE.i2s (X : Stand p l e R s' m args below meth c T locs cells slots) (hx : p.tables.exec = Jvm.exec) {code : ByteArray} (hby : c.code = code) {pc : Nat} {Ls : Array Slot} {x : Int32} {st : List Value} (hd : decode code pc = .ok (.i2s, 1))  (h : OE FE p e below s Q kc ks T (mkF m (pc + 1) Ls (.int x.toInt16.toInt32 :: st))) : OE FE p e below s Q kc ks T (mkF m pc Ls (.int x :: st)) := OE.of (fun _ k' => XS.i2s X.here hx rfl (hb hby hd) rfl k') h
theorem OE.i2c (X : Stand p l e R s' m args below meth c T locs cells slots) (hx : p.tables.exec = Jvm.exec) {code : ByteArray} (hby : c.code = code) {pc : Nat} {Ls : Array Slot} {x : Int32} {st : List Value} (hd : decode code pc = .ok (.i2c, 1))  (h : OE FE p e below s Q kc ks T (mkF m (pc + 1) Ls (.int x.toUInt32.toUInt16.toUInt32.toInt32 :: st))) : OE FE p e below s Q kc ks T (mkF m pc Ls (.int x :: st)) := OE.of (fun _ k' => XS.i2c X.here hx rfl (hb hby hd) rfl k') h
theorem OE.lcmp (X : Stand p l e R s' m args below meth c T locs cells slots) (hx : p.tables.exec = Jvm.exec) {code : ByteArray} (hby : c.code = code) {pc : Nat} {Ls : Array Slot} {x y : Int64} {st : List Value} (hd : decode code pc = .ok (.lcmp, 1))  (h : OE FE p e below s Q kc ks T (mkF m (pc + 1) Ls (.int (lcmpW x y) :: st))) : OE FE p e below s Q kc ks T (mkF m pc Ls (.long y :: .long x :: st)) := OE.of (fun _ k' => XS.lcmp X.here hx rfl (hb hby hd) rfl k') h
theorem OE.idiv (X : Stand p l e R s' m args below meth c T locs cells slots) (hx : p.tables.exec = Jvm.exec) {code : ByteArray} (hby : c.code = code) {pc : Nat} {Ls : Array Slot} {x y : Int32} {st : List Value} (hd : decode code pc = .ok (.idiv, 1)) (hy : y ≠ 0) (h : OE FE p e below s Q kc ks T (mkF m (pc + 1) Ls (.int (x / y) :: st))) : OE FE p e below s Q kc ks T (mkF m pc Ls (.int y :: .int x :: st)) := OE.of (fun _ k' => XS.idiv X.here hx rfl (hb hby hd) rfl hy k') h
theorem OE.irem (X : Stand p l e R s' m args below meth c T locs cells slots) (hx : p.tables.exec = Jvm.exec) {code : ByteArray} (hby : c.code = code) {pc : Nat} {Ls : Array Slot} {x y : Int32} {st : List Value} (hd : decode code pc = .ok (.irem, 1)) (hy : y ≠ 0) (h : OE FE p e below s Q kc ks T (mkF m (pc + 1) Ls (.int (x % y) :: st))) : OE FE p e below s Q kc ks T (mkF m pc Ls (.int y :: .int x :: st)) := OE.of (fun _ k' => XS.irem X.here hx rfl (hb hby hd) rfl hy (by rw [irem_eq_mod]; exact k')) h
theorem OE.ldiv (X : Stand p l e R s' m args below meth c T locs cells slots) (hx : p.tables.exec = Jvm.exec) {code : ByteArray} (hby : c.code = code) {pc : Nat} {Ls : Array Slot} {x y : Int64} {st : List Value} (hd : decode code pc = .ok (.ldiv, 1)) (hy : y ≠ 0) (h : OE FE p e below s Q kc ks T (mkF m (pc + 1) Ls (.long (x / y) :: st))) : OE FE p e below s Q kc ks T (mkF m pc Ls (.long y :: .long x :: st)) := OE.of (fun _ k' => XS.ldiv X.here hx rfl (hb hby hd) rfl hy k') h
theorem OE.lrem (X : Stand p l e R s' m args below meth c T locs cells slots) (hx : p.tables.exec = Jvm.exec) {code : ByteArray} (hby : c.code = code) {pc : Nat} {Ls : Array Slot} {x y : Int64} {st : List Value} (hd : decode code pc = .ok (.lrem, 1)) (hy : y ≠ 0) (h : OE FE p e below s Q kc ks T (mkF m (pc + 1) Ls (.long (x % y) :: st))) : OE FE p e below s Q kc ks T (mkF m pc Ls (.long y :: .long x :: st)) := OE.of (fun _ k' => XS.lrem X.here hx rfl (hb hby hd) rfl hy (by rw [lrem_mod]; exact k')) h
theorem OE.iinc (X : Stand p l e R s' m args below meth c T locs cells slots) (hx : p.tables.exec = Jvm.exec) {code : ByteArray} (hby : c.code = code) {pc : Nat} {Ls : Array Slot} {k : Nat} {cst : Int} {x : Int32} {l' : Array Slot} {st : List Value} (hd : decode code pc = .ok (.iinc k cst, 3)) (hl : Ls[k]? = some (.val (.int x))) (hl' : storeLocals Ls k (.int (x + Int32.ofInt cst)) = some l') (h : OE FE p e below s Q kc ks T (mkF m (pc + 3) l' (st))) : OE FE p e below s Q kc ks T (mkF m pc Ls (st)) := OE.of (fun _ k' => XS.iinc X.here hx rfl (hb hby hd) hl hl' k') h
theorem OE.dup (X : Stand p l e R s' m args below meth c T locs cells slots) (hx : p.tables.exec = Jvm.exec) {code : ByteArray} (hby : c.code = code) {pc : Nat} {Ls : Array Slot} {v : Value} {st : List Value} (hd : decode code pc = .ok (.dup, 1)) (hc : v.category = 1) (h : OE FE p e below s Q kc ks T (mkF m (pc + 1) Ls (v :: v :: st))) : OE FE p e below s Q kc ks T (mkF m pc Ls (v :: st)) := OE.of (fun _ k' => XS.dup X.here hx rfl (hb hby hd) rfl hc k') h
theorem OE.pop (X : Stand p l e R s' m args below meth c T locs cells slots) (hx : p.tables.exec = Jvm.exec) {code : ByteArray} (hby : c.code = code) {pc : Nat} {Ls : Array Slot} {v : Value} {st : List Value} (hd : decode code pc = .ok (.pop, 1)) (hc : v.category = 1) (h : OE FE p e below s Q kc ks T (mkF m (pc + 1) Ls (st))) : OE FE p e below s Q kc ks T (mkF m pc Ls (v :: st)) := OE.of (fun _ k' => XS.pop X.here hx rfl (hb hby hd) rfl hc k') h
theorem OE.dupX1 (X : Stand p l e R s' m args below meth c T locs cells slots) (hx : p.tables.exec = Jvm.exec) {code : ByteArray} (hby : c.code = code) {pc : Nat} {Ls : Array Slot} {v w : Value} {st : List Value} (hd : decode code pc = .ok (.dup_x1, 1)) (hc : v.category = 1) (hc' : w.category = 1) (h : OE FE p e below s Q kc ks T (mkF m (pc + 1) Ls (v :: w :: v :: st))) : OE FE p e below s Q kc ks T (mkF m pc Ls (v :: w :: st)) := OE.of (fun _ k' => XS.dupX1 X.here hx rfl (hb hby hd) rfl hc hc' k') h
theorem OE.dup2 (X : Stand p l e R s' m args below meth c T locs cells slots) (hx : p.tables.exec = Jvm.exec) {code : ByteArray} (hby : c.code = code) {pc : Nat} {Ls : Array Slot} {v w : Value} {st : List Value} (hd : decode code pc = .ok (.dup2, 1)) (hc : v.category = 1) (hc' : w.category = 1) (h : OE FE p e below s Q kc ks T (mkF m (pc + 1) Ls (v :: w :: v :: w :: st))) : OE FE p e below s Q kc ks T (mkF m pc Ls (v :: w :: st)) := OE.of (fun _ k' => Jvm.Free.XT.dup2 X.here hx rfl (hb hby hd) rfl hc hc' k') h
theorem OE.dup2L (X : Stand p l e R s' m args below meth c T locs cells slots) (hx : p.tables.exec = Jvm.exec) {code : ByteArray} (hby : c.code = code) {pc : Nat} {Ls : Array Slot} {v : Int64} {st : List Value} (hd : decode code pc = .ok (.dup2, 1))  (h : OE FE p e below s Q kc ks T (mkF m (pc + 1) Ls (.long v :: .long v :: st))) : OE FE p e below s Q kc ks T (mkF m pc Ls (.long v :: st)) := OE.of (fun _ k' => Jvm.Free.XT.dup2L X.here hx rfl (hb hby hd) rfl k') h
theorem OE.goto (X : Stand p l e R s' m args below meth c T locs cells slots) (hx : p.tables.exec = Jvm.exec) {code : ByteArray} (hby : c.code = code) {pc : Nat} {Ls : Array Slot} {o : Int} (pc' : Nat) {st : List Value} (hd : decode code pc = .ok (.goto o, 3)) (ho : 0 ≤ (pc : Int) + o := by decide) (hp : ((pc : Int) + o).toNat = pc' := by decide) (h : OE FE p e below s Q kc ks T (mkF m pc' Ls (st))) : OE FE p e below s Q kc ks T (mkF m pc Ls (st)) := OE.of (fun _ k' => XS.goto X.here hx rfl rfl (hb hby hd) ho hp k') h
theorem OE.ifYes (X : Stand p l e R s' m args below meth c T locs cells slots) (hx : p.tables.exec = Jvm.exec) {code : ByteArray} (hby : c.code = code) {pc : Nat} {Ls : Array Slot} {cd : ClassFile.Cond} {x : Int32} {o : Int} (pc' : Nat) {st : List Value} (hd : decode code pc = .ok (.ifCond cd o, 3)) (hc : if_icmp.holds cd x 0 = true) (ho : 0 ≤ (pc : Int) + o := by decide) (hp : ((pc : Int) + o).toNat = pc' := by decide) (h : OE FE p e below s Q kc ks T (mkF m pc' Ls (st))) : OE FE p e below s Q kc ks T (mkF m pc Ls (.int x :: st)) := OE.of (fun _ k' => XS.ifYes X.here hx rfl rfl (hb hby hd) rfl ((if0 _ _).trans hc) ho hp k') h
theorem OE.ifNo (X : Stand p l e R s' m args below meth c T locs cells slots) (hx : p.tables.exec = Jvm.exec) {code : ByteArray} (hby : c.code = code) {pc : Nat} {Ls : Array Slot} {cd : ClassFile.Cond} {x : Int32} {o : Int} {st : List Value} (hd : decode code pc = .ok (.ifCond cd o, 3)) (hc : if_icmp.holds cd x 0 = false) (h : OE FE p e below s Q kc ks T (mkF m (pc + 3) Ls (st))) : OE FE p e below s Q kc ks T (mkF m pc Ls (.int x :: st)) := OE.of (fun _ k' => XS.ifNo X.here hx rfl (hb hby hd) rfl ((if0 _ _).trans hc) k') h
theorem OE.icmpYes (X : Stand p l e R s' m args below meth c T locs cells slots) (hx : p.tables.exec = Jvm.exec) {code : ByteArray} (hby : c.code = code) {pc : Nat} {Ls : Array Slot} {cd : ClassFile.Cond} {x y : Int32} {o : Int} (pc' : Nat) {st : List Value} (hd : decode code pc = .ok (.if_icmp cd o, 3)) (hc : if_icmp.holds cd x y = true) (ho : 0 ≤ (pc : Int) + o := by decide) (hp : ((pc : Int) + o).toNat = pc' := by decide) (h : OE FE p e below s Q kc ks T (mkF m pc' Ls (st))) : OE FE p e below s Q kc ks T (mkF m pc Ls (.int y :: .int x :: st)) := OE.of (fun _ k' => XS.icmpYes X.here hx rfl rfl (hb hby hd) rfl hc ho hp k') h
theorem OE.icmpNo (X : Stand p l e R s' m args below meth c T locs cells slots) (hx : p.tables.exec = Jvm.exec) {code : ByteArray} (hby : c.code = code) {pc : Nat} {Ls : Array Slot} {cd : ClassFile.Cond} {x y : Int32} {o : Int} {st : List Value} (hd : decode code pc = .ok (.if_icmp cd o, 3)) (hc : if_icmp.holds cd x y = false) (h : OE FE p e below s Q kc ks T (mkF m (pc + 3) Ls (st))) : OE FE p e below s Q kc ks T (mkF m pc Ls (.int y :: .int x :: st)) := OE.of (fun _ k' => XS.icmpNo X.here hx rfl (hb hby hd) rfl hc k') h
theorem OE.ifnullYes (X : Stand p l e R s' m args below meth c T locs cells slots) (hx : p.tables.exec = Jvm.exec) {code : ByteArray} (hby : c.code = code) {pc : Nat} {Ls : Array Slot} {o : Int} (pc' : Nat) {st : List Value} (hd : decode code pc = .ok (.ifnull o, 3)) (ho : 0 ≤ (pc : Int) + o := by decide) (hp : ((pc : Int) + o).toNat = pc' := by decide) (h : OE FE p e below s Q kc ks T (mkF m pc' Ls (st))) : OE FE p e below s Q kc ks T (mkF m pc Ls (.null :: st)) := OE.of (fun _ k' => XS.ifnullYes X.here hx rfl rfl (hb hby hd) rfl ho hp k') h
theorem OE.ifnullNo (X : Stand p l e R s' m args below meth c T locs cells slots) (hx : p.tables.exec = Jvm.exec) {code : ByteArray} (hby : c.code = code) {pc : Nat} {Ls : Array Slot} {b : Addr} {o : Int} {st : List Value} (hd : decode code pc = .ok (.ifnull o, 3))  (h : OE FE p e below s Q kc ks T (mkF m (pc + 3) Ls (st))) : OE FE p e below s Q kc ks T (mkF m pc Ls (.ref b :: st)) := OE.of (fun _ k' => XS.ifnullNo X.here hx rfl (hb hby hd) rfl k') h
theorem OE.ifnonnullYes (X : Stand p l e R s' m args below meth c T locs cells slots) (hx : p.tables.exec = Jvm.exec) {code : ByteArray} (hby : c.code = code) {pc : Nat} {Ls : Array Slot} {b : Addr} {o : Int} (pc' : Nat) {st : List Value} (hd : decode code pc = .ok (.ifnonnull o, 3)) (ho : 0 ≤ (pc : Int) + o := by decide) (hp : ((pc : Int) + o).toNat = pc' := by decide) (h : OE FE p e below s Q kc ks T (mkF m pc' Ls (st))) : OE FE p e below s Q kc ks T (mkF m pc Ls (.ref b :: st)) := OE.of (fun _ k' => XS.ifnonnullYes X.here hx rfl rfl (hb hby hd) rfl ho hp k') h
theorem OE.ifnonnullNo (X : Stand p l e R s' m args below meth c T locs cells slots) (hx : p.tables.exec = Jvm.exec) {code : ByteArray} (hby : c.code = code) {pc : Nat} {Ls : Array Slot} {o : Int} {st : List Value} (hd : decode code pc = .ok (.ifnonnull o, 3))  (h : OE FE p e below s Q kc ks T (mkF m (pc + 3) Ls (st))) : OE FE p e below s Q kc ks T (mkF m pc Ls (.null :: st)) := OE.of (fun _ k' => XS.ifnonnullNo X.here hx rfl (hb hby hd) rfl k') h
end New
end Jvm.RoadKit
namespace Jvm.RoadKit
open Jvm.FP Jvm.FP.Core Jvm.Op
theorem own_exact {k : Int} {c : UInt64} {d : Datum} (hc : DInt k c) (h : Whole k d) : Whole k (round b64 d) := by
  by_cases hk : k = 0
  · exact whole_round good_b64 wide_b64 (by subst hk; simp) h
  · cases d with
    | nan => exact h.elim
    | inf => exact h.elim
    | fin s c' q =>
      unfold DInt at hc
      have hf := val64_fits c
      cases hv : val64 c with
      | nan => rw [hv] at hc; exact hc.elim
      | inf => rw [hv] at hc; exact hc.elim
      | fin t e r =>
        rw [hv] at hc hf
        have e1 := round_of_fits good_b64 hf
        rw [round_whole hc] at e1
        rw [round_whole h, whole_sign h hk, ← whole_sign hc hk, e1]; exact hc
theorem own_round {N : Int} {d : Datum} (h : Whole N d) (hN : N.natAbs < 2 ^ 80) : ∃ n : Int, Whole n (round b64 d) ∧ (n - N).natAbs ≤ 2 ^ 27 ∧ (2 ^ 27 ∣ N.natAbs → n = N) := by
  by_cases hs : N.natAbs ≤ 2 ^ 53
  · exact ⟨N, whole_round good_b64 wide_b64 hs h, by simp, fun _ => rfl⟩
  · cases d with
    | nan => exact h.elim
    | inf => exact h.elim
    | fin s c q =>
      have hsg := whole_sign h (by intro q; subst q; simp at hs)
      rw [round_whole h]
      have hNA : N = signed s N.natAbs := by
        rw [hsg]; unfold signed; by_cases hn : N < 0 <;> simp [hn] <;> omega
      generalize hA : N.natAbs = A at *
      have hA0 : 0 < A := by omega
      have g2 := nearest_units_le (f := b64) hA0 (by decide : 0 < 1) 0
      obtain ⟨l1, l2⟩ := leading_spec hA0 (by decide : 0 < 1)
      have b1 : ¬ Below A 1 53 := by
        show ¬ (A * 2 ^ (-(53 : Int)).toNat < 1 * 2 ^ (53 : Int).toNat)
        simp; omega
      have b2 : Below A 1 80 := by
        show A * 2 ^ (-(80 : Int)).toNat < 1 * 2 ^ (80 : Int).toNat
        simpa using hN
      have L1 := lt_of_below b1 l2
      have L2 := lt_of_below l1 b2
      obtain ⟨k, hk⟩ : ∃ k : Nat, leading A 1 = (k : Int) + 52 := ⟨(leading A 1 - 52).toNat, by omega⟩
      have hq : quantum b64 A 1 0 = (k : Int) := by
        have e1 : b64.qmin = -1074 := by decide
        have e2 : b64.p = 53 := rfl
        unfold quantum; rw [hk, e1, e2]; omega
      rw [hq] at g2
      have u1 : unitsNum A 0 (k : Int) = A := by
        unfold unitsNum; rw [show (0 - (k : Int)).toNat = 0 by omega]; simp
      have u2 : unitsDen 1 0 (k : Int) = 2 ^ k := by
        unfold unitsDen; rw [show ((k : Int) - 0).toNat = k by omega]; simp
      rw [u1, u2] at g2
      have hP : 0 < 2 ^ k := Nat.two_pow_pos k
      have hP2 : 2 ^ k ≤ 2 ^ 27 := Nat.pow_le_pow_right (by decide) (by omega)
      obtain ⟨n1, n2, -⟩ := nearest_spec A (2 ^ k) hP
      have n3 : 2 ^ 27 ∣ A → nearest A (2 ^ k) * 2 ^ k = A := by
        intro dv
        obtain ⟨M, rfl⟩ := Nat.dvd_trans (Nat.pow_dvd_pow 2 (show k ≤ 27 by omega)) dv
        rw [Nat.mul_comm (2 ^ k) M, nearest_exact M hP]
      have hv : ∃ t : Int, Whole (signed s (nearest A (2 ^ k) * 2 ^ k)) (roundRatio b64 s A 1 0) := by
        refine ⟨0, ?_⟩
        unfold roundRatio roundAt
        rw [if_neg (by omega), hq, u1, u2]
        have hqm : b64.qmax = 971 := by decide
        unfold settle bound
        by_cases hc : nearest A (2 ^ k) < 2 ^ b64.p
        · rw [if_pos hc, if_pos (by rw [hqm]; omega)]
          show signed s (nearest A (2 ^ k) * 2 ^ (k : Int).toNat) = _ * ((2 ^ (-(k : Int)).toNat : Nat) : Int)
          rw [show (-(k : Int)).toNat = 0 by omega, Int.toNat_natCast]; simp
        · rw [if_neg hc, if_pos (by rw [hqm]; omega)]
          have hm : nearest A (2 ^ k) = 2 ^ 53 := Nat.le_antisymm g2 (Nat.le_of_not_lt hc)
          show signed s (2 ^ 52 * 2 ^ ((k : Int) + 1).toNat) = _ * ((2 ^ (-((k : Int) + 1)).toNat : Nat) : Int)
          rw [show (-((k : Int) + 1)).toNat = 0 by omega, show ((k : Int) + 1).toNat = k + 1 by omega, hm]
          have e5 : 2 ^ 52 * 2 ^ (k + 1) = 2 ^ 53 * 2 ^ k := by rw [Nat.pow_add, show (2 : Nat) ^ 53 = 2 ^ 52 * 2 ^ 1 from rfl]; ac_rfl
          rw [e5]; simp
      obtain ⟨-, hv⟩ := hv
      refine ⟨_, hv, ?_, ?_⟩
      · rw [hNA]
        have e3 : (2 * nearest A (2 ^ k) + 1) * 2 ^ k = 2 * (nearest A (2 ^ k) * 2 ^ k) + 2 ^ k := by rw [Nat.add_mul, Nat.one_mul, Nat.mul_assoc]
        have e4 : 2 * nearest A (2 ^ k) * 2 ^ k = 2 * (nearest A (2 ^ k) * 2 ^ k) := Nat.mul_assoc ..
        rw [e3] at n1; rw [e4] at n2
        generalize nearest A (2 ^ k) * 2 ^ k = M at *
        unfold signed
        cases s <;> simp <;> omega
      · intro dv; rw [n3 dv]; exact hNA.symm
theorem own_dadd_e {i j : Int} {a b c : UInt64} (ha : DInt i a) (hb : DInt j b) (hc : DInt (i + j) c) : DInt (i + j) (FP.dadd a b) := by
  show Whole _ (val64 (Core.dadd a b)); rw [Core.val64_dadd]; exact own_exact hc (whole_sum ha hb)
theorem own_dsub_e {i j : Int} {a b c : UInt64} (ha : DInt i a) (hb : DInt j b) (hc : DInt (i - j) c) : DInt (i - j) (FP.dsub a b) := by
  show Whole _ (val64 (Core.dsub a b)); rw [Core.val64_dsub]; exact own_exact hc (whole_sum ha (whole_negate hb))
theorem own_dadd_r {i j : Int} {a b : UInt64} (ha : DInt i a) (hb : DInt j b) (h : (i + j).natAbs < 2 ^ 80) : ∃ n : Int, DInt n (FP.dadd a b) ∧ (n - (i + j)).natAbs ≤ 2 ^ 27 := by
  obtain ⟨n, h1, h2, -⟩ := own_round (whole_sum ha hb) h
  exact ⟨n, by show Whole _ (val64 (Core.dadd a b)); rw [Core.val64_dadd]; exact h1, h2⟩
theorem own_dsub_r {i j : Int} {a b : UInt64} (ha : DInt i a) (hb : DInt j b) (h : (i - j).natAbs < 2 ^ 80) : ∃ n : Int, DInt n (FP.dsub a b) ∧ (n - (i - j)).natAbs ≤ 2 ^ 27 := by
  obtain ⟨n, h1, h2, -⟩ := own_round (whole_sum ha (whole_negate hb)) h
  exact ⟨n, by show Whole _ (val64 (Core.dsub a b)); rw [Core.val64_dsub]; exact h1, h2⟩
theorem own_dneg {i : Int} {a : UInt64} (h : DInt i a) : DInt (-i) (FP.dneg a) := by
  show Whole _ (val64 (FP.dneg a)); rw [FP.val64_dneg]; exact whole_negate h
theorem own_dz : DInt 0 (0 : UInt64) := by
  have h : val64 (0 : UInt64) = .fin false 0 b64.qmin := val64_dconst0
  show Whole 0 (val64 0); rw [h]; show signed false (0 * _) = 0 * _; simp [signed]
theorem own_nn {i : Int} {a : UInt64} (h : DInt i a) : Jvm.Free.Fl.NoNaN64 a :=
  Jvm.Free.Fl.noNaN64_no.mpr ((notNaN_iff a).mpr (Whole.ne_nan h))
theorem own_dabs {i : Int} {a : UInt64} (h : DInt i a) : DInt (i.natAbs : Int) (a &&& 0x7fffffffffffffff) := by
  have hc := dcmp_int h own_dz
  rcases Int.lt_trichotomy i 0 with q | q | q
  · rw [abs_neg (by rw [hc, compare_ite, if_pos q])]
    rw [show (i.natAbs : Int) = -i by omega]; exact dneg_int h
  · rw [abs_zero (by rw [hc, compare_ite, if_neg (by omega), if_pos q])]; subst q; exact own_dz
  · rw [abs_pos (by rw [hc, compare_ite, if_neg (by omega), if_neg (by omega)])]
    rw [show (i.natAbs : Int) = i by omega]; exact h
theorem own_cmp {i j : Int} {a b : UInt64} (ha : DInt i a) (hb : DInt j b) : cmpValue (FP.dcmp a b) .l = if i < j then -1 else if i = j then 0 else 1 := by
  have e : FP.dcmp a b = some (compare i j) := dcmp_int ha hb
  rw [e, compare_ite]
  by_cases h1 : i < j
  · simp [h1, cmpValue]
  · by_cases h2 : i = j
    · simp [h2, cmpValue]
    · simp [h1, h2, cmpValue]
theorem own_dmul {i : Int} {a p : UInt64} (ha : DInt i a) (hp : DInt 1099511627776 p) (h : i.natAbs ≤ 2147483648) : DInt (i * 1099511627776) (FP.dmul a p) := by
  obtain ⟨n, h1, -, h3⟩ := own_round (whole_product ha hp) (by rw [Int.natAbs_mul]; exact Nat.lt_of_le_of_lt (Nat.mul_le_mul_right _ h) (by decide))
  have e := h3 (by rw [Int.natAbs_mul]; exact Nat.dvd_mul_left_of_dvd ⟨8192, by decide⟩ _)
  subst e
  show Whole _ (val64 (Core.dmul a p)); rw [Core.val64_dmul]; exact h1
/-- what add leaves in lost -/
def own_lost (s l t : UInt64) : UInt64 :=
  if cmpValue (FP.dcmp (s &&& 0x7fffffffffffffff) (t &&& 0x7fffffffffffffff)) .l < 0 then FP.dadd l (FP.dadd (FP.dsub t (FP.dadd s t)) s) else FP.dadd l (FP.dadd (FP.dsub s (FP.dadd s t)) t)
theorem own_lost_eq {i k : Int} {s l t : UInt64} (hs : DInt i s) (ht : DInt k t) : own_lost s l t = if i.natAbs < k.natAbs then FP.dadd l (FP.dadd (FP.dsub t (FP.dadd s t)) s) else FP.dadd l (FP.dadd (FP.dsub s (FP.dadd s t)) t) := by
  unfold own_lost
  rw [own_cmp (own_dabs hs) (own_dabs ht)]
  by_cases h : i.natAbs < k.natAbs
  · rw [if_pos (show (i.natAbs : Int) < (k.natAbs : Int) by omega), if_pos h, if_pos (by decide)]
  · rw [if_neg (show ¬ (i.natAbs : Int) < (k.natAbs : Int) by omega), if_neg h]
    by_cases h2 : (i.natAbs : Int) = (k.natAbs : Int)
    · rw [if_pos h2, if_neg (by decide)]
    · rw [if_neg h2, if_neg (by decide)]
/-- an add that rounds nothing -/
theorem own_add_e {i j k : Int} {s l t c : UInt64} (hs : DInt i s) (hl : DInt j l) (ht : DInt k t) (hc : DInt (i + k) c) : DInt (i + k) (FP.dadd s t) ∧ DInt j (own_lost s l t) := by
  have hn := own_dadd_e hs ht hc
  refine ⟨hn, ?_⟩
  rw [own_lost_eq hs ht]
  split
  · have h1 := own_dsub_e ht hn (c := FP.dneg s) (by rw [show k - (i + k) = -i by omega]; exact own_dneg hs)
    have h2 := own_dadd_e h1 hs (c := 0) (by rw [show k - (i + k) + i = 0 by omega]; exact own_dz)
    have h3 := own_dadd_e hl h2 (c := l) (by rw [show j + (k - (i + k) + i) = j by omega]; exact hl)
    rw [show j + (k - (i + k) + i) = j by omega] at h3; exact h3
  · have h1 := own_dsub_e hs hn (c := FP.dneg t) (by rw [show i - (i + k) = -k by omega]; exact own_dneg ht)
    have h2 := own_dadd_e h1 ht (c := 0) (by rw [show i - (i + k) + k = 0 by omega]; exact own_dz)
    have h3 := own_dadd_e hl h2 (c := l) (by rw [show j + (i - (i + k) + k) = j by omega]; exact hl)
    rw [show j + (i - (i + k) + k) = j by omega] at h3; exact h3
/-- an add that may round, one side small -/
theorem own_add_r {i k : Int} {s l t : UInt64} (hs : DInt i s) (hl : DInt 0 l) (ht : DInt k t) (hm : i.natAbs ≤ 2147483648 ∨ k.natAbs ≤ 2147483648) (hi : i.natAbs ≤ 4722366482869645213696) (hk : k.natAbs ≤ 4722366482869645213696) :
    ∃ n : Int, (n - (i + k)).natAbs ≤ 134217728 ∧ DInt n (FP.dadd s t) ∧ DInt (i + k - n) (own_lost s l t) := by
  obtain ⟨n, hn, hb⟩ := own_dadd_r hs ht (by omega)
  have hb' : (n - (i + k)).natAbs ≤ 134217728 := hb
  refine ⟨n, hb', hn, ?_⟩
  rw [own_lost_eq hs ht]
  split
  · rename_i hlt
    have h1 := dsub_int ht hn (by show (k - n).natAbs ≤ 9007199254740992; omega)
    have h2 := dadd_int h1 hs (by show (k - n + i).natAbs ≤ 9007199254740992; omega)
    have h3 := dadd_int hl h2 (by show (0 + (k - n + i)).natAbs ≤ 9007199254740992; omega)
    rw [show 0 + (k - n + i) = i + k - n by omega] at h3; exact h3
  · rename_i hlt
    have h1 := dsub_int hs hn (by show (i - n).natAbs ≤ 9007199254740992; omega)
    have h2 := dadd_int h1 ht (by show (i - n + k).natAbs ≤ 9007199254740992; omega)
    have h3 := dadd_int hl h2 (by show (0 + (i - n + k)).natAbs ≤ 9007199254740992; omega)
    rw [show 0 + (i - n + k) = i + k - n by omega] at h3; exact h3
/-- what add asks: none of its sums is no number -/
def own_ok (s l t : UInt64) : Prop := Jvm.Free.Fl.NoNaN64 s ∧ Jvm.Free.Fl.NoNaN64 t ∧ Jvm.Free.Fl.NoNaN64 (FP.dadd s t) ∧ Jvm.Free.Fl.NoNaN64 (FP.dsub t (FP.dadd s t)) ∧ Jvm.Free.Fl.NoNaN64 (FP.dadd (FP.dsub t (FP.dadd s t)) s) ∧ Jvm.Free.Fl.NoNaN64 (FP.dadd l (FP.dadd (FP.dsub t (FP.dadd s t)) s))
  ∧ Jvm.Free.Fl.NoNaN64 (FP.dsub s (FP.dadd s t)) ∧ Jvm.Free.Fl.NoNaN64 (FP.dadd (FP.dsub s (FP.dadd s t)) t) ∧ Jvm.Free.Fl.NoNaN64 (FP.dadd l (FP.dadd (FP.dsub s (FP.dadd s t)) t))
theorem own_ok_of {i j k : Int} {s l t : UInt64} (hs : DInt i s) (hl : DInt j l) (ht : DInt k t) (hi : i.natAbs ≤ 4722366482869645213696) (hj : j.natAbs ≤ 4722366482869645213696) (hk : k.natAbs ≤ 4722366482869645213696) : own_ok s l t := by
  obtain ⟨n, hn, hb⟩ := own_dadd_r hs ht (by omega)
  obtain ⟨n1, hn1, hb1⟩ := own_dsub_r ht hn (by omega)
  obtain ⟨n2, hn2, hb2⟩ := own_dadd_r hn1 hs (by omega)
  obtain ⟨n3, hn3, hb3⟩ := own_dadd_r hl hn2 (by omega)
  obtain ⟨m1, hm1, eb1⟩ := own_dsub_r hs hn (by omega)
  obtain ⟨m2, hm2, eb2⟩ := own_dadd_r hm1 ht (by omega)
  obtain ⟨m3, hm3, eb3⟩ := own_dadd_r hl hm2 (by omega)
  exact ⟨own_nn hs, own_nn ht, own_nn hn, own_nn hn1, own_nn hn2, own_nn hn3, own_nn hm1, own_nn hm2, own_nn hm3⟩
theorem own_P : DInt 1099511627776 (4787326403894837248 : UInt64) := by
  have h : val64 (4787326403894837248 : UInt64) = .fin false (2 ^ 52) (-12) := by decide +kernel
  show Whole _ (val64 _); rw [h]
  show signed false (2 ^ 52 * 2 ^ 0) = 1099511627776 * ((2 ^ 12 : Nat) : Int)
  decide
theorem own_A1 {k : Int} {s l t sn ln : UInt64} (hs : DInt 0 s) (hl : DInt 0 l) (ht : DInt k t) (es : sn = FP.dadd s t) (el : ln = own_lost s l t) : DInt k sn ∧ DInt 0 ln := by
  have h := own_add_e hs hl ht (c := t) (by rw [Int.zero_add]; exact ht)
  rw [Int.zero_add] at h; subst es el; exact h
theorem own_A2 {i k : Int} {s l t sn ln : UInt64} (hs : DInt i s) (hl : DInt 0 l) (ht : DInt k t) (hm : i.natAbs ≤ 2147483648 ∨ k.natAbs ≤ 2147483648) (hi : i.natAbs ≤ 4722366482869645213696) (hk : k.natAbs ≤ 4722366482869645213696) (es : sn = FP.dadd s t) (el : ln = own_lost s l t) :
    ∃ n : Int, (n - (i + k)).natAbs ≤ 134217728 ∧ DInt n sn ∧ DInt (i + k - n) ln := by
  subst es el; exact own_add_r hs hl ht hm hi hk
theorem own_A3 {i j k : Int} {s l t sn ln : UInt64} (hs : DInt i s) (hl : DInt j l) (ht : DInt k t) (h : (i + k).natAbs ≤ 9007199254740992) (es : sn = FP.dadd s t) (el : ln = own_lost s l t) : DInt (i + k) sn ∧ DInt j ln := by
  subst es el; exact own_add_e hs hl ht (dadd_int hs ht h)
theorem own_eq0 {i : Int} {a b : UInt64} (ha : DInt i a) (hb : DInt i b) : cmpValue (FP.dcmp a b) .l = (0 : Int32) := by
  rw [own_cmp ha hb, if_neg (by omega), if_pos rfl]
theorem own_bit (f : Int32) : f &&& (1 : Int32) = 0 ∨ f &&& (1 : Int32) = 1 := by
  have e : ∀ x : BitVec 32, x &&& 1#32 = 0#32 ∨ x &&& 1#32 = 1#32 := by
    intro x
    by_cases h : x.getLsbD 0 = true
    · right
      apply BitVec.eq_of_getLsbD_eq; intro i hi
      rw [BitVec.getLsbD_and, BitVec.getLsbD_one]
      by_cases q : i = 0
      · subst q; simp [h]
      · simp [q]
    · left
      apply BitVec.eq_of_getLsbD_eq; intro i hi
      rw [BitVec.getLsbD_and, BitVec.getLsbD_one]
      by_cases q : i = 0
      · subst q; simp at h ⊢; exact h
      · simp [q]
  rcases e f.toBitVec with h | h
  · left; exact Int32.toBitVec_inj.mp h
  · right; exact Int32.toBitVec_inj.mp h
theorem own_nb (p : Int32) : p.toInt.natAbs ≤ 2147483648 := by
  have h1 := p.toInt_lt; have h2 := p.le_toInt; omega
end Jvm.RoadKit
namespace Jvm.Pilot.@@N@@
open Jvm Jvm.ClassFile Sem Op Lib Jvm.Free Jvm.Stand Jvm.LawKit Jvm.RoadKit Bundle Jvm.Pilot.@@N@@.Jvm.D
theorem own_d1_0 : decode prog_84_method_1_code 0 = .ok (.aload_n 0, 1) := by decide +kernel
theorem own_d1_1 : decode prog_84_method_1_code 1 = .ok (.invokespecial 1, 3) := by decide +kernel
theorem own_d1_4 : decode prog_84_method_1_code 4 = .ok (.aload_n 0, 1) := by decide +kernel
theorem own_d1_5 : decode prog_84_method_1_code 5 = .ok (.iload_n 1, 1) := by decide +kernel
theorem own_d1_6 : decode prog_84_method_1_code 6 = .ok (.newarray .double, 2) := by decide +kernel
theorem own_d1_8 : decode prog_84_method_1_code 8 = .ok (.putfield 7, 3) := by decide +kernel
theorem own_d1_11 : decode prog_84_method_1_code 11 = .ok (.aload_n 0, 1) := by decide +kernel
theorem own_d1_12 : decode prog_84_method_1_code 12 = .ok (.iload_n 1, 1) := by decide +kernel
theorem own_d1_13 : decode prog_84_method_1_code 13 = .ok (.newarray .double, 2) := by decide +kernel
theorem own_d1_15 : decode prog_84_method_1_code 15 = .ok (.putfield 13, 3) := by decide +kernel
theorem own_d1_18 : decode prog_84_method_1_code 18 = .ok (.return_, 1) := by decide +kernel
def own_Q1 (Z : State) (a1 : Addr) (h0 : Heap) (n0 : Nat) (v : Option Value) (h : Heap) (L : List Loc) : Prop := ∃ f : Addr, ∃ g : Addr, ∃ kf : ClassId, ∃ kg : ClassId, v = none ∧ Fr n0 L ∧ Keep h0 h [a1] ∧ Exa Z h a1 "com/example/archerfish/archerfish/rank/CompensatedSums" ∧ Fld Z h a1 "com/example/archerfish/archerfish/rank/CompensatedSums" "sums" "[D" (.ref f) ∧ Fld Z h a1 "com/example/archerfish/archerfish/rank/CompensatedSums" "lost" "[D" (.ref g) ∧ Arv Z h f kf .double (2 : Int32) [(.double 0), (.double 0)] (.double 0) ∧ Arv Z h g kg .double (2 : Int32) [(.double 0), (.double 0)] (.double 0) ∧ (h0.size ≤ f) ∧ (h0.size ≤ g) ∧ (f ≠ g)
theorem own_pn0 : plainName "com/example/archerfish/archerfish/rank/CompensatedSums" = true := by first | (simp [plainName, overriddenIn]; done) | decide +kernel
theorem own_ef_own_rm1 (m : MethodId) (a1 : Addr) : entryFrame m #[(.ref a1), (.int (2 : Int32))] 2 = mkF m 0 #[.val (.ref a1), .val (.int (2 : Int32))] [] := by first | (simp [entryFrame, mkF, argsToLocals, Value.category]; done) | rfl
set_option maxRecDepth 65536 in
set_option maxHeartbeats 40000000 in
theorem own_rm1 (l : Launch) (Z : State) (a0 : Array Value) (hw : ∀ d ∈ tables_1, d.before a0 Z = true) (ws : List Jvm.Cond) (a1 : Addr) (h0 : Heap) (n0 : Nat) (Z0 : n0 ≤ h0.size) (E_a1 : Exa Z h0 a1 "com/example/archerfish/archerfish/rank/CompensatedSums") (F_sums_a1 : Fld Z h0 a1 "com/example/archerfish/archerfish/rank/CompensatedSums" "sums" "[D" .null) (F_lost_a1 : Fld Z h0 a1 "com/example/archerfish/archerfish/rank/CompensatedSums" "lost" "[D" .null) (g_a1 : n0 ≤ a1) :
    MetFree l (⟨"com/example/archerfish/archerfish/rank/CompensatedSums", "<init>", "(I)V"⟩ : MethodName) (head1 (Jvm.Cond.code (⟨"com/example/archerfish/archerfish/rank/CompensatedSums", "<init>", "(I)V"⟩ : MethodName) prog_84_method_1_code 2 none :: ws) ({ frames := 1, cells := 2, slots := 4, locals := 12 } : Room)) (fun a U => a = #[(.ref a1), (.int (2 : Int32))] ∧ Z.Warmed39 U.vm ∧ U.heap = h0) (fun _ _ _ _ _ => True) (fun _ U o U' => ∃ v L, o = .returned v ∧ own_Q1 Z a1 h0 n0 v U'.heap L ∧ FrameEnd U o U' L ({ frames := 1, cells := 2, slots := 4, locals := 12 } : Room).cells ({ frames := 1, cells := 2, slots := 4, locals := 12 } : Room).slots) := by
  refine MetFree.of_bodySF (plainFor_of_name own_pn0) hisR ?_
  intro p e s m args below meth c s₁ Bd hml0 hP hK
  obtain ⟨rfl, hZ, hh⟩ := hP
  have hx := Bd.exec
  have hby := Bd.bytes
  have hml : c.maxLocals = 2 := hml0
  have hown : s.vm.findClass "com/example/archerfish/archerfish/rank/CompensatedSums" = some m.cls := findClass_of_methodNamed Bd.named
  have hnm := (name_of_methodNamed Bd.named Bd.method).1
  have X0 : Stand p l e ({ frames := 1, cells := 2, slots := 4, locals := 12 } : Room) s m #[(.ref a1), (.int (2 : Int32))] below meth c s₁ [] 0 0 := Stand.of_body Bd
  have e0 : s₁.heap = h0 := by rw [← hh, Bd.state]; rfl
  have N0 := Fr.nil n0
  show OE FrameEnd p e below s (own_Q1 Z a1 h0 n0) ({ frames := 1, cells := 2, slots := 4, locals := 12 } : Room).cells ({ frames := 1, cells := 2, slots := 4, locals := 12 } : Room).slots s₁ (entryFrame m #[(.ref a1), (.int (2 : Int32))] 2)
  rw [own_ef_own_rm1]
  show OE _ p e below s _ _ _ s₁ (mkF m 0 #[.val (.ref a1), .val (.int (2 : Int32))] [])
  refine OE.aloadN X0 hx hby own_d1_0 rfl rfl ?_
  obtain ⟨T1, X1, e1, st1⟩ := initO X0 hx hZ hown (hw _ (List.mem_of_getElem? (i := 7) rfl)) (hw _ (List.mem_of_getElem? (i := 8) rfl)) (hw _ (List.mem_of_getElem? (i := 9) rfl)) e0 (g := (mkF m 1 #[.val (.ref a1), .val (.int (2 : Int32))] [(.ref a1)])) rfl (by rw [hml]; rfl) rfl (hb hby own_d1_1) (by decide) (W := 0) (by show 2 * 0 + _ ≤ _; exact Nat.le_of_eq rfl) (by decide)
  refine OE.of st1 ?_
  show OE _ p e below s _ _ _ T1 (mkF m 4 #[.val (.ref a1), .val (.int (2 : Int32))] [])
  refine OE.aloadN X1 hx hby own_d1_4 rfl rfl ?_
  refine OE.iloadN X1 hx hby own_d1_5 rfl ?_
  obtain ⟨T2, h2, k2, X2, e2, E2, A2, B2, st2⟩ := newPE X1 hx hZ (hw _ (List.mem_of_getElem? (i := 10) rfl)) e1 (g := (mkF m 6 #[.val (.ref a1), .val (.int (2 : Int32))] [(.int (2 : Int32)), (.ref a1)])) rfl (hb hby own_d1_6) rfl (by decide) (cap := 2) (by decide) (by decide) (by decide) (by decide) (ad := "[D") (by decide)
  refine OE.of st2 ?_
  obtain ⟨b2, g2⟩ : ∃ z, z = h0.size := ⟨_, rfl⟩
  rw [← g2] at A2 B2 ⊢
  have ne_a1_b2 : a1 ≠ b2 := Nat.ne_of_lt (Nat.lt_of_lt_of_le E_a1.lt (Nat.le_of_eq g2.symm))
  have g_b2 : n0 ≤ b2 := Nat.le_trans Z0 (Nat.le_of_eq g2.symm)
  have sz_b2 : h0.size ≤ b2 := Nat.le_trans (Keep.refl h0 [a1]).1 (Nat.le_of_eq g2.symm)
  have V2 : Arv Z h2 b2 k2 .double (2 : Int32) [(.double 0), (.double 0)] (.double 0) := (Arv.new A2 (by decide)).pad (pad_rep [] (.double 0) 2)
  show OE _ p e below s _ _ _ T2 (mkF m 8 #[.val (.ref a1), .val (.int (2 : Int32))] [(.ref b2), (.ref a1)])
  have f3 : Exa Z h2 a1 "com/example/archerfish/archerfish/rank/CompensatedSums" := (E_a1.ext E2)
  have f4 : Fld Z h2 a1 "com/example/archerfish/archerfish/rank/CompensatedSums" "sums" "[D" .null := (F_sums_a1.ext E2)
  obtain ⟨T5, h5, X5, e5, W5, st5⟩ := putF X2 hx hZ hown (host := "") (Or.inl (hw _ (List.mem_of_getElem? (i := 11) rfl))) Via.refl e2 f4 f3 (Or.inr ⟨(hw _ (List.mem_of_getElem? (i := 12) rfl)), rfl, hnm⟩) (hw _ (List.mem_of_getElem? (i := 2) rfl)) (ty := (.array .double)) (by decide) rfl rfl (g := (mkF m 8 #[.val (.ref a1), .val (.int (2 : Int32))] [(.ref b2), (.ref a1)])) rfl rfl (hb hby own_d1_8)
  refine OE.of st5 ?_
  have N5 := Fr.snoc X5 N0 g_a1
  have Fw5 := f4.same W5
  show OE _ p e below s _ _ _ T5 (mkF m 11 #[.val (.ref a1), .val (.int (2 : Int32))] [])
  refine OE.aloadN X5 hx hby own_d1_11 rfl rfl ?_
  refine OE.iloadN X5 hx hby own_d1_12 rfl ?_
  obtain ⟨T6, h6, k6, X6, e6, E6, A6, B6, st6⟩ := newPE X5 hx hZ (hw _ (List.mem_of_getElem? (i := 10) rfl)) e5 (g := (mkF m 13 #[.val (.ref a1), .val (.int (2 : Int32))] [(.int (2 : Int32)), (.ref a1)])) rfl (hb hby own_d1_13) rfl (by decide) (cap := 2) (by decide) (by decide) (by decide) (by decide) (ad := "[D") (by decide)
  refine OE.of st6 ?_
  obtain ⟨b6, g6⟩ : ∃ z, z = h5.size := ⟨_, rfl⟩
  rw [← g6] at A6 B6 ⊢
  have f7 : Exa Z h5 a1 "com/example/archerfish/archerfish/rank/CompensatedSums" := (f3.wr W5)
  have ne_a1_b6 : a1 ≠ b6 := Nat.ne_of_lt (Nat.lt_of_lt_of_le f7.lt (Nat.le_of_eq g6.symm))
  have f8 : Arv Z h5 b2 k2 .double (2 : Int32) [(.double 0), (.double 0)] (.double 0) := (V2.other W5 (Ne.symm ne_a1_b2))
  have ne_b2_b6 : b2 ≠ b6 := Nat.ne_of_lt (Nat.lt_of_lt_of_le f8.lt (Nat.le_of_eq g6.symm))
  have z9 : n0 ≤ h5.size := (Nat.le_trans (Nat.le_trans Z0 E2.1) (Nat.le_of_eq W5.size.symm))
  have g_b6 : n0 ≤ b6 := Nat.le_trans z9 (Nat.le_of_eq g6.symm)
  have K10 : Keep h0 h5 [a1] := (Keep.wr (Keep.ext (Keep.refl h0 [a1]) E2) W5 (Or.inl (List.mem_of_getElem? (i := 0) rfl)))
  have sz_b6 : h0.size ≤ b6 := Nat.le_trans K10.1 (Nat.le_of_eq g6.symm)
  have V6 : Arv Z h6 b6 k6 .double (2 : Int32) [(.double 0), (.double 0)] (.double 0) := (Arv.new A6 (by decide)).pad (pad_rep [] (.double 0) 2)
  show OE _ p e below s _ _ _ T6 (mkF m 15 #[.val (.ref a1), .val (.int (2 : Int32))] [(.ref b6), (.ref a1)])
  have f11 : Exa Z h6 a1 "com/example/archerfish/archerfish/rank/CompensatedSums" := (f7.ext E6)
  have f12 : Fld Z h6 a1 "com/example/archerfish/archerfish/rank/CompensatedSums" "lost" "[D" .null := (((F_lost_a1.ext E2).other W5 (Or.inr (slot_ne (Or.inr (hw _ (List.mem_of_getElem? (i := 14) rfl))) (Or.inr (hw _ (List.mem_of_getElem? (i := 12) rfl))) (by decide) (t := (.array .double)) (t' := (.array .double)) (by decide) (by decide)))).ext E6)
  obtain ⟨T13, h13, X13, e13, W13, st13⟩ := putF X6 hx hZ hown (host := "") (Or.inl (hw _ (List.mem_of_getElem? (i := 13) rfl))) Via.refl e6 f12 f11 (Or.inr ⟨(hw _ (List.mem_of_getElem? (i := 14) rfl)), rfl, hnm⟩) (hw _ (List.mem_of_getElem? (i := 2) rfl)) (ty := (.array .double)) (by decide) rfl rfl (g := (mkF m 15 #[.val (.ref a1), .val (.int (2 : Int32))] [(.ref b6), (.ref a1)])) rfl rfl (hb hby own_d1_15)
  refine OE.of st13 ?_
  have N13 := Fr.snoc X13 N5 g_a1
  have Fw13 := f12.same W13
  show OE _ p e below s _ _ _ T13 (mkF m 18 #[.val (.ref a1), .val (.int (2 : Int32))] [])
  refine OE.ret0 X13 hx Bd.returns Bd.notSynchronized (hb hby own_d1_18) (by decide) (by decide) ?_
  rw [e13]
  have K14 : Keep h0 h13 [a1] := (Keep.wr (Keep.ext K10 E6) W13 (Or.inl (List.mem_of_getElem? (i := 0) rfl)))
  have f15 : Exa Z h13 a1 "com/example/archerfish/archerfish/rank/CompensatedSums" := (f11.wr W13)
  have f16 : Fld Z h13 a1 "com/example/archerfish/archerfish/rank/CompensatedSums" "sums" "[D" (.ref b2) := ((Fw5.ext E6).other W13 (Or.inr (slot_ne (Or.inr (hw _ (List.mem_of_getElem? (i := 12) rfl))) (Or.inr (hw _ (List.mem_of_getElem? (i := 14) rfl))) (by decide) (t := (.array .double)) (t' := (.array .double)) (by decide) (by decide))))
  have f17 : Arv Z h13 b2 k2 .double (2 : Int32) [(.double 0), (.double 0)] (.double 0) := ((f8.ext E6).other W13 (Ne.symm ne_a1_b2))
  have f18 : Arv Z h13 b6 k6 .double (2 : Int32) [(.double 0), (.double 0)] (.double 0) := (V6.other W13 (Ne.symm ne_a1_b6))
  exact ⟨b2, b6, k2, k6, rfl, N13, K14, f15, f16, Fw13, f17, f18, sz_b2, sz_b6, ne_b2_b6⟩
theorem own_d3_0 : decode prog_84_method_2_code 0 = .ok (.aload_n 0, 1) := by decide +kernel
theorem own_d3_1 : decode prog_84_method_2_code 1 = .ok (.getfield 7, 3) := by decide +kernel
theorem own_d3_4 : decode prog_84_method_2_code 4 = .ok (.iload_n 1, 1) := by decide +kernel
theorem own_d3_5 : decode prog_84_method_2_code 5 = .ok (.daload, 1) := by decide +kernel
theorem own_d3_6 : decode prog_84_method_2_code 6 = .ok (.dload_n 2, 1) := by decide +kernel
theorem own_d3_7 : decode prog_84_method_2_code 7 = .ok (.dadd, 1) := by decide +kernel
theorem own_d3_8 : decode prog_84_method_2_code 8 = .ok (.dstore 4, 2) := by decide +kernel
theorem own_d3_10 : decode prog_84_method_2_code 10 = .ok (.aload_n 0, 1) := by decide +kernel
theorem own_d3_11 : decode prog_84_method_2_code 11 = .ok (.getfield 7, 3) := by decide +kernel
theorem own_d3_14 : decode prog_84_method_2_code 14 = .ok (.iload_n 1, 1) := by decide +kernel
theorem own_d3_15 : decode prog_84_method_2_code 15 = .ok (.daload, 1) := by decide +kernel
theorem own_d3_16 : decode prog_84_method_2_code 16 = .ok (.invokestatic 16, 3) := by decide +kernel
theorem own_pd0 : parseMethodDescriptor "(D)D" = some ⟨[.double], some .double⟩ := by decide +kernel
theorem own_d3_19 : decode prog_84_method_2_code 19 = .ok (.dload_n 2, 1) := by decide +kernel
theorem own_d3_20 : decode prog_84_method_2_code 20 = .ok (.invokestatic 16, 3) := by decide +kernel
theorem own_d3_23 : decode prog_84_method_2_code 23 = .ok (.dcmp .l, 1) := by decide +kernel
theorem own_d3_24 : decode prog_84_method_2_code 24 = .ok (.ifCond .lt 26, 3) := by decide +kernel
theorem own_d3_50 : decode prog_84_method_2_code 50 = .ok (.aload_n 0, 1) := by decide +kernel
theorem own_d3_51 : decode prog_84_method_2_code 51 = .ok (.getfield 13, 3) := by decide +kernel
theorem own_d3_54 : decode prog_84_method_2_code 54 = .ok (.iload_n 1, 1) := by decide +kernel
theorem own_d3_55 : decode prog_84_method_2_code 55 = .ok (.dup2, 1) := by decide +kernel
theorem own_d3_56 : decode prog_84_method_2_code 56 = .ok (.daload, 1) := by decide +kernel
theorem own_d3_57 : decode prog_84_method_2_code 57 = .ok (.dload_n 2, 1) := by decide +kernel
theorem own_d3_58 : decode prog_84_method_2_code 58 = .ok (.dload 4, 2) := by decide +kernel
theorem own_d3_60 : decode prog_84_method_2_code 60 = .ok (.dsub, 1) := by decide +kernel
theorem own_d3_61 : decode prog_84_method_2_code 61 = .ok (.aload_n 0, 1) := by decide +kernel
theorem own_d3_62 : decode prog_84_method_2_code 62 = .ok (.getfield 7, 3) := by decide +kernel
theorem own_d3_65 : decode prog_84_method_2_code 65 = .ok (.iload_n 1, 1) := by decide +kernel
theorem own_d3_66 : decode prog_84_method_2_code 66 = .ok (.daload, 1) := by decide +kernel
theorem own_d3_67 : decode prog_84_method_2_code 67 = .ok (.dadd, 1) := by decide +kernel
theorem own_d3_68 : decode prog_84_method_2_code 68 = .ok (.dadd, 1) := by decide +kernel
theorem own_d3_69 : decode prog_84_method_2_code 69 = .ok (.dastore, 1) := by decide +kernel
theorem own_d3_70 : decode prog_84_method_2_code 70 = .ok (.aload_n 0, 1) := by decide +kernel
theorem own_d3_71 : decode prog_84_method_2_code 71 = .ok (.getfield 7, 3) := by decide +kernel
theorem own_d3_74 : decode prog_84_method_2_code 74 = .ok (.iload_n 1, 1) := by decide +kernel
theorem own_d3_75 : decode prog_84_method_2_code 75 = .ok (.dload 4, 2) := by decide +kernel
theorem own_d3_77 : decode prog_84_method_2_code 77 = .ok (.dastore, 1) := by decide +kernel
theorem own_d3_78 : decode prog_84_method_2_code 78 = .ok (.return_, 1) := by decide +kernel
theorem own_d3_27 : decode prog_84_method_2_code 27 = .ok (.aload_n 0, 1) := by decide +kernel
theorem own_d3_28 : decode prog_84_method_2_code 28 = .ok (.getfield 13, 3) := by decide +kernel
theorem own_d3_31 : decode prog_84_method_2_code 31 = .ok (.iload_n 1, 1) := by decide +kernel
theorem own_d3_32 : decode prog_84_method_2_code 32 = .ok (.dup2, 1) := by decide +kernel
theorem own_d3_33 : decode prog_84_method_2_code 33 = .ok (.daload, 1) := by decide +kernel
theorem own_d3_34 : decode prog_84_method_2_code 34 = .ok (.aload_n 0, 1) := by decide +kernel
theorem own_d3_35 : decode prog_84_method_2_code 35 = .ok (.getfield 7, 3) := by decide +kernel
theorem own_d3_38 : decode prog_84_method_2_code 38 = .ok (.iload_n 1, 1) := by decide +kernel
theorem own_d3_39 : decode prog_84_method_2_code 39 = .ok (.daload, 1) := by decide +kernel
theorem own_d3_40 : decode prog_84_method_2_code 40 = .ok (.dload 4, 2) := by decide +kernel
theorem own_d3_42 : decode prog_84_method_2_code 42 = .ok (.dsub, 1) := by decide +kernel
theorem own_d3_43 : decode prog_84_method_2_code 43 = .ok (.dload_n 2, 1) := by decide +kernel
theorem own_d3_44 : decode prog_84_method_2_code 44 = .ok (.dadd, 1) := by decide +kernel
theorem own_d3_45 : decode prog_84_method_2_code 45 = .ok (.dadd, 1) := by decide +kernel
theorem own_d3_46 : decode prog_84_method_2_code 46 = .ok (.dastore, 1) := by decide +kernel
theorem own_d3_47 : decode prog_84_method_2_code 47 = .ok (.goto 23, 3) := by decide +kernel
def own_Q3_0 (Z : State) (a1 : Addr) (x3 : UInt64) (f : Addr) (g : Addr) (s0 : UInt64) (s1 : UInt64) (l0 : UInt64) (l1 : UInt64) (k_f : ClassId) (k_g : ClassId) (h0 : Heap) (n0 : Nat) (v : Option Value) (h : Heap) (L : List Loc) : Prop := ∃ sn : UInt64, ∃ ln : UInt64, v = none ∧ Fr n0 L ∧ Keep h0 h [f, g] ∧ Fld Z h a1 "com/example/archerfish/archerfish/rank/CompensatedSums" "sums" "[D" (.ref f) ∧ Fld Z h a1 "com/example/archerfish/archerfish/rank/CompensatedSums" "lost" "[D" (.ref g) ∧ Arv Z h f k_f .double (2 : Int32) [(.double sn), (.double s1)] (.double 0) ∧ Arv Z h g k_g .double (2 : Int32) [(.double ln), (.double l1)] (.double 0) ∧ (sn = (FP.dadd s0 x3)) ∧ (ln = (own_lost s0 l0 x3))
theorem own_ef_own_rm3_0 (m : MethodId) (a1 : Addr) (x3 : UInt64) : entryFrame m #[(.ref a1), (.int (0 : Int32)), (.double x3)] 6 = mkF m 0 #[.val (.ref a1), .val (.int (0 : Int32)), .val (.double x3), .second, .unset, .unset] [] := by first | (simp [entryFrame, mkF, argsToLocals, Value.category]; done) | rfl
set_option maxRecDepth 65536 in
set_option maxHeartbeats 40000000 in
theorem own_rm3_0 (l : Launch) (Z : State) (a0 : Array Value) (hw : ∀ d ∈ tables_1, d.before a0 Z = true) (ws : List Jvm.Cond) (a1 : Addr) (x3 : UInt64) (f : Addr) (g : Addr) (s0 : UInt64) (s1 : UInt64) (l0 : UInt64) (l1 : UInt64) (k_f : ClassId) (k_g : ClassId) (h0 : Heap) (n0 : Nat) (Z0 : n0 ≤ h0.size) (F_sums_a1 : Fld Z h0 a1 "com/example/archerfish/archerfish/rank/CompensatedSums" "sums" "[D" (.ref f)) (F_lost_a1 : Fld Z h0 a1 "com/example/archerfish/archerfish/rank/CompensatedSums" "lost" "[D" (.ref g)) (V_f : Arv Z h0 f k_f .double (2 : Int32) [(.double s0), (.double s1)] (.double 0)) (V_g : Arv Z h0 g k_g .double (2 : Int32) [(.double l0), (.double l1)] (.double 0)) (g_f : n0 ≤ f) (g_g : n0 ≤ g) (ne_f_a1 : f ≠ a1) (ne_g_a1 : g ≠ a1) (ne_f_g : f ≠ g) (ok : own_ok s0 l0 x3) :
    MetFree l (⟨"com/example/archerfish/archerfish/rank/CompensatedSums", "add", "(ID)V"⟩ : MethodName) (head1 (Jvm.Cond.code (⟨"com/example/archerfish/archerfish/rank/CompensatedSums", "add", "(ID)V"⟩ : MethodName) prog_84_method_2_code 6 none :: ws) ({ frames := 1, cells := 0, slots := 0, locals := 15 } : Room)) (fun a U => a = #[(.ref a1), (.int (0 : Int32)), (.double x3)] ∧ Z.Warmed39 U.vm ∧ U.heap = h0) (fun _ _ _ _ _ => True) (fun _ U o U' => ∃ v L, o = .returned v ∧ own_Q3_0 Z a1 x3 f g s0 s1 l0 l1 k_f k_g h0 n0 v U'.heap L ∧ FrameEnd U o U' L ({ frames := 1, cells := 0, slots := 0, locals := 15 } : Room).cells ({ frames := 1, cells := 0, slots := 0, locals := 15 } : Room).slots) := by
  refine MetFree.of_bodySF (plainFor_of_name own_pn0) hisR ?_
  intro p e s m args below meth c s₁ Bd hml0 hP hK
  obtain ⟨rfl, hZ, hh⟩ := hP
  have hx := Bd.exec
  have hby := Bd.bytes
  have hml : c.maxLocals = 6 := hml0
  have hown : s.vm.findClass "com/example/archerfish/archerfish/rank/CompensatedSums" = some m.cls := findClass_of_methodNamed Bd.named
  have hnm := (name_of_methodNamed Bd.named Bd.method).1
  have X0 : Stand p l e ({ frames := 1, cells := 0, slots := 0, locals := 15 } : Room) s m #[(.ref a1), (.int (0 : Int32)), (.double x3)] below meth c s₁ [] 0 0 := Stand.of_body Bd
  have e0 : s₁.heap = h0 := by rw [← hh, Bd.state]; rfl
  have N0 := Fr.nil n0
  show OE FrameEnd p e below s (own_Q3_0 Z a1 x3 f g s0 s1 l0 l1 k_f k_g h0 n0) ({ frames := 1, cells := 0, slots := 0, locals := 15 } : Room).cells ({ frames := 1, cells := 0, slots := 0, locals := 15 } : Room).slots s₁ (entryFrame m #[(.ref a1), (.int (0 : Int32)), (.double x3)] 6)
  rw [own_ef_own_rm3_0]
  show OE _ p e below s _ _ _ s₁ (mkF m 0 #[.val (.ref a1), .val (.int (0 : Int32)), .val (.double x3), .second, .unset, .unset] [])
  refine OE.aloadN X0 hx hby own_d3_0 rfl rfl ?_
  obtain ⟨T1, X1, e1, st1⟩ := getF X0 hx hZ hown (host := "") (Or.inl (hw _ (List.mem_of_getElem? (i := 11) rfl))) Via.refl e0 F_sums_a1 (g := (mkF m 1 #[.val (.ref a1), .val (.int (0 : Int32)), .val (.double x3), .second, .unset, .unset] [(.ref a1)])) rfl rfl (hb hby own_d3_1)
  refine OE.of st1 ?_
  show OE _ p e below s _ _ _ T1 (mkF m 4 #[.val (.ref a1), .val (.int (0 : Int32)), .val (.double x3), .second, .unset, .unset] [(.ref f)])
  refine OE.iloadN X1 hx hby own_d3_4 rfl ?_
  have Vo2 := V_f
  obtain ⟨cl2, Ar2, -, Sz2, Nz2, Hz2, Gz2⟩ := Vo2
  have hin2 : ¬ ((0 : Int32) < 0 ∨ cl2.slots.size ≤ ((0 : Int32)).toNatClampNeg) := inb_of Sz2 ⟨by decide, by decide⟩
  have hat2 : cl2.slots[((0 : Int32)).toNatClampNeg]? = some (.double s0) := Has.at Hz2 hin2 rfl
  refine OE.of (X1.daload hx (j := (0 : Int32)) (v := (.double s0)) (by rw [e1]; exact Ar2.1) (State.isArrayOf_alike hZ.alike Ar2.2.1) Ar2.2.2 hin2 hat2 (g := (mkF m 5 #[.val (.ref a1), .val (.int (0 : Int32)), .val (.double x3), .second, .unset, .unset] [(.int (0 : Int32)), (.ref f)])) rfl rfl (hb hby own_d3_5)) ?_
  show OE _ p e below s _ _ _ T1 (mkF m 6 #[.val (.ref a1), .val (.int (0 : Int32)), .val (.double x3), .second, .unset, .unset] [(.double s0)])
  refine OE.dloadN X1 hx hby own_d3_6 rfl ?_
  refine OE.dadd X1 hx hby own_d3_7 ok.2.2.1 ?_
  refine OE.dstore X1 hx hby own_d3_8 (l' := #[.val (.ref a1), .val (.int (0 : Int32)), .val (.double x3), .second, .val (.double (FP.dadd s0 x3)), .second]) rfl ?_
  refine OE.aloadN X1 hx hby own_d3_10 rfl rfl ?_
  obtain ⟨T3, X3, e3, st3⟩ := getF X1 hx hZ hown (host := "") (Or.inl (hw _ (List.mem_of_getElem? (i := 11) rfl))) Via.refl e1 F_sums_a1 (g := (mkF m 11 #[.val (.ref a1), .val (.int (0 : Int32)), .val (.double x3), .second, .val (.double (FP.dadd s0 x3)), .second] [(.ref a1)])) rfl rfl (hb hby own_d3_11)
  refine OE.of st3 ?_
  show OE _ p e below s _ _ _ T3 (mkF m 14 #[.val (.ref a1), .val (.int (0 : Int32)), .val (.double x3), .second, .val (.double (FP.dadd s0 x3)), .second] [(.ref f)])
  refine OE.iloadN X3 hx hby own_d3_14 rfl ?_
  have Vo4 := V_f
  obtain ⟨cl4, Ar4, -, Sz4, Nz4, Hz4, Gz4⟩ := Vo4
  have hin4 : ¬ ((0 : Int32) < 0 ∨ cl4.slots.size ≤ ((0 : Int32)).toNatClampNeg) := inb_of Sz4 ⟨by decide, by decide⟩
  have hat4 : cl4.slots[((0 : Int32)).toNatClampNeg]? = some (.double s0) := Has.at Hz4 hin4 rfl
  refine OE.of (X3.daload hx (j := (0 : Int32)) (v := (.double s0)) (by rw [e3]; exact Ar4.1) (State.isArrayOf_alike hZ.alike Ar4.2.1) Ar4.2.2 hin4 hat4 (g := (mkF m 15 #[.val (.ref a1), .val (.int (0 : Int32)), .val (.double x3), .second, .val (.double (FP.dadd s0 x3)), .second] [(.int (0 : Int32)), (.ref f)])) rfl rfl (hb hby own_d3_15)) ?_
  show OE _ p e below s _ _ _ T3 (mkF m 16 #[.val (.ref a1), .val (.int (0 : Int32)), .val (.double x3), .second, .val (.double (FP.dadd s0 x3)), .second] [(.double s0)])
  obtain ⟨T5, X5, e5, st5⟩ := natS X3 hx hZ (y := Jvm.Free.Fl.Abs.absDN) hown (hw _ (List.mem_of_getElem? (i := 20) rfl)) (hw _ (List.mem_of_getElem? (i := 21) rfl)) (hw _ (List.mem_of_getElem? (i := 22) rfl)) (hw _ (List.mem_of_getElem? (i := 23) rfl)) (by decide) e3 (W := 0) (F := fun a' => a' = #[.double s0] ∧ Jvm.Free.Fl.NoNaN64 s0) (val := .double (s0 &&& 0x7fffffffffffffff)) (val' := .double (s0 &&& 0x7fffffffffffffff)) (fun c4 => Jvm.Free.Fl.Abs.absD_pays s0 c4 (by decide) (by decide)) (g := (mkF m 16 #[.val (.ref a1), .val (.int (0 : Int32)), .val (.double x3), .second, .val (.double (FP.dadd s0 x3)), .second] [(.double s0)])) rfl (by rw [hml]; rfl) (argsL := [.double s0]) (rest := []) (lenOf own_pd0 rfl) rfl (by show 2 * 0 + _ ≤ _; exact Nat.le_of_eq rfl) (hb hby own_d3_16) (by decide) (by decide) ⟨rfl, ok.1⟩ rfl
  refine OE.of st5 ?_
  show OE _ p e below s _ _ _ T5 (mkF m 19 #[.val (.ref a1), .val (.int (0 : Int32)), .val (.double x3), .second, .val (.double (FP.dadd s0 x3)), .second] [(.double (s0 &&& 0x7fffffffffffffff))])
  refine OE.dloadN X5 hx hby own_d3_19 rfl ?_
  obtain ⟨T6, X6, e6, st6⟩ := natS X5 hx hZ (y := Jvm.Free.Fl.Abs.absDN) hown (hw _ (List.mem_of_getElem? (i := 20) rfl)) (hw _ (List.mem_of_getElem? (i := 21) rfl)) (hw _ (List.mem_of_getElem? (i := 22) rfl)) (hw _ (List.mem_of_getElem? (i := 23) rfl)) (by decide) e5 (W := 2) (F := fun a' => a' = #[.double x3] ∧ Jvm.Free.Fl.NoNaN64 x3) (val := .double (x3 &&& 0x7fffffffffffffff)) (val' := .double (x3 &&& 0x7fffffffffffffff)) (fun c4 => Jvm.Free.Fl.Abs.absD_pays x3 c4 (by decide) (by decide)) (g := (mkF m 20 #[.val (.ref a1), .val (.int (0 : Int32)), .val (.double x3), .second, .val (.double (FP.dadd s0 x3)), .second] [(.double x3), (.double (s0 &&& 0x7fffffffffffffff))])) rfl (by rw [hml]; rfl) (argsL := [.double x3]) (rest := [(.double (s0 &&& 0x7fffffffffffffff))]) (lenOf own_pd0 rfl) rfl (by show 2 * 0 + _ ≤ _; exact Nat.le_of_eq rfl) (hb hby own_d3_20) (by decide) (by decide) ⟨rfl, ok.2.1⟩ rfl
  refine OE.of st6 ?_
  show OE _ p e below s _ _ _ T6 (mkF m 23 #[.val (.ref a1), .val (.int (0 : Int32)), .val (.double x3), .second, .val (.double (FP.dadd s0 x3)), .second] [(.double (x3 &&& 0x7fffffffffffffff)), (.double (s0 &&& 0x7fffffffffffffff))])
  refine OE.dcmp X6 hx hby own_d3_23 ?_
  by_cases hc24 : (cmpValue (FP.dcmp (s0 &&& 0x7fffffffffffffff) (x3 &&& 0x7fffffffffffffff)) .l) < (0 : Int32)
  · skip
    refine OE.ifYes X6 hx hby (pc' := 50) own_d3_24 (tlt hc24).1 (h := ?_)
    refine OE.aloadN X6 hx hby own_d3_50 rfl rfl ?_
    obtain ⟨T7, X7, e7, st7⟩ := getF X6 hx hZ hown (host := "") (Or.inl (hw _ (List.mem_of_getElem? (i := 13) rfl))) Via.refl e6 F_lost_a1 (g := (mkF m 51 #[.val (.ref a1), .val (.int (0 : Int32)), .val (.double x3), .second, .val (.double (FP.dadd s0 x3)), .second] [(.ref a1)])) rfl rfl (hb hby own_d3_51)
    refine OE.of st7 ?_
    show OE _ p e below s _ _ _ T7 (mkF m 54 #[.val (.ref a1), .val (.int (0 : Int32)), .val (.double x3), .second, .val (.double (FP.dadd s0 x3)), .second] [(.ref g)])
    refine OE.iloadN X7 hx hby own_d3_54 rfl ?_
    refine OE.dup2 X7 hx hby own_d3_55 rfl rfl ?_
    have Vo8 := V_g
    obtain ⟨cl8, Ar8, -, Sz8, Nz8, Hz8, Gz8⟩ := Vo8
    have hin8 : ¬ ((0 : Int32) < 0 ∨ cl8.slots.size ≤ ((0 : Int32)).toNatClampNeg) := inb_of Sz8 ⟨by decide, by decide⟩
    have hat8 : cl8.slots[((0 : Int32)).toNatClampNeg]? = some (.double l0) := Has.at Hz8 hin8 rfl
    refine OE.of (X7.daload hx (j := (0 : Int32)) (v := (.double l0)) (by rw [e7]; exact Ar8.1) (State.isArrayOf_alike hZ.alike Ar8.2.1) Ar8.2.2 hin8 hat8 (g := (mkF m 56 #[.val (.ref a1), .val (.int (0 : Int32)), .val (.double x3), .second, .val (.double (FP.dadd s0 x3)), .second] [(.int (0 : Int32)), (.ref g), (.int (0 : Int32)), (.ref g)])) rfl rfl (hb hby own_d3_56)) ?_
    show OE _ p e below s _ _ _ T7 (mkF m 57 #[.val (.ref a1), .val (.int (0 : Int32)), .val (.double x3), .second, .val (.double (FP.dadd s0 x3)), .second] [(.double l0), (.int (0 : Int32)), (.ref g)])
    refine OE.dloadN X7 hx hby own_d3_57 rfl ?_
    refine OE.dload X7 hx hby own_d3_58 rfl ?_
    refine OE.dsub X7 hx hby own_d3_60 ok.2.2.2.1 ?_
    refine OE.aloadN X7 hx hby own_d3_61 rfl rfl ?_
    obtain ⟨T9, X9, e9, st9⟩ := getF X7 hx hZ hown (host := "") (Or.inl (hw _ (List.mem_of_getElem? (i := 11) rfl))) Via.refl e7 F_sums_a1 (g := (mkF m 62 #[.val (.ref a1), .val (.int (0 : Int32)), .val (.double x3), .second, .val (.double (FP.dadd s0 x3)), .second] [(.ref a1), (.double (FP.dsub x3 (FP.dadd s0 x3))), (.double l0), (.int (0 : Int32)), (.ref g)])) rfl rfl (hb hby own_d3_62)
    refine OE.of st9 ?_
    show OE _ p e below s _ _ _ T9 (mkF m 65 #[.val (.ref a1), .val (.int (0 : Int32)), .val (.double x3), .second, .val (.double (FP.dadd s0 x3)), .second] [(.ref f), (.double (FP.dsub x3 (FP.dadd s0 x3))), (.double l0), (.int (0 : Int32)), (.ref g)])
    refine OE.iloadN X9 hx hby own_d3_65 rfl ?_
    have Vo10 := V_f
    obtain ⟨cl10, Ar10, -, Sz10, Nz10, Hz10, Gz10⟩ := Vo10
    have hin10 : ¬ ((0 : Int32) < 0 ∨ cl10.slots.size ≤ ((0 : Int32)).toNatClampNeg) := inb_of Sz10 ⟨by decide, by decide⟩
    have hat10 : cl10.slots[((0 : Int32)).toNatClampNeg]? = some (.double s0) := Has.at Hz10 hin10 rfl
    refine OE.of (X9.daload hx (j := (0 : Int32)) (v := (.double s0)) (by rw [e9]; exact Ar10.1) (State.isArrayOf_alike hZ.alike Ar10.2.1) Ar10.2.2 hin10 hat10 (g := (mkF m 66 #[.val (.ref a1), .val (.int (0 : Int32)), .val (.double x3), .second, .val (.double (FP.dadd s0 x3)), .second] [(.int (0 : Int32)), (.ref f), (.double (FP.dsub x3 (FP.dadd s0 x3))), (.double l0), (.int (0 : Int32)), (.ref g)])) rfl rfl (hb hby own_d3_66)) ?_
    show OE _ p e below s _ _ _ T9 (mkF m 67 #[.val (.ref a1), .val (.int (0 : Int32)), .val (.double x3), .second, .val (.double (FP.dadd s0 x3)), .second] [(.double s0), (.double (FP.dsub x3 (FP.dadd s0 x3))), (.double l0), (.int (0 : Int32)), (.ref g)])
    refine OE.dadd X9 hx hby own_d3_67 ok.2.2.2.2.1 ?_
    refine OE.dadd X9 hx hby own_d3_68 ok.2.2.2.2.2.1 ?_
    rw [((by unfold own_lost; rw [if_pos hc24]) : (FP.dadd l0 (FP.dadd (FP.dsub x3 (FP.dadd s0 x3)) s0)) = (own_lost s0 l0 x3))]
    show OE _ p e below s _ _ _ T9 (mkF m 69 #[.val (.ref a1), .val (.int (0 : Int32)), .val (.double x3), .second, .val (.double (FP.dadd s0 x3)), .second] [(.double (own_lost s0 l0 x3)), (.int (0 : Int32)), (.ref g)])
    have Vo11 := V_g
    obtain ⟨cl11, Ar11, qz11, Sz11, Nz11, Hz11, Gz11⟩ := Vo11
    have hin11 : ¬ ((0 : Int32) < 0 ∨ cl11.slots.size ≤ ((0 : Int32)).toNatClampNeg) := inb_of Sz11 ⟨by decide, by decide⟩
    obtain ⟨T11, h11, X11, e11, W11, st11⟩ := stD X9 hx hZ e9 Ar11 (j := (0 : Int32)) hin11 (g := (mkF m 69 #[.val (.ref a1), .val (.int (0 : Int32)), .val (.double x3), .second, .val (.double (FP.dadd s0 x3)), .second] [(.double (own_lost s0 l0 x3)), (.int (0 : Int32)), (.ref g)])) rfl rfl (hb hby own_d3_69)
    refine OE.of st11 ?_
    have V11 : Arv Z h11 g k_g .double (2 : Int32) [(.double (own_lost s0 l0 x3)), (.double l1)] (.double 0) := Arv.set Ar11 qz11 Sz11 Nz11 Hz11 Gz11 rfl W11 0 rfl (Nat.le_of_ble_eq_true rfl)
    have N11 := Fr.snoc X11 N0 g_g
    show OE _ p e below s _ _ _ T11 (mkF m 70 #[.val (.ref a1), .val (.int (0 : Int32)), .val (.double x3), .second, .val (.double (FP.dadd s0 x3)), .second] [])
    refine OE.aloadN X11 hx hby own_d3_70 rfl rfl ?_
    have f12 : Fld Z h11 a1 "com/example/archerfish/archerfish/rank/CompensatedSums" "sums" "[D" (.ref f) := (F_sums_a1.other W11 (Or.inl (Ne.symm ne_g_a1)))
    obtain ⟨T13, X13, e13, st13⟩ := getF X11 hx hZ hown (host := "") (Or.inl (hw _ (List.mem_of_getElem? (i := 11) rfl))) Via.refl e11 f12 (g := (mkF m 71 #[.val (.ref a1), .val (.int (0 : Int32)), .val (.double x3), .second, .val (.double (FP.dadd s0 x3)), .second] [(.ref a1)])) rfl rfl (hb hby own_d3_71)
    refine OE.of st13 ?_
    show OE _ p e below s _ _ _ T13 (mkF m 74 #[.val (.ref a1), .val (.int (0 : Int32)), .val (.double x3), .second, .val (.double (FP.dadd s0 x3)), .second] [(.ref f)])
    refine OE.iloadN X13 hx hby own_d3_74 rfl ?_
    refine OE.dload X13 hx hby own_d3_75 rfl ?_
    have f14 : Arv Z h11 f k_f .double (2 : Int32) [(.double s0), (.double s1)] (.double 0) := (V_f.other W11 ne_f_g)
    have Vo15 := f14
    obtain ⟨cl15, Ar15, qz15, Sz15, Nz15, Hz15, Gz15⟩ := Vo15
    have hin15 : ¬ ((0 : Int32) < 0 ∨ cl15.slots.size ≤ ((0 : Int32)).toNatClampNeg) := inb_of Sz15 ⟨by decide, by decide⟩
    obtain ⟨T15, h15, X15, e15, W15, st15⟩ := stD X13 hx hZ e13 Ar15 (j := (0 : Int32)) hin15 (g := (mkF m 77 #[.val (.ref a1), .val (.int (0 : Int32)), .val (.double x3), .second, .val (.double (FP.dadd s0 x3)), .second] [(.double (FP.dadd s0 x3)), (.int (0 : Int32)), (.ref f)])) rfl rfl (hb hby own_d3_77)
    refine OE.of st15 ?_
    have V15 : Arv Z h15 f k_f .double (2 : Int32) [(.double (FP.dadd s0 x3)), (.double s1)] (.double 0) := Arv.set Ar15 qz15 Sz15 Nz15 Hz15 Gz15 rfl W15 0 rfl (Nat.le_of_ble_eq_true rfl)
    have N15 := Fr.snoc X15 N11 g_f
    show OE _ p e below s _ _ _ T15 (mkF m 78 #[.val (.ref a1), .val (.int (0 : Int32)), .val (.double x3), .second, .val (.double (FP.dadd s0 x3)), .second] [])
    refine OE.ret0 X15 hx Bd.returns Bd.notSynchronized (hb hby own_d3_78) (by decide) (by decide) ?_
    rw [e15]
    have K16 : Keep h0 h15 [f, g] := (Keep.wr (Keep.wr (Keep.refl h0 [f, g]) W11 (Or.inl (List.mem_of_getElem? (i := 1) rfl))) W15 (Or.inl (List.mem_of_getElem? (i := 0) rfl)))
    have f17 : Fld Z h15 a1 "com/example/archerfish/archerfish/rank/CompensatedSums" "sums" "[D" (.ref f) := (f12.other W15 (Or.inl (Ne.symm ne_f_a1)))
    have f18 : Fld Z h15 a1 "com/example/archerfish/archerfish/rank/CompensatedSums" "lost" "[D" (.ref g) := ((F_lost_a1.other W11 (Or.inl (Ne.symm ne_g_a1))).other W15 (Or.inl (Ne.symm ne_f_a1)))
    have f19 : Arv Z h15 g k_g .double (2 : Int32) [(.double (own_lost s0 l0 x3)), (.double l1)] (.double 0) := (V11.other W15 (Ne.symm ne_f_g))
    exact ⟨(FP.dadd s0 x3), (own_lost s0 l0 x3), rfl, N15, K16, f17, f18, V15, f19, rfl, rfl⟩
  · skip
    refine OE.ifNo X6 hx hby own_d3_24 (flt hc24).1 ?_
    refine OE.aloadN X6 hx hby own_d3_27 rfl rfl ?_
    obtain ⟨T20, X20, e20, st20⟩ := getF X6 hx hZ hown (host := "") (Or.inl (hw _ (List.mem_of_getElem? (i := 13) rfl))) Via.refl e6 F_lost_a1 (g := (mkF m 28 #[.val (.ref a1), .val (.int (0 : Int32)), .val (.double x3), .second, .val (.double (FP.dadd s0 x3)), .second] [(.ref a1)])) rfl rfl (hb hby own_d3_28)
    refine OE.of st20 ?_
    show OE _ p e below s _ _ _ T20 (mkF m 31 #[.val (.ref a1), .val (.int (0 : Int32)), .val (.double x3), .second, .val (.double (FP.dadd s0 x3)), .second] [(.ref g)])
    refine OE.iloadN X20 hx hby own_d3_31 rfl ?_
    refine OE.dup2 X20 hx hby own_d3_32 rfl rfl ?_
    have Vo21 := V_g
    obtain ⟨cl21, Ar21, -, Sz21, Nz21, Hz21, Gz21⟩ := Vo21
    have hin21 : ¬ ((0 : Int32) < 0 ∨ cl21.slots.size ≤ ((0 : Int32)).toNatClampNeg) := inb_of Sz21 ⟨by decide, by decide⟩
    have hat21 : cl21.slots[((0 : Int32)).toNatClampNeg]? = some (.double l0) := Has.at Hz21 hin21 rfl
    refine OE.of (X20.daload hx (j := (0 : Int32)) (v := (.double l0)) (by rw [e20]; exact Ar21.1) (State.isArrayOf_alike hZ.alike Ar21.2.1) Ar21.2.2 hin21 hat21 (g := (mkF m 33 #[.val (.ref a1), .val (.int (0 : Int32)), .val (.double x3), .second, .val (.double (FP.dadd s0 x3)), .second] [(.int (0 : Int32)), (.ref g), (.int (0 : Int32)), (.ref g)])) rfl rfl (hb hby own_d3_33)) ?_
    show OE _ p e below s _ _ _ T20 (mkF m 34 #[.val (.ref a1), .val (.int (0 : Int32)), .val (.double x3), .second, .val (.double (FP.dadd s0 x3)), .second] [(.double l0), (.int (0 : Int32)), (.ref g)])
    refine OE.aloadN X20 hx hby own_d3_34 rfl rfl ?_
    obtain ⟨T22, X22, e22, st22⟩ := getF X20 hx hZ hown (host := "") (Or.inl (hw _ (List.mem_of_getElem? (i := 11) rfl))) Via.refl e20 F_sums_a1 (g := (mkF m 35 #[.val (.ref a1), .val (.int (0 : Int32)), .val (.double x3), .second, .val (.double (FP.dadd s0 x3)), .second] [(.ref a1), (.double l0), (.int (0 : Int32)), (.ref g)])) rfl rfl (hb hby own_d3_35)
    refine OE.of st22 ?_
    show OE _ p e below s _ _ _ T22 (mkF m 38 #[.val (.ref a1), .val (.int (0 : Int32)), .val (.double x3), .second, .val (.double (FP.dadd s0 x3)), .second] [(.ref f), (.double l0), (.int (0 : Int32)), (.ref g)])
    refine OE.iloadN X22 hx hby own_d3_38 rfl ?_
    have Vo23 := V_f
    obtain ⟨cl23, Ar23, -, Sz23, Nz23, Hz23, Gz23⟩ := Vo23
    have hin23 : ¬ ((0 : Int32) < 0 ∨ cl23.slots.size ≤ ((0 : Int32)).toNatClampNeg) := inb_of Sz23 ⟨by decide, by decide⟩
    have hat23 : cl23.slots[((0 : Int32)).toNatClampNeg]? = some (.double s0) := Has.at Hz23 hin23 rfl
    refine OE.of (X22.daload hx (j := (0 : Int32)) (v := (.double s0)) (by rw [e22]; exact Ar23.1) (State.isArrayOf_alike hZ.alike Ar23.2.1) Ar23.2.2 hin23 hat23 (g := (mkF m 39 #[.val (.ref a1), .val (.int (0 : Int32)), .val (.double x3), .second, .val (.double (FP.dadd s0 x3)), .second] [(.int (0 : Int32)), (.ref f), (.double l0), (.int (0 : Int32)), (.ref g)])) rfl rfl (hb hby own_d3_39)) ?_
    show OE _ p e below s _ _ _ T22 (mkF m 40 #[.val (.ref a1), .val (.int (0 : Int32)), .val (.double x3), .second, .val (.double (FP.dadd s0 x3)), .second] [(.double s0), (.double l0), (.int (0 : Int32)), (.ref g)])
    refine OE.dload X22 hx hby own_d3_40 rfl ?_
    refine OE.dsub X22 hx hby own_d3_42 ok.2.2.2.2.2.2.1 ?_
    refine OE.dloadN X22 hx hby own_d3_43 rfl ?_
    refine OE.dadd X22 hx hby own_d3_44 ok.2.2.2.2.2.2.2.1 ?_
    refine OE.dadd X22 hx hby own_d3_45 ok.2.2.2.2.2.2.2.2 ?_
    rw [((by unfold own_lost; rw [if_neg hc24]) : (FP.dadd l0 (FP.dadd (FP.dsub s0 (FP.dadd s0 x3)) x3)) = (own_lost s0 l0 x3))]
    show OE _ p e below s _ _ _ T22 (mkF m 46 #[.val (.ref a1), .val (.int (0 : Int32)), .val (.double x3), .second, .val (.double (FP.dadd s0 x3)), .second] [(.double (own_lost s0 l0 x3)), (.int (0 : Int32)), (.ref g)])
    have Vo24 := V_g
    obtain ⟨cl24, Ar24, qz24, Sz24, Nz24, Hz24, Gz24⟩ := Vo24
    have hin24 : ¬ ((0 : Int32) < 0 ∨ cl24.slots.size ≤ ((0 : Int32)).toNatClampNeg) := inb_of Sz24 ⟨by decide, by decide⟩
    obtain ⟨T24, h24, X24, e24, W24, st24⟩ := stD X22 hx hZ e22 Ar24 (j := (0 : Int32)) hin24 (g := (mkF m 46 #[.val (.ref a1), .val (.int (0 : Int32)), .val (.double x3), .second, .val (.double (FP.dadd s0 x3)), .second] [(.double (own_lost s0 l0 x3)), (.int (0 : Int32)), (.ref g)])) rfl rfl (hb hby own_d3_46)
    refine OE.of st24 ?_
    have V24 : Arv Z h24 g k_g .double (2 : Int32) [(.double (own_lost s0 l0 x3)), (.double l1)] (.double 0) := Arv.set Ar24 qz24 Sz24 Nz24 Hz24 Gz24 rfl W24 0 rfl (Nat.le_of_ble_eq_true rfl)
    have N24 := Fr.snoc X24 N0 g_g
    show OE _ p e below s _ _ _ T24 (mkF m 47 #[.val (.ref a1), .val (.int (0 : Int32)), .val (.double x3), .second, .val (.double (FP.dadd s0 x3)), .second] [])
    refine OE.goto X24 hx hby (pc' := 70) own_d3_47 (h := ?_)
    refine OE.aloadN X24 hx hby own_d3_70 rfl rfl ?_
    have f25 : Fld Z h24 a1 "com/example/archerfish/archerfish/rank/CompensatedSums" "sums" "[D" (.ref f) := (F_sums_a1.other W24 (Or.inl (Ne.symm ne_g_a1)))
    obtain ⟨T26, X26, e26, st26⟩ := getF X24 hx hZ hown (host := "") (Or.inl (hw _ (List.mem_of_getElem? (i := 11) rfl))) Via.refl e24 f25 (g := (mkF m 71 #[.val (.ref a1), .val (.int (0 : Int32)), .val (.double x3), .second, .val (.double (FP.dadd s0 x3)), .second] [(.ref a1)])) rfl rfl (hb hby own_d3_71)
    refine OE.of st26 ?_
    show OE _ p e below s _ _ _ T26 (mkF m 74 #[.val (.ref a1), .val (.int (0 : Int32)), .val (.double x3), .second, .val (.double (FP.dadd s0 x3)), .second] [(.ref f)])
    refine OE.iloadN X26 hx hby own_d3_74 rfl ?_
    refine OE.dload X26 hx hby own_d3_75 rfl ?_
    have f27 : Arv Z h24 f k_f .double (2 : Int32) [(.double s0), (.double s1)] (.double 0) := (V_f.other W24 ne_f_g)
    have Vo28 := f27
    obtain ⟨cl28, Ar28, qz28, Sz28, Nz28, Hz28, Gz28⟩ := Vo28
    have hin28 : ¬ ((0 : Int32) < 0 ∨ cl28.slots.size ≤ ((0 : Int32)).toNatClampNeg) := inb_of Sz28 ⟨by decide, by decide⟩
    obtain ⟨T28, h28, X28, e28, W28, st28⟩ := stD X26 hx hZ e26 Ar28 (j := (0 : Int32)) hin28 (g := (mkF m 77 #[.val (.ref a1), .val (.int (0 : Int32)), .val (.double x3), .second, .val (.double (FP.dadd s0 x3)), .second] [(.double (FP.dadd s0 x3)), (.int (0 : Int32)), (.ref f)])) rfl rfl (hb hby own_d3_77)
    refine OE.of st28 ?_
    have V28 : Arv Z h28 f k_f .double (2 : Int32) [(.double (FP.dadd s0 x3)), (.double s1)] (.double 0) := Arv.set Ar28 qz28 Sz28 Nz28 Hz28 Gz28 rfl W28 0 rfl (Nat.le_of_ble_eq_true rfl)
    have N28 := Fr.snoc X28 N24 g_f
    show OE _ p e below s _ _ _ T28 (mkF m 78 #[.val (.ref a1), .val (.int (0 : Int32)), .val (.double x3), .second, .val (.double (FP.dadd s0 x3)), .second] [])
    refine OE.ret0 X28 hx Bd.returns Bd.notSynchronized (hb hby own_d3_78) (by decide) (by decide) ?_
    rw [e28]
    have K29 : Keep h0 h28 [f, g] := (Keep.wr (Keep.wr (Keep.refl h0 [f, g]) W24 (Or.inl (List.mem_of_getElem? (i := 1) rfl))) W28 (Or.inl (List.mem_of_getElem? (i := 0) rfl)))
    have f30 : Fld Z h28 a1 "com/example/archerfish/archerfish/rank/CompensatedSums" "sums" "[D" (.ref f) := (f25.other W28 (Or.inl (Ne.symm ne_f_a1)))
    have f31 : Fld Z h28 a1 "com/example/archerfish/archerfish/rank/CompensatedSums" "lost" "[D" (.ref g) := ((F_lost_a1.other W24 (Or.inl (Ne.symm ne_g_a1))).other W28 (Or.inl (Ne.symm ne_f_a1)))
    have f32 : Arv Z h28 g k_g .double (2 : Int32) [(.double (own_lost s0 l0 x3)), (.double l1)] (.double 0) := (V24.other W28 (Ne.symm ne_f_g))
    exact ⟨(FP.dadd s0 x3), (own_lost s0 l0 x3), rfl, N28, K29, f30, f31, V28, f32, rfl, rfl⟩
theorem own_d5_0 : decode prog_84_method_3_code 0 = .ok (.aload_n 0, 1) := by decide +kernel
theorem own_d5_1 : decode prog_84_method_3_code 1 = .ok (.getfield 7, 3) := by decide +kernel
theorem own_d5_4 : decode prog_84_method_3_code 4 = .ok (.iload_n 1, 1) := by decide +kernel
theorem own_d5_5 : decode prog_84_method_3_code 5 = .ok (.daload, 1) := by decide +kernel
theorem own_d5_6 : decode prog_84_method_3_code 6 = .ok (.aload_n 0, 1) := by decide +kernel
theorem own_d5_7 : decode prog_84_method_3_code 7 = .ok (.getfield 13, 3) := by decide +kernel
theorem own_d5_10 : decode prog_84_method_3_code 10 = .ok (.iload_n 1, 1) := by decide +kernel
theorem own_d5_11 : decode prog_84_method_3_code 11 = .ok (.daload, 1) := by decide +kernel
theorem own_d5_12 : decode prog_84_method_3_code 12 = .ok (.dadd, 1) := by decide +kernel
theorem own_d5_13 : decode prog_84_method_3_code 13 = .ok (.dreturn, 1) := by decide +kernel
def own_Q5_0 (Z : State) (a1 : Addr) (f : Addr) (g : Addr) (s0 : UInt64) (s1 : UInt64) (l0 : UInt64) (l1 : UInt64) (k_f : ClassId) (k_g : ClassId) (h0 : Heap) (n0 : Nat) (v : Option Value) (h : Heap) (L : List Loc) : Prop := v = some (.double (FP.dadd s0 l0)) ∧ Fr n0 L ∧ h = h0
theorem own_ef_own_rm5_0 (m : MethodId) (a1 : Addr) : entryFrame m #[(.ref a1), (.int (0 : Int32))] 2 = mkF m 0 #[.val (.ref a1), .val (.int (0 : Int32))] [] := by first | (simp [entryFrame, mkF, argsToLocals, Value.category]; done) | rfl
set_option maxRecDepth 65536 in
set_option maxHeartbeats 40000000 in
theorem own_rm5_0 (l : Launch) (Z : State) (a0 : Array Value) (hw : ∀ d ∈ tables_1, d.before a0 Z = true) (ws : List Jvm.Cond) (a1 : Addr) (f : Addr) (g : Addr) (s0 : UInt64) (s1 : UInt64) (l0 : UInt64) (l1 : UInt64) (k_f : ClassId) (k_g : ClassId) (h0 : Heap) (n0 : Nat) (Z0 : n0 ≤ h0.size) (F_sums_a1 : Fld Z h0 a1 "com/example/archerfish/archerfish/rank/CompensatedSums" "sums" "[D" (.ref f)) (F_lost_a1 : Fld Z h0 a1 "com/example/archerfish/archerfish/rank/CompensatedSums" "lost" "[D" (.ref g)) (V_f : Arv Z h0 f k_f .double (2 : Int32) [(.double s0), (.double s1)] (.double 0)) (V_g : Arv Z h0 g k_g .double (2 : Int32) [(.double l0), (.double l1)] (.double 0)) (nn : Jvm.Free.Fl.NoNaN64 (FP.dadd s0 l0)) :
    MetFree l (⟨"com/example/archerfish/archerfish/rank/CompensatedSums", "total", "(I)D"⟩ : MethodName) (head1 (Jvm.Cond.code (⟨"com/example/archerfish/archerfish/rank/CompensatedSums", "total", "(I)D"⟩ : MethodName) prog_84_method_3_code 2 (some .double) :: ws) ({ frames := 0, cells := 0, slots := 0, locals := 0 } : Room)) (fun a U => a = #[(.ref a1), (.int (0 : Int32))] ∧ Z.Warmed39 U.vm ∧ U.heap = h0) (fun _ _ _ _ _ => True) (fun _ U o U' => ∃ v L, o = .returned v ∧ own_Q5_0 Z a1 f g s0 s1 l0 l1 k_f k_g h0 n0 v U'.heap L ∧ FrameEnd U o U' L ({ frames := 0, cells := 0, slots := 0, locals := 0 } : Room).cells ({ frames := 0, cells := 0, slots := 0, locals := 0 } : Room).slots) := by
  refine MetFree.of_bodySF (plainFor_of_name own_pn0) hisR ?_
  intro p e s m args below meth c s₁ Bd hml0 hP hK
  obtain ⟨rfl, hZ, hh⟩ := hP
  have hx := Bd.exec
  have hby := Bd.bytes
  have hml : c.maxLocals = 2 := hml0
  have hown : s.vm.findClass "com/example/archerfish/archerfish/rank/CompensatedSums" = some m.cls := findClass_of_methodNamed Bd.named
  have hnm := (name_of_methodNamed Bd.named Bd.method).1
  have X0 : Stand p l e ({ frames := 0, cells := 0, slots := 0, locals := 0 } : Room) s m #[(.ref a1), (.int (0 : Int32))] below meth c s₁ [] 0 0 := Stand.of_body Bd
  have e0 : s₁.heap = h0 := by rw [← hh, Bd.state]; rfl
  have N0 := Fr.nil n0
  show OE FrameEnd p e below s (own_Q5_0 Z a1 f g s0 s1 l0 l1 k_f k_g h0 n0) ({ frames := 0, cells := 0, slots := 0, locals := 0 } : Room).cells ({ frames := 0, cells := 0, slots := 0, locals := 0 } : Room).slots s₁ (entryFrame m #[(.ref a1), (.int (0 : Int32))] 2)
  rw [own_ef_own_rm5_0]
  show OE _ p e below s _ _ _ s₁ (mkF m 0 #[.val (.ref a1), .val (.int (0 : Int32))] [])
  refine OE.aloadN X0 hx hby own_d5_0 rfl rfl ?_
  obtain ⟨T1, X1, e1, st1⟩ := getF X0 hx hZ hown (host := "") (Or.inl (hw _ (List.mem_of_getElem? (i := 11) rfl))) Via.refl e0 F_sums_a1 (g := (mkF m 1 #[.val (.ref a1), .val (.int (0 : Int32))] [(.ref a1)])) rfl rfl (hb hby own_d5_1)
  refine OE.of st1 ?_
  show OE _ p e below s _ _ _ T1 (mkF m 4 #[.val (.ref a1), .val (.int (0 : Int32))] [(.ref f)])
  refine OE.iloadN X1 hx hby own_d5_4 rfl ?_
  have Vo2 := V_f
  obtain ⟨cl2, Ar2, -, Sz2, Nz2, Hz2, Gz2⟩ := Vo2
  have hin2 : ¬ ((0 : Int32) < 0 ∨ cl2.slots.size ≤ ((0 : Int32)).toNatClampNeg) := inb_of Sz2 ⟨by decide, by decide⟩
  have hat2 : cl2.slots[((0 : Int32)).toNatClampNeg]? = some (.double s0) := Has.at Hz2 hin2 rfl
  refine OE.of (X1.daload hx (j := (0 : Int32)) (v := (.double s0)) (by rw [e1]; exact Ar2.1) (State.isArrayOf_alike hZ.alike Ar2.2.1) Ar2.2.2 hin2 hat2 (g := (mkF m 5 #[.val (.ref a1), .val (.int (0 : Int32))] [(.int (0 : Int32)), (.ref f)])) rfl rfl (hb hby own_d5_5)) ?_
  show OE _ p e below s _ _ _ T1 (mkF m 6 #[.val (.ref a1), .val (.int (0 : Int32))] [(.double s0)])
  refine OE.aloadN X1 hx hby own_d5_6 rfl rfl ?_
  obtain ⟨T3, X3, e3, st3⟩ := getF X1 hx hZ hown (host := "") (Or.inl (hw _ (List.mem_of_getElem? (i := 13) rfl))) Via.refl e1 F_lost_a1 (g := (mkF m 7 #[.val (.ref a1), .val (.int (0 : Int32))] [(.ref a1), (.double s0)])) rfl rfl (hb hby own_d5_7)
  refine OE.of st3 ?_
  show OE _ p e below s _ _ _ T3 (mkF m 10 #[.val (.ref a1), .val (.int (0 : Int32))] [(.ref g), (.double s0)])
  refine OE.iloadN X3 hx hby own_d5_10 rfl ?_
  have Vo4 := V_g
  obtain ⟨cl4, Ar4, -, Sz4, Nz4, Hz4, Gz4⟩ := Vo4
  have hin4 : ¬ ((0 : Int32) < 0 ∨ cl4.slots.size ≤ ((0 : Int32)).toNatClampNeg) := inb_of Sz4 ⟨by decide, by decide⟩
  have hat4 : cl4.slots[((0 : Int32)).toNatClampNeg]? = some (.double l0) := Has.at Hz4 hin4 rfl
  refine OE.of (X3.daload hx (j := (0 : Int32)) (v := (.double l0)) (by rw [e3]; exact Ar4.1) (State.isArrayOf_alike hZ.alike Ar4.2.1) Ar4.2.2 hin4 hat4 (g := (mkF m 11 #[.val (.ref a1), .val (.int (0 : Int32))] [(.int (0 : Int32)), (.ref g), (.double s0)])) rfl rfl (hb hby own_d5_11)) ?_
  show OE _ p e below s _ _ _ T3 (mkF m 12 #[.val (.ref a1), .val (.int (0 : Int32))] [(.double l0), (.double s0)])
  refine OE.dadd X3 hx hby own_d5_12 nn ?_
  refine OE.retD X3 hx Bd.returns Bd.notSynchronized (hb hby own_d5_13) (by decide) (by decide) ?_
  rw [e3]
  exact ⟨rfl, N0, rfl⟩
def own_Q3_1 (Z : State) (a1 : Addr) (x3 : UInt64) (f : Addr) (g : Addr) (s0 : UInt64) (s1 : UInt64) (l0 : UInt64) (l1 : UInt64) (k_f : ClassId) (k_g : ClassId) (h0 : Heap) (n0 : Nat) (v : Option Value) (h : Heap) (L : List Loc) : Prop := ∃ sn : UInt64, ∃ ln : UInt64, v = none ∧ Fr n0 L ∧ Keep h0 h [f, g] ∧ Fld Z h a1 "com/example/archerfish/archerfish/rank/CompensatedSums" "sums" "[D" (.ref f) ∧ Fld Z h a1 "com/example/archerfish/archerfish/rank/CompensatedSums" "lost" "[D" (.ref g) ∧ Arv Z h f k_f .double (2 : Int32) [(.double s0), (.double sn)] (.double 0) ∧ Arv Z h g k_g .double (2 : Int32) [(.double l0), (.double ln)] (.double 0) ∧ (sn = (FP.dadd s1 x3)) ∧ (ln = (own_lost s1 l1 x3))
theorem own_ef_own_rm3_1 (m : MethodId) (a1 : Addr) (x3 : UInt64) : entryFrame m #[(.ref a1), (.int (1 : Int32)), (.double x3)] 6 = mkF m 0 #[.val (.ref a1), .val (.int (1 : Int32)), .val (.double x3), .second, .unset, .unset] [] := by first | (simp [entryFrame, mkF, argsToLocals, Value.category]; done) | rfl
set_option maxRecDepth 65536 in
set_option maxHeartbeats 40000000 in
theorem own_rm3_1 (l : Launch) (Z : State) (a0 : Array Value) (hw : ∀ d ∈ tables_1, d.before a0 Z = true) (ws : List Jvm.Cond) (a1 : Addr) (x3 : UInt64) (f : Addr) (g : Addr) (s0 : UInt64) (s1 : UInt64) (l0 : UInt64) (l1 : UInt64) (k_f : ClassId) (k_g : ClassId) (h0 : Heap) (n0 : Nat) (Z0 : n0 ≤ h0.size) (F_sums_a1 : Fld Z h0 a1 "com/example/archerfish/archerfish/rank/CompensatedSums" "sums" "[D" (.ref f)) (F_lost_a1 : Fld Z h0 a1 "com/example/archerfish/archerfish/rank/CompensatedSums" "lost" "[D" (.ref g)) (V_f : Arv Z h0 f k_f .double (2 : Int32) [(.double s0), (.double s1)] (.double 0)) (V_g : Arv Z h0 g k_g .double (2 : Int32) [(.double l0), (.double l1)] (.double 0)) (g_f : n0 ≤ f) (g_g : n0 ≤ g) (ne_f_a1 : f ≠ a1) (ne_g_a1 : g ≠ a1) (ne_f_g : f ≠ g) (ok : own_ok s1 l1 x3) :
    MetFree l (⟨"com/example/archerfish/archerfish/rank/CompensatedSums", "add", "(ID)V"⟩ : MethodName) (head1 (Jvm.Cond.code (⟨"com/example/archerfish/archerfish/rank/CompensatedSums", "add", "(ID)V"⟩ : MethodName) prog_84_method_2_code 6 none :: ws) ({ frames := 1, cells := 0, slots := 0, locals := 15 } : Room)) (fun a U => a = #[(.ref a1), (.int (1 : Int32)), (.double x3)] ∧ Z.Warmed39 U.vm ∧ U.heap = h0) (fun _ _ _ _ _ => True) (fun _ U o U' => ∃ v L, o = .returned v ∧ own_Q3_1 Z a1 x3 f g s0 s1 l0 l1 k_f k_g h0 n0 v U'.heap L ∧ FrameEnd U o U' L ({ frames := 1, cells := 0, slots := 0, locals := 15 } : Room).cells ({ frames := 1, cells := 0, slots := 0, locals := 15 } : Room).slots) := by
  refine MetFree.of_bodySF (plainFor_of_name own_pn0) hisR ?_
  intro p e s m args below meth c s₁ Bd hml0 hP hK
  obtain ⟨rfl, hZ, hh⟩ := hP
  have hx := Bd.exec
  have hby := Bd.bytes
  have hml : c.maxLocals = 6 := hml0
  have hown : s.vm.findClass "com/example/archerfish/archerfish/rank/CompensatedSums" = some m.cls := findClass_of_methodNamed Bd.named
  have hnm := (name_of_methodNamed Bd.named Bd.method).1
  have X0 : Stand p l e ({ frames := 1, cells := 0, slots := 0, locals := 15 } : Room) s m #[(.ref a1), (.int (1 : Int32)), (.double x3)] below meth c s₁ [] 0 0 := Stand.of_body Bd
  have e0 : s₁.heap = h0 := by rw [← hh, Bd.state]; rfl
  have N0 := Fr.nil n0
  show OE FrameEnd p e below s (own_Q3_1 Z a1 x3 f g s0 s1 l0 l1 k_f k_g h0 n0) ({ frames := 1, cells := 0, slots := 0, locals := 15 } : Room).cells ({ frames := 1, cells := 0, slots := 0, locals := 15 } : Room).slots s₁ (entryFrame m #[(.ref a1), (.int (1 : Int32)), (.double x3)] 6)
  rw [own_ef_own_rm3_1]
  show OE _ p e below s _ _ _ s₁ (mkF m 0 #[.val (.ref a1), .val (.int (1 : Int32)), .val (.double x3), .second, .unset, .unset] [])
  refine OE.aloadN X0 hx hby own_d3_0 rfl rfl ?_
  obtain ⟨T1, X1, e1, st1⟩ := getF X0 hx hZ hown (host := "") (Or.inl (hw _ (List.mem_of_getElem? (i := 11) rfl))) Via.refl e0 F_sums_a1 (g := (mkF m 1 #[.val (.ref a1), .val (.int (1 : Int32)), .val (.double x3), .second, .unset, .unset] [(.ref a1)])) rfl rfl (hb hby own_d3_1)
  refine OE.of st1 ?_
  show OE _ p e below s _ _ _ T1 (mkF m 4 #[.val (.ref a1), .val (.int (1 : Int32)), .val (.double x3), .second, .unset, .unset] [(.ref f)])
  refine OE.iloadN X1 hx hby own_d3_4 rfl ?_
  have Vo2 := V_f
  obtain ⟨cl2, Ar2, -, Sz2, Nz2, Hz2, Gz2⟩ := Vo2
  have hin2 : ¬ ((1 : Int32) < 0 ∨ cl2.slots.size ≤ ((1 : Int32)).toNatClampNeg) := inb_of Sz2 ⟨by decide, by decide⟩
  have hat2 : cl2.slots[((1 : Int32)).toNatClampNeg]? = some (.double s1) := Has.at Hz2 hin2 rfl
  refine OE.of (X1.daload hx (j := (1 : Int32)) (v := (.double s1)) (by rw [e1]; exact Ar2.1) (State.isArrayOf_alike hZ.alike Ar2.2.1) Ar2.2.2 hin2 hat2 (g := (mkF m 5 #[.val (.ref a1), .val (.int (1 : Int32)), .val (.double x3), .second, .unset, .unset] [(.int (1 : Int32)), (.ref f)])) rfl rfl (hb hby own_d3_5)) ?_
  show OE _ p e below s _ _ _ T1 (mkF m 6 #[.val (.ref a1), .val (.int (1 : Int32)), .val (.double x3), .second, .unset, .unset] [(.double s1)])
  refine OE.dloadN X1 hx hby own_d3_6 rfl ?_
  refine OE.dadd X1 hx hby own_d3_7 ok.2.2.1 ?_
  refine OE.dstore X1 hx hby own_d3_8 (l' := #[.val (.ref a1), .val (.int (1 : Int32)), .val (.double x3), .second, .val (.double (FP.dadd s1 x3)), .second]) rfl ?_
  refine OE.aloadN X1 hx hby own_d3_10 rfl rfl ?_
  obtain ⟨T3, X3, e3, st3⟩ := getF X1 hx hZ hown (host := "") (Or.inl (hw _ (List.mem_of_getElem? (i := 11) rfl))) Via.refl e1 F_sums_a1 (g := (mkF m 11 #[.val (.ref a1), .val (.int (1 : Int32)), .val (.double x3), .second, .val (.double (FP.dadd s1 x3)), .second] [(.ref a1)])) rfl rfl (hb hby own_d3_11)
  refine OE.of st3 ?_
  show OE _ p e below s _ _ _ T3 (mkF m 14 #[.val (.ref a1), .val (.int (1 : Int32)), .val (.double x3), .second, .val (.double (FP.dadd s1 x3)), .second] [(.ref f)])
  refine OE.iloadN X3 hx hby own_d3_14 rfl ?_
  have Vo4 := V_f
  obtain ⟨cl4, Ar4, -, Sz4, Nz4, Hz4, Gz4⟩ := Vo4
  have hin4 : ¬ ((1 : Int32) < 0 ∨ cl4.slots.size ≤ ((1 : Int32)).toNatClampNeg) := inb_of Sz4 ⟨by decide, by decide⟩
  have hat4 : cl4.slots[((1 : Int32)).toNatClampNeg]? = some (.double s1) := Has.at Hz4 hin4 rfl
  refine OE.of (X3.daload hx (j := (1 : Int32)) (v := (.double s1)) (by rw [e3]; exact Ar4.1) (State.isArrayOf_alike hZ.alike Ar4.2.1) Ar4.2.2 hin4 hat4 (g := (mkF m 15 #[.val (.ref a1), .val (.int (1 : Int32)), .val (.double x3), .second, .val (.double (FP.dadd s1 x3)), .second] [(.int (1 : Int32)), (.ref f)])) rfl rfl (hb hby own_d3_15)) ?_
  show OE _ p e below s _ _ _ T3 (mkF m 16 #[.val (.ref a1), .val (.int (1 : Int32)), .val (.double x3), .second, .val (.double (FP.dadd s1 x3)), .second] [(.double s1)])
  obtain ⟨T5, X5, e5, st5⟩ := natS X3 hx hZ (y := Jvm.Free.Fl.Abs.absDN) hown (hw _ (List.mem_of_getElem? (i := 20) rfl)) (hw _ (List.mem_of_getElem? (i := 21) rfl)) (hw _ (List.mem_of_getElem? (i := 22) rfl)) (hw _ (List.mem_of_getElem? (i := 23) rfl)) (by decide) e3 (W := 0) (F := fun a' => a' = #[.double s1] ∧ Jvm.Free.Fl.NoNaN64 s1) (val := .double (s1 &&& 0x7fffffffffffffff)) (val' := .double (s1 &&& 0x7fffffffffffffff)) (fun c4 => Jvm.Free.Fl.Abs.absD_pays s1 c4 (by decide) (by decide)) (g := (mkF m 16 #[.val (.ref a1), .val (.int (1 : Int32)), .val (.double x3), .second, .val (.double (FP.dadd s1 x3)), .second] [(.double s1)])) rfl (by rw [hml]; rfl) (argsL := [.double s1]) (rest := []) (lenOf own_pd0 rfl) rfl (by show 2 * 0 + _ ≤ _; exact Nat.le_of_eq rfl) (hb hby own_d3_16) (by decide) (by decide) ⟨rfl, ok.1⟩ rfl
  refine OE.of st5 ?_
  show OE _ p e below s _ _ _ T5 (mkF m 19 #[.val (.ref a1), .val (.int (1 : Int32)), .val (.double x3), .second, .val (.double (FP.dadd s1 x3)), .second] [(.double (s1 &&& 0x7fffffffffffffff))])
  refine OE.dloadN X5 hx hby own_d3_19 rfl ?_
  obtain ⟨T6, X6, e6, st6⟩ := natS X5 hx hZ (y := Jvm.Free.Fl.Abs.absDN) hown (hw _ (List.mem_of_getElem? (i := 20) rfl)) (hw _ (List.mem_of_getElem? (i := 21) rfl)) (hw _ (List.mem_of_getElem? (i := 22) rfl)) (hw _ (List.mem_of_getElem? (i := 23) rfl)) (by decide) e5 (W := 2) (F := fun a' => a' = #[.double x3] ∧ Jvm.Free.Fl.NoNaN64 x3) (val := .double (x3 &&& 0x7fffffffffffffff)) (val' := .double (x3 &&& 0x7fffffffffffffff)) (fun c4 => Jvm.Free.Fl.Abs.absD_pays x3 c4 (by decide) (by decide)) (g := (mkF m 20 #[.val (.ref a1), .val (.int (1 : Int32)), .val (.double x3), .second, .val (.double (FP.dadd s1 x3)), .second] [(.double x3), (.double (s1 &&& 0x7fffffffffffffff))])) rfl (by rw [hml]; rfl) (argsL := [.double x3]) (rest := [(.double (s1 &&& 0x7fffffffffffffff))]) (lenOf own_pd0 rfl) rfl (by show 2 * 0 + _ ≤ _; exact Nat.le_of_eq rfl) (hb hby own_d3_20) (by decide) (by decide) ⟨rfl, ok.2.1⟩ rfl
  refine OE.of st6 ?_
  show OE _ p e below s _ _ _ T6 (mkF m 23 #[.val (.ref a1), .val (.int (1 : Int32)), .val (.double x3), .second, .val (.double (FP.dadd s1 x3)), .second] [(.double (x3 &&& 0x7fffffffffffffff)), (.double (s1 &&& 0x7fffffffffffffff))])
  refine OE.dcmp X6 hx hby own_d3_23 ?_
  by_cases hc24 : (cmpValue (FP.dcmp (s1 &&& 0x7fffffffffffffff) (x3 &&& 0x7fffffffffffffff)) .l) < (0 : Int32)
  · skip
    refine OE.ifYes X6 hx hby (pc' := 50) own_d3_24 (tlt hc24).1 (h := ?_)
    refine OE.aloadN X6 hx hby own_d3_50 rfl rfl ?_
    obtain ⟨T7, X7, e7, st7⟩ := getF X6 hx hZ hown (host := "") (Or.inl (hw _ (List.mem_of_getElem? (i := 13) rfl))) Via.refl e6 F_lost_a1 (g := (mkF m 51 #[.val (.ref a1), .val (.int (1 : Int32)), .val (.double x3), .second, .val (.double (FP.dadd s1 x3)), .second] [(.ref a1)])) rfl rfl (hb hby own_d3_51)
    refine OE.of st7 ?_
    show OE _ p e below s _ _ _ T7 (mkF m 54 #[.val (.ref a1), .val (.int (1 : Int32)), .val (.double x3), .second, .val (.double (FP.dadd s1 x3)), .second] [(.ref g)])
    refine OE.iloadN X7 hx hby own_d3_54 rfl ?_
    refine OE.dup2 X7 hx hby own_d3_55 rfl rfl ?_
    have Vo8 := V_g
    obtain ⟨cl8, Ar8, -, Sz8, Nz8, Hz8, Gz8⟩ := Vo8
    have hin8 : ¬ ((1 : Int32) < 0 ∨ cl8.slots.size ≤ ((1 : Int32)).toNatClampNeg) := inb_of Sz8 ⟨by decide, by decide⟩
    have hat8 : cl8.slots[((1 : Int32)).toNatClampNeg]? = some (.double l1) := Has.at Hz8 hin8 rfl
    refine OE.of (X7.daload hx (j := (1 : Int32)) (v := (.double l1)) (by rw [e7]; exact Ar8.1) (State.isArrayOf_alike hZ.alike Ar8.2.1) Ar8.2.2 hin8 hat8 (g := (mkF m 56 #[.val (.ref a1), .val (.int (1 : Int32)), .val (.double x3), .second, .val (.double (FP.dadd s1 x3)), .second] [(.int (1 : Int32)), (.ref g), (.int (1 : Int32)), (.ref g)])) rfl rfl (hb hby own_d3_56)) ?_
    show OE _ p e below s _ _ _ T7 (mkF m 57 #[.val (.ref a1), .val (.int (1 : Int32)), .val (.double x3), .second, .val (.double (FP.dadd s1 x3)), .second] [(.double l1), (.int (1 : Int32)), (.ref g)])
    refine OE.dloadN X7 hx hby own_d3_57 rfl ?_
    refine OE.dload X7 hx hby own_d3_58 rfl ?_
    refine OE.dsub X7 hx hby own_d3_60 ok.2.2.2.1 ?_
    refine OE.aloadN X7 hx hby own_d3_61 rfl rfl ?_
    obtain ⟨T9, X9, e9, st9⟩ := getF X7 hx hZ hown (host := "") (Or.inl (hw _ (List.mem_of_getElem? (i := 11) rfl))) Via.refl e7 F_sums_a1 (g := (mkF m 62 #[.val (.ref a1), .val (.int (1 : Int32)), .val (.double x3), .second, .val (.double (FP.dadd s1 x3)), .second] [(.ref a1), (.double (FP.dsub x3 (FP.dadd s1 x3))), (.double l1), (.int (1 : Int32)), (.ref g)])) rfl rfl (hb hby own_d3_62)
    refine OE.of st9 ?_
    show OE _ p e below s _ _ _ T9 (mkF m 65 #[.val (.ref a1), .val (.int (1 : Int32)), .val (.double x3), .second, .val (.double (FP.dadd s1 x3)), .second] [(.ref f), (.double (FP.dsub x3 (FP.dadd s1 x3))), (.double l1), (.int (1 : Int32)), (.ref g)])
    refine OE.iloadN X9 hx hby own_d3_65 rfl ?_
    have Vo10 := V_f
    obtain ⟨cl10, Ar10, -, Sz10, Nz10, Hz10, Gz10⟩ := Vo10
    have hin10 : ¬ ((1 : Int32) < 0 ∨ cl10.slots.size ≤ ((1 : Int32)).toNatClampNeg) := inb_of Sz10 ⟨by decide, by decide⟩
    have hat10 : cl10.slots[((1 : Int32)).toNatClampNeg]? = some (.double s1) := Has.at Hz10 hin10 rfl
    refine OE.of (X9.daload hx (j := (1 : Int32)) (v := (.double s1)) (by rw [e9]; exact Ar10.1) (State.isArrayOf_alike hZ.alike Ar10.2.1) Ar10.2.2 hin10 hat10 (g := (mkF m 66 #[.val (.ref a1), .val (.int (1 : Int32)), .val (.double x3), .second, .val (.double (FP.dadd s1 x3)), .second] [(.int (1 : Int32)), (.ref f), (.double (FP.dsub x3 (FP.dadd s1 x3))), (.double l1), (.int (1 : Int32)), (.ref g)])) rfl rfl (hb hby own_d3_66)) ?_
    show OE _ p e below s _ _ _ T9 (mkF m 67 #[.val (.ref a1), .val (.int (1 : Int32)), .val (.double x3), .second, .val (.double (FP.dadd s1 x3)), .second] [(.double s1), (.double (FP.dsub x3 (FP.dadd s1 x3))), (.double l1), (.int (1 : Int32)), (.ref g)])
    refine OE.dadd X9 hx hby own_d3_67 ok.2.2.2.2.1 ?_
    refine OE.dadd X9 hx hby own_d3_68 ok.2.2.2.2.2.1 ?_
    rw [((by unfold own_lost; rw [if_pos hc24]) : (FP.dadd l1 (FP.dadd (FP.dsub x3 (FP.dadd s1 x3)) s1)) = (own_lost s1 l1 x3))]
    show OE _ p e below s _ _ _ T9 (mkF m 69 #[.val (.ref a1), .val (.int (1 : Int32)), .val (.double x3), .second, .val (.double (FP.dadd s1 x3)), .second] [(.double (own_lost s1 l1 x3)), (.int (1 : Int32)), (.ref g)])
    have Vo11 := V_g
    obtain ⟨cl11, Ar11, qz11, Sz11, Nz11, Hz11, Gz11⟩ := Vo11
    have hin11 : ¬ ((1 : Int32) < 0 ∨ cl11.slots.size ≤ ((1 : Int32)).toNatClampNeg) := inb_of Sz11 ⟨by decide, by decide⟩
    obtain ⟨T11, h11, X11, e11, W11, st11⟩ := stD X9 hx hZ e9 Ar11 (j := (1 : Int32)) hin11 (g := (mkF m 69 #[.val (.ref a1), .val (.int (1 : Int32)), .val (.double x3), .second, .val (.double (FP.dadd s1 x3)), .second] [(.double (own_lost s1 l1 x3)), (.int (1 : Int32)), (.ref g)])) rfl rfl (hb hby own_d3_69)
    refine OE.of st11 ?_
    have V11 : Arv Z h11 g k_g .double (2 : Int32) [(.double l0), (.double (own_lost s1 l1 x3))] (.double 0) := Arv.set Ar11 qz11 Sz11 Nz11 Hz11 Gz11 rfl W11 1 rfl (Nat.le_of_ble_eq_true rfl)
    have N11 := Fr.snoc X11 N0 g_g
    show OE _ p e below s _ _ _ T11 (mkF m 70 #[.val (.ref a1), .val (.int (1 : Int32)), .val (.double x3), .second, .val (.double (FP.dadd s1 x3)), .second] [])
    refine OE.aloadN X11 hx hby own_d3_70 rfl rfl ?_
    have f12 : Fld Z h11 a1 "com/example/archerfish/archerfish/rank/CompensatedSums" "sums" "[D" (.ref f) := (F_sums_a1.other W11 (Or.inl (Ne.symm ne_g_a1)))
    obtain ⟨T13, X13, e13, st13⟩ := getF X11 hx hZ hown (host := "") (Or.inl (hw _ (List.mem_of_getElem? (i := 11) rfl))) Via.refl e11 f12 (g := (mkF m 71 #[.val (.ref a1), .val (.int (1 : Int32)), .val (.double x3), .second, .val (.double (FP.dadd s1 x3)), .second] [(.ref a1)])) rfl rfl (hb hby own_d3_71)
    refine OE.of st13 ?_
    show OE _ p e below s _ _ _ T13 (mkF m 74 #[.val (.ref a1), .val (.int (1 : Int32)), .val (.double x3), .second, .val (.double (FP.dadd s1 x3)), .second] [(.ref f)])
    refine OE.iloadN X13 hx hby own_d3_74 rfl ?_
    refine OE.dload X13 hx hby own_d3_75 rfl ?_
    have f14 : Arv Z h11 f k_f .double (2 : Int32) [(.double s0), (.double s1)] (.double 0) := (V_f.other W11 ne_f_g)
    have Vo15 := f14
    obtain ⟨cl15, Ar15, qz15, Sz15, Nz15, Hz15, Gz15⟩ := Vo15
    have hin15 : ¬ ((1 : Int32) < 0 ∨ cl15.slots.size ≤ ((1 : Int32)).toNatClampNeg) := inb_of Sz15 ⟨by decide, by decide⟩
    obtain ⟨T15, h15, X15, e15, W15, st15⟩ := stD X13 hx hZ e13 Ar15 (j := (1 : Int32)) hin15 (g := (mkF m 77 #[.val (.ref a1), .val (.int (1 : Int32)), .val (.double x3), .second, .val (.double (FP.dadd s1 x3)), .second] [(.double (FP.dadd s1 x3)), (.int (1 : Int32)), (.ref f)])) rfl rfl (hb hby own_d3_77)
    refine OE.of st15 ?_
    have V15 : Arv Z h15 f k_f .double (2 : Int32) [(.double s0), (.double (FP.dadd s1 x3))] (.double 0) := Arv.set Ar15 qz15 Sz15 Nz15 Hz15 Gz15 rfl W15 1 rfl (Nat.le_of_ble_eq_true rfl)
    have N15 := Fr.snoc X15 N11 g_f
    show OE _ p e below s _ _ _ T15 (mkF m 78 #[.val (.ref a1), .val (.int (1 : Int32)), .val (.double x3), .second, .val (.double (FP.dadd s1 x3)), .second] [])
    refine OE.ret0 X15 hx Bd.returns Bd.notSynchronized (hb hby own_d3_78) (by decide) (by decide) ?_
    rw [e15]
    have K16 : Keep h0 h15 [f, g] := (Keep.wr (Keep.wr (Keep.refl h0 [f, g]) W11 (Or.inl (List.mem_of_getElem? (i := 1) rfl))) W15 (Or.inl (List.mem_of_getElem? (i := 0) rfl)))
    have f17 : Fld Z h15 a1 "com/example/archerfish/archerfish/rank/CompensatedSums" "sums" "[D" (.ref f) := (f12.other W15 (Or.inl (Ne.symm ne_f_a1)))
    have f18 : Fld Z h15 a1 "com/example/archerfish/archerfish/rank/CompensatedSums" "lost" "[D" (.ref g) := ((F_lost_a1.other W11 (Or.inl (Ne.symm ne_g_a1))).other W15 (Or.inl (Ne.symm ne_f_a1)))
    have f19 : Arv Z h15 g k_g .double (2 : Int32) [(.double l0), (.double (own_lost s1 l1 x3))] (.double 0) := (V11.other W15 (Ne.symm ne_f_g))
    exact ⟨(FP.dadd s1 x3), (own_lost s1 l1 x3), rfl, N15, K16, f17, f18, V15, f19, rfl, rfl⟩
  · skip
    refine OE.ifNo X6 hx hby own_d3_24 (flt hc24).1 ?_
    refine OE.aloadN X6 hx hby own_d3_27 rfl rfl ?_
    obtain ⟨T20, X20, e20, st20⟩ := getF X6 hx hZ hown (host := "") (Or.inl (hw _ (List.mem_of_getElem? (i := 13) rfl))) Via.refl e6 F_lost_a1 (g := (mkF m 28 #[.val (.ref a1), .val (.int (1 : Int32)), .val (.double x3), .second, .val (.double (FP.dadd s1 x3)), .second] [(.ref a1)])) rfl rfl (hb hby own_d3_28)
    refine OE.of st20 ?_
    show OE _ p e below s _ _ _ T20 (mkF m 31 #[.val (.ref a1), .val (.int (1 : Int32)), .val (.double x3), .second, .val (.double (FP.dadd s1 x3)), .second] [(.ref g)])
    refine OE.iloadN X20 hx hby own_d3_31 rfl ?_
    refine OE.dup2 X20 hx hby own_d3_32 rfl rfl ?_
    have Vo21 := V_g
    obtain ⟨cl21, Ar21, -, Sz21, Nz21, Hz21, Gz21⟩ := Vo21
    have hin21 : ¬ ((1 : Int32) < 0 ∨ cl21.slots.size ≤ ((1 : Int32)).toNatClampNeg) := inb_of Sz21 ⟨by decide, by decide⟩
    have hat21 : cl21.slots[((1 : Int32)).toNatClampNeg]? = some (.double l1) := Has.at Hz21 hin21 rfl
    refine OE.of (X20.daload hx (j := (1 : Int32)) (v := (.double l1)) (by rw [e20]; exact Ar21.1) (State.isArrayOf_alike hZ.alike Ar21.2.1) Ar21.2.2 hin21 hat21 (g := (mkF m 33 #[.val (.ref a1), .val (.int (1 : Int32)), .val (.double x3), .second, .val (.double (FP.dadd s1 x3)), .second] [(.int (1 : Int32)), (.ref g), (.int (1 : Int32)), (.ref g)])) rfl rfl (hb hby own_d3_33)) ?_
    show OE _ p e below s _ _ _ T20 (mkF m 34 #[.val (.ref a1), .val (.int (1 : Int32)), .val (.double x3), .second, .val (.double (FP.dadd s1 x3)), .second] [(.double l1), (.int (1 : Int32)), (.ref g)])
    refine OE.aloadN X20 hx hby own_d3_34 rfl rfl ?_
    obtain ⟨T22, X22, e22, st22⟩ := getF X20 hx hZ hown (host := "") (Or.inl (hw _ (List.mem_of_getElem? (i := 11) rfl))) Via.refl e20 F_sums_a1 (g := (mkF m 35 #[.val (.ref a1), .val (.int (1 : Int32)), .val (.double x3), .second, .val (.double (FP.dadd s1 x3)), .second] [(.ref a1), (.double l1), (.int (1 : Int32)), (.ref g)])) rfl rfl (hb hby own_d3_35)
    refine OE.of st22 ?_
    show OE _ p e below s _ _ _ T22 (mkF m 38 #[.val (.ref a1), .val (.int (1 : Int32)), .val (.double x3), .second, .val (.double (FP.dadd s1 x3)), .second] [(.ref f), (.double l1), (.int (1 : Int32)), (.ref g)])
    refine OE.iloadN X22 hx hby own_d3_38 rfl ?_
    have Vo23 := V_f
    obtain ⟨cl23, Ar23, -, Sz23, Nz23, Hz23, Gz23⟩ := Vo23
    have hin23 : ¬ ((1 : Int32) < 0 ∨ cl23.slots.size ≤ ((1 : Int32)).toNatClampNeg) := inb_of Sz23 ⟨by decide, by decide⟩
    have hat23 : cl23.slots[((1 : Int32)).toNatClampNeg]? = some (.double s1) := Has.at Hz23 hin23 rfl
    refine OE.of (X22.daload hx (j := (1 : Int32)) (v := (.double s1)) (by rw [e22]; exact Ar23.1) (State.isArrayOf_alike hZ.alike Ar23.2.1) Ar23.2.2 hin23 hat23 (g := (mkF m 39 #[.val (.ref a1), .val (.int (1 : Int32)), .val (.double x3), .second, .val (.double (FP.dadd s1 x3)), .second] [(.int (1 : Int32)), (.ref f), (.double l1), (.int (1 : Int32)), (.ref g)])) rfl rfl (hb hby own_d3_39)) ?_
    show OE _ p e below s _ _ _ T22 (mkF m 40 #[.val (.ref a1), .val (.int (1 : Int32)), .val (.double x3), .second, .val (.double (FP.dadd s1 x3)), .second] [(.double s1), (.double l1), (.int (1 : Int32)), (.ref g)])
    refine OE.dload X22 hx hby own_d3_40 rfl ?_
    refine OE.dsub X22 hx hby own_d3_42 ok.2.2.2.2.2.2.1 ?_
    refine OE.dloadN X22 hx hby own_d3_43 rfl ?_
    refine OE.dadd X22 hx hby own_d3_44 ok.2.2.2.2.2.2.2.1 ?_
    refine OE.dadd X22 hx hby own_d3_45 ok.2.2.2.2.2.2.2.2 ?_
    rw [((by unfold own_lost; rw [if_neg hc24]) : (FP.dadd l1 (FP.dadd (FP.dsub s1 (FP.dadd s1 x3)) x3)) = (own_lost s1 l1 x3))]
    show OE _ p e below s _ _ _ T22 (mkF m 46 #[.val (.ref a1), .val (.int (1 : Int32)), .val (.double x3), .second, .val (.double (FP.dadd s1 x3)), .second] [(.double (own_lost s1 l1 x3)), (.int (1 : Int32)), (.ref g)])
    have Vo24 := V_g
    obtain ⟨cl24, Ar24, qz24, Sz24, Nz24, Hz24, Gz24⟩ := Vo24
    have hin24 : ¬ ((1 : Int32) < 0 ∨ cl24.slots.size ≤ ((1 : Int32)).toNatClampNeg) := inb_of Sz24 ⟨by decide, by decide⟩
    obtain ⟨T24, h24, X24, e24, W24, st24⟩ := stD X22 hx hZ e22 Ar24 (j := (1 : Int32)) hin24 (g := (mkF m 46 #[.val (.ref a1), .val (.int (1 : Int32)), .val (.double x3), .second, .val (.double (FP.dadd s1 x3)), .second] [(.double (own_lost s1 l1 x3)), (.int (1 : Int32)), (.ref g)])) rfl rfl (hb hby own_d3_46)
    refine OE.of st24 ?_
    have V24 : Arv Z h24 g k_g .double (2 : Int32) [(.double l0), (.double (own_lost s1 l1 x3))] (.double 0) := Arv.set Ar24 qz24 Sz24 Nz24 Hz24 Gz24 rfl W24 1 rfl (Nat.le_of_ble_eq_true rfl)
    have N24 := Fr.snoc X24 N0 g_g
    show OE _ p e below s _ _ _ T24 (mkF m 47 #[.val (.ref a1), .val (.int (1 : Int32)), .val (.double x3), .second, .val (.double (FP.dadd s1 x3)), .second] [])
    refine OE.goto X24 hx hby (pc' := 70) own_d3_47 (h := ?_)
    refine OE.aloadN X24 hx hby own_d3_70 rfl rfl ?_
    have f25 : Fld Z h24 a1 "com/example/archerfish/archerfish/rank/CompensatedSums" "sums" "[D" (.ref f) := (F_sums_a1.other W24 (Or.inl (Ne.symm ne_g_a1)))
    obtain ⟨T26, X26, e26, st26⟩ := getF X24 hx hZ hown (host := "") (Or.inl (hw _ (List.mem_of_getElem? (i := 11) rfl))) Via.refl e24 f25 (g := (mkF m 71 #[.val (.ref a1), .val (.int (1 : Int32)), .val (.double x3), .second, .val (.double (FP.dadd s1 x3)), .second] [(.ref a1)])) rfl rfl (hb hby own_d3_71)
    refine OE.of st26 ?_
    show OE _ p e below s _ _ _ T26 (mkF m 74 #[.val (.ref a1), .val (.int (1 : Int32)), .val (.double x3), .second, .val (.double (FP.dadd s1 x3)), .second] [(.ref f)])
    refine OE.iloadN X26 hx hby own_d3_74 rfl ?_
    refine OE.dload X26 hx hby own_d3_75 rfl ?_
    have f27 : Arv Z h24 f k_f .double (2 : Int32) [(.double s0), (.double s1)] (.double 0) := (V_f.other W24 ne_f_g)
    have Vo28 := f27
    obtain ⟨cl28, Ar28, qz28, Sz28, Nz28, Hz28, Gz28⟩ := Vo28
    have hin28 : ¬ ((1 : Int32) < 0 ∨ cl28.slots.size ≤ ((1 : Int32)).toNatClampNeg) := inb_of Sz28 ⟨by decide, by decide⟩
    obtain ⟨T28, h28, X28, e28, W28, st28⟩ := stD X26 hx hZ e26 Ar28 (j := (1 : Int32)) hin28 (g := (mkF m 77 #[.val (.ref a1), .val (.int (1 : Int32)), .val (.double x3), .second, .val (.double (FP.dadd s1 x3)), .second] [(.double (FP.dadd s1 x3)), (.int (1 : Int32)), (.ref f)])) rfl rfl (hb hby own_d3_77)
    refine OE.of st28 ?_
    have V28 : Arv Z h28 f k_f .double (2 : Int32) [(.double s0), (.double (FP.dadd s1 x3))] (.double 0) := Arv.set Ar28 qz28 Sz28 Nz28 Hz28 Gz28 rfl W28 1 rfl (Nat.le_of_ble_eq_true rfl)
    have N28 := Fr.snoc X28 N24 g_f
    show OE _ p e below s _ _ _ T28 (mkF m 78 #[.val (.ref a1), .val (.int (1 : Int32)), .val (.double x3), .second, .val (.double (FP.dadd s1 x3)), .second] [])
    refine OE.ret0 X28 hx Bd.returns Bd.notSynchronized (hb hby own_d3_78) (by decide) (by decide) ?_
    rw [e28]
    have K29 : Keep h0 h28 [f, g] := (Keep.wr (Keep.wr (Keep.refl h0 [f, g]) W24 (Or.inl (List.mem_of_getElem? (i := 1) rfl))) W28 (Or.inl (List.mem_of_getElem? (i := 0) rfl)))
    have f30 : Fld Z h28 a1 "com/example/archerfish/archerfish/rank/CompensatedSums" "sums" "[D" (.ref f) := (f25.other W28 (Or.inl (Ne.symm ne_f_a1)))
    have f31 : Fld Z h28 a1 "com/example/archerfish/archerfish/rank/CompensatedSums" "lost" "[D" (.ref g) := ((F_lost_a1.other W24 (Or.inl (Ne.symm ne_g_a1))).other W28 (Or.inl (Ne.symm ne_f_a1)))
    have f32 : Arv Z h28 g k_g .double (2 : Int32) [(.double l0), (.double (own_lost s1 l1 x3))] (.double 0) := (V24.other W28 (Ne.symm ne_f_g))
    exact ⟨(FP.dadd s1 x3), (own_lost s1 l1 x3), rfl, N28, K29, f30, f31, V28, f32, rfl, rfl⟩
def own_Q5_1 (Z : State) (a1 : Addr) (f : Addr) (g : Addr) (s0 : UInt64) (s1 : UInt64) (l0 : UInt64) (l1 : UInt64) (k_f : ClassId) (k_g : ClassId) (h0 : Heap) (n0 : Nat) (v : Option Value) (h : Heap) (L : List Loc) : Prop := v = some (.double (FP.dadd s1 l1)) ∧ Fr n0 L ∧ h = h0
theorem own_ef_own_rm5_1 (m : MethodId) (a1 : Addr) : entryFrame m #[(.ref a1), (.int (1 : Int32))] 2 = mkF m 0 #[.val (.ref a1), .val (.int (1 : Int32))] [] := by first | (simp [entryFrame, mkF, argsToLocals, Value.category]; done) | rfl
set_option maxRecDepth 65536 in
set_option maxHeartbeats 40000000 in
theorem own_rm5_1 (l : Launch) (Z : State) (a0 : Array Value) (hw : ∀ d ∈ tables_1, d.before a0 Z = true) (ws : List Jvm.Cond) (a1 : Addr) (f : Addr) (g : Addr) (s0 : UInt64) (s1 : UInt64) (l0 : UInt64) (l1 : UInt64) (k_f : ClassId) (k_g : ClassId) (h0 : Heap) (n0 : Nat) (Z0 : n0 ≤ h0.size) (F_sums_a1 : Fld Z h0 a1 "com/example/archerfish/archerfish/rank/CompensatedSums" "sums" "[D" (.ref f)) (F_lost_a1 : Fld Z h0 a1 "com/example/archerfish/archerfish/rank/CompensatedSums" "lost" "[D" (.ref g)) (V_f : Arv Z h0 f k_f .double (2 : Int32) [(.double s0), (.double s1)] (.double 0)) (V_g : Arv Z h0 g k_g .double (2 : Int32) [(.double l0), (.double l1)] (.double 0)) (nn : Jvm.Free.Fl.NoNaN64 (FP.dadd s1 l1)) :
    MetFree l (⟨"com/example/archerfish/archerfish/rank/CompensatedSums", "total", "(I)D"⟩ : MethodName) (head1 (Jvm.Cond.code (⟨"com/example/archerfish/archerfish/rank/CompensatedSums", "total", "(I)D"⟩ : MethodName) prog_84_method_3_code 2 (some .double) :: ws) ({ frames := 0, cells := 0, slots := 0, locals := 0 } : Room)) (fun a U => a = #[(.ref a1), (.int (1 : Int32))] ∧ Z.Warmed39 U.vm ∧ U.heap = h0) (fun _ _ _ _ _ => True) (fun _ U o U' => ∃ v L, o = .returned v ∧ own_Q5_1 Z a1 f g s0 s1 l0 l1 k_f k_g h0 n0 v U'.heap L ∧ FrameEnd U o U' L ({ frames := 0, cells := 0, slots := 0, locals := 0 } : Room).cells ({ frames := 0, cells := 0, slots := 0, locals := 0 } : Room).slots) := by
  refine MetFree.of_bodySF (plainFor_of_name own_pn0) hisR ?_
  intro p e s m args below meth c s₁ Bd hml0 hP hK
  obtain ⟨rfl, hZ, hh⟩ := hP
  have hx := Bd.exec
  have hby := Bd.bytes
  have hml : c.maxLocals = 2 := hml0
  have hown : s.vm.findClass "com/example/archerfish/archerfish/rank/CompensatedSums" = some m.cls := findClass_of_methodNamed Bd.named
  have hnm := (name_of_methodNamed Bd.named Bd.method).1
  have X0 : Stand p l e ({ frames := 0, cells := 0, slots := 0, locals := 0 } : Room) s m #[(.ref a1), (.int (1 : Int32))] below meth c s₁ [] 0 0 := Stand.of_body Bd
  have e0 : s₁.heap = h0 := by rw [← hh, Bd.state]; rfl
  have N0 := Fr.nil n0
  show OE FrameEnd p e below s (own_Q5_1 Z a1 f g s0 s1 l0 l1 k_f k_g h0 n0) ({ frames := 0, cells := 0, slots := 0, locals := 0 } : Room).cells ({ frames := 0, cells := 0, slots := 0, locals := 0 } : Room).slots s₁ (entryFrame m #[(.ref a1), (.int (1 : Int32))] 2)
  rw [own_ef_own_rm5_1]
  show OE _ p e below s _ _ _ s₁ (mkF m 0 #[.val (.ref a1), .val (.int (1 : Int32))] [])
  refine OE.aloadN X0 hx hby own_d5_0 rfl rfl ?_
  obtain ⟨T1, X1, e1, st1⟩ := getF X0 hx hZ hown (host := "") (Or.inl (hw _ (List.mem_of_getElem? (i := 11) rfl))) Via.refl e0 F_sums_a1 (g := (mkF m 1 #[.val (.ref a1), .val (.int (1 : Int32))] [(.ref a1)])) rfl rfl (hb hby own_d5_1)
  refine OE.of st1 ?_
  show OE _ p e below s _ _ _ T1 (mkF m 4 #[.val (.ref a1), .val (.int (1 : Int32))] [(.ref f)])
  refine OE.iloadN X1 hx hby own_d5_4 rfl ?_
  have Vo2 := V_f
  obtain ⟨cl2, Ar2, -, Sz2, Nz2, Hz2, Gz2⟩ := Vo2
  have hin2 : ¬ ((1 : Int32) < 0 ∨ cl2.slots.size ≤ ((1 : Int32)).toNatClampNeg) := inb_of Sz2 ⟨by decide, by decide⟩
  have hat2 : cl2.slots[((1 : Int32)).toNatClampNeg]? = some (.double s1) := Has.at Hz2 hin2 rfl
  refine OE.of (X1.daload hx (j := (1 : Int32)) (v := (.double s1)) (by rw [e1]; exact Ar2.1) (State.isArrayOf_alike hZ.alike Ar2.2.1) Ar2.2.2 hin2 hat2 (g := (mkF m 5 #[.val (.ref a1), .val (.int (1 : Int32))] [(.int (1 : Int32)), (.ref f)])) rfl rfl (hb hby own_d5_5)) ?_
  show OE _ p e below s _ _ _ T1 (mkF m 6 #[.val (.ref a1), .val (.int (1 : Int32))] [(.double s1)])
  refine OE.aloadN X1 hx hby own_d5_6 rfl rfl ?_
  obtain ⟨T3, X3, e3, st3⟩ := getF X1 hx hZ hown (host := "") (Or.inl (hw _ (List.mem_of_getElem? (i := 13) rfl))) Via.refl e1 F_lost_a1 (g := (mkF m 7 #[.val (.ref a1), .val (.int (1 : Int32))] [(.ref a1), (.double s1)])) rfl rfl (hb hby own_d5_7)
  refine OE.of st3 ?_
  show OE _ p e below s _ _ _ T3 (mkF m 10 #[.val (.ref a1), .val (.int (1 : Int32))] [(.ref g), (.double s1)])
  refine OE.iloadN X3 hx hby own_d5_10 rfl ?_
  have Vo4 := V_g
  obtain ⟨cl4, Ar4, -, Sz4, Nz4, Hz4, Gz4⟩ := Vo4
  have hin4 : ¬ ((1 : Int32) < 0 ∨ cl4.slots.size ≤ ((1 : Int32)).toNatClampNeg) := inb_of Sz4 ⟨by decide, by decide⟩
  have hat4 : cl4.slots[((1 : Int32)).toNatClampNeg]? = some (.double l1) := Has.at Hz4 hin4 rfl
  refine OE.of (X3.daload hx (j := (1 : Int32)) (v := (.double l1)) (by rw [e3]; exact Ar4.1) (State.isArrayOf_alike hZ.alike Ar4.2.1) Ar4.2.2 hin4 hat4 (g := (mkF m 11 #[.val (.ref a1), .val (.int (1 : Int32))] [(.int (1 : Int32)), (.ref g), (.double s1)])) rfl rfl (hb hby own_d5_11)) ?_
  show OE _ p e below s _ _ _ T3 (mkF m 12 #[.val (.ref a1), .val (.int (1 : Int32))] [(.double l1), (.double s1)])
  refine OE.dadd X3 hx hby own_d5_12 nn ?_
  refine OE.retD X3 hx Bd.returns Bd.notSynchronized (hb hby own_d5_13) (by decide) (by decide) ?_
  rw [e3]
  exact ⟨rfl, N0, rfl⟩
theorem own_pd1 : parseMethodDescriptor "(I)V" = some ⟨[.int], none⟩ := by decide +kernel
theorem own_pd2 : parseMethodDescriptor "(ID)V" = some ⟨[.int, .double], none⟩ := by decide +kernel
theorem own_pd3 : parseMethodDescriptor "(I)D" = some ⟨[.int], some .double⟩ := by decide +kernel
def own_Q0 (Z : State) (p1 : Int32) (p2 : Int32) (p3 : Int32) (p4 : Int32) (h0 : Heap) (n0 : Nat) (v : Option Value) (h : Heap) (L : List Loc) : Prop := v = some (.int (1 : Int32)) ∧ Fr n0 L
theorem own_pn1 : plainName "com/example/archerfish/archerfish/rank/CompensatedSumsTotalPinLaw" = true := by first | (simp [plainName, overriddenIn]; done) | decide +kernel
theorem own_ef_own_rm0 (m : MethodId) (p1 : Int32) (p2 : Int32) (p3 : Int32) (p4 : Int32) : entryFrame m #[(.int p1), (.int p2), (.int p3), (.int p4)] maxLocals = mkF m 0 #[.val (.int p1), .val (.int p2), .val (.int p3), .val (.int p4), .unset, .unset, .unset, .unset, .unset, .unset, .unset, .unset, .unset, .unset, .unset, .unset, .unset, .unset] [] := by first | (simp [entryFrame, mkF, argsToLocals, Value.category, maxLocals]; done) | rfl
set_option maxRecDepth 65536 in
set_option maxHeartbeats 40000000 in
theorem own_rm0 (l : Launch) (Z : State) (a0 : Array Value) (hw : ∀ d ∈ tables_1, d.before a0 Z = true) (ws : List Jvm.Cond) (p1 : Int32) (p2 : Int32) (p3 : Int32) (p4 : Int32) (h0 : Heap) (n0 : Nat) (Z0 : n0 ≤ h0.size) :
    MetFree l x (head1 (Jvm.Cond.code x code maxLocals ret :: ws) room_1) (fun a U => a = #[(.int p1), (.int p2), (.int p3), (.int p4)] ∧ Z.Warmed39 U.vm ∧ U.heap = h0) (fun _ _ _ _ _ => True) (fun _ U o U' => ∃ v L, o = .returned v ∧ own_Q0 Z p1 p2 p3 p4 h0 n0 v U'.heap L ∧ FrameEnd U o U' L room_1.cells room_1.slots) := by
  refine MetFree.of_bodySF (plainFor_of_name own_pn1) hisR ?_
  intro p e s m args below meth c s₁ Bd hml0 hP hK
  obtain ⟨rfl, hZ, hh⟩ := hP
  have hx := Bd.exec
  have hby := Bd.bytes
  have hml : c.maxLocals = 18 := hml0
  have hown : s.vm.findClass "com/example/archerfish/archerfish/rank/CompensatedSumsTotalPinLaw" = some m.cls := findClass_of_methodNamed Bd.named
  have hnm := (name_of_methodNamed Bd.named Bd.method).1
  have X0 : Stand p l e room_1 s m #[(.int p1), (.int p2), (.int p3), (.int p4)] below meth c s₁ [] 0 0 := Stand.of_body Bd
  have e0 : s₁.heap = h0 := by rw [← hh, Bd.state]; rfl
  have N0 := Fr.nil n0
  show OE FrameEnd p e below s (own_Q0 Z p1 p2 p3 p4 h0 n0) room_1.cells room_1.slots s₁ (entryFrame m #[(.int p1), (.int p2), (.int p3), (.int p4)] maxLocals)
  rw [own_ef_own_rm0]
  show OE _ p e below s _ _ _ s₁ (mkF m 0 #[.val (.int p1), .val (.int p2), .val (.int p3), .val (.int p4), .unset, .unset, .unset, .unset, .unset, .unset, .unset, .unset, .unset, .unset, .unset, .unset, .unset, .unset] [])
  refine OE.of (X0.ldc2DoubleC hx hown (mvT hZ (hw _ (List.mem_of_getElem? (i := 0) rfl))) (g := (mkF m 0 #[.val (.int p1), .val (.int p2), .val (.int p3), .val (.int p4), .unset, .unset, .unset, .unset, .unset, .unset, .unset, .unset, .unset, .unset, .unset, .unset, .unset, .unset] [])) rfl (hb hby at_0)) ?_
  show OE _ p e below s _ _ _ s₁ (mkF m 3 #[.val (.int p1), .val (.int p2), .val (.int p3), .val (.int p4), .unset, .unset, .unset, .unset, .unset, .unset, .unset, .unset, .unset, .unset, .unset, .unset, .unset, .unset] [(.double (4787326403894837248 : UInt64))])
  refine OE.dstore X0 hx hby at_3 (l' := #[.val (.int p1), .val (.int p2), .val (.int p3), .val (.int p4), .val (.double (4787326403894837248 : UInt64)), .second, .unset, .unset, .unset, .unset, .unset, .unset, .unset, .unset, .unset, .unset, .unset, .unset]) rfl ?_
  refine OE.iloadN X0 hx hby at_5 rfl ?_
  refine OE.i2d X0 hx hby at_6 ?_
  refine OE.dload X0 hx hby at_7 rfl ?_
  refine OE.dmul X0 hx hby at_9 (own_nn (own_dmul (Jvm.FP.Core.i2d_int p1) own_P (own_nb p1))) ?_
  obtain ⟨xa, e_xa⟩ : ∃ z, z = (FP.dmul (FP.i2d p1) (4787326403894837248 : UInt64)) := ⟨_, rfl⟩
  rw [← e_xa]
  have Da : Jvm.FP.Core.DInt (p1.toInt * 1099511627776) xa := by rw [e_xa]; exact own_dmul (Jvm.FP.Core.i2d_int p1) own_P (own_nb p1)
  have hA0 := own_nb p1
  obtain ⟨A, e_A⟩ : ∃ z, z = p1.toInt * 1099511627776 := ⟨_, rfl⟩
  rw [← e_A] at Da
  have hA : A.natAbs ≤ 2361183241434822606848 := by omega
  refine OE.dstore X0 hx hby at_10 (l' := #[.val (.int p1), .val (.int p2), .val (.int p3), .val (.int p4), .val (.double (4787326403894837248 : UInt64)), .second, .val (.double xa), .second, .unset, .unset, .unset, .unset, .unset, .unset, .unset, .unset, .unset, .unset]) rfl ?_
  refine OE.iloadN X0 hx hby at_12 rfl ?_
  refine OE.i2d X0 hx hby at_13 ?_
  obtain ⟨xb, e_xb⟩ : ∃ z, z = (FP.i2d p2) := ⟨_, rfl⟩
  rw [← e_xb]
  have Db : Jvm.FP.Core.DInt p2.toInt xb := by rw [e_xb]; exact Jvm.FP.Core.i2d_int p2
  have hB := own_nb p2
  refine OE.dstore X0 hx hby at_14 (l' := #[.val (.int p1), .val (.int p2), .val (.int p3), .val (.int p4), .val (.double (4787326403894837248 : UInt64)), .second, .val (.double xa), .second, .val (.double xb), .second, .unset, .unset, .unset, .unset, .unset, .unset, .unset, .unset]) rfl ?_
  refine OE.dload X0 hx hby at_16 rfl ?_
  refine OE.dneg X0 hx hby at_18 ?_
  obtain ⟨xc, e_xc⟩ : ∃ z, z = (FP.dneg xa) := ⟨_, rfl⟩
  rw [← e_xc]
  have Dc : Jvm.FP.Core.DInt (-A) xc := by rw [e_xc]; exact own_dneg Da
  refine OE.dstore X0 hx hby at_19 (l' := #[.val (.int p1), .val (.int p2), .val (.int p3), .val (.int p4), .val (.double (4787326403894837248 : UInt64)), .second, .val (.double xa), .second, .val (.double xb), .second, .val (.double xc), .second, .unset, .unset, .unset, .unset, .unset, .unset]) rfl ?_
  refine OE.iloadN X0 hx hby at_21 rfl ?_
  refine OE.iconst X0 hx hby at_22 (1 : Int32) rfl ?_
  refine OE.iand X0 hx hby at_23 ?_
  rcases own_bit p4 with hbit | hbit
  · skip
    rw [(hbit : (p4 &&& (1 : Int32)) = (0 : Int32))]
    show OE _ p e below s _ _ _ s₁ (mkF m 24 #[.val (.int p1), .val (.int p2), .val (.int p3), .val (.int p4), .val (.double (4787326403894837248 : UInt64)), .second, .val (.double xa), .second, .val (.double xb), .second, .val (.double xc), .second, .unset, .unset, .unset, .unset, .unset, .unset] [(.int (0 : Int32))])
    refine OE.istore X0 hx hby at_24 (l' := #[.val (.int p1), .val (.int p2), .val (.int p3), .val (.int p4), .val (.double (4787326403894837248 : UInt64)), .second, .val (.double xa), .second, .val (.double xb), .second, .val (.double xc), .second, .val (.int (0 : Int32)), .unset, .unset, .unset, .unset, .unset]) rfl ?_
    refine OE.iconst X0 hx hby at_26 (1 : Int32) rfl ?_
    refine OE.iload X0 hx hby at_27 rfl ?_
    refine OE.isub X0 hx hby at_29 ?_
    rw [(by decide : ((1 : Int32) - (0 : Int32)) = (1 : Int32))]
    refine OE.istore X0 hx hby at_30 (l' := #[.val (.int p1), .val (.int p2), .val (.int p3), .val (.int p4), .val (.double (4787326403894837248 : UInt64)), .second, .val (.double xa), .second, .val (.double xb), .second, .val (.double xc), .second, .val (.int (0 : Int32)), .val (.int (1 : Int32)), .unset, .unset, .unset, .unset]) rfl ?_
    refine OE.iloadN X0 hx hby at_32 rfl ?_
    refine OE.iconst X0 hx hby at_33 (1 : Int32) rfl ?_
    refine OE.iushr X0 hx hby at_34 ?_
    refine OE.iconst X0 hx hby at_35 (3 : Int32) rfl ?_
    refine OE.irem X0 hx hby at_36 (by decide) ?_
    refine OE.istore X0 hx hby at_37 (l' := #[.val (.int p1), .val (.int p2), .val (.int p3), .val (.int p4), .val (.double (4787326403894837248 : UInt64)), .second, .val (.double xa), .second, .val (.double xb), .second, .val (.double xc), .second, .val (.int (0 : Int32)), .val (.int (1 : Int32)), .val (.int (((p4.toUInt32 >>> ((1 : Int32) &&& 31).toUInt32).toInt32) % (3 : Int32))), .unset, .unset, .unset]) rfl ?_
    obtain ⟨T1, h1, X1, e1, E1, A1, D1, -, st1⟩ := newO X0 hx hZ hown (hw _ (List.mem_of_getElem? (i := 1) rfl)) (hw _ (List.mem_of_getElem? (i := 2) rfl)) (hw _ (List.mem_of_getElem? (i := 3) rfl)) e0 (g := (mkF m 39 #[.val (.int p1), .val (.int p2), .val (.int p3), .val (.int p4), .val (.double (4787326403894837248 : UInt64)), .second, .val (.double xa), .second, .val (.double xb), .second, .val (.double xc), .second, .val (.int (0 : Int32)), .val (.int (1 : Int32)), .val (.int (((p4.toUInt32 >>> ((1 : Int32) &&& 31).toUInt32).toInt32) % (3 : Int32))), .unset, .unset, .unset] [])) rfl (hb hby at_39) (by decide) (by decide)
    refine OE.of st1 ?_
    obtain ⟨b1, g1⟩ : ∃ z, z = h0.size := ⟨_, rfl⟩
    rw [← g1] at A1 D1 ⊢
    have g_b1 : n0 ≤ b1 := Nat.le_trans Z0 (Nat.le_of_eq g1.symm)
    have sz_b1 : h0.size ≤ b1 := Nat.le_trans (Keep.refl h0 []).1 (Nat.le_of_eq g1.symm)
    have F1_sums : Fld Z h1 b1 "com/example/archerfish/archerfish/rank/CompensatedSums" "sums" "[D" .null := D1 (Or.inr (hw _ (List.mem_of_getElem? (i := 12) rfl))) (ty := (.array .double)) (by decide)
    have F1_lost : Fld Z h1 b1 "com/example/archerfish/archerfish/rank/CompensatedSums" "lost" "[D" .null := D1 (Or.inr (hw _ (List.mem_of_getElem? (i := 14) rfl))) (ty := (.array .double)) (by decide)
    show OE _ p e below s _ _ _ T1 (mkF m 42 #[.val (.int p1), .val (.int p2), .val (.int p3), .val (.int p4), .val (.double (4787326403894837248 : UInt64)), .second, .val (.double xa), .second, .val (.double xb), .second, .val (.double xc), .second, .val (.int (0 : Int32)), .val (.int (1 : Int32)), .val (.int (((p4.toUInt32 >>> ((1 : Int32) &&& 31).toUInt32).toInt32) % (3 : Int32))), .unset, .unset, .unset] [(.ref b1)])
    refine OE.dup X1 hx hby at_42 rfl ?_
    refine OE.iconst X1 hx hby at_43 (2 : Int32) rfl ?_
    have z2 : n0 ≤ h1.size := (Nat.le_trans Z0 E1.1)
    obtain ⟨_, _, ⟨T3, L3, k3, n3⟩, -, X3, ⟨Lc3, hQ3, l3, y3, z3⟩, st3⟩ := X1.specialBack hx (y := (⟨"com/example/archerfish/archerfish/rank/CompensatedSums", "<init>", "(I)V"⟩ : MethodName)) rfl hown (mvT hZ (hw _ (List.mem_of_getElem? (i := 4) rfl))) (mvT hZ (hw _ (List.mem_of_getElem? (i := 5) rfl))) (mvT hZ (hw _ (List.mem_of_getElem? (i := 6) rfl))) (by decide) (backOf (W := 1) (own_rm1 l Z a0 hw [] b1 h1 n0 z2 A1 F1_sums F1_lost g_b1) hZ (hw _ (List.mem_of_getElem? (i := 6) rfl)) (hw _ (List.mem_of_getElem? (i := 3) rfl)) (by decide) (by decide)) (g := (mkF m 44 #[.val (.int p1), .val (.int p2), .val (.int p3), .val (.int p4), .val (.double (4787326403894837248 : UInt64)), .second, .val (.double xa), .second, .val (.double xb), .second, .val (.double xc), .second, .val (.int (0 : Int32)), .val (.int (1 : Int32)), .val (.int (((p4.toUInt32 >>> ((1 : Int32) &&& 31).toUInt32).toInt32) % (3 : Int32))), .unset, .unset, .unset] [(.int (2 : Int32)), (.ref b1), (.ref b1)])) rfl (by rw [hml]; rfl) (Steps.refl _) (a := b1) (argsL := [(.int (2 : Int32))]) (rest := [(.ref b1)]) (lenOf own_pd1 rfl) rfl (by show 2 * 0 + _ ≤ _; exact Nat.le_of_eq rfl) (hb hby at_44) (fun _ _ => ⟨rfl, e1, (by decide : 1 + 2 ≤ _), (by decide : 2 + 4 ≤ _)⟩)
    dsimp only [Pt.U, Pt.locs, Pt.cells, Pt.slots] at X3 l3 y3 z3 st3 hQ3
    have yc3 : 3 = k3 := y3.symm
    have zc3 : 6 = n3 := z3.symm
    have lc3 := l3.symm
    subst lc3 yc3 zc3
    obtain ⟨r3_f, r3_g, r3_kf, r3_kg, rfl, Nq3, K3, q3_0, q3_1, q3_2, q3_3, q3_4, h3_sf, h3_sg, h3_nfg⟩ := hQ3
    refine OE.of (fun _ k => st3.trans k) ?_
    have N3 := Fr.app N0 Nq3
    have ne_b1_r3_f : b1 ≠ r3_f := Nat.ne_of_lt (Nat.lt_of_lt_of_le A1.lt h3_sf)
    have g_r3_f : n0 ≤ r3_f := Nat.le_trans z2 h3_sf
    have K4 : Keep h0 h1 [] := (Keep.ext (Keep.refl h0 []) E1)
    have sz_r3_f : h0.size ≤ r3_f := Nat.le_trans K4.1 h3_sf
    have ne_b1_r3_g : b1 ≠ r3_g := Nat.ne_of_lt (Nat.lt_of_lt_of_le A1.lt h3_sg)
    have g_r3_g : n0 ≤ r3_g := Nat.le_trans z2 h3_sg
    have sz_r3_g : h0.size ≤ r3_g := Nat.le_trans K4.1 h3_sg
    show OE _ p e below s _ _ _ T3 (mkF m 47 #[.val (.int p1), .val (.int p2), .val (.int p3), .val (.int p4), .val (.double (4787326403894837248 : UInt64)), .second, .val (.double xa), .second, .val (.double xb), .second, .val (.double xc), .second, .val (.int (0 : Int32)), .val (.int (1 : Int32)), .val (.int (((p4.toUInt32 >>> ((1 : Int32) &&& 31).toUInt32).toInt32) % (3 : Int32))), .unset, .unset, .unset] [(.ref b1)])
    refine OE.astore X3 hx hby at_47 rfl (l' := #[.val (.int p1), .val (.int p2), .val (.int p3), .val (.int p4), .val (.double (4787326403894837248 : UInt64)), .second, .val (.double xa), .second, .val (.double xb), .second, .val (.double xc), .second, .val (.int (0 : Int32)), .val (.int (1 : Int32)), .val (.int (((p4.toUInt32 >>> ((1 : Int32) &&& 31).toUInt32).toInt32) % (3 : Int32))), .val (.ref b1), .unset, .unset]) rfl ?_
    refine OE.iload X3 hx hby at_49 rfl ?_
    by_cases hc51 : (((p4.toUInt32 >>> ((1 : Int32) &&& 31).toUInt32).toInt32) % (3 : Int32)) = (0 : Int32)
    · skip
      refine OE.ifNo X3 hx hby at_51 (teq hc51).2 ?_
      refine OE.aload X3 hx hby at_54 rfl rfl ?_
      refine OE.iload X3 hx hby at_56 rfl ?_
      refine OE.dload X3 hx hby at_58 rfl ?_
      have z5 : n0 ≤ T3.heap.size := (Nat.le_trans z2 K3.1)
      obtain ⟨cq6, kq6, qa6, qb6, qc6⟩ := isOf hZ rfl q3_0
      obtain ⟨_, _, ⟨T6, L6, k6, n6⟩, -, X6, ⟨Lc6, hQ6, l6, y6, z6⟩, st6⟩ := X3.virtualBack hx (y := (⟨"com/example/archerfish/archerfish/rank/CompensatedSums", "add", "(ID)V"⟩ : MethodName)) (z := (⟨"com/example/archerfish/archerfish/rank/CompensatedSums", "add", "(ID)V"⟩ : MethodName)) hown (mvT hZ (hw _ (List.mem_of_getElem? (i := 15) rfl))) (mvT hZ (hw _ (List.mem_of_getElem? (i := 16) rfl))) (notFace_of_selects (args := #[]) (mvT hZ (hw _ (List.mem_of_getElem? (i := 18) rfl)))) (mvT hZ (hw _ (List.mem_of_getElem? (i := 18) rfl))) (mvT hZ (hw _ (List.mem_of_getElem? (i := 17) rfl))) (by decide) (backOf (W := 0) (own_rm3_0 l Z a0 hw [] b1 xa r3_f r3_g 0 0 0 0 r3_kf r3_kg T3.heap n0 z5 q3_1 q3_2 q3_3 q3_4 g_r3_f g_r3_g (Ne.symm ne_b1_r3_f) (Ne.symm ne_b1_r3_g) h3_nfg (own_ok_of own_dz own_dz Da (by omega) (by omega) (by omega))) hZ (hw _ (List.mem_of_getElem? (i := 19) rfl)) (hw _ (List.mem_of_getElem? (i := 3) rfl)) (by decide) (by decide)) qa6 qc6 (g := (mkF m 60 #[.val (.int p1), .val (.int p2), .val (.int p3), .val (.int p4), .val (.double (4787326403894837248 : UInt64)), .second, .val (.double xa), .second, .val (.double xb), .second, .val (.double xc), .second, .val (.int (0 : Int32)), .val (.int (1 : Int32)), .val (.int (((p4.toUInt32 >>> ((1 : Int32) &&& 31).toUInt32).toInt32) % (3 : Int32))), .val (.ref b1), .unset, .unset] [(.double xa), (.int (0 : Int32)), (.ref b1)])) rfl (by rw [hml]; rfl) (Steps.refl _) (argsL := [(.int (0 : Int32)), (.double xa)]) (rest := []) (lenOf own_pd2 rfl) rfl (by show 2 * 0 + _ ≤ _; exact Nat.le_of_eq rfl) (hb hby at_60) (fun _ _ => ⟨rfl, rfl, (by decide : 3 + 0 ≤ _), (by decide : 6 + 0 ≤ _)⟩)
      dsimp only [Pt.U, Pt.locs, Pt.cells, Pt.slots] at X6 l6 y6 z6 st6 hQ6
      have yc6 : 3 = k6 := y6.symm
      have zc6 : 6 = n6 := z6.symm
      have lc6 := l6.symm
      subst lc6 yc6 zc6
      obtain ⟨r6_sn, r6_ln, rfl, Nq6, K6, q6_0, q6_1, q6_2, q6_3, h6_es, h6_el⟩ := hQ6
      refine OE.of (fun _ k => st6.trans k) ?_
      have N6 := Fr.app N3 Nq6
      show OE _ p e below s _ _ _ T6 (mkF m 63 #[.val (.int p1), .val (.int p2), .val (.int p3), .val (.int p4), .val (.double (4787326403894837248 : UInt64)), .second, .val (.double xa), .second, .val (.double xb), .second, .val (.double xc), .second, .val (.int (0 : Int32)), .val (.int (1 : Int32)), .val (.int (((p4.toUInt32 >>> ((1 : Int32) &&& 31).toUInt32).toInt32) % (3 : Int32))), .val (.ref b1), .unset, .unset] [])
      obtain ⟨Ds6, Dl6⟩ := own_A1 own_dz own_dz Da h6_es h6_el
      refine OE.aload X6 hx hby at_63 rfl rfl ?_
      refine OE.iload X6 hx hby at_65 rfl ?_
      refine OE.dload X6 hx hby at_67 rfl ?_
      have z7 : n0 ≤ T6.heap.size := (Nat.le_trans z5 K6.1)
      have f9 : Exa Z T6.heap b1 "com/example/archerfish/archerfish/rank/CompensatedSums" := (q3_0.keep K6)
      obtain ⟨cq8, kq8, qa8, qb8, qc8⟩ := isOf hZ rfl f9
      obtain ⟨_, _, ⟨T8, L8, k8, n8⟩, -, X8, ⟨Lc8, hQ8, l8, y8, z8⟩, st8⟩ := X6.virtualBack hx (y := (⟨"com/example/archerfish/archerfish/rank/CompensatedSums", "add", "(ID)V"⟩ : MethodName)) (z := (⟨"com/example/archerfish/archerfish/rank/CompensatedSums", "add", "(ID)V"⟩ : MethodName)) hown (mvT hZ (hw _ (List.mem_of_getElem? (i := 15) rfl))) (mvT hZ (hw _ (List.mem_of_getElem? (i := 16) rfl))) (notFace_of_selects (args := #[]) (mvT hZ (hw _ (List.mem_of_getElem? (i := 18) rfl)))) (mvT hZ (hw _ (List.mem_of_getElem? (i := 18) rfl))) (mvT hZ (hw _ (List.mem_of_getElem? (i := 17) rfl))) (by decide) (backOf (W := 0) (own_rm3_0 l Z a0 hw [] b1 xb r3_f r3_g r6_sn 0 r6_ln 0 r3_kf r3_kg T6.heap n0 z7 q6_0 q6_1 q6_2 q6_3 g_r3_f g_r3_g (Ne.symm ne_b1_r3_f) (Ne.symm ne_b1_r3_g) h3_nfg (own_ok_of Ds6 Dl6 Db (by omega) (by omega) (by omega))) hZ (hw _ (List.mem_of_getElem? (i := 19) rfl)) (hw _ (List.mem_of_getElem? (i := 3) rfl)) (by decide) (by decide)) qa8 qc8 (g := (mkF m 69 #[.val (.int p1), .val (.int p2), .val (.int p3), .val (.int p4), .val (.double (4787326403894837248 : UInt64)), .second, .val (.double xa), .second, .val (.double xb), .second, .val (.double xc), .second, .val (.int (0 : Int32)), .val (.int (1 : Int32)), .val (.int (((p4.toUInt32 >>> ((1 : Int32) &&& 31).toUInt32).toInt32) % (3 : Int32))), .val (.ref b1), .unset, .unset] [(.double xb), (.int (0 : Int32)), (.ref b1)])) rfl (by rw [hml]; rfl) (Steps.refl _) (argsL := [(.int (0 : Int32)), (.double xb)]) (rest := []) (lenOf own_pd2 rfl) rfl (by show 2 * 0 + _ ≤ _; exact Nat.le_of_eq rfl) (hb hby at_69) (fun _ _ => ⟨rfl, rfl, (by decide : 3 + 0 ≤ _), (by decide : 6 + 0 ≤ _)⟩)
      dsimp only [Pt.U, Pt.locs, Pt.cells, Pt.slots] at X8 l8 y8 z8 st8 hQ8
      have yc8 : 3 = k8 := y8.symm
      have zc8 : 6 = n8 := z8.symm
      have lc8 := l8.symm
      subst lc8 yc8 zc8
      obtain ⟨r8_sn, r8_ln, rfl, Nq8, K8, q8_0, q8_1, q8_2, q8_3, h8_es, h8_el⟩ := hQ8
      refine OE.of (fun _ k => st8.trans k) ?_
      have N8 := Fr.app N6 Nq8
      show OE _ p e below s _ _ _ T8 (mkF m 72 #[.val (.int p1), .val (.int p2), .val (.int p3), .val (.int p4), .val (.double (4787326403894837248 : UInt64)), .second, .val (.double xa), .second, .val (.double xb), .second, .val (.double xc), .second, .val (.int (0 : Int32)), .val (.int (1 : Int32)), .val (.int (((p4.toUInt32 >>> ((1 : Int32) &&& 31).toUInt32).toInt32) % (3 : Int32))), .val (.ref b1), .unset, .unset] [])
      obtain ⟨nn8, hn8, Ds8, Dl8⟩ := own_A2 Ds6 Dl6 Db (by omega) (by omega) (by omega) h8_es h8_el
      refine OE.aload X8 hx hby at_72 rfl rfl ?_
      refine OE.iload X8 hx hby at_74 rfl ?_
      refine OE.dload X8 hx hby at_76 rfl ?_
      have z10 : n0 ≤ T8.heap.size := (Nat.le_trans z7 K8.1)
      have f12 : Exa Z T8.heap b1 "com/example/archerfish/archerfish/rank/CompensatedSums" := (f9.keep K8)
      obtain ⟨cq11, kq11, qa11, qb11, qc11⟩ := isOf hZ rfl f12
      obtain ⟨_, _, ⟨T11, L11, k11, n11⟩, -, X11, ⟨Lc11, hQ11, l11, y11, z11⟩, st11⟩ := X8.virtualBack hx (y := (⟨"com/example/archerfish/archerfish/rank/CompensatedSums", "add", "(ID)V"⟩ : MethodName)) (z := (⟨"com/example/archerfish/archerfish/rank/CompensatedSums", "add", "(ID)V"⟩ : MethodName)) hown (mvT hZ (hw _ (List.mem_of_getElem? (i := 15) rfl))) (mvT hZ (hw _ (List.mem_of_getElem? (i := 16) rfl))) (notFace_of_selects (args := #[]) (mvT hZ (hw _ (List.mem_of_getElem? (i := 18) rfl)))) (mvT hZ (hw _ (List.mem_of_getElem? (i := 18) rfl))) (mvT hZ (hw _ (List.mem_of_getElem? (i := 17) rfl))) (by decide) (backOf (W := 0) (own_rm3_0 l Z a0 hw [] b1 xc r3_f r3_g r8_sn 0 r8_ln 0 r3_kf r3_kg T8.heap n0 z10 q8_0 q8_1 q8_2 q8_3 g_r3_f g_r3_g (Ne.symm ne_b1_r3_f) (Ne.symm ne_b1_r3_g) h3_nfg (own_ok_of Ds8 Dl8 Dc (by omega) (by omega) (by omega))) hZ (hw _ (List.mem_of_getElem? (i := 19) rfl)) (hw _ (List.mem_of_getElem? (i := 3) rfl)) (by decide) (by decide)) qa11 qc11 (g := (mkF m 78 #[.val (.int p1), .val (.int p2), .val (.int p3), .val (.int p4), .val (.double (4787326403894837248 : UInt64)), .second, .val (.double xa), .second, .val (.double xb), .second, .val (.double xc), .second, .val (.int (0 : Int32)), .val (.int (1 : Int32)), .val (.int (((p4.toUInt32 >>> ((1 : Int32) &&& 31).toUInt32).toInt32) % (3 : Int32))), .val (.ref b1), .unset, .unset] [(.double xc), (.int (0 : Int32)), (.ref b1)])) rfl (by rw [hml]; rfl) (Steps.refl _) (argsL := [(.int (0 : Int32)), (.double xc)]) (rest := []) (lenOf own_pd2 rfl) rfl (by show 2 * 0 + _ ≤ _; exact Nat.le_of_eq rfl) (hb hby at_78) (fun _ _ => ⟨rfl, rfl, (by decide : 3 + 0 ≤ _), (by decide : 6 + 0 ≤ _)⟩)
      dsimp only [Pt.U, Pt.locs, Pt.cells, Pt.slots] at X11 l11 y11 z11 st11 hQ11
      have yc11 : 3 = k11 := y11.symm
      have zc11 : 6 = n11 := z11.symm
      have lc11 := l11.symm
      subst lc11 yc11 zc11
      obtain ⟨r11_sn, r11_ln, rfl, Nq11, K11, q11_0, q11_1, q11_2, q11_3, h11_es, h11_el⟩ := hQ11
      refine OE.of (fun _ k => st11.trans k) ?_
      have N11 := Fr.app N8 Nq11
      show OE _ p e below s _ _ _ T11 (mkF m 81 #[.val (.int p1), .val (.int p2), .val (.int p3), .val (.int p4), .val (.double (4787326403894837248 : UInt64)), .second, .val (.double xa), .second, .val (.double xb), .second, .val (.double xc), .second, .val (.int (0 : Int32)), .val (.int (1 : Int32)), .val (.int (((p4.toUInt32 >>> ((1 : Int32) &&& 31).toUInt32).toInt32) % (3 : Int32))), .val (.ref b1), .unset, .unset] [])
      obtain ⟨Ds11, Dl11⟩ := own_A3 Ds8 Dl8 Dc (by omega) h11_es h11_el
      refine OE.goto X11 hx hby (pc' := 147) at_81 (h := ?_)
      refine OE.aload X11 hx hby at_147 rfl rfl ?_
      refine OE.iload X11 hx hby at_149 rfl ?_
      refine OE.iloadN X11 hx hby at_151 rfl ?_
      refine OE.i2d X11 hx hby at_152 ?_
      have hC := own_nb p3
      have z13 : n0 ≤ T11.heap.size := (Nat.le_trans z10 K11.1)
      have f15 : Exa Z T11.heap b1 "com/example/archerfish/archerfish/rank/CompensatedSums" := (f12.keep K11)
      obtain ⟨cq14, kq14, qa14, qb14, qc14⟩ := isOf hZ rfl f15
      obtain ⟨_, _, ⟨T14, L14, k14, n14⟩, -, X14, ⟨Lc14, hQ14, l14, y14, z14⟩, st14⟩ := X11.virtualBack hx (y := (⟨"com/example/archerfish/archerfish/rank/CompensatedSums", "add", "(ID)V"⟩ : MethodName)) (z := (⟨"com/example/archerfish/archerfish/rank/CompensatedSums", "add", "(ID)V"⟩ : MethodName)) hown (mvT hZ (hw _ (List.mem_of_getElem? (i := 15) rfl))) (mvT hZ (hw _ (List.mem_of_getElem? (i := 16) rfl))) (notFace_of_selects (args := #[]) (mvT hZ (hw _ (List.mem_of_getElem? (i := 18) rfl)))) (mvT hZ (hw _ (List.mem_of_getElem? (i := 18) rfl))) (mvT hZ (hw _ (List.mem_of_getElem? (i := 17) rfl))) (by decide) (backOf (W := 0) (own_rm3_1 l Z a0 hw [] b1 (FP.i2d p3) r3_f r3_g r11_sn 0 r11_ln 0 r3_kf r3_kg T11.heap n0 z13 q11_0 q11_1 q11_2 q11_3 g_r3_f g_r3_g (Ne.symm ne_b1_r3_f) (Ne.symm ne_b1_r3_g) h3_nfg (own_ok_of own_dz own_dz (Jvm.FP.Core.i2d_int p3) (by omega) (by omega) (by omega))) hZ (hw _ (List.mem_of_getElem? (i := 19) rfl)) (hw _ (List.mem_of_getElem? (i := 3) rfl)) (by decide) (by decide)) qa14 qc14 (g := (mkF m 153 #[.val (.int p1), .val (.int p2), .val (.int p3), .val (.int p4), .val (.double (4787326403894837248 : UInt64)), .second, .val (.double xa), .second, .val (.double xb), .second, .val (.double xc), .second, .val (.int (0 : Int32)), .val (.int (1 : Int32)), .val (.int (((p4.toUInt32 >>> ((1 : Int32) &&& 31).toUInt32).toInt32) % (3 : Int32))), .val (.ref b1), .unset, .unset] [(.double (FP.i2d p3)), (.int (1 : Int32)), (.ref b1)])) rfl (by rw [hml]; rfl) (Steps.refl _) (argsL := [(.int (1 : Int32)), (.double (FP.i2d p3))]) (rest := []) (lenOf own_pd2 rfl) rfl (by show 2 * 0 + _ ≤ _; exact Nat.le_of_eq rfl) (hb hby at_153) (fun _ _ => ⟨rfl, rfl, (by decide : 3 + 0 ≤ _), (by decide : 6 + 0 ≤ _)⟩)
      dsimp only [Pt.U, Pt.locs, Pt.cells, Pt.slots] at X14 l14 y14 z14 st14 hQ14
      have yc14 : 3 = k14 := y14.symm
      have zc14 : 6 = n14 := z14.symm
      have lc14 := l14.symm
      subst lc14 yc14 zc14
      obtain ⟨r14_sn, r14_ln, rfl, Nq14, K14, q14_0, q14_1, q14_2, q14_3, h14_es, h14_el⟩ := hQ14
      refine OE.of (fun _ k => st14.trans k) ?_
      have N14 := Fr.app N11 Nq14
      show OE _ p e below s _ _ _ T14 (mkF m 156 #[.val (.int p1), .val (.int p2), .val (.int p3), .val (.int p4), .val (.double (4787326403894837248 : UInt64)), .second, .val (.double xa), .second, .val (.double xb), .second, .val (.double xc), .second, .val (.int (0 : Int32)), .val (.int (1 : Int32)), .val (.int (((p4.toUInt32 >>> ((1 : Int32) &&& 31).toUInt32).toInt32) % (3 : Int32))), .val (.ref b1), .unset, .unset] [])
      obtain ⟨Ds14, Dl14⟩ := own_A1 own_dz own_dz (Jvm.FP.Core.i2d_int p3) h14_es h14_el
      refine OE.aload X14 hx hby at_156 rfl rfl ?_
      refine OE.iload X14 hx hby at_158 rfl ?_
      have Dtm := Jvm.FP.Core.dadd_int Ds11 Dl11 (by omega)
      have z16 : n0 ≤ T14.heap.size := (Nat.le_trans z13 K14.1)
      have f18 : Exa Z T14.heap b1 "com/example/archerfish/archerfish/rank/CompensatedSums" := (f15.keep K14)
      obtain ⟨cq17, kq17, qa17, qb17, qc17⟩ := isOf hZ rfl f18
      obtain ⟨_, _, ⟨T17, L17, k17, n17⟩, -, X17, ⟨Lc17, hQ17, l17, y17, z17⟩, st17⟩ := X14.virtualBack hx (y := (⟨"com/example/archerfish/archerfish/rank/CompensatedSums", "total", "(I)D"⟩ : MethodName)) (z := (⟨"com/example/archerfish/archerfish/rank/CompensatedSums", "total", "(I)D"⟩ : MethodName)) hown (mvT hZ (hw _ (List.mem_of_getElem? (i := 24) rfl))) (mvT hZ (hw _ (List.mem_of_getElem? (i := 25) rfl))) (notFace_of_selects (args := #[]) (mvT hZ (hw _ (List.mem_of_getElem? (i := 27) rfl)))) (mvT hZ (hw _ (List.mem_of_getElem? (i := 27) rfl))) (mvT hZ (hw _ (List.mem_of_getElem? (i := 26) rfl))) (by decide) (backOf (W := 0) (own_rm5_0 l Z a0 hw [] b1 r3_f r3_g r11_sn r14_sn r11_ln r14_ln r3_kf r3_kg T14.heap n0 z16 q14_0 q14_1 q14_2 q14_3 (own_nn Dtm)) hZ (hw _ (List.mem_of_getElem? (i := 28) rfl)) (hw _ (List.mem_of_getElem? (i := 3) rfl)) (by decide) (by decide)) qa17 qc17 (g := (mkF m 160 #[.val (.int p1), .val (.int p2), .val (.int p3), .val (.int p4), .val (.double (4787326403894837248 : UInt64)), .second, .val (.double xa), .second, .val (.double xb), .second, .val (.double xc), .second, .val (.int (0 : Int32)), .val (.int (1 : Int32)), .val (.int (((p4.toUInt32 >>> ((1 : Int32) &&& 31).toUInt32).toInt32) % (3 : Int32))), .val (.ref b1), .unset, .unset] [(.int (0 : Int32)), (.ref b1)])) rfl (by rw [hml]; rfl) (Steps.refl _) (argsL := [(.int (0 : Int32))]) (rest := []) (lenOf own_pd3 rfl) rfl (by show 2 * 0 + _ ≤ _; exact Nat.le_of_eq rfl) (hb hby at_160) (fun _ _ => ⟨rfl, rfl, (by decide : 3 + 0 ≤ _), (by decide : 6 + 0 ≤ _)⟩)
      dsimp only [Pt.U, Pt.locs, Pt.cells, Pt.slots] at X17 l17 y17 z17 st17 hQ17
      have yc17 : 3 = k17 := y17.symm
      have zc17 : 6 = n17 := z17.symm
      have lc17 := l17.symm
      subst lc17 yc17 zc17
      obtain ⟨rfl, Nq17, eq17⟩ := hQ17
      refine OE.of (fun _ k => st17.trans k) ?_
      have N17 := Fr.app N14 Nq17
      show OE _ p e below s _ _ _ T17 (mkF m 163 #[.val (.int p1), .val (.int p2), .val (.int p3), .val (.int p4), .val (.double (4787326403894837248 : UInt64)), .second, .val (.double xa), .second, .val (.double xb), .second, .val (.double xc), .second, .val (.int (0 : Int32)), .val (.int (1 : Int32)), .val (.int (((p4.toUInt32 >>> ((1 : Int32) &&& 31).toUInt32).toInt32) % (3 : Int32))), .val (.ref b1), .unset, .unset] [(.double (FP.dadd r11_sn r11_ln))])
      have Dvm : Jvm.FP.Core.DInt p2.toInt (FP.dadd r11_sn r11_ln) := by have q := Dtm; rwa [show _ + _ = p2.toInt by omega] at q
      refine OE.dload X17 hx hby at_163 rfl ?_
      refine OE.dcmp X17 hx hby at_165 ?_
      refine OE.ifNo X17 hx hby at_166 (teq ((own_eq0 Dvm Db) : (cmpValue (FP.dcmp (FP.dadd r11_sn r11_ln) xb) .l) = (0 : Int32))).2 ?_
      refine OE.iconst X17 hx hby at_169 (1 : Int32) rfl ?_
      refine OE.goto X17 hx hby (pc' := 174) at_170 (h := ?_)
      refine OE.istore X17 hx hby at_174 (l' := #[.val (.int p1), .val (.int p2), .val (.int p3), .val (.int p4), .val (.double (4787326403894837248 : UInt64)), .second, .val (.double xa), .second, .val (.double xb), .second, .val (.double xc), .second, .val (.int (0 : Int32)), .val (.int (1 : Int32)), .val (.int (((p4.toUInt32 >>> ((1 : Int32) &&& 31).toUInt32).toInt32) % (3 : Int32))), .val (.ref b1), .val (.int (1 : Int32)), .unset]) rfl ?_
      refine OE.aload X17 hx hby at_176 rfl rfl ?_
      refine OE.iload X17 hx hby at_178 rfl ?_
      have Dtz := Jvm.FP.Core.dadd_int Ds14 Dl14 (by omega)
      obtain ⟨cq19, kq19, qa19, qb19, qc19⟩ := isOf hZ eq17 f18
      obtain ⟨_, _, ⟨T19, L19, k19, n19⟩, -, X19, ⟨Lc19, hQ19, l19, y19, z19⟩, st19⟩ := X17.virtualBack hx (y := (⟨"com/example/archerfish/archerfish/rank/CompensatedSums", "total", "(I)D"⟩ : MethodName)) (z := (⟨"com/example/archerfish/archerfish/rank/CompensatedSums", "total", "(I)D"⟩ : MethodName)) hown (mvT hZ (hw _ (List.mem_of_getElem? (i := 24) rfl))) (mvT hZ (hw _ (List.mem_of_getElem? (i := 25) rfl))) (notFace_of_selects (args := #[]) (mvT hZ (hw _ (List.mem_of_getElem? (i := 27) rfl)))) (mvT hZ (hw _ (List.mem_of_getElem? (i := 27) rfl))) (mvT hZ (hw _ (List.mem_of_getElem? (i := 26) rfl))) (by decide) (backOf (W := 0) (own_rm5_1 l Z a0 hw [] b1 r3_f r3_g r11_sn r14_sn r11_ln r14_ln r3_kf r3_kg T14.heap n0 z16 q14_0 q14_1 q14_2 q14_3 (own_nn Dtz)) hZ (hw _ (List.mem_of_getElem? (i := 28) rfl)) (hw _ (List.mem_of_getElem? (i := 3) rfl)) (by decide) (by decide)) qa19 qc19 (g := (mkF m 180 #[.val (.int p1), .val (.int p2), .val (.int p3), .val (.int p4), .val (.double (4787326403894837248 : UInt64)), .second, .val (.double xa), .second, .val (.double xb), .second, .val (.double xc), .second, .val (.int (0 : Int32)), .val (.int (1 : Int32)), .val (.int (((p4.toUInt32 >>> ((1 : Int32) &&& 31).toUInt32).toInt32) % (3 : Int32))), .val (.ref b1), .val (.int (1 : Int32)), .unset] [(.int (1 : Int32)), (.ref b1)])) rfl (by rw [hml]; rfl) (Steps.refl _) (argsL := [(.int (1 : Int32))]) (rest := []) (lenOf own_pd3 rfl) rfl (by show 2 * 0 + _ ≤ _; exact Nat.le_of_eq rfl) (hb hby at_180) (fun _ _ => ⟨rfl, eq17, (by decide : 3 + 0 ≤ _), (by decide : 6 + 0 ≤ _)⟩)
      dsimp only [Pt.U, Pt.locs, Pt.cells, Pt.slots] at X19 l19 y19 z19 st19 hQ19
      have yc19 : 3 = k19 := y19.symm
      have zc19 : 6 = n19 := z19.symm
      have lc19 := l19.symm
      subst lc19 yc19 zc19
      obtain ⟨rfl, Nq19, eq19⟩ := hQ19
      refine OE.of (fun _ k => st19.trans k) ?_
      have N19 := Fr.app N17 Nq19
      show OE _ p e below s _ _ _ T19 (mkF m 183 #[.val (.int p1), .val (.int p2), .val (.int p3), .val (.int p4), .val (.double (4787326403894837248 : UInt64)), .second, .val (.double xa), .second, .val (.double xb), .second, .val (.double xc), .second, .val (.int (0 : Int32)), .val (.int (1 : Int32)), .val (.int (((p4.toUInt32 >>> ((1 : Int32) &&& 31).toUInt32).toInt32) % (3 : Int32))), .val (.ref b1), .val (.int (1 : Int32)), .unset] [(.double (FP.dadd r14_sn r14_ln))])
      have Dvz : Jvm.FP.Core.DInt p3.toInt (FP.dadd r14_sn r14_ln) := by have q := Dtz; rwa [show _ + _ = p3.toInt by omega] at q
      refine OE.iloadN X19 hx hby at_183 rfl ?_
      refine OE.i2d X19 hx hby at_184 ?_
      refine OE.dcmp X19 hx hby at_185 ?_
      refine OE.ifNo X19 hx hby at_186 (teq ((own_eq0 Dvz (Jvm.FP.Core.i2d_int p3)) : (cmpValue (FP.dcmp (FP.dadd r14_sn r14_ln) (FP.i2d p3)) .l) = (0 : Int32))).2 ?_
      refine OE.iconst X19 hx hby at_189 (1 : Int32) rfl ?_
      refine OE.goto X19 hx hby (pc' := 194) at_190 (h := ?_)
      refine OE.istore X19 hx hby at_194 (l' := #[.val (.int p1), .val (.int p2), .val (.int p3), .val (.int p4), .val (.double (4787326403894837248 : UInt64)), .second, .val (.double xa), .second, .val (.double xb), .second, .val (.double xc), .second, .val (.int (0 : Int32)), .val (.int (1 : Int32)), .val (.int (((p4.toUInt32 >>> ((1 : Int32) &&& 31).toUInt32).toInt32) % (3 : Int32))), .val (.ref b1), .val (.int (1 : Int32)), .val (.int (1 : Int32))]) rfl ?_
      refine OE.iload X19 hx hby at_196 rfl ?_
      refine OE.ifNo X19 hx hby at_198 (feq (by decide : ¬ ((1 : Int32) = (0 : Int32)))).1 ?_
      refine OE.iload X19 hx hby at_201 rfl ?_
      refine OE.ifNo X19 hx hby at_203 (feq (by decide : ¬ ((1 : Int32) = (0 : Int32)))).1 ?_
      refine OE.iconst X19 hx hby at_206 (1 : Int32) rfl ?_
      refine OE.goto X19 hx hby (pc' := 211) at_207 (h := ?_)
      refine OE.retN X19 hx (t := .boolean) Bd.returns (by simp) Bd.notSynchronized (hb hby at_211) (by decide) (by decide) ?_
      rw [eq19]
      exact ⟨rfl, N19⟩
    · skip
      refine OE.ifYes X3 hx hby (pc' := 84) at_51 (feq hc51).2 (h := ?_)
      refine OE.iload X3 hx hby at_84 rfl ?_
      refine OE.iconst X3 hx hby at_86 (1 : Int32) rfl ?_
      by_cases hc87 : (((p4.toUInt32 >>> ((1 : Int32) &&& 31).toUInt32).toInt32) % (3 : Int32)) = (1 : Int32)
      · skip
        refine OE.icmpNo X3 hx hby at_87 (teq hc87).2 ?_
        refine OE.aload X3 hx hby at_90 rfl rfl ?_
        refine OE.iload X3 hx hby at_92 rfl ?_
        refine OE.dload X3 hx hby at_94 rfl ?_
        have z20 : n0 ≤ T3.heap.size := (Nat.le_trans z2 K3.1)
        obtain ⟨cq21, kq21, qa21, qb21, qc21⟩ := isOf hZ rfl q3_0
        obtain ⟨_, _, ⟨T21, L21, k21, n21⟩, -, X21, ⟨Lc21, hQ21, l21, y21, z21⟩, st21⟩ := X3.virtualBack hx (y := (⟨"com/example/archerfish/archerfish/rank/CompensatedSums", "add", "(ID)V"⟩ : MethodName)) (z := (⟨"com/example/archerfish/archerfish/rank/CompensatedSums", "add", "(ID)V"⟩ : MethodName)) hown (mvT hZ (hw _ (List.mem_of_getElem? (i := 15) rfl))) (mvT hZ (hw _ (List.mem_of_getElem? (i := 16) rfl))) (notFace_of_selects (args := #[]) (mvT hZ (hw _ (List.mem_of_getElem? (i := 18) rfl)))) (mvT hZ (hw _ (List.mem_of_getElem? (i := 18) rfl))) (mvT hZ (hw _ (List.mem_of_getElem? (i := 17) rfl))) (by decide) (backOf (W := 0) (own_rm3_0 l Z a0 hw [] b1 xb r3_f r3_g 0 0 0 0 r3_kf r3_kg T3.heap n0 z20 q3_1 q3_2 q3_3 q3_4 g_r3_f g_r3_g (Ne.symm ne_b1_r3_f) (Ne.symm ne_b1_r3_g) h3_nfg (own_ok_of own_dz own_dz Db (by omega) (by omega) (by omega))) hZ (hw _ (List.mem_of_getElem? (i := 19) rfl)) (hw _ (List.mem_of_getElem? (i := 3) rfl)) (by decide) (by decide)) qa21 qc21 (g := (mkF m 96 #[.val (.int p1), .val (.int p2), .val (.int p3), .val (.int p4), .val (.double (4787326403894837248 : UInt64)), .second, .val (.double xa), .second, .val (.double xb), .second, .val (.double xc), .second, .val (.int (0 : Int32)), .val (.int (1 : Int32)), .val (.int (((p4.toUInt32 >>> ((1 : Int32) &&& 31).toUInt32).toInt32) % (3 : Int32))), .val (.ref b1), .unset, .unset] [(.double xb), (.int (0 : Int32)), (.ref b1)])) rfl (by rw [hml]; rfl) (Steps.refl _) (argsL := [(.int (0 : Int32)), (.double xb)]) (rest := []) (lenOf own_pd2 rfl) rfl (by show 2 * 0 + _ ≤ _; exact Nat.le_of_eq rfl) (hb hby at_96) (fun _ _ => ⟨rfl, rfl, (by decide : 3 + 0 ≤ _), (by decide : 6 + 0 ≤ _)⟩)
        dsimp only [Pt.U, Pt.locs, Pt.cells, Pt.slots] at X21 l21 y21 z21 st21 hQ21
        have yc21 : 3 = k21 := y21.symm
        have zc21 : 6 = n21 := z21.symm
        have lc21 := l21.symm
        subst lc21 yc21 zc21
        obtain ⟨r21_sn, r21_ln, rfl, Nq21, K21, q21_0, q21_1, q21_2, q21_3, h21_es, h21_el⟩ := hQ21
        refine OE.of (fun _ k => st21.trans k) ?_
        have N21 := Fr.app N3 Nq21
        show OE _ p e below s _ _ _ T21 (mkF m 99 #[.val (.int p1), .val (.int p2), .val (.int p3), .val (.int p4), .val (.double (4787326403894837248 : UInt64)), .second, .val (.double xa), .second, .val (.double xb), .second, .val (.double xc), .second, .val (.int (0 : Int32)), .val (.int (1 : Int32)), .val (.int (((p4.toUInt32 >>> ((1 : Int32) &&& 31).toUInt32).toInt32) % (3 : Int32))), .val (.ref b1), .unset, .unset] [])
        obtain ⟨Ds21, Dl21⟩ := own_A1 own_dz own_dz Db h21_es h21_el
        refine OE.aload X21 hx hby at_99 rfl rfl ?_
        refine OE.iload X21 hx hby at_101 rfl ?_
        refine OE.dload X21 hx hby at_103 rfl ?_
        have z22 : n0 ≤ T21.heap.size := (Nat.le_trans z20 K21.1)
        have f24 : Exa Z T21.heap b1 "com/example/archerfish/archerfish/rank/CompensatedSums" := (q3_0.keep K21)
        obtain ⟨cq23, kq23, qa23, qb23, qc23⟩ := isOf hZ rfl f24
        obtain ⟨_, _, ⟨T23, L23, k23, n23⟩, -, X23, ⟨Lc23, hQ23, l23, y23, z23⟩, st23⟩ := X21.virtualBack hx (y := (⟨"com/example/archerfish/archerfish/rank/CompensatedSums", "add", "(ID)V"⟩ : MethodName)) (z := (⟨"com/example/archerfish/archerfish/rank/CompensatedSums", "add", "(ID)V"⟩ : MethodName)) hown (mvT hZ (hw _ (List.mem_of_getElem? (i := 15) rfl))) (mvT hZ (hw _ (List.mem_of_getElem? (i := 16) rfl))) (notFace_of_selects (args := #[]) (mvT hZ (hw _ (List.mem_of_getElem? (i := 18) rfl)))) (mvT hZ (hw _ (List.mem_of_getElem? (i := 18) rfl))) (mvT hZ (hw _ (List.mem_of_getElem? (i := 17) rfl))) (by decide) (backOf (W := 0) (own_rm3_0 l Z a0 hw [] b1 xa r3_f r3_g r21_sn 0 r21_ln 0 r3_kf r3_kg T21.heap n0 z22 q21_0 q21_1 q21_2 q21_3 g_r3_f g_r3_g (Ne.symm ne_b1_r3_f) (Ne.symm ne_b1_r3_g) h3_nfg (own_ok_of Ds21 Dl21 Da (by omega) (by omega) (by omega))) hZ (hw _ (List.mem_of_getElem? (i := 19) rfl)) (hw _ (List.mem_of_getElem? (i := 3) rfl)) (by decide) (by decide)) qa23 qc23 (g := (mkF m 105 #[.val (.int p1), .val (.int p2), .val (.int p3), .val (.int p4), .val (.double (4787326403894837248 : UInt64)), .second, .val (.double xa), .second, .val (.double xb), .second, .val (.double xc), .second, .val (.int (0 : Int32)), .val (.int (1 : Int32)), .val (.int (((p4.toUInt32 >>> ((1 : Int32) &&& 31).toUInt32).toInt32) % (3 : Int32))), .val (.ref b1), .unset, .unset] [(.double xa), (.int (0 : Int32)), (.ref b1)])) rfl (by rw [hml]; rfl) (Steps.refl _) (argsL := [(.int (0 : Int32)), (.double xa)]) (rest := []) (lenOf own_pd2 rfl) rfl (by show 2 * 0 + _ ≤ _; exact Nat.le_of_eq rfl) (hb hby at_105) (fun _ _ => ⟨rfl, rfl, (by decide : 3 + 0 ≤ _), (by decide : 6 + 0 ≤ _)⟩)
        dsimp only [Pt.U, Pt.locs, Pt.cells, Pt.slots] at X23 l23 y23 z23 st23 hQ23
        have yc23 : 3 = k23 := y23.symm
        have zc23 : 6 = n23 := z23.symm
        have lc23 := l23.symm
        subst lc23 yc23 zc23
        obtain ⟨r23_sn, r23_ln, rfl, Nq23, K23, q23_0, q23_1, q23_2, q23_3, h23_es, h23_el⟩ := hQ23
        refine OE.of (fun _ k => st23.trans k) ?_
        have N23 := Fr.app N21 Nq23
        show OE _ p e below s _ _ _ T23 (mkF m 108 #[.val (.int p1), .val (.int p2), .val (.int p3), .val (.int p4), .val (.double (4787326403894837248 : UInt64)), .second, .val (.double xa), .second, .val (.double xb), .second, .val (.double xc), .second, .val (.int (0 : Int32)), .val (.int (1 : Int32)), .val (.int (((p4.toUInt32 >>> ((1 : Int32) &&& 31).toUInt32).toInt32) % (3 : Int32))), .val (.ref b1), .unset, .unset] [])
        obtain ⟨nn23, hn23, Ds23, Dl23⟩ := own_A2 Ds21 Dl21 Da (by omega) (by omega) (by omega) h23_es h23_el
        refine OE.aload X23 hx hby at_108 rfl rfl ?_
        refine OE.iload X23 hx hby at_110 rfl ?_
        refine OE.dload X23 hx hby at_112 rfl ?_
        have z25 : n0 ≤ T23.heap.size := (Nat.le_trans z22 K23.1)
        have f27 : Exa Z T23.heap b1 "com/example/archerfish/archerfish/rank/CompensatedSums" := (f24.keep K23)
        obtain ⟨cq26, kq26, qa26, qb26, qc26⟩ := isOf hZ rfl f27
        obtain ⟨_, _, ⟨T26, L26, k26, n26⟩, -, X26, ⟨Lc26, hQ26, l26, y26, z26⟩, st26⟩ := X23.virtualBack hx (y := (⟨"com/example/archerfish/archerfish/rank/CompensatedSums", "add", "(ID)V"⟩ : MethodName)) (z := (⟨"com/example/archerfish/archerfish/rank/CompensatedSums", "add", "(ID)V"⟩ : MethodName)) hown (mvT hZ (hw _ (List.mem_of_getElem? (i := 15) rfl))) (mvT hZ (hw _ (List.mem_of_getElem? (i := 16) rfl))) (notFace_of_selects (args := #[]) (mvT hZ (hw _ (List.mem_of_getElem? (i := 18) rfl)))) (mvT hZ (hw _ (List.mem_of_getElem? (i := 18) rfl))) (mvT hZ (hw _ (List.mem_of_getElem? (i := 17) rfl))) (by decide) (backOf (W := 0) (own_rm3_0 l Z a0 hw [] b1 xc r3_f r3_g r23_sn 0 r23_ln 0 r3_kf r3_kg T23.heap n0 z25 q23_0 q23_1 q23_2 q23_3 g_r3_f g_r3_g (Ne.symm ne_b1_r3_f) (Ne.symm ne_b1_r3_g) h3_nfg (own_ok_of Ds23 Dl23 Dc (by omega) (by omega) (by omega))) hZ (hw _ (List.mem_of_getElem? (i := 19) rfl)) (hw _ (List.mem_of_getElem? (i := 3) rfl)) (by decide) (by decide)) qa26 qc26 (g := (mkF m 114 #[.val (.int p1), .val (.int p2), .val (.int p3), .val (.int p4), .val (.double (4787326403894837248 : UInt64)), .second, .val (.double xa), .second, .val (.double xb), .second, .val (.double xc), .second, .val (.int (0 : Int32)), .val (.int (1 : Int32)), .val (.int (((p4.toUInt32 >>> ((1 : Int32) &&& 31).toUInt32).toInt32) % (3 : Int32))), .val (.ref b1), .unset, .unset] [(.double xc), (.int (0 : Int32)), (.ref b1)])) rfl (by rw [hml]; rfl) (Steps.refl _) (argsL := [(.int (0 : Int32)), (.double xc)]) (rest := []) (lenOf own_pd2 rfl) rfl (by show 2 * 0 + _ ≤ _; exact Nat.le_of_eq rfl) (hb hby at_114) (fun _ _ => ⟨rfl, rfl, (by decide : 3 + 0 ≤ _), (by decide : 6 + 0 ≤ _)⟩)
        dsimp only [Pt.U, Pt.locs, Pt.cells, Pt.slots] at X26 l26 y26 z26 st26 hQ26
        have yc26 : 3 = k26 := y26.symm
        have zc26 : 6 = n26 := z26.symm
        have lc26 := l26.symm
        subst lc26 yc26 zc26
        obtain ⟨r26_sn, r26_ln, rfl, Nq26, K26, q26_0, q26_1, q26_2, q26_3, h26_es, h26_el⟩ := hQ26
        refine OE.of (fun _ k => st26.trans k) ?_
        have N26 := Fr.app N23 Nq26
        show OE _ p e below s _ _ _ T26 (mkF m 117 #[.val (.int p1), .val (.int p2), .val (.int p3), .val (.int p4), .val (.double (4787326403894837248 : UInt64)), .second, .val (.double xa), .second, .val (.double xb), .second, .val (.double xc), .second, .val (.int (0 : Int32)), .val (.int (1 : Int32)), .val (.int (((p4.toUInt32 >>> ((1 : Int32) &&& 31).toUInt32).toInt32) % (3 : Int32))), .val (.ref b1), .unset, .unset] [])
        obtain ⟨Ds26, Dl26⟩ := own_A3 Ds23 Dl23 Dc (by omega) h26_es h26_el
        refine OE.goto X26 hx hby (pc' := 147) at_117 (h := ?_)
        refine OE.aload X26 hx hby at_147 rfl rfl ?_
        refine OE.iload X26 hx hby at_149 rfl ?_
        refine OE.iloadN X26 hx hby at_151 rfl ?_
        refine OE.i2d X26 hx hby at_152 ?_
        have hC := own_nb p3
        have z28 : n0 ≤ T26.heap.size := (Nat.le_trans z25 K26.1)
        have f30 : Exa Z T26.heap b1 "com/example/archerfish/archerfish/rank/CompensatedSums" := (f27.keep K26)
        obtain ⟨cq29, kq29, qa29, qb29, qc29⟩ := isOf hZ rfl f30
        obtain ⟨_, _, ⟨T29, L29, k29, n29⟩, -, X29, ⟨Lc29, hQ29, l29, y29, z29⟩, st29⟩ := X26.virtualBack hx (y := (⟨"com/example/archerfish/archerfish/rank/CompensatedSums", "add", "(ID)V"⟩ : MethodName)) (z := (⟨"com/example/archerfish/archerfish/rank/CompensatedSums", "add", "(ID)V"⟩ : MethodName)) hown (mvT hZ (hw _ (List.mem_of_getElem? (i := 15) rfl))) (mvT hZ (hw _ (List.mem_of_getElem? (i := 16) rfl))) (notFace_of_selects (args := #[]) (mvT hZ (hw _ (List.mem_of_getElem? (i := 18) rfl)))) (mvT hZ (hw _ (List.mem_of_getElem? (i := 18) rfl))) (mvT hZ (hw _ (List.mem_of_getElem? (i := 17) rfl))) (by decide) (backOf (W := 0) (own_rm3_1 l Z a0 hw [] b1 (FP.i2d p3) r3_f r3_g r26_sn 0 r26_ln 0 r3_kf r3_kg T26.heap n0 z28 q26_0 q26_1 q26_2 q26_3 g_r3_f g_r3_g (Ne.symm ne_b1_r3_f) (Ne.symm ne_b1_r3_g) h3_nfg (own_ok_of own_dz own_dz (Jvm.FP.Core.i2d_int p3) (by omega) (by omega) (by omega))) hZ (hw _ (List.mem_of_getElem? (i := 19) rfl)) (hw _ (List.mem_of_getElem? (i := 3) rfl)) (by decide) (by decide)) qa29 qc29 (g := (mkF m 153 #[.val (.int p1), .val (.int p2), .val (.int p3), .val (.int p4), .val (.double (4787326403894837248 : UInt64)), .second, .val (.double xa), .second, .val (.double xb), .second, .val (.double xc), .second, .val (.int (0 : Int32)), .val (.int (1 : Int32)), .val (.int (((p4.toUInt32 >>> ((1 : Int32) &&& 31).toUInt32).toInt32) % (3 : Int32))), .val (.ref b1), .unset, .unset] [(.double (FP.i2d p3)), (.int (1 : Int32)), (.ref b1)])) rfl (by rw [hml]; rfl) (Steps.refl _) (argsL := [(.int (1 : Int32)), (.double (FP.i2d p3))]) (rest := []) (lenOf own_pd2 rfl) rfl (by show 2 * 0 + _ ≤ _; exact Nat.le_of_eq rfl) (hb hby at_153) (fun _ _ => ⟨rfl, rfl, (by decide : 3 + 0 ≤ _), (by decide : 6 + 0 ≤ _)⟩)
        dsimp only [Pt.U, Pt.locs, Pt.cells, Pt.slots] at X29 l29 y29 z29 st29 hQ29
        have yc29 : 3 = k29 := y29.symm
        have zc29 : 6 = n29 := z29.symm
        have lc29 := l29.symm
        subst lc29 yc29 zc29
        obtain ⟨r29_sn, r29_ln, rfl, Nq29, K29, q29_0, q29_1, q29_2, q29_3, h29_es, h29_el⟩ := hQ29
        refine OE.of (fun _ k => st29.trans k) ?_
        have N29 := Fr.app N26 Nq29
        show OE _ p e below s _ _ _ T29 (mkF m 156 #[.val (.int p1), .val (.int p2), .val (.int p3), .val (.int p4), .val (.double (4787326403894837248 : UInt64)), .second, .val (.double xa), .second, .val (.double xb), .second, .val (.double xc), .second, .val (.int (0 : Int32)), .val (.int (1 : Int32)), .val (.int (((p4.toUInt32 >>> ((1 : Int32) &&& 31).toUInt32).toInt32) % (3 : Int32))), .val (.ref b1), .unset, .unset] [])
        obtain ⟨Ds29, Dl29⟩ := own_A1 own_dz own_dz (Jvm.FP.Core.i2d_int p3) h29_es h29_el
        refine OE.aload X29 hx hby at_156 rfl rfl ?_
        refine OE.iload X29 hx hby at_158 rfl ?_
        have Dtm := Jvm.FP.Core.dadd_int Ds26 Dl26 (by omega)
        have z31 : n0 ≤ T29.heap.size := (Nat.le_trans z28 K29.1)
        have f33 : Exa Z T29.heap b1 "com/example/archerfish/archerfish/rank/CompensatedSums" := (f30.keep K29)
        obtain ⟨cq32, kq32, qa32, qb32, qc32⟩ := isOf hZ rfl f33
        obtain ⟨_, _, ⟨T32, L32, k32, n32⟩, -, X32, ⟨Lc32, hQ32, l32, y32, z32⟩, st32⟩ := X29.virtualBack hx (y := (⟨"com/example/archerfish/archerfish/rank/CompensatedSums", "total", "(I)D"⟩ : MethodName)) (z := (⟨"com/example/archerfish/archerfish/rank/CompensatedSums", "total", "(I)D"⟩ : MethodName)) hown (mvT hZ (hw _ (List.mem_of_getElem? (i := 24) rfl))) (mvT hZ (hw _ (List.mem_of_getElem? (i := 25) rfl))) (notFace_of_selects (args := #[]) (mvT hZ (hw _ (List.mem_of_getElem? (i := 27) rfl)))) (mvT hZ (hw _ (List.mem_of_getElem? (i := 27) rfl))) (mvT hZ (hw _ (List.mem_of_getElem? (i := 26) rfl))) (by decide) (backOf (W := 0) (own_rm5_0 l Z a0 hw [] b1 r3_f r3_g r26_sn r29_sn r26_ln r29_ln r3_kf r3_kg T29.heap n0 z31 q29_0 q29_1 q29_2 q29_3 (own_nn Dtm)) hZ (hw _ (List.mem_of_getElem? (i := 28) rfl)) (hw _ (List.mem_of_getElem? (i := 3) rfl)) (by decide) (by decide)) qa32 qc32 (g := (mkF m 160 #[.val (.int p1), .val (.int p2), .val (.int p3), .val (.int p4), .val (.double (4787326403894837248 : UInt64)), .second, .val (.double xa), .second, .val (.double xb), .second, .val (.double xc), .second, .val (.int (0 : Int32)), .val (.int (1 : Int32)), .val (.int (((p4.toUInt32 >>> ((1 : Int32) &&& 31).toUInt32).toInt32) % (3 : Int32))), .val (.ref b1), .unset, .unset] [(.int (0 : Int32)), (.ref b1)])) rfl (by rw [hml]; rfl) (Steps.refl _) (argsL := [(.int (0 : Int32))]) (rest := []) (lenOf own_pd3 rfl) rfl (by show 2 * 0 + _ ≤ _; exact Nat.le_of_eq rfl) (hb hby at_160) (fun _ _ => ⟨rfl, rfl, (by decide : 3 + 0 ≤ _), (by decide : 6 + 0 ≤ _)⟩)
        dsimp only [Pt.U, Pt.locs, Pt.cells, Pt.slots] at X32 l32 y32 z32 st32 hQ32
        have yc32 : 3 = k32 := y32.symm
        have zc32 : 6 = n32 := z32.symm
        have lc32 := l32.symm
        subst lc32 yc32 zc32
        obtain ⟨rfl, Nq32, eq32⟩ := hQ32
        refine OE.of (fun _ k => st32.trans k) ?_
        have N32 := Fr.app N29 Nq32
        show OE _ p e below s _ _ _ T32 (mkF m 163 #[.val (.int p1), .val (.int p2), .val (.int p3), .val (.int p4), .val (.double (4787326403894837248 : UInt64)), .second, .val (.double xa), .second, .val (.double xb), .second, .val (.double xc), .second, .val (.int (0 : Int32)), .val (.int (1 : Int32)), .val (.int (((p4.toUInt32 >>> ((1 : Int32) &&& 31).toUInt32).toInt32) % (3 : Int32))), .val (.ref b1), .unset, .unset] [(.double (FP.dadd r26_sn r26_ln))])
        have Dvm : Jvm.FP.Core.DInt p2.toInt (FP.dadd r26_sn r26_ln) := by have q := Dtm; rwa [show _ + _ = p2.toInt by omega] at q
        refine OE.dload X32 hx hby at_163 rfl ?_
        refine OE.dcmp X32 hx hby at_165 ?_
        refine OE.ifNo X32 hx hby at_166 (teq ((own_eq0 Dvm Db) : (cmpValue (FP.dcmp (FP.dadd r26_sn r26_ln) xb) .l) = (0 : Int32))).2 ?_
        refine OE.iconst X32 hx hby at_169 (1 : Int32) rfl ?_
        refine OE.goto X32 hx hby (pc' := 174) at_170 (h := ?_)
        refine OE.istore X32 hx hby at_174 (l' := #[.val (.int p1), .val (.int p2), .val (.int p3), .val (.int p4), .val (.double (4787326403894837248 : UInt64)), .second, .val (.double xa), .second, .val (.double xb), .second, .val (.double xc), .second, .val (.int (0 : Int32)), .val (.int (1 : Int32)), .val (.int (((p4.toUInt32 >>> ((1 : Int32) &&& 31).toUInt32).toInt32) % (3 : Int32))), .val (.ref b1), .val (.int (1 : Int32)), .unset]) rfl ?_
        refine OE.aload X32 hx hby at_176 rfl rfl ?_
        refine OE.iload X32 hx hby at_178 rfl ?_
        have Dtz := Jvm.FP.Core.dadd_int Ds29 Dl29 (by omega)
        obtain ⟨cq34, kq34, qa34, qb34, qc34⟩ := isOf hZ eq32 f33
        obtain ⟨_, _, ⟨T34, L34, k34, n34⟩, -, X34, ⟨Lc34, hQ34, l34, y34, z34⟩, st34⟩ := X32.virtualBack hx (y := (⟨"com/example/archerfish/archerfish/rank/CompensatedSums", "total", "(I)D"⟩ : MethodName)) (z := (⟨"com/example/archerfish/archerfish/rank/CompensatedSums", "total", "(I)D"⟩ : MethodName)) hown (mvT hZ (hw _ (List.mem_of_getElem? (i := 24) rfl))) (mvT hZ (hw _ (List.mem_of_getElem? (i := 25) rfl))) (notFace_of_selects (args := #[]) (mvT hZ (hw _ (List.mem_of_getElem? (i := 27) rfl)))) (mvT hZ (hw _ (List.mem_of_getElem? (i := 27) rfl))) (mvT hZ (hw _ (List.mem_of_getElem? (i := 26) rfl))) (by decide) (backOf (W := 0) (own_rm5_1 l Z a0 hw [] b1 r3_f r3_g r26_sn r29_sn r26_ln r29_ln r3_kf r3_kg T29.heap n0 z31 q29_0 q29_1 q29_2 q29_3 (own_nn Dtz)) hZ (hw _ (List.mem_of_getElem? (i := 28) rfl)) (hw _ (List.mem_of_getElem? (i := 3) rfl)) (by decide) (by decide)) qa34 qc34 (g := (mkF m 180 #[.val (.int p1), .val (.int p2), .val (.int p3), .val (.int p4), .val (.double (4787326403894837248 : UInt64)), .second, .val (.double xa), .second, .val (.double xb), .second, .val (.double xc), .second, .val (.int (0 : Int32)), .val (.int (1 : Int32)), .val (.int (((p4.toUInt32 >>> ((1 : Int32) &&& 31).toUInt32).toInt32) % (3 : Int32))), .val (.ref b1), .val (.int (1 : Int32)), .unset] [(.int (1 : Int32)), (.ref b1)])) rfl (by rw [hml]; rfl) (Steps.refl _) (argsL := [(.int (1 : Int32))]) (rest := []) (lenOf own_pd3 rfl) rfl (by show 2 * 0 + _ ≤ _; exact Nat.le_of_eq rfl) (hb hby at_180) (fun _ _ => ⟨rfl, eq32, (by decide : 3 + 0 ≤ _), (by decide : 6 + 0 ≤ _)⟩)
        dsimp only [Pt.U, Pt.locs, Pt.cells, Pt.slots] at X34 l34 y34 z34 st34 hQ34
        have yc34 : 3 = k34 := y34.symm
        have zc34 : 6 = n34 := z34.symm
        have lc34 := l34.symm
        subst lc34 yc34 zc34
        obtain ⟨rfl, Nq34, eq34⟩ := hQ34
        refine OE.of (fun _ k => st34.trans k) ?_
        have N34 := Fr.app N32 Nq34
        show OE _ p e below s _ _ _ T34 (mkF m 183 #[.val (.int p1), .val (.int p2), .val (.int p3), .val (.int p4), .val (.double (4787326403894837248 : UInt64)), .second, .val (.double xa), .second, .val (.double xb), .second, .val (.double xc), .second, .val (.int (0 : Int32)), .val (.int (1 : Int32)), .val (.int (((p4.toUInt32 >>> ((1 : Int32) &&& 31).toUInt32).toInt32) % (3 : Int32))), .val (.ref b1), .val (.int (1 : Int32)), .unset] [(.double (FP.dadd r29_sn r29_ln))])
        have Dvz : Jvm.FP.Core.DInt p3.toInt (FP.dadd r29_sn r29_ln) := by have q := Dtz; rwa [show _ + _ = p3.toInt by omega] at q
        refine OE.iloadN X34 hx hby at_183 rfl ?_
        refine OE.i2d X34 hx hby at_184 ?_
        refine OE.dcmp X34 hx hby at_185 ?_
        refine OE.ifNo X34 hx hby at_186 (teq ((own_eq0 Dvz (Jvm.FP.Core.i2d_int p3)) : (cmpValue (FP.dcmp (FP.dadd r29_sn r29_ln) (FP.i2d p3)) .l) = (0 : Int32))).2 ?_
        refine OE.iconst X34 hx hby at_189 (1 : Int32) rfl ?_
        refine OE.goto X34 hx hby (pc' := 194) at_190 (h := ?_)
        refine OE.istore X34 hx hby at_194 (l' := #[.val (.int p1), .val (.int p2), .val (.int p3), .val (.int p4), .val (.double (4787326403894837248 : UInt64)), .second, .val (.double xa), .second, .val (.double xb), .second, .val (.double xc), .second, .val (.int (0 : Int32)), .val (.int (1 : Int32)), .val (.int (((p4.toUInt32 >>> ((1 : Int32) &&& 31).toUInt32).toInt32) % (3 : Int32))), .val (.ref b1), .val (.int (1 : Int32)), .val (.int (1 : Int32))]) rfl ?_
        refine OE.iload X34 hx hby at_196 rfl ?_
        refine OE.ifNo X34 hx hby at_198 (feq (by decide : ¬ ((1 : Int32) = (0 : Int32)))).1 ?_
        refine OE.iload X34 hx hby at_201 rfl ?_
        refine OE.ifNo X34 hx hby at_203 (feq (by decide : ¬ ((1 : Int32) = (0 : Int32)))).1 ?_
        refine OE.iconst X34 hx hby at_206 (1 : Int32) rfl ?_
        refine OE.goto X34 hx hby (pc' := 211) at_207 (h := ?_)
        refine OE.retN X34 hx (t := .boolean) Bd.returns (by simp) Bd.notSynchronized (hb hby at_211) (by decide) (by decide) ?_
        rw [eq34]
        exact ⟨rfl, N34⟩
      · skip
        refine OE.icmpYes X3 hx hby (pc' := 120) at_87 (feq hc87).2 (h := ?_)
        refine OE.aload X3 hx hby at_120 rfl rfl ?_
        refine OE.iload X3 hx hby at_122 rfl ?_
        refine OE.dload X3 hx hby at_124 rfl ?_
        have z35 : n0 ≤ T3.heap.size := (Nat.le_trans z2 K3.1)
        obtain ⟨cq36, kq36, qa36, qb36, qc36⟩ := isOf hZ rfl q3_0
        obtain ⟨_, _, ⟨T36, L36, k36, n36⟩, -, X36, ⟨Lc36, hQ36, l36, y36, z36⟩, st36⟩ := X3.virtualBack hx (y := (⟨"com/example/archerfish/archerfish/rank/CompensatedSums", "add", "(ID)V"⟩ : MethodName)) (z := (⟨"com/example/archerfish/archerfish/rank/CompensatedSums", "add", "(ID)V"⟩ : MethodName)) hown (mvT hZ (hw _ (List.mem_of_getElem? (i := 15) rfl))) (mvT hZ (hw _ (List.mem_of_getElem? (i := 16) rfl))) (notFace_of_selects (args := #[]) (mvT hZ (hw _ (List.mem_of_getElem? (i := 18) rfl)))) (mvT hZ (hw _ (List.mem_of_getElem? (i := 18) rfl))) (mvT hZ (hw _ (List.mem_of_getElem? (i := 17) rfl))) (by decide) (backOf (W := 0) (own_rm3_0 l Z a0 hw [] b1 xa r3_f r3_g 0 0 0 0 r3_kf r3_kg T3.heap n0 z35 q3_1 q3_2 q3_3 q3_4 g_r3_f g_r3_g (Ne.symm ne_b1_r3_f) (Ne.symm ne_b1_r3_g) h3_nfg (own_ok_of own_dz own_dz Da (by omega) (by omega) (by omega))) hZ (hw _ (List.mem_of_getElem? (i := 19) rfl)) (hw _ (List.mem_of_getElem? (i := 3) rfl)) (by decide) (by decide)) qa36 qc36 (g := (mkF m 126 #[.val (.int p1), .val (.int p2), .val (.int p3), .val (.int p4), .val (.double (4787326403894837248 : UInt64)), .second, .val (.double xa), .second, .val (.double xb), .second, .val (.double xc), .second, .val (.int (0 : Int32)), .val (.int (1 : Int32)), .val (.int (((p4.toUInt32 >>> ((1 : Int32) &&& 31).toUInt32).toInt32) % (3 : Int32))), .val (.ref b1), .unset, .unset] [(.double xa), (.int (0 : Int32)), (.ref b1)])) rfl (by rw [hml]; rfl) (Steps.refl _) (argsL := [(.int (0 : Int32)), (.double xa)]) (rest := []) (lenOf own_pd2 rfl) rfl (by show 2 * 0 + _ ≤ _; exact Nat.le_of_eq rfl) (hb hby at_126) (fun _ _ => ⟨rfl, rfl, (by decide : 3 + 0 ≤ _), (by decide : 6 + 0 ≤ _)⟩)
        dsimp only [Pt.U, Pt.locs, Pt.cells, Pt.slots] at X36 l36 y36 z36 st36 hQ36
        have yc36 : 3 = k36 := y36.symm
        have zc36 : 6 = n36 := z36.symm
        have lc36 := l36.symm
        subst lc36 yc36 zc36
        obtain ⟨r36_sn, r36_ln, rfl, Nq36, K36, q36_0, q36_1, q36_2, q36_3, h36_es, h36_el⟩ := hQ36
        refine OE.of (fun _ k => st36.trans k) ?_
        have N36 := Fr.app N3 Nq36
        show OE _ p e below s _ _ _ T36 (mkF m 129 #[.val (.int p1), .val (.int p2), .val (.int p3), .val (.int p4), .val (.double (4787326403894837248 : UInt64)), .second, .val (.double xa), .second, .val (.double xb), .second, .val (.double xc), .second, .val (.int (0 : Int32)), .val (.int (1 : Int32)), .val (.int (((p4.toUInt32 >>> ((1 : Int32) &&& 31).toUInt32).toInt32) % (3 : Int32))), .val (.ref b1), .unset, .unset] [])
        obtain ⟨Ds36, Dl36⟩ := own_A1 own_dz own_dz Da h36_es h36_el
        refine OE.aload X36 hx hby at_129 rfl rfl ?_
        refine OE.iload X36 hx hby at_131 rfl ?_
        refine OE.dload X36 hx hby at_133 rfl ?_
        have z37 : n0 ≤ T36.heap.size := (Nat.le_trans z35 K36.1)
        have f39 : Exa Z T36.heap b1 "com/example/archerfish/archerfish/rank/CompensatedSums" := (q3_0.keep K36)
        obtain ⟨cq38, kq38, qa38, qb38, qc38⟩ := isOf hZ rfl f39
        obtain ⟨_, _, ⟨T38, L38, k38, n38⟩, -, X38, ⟨Lc38, hQ38, l38, y38, z38⟩, st38⟩ := X36.virtualBack hx (y := (⟨"com/example/archerfish/archerfish/rank/CompensatedSums", "add", "(ID)V"⟩ : MethodName)) (z := (⟨"com/example/archerfish/archerfish/rank/CompensatedSums", "add", "(ID)V"⟩ : MethodName)) hown (mvT hZ (hw _ (List.mem_of_getElem? (i := 15) rfl))) (mvT hZ (hw _ (List.mem_of_getElem? (i := 16) rfl))) (notFace_of_selects (args := #[]) (mvT hZ (hw _ (List.mem_of_getElem? (i := 18) rfl)))) (mvT hZ (hw _ (List.mem_of_getElem? (i := 18) rfl))) (mvT hZ (hw _ (List.mem_of_getElem? (i := 17) rfl))) (by decide) (backOf (W := 0) (own_rm3_0 l Z a0 hw [] b1 xc r3_f r3_g r36_sn 0 r36_ln 0 r3_kf r3_kg T36.heap n0 z37 q36_0 q36_1 q36_2 q36_3 g_r3_f g_r3_g (Ne.symm ne_b1_r3_f) (Ne.symm ne_b1_r3_g) h3_nfg (own_ok_of Ds36 Dl36 Dc (by omega) (by omega) (by omega))) hZ (hw _ (List.mem_of_getElem? (i := 19) rfl)) (hw _ (List.mem_of_getElem? (i := 3) rfl)) (by decide) (by decide)) qa38 qc38 (g := (mkF m 135 #[.val (.int p1), .val (.int p2), .val (.int p3), .val (.int p4), .val (.double (4787326403894837248 : UInt64)), .second, .val (.double xa), .second, .val (.double xb), .second, .val (.double xc), .second, .val (.int (0 : Int32)), .val (.int (1 : Int32)), .val (.int (((p4.toUInt32 >>> ((1 : Int32) &&& 31).toUInt32).toInt32) % (3 : Int32))), .val (.ref b1), .unset, .unset] [(.double xc), (.int (0 : Int32)), (.ref b1)])) rfl (by rw [hml]; rfl) (Steps.refl _) (argsL := [(.int (0 : Int32)), (.double xc)]) (rest := []) (lenOf own_pd2 rfl) rfl (by show 2 * 0 + _ ≤ _; exact Nat.le_of_eq rfl) (hb hby at_135) (fun _ _ => ⟨rfl, rfl, (by decide : 3 + 0 ≤ _), (by decide : 6 + 0 ≤ _)⟩)
        dsimp only [Pt.U, Pt.locs, Pt.cells, Pt.slots] at X38 l38 y38 z38 st38 hQ38
        have yc38 : 3 = k38 := y38.symm
        have zc38 : 6 = n38 := z38.symm
        have lc38 := l38.symm
        subst lc38 yc38 zc38
        obtain ⟨r38_sn, r38_ln, rfl, Nq38, K38, q38_0, q38_1, q38_2, q38_3, h38_es, h38_el⟩ := hQ38
        refine OE.of (fun _ k => st38.trans k) ?_
        have N38 := Fr.app N36 Nq38
        show OE _ p e below s _ _ _ T38 (mkF m 138 #[.val (.int p1), .val (.int p2), .val (.int p3), .val (.int p4), .val (.double (4787326403894837248 : UInt64)), .second, .val (.double xa), .second, .val (.double xb), .second, .val (.double xc), .second, .val (.int (0 : Int32)), .val (.int (1 : Int32)), .val (.int (((p4.toUInt32 >>> ((1 : Int32) &&& 31).toUInt32).toInt32) % (3 : Int32))), .val (.ref b1), .unset, .unset] [])
        obtain ⟨Ds38, Dl38⟩ := own_A3 Ds36 Dl36 Dc (by omega) h38_es h38_el
        rw [show A + -A = 0 by omega] at Ds38
        refine OE.aload X38 hx hby at_138 rfl rfl ?_
        refine OE.iload X38 hx hby at_140 rfl ?_
        refine OE.dload X38 hx hby at_142 rfl ?_
        have z40 : n0 ≤ T38.heap.size := (Nat.le_trans z37 K38.1)
        have f42 : Exa Z T38.heap b1 "com/example/archerfish/archerfish/rank/CompensatedSums" := (f39.keep K38)
        obtain ⟨cq41, kq41, qa41, qb41, qc41⟩ := isOf hZ rfl f42
        obtain ⟨_, _, ⟨T41, L41, k41, n41⟩, -, X41, ⟨Lc41, hQ41, l41, y41, z41⟩, st41⟩ := X38.virtualBack hx (y := (⟨"com/example/archerfish/archerfish/rank/CompensatedSums", "add", "(ID)V"⟩ : MethodName)) (z := (⟨"com/example/archerfish/archerfish/rank/CompensatedSums", "add", "(ID)V"⟩ : MethodName)) hown (mvT hZ (hw _ (List.mem_of_getElem? (i := 15) rfl))) (mvT hZ (hw _ (List.mem_of_getElem? (i := 16) rfl))) (notFace_of_selects (args := #[]) (mvT hZ (hw _ (List.mem_of_getElem? (i := 18) rfl)))) (mvT hZ (hw _ (List.mem_of_getElem? (i := 18) rfl))) (mvT hZ (hw _ (List.mem_of_getElem? (i := 17) rfl))) (by decide) (backOf (W := 0) (own_rm3_0 l Z a0 hw [] b1 xb r3_f r3_g r38_sn 0 r38_ln 0 r3_kf r3_kg T38.heap n0 z40 q38_0 q38_1 q38_2 q38_3 g_r3_f g_r3_g (Ne.symm ne_b1_r3_f) (Ne.symm ne_b1_r3_g) h3_nfg (own_ok_of Ds38 Dl38 Db (by omega) (by omega) (by omega))) hZ (hw _ (List.mem_of_getElem? (i := 19) rfl)) (hw _ (List.mem_of_getElem? (i := 3) rfl)) (by decide) (by decide)) qa41 qc41 (g := (mkF m 144 #[.val (.int p1), .val (.int p2), .val (.int p3), .val (.int p4), .val (.double (4787326403894837248 : UInt64)), .second, .val (.double xa), .second, .val (.double xb), .second, .val (.double xc), .second, .val (.int (0 : Int32)), .val (.int (1 : Int32)), .val (.int (((p4.toUInt32 >>> ((1 : Int32) &&& 31).toUInt32).toInt32) % (3 : Int32))), .val (.ref b1), .unset, .unset] [(.double xb), (.int (0 : Int32)), (.ref b1)])) rfl (by rw [hml]; rfl) (Steps.refl _) (argsL := [(.int (0 : Int32)), (.double xb)]) (rest := []) (lenOf own_pd2 rfl) rfl (by show 2 * 0 + _ ≤ _; exact Nat.le_of_eq rfl) (hb hby at_144) (fun _ _ => ⟨rfl, rfl, (by decide : 3 + 0 ≤ _), (by decide : 6 + 0 ≤ _)⟩)
        dsimp only [Pt.U, Pt.locs, Pt.cells, Pt.slots] at X41 l41 y41 z41 st41 hQ41
        have yc41 : 3 = k41 := y41.symm
        have zc41 : 6 = n41 := z41.symm
        have lc41 := l41.symm
        subst lc41 yc41 zc41
        obtain ⟨r41_sn, r41_ln, rfl, Nq41, K41, q41_0, q41_1, q41_2, q41_3, h41_es, h41_el⟩ := hQ41
        refine OE.of (fun _ k => st41.trans k) ?_
        have N41 := Fr.app N38 Nq41
        show OE _ p e below s _ _ _ T41 (mkF m 147 #[.val (.int p1), .val (.int p2), .val (.int p3), .val (.int p4), .val (.double (4787326403894837248 : UInt64)), .second, .val (.double xa), .second, .val (.double xb), .second, .val (.double xc), .second, .val (.int (0 : Int32)), .val (.int (1 : Int32)), .val (.int (((p4.toUInt32 >>> ((1 : Int32) &&& 31).toUInt32).toInt32) % (3 : Int32))), .val (.ref b1), .unset, .unset] [])
        obtain ⟨Ds41, Dl41⟩ := own_A1 Ds38 Dl38 Db h41_es h41_el
        refine OE.aload X41 hx hby at_147 rfl rfl ?_
        refine OE.iload X41 hx hby at_149 rfl ?_
        refine OE.iloadN X41 hx hby at_151 rfl ?_
        refine OE.i2d X41 hx hby at_152 ?_
        have hC := own_nb p3
        have z43 : n0 ≤ T41.heap.size := (Nat.le_trans z40 K41.1)
        have f45 : Exa Z T41.heap b1 "com/example/archerfish/archerfish/rank/CompensatedSums" := (f42.keep K41)
        obtain ⟨cq44, kq44, qa44, qb44, qc44⟩ := isOf hZ rfl f45
        obtain ⟨_, _, ⟨T44, L44, k44, n44⟩, -, X44, ⟨Lc44, hQ44, l44, y44, z44⟩, st44⟩ := X41.virtualBack hx (y := (⟨"com/example/archerfish/archerfish/rank/CompensatedSums", "add", "(ID)V"⟩ : MethodName)) (z := (⟨"com/example/archerfish/archerfish/rank/CompensatedSums", "add", "(ID)V"⟩ : MethodName)) hown (mvT hZ (hw _ (List.mem_of_getElem? (i := 15) rfl))) (mvT hZ (hw _ (List.mem_of_getElem? (i := 16) rfl))) (notFace_of_selects (args := #[]) (mvT hZ (hw _ (List.mem_of_getElem? (i := 18) rfl)))) (mvT hZ (hw _ (List.mem_of_getElem? (i := 18) rfl))) (mvT hZ (hw _ (List.mem_of_getElem? (i := 17) rfl))) (by decide) (backOf (W := 0) (own_rm3_1 l Z a0 hw [] b1 (FP.i2d p3) r3_f r3_g r41_sn 0 r41_ln 0 r3_kf r3_kg T41.heap n0 z43 q41_0 q41_1 q41_2 q41_3 g_r3_f g_r3_g (Ne.symm ne_b1_r3_f) (Ne.symm ne_b1_r3_g) h3_nfg (own_ok_of own_dz own_dz (Jvm.FP.Core.i2d_int p3) (by omega) (by omega) (by omega))) hZ (hw _ (List.mem_of_getElem? (i := 19) rfl)) (hw _ (List.mem_of_getElem? (i := 3) rfl)) (by decide) (by decide)) qa44 qc44 (g := (mkF m 153 #[.val (.int p1), .val (.int p2), .val (.int p3), .val (.int p4), .val (.double (4787326403894837248 : UInt64)), .second, .val (.double xa), .second, .val (.double xb), .second, .val (.double xc), .second, .val (.int (0 : Int32)), .val (.int (1 : Int32)), .val (.int (((p4.toUInt32 >>> ((1 : Int32) &&& 31).toUInt32).toInt32) % (3 : Int32))), .val (.ref b1), .unset, .unset] [(.double (FP.i2d p3)), (.int (1 : Int32)), (.ref b1)])) rfl (by rw [hml]; rfl) (Steps.refl _) (argsL := [(.int (1 : Int32)), (.double (FP.i2d p3))]) (rest := []) (lenOf own_pd2 rfl) rfl (by show 2 * 0 + _ ≤ _; exact Nat.le_of_eq rfl) (hb hby at_153) (fun _ _ => ⟨rfl, rfl, (by decide : 3 + 0 ≤ _), (by decide : 6 + 0 ≤ _)⟩)
        dsimp only [Pt.U, Pt.locs, Pt.cells, Pt.slots] at X44 l44 y44 z44 st44 hQ44
        have yc44 : 3 = k44 := y44.symm
        have zc44 : 6 = n44 := z44.symm
        have lc44 := l44.symm
        subst lc44 yc44 zc44
        obtain ⟨r44_sn, r44_ln, rfl, Nq44, K44, q44_0, q44_1, q44_2, q44_3, h44_es, h44_el⟩ := hQ44
        refine OE.of (fun _ k => st44.trans k) ?_
        have N44 := Fr.app N41 Nq44
        show OE _ p e below s _ _ _ T44 (mkF m 156 #[.val (.int p1), .val (.int p2), .val (.int p3), .val (.int p4), .val (.double (4787326403894837248 : UInt64)), .second, .val (.double xa), .second, .val (.double xb), .second, .val (.double xc), .second, .val (.int (0 : Int32)), .val (.int (1 : Int32)), .val (.int (((p4.toUInt32 >>> ((1 : Int32) &&& 31).toUInt32).toInt32) % (3 : Int32))), .val (.ref b1), .unset, .unset] [])
        obtain ⟨Ds44, Dl44⟩ := own_A1 own_dz own_dz (Jvm.FP.Core.i2d_int p3) h44_es h44_el
        refine OE.aload X44 hx hby at_156 rfl rfl ?_
        refine OE.iload X44 hx hby at_158 rfl ?_
        have Dtm := Jvm.FP.Core.dadd_int Ds41 Dl41 (by omega)
        have z46 : n0 ≤ T44.heap.size := (Nat.le_trans z43 K44.1)
        have f48 : Exa Z T44.heap b1 "com/example/archerfish/archerfish/rank/CompensatedSums" := (f45.keep K44)
        obtain ⟨cq47, kq47, qa47, qb47, qc47⟩ := isOf hZ rfl f48
        obtain ⟨_, _, ⟨T47, L47, k47, n47⟩, -, X47, ⟨Lc47, hQ47, l47, y47, z47⟩, st47⟩ := X44.virtualBack hx (y := (⟨"com/example/archerfish/archerfish/rank/CompensatedSums", "total", "(I)D"⟩ : MethodName)) (z := (⟨"com/example/archerfish/archerfish/rank/CompensatedSums", "total", "(I)D"⟩ : MethodName)) hown (mvT hZ (hw _ (List.mem_of_getElem? (i := 24) rfl))) (mvT hZ (hw _ (List.mem_of_getElem? (i := 25) rfl))) (notFace_of_selects (args := #[]) (mvT hZ (hw _ (List.mem_of_getElem? (i := 27) rfl)))) (mvT hZ (hw _ (List.mem_of_getElem? (i := 27) rfl))) (mvT hZ (hw _ (List.mem_of_getElem? (i := 26) rfl))) (by decide) (backOf (W := 0) (own_rm5_0 l Z a0 hw [] b1 r3_f r3_g r41_sn r44_sn r41_ln r44_ln r3_kf r3_kg T44.heap n0 z46 q44_0 q44_1 q44_2 q44_3 (own_nn Dtm)) hZ (hw _ (List.mem_of_getElem? (i := 28) rfl)) (hw _ (List.mem_of_getElem? (i := 3) rfl)) (by decide) (by decide)) qa47 qc47 (g := (mkF m 160 #[.val (.int p1), .val (.int p2), .val (.int p3), .val (.int p4), .val (.double (4787326403894837248 : UInt64)), .second, .val (.double xa), .second, .val (.double xb), .second, .val (.double xc), .second, .val (.int (0 : Int32)), .val (.int (1 : Int32)), .val (.int (((p4.toUInt32 >>> ((1 : Int32) &&& 31).toUInt32).toInt32) % (3 : Int32))), .val (.ref b1), .unset, .unset] [(.int (0 : Int32)), (.ref b1)])) rfl (by rw [hml]; rfl) (Steps.refl _) (argsL := [(.int (0 : Int32))]) (rest := []) (lenOf own_pd3 rfl) rfl (by show 2 * 0 + _ ≤ _; exact Nat.le_of_eq rfl) (hb hby at_160) (fun _ _ => ⟨rfl, rfl, (by decide : 3 + 0 ≤ _), (by decide : 6 + 0 ≤ _)⟩)
        dsimp only [Pt.U, Pt.locs, Pt.cells, Pt.slots] at X47 l47 y47 z47 st47 hQ47
        have yc47 : 3 = k47 := y47.symm
        have zc47 : 6 = n47 := z47.symm
        have lc47 := l47.symm
        subst lc47 yc47 zc47
        obtain ⟨rfl, Nq47, eq47⟩ := hQ47
        refine OE.of (fun _ k => st47.trans k) ?_
        have N47 := Fr.app N44 Nq47
        show OE _ p e below s _ _ _ T47 (mkF m 163 #[.val (.int p1), .val (.int p2), .val (.int p3), .val (.int p4), .val (.double (4787326403894837248 : UInt64)), .second, .val (.double xa), .second, .val (.double xb), .second, .val (.double xc), .second, .val (.int (0 : Int32)), .val (.int (1 : Int32)), .val (.int (((p4.toUInt32 >>> ((1 : Int32) &&& 31).toUInt32).toInt32) % (3 : Int32))), .val (.ref b1), .unset, .unset] [(.double (FP.dadd r41_sn r41_ln))])
        have Dvm : Jvm.FP.Core.DInt p2.toInt (FP.dadd r41_sn r41_ln) := by have q := Dtm; rwa [show _ + _ = p2.toInt by omega] at q
        refine OE.dload X47 hx hby at_163 rfl ?_
        refine OE.dcmp X47 hx hby at_165 ?_
        refine OE.ifNo X47 hx hby at_166 (teq ((own_eq0 Dvm Db) : (cmpValue (FP.dcmp (FP.dadd r41_sn r41_ln) xb) .l) = (0 : Int32))).2 ?_
        refine OE.iconst X47 hx hby at_169 (1 : Int32) rfl ?_
        refine OE.goto X47 hx hby (pc' := 174) at_170 (h := ?_)
        refine OE.istore X47 hx hby at_174 (l' := #[.val (.int p1), .val (.int p2), .val (.int p3), .val (.int p4), .val (.double (4787326403894837248 : UInt64)), .second, .val (.double xa), .second, .val (.double xb), .second, .val (.double xc), .second, .val (.int (0 : Int32)), .val (.int (1 : Int32)), .val (.int (((p4.toUInt32 >>> ((1 : Int32) &&& 31).toUInt32).toInt32) % (3 : Int32))), .val (.ref b1), .val (.int (1 : Int32)), .unset]) rfl ?_
        refine OE.aload X47 hx hby at_176 rfl rfl ?_
        refine OE.iload X47 hx hby at_178 rfl ?_
        have Dtz := Jvm.FP.Core.dadd_int Ds44 Dl44 (by omega)
        obtain ⟨cq49, kq49, qa49, qb49, qc49⟩ := isOf hZ eq47 f48
        obtain ⟨_, _, ⟨T49, L49, k49, n49⟩, -, X49, ⟨Lc49, hQ49, l49, y49, z49⟩, st49⟩ := X47.virtualBack hx (y := (⟨"com/example/archerfish/archerfish/rank/CompensatedSums", "total", "(I)D"⟩ : MethodName)) (z := (⟨"com/example/archerfish/archerfish/rank/CompensatedSums", "total", "(I)D"⟩ : MethodName)) hown (mvT hZ (hw _ (List.mem_of_getElem? (i := 24) rfl))) (mvT hZ (hw _ (List.mem_of_getElem? (i := 25) rfl))) (notFace_of_selects (args := #[]) (mvT hZ (hw _ (List.mem_of_getElem? (i := 27) rfl)))) (mvT hZ (hw _ (List.mem_of_getElem? (i := 27) rfl))) (mvT hZ (hw _ (List.mem_of_getElem? (i := 26) rfl))) (by decide) (backOf (W := 0) (own_rm5_1 l Z a0 hw [] b1 r3_f r3_g r41_sn r44_sn r41_ln r44_ln r3_kf r3_kg T44.heap n0 z46 q44_0 q44_1 q44_2 q44_3 (own_nn Dtz)) hZ (hw _ (List.mem_of_getElem? (i := 28) rfl)) (hw _ (List.mem_of_getElem? (i := 3) rfl)) (by decide) (by decide)) qa49 qc49 (g := (mkF m 180 #[.val (.int p1), .val (.int p2), .val (.int p3), .val (.int p4), .val (.double (4787326403894837248 : UInt64)), .second, .val (.double xa), .second, .val (.double xb), .second, .val (.double xc), .second, .val (.int (0 : Int32)), .val (.int (1 : Int32)), .val (.int (((p4.toUInt32 >>> ((1 : Int32) &&& 31).toUInt32).toInt32) % (3 : Int32))), .val (.ref b1), .val (.int (1 : Int32)), .unset] [(.int (1 : Int32)), (.ref b1)])) rfl (by rw [hml]; rfl) (Steps.refl _) (argsL := [(.int (1 : Int32))]) (rest := []) (lenOf own_pd3 rfl) rfl (by show 2 * 0 + _ ≤ _; exact Nat.le_of_eq rfl) (hb hby at_180) (fun _ _ => ⟨rfl, eq47, (by decide : 3 + 0 ≤ _), (by decide : 6 + 0 ≤ _)⟩)
        dsimp only [Pt.U, Pt.locs, Pt.cells, Pt.slots] at X49 l49 y49 z49 st49 hQ49
        have yc49 : 3 = k49 := y49.symm
        have zc49 : 6 = n49 := z49.symm
        have lc49 := l49.symm
        subst lc49 yc49 zc49
        obtain ⟨rfl, Nq49, eq49⟩ := hQ49
        refine OE.of (fun _ k => st49.trans k) ?_
        have N49 := Fr.app N47 Nq49
        show OE _ p e below s _ _ _ T49 (mkF m 183 #[.val (.int p1), .val (.int p2), .val (.int p3), .val (.int p4), .val (.double (4787326403894837248 : UInt64)), .second, .val (.double xa), .second, .val (.double xb), .second, .val (.double xc), .second, .val (.int (0 : Int32)), .val (.int (1 : Int32)), .val (.int (((p4.toUInt32 >>> ((1 : Int32) &&& 31).toUInt32).toInt32) % (3 : Int32))), .val (.ref b1), .val (.int (1 : Int32)), .unset] [(.double (FP.dadd r44_sn r44_ln))])
        have Dvz : Jvm.FP.Core.DInt p3.toInt (FP.dadd r44_sn r44_ln) := by have q := Dtz; rwa [show _ + _ = p3.toInt by omega] at q
        refine OE.iloadN X49 hx hby at_183 rfl ?_
        refine OE.i2d X49 hx hby at_184 ?_
        refine OE.dcmp X49 hx hby at_185 ?_
        refine OE.ifNo X49 hx hby at_186 (teq ((own_eq0 Dvz (Jvm.FP.Core.i2d_int p3)) : (cmpValue (FP.dcmp (FP.dadd r44_sn r44_ln) (FP.i2d p3)) .l) = (0 : Int32))).2 ?_
        refine OE.iconst X49 hx hby at_189 (1 : Int32) rfl ?_
        refine OE.goto X49 hx hby (pc' := 194) at_190 (h := ?_)
        refine OE.istore X49 hx hby at_194 (l' := #[.val (.int p1), .val (.int p2), .val (.int p3), .val (.int p4), .val (.double (4787326403894837248 : UInt64)), .second, .val (.double xa), .second, .val (.double xb), .second, .val (.double xc), .second, .val (.int (0 : Int32)), .val (.int (1 : Int32)), .val (.int (((p4.toUInt32 >>> ((1 : Int32) &&& 31).toUInt32).toInt32) % (3 : Int32))), .val (.ref b1), .val (.int (1 : Int32)), .val (.int (1 : Int32))]) rfl ?_
        refine OE.iload X49 hx hby at_196 rfl ?_
        refine OE.ifNo X49 hx hby at_198 (feq (by decide : ¬ ((1 : Int32) = (0 : Int32)))).1 ?_
        refine OE.iload X49 hx hby at_201 rfl ?_
        refine OE.ifNo X49 hx hby at_203 (feq (by decide : ¬ ((1 : Int32) = (0 : Int32)))).1 ?_
        refine OE.iconst X49 hx hby at_206 (1 : Int32) rfl ?_
        refine OE.goto X49 hx hby (pc' := 211) at_207 (h := ?_)
        refine OE.retN X49 hx (t := .boolean) Bd.returns (by simp) Bd.notSynchronized (hb hby at_211) (by decide) (by decide) ?_
        rw [eq49]
        exact ⟨rfl, N49⟩
  · skip
    rw [(hbit : (p4 &&& (1 : Int32)) = (1 : Int32))]
    show OE _ p e below s _ _ _ s₁ (mkF m 24 #[.val (.int p1), .val (.int p2), .val (.int p3), .val (.int p4), .val (.double (4787326403894837248 : UInt64)), .second, .val (.double xa), .second, .val (.double xb), .second, .val (.double xc), .second, .unset, .unset, .unset, .unset, .unset, .unset] [(.int (1 : Int32))])
    refine OE.istore X0 hx hby at_24 (l' := #[.val (.int p1), .val (.int p2), .val (.int p3), .val (.int p4), .val (.double (4787326403894837248 : UInt64)), .second, .val (.double xa), .second, .val (.double xb), .second, .val (.double xc), .second, .val (.int (1 : Int32)), .unset, .unset, .unset, .unset, .unset]) rfl ?_
    refine OE.iconst X0 hx hby at_26 (1 : Int32) rfl ?_
    refine OE.iload X0 hx hby at_27 rfl ?_
    refine OE.isub X0 hx hby at_29 ?_
    rw [(by decide : ((1 : Int32) - (1 : Int32)) = (0 : Int32))]
    refine OE.istore X0 hx hby at_30 (l' := #[.val (.int p1), .val (.int p2), .val (.int p3), .val (.int p4), .val (.double (4787326403894837248 : UInt64)), .second, .val (.double xa), .second, .val (.double xb), .second, .val (.double xc), .second, .val (.int (1 : Int32)), .val (.int (0 : Int32)), .unset, .unset, .unset, .unset]) rfl ?_
    refine OE.iloadN X0 hx hby at_32 rfl ?_
    refine OE.iconst X0 hx hby at_33 (1 : Int32) rfl ?_
    refine OE.iushr X0 hx hby at_34 ?_
    refine OE.iconst X0 hx hby at_35 (3 : Int32) rfl ?_
    refine OE.irem X0 hx hby at_36 (by decide) ?_
    refine OE.istore X0 hx hby at_37 (l' := #[.val (.int p1), .val (.int p2), .val (.int p3), .val (.int p4), .val (.double (4787326403894837248 : UInt64)), .second, .val (.double xa), .second, .val (.double xb), .second, .val (.double xc), .second, .val (.int (1 : Int32)), .val (.int (0 : Int32)), .val (.int (((p4.toUInt32 >>> ((1 : Int32) &&& 31).toUInt32).toInt32) % (3 : Int32))), .unset, .unset, .unset]) rfl ?_
    obtain ⟨T50, h50, X50, e50, E50, A50, D50, -, st50⟩ := newO X0 hx hZ hown (hw _ (List.mem_of_getElem? (i := 1) rfl)) (hw _ (List.mem_of_getElem? (i := 2) rfl)) (hw _ (List.mem_of_getElem? (i := 3) rfl)) e0 (g := (mkF m 39 #[.val (.int p1), .val (.int p2), .val (.int p3), .val (.int p4), .val (.double (4787326403894837248 : UInt64)), .second, .val (.double xa), .second, .val (.double xb), .second, .val (.double xc), .second, .val (.int (1 : Int32)), .val (.int (0 : Int32)), .val (.int (((p4.toUInt32 >>> ((1 : Int32) &&& 31).toUInt32).toInt32) % (3 : Int32))), .unset, .unset, .unset] [])) rfl (hb hby at_39) (by decide) (by decide)
    refine OE.of st50 ?_
    obtain ⟨b50, g50⟩ : ∃ z, z = h0.size := ⟨_, rfl⟩
    rw [← g50] at A50 D50 ⊢
    have g_b50 : n0 ≤ b50 := Nat.le_trans Z0 (Nat.le_of_eq g50.symm)
    have sz_b50 : h0.size ≤ b50 := Nat.le_trans (Keep.refl h0 []).1 (Nat.le_of_eq g50.symm)
    have F50_sums : Fld Z h50 b50 "com/example/archerfish/archerfish/rank/CompensatedSums" "sums" "[D" .null := D50 (Or.inr (hw _ (List.mem_of_getElem? (i := 12) rfl))) (ty := (.array .double)) (by decide)
    have F50_lost : Fld Z h50 b50 "com/example/archerfish/archerfish/rank/CompensatedSums" "lost" "[D" .null := D50 (Or.inr (hw _ (List.mem_of_getElem? (i := 14) rfl))) (ty := (.array .double)) (by decide)
    show OE _ p e below s _ _ _ T50 (mkF m 42 #[.val (.int p1), .val (.int p2), .val (.int p3), .val (.int p4), .val (.double (4787326403894837248 : UInt64)), .second, .val (.double xa), .second, .val (.double xb), .second, .val (.double xc), .second, .val (.int (1 : Int32)), .val (.int (0 : Int32)), .val (.int (((p4.toUInt32 >>> ((1 : Int32) &&& 31).toUInt32).toInt32) % (3 : Int32))), .unset, .unset, .unset] [(.ref b50)])
    refine OE.dup X50 hx hby at_42 rfl ?_
    refine OE.iconst X50 hx hby at_43 (2 : Int32) rfl ?_
    have z51 : n0 ≤ h50.size := (Nat.le_trans Z0 E50.1)
    obtain ⟨_, _, ⟨T52, L52, k52, n52⟩, -, X52, ⟨Lc52, hQ52, l52, y52, z52⟩, st52⟩ := X50.specialBack hx (y := (⟨"com/example/archerfish/archerfish/rank/CompensatedSums", "<init>", "(I)V"⟩ : MethodName)) rfl hown (mvT hZ (hw _ (List.mem_of_getElem? (i := 4) rfl))) (mvT hZ (hw _ (List.mem_of_getElem? (i := 5) rfl))) (mvT hZ (hw _ (List.mem_of_getElem? (i := 6) rfl))) (by decide) (backOf (W := 1) (own_rm1 l Z a0 hw [] b50 h50 n0 z51 A50 F50_sums F50_lost g_b50) hZ (hw _ (List.mem_of_getElem? (i := 6) rfl)) (hw _ (List.mem_of_getElem? (i := 3) rfl)) (by decide) (by decide)) (g := (mkF m 44 #[.val (.int p1), .val (.int p2), .val (.int p3), .val (.int p4), .val (.double (4787326403894837248 : UInt64)), .second, .val (.double xa), .second, .val (.double xb), .second, .val (.double xc), .second, .val (.int (1 : Int32)), .val (.int (0 : Int32)), .val (.int (((p4.toUInt32 >>> ((1 : Int32) &&& 31).toUInt32).toInt32) % (3 : Int32))), .unset, .unset, .unset] [(.int (2 : Int32)), (.ref b50), (.ref b50)])) rfl (by rw [hml]; rfl) (Steps.refl _) (a := b50) (argsL := [(.int (2 : Int32))]) (rest := [(.ref b50)]) (lenOf own_pd1 rfl) rfl (by show 2 * 0 + _ ≤ _; exact Nat.le_of_eq rfl) (hb hby at_44) (fun _ _ => ⟨rfl, e50, (by decide : 1 + 2 ≤ _), (by decide : 2 + 4 ≤ _)⟩)
    dsimp only [Pt.U, Pt.locs, Pt.cells, Pt.slots] at X52 l52 y52 z52 st52 hQ52
    have yc52 : 3 = k52 := y52.symm
    have zc52 : 6 = n52 := z52.symm
    have lc52 := l52.symm
    subst lc52 yc52 zc52
    obtain ⟨r52_f, r52_g, r52_kf, r52_kg, rfl, Nq52, K52, q52_0, q52_1, q52_2, q52_3, q52_4, h52_sf, h52_sg, h52_nfg⟩ := hQ52
    refine OE.of (fun _ k => st52.trans k) ?_
    have N52 := Fr.app N0 Nq52
    have ne_b50_r52_f : b50 ≠ r52_f := Nat.ne_of_lt (Nat.lt_of_lt_of_le A50.lt h52_sf)
    have g_r52_f : n0 ≤ r52_f := Nat.le_trans z51 h52_sf
    have K53 : Keep h0 h50 [] := (Keep.ext (Keep.refl h0 []) E50)
    have sz_r52_f : h0.size ≤ r52_f := Nat.le_trans K53.1 h52_sf
    have ne_b50_r52_g : b50 ≠ r52_g := Nat.ne_of_lt (Nat.lt_of_lt_of_le A50.lt h52_sg)
    have g_r52_g : n0 ≤ r52_g := Nat.le_trans z51 h52_sg
    have sz_r52_g : h0.size ≤ r52_g := Nat.le_trans K53.1 h52_sg
    show OE _ p e below s _ _ _ T52 (mkF m 47 #[.val (.int p1), .val (.int p2), .val (.int p3), .val (.int p4), .val (.double (4787326403894837248 : UInt64)), .second, .val (.double xa), .second, .val (.double xb), .second, .val (.double xc), .second, .val (.int (1 : Int32)), .val (.int (0 : Int32)), .val (.int (((p4.toUInt32 >>> ((1 : Int32) &&& 31).toUInt32).toInt32) % (3 : Int32))), .unset, .unset, .unset] [(.ref b50)])
    refine OE.astore X52 hx hby at_47 rfl (l' := #[.val (.int p1), .val (.int p2), .val (.int p3), .val (.int p4), .val (.double (4787326403894837248 : UInt64)), .second, .val (.double xa), .second, .val (.double xb), .second, .val (.double xc), .second, .val (.int (1 : Int32)), .val (.int (0 : Int32)), .val (.int (((p4.toUInt32 >>> ((1 : Int32) &&& 31).toUInt32).toInt32) % (3 : Int32))), .val (.ref b50), .unset, .unset]) rfl ?_
    refine OE.iload X52 hx hby at_49 rfl ?_
    by_cases hc51 : (((p4.toUInt32 >>> ((1 : Int32) &&& 31).toUInt32).toInt32) % (3 : Int32)) = (0 : Int32)
    · skip
      refine OE.ifNo X52 hx hby at_51 (teq hc51).2 ?_
      refine OE.aload X52 hx hby at_54 rfl rfl ?_
      refine OE.iload X52 hx hby at_56 rfl ?_
      refine OE.dload X52 hx hby at_58 rfl ?_
      have z54 : n0 ≤ T52.heap.size := (Nat.le_trans z51 K52.1)
      obtain ⟨cq55, kq55, qa55, qb55, qc55⟩ := isOf hZ rfl q52_0
      obtain ⟨_, _, ⟨T55, L55, k55, n55⟩, -, X55, ⟨Lc55, hQ55, l55, y55, z55⟩, st55⟩ := X52.virtualBack hx (y := (⟨"com/example/archerfish/archerfish/rank/CompensatedSums", "add", "(ID)V"⟩ : MethodName)) (z := (⟨"com/example/archerfish/archerfish/rank/CompensatedSums", "add", "(ID)V"⟩ : MethodName)) hown (mvT hZ (hw _ (List.mem_of_getElem? (i := 15) rfl))) (mvT hZ (hw _ (List.mem_of_getElem? (i := 16) rfl))) (notFace_of_selects (args := #[]) (mvT hZ (hw _ (List.mem_of_getElem? (i := 18) rfl)))) (mvT hZ (hw _ (List.mem_of_getElem? (i := 18) rfl))) (mvT hZ (hw _ (List.mem_of_getElem? (i := 17) rfl))) (by decide) (backOf (W := 0) (own_rm3_1 l Z a0 hw [] b50 xa r52_f r52_g 0 0 0 0 r52_kf r52_kg T52.heap n0 z54 q52_1 q52_2 q52_3 q52_4 g_r52_f g_r52_g (Ne.symm ne_b50_r52_f) (Ne.symm ne_b50_r52_g) h52_nfg (own_ok_of own_dz own_dz Da (by omega) (by omega) (by omega))) hZ (hw _ (List.mem_of_getElem? (i := 19) rfl)) (hw _ (List.mem_of_getElem? (i := 3) rfl)) (by decide) (by decide)) qa55 qc55 (g := (mkF m 60 #[.val (.int p1), .val (.int p2), .val (.int p3), .val (.int p4), .val (.double (4787326403894837248 : UInt64)), .second, .val (.double xa), .second, .val (.double xb), .second, .val (.double xc), .second, .val (.int (1 : Int32)), .val (.int (0 : Int32)), .val (.int (((p4.toUInt32 >>> ((1 : Int32) &&& 31).toUInt32).toInt32) % (3 : Int32))), .val (.ref b50), .unset, .unset] [(.double xa), (.int (1 : Int32)), (.ref b50)])) rfl (by rw [hml]; rfl) (Steps.refl _) (argsL := [(.int (1 : Int32)), (.double xa)]) (rest := []) (lenOf own_pd2 rfl) rfl (by show 2 * 0 + _ ≤ _; exact Nat.le_of_eq rfl) (hb hby at_60) (fun _ _ => ⟨rfl, rfl, (by decide : 3 + 0 ≤ _), (by decide : 6 + 0 ≤ _)⟩)
      dsimp only [Pt.U, Pt.locs, Pt.cells, Pt.slots] at X55 l55 y55 z55 st55 hQ55
      have yc55 : 3 = k55 := y55.symm
      have zc55 : 6 = n55 := z55.symm
      have lc55 := l55.symm
      subst lc55 yc55 zc55
      obtain ⟨r55_sn, r55_ln, rfl, Nq55, K55, q55_0, q55_1, q55_2, q55_3, h55_es, h55_el⟩ := hQ55
      refine OE.of (fun _ k => st55.trans k) ?_
      have N55 := Fr.app N52 Nq55
      show OE _ p e below s _ _ _ T55 (mkF m 63 #[.val (.int p1), .val (.int p2), .val (.int p3), .val (.int p4), .val (.double (4787326403894837248 : UInt64)), .second, .val (.double xa), .second, .val (.double xb), .second, .val (.double xc), .second, .val (.int (1 : Int32)), .val (.int (0 : Int32)), .val (.int (((p4.toUInt32 >>> ((1 : Int32) &&& 31).toUInt32).toInt32) % (3 : Int32))), .val (.ref b50), .unset, .unset] [])
      obtain ⟨Ds55, Dl55⟩ := own_A1 own_dz own_dz Da h55_es h55_el
      refine OE.aload X55 hx hby at_63 rfl rfl ?_
      refine OE.iload X55 hx hby at_65 rfl ?_
      refine OE.dload X55 hx hby at_67 rfl ?_
      have z56 : n0 ≤ T55.heap.size := (Nat.le_trans z54 K55.1)
      have f58 : Exa Z T55.heap b50 "com/example/archerfish/archerfish/rank/CompensatedSums" := (q52_0.keep K55)
      obtain ⟨cq57, kq57, qa57, qb57, qc57⟩ := isOf hZ rfl f58
      obtain ⟨_, _, ⟨T57, L57, k57, n57⟩, -, X57, ⟨Lc57, hQ57, l57, y57, z57⟩, st57⟩ := X55.virtualBack hx (y := (⟨"com/example/archerfish/archerfish/rank/CompensatedSums", "add", "(ID)V"⟩ : MethodName)) (z := (⟨"com/example/archerfish/archerfish/rank/CompensatedSums", "add", "(ID)V"⟩ : MethodName)) hown (mvT hZ (hw _ (List.mem_of_getElem? (i := 15) rfl))) (mvT hZ (hw _ (List.mem_of_getElem? (i := 16) rfl))) (notFace_of_selects (args := #[]) (mvT hZ (hw _ (List.mem_of_getElem? (i := 18) rfl)))) (mvT hZ (hw _ (List.mem_of_getElem? (i := 18) rfl))) (mvT hZ (hw _ (List.mem_of_getElem? (i := 17) rfl))) (by decide) (backOf (W := 0) (own_rm3_1 l Z a0 hw [] b50 xb r52_f r52_g 0 r55_sn 0 r55_ln r52_kf r52_kg T55.heap n0 z56 q55_0 q55_1 q55_2 q55_3 g_r52_f g_r52_g (Ne.symm ne_b50_r52_f) (Ne.symm ne_b50_r52_g) h52_nfg (own_ok_of Ds55 Dl55 Db (by omega) (by omega) (by omega))) hZ (hw _ (List.mem_of_getElem? (i := 19) rfl)) (hw _ (List.mem_of_getElem? (i := 3) rfl)) (by decide) (by decide)) qa57 qc57 (g := (mkF m 69 #[.val (.int p1), .val (.int p2), .val (.int p3), .val (.int p4), .val (.double (4787326403894837248 : UInt64)), .second, .val (.double xa), .second, .val (.double xb), .second, .val (.double xc), .second, .val (.int (1 : Int32)), .val (.int (0 : Int32)), .val (.int (((p4.toUInt32 >>> ((1 : Int32) &&& 31).toUInt32).toInt32) % (3 : Int32))), .val (.ref b50), .unset, .unset] [(.double xb), (.int (1 : Int32)), (.ref b50)])) rfl (by rw [hml]; rfl) (Steps.refl _) (argsL := [(.int (1 : Int32)), (.double xb)]) (rest := []) (lenOf own_pd2 rfl) rfl (by show 2 * 0 + _ ≤ _; exact Nat.le_of_eq rfl) (hb hby at_69) (fun _ _ => ⟨rfl, rfl, (by decide : 3 + 0 ≤ _), (by decide : 6 + 0 ≤ _)⟩)
      dsimp only [Pt.U, Pt.locs, Pt.cells, Pt.slots] at X57 l57 y57 z57 st57 hQ57
      have yc57 : 3 = k57 := y57.symm
      have zc57 : 6 = n57 := z57.symm
      have lc57 := l57.symm
      subst lc57 yc57 zc57
      obtain ⟨r57_sn, r57_ln, rfl, Nq57, K57, q57_0, q57_1, q57_2, q57_3, h57_es, h57_el⟩ := hQ57
      refine OE.of (fun _ k => st57.trans k) ?_
      have N57 := Fr.app N55 Nq57
      show OE _ p e below s _ _ _ T57 (mkF m 72 #[.val (.int p1), .val (.int p2), .val (.int p3), .val (.int p4), .val (.double (4787326403894837248 : UInt64)), .second, .val (.double xa), .second, .val (.double xb), .second, .val (.double xc), .second, .val (.int (1 : Int32)), .val (.int (0 : Int32)), .val (.int (((p4.toUInt32 >>> ((1 : Int32) &&& 31).toUInt32).toInt32) % (3 : Int32))), .val (.ref b50), .unset, .unset] [])
      obtain ⟨nn57, hn57, Ds57, Dl57⟩ := own_A2 Ds55 Dl55 Db (by omega) (by omega) (by omega) h57_es h57_el
      refine OE.aload X57 hx hby at_72 rfl rfl ?_
      refine OE.iload X57 hx hby at_74 rfl ?_
      refine OE.dload X57 hx hby at_76 rfl ?_
      have z59 : n0 ≤ T57.heap.size := (Nat.le_trans z56 K57.1)
      have f61 : Exa Z T57.heap b50 "com/example/archerfish/archerfish/rank/CompensatedSums" := (f58.keep K57)
      obtain ⟨cq60, kq60, qa60, qb60, qc60⟩ := isOf hZ rfl f61
      obtain ⟨_, _, ⟨T60, L60, k60, n60⟩, -, X60, ⟨Lc60, hQ60, l60, y60, z60⟩, st60⟩ := X57.virtualBack hx (y := (⟨"com/example/archerfish/archerfish/rank/CompensatedSums", "add", "(ID)V"⟩ : MethodName)) (z := (⟨"com/example/archerfish/archerfish/rank/CompensatedSums", "add", "(ID)V"⟩ : MethodName)) hown (mvT hZ (hw _ (List.mem_of_getElem? (i := 15) rfl))) (mvT hZ (hw _ (List.mem_of_getElem? (i := 16) rfl))) (notFace_of_selects (args := #[]) (mvT hZ (hw _ (List.mem_of_getElem? (i := 18) rfl)))) (mvT hZ (hw _ (List.mem_of_getElem? (i := 18) rfl))) (mvT hZ (hw _ (List.mem_of_getElem? (i := 17) rfl))) (by decide) (backOf (W := 0) (own_rm3_1 l Z a0 hw [] b50 xc r52_f r52_g 0 r57_sn 0 r57_ln r52_kf r52_kg T57.heap n0 z59 q57_0 q57_1 q57_2 q57_3 g_r52_f g_r52_g (Ne.symm ne_b50_r52_f) (Ne.symm ne_b50_r52_g) h52_nfg (own_ok_of Ds57 Dl57 Dc (by omega) (by omega) (by omega))) hZ (hw _ (List.mem_of_getElem? (i := 19) rfl)) (hw _ (List.mem_of_getElem? (i := 3) rfl)) (by decide) (by decide)) qa60 qc60 (g := (mkF m 78 #[.val (.int p1), .val (.int p2), .val (.int p3), .val (.int p4), .val (.double (4787326403894837248 : UInt64)), .second, .val (.double xa), .second, .val (.double xb), .second, .val (.double xc), .second, .val (.int (1 : Int32)), .val (.int (0 : Int32)), .val (.int (((p4.toUInt32 >>> ((1 : Int32) &&& 31).toUInt32).toInt32) % (3 : Int32))), .val (.ref b50), .unset, .unset] [(.double xc), (.int (1 : Int32)), (.ref b50)])) rfl (by rw [hml]; rfl) (Steps.refl _) (argsL := [(.int (1 : Int32)), (.double xc)]) (rest := []) (lenOf own_pd2 rfl) rfl (by show 2 * 0 + _ ≤ _; exact Nat.le_of_eq rfl) (hb hby at_78) (fun _ _ => ⟨rfl, rfl, (by decide : 3 + 0 ≤ _), (by decide : 6 + 0 ≤ _)⟩)
      dsimp only [Pt.U, Pt.locs, Pt.cells, Pt.slots] at X60 l60 y60 z60 st60 hQ60
      have yc60 : 3 = k60 := y60.symm
      have zc60 : 6 = n60 := z60.symm
      have lc60 := l60.symm
      subst lc60 yc60 zc60
      obtain ⟨r60_sn, r60_ln, rfl, Nq60, K60, q60_0, q60_1, q60_2, q60_3, h60_es, h60_el⟩ := hQ60
      refine OE.of (fun _ k => st60.trans k) ?_
      have N60 := Fr.app N57 Nq60
      show OE _ p e below s _ _ _ T60 (mkF m 81 #[.val (.int p1), .val (.int p2), .val (.int p3), .val (.int p4), .val (.double (4787326403894837248 : UInt64)), .second, .val (.double xa), .second, .val (.double xb), .second, .val (.double xc), .second, .val (.int (1 : Int32)), .val (.int (0 : Int32)), .val (.int (((p4.toUInt32 >>> ((1 : Int32) &&& 31).toUInt32).toInt32) % (3 : Int32))), .val (.ref b50), .unset, .unset] [])
      obtain ⟨Ds60, Dl60⟩ := own_A3 Ds57 Dl57 Dc (by omega) h60_es h60_el
      refine OE.goto X60 hx hby (pc' := 147) at_81 (h := ?_)
      refine OE.aload X60 hx hby at_147 rfl rfl ?_
      refine OE.iload X60 hx hby at_149 rfl ?_
      refine OE.iloadN X60 hx hby at_151 rfl ?_
      refine OE.i2d X60 hx hby at_152 ?_
      have hC := own_nb p3
      have z62 : n0 ≤ T60.heap.size := (Nat.le_trans z59 K60.1)
      have f64 : Exa Z T60.heap b50 "com/example/archerfish/archerfish/rank/CompensatedSums" := (f61.keep K60)
      obtain ⟨cq63, kq63, qa63, qb63, qc63⟩ := isOf hZ rfl f64
      obtain ⟨_, _, ⟨T63, L63, k63, n63⟩, -, X63, ⟨Lc63, hQ63, l63, y63, z63⟩, st63⟩ := X60.virtualBack hx (y := (⟨"com/example/archerfish/archerfish/rank/CompensatedSums", "add", "(ID)V"⟩ : MethodName)) (z := (⟨"com/example/archerfish/archerfish/rank/CompensatedSums", "add", "(ID)V"⟩ : MethodName)) hown (mvT hZ (hw _ (List.mem_of_getElem? (i := 15) rfl))) (mvT hZ (hw _ (List.mem_of_getElem? (i := 16) rfl))) (notFace_of_selects (args := #[]) (mvT hZ (hw _ (List.mem_of_getElem? (i := 18) rfl)))) (mvT hZ (hw _ (List.mem_of_getElem? (i := 18) rfl))) (mvT hZ (hw _ (List.mem_of_getElem? (i := 17) rfl))) (by decide) (backOf (W := 0) (own_rm3_0 l Z a0 hw [] b50 (FP.i2d p3) r52_f r52_g 0 r60_sn 0 r60_ln r52_kf r52_kg T60.heap n0 z62 q60_0 q60_1 q60_2 q60_3 g_r52_f g_r52_g (Ne.symm ne_b50_r52_f) (Ne.symm ne_b50_r52_g) h52_nfg (own_ok_of own_dz own_dz (Jvm.FP.Core.i2d_int p3) (by omega) (by omega) (by omega))) hZ (hw _ (List.mem_of_getElem? (i := 19) rfl)) (hw _ (List.mem_of_getElem? (i := 3) rfl)) (by decide) (by decide)) qa63 qc63 (g := (mkF m 153 #[.val (.int p1), .val (.int p2), .val (.int p3), .val (.int p4), .val (.double (4787326403894837248 : UInt64)), .second, .val (.double xa), .second, .val (.double xb), .second, .val (.double xc), .second, .val (.int (1 : Int32)), .val (.int (0 : Int32)), .val (.int (((p4.toUInt32 >>> ((1 : Int32) &&& 31).toUInt32).toInt32) % (3 : Int32))), .val (.ref b50), .unset, .unset] [(.double (FP.i2d p3)), (.int (0 : Int32)), (.ref b50)])) rfl (by rw [hml]; rfl) (Steps.refl _) (argsL := [(.int (0 : Int32)), (.double (FP.i2d p3))]) (rest := []) (lenOf own_pd2 rfl) rfl (by show 2 * 0 + _ ≤ _; exact Nat.le_of_eq rfl) (hb hby at_153) (fun _ _ => ⟨rfl, rfl, (by decide : 3 + 0 ≤ _), (by decide : 6 + 0 ≤ _)⟩)
      dsimp only [Pt.U, Pt.locs, Pt.cells, Pt.slots] at X63 l63 y63 z63 st63 hQ63
      have yc63 : 3 = k63 := y63.symm
      have zc63 : 6 = n63 := z63.symm
      have lc63 := l63.symm
      subst lc63 yc63 zc63
      obtain ⟨r63_sn, r63_ln, rfl, Nq63, K63, q63_0, q63_1, q63_2, q63_3, h63_es, h63_el⟩ := hQ63
      refine OE.of (fun _ k => st63.trans k) ?_
      have N63 := Fr.app N60 Nq63
      show OE _ p e below s _ _ _ T63 (mkF m 156 #[.val (.int p1), .val (.int p2), .val (.int p3), .val (.int p4), .val (.double (4787326403894837248 : UInt64)), .second, .val (.double xa), .second, .val (.double xb), .second, .val (.double xc), .second, .val (.int (1 : Int32)), .val (.int (0 : Int32)), .val (.int (((p4.toUInt32 >>> ((1 : Int32) &&& 31).toUInt32).toInt32) % (3 : Int32))), .val (.ref b50), .unset, .unset] [])
      obtain ⟨Ds63, Dl63⟩ := own_A1 own_dz own_dz (Jvm.FP.Core.i2d_int p3) h63_es h63_el
      refine OE.aload X63 hx hby at_156 rfl rfl ?_
      refine OE.iload X63 hx hby at_158 rfl ?_
      have Dtm := Jvm.FP.Core.dadd_int Ds60 Dl60 (by omega)
      have z65 : n0 ≤ T63.heap.size := (Nat.le_trans z62 K63.1)
      have f67 : Exa Z T63.heap b50 "com/example/archerfish/archerfish/rank/CompensatedSums" := (f64.keep K63)
      obtain ⟨cq66, kq66, qa66, qb66, qc66⟩ := isOf hZ rfl f67
      obtain ⟨_, _, ⟨T66, L66, k66, n66⟩, -, X66, ⟨Lc66, hQ66, l66, y66, z66⟩, st66⟩ := X63.virtualBack hx (y := (⟨"com/example/archerfish/archerfish/rank/CompensatedSums", "total", "(I)D"⟩ : MethodName)) (z := (⟨"com/example/archerfish/archerfish/rank/CompensatedSums", "total", "(I)D"⟩ : MethodName)) hown (mvT hZ (hw _ (List.mem_of_getElem? (i := 24) rfl))) (mvT hZ (hw _ (List.mem_of_getElem? (i := 25) rfl))) (notFace_of_selects (args := #[]) (mvT hZ (hw _ (List.mem_of_getElem? (i := 27) rfl)))) (mvT hZ (hw _ (List.mem_of_getElem? (i := 27) rfl))) (mvT hZ (hw _ (List.mem_of_getElem? (i := 26) rfl))) (by decide) (backOf (W := 0) (own_rm5_1 l Z a0 hw [] b50 r52_f r52_g r63_sn r60_sn r63_ln r60_ln r52_kf r52_kg T63.heap n0 z65 q63_0 q63_1 q63_2 q63_3 (own_nn Dtm)) hZ (hw _ (List.mem_of_getElem? (i := 28) rfl)) (hw _ (List.mem_of_getElem? (i := 3) rfl)) (by decide) (by decide)) qa66 qc66 (g := (mkF m 160 #[.val (.int p1), .val (.int p2), .val (.int p3), .val (.int p4), .val (.double (4787326403894837248 : UInt64)), .second, .val (.double xa), .second, .val (.double xb), .second, .val (.double xc), .second, .val (.int (1 : Int32)), .val (.int (0 : Int32)), .val (.int (((p4.toUInt32 >>> ((1 : Int32) &&& 31).toUInt32).toInt32) % (3 : Int32))), .val (.ref b50), .unset, .unset] [(.int (1 : Int32)), (.ref b50)])) rfl (by rw [hml]; rfl) (Steps.refl _) (argsL := [(.int (1 : Int32))]) (rest := []) (lenOf own_pd3 rfl) rfl (by show 2 * 0 + _ ≤ _; exact Nat.le_of_eq rfl) (hb hby at_160) (fun _ _ => ⟨rfl, rfl, (by decide : 3 + 0 ≤ _), (by decide : 6 + 0 ≤ _)⟩)
      dsimp only [Pt.U, Pt.locs, Pt.cells, Pt.slots] at X66 l66 y66 z66 st66 hQ66
      have yc66 : 3 = k66 := y66.symm
      have zc66 : 6 = n66 := z66.symm
      have lc66 := l66.symm
      subst lc66 yc66 zc66
      obtain ⟨rfl, Nq66, eq66⟩ := hQ66
      refine OE.of (fun _ k => st66.trans k) ?_
      have N66 := Fr.app N63 Nq66
      show OE _ p e below s _ _ _ T66 (mkF m 163 #[.val (.int p1), .val (.int p2), .val (.int p3), .val (.int p4), .val (.double (4787326403894837248 : UInt64)), .second, .val (.double xa), .second, .val (.double xb), .second, .val (.double xc), .second, .val (.int (1 : Int32)), .val (.int (0 : Int32)), .val (.int (((p4.toUInt32 >>> ((1 : Int32) &&& 31).toUInt32).toInt32) % (3 : Int32))), .val (.ref b50), .unset, .unset] [(.double (FP.dadd r60_sn r60_ln))])
      have Dvm : Jvm.FP.Core.DInt p2.toInt (FP.dadd r60_sn r60_ln) := by have q := Dtm; rwa [show _ + _ = p2.toInt by omega] at q
      refine OE.dload X66 hx hby at_163 rfl ?_
      refine OE.dcmp X66 hx hby at_165 ?_
      refine OE.ifNo X66 hx hby at_166 (teq ((own_eq0 Dvm Db) : (cmpValue (FP.dcmp (FP.dadd r60_sn r60_ln) xb) .l) = (0 : Int32))).2 ?_
      refine OE.iconst X66 hx hby at_169 (1 : Int32) rfl ?_
      refine OE.goto X66 hx hby (pc' := 174) at_170 (h := ?_)
      refine OE.istore X66 hx hby at_174 (l' := #[.val (.int p1), .val (.int p2), .val (.int p3), .val (.int p4), .val (.double (4787326403894837248 : UInt64)), .second, .val (.double xa), .second, .val (.double xb), .second, .val (.double xc), .second, .val (.int (1 : Int32)), .val (.int (0 : Int32)), .val (.int (((p4.toUInt32 >>> ((1 : Int32) &&& 31).toUInt32).toInt32) % (3 : Int32))), .val (.ref b50), .val (.int (1 : Int32)), .unset]) rfl ?_
      refine OE.aload X66 hx hby at_176 rfl rfl ?_
      refine OE.iload X66 hx hby at_178 rfl ?_
      have Dtz := Jvm.FP.Core.dadd_int Ds63 Dl63 (by omega)
      obtain ⟨cq68, kq68, qa68, qb68, qc68⟩ := isOf hZ eq66 f67
      obtain ⟨_, _, ⟨T68, L68, k68, n68⟩, -, X68, ⟨Lc68, hQ68, l68, y68, z68⟩, st68⟩ := X66.virtualBack hx (y := (⟨"com/example/archerfish/archerfish/rank/CompensatedSums", "total", "(I)D"⟩ : MethodName)) (z := (⟨"com/example/archerfish/archerfish/rank/CompensatedSums", "total", "(I)D"⟩ : MethodName)) hown (mvT hZ (hw _ (List.mem_of_getElem? (i := 24) rfl))) (mvT hZ (hw _ (List.mem_of_getElem? (i := 25) rfl))) (notFace_of_selects (args := #[]) (mvT hZ (hw _ (List.mem_of_getElem? (i := 27) rfl)))) (mvT hZ (hw _ (List.mem_of_getElem? (i := 27) rfl))) (mvT hZ (hw _ (List.mem_of_getElem? (i := 26) rfl))) (by decide) (backOf (W := 0) (own_rm5_0 l Z a0 hw [] b50 r52_f r52_g r63_sn r60_sn r63_ln r60_ln r52_kf r52_kg T63.heap n0 z65 q63_0 q63_1 q63_2 q63_3 (own_nn Dtz)) hZ (hw _ (List.mem_of_getElem? (i := 28) rfl)) (hw _ (List.mem_of_getElem? (i := 3) rfl)) (by decide) (by decide)) qa68 qc68 (g := (mkF m 180 #[.val (.int p1), .val (.int p2), .val (.int p3), .val (.int p4), .val (.double (4787326403894837248 : UInt64)), .second, .val (.double xa), .second, .val (.double xb), .second, .val (.double xc), .second, .val (.int (1 : Int32)), .val (.int (0 : Int32)), .val (.int (((p4.toUInt32 >>> ((1 : Int32) &&& 31).toUInt32).toInt32) % (3 : Int32))), .val (.ref b50), .val (.int (1 : Int32)), .unset] [(.int (0 : Int32)), (.ref b50)])) rfl (by rw [hml]; rfl) (Steps.refl _) (argsL := [(.int (0 : Int32))]) (rest := []) (lenOf own_pd3 rfl) rfl (by show 2 * 0 + _ ≤ _; exact Nat.le_of_eq rfl) (hb hby at_180) (fun _ _ => ⟨rfl, eq66, (by decide : 3 + 0 ≤ _), (by decide : 6 + 0 ≤ _)⟩)
      dsimp only [Pt.U, Pt.locs, Pt.cells, Pt.slots] at X68 l68 y68 z68 st68 hQ68
      have yc68 : 3 = k68 := y68.symm
      have zc68 : 6 = n68 := z68.symm
      have lc68 := l68.symm
      subst lc68 yc68 zc68
      obtain ⟨rfl, Nq68, eq68⟩ := hQ68
      refine OE.of (fun _ k => st68.trans k) ?_
      have N68 := Fr.app N66 Nq68
      show OE _ p e below s _ _ _ T68 (mkF m 183 #[.val (.int p1), .val (.int p2), .val (.int p3), .val (.int p4), .val (.double (4787326403894837248 : UInt64)), .second, .val (.double xa), .second, .val (.double xb), .second, .val (.double xc), .second, .val (.int (1 : Int32)), .val (.int (0 : Int32)), .val (.int (((p4.toUInt32 >>> ((1 : Int32) &&& 31).toUInt32).toInt32) % (3 : Int32))), .val (.ref b50), .val (.int (1 : Int32)), .unset] [(.double (FP.dadd r63_sn r63_ln))])
      have Dvz : Jvm.FP.Core.DInt p3.toInt (FP.dadd r63_sn r63_ln) := by have q := Dtz; rwa [show _ + _ = p3.toInt by omega] at q
      refine OE.iloadN X68 hx hby at_183 rfl ?_
      refine OE.i2d X68 hx hby at_184 ?_
      refine OE.dcmp X68 hx hby at_185 ?_
      refine OE.ifNo X68 hx hby at_186 (teq ((own_eq0 Dvz (Jvm.FP.Core.i2d_int p3)) : (cmpValue (FP.dcmp (FP.dadd r63_sn r63_ln) (FP.i2d p3)) .l) = (0 : Int32))).2 ?_
      refine OE.iconst X68 hx hby at_189 (1 : Int32) rfl ?_
      refine OE.goto X68 hx hby (pc' := 194) at_190 (h := ?_)
      refine OE.istore X68 hx hby at_194 (l' := #[.val (.int p1), .val (.int p2), .val (.int p3), .val (.int p4), .val (.double (4787326403894837248 : UInt64)), .second, .val (.double xa), .second, .val (.double xb), .second, .val (.double xc), .second, .val (.int (1 : Int32)), .val (.int (0 : Int32)), .val (.int (((p4.toUInt32 >>> ((1 : Int32) &&& 31).toUInt32).toInt32) % (3 : Int32))), .val (.ref b50), .val (.int (1 : Int32)), .val (.int (1 : Int32))]) rfl ?_
      refine OE.iload X68 hx hby at_196 rfl ?_
      refine OE.ifNo X68 hx hby at_198 (feq (by decide : ¬ ((1 : Int32) = (0 : Int32)))).1 ?_
      refine OE.iload X68 hx hby at_201 rfl ?_
      refine OE.ifNo X68 hx hby at_203 (feq (by decide : ¬ ((1 : Int32) = (0 : Int32)))).1 ?_
      refine OE.iconst X68 hx hby at_206 (1 : Int32) rfl ?_
      refine OE.goto X68 hx hby (pc' := 211) at_207 (h := ?_)
      refine OE.retN X68 hx (t := .boolean) Bd.returns (by simp) Bd.notSynchronized (hb hby at_211) (by decide) (by decide) ?_
      rw [eq68]
      exact ⟨rfl, N68⟩
    · skip
      refine OE.ifYes X52 hx hby (pc' := 84) at_51 (feq hc51).2 (h := ?_)
      refine OE.iload X52 hx hby at_84 rfl ?_
      refine OE.iconst X52 hx hby at_86 (1 : Int32) rfl ?_
      by_cases hc87 : (((p4.toUInt32 >>> ((1 : Int32) &&& 31).toUInt32).toInt32) % (3 : Int32)) = (1 : Int32)
      · skip
        refine OE.icmpNo X52 hx hby at_87 (teq hc87).2 ?_
        refine OE.aload X52 hx hby at_90 rfl rfl ?_
        refine OE.iload X52 hx hby at_92 rfl ?_
        refine OE.dload X52 hx hby at_94 rfl ?_
        have z69 : n0 ≤ T52.heap.size := (Nat.le_trans z51 K52.1)
        obtain ⟨cq70, kq70, qa70, qb70, qc70⟩ := isOf hZ rfl q52_0
        obtain ⟨_, _, ⟨T70, L70, k70, n70⟩, -, X70, ⟨Lc70, hQ70, l70, y70, z70⟩, st70⟩ := X52.virtualBack hx (y := (⟨"com/example/archerfish/archerfish/rank/CompensatedSums", "add", "(ID)V"⟩ : MethodName)) (z := (⟨"com/example/archerfish/archerfish/rank/CompensatedSums", "add", "(ID)V"⟩ : MethodName)) hown (mvT hZ (hw _ (List.mem_of_getElem? (i := 15) rfl))) (mvT hZ (hw _ (List.mem_of_getElem? (i := 16) rfl))) (notFace_of_selects (args := #[]) (mvT hZ (hw _ (List.mem_of_getElem? (i := 18) rfl)))) (mvT hZ (hw _ (List.mem_of_getElem? (i := 18) rfl))) (mvT hZ (hw _ (List.mem_of_getElem? (i := 17) rfl))) (by decide) (backOf (W := 0) (own_rm3_1 l Z a0 hw [] b50 xb r52_f r52_g 0 0 0 0 r52_kf r52_kg T52.heap n0 z69 q52_1 q52_2 q52_3 q52_4 g_r52_f g_r52_g (Ne.symm ne_b50_r52_f) (Ne.symm ne_b50_r52_g) h52_nfg (own_ok_of own_dz own_dz Db (by omega) (by omega) (by omega))) hZ (hw _ (List.mem_of_getElem? (i := 19) rfl)) (hw _ (List.mem_of_getElem? (i := 3) rfl)) (by decide) (by decide)) qa70 qc70 (g := (mkF m 96 #[.val (.int p1), .val (.int p2), .val (.int p3), .val (.int p4), .val (.double (4787326403894837248 : UInt64)), .second, .val (.double xa), .second, .val (.double xb), .second, .val (.double xc), .second, .val (.int (1 : Int32)), .val (.int (0 : Int32)), .val (.int (((p4.toUInt32 >>> ((1 : Int32) &&& 31).toUInt32).toInt32) % (3 : Int32))), .val (.ref b50), .unset, .unset] [(.double xb), (.int (1 : Int32)), (.ref b50)])) rfl (by rw [hml]; rfl) (Steps.refl _) (argsL := [(.int (1 : Int32)), (.double xb)]) (rest := []) (lenOf own_pd2 rfl) rfl (by show 2 * 0 + _ ≤ _; exact Nat.le_of_eq rfl) (hb hby at_96) (fun _ _ => ⟨rfl, rfl, (by decide : 3 + 0 ≤ _), (by decide : 6 + 0 ≤ _)⟩)
        dsimp only [Pt.U, Pt.locs, Pt.cells, Pt.slots] at X70 l70 y70 z70 st70 hQ70
        have yc70 : 3 = k70 := y70.symm
        have zc70 : 6 = n70 := z70.symm
        have lc70 := l70.symm
        subst lc70 yc70 zc70
        obtain ⟨r70_sn, r70_ln, rfl, Nq70, K70, q70_0, q70_1, q70_2, q70_3, h70_es, h70_el⟩ := hQ70
        refine OE.of (fun _ k => st70.trans k) ?_
        have N70 := Fr.app N52 Nq70
        show OE _ p e below s _ _ _ T70 (mkF m 99 #[.val (.int p1), .val (.int p2), .val (.int p3), .val (.int p4), .val (.double (4787326403894837248 : UInt64)), .second, .val (.double xa), .second, .val (.double xb), .second, .val (.double xc), .second, .val (.int (1 : Int32)), .val (.int (0 : Int32)), .val (.int (((p4.toUInt32 >>> ((1 : Int32) &&& 31).toUInt32).toInt32) % (3 : Int32))), .val (.ref b50), .unset, .unset] [])
        obtain ⟨Ds70, Dl70⟩ := own_A1 own_dz own_dz Db h70_es h70_el
        refine OE.aload X70 hx hby at_99 rfl rfl ?_
        refine OE.iload X70 hx hby at_101 rfl ?_
        refine OE.dload X70 hx hby at_103 rfl ?_
        have z71 : n0 ≤ T70.heap.size := (Nat.le_trans z69 K70.1)
        have f73 : Exa Z T70.heap b50 "com/example/archerfish/archerfish/rank/CompensatedSums" := (q52_0.keep K70)
        obtain ⟨cq72, kq72, qa72, qb72, qc72⟩ := isOf hZ rfl f73
        obtain ⟨_, _, ⟨T72, L72, k72, n72⟩, -, X72, ⟨Lc72, hQ72, l72, y72, z72⟩, st72⟩ := X70.virtualBack hx (y := (⟨"com/example/archerfish/archerfish/rank/CompensatedSums", "add", "(ID)V"⟩ : MethodName)) (z := (⟨"com/example/archerfish/archerfish/rank/CompensatedSums", "add", "(ID)V"⟩ : MethodName)) hown (mvT hZ (hw _ (List.mem_of_getElem? (i := 15) rfl))) (mvT hZ (hw _ (List.mem_of_getElem? (i := 16) rfl))) (notFace_of_selects (args := #[]) (mvT hZ (hw _ (List.mem_of_getElem? (i := 18) rfl)))) (mvT hZ (hw _ (List.mem_of_getElem? (i := 18) rfl))) (mvT hZ (hw _ (List.mem_of_getElem? (i := 17) rfl))) (by decide) (backOf (W := 0) (own_rm3_1 l Z a0 hw [] b50 xa r52_f r52_g 0 r70_sn 0 r70_ln r52_kf r52_kg T70.heap n0 z71 q70_0 q70_1 q70_2 q70_3 g_r52_f g_r52_g (Ne.symm ne_b50_r52_f) (Ne.symm ne_b50_r52_g) h52_nfg (own_ok_of Ds70 Dl70 Da (by omega) (by omega) (by omega))) hZ (hw _ (List.mem_of_getElem? (i := 19) rfl)) (hw _ (List.mem_of_getElem? (i := 3) rfl)) (by decide) (by decide)) qa72 qc72 (g := (mkF m 105 #[.val (.int p1), .val (.int p2), .val (.int p3), .val (.int p4), .val (.double (4787326403894837248 : UInt64)), .second, .val (.double xa), .second, .val (.double xb), .second, .val (.double xc), .second, .val (.int (1 : Int32)), .val (.int (0 : Int32)), .val (.int (((p4.toUInt32 >>> ((1 : Int32) &&& 31).toUInt32).toInt32) % (3 : Int32))), .val (.ref b50), .unset, .unset] [(.double xa), (.int (1 : Int32)), (.ref b50)])) rfl (by rw [hml]; rfl) (Steps.refl _) (argsL := [(.int (1 : Int32)), (.double xa)]) (rest := []) (lenOf own_pd2 rfl) rfl (by show 2 * 0 + _ ≤ _; exact Nat.le_of_eq rfl) (hb hby at_105) (fun _ _ => ⟨rfl, rfl, (by decide : 3 + 0 ≤ _), (by decide : 6 + 0 ≤ _)⟩)
        dsimp only [Pt.U, Pt.locs, Pt.cells, Pt.slots] at X72 l72 y72 z72 st72 hQ72
        have yc72 : 3 = k72 := y72.symm
        have zc72 : 6 = n72 := z72.symm
        have lc72 := l72.symm
        subst lc72 yc72 zc72
        obtain ⟨r72_sn, r72_ln, rfl, Nq72, K72, q72_0, q72_1, q72_2, q72_3, h72_es, h72_el⟩ := hQ72
        refine OE.of (fun _ k => st72.trans k) ?_
        have N72 := Fr.app N70 Nq72
        show OE _ p e below s _ _ _ T72 (mkF m 108 #[.val (.int p1), .val (.int p2), .val (.int p3), .val (.int p4), .val (.double (4787326403894837248 : UInt64)), .second, .val (.double xa), .second, .val (.double xb), .second, .val (.double xc), .second, .val (.int (1 : Int32)), .val (.int (0 : Int32)), .val (.int (((p4.toUInt32 >>> ((1 : Int32) &&& 31).toUInt32).toInt32) % (3 : Int32))), .val (.ref b50), .unset, .unset] [])
        obtain ⟨nn72, hn72, Ds72, Dl72⟩ := own_A2 Ds70 Dl70 Da (by omega) (by omega) (by omega) h72_es h72_el
        refine OE.aload X72 hx hby at_108 rfl rfl ?_
        refine OE.iload X72 hx hby at_110 rfl ?_
        refine OE.dload X72 hx hby at_112 rfl ?_
        have z74 : n0 ≤ T72.heap.size := (Nat.le_trans z71 K72.1)
        have f76 : Exa Z T72.heap b50 "com/example/archerfish/archerfish/rank/CompensatedSums" := (f73.keep K72)
        obtain ⟨cq75, kq75, qa75, qb75, qc75⟩ := isOf hZ rfl f76
        obtain ⟨_, _, ⟨T75, L75, k75, n75⟩, -, X75, ⟨Lc75, hQ75, l75, y75, z75⟩, st75⟩ := X72.virtualBack hx (y := (⟨"com/example/archerfish/archerfish/rank/CompensatedSums", "add", "(ID)V"⟩ : MethodName)) (z := (⟨"com/example/archerfish/archerfish/rank/CompensatedSums", "add", "(ID)V"⟩ : MethodName)) hown (mvT hZ (hw _ (List.mem_of_getElem? (i := 15) rfl))) (mvT hZ (hw _ (List.mem_of_getElem? (i := 16) rfl))) (notFace_of_selects (args := #[]) (mvT hZ (hw _ (List.mem_of_getElem? (i := 18) rfl)))) (mvT hZ (hw _ (List.mem_of_getElem? (i := 18) rfl))) (mvT hZ (hw _ (List.mem_of_getElem? (i := 17) rfl))) (by decide) (backOf (W := 0) (own_rm3_1 l Z a0 hw [] b50 xc r52_f r52_g 0 r72_sn 0 r72_ln r52_kf r52_kg T72.heap n0 z74 q72_0 q72_1 q72_2 q72_3 g_r52_f g_r52_g (Ne.symm ne_b50_r52_f) (Ne.symm ne_b50_r52_g) h52_nfg (own_ok_of Ds72 Dl72 Dc (by omega) (by omega) (by omega))) hZ (hw _ (List.mem_of_getElem? (i := 19) rfl)) (hw _ (List.mem_of_getElem? (i := 3) rfl)) (by decide) (by decide)) qa75 qc75 (g := (mkF m 114 #[.val (.int p1), .val (.int p2), .val (.int p3), .val (.int p4), .val (.double (4787326403894837248 : UInt64)), .second, .val (.double xa), .second, .val (.double xb), .second, .val (.double xc), .second, .val (.int (1 : Int32)), .val (.int (0 : Int32)), .val (.int (((p4.toUInt32 >>> ((1 : Int32) &&& 31).toUInt32).toInt32) % (3 : Int32))), .val (.ref b50), .unset, .unset] [(.double xc), (.int (1 : Int32)), (.ref b50)])) rfl (by rw [hml]; rfl) (Steps.refl _) (argsL := [(.int (1 : Int32)), (.double xc)]) (rest := []) (lenOf own_pd2 rfl) rfl (by show 2 * 0 + _ ≤ _; exact Nat.le_of_eq rfl) (hb hby at_114) (fun _ _ => ⟨rfl, rfl, (by decide : 3 + 0 ≤ _), (by decide : 6 + 0 ≤ _)⟩)
        dsimp only [Pt.U, Pt.locs, Pt.cells, Pt.slots] at X75 l75 y75 z75 st75 hQ75
        have yc75 : 3 = k75 := y75.symm
        have zc75 : 6 = n75 := z75.symm
        have lc75 := l75.symm
        subst lc75 yc75 zc75
        obtain ⟨r75_sn, r75_ln, rfl, Nq75, K75, q75_0, q75_1, q75_2, q75_3, h75_es, h75_el⟩ := hQ75
        refine OE.of (fun _ k => st75.trans k) ?_
        have N75 := Fr.app N72 Nq75
        show OE _ p e below s _ _ _ T75 (mkF m 117 #[.val (.int p1), .val (.int p2), .val (.int p3), .val (.int p4), .val (.double (4787326403894837248 : UInt64)), .second, .val (.double xa), .second, .val (.double xb), .second, .val (.double xc), .second, .val (.int (1 : Int32)), .val (.int (0 : Int32)), .val (.int (((p4.toUInt32 >>> ((1 : Int32) &&& 31).toUInt32).toInt32) % (3 : Int32))), .val (.ref b50), .unset, .unset] [])
        obtain ⟨Ds75, Dl75⟩ := own_A3 Ds72 Dl72 Dc (by omega) h75_es h75_el
        refine OE.goto X75 hx hby (pc' := 147) at_117 (h := ?_)
        refine OE.aload X75 hx hby at_147 rfl rfl ?_
        refine OE.iload X75 hx hby at_149 rfl ?_
        refine OE.iloadN X75 hx hby at_151 rfl ?_
        refine OE.i2d X75 hx hby at_152 ?_
        have hC := own_nb p3
        have z77 : n0 ≤ T75.heap.size := (Nat.le_trans z74 K75.1)
        have f79 : Exa Z T75.heap b50 "com/example/archerfish/archerfish/rank/CompensatedSums" := (f76.keep K75)
        obtain ⟨cq78, kq78, qa78, qb78, qc78⟩ := isOf hZ rfl f79
        obtain ⟨_, _, ⟨T78, L78, k78, n78⟩, -, X78, ⟨Lc78, hQ78, l78, y78, z78⟩, st78⟩ := X75.virtualBack hx (y := (⟨"com/example/archerfish/archerfish/rank/CompensatedSums", "add", "(ID)V"⟩ : MethodName)) (z := (⟨"com/example/archerfish/archerfish/rank/CompensatedSums", "add", "(ID)V"⟩ : MethodName)) hown (mvT hZ (hw _ (List.mem_of_getElem? (i := 15) rfl))) (mvT hZ (hw _ (List.mem_of_getElem? (i := 16) rfl))) (notFace_of_selects (args := #[]) (mvT hZ (hw _ (List.mem_of_getElem? (i := 18) rfl)))) (mvT hZ (hw _ (List.mem_of_getElem? (i := 18) rfl))) (mvT hZ (hw _ (List.mem_of_getElem? (i := 17) rfl))) (by decide) (backOf (W := 0) (own_rm3_0 l Z a0 hw [] b50 (FP.i2d p3) r52_f r52_g 0 r75_sn 0 r75_ln r52_kf r52_kg T75.heap n0 z77 q75_0 q75_1 q75_2 q75_3 g_r52_f g_r52_g (Ne.symm ne_b50_r52_f) (Ne.symm ne_b50_r52_g) h52_nfg (own_ok_of own_dz own_dz (Jvm.FP.Core.i2d_int p3) (by omega) (by omega) (by omega))) hZ (hw _ (List.mem_of_getElem? (i := 19) rfl)) (hw _ (List.mem_of_getElem? (i := 3) rfl)) (by decide) (by decide)) qa78 qc78 (g := (mkF m 153 #[.val (.int p1), .val (.int p2), .val (.int p3), .val (.int p4), .val (.double (4787326403894837248 : UInt64)), .second, .val (.double xa), .second, .val (.double xb), .second, .val (.double xc), .second, .val (.int (1 : Int32)), .val (.int (0 : Int32)), .val (.int (((p4.toUInt32 >>> ((1 : Int32) &&& 31).toUInt32).toInt32) % (3 : Int32))), .val (.ref b50), .unset, .unset] [(.double (FP.i2d p3)), (.int (0 : Int32)), (.ref b50)])) rfl (by rw [hml]; rfl) (Steps.refl _) (argsL := [(.int (0 : Int32)), (.double (FP.i2d p3))]) (rest := []) (lenOf own_pd2 rfl) rfl (by show 2 * 0 + _ ≤ _; exact Nat.le_of_eq rfl) (hb hby at_153) (fun _ _ => ⟨rfl, rfl, (by decide : 3 + 0 ≤ _), (by decide : 6 + 0 ≤ _)⟩)
        dsimp only [Pt.U, Pt.locs, Pt.cells, Pt.slots] at X78 l78 y78 z78 st78 hQ78
        have yc78 : 3 = k78 := y78.symm
        have zc78 : 6 = n78 := z78.symm
        have lc78 := l78.symm
        subst lc78 yc78 zc78
        obtain ⟨r78_sn, r78_ln, rfl, Nq78, K78, q78_0, q78_1, q78_2, q78_3, h78_es, h78_el⟩ := hQ78
        refine OE.of (fun _ k => st78.trans k) ?_
        have N78 := Fr.app N75 Nq78
        show OE _ p e below s _ _ _ T78 (mkF m 156 #[.val (.int p1), .val (.int p2), .val (.int p3), .val (.int p4), .val (.double (4787326403894837248 : UInt64)), .second, .val (.double xa), .second, .val (.double xb), .second, .val (.double xc), .second, .val (.int (1 : Int32)), .val (.int (0 : Int32)), .val (.int (((p4.toUInt32 >>> ((1 : Int32) &&& 31).toUInt32).toInt32) % (3 : Int32))), .val (.ref b50), .unset, .unset] [])
        obtain ⟨Ds78, Dl78⟩ := own_A1 own_dz own_dz (Jvm.FP.Core.i2d_int p3) h78_es h78_el
        refine OE.aload X78 hx hby at_156 rfl rfl ?_
        refine OE.iload X78 hx hby at_158 rfl ?_
        have Dtm := Jvm.FP.Core.dadd_int Ds75 Dl75 (by omega)
        have z80 : n0 ≤ T78.heap.size := (Nat.le_trans z77 K78.1)
        have f82 : Exa Z T78.heap b50 "com/example/archerfish/archerfish/rank/CompensatedSums" := (f79.keep K78)
        obtain ⟨cq81, kq81, qa81, qb81, qc81⟩ := isOf hZ rfl f82
        obtain ⟨_, _, ⟨T81, L81, k81, n81⟩, -, X81, ⟨Lc81, hQ81, l81, y81, z81⟩, st81⟩ := X78.virtualBack hx (y := (⟨"com/example/archerfish/archerfish/rank/CompensatedSums", "total", "(I)D"⟩ : MethodName)) (z := (⟨"com/example/archerfish/archerfish/rank/CompensatedSums", "total", "(I)D"⟩ : MethodName)) hown (mvT hZ (hw _ (List.mem_of_getElem? (i := 24) rfl))) (mvT hZ (hw _ (List.mem_of_getElem? (i := 25) rfl))) (notFace_of_selects (args := #[]) (mvT hZ (hw _ (List.mem_of_getElem? (i := 27) rfl)))) (mvT hZ (hw _ (List.mem_of_getElem? (i := 27) rfl))) (mvT hZ (hw _ (List.mem_of_getElem? (i := 26) rfl))) (by decide) (backOf (W := 0) (own_rm5_1 l Z a0 hw [] b50 r52_f r52_g r78_sn r75_sn r78_ln r75_ln r52_kf r52_kg T78.heap n0 z80 q78_0 q78_1 q78_2 q78_3 (own_nn Dtm)) hZ (hw _ (List.mem_of_getElem? (i := 28) rfl)) (hw _ (List.mem_of_getElem? (i := 3) rfl)) (by decide) (by decide)) qa81 qc81 (g := (mkF m 160 #[.val (.int p1), .val (.int p2), .val (.int p3), .val (.int p4), .val (.double (4787326403894837248 : UInt64)), .second, .val (.double xa), .second, .val (.double xb), .second, .val (.double xc), .second, .val (.int (1 : Int32)), .val (.int (0 : Int32)), .val (.int (((p4.toUInt32 >>> ((1 : Int32) &&& 31).toUInt32).toInt32) % (3 : Int32))), .val (.ref b50), .unset, .unset] [(.int (1 : Int32)), (.ref b50)])) rfl (by rw [hml]; rfl) (Steps.refl _) (argsL := [(.int (1 : Int32))]) (rest := []) (lenOf own_pd3 rfl) rfl (by show 2 * 0 + _ ≤ _; exact Nat.le_of_eq rfl) (hb hby at_160) (fun _ _ => ⟨rfl, rfl, (by decide : 3 + 0 ≤ _), (by decide : 6 + 0 ≤ _)⟩)
        dsimp only [Pt.U, Pt.locs, Pt.cells, Pt.slots] at X81 l81 y81 z81 st81 hQ81
        have yc81 : 3 = k81 := y81.symm
        have zc81 : 6 = n81 := z81.symm
        have lc81 := l81.symm
        subst lc81 yc81 zc81
        obtain ⟨rfl, Nq81, eq81⟩ := hQ81
        refine OE.of (fun _ k => st81.trans k) ?_
        have N81 := Fr.app N78 Nq81
        show OE _ p e below s _ _ _ T81 (mkF m 163 #[.val (.int p1), .val (.int p2), .val (.int p3), .val (.int p4), .val (.double (4787326403894837248 : UInt64)), .second, .val (.double xa), .second, .val (.double xb), .second, .val (.double xc), .second, .val (.int (1 : Int32)), .val (.int (0 : Int32)), .val (.int (((p4.toUInt32 >>> ((1 : Int32) &&& 31).toUInt32).toInt32) % (3 : Int32))), .val (.ref b50), .unset, .unset] [(.double (FP.dadd r75_sn r75_ln))])
        have Dvm : Jvm.FP.Core.DInt p2.toInt (FP.dadd r75_sn r75_ln) := by have q := Dtm; rwa [show _ + _ = p2.toInt by omega] at q
        refine OE.dload X81 hx hby at_163 rfl ?_
        refine OE.dcmp X81 hx hby at_165 ?_
        refine OE.ifNo X81 hx hby at_166 (teq ((own_eq0 Dvm Db) : (cmpValue (FP.dcmp (FP.dadd r75_sn r75_ln) xb) .l) = (0 : Int32))).2 ?_
        refine OE.iconst X81 hx hby at_169 (1 : Int32) rfl ?_
        refine OE.goto X81 hx hby (pc' := 174) at_170 (h := ?_)
        refine OE.istore X81 hx hby at_174 (l' := #[.val (.int p1), .val (.int p2), .val (.int p3), .val (.int p4), .val (.double (4787326403894837248 : UInt64)), .second, .val (.double xa), .second, .val (.double xb), .second, .val (.double xc), .second, .val (.int (1 : Int32)), .val (.int (0 : Int32)), .val (.int (((p4.toUInt32 >>> ((1 : Int32) &&& 31).toUInt32).toInt32) % (3 : Int32))), .val (.ref b50), .val (.int (1 : Int32)), .unset]) rfl ?_
        refine OE.aload X81 hx hby at_176 rfl rfl ?_
        refine OE.iload X81 hx hby at_178 rfl ?_
        have Dtz := Jvm.FP.Core.dadd_int Ds78 Dl78 (by omega)
        obtain ⟨cq83, kq83, qa83, qb83, qc83⟩ := isOf hZ eq81 f82
        obtain ⟨_, _, ⟨T83, L83, k83, n83⟩, -, X83, ⟨Lc83, hQ83, l83, y83, z83⟩, st83⟩ := X81.virtualBack hx (y := (⟨"com/example/archerfish/archerfish/rank/CompensatedSums", "total", "(I)D"⟩ : MethodName)) (z := (⟨"com/example/archerfish/archerfish/rank/CompensatedSums", "total", "(I)D"⟩ : MethodName)) hown (mvT hZ (hw _ (List.mem_of_getElem? (i := 24) rfl))) (mvT hZ (hw _ (List.mem_of_getElem? (i := 25) rfl))) (notFace_of_selects (args := #[]) (mvT hZ (hw _ (List.mem_of_getElem? (i := 27) rfl)))) (mvT hZ (hw _ (List.mem_of_getElem? (i := 27) rfl))) (mvT hZ (hw _ (List.mem_of_getElem? (i := 26) rfl))) (by decide) (backOf (W := 0) (own_rm5_0 l Z a0 hw [] b50 r52_f r52_g r78_sn r75_sn r78_ln r75_ln r52_kf r52_kg T78.heap n0 z80 q78_0 q78_1 q78_2 q78_3 (own_nn Dtz)) hZ (hw _ (List.mem_of_getElem? (i := 28) rfl)) (hw _ (List.mem_of_getElem? (i := 3) rfl)) (by decide) (by decide)) qa83 qc83 (g := (mkF m 180 #[.val (.int p1), .val (.int p2), .val (.int p3), .val (.int p4), .val (.double (4787326403894837248 : UInt64)), .second, .val (.double xa), .second, .val (.double xb), .second, .val (.double xc), .second, .val (.int (1 : Int32)), .val (.int (0 : Int32)), .val (.int (((p4.toUInt32 >>> ((1 : Int32) &&& 31).toUInt32).toInt32) % (3 : Int32))), .val (.ref b50), .val (.int (1 : Int32)), .unset] [(.int (0 : Int32)), (.ref b50)])) rfl (by rw [hml]; rfl) (Steps.refl _) (argsL := [(.int (0 : Int32))]) (rest := []) (lenOf own_pd3 rfl) rfl (by show 2 * 0 + _ ≤ _; exact Nat.le_of_eq rfl) (hb hby at_180) (fun _ _ => ⟨rfl, eq81, (by decide : 3 + 0 ≤ _), (by decide : 6 + 0 ≤ _)⟩)
        dsimp only [Pt.U, Pt.locs, Pt.cells, Pt.slots] at X83 l83 y83 z83 st83 hQ83
        have yc83 : 3 = k83 := y83.symm
        have zc83 : 6 = n83 := z83.symm
        have lc83 := l83.symm
        subst lc83 yc83 zc83
        obtain ⟨rfl, Nq83, eq83⟩ := hQ83
        refine OE.of (fun _ k => st83.trans k) ?_
        have N83 := Fr.app N81 Nq83
        show OE _ p e below s _ _ _ T83 (mkF m 183 #[.val (.int p1), .val (.int p2), .val (.int p3), .val (.int p4), .val (.double (4787326403894837248 : UInt64)), .second, .val (.double xa), .second, .val (.double xb), .second, .val (.double xc), .second, .val (.int (1 : Int32)), .val (.int (0 : Int32)), .val (.int (((p4.toUInt32 >>> ((1 : Int32) &&& 31).toUInt32).toInt32) % (3 : Int32))), .val (.ref b50), .val (.int (1 : Int32)), .unset] [(.double (FP.dadd r78_sn r78_ln))])
        have Dvz : Jvm.FP.Core.DInt p3.toInt (FP.dadd r78_sn r78_ln) := by have q := Dtz; rwa [show _ + _ = p3.toInt by omega] at q
        refine OE.iloadN X83 hx hby at_183 rfl ?_
        refine OE.i2d X83 hx hby at_184 ?_
        refine OE.dcmp X83 hx hby at_185 ?_
        refine OE.ifNo X83 hx hby at_186 (teq ((own_eq0 Dvz (Jvm.FP.Core.i2d_int p3)) : (cmpValue (FP.dcmp (FP.dadd r78_sn r78_ln) (FP.i2d p3)) .l) = (0 : Int32))).2 ?_
        refine OE.iconst X83 hx hby at_189 (1 : Int32) rfl ?_
        refine OE.goto X83 hx hby (pc' := 194) at_190 (h := ?_)
        refine OE.istore X83 hx hby at_194 (l' := #[.val (.int p1), .val (.int p2), .val (.int p3), .val (.int p4), .val (.double (4787326403894837248 : UInt64)), .second, .val (.double xa), .second, .val (.double xb), .second, .val (.double xc), .second, .val (.int (1 : Int32)), .val (.int (0 : Int32)), .val (.int (((p4.toUInt32 >>> ((1 : Int32) &&& 31).toUInt32).toInt32) % (3 : Int32))), .val (.ref b50), .val (.int (1 : Int32)), .val (.int (1 : Int32))]) rfl ?_
        refine OE.iload X83 hx hby at_196 rfl ?_
        refine OE.ifNo X83 hx hby at_198 (feq (by decide : ¬ ((1 : Int32) = (0 : Int32)))).1 ?_
        refine OE.iload X83 hx hby at_201 rfl ?_
        refine OE.ifNo X83 hx hby at_203 (feq (by decide : ¬ ((1 : Int32) = (0 : Int32)))).1 ?_
        refine OE.iconst X83 hx hby at_206 (1 : Int32) rfl ?_
        refine OE.goto X83 hx hby (pc' := 211) at_207 (h := ?_)
        refine OE.retN X83 hx (t := .boolean) Bd.returns (by simp) Bd.notSynchronized (hb hby at_211) (by decide) (by decide) ?_
        rw [eq83]
        exact ⟨rfl, N83⟩
      · skip
        refine OE.icmpYes X52 hx hby (pc' := 120) at_87 (feq hc87).2 (h := ?_)
        refine OE.aload X52 hx hby at_120 rfl rfl ?_
        refine OE.iload X52 hx hby at_122 rfl ?_
        refine OE.dload X52 hx hby at_124 rfl ?_
        have z84 : n0 ≤ T52.heap.size := (Nat.le_trans z51 K52.1)
        obtain ⟨cq85, kq85, qa85, qb85, qc85⟩ := isOf hZ rfl q52_0
        obtain ⟨_, _, ⟨T85, L85, k85, n85⟩, -, X85, ⟨Lc85, hQ85, l85, y85, z85⟩, st85⟩ := X52.virtualBack hx (y := (⟨"com/example/archerfish/archerfish/rank/CompensatedSums", "add", "(ID)V"⟩ : MethodName)) (z := (⟨"com/example/archerfish/archerfish/rank/CompensatedSums", "add", "(ID)V"⟩ : MethodName)) hown (mvT hZ (hw _ (List.mem_of_getElem? (i := 15) rfl))) (mvT hZ (hw _ (List.mem_of_getElem? (i := 16) rfl))) (notFace_of_selects (args := #[]) (mvT hZ (hw _ (List.mem_of_getElem? (i := 18) rfl)))) (mvT hZ (hw _ (List.mem_of_getElem? (i := 18) rfl))) (mvT hZ (hw _ (List.mem_of_getElem? (i := 17) rfl))) (by decide) (backOf (W := 0) (own_rm3_1 l Z a0 hw [] b50 xa r52_f r52_g 0 0 0 0 r52_kf r52_kg T52.heap n0 z84 q52_1 q52_2 q52_3 q52_4 g_r52_f g_r52_g (Ne.symm ne_b50_r52_f) (Ne.symm ne_b50_r52_g) h52_nfg (own_ok_of own_dz own_dz Da (by omega) (by omega) (by omega))) hZ (hw _ (List.mem_of_getElem? (i := 19) rfl)) (hw _ (List.mem_of_getElem? (i := 3) rfl)) (by decide) (by decide)) qa85 qc85 (g := (mkF m 126 #[.val (.int p1), .val (.int p2), .val (.int p3), .val (.int p4), .val (.double (4787326403894837248 : UInt64)), .second, .val (.double xa), .second, .val (.double xb), .second, .val (.double xc), .second, .val (.int (1 : Int32)), .val (.int (0 : Int32)), .val (.int (((p4.toUInt32 >>> ((1 : Int32) &&& 31).toUInt32).toInt32) % (3 : Int32))), .val (.ref b50), .unset, .unset] [(.double xa), (.int (1 : Int32)), (.ref b50)])) rfl (by rw [hml]; rfl) (Steps.refl _) (argsL := [(.int (1 : Int32)), (.double xa)]) (rest := []) (lenOf own_pd2 rfl) rfl (by show 2 * 0 + _ ≤ _; exact Nat.le_of_eq rfl) (hb hby at_126) (fun _ _ => ⟨rfl, rfl, (by decide : 3 + 0 ≤ _), (by decide : 6 + 0 ≤ _)⟩)
        dsimp only [Pt.U, Pt.locs, Pt.cells, Pt.slots] at X85 l85 y85 z85 st85 hQ85
        have yc85 : 3 = k85 := y85.symm
        have zc85 : 6 = n85 := z85.symm
        have lc85 := l85.symm
        subst lc85 yc85 zc85
        obtain ⟨r85_sn, r85_ln, rfl, Nq85, K85, q85_0, q85_1, q85_2, q85_3, h85_es, h85_el⟩ := hQ85
        refine OE.of (fun _ k => st85.trans k) ?_
        have N85 := Fr.app N52 Nq85
        show OE _ p e below s _ _ _ T85 (mkF m 129 #[.val (.int p1), .val (.int p2), .val (.int p3), .val (.int p4), .val (.double (4787326403894837248 : UInt64)), .second, .val (.double xa), .second, .val (.double xb), .second, .val (.double xc), .second, .val (.int (1 : Int32)), .val (.int (0 : Int32)), .val (.int (((p4.toUInt32 >>> ((1 : Int32) &&& 31).toUInt32).toInt32) % (3 : Int32))), .val (.ref b50), .unset, .unset] [])
        obtain ⟨Ds85, Dl85⟩ := own_A1 own_dz own_dz Da h85_es h85_el
        refine OE.aload X85 hx hby at_129 rfl rfl ?_
        refine OE.iload X85 hx hby at_131 rfl ?_
        refine OE.dload X85 hx hby at_133 rfl ?_
        have z86 : n0 ≤ T85.heap.size := (Nat.le_trans z84 K85.1)
        have f88 : Exa Z T85.heap b50 "com/example/archerfish/archerfish/rank/CompensatedSums" := (q52_0.keep K85)
        obtain ⟨cq87, kq87, qa87, qb87, qc87⟩ := isOf hZ rfl f88
        obtain ⟨_, _, ⟨T87, L87, k87, n87⟩, -, X87, ⟨Lc87, hQ87, l87, y87, z87⟩, st87⟩ := X85.virtualBack hx (y := (⟨"com/example/archerfish/archerfish/rank/CompensatedSums", "add", "(ID)V"⟩ : MethodName)) (z := (⟨"com/example/archerfish/archerfish/rank/CompensatedSums", "add", "(ID)V"⟩ : MethodName)) hown (mvT hZ (hw _ (List.mem_of_getElem? (i := 15) rfl))) (mvT hZ (hw _ (List.mem_of_getElem? (i := 16) rfl))) (notFace_of_selects (args := #[]) (mvT hZ (hw _ (List.mem_of_getElem? (i := 18) rfl)))) (mvT hZ (hw _ (List.mem_of_getElem? (i := 18) rfl))) (mvT hZ (hw _ (List.mem_of_getElem? (i := 17) rfl))) (by decide) (backOf (W := 0) (own_rm3_1 l Z a0 hw [] b50 xc r52_f r52_g 0 r85_sn 0 r85_ln r52_kf r52_kg T85.heap n0 z86 q85_0 q85_1 q85_2 q85_3 g_r52_f g_r52_g (Ne.symm ne_b50_r52_f) (Ne.symm ne_b50_r52_g) h52_nfg (own_ok_of Ds85 Dl85 Dc (by omega) (by omega) (by omega))) hZ (hw _ (List.mem_of_getElem? (i := 19) rfl)) (hw _ (List.mem_of_getElem? (i := 3) rfl)) (by decide) (by decide)) qa87 qc87 (g := (mkF m 135 #[.val (.int p1), .val (.int p2), .val (.int p3), .val (.int p4), .val (.double (4787326403894837248 : UInt64)), .second, .val (.double xa), .second, .val (.double xb), .second, .val (.double xc), .second, .val (.int (1 : Int32)), .val (.int (0 : Int32)), .val (.int (((p4.toUInt32 >>> ((1 : Int32) &&& 31).toUInt32).toInt32) % (3 : Int32))), .val (.ref b50), .unset, .unset] [(.double xc), (.int (1 : Int32)), (.ref b50)])) rfl (by rw [hml]; rfl) (Steps.refl _) (argsL := [(.int (1 : Int32)), (.double xc)]) (rest := []) (lenOf own_pd2 rfl) rfl (by show 2 * 0 + _ ≤ _; exact Nat.le_of_eq rfl) (hb hby at_135) (fun _ _ => ⟨rfl, rfl, (by decide : 3 + 0 ≤ _), (by decide : 6 + 0 ≤ _)⟩)
        dsimp only [Pt.U, Pt.locs, Pt.cells, Pt.slots] at X87 l87 y87 z87 st87 hQ87
        have yc87 : 3 = k87 := y87.symm
        have zc87 : 6 = n87 := z87.symm
        have lc87 := l87.symm
        subst lc87 yc87 zc87
        obtain ⟨r87_sn, r87_ln, rfl, Nq87, K87, q87_0, q87_1, q87_2, q87_3, h87_es, h87_el⟩ := hQ87
        refine OE.of (fun _ k => st87.trans k) ?_
        have N87 := Fr.app N85 Nq87
        show OE _ p e below s _ _ _ T87 (mkF m 138 #[.val (.int p1), .val (.int p2), .val (.int p3), .val (.int p4), .val (.double (4787326403894837248 : UInt64)), .second, .val (.double xa), .second, .val (.double xb), .second, .val (.double xc), .second, .val (.int (1 : Int32)), .val (.int (0 : Int32)), .val (.int (((p4.toUInt32 >>> ((1 : Int32) &&& 31).toUInt32).toInt32) % (3 : Int32))), .val (.ref b50), .unset, .unset] [])
        obtain ⟨Ds87, Dl87⟩ := own_A3 Ds85 Dl85 Dc (by omega) h87_es h87_el
        rw [show A + -A = 0 by omega] at Ds87
        refine OE.aload X87 hx hby at_138 rfl rfl ?_
        refine OE.iload X87 hx hby at_140 rfl ?_
        refine OE.dload X87 hx hby at_142 rfl ?_
        have z89 : n0 ≤ T87.heap.size := (Nat.le_trans z86 K87.1)
        have f91 : Exa Z T87.heap b50 "com/example/archerfish/archerfish/rank/CompensatedSums" := (f88.keep K87)
        obtain ⟨cq90, kq90, qa90, qb90, qc90⟩ := isOf hZ rfl f91
        obtain ⟨_, _, ⟨T90, L90, k90, n90⟩, -, X90, ⟨Lc90, hQ90, l90, y90, z90⟩, st90⟩ := X87.virtualBack hx (y := (⟨"com/example/archerfish/archerfish/rank/CompensatedSums", "add", "(ID)V"⟩ : MethodName)) (z := (⟨"com/example/archerfish/archerfish/rank/CompensatedSums", "add", "(ID)V"⟩ : MethodName)) hown (mvT hZ (hw _ (List.mem_of_getElem? (i := 15) rfl))) (mvT hZ (hw _ (List.mem_of_getElem? (i := 16) rfl))) (notFace_of_selects (args := #[]) (mvT hZ (hw _ (List.mem_of_getElem? (i := 18) rfl)))) (mvT hZ (hw _ (List.mem_of_getElem? (i := 18) rfl))) (mvT hZ (hw _ (List.mem_of_getElem? (i := 17) rfl))) (by decide) (backOf (W := 0) (own_rm3_1 l Z a0 hw [] b50 xb r52_f r52_g 0 r87_sn 0 r87_ln r52_kf r52_kg T87.heap n0 z89 q87_0 q87_1 q87_2 q87_3 g_r52_f g_r52_g (Ne.symm ne_b50_r52_f) (Ne.symm ne_b50_r52_g) h52_nfg (own_ok_of Ds87 Dl87 Db (by omega) (by omega) (by omega))) hZ (hw _ (List.mem_of_getElem? (i := 19) rfl)) (hw _ (List.mem_of_getElem? (i := 3) rfl)) (by decide) (by decide)) qa90 qc90 (g := (mkF m 144 #[.val (.int p1), .val (.int p2), .val (.int p3), .val (.int p4), .val (.double (4787326403894837248 : UInt64)), .second, .val (.double xa), .second, .val (.double xb), .second, .val (.double xc), .second, .val (.int (1 : Int32)), .val (.int (0 : Int32)), .val (.int (((p4.toUInt32 >>> ((1 : Int32) &&& 31).toUInt32).toInt32) % (3 : Int32))), .val (.ref b50), .unset, .unset] [(.double xb), (.int (1 : Int32)), (.ref b50)])) rfl (by rw [hml]; rfl) (Steps.refl _) (argsL := [(.int (1 : Int32)), (.double xb)]) (rest := []) (lenOf own_pd2 rfl) rfl (by show 2 * 0 + _ ≤ _; exact Nat.le_of_eq rfl) (hb hby at_144) (fun _ _ => ⟨rfl, rfl, (by decide : 3 + 0 ≤ _), (by decide : 6 + 0 ≤ _)⟩)
        dsimp only [Pt.U, Pt.locs, Pt.cells, Pt.slots] at X90 l90 y90 z90 st90 hQ90
        have yc90 : 3 = k90 := y90.symm
        have zc90 : 6 = n90 := z90.symm
        have lc90 := l90.symm
        subst lc90 yc90 zc90
        obtain ⟨r90_sn, r90_ln, rfl, Nq90, K90, q90_0, q90_1, q90_2, q90_3, h90_es, h90_el⟩ := hQ90
        refine OE.of (fun _ k => st90.trans k) ?_
        have N90 := Fr.app N87 Nq90
        show OE _ p e below s _ _ _ T90 (mkF m 147 #[.val (.int p1), .val (.int p2), .val (.int p3), .val (.int p4), .val (.double (4787326403894837248 : UInt64)), .second, .val (.double xa), .second, .val (.double xb), .second, .val (.double xc), .second, .val (.int (1 : Int32)), .val (.int (0 : Int32)), .val (.int (((p4.toUInt32 >>> ((1 : Int32) &&& 31).toUInt32).toInt32) % (3 : Int32))), .val (.ref b50), .unset, .unset] [])
        obtain ⟨Ds90, Dl90⟩ := own_A1 Ds87 Dl87 Db h90_es h90_el
        refine OE.aload X90 hx hby at_147 rfl rfl ?_
        refine OE.iload X90 hx hby at_149 rfl ?_
        refine OE.iloadN X90 hx hby at_151 rfl ?_
        refine OE.i2d X90 hx hby at_152 ?_
        have hC := own_nb p3
        have z92 : n0 ≤ T90.heap.size := (Nat.le_trans z89 K90.1)
        have f94 : Exa Z T90.heap b50 "com/example/archerfish/archerfish/rank/CompensatedSums" := (f91.keep K90)
        obtain ⟨cq93, kq93, qa93, qb93, qc93⟩ := isOf hZ rfl f94
        obtain ⟨_, _, ⟨T93, L93, k93, n93⟩, -, X93, ⟨Lc93, hQ93, l93, y93, z93⟩, st93⟩ := X90.virtualBack hx (y := (⟨"com/example/archerfish/archerfish/rank/CompensatedSums", "add", "(ID)V"⟩ : MethodName)) (z := (⟨"com/example/archerfish/archerfish/rank/CompensatedSums", "add", "(ID)V"⟩ : MethodName)) hown (mvT hZ (hw _ (List.mem_of_getElem? (i := 15) rfl))) (mvT hZ (hw _ (List.mem_of_getElem? (i := 16) rfl))) (notFace_of_selects (args := #[]) (mvT hZ (hw _ (List.mem_of_getElem? (i := 18) rfl)))) (mvT hZ (hw _ (List.mem_of_getElem? (i := 18) rfl))) (mvT hZ (hw _ (List.mem_of_getElem? (i := 17) rfl))) (by decide) (backOf (W := 0) (own_rm3_0 l Z a0 hw [] b50 (FP.i2d p3) r52_f r52_g 0 r90_sn 0 r90_ln r52_kf r52_kg T90.heap n0 z92 q90_0 q90_1 q90_2 q90_3 g_r52_f g_r52_g (Ne.symm ne_b50_r52_f) (Ne.symm ne_b50_r52_g) h52_nfg (own_ok_of own_dz own_dz (Jvm.FP.Core.i2d_int p3) (by omega) (by omega) (by omega))) hZ (hw _ (List.mem_of_getElem? (i := 19) rfl)) (hw _ (List.mem_of_getElem? (i := 3) rfl)) (by decide) (by decide)) qa93 qc93 (g := (mkF m 153 #[.val (.int p1), .val (.int p2), .val (.int p3), .val (.int p4), .val (.double (4787326403894837248 : UInt64)), .second, .val (.double xa), .second, .val (.double xb), .second, .val (.double xc), .second, .val (.int (1 : Int32)), .val (.int (0 : Int32)), .val (.int (((p4.toUInt32 >>> ((1 : Int32) &&& 31).toUInt32).toInt32) % (3 : Int32))), .val (.ref b50), .unset, .unset] [(.double (FP.i2d p3)), (.int (0 : Int32)), (.ref b50)])) rfl (by rw [hml]; rfl) (Steps.refl _) (argsL := [(.int (0 : Int32)), (.double (FP.i2d p3))]) (rest := []) (lenOf own_pd2 rfl) rfl (by show 2 * 0 + _ ≤ _; exact Nat.le_of_eq rfl) (hb hby at_153) (fun _ _ => ⟨rfl, rfl, (by decide : 3 + 0 ≤ _), (by decide : 6 + 0 ≤ _)⟩)
        dsimp only [Pt.U, Pt.locs, Pt.cells, Pt.slots] at X93 l93 y93 z93 st93 hQ93
        have yc93 : 3 = k93 := y93.symm
        have zc93 : 6 = n93 := z93.symm
        have lc93 := l93.symm
        subst lc93 yc93 zc93
        obtain ⟨r93_sn, r93_ln, rfl, Nq93, K93, q93_0, q93_1, q93_2, q93_3, h93_es, h93_el⟩ := hQ93
        refine OE.of (fun _ k => st93.trans k) ?_
        have N93 := Fr.app N90 Nq93
        show OE _ p e below s _ _ _ T93 (mkF m 156 #[.val (.int p1), .val (.int p2), .val (.int p3), .val (.int p4), .val (.double (4787326403894837248 : UInt64)), .second, .val (.double xa), .second, .val (.double xb), .second, .val (.double xc), .second, .val (.int (1 : Int32)), .val (.int (0 : Int32)), .val (.int (((p4.toUInt32 >>> ((1 : Int32) &&& 31).toUInt32).toInt32) % (3 : Int32))), .val (.ref b50), .unset, .unset] [])
        obtain ⟨Ds93, Dl93⟩ := own_A1 own_dz own_dz (Jvm.FP.Core.i2d_int p3) h93_es h93_el
        refine OE.aload X93 hx hby at_156 rfl rfl ?_
        refine OE.iload X93 hx hby at_158 rfl ?_
        have Dtm := Jvm.FP.Core.dadd_int Ds90 Dl90 (by omega)
        have z95 : n0 ≤ T93.heap.size := (Nat.le_trans z92 K93.1)
        have f97 : Exa Z T93.heap b50 "com/example/archerfish/archerfish/rank/CompensatedSums" := (f94.keep K93)
        obtain ⟨cq96, kq96, qa96, qb96, qc96⟩ := isOf hZ rfl f97
        obtain ⟨_, _, ⟨T96, L96, k96, n96⟩, -, X96, ⟨Lc96, hQ96, l96, y96, z96⟩, st96⟩ := X93.virtualBack hx (y := (⟨"com/example/archerfish/archerfish/rank/CompensatedSums", "total", "(I)D"⟩ : MethodName)) (z := (⟨"com/example/archerfish/archerfish/rank/CompensatedSums", "total", "(I)D"⟩ : MethodName)) hown (mvT hZ (hw _ (List.mem_of_getElem? (i := 24) rfl))) (mvT hZ (hw _ (List.mem_of_getElem? (i := 25) rfl))) (notFace_of_selects (args := #[]) (mvT hZ (hw _ (List.mem_of_getElem? (i := 27) rfl)))) (mvT hZ (hw _ (List.mem_of_getElem? (i := 27) rfl))) (mvT hZ (hw _ (List.mem_of_getElem? (i := 26) rfl))) (by decide) (backOf (W := 0) (own_rm5_1 l Z a0 hw [] b50 r52_f r52_g r93_sn r90_sn r93_ln r90_ln r52_kf r52_kg T93.heap n0 z95 q93_0 q93_1 q93_2 q93_3 (own_nn Dtm)) hZ (hw _ (List.mem_of_getElem? (i := 28) rfl)) (hw _ (List.mem_of_getElem? (i := 3) rfl)) (by decide) (by decide)) qa96 qc96 (g := (mkF m 160 #[.val (.int p1), .val (.int p2), .val (.int p3), .val (.int p4), .val (.double (4787326403894837248 : UInt64)), .second, .val (.double xa), .second, .val (.double xb), .second, .val (.double xc), .second, .val (.int (1 : Int32)), .val (.int (0 : Int32)), .val (.int (((p4.toUInt32 >>> ((1 : Int32) &&& 31).toUInt32).toInt32) % (3 : Int32))), .val (.ref b50), .unset, .unset] [(.int (1 : Int32)), (.ref b50)])) rfl (by rw [hml]; rfl) (Steps.refl _) (argsL := [(.int (1 : Int32))]) (rest := []) (lenOf own_pd3 rfl) rfl (by show 2 * 0 + _ ≤ _; exact Nat.le_of_eq rfl) (hb hby at_160) (fun _ _ => ⟨rfl, rfl, (by decide : 3 + 0 ≤ _), (by decide : 6 + 0 ≤ _)⟩)
        dsimp only [Pt.U, Pt.locs, Pt.cells, Pt.slots] at X96 l96 y96 z96 st96 hQ96
        have yc96 : 3 = k96 := y96.symm
        have zc96 : 6 = n96 := z96.symm
        have lc96 := l96.symm
        subst lc96 yc96 zc96
        obtain ⟨rfl, Nq96, eq96⟩ := hQ96
        refine OE.of (fun _ k => st96.trans k) ?_
        have N96 := Fr.app N93 Nq96
        show OE _ p e below s _ _ _ T96 (mkF m 163 #[.val (.int p1), .val (.int p2), .val (.int p3), .val (.int p4), .val (.double (4787326403894837248 : UInt64)), .second, .val (.double xa), .second, .val (.double xb), .second, .val (.double xc), .second, .val (.int (1 : Int32)), .val (.int (0 : Int32)), .val (.int (((p4.toUInt32 >>> ((1 : Int32) &&& 31).toUInt32).toInt32) % (3 : Int32))), .val (.ref b50), .unset, .unset] [(.double (FP.dadd r90_sn r90_ln))])
        have Dvm : Jvm.FP.Core.DInt p2.toInt (FP.dadd r90_sn r90_ln) := by have q := Dtm; rwa [show _ + _ = p2.toInt by omega] at q
        refine OE.dload X96 hx hby at_163 rfl ?_
        refine OE.dcmp X96 hx hby at_165 ?_
        refine OE.ifNo X96 hx hby at_166 (teq ((own_eq0 Dvm Db) : (cmpValue (FP.dcmp (FP.dadd r90_sn r90_ln) xb) .l) = (0 : Int32))).2 ?_
        refine OE.iconst X96 hx hby at_169 (1 : Int32) rfl ?_
        refine OE.goto X96 hx hby (pc' := 174) at_170 (h := ?_)
        refine OE.istore X96 hx hby at_174 (l' := #[.val (.int p1), .val (.int p2), .val (.int p3), .val (.int p4), .val (.double (4787326403894837248 : UInt64)), .second, .val (.double xa), .second, .val (.double xb), .second, .val (.double xc), .second, .val (.int (1 : Int32)), .val (.int (0 : Int32)), .val (.int (((p4.toUInt32 >>> ((1 : Int32) &&& 31).toUInt32).toInt32) % (3 : Int32))), .val (.ref b50), .val (.int (1 : Int32)), .unset]) rfl ?_
        refine OE.aload X96 hx hby at_176 rfl rfl ?_
        refine OE.iload X96 hx hby at_178 rfl ?_
        have Dtz := Jvm.FP.Core.dadd_int Ds93 Dl93 (by omega)
        obtain ⟨cq98, kq98, qa98, qb98, qc98⟩ := isOf hZ eq96 f97
        obtain ⟨_, _, ⟨T98, L98, k98, n98⟩, -, X98, ⟨Lc98, hQ98, l98, y98, z98⟩, st98⟩ := X96.virtualBack hx (y := (⟨"com/example/archerfish/archerfish/rank/CompensatedSums", "total", "(I)D"⟩ : MethodName)) (z := (⟨"com/example/archerfish/archerfish/rank/CompensatedSums", "total", "(I)D"⟩ : MethodName)) hown (mvT hZ (hw _ (List.mem_of_getElem? (i := 24) rfl))) (mvT hZ (hw _ (List.mem_of_getElem? (i := 25) rfl))) (notFace_of_selects (args := #[]) (mvT hZ (hw _ (List.mem_of_getElem? (i := 27) rfl)))) (mvT hZ (hw _ (List.mem_of_getElem? (i := 27) rfl))) (mvT hZ (hw _ (List.mem_of_getElem? (i := 26) rfl))) (by decide) (backOf (W := 0) (own_rm5_0 l Z a0 hw [] b50 r52_f r52_g r93_sn r90_sn r93_ln r90_ln r52_kf r52_kg T93.heap n0 z95 q93_0 q93_1 q93_2 q93_3 (own_nn Dtz)) hZ (hw _ (List.mem_of_getElem? (i := 28) rfl)) (hw _ (List.mem_of_getElem? (i := 3) rfl)) (by decide) (by decide)) qa98 qc98 (g := (mkF m 180 #[.val (.int p1), .val (.int p2), .val (.int p3), .val (.int p4), .val (.double (4787326403894837248 : UInt64)), .second, .val (.double xa), .second, .val (.double xb), .second, .val (.double xc), .second, .val (.int (1 : Int32)), .val (.int (0 : Int32)), .val (.int (((p4.toUInt32 >>> ((1 : Int32) &&& 31).toUInt32).toInt32) % (3 : Int32))), .val (.ref b50), .val (.int (1 : Int32)), .unset] [(.int (0 : Int32)), (.ref b50)])) rfl (by rw [hml]; rfl) (Steps.refl _) (argsL := [(.int (0 : Int32))]) (rest := []) (lenOf own_pd3 rfl) rfl (by show 2 * 0 + _ ≤ _; exact Nat.le_of_eq rfl) (hb hby at_180) (fun _ _ => ⟨rfl, eq96, (by decide : 3 + 0 ≤ _), (by decide : 6 + 0 ≤ _)⟩)
        dsimp only [Pt.U, Pt.locs, Pt.cells, Pt.slots] at X98 l98 y98 z98 st98 hQ98
        have yc98 : 3 = k98 := y98.symm
        have zc98 : 6 = n98 := z98.symm
        have lc98 := l98.symm
        subst lc98 yc98 zc98
        obtain ⟨rfl, Nq98, eq98⟩ := hQ98
        refine OE.of (fun _ k => st98.trans k) ?_
        have N98 := Fr.app N96 Nq98
        show OE _ p e below s _ _ _ T98 (mkF m 183 #[.val (.int p1), .val (.int p2), .val (.int p3), .val (.int p4), .val (.double (4787326403894837248 : UInt64)), .second, .val (.double xa), .second, .val (.double xb), .second, .val (.double xc), .second, .val (.int (1 : Int32)), .val (.int (0 : Int32)), .val (.int (((p4.toUInt32 >>> ((1 : Int32) &&& 31).toUInt32).toInt32) % (3 : Int32))), .val (.ref b50), .val (.int (1 : Int32)), .unset] [(.double (FP.dadd r93_sn r93_ln))])
        have Dvz : Jvm.FP.Core.DInt p3.toInt (FP.dadd r93_sn r93_ln) := by have q := Dtz; rwa [show _ + _ = p3.toInt by omega] at q
        refine OE.iloadN X98 hx hby at_183 rfl ?_
        refine OE.i2d X98 hx hby at_184 ?_
        refine OE.dcmp X98 hx hby at_185 ?_
        refine OE.ifNo X98 hx hby at_186 (teq ((own_eq0 Dvz (Jvm.FP.Core.i2d_int p3)) : (cmpValue (FP.dcmp (FP.dadd r93_sn r93_ln) (FP.i2d p3)) .l) = (0 : Int32))).2 ?_
        refine OE.iconst X98 hx hby at_189 (1 : Int32) rfl ?_
        refine OE.goto X98 hx hby (pc' := 194) at_190 (h := ?_)
        refine OE.istore X98 hx hby at_194 (l' := #[.val (.int p1), .val (.int p2), .val (.int p3), .val (.int p4), .val (.double (4787326403894837248 : UInt64)), .second, .val (.double xa), .second, .val (.double xb), .second, .val (.double xc), .second, .val (.int (1 : Int32)), .val (.int (0 : Int32)), .val (.int (((p4.toUInt32 >>> ((1 : Int32) &&& 31).toUInt32).toInt32) % (3 : Int32))), .val (.ref b50), .val (.int (1 : Int32)), .val (.int (1 : Int32))]) rfl ?_
        refine OE.iload X98 hx hby at_196 rfl ?_
        refine OE.ifNo X98 hx hby at_198 (feq (by decide : ¬ ((1 : Int32) = (0 : Int32)))).1 ?_
        refine OE.iload X98 hx hby at_201 rfl ?_
        refine OE.ifNo X98 hx hby at_203 (feq (by decide : ¬ ((1 : Int32) = (0 : Int32)))).1 ?_
        refine OE.iconst X98 hx hby at_206 (1 : Int32) rfl ?_
        refine OE.goto X98 hx hby (pc' := 211) at_207 (h := ?_)
        refine OE.retN X98 hx (t := .boolean) Bd.returns (by simp) Bd.notSynchronized (hb hby at_211) (by decide) (by decide) ?_
        rw [eq98]
        exact ⟨rfl, N98⟩
set_option maxRecDepth 65536 in
set_option maxHeartbeats 40000000 in
theorem comes_1 {Post : Tables → Env → Array Value → State → Outcome → State → Prop} (hpost : ∀ tb e args s v u, (limb_1_1.after args s (.returned v) u = true ∧ limb_1_2.after args s (.returned v) u = true ∧ True) → FrameEnd s (.returned v) u (Jvm.fieldLocs frame_1_writes args s ++ Jvm.arrayLocs frame_1_arrays args s ++ Jvm.staticLocs frame_1_statics s) 16 128 → Post tb e args s (.returned v) u) :
    ArmFor flags0 classFile x code maxLocals ret World_1 tables_1 room_1 Calls_1 rest_1 Pre_1 Post := by
  intro l hfl _ _ p e ha hc hk s m args below hf hA hF happ hP
  obtain ⟨hcalls, hrest, hpre⟩ := hP
  obtain ⟨-, -, -, hnamed, -, -, -, hat⟩ := (Spec.applies_iff hf).mp happ
  obtain ⟨hg, hn⟩ := and_e (Cond.before_iff.mp (show (Jvm.Cond.and given_1 narrow_1).before args s = true from hpre))
  obtain ⟨g1, g2⟩ := and_e hg
  obtain ⟨g3, g4⟩ := and_e g2
  obtain ⟨g5, g6⟩ := and_e g4
  obtain ⟨g7, g8⟩ := and_e g6
  obtain ⟨w0, w1, w2, w3, rfl⟩ : ∃ w0 w1 w2 w3 : Value, args = #[w0, w1, w2, w3] := by
    have hs : args.size = 4 := by simpa [Cond.value, given_1] using g1
    obtain ⟨L⟩ := args
    match L, hs with
    | [w0, w1, w2, w3], _ => exact ⟨w0, w1, w2, w3, rfl⟩
  have hw := fun d (hd : d ∈ tables_1) => atoms_spec (ws := Jvm.Cond.code x code maxLocals ret :: tables_1) hat d (List.mem_cons_of_mem _ hd)
  have hfit : Fit s := fun {y c} hc i hi => by
    obtain ⟨ha, rfl⟩ := Array.getElem?_eq_some_iff.mp hc
    have q := List.all_eq_true.mp ((Array.all_eq_true_iff_forall_mem.mp hF) _ (Array.getElem_mem ha)) i (List.mem_range.mpr hi)
    simpa [Array.getElem?_eq_getElem hi] using q
  obtain ⟨i0, ei0⟩ := is_v g3
  obtain rfl : w0 = (.int i0) := Option.some.inj ei0
  obtain ⟨i1, ei1⟩ := is_v g5
  obtain rfl : w1 = (.int i1) := Option.some.inj ei1
  obtain ⟨i2, ei2⟩ := is_v g7
  obtain rfl : w2 = (.int i2) := Option.some.inj ei2
  obtain ⟨i3, ei3⟩ := is_v g8
  obtain rfl : w3 = (.int i3) := Option.some.inj ei3
  obtain ⟨n, o, h1, h2, h3, _, L, rfl, ⟨rfl, N⟩, hq⟩ := own_rm0 l s _ hw tables_1 i0 i1 i2 i3 s.heap s.heap.size (Nat.le_refl _)  p e ha hc hk s m _ below hf ((Spec.applies_iff_loose hf).mp happ).1 ⟨rfl, State.Warmed39.refl s, rfl⟩ trivial
  refine ⟨n, _, h1, h2, h3, hpost _ _ _ _ _ _ ⟨Cond.after_iff.mpr rfl, Cond.after_iff.mpr (eq_i res_at (Term.int_eval (1)) rfl), trivial⟩ ⟨hq.1, hq.2.1, (hq.2.2.sift fun y hy => Or.inr (N y hy)).mono (by decide) (by decide)⟩⟩
theorem main_1_1 : Claimed_1_1 := comes_1 fun _ _ _ _ _ _ h hF => ⟨h.1, hF⟩
theorem main_1_2 : Claimed_1_2 := comes_1 fun _ _ _ _ _ _ h hF => ⟨h.2.1, hF⟩
end Jvm.Pilot.@@N@@
namespace Jvm.Pilot.@@N@@
open Jvm Jvm.ClassFile Sem Op Lib Jvm.Free Jvm.Stand Jvm.Pilot.@@N@@.Jvm.D
/-! MADE BY PROGRAM (witnessworld.py) out of the Statement's table words and the real class files: 12 classes; the members and pool entries that the words name. The judged class is class 1, her method 1. -/
namespace start1
open Jvm.ClassFile
def u (s : String) : CpInfo := .utf8 (stringToUtf16 s)
/-- a pool by its gaps: so many unusable entries, then the entry; so many at the end -/
def gap : Nat → List CpInfo → List CpInfo
  | 0, r => r
  | n + 1, r => .unusable :: gap n r
def poolList (es : List (Nat × CpInfo)) (last : Nat) : List CpInfo := es.foldr (fun e r => gap e.1 (e.2 :: r)) (gap last [])
def pool (es : List (Nat × CpInfo)) (last : Nat) : Array CpInfo := ⟨poolList es last⟩
def fileOf (pool : Array CpInfo) (this : Nat) (attrs : Array Attribute := #[]) (ms : Array MethodInfo := #[]) (fl : Nat := 33) (sup : Nat := 0) (ifs : Array Nat := #[]) (fds : Array FieldInfo := #[]) : ClassFile where
  minorVersion := 0
  majorVersion := 65
  constantPool := pool
  accessFlags := fl
  thisClass := this
  superClass := sup
  interfaces := ifs
  fields := fds
  methods := ms
  attributes := attrs
def plain (name : String) (sup : Option ClassId) : Class where
  name := name
  kind := .ordinary
  loader := none
  accessFlags := 33
  super := sup
  interfaces := #[]
  cf := none
  fields := #[]
  methods := #[]
  instanceTypes := #[]
  staticTypes := #[]
  resolved := #[]
  callSites := []
  init := .initialized
  statics := none
  mirror := none

def pool0 : Array CpInfo := pool [(5, u "<init>"), (0, u "()V"), (1, .class_ 10), (1, u "java/lang/Object")] 113

def k0c0 : Code := { maxStack := 0, maxLocals := 1, code := object_method_1_code, exceptionTable := #[], attributes := #[] }
def k0m0 : Method := { name := "<init>", desc := "()V", sig := { parameters := [], returnType := none }, accessFlags := 1, code := some k0c0 }
/-- java/lang/Object -/
def k0 : Class := { plain "java/lang/Object" none with
  accessFlags := 33
  interfaces := #[]
  cf := some (fileOf pool0 8 #[] #[{ accessFlags := 1, nameIndex := 5, descriptorIndex := 6, attributes := #[] }] 33 0 #[] #[])
  fields := #[]
  methods := #[k0m0]
  instanceTypes := #[]
  staticTypes := #[]
  resolved := Array.replicate 124 none
  statics := none }

def pool1 : Array CpInfo := pool [(2, .class_ 4), (1, u "java/lang/Object"), (0, u "<init>"), (0, u "()V"), (0, .double 4787326403894837248), (1, .class_ 10), (0, u "com/example/archerfish/archerfish/rank/CompensatedSums"), (0, .methodref 9 12), (0, .nameAndType 5 13), (0, u "(I)V"), (0, .methodref 9 15), (0, .nameAndType 16 17), (0, u "add"), (0, u "(ID)V"), (0, .methodref 9 19), (0, .nameAndType 20 21), (0, u "total"), (0, u "(I)D"), (0, .class_ 23), (0, u "com/example/archerfish/archerfish/rank/CompensatedSumsTotalPinLaw"), (2, u "law"), (0, u "(IIII)Z")] 3

def k1m0 : Method := { name := "<init>", desc := "()V", sig := { parameters := [], returnType := none }, accessFlags := 1, code := none }
def k1c1 : Code := { maxStack := 4, maxLocals := 18, code := code, exceptionTable := #[], attributes := #[] }
def k1m1 : Method := { name := "law", desc := "(IIII)Z", sig := { parameters := [.int, .int, .int, .int], returnType := some .boolean }, accessFlags := 9, code := some k1c1 }
/-- com/example/archerfish/archerfish/rank/CompensatedSumsTotalPinLaw -/
def k1 : Class := { plain "com/example/archerfish/archerfish/rank/CompensatedSumsTotalPinLaw" (some 0) with
  accessFlags := 49
  interfaces := #[]
  cf := some (fileOf pool1 22 #[] #[{ accessFlags := 1, nameIndex := 5, descriptorIndex := 6, attributes := #[] }, { accessFlags := 9, nameIndex := 26, descriptorIndex := 27, attributes := #[] }] 49 2 #[] #[])
  fields := #[]
  methods := #[k1m0, k1m1]
  instanceTypes := #[]
  staticTypes := #[]
  resolved := Array.replicate 31 none
  statics := none }

def pool2 : Array CpInfo := pool [(1, .methodref 2 3), (0, .class_ 4), (0, .nameAndType 5 6), (0, u "java/lang/Object"), (0, u "<init>"), (0, u "()V"), (0, .fieldref 8 9), (0, .class_ 10), (0, .nameAndType 11 12), (0, u "com/example/archerfish/archerfish/rank/CompensatedSums"), (0, u "sums"), (0, u "[D"), (0, .fieldref 8 14), (0, .nameAndType 15 12), (0, u "lost"), (0, .methodref 17 18), (0, .class_ 19), (0, .nameAndType 20 21), (0, u "java/lang/Math"), (0, u "abs"), (0, u "(D)D"), (0, u "(I)V"), (2, u "add"), (0, u "(ID)V"), (1, u "total"), (0, u "(I)D")] 2

def k2c0 : Code := { maxStack := 2, maxLocals := 2, code := prog_84_method_1_code, exceptionTable := #[], attributes := #[] }
def k2m0 : Method := { name := "<init>", desc := "(I)V", sig := { parameters := [.int], returnType := none }, accessFlags := 0, code := some k2c0 }
def k2c1 : Code := { maxStack := 8, maxLocals := 6, code := prog_84_method_2_code, exceptionTable := #[], attributes := #[] }
def k2m1 : Method := { name := "add", desc := "(ID)V", sig := { parameters := [.int, .double], returnType := none }, accessFlags := 0, code := some k2c1 }
def k2c2 : Code := { maxStack := 4, maxLocals := 2, code := prog_84_method_3_code, exceptionTable := #[], attributes := #[] }
def k2m2 : Method := { name := "total", desc := "(I)D", sig := { parameters := [.int], returnType := some .double }, accessFlags := 0, code := some k2c2 }
/-- com/example/archerfish/archerfish/rank/CompensatedSums -/
def k2 : Class := { plain "com/example/archerfish/archerfish/rank/CompensatedSums" (some 0) with
  accessFlags := 48
  interfaces := #[]
  cf := some (fileOf pool2 8 #[] #[{ accessFlags := 0, nameIndex := 5, descriptorIndex := 22, attributes := #[] }, { accessFlags := 0, nameIndex := 25, descriptorIndex := 26, attributes := #[] }, { accessFlags := 0, nameIndex := 28, descriptorIndex := 29, attributes := #[] }] 48 2 #[] #[{ accessFlags := 18, nameIndex := 11, descriptorIndex := 12, attributes := #[] }, { accessFlags := 18, nameIndex := 15, descriptorIndex := 12, attributes := #[] }])
  fields := #[{ name := "sums", type := (.array .double), accessFlags := 18, slot := 0, constantValue := 0 }, { name := "lost", type := (.array .double), accessFlags := 18, slot := 1, constantValue := 0 }]
  methods := #[k2m0, k2m1, k2m2]
  instanceTypes := #[(.array .double), (.array .double)]
  staticTypes := #[]
  resolved := Array.replicate 32 none
  statics := none }

def pool3 : Array CpInfo := pool [(1, .class_ 2), (0, u "java/lang/Math"), (1, .class_ 6), (1, u "java/lang/Object"), (0, u "<init>"), (0, u "()V"), (5, u "(D)D"), (83, .class_ 100), (1, u "java/lang/Math$RandomNumberGeneratorHolder"), (23, u "abs"), (47, u "negativeZeroFloatBits"), (0, u "J"), (2, u "negativeZeroDoubleBits"), (68, u "$assertionsDisabled"), (0, u "Z"), (91, u "twoToTheDoubleScaleDown"), (0, u "D"), (4, u "twoToTheDoubleScaleUp"), (9, u "E"), (3, u "PI"), (2, u "TAU"), (2, u "DEGREES_TO_RADIANS"), (0, u "RADIANS_TO_DEGREES")] 94

def k3m0 : Method := { name := "<init>", desc := "()V", sig := { parameters := [], returnType := none }, accessFlags := 2, code := none }
def k3c1 : Code := { maxStack := 4, maxLocals := 2, code := jdk_29_method_64_code, exceptionTable := #[], attributes := #[] }
def k3m1 : Method := { name := "abs", desc := "(D)D", sig := { parameters := [.double], returnType := some .double }, accessFlags := 9, code := some k3c1 }
/-- java/lang/Math -/
def k3 : Class := { plain "java/lang/Math" (some 0) with
  accessFlags := 49
  interfaces := #[]
  cf := some (fileOf pool3 1 #[.nestMembers #[98]] #[{ accessFlags := 2, nameIndex := 7, descriptorIndex := 8, attributes := #[] }, { accessFlags := 9, nameIndex := 124, descriptorIndex := 14, attributes := #[] }] 49 4 #[] #[{ accessFlags := 25, nameIndex := 354, descriptorIndex := 339, attributes := #[] }, { accessFlags := 25, nameIndex := 358, descriptorIndex := 339, attributes := #[] }, { accessFlags := 25, nameIndex := 361, descriptorIndex := 339, attributes := #[] }, { accessFlags := 26, nameIndex := 364, descriptorIndex := 339, attributes := #[] }, { accessFlags := 26, nameIndex := 365, descriptorIndex := 339, attributes := #[] }, { accessFlags := 26, nameIndex := 172, descriptorIndex := 173, attributes := #[] }, { accessFlags := 26, nameIndex := 176, descriptorIndex := 173, attributes := #[] }, { accessFlags := 8, nameIndex := 344, descriptorIndex := 339, attributes := #[] }, { accessFlags := 8, nameIndex := 338, descriptorIndex := 339, attributes := #[] }, { accessFlags := 4120, nameIndex := 245, descriptorIndex := 246, attributes := #[] }])
  fields := #[{ name := "E", type := .double, accessFlags := 25, slot := 0, constantValue := 0 }, { name := "PI", type := .double, accessFlags := 25, slot := 1, constantValue := 0 }, { name := "TAU", type := .double, accessFlags := 25, slot := 2, constantValue := 0 }, { name := "DEGREES_TO_RADIANS", type := .double, accessFlags := 26, slot := 3, constantValue := 0 }, { name := "RADIANS_TO_DEGREES", type := .double, accessFlags := 26, slot := 4, constantValue := 0 }, { name := "negativeZeroFloatBits", type := .long, accessFlags := 26, slot := 5, constantValue := 0 }, { name := "negativeZeroDoubleBits", type := .long, accessFlags := 26, slot := 6, constantValue := 0 }, { name := "twoToTheDoubleScaleUp", type := .double, accessFlags := 8, slot := 7, constantValue := 0 }, { name := "twoToTheDoubleScaleDown", type := .double, accessFlags := 8, slot := 8, constantValue := 0 }, { name := "$assertionsDisabled", type := .boolean, accessFlags := 4120, slot := 9, constantValue := 0 }]
  methods := #[k3m0, k3m1]
  instanceTypes := #[]
  staticTypes := #[.double, .double, .double, .double, .double, .long, .long, .double, .double, .boolean]
  resolved := Array.replicate 460 none
  statics := none }

def pool4 : Array CpInfo := pool [(1, u "java/lang/Cloneable"), (0, .class_ 1), (0, u "java/lang/Object"), (0, .class_ 3)] 3

/-- java/lang/Cloneable -/
def k4 : Class := { plain "java/lang/Cloneable" (some 0) with
  accessFlags := 1537
  interfaces := #[]
  cf := some (fileOf pool4 2 #[] #[] 1537 4 #[] #[])
  fields := #[]
  methods := #[]
  instanceTypes := #[]
  staticTypes := #[]
  resolved := Array.replicate 8 none
  statics := none }

def pool5 : Array CpInfo := pool [(1, u "java/io/Serializable"), (0, .class_ 1), (0, u "java/lang/Object"), (0, .class_ 3)] 3

/-- java/io/Serializable -/
def k5 : Class := { plain "java/io/Serializable" (some 0) with
  accessFlags := 1537
  interfaces := #[]
  cf := some (fileOf pool5 2 #[] #[] 1537 4 #[] #[])
  fields := #[]
  methods := #[]
  instanceTypes := #[]
  staticTypes := #[]
  resolved := Array.replicate 8 none
  statics := none }

/-- the primitive byte -/
def k6 : Class := { plain "byte" none with kind := .primitive 'B', accessFlags := 0x411 }
/-- [B -/
def k7 : Class := { plain "[B" (some 0) with kind := .array 6 .byte, interfaces := #[4, 5], accessFlags := 1041 }

/-- the primitive double -/
def k8 : Class := { plain "double" none with kind := .primitive 'D', accessFlags := 0x411 }
/-- [D -/
def k9 : Class := { plain "[D" (some 0) with kind := .array 8 .double, interfaces := #[4, 5], accessFlags := 1041 }

/-- the primitive int -/
def k10 : Class := { plain "int" none with kind := .primitive 'I', accessFlags := 0x411 }
/-- [I -/
def k11 : Class := { plain "[I" (some 0) with kind := .array 10 .int, interfaces := #[4, 5], accessFlags := 1041 }

def heap : Heap := #[]
def classes : Array Class := #[k0, k1, k2, k3, k4, k5, k6, k7, k8, k9, k10, k11]
def interned : List (Array UInt16 × Addr) := []
def slotsUsed : Nat := 0
def theMethod : MethodId := ⟨1, 1⟩
def args0 : Array Value := #[.int 5, .int 7, .int 9, .int 2]
def aboutOver (below : List Frame) : State where
  vm := { classes := classes, interned := interned.toArray }
  heap := heap
  slotsUsed := slotsUsed
  threads := #[{ frames := .invoking theMethod args0 :: below }]
def below0 : List Frame := [.native { method := ⟨0, 0⟩, args := #[] }]
def about1 : State := aboutOver below0
def p0 : Program := .bare "" "" ""
def e0 : Env := launch0.env 0 0 0
theorem w_frames : about1.frames = Frame.invoking theMethod args0 :: below0 := rfl
set_option maxRecDepth 65536 in
theorem w_args : argsFit about1.vm theMethod args0 = true := by decide +kernel
set_option maxRecDepth 65536 in
theorem w_heap : heapFits about1 = true := by decide +kernel
set_option maxRecDepth 65536 in
theorem w_runnable : about1.curStatus? = some .runnable := by decide +kernel
set_option maxRecDepth 65536 in
theorem w_alone : about1.alone = true := by decide +kernel
set_option maxRecDepth 65536 in
theorem w_named : about1.methodNamed? x = some theMethod := by decide +kernel
set_option maxRecDepth 65536 in
theorem w_hears : about1.hears theMethod below0 = true := by decide +kernel
set_option maxRecDepth 65536 in
theorem w_ripe : about1.ripe theMethod args0 below0 = true := by decide +kernel
theorem w_running : about1.status = .running := rfl
set_option maxRecDepth 65536 in
theorem w_room : about1.hasRoom e0.platform room_1 = true :=
  launch0.hasRoom_least _ room_1 (by decide +kernel) (by decide +kernel) (by decide +kernel) (by decide +kernel) (by decide +kernel) (by decide +kernel)
theorem allAtoms_all (ts : List Jvm.Cond) (a : Array Jvm.Value) (st : Jvm.State) : (allAtoms ts).before a st = ts.all (fun c => c.before a st) := by
  induction ts with
  | nil => rfl
  | cons c t ih =>
    show (Jvm.Cond.and c (allAtoms t)).before a st = _
    rw [Jvm.Cond.before_and, ih, List.all_cons]
def words1 : List Jvm.Cond := Jvm.Cond.code x code maxLocals ret :: tables_1
/-- a 'code' word, met by the world's own term for the bytes: nothing is compared byte by byte -/
theorem code_word {y : MethodName} {bytes : ByteArray} {mx : Nat} {rt : Option FieldType} {a : Array Value} {s : State} {m : MethodId} {meth : Method} {c : Code} (h1 : s.methodNamed? y = some m) (h2 : s.vm.method? m = some meth) (h3 : meth.code = some c) (h4 : c.code = bytes)
    (h5 : (c.maxLocals == mx && c.exceptionTable.isEmpty && decide (c.maxStack ≤ mostOperands) && decide (meth.sig.returnType = rt) && !meth.locks && decide (parseMethodDescriptor y.desc = some meth.sig)) = true) : (Jvm.Cond.code y bytes mx rt).before a s = true := by
  simp only [Bool.and_eq_true, beq_iff_eq, Bool.not_eq_true', decide_eq_true_eq] at h5
  obtain ⟨⟨⟨⟨⟨g1, g2⟩, g3⟩, g4⟩, g5⟩, g6⟩ := h5
  simp [Cond.before, Cond.holds, Cond.value, h1, h2, h3, h4, g1, g2, g3, g4, g5, g6]
def isCode : Jvm.Cond → Bool
  | .code _ _ _ _ => true
  | _ => false
theorem all_split {L : List Jvm.Cond} {P : Jvm.Cond → Bool} (h1 : L.all (fun c => isCode c || P c) = true) (h2 : ∀ c ∈ L.filter isCode, P c = true) : L.all P = true := by
  refine List.all_eq_true.mpr fun c hc => ?_
  have h := List.all_eq_true.mp h1 c hc
  rcases Bool.eq_false_or_eq_true (isCode c) with hi | hi
  · exact h2 c (List.mem_filter.mpr ⟨hc, hi⟩)
  · simpa [hi] using h
set_option maxRecDepth 65536 in
theorem w_c0 : (Jvm.Cond.code x code maxLocals ret).before args0 about1 = true := code_word (m := ⟨1, 1⟩) (meth := k1m1) (c := k1c1) (by decide +kernel) rfl rfl rfl (by decide +kernel)
set_option maxRecDepth 65536 in
theorem w_c1 : (Jvm.Cond.code ({ cls := "com/example/archerfish/archerfish/rank/CompensatedSums", name := "<init>", desc := "(I)V" } : Jvm.MethodName) prog_84_method_1_code (2 : Nat) (Option.none : Option Jvm.ClassFile.FieldType)).before args0 about1 = true := code_word (m := ⟨2, 0⟩) (meth := k2m0) (c := k2c0) (by decide +kernel) rfl rfl rfl (by decide +kernel)
set_option maxRecDepth 65536 in
theorem w_c2 : (Jvm.Cond.code ({ cls := "java/lang/Object", name := "<init>", desc := "()V" } : Jvm.MethodName) object_method_1_code (1 : Nat) (Option.none : Option Jvm.ClassFile.FieldType)).before args0 about1 = true := code_word (m := ⟨0, 0⟩) (meth := k0m0) (c := k0c0) (by decide +kernel) rfl rfl rfl (by decide +kernel)
set_option maxRecDepth 65536 in
theorem w_c3 : (Jvm.Cond.code ({ cls := "com/example/archerfish/archerfish/rank/CompensatedSums", name := "add", desc := "(ID)V" } : Jvm.MethodName) prog_84_method_2_code (6 : Nat) (Option.none : Option Jvm.ClassFile.FieldType)).before args0 about1 = true := code_word (m := ⟨2, 1⟩) (meth := k2m1) (c := k2c1) (by decide +kernel) rfl rfl rfl (by decide +kernel)
set_option maxRecDepth 65536 in
theorem w_c4 : (Jvm.Cond.code ({ cls := "java/lang/Math", name := "abs", desc := "(D)D" } : Jvm.MethodName) jdk_29_method_64_code (2 : Nat) (Option.some Jvm.ClassFile.FieldType.double)).before args0 about1 = true := code_word (m := ⟨3, 1⟩) (meth := k3m1) (c := k3c1) (by decide +kernel) rfl rfl rfl (by decide +kernel)
set_option maxRecDepth 65536 in
theorem w_c5 : (Jvm.Cond.code ({ cls := "com/example/archerfish/archerfish/rank/CompensatedSums", name := "total", desc := "(I)D" } : Jvm.MethodName) prog_84_method_3_code (2 : Nat) (Option.some Jvm.ClassFile.FieldType.double)).before args0 about1 = true := code_word (m := ⟨2, 2⟩) (meth := k2m2) (c := k2c2) (by decide +kernel) rfl rfl rfl (by decide +kernel)
def codes1 : List Jvm.Cond := [Jvm.Cond.code x code maxLocals ret, Jvm.Cond.code ({ cls := "com/example/archerfish/archerfish/rank/CompensatedSums", name := "<init>", desc := "(I)V" } : Jvm.MethodName) prog_84_method_1_code (2 : Nat) (Option.none : Option Jvm.ClassFile.FieldType), Jvm.Cond.code ({ cls := "java/lang/Object", name := "<init>", desc := "()V" } : Jvm.MethodName) object_method_1_code (1 : Nat) (Option.none : Option Jvm.ClassFile.FieldType), Jvm.Cond.code ({ cls := "com/example/archerfish/archerfish/rank/CompensatedSums", name := "add", desc := "(ID)V" } : Jvm.MethodName) prog_84_method_2_code (6 : Nat) (Option.none : Option Jvm.ClassFile.FieldType), Jvm.Cond.code ({ cls := "java/lang/Math", name := "abs", desc := "(D)D" } : Jvm.MethodName) jdk_29_method_64_code (2 : Nat) (Option.some Jvm.ClassFile.FieldType.double), Jvm.Cond.code ({ cls := "com/example/archerfish/archerfish/rank/CompensatedSums", name := "total", desc := "(I)D" } : Jvm.MethodName) prog_84_method_3_code (2 : Nat) (Option.some Jvm.ClassFile.FieldType.double)]
set_option maxRecDepth 65536 in
theorem codes_eq : words1.filter isCode = codes1 := rfl
theorem w_codes : ∀ c ∈ words1.filter isCode, c.before args0 about1 = true := by
  rw [codes_eq]
  intro c hc
  simp only [codes1, List.mem_cons, List.not_mem_nil, or_false] at hc
  rcases hc with rfl | rfl | rfl | rfl | rfl | rfl
  · exact w_c0
  · exact w_c1
  · exact w_c2
  · exact w_c3
  · exact w_c4
  · exact w_c5
set_option maxRecDepth 65536 in
theorem w_t1 : (words1.take 24).all (fun c => isCode c || c.before args0 about1) = true := by decide +kernel
set_option maxRecDepth 65536 in
theorem w_t2 : (words1.drop 24).all (fun c => isCode c || c.before args0 about1) = true := by decide +kernel
theorem w_tables : (allAtoms (Jvm.Cond.code x code maxLocals ret :: tables_1)).before args0 about1 = true := by
  rw [allAtoms_all]
  show words1.all (fun c => c.before args0 about1) = true
  refine all_split ?_ w_codes
  rw [← List.take_append_drop 24 words1, List.all_append, w_t1, w_t2]
  rfl
set_option maxRecDepth 65536 in
theorem w_case : (Jvm.Cond.and given_1 narrow_1).before args0 about1 = true := by decide +kernel
theorem w_applies : (headSpec (Jvm.Cond.code x code maxLocals ret :: tables_1) room_1).applies x e0.platform about1 = true :=
  (Spec.applies_iff w_frames).mpr ⟨w_running, w_runnable, w_alone, w_named, w_hears, w_ripe, w_room, w_tables⟩
theorem atStart : AtStart classFile x code maxLocals ret World_1 tables_1 room_1 Calls_1 rest_1 Pre_1 launch0 p0 e0 about1 theMethod args0 below0 :=
  ⟨lists_1, trivial, launch0.admits_env _ _ _, launch0.least_env, fairChoices_fair.cas, fairChoices_fair.clock, w_frames, w_args, w_heap, w_applies, trivial, trivial, w_case⟩
end start1
theorem witness_1 : WitnessClaimed_1 := ⟨start1.p0, start1.e0, start1.about1, start1.theMethod, start1.args0, start1.below0, start1.atStart⟩
end Jvm.Pilot.@@N@@
