import JvmDerived
import JvmDerived.Pilot.@@N@@Statement
import JvmDerived.Pilot.@@N@@Code
set_option linter.unusedVariables false
set_option linter.unusedSimpArgs false
namespace Jvm.RoadKit
open Sem ClassFile Op Lib Jvm.Stand Jvm.Free Jvm.LawKit
section New
variable {p : Program} {l : Launch} {e : Env} {R : Room} {s : State} {m : MethodId} {args : Array Value} {below : List Frame} {meth : Method} {c : Code} {T : State} {locs : List Loc} {cells slots : Nat}
theorem retI (X : Stand p l e R s m args below meth c T locs cells slots) (hx : p.tables.exec = Jvm.exec) {pc : Nat} {Ls : Array Slot} {z : Int32} {rest : List Value} (hret : meth.sig.returnType = some .int) (hd : decode c.code pc = .ok (.ireturn, 1)) {fs : List Frame}
    (hl : ∀ (f : JFrame) (acts : List Action), f.method = m → f.locked = none → f.entered = [] → (doReturn e (T.setTop f) acts (some (.int z))).1 = T.setFrames fs) : Steps p.tables e below (T.setTop (mkF m pc Ls (.int z :: rest))) (T.setFrames fs) := by
  have hm' : T.vm.method? m = some meth := X.method'
  have hn : narrow .int (.int z) = .int z := rfl
  show Steps p.tables e below (T.setTop { method := m, pc := pc, locals := Ls, stack := _ :: rest, locked := none }) _
  jvm_step X.here [X.here.top, hx, hd, hm', hret, hn]
  first | (intro acts; rw [hl _ acts rfl rfl rfl]) | rw [hl _ _ rfl rfl rfl]
  exact Steps.refl _
/-- the walk that stands at g in T comes to its end, with Q -/
def OE (FE : State → Outcome → State → List Loc → Nat → Nat → Prop) (p : Program) (e : Env) (below : List Frame) (s : State) (Q : Option Value → Heap → List Loc → Prop) (kc ks : Nat) (T : State) (g : JFrame) : Prop :=
  ∃ s₂ o, Steps p.tables e below (T.setTop g) s₂ ∧ s₂.status = .running ∧ Ended s₂ below o ∧ ∃ v L, o = .returned v ∧ Q v s₂.heap L ∧ FE s o s₂ L kc ks
variable {FE : State → Outcome → State → List Loc → Nat → Nat → Prop} {Q : Option Value → Heap → List Loc → Prop} {kc ks : Nat} {s' : State}
theorem OE.of {T' : State} {g g' : JFrame} (k : ∀ t, Steps p.tables e below (T'.setTop g') t → Steps p.tables e below (T.setTop g) t) (h : OE FE p e below s Q kc ks T' g') : OE FE p e below s Q kc ks T g := by
  obtain ⟨s₂, o, h1, h2⟩ := h
  exact ⟨s₂, o, k _ h1, h2⟩
theorem OE.retN (X : Stand p l e R s m args below meth c T locs cells slots) (hx : p.tables.exec = Jvm.exec) {pc : Nat} {Ls : Array Slot} {z : Int32} {t : FieldType} {rest : List Value} (hret : meth.sig.returnType = some t) (ht : t = .boolean ∨ t = .byte ∨ t = .char ∨ t = .short) (hlk : meth.locks = false)
    (hd : decode c.code pc = .ok (.ireturn, 1)) (hc : cells ≤ kc) (hs : slots ≤ ks) (hQ : Q (some (.int (nar t z))) T.heap locs) : OE FrameEnd p e below s Q kc ks T (mkF m pc Ls (.int z :: rest)) := by
  obtain ⟨fs, hr, hrun, hended, hW, hsame⟩ := X.leave (v := some (.int (nar t z))) (fun h => by rw [hret] at h; cases h) hlk
  exact ⟨_, _, Jvm.RoadKit.retN X hx hret ht hd hr, hrun, hended, _, _, rfl, hQ, ⟨_, rfl⟩, hW, hsame.mono hc hs⟩
theorem OE.retI (X : Stand p l e R s m args below meth c T locs cells slots) (hx : p.tables.exec = Jvm.exec) {pc : Nat} {Ls : Array Slot} {z : Int32} {rest : List Value} (hret : meth.sig.returnType = some .int) (hlk : meth.locks = false)
    (hd : decode c.code pc = .ok (.ireturn, 1)) (hc : cells ≤ kc) (hs : slots ≤ ks) (hQ : Q (some (.int z)) T.heap locs) : OE FrameEnd p e below s Q kc ks T (mkF m pc Ls (.int z :: rest)) := by
  obtain ⟨fs, hr, hrun, hended, hW, hsame⟩ := X.leave (v := some (.int z)) (fun h => by rw [hret] at h; cases h) hlk
  exact ⟨_, _, Jvm.RoadKit.retI X hx hret hd hr, hrun, hended, _, _, rfl, hQ, ⟨_, rfl⟩, hW, hsame.mono hc hs⟩
theorem OE.retJ (X : Stand p l e R s m args below meth c T locs cells slots) (hx : p.tables.exec = Jvm.exec) {pc : Nat} {Ls : Array Slot} {z : Int64} (hret : meth.sig.returnType = some .long) (hlk : meth.locks = false)
    (hd : decode c.code pc = .ok (.lreturn, 1)) (hc : cells ≤ kc) (hs : slots ≤ ks) (hQ : Q (some (.long z)) T.heap locs) : OE FrameEnd p e below s Q kc ks T (mkF m pc Ls [.long z]) := by
  obtain ⟨fs, hr, hrun, hended, hW, hsame⟩ := X.leave (v := some (.long z)) (fun h => by rw [hret] at h; cases h) hlk
  exact ⟨_, _, X.lreturnOut hx hret hd hr, hrun, hended, _, _, rfl, hQ, ⟨_, rfl⟩, hW, hsame.mono hc hs⟩
theorem OE.retD (X : Stand p l e R s m args below meth c T locs cells slots) (hx : p.tables.exec = Jvm.exec) {pc : Nat} {Ls : Array Slot} {z : UInt64} (hret : meth.sig.returnType = some .double) (hlk : meth.locks = false)
    (hd : decode c.code pc = .ok (.dreturn, 1)) (hc : cells ≤ kc) (hs : slots ≤ ks) (hQ : Q (some (.double z)) T.heap locs) : OE FrameEnd p e below s Q kc ks T (mkF m pc Ls [.double z]) := by
  obtain ⟨fs, hr, hrun, hended, hW, hsame⟩ := X.leave (v := some (.double z)) (fun h => by rw [hret] at h; cases h) hlk
  exact ⟨_, _, Jvm.RoadKit.retOut X hx hret rfl (Or.inr (Or.inr (Or.inl ⟨rfl, rfl, _, rfl⟩))) hd hr, hrun, hended, _, _, rfl, hQ, ⟨_, rfl⟩, hW, hsame.mono hc hs⟩
theorem OE.retA (X : Stand p l e R s m args below meth c T locs cells slots) (hx : p.tables.exec = Jvm.exec) {pc : Nat} {Ls : Array Slot} {w : Value} {t : FieldType} (hw : w.isRef = true) (hret : meth.sig.returnType = some t) (ht : t.isReference = true) (hlk : meth.locks = false)
    (hd : decode c.code pc = .ok (.areturn, 1)) (hc : cells ≤ kc) (hs : slots ≤ ks) (hQ : Q (some w) T.heap locs) : OE FrameEnd p e below s Q kc ks T (mkF m pc Ls [w]) := by
  obtain ⟨fs, hr, hrun, hended, hW, hsame⟩ := X.leave (v := some w) (fun h => by rw [hret] at h; cases h) hlk
  exact ⟨_, _, X.areturnOut hx hw hret ht hd hr, hrun, hended, _, _, rfl, hQ, ⟨_, rfl⟩, hW, hsame.mono hc hs⟩
theorem OE.ret0 (X : Stand p l e R s m args below meth c T locs cells slots) (hx : p.tables.exec = Jvm.exec) {pc : Nat} {Ls : Array Slot} (hret : meth.sig.returnType = none) (hlk : meth.locks = false)
    (hd : decode c.code pc = .ok (.return_, 1)) (hc : cells ≤ kc) (hs : slots ≤ ks) (hQ : Q none T.heap locs) : OE FrameEnd p e below s Q kc ks T (mkF m pc Ls []) := by
  obtain ⟨fs, hr, hrun, hended, hW, hsame⟩ := X.leave (v := none) (fun _ => rfl) hlk
  exact ⟨_, _, X.returnOut hx hret hd hr, hrun, hended, _, _, rfl, hQ, ⟨_, rfl⟩, hW, hsame.mono hc hs⟩
theorem OE.iload (X : Stand p l e R s' m args below meth c T locs cells slots) (hx : p.tables.exec = Jvm.exec) {code : ByteArray} (hby : c.code = code) {pc : Nat} {Ls : Array Slot} {k : Nat} {v : Int32} {st : List Value} (hd : decode code pc = .ok (.iload k, 2)) (hl : Ls[k]? = some (.val (.int v))) (h : OE FE p e below s Q kc ks T (mkF m (pc + 2) Ls (.int v :: st))) : OE FE p e below s Q kc ks T (mkF m pc Ls (st)) := OE.of (fun _ k' => XS.iload X.here hx rfl (hb hby hd) hl k') h
theorem OE.iloadN (X : Stand p l e R s' m args below meth c T locs cells slots) (hx : p.tables.exec = Jvm.exec) {code : ByteArray} (hby : c.code = code) {pc : Nat} {Ls : Array Slot} {k : Fin 4} {v : Int32} {st : List Value} (hd : decode code pc = .ok (.iload_n k, 1)) (hl : Ls[k.val]? = some (.val (.int v))) (h : OE FE p e below s Q kc ks T (mkF m (pc + 1) Ls (.int v :: st))) : OE FE p e below s Q kc ks T (mkF m pc Ls (st)) := OE.of (fun _ k' => XS.iloadN X.here hx rfl (hb hby hd) hl k') h
theorem OE.lload (X : Stand p l e R s' m args below meth c T locs cells slots) (hx : p.tables.exec = Jvm.exec) {code : ByteArray} (hby : c.code = code) {pc : Nat} {Ls : Array Slot} {k : Nat} {v : Int64} {st : List Value} (hd : decode code pc = .ok (.lload k, 2)) (hl : Ls[k]? = some (.val (.long v))) (h : OE FE p e below s Q kc ks T (mkF m (pc + 2) Ls (.long v :: st))) : OE FE p e below s Q kc ks T (mkF m pc Ls (st)) := OE.of (fun _ k' => XS.lload X.here hx rfl (hb hby hd) hl k') h
theorem OE.lloadN (X : Stand p l e R s' m args below meth c T locs cells slots) (hx : p.tables.exec = Jvm.exec) {code : ByteArray} (hby : c.code = code) {pc : Nat} {Ls : Array Slot} {k : Fin 4} {v : Int64} {st : List Value} (hd : decode code pc = .ok (.lload_n k, 1)) (hl : Ls[k.val]? = some (.val (.long v))) (h : OE FE p e below s Q kc ks T (mkF m (pc + 1) Ls (.long v :: st))) : OE FE p e below s Q kc ks T (mkF m pc Ls (st)) := OE.of (fun _ k' => XS.lloadN X.here hx rfl (hb hby hd) hl k') h
theorem OE.dload (X : Stand p l e R s' m args below meth c T locs cells slots) (hx : p.tables.exec = Jvm.exec) {code : ByteArray} (hby : c.code = code) {pc : Nat} {Ls : Array Slot} {k : Nat} {v : UInt64} {st : List Value} (hd : decode code pc = .ok (.dload k, 2)) (hl : Ls[k]? = some (.val (.double v))) (h : OE FE p e below s Q kc ks T (mkF m (pc + 2) Ls (.double v :: st))) : OE FE p e below s Q kc ks T (mkF m pc Ls (st)) := OE.of (fun _ k' => XS.dload X.here hx rfl (hb hby hd) hl k') h
theorem OE.dloadN (X : Stand p l e R s' m args below meth c T locs cells slots) (hx : p.tables.exec = Jvm.exec) {code : ByteArray} (hby : c.code = code) {pc : Nat} {Ls : Array Slot} {k : Fin 4} {v : UInt64} {st : List Value} (hd : decode code pc = .ok (.dload_n k, 1)) (hl : Ls[k.val]? = some (.val (.double v))) (h : OE FE p e below s Q kc ks T (mkF m (pc + 1) Ls (.double v :: st))) : OE FE p e below s Q kc ks T (mkF m pc Ls (st)) := OE.of (fun _ k' => XS.dloadN X.here hx rfl (hb hby hd) hl k') h
theorem OE.dstore (X : Stand p l e R s' m args below meth c T locs cells slots) (hx : p.tables.exec = Jvm.exec) {code : ByteArray} (hby : c.code = code) {pc : Nat} {Ls : Array Slot} {k : Nat} {v : UInt64} {st : List Value} {l' : Array Slot} (hd : decode code pc = .ok (.dstore k, 2)) (hl : storeLocals Ls k (.double v) = some l') (h : OE FE p e below s Q kc ks T (mkF m (pc + 2) l' (st))) : OE FE p e below s Q kc ks T (mkF m pc Ls (.double v :: st)) := OE.of (fun _ k' => XS.dstore X.here hx rfl (hb hby hd) rfl hl k') h
theorem OE.dstoreN (X : Stand p l e R s' m args below meth c T locs cells slots) (hx : p.tables.exec = Jvm.exec) {code : ByteArray} (hby : c.code = code) {pc : Nat} {Ls : Array Slot} {k : Fin 4} {v : UInt64} {st : List Value} {l' : Array Slot} (hd : decode code pc = .ok (.dstore_n k, 1)) (hl : storeLocals Ls k.val (.double v) = some l') (h : OE FE p e below s Q kc ks T (mkF m (pc + 1) l' (st))) : OE FE p e below s Q kc ks T (mkF m pc Ls (.double v :: st)) := OE.of (fun _ k' => XS.dstoreN X.here hx rfl (hb hby hd) rfl hl k') h
theorem OE.i2d (X : Stand p l e R s' m args below meth c T locs cells slots) (hx : p.tables.exec = Jvm.exec) {code : ByteArray} (hby : c.code = code) {pc : Nat} {Ls : Array Slot} {x : Int32} {st : List Value} (hd : decode code pc = .ok (.i2d, 1))  (h : OE FE p e below s Q kc ks T (mkF m (pc + 1) Ls (.double (FP.i2d x) :: st))) : OE FE p e below s Q kc ks T (mkF m pc Ls (.int x :: st)) := OE.of (fun _ k' => XS.i2dS X.here hx rfl (hb hby hd) rfl rfl k') h
theorem OE.dneg (X : Stand p l e R s' m args below meth c T locs cells slots) (hx : p.tables.exec = Jvm.exec) {code : ByteArray} (hby : c.code = code) {pc : Nat} {Ls : Array Slot} {x : UInt64} {st : List Value} (hd : decode code pc = .ok (.dneg, 1))  (h : OE FE p e below s Q kc ks T (mkF m (pc + 1) Ls (.double (FP.dneg x) :: st))) : OE FE p e below s Q kc ks T (mkF m pc Ls (.double x :: st)) := OE.of (fun _ k' => XS.dnegS X.here hx rfl (hb hby hd) rfl rfl k') h
theorem OE.dcmp (X : Stand p l e R s' m args below meth c T locs cells slots) (hx : p.tables.exec = Jvm.exec) {code : ByteArray} (hby : c.code = code) {pc : Nat} {Ls : Array Slot} {o : CmpOp} {x y : UInt64} {st : List Value} (hd : decode code pc = .ok (.dcmp o, 1))  (h : OE FE p e below s Q kc ks T (mkF m (pc + 1) Ls (.int (cmpValue (FP.dcmp x y) o) :: st))) : OE FE p e below s Q kc ks T (mkF m pc Ls (.double y :: .double x :: st)) := OE.of (fun _ k' => XS.dcmpS X.here hx rfl (hb hby hd) rfl rfl k') h
theorem OE.dadd (X : Stand p l e R s' m args below meth c T locs cells slots) (hx : p.tables.exec = Jvm.exec) {code : ByteArray} (hby : c.code = code) {pc : Nat} {Ls : Array Slot} {x y : UInt64} {st : List Value} (hd : decode code pc = .ok (.dadd, 1)) (hn : Jvm.Free.Fl.NoNaN64 (FP.dadd x y)) (h : OE FE p e below s Q kc ks T (mkF m (pc + 1) Ls (.double (FP.dadd x y) :: st))) : OE FE p e below s Q kc ks T (mkF m pc Ls (.double y :: .double x :: st)) := OE.of (fun _ k' => XS.daddS X.here hx rfl (hb hby hd) rfl hn rfl k') h
theorem OE.dsub (X : Stand p l e R s' m args below meth c T locs cells slots) (hx : p.tables.exec = Jvm.exec) {code : ByteArray} (hby : c.code = code) {pc : Nat} {Ls : Array Slot} {x y : UInt64} {st : List Value} (hd : decode code pc = .ok (.dsub, 1)) (hn : Jvm.Free.Fl.NoNaN64 (FP.dsub x y)) (h : OE FE p e below s Q kc ks T (mkF m (pc + 1) Ls (.double (FP.dsub x y) :: st))) : OE FE p e below s Q kc ks T (mkF m pc Ls (.double y :: .double x :: st)) := OE.of (fun _ k' => XS.dsubS X.here hx rfl (hb hby hd) rfl hn rfl k') h
theorem OE.dmul (X : Stand p l e R s' m args below meth c T locs cells slots) (hx : p.tables.exec = Jvm.exec) {code : ByteArray} (hby : c.code = code) {pc : Nat} {Ls : Array Slot} {x y : UInt64} {st : List Value} (hd : decode code pc = .ok (.dmul, 1)) (hn : Jvm.Free.Fl.NoNaN64 (FP.dmul x y)) (h : OE FE p e below s Q kc ks T (mkF m (pc + 1) Ls (.double (FP.dmul x y) :: st))) : OE FE p e below s Q kc ks T (mkF m pc Ls (.double y :: .double x :: st)) := OE.of (fun _ k' => XS.dmulS X.here hx rfl (hb hby hd) rfl hn rfl k') h
theorem OE.aload (X : Stand p l e R s' m args below meth c T locs cells slots) (hx : p.tables.exec = Jvm.exec) {code : ByteArray} (hby : c.code = code) {pc : Nat} {Ls : Array Slot} {k : Nat} {v : Value} {st : List Value} (hd : decode code pc = .ok (.aload k, 2)) (hl : Ls[k]? = some (.val v)) (hv : v.isRef = true) (h : OE FE p e below s Q kc ks T (mkF m (pc + 2) Ls (v :: st))) : OE FE p e below s Q kc ks T (mkF m pc Ls (st)) := OE.of (fun _ k' => XS.aload X.here hx rfl (hb hby hd) hl hv k') h
theorem OE.aloadN (X : Stand p l e R s' m args below meth c T locs cells slots) (hx : p.tables.exec = Jvm.exec) {code : ByteArray} (hby : c.code = code) {pc : Nat} {Ls : Array Slot} {k : Fin 4} {v : Value} {st : List Value} (hd : decode code pc = .ok (.aload_n k, 1)) (hl : Ls[k.val]? = some (.val v)) (hv : v.isRef = true) (h : OE FE p e below s Q kc ks T (mkF m (pc + 1) Ls (v :: st))) : OE FE p e below s Q kc ks T (mkF m pc Ls (st)) := OE.of (fun _ k' => XS.aloadN X.here hx rfl (hb hby hd) hl hv k') h
theorem OE.istore (X : Stand p l e R s' m args below meth c T locs cells slots) (hx : p.tables.exec = Jvm.exec) {code : ByteArray} (hby : c.code = code) {pc : Nat} {Ls : Array Slot} {k : Nat} {v : Int32} {st : List Value} {l' : Array Slot} (hd : decode code pc = .ok (.istore k, 2)) (hl : storeLocals Ls k (.int v) = some l') (h : OE FE p e below s Q kc ks T (mkF m (pc + 2) l' (st))) : OE FE p e below s Q kc ks T (mkF m pc Ls (.int v :: st)) := OE.of (fun _ k' => XS.istore X.here hx rfl (hb hby hd) rfl hl k') h
theorem OE.istoreN (X : Stand p l e R s' m args below meth c T locs cells slots) (hx : p.tables.exec = Jvm.exec) {code : ByteArray} (hby : c.code = code) {pc : Nat} {Ls : Array Slot} {k : Fin 4} {v : Int32} {st : List Value} {l' : Array Slot} (hd : decode code pc = .ok (.istore_n k, 1)) (hl : storeLocals Ls k.val (.int v) = some l') (h : OE FE p e below s Q kc ks T (mkF m (pc + 1) l' (st))) : OE FE p e below s Q kc ks T (mkF m pc Ls (.int v :: st)) := OE.of (fun _ k' => XS.istoreN X.here hx rfl (hb hby hd) rfl hl k') h
theorem OE.lstore (X : Stand p l e R s' m args below meth c T locs cells slots) (hx : p.tables.exec = Jvm.exec) {code : ByteArray} (hby : c.code = code) {pc : Nat} {Ls : Array Slot} {k : Nat} {v : Int64} {st : List Value} {l' : Array Slot} (hd : decode code pc = .ok (.lstore k, 2)) (hl : storeLocals Ls k (.long v) = some l') (h : OE FE p e below s Q kc ks T (mkF m (pc + 2) l' (st))) : OE FE p e below s Q kc ks T (mkF m pc Ls (.long v :: st)) := OE.of (fun _ k' => XS.lstore X.here hx rfl (hb hby hd) rfl hl k') h
theorem OE.lstoreN (X : Stand p l e R s' m args below meth c T locs cells slots) (hx : p.tables.exec = Jvm.exec) {code : ByteArray} (hby : c.code = code) {pc : Nat} {Ls : Array Slot} {k : Fin 4} {v : Int64} {st : List Value} {l' : Array Slot} (hd : decode code pc = .ok (.lstore_n k, 1)) (hl : storeLocals Ls k.val (.long v) = some l') (h : OE FE p e below s Q kc ks T (mkF m (pc + 1) l' (st))) : OE FE p e below s Q kc ks T (mkF m pc Ls (.long v :: st)) := OE.of (fun _ k' => XS.lstoreN X.here hx rfl (hb hby hd) rfl hl k') h
theorem OE.astore (X : Stand p l e R s' m args below meth c T locs cells slots) (hx : p.tables.exec = Jvm.exec) {code : ByteArray} (hby : c.code = code) {pc : Nat} {Ls : Array Slot} {k : Nat} {v : Value} {st : List Value} {l' : Array Slot} (hd : decode code pc = .ok (.astore k, 2)) (hv : v.isRef = true) (hl : storeLocals Ls k v = some l') (h : OE FE p e below s Q kc ks T (mkF m (pc + 2) l' (st))) : OE FE p e below s Q kc ks T (mkF m pc Ls (v :: st)) := OE.of (fun _ k' => XS.astore X.here hx rfl (hb hby hd) rfl hv hl k') h
theorem OE.astoreN (X : Stand p l e R s' m args below meth c T locs cells slots) (hx : p.tables.exec = Jvm.exec) {code : ByteArray} (hby : c.code = code) {pc : Nat} {Ls : Array Slot} {k : Fin 4} {v : Value} {st : List Value} {l' : Array Slot} (hd : decode code pc = .ok (.astore_n k, 1)) (hv : v.isRef = true) (hl : storeLocals Ls k.val v = some l') (h : OE FE p e below s Q kc ks T (mkF m (pc + 1) l' (st))) : OE FE p e below s Q kc ks T (mkF m pc Ls (v :: st)) := OE.of (fun _ k' => XS.astoreN X.here hx rfl (hb hby hd) rfl hv hl k') h
theorem OE.iconst (X : Stand p l e R s' m args below meth c T locs cells slots) (hx : p.tables.exec = Jvm.exec) {code : ByteArray} (hby : c.code = code) {pc : Nat} {Ls : Array Slot} {i : Int} {st : List Value} (hd : decode code pc = .ok (.iconst i, 1)) (z : Int32) (hz : Int32.ofInt i = z) (h : OE FE p e below s Q kc ks T (mkF m (pc + 1) Ls (.int z :: st))) : OE FE p e below s Q kc ks T (mkF m pc Ls (st)) := OE.of (fun _ k' => XS.iconst X.here hx rfl (hb hby hd) (by subst hz; exact k')) h
theorem OE.bipush (X : Stand p l e R s' m args below meth c T locs cells slots) (hx : p.tables.exec = Jvm.exec) {code : ByteArray} (hby : c.code = code) {pc : Nat} {Ls : Array Slot} {i : Int} {st : List Value} (hd : decode code pc = .ok (.bipush i, 2)) (z : Int32) (hz : (Int8.ofInt i).toInt32 = z) (h : OE FE p e below s Q kc ks T (mkF m (pc + 2) Ls (.int z :: st))) : OE FE p e below s Q kc ks T (mkF m pc Ls (st)) := OE.of (fun _ k' => XS.bipush X.here hx rfl (hb hby hd) (by subst hz; exact k')) h
theorem OE.sipush (X : Stand p l e R s' m args below meth c T locs cells slots) (hx : p.tables.exec = Jvm.exec) {code : ByteArray} (hby : c.code = code) {pc : Nat} {Ls : Array Slot} {i : Int} {st : List Value} (hd : decode code pc = .ok (.sipush i, 3)) (z : Int32) (hz : (Int16.ofInt i).toInt32 = z) (h : OE FE p e below s Q kc ks T (mkF m (pc + 3) Ls (.int z :: st))) : OE FE p e below s Q kc ks T (mkF m pc Ls (st)) := OE.of (fun _ k' => XS.sipush X.here hx rfl (hb hby hd) (by subst hz; exact k')) h
theorem OE.lconst (X : Stand p l e R s' m args below meth c T locs cells slots) (hx : p.tables.exec = Jvm.exec) {code : ByteArray} (hby : c.code = code) {pc : Nat} {Ls : Array Slot} {i : Fin 2} {st : List Value} (hd : decode code pc = .ok (.lconst i, 1)) (z : Int64) (hz : Int64.ofNat i = z) (h : OE FE p e below s Q kc ks T (mkF m (pc + 1) Ls (.long z :: st))) : OE FE p e below s Q kc ks T (mkF m pc Ls (st)) := OE.of (fun _ k' => XS.lconst X.here hx rfl (hb hby hd) (by subst hz; exact k')) h
theorem OE.aconstNull (X : Stand p l e R s' m args below meth c T locs cells slots) (hx : p.tables.exec = Jvm.exec) {code : ByteArray} (hby : c.code = code) {pc : Nat} {Ls : Array Slot} {st : List Value} (hd : decode code pc = .ok (.aconst_null, 1))  (h : OE FE p e below s Q kc ks T (mkF m (pc + 1) Ls (.null :: st))) : OE FE p e below s Q kc ks T (mkF m pc Ls (st)) := OE.of (fun _ k' => XS.aconstNull X.here hx rfl (hb hby hd) k') h
theorem OE.iadd (X : Stand p l e R s' m args below meth c T locs cells slots) (hx : p.tables.exec = Jvm.exec) {code : ByteArray} (hby : c.code = code) {pc : Nat} {Ls : Array Slot} {x y : Int32} {st : List Value} (hd : decode code pc = .ok (.iadd, 1))  (h : OE FE p e below s Q kc ks T (mkF m (pc + 1) Ls (.int (x + y) :: st))) : OE FE p e below s Q kc ks T (mkF m pc Ls (.int y :: .int x :: st)) := OE.of (fun _ k' => XS.iadd X.here hx rfl (hb hby hd) rfl k') h
theorem OE.ladd (X : Stand p l e R s' m args below meth c T locs cells slots) (hx : p.tables.exec = Jvm.exec) {code : ByteArray} (hby : c.code = code) {pc : Nat} {Ls : Array Slot} {x y : Int64} {st : List Value} (hd : decode code pc = .ok (.ladd, 1))  (h : OE FE p e below s Q kc ks T (mkF m (pc + 1) Ls (.long (x + y) :: st))) : OE FE p e below s Q kc ks T (mkF m pc Ls (.long y :: .long x :: st)) := OE.of (fun _ k' => XS.ladd X.here hx rfl (hb hby hd) rfl k') h
theorem OE.isub (X : Stand p l e R s' m args below meth c T locs cells slots) (hx : p.tables.exec = Jvm.exec) {code : ByteArray} (hby : c.code = code) {pc : Nat} {Ls : Array Slot} {x y : Int32} {st : List Value} (hd : decode code pc = .ok (.isub, 1))  (h : OE FE p e below s Q kc ks T (mkF m (pc + 1) Ls (.int (x - y) :: st))) : OE FE p e below s Q kc ks T (mkF m pc Ls (.int y :: .int x :: st)) := OE.of (fun _ k' => XS.isub X.here hx rfl (hb hby hd) rfl k') h
theorem OE.lsub (X : Stand p l e R s' m args below meth c T locs cells slots) (hx : p.tables.exec = Jvm.exec) {code : ByteArray} (hby : c.code = code) {pc : Nat} {Ls : Array Slot} {x y : Int64} {st : List Value} (hd : decode code pc = .ok (.lsub, 1))  (h : OE FE p e below s Q kc ks T (mkF m (pc + 1) Ls (.long (x - y) :: st))) : OE FE p e below s Q kc ks T (mkF m pc Ls (.long y :: .long x :: st)) := OE.of (fun _ k' => XS.lsub X.here hx rfl (hb hby hd) rfl k') h
theorem OE.imul (X : Stand p l e R s' m args below meth c T locs cells slots) (hx : p.tables.exec = Jvm.exec) {code : ByteArray} (hby : c.code = code) {pc : Nat} {Ls : Array Slot} {x y : Int32} {st : List Value} (hd : decode code pc = .ok (.imul, 1))  (h : OE FE p e below s Q kc ks T (mkF m (pc + 1) Ls (.int (x * y) :: st))) : OE FE p e below s Q kc ks T (mkF m pc Ls (.int y :: .int x :: st)) := OE.of (fun _ k' => XS.imul X.here hx rfl (hb hby hd) rfl k') h
theorem OE.lmul (X : Stand p l e R s' m args below meth c T locs cells slots) (hx : p.tables.exec = Jvm.exec) {code : ByteArray} (hby : c.code = code) {pc : Nat} {Ls : Array Slot} {x y : Int64} {st : List Value} (hd : decode code pc = .ok (.lmul, 1))  (h : OE FE p e below s Q kc ks T (mkF m (pc + 1) Ls (.long (x * y) :: st))) : OE FE p e below s Q kc ks T (mkF m pc Ls (.long y :: .long x :: st)) := OE.of (fun _ k' => XS.lmul X.here hx rfl (hb hby hd) rfl k') h
theorem OE.iand (X : Stand p l e R s' m args below meth c T locs cells slots) (hx : p.tables.exec = Jvm.exec) {code : ByteArray} (hby : c.code = code) {pc : Nat} {Ls : Array Slot} {x y : Int32} {st : List Value} (hd : decode code pc = .ok (.iand, 1))  (h : OE FE p e below s Q kc ks T (mkF m (pc + 1) Ls (.int (x &&& y) :: st))) : OE FE p e below s Q kc ks T (mkF m pc Ls (.int y :: .int x :: st)) := OE.of (fun _ k' => XS.iand X.here hx rfl (hb hby hd) rfl k') h
theorem OE.land (X : Stand p l e R s' m args below meth c T locs cells slots) (hx : p.tables.exec = Jvm.exec) {code : ByteArray} (hby : c.code = code) {pc : Nat} {Ls : Array Slot} {x y : Int64} {st : List Value} (hd : decode code pc = .ok (.land, 1))  (h : OE FE p e below s Q kc ks T (mkF m (pc + 1) Ls (.long (x &&& y) :: st))) : OE FE p e below s Q kc ks T (mkF m pc Ls (.long y :: .long x :: st)) := OE.of (fun _ k' => XS.land X.here hx rfl (hb hby hd) rfl k') h
theorem OE.ior (X : Stand p l e R s' m args below meth c T locs cells slots) (hx : p.tables.exec = Jvm.exec) {code : ByteArray} (hby : c.code = code) {pc : Nat} {Ls : Array Slot} {x y : Int32} {st : List Value} (hd : decode code pc = .ok (.ior, 1))  (h : OE FE p e below s Q kc ks T (mkF m (pc + 1) Ls (.int (x ||| y) :: st))) : OE FE p e below s Q kc ks T (mkF m pc Ls (.int y :: .int x :: st)) := OE.of (fun _ k' => XS.ior X.here hx rfl (hb hby hd) rfl k') h
theorem OE.lor (X : Stand p l e R s' m args below meth c T locs cells slots) (hx : p.tables.exec = Jvm.exec) {code : ByteArray} (hby : c.code = code) {pc : Nat} {Ls : Array Slot} {x y : Int64} {st : List Value} (hd : decode code pc = .ok (.lor, 1))  (h : OE FE p e below s Q kc ks T (mkF m (pc + 1) Ls (.long (x ||| y) :: st))) : OE FE p e below s Q kc ks T (mkF m pc Ls (.long y :: .long x :: st)) := OE.of (fun _ k' => XS.lor X.here hx rfl (hb hby hd) rfl k') h
theorem OE.ixor (X : Stand p l e R s' m args below meth c T locs cells slots) (hx : p.tables.exec = Jvm.exec) {code : ByteArray} (hby : c.code = code) {pc : Nat} {Ls : Array Slot} {x y : Int32} {st : List Value} (hd : decode code pc = .ok (.ixor, 1))  (h : OE FE p e below s Q kc ks T (mkF m (pc + 1) Ls (.int (x ^^^ y) :: st))) : OE FE p e below s Q kc ks T (mkF m pc Ls (.int y :: .int x :: st)) := OE.of (fun _ k' => XS.ixor X.here hx rfl (hb hby hd) rfl k') h
theorem OE.lxor (X : Stand p l e R s' m args below meth c T locs cells slots) (hx : p.tables.exec = Jvm.exec) {code : ByteArray} (hby : c.code = code) {pc : Nat} {Ls : Array Slot} {x y : Int64} {st : List Value} (hd : decode code pc = .ok (.lxor, 1))  (h : OE FE p e below s Q kc ks T (mkF m (pc + 1) Ls (.long (x ^^^ y) :: st))) : OE FE p e below s Q kc ks T (mkF m pc Ls (.long y :: .long x :: st)) := OE.of (fun _ k' => XS.lxor X.here hx rfl (hb hby hd) rfl k') h
theorem OE.ishl (X : Stand p l e R s' m args below meth c T locs cells slots) (hx : p.tables.exec = Jvm.exec) {code : ByteArray} (hby : c.code = code) {pc : Nat} {Ls : Array Slot} {x y : Int32} {st : List Value} (hd : decode code pc = .ok (.ishl, 1))  (h : OE FE p e below s Q kc ks T (mkF m (pc + 1) Ls (.int (x <<< (y &&& 31)) :: st))) : OE FE p e below s Q kc ks T (mkF m pc Ls (.int y :: .int x :: st)) := OE.of (fun _ k' => XS.ishl X.here hx rfl (hb hby hd) rfl k') h
theorem OE.ishr (X : Stand p l e R s' m args below meth c T locs cells slots) (hx : p.tables.exec = Jvm.exec) {code : ByteArray} (hby : c.code = code) {pc : Nat} {Ls : Array Slot} {x y : Int32} {st : List Value} (hd : decode code pc = .ok (.ishr, 1))  (h : OE FE p e below s Q kc ks T (mkF m (pc + 1) Ls (.int (x >>> (y &&& 31)) :: st))) : OE FE p e below s Q kc ks T (mkF m pc Ls (.int y :: .int x :: st)) := OE.of (fun _ k' => XS.ishr X.here hx rfl (hb hby hd) rfl k') h
theorem OE.iushr (X : Stand p l e R s' m args below meth c T locs cells slots) (hx : p.tables.exec = Jvm.exec) {code : ByteArray} (hby : c.code = code) {pc : Nat} {Ls : Array Slot} {x y : Int32} {st : List Value} (hd : decode code pc = .ok (.iushr, 1))  (h : OE FE p e below s Q kc ks T (mkF m (pc + 1) Ls (.int ((x.toUInt32 >>> (y &&& 31).toUInt32).toInt32) :: st))) : OE FE p e below s Q kc ks T (mkF m pc Ls (.int y :: .int x :: st)) := OE.of (fun _ k' => XS.iushr X.here hx rfl (hb hby hd) rfl k') h
theorem OE.lshl (X : Stand p l e R s' m args below meth c T locs cells slots) (hx : p.tables.exec = Jvm.exec) {code : ByteArray} (hby : c.code = code) {pc : Nat} {Ls : Array Slot} {x : Int64} {y : Int32} {st : List Value} (hd : decode code pc = .ok (.lshl, 1))  (h : OE FE p e below s Q kc ks T (mkF m (pc + 1) Ls (.long (x <<< (y &&& 0x3f).toInt64) :: st))) : OE FE p e below s Q kc ks T (mkF m pc Ls (.int y :: .long x :: st)) := OE.of (fun _ k' => XS.lshl X.here hx rfl (hb hby hd) rfl k') h
theorem OE.lshr (X : Stand p l e R s' m args below meth c T locs cells slots) (hx : p.tables.exec = Jvm.exec) {code : ByteArray} (hby : c.code = code) {pc : Nat} {Ls : Array Slot} {x : Int64} {y : Int32} {st : List Value} (hd : decode code pc = .ok (.lshr, 1))  (h : OE FE p e below s Q kc ks T (mkF m (pc + 1) Ls (.long (x >>> (y &&& 0x3f).toInt64) :: st))) : OE FE p e below s Q kc ks T (mkF m pc Ls (.int y :: .long x :: st)) := OE.of (fun _ k' => XS.lshr X.here hx rfl (hb hby hd) rfl k') h
theorem OE.lushr (X : Stand p l e R s' m args below meth c T locs cells slots) (hx : p.tables.exec = Jvm.exec) {code : ByteArray} (hby : c.code = code) {pc : Nat} {Ls : Array Slot} {x : Int64} {y : Int32} {st : List Value} (hd : decode code pc = .ok (.lushr, 1))  (h : OE FE p e below s Q kc ks T (mkF m (pc + 1) Ls (.long ((x.toUInt64 >>> (y &&& 0x3f).toInt64.toUInt64).toInt64) :: st))) : OE FE p e below s Q kc ks T (mkF m pc Ls (.int y :: .long x :: st)) := OE.of (fun _ k' => XS.lushr X.here hx rfl (hb hby hd) rfl k') h
theorem OE.ineg (X : Stand p l e R s' m args below meth c T locs cells slots) (hx : p.tables.exec = Jvm.exec) {code : ByteArray} (hby : c.code = code) {pc : Nat} {Ls : Array Slot} {x : Int32} {st : List Value} (hd : decode code pc = .ok (.ineg, 1))  (h : OE FE p e below s Q kc ks T (mkF m (pc + 1) Ls (.int (-x) :: st))) : OE FE p e below s Q kc ks T (mkF m pc Ls (.int x :: st)) := OE.of (fun _ k' => XS.ineg X.here hx rfl (hb hby hd) rfl k') h
theorem OE.lneg (X : Stand p l e R s' m args below meth c T locs cells slots) (hx : p.tables.exec = Jvm.exec) {code : ByteArray} (hby : c.code = code) {pc : Nat} {Ls : Array Slot} {x : Int64} {st : List Value} (hd : decode code pc = .ok (.lneg, 1))  (h : OE FE p e below s Q kc ks T (mkF m (pc + 1) Ls (.long (-x) :: st))) : OE FE p e below s Q kc ks T (mkF m pc Ls (.long x :: st)) := OE.of (fun _ k' => XS.lneg X.here hx rfl (hb hby hd) rfl k') h
theorem OE.i2l (X : Stand p l e R s' m args below meth c T locs cells slots) (hx : p.tables.exec = Jvm.exec) {code : ByteArray} (hby : c.code = code) {pc : Nat} {Ls : Array Slot} {x : Int32} {st : List Value} (hd : decode code pc = .ok (.i2l, 1))  (h : OE FE p e below s Q kc ks T (mkF m (pc + 1) Ls (.long x.toInt64 :: st))) : OE FE p e below s Q kc ks T (mkF m pc Ls (.int x :: st)) := OE.of (fun _ k' => XS.i2l X.here hx rfl (hb hby hd) rfl k') h
theorem OE.l2i (X : Stand p l e R s' m args below meth c T locs cells slots) (hx : p.tables.exec = Jvm.exec) {code : ByteArray} (hby : c.code = code) {pc : Nat} {Ls : Array Slot} {x : Int64} {st : List Value} (hd : decode code pc = .ok (.l2i, 1))  (h : OE FE p e below s Q kc ks T (mkF m (pc + 1) Ls (.int x.toInt32 :: st))) : OE FE p e below s Q kc ks T (mkF m pc Ls (.long x :: st)) := OE.of (fun _ k' => XS.l2i X.here hx rfl (hb hby hd) rfl k') h
theorem OE.i2b (X : Stand p l e R s' m args below meth c T locs cells slots) (hx : p.tables.exec = Jvm.exec) {code : ByteArray} (hby : c.code = code) {pc : Nat} {Ls : Array Slot} {x : Int32} {st : List Value} (hd : decode code pc = .ok (.i2b, 1))  (h : OE FE p e below s Q kc ks T (mkF m (pc + 1) Ls (.int x.toInt8.toInt32 :: st))) : OE FE p e below s Q kc ks T (mkF m pc Ls (.int x :: st)) := OE.of (fun _ k' => XS.i2b X.here hx rfl (hb hby hd) rfl k') h
theorem OE.i2s (X : Stand p l e R s' m args below meth c T locs cells slots) (hx : p.tables.exec = Jvm.exec) {code : ByteArray} (hby : c.code = code) {pc : Nat} {Ls : Array Slot} {x : Int32} {st : List Value} (hd : decode code pc = .ok (.i2s, 1))  (h : OE FE p e below s Q kc ks T (mkF m (pc + 1) Ls (.int x.toInt16.toInt32 :: st))) : OE FE p e below s Q kc ks T (mkF m pc Ls (.int x :: st)) := OE.of (fun _ k' => XS.i2s X.here hx rfl (hb hby hd) rfl k') h
theorem OE.i2c (X : Stand p l e R s' m args below meth c T locs cells slots) (hx : p.tables.exec = Jvm.exec) {code : ByteArray} (hby : c.code = code) {pc : Nat} {Ls : Array Slot} {x : Int32} {st : List Value} (hd : decode code pc = .ok (.i2c, 1))  (h : OE FE p e below s Q kc ks T (mkF m (pc + 1) Ls (.int x.toUInt32.toUInt16.toUInt32.toInt32 :: st))) : OE FE p e below s Q kc ks T (mkF m pc Ls (.int x :: st)) := OE.of (fun _ k' => XS.i2c X.here hx rfl (hb hby hd) rfl k') h
theorem OE.lcmp (X : Stand p l e R s' m args below meth c T locs cells slots) (hx : p.tables.exec = Jvm.exec) {code : ByteArray} (hby : c.code = code) {pc : Nat} {Ls : Array Slot} {x y : Int64} {st : List Value} (hd : decode code pc = .ok (.lcmp, 1))  (h : OE FE p e below s Q kc ks T (mkF m (pc + 1) Ls (.int (lcmpW x y) :: st))) : OE FE p e below s Q kc ks T (mkF m pc Ls (.long y :: .long x :: st)) := OE.of (fun _ k' => XS.lcmp X.here hx rfl (hb hby hd) rfl k') h
theorem OE.idiv (X : Stand p l e R s' m args below meth c T locs cells slots) (hx : p.tables.exec = Jvm.exec) {code : ByteArray} (hby : c.code = code) {pc : Nat} {Ls : Array Slot} {x y : Int32} {st : List Value} (hd : decode code pc = .ok (.idiv, 1)) (hy : y ≠ 0) (h : OE FE p e below s Q kc ks T (mkF m (pc + 1) Ls (.int (x / y) :: st))) : OE FE p e below s Q kc ks T (mkF m pc Ls (.int y :: .int x :: st)) := OE.of (fun _ k' => XS.idiv X.here hx rfl (hb hby hd) rfl hy k') h
theorem OE.irem (X : Stand p l e R s' m args below meth c T locs cells slots) (hx : p.tables.exec = Jvm.exec) {code : ByteArray} (hby : c.code = code) {pc : Nat} {Ls : Array Slot} {x y : Int32} {st : List Value} (hd : decode code pc = .ok (.irem, 1)) (hy : y ≠ 0) (h : OE FE p e below s Q kc ks T (mkF m (pc + 1) Ls (.int (x % y) :: st))) : OE FE p e below s Q kc ks T (mkF m pc Ls (.int y :: .int x :: st)) := OE.of (fun _ k' => XS.irem X.here hx rfl (hb hby hd) rfl hy (by rw [irem_eq_mod]; exact k')) h
theorem OE.ldiv (X : Stand p l e R s' m args below meth c T locs cells slots) (hx : p.tables.exec = Jvm.exec) {code : ByteArray} (hby : c.code = code) {pc : Nat} {Ls : Array Slot} {x y : Int64} {st : List Value} (hd : decode code pc = .ok (.ldiv, 1)) (hy : y ≠ 0) (h : OE FE p e below s Q kc ks T (mkF m (pc + 1) Ls (.long (x / y) :: st))) : OE FE p e below s Q kc ks T (mkF m pc Ls (.long y :: .long x :: st)) := OE.of (fun _ k' => XS.ldiv X.here hx rfl (hb hby hd) rfl hy k') h
theorem OE.lrem (X : Stand p l e R s' m args below meth c T locs cells slots) (hx : p.tables.exec = Jvm.exec) {code : ByteArray} (hby : c.code = code) {pc : Nat} {Ls : Array Slot} {x y : Int64} {st : List Value} (hd : decode code pc = .ok (.lrem, 1)) (hy : y ≠ 0) (h : OE FE p e below s Q kc ks T (mkF m (pc + 1) Ls (.long (x % y) :: st))) : OE FE p e below s Q kc ks T (mkF m pc Ls (.long y :: .long x :: st)) := OE.of (fun _ k' => XS.lrem X.here hx rfl (hb hby hd) rfl hy (by rw [lrem_mod]; exact k')) h
theorem OE.iinc (X : Stand p l e R s' m args below meth c T locs cells slots) (hx : p.tables.exec = Jvm.exec) {code : ByteArray} (hby : c.code = code) {pc : Nat} {Ls : Array Slot} {k : Nat} {cst : Int} {x : Int32} {l' : Array Slot} {st : List Value} (hd : decode code pc = .ok (.iinc k cst, 3)) (hl : Ls[k]? = some (.val (.int x))) (hl' : storeLocals Ls k (.int (x + Int32.ofInt cst)) = some l') (h : OE FE p e below s Q kc ks T (mkF m (pc + 3) l' (st))) : OE FE p e below s Q kc ks T (mkF m pc Ls (st)) := OE.of (fun _ k' => XS.iinc X.here hx rfl (hb hby hd) hl hl' k') h
theorem OE.dup (X : Stand p l e R s' m args below meth c T locs cells slots) (hx : p.tables.exec = Jvm.exec) {code : ByteArray} (hby : c.code = code) {pc : Nat} {Ls : Array Slot} {v : Value} {st : List Value} (hd : decode code pc = .ok (.dup, 1)) (hc : v.category = 1) (h : OE FE p e below s Q kc ks T (mkF m (pc + 1) Ls (v :: v :: st))) : OE FE p e below s Q kc ks T (mkF m pc Ls (v :: st)) := OE.of (fun _ k' => XS.dup X.here hx rfl (hb hby hd) rfl hc k') h
theorem OE.pop (X : Stand p l e R s' m args below meth c T locs cells slots) (hx : p.tables.exec = Jvm.exec) {code : ByteArray} (hby : c.code = code) {pc : Nat} {Ls : Array Slot} {v : Value} {st : List Value} (hd : decode code pc = .ok (.pop, 1)) (hc : v.category = 1) (h : OE FE p e below s Q kc ks T (mkF m (pc + 1) Ls (st))) : OE FE p e below s Q kc ks T (mkF m pc Ls (v :: st)) := OE.of (fun _ k' => XS.pop X.here hx rfl (hb hby hd) rfl hc k') h
theorem OE.dupX1 (X : Stand p l e R s' m args below meth c T locs cells slots) (hx : p.tables.exec = Jvm.exec) {code : ByteArray} (hby : c.code = code) {pc : Nat} {Ls : Array Slot} {v w : Value} {st : List Value} (hd : decode code pc = .ok (.dup_x1, 1)) (hc : v.category = 1) (hc' : w.category = 1) (h : OE FE p e below s Q kc ks T (mkF m (pc + 1) Ls (v :: w :: v :: st))) : OE FE p e below s Q kc ks T (mkF m pc Ls (v :: w :: st)) := OE.of (fun _ k' => XS.dupX1 X.here hx rfl (hb hby hd) rfl hc hc' k') h
theorem OE.dup2 (X : Stand p l e R s' m args below meth c T locs cells slots) (hx : p.tables.exec = Jvm.exec) {code : ByteArray} (hby : c.code = code) {pc : Nat} {Ls : Array Slot} {v w : Value} {st : List Value} (hd : decode code pc = .ok (.dup2, 1)) (hc : v.category = 1) (hc' : w.category = 1) (h : OE FE p e below s Q kc ks T (mkF m (pc + 1) Ls (v :: w :: v :: w :: st))) : OE FE p e below s Q kc ks T (mkF m pc Ls (v :: w :: st)) := OE.of (fun _ k' => Jvm.Free.XT.dup2 X.here hx rfl (hb hby hd) rfl hc hc' k') h
theorem OE.dup2L (X : Stand p l e R s' m args below meth c T locs cells slots) (hx : p.tables.exec = Jvm.exec) {code : ByteArray} (hby : c.code = code) {pc : Nat} {Ls : Array Slot} {v : Int64} {st : List Value} (hd : decode code pc = .ok (.dup2, 1))  (h : OE FE p e below s Q kc ks T (mkF m (pc + 1) Ls (.long v :: .long v :: st))) : OE FE p e below s Q kc ks T (mkF m pc Ls (.long v :: st)) := OE.of (fun _ k' => Jvm.Free.XT.dup2L X.here hx rfl (hb hby hd) rfl k') h
theorem OE.goto (X : Stand p l e R s' m args below meth c T locs cells slots) (hx : p.tables.exec = Jvm.exec) {code : ByteArray} (hby : c.code = code) {pc : Nat} {Ls : Array Slot} {o : Int} (pc' : Nat) {st : List Value} (hd : decode code pc = .ok (.goto o, 3)) (ho : 0 ≤ (pc : Int) + o := by decide) (hp : ((pc : Int) + o).toNat = pc' := by decide) (h : OE FE p e below s Q kc ks T (mkF m pc' Ls (st))) : OE FE p e below s Q kc ks T (mkF m pc Ls (st)) := OE.of (fun _ k' => XS.goto X.here hx rfl rfl (hb hby hd) ho hp k') h
theorem OE.ifYes (X : Stand p l e R s' m args below meth c T locs cells slots) (hx : p.tables.exec = Jvm.exec) {code : ByteArray} (hby : c.code = code) {pc : Nat} {Ls : Array Slot} {cd : ClassFile.Cond} {x : Int32} {o : Int} (pc' : Nat) {st : List Value} (hd : decode code pc = .ok (.ifCond cd o, 3)) (hc : if_icmp.holds cd x 0 = true) (ho : 0 ≤ (pc : Int) + o := by decide) (hp : ((pc : Int) + o).toNat = pc' := by decide) (h : OE FE p e below s Q kc ks T (mkF m pc' Ls (st))) : OE FE p e below s Q kc ks T (mkF m pc Ls (.int x :: st)) := OE.of (fun _ k' => XS.ifYes X.here hx rfl rfl (hb hby hd) rfl ((if0 _ _).trans hc) ho hp k') h
theorem OE.ifNo (X : Stand p l e R s' m args below meth c T locs cells slots) (hx : p.tables.exec = Jvm.exec) {code : ByteArray} (hby : c.code = code) {pc : Nat} {Ls : Array Slot} {cd : ClassFile.Cond} {x : Int32} {o : Int} {st : List Value} (hd : decode code pc = .ok (.ifCond cd o, 3)) (hc : if_icmp.holds cd x 0 = false) (h : OE FE p e below s Q kc ks T (mkF m (pc + 3) Ls (st))) : OE FE p e below s Q kc ks T (mkF m pc Ls (.int x :: st)) := OE.of (fun _ k' => XS.ifNo X.here hx rfl (hb hby hd) rfl ((if0 _ _).trans hc) k') h
theorem OE.icmpYes (X : Stand p l e R s' m args below meth c T locs cells slots) (hx : p.tables.exec = Jvm.exec) {code : ByteArray} (hby : c.code = code) {pc : Nat} {Ls : Array Slot} {cd : ClassFile.Cond} {x y : Int32} {o : Int} (pc' : Nat) {st : List Value} (hd : decode code pc = .ok (.if_icmp cd o, 3)) (hc : if_icmp.holds cd x y = true) (ho : 0 ≤ (pc : Int) + o := by decide) (hp : ((pc : Int) + o).toNat = pc' := by decide) (h : OE FE p e below s Q kc ks T (mkF m pc' Ls (st))) : OE FE p e below s Q kc ks T (mkF m pc Ls (.int y :: .int x :: st)) := OE.of (fun _ k' => XS.icmpYes X.here hx rfl rfl (hb hby hd) rfl hc ho hp k') h
theorem OE.icmpNo (X : Stand p l e R s' m args below meth c T locs cells slots) (hx : p.tables.exec = Jvm.exec) {code : ByteArray} (hby : c.code = code) {pc : Nat} {Ls : Array Slot} {cd : ClassFile.Cond} {x y : Int32} {o : Int} {st : List Value} (hd : decode code pc = .ok (.if_icmp cd o, 3)) (hc : if_icmp.holds cd x y = false) (h : OE FE p e below s Q kc ks T (mkF m (pc + 3) Ls (st))) : OE FE p e below s Q kc ks T (mkF m pc Ls (.int y :: .int x :: st)) := OE.of (fun _ k' => XS.icmpNo X.here hx rfl (hb hby hd) rfl hc k') h
theorem OE.ifnullYes (X : Stand p l e R s' m args below meth c T locs cells slots) (hx : p.tables.exec = Jvm.exec) {code : ByteArray} (hby : c.code = code) {pc : Nat} {Ls : Array Slot} {o : Int} (pc' : Nat) {st : List Value} (hd : decode code pc = .ok (.ifnull o, 3)) (ho : 0 ≤ (pc : Int) + o := by decide) (hp : ((pc : Int) + o).toNat = pc' := by decide) (h : OE FE p e below s Q kc ks T (mkF m pc' Ls (st))) : OE FE p e below s Q kc ks T (mkF m pc Ls (.null :: st)) := OE.of (fun _ k' => XS.ifnullYes X.here hx rfl rfl (hb hby hd) rfl ho hp k') h
theorem OE.ifnullNo (X : Stand p l e R s' m args below meth c T locs cells slots) (hx : p.tables.exec = Jvm.exec) {code : ByteArray} (hby : c.code = code) {pc : Nat} {Ls : Array Slot} {b : Addr} {o : Int} {st : List Value} (hd : decode code pc = .ok (.ifnull o, 3))  (h : OE FE p e below s Q kc ks T (mkF m (pc + 3) Ls (st))) : OE FE p e below s Q kc ks T (mkF m pc Ls (.ref b :: st)) := OE.of (fun _ k' => XS.ifnullNo X.here hx rfl (hb hby hd) rfl k') h
theorem OE.ifnonnullYes (X : Stand p l e R s' m args below meth c T locs cells slots) (hx : p.tables.exec = Jvm.exec) {code : ByteArray} (hby : c.code = code) {pc : Nat} {Ls : Array Slot} {b : Addr} {o : Int} (pc' : Nat) {st : List Value} (hd : decode code pc = .ok (.ifnonnull o, 3)) (ho : 0 ≤ (pc : Int) + o := by decide) (hp : ((pc : Int) + o).toNat = pc' := by decide) (h : OE FE p e below s Q kc ks T (mkF m pc' Ls (st))) : OE FE p e below s Q kc ks T (mkF m pc Ls (.ref b :: st)) := OE.of (fun _ k' => XS.ifnonnullYes X.here hx rfl rfl (hb hby hd) rfl ho hp k') h
theorem OE.ifnonnullNo (X : Stand p l e R s' m args below meth c T locs cells slots) (hx : p.tables.exec = Jvm.exec) {code : ByteArray} (hby : c.code = code) {pc : Nat} {Ls : Array Slot} {o : Int} {st : List Value} (hd : decode code pc = .ok (.ifnonnull o, 3))  (h : OE FE p e below s Q kc ks T (mkF m (pc + 3) Ls (st))) : OE FE p e below s Q kc ks T (mkF m pc Ls (.null :: st)) := OE.of (fun _ k' => XS.ifnonnullNo X.here hx rfl (hb hby hd) rfl k') h
end New
end Jvm.RoadKit
namespace Jvm.RoadKit
open Sem ClassFile Op Lib Jvm.Stand Jvm.Free Jvm.LawKit
/-- a private method of a plain class is what a call of it selects -/
theorem own_sel {args a1 a2 : Array Value} {s : State} {y : MethodName} {k : Nat} (hi : (Cond.instanceMethod y).before a1 s = true) (hp : s.PrivateAt y) (hk : (Cond.instantiable y.cls k).before a2 s = true)
    (hy : y.cls ≠ "java/lang/invoke/MethodHandle" ∧ y.cls ≠ "java/lang/invoke/VarHandle") : (Cond.selects y.cls y y).before args s = true := by
  obtain ⟨mk, meth, hn, hm, -, -⟩ := Cond.instanceMethod_spec hi
  obtain ⟨c, k', h1, h2, h3, h4, -, -⟩ := Cond.instantiable_spec hk
  have hf := State.methodFound?_of_named hn hy
  have hc := findClass_of_methodNamed hn
  cases h1.symm.trans hc
  have hs : selectMethod {} s.vm mk.cls mk = .method mk := selectMethod_private hm (hp mk meth hn hm)
  have h5 : k'.isInterface = false := by
    cases hq : k'.isInterface
    · rfl
    · rw [hq] at h4; cases h4
  simp [Cond.before, Cond.holds, Cond.value, hc, hf, hn, hs, h2, h5]
end Jvm.RoadKit
namespace Jvm.Pilot.@@N@@
open Jvm Jvm.ClassFile Sem Op Lib Jvm.Free Jvm.Stand Jvm.LawKit Jvm.RoadKit Bundle Jvm.Pilot.@@N@@.Jvm.D
theorem own_i0 : (0 : Int32).toInt = 0 := by decide
theorem own_i1 : (1 : Int32).toInt = 1 := by decide
theorem own_i4 : (4 : Int32).toInt = 4 := by decide
theorem own_i1023 : (1023 : Int32).toInt = 1023 := by decide
def own_h (l : List Int32) : Int32 := l.foldl (fun h c => ((31 : Int32) * h) + c) 0
def own_fin (x : Int32) : Int32 := (x * (-1640531527 : Int32)) ^^^ (((x * (-1640531527 : Int32)).toUInt32 >>> ((16 : Int32) &&& 31).toUInt32).toInt32)
def own_hash (l : List Int32) : Int32 := own_fin (own_h l)
def own_sl (cs : List Int32) (s e : Int32) : List Int32 := (cs.drop s.toNatClampNeg).take (e.toNatClampNeg - s.toNatClampNeg)
def own_rg (s e : Int32) : Prop := 0 ≤ s.toInt ∧ s.toInt ≤ e.toInt ∧ e.toInt ≤ 4
theorem own_nat {i : Int32} (h : 0 ≤ i.toInt) : (i.toNatClampNeg : Int) = i.toInt := by simp only [Int32.toNatClampNeg]; omega
theorem own_at {j : Nat} {x : Int32} {bs : List Int32} {d : Value} (h : bs[j]? = some x) : (List.map Value.int bs).getD j d = .int x := by
  rw [List.getD_eq_getElem?_getD, List.getElem?_map, h]; rfl
theorem own_inc {i e : Int32} (h0 : 0 ≤ i.toInt) (h : i < e) : (i + 1).toInt = i.toInt + 1 ∧ (i + 1).toNatClampNeg = i.toNatClampNeg + 1 := by
  rw [Int32.lt_iff_toInt_lt] at h
  have a := c_iadd i 1
  have r := rng32 (i + 1)
  have r2 := rng32 e
  have e1 : (i + 1).toInt = i.toInt + 1 := by rw [own_i1] at a; omega
  exact ⟨e1, by simp only [Int32.toNatClampNeg]; omega⟩
theorem own_snoc {cs : List Int32} {s i e x : Int32} (hs : 0 ≤ s.toInt) (h1 : s.toInt ≤ i.toInt) (h2 : i < e) (hx : cs[i.toNatClampNeg]? = some x) : own_sl cs s (i + 1) = own_sl cs s i ++ [x] := by
  have q := own_inc (by omega) h2
  have n1 := own_nat hs
  have n2 := own_nat (i := i) (by omega)
  unfold own_sl
  have e1 : (i + 1).toNatClampNeg - s.toNatClampNeg = (i.toNatClampNeg - s.toNatClampNeg) + 1 := by omega
  rw [e1, List.take_succ]
  have e2 : (cs.drop s.toNatClampNeg)[i.toNatClampNeg - s.toNatClampNeg]? = some x := by
    rw [List.getElem?_drop]
    have : s.toNatClampNeg + (i.toNatClampNeg - s.toNatClampNeg) = i.toNatClampNeg := by omega
    rw [this]; exact hx
  rw [e2]; rfl
theorem own_hsnoc {l : List Int32} {x : Int32} : own_h (l ++ [x]) = ((31 : Int32) * own_h l) + x := by
  unfold own_h; rw [List.foldl_append]; rfl
theorem own_nil (cs : List Int32) (s : Int32) : own_sl cs s s = [] := by unfold own_sl; simp
theorem own_getc {cs : List Int32} {i e : Int32} (hc : cs.length = 4) (h0 : 0 ≤ i.toInt) (h : i < e) (he : e.toInt ≤ 4) : ∃ x, cs[i.toNatClampNeg]? = some x := by
  rw [Int32.lt_iff_toInt_lt] at h
  have n := own_nat h0
  exact ⟨_, List.getElem?_eq_getElem (by omega)⟩
theorem own_lt4 {i e : Int32} (h0 : 0 ≤ i.toInt) (h : i < e) (he : e.toInt ≤ 4) : ¬ i < 0 ∧ i < (4 : Int32) := by
  rw [Int32.lt_iff_toInt_lt] at *
  rw [Int32.lt_iff_toInt_lt, own_i0, own_i4]; omega
theorem own_d6_0 : decode prog_66_method_8_code 0 = .ok (.iconst 0, 1) := by decide +kernel
theorem own_d6_1 : decode prog_66_method_8_code 1 = .ok (.istore_n 3, 1) := by decide +kernel
theorem own_d6_2 : decode prog_66_method_8_code 2 = .ok (.iload_n 1, 1) := by decide +kernel
theorem own_d6_3 : decode prog_66_method_8_code 3 = .ok (.istore 4, 2) := by decide +kernel
theorem own_d6_5 : decode prog_66_method_8_code 5 = .ok (.iload 4, 2) := by decide +kernel
theorem own_d6_7 : decode prog_66_method_8_code 7 = .ok (.iload_n 2, 1) := by decide +kernel
theorem own_d6_8 : decode prog_66_method_8_code 8 = .ok (.if_icmp .ge 19, 3) := by decide +kernel
theorem own_d6_11 : decode prog_66_method_8_code 11 = .ok (.bipush 31, 2) := by decide +kernel
theorem own_d6_13 : decode prog_66_method_8_code 13 = .ok (.iload_n 3, 1) := by decide +kernel
theorem own_d6_14 : decode prog_66_method_8_code 14 = .ok (.imul, 1) := by decide +kernel
theorem own_d6_15 : decode prog_66_method_8_code 15 = .ok (.aload_n 0, 1) := by decide +kernel
theorem own_d6_16 : decode prog_66_method_8_code 16 = .ok (.iload 4, 2) := by decide +kernel
theorem own_d6_18 : decode prog_66_method_8_code 18 = .ok (.caload, 1) := by decide +kernel
theorem own_d6_19 : decode prog_66_method_8_code 19 = .ok (.iadd, 1) := by decide +kernel
theorem own_d6_20 : decode prog_66_method_8_code 20 = .ok (.istore_n 3, 1) := by decide +kernel
theorem own_d6_21 : decode prog_66_method_8_code 21 = .ok (.iinc 4 1, 3) := by decide +kernel
theorem own_d6_24 : decode prog_66_method_8_code 24 = .ok (.goto (-19), 3) := by decide +kernel
theorem own_d6_27 : decode prog_66_method_8_code 27 = .ok (.iload_n 3, 1) := by decide +kernel
theorem own_d6_28 : decode prog_66_method_8_code 28 = .ok (.ldc 81, 2) := by decide +kernel
theorem own_d6_30 : decode prog_66_method_8_code 30 = .ok (.imul, 1) := by decide +kernel
theorem own_d6_31 : decode prog_66_method_8_code 31 = .ok (.istore_n 3, 1) := by decide +kernel
theorem own_d6_32 : decode prog_66_method_8_code 32 = .ok (.iload_n 3, 1) := by decide +kernel
theorem own_d6_33 : decode prog_66_method_8_code 33 = .ok (.iload_n 3, 1) := by decide +kernel
theorem own_d6_34 : decode prog_66_method_8_code 34 = .ok (.bipush 16, 2) := by decide +kernel
theorem own_d6_36 : decode prog_66_method_8_code 36 = .ok (.iushr, 1) := by decide +kernel
theorem own_d6_37 : decode prog_66_method_8_code 37 = .ok (.ixor, 1) := by decide +kernel
theorem own_d6_38 : decode prog_66_method_8_code 38 = .ok (.ireturn, 1) := by decide +kernel
def own_Q6 (Z : State) (a1 : Addr) (p2 : Int32) (p3 : Int32) (cs : List Int32) (k_a1 : ClassId) (h0 : Heap) (n0 : Nat) (v : Option Value) (h : Heap) (L : List Loc) : Prop := v = some (.int (own_hash (own_sl cs p2 p3))) ∧ Fr n0 L ∧ h = h0
theorem own_pn0 : plainName "com/example/archerfish/archerfish/index/TokenTable" = true := by first | (simp [plainName, overriddenIn]; done) | decide +kernel
theorem own_ef_own_rm6 (m : MethodId) (a1 : Addr) (p2 : Int32) (p3 : Int32) : entryFrame m #[(.ref a1), (.int p2), (.int p3)] 5 = mkF m 0 #[.val (.ref a1), .val (.int p2), .val (.int p3), .unset, .unset] [] := by first | (simp [entryFrame, mkF, argsToLocals, Value.category]; done) | rfl
set_option maxRecDepth 65536 in
set_option maxHeartbeats 40000000 in
theorem own_rm6 (l : Launch) (Z : State) (a0 : Array Value) (hw : ∀ d ∈ tables_1, d.before a0 Z = true) (ws : List Jvm.Cond) (a1 : Addr) (p2 : Int32) (p3 : Int32) (cs : List Int32) (k_a1 : ClassId) (h0 : Heap) (n0 : Nat) (Z0 : n0 ≤ h0.size) (V_a1 : Arv Z h0 a1 k_a1 .char (4 : Int32) (List.map Value.int cs) (.int (0 : Int32))) (hcl : cs.length = 4) (hrg : own_rg p2 p3) :
    MetFree l (⟨"com/example/archerfish/archerfish/index/TokenTable", "hash", "([CII)I"⟩ : MethodName) (head1 (Jvm.Cond.code (⟨"com/example/archerfish/archerfish/index/TokenTable", "hash", "([CII)I"⟩ : MethodName) prog_66_method_8_code 5 (some .int) :: ws) ({ frames := 0, cells := 0, slots := 0, locals := 0 } : Room)) (fun a U => a = #[(.ref a1), (.int p2), (.int p3)] ∧ Z.Warmed39 U.vm ∧ U.heap = h0) (fun _ _ _ _ _ => True) (fun _ U o U' => ∃ v L, o = .returned v ∧ own_Q6 Z a1 p2 p3 cs k_a1 h0 n0 v U'.heap L ∧ FrameEnd U o U' L ({ frames := 0, cells := 0, slots := 0, locals := 0 } : Room).cells ({ frames := 0, cells := 0, slots := 0, locals := 0 } : Room).slots) := by
  refine MetFree.of_bodySF (plainFor_of_name own_pn0) hisR ?_
  intro p e s m args below meth c s₁ Bd hml0 hP hK
  obtain ⟨rfl, hZ, hh⟩ := hP
  have hx := Bd.exec
  have hby := Bd.bytes
  have hml : c.maxLocals = 5 := hml0
  have hown : s.vm.findClass "com/example/archerfish/archerfish/index/TokenTable" = some m.cls := findClass_of_methodNamed Bd.named
  have hnm := (name_of_methodNamed Bd.named Bd.method).1
  have X0 : Stand p l e ({ frames := 0, cells := 0, slots := 0, locals := 0 } : Room) s m #[(.ref a1), (.int p2), (.int p3)] below meth c s₁ [] 0 0 := Stand.of_body Bd
  have e0 : s₁.heap = h0 := by rw [← hh, Bd.state]; rfl
  have N0 := Fr.nil n0
  show OE FrameEnd p e below s (own_Q6 Z a1 p2 p3 cs k_a1 h0 n0) ({ frames := 0, cells := 0, slots := 0, locals := 0 } : Room).cells ({ frames := 0, cells := 0, slots := 0, locals := 0 } : Room).slots s₁ (entryFrame m #[(.ref a1), (.int p2), (.int p3)] 5)
  rw [own_ef_own_rm6]
  obtain ⟨r1, r2, r3⟩ := hrg
  show OE _ p e below s _ _ _ s₁ (mkF m 0 #[.val (.ref a1), .val (.int p2), .val (.int p3), .unset, .unset] [])
  refine OE.iconst X0 hx hby own_d6_0 (0 : Int32) rfl ?_
  refine OE.istoreN X0 hx hby own_d6_1 (l' := #[.val (.ref a1), .val (.int p2), .val (.int p3), .val (.int (0 : Int32)), .unset]) rfl ?_
  refine OE.iloadN X0 hx hby own_d6_2 rfl ?_
  refine OE.istore X0 hx hby own_d6_3 (l' := #[.val (.ref a1), .val (.int p2), .val (.int p3), .val (.int (0 : Int32)), .val (.int p2)]) rfl ?_
  have lp : ∀ (k1 : Nat) (h : Int32) (i : Int32) (T1 : State) (locs1 : List Loc) (cells1 : Nat) (slots1 : Nat), (p3.toInt - i.toInt).toNat = k1 → Stand p l e ({ frames := 0, cells := 0, slots := 0, locals := 0 } : Room) s m #[(.ref a1), (.int p2), (.int p3)] below meth c T1 locs1 cells1 slots1 → T1.heap = h0 → Fr n0 locs1 → cells1 ≤ 0 → slots1 ≤ 0 → (p2.toInt ≤ i.toInt ∧ i.toInt ≤ p3.toInt) → (h = own_h (own_sl cs p2 i)) → OE FrameEnd p e below s (own_Q6 Z a1 p2 p3 cs k_a1 h0 n0) ({ frames := 0, cells := 0, slots := 0, locals := 0 } : Room).cells ({ frames := 0, cells := 0, slots := 0, locals := 0 } : Room).slots T1 (mkF m 5 #[.val (.ref a1), .val (.int p2), .val (.int p3), .val (.int h), .val (.int i)] []) := by
    intro k1
    induction k1 using Nat.strongRecOn with
    | _ k1 ih1 =>
    intro h i T1 locs1 cells1 slots1 hk1 X1 e1 N1 hcl1 hsl1 hi hh
    show OE _ p e below s _ _ _ T1 (mkF m 5 #[.val (.ref a1), .val (.int p2), .val (.int p3), .val (.int h), .val (.int i)] [])
    refine OE.iload X1 hx hby own_d6_5 rfl ?_
    refine OE.iloadN X1 hx hby own_d6_7 rfl ?_
    by_cases hc8 : i < p3
    · skip
      refine OE.icmpNo X1 hx hby own_d6_8 (tlt hc8).2.1 ?_
      obtain ⟨x, hx1⟩ := own_getc hcl (by omega) hc8 r3
      refine OE.bipush X1 hx hby own_d6_11 (31 : Int32) rfl ?_
      refine OE.iloadN X1 hx hby own_d6_13 rfl ?_
      refine OE.imul X1 hx hby own_d6_14 ?_
      refine OE.aloadN X1 hx hby own_d6_15 rfl rfl ?_
      refine OE.iload X1 hx hby own_d6_16 rfl ?_
      have Vo2 := V_a1
      obtain ⟨cl2, Ar2, -, Sz2, Nz2, Hz2, Gz2⟩ := Vo2
      have hin2 : ¬ (i < 0 ∨ cl2.slots.size ≤ (i).toNatClampNeg) := inb_of Sz2 (own_lt4 (by omega) hc8 r3)
      have hat2 : cl2.slots[(i).toNatClampNeg]? = some (.int x) := Has.at Hz2 hin2 (own_at hx1)
      refine OE.of (X1.caload hx (j := i) (v := (.int x)) (by rw [e1]; exact Ar2.1) (State.isArrayOf_alike hZ.alike Ar2.2.1) Ar2.2.2 hin2 hat2 (g := (mkF m 18 #[.val (.ref a1), .val (.int p2), .val (.int p3), .val (.int h), .val (.int i)] [(.int i), (.ref a1), (.int ((31 : Int32) * h))])) rfl rfl (hb hby own_d6_18)) ?_
      show OE _ p e below s _ _ _ T1 (mkF m 19 #[.val (.ref a1), .val (.int p2), .val (.int p3), .val (.int h), .val (.int i)] [(.int x), (.int ((31 : Int32) * h))])
      refine OE.iadd X1 hx hby own_d6_19 ?_
      refine OE.istoreN X1 hx hby own_d6_20 (l' := #[.val (.ref a1), .val (.int p2), .val (.int p3), .val (.int (((31 : Int32) * h) + x)), .val (.int i)]) rfl ?_
      refine OE.iinc X1 hx hby own_d6_21 rfl (l' := #[.val (.ref a1), .val (.int p2), .val (.int p3), .val (.int (((31 : Int32) * h) + x)), .val (.int (i + (1 : Int32)))]) rfl ?_
      refine OE.goto X1 hx hby (pc' := 5) own_d6_24 (h := ?_)
      have q := own_inc (by omega) hc8
      exact ih1 _ (by rw [Int32.lt_iff_toInt_lt] at hc8; omega) (((31 : Int32) * h) + x) (i + (1 : Int32)) _ _ _ _ rfl X1 e1 N1 (Nat.le_trans hcl1 (by decide)) (Nat.le_trans hsl1 (by decide)) ⟨by omega, by rw [Int32.lt_iff_toInt_lt] at hc8; omega⟩ (by rw [own_snoc r1 hi.1 hc8 hx1, own_hsnoc, ← hh])
    · skip
      refine OE.icmpYes X1 hx hby (pc' := 27) own_d6_8 (flt hc8).2.1 (h := ?_)
      refine OE.iloadN X1 hx hby own_d6_27 rfl ?_
      refine OE.of (X1.ldcInt hx hown (mvT hZ (hw _ (List.mem_of_getElem? (i := 41) rfl))) (g := (mkF m 28 #[.val (.ref a1), .val (.int p2), .val (.int p3), .val (.int h), .val (.int i)] [(.int h)])) rfl (hb hby own_d6_28)) ?_
      show OE _ p e below s _ _ _ T1 (mkF m 30 #[.val (.ref a1), .val (.int p2), .val (.int p3), .val (.int h), .val (.int i)] [(.int (-1640531527 : Int32)), (.int h)])
      refine OE.imul X1 hx hby own_d6_30 ?_
      refine OE.istoreN X1 hx hby own_d6_31 (l' := #[.val (.ref a1), .val (.int p2), .val (.int p3), .val (.int (h * (-1640531527 : Int32))), .val (.int i)]) rfl ?_
      refine OE.iloadN X1 hx hby own_d6_32 rfl ?_
      refine OE.iloadN X1 hx hby own_d6_33 rfl ?_
      refine OE.bipush X1 hx hby own_d6_34 (16 : Int32) rfl ?_
      refine OE.iushr X1 hx hby own_d6_36 ?_
      refine OE.ixor X1 hx hby own_d6_37 ?_
      refine OE.retI X1 hx Bd.returns Bd.notSynchronized (hb hby own_d6_38) (Nat.le_trans hcl1 (by decide)) (Nat.le_trans hsl1 (by decide)) ?_
      rw [e1]
      have hie : i = p3 := by
        rw [Int32.lt_iff_toInt_lt] at hc8
        exact Int32.toInt_inj.mp (by omega)
      subst hie
      exact ⟨by rw [hh]; rfl, N1, rfl⟩
  exact lp _ (0 : Int32) p2 _ _ _ _ rfl X0 e0 N0 (by decide) (by decide) ⟨Int.le_refl _, r2⟩ (by rw [own_nil]; rfl)
theorem own_d1_0 : decode method_3_code 0 = .ok (.iload_n 0, 1) := by decide +kernel
theorem own_d1_1 : decode method_3_code 1 = .ok (.bipush 7, 2) := by decide +kernel
theorem own_d1_3 : decode method_3_code 3 = .ok (.iand, 1) := by decide +kernel
theorem own_d1_4 : decode method_3_code 4 = .ok (.iconst 5, 1) := by decide +kernel
theorem own_d1_5 : decode method_3_code 5 = .ok (.irem, 1) := by decide +kernel
theorem own_d1_6 : decode method_3_code 6 = .ok (.ireturn, 1) := by decide +kernel
def own_Q1 (Z : State) (p1 : Int32) (h0 : Heap) (n0 : Nat) (v : Option Value) (h : Heap) (L : List Loc) : Prop := v = some (.int ((p1 &&& (7 : Int32)) % (5 : Int32))) ∧ Fr n0 L ∧ h = h0
theorem own_pn1 : plainName "com/example/archerfish/archerfish/index/TokenTableFindPinLaw" = true := by first | (simp [plainName, overriddenIn]; done) | decide +kernel
theorem own_ef_own_rm1 (m : MethodId) (p1 : Int32) : entryFrame m #[(.int p1)] 1 = mkF m 0 #[.val (.int p1)] [] := by first | (simp [entryFrame, mkF, argsToLocals, Value.category]; done) | rfl
set_option maxRecDepth 65536 in
set_option maxHeartbeats 40000000 in
theorem own_rm1 (l : Launch) (Z : State) (a0 : Array Value) (hw : ∀ d ∈ tables_1, d.before a0 Z = true) (ws : List Jvm.Cond) (p1 : Int32) (h0 : Heap) (n0 : Nat) (Z0 : n0 ≤ h0.size) :
    MetFree l (⟨"com/example/archerfish/archerfish/index/TokenTableFindPinLaw", "st", "(I)I"⟩ : MethodName) (head1 (Jvm.Cond.code (⟨"com/example/archerfish/archerfish/index/TokenTableFindPinLaw", "st", "(I)I"⟩ : MethodName) method_3_code 1 (some .int) :: ws) ({ frames := 0, cells := 0, slots := 0, locals := 0 } : Room)) (fun a U => a = #[(.int p1)] ∧ Z.Warmed39 U.vm ∧ U.heap = h0) (fun _ _ _ _ _ => True) (fun _ U o U' => ∃ v L, o = .returned v ∧ own_Q1 Z p1 h0 n0 v U'.heap L ∧ FrameEnd U o U' L ({ frames := 0, cells := 0, slots := 0, locals := 0 } : Room).cells ({ frames := 0, cells := 0, slots := 0, locals := 0 } : Room).slots) := by
  refine MetFree.of_bodySF (plainFor_of_name own_pn1) hisR ?_
  intro p e s m args below meth c s₁ Bd hml0 hP hK
  obtain ⟨rfl, hZ, hh⟩ := hP
  have hx := Bd.exec
  have hby := Bd.bytes
  have hml : c.maxLocals = 1 := hml0
  have hown : s.vm.findClass "com/example/archerfish/archerfish/index/TokenTableFindPinLaw" = some m.cls := findClass_of_methodNamed Bd.named
  have hnm := (name_of_methodNamed Bd.named Bd.method).1
  have X0 : Stand p l e ({ frames := 0, cells := 0, slots := 0, locals := 0 } : Room) s m #[(.int p1)] below meth c s₁ [] 0 0 := Stand.of_body Bd
  have e0 : s₁.heap = h0 := by rw [← hh, Bd.state]; rfl
  have N0 := Fr.nil n0
  show OE FrameEnd p e below s (own_Q1 Z p1 h0 n0) ({ frames := 0, cells := 0, slots := 0, locals := 0 } : Room).cells ({ frames := 0, cells := 0, slots := 0, locals := 0 } : Room).slots s₁ (entryFrame m #[(.int p1)] 1)
  rw [own_ef_own_rm1]
  show OE _ p e below s _ _ _ s₁ (mkF m 0 #[.val (.int p1)] [])
  refine OE.iloadN X0 hx hby own_d1_0 rfl ?_
  refine OE.bipush X0 hx hby own_d1_1 (7 : Int32) rfl ?_
  refine OE.iand X0 hx hby own_d1_3 ?_
  refine OE.iconst X0 hx hby own_d1_4 (5 : Int32) rfl ?_
  refine OE.irem X0 hx hby own_d1_5 (by decide) ?_
  refine OE.retI X0 hx Bd.returns Bd.notSynchronized (hb hby own_d1_6) (by decide) (by decide) ?_
  rw [e0]
  exact ⟨rfl, N0, rfl⟩
theorem own_st5 (x : Int32) : 0 ≤ ((x &&& (7 : Int32)) % (5 : Int32)).toInt ∧ ((x &&& (7 : Int32)) % (5 : Int32)).toInt ≤ 4 := by
  have hv := c_and x 7 (by decide)
  have h2 := (c_irem (x &&& 7) 5 5 (by decide)).1 hv.1
  rw [h2]; omega
theorem own_i5 : (5 : Int32).toInt = 5 := by decide
theorem own_5s (x : Int32) : ((5 : Int32) - ((x &&& (7 : Int32)) % (5 : Int32))).toInt = 5 - ((x &&& (7 : Int32)) % (5 : Int32)).toInt := by
  have h := own_st5 x
  have a := c_isub 5 ((x &&& (7 : Int32)) % (5 : Int32))
  have r := rng32 ((5 : Int32) - ((x &&& (7 : Int32)) % (5 : Int32)))
  rw [own_i5] at a; omega
theorem own_5n (x : Int32) : ((5 : Int32) - ((x &&& (7 : Int32)) % (5 : Int32))) ≠ 0 := fun q => by
  have a := own_5s x
  have h := own_st5 x
  rw [q, own_i0] at a; omega
theorem own_d2_0 : decode method_4_code 0 = .ok (.iload_n 0, 1) := by decide +kernel
theorem own_d2_1 : decode method_4_code 1 = .ok (.bipush 7, 2) := by decide +kernel
theorem own_d2_3 : decode method_4_code 3 = .ok (.iand, 1) := by decide +kernel
theorem own_d2_4 : decode method_4_code 4 = .ok (.iconst 5, 1) := by decide +kernel
theorem own_d2_5 : decode method_4_code 5 = .ok (.irem, 1) := by decide +kernel
theorem own_d2_6 : decode method_4_code 6 = .ok (.istore_n 1, 1) := by decide +kernel
theorem own_d2_7 : decode method_4_code 7 = .ok (.iload_n 1, 1) := by decide +kernel
theorem own_d2_8 : decode method_4_code 8 = .ok (.iload_n 0, 1) := by decide +kernel
theorem own_d2_9 : decode method_4_code 9 = .ok (.iconst 3, 1) := by decide +kernel
theorem own_d2_10 : decode method_4_code 10 = .ok (.iushr, 1) := by decide +kernel
theorem own_d2_11 : decode method_4_code 11 = .ok (.bipush 7, 2) := by decide +kernel
theorem own_d2_13 : decode method_4_code 13 = .ok (.iand, 1) := by decide +kernel
theorem own_d2_14 : decode method_4_code 14 = .ok (.iconst 5, 1) := by decide +kernel
theorem own_d2_15 : decode method_4_code 15 = .ok (.iload_n 1, 1) := by decide +kernel
theorem own_d2_16 : decode method_4_code 16 = .ok (.isub, 1) := by decide +kernel
theorem own_d2_17 : decode method_4_code 17 = .ok (.irem, 1) := by decide +kernel
theorem own_d2_18 : decode method_4_code 18 = .ok (.iadd, 1) := by decide +kernel
theorem own_d2_19 : decode method_4_code 19 = .ok (.ireturn, 1) := by decide +kernel
def own_Q2 (Z : State) (p1 : Int32) (h0 : Heap) (n0 : Nat) (v : Option Value) (h : Heap) (L : List Loc) : Prop := v = some (.int (((p1 &&& (7 : Int32)) % (5 : Int32)) + ((((p1.toUInt32 >>> ((3 : Int32) &&& 31).toUInt32).toInt32) &&& (7 : Int32)) % ((5 : Int32) - ((p1 &&& (7 : Int32)) % (5 : Int32)))))) ∧ Fr n0 L ∧ h = h0
theorem own_ef_own_rm2 (m : MethodId) (p1 : Int32) : entryFrame m #[(.int p1)] 2 = mkF m 0 #[.val (.int p1), .unset] [] := by first | (simp [entryFrame, mkF, argsToLocals, Value.category]; done) | rfl
set_option maxRecDepth 65536 in
set_option maxHeartbeats 40000000 in
theorem own_rm2 (l : Launch) (Z : State) (a0 : Array Value) (hw : ∀ d ∈ tables_1, d.before a0 Z = true) (ws : List Jvm.Cond) (p1 : Int32) (h0 : Heap) (n0 : Nat) (Z0 : n0 ≤ h0.size) :
    MetFree l (⟨"com/example/archerfish/archerfish/index/TokenTableFindPinLaw", "en", "(I)I"⟩ : MethodName) (head1 (Jvm.Cond.code (⟨"com/example/archerfish/archerfish/index/TokenTableFindPinLaw", "en", "(I)I"⟩ : MethodName) method_4_code 2 (some .int) :: ws) ({ frames := 0, cells := 0, slots := 0, locals := 0 } : Room)) (fun a U => a = #[(.int p1)] ∧ Z.Warmed39 U.vm ∧ U.heap = h0) (fun _ _ _ _ _ => True) (fun _ U o U' => ∃ v L, o = .returned v ∧ own_Q2 Z p1 h0 n0 v U'.heap L ∧ FrameEnd U o U' L ({ frames := 0, cells := 0, slots := 0, locals := 0 } : Room).cells ({ frames := 0, cells := 0, slots := 0, locals := 0 } : Room).slots) := by
  refine MetFree.of_bodySF (plainFor_of_name own_pn1) hisR ?_
  intro p e s m args below meth c s₁ Bd hml0 hP hK
  obtain ⟨rfl, hZ, hh⟩ := hP
  have hx := Bd.exec
  have hby := Bd.bytes
  have hml : c.maxLocals = 2 := hml0
  have hown : s.vm.findClass "com/example/archerfish/archerfish/index/TokenTableFindPinLaw" = some m.cls := findClass_of_methodNamed Bd.named
  have hnm := (name_of_methodNamed Bd.named Bd.method).1
  have X0 : Stand p l e ({ frames := 0, cells := 0, slots := 0, locals := 0 } : Room) s m #[(.int p1)] below meth c s₁ [] 0 0 := Stand.of_body Bd
  have e0 : s₁.heap = h0 := by rw [← hh, Bd.state]; rfl
  have N0 := Fr.nil n0
  show OE FrameEnd p e below s (own_Q2 Z p1 h0 n0) ({ frames := 0, cells := 0, slots := 0, locals := 0 } : Room).cells ({ frames := 0, cells := 0, slots := 0, locals := 0 } : Room).slots s₁ (entryFrame m #[(.int p1)] 2)
  rw [own_ef_own_rm2]
  show OE _ p e below s _ _ _ s₁ (mkF m 0 #[.val (.int p1), .unset] [])
  refine OE.iloadN X0 hx hby own_d2_0 rfl ?_
  refine OE.bipush X0 hx hby own_d2_1 (7 : Int32) rfl ?_
  refine OE.iand X0 hx hby own_d2_3 ?_
  refine OE.iconst X0 hx hby own_d2_4 (5 : Int32) rfl ?_
  refine OE.irem X0 hx hby own_d2_5 (by decide) ?_
  refine OE.istoreN X0 hx hby own_d2_6 (l' := #[.val (.int p1), .val (.int ((p1 &&& (7 : Int32)) % (5 : Int32)))]) rfl ?_
  refine OE.iloadN X0 hx hby own_d2_7 rfl ?_
  refine OE.iloadN X0 hx hby own_d2_8 rfl ?_
  refine OE.iconst X0 hx hby own_d2_9 (3 : Int32) rfl ?_
  refine OE.iushr X0 hx hby own_d2_10 ?_
  refine OE.bipush X0 hx hby own_d2_11 (7 : Int32) rfl ?_
  refine OE.iand X0 hx hby own_d2_13 ?_
  refine OE.iconst X0 hx hby own_d2_14 (5 : Int32) rfl ?_
  refine OE.iloadN X0 hx hby own_d2_15 rfl ?_
  refine OE.isub X0 hx hby own_d2_16 ?_
  refine OE.irem X0 hx hby own_d2_17 (own_5n p1) ?_
  refine OE.iadd X0 hx hby own_d2_18 ?_
  refine OE.retI X0 hx Bd.returns Bd.notSynchronized (hb hby own_d2_19) (by decide) (by decide) ?_
  rw [e0]
  exact ⟨rfl, N0, rfl⟩
theorem own_rge (x : Int32) : own_rg ((x &&& (7 : Int32)) % (5 : Int32)) (((x &&& (7 : Int32)) % (5 : Int32)) + ((((x.toUInt32 >>> ((3 : Int32) &&& 31).toUInt32).toInt32) &&& (7 : Int32)) % ((5 : Int32) - ((x &&& (7 : Int32)) % (5 : Int32))))) := by
  have h := own_st5 x
  have a := own_5s x
  have b := own_5n x
  generalize ((x &&& (7 : Int32)) % (5 : Int32)) = s at *
  generalize hy : ((((x.toUInt32 >>> ((3 : Int32) &&& 31).toUInt32).toInt32) &&& (7 : Int32))) = y at *
  have hv : 0 ≤ y.toInt := by rw [← hy]; exact (c_and _ 7 (by decide)).1
  have m := (c_iremV y ((5 : Int32) - s)).1 hv (by omega)
  have ad := c_iadd s (y % ((5 : Int32) - s))
  have r := rng32 (s + (y % ((5 : Int32) - s)))
  unfold own_rg
  omega
theorem own_slget {cs : List Int32} {s e : Int32} (j : Nat) : (own_sl cs s e)[j]? = if j < e.toNatClampNeg - s.toNatClampNeg then cs[s.toNatClampNeg + j]? else none := by
  unfold own_sl
  rw [List.getElem?_take]
  split
  · rw [List.getElem?_drop]
  · rfl
theorem own_sub4 {s e : Int32} (h : own_rg s e) : (e - s).toInt = e.toInt - s.toInt ∧ e.toNatClampNeg - s.toNatClampNeg = (e.toInt - s.toInt).toNat := by
  obtain ⟨h1, h2, h3⟩ := h
  have a := c_isub e s
  have r := rng32 (e - s)
  have n1 := own_nat h1
  have n2 := own_nat (i := e) (by omega)
  exact ⟨by omega, by omega⟩
theorem own_sllen {cs : List Int32} {s e : Int32} (hc : cs.length = 4) (h : own_rg s e) : (own_sl cs s e).length = (e.toInt - s.toInt).toNat := by
  have q := own_sub4 h
  obtain ⟨h1, h2, h3⟩ := h
  have n1 := own_nat h1
  unfold own_sl
  rw [List.length_take, List.length_drop, q.2]; omega
theorem own_ix {s e k : Int32} (h : own_rg s e) (hk : 0 ≤ k.toInt) (hl : k < (e - s)) : 0 ≤ (s + k).toInt ∧ (s + k) < e ∧ (s + k).toNatClampNeg = s.toNatClampNeg + k.toNatClampNeg ∧ k.toNatClampNeg < e.toNatClampNeg - s.toNatClampNeg := by
  have q := own_sub4 h
  rw [Int32.lt_iff_toInt_lt, q.1] at hl
  obtain ⟨h1, h2, h3⟩ := h
  have a := c_iadd s k
  have r := rng32 (s + k)
  have e1 : (s + k).toInt = s.toInt + k.toInt := by omega
  have n1 := own_nat h1
  have n2 := own_nat hk
  have n3 := own_nat (i := s + k) (by omega)
  refine ⟨by omega, by rw [Int32.lt_iff_toInt_lt]; omega, by omega, by rw [q.2]; omega⟩
theorem own_nee {cx cy : List Int32} {xs xe ys ye x y : Int32} (k : Nat) (h1 : k < xe.toNatClampNeg - xs.toNatClampNeg) (h2 : k < ye.toNatClampNeg - ys.toNatClampNeg) (hx : cx[xs.toNatClampNeg + k]? = some x) (hy : cy[ys.toNatClampNeg + k]? = some y) (hne : ¬ x = y) : own_sl cx xs xe ≠ own_sl cy ys ye := fun q => by
  have := congrArg (fun l => l[k]?) q
  simp only [own_slget, if_pos h1, if_pos h2, hx, hy] at this
  exact hne (Option.some.inj this)
theorem own_nel {cx cy : List Int32} {xs xe ys ye : Int32} (hcx : cx.length = 4) (hcy : cy.length = 4) (h1 : own_rg xs xe) (h2 : own_rg ys ye) (hne : ¬ (xe - xs) = (ye - ys)) : own_sl cx xs xe ≠ own_sl cy ys ye := fun q => by
  have := congrArg List.length q
  rw [own_sllen hcx h1, own_sllen hcy h2] at this
  have a := own_sub4 h1
  have b := own_sub4 h2
  have := h1.2.1
  have := h2.2.1
  exact hne (Int32.toInt_inj.mp (by omega))
theorem own_eqq {cx cy : List Int32} {xs xe ys ye : Int32} (h1 : own_rg xs xe) (h2 : own_rg ys ye) (he : (xe - xs) = (ye - ys)) (h : ∀ k, k < xe.toNatClampNeg - xs.toNatClampNeg → cx[xs.toNatClampNeg + k]? = cy[ys.toNatClampNeg + k]?) : own_sl cx xs xe = own_sl cy ys ye := by
  have a := own_sub4 h1
  have b := own_sub4 h2
  have e1 : xe.toNatClampNeg - xs.toNatClampNeg = ye.toNatClampNeg - ys.toNatClampNeg := by
    rw [a.2, b.2]
    have := congrArg Int32.toInt he
    omega
  apply List.ext_getElem?
  intro k
  rw [own_slget, own_slget, ← e1]
  by_cases q : k < xe.toNatClampNeg - xs.toNatClampNeg
  · rw [if_pos q, if_pos q]; exact h k q
  · rw [if_neg q, if_neg q]
theorem own_le {s e k : Int32} {n : Nat} (h : own_rg s e) (hk : k.toInt = n) (hl : ¬ k < (e - s)) : e.toNatClampNeg - s.toNatClampNeg ≤ n := by
  have q := own_sub4 h
  rw [Int32.lt_iff_toInt_lt, q.1] at hl
  rw [q.2]; omega
theorem own_le4 {s e : Int32} (h : own_rg s e) : e.toNatClampNeg - s.toNatClampNeg ≤ 4 := by
  have q := own_sub4 h
  obtain ⟨h1, h2, h3⟩ := h
  rw [q.2]; omega
theorem own_mo {k m x : Int32} (h : k.toInt ≤ m.toInt) (hl : ¬ k < x) : ¬ m < x := by
  rw [Int32.lt_iff_toInt_lt] at *; omega
theorem own_d8_0 : decode method_5_code 0 = .ok (.iload_n 2, 1) := by decide +kernel
theorem own_d8_1 : decode method_5_code 1 = .ok (.iload_n 1, 1) := by decide +kernel
theorem own_d8_2 : decode method_5_code 2 = .ok (.isub, 1) := by decide +kernel
theorem own_d8_3 : decode method_5_code 3 = .ok (.istore 6, 2) := by decide +kernel
theorem own_d8_5 : decode method_5_code 5 = .ok (.iload 6, 2) := by decide +kernel
theorem own_d8_7 : decode method_5_code 7 = .ok (.iload 5, 2) := by decide +kernel
theorem own_d8_9 : decode method_5_code 9 = .ok (.iload 4, 2) := by decide +kernel
theorem own_d8_11 : decode method_5_code 11 = .ok (.isub, 1) := by decide +kernel
theorem own_d8_12 : decode method_5_code 12 = .ok (.if_icmp .eq 5, 3) := by decide +kernel
theorem own_d8_17 : decode method_5_code 17 = .ok (.iload 6, 2) := by decide +kernel
theorem own_d8_19 : decode method_5_code 19 = .ok (.ifCond .le 15, 3) := by decide +kernel
theorem own_d8_22 : decode method_5_code 22 = .ok (.aload_n 0, 1) := by decide +kernel
theorem own_d8_23 : decode method_5_code 23 = .ok (.iload_n 1, 1) := by decide +kernel
theorem own_d8_24 : decode method_5_code 24 = .ok (.caload, 1) := by decide +kernel
theorem own_d8_25 : decode method_5_code 25 = .ok (.aload_n 3, 1) := by decide +kernel
theorem own_d8_26 : decode method_5_code 26 = .ok (.iload 4, 2) := by decide +kernel
theorem own_d8_28 : decode method_5_code 28 = .ok (.caload, 1) := by decide +kernel
theorem own_d8_29 : decode method_5_code 29 = .ok (.if_icmp .eq 5, 3) := by decide +kernel
theorem own_d8_34 : decode method_5_code 34 = .ok (.iload 6, 2) := by decide +kernel
theorem own_d8_36 : decode method_5_code 36 = .ok (.iconst 1, 1) := by decide +kernel
theorem own_d8_37 : decode method_5_code 37 = .ok (.if_icmp .le 19, 3) := by decide +kernel
theorem own_d8_40 : decode method_5_code 40 = .ok (.aload_n 0, 1) := by decide +kernel
theorem own_d8_41 : decode method_5_code 41 = .ok (.iload_n 1, 1) := by decide +kernel
theorem own_d8_42 : decode method_5_code 42 = .ok (.iconst 1, 1) := by decide +kernel
theorem own_d8_43 : decode method_5_code 43 = .ok (.iadd, 1) := by decide +kernel
theorem own_d8_44 : decode method_5_code 44 = .ok (.caload, 1) := by decide +kernel
theorem own_d8_45 : decode method_5_code 45 = .ok (.aload_n 3, 1) := by decide +kernel
theorem own_d8_46 : decode method_5_code 46 = .ok (.iload 4, 2) := by decide +kernel
theorem own_d8_48 : decode method_5_code 48 = .ok (.iconst 1, 1) := by decide +kernel
theorem own_d8_49 : decode method_5_code 49 = .ok (.iadd, 1) := by decide +kernel
theorem own_d8_50 : decode method_5_code 50 = .ok (.caload, 1) := by decide +kernel
theorem own_d8_51 : decode method_5_code 51 = .ok (.if_icmp .eq 5, 3) := by decide +kernel
theorem own_d8_56 : decode method_5_code 56 = .ok (.iload 6, 2) := by decide +kernel
theorem own_d8_58 : decode method_5_code 58 = .ok (.iconst 2, 1) := by decide +kernel
theorem own_d8_59 : decode method_5_code 59 = .ok (.if_icmp .le 19, 3) := by decide +kernel
theorem own_d8_62 : decode method_5_code 62 = .ok (.aload_n 0, 1) := by decide +kernel
theorem own_d8_63 : decode method_5_code 63 = .ok (.iload_n 1, 1) := by decide +kernel
theorem own_d8_64 : decode method_5_code 64 = .ok (.iconst 2, 1) := by decide +kernel
theorem own_d8_65 : decode method_5_code 65 = .ok (.iadd, 1) := by decide +kernel
theorem own_d8_66 : decode method_5_code 66 = .ok (.caload, 1) := by decide +kernel
theorem own_d8_67 : decode method_5_code 67 = .ok (.aload_n 3, 1) := by decide +kernel
theorem own_d8_68 : decode method_5_code 68 = .ok (.iload 4, 2) := by decide +kernel
theorem own_d8_70 : decode method_5_code 70 = .ok (.iconst 2, 1) := by decide +kernel
theorem own_d8_71 : decode method_5_code 71 = .ok (.iadd, 1) := by decide +kernel
theorem own_d8_72 : decode method_5_code 72 = .ok (.caload, 1) := by decide +kernel
theorem own_d8_73 : decode method_5_code 73 = .ok (.if_icmp .eq 5, 3) := by decide +kernel
theorem own_d8_78 : decode method_5_code 78 = .ok (.iload 6, 2) := by decide +kernel
theorem own_d8_80 : decode method_5_code 80 = .ok (.iconst 3, 1) := by decide +kernel
theorem own_d8_81 : decode method_5_code 81 = .ok (.if_icmp .le 19, 3) := by decide +kernel
theorem own_d8_84 : decode method_5_code 84 = .ok (.aload_n 0, 1) := by decide +kernel
theorem own_d8_85 : decode method_5_code 85 = .ok (.iload_n 1, 1) := by decide +kernel
theorem own_d8_86 : decode method_5_code 86 = .ok (.iconst 3, 1) := by decide +kernel
theorem own_d8_87 : decode method_5_code 87 = .ok (.iadd, 1) := by decide +kernel
theorem own_d8_88 : decode method_5_code 88 = .ok (.caload, 1) := by decide +kernel
theorem own_d8_89 : decode method_5_code 89 = .ok (.aload_n 3, 1) := by decide +kernel
theorem own_d8_90 : decode method_5_code 90 = .ok (.iload 4, 2) := by decide +kernel
theorem own_d8_92 : decode method_5_code 92 = .ok (.iconst 3, 1) := by decide +kernel
theorem own_d8_93 : decode method_5_code 93 = .ok (.iadd, 1) := by decide +kernel
theorem own_d8_94 : decode method_5_code 94 = .ok (.caload, 1) := by decide +kernel
theorem own_d8_95 : decode method_5_code 95 = .ok (.if_icmp .eq 5, 3) := by decide +kernel
theorem own_d8_100 : decode method_5_code 100 = .ok (.iconst 1, 1) := by decide +kernel
theorem own_d8_101 : decode method_5_code 101 = .ok (.ireturn, 1) := by decide +kernel
theorem own_d8_98 : decode method_5_code 98 = .ok (.iconst 0, 1) := by decide +kernel
theorem own_d8_99 : decode method_5_code 99 = .ok (.ireturn, 1) := by decide +kernel
theorem own_d8_76 : decode method_5_code 76 = .ok (.iconst 0, 1) := by decide +kernel
theorem own_d8_77 : decode method_5_code 77 = .ok (.ireturn, 1) := by decide +kernel
theorem own_d8_54 : decode method_5_code 54 = .ok (.iconst 0, 1) := by decide +kernel
theorem own_d8_55 : decode method_5_code 55 = .ok (.ireturn, 1) := by decide +kernel
theorem own_d8_32 : decode method_5_code 32 = .ok (.iconst 0, 1) := by decide +kernel
theorem own_d8_33 : decode method_5_code 33 = .ok (.ireturn, 1) := by decide +kernel
theorem own_d8_15 : decode method_5_code 15 = .ok (.iconst 0, 1) := by decide +kernel
theorem own_d8_16 : decode method_5_code 16 = .ok (.ireturn, 1) := by decide +kernel
def own_Q8 (Z : State) (a1 : Addr) (p2 : Int32) (p3 : Int32) (a4 : Addr) (p5 : Int32) (p6 : Int32) (cx : List Int32) (cy : List Int32) (kx : ClassId) (ky : ClassId) (h0 : Heap) (n0 : Nat) (v : Option Value) (h : Heap) (L : List Loc) : Prop := ∃ r : Int32, v = some (.int r) ∧ Fr n0 L ∧ h = h0 ∧ ((r = (1 : Int32) ∧ own_sl cx p2 p3 = own_sl cy p5 p6) ∨ (r = (0 : Int32) ∧ own_sl cx p2 p3 ≠ own_sl cy p5 p6))
theorem own_ef_own_rm8 (m : MethodId) (a1 : Addr) (p2 : Int32) (p3 : Int32) (a4 : Addr) (p5 : Int32) (p6 : Int32) : entryFrame m #[(.ref a1), (.int p2), (.int p3), (.ref a4), (.int p5), (.int p6)] 7 = mkF m 0 #[.val (.ref a1), .val (.int p2), .val (.int p3), .val (.ref a4), .val (.int p5), .val (.int p6), .unset] [] := by first | (simp [entryFrame, mkF, argsToLocals, Value.category]; done) | rfl
set_option maxRecDepth 65536 in
set_option maxHeartbeats 40000000 in
theorem own_rm8 (l : Launch) (Z : State) (a0 : Array Value) (hw : ∀ d ∈ tables_1, d.before a0 Z = true) (ws : List Jvm.Cond) (a1 : Addr) (p2 : Int32) (p3 : Int32) (a4 : Addr) (p5 : Int32) (p6 : Int32) (cx : List Int32) (cy : List Int32) (kx : ClassId) (ky : ClassId) (h0 : Heap) (n0 : Nat) (Z0 : n0 ≤ h0.size) (V_a1 : Arv Z h0 a1 kx .char (4 : Int32) (List.map Value.int cx) (.int (0 : Int32))) (V_a4 : Arv Z h0 a4 ky .char (4 : Int32) (List.map Value.int cy) (.int (0 : Int32))) (hcx : cx.length = 4) (hcy : cy.length = 4) (h1 : own_rg p2 p3) (h2 : own_rg p5 p6) :
    MetFree l (⟨"com/example/archerfish/archerfish/index/TokenTableFindPinLaw", "eq", "([CII[CII)Z"⟩ : MethodName) (head1 (Jvm.Cond.code (⟨"com/example/archerfish/archerfish/index/TokenTableFindPinLaw", "eq", "([CII[CII)Z"⟩ : MethodName) method_5_code 7 (some .boolean) :: ws) ({ frames := 0, cells := 0, slots := 0, locals := 0 } : Room)) (fun a U => a = #[(.ref a1), (.int p2), (.int p3), (.ref a4), (.int p5), (.int p6)] ∧ Z.Warmed39 U.vm ∧ U.heap = h0) (fun _ _ _ _ _ => True) (fun _ U o U' => ∃ v L, o = .returned v ∧ own_Q8 Z a1 p2 p3 a4 p5 p6 cx cy kx ky h0 n0 v U'.heap L ∧ FrameEnd U o U' L ({ frames := 0, cells := 0, slots := 0, locals := 0 } : Room).cells ({ frames := 0, cells := 0, slots := 0, locals := 0 } : Room).slots) := by
  refine MetFree.of_bodySF (plainFor_of_name own_pn1) hisR ?_
  intro p e s m args below meth c s₁ Bd hml0 hP hK
  obtain ⟨rfl, hZ, hh⟩ := hP
  have hx := Bd.exec
  have hby := Bd.bytes
  have hml : c.maxLocals = 7 := hml0
  have hown : s.vm.findClass "com/example/archerfish/archerfish/index/TokenTableFindPinLaw" = some m.cls := findClass_of_methodNamed Bd.named
  have hnm := (name_of_methodNamed Bd.named Bd.method).1
  have X0 : Stand p l e ({ frames := 0, cells := 0, slots := 0, locals := 0 } : Room) s m #[(.ref a1), (.int p2), (.int p3), (.ref a4), (.int p5), (.int p6)] below meth c s₁ [] 0 0 := Stand.of_body Bd
  have e0 : s₁.heap = h0 := by rw [← hh, Bd.state]; rfl
  have N0 := Fr.nil n0
  show OE FrameEnd p e below s (own_Q8 Z a1 p2 p3 a4 p5 p6 cx cy kx ky h0 n0) ({ frames := 0, cells := 0, slots := 0, locals := 0 } : Room).cells ({ frames := 0, cells := 0, slots := 0, locals := 0 } : Room).slots s₁ (entryFrame m #[(.ref a1), (.int p2), (.int p3), (.ref a4), (.int p5), (.int p6)] 7)
  rw [own_ef_own_rm8]
  show OE _ p e below s _ _ _ s₁ (mkF m 0 #[.val (.ref a1), .val (.int p2), .val (.int p3), .val (.ref a4), .val (.int p5), .val (.int p6), .unset] [])
  refine OE.iloadN X0 hx hby own_d8_0 rfl ?_
  refine OE.iloadN X0 hx hby own_d8_1 rfl ?_
  refine OE.isub X0 hx hby own_d8_2 ?_
  refine OE.istore X0 hx hby own_d8_3 (l' := #[.val (.ref a1), .val (.int p2), .val (.int p3), .val (.ref a4), .val (.int p5), .val (.int p6), .val (.int (p3 - p2))]) rfl ?_
  refine OE.iload X0 hx hby own_d8_5 rfl ?_
  refine OE.iload X0 hx hby own_d8_7 rfl ?_
  refine OE.iload X0 hx hby own_d8_9 rfl ?_
  refine OE.isub X0 hx hby own_d8_11 ?_
  by_cases hc12 : (p3 - p2) = (p6 - p5)
  · skip
    refine OE.icmpYes X0 hx hby (pc' := 17) own_d8_12 (teq hc12).1 (h := ?_)
    refine OE.iload X0 hx hby own_d8_17 rfl ?_
    by_cases hc19 : (0 : Int32) < (p3 - p2)
    · skip
      refine OE.ifNo X0 hx hby own_d8_19 (tlt hc19).2.2.2 ?_
      refine OE.aloadN X0 hx hby own_d8_22 rfl rfl ?_
      refine OE.iloadN X0 hx hby own_d8_23 rfl ?_
      have ix0 := own_ix (k := (0 : Int32)) h1 (by decide) hc19
      have zx0 : (p2 + (0 : Int32)) = p2 := by simp
      rw [zx0] at ix0
      obtain ⟨x0, ex0⟩ := own_getc hcx ix0.1 ix0.2.1 h1.2.2
      have Vo1 := V_a1
      obtain ⟨cl1, Ar1, -, Sz1, Nz1, Hz1, Gz1⟩ := Vo1
      have hin1 : ¬ (p2 < 0 ∨ cl1.slots.size ≤ (p2).toNatClampNeg) := inb_of Sz1 (own_lt4 ix0.1 ix0.2.1 h1.2.2)
      have hat1 : cl1.slots[(p2).toNatClampNeg]? = some (.int x0) := Has.at Hz1 hin1 (own_at ex0)
      refine OE.of (X0.caload hx (j := p2) (v := (.int x0)) (by rw [e0]; exact Ar1.1) (State.isArrayOf_alike hZ.alike Ar1.2.1) Ar1.2.2 hin1 hat1 (g := (mkF m 24 #[.val (.ref a1), .val (.int p2), .val (.int p3), .val (.ref a4), .val (.int p5), .val (.int p6), .val (.int (p3 - p2))] [(.int p2), (.ref a1)])) rfl rfl (hb hby own_d8_24)) ?_
      show OE _ p e below s _ _ _ s₁ (mkF m 25 #[.val (.ref a1), .val (.int p2), .val (.int p3), .val (.ref a4), .val (.int p5), .val (.int p6), .val (.int (p3 - p2))] [(.int x0)])
      refine OE.aloadN X0 hx hby own_d8_25 rfl rfl ?_
      refine OE.iload X0 hx hby own_d8_26 rfl ?_
      have iy0 := own_ix (k := (0 : Int32)) h2 (by decide) (hc12 ▸ hc19)
      have zy0 : (p5 + (0 : Int32)) = p5 := by simp
      rw [zy0] at iy0
      obtain ⟨y0, ey0⟩ := own_getc hcy iy0.1 iy0.2.1 h2.2.2
      have Vo2 := V_a4
      obtain ⟨cl2, Ar2, -, Sz2, Nz2, Hz2, Gz2⟩ := Vo2
      have hin2 : ¬ (p5 < 0 ∨ cl2.slots.size ≤ (p5).toNatClampNeg) := inb_of Sz2 (own_lt4 iy0.1 iy0.2.1 h2.2.2)
      have hat2 : cl2.slots[(p5).toNatClampNeg]? = some (.int y0) := Has.at Hz2 hin2 (own_at ey0)
      refine OE.of (X0.caload hx (j := p5) (v := (.int y0)) (by rw [e0]; exact Ar2.1) (State.isArrayOf_alike hZ.alike Ar2.2.1) Ar2.2.2 hin2 hat2 (g := (mkF m 28 #[.val (.ref a1), .val (.int p2), .val (.int p3), .val (.ref a4), .val (.int p5), .val (.int p6), .val (.int (p3 - p2))] [(.int p5), (.ref a4), (.int x0)])) rfl rfl (hb hby own_d8_28)) ?_
      show OE _ p e below s _ _ _ s₁ (mkF m 29 #[.val (.ref a1), .val (.int p2), .val (.int p3), .val (.ref a4), .val (.int p5), .val (.int p6), .val (.int (p3 - p2))] [(.int y0), (.int x0)])
      by_cases hc29 : x0 = y0
      · skip
        refine OE.icmpYes X0 hx hby (pc' := 34) own_d8_29 (teq hc29).1 (h := ?_)
        refine OE.iload X0 hx hby own_d8_34 rfl ?_
        refine OE.iconst X0 hx hby own_d8_36 (1 : Int32) rfl ?_
        by_cases hc37 : (1 : Int32) < (p3 - p2)
        · skip
          refine OE.icmpNo X0 hx hby own_d8_37 (tlt hc37).2.2.2 ?_
          refine OE.aloadN X0 hx hby own_d8_40 rfl rfl ?_
          refine OE.iloadN X0 hx hby own_d8_41 rfl ?_
          refine OE.iconst X0 hx hby own_d8_42 (1 : Int32) rfl ?_
          refine OE.iadd X0 hx hby own_d8_43 ?_
          have ix1 := own_ix (k := (1 : Int32)) h1 (by decide) hc37
          obtain ⟨x1, ex1⟩ := own_getc hcx ix1.1 ix1.2.1 h1.2.2
          have Vo3 := V_a1
          obtain ⟨cl3, Ar3, -, Sz3, Nz3, Hz3, Gz3⟩ := Vo3
          have hin3 : ¬ ((p2 + (1 : Int32)) < 0 ∨ cl3.slots.size ≤ ((p2 + (1 : Int32))).toNatClampNeg) := inb_of Sz3 (own_lt4 ix1.1 ix1.2.1 h1.2.2)
          have hat3 : cl3.slots[((p2 + (1 : Int32))).toNatClampNeg]? = some (.int x1) := Has.at Hz3 hin3 (own_at ex1)
          refine OE.of (X0.caload hx (j := (p2 + (1 : Int32))) (v := (.int x1)) (by rw [e0]; exact Ar3.1) (State.isArrayOf_alike hZ.alike Ar3.2.1) Ar3.2.2 hin3 hat3 (g := (mkF m 44 #[.val (.ref a1), .val (.int p2), .val (.int p3), .val (.ref a4), .val (.int p5), .val (.int p6), .val (.int (p3 - p2))] [(.int (p2 + (1 : Int32))), (.ref a1)])) rfl rfl (hb hby own_d8_44)) ?_
          show OE _ p e below s _ _ _ s₁ (mkF m 45 #[.val (.ref a1), .val (.int p2), .val (.int p3), .val (.ref a4), .val (.int p5), .val (.int p6), .val (.int (p3 - p2))] [(.int x1)])
          refine OE.aloadN X0 hx hby own_d8_45 rfl rfl ?_
          refine OE.iload X0 hx hby own_d8_46 rfl ?_
          refine OE.iconst X0 hx hby own_d8_48 (1 : Int32) rfl ?_
          refine OE.iadd X0 hx hby own_d8_49 ?_
          have iy1 := own_ix (k := (1 : Int32)) h2 (by decide) (hc12 ▸ hc37)
          obtain ⟨y1, ey1⟩ := own_getc hcy iy1.1 iy1.2.1 h2.2.2
          have Vo4 := V_a4
          obtain ⟨cl4, Ar4, -, Sz4, Nz4, Hz4, Gz4⟩ := Vo4
          have hin4 : ¬ ((p5 + (1 : Int32)) < 0 ∨ cl4.slots.size ≤ ((p5 + (1 : Int32))).toNatClampNeg) := inb_of Sz4 (own_lt4 iy1.1 iy1.2.1 h2.2.2)
          have hat4 : cl4.slots[((p5 + (1 : Int32))).toNatClampNeg]? = some (.int y1) := Has.at Hz4 hin4 (own_at ey1)
          refine OE.of (X0.caload hx (j := (p5 + (1 : Int32))) (v := (.int y1)) (by rw [e0]; exact Ar4.1) (State.isArrayOf_alike hZ.alike Ar4.2.1) Ar4.2.2 hin4 hat4 (g := (mkF m 50 #[.val (.ref a1), .val (.int p2), .val (.int p3), .val (.ref a4), .val (.int p5), .val (.int p6), .val (.int (p3 - p2))] [(.int (p5 + (1 : Int32))), (.ref a4), (.int x1)])) rfl rfl (hb hby own_d8_50)) ?_
          show OE _ p e below s _ _ _ s₁ (mkF m 51 #[.val (.ref a1), .val (.int p2), .val (.int p3), .val (.ref a4), .val (.int p5), .val (.int p6), .val (.int (p3 - p2))] [(.int y1), (.int x1)])
          by_cases hc51 : x1 = y1
          · skip
            refine OE.icmpYes X0 hx hby (pc' := 56) own_d8_51 (teq hc51).1 (h := ?_)
            refine OE.iload X0 hx hby own_d8_56 rfl ?_
            refine OE.iconst X0 hx hby own_d8_58 (2 : Int32) rfl ?_
            by_cases hc59 : (2 : Int32) < (p3 - p2)
            · skip
              refine OE.icmpNo X0 hx hby own_d8_59 (tlt hc59).2.2.2 ?_
              refine OE.aloadN X0 hx hby own_d8_62 rfl rfl ?_
              refine OE.iloadN X0 hx hby own_d8_63 rfl ?_
              refine OE.iconst X0 hx hby own_d8_64 (2 : Int32) rfl ?_
              refine OE.iadd X0 hx hby own_d8_65 ?_
              have ix2 := own_ix (k := (2 : Int32)) h1 (by decide) hc59
              obtain ⟨x2, ex2⟩ := own_getc hcx ix2.1 ix2.2.1 h1.2.2
              have Vo5 := V_a1
              obtain ⟨cl5, Ar5, -, Sz5, Nz5, Hz5, Gz5⟩ := Vo5
              have hin5 : ¬ ((p2 + (2 : Int32)) < 0 ∨ cl5.slots.size ≤ ((p2 + (2 : Int32))).toNatClampNeg) := inb_of Sz5 (own_lt4 ix2.1 ix2.2.1 h1.2.2)
              have hat5 : cl5.slots[((p2 + (2 : Int32))).toNatClampNeg]? = some (.int x2) := Has.at Hz5 hin5 (own_at ex2)
              refine OE.of (X0.caload hx (j := (p2 + (2 : Int32))) (v := (.int x2)) (by rw [e0]; exact Ar5.1) (State.isArrayOf_alike hZ.alike Ar5.2.1) Ar5.2.2 hin5 hat5 (g := (mkF m 66 #[.val (.ref a1), .val (.int p2), .val (.int p3), .val (.ref a4), .val (.int p5), .val (.int p6), .val (.int (p3 - p2))] [(.int (p2 + (2 : Int32))), (.ref a1)])) rfl rfl (hb hby own_d8_66)) ?_
              show OE _ p e below s _ _ _ s₁ (mkF m 67 #[.val (.ref a1), .val (.int p2), .val (.int p3), .val (.ref a4), .val (.int p5), .val (.int p6), .val (.int (p3 - p2))] [(.int x2)])
              refine OE.aloadN X0 hx hby own_d8_67 rfl rfl ?_
              refine OE.iload X0 hx hby own_d8_68 rfl ?_
              refine OE.iconst X0 hx hby own_d8_70 (2 : Int32) rfl ?_
              refine OE.iadd X0 hx hby own_d8_71 ?_
              have iy2 := own_ix (k := (2 : Int32)) h2 (by decide) (hc12 ▸ hc59)
              obtain ⟨y2, ey2⟩ := own_getc hcy iy2.1 iy2.2.1 h2.2.2
              have Vo6 := V_a4
              obtain ⟨cl6, Ar6, -, Sz6, Nz6, Hz6, Gz6⟩ := Vo6
              have hin6 : ¬ ((p5 + (2 : Int32)) < 0 ∨ cl6.slots.size ≤ ((p5 + (2 : Int32))).toNatClampNeg) := inb_of Sz6 (own_lt4 iy2.1 iy2.2.1 h2.2.2)
              have hat6 : cl6.slots[((p5 + (2 : Int32))).toNatClampNeg]? = some (.int y2) := Has.at Hz6 hin6 (own_at ey2)
              refine OE.of (X0.caload hx (j := (p5 + (2 : Int32))) (v := (.int y2)) (by rw [e0]; exact Ar6.1) (State.isArrayOf_alike hZ.alike Ar6.2.1) Ar6.2.2 hin6 hat6 (g := (mkF m 72 #[.val (.ref a1), .val (.int p2), .val (.int p3), .val (.ref a4), .val (.int p5), .val (.int p6), .val (.int (p3 - p2))] [(.int (p5 + (2 : Int32))), (.ref a4), (.int x2)])) rfl rfl (hb hby own_d8_72)) ?_
              show OE _ p e below s _ _ _ s₁ (mkF m 73 #[.val (.ref a1), .val (.int p2), .val (.int p3), .val (.ref a4), .val (.int p5), .val (.int p6), .val (.int (p3 - p2))] [(.int y2), (.int x2)])
              by_cases hc73 : x2 = y2
              · skip
                refine OE.icmpYes X0 hx hby (pc' := 78) own_d8_73 (teq hc73).1 (h := ?_)
                refine OE.iload X0 hx hby own_d8_78 rfl ?_
                refine OE.iconst X0 hx hby own_d8_80 (3 : Int32) rfl ?_
                by_cases hc81 : (3 : Int32) < (p3 - p2)
                · skip
                  refine OE.icmpNo X0 hx hby own_d8_81 (tlt hc81).2.2.2 ?_
                  refine OE.aloadN X0 hx hby own_d8_84 rfl rfl ?_
                  refine OE.iloadN X0 hx hby own_d8_85 rfl ?_
                  refine OE.iconst X0 hx hby own_d8_86 (3 : Int32) rfl ?_
                  refine OE.iadd X0 hx hby own_d8_87 ?_
                  have ix3 := own_ix (k := (3 : Int32)) h1 (by decide) hc81
                  obtain ⟨x3, ex3⟩ := own_getc hcx ix3.1 ix3.2.1 h1.2.2
                  have Vo7 := V_a1
                  obtain ⟨cl7, Ar7, -, Sz7, Nz7, Hz7, Gz7⟩ := Vo7
                  have hin7 : ¬ ((p2 + (3 : Int32)) < 0 ∨ cl7.slots.size ≤ ((p2 + (3 : Int32))).toNatClampNeg) := inb_of Sz7 (own_lt4 ix3.1 ix3.2.1 h1.2.2)
                  have hat7 : cl7.slots[((p2 + (3 : Int32))).toNatClampNeg]? = some (.int x3) := Has.at Hz7 hin7 (own_at ex3)
                  refine OE.of (X0.caload hx (j := (p2 + (3 : Int32))) (v := (.int x3)) (by rw [e0]; exact Ar7.1) (State.isArrayOf_alike hZ.alike Ar7.2.1) Ar7.2.2 hin7 hat7 (g := (mkF m 88 #[.val (.ref a1), .val (.int p2), .val (.int p3), .val (.ref a4), .val (.int p5), .val (.int p6), .val (.int (p3 - p2))] [(.int (p2 + (3 : Int32))), (.ref a1)])) rfl rfl (hb hby own_d8_88)) ?_
                  show OE _ p e below s _ _ _ s₁ (mkF m 89 #[.val (.ref a1), .val (.int p2), .val (.int p3), .val (.ref a4), .val (.int p5), .val (.int p6), .val (.int (p3 - p2))] [(.int x3)])
                  refine OE.aloadN X0 hx hby own_d8_89 rfl rfl ?_
                  refine OE.iload X0 hx hby own_d8_90 rfl ?_
                  refine OE.iconst X0 hx hby own_d8_92 (3 : Int32) rfl ?_
                  refine OE.iadd X0 hx hby own_d8_93 ?_
                  have iy3 := own_ix (k := (3 : Int32)) h2 (by decide) (hc12 ▸ hc81)
                  obtain ⟨y3, ey3⟩ := own_getc hcy iy3.1 iy3.2.1 h2.2.2
                  have Vo8 := V_a4
                  obtain ⟨cl8, Ar8, -, Sz8, Nz8, Hz8, Gz8⟩ := Vo8
                  have hin8 : ¬ ((p5 + (3 : Int32)) < 0 ∨ cl8.slots.size ≤ ((p5 + (3 : Int32))).toNatClampNeg) := inb_of Sz8 (own_lt4 iy3.1 iy3.2.1 h2.2.2)
                  have hat8 : cl8.slots[((p5 + (3 : Int32))).toNatClampNeg]? = some (.int y3) := Has.at Hz8 hin8 (own_at ey3)
                  refine OE.of (X0.caload hx (j := (p5 + (3 : Int32))) (v := (.int y3)) (by rw [e0]; exact Ar8.1) (State.isArrayOf_alike hZ.alike Ar8.2.1) Ar8.2.2 hin8 hat8 (g := (mkF m 94 #[.val (.ref a1), .val (.int p2), .val (.int p3), .val (.ref a4), .val (.int p5), .val (.int p6), .val (.int (p3 - p2))] [(.int (p5 + (3 : Int32))), (.ref a4), (.int x3)])) rfl rfl (hb hby own_d8_94)) ?_
                  show OE _ p e below s _ _ _ s₁ (mkF m 95 #[.val (.ref a1), .val (.int p2), .val (.int p3), .val (.ref a4), .val (.int p5), .val (.int p6), .val (.int (p3 - p2))] [(.int y3), (.int x3)])
                  by_cases hc95 : x3 = y3
                  · skip
                    refine OE.icmpYes X0 hx hby (pc' := 100) own_d8_95 (teq hc95).1 (h := ?_)
                    refine OE.iconst X0 hx hby own_d8_100 (1 : Int32) rfl ?_
                    refine OE.retN X0 hx (t := .boolean) Bd.returns (by simp) Bd.notSynchronized (hb hby own_d8_101) (by decide) (by decide) ?_
                    rw [e0]
                    refine ⟨_, rfl, N0, rfl, Or.inl ⟨rfl, own_eqq h1 h2 hc12 fun k hk => ?_⟩⟩
                    have hm : p3.toNatClampNeg - p2.toNatClampNeg ≤ 4 := own_le4 h1
                    have hk2 : k = 0 ∨ k = 1 ∨ k = 2 ∨ k = 3 := by omega
                    rcases hk2 with rfl | rfl | rfl | rfl
                    · exact (ex0.trans (congrArg some hc29)).trans ey0.symm
                    · rw [ix1.2.2.1] at ex1; rw [iy1.2.2.1] at ey1; exact (ex1.trans (congrArg some hc51)).trans ey1.symm
                    · rw [ix2.2.2.1] at ex2; rw [iy2.2.2.1] at ey2; exact (ex2.trans (congrArg some hc73)).trans ey2.symm
                    · rw [ix3.2.2.1] at ex3; rw [iy3.2.2.1] at ey3; exact (ex3.trans (congrArg some hc95)).trans ey3.symm
                  · skip
                    refine OE.icmpNo X0 hx hby own_d8_95 (feq hc95).1 ?_
                    refine OE.iconst X0 hx hby own_d8_98 (0 : Int32) rfl ?_
                    refine OE.retN X0 hx (t := .boolean) Bd.returns (by simp) Bd.notSynchronized (hb hby own_d8_99) (by decide) (by decide) ?_
                    rw [e0]
                    exact ⟨_, rfl, N0, rfl, Or.inr ⟨rfl, own_nee 3 ix3.2.2.2 iy3.2.2.2 (by rw [ix3.2.2.1] at ex3; exact ex3) (by rw [iy3.2.2.1] at ey3; exact ey3) hc95⟩⟩
                · skip
                  refine OE.icmpYes X0 hx hby (pc' := 100) own_d8_81 (flt hc81).2.2.2 (h := ?_)
                  refine OE.iconst X0 hx hby own_d8_100 (1 : Int32) rfl ?_
                  refine OE.retN X0 hx (t := .boolean) Bd.returns (by simp) Bd.notSynchronized (hb hby own_d8_101) (by decide) (by decide) ?_
                  rw [e0]
                  refine ⟨_, rfl, N0, rfl, Or.inl ⟨rfl, own_eqq h1 h2 hc12 fun k hk => ?_⟩⟩
                  have hm : p3.toNatClampNeg - p2.toNatClampNeg ≤ 3 := own_le (k := (3 : Int32)) h1 (by decide) hc81
                  have hk2 : k = 0 ∨ k = 1 ∨ k = 2 := by omega
                  rcases hk2 with rfl | rfl | rfl
                  · exact (ex0.trans (congrArg some hc29)).trans ey0.symm
                  · rw [ix1.2.2.1] at ex1; rw [iy1.2.2.1] at ey1; exact (ex1.trans (congrArg some hc51)).trans ey1.symm
                  · rw [ix2.2.2.1] at ex2; rw [iy2.2.2.1] at ey2; exact (ex2.trans (congrArg some hc73)).trans ey2.symm
              · skip
                refine OE.icmpNo X0 hx hby own_d8_73 (feq hc73).1 ?_
                refine OE.iconst X0 hx hby own_d8_76 (0 : Int32) rfl ?_
                refine OE.retN X0 hx (t := .boolean) Bd.returns (by simp) Bd.notSynchronized (hb hby own_d8_77) (by decide) (by decide) ?_
                rw [e0]
                exact ⟨_, rfl, N0, rfl, Or.inr ⟨rfl, own_nee 2 ix2.2.2.2 iy2.2.2.2 (by rw [ix2.2.2.1] at ex2; exact ex2) (by rw [iy2.2.2.1] at ey2; exact ey2) hc73⟩⟩
            · skip
              refine OE.icmpYes X0 hx hby (pc' := 78) own_d8_59 (flt hc59).2.2.2 (h := ?_)
              refine OE.iload X0 hx hby own_d8_78 rfl ?_
              refine OE.iconst X0 hx hby own_d8_80 (3 : Int32) rfl ?_
              refine OE.icmpYes X0 hx hby (pc' := 100) own_d8_81 (flt ((own_mo (k := (2 : Int32)) (m := (3 : Int32)) (by decide) hc59) : ¬ ((3 : Int32) < (p3 - p2)))).2.2.2 (h := ?_)
              refine OE.iconst X0 hx hby own_d8_100 (1 : Int32) rfl ?_
              refine OE.retN X0 hx (t := .boolean) Bd.returns (by simp) Bd.notSynchronized (hb hby own_d8_101) (by decide) (by decide) ?_
              rw [e0]
              refine ⟨_, rfl, N0, rfl, Or.inl ⟨rfl, own_eqq h1 h2 hc12 fun k hk => ?_⟩⟩
              have hm : p3.toNatClampNeg - p2.toNatClampNeg ≤ 2 := own_le (k := (2 : Int32)) h1 (by decide) hc59
              have hk2 : k = 0 ∨ k = 1 := by omega
              rcases hk2 with rfl | rfl
              · exact (ex0.trans (congrArg some hc29)).trans ey0.symm
              · rw [ix1.2.2.1] at ex1; rw [iy1.2.2.1] at ey1; exact (ex1.trans (congrArg some hc51)).trans ey1.symm
          · skip
            refine OE.icmpNo X0 hx hby own_d8_51 (feq hc51).1 ?_
            refine OE.iconst X0 hx hby own_d8_54 (0 : Int32) rfl ?_
            refine OE.retN X0 hx (t := .boolean) Bd.returns (by simp) Bd.notSynchronized (hb hby own_d8_55) (by decide) (by decide) ?_
            rw [e0]
            exact ⟨_, rfl, N0, rfl, Or.inr ⟨rfl, own_nee 1 ix1.2.2.2 iy1.2.2.2 (by rw [ix1.2.2.1] at ex1; exact ex1) (by rw [iy1.2.2.1] at ey1; exact ey1) hc51⟩⟩
        · skip
          refine OE.icmpYes X0 hx hby (pc' := 56) own_d8_37 (flt hc37).2.2.2 (h := ?_)
          refine OE.iload X0 hx hby own_d8_56 rfl ?_
          refine OE.iconst X0 hx hby own_d8_58 (2 : Int32) rfl ?_
          refine OE.icmpYes X0 hx hby (pc' := 78) own_d8_59 (flt ((own_mo (k := (1 : Int32)) (m := (2 : Int32)) (by decide) hc37) : ¬ ((2 : Int32) < (p3 - p2)))).2.2.2 (h := ?_)
          refine OE.iload X0 hx hby own_d8_78 rfl ?_
          refine OE.iconst X0 hx hby own_d8_80 (3 : Int32) rfl ?_
          refine OE.icmpYes X0 hx hby (pc' := 100) own_d8_81 (flt ((own_mo (k := (2 : Int32)) (m := (3 : Int32)) (by decide) (own_mo (k := (1 : Int32)) (m := (2 : Int32)) (by decide) hc37)) : ¬ ((3 : Int32) < (p3 - p2)))).2.2.2 (h := ?_)
          refine OE.iconst X0 hx hby own_d8_100 (1 : Int32) rfl ?_
          refine OE.retN X0 hx (t := .boolean) Bd.returns (by simp) Bd.notSynchronized (hb hby own_d8_101) (by decide) (by decide) ?_
          rw [e0]
          refine ⟨_, rfl, N0, rfl, Or.inl ⟨rfl, own_eqq h1 h2 hc12 fun k hk => ?_⟩⟩
          have hm : p3.toNatClampNeg - p2.toNatClampNeg ≤ 1 := own_le (k := (1 : Int32)) h1 (by decide) hc37
          have hk2 : k = 0 := by omega
          subst hk2
          exact (ex0.trans (congrArg some hc29)).trans ey0.symm
      · skip
        refine OE.icmpNo X0 hx hby own_d8_29 (feq hc29).1 ?_
        refine OE.iconst X0 hx hby own_d8_32 (0 : Int32) rfl ?_
        refine OE.retN X0 hx (t := .boolean) Bd.returns (by simp) Bd.notSynchronized (hb hby own_d8_33) (by decide) (by decide) ?_
        rw [e0]
        exact ⟨_, rfl, N0, rfl, Or.inr ⟨rfl, own_nee 0 ix0.2.2.2 iy0.2.2.2 ex0 ey0 hc29⟩⟩
    · skip
      refine OE.ifYes X0 hx hby (pc' := 34) own_d8_19 (flt hc19).2.2.2 (h := ?_)
      refine OE.iload X0 hx hby own_d8_34 rfl ?_
      refine OE.iconst X0 hx hby own_d8_36 (1 : Int32) rfl ?_
      refine OE.icmpYes X0 hx hby (pc' := 56) own_d8_37 (flt ((own_mo (k := (0 : Int32)) (m := (1 : Int32)) (by decide) hc19) : ¬ ((1 : Int32) < (p3 - p2)))).2.2.2 (h := ?_)
      refine OE.iload X0 hx hby own_d8_56 rfl ?_
      refine OE.iconst X0 hx hby own_d8_58 (2 : Int32) rfl ?_
      refine OE.icmpYes X0 hx hby (pc' := 78) own_d8_59 (flt ((own_mo (k := (1 : Int32)) (m := (2 : Int32)) (by decide) (own_mo (k := (0 : Int32)) (m := (1 : Int32)) (by decide) hc19)) : ¬ ((2 : Int32) < (p3 - p2)))).2.2.2 (h := ?_)
      refine OE.iload X0 hx hby own_d8_78 rfl ?_
      refine OE.iconst X0 hx hby own_d8_80 (3 : Int32) rfl ?_
      refine OE.icmpYes X0 hx hby (pc' := 100) own_d8_81 (flt ((own_mo (k := (2 : Int32)) (m := (3 : Int32)) (by decide) (own_mo (k := (1 : Int32)) (m := (2 : Int32)) (by decide) (own_mo (k := (0 : Int32)) (m := (1 : Int32)) (by decide) hc19))) : ¬ ((3 : Int32) < (p3 - p2)))).2.2.2 (h := ?_)
      refine OE.iconst X0 hx hby own_d8_100 (1 : Int32) rfl ?_
      refine OE.retN X0 hx (t := .boolean) Bd.returns (by simp) Bd.notSynchronized (hb hby own_d8_101) (by decide) (by decide) ?_
      rw [e0]
      refine ⟨_, rfl, N0, rfl, Or.inl ⟨rfl, own_eqq h1 h2 hc12 fun k hk => ?_⟩⟩
      have hm : p3.toNatClampNeg - p2.toNatClampNeg ≤ 0 := own_le (k := (0 : Int32)) h1 (by decide) hc19
      omega
  · skip
    refine OE.icmpNo X0 hx hby own_d8_12 (feq hc12).1 ?_
    refine OE.iconst X0 hx hby own_d8_15 (0 : Int32) rfl ?_
    refine OE.retN X0 hx (t := .boolean) Bd.returns (by simp) Bd.notSynchronized (hb hby own_d8_16) (by decide) (by decide) ?_
    rw [e0]
    exact ⟨_, rfl, N0, rfl, Or.inr ⟨rfl, own_nel hcx hcy h1 h2 hc12⟩⟩
theorem own_i512 : (512 : Int32).toInt = 512 := by decide
theorem own_i513 : (513 : Int32).toInt = 513 := by decide
theorem own_i4096 : (4096 : Int32).toInt = 4096 := by decide
theorem own_k513 {k : Int32} (h : ¬ k < 0 ∧ k < (512 : Int32)) : (¬ k < 0 ∧ k < (513 : Int32)) ∧ (¬ (k + 1) < 0 ∧ (k + 1) < (513 : Int32)) ∧ (k + 1).toNatClampNeg = k.toNatClampNeg + 1 := by
  obtain ⟨h1, h2⟩ := h
  rw [Int32.lt_iff_toInt_lt, own_i0] at h1
  rw [Int32.lt_iff_toInt_lt, own_i512] at h2
  have a := c_iadd k 1
  have r := rng32 (k + 1)
  rw [own_i1] at a
  have e : (k + 1).toInt = k.toInt + 1 := by omega
  refine ⟨⟨?_, ?_⟩, ⟨?_, ?_⟩, ?_⟩
  · rw [Int32.lt_iff_toInt_lt, own_i0]; omega
  · rw [Int32.lt_iff_toInt_lt, own_i513]; omega
  · rw [Int32.lt_iff_toInt_lt, own_i0]; omega
  · rw [Int32.lt_iff_toInt_lt, own_i513]; omega
  · simp only [Int32.toNatClampNeg]; omega
/-- what the store says of a token T that begins at f -/
def own_tk (f g : Int32) (T : List Int32) : Prop := 0 ≤ f.toInt ∧ g.toInt = f.toInt + T.length ∧ g.toInt ≤ 100
theorem own_gf {f g : Int32} {T : List Int32} (h : own_tk f g T) : (g - f).toInt = T.length := by
  obtain ⟨h1, h2, h3⟩ := h
  have a := c_isub g f
  have r := rng32 (g - f)
  omega
theorem own_tl {f g s e : Int32} {T : List Int32} (h : own_tk f g T) (hr : own_rg s e) (he : (g - f) = (e - s)) : T.length = e.toNatClampNeg - s.toNatClampNeg := by
  have a := own_gf h
  have b := own_sub4 hr
  have := hr.2.1
  rw [b.2]
  have := congrArg Int32.toInt he
  omega
theorem own_tne {f g s e : Int32} {T cs : List Int32} (hc : cs.length = 4) (h : own_tk f g T) (hr : own_rg s e) (he : ¬ (g - f) = (e - s)) : T ≠ own_sl cs s e := fun q => by
  have a := own_gf h
  have b := own_sub4 hr
  have l := congrArg List.length q
  rw [own_sllen hc hr] at l
  have := hr.2.1
  exact he (Int32.toInt_inj.mp (by omega))
theorem own_fi {f g s e i : Int32} {T : List Int32} (h : own_tk f g T) (hr : own_rg s e) (h1 : s.toInt ≤ i.toInt) (h2 : i < e) : (¬ ((f + i) - s) < 0 ∧ ((f + i) - s) < (4096 : Int32)) ∧ ((f + i) - s).toNatClampNeg = f.toNatClampNeg + (i.toNatClampNeg - s.toNatClampNeg) ∧ i.toNatClampNeg - s.toNatClampNeg < e.toNatClampNeg - s.toNatClampNeg := by
  obtain ⟨t1, t2, t3⟩ := h
  have b := own_sub4 hr
  obtain ⟨r1, r2, r3⟩ := hr
  rw [Int32.lt_iff_toInt_lt] at h2
  have a := c_iadd f i
  have ra := rng32 (f + i)
  have d := c_isub (f + i) s
  have rd := rng32 ((f + i) - s)
  have e1 : ((f + i) - s).toInt = f.toInt + i.toInt - s.toInt := by omega
  have n1 := own_nat t1
  have n2 := own_nat (i := i) (by omega)
  have n3 := own_nat r1
  have n4 := own_nat (i := (f + i) - s) (by omega)
  have n5 := own_nat (i := e) (by omega)
  refine ⟨⟨?_, ?_⟩, by omega, by omega⟩
  · rw [Int32.lt_iff_toInt_lt, own_i0]; omega
  · rw [Int32.lt_iff_toInt_lt, own_i4096]; omega
theorem own_tx {T : List Int32} {j n : Nat} (h : T.length = n) (hj : j < n) : ∃ x, T[j]? = some x := ⟨_, List.getElem?_eq_getElem (by omega)⟩
theorem own_qx {cs : List Int32} {s e i y : Int32} (hr : own_rg s e) (h1 : s.toInt ≤ i.toInt) (h2 : i < e) (hy : cs[i.toNatClampNeg]? = some y) : (own_sl cs s e)[i.toNatClampNeg - s.toNatClampNeg]? = some y := by
  obtain ⟨r1, r2, r3⟩ := hr
  rw [Int32.lt_iff_toInt_lt] at h2
  have n2 := own_nat (i := i) (by omega)
  have n3 := own_nat r1
  have n5 := own_nat (i := e) (by omega)
  rw [own_slget, if_pos (by omega)]
  have : s.toNatClampNeg + (i.toNatClampNeg - s.toNatClampNeg) = i.toNatClampNeg := by omega
  rw [this]; exact hy
theorem own_tnx {T Q : List Int32} {j : Nat} {x y : Int32} (h1 : T[j]? = some x) (h2 : Q[j]? = some y) (h : ¬ x = y) : T ≠ Q := fun q => by
  subst q; exact h (Option.some.inj (h1.symm.trans h2))
theorem own_teq {T Q : List Int32} {n : Nat} (h1 : T.length = n) (h2 : Q.length = n) (h : ∀ j, j < n → T[j]? = Q[j]?) : T = Q := by
  apply List.ext_getElem?
  intro j
  by_cases q : j < n
  · exact h j q
  · rw [List.getElem?_eq_none (by omega), List.getElem?_eq_none (by omega)]
theorem own_d10_0 : decode prog_66_method_7_code 0 = .ok (.aload_n 0, 1) := by decide +kernel
theorem own_d10_1 : decode prog_66_method_7_code 1 = .ok (.getfield 18, 3) := by decide +kernel
theorem own_d10_4 : decode prog_66_method_7_code 4 = .ok (.iload_n 1, 1) := by decide +kernel
theorem own_d10_5 : decode prog_66_method_7_code 5 = .ok (.iaload, 1) := by decide +kernel
theorem own_d10_6 : decode prog_66_method_7_code 6 = .ok (.istore 5, 2) := by decide +kernel
theorem own_d10_8 : decode prog_66_method_7_code 8 = .ok (.aload_n 0, 1) := by decide +kernel
theorem own_d10_9 : decode prog_66_method_7_code 9 = .ok (.getfield 18, 3) := by decide +kernel
theorem own_d10_12 : decode prog_66_method_7_code 12 = .ok (.iload_n 1, 1) := by decide +kernel
theorem own_d10_13 : decode prog_66_method_7_code 13 = .ok (.iconst 1, 1) := by decide +kernel
theorem own_d10_14 : decode prog_66_method_7_code 14 = .ok (.iadd, 1) := by decide +kernel
theorem own_d10_15 : decode prog_66_method_7_code 15 = .ok (.iaload, 1) := by decide +kernel
theorem own_d10_16 : decode prog_66_method_7_code 16 = .ok (.iload 5, 2) := by decide +kernel
theorem own_d10_18 : decode prog_66_method_7_code 18 = .ok (.isub, 1) := by decide +kernel
theorem own_d10_19 : decode prog_66_method_7_code 19 = .ok (.iload 4, 2) := by decide +kernel
theorem own_d10_21 : decode prog_66_method_7_code 21 = .ok (.iload_n 3, 1) := by decide +kernel
theorem own_d10_22 : decode prog_66_method_7_code 22 = .ok (.isub, 1) := by decide +kernel
theorem own_d10_23 : decode prog_66_method_7_code 23 = .ok (.if_icmp .eq 5, 3) := by decide +kernel
theorem own_d10_28 : decode prog_66_method_7_code 28 = .ok (.iload_n 3, 1) := by decide +kernel
theorem own_d10_29 : decode prog_66_method_7_code 29 = .ok (.istore 6, 2) := by decide +kernel
theorem own_d10_31 : decode prog_66_method_7_code 31 = .ok (.iload 6, 2) := by decide +kernel
theorem own_d10_33 : decode prog_66_method_7_code 33 = .ok (.iload 4, 2) := by decide +kernel
theorem own_d10_35 : decode prog_66_method_7_code 35 = .ok (.if_icmp .ge 30, 3) := by decide +kernel
theorem own_d10_38 : decode prog_66_method_7_code 38 = .ok (.aload_n 0, 1) := by decide +kernel
theorem own_d10_39 : decode prog_66_method_7_code 39 = .ok (.getfield 21, 3) := by decide +kernel
theorem own_d10_42 : decode prog_66_method_7_code 42 = .ok (.iload 5, 2) := by decide +kernel
theorem own_d10_44 : decode prog_66_method_7_code 44 = .ok (.iload 6, 2) := by decide +kernel
theorem own_d10_46 : decode prog_66_method_7_code 46 = .ok (.iadd, 1) := by decide +kernel
theorem own_d10_47 : decode prog_66_method_7_code 47 = .ok (.iload_n 3, 1) := by decide +kernel
theorem own_d10_48 : decode prog_66_method_7_code 48 = .ok (.isub, 1) := by decide +kernel
theorem own_d10_49 : decode prog_66_method_7_code 49 = .ok (.caload, 1) := by decide +kernel
theorem own_d10_50 : decode prog_66_method_7_code 50 = .ok (.aload_n 2, 1) := by decide +kernel
theorem own_d10_51 : decode prog_66_method_7_code 51 = .ok (.iload 6, 2) := by decide +kernel
theorem own_d10_53 : decode prog_66_method_7_code 53 = .ok (.caload, 1) := by decide +kernel
theorem own_d10_54 : decode prog_66_method_7_code 54 = .ok (.if_icmp .eq 5, 3) := by decide +kernel
theorem own_d10_59 : decode prog_66_method_7_code 59 = .ok (.iinc 6 1, 3) := by decide +kernel
theorem own_d10_62 : decode prog_66_method_7_code 62 = .ok (.goto (-31), 3) := by decide +kernel
theorem own_d10_57 : decode prog_66_method_7_code 57 = .ok (.iconst 0, 1) := by decide +kernel
theorem own_d10_58 : decode prog_66_method_7_code 58 = .ok (.ireturn, 1) := by decide +kernel
theorem own_d10_65 : decode prog_66_method_7_code 65 = .ok (.iconst 1, 1) := by decide +kernel
theorem own_d10_66 : decode prog_66_method_7_code 66 = .ok (.ireturn, 1) := by decide +kernel
theorem own_d10_26 : decode prog_66_method_7_code 26 = .ok (.iconst 0, 1) := by decide +kernel
theorem own_d10_27 : decode prog_66_method_7_code 27 = .ok (.ireturn, 1) := by decide +kernel
def own_Q10 (Z : State) (a1 : Addr) (p2 : Int32) (a3 : Addr) (p4 : Int32) (p5 : Int32) (st : Addr) (ch : Addr) (kst : ClassId) (kch : ClassId) (vsS : List Value) (vsC : List Value) (cs : List Int32) (kt : ClassId) (f : Int32) (g : Int32) (T : List Int32) (h0 : Heap) (n0 : Nat) (v : Option Value) (h : Heap) (L : List Loc) : Prop := ∃ r : Int32, v = some (.int r) ∧ Fr n0 L ∧ h = h0 ∧ ((r = (1 : Int32) ∧ T = own_sl cs p4 p5) ∨ (r = (0 : Int32) ∧ T ≠ own_sl cs p4 p5))
theorem own_ef_own_rm10 (m : MethodId) (a1 : Addr) (p2 : Int32) (a3 : Addr) (p4 : Int32) (p5 : Int32) : entryFrame m #[(.ref a1), (.int p2), (.ref a3), (.int p4), (.int p5)] 7 = mkF m 0 #[.val (.ref a1), .val (.int p2), .val (.ref a3), .val (.int p4), .val (.int p5), .unset, .unset] [] := by first | (simp [entryFrame, mkF, argsToLocals, Value.category]; done) | rfl
set_option maxRecDepth 65536 in
set_option maxHeartbeats 40000000 in
theorem own_rm10 (l : Launch) (Z : State) (a0 : Array Value) (hw : ∀ d ∈ tables_1, d.before a0 Z = true) (ws : List Jvm.Cond) (a1 : Addr) (p2 : Int32) (a3 : Addr) (p4 : Int32) (p5 : Int32) (st : Addr) (ch : Addr) (kst : ClassId) (kch : ClassId) (vsS : List Value) (vsC : List Value) (cs : List Int32) (kt : ClassId) (f : Int32) (g : Int32) (T : List Int32) (h0 : Heap) (n0 : Nat) (Z0 : n0 ≤ h0.size) (F_starts_a1 : Fld Z h0 a1 "com/example/archerfish/archerfish/index/TokenTable" "starts" "[I" (.ref st)) (F_chars_a1 : Fld Z h0 a1 "com/example/archerfish/archerfish/index/TokenTable" "chars" "[C" (.ref ch)) (V_st : Arv Z h0 st kst .int (513 : Int32) vsS (.int (0 : Int32))) (V_ch : Arv Z h0 ch kch .char (4096 : Int32) vsC (.int (0 : Int32))) (V_a3 : Arv Z h0 a3 kt .char (4 : Int32) (List.map Value.int cs) (.int (0 : Int32))) (hcl : cs.length = 4) (hrg : own_rg p4 p5) (hk : ¬ p2 < 0 ∧ p2 < (512 : Int32)) (hs1 : vsS.getD p2.toNatClampNeg (.int (0 : Int32)) = .int f) (hs2 : vsS.getD (p2 + 1).toNatClampNeg (.int (0 : Int32)) = .int g) (htk : own_tk f g T) (hT : ∀ j x, T[j]? = some x → vsC.getD (f.toNatClampNeg + j) (.int (0 : Int32)) = .int x) :
    MetFree l (⟨"com/example/archerfish/archerfish/index/TokenTable", "holds", "(I[CII)Z"⟩ : MethodName) (head1 (Jvm.Cond.code (⟨"com/example/archerfish/archerfish/index/TokenTable", "holds", "(I[CII)Z"⟩ : MethodName) prog_66_method_7_code 7 (some .boolean) :: ws) ({ frames := 0, cells := 0, slots := 0, locals := 0 } : Room)) (fun a U => a = #[(.ref a1), (.int p2), (.ref a3), (.int p4), (.int p5)] ∧ Z.Warmed39 U.vm ∧ U.heap = h0) (fun _ _ _ _ _ => True) (fun _ U o U' => ∃ v L, o = .returned v ∧ own_Q10 Z a1 p2 a3 p4 p5 st ch kst kch vsS vsC cs kt f g T h0 n0 v U'.heap L ∧ FrameEnd U o U' L ({ frames := 0, cells := 0, slots := 0, locals := 0 } : Room).cells ({ frames := 0, cells := 0, slots := 0, locals := 0 } : Room).slots) := by
  refine MetFree.of_bodySF (plainFor_of_name own_pn0) hisR ?_
  intro p e s m args below meth c s₁ Bd hml0 hP hK
  obtain ⟨rfl, hZ, hh⟩ := hP
  have hx := Bd.exec
  have hby := Bd.bytes
  have hml : c.maxLocals = 7 := hml0
  have hown : s.vm.findClass "com/example/archerfish/archerfish/index/TokenTable" = some m.cls := findClass_of_methodNamed Bd.named
  have hnm := (name_of_methodNamed Bd.named Bd.method).1
  have X0 : Stand p l e ({ frames := 0, cells := 0, slots := 0, locals := 0 } : Room) s m #[(.ref a1), (.int p2), (.ref a3), (.int p4), (.int p5)] below meth c s₁ [] 0 0 := Stand.of_body Bd
  have e0 : s₁.heap = h0 := by rw [← hh, Bd.state]; rfl
  have N0 := Fr.nil n0
  show OE FrameEnd p e below s (own_Q10 Z a1 p2 a3 p4 p5 st ch kst kch vsS vsC cs kt f g T h0 n0) ({ frames := 0, cells := 0, slots := 0, locals := 0 } : Room).cells ({ frames := 0, cells := 0, slots := 0, locals := 0 } : Room).slots s₁ (entryFrame m #[(.ref a1), (.int p2), (.ref a3), (.int p4), (.int p5)] 7)
  rw [own_ef_own_rm10]
  show OE _ p e below s _ _ _ s₁ (mkF m 0 #[.val (.ref a1), .val (.int p2), .val (.ref a3), .val (.int p4), .val (.int p5), .unset, .unset] [])
  refine OE.aloadN X0 hx hby own_d10_0 rfl rfl ?_
  obtain ⟨T1, X1, e1, st1⟩ := getF X0 hx hZ hown (host := "") (Or.inl (hw _ (List.mem_of_getElem? (i := 22) rfl))) Via.refl e0 F_starts_a1 (g := (mkF m 1 #[.val (.ref a1), .val (.int p2), .val (.ref a3), .val (.int p4), .val (.int p5), .unset, .unset] [(.ref a1)])) rfl rfl (hb hby own_d10_1)
  refine OE.of st1 ?_
  show OE _ p e below s _ _ _ T1 (mkF m 4 #[.val (.ref a1), .val (.int p2), .val (.ref a3), .val (.int p4), .val (.int p5), .unset, .unset] [(.ref st)])
  refine OE.iloadN X1 hx hby own_d10_4 rfl ?_
  have Vo2 := V_st
  obtain ⟨cl2, Ar2, -, Sz2, Nz2, Hz2, Gz2⟩ := Vo2
  have hin2 : ¬ (p2 < 0 ∨ cl2.slots.size ≤ (p2).toNatClampNeg) := inb_of Sz2 (own_k513 hk).1
  have hat2 : cl2.slots[(p2).toNatClampNeg]? = some (.int f) := Has.at Hz2 hin2 hs1
  refine OE.of (X1.iaload hx (j := p2) (v := (.int f)) (by rw [e1]; exact Ar2.1) (State.isArrayOf_alike hZ.alike Ar2.2.1) Ar2.2.2 hin2 hat2 (g := (mkF m 5 #[.val (.ref a1), .val (.int p2), .val (.ref a3), .val (.int p4), .val (.int p5), .unset, .unset] [(.int p2), (.ref st)])) rfl rfl (hb hby own_d10_5)) ?_
  show OE _ p e below s _ _ _ T1 (mkF m 6 #[.val (.ref a1), .val (.int p2), .val (.ref a3), .val (.int p4), .val (.int p5), .unset, .unset] [(.int f)])
  refine OE.istore X1 hx hby own_d10_6 (l' := #[.val (.ref a1), .val (.int p2), .val (.ref a3), .val (.int p4), .val (.int p5), .val (.int f), .unset]) rfl ?_
  refine OE.aloadN X1 hx hby own_d10_8 rfl rfl ?_
  obtain ⟨T3, X3, e3, st3⟩ := getF X1 hx hZ hown (host := "") (Or.inl (hw _ (List.mem_of_getElem? (i := 22) rfl))) Via.refl e1 F_starts_a1 (g := (mkF m 9 #[.val (.ref a1), .val (.int p2), .val (.ref a3), .val (.int p4), .val (.int p5), .val (.int f), .unset] [(.ref a1)])) rfl rfl (hb hby own_d10_9)
  refine OE.of st3 ?_
  show OE _ p e below s _ _ _ T3 (mkF m 12 #[.val (.ref a1), .val (.int p2), .val (.ref a3), .val (.int p4), .val (.int p5), .val (.int f), .unset] [(.ref st)])
  refine OE.iloadN X3 hx hby own_d10_12 rfl ?_
  refine OE.iconst X3 hx hby own_d10_13 (1 : Int32) rfl ?_
  refine OE.iadd X3 hx hby own_d10_14 ?_
  have Vo4 := V_st
  obtain ⟨cl4, Ar4, -, Sz4, Nz4, Hz4, Gz4⟩ := Vo4
  have hin4 : ¬ ((p2 + (1 : Int32)) < 0 ∨ cl4.slots.size ≤ ((p2 + (1 : Int32))).toNatClampNeg) := inb_of Sz4 (own_k513 hk).2.1
  have hat4 : cl4.slots[((p2 + (1 : Int32))).toNatClampNeg]? = some (.int g) := Has.at Hz4 hin4 hs2
  refine OE.of (X3.iaload hx (j := (p2 + (1 : Int32))) (v := (.int g)) (by rw [e3]; exact Ar4.1) (State.isArrayOf_alike hZ.alike Ar4.2.1) Ar4.2.2 hin4 hat4 (g := (mkF m 15 #[.val (.ref a1), .val (.int p2), .val (.ref a3), .val (.int p4), .val (.int p5), .val (.int f), .unset] [(.int (p2 + (1 : Int32))), (.ref st)])) rfl rfl (hb hby own_d10_15)) ?_
  show OE _ p e below s _ _ _ T3 (mkF m 16 #[.val (.ref a1), .val (.int p2), .val (.ref a3), .val (.int p4), .val (.int p5), .val (.int f), .unset] [(.int g)])
  refine OE.iload X3 hx hby own_d10_16 rfl ?_
  refine OE.isub X3 hx hby own_d10_18 ?_
  refine OE.iload X3 hx hby own_d10_19 rfl ?_
  refine OE.iloadN X3 hx hby own_d10_21 rfl ?_
  refine OE.isub X3 hx hby own_d10_22 ?_
  by_cases hc23 : (g - f) = (p5 - p4)
  · skip
    refine OE.icmpYes X3 hx hby (pc' := 28) own_d10_23 (teq hc23).1 (h := ?_)
    refine OE.iloadN X3 hx hby own_d10_28 rfl ?_
    refine OE.istore X3 hx hby own_d10_29 (l' := #[.val (.ref a1), .val (.int p2), .val (.ref a3), .val (.int p4), .val (.int p5), .val (.int f), .val (.int p4)]) rfl ?_
    have lp : ∀ (k5 : Nat) (i : Int32) (T5 : State) (locs5 : List Loc) (cells5 : Nat) (slots5 : Nat), (p5.toInt - i.toInt).toNat = k5 → Stand p l e ({ frames := 0, cells := 0, slots := 0, locals := 0 } : Room) s m #[(.ref a1), (.int p2), (.ref a3), (.int p4), (.int p5)] below meth c T5 locs5 cells5 slots5 → T5.heap = h0 → Fr n0 locs5 → cells5 ≤ 0 → slots5 ≤ 0 → (p4.toInt ≤ i.toInt ∧ i.toInt ≤ p5.toInt) → (∀ j, j < (i.toNatClampNeg - p4.toNatClampNeg) → T[j]? = (own_sl cs p4 p5)[j]?) → OE FrameEnd p e below s (own_Q10 Z a1 p2 a3 p4 p5 st ch kst kch vsS vsC cs kt f g T h0 n0) ({ frames := 0, cells := 0, slots := 0, locals := 0 } : Room).cells ({ frames := 0, cells := 0, slots := 0, locals := 0 } : Room).slots T5 (mkF m 31 #[.val (.ref a1), .val (.int p2), .val (.ref a3), .val (.int p4), .val (.int p5), .val (.int f), .val (.int i)] []) := by
      intro k5
      induction k5 using Nat.strongRecOn with
      | _ k5 ih5 =>
      intro i T5 locs5 cells5 slots5 hk5 X5 e5 N5 hcl5 hsl5 hi hm
      show OE _ p e below s _ _ _ T5 (mkF m 31 #[.val (.ref a1), .val (.int p2), .val (.ref a3), .val (.int p4), .val (.int p5), .val (.int f), .val (.int i)] [])
      refine OE.iload X5 hx hby own_d10_31 rfl ?_
      refine OE.iload X5 hx hby own_d10_33 rfl ?_
      by_cases hc35 : i < p5
      · skip
        refine OE.icmpNo X5 hx hby own_d10_35 (tlt hc35).2.1 ?_
        have tl := own_tl htk hrg hc23
        have fi := own_fi htk hrg hi.1 hc35
        obtain ⟨x, ex⟩ := own_tx tl fi.2.2
        obtain ⟨y, ey⟩ := own_getc hcl (by have := hrg.1; omega) hc35 hrg.2.2
        refine OE.aloadN X5 hx hby own_d10_38 rfl rfl ?_
        obtain ⟨T6, X6, e6, st6⟩ := getF X5 hx hZ hown (host := "") (Or.inl (hw _ (List.mem_of_getElem? (i := 24) rfl))) Via.refl e5 F_chars_a1 (g := (mkF m 39 #[.val (.ref a1), .val (.int p2), .val (.ref a3), .val (.int p4), .val (.int p5), .val (.int f), .val (.int i)] [(.ref a1)])) rfl rfl (hb hby own_d10_39)
        refine OE.of st6 ?_
        show OE _ p e below s _ _ _ T6 (mkF m 42 #[.val (.ref a1), .val (.int p2), .val (.ref a3), .val (.int p4), .val (.int p5), .val (.int f), .val (.int i)] [(.ref ch)])
        refine OE.iload X6 hx hby own_d10_42 rfl ?_
        refine OE.iload X6 hx hby own_d10_44 rfl ?_
        refine OE.iadd X6 hx hby own_d10_46 ?_
        refine OE.iloadN X6 hx hby own_d10_47 rfl ?_
        refine OE.isub X6 hx hby own_d10_48 ?_
        have Vo7 := V_ch
        obtain ⟨cl7, Ar7, -, Sz7, Nz7, Hz7, Gz7⟩ := Vo7
        have hin7 : ¬ (((f + i) - p4) < 0 ∨ cl7.slots.size ≤ (((f + i) - p4)).toNatClampNeg) := inb_of Sz7 fi.1
        have hat7 : cl7.slots[(((f + i) - p4)).toNatClampNeg]? = some (.int x) := Has.at Hz7 hin7 (by rw [fi.2.1]; exact hT _ _ ex)
        refine OE.of (X6.caload hx (j := ((f + i) - p4)) (v := (.int x)) (by rw [e6]; exact Ar7.1) (State.isArrayOf_alike hZ.alike Ar7.2.1) Ar7.2.2 hin7 hat7 (g := (mkF m 49 #[.val (.ref a1), .val (.int p2), .val (.ref a3), .val (.int p4), .val (.int p5), .val (.int f), .val (.int i)] [(.int ((f + i) - p4)), (.ref ch)])) rfl rfl (hb hby own_d10_49)) ?_
        show OE _ p e below s _ _ _ T6 (mkF m 50 #[.val (.ref a1), .val (.int p2), .val (.ref a3), .val (.int p4), .val (.int p5), .val (.int f), .val (.int i)] [(.int x)])
        refine OE.aloadN X6 hx hby own_d10_50 rfl rfl ?_
        refine OE.iload X6 hx hby own_d10_51 rfl ?_
        have Vo8 := V_a3
        obtain ⟨cl8, Ar8, -, Sz8, Nz8, Hz8, Gz8⟩ := Vo8
        have hin8 : ¬ (i < 0 ∨ cl8.slots.size ≤ (i).toNatClampNeg) := inb_of Sz8 (own_lt4 (by have := hrg.1; omega) hc35 hrg.2.2)
        have hat8 : cl8.slots[(i).toNatClampNeg]? = some (.int y) := Has.at Hz8 hin8 (own_at ey)
        refine OE.of (X6.caload hx (j := i) (v := (.int y)) (by rw [e6]; exact Ar8.1) (State.isArrayOf_alike hZ.alike Ar8.2.1) Ar8.2.2 hin8 hat8 (g := (mkF m 53 #[.val (.ref a1), .val (.int p2), .val (.ref a3), .val (.int p4), .val (.int p5), .val (.int f), .val (.int i)] [(.int i), (.ref a3), (.int x)])) rfl rfl (hb hby own_d10_53)) ?_
        show OE _ p e below s _ _ _ T6 (mkF m 54 #[.val (.ref a1), .val (.int p2), .val (.ref a3), .val (.int p4), .val (.int p5), .val (.int f), .val (.int i)] [(.int y), (.int x)])
        by_cases hc54 : x = y
        · skip
          refine OE.icmpYes X6 hx hby (pc' := 59) own_d10_54 (teq hc54).1 (h := ?_)
          refine OE.iinc X6 hx hby own_d10_59 rfl (l' := #[.val (.ref a1), .val (.int p2), .val (.ref a3), .val (.int p4), .val (.int p5), .val (.int f), .val (.int (i + (1 : Int32)))]) rfl ?_
          refine OE.goto X6 hx hby (pc' := 31) own_d10_62 (h := ?_)
          have q := own_inc (by have := hrg.1; omega) hc35
          exact ih5 _ (by rw [Int32.lt_iff_toInt_lt] at hc35; omega) (i + (1 : Int32)) _ _ _ _ rfl X6 e6 N5 (Nat.le_trans hcl5 (by decide)) (Nat.le_trans hsl5 (by decide)) ⟨by omega, by rw [Int32.lt_iff_toInt_lt] at hc35; omega⟩ (fun j hj => by
              by_cases q1 : j < (i.toNatClampNeg - p4.toNatClampNeg)
              · exact hm j q1
              · have : j = (i.toNatClampNeg - p4.toNatClampNeg) := by omega
                rw [this, ex, own_qx hrg hi.1 hc35 ey, hc54])
        · skip
          refine OE.icmpNo X6 hx hby own_d10_54 (feq hc54).1 ?_
          refine OE.iconst X6 hx hby own_d10_57 (0 : Int32) rfl ?_
          refine OE.retN X6 hx (t := .boolean) Bd.returns (by simp) Bd.notSynchronized (hb hby own_d10_58) (Nat.le_trans hcl5 (by decide)) (Nat.le_trans hsl5 (by decide)) ?_
          rw [e6]
          exact ⟨_, rfl, N5, rfl, Or.inr ⟨rfl, own_tnx ex (own_qx hrg hi.1 hc35 ey) hc54⟩⟩
      · skip
        refine OE.icmpYes X5 hx hby (pc' := 65) own_d10_35 (flt hc35).2.1 (h := ?_)
        refine OE.iconst X5 hx hby own_d10_65 (1 : Int32) rfl ?_
        refine OE.retN X5 hx (t := .boolean) Bd.returns (by simp) Bd.notSynchronized (hb hby own_d10_66) (Nat.le_trans hcl5 (by decide)) (Nat.le_trans hsl5 (by decide)) ?_
        rw [e5]
        have tl := own_tl htk hrg hc23
        have hie : i.toNatClampNeg = p5.toNatClampNeg := by
          rw [Int32.lt_iff_toInt_lt] at hc35
          have : i = p5 := Int32.toInt_inj.mp (by omega)
          rw [this]
        exact ⟨_, rfl, N5, rfl, Or.inl ⟨rfl, own_teq tl (by rw [own_sllen hcl hrg, (own_sub4 hrg).2]) fun j hj => hm j (by rw [hie]; exact hj)⟩⟩
    exact lp _ p4 _ _ _ _ rfl X3 e3 N0 (by decide) (by decide) ⟨Int.le_refl _, hrg.2.1⟩ (fun j hj => absurd hj (by omega))
  · skip
    refine OE.icmpNo X3 hx hby own_d10_23 (feq hc23).1 ?_
    refine OE.iconst X3 hx hby own_d10_26 (0 : Int32) rfl ?_
    refine OE.retN X3 hx (t := .boolean) Bd.returns (by simp) Bd.notSynchronized (hb hby own_d10_27) (by decide) (by decide) ?_
    rw [e3]
    exact ⟨_, rfl, N0, rfl, Or.inr ⟨rfl, own_tne hcl htk hrg hc23⟩⟩
theorem own_mapget (S : List Int32) (j : Nat) : (List.map Value.int S).getD j (.int (0 : Int32)) = .int (S.getD j 0) := by
  rw [List.getD_eq_getElem?_getD, List.getElem?_map, List.getD_eq_getElem?_getD]
  cases S[j]? <;> rfl
theorem own_m1023 (h : Int32) : 0 ≤ (h &&& (1023 : Int32)).toInt ∧ (h &&& (1023 : Int32)).toInt ≤ 1023 ∧ (h &&& (1023 : Int32)).toNatClampNeg < 1024 := by
  have a := c_and h 1023 (by decide)
  rw [own_i1023] at a
  have n := own_nat a.1
  exact ⟨a.1, a.2, by omega⟩
theorem own_1024 {i : Int32} (h0 : 0 ≤ i.toInt) (h : i.toNatClampNeg < 1024) : ¬ i < 0 ∧ i < (1024 : Int32) := by
  have n := own_nat h0
  have e : (1024 : Int32).toInt = 1024 := by decide
  constructor
  · rw [Int32.lt_iff_toInt_lt, own_i0]; omega
  · rw [Int32.lt_iff_toInt_lt, e]; omega
theorem own_nx {i : Int32} {b d : Nat} (h0 : 0 ≤ i.toInt) (h : i.toNatClampNeg = (b + d) % 1024) : 0 ≤ ((i + 1) &&& (1023 : Int32)).toInt ∧ ((i + 1) &&& (1023 : Int32)).toNatClampNeg = (b + (d + 1)) % 1024 := by
  have n := own_nat h0
  have lt : i.toNatClampNeg < 1024 := by rw [h]; exact Nat.mod_lt _ (by decide)
  have a := c_iadd i 1
  have r := rng32 (i + 1)
  rw [own_i1] at a
  have e : (i + 1).toInt = i.toInt + 1 := by omega
  have m := c_mask (i + 1) 1023 10 (by decide) (by decide)
  have q := own_m1023 (i + 1)
  have n2 := own_nat q.1
  refine ⟨q.1, ?_⟩
  have e2 : (((i + 1) &&& (1023 : Int32)).toNatClampNeg : Int) = (i.toNatClampNeg + 1 : Nat) % 1024 := by rw [n2, m, e]; omega
  have e3 : ((i + 1) &&& (1023 : Int32)).toNatClampNeg = (i.toNatClampNeg + 1) % 1024 := by omega
  rw [e3, h]; omega
theorem own_d7_0 : decode prog_66_method_6_code 0 = .ok (.aload_n 0, 1) := by decide +kernel
theorem own_d7_1 : decode prog_66_method_6_code 1 = .ok (.getfield 9, 3) := by decide +kernel
theorem own_d7_4 : decode prog_66_method_6_code 4 = .ok (.arraylength, 1) := by decide +kernel
theorem own_d7_5 : decode prog_66_method_6_code 5 = .ok (.iconst 1, 1) := by decide +kernel
theorem own_d7_6 : decode prog_66_method_6_code 6 = .ok (.isub, 1) := by decide +kernel
theorem own_d7_7 : decode prog_66_method_6_code 7 = .ok (.istore_n 2, 1) := by decide +kernel
theorem own_d7_8 : decode prog_66_method_6_code 8 = .ok (.aload_n 0, 1) := by decide +kernel
theorem own_d7_9 : decode prog_66_method_6_code 9 = .ok (.getfield 15, 3) := by decide +kernel
theorem own_d7_12 : decode prog_66_method_6_code 12 = .ok (.iload_n 1, 1) := by decide +kernel
theorem own_d7_13 : decode prog_66_method_6_code 13 = .ok (.iaload, 1) := by decide +kernel
theorem own_d7_14 : decode prog_66_method_6_code 14 = .ok (.iload_n 2, 1) := by decide +kernel
theorem own_d7_15 : decode prog_66_method_6_code 15 = .ok (.iand, 1) := by decide +kernel
theorem own_d7_16 : decode prog_66_method_6_code 16 = .ok (.istore_n 3, 1) := by decide +kernel
theorem own_d7_17 : decode prog_66_method_6_code 17 = .ok (.aload_n 0, 1) := by decide +kernel
theorem own_d7_18 : decode prog_66_method_6_code 18 = .ok (.getfield 9, 3) := by decide +kernel
theorem own_d7_21 : decode prog_66_method_6_code 21 = .ok (.iload_n 3, 1) := by decide +kernel
theorem own_d7_22 : decode prog_66_method_6_code 22 = .ok (.iaload, 1) := by decide +kernel
theorem own_d7_23 : decode prog_66_method_6_code 23 = .ok (.ifCond .eq 12, 3) := by decide +kernel
theorem own_d7_35 : decode prog_66_method_6_code 35 = .ok (.aload_n 0, 1) := by decide +kernel
theorem own_d7_36 : decode prog_66_method_6_code 36 = .ok (.getfield 9, 3) := by decide +kernel
theorem own_d7_39 : decode prog_66_method_6_code 39 = .ok (.iload_n 3, 1) := by decide +kernel
theorem own_d7_40 : decode prog_66_method_6_code 40 = .ok (.iload_n 1, 1) := by decide +kernel
theorem own_d7_41 : decode prog_66_method_6_code 41 = .ok (.iconst 1, 1) := by decide +kernel
theorem own_d7_42 : decode prog_66_method_6_code 42 = .ok (.iadd, 1) := by decide +kernel
theorem own_d7_43 : decode prog_66_method_6_code 43 = .ok (.iastore, 1) := by decide +kernel
theorem own_d7_44 : decode prog_66_method_6_code 44 = .ok (.return_, 1) := by decide +kernel
theorem own_d7_26 : decode prog_66_method_6_code 26 = .ok (.iload_n 3, 1) := by decide +kernel
theorem own_d7_27 : decode prog_66_method_6_code 27 = .ok (.iconst 1, 1) := by decide +kernel
theorem own_d7_28 : decode prog_66_method_6_code 28 = .ok (.iadd, 1) := by decide +kernel
theorem own_d7_29 : decode prog_66_method_6_code 29 = .ok (.iload_n 2, 1) := by decide +kernel
theorem own_d7_30 : decode prog_66_method_6_code 30 = .ok (.iand, 1) := by decide +kernel
theorem own_d7_31 : decode prog_66_method_6_code 31 = .ok (.istore_n 3, 1) := by decide +kernel
theorem own_d7_32 : decode prog_66_method_6_code 32 = .ok (.goto (-15), 3) := by decide +kernel
def own_Q7 (Z : State) (a1 : Addr) (p2 : Int32) (sl : Addr) (ha : Addr) (ksl : ClassId) (kha : ClassId) (S : List Int32) (vsH : List Value) (q0 : Int32) (D : Nat) (h0 : Heap) (n0 : Nat) (v : Option Value) (h : Heap) (L : List Loc) : Prop := ∃ d : Nat, v = none ∧ Fr n0 L ∧ Keep h0 h [sl] ∧ Arv Z h sl ksl .int (1024 : Int32) (List.map Value.int (S.set (((q0 &&& (1023 : Int32)).toNatClampNeg + d) % 1024) (p2 + 1))) (.int (0 : Int32)) ∧ (d ≤ D) ∧ (S.getD (((q0 &&& (1023 : Int32)).toNatClampNeg + d) % 1024) 0 = 0) ∧ (∀ e, e < d → S.getD (((q0 &&& (1023 : Int32)).toNatClampNeg + e) % 1024) 0 ≠ 0)
theorem own_ef_own_rm7 (m : MethodId) (a1 : Addr) (p2 : Int32) : entryFrame m #[(.ref a1), (.int p2)] 4 = mkF m 0 #[.val (.ref a1), .val (.int p2), .unset, .unset] [] := by first | (simp [entryFrame, mkF, argsToLocals, Value.category]; done) | rfl
set_option maxRecDepth 65536 in
set_option maxHeartbeats 40000000 in
theorem own_rm7 (l : Launch) (Z : State) (a0 : Array Value) (hw : ∀ d ∈ tables_1, d.before a0 Z = true) (ws : List Jvm.Cond) (a1 : Addr) (p2 : Int32) (sl : Addr) (ha : Addr) (ksl : ClassId) (kha : ClassId) (S : List Int32) (vsH : List Value) (q0 : Int32) (D : Nat) (h0 : Heap) (n0 : Nat) (Z0 : n0 ≤ h0.size) (F_slots_a1 : Fld Z h0 a1 "com/example/archerfish/archerfish/index/TokenTable" "slots" "[I" (.ref sl)) (F_hashes_a1 : Fld Z h0 a1 "com/example/archerfish/archerfish/index/TokenTable" "hashes" "[I" (.ref ha)) (V_sl : Arv Z h0 sl ksl .int (1024 : Int32) (List.map Value.int S) (.int (0 : Int32))) (V_ha : Arv Z h0 ha kha .int (512 : Int32) vsH (.int (0 : Int32))) (g_sl : n0 ≤ sl) (hSl : S.length = 1024) (hk : ¬ p2 < 0 ∧ p2 < (512 : Int32)) (hq0 : vsH.getD p2.toNatClampNeg (.int (0 : Int32)) = .int q0) (hz : S.getD (((q0 &&& (1023 : Int32)).toNatClampNeg + D) % 1024) 0 = 0) :
    MetFree l (⟨"com/example/archerfish/archerfish/index/TokenTable", "place", "(I)V"⟩ : MethodName) (head1 (Jvm.Cond.code (⟨"com/example/archerfish/archerfish/index/TokenTable", "place", "(I)V"⟩ : MethodName) prog_66_method_6_code 4 none :: ws) ({ frames := 0, cells := 0, slots := 0, locals := 0 } : Room)) (fun a U => a = #[(.ref a1), (.int p2)] ∧ Z.Warmed39 U.vm ∧ U.heap = h0) (fun _ _ _ _ _ => True) (fun _ U o U' => ∃ v L, o = .returned v ∧ own_Q7 Z a1 p2 sl ha ksl kha S vsH q0 D h0 n0 v U'.heap L ∧ FrameEnd U o U' L ({ frames := 0, cells := 0, slots := 0, locals := 0 } : Room).cells ({ frames := 0, cells := 0, slots := 0, locals := 0 } : Room).slots) := by
  refine MetFree.of_bodySF (plainFor_of_name own_pn0) hisR ?_
  intro p e s m args below meth c s₁ Bd hml0 hP hK
  obtain ⟨rfl, hZ, hh⟩ := hP
  have hx := Bd.exec
  have hby := Bd.bytes
  have hml : c.maxLocals = 4 := hml0
  have hown : s.vm.findClass "com/example/archerfish/archerfish/index/TokenTable" = some m.cls := findClass_of_methodNamed Bd.named
  have hnm := (name_of_methodNamed Bd.named Bd.method).1
  have X0 : Stand p l e ({ frames := 0, cells := 0, slots := 0, locals := 0 } : Room) s m #[(.ref a1), (.int p2)] below meth c s₁ [] 0 0 := Stand.of_body Bd
  have e0 : s₁.heap = h0 := by rw [← hh, Bd.state]; rfl
  have N0 := Fr.nil n0
  show OE FrameEnd p e below s (own_Q7 Z a1 p2 sl ha ksl kha S vsH q0 D h0 n0) ({ frames := 0, cells := 0, slots := 0, locals := 0 } : Room).cells ({ frames := 0, cells := 0, slots := 0, locals := 0 } : Room).slots s₁ (entryFrame m #[(.ref a1), (.int p2)] 4)
  rw [own_ef_own_rm7]
  have hmb := own_m1023 q0
  show OE _ p e below s _ _ _ s₁ (mkF m 0 #[.val (.ref a1), .val (.int p2), .unset, .unset] [])
  refine OE.aloadN X0 hx hby own_d7_0 rfl rfl ?_
  obtain ⟨T1, X1, e1, st1⟩ := getF X0 hx hZ hown (host := "") (Or.inl (hw _ (List.mem_of_getElem? (i := 18) rfl))) Via.refl e0 F_slots_a1 (g := (mkF m 1 #[.val (.ref a1), .val (.int p2), .unset, .unset] [(.ref a1)])) rfl rfl (hb hby own_d7_1)
  refine OE.of st1 ?_
  show OE _ p e below s _ _ _ T1 (mkF m 4 #[.val (.ref a1), .val (.int p2), .unset, .unset] [(.ref sl)])
  have Vo2 := V_sl
  obtain ⟨cl2, Ar2, -, Sz2, Nz2, -, -⟩ := Vo2
  refine OE.of (X1.arraylength hx (by rw [e1]; exact Ar2.1) (State.isArrayOf_alike hZ.alike Ar2.2.1) (g := (mkF m 4 #[.val (.ref a1), .val (.int p2), .unset, .unset] [(.ref sl)])) rfl rfl (hb hby own_d7_4)) ?_
  rw [len_of Sz2 Nz2]
  show OE _ p e below s _ _ _ T1 (mkF m 5 #[.val (.ref a1), .val (.int p2), .unset, .unset] [(.int (1024 : Int32))])
  refine OE.iconst X1 hx hby own_d7_5 (1 : Int32) rfl ?_
  refine OE.isub X1 hx hby own_d7_6 ?_
  rw [(by decide : ((1024 : Int32) - (1 : Int32)) = (1023 : Int32))]
  refine OE.istoreN X1 hx hby own_d7_7 (l' := #[.val (.ref a1), .val (.int p2), .val (.int (1023 : Int32)), .unset]) rfl ?_
  refine OE.aloadN X1 hx hby own_d7_8 rfl rfl ?_
  obtain ⟨T3, X3, e3, st3⟩ := getF X1 hx hZ hown (host := "") (Or.inl (hw _ (List.mem_of_getElem? (i := 20) rfl))) Via.refl e1 F_hashes_a1 (g := (mkF m 9 #[.val (.ref a1), .val (.int p2), .val (.int (1023 : Int32)), .unset] [(.ref a1)])) rfl rfl (hb hby own_d7_9)
  refine OE.of st3 ?_
  show OE _ p e below s _ _ _ T3 (mkF m 12 #[.val (.ref a1), .val (.int p2), .val (.int (1023 : Int32)), .unset] [(.ref ha)])
  refine OE.iloadN X3 hx hby own_d7_12 rfl ?_
  have Vo4 := V_ha
  obtain ⟨cl4, Ar4, -, Sz4, Nz4, Hz4, Gz4⟩ := Vo4
  have hin4 : ¬ (p2 < 0 ∨ cl4.slots.size ≤ (p2).toNatClampNeg) := inb_of Sz4 hk
  have hat4 : cl4.slots[(p2).toNatClampNeg]? = some (.int q0) := Has.at Hz4 hin4 hq0
  refine OE.of (X3.iaload hx (j := p2) (v := (.int q0)) (by rw [e3]; exact Ar4.1) (State.isArrayOf_alike hZ.alike Ar4.2.1) Ar4.2.2 hin4 hat4 (g := (mkF m 13 #[.val (.ref a1), .val (.int p2), .val (.int (1023 : Int32)), .unset] [(.int p2), (.ref ha)])) rfl rfl (hb hby own_d7_13)) ?_
  show OE _ p e below s _ _ _ T3 (mkF m 14 #[.val (.ref a1), .val (.int p2), .val (.int (1023 : Int32)), .unset] [(.int q0)])
  refine OE.iloadN X3 hx hby own_d7_14 rfl ?_
  refine OE.iand X3 hx hby own_d7_15 ?_
  refine OE.istoreN X3 hx hby own_d7_16 (l' := #[.val (.ref a1), .val (.int p2), .val (.int (1023 : Int32)), .val (.int (q0 &&& (1023 : Int32)))]) rfl ?_
  have lp : ∀ (k5 : Nat) (i : Int32) (d : Nat) (T5 : State) (locs5 : List Loc) (cells5 : Nat) (slots5 : Nat), D - d = k5 → Stand p l e ({ frames := 0, cells := 0, slots := 0, locals := 0 } : Room) s m #[(.ref a1), (.int p2)] below meth c T5 locs5 cells5 slots5 → T5.heap = h0 → Fr n0 locs5 → cells5 ≤ 0 → slots5 ≤ 0 → (d ≤ D) → (0 ≤ i.toInt ∧ i.toNatClampNeg = ((q0 &&& (1023 : Int32)).toNatClampNeg + d) % 1024) → (∀ e, e < d → S.getD (((q0 &&& (1023 : Int32)).toNatClampNeg + e) % 1024) 0 ≠ 0) → OE FrameEnd p e below s (own_Q7 Z a1 p2 sl ha ksl kha S vsH q0 D h0 n0) ({ frames := 0, cells := 0, slots := 0, locals := 0 } : Room).cells ({ frames := 0, cells := 0, slots := 0, locals := 0 } : Room).slots T5 (mkF m 17 #[.val (.ref a1), .val (.int p2), .val (.int (1023 : Int32)), .val (.int i)] []) := by
    intro k5
    induction k5 using Nat.strongRecOn with
    | _ k5 ih5 =>
    intro i d T5 locs5 cells5 slots5 hk5 X5 e5 N5 hcl5 hsl5 hd hi hn
    show OE _ p e below s _ _ _ T5 (mkF m 17 #[.val (.ref a1), .val (.int p2), .val (.int (1023 : Int32)), .val (.int i)] [])
    have hlt : i.toNatClampNeg < 1024 := by rw [hi.2]; exact Nat.mod_lt _ (by decide)
    refine OE.aloadN X5 hx hby own_d7_17 rfl rfl ?_
    obtain ⟨T6, X6, e6, st6⟩ := getF X5 hx hZ hown (host := "") (Or.inl (hw _ (List.mem_of_getElem? (i := 18) rfl))) Via.refl e5 F_slots_a1 (g := (mkF m 18 #[.val (.ref a1), .val (.int p2), .val (.int (1023 : Int32)), .val (.int i)] [(.ref a1)])) rfl rfl (hb hby own_d7_18)
    refine OE.of st6 ?_
    show OE _ p e below s _ _ _ T6 (mkF m 21 #[.val (.ref a1), .val (.int p2), .val (.int (1023 : Int32)), .val (.int i)] [(.ref sl)])
    refine OE.iloadN X6 hx hby own_d7_21 rfl ?_
    have Vo7 := V_sl
    obtain ⟨cl7, Ar7, -, Sz7, Nz7, Hz7, Gz7⟩ := Vo7
    have hin7 : ¬ (i < 0 ∨ cl7.slots.size ≤ (i).toNatClampNeg) := inb_of Sz7 (own_1024 hi.1 hlt)
    have hat7 : cl7.slots[(i).toNatClampNeg]? = some (.int (S.getD i.toNatClampNeg 0)) := Has.at Hz7 hin7 (own_mapget S _)
    refine OE.of (X6.iaload hx (j := i) (v := (.int (S.getD i.toNatClampNeg 0))) (by rw [e6]; exact Ar7.1) (State.isArrayOf_alike hZ.alike Ar7.2.1) Ar7.2.2 hin7 hat7 (g := (mkF m 22 #[.val (.ref a1), .val (.int p2), .val (.int (1023 : Int32)), .val (.int i)] [(.int i), (.ref sl)])) rfl rfl (hb hby own_d7_22)) ?_
    show OE _ p e below s _ _ _ T6 (mkF m 23 #[.val (.ref a1), .val (.int p2), .val (.int (1023 : Int32)), .val (.int i)] [(.int (S.getD i.toNatClampNeg 0))])
    by_cases hc23 : (S.getD i.toNatClampNeg 0) = (0 : Int32)
    · skip
      refine OE.ifYes X6 hx hby (pc' := 35) own_d7_23 (teq hc23).1 (h := ?_)
      refine OE.aloadN X6 hx hby own_d7_35 rfl rfl ?_
      obtain ⟨T8, X8, e8, st8⟩ := getF X6 hx hZ hown (host := "") (Or.inl (hw _ (List.mem_of_getElem? (i := 18) rfl))) Via.refl e6 F_slots_a1 (g := (mkF m 36 #[.val (.ref a1), .val (.int p2), .val (.int (1023 : Int32)), .val (.int i)] [(.ref a1)])) rfl rfl (hb hby own_d7_36)
      refine OE.of st8 ?_
      show OE _ p e below s _ _ _ T8 (mkF m 39 #[.val (.ref a1), .val (.int p2), .val (.int (1023 : Int32)), .val (.int i)] [(.ref sl)])
      refine OE.iloadN X8 hx hby own_d7_39 rfl ?_
      refine OE.iloadN X8 hx hby own_d7_40 rfl ?_
      refine OE.iconst X8 hx hby own_d7_41 (1 : Int32) rfl ?_
      refine OE.iadd X8 hx hby own_d7_42 ?_
      have Vo9 := V_sl
      obtain ⟨cl9, Ar9, qz9, Sz9, Nz9, Hz9, Gz9⟩ := Vo9
      have hin9 : ¬ (i < 0 ∨ cl9.slots.size ≤ (i).toNatClampNeg) := inb_of Sz9 (own_1024 hi.1 hlt)
      obtain ⟨T9, h9, X9, e9, W9, st9⟩ := stI X8 hx hZ e8 Ar9 (j := i) hin9 (g := (mkF m 43 #[.val (.ref a1), .val (.int p2), .val (.int (1023 : Int32)), .val (.int i)] [(.int (p2 + (1 : Int32))), (.int i), (.ref sl)])) rfl rfl (hb hby own_d7_43)
      refine OE.of st9 ?_
      have V9 : Arv Z h9 sl ksl .int (1024 : Int32) ((List.map Value.int S).set i.toNatClampNeg (.int (p2 + (1 : Int32)))) (.int (0 : Int32)) := Arv.set Ar9 qz9 Sz9 Nz9 Hz9 Gz9 rfl W9 i.toNatClampNeg rfl (by rw [List.length_map, hSl]; exact hlt)
      have N9 := Fr.snoc X9 N5 g_sl
      show OE _ p e below s _ _ _ T9 (mkF m 44 #[.val (.ref a1), .val (.int p2), .val (.int (1023 : Int32)), .val (.int i)] [])
      have R10 : Arv Z h9 sl ksl .int (1024 : Int32) (List.map Value.int (S.set (((q0 &&& (1023 : Int32)).toNatClampNeg + d) % 1024) (p2 + 1))) (.int (0 : Int32)) := (by rw [← hi.2, List.map_set]; exact V9)
      refine OE.ret0 X9 hx Bd.returns Bd.notSynchronized (hb hby own_d7_44) (Nat.le_trans hcl5 (by decide)) (Nat.le_trans hsl5 (by decide)) ?_
      rw [e9]
      have K11 : Keep h0 h9 [sl] := (Keep.wr (Keep.refl h0 [sl]) W9 (Or.inl (List.mem_of_getElem? (i := 0) rfl)))
      exact ⟨d, rfl, N9, K11, R10, hd, (by rw [← hi.2]; exact hc23), hn⟩
    · skip
      refine OE.ifNo X6 hx hby own_d7_23 (feq hc23).1 ?_
      refine OE.iloadN X6 hx hby own_d7_26 rfl ?_
      refine OE.iconst X6 hx hby own_d7_27 (1 : Int32) rfl ?_
      refine OE.iadd X6 hx hby own_d7_28 ?_
      refine OE.iloadN X6 hx hby own_d7_29 rfl ?_
      refine OE.iand X6 hx hby own_d7_30 ?_
      refine OE.istoreN X6 hx hby own_d7_31 (l' := #[.val (.ref a1), .val (.int p2), .val (.int (1023 : Int32)), .val (.int ((i + (1 : Int32)) &&& (1023 : Int32)))]) rfl ?_
      refine OE.goto X6 hx hby (pc' := 17) own_d7_32 (h := ?_)
      have q := own_nx hi.1 hi.2
      have hdD : d ≠ D := fun q => hc23 (by rw [hi.2, q]; exact hz)
      exact ih5 _ (by omega) ((i + (1 : Int32)) &&& (1023 : Int32)) (d + 1) _ _ _ _ rfl X6 e6 N5 (Nat.le_trans hcl5 (by decide)) (Nat.le_trans hsl5 (by decide)) (by omega) q (fun e he => by
          by_cases q1 : e < d
          · exact hn e q1
          · have : e = d := by omega
            rw [this, ← hi.2]; exact hc23)
  exact lp _ (q0 &&& (1023 : Int32)) 0 _ _ _ _ rfl X3 e3 N0 (by decide) (by decide) (Nat.zero_le _) ⟨hmb.1, by rw [Nat.add_zero, Nat.mod_eq_of_lt hmb.2.2]⟩ (fun e he => absurd he (Nat.not_lt_zero e))
def own_b (T : List Int32) : Nat := (own_hash T &&& (1023 : Int32)).toNatClampNeg
/-- the table holds these tokens: starts vsS, hashes vsH, chars vsC, slots S, F: where the next token's chars go -/
def own_inv (toks : List (List Int32)) (vsS vsH vsC : List Value) (S : List Int32) (F : Int32) : Prop :=
  (vsS.length = 513 ∧ vsH.length = 512 ∧ vsC.length = 4096 ∧ S.length = 1024) ∧
  (vsS.getD toks.length (Value.int (0 : Int32)) = .int F ∧ 0 ≤ F.toInt ∧ F.toInt ≤ 4 * (toks.length : Int)) ∧
  (∀ k T, toks[k]? = some T → ∃ f g : Int32, vsS.getD k (Value.int (0 : Int32)) = .int f ∧ vsS.getD (k + 1) (Value.int (0 : Int32)) = .int g ∧ own_tk f g T ∧ g.toInt ≤ F.toInt ∧ vsH.getD k (Value.int (0 : Int32)) = .int (own_hash T) ∧ ∀ j x, T[j]? = some x → vsC.getD (f.toNatClampNeg + j) (Value.int (0 : Int32)) = .int x) ∧
  (∀ i, S.getD i 0 = 0 ∨ ∃ k, k < toks.length ∧ S.getD i 0 = Int32.ofNat (k + 1)) ∧
  (∀ k T, toks[k]? = some T → ∃ d, S.getD ((own_b T + d) % 1024) 0 = Int32.ofNat (k + 1) ∧ ∀ e, e < d → S.getD ((own_b T + e) % 1024) 0 ≠ 0) ∧
  (∀ b, ∃ D, D ≤ 2 ^ toks.length - 1 ∧ S.getD ((b + D) % 1024) 0 = 0)
theorem own_inv0 : own_inv [] (List.replicate 513 (Value.int (0 : Int32))) (List.replicate 512 (Value.int (0 : Int32))) (List.replicate 4096 (Value.int (0 : Int32))) (List.replicate 1024 (0 : Int32)) 0 := by
  have z : ∀ i, (List.replicate 1024 (0 : Int32)).getD i 0 = 0 := fun i => by
    rw [List.getD_eq_getElem?_getD, List.getElem?_replicate]; split <;> rfl
  refine ⟨⟨List.length_replicate, List.length_replicate, List.length_replicate, List.length_replicate⟩, ⟨?_, by decide, by decide⟩, fun k T h => (by simp at h), fun i => Or.inl (z i), fun k T h => (by simp at h), fun b => ⟨0, Nat.zero_le _, z _⟩⟩
  rw [List.getD_eq_getElem?_getD, List.getElem?_replicate]; split <;> rfl
theorem own_setE {α : Type} {l : List α} {i : Nat} {v d : α} (h : i < l.length) : (l.set i v).getD i d = v := by
  rw [List.getD_eq_getElem?_getD, List.getElem?_set_self h]; rfl
theorem own_setN {α : Type} {l : List α} {i j : Nat} {v d : α} (h : i ≠ j) : (l.set i v).getD j d = l.getD j d := by
  rw [List.getD_eq_getElem?_getD, List.getD_eq_getElem?_getD, List.getElem?_set_ne h]
theorem own_cpO {vs us : List Value} {n m j : Nat} {d : Value} (hn : n ≤ vs.length) (h : j < n) : (vs.take n ++ us ++ vs.drop m).getD j d = vs.getD j d := by
  rw [List.getD_eq_getElem?_getD, List.getD_eq_getElem?_getD, List.append_assoc, List.getElem?_append_left (by rw [List.length_take]; omega), List.getElem?_take_of_lt h]
theorem own_cpN {vs : List Value} {T : List Int32} {n m j : Nat} {x : Int32} {d : Value} (hn : n ≤ vs.length) (h : T[j]? = some x) : (vs.take n ++ List.map Value.int T ++ vs.drop m).getD (n + j) d = .int x := by
  have hj : j < T.length := (List.getElem?_eq_some_iff.mp h).1
  have l1 : (vs.take n).length = n := by rw [List.length_take]; omega
  rw [List.getD_eq_getElem?_getD, List.append_assoc, List.getElem?_append_right (by rw [l1]; omega), l1, Nat.add_sub_cancel_left, List.getElem?_append_left (by rw [List.length_map]; exact hj), List.getElem?_map, h]; rfl
theorem own_of {k : Nat} (h : k < 4) : Int32.ofNat (k + 1) ≠ 0 := by
  have : k = 0 ∨ k = 1 ∨ k = 2 ∨ k = 3 := by omega
  rcases this with rfl | rfl | rfl | rfl <;> decide
theorem own_ofi {k j : Nat} (h : k < 4) (h2 : j < 4) (e : Int32.ofNat (k + 1) = Int32.ofNat (j + 1)) : k = j := by
  have a : k = 0 ∨ k = 1 ∨ k = 2 ∨ k = 3 := by omega
  have this : j = 0 ∨ j = 1 ∨ j = 2 ∨ j = 3 := by omega
  rcases a with rfl | rfl | rfl | rfl <;> rcases this with rfl | rfl | rfl | rfl <;> first | rfl | exact absurd e (by decide)
theorem own_ofs {k : Nat} (h : k < 4) : Int32.ofNat (k + 1) - (1 : Int32) = Int32.ofNat k ∧ (¬ Int32.ofNat k < 0 ∧ Int32.ofNat k < (512 : Int32)) ∧ (Int32.ofNat k).toNatClampNeg = k := by
  have : k = 0 ∨ k = 1 ∨ k = 2 ∨ k = 3 := by omega
  rcases this with rfl | rfl | rfl | rfl <;> decide
theorem own_nzS {S : List Int32} {p j : Nat} {v : Int32} (hp : p < S.length) (hv : v ≠ 0) (h : S.getD j 0 ≠ 0) : (S.set p v).getD j 0 ≠ 0 := by
  by_cases q : p = j
  · subst q; rw [own_setE hp]; exact hv
  · rw [own_setN q]; exact h
theorem own_at1 {toks : List (List Int32)} {Q T : List Int32} {k : Nat} (h : (toks ++ [Q])[k]? = some T) : toks[k]? = some T ∨ (k = toks.length ∧ T = Q) := by
  by_cases q : k < toks.length
  · rw [List.getElem?_append_left q] at h; exact Or.inl h
  · have l := (List.getElem?_eq_some_iff.mp h).1
    rw [List.length_append, List.length_singleton] at l
    have e : k = toks.length := by omega
    subst e
    rw [List.getElem?_append_right (Nat.le_refl _), Nat.sub_self] at h
    exact Or.inr ⟨rfl, (Option.some.inj h).symm⟩
theorem own_step {toks : List (List Int32)} {vsS vsH vsC : List Value} {S Q : List Int32} {F g : Int32} {d : Nat} (hI : own_inv toks vsS vsH vsC S F) (ht : toks.length ≤ 2) (hQ : Q.length ≤ 4) (hg : g.toInt = F.toInt + Q.length)
    (hd : S.getD ((own_b Q + d) % 1024) 0 = 0) (hn : ∀ e, e < d → S.getD ((own_b Q + e) % 1024) 0 ≠ 0) :
    own_inv (toks ++ [Q]) (vsS.set (toks.length + 1) (.int g)) (vsH.set toks.length (.int (own_hash Q))) (vsC.take F.toNatClampNeg ++ List.map Value.int Q ++ vsC.drop (F.toNatClampNeg + Q.length)) (S.set ((own_b Q + d) % 1024) (Int32.ofNat (toks.length + 1))) g := by
  obtain ⟨⟨lS, lH, lC, lT⟩, ⟨sF, f0, f4⟩, tk, i1, i2, i3⟩ := hI
  have ln : (toks ++ [Q]).length = toks.length + 1 := by rw [List.length_append]; rfl
  have hp : (own_b Q + d) % 1024 < S.length := by rw [lT]; exact Nat.mod_lt _ (by decide)
  have hv : Int32.ofNat (toks.length + 1) ≠ 0 := own_of (by omega)
  have nF := own_nat f0
  have hFC : F.toNatClampNeg ≤ vsC.length := by omega
  refine ⟨⟨by rw [List.length_set]; exact lS, by rw [List.length_set]; exact lH, ?_, by rw [List.length_set]; exact lT⟩, ⟨?_, by omega, by rw [ln]; omega⟩, ?_, ?_, ?_, ?_⟩
  · rw [List.length_append, List.length_append, List.length_take, List.length_map, List.length_drop]; omega
  · rw [ln, own_setE (by omega)]
  · intro k T hT
    rcases own_at1 hT with hT | ⟨rfl, rfl⟩
    · have hk := (List.getElem?_eq_some_iff.mp hT).1
      obtain ⟨f, g', a1, a2, a3, a4, a5, a6⟩ := tk k T hT
      refine ⟨f, g', by rw [own_setN (by omega)]; exact a1, by rw [own_setN (by omega)]; exact a2, a3, by omega, by rw [own_setN (by omega)]; exact a5, fun j x hx => ?_⟩
      have hj := (List.getElem?_eq_some_iff.mp hx).1
      have nf := own_nat a3.1
      have := a3.2.1
      rw [own_cpO hFC (by omega)]; exact a6 j x hx
    · refine ⟨F, g, by rw [own_setN (by omega)]; exact sF, own_setE (by omega), ⟨f0, hg, by omega⟩, Int.le_refl _, own_setE (by omega), fun j x hx => own_cpN hFC hx⟩
  · intro i
    by_cases q : (own_b Q + d) % 1024 = i
    · subst q; rw [own_setE hp]; exact Or.inr ⟨toks.length, by omega, rfl⟩
    · rw [own_setN q]
      rcases i1 i with h | ⟨k, h1, h2⟩
      · exact Or.inl h
      · exact Or.inr ⟨k, by omega, h2⟩
  · intro k T hT
    rcases own_at1 hT with hT | ⟨rfl, rfl⟩
    · have hk := (List.getElem?_eq_some_iff.mp hT).1
      obtain ⟨d', a1, a2⟩ := i2 k T hT
      refine ⟨d', ?_, fun e he => own_nzS hp hv (a2 e he)⟩
      have q : (own_b Q + d) % 1024 ≠ (own_b T + d') % 1024 := fun q => own_of (k := k) (by omega) (by rw [← a1, ← q, hd])
      rw [own_setN q]; exact a1
    · exact ⟨d, own_setE hp, fun e he => own_nzS hp hv (hn e he)⟩
  · intro b
    have e1 : 1 ≤ 2 ^ toks.length := Nat.one_le_two_pow
    have e2 : 2 ^ toks.length ≤ 2 ^ 2 := Nat.pow_le_pow_right (by decide) ht
    have e3 : 2 ^ (toks ++ [Q]).length = 2 ^ toks.length * 2 := by rw [ln, Nat.pow_succ]
    rw [e3]
    obtain ⟨D, h1, h2⟩ := i3 b
    by_cases q : (own_b Q + d) % 1024 = (b + D) % 1024
    · obtain ⟨D', h3, h4⟩ := i3 (b + D + 1)
      refine ⟨D + 1 + D', by omega, ?_⟩
      have q2 : (own_b Q + d) % 1024 ≠ (b + (D + 1 + D')) % 1024 := by omega
      rw [own_setN q2]
      have : b + (D + 1 + D') = b + D + 1 + D' := by omega
      rw [this]; exact h4
    · exact ⟨D, by omega, by rw [own_setN q]; exact h2⟩
theorem own_us {cs : List Int32} {s e : Int32} (hc : cs.length = 4) (h : own_rg s e) : List.map Value.int (own_sl cs s e) = (List.range (e - s).toNatClampNeg).map fun i => (List.map Value.int cs).getD (s.toNatClampNeg + i) (Value.int (0 : Int32)) := by
  have q := own_sub4 h
  have l := own_sllen hc h
  obtain ⟨h1, h2, h3⟩ := h
  have n1 := own_nat (i := e - s) (by omega)
  have n2 := own_nat h1
  apply List.ext_getElem?
  intro j
  rw [List.getElem?_map, List.getElem?_map]
  by_cases hj : j < (own_sl cs s e).length
  · rw [own_slget, if_pos (by omega), List.getElem?_range (by omega)]
    have : s.toNatClampNeg + j < cs.length := by omega
    simp only [Option.map_some, own_mapget]
    rw [List.getElem?_eq_getElem this, List.getD_eq_getElem?_getD, List.getElem?_eq_getElem this]; rfl
  · rw [List.getElem?_eq_none (by omega), List.getElem?_eq_none (by rw [List.length_range]; omega)]; rfl
theorem own_len4 {cs : List Int32} {s e : Int32} (hc : cs.length = 4) (h : own_rg s e) : (own_sl cs s e).length = (e - s).toNatClampNeg ∧ (own_sl cs s e).length ≤ 4 ∧ 0 ≤ (e - s).toInt ∧ (e - s).toInt ≤ 4 := by
  have q := own_sub4 h
  have l := own_sllen hc h
  obtain ⟨h1, h2, h3⟩ := h
  have n1 := own_nat (i := e - s) (by omega)
  exact ⟨by omega, by omega, by omega, by omega⟩
theorem own_fit {F L : Int32} {n : Nat} (hn : n ≤ 2) (f0 : 0 ≤ F.toInt) (f4 : F.toInt ≤ 4 * (n : Int)) (l0 : 0 ≤ L.toInt) (l4 : L.toInt ≤ 4) : (¬ (0 : Int32) < (lcmpW (F.toInt64 + L.toInt64) (2147483639 : Int64))) ∧ (¬ (4096 : Int32) < (F + L)) ∧ (F + L).toInt = F.toInt + L.toInt ∧ ¬ F < 0 ∧ ¬ L < 0 ∧ F.toNatClampNeg + L.toNatClampNeg ≤ 4096 := by
  have a := c_iadd F L
  have r := rng32 (F + L)
  have e : (F + L).toInt = F.toInt + L.toInt := by omega
  have e4 := own_i4096
  have b := c_ladd F.toInt64 L.toInt64
  rw [c_i2l, c_i2l] at b
  have r2 := rng64 (F.toInt64 + L.toInt64)
  have e5 : (2147483639 : Int64).toInt = 2147483639 := by decide
  have n1 := own_nat f0
  have n2 := own_nat l0
  refine ⟨?_, ?_, e, ?_, ?_, by omega⟩
  · rw [lw_gt, Int64.lt_iff_toInt_lt, e5]; omega
  · rw [Int32.lt_iff_toInt_lt, e4]; omega
  · rw [Int32.lt_iff_toInt_lt, own_i0]; omega
  · rw [Int32.lt_iff_toInt_lt, own_i0]; omega
theorem own_nz {nz nz1 : Int32} {n : Nat} (hn : nz.toInt = n) (h2 : n ≤ 2) (h1 : nz1 = nz + (1 : Int32)) : (¬ nz < 0 ∧ nz < (512 : Int32)) ∧ (¬ nz < 0 ∧ nz < (513 : Int32)) ∧ (¬ (nz + (1 : Int32)) < 0 ∧ (nz + (1 : Int32)) < (513 : Int32)) ∧ (¬ nz = (512 : Int32)) ∧ (¬ (1024 : Int32) < ((2 : Int32) * nz1)) ∧ nz.toNatClampNeg = n ∧ (nz + (1 : Int32)).toNatClampNeg = n + 1 ∧ (nz + (1 : Int32)) = Int32.ofNat (n + 1) := by
  have : n = 0 ∨ n = 1 ∨ n = 2 := by omega
  subst h1
  have e : nz = Int32.ofNat n := by
    rcases this with rfl | rfl | rfl <;> exact Int32.toInt_inj.mp (by rw [hn]; decide)
  subst e
  rcases this with rfl | rfl | rfl <;> decide
theorem own_add {toks : List (List Int32)} {vsS vsH vsC : List Value} {S cs : List Int32} {F nz s e : Int32} {d : Nat} (hI : own_inv toks vsS vsH vsC S F) (ht : toks.length ≤ 2) (hnz : nz.toInt = toks.length) (hc : cs.length = 4) (hr : own_rg s e)
    (hd : S.getD (((own_hash (own_sl cs s e) &&& (1023 : Int32)).toNatClampNeg + d) % 1024) 0 = 0) (hn : ∀ i, i < d → S.getD (((own_hash (own_sl cs s e) &&& (1023 : Int32)).toNatClampNeg + i) % 1024) 0 ≠ 0) :
    own_inv (toks ++ [own_sl cs s e]) (vsS.set (toks.length + 1) (.int (F + (e - s)))) (vsH.set toks.length (.int (own_hash (own_sl cs s e)))) (vsC.take F.toNatClampNeg ++ List.map Value.int (own_sl cs s e) ++ vsC.drop (F.toNatClampNeg + (e - s).toNatClampNeg)) (S.set (((own_hash (own_sl cs s e) &&& (1023 : Int32)).toNatClampNeg + d) % 1024) (nz + 1)) (F + (e - s)) := by
  have l := own_len4 hc hr
  have q := own_nz hnz ht rfl
  have f := own_fit ht hI.2.1.2.1 hI.2.1.2.2 l.2.2.1 l.2.2.2
  have n2 := own_nat l.2.2.1
  rw [q.2.2.2.2.2.2.2, ← l.1]
  exact own_step hI ht l.2.1 (by rw [f.2.2.1]; omega) hd hn
theorem own_h4 {s e : Int32} (h : own_rg s e) : ¬ s < 0 ∧ s.toNatClampNeg + (e - s).toNatClampNeg ≤ (4 : Int32).toNatClampNeg := by
  have q := own_sub4 h
  obtain ⟨h1, h2, h3⟩ := h
  have n1 := own_nat (i := e - s) (by omega)
  have n2 := own_nat h1
  have e4 : (4 : Int32).toNatClampNeg = 4 := by decide
  refine ⟨?_, by omega⟩
  rw [Int32.lt_iff_toInt_lt, own_i0]; omega
theorem own_rep (n : Nat) : List.map Value.int (List.replicate n (0 : Int32)) = List.replicate n (Value.int (0 : Int32)) := List.map_replicate ..
def own_fnd (toks : List (List Int32)) (Q : List Int32) (r : Int32) : Prop := (r = (-1 : Int32) ∧ ∀ k : Nat, toks[k]? ≠ some Q) ∨ ∃ k : Nat, k < toks.length ∧ r = Int32.ofNat k ∧ toks[k]? = some Q
theorem own_hit {toks : List (List Int32)} {vsS vsH vsC : List Value} {S : List Int32} {F : Int32} {i : Nat} (hI : own_inv toks vsS vsH vsC S F) (h : ¬ S.getD i 0 = 0) : ∃ k T, k < toks.length ∧ toks[k]? = some T ∧ S.getD i 0 = Int32.ofNat (k + 1) := by
  rcases hI.2.2.2.1 i with q | ⟨k, h1, h2⟩
  · exact absurd q h
  · exact ⟨k, _, h1, List.getElem?_eq_getElem h1, h2⟩
theorem own_abs {toks : List (List Int32)} {vsS vsH vsC : List Value} {S Q : List Int32} {F : Int32} {d : Nat} (hI : own_inv toks vsS vsH vsC S F) (ht : toks.length ≤ 3) (hn : ∀ e, e < d → ∃ k T, k < toks.length ∧ S.getD (((own_hash Q &&& (1023 : Int32)).toNatClampNeg + e) % 1024) 0 = Int32.ofNat (k + 1) ∧ toks[k]? = some T ∧ T ≠ Q)
    (hz : S.getD (((own_hash Q &&& (1023 : Int32)).toNatClampNeg + d) % 1024) 0 = 0) : ∀ k : Nat, toks[k]? ≠ some Q := by
  intro k hk
  have hkl := (List.getElem?_eq_some_iff.mp hk).1
  obtain ⟨d', a1, a2⟩ := hI.2.2.2.2.1 k Q hk
  have nz := own_of (k := k) (by omega)
  by_cases q : d' < d
  · obtain ⟨k2, T, b1, b2, b3, b4⟩ := hn d' q
    have e : k2 = k := own_ofi (by omega) (by omega) (b2.symm.trans a1)
    subst e
    exact b4 (Option.some.inj (b3.symm.trans hk))
  · by_cases q2 : d' = d
    · subst q2; exact nz (a1.symm.trans hz)
    · exact a2 d (by omega) hz
theorem own_d3_0 : decode prog_66_method_1_code 0 = .ok (.aload_n 0, 1) := by decide +kernel
theorem own_d3_1 : decode prog_66_method_1_code 1 = .ok (.invokespecial 3, 3) := by decide +kernel
theorem own_d3_4 : decode prog_66_method_1_code 4 = .ok (.aload_n 0, 1) := by decide +kernel
theorem own_d3_5 : decode prog_66_method_1_code 5 = .ok (.sipush 1024, 3) := by decide +kernel
theorem own_d3_8 : decode prog_66_method_1_code 8 = .ok (.newarray .int, 2) := by decide +kernel
theorem own_d3_10 : decode prog_66_method_1_code 10 = .ok (.putfield 9, 3) := by decide +kernel
theorem own_d3_13 : decode prog_66_method_1_code 13 = .ok (.aload_n 0, 1) := by decide +kernel
theorem own_d3_14 : decode prog_66_method_1_code 14 = .ok (.sipush 512, 3) := by decide +kernel
theorem own_d3_17 : decode prog_66_method_1_code 17 = .ok (.newarray .int, 2) := by decide +kernel
theorem own_d3_19 : decode prog_66_method_1_code 19 = .ok (.putfield 15, 3) := by decide +kernel
theorem own_d3_22 : decode prog_66_method_1_code 22 = .ok (.aload_n 0, 1) := by decide +kernel
theorem own_d3_23 : decode prog_66_method_1_code 23 = .ok (.sipush 513, 3) := by decide +kernel
theorem own_d3_26 : decode prog_66_method_1_code 26 = .ok (.newarray .int, 2) := by decide +kernel
theorem own_d3_28 : decode prog_66_method_1_code 28 = .ok (.putfield 18, 3) := by decide +kernel
theorem own_d3_31 : decode prog_66_method_1_code 31 = .ok (.aload_n 0, 1) := by decide +kernel
theorem own_d3_32 : decode prog_66_method_1_code 32 = .ok (.sipush 4096, 3) := by decide +kernel
theorem own_d3_35 : decode prog_66_method_1_code 35 = .ok (.newarray .char, 2) := by decide +kernel
theorem own_d3_37 : decode prog_66_method_1_code 37 = .ok (.putfield 21, 3) := by decide +kernel
theorem own_d3_40 : decode prog_66_method_1_code 40 = .ok (.return_, 1) := by decide +kernel
def own_Q3 (Z : State) (a1 : Addr) (h0 : Heap) (n0 : Nat) (v : Option Value) (h : Heap) (L : List Loc) : Prop := ∃ sl : Addr, ∃ ha : Addr, ∃ st : Addr, ∃ ch : Addr, ∃ ksl : ClassId, ∃ kha : ClassId, ∃ kst : ClassId, ∃ kch : ClassId, v = none ∧ Fr n0 L ∧ Keep h0 h [a1] ∧ Exa Z h a1 "com/example/archerfish/archerfish/index/TokenTable" ∧ Fld Z h a1 "com/example/archerfish/archerfish/index/TokenTable" "slots" "[I" (.ref sl) ∧ Fld Z h a1 "com/example/archerfish/archerfish/index/TokenTable" "hashes" "[I" (.ref ha) ∧ Fld Z h a1 "com/example/archerfish/archerfish/index/TokenTable" "starts" "[I" (.ref st) ∧ Fld Z h a1 "com/example/archerfish/archerfish/index/TokenTable" "chars" "[C" (.ref ch) ∧ Fld Z h a1 "com/example/archerfish/archerfish/index/TokenTable" "size" "I" (.int (0 : Int32)) ∧ Arv Z h sl ksl .int (1024 : Int32) (List.map Value.int (List.replicate 1024 (0 : Int32))) (.int (0 : Int32)) ∧ Arv Z h ha kha .int (512 : Int32) (List.replicate 512 (.int (0 : Int32))) (.int (0 : Int32)) ∧ Arv Z h st kst .int (513 : Int32) (List.replicate 513 (.int (0 : Int32))) (.int (0 : Int32)) ∧ Arv Z h ch kch .char (4096 : Int32) (List.replicate 4096 (.int (0 : Int32))) (.int (0 : Int32)) ∧ (h0.size ≤ sl) ∧ (h0.size ≤ ha) ∧ (h0.size ≤ st) ∧ (h0.size ≤ ch) ∧ (sl ≠ ha) ∧ (sl ≠ st) ∧ (sl ≠ ch) ∧ (ha ≠ st) ∧ (ha ≠ ch) ∧ (st ≠ ch)
theorem own_ef_own_rm3 (m : MethodId) (a1 : Addr) : entryFrame m #[(.ref a1)] 1 = mkF m 0 #[.val (.ref a1)] [] := by first | (simp [entryFrame, mkF, argsToLocals, Value.category]; done) | rfl
set_option maxRecDepth 65536 in
set_option maxHeartbeats 40000000 in
theorem own_rm3 (l : Launch) (Z : State) (a0 : Array Value) (hw : ∀ d ∈ tables_1, d.before a0 Z = true) (ws : List Jvm.Cond) (a1 : Addr) (h0 : Heap) (n0 : Nat) (Z0 : n0 ≤ h0.size) (E_a1 : Exa Z h0 a1 "com/example/archerfish/archerfish/index/TokenTable") (F_slots_a1 : Fld Z h0 a1 "com/example/archerfish/archerfish/index/TokenTable" "slots" "[I" .null) (F_hashes_a1 : Fld Z h0 a1 "com/example/archerfish/archerfish/index/TokenTable" "hashes" "[I" .null) (F_starts_a1 : Fld Z h0 a1 "com/example/archerfish/archerfish/index/TokenTable" "starts" "[I" .null) (F_chars_a1 : Fld Z h0 a1 "com/example/archerfish/archerfish/index/TokenTable" "chars" "[C" .null) (F_size_a1 : Fld Z h0 a1 "com/example/archerfish/archerfish/index/TokenTable" "size" "I" (.int (0 : Int32))) (g_a1 : n0 ≤ a1) :
    MetFree l (⟨"com/example/archerfish/archerfish/index/TokenTable", "<init>", "()V"⟩ : MethodName) (head1 (Jvm.Cond.code (⟨"com/example/archerfish/archerfish/index/TokenTable", "<init>", "()V"⟩ : MethodName) prog_66_method_1_code 1 none :: ws) ({ frames := 1, cells := 4, slots := 6145, locals := 12 } : Room)) (fun a U => a = #[(.ref a1)] ∧ Z.Warmed39 U.vm ∧ U.heap = h0) (fun _ _ _ _ _ => True) (fun _ U o U' => ∃ v L, o = .returned v ∧ own_Q3 Z a1 h0 n0 v U'.heap L ∧ FrameEnd U o U' L ({ frames := 1, cells := 4, slots := 6145, locals := 12 } : Room).cells ({ frames := 1, cells := 4, slots := 6145, locals := 12 } : Room).slots) := by
  refine MetFree.of_bodySF (plainFor_of_name own_pn0) hisR ?_
  intro p e s m args below meth c s₁ Bd hml0 hP hK
  obtain ⟨rfl, hZ, hh⟩ := hP
  have hx := Bd.exec
  have hby := Bd.bytes
  have hml : c.maxLocals = 1 := hml0
  have hown : s.vm.findClass "com/example/archerfish/archerfish/index/TokenTable" = some m.cls := findClass_of_methodNamed Bd.named
  have hnm := (name_of_methodNamed Bd.named Bd.method).1
  have X0 : Stand p l e ({ frames := 1, cells := 4, slots := 6145, locals := 12 } : Room) s m #[(.ref a1)] below meth c s₁ [] 0 0 := Stand.of_body Bd
  have e0 : s₁.heap = h0 := by rw [← hh, Bd.state]; rfl
  have N0 := Fr.nil n0
  show OE FrameEnd p e below s (own_Q3 Z a1 h0 n0) ({ frames := 1, cells := 4, slots := 6145, locals := 12 } : Room).cells ({ frames := 1, cells := 4, slots := 6145, locals := 12 } : Room).slots s₁ (entryFrame m #[(.ref a1)] 1)
  rw [own_ef_own_rm3]
  show OE _ p e below s _ _ _ s₁ (mkF m 0 #[.val (.ref a1)] [])
  refine OE.aloadN X0 hx hby own_d3_0 rfl rfl ?_
  obtain ⟨T1, X1, e1, st1⟩ := initO X0 hx hZ hown (hw _ (List.mem_of_getElem? (i := 14) rfl)) (hw _ (List.mem_of_getElem? (i := 15) rfl)) (hw _ (List.mem_of_getElem? (i := 16) rfl)) e0 (g := (mkF m 1 #[.val (.ref a1)] [(.ref a1)])) rfl (by rw [hml]; rfl) rfl (hb hby own_d3_1) (by decide) (W := 0) (by show 2 * 0 + _ ≤ _; exact Nat.le_of_eq rfl) (by decide)
  refine OE.of st1 ?_
  show OE _ p e below s _ _ _ T1 (mkF m 4 #[.val (.ref a1)] [])
  refine OE.aloadN X1 hx hby own_d3_4 rfl rfl ?_
  refine OE.sipush X1 hx hby own_d3_5 (1024 : Int32) rfl ?_
  obtain ⟨T2, h2, k2, X2, e2, E2, A2, B2, st2⟩ := newPE X1 hx hZ (hw _ (List.mem_of_getElem? (i := 17) rfl)) e1 (g := (mkF m 8 #[.val (.ref a1)] [(.int (1024 : Int32)), (.ref a1)])) rfl (hb hby own_d3_8) rfl (by decide) (cap := 1024) (by decide) (by decide) (by decide) (by decide) (ad := "[I") (by decide)
  refine OE.of st2 ?_
  obtain ⟨b2, g2⟩ : ∃ z, z = h0.size := ⟨_, rfl⟩
  rw [← g2] at A2 B2 ⊢
  have ne_a1_b2 : a1 ≠ b2 := Nat.ne_of_lt (Nat.lt_of_lt_of_le E_a1.lt (Nat.le_of_eq g2.symm))
  have g_b2 : n0 ≤ b2 := Nat.le_trans Z0 (Nat.le_of_eq g2.symm)
  have sz_b2 : h0.size ≤ b2 := Nat.le_trans (Keep.refl h0 [a1]).1 (Nat.le_of_eq g2.symm)
  have V2 : Arv Z h2 b2 k2 .int (1024 : Int32) (List.replicate 1024 (.int (0 : Int32))) (.int (0 : Int32)) := (Arv.new A2 (by decide)).pad (pad_rep [] (.int (0 : Int32)) 1024)
  show OE _ p e below s _ _ _ T2 (mkF m 10 #[.val (.ref a1)] [(.ref b2), (.ref a1)])
  have R3 : Arv Z h2 b2 k2 .int (1024 : Int32) (List.map Value.int (List.replicate 1024 (0 : Int32))) (.int (0 : Int32)) := (own_rep 1024 ▸ V2)
  have f4 : Exa Z h2 a1 "com/example/archerfish/archerfish/index/TokenTable" := (E_a1.ext E2)
  have f5 : Fld Z h2 a1 "com/example/archerfish/archerfish/index/TokenTable" "slots" "[I" .null := (F_slots_a1.ext E2)
  obtain ⟨T6, h6, X6, e6, W6, st6⟩ := putF X2 hx hZ hown (host := "") (Or.inl (hw _ (List.mem_of_getElem? (i := 18) rfl))) Via.refl e2 f5 f4 (Or.inl (hw _ (List.mem_of_getElem? (i := 19) rfl))) (hw _ (List.mem_of_getElem? (i := 9) rfl)) (ty := (.array .int)) (by decide) rfl rfl (g := (mkF m 10 #[.val (.ref a1)] [(.ref b2), (.ref a1)])) rfl rfl (hb hby own_d3_10)
  refine OE.of st6 ?_
  have N6 := Fr.snoc X6 N0 g_a1
  have Fw6 := f5.same W6
  show OE _ p e below s _ _ _ T6 (mkF m 13 #[.val (.ref a1)] [])
  refine OE.aloadN X6 hx hby own_d3_13 rfl rfl ?_
  refine OE.sipush X6 hx hby own_d3_14 (512 : Int32) rfl ?_
  obtain ⟨T7, h7, k7, X7, e7, E7, A7, B7, st7⟩ := newPE X6 hx hZ (hw _ (List.mem_of_getElem? (i := 17) rfl)) e6 (g := (mkF m 17 #[.val (.ref a1)] [(.int (512 : Int32)), (.ref a1)])) rfl (hb hby own_d3_17) rfl (by decide) (cap := 512) (by decide) (by decide) (by decide) (by decide) (ad := "[I") (by decide)
  refine OE.of st7 ?_
  obtain ⟨b7, g7⟩ : ∃ z, z = h6.size := ⟨_, rfl⟩
  rw [← g7] at A7 B7 ⊢
  have f8 : Exa Z h6 a1 "com/example/archerfish/archerfish/index/TokenTable" := (f4.wr W6)
  have ne_a1_b7 : a1 ≠ b7 := Nat.ne_of_lt (Nat.lt_of_lt_of_le f8.lt (Nat.le_of_eq g7.symm))
  have f9 : Arv Z h6 b2 k2 .int (1024 : Int32) (List.map Value.int (List.replicate 1024 (0 : Int32))) (.int (0 : Int32)) := (R3.other W6 (Ne.symm ne_a1_b2))
  have ne_b2_b7 : b2 ≠ b7 := Nat.ne_of_lt (Nat.lt_of_lt_of_le f9.lt (Nat.le_of_eq g7.symm))
  have z10 : n0 ≤ h6.size := (Nat.le_trans (Nat.le_trans Z0 E2.1) (Nat.le_of_eq W6.size.symm))
  have g_b7 : n0 ≤ b7 := Nat.le_trans z10 (Nat.le_of_eq g7.symm)
  have K11 : Keep h0 h6 [a1] := (Keep.wr (Keep.ext (Keep.refl h0 [a1]) E2) W6 (Or.inl (List.mem_of_getElem? (i := 0) rfl)))
  have sz_b7 : h0.size ≤ b7 := Nat.le_trans K11.1 (Nat.le_of_eq g7.symm)
  have V7 : Arv Z h7 b7 k7 .int (512 : Int32) (List.replicate 512 (.int (0 : Int32))) (.int (0 : Int32)) := (Arv.new A7 (by decide)).pad (pad_rep [] (.int (0 : Int32)) 512)
  show OE _ p e below s _ _ _ T7 (mkF m 19 #[.val (.ref a1)] [(.ref b7), (.ref a1)])
  have f12 : Exa Z h7 a1 "com/example/archerfish/archerfish/index/TokenTable" := (f8.ext E7)
  have f13 : Fld Z h7 a1 "com/example/archerfish/archerfish/index/TokenTable" "hashes" "[I" .null := (((F_hashes_a1.ext E2).other W6 (Or.inr (slot_ne (Or.inl (hw _ (List.mem_of_getElem? (i := 21) rfl))) (Or.inl (hw _ (List.mem_of_getElem? (i := 19) rfl))) (by decide) (t := (.array .int)) (t' := (.array .int)) (by decide) (by decide)))).ext E7)
  obtain ⟨T14, h14, X14, e14, W14, st14⟩ := putF X7 hx hZ hown (host := "") (Or.inl (hw _ (List.mem_of_getElem? (i := 20) rfl))) Via.refl e7 f13 f12 (Or.inl (hw _ (List.mem_of_getElem? (i := 21) rfl))) (hw _ (List.mem_of_getElem? (i := 9) rfl)) (ty := (.array .int)) (by decide) rfl rfl (g := (mkF m 19 #[.val (.ref a1)] [(.ref b7), (.ref a1)])) rfl rfl (hb hby own_d3_19)
  refine OE.of st14 ?_
  have N14 := Fr.snoc X14 N6 g_a1
  have Fw14 := f13.same W14
  show OE _ p e below s _ _ _ T14 (mkF m 22 #[.val (.ref a1)] [])
  refine OE.aloadN X14 hx hby own_d3_22 rfl rfl ?_
  refine OE.sipush X14 hx hby own_d3_23 (513 : Int32) rfl ?_
  obtain ⟨T15, h15, k15, X15, e15, E15, A15, B15, st15⟩ := newPE X14 hx hZ (hw _ (List.mem_of_getElem? (i := 17) rfl)) e14 (g := (mkF m 26 #[.val (.ref a1)] [(.int (513 : Int32)), (.ref a1)])) rfl (hb hby own_d3_26) rfl (by decide) (cap := 513) (by decide) (by decide) (by decide) (by decide) (ad := "[I") (by decide)
  refine OE.of st15 ?_
  obtain ⟨b15, g15⟩ : ∃ z, z = h14.size := ⟨_, rfl⟩
  rw [← g15] at A15 B15 ⊢
  have f16 : Exa Z h14 a1 "com/example/archerfish/archerfish/index/TokenTable" := (f12.wr W14)
  have ne_a1_b15 : a1 ≠ b15 := Nat.ne_of_lt (Nat.lt_of_lt_of_le f16.lt (Nat.le_of_eq g15.symm))
  have f17 : Arv Z h14 b2 k2 .int (1024 : Int32) (List.map Value.int (List.replicate 1024 (0 : Int32))) (.int (0 : Int32)) := ((f9.ext E7).other W14 (Ne.symm ne_a1_b2))
  have ne_b2_b15 : b2 ≠ b15 := Nat.ne_of_lt (Nat.lt_of_lt_of_le f17.lt (Nat.le_of_eq g15.symm))
  have f18 : Arv Z h14 b7 k7 .int (512 : Int32) (List.replicate 512 (.int (0 : Int32))) (.int (0 : Int32)) := (V7.other W14 (Ne.symm ne_a1_b7))
  have ne_b7_b15 : b7 ≠ b15 := Nat.ne_of_lt (Nat.lt_of_lt_of_le f18.lt (Nat.le_of_eq g15.symm))
  have z19 : n0 ≤ h14.size := (Nat.le_trans (Nat.le_trans z10 E7.1) (Nat.le_of_eq W14.size.symm))
  have g_b15 : n0 ≤ b15 := Nat.le_trans z19 (Nat.le_of_eq g15.symm)
  have K20 : Keep h0 h14 [a1] := (Keep.wr (Keep.ext K11 E7) W14 (Or.inl (List.mem_of_getElem? (i := 0) rfl)))
  have sz_b15 : h0.size ≤ b15 := Nat.le_trans K20.1 (Nat.le_of_eq g15.symm)
  have V15 : Arv Z h15 b15 k15 .int (513 : Int32) (List.replicate 513 (.int (0 : Int32))) (.int (0 : Int32)) := (Arv.new A15 (by decide)).pad (pad_rep [] (.int (0 : Int32)) 513)
  show OE _ p e below s _ _ _ T15 (mkF m 28 #[.val (.ref a1)] [(.ref b15), (.ref a1)])
  have f21 : Exa Z h15 a1 "com/example/archerfish/archerfish/index/TokenTable" := (f16.ext E15)
  have f22 : Fld Z h15 a1 "com/example/archerfish/archerfish/index/TokenTable" "starts" "[I" .null := (((((F_starts_a1.ext E2).other W6 (Or.inr (slot_ne (Or.inl (hw _ (List.mem_of_getElem? (i := 23) rfl))) (Or.inl (hw _ (List.mem_of_getElem? (i := 19) rfl))) (by decide) (t := (.array .int)) (t' := (.array .int)) (by decide) (by decide)))).ext E7).other W14 (Or.inr (slot_ne (Or.inl (hw _ (List.mem_of_getElem? (i := 23) rfl))) (Or.inl (hw _ (List.mem_of_getElem? (i := 21) rfl))) (by decide) (t := (.array .int)) (t' := (.array .int)) (by decide) (by decide)))).ext E15)
  obtain ⟨T23, h23, X23, e23, W23, st23⟩ := putF X15 hx hZ hown (host := "") (Or.inl (hw _ (List.mem_of_getElem? (i := 22) rfl))) Via.refl e15 f22 f21 (Or.inl (hw _ (List.mem_of_getElem? (i := 23) rfl))) (hw _ (List.mem_of_getElem? (i := 9) rfl)) (ty := (.array .int)) (by decide) rfl rfl (g := (mkF m 28 #[.val (.ref a1)] [(.ref b15), (.ref a1)])) rfl rfl (hb hby own_d3_28)
  refine OE.of st23 ?_
  have N23 := Fr.snoc X23 N14 g_a1
  have Fw23 := f22.same W23
  show OE _ p e below s _ _ _ T23 (mkF m 31 #[.val (.ref a1)] [])
  refine OE.aloadN X23 hx hby own_d3_31 rfl rfl ?_
  refine OE.sipush X23 hx hby own_d3_32 (4096 : Int32) rfl ?_
  obtain ⟨T24, h24, k24, X24, e24, E24, A24, B24, st24⟩ := newPE X23 hx hZ (hw _ (List.mem_of_getElem? (i := 0) rfl)) e23 (g := (mkF m 35 #[.val (.ref a1)] [(.int (4096 : Int32)), (.ref a1)])) rfl (hb hby own_d3_35) rfl (by decide) (cap := 4096) (by decide) (by decide) (by decide) (by decide) (ad := "[C") (by decide)
  refine OE.of st24 ?_
  obtain ⟨b24, g24⟩ : ∃ z, z = h23.size := ⟨_, rfl⟩
  rw [← g24] at A24 B24 ⊢
  have f25 : Exa Z h23 a1 "com/example/archerfish/archerfish/index/TokenTable" := (f21.wr W23)
  have ne_a1_b24 : a1 ≠ b24 := Nat.ne_of_lt (Nat.lt_of_lt_of_le f25.lt (Nat.le_of_eq g24.symm))
  have f26 : Arv Z h23 b15 k15 .int (513 : Int32) (List.replicate 513 (.int (0 : Int32))) (.int (0 : Int32)) := (V15.other W23 (Ne.symm ne_a1_b15))
  have ne_b15_b24 : b15 ≠ b24 := Nat.ne_of_lt (Nat.lt_of_lt_of_le f26.lt (Nat.le_of_eq g24.symm))
  have f27 : Arv Z h23 b2 k2 .int (1024 : Int32) (List.map Value.int (List.replicate 1024 (0 : Int32))) (.int (0 : Int32)) := ((f17.ext E15).other W23 (Ne.symm ne_a1_b2))
  have ne_b2_b24 : b2 ≠ b24 := Nat.ne_of_lt (Nat.lt_of_lt_of_le f27.lt (Nat.le_of_eq g24.symm))
  have f28 : Arv Z h23 b7 k7 .int (512 : Int32) (List.replicate 512 (.int (0 : Int32))) (.int (0 : Int32)) := ((f18.ext E15).other W23 (Ne.symm ne_a1_b7))
  have ne_b7_b24 : b7 ≠ b24 := Nat.ne_of_lt (Nat.lt_of_lt_of_le f28.lt (Nat.le_of_eq g24.symm))
  have z29 : n0 ≤ h23.size := (Nat.le_trans (Nat.le_trans z19 E15.1) (Nat.le_of_eq W23.size.symm))
  have g_b24 : n0 ≤ b24 := Nat.le_trans z29 (Nat.le_of_eq g24.symm)
  have K30 : Keep h0 h23 [a1] := (Keep.wr (Keep.ext K20 E15) W23 (Or.inl (List.mem_of_getElem? (i := 0) rfl)))
  have sz_b24 : h0.size ≤ b24 := Nat.le_trans K30.1 (Nat.le_of_eq g24.symm)
  have V24 : Arv Z h24 b24 k24 .char (4096 : Int32) (List.replicate 4096 (.int (0 : Int32))) (.int (0 : Int32)) := (Arv.new A24 (by decide)).pad (pad_rep [] (.int (0 : Int32)) 4096)
  show OE _ p e below s _ _ _ T24 (mkF m 37 #[.val (.ref a1)] [(.ref b24), (.ref a1)])
  have f31 : Exa Z h24 a1 "com/example/archerfish/archerfish/index/TokenTable" := (f25.ext E24)
  have f32 : Fld Z h24 a1 "com/example/archerfish/archerfish/index/TokenTable" "chars" "[C" .null := (((((((F_chars_a1.ext E2).other W6 (Or.inr (slot_ne (Or.inl (hw _ (List.mem_of_getElem? (i := 25) rfl))) (Or.inl (hw _ (List.mem_of_getElem? (i := 19) rfl))) (by decide) (t := (.array .char)) (t' := (.array .int)) (by decide) (by decide)))).ext E7).other W14 (Or.inr (slot_ne (Or.inl (hw _ (List.mem_of_getElem? (i := 25) rfl))) (Or.inl (hw _ (List.mem_of_getElem? (i := 21) rfl))) (by decide) (t := (.array .char)) (t' := (.array .int)) (by decide) (by decide)))).ext E15).other W23 (Or.inr (slot_ne (Or.inl (hw _ (List.mem_of_getElem? (i := 25) rfl))) (Or.inl (hw _ (List.mem_of_getElem? (i := 23) rfl))) (by decide) (t := (.array .char)) (t' := (.array .int)) (by decide) (by decide)))).ext E24)
  obtain ⟨T33, h33, X33, e33, W33, st33⟩ := putF X24 hx hZ hown (host := "") (Or.inl (hw _ (List.mem_of_getElem? (i := 24) rfl))) Via.refl e24 f32 f31 (Or.inl (hw _ (List.mem_of_getElem? (i := 25) rfl))) (hw _ (List.mem_of_getElem? (i := 9) rfl)) (ty := (.array .char)) (by decide) rfl rfl (g := (mkF m 37 #[.val (.ref a1)] [(.ref b24), (.ref a1)])) rfl rfl (hb hby own_d3_37)
  refine OE.of st33 ?_
  have N33 := Fr.snoc X33 N23 g_a1
  have Fw33 := f32.same W33
  show OE _ p e below s _ _ _ T33 (mkF m 40 #[.val (.ref a1)] [])
  refine OE.ret0 X33 hx Bd.returns Bd.notSynchronized (hb hby own_d3_40) (by decide) (by decide) ?_
  rw [e33]
  have K34 : Keep h0 h33 [a1] := (Keep.wr (Keep.ext K30 E24) W33 (Or.inl (List.mem_of_getElem? (i := 0) rfl)))
  have f35 : Exa Z h33 a1 "com/example/archerfish/archerfish/index/TokenTable" := (f31.wr W33)
  have f36 : Fld Z h33 a1 "com/example/archerfish/archerfish/index/TokenTable" "slots" "[I" (.ref b2) := ((((((Fw6.ext E7).other W14 (Or.inr (slot_ne (Or.inl (hw _ (List.mem_of_getElem? (i := 19) rfl))) (Or.inl (hw _ (List.mem_of_getElem? (i := 21) rfl))) (by decide) (t := (.array .int)) (t' := (.array .int)) (by decide) (by decide)))).ext E15).other W23 (Or.inr (slot_ne (Or.inl (hw _ (List.mem_of_getElem? (i := 19) rfl))) (Or.inl (hw _ (List.mem_of_getElem? (i := 23) rfl))) (by decide) (t := (.array .int)) (t' := (.array .int)) (by decide) (by decide)))).ext E24).other W33 (Or.inr (slot_ne (Or.inl (hw _ (List.mem_of_getElem? (i := 19) rfl))) (Or.inl (hw _ (List.mem_of_getElem? (i := 25) rfl))) (by decide) (t := (.array .int)) (t' := (.array .char)) (by decide) (by decide))))
  have f37 : Fld Z h33 a1 "com/example/archerfish/archerfish/index/TokenTable" "hashes" "[I" (.ref b7) := ((((Fw14.ext E15).other W23 (Or.inr (slot_ne (Or.inl (hw _ (List.mem_of_getElem? (i := 21) rfl))) (Or.inl (hw _ (List.mem_of_getElem? (i := 23) rfl))) (by decide) (t := (.array .int)) (t' := (.array .int)) (by decide) (by decide)))).ext E24).other W33 (Or.inr (slot_ne (Or.inl (hw _ (List.mem_of_getElem? (i := 21) rfl))) (Or.inl (hw _ (List.mem_of_getElem? (i := 25) rfl))) (by decide) (t := (.array .int)) (t' := (.array .char)) (by decide) (by decide))))
  have f38 : Fld Z h33 a1 "com/example/archerfish/archerfish/index/TokenTable" "starts" "[I" (.ref b15) := ((Fw23.ext E24).other W33 (Or.inr (slot_ne (Or.inl (hw _ (List.mem_of_getElem? (i := 23) rfl))) (Or.inl (hw _ (List.mem_of_getElem? (i := 25) rfl))) (by decide) (t := (.array .int)) (t' := (.array .char)) (by decide) (by decide))))
  have f39 : Fld Z h33 a1 "com/example/archerfish/archerfish/index/TokenTable" "size" "I" (.int (0 : Int32)) := ((((((((F_size_a1.ext E2).other W6 (Or.inr (slot_ne (Or.inl (hw _ (List.mem_of_getElem? (i := 32) rfl))) (Or.inl (hw _ (List.mem_of_getElem? (i := 19) rfl))) (by decide) (t := .int) (t' := (.array .int)) (by decide) (by decide)))).ext E7).other W14 (Or.inr (slot_ne (Or.inl (hw _ (List.mem_of_getElem? (i := 32) rfl))) (Or.inl (hw _ (List.mem_of_getElem? (i := 21) rfl))) (by decide) (t := .int) (t' := (.array .int)) (by decide) (by decide)))).ext E15).other W23 (Or.inr (slot_ne (Or.inl (hw _ (List.mem_of_getElem? (i := 32) rfl))) (Or.inl (hw _ (List.mem_of_getElem? (i := 23) rfl))) (by decide) (t := .int) (t' := (.array .int)) (by decide) (by decide)))).ext E24).other W33 (Or.inr (slot_ne (Or.inl (hw _ (List.mem_of_getElem? (i := 32) rfl))) (Or.inl (hw _ (List.mem_of_getElem? (i := 25) rfl))) (by decide) (t := .int) (t' := (.array .char)) (by decide) (by decide))))
  have f40 : Arv Z h33 b2 k2 .int (1024 : Int32) (List.map Value.int (List.replicate 1024 (0 : Int32))) (.int (0 : Int32)) := ((f27.ext E24).other W33 (Ne.symm ne_a1_b2))
  have f41 : Arv Z h33 b7 k7 .int (512 : Int32) (List.replicate 512 (.int (0 : Int32))) (.int (0 : Int32)) := ((f28.ext E24).other W33 (Ne.symm ne_a1_b7))
  have f42 : Arv Z h33 b15 k15 .int (513 : Int32) (List.replicate 513 (.int (0 : Int32))) (.int (0 : Int32)) := ((f26.ext E24).other W33 (Ne.symm ne_a1_b15))
  have f43 : Arv Z h33 b24 k24 .char (4096 : Int32) (List.replicate 4096 (.int (0 : Int32))) (.int (0 : Int32)) := (V24.other W33 (Ne.symm ne_a1_b24))
  exact ⟨b2, b7, b15, b24, k2, k7, k15, k24, rfl, N33, K34, f35, f36, f37, f38, Fw33, f39, f40, f41, f42, f43, sz_b2, sz_b7, sz_b15, sz_b24, ne_b2_b7, ne_b2_b15, ne_b2_b24, ne_b7_b15, ne_b7_b24, ne_b15_b24⟩
theorem own_d11_0 : decode prog_66_method_2_code 0 = .ok (.aload_n 0, 1) := by decide +kernel
theorem own_d11_1 : decode prog_66_method_2_code 1 = .ok (.getfield 25, 3) := by decide +kernel
theorem own_d11_4 : decode prog_66_method_2_code 4 = .ok (.ireturn, 1) := by decide +kernel
def own_Q11 (Z : State) (a1 : Addr) (nz : Int32) (h0 : Heap) (n0 : Nat) (v : Option Value) (h : Heap) (L : List Loc) : Prop := v = some (.int nz) ∧ Fr n0 L ∧ h = h0
theorem own_ef_own_rm11 (m : MethodId) (a1 : Addr) : entryFrame m #[(.ref a1)] 1 = mkF m 0 #[.val (.ref a1)] [] := by first | (simp [entryFrame, mkF, argsToLocals, Value.category]; done) | rfl
set_option maxRecDepth 65536 in
set_option maxHeartbeats 40000000 in
theorem own_rm11 (l : Launch) (Z : State) (a0 : Array Value) (hw : ∀ d ∈ tables_1, d.before a0 Z = true) (ws : List Jvm.Cond) (a1 : Addr) (nz : Int32) (h0 : Heap) (n0 : Nat) (Z0 : n0 ≤ h0.size) (F_size_a1 : Fld Z h0 a1 "com/example/archerfish/archerfish/index/TokenTable" "size" "I" (.int nz)) :
    MetFree l (⟨"com/example/archerfish/archerfish/index/TokenTable", "size", "()I"⟩ : MethodName) (head1 (Jvm.Cond.code (⟨"com/example/archerfish/archerfish/index/TokenTable", "size", "()I"⟩ : MethodName) prog_66_method_2_code 1 (some .int) :: ws) ({ frames := 0, cells := 0, slots := 0, locals := 0 } : Room)) (fun a U => a = #[(.ref a1)] ∧ Z.Warmed39 U.vm ∧ U.heap = h0) (fun _ _ _ _ _ => True) (fun _ U o U' => ∃ v L, o = .returned v ∧ own_Q11 Z a1 nz h0 n0 v U'.heap L ∧ FrameEnd U o U' L ({ frames := 0, cells := 0, slots := 0, locals := 0 } : Room).cells ({ frames := 0, cells := 0, slots := 0, locals := 0 } : Room).slots) := by
  refine MetFree.of_bodySF (plainFor_of_name own_pn0) hisR ?_
  intro p e s m args below meth c s₁ Bd hml0 hP hK
  obtain ⟨rfl, hZ, hh⟩ := hP
  have hx := Bd.exec
  have hby := Bd.bytes
  have hml : c.maxLocals = 1 := hml0
  have hown : s.vm.findClass "com/example/archerfish/archerfish/index/TokenTable" = some m.cls := findClass_of_methodNamed Bd.named
  have hnm := (name_of_methodNamed Bd.named Bd.method).1
  have X0 : Stand p l e ({ frames := 0, cells := 0, slots := 0, locals := 0 } : Room) s m #[(.ref a1)] below meth c s₁ [] 0 0 := Stand.of_body Bd
  have e0 : s₁.heap = h0 := by rw [← hh, Bd.state]; rfl
  have N0 := Fr.nil n0
  show OE FrameEnd p e below s (own_Q11 Z a1 nz h0 n0) ({ frames := 0, cells := 0, slots := 0, locals := 0 } : Room).cells ({ frames := 0, cells := 0, slots := 0, locals := 0 } : Room).slots s₁ (entryFrame m #[(.ref a1)] 1)
  rw [own_ef_own_rm11]
  show OE _ p e below s _ _ _ s₁ (mkF m 0 #[.val (.ref a1)] [])
  refine OE.aloadN X0 hx hby own_d11_0 rfl rfl ?_
  obtain ⟨T1, X1, e1, st1⟩ := getF X0 hx hZ hown (host := "") (Or.inl (hw _ (List.mem_of_getElem? (i := 31) rfl))) Via.refl e0 F_size_a1 (g := (mkF m 1 #[.val (.ref a1)] [(.ref a1)])) rfl rfl (hb hby own_d11_1)
  refine OE.of st1 ?_
  show OE _ p e below s _ _ _ T1 (mkF m 4 #[.val (.ref a1)] [(.int nz)])
  refine OE.retI X1 hx Bd.returns Bd.notSynchronized (hb hby own_d11_4) (by decide) (by decide) ?_
  rw [e1]
  exact ⟨rfl, N0, rfl⟩
theorem own_d5_0 : decode prog_66_method_4_code 0 = .ok (.iload_n 3, 1) := by decide +kernel
theorem own_d5_1 : decode prog_66_method_4_code 1 = .ok (.iload_n 2, 1) := by decide +kernel
theorem own_d5_2 : decode prog_66_method_4_code 2 = .ok (.isub, 1) := by decide +kernel
theorem own_d5_3 : decode prog_66_method_4_code 3 = .ok (.istore 4, 2) := by decide +kernel
theorem own_d5_5 : decode prog_66_method_4_code 5 = .ok (.aload_n 0, 1) := by decide +kernel
theorem own_d5_6 : decode prog_66_method_4_code 6 = .ok (.getfield 18, 3) := by decide +kernel
theorem own_d5_9 : decode prog_66_method_4_code 9 = .ok (.aload_n 0, 1) := by decide +kernel
theorem own_d5_10 : decode prog_66_method_4_code 10 = .ok (.getfield 25, 3) := by decide +kernel
theorem own_d5_13 : decode prog_66_method_4_code 13 = .ok (.iaload, 1) := by decide +kernel
theorem own_d5_14 : decode prog_66_method_4_code 14 = .ok (.istore 5, 2) := by decide +kernel
theorem own_d5_16 : decode prog_66_method_4_code 16 = .ok (.iload 5, 2) := by decide +kernel
theorem own_d5_18 : decode prog_66_method_4_code 18 = .ok (.i2l, 1) := by decide +kernel
theorem own_d5_19 : decode prog_66_method_4_code 19 = .ok (.iload 4, 2) := by decide +kernel
theorem own_d5_21 : decode prog_66_method_4_code 21 = .ok (.i2l, 1) := by decide +kernel
theorem own_d5_22 : decode prog_66_method_4_code 22 = .ok (.ladd, 1) := by decide +kernel
theorem own_d5_23 : decode prog_66_method_4_code 23 = .ok (.ldc2_w 37, 3) := by decide +kernel
theorem own_d5_26 : decode prog_66_method_4_code 26 = .ok (.lcmp, 1) := by decide +kernel
theorem own_d5_27 : decode prog_66_method_4_code 27 = .ok (.ifCond .le 13, 3) := by decide +kernel
theorem own_d5_40 : decode prog_66_method_4_code 40 = .ok (.iload 5, 2) := by decide +kernel
theorem own_d5_42 : decode prog_66_method_4_code 42 = .ok (.iload 4, 2) := by decide +kernel
theorem own_d5_44 : decode prog_66_method_4_code 44 = .ok (.iadd, 1) := by decide +kernel
theorem own_d5_45 : decode prog_66_method_4_code 45 = .ok (.aload_n 0, 1) := by decide +kernel
theorem own_d5_46 : decode prog_66_method_4_code 46 = .ok (.getfield 21, 3) := by decide +kernel
theorem own_d5_49 : decode prog_66_method_4_code 49 = .ok (.arraylength, 1) := by decide +kernel
theorem own_d5_50 : decode prog_66_method_4_code 50 = .ok (.if_icmp .le 40, 3) := by decide +kernel
theorem own_d5_90 : decode prog_66_method_4_code 90 = .ok (.aload_n 0, 1) := by decide +kernel
theorem own_d5_91 : decode prog_66_method_4_code 91 = .ok (.getfield 25, 3) := by decide +kernel
theorem own_d5_94 : decode prog_66_method_4_code 94 = .ok (.aload_n 0, 1) := by decide +kernel
theorem own_d5_95 : decode prog_66_method_4_code 95 = .ok (.getfield 15, 3) := by decide +kernel
theorem own_d5_98 : decode prog_66_method_4_code 98 = .ok (.arraylength, 1) := by decide +kernel
theorem own_d5_99 : decode prog_66_method_4_code 99 = .ok (.if_icmp .ne 39, 3) := by decide +kernel
theorem own_d5_138 : decode prog_66_method_4_code 138 = .ok (.aload_n 0, 1) := by decide +kernel
theorem own_d5_139 : decode prog_66_method_4_code 139 = .ok (.getfield 25, 3) := by decide +kernel
theorem own_d5_142 : decode prog_66_method_4_code 142 = .ok (.istore 6, 2) := by decide +kernel
theorem own_d5_144 : decode prog_66_method_4_code 144 = .ok (.aload_n 1, 1) := by decide +kernel
theorem own_d5_145 : decode prog_66_method_4_code 145 = .ok (.iload_n 2, 1) := by decide +kernel
theorem own_d5_146 : decode prog_66_method_4_code 146 = .ok (.aload_n 0, 1) := by decide +kernel
theorem own_d5_147 : decode prog_66_method_4_code 147 = .ok (.getfield 21, 3) := by decide +kernel
theorem own_d5_150 : decode prog_66_method_4_code 150 = .ok (.iload 5, 2) := by decide +kernel
theorem own_d5_152 : decode prog_66_method_4_code 152 = .ok (.iload 4, 2) := by decide +kernel
theorem own_d5_154 : decode prog_66_method_4_code 154 = .ok (.invokestatic 66, 3) := by decide +kernel
theorem own_d5_157 : decode prog_66_method_4_code 157 = .ok (.aload_n 0, 1) := by decide +kernel
theorem own_d5_158 : decode prog_66_method_4_code 158 = .ok (.getfield 15, 3) := by decide +kernel
theorem own_d5_161 : decode prog_66_method_4_code 161 = .ok (.iload 6, 2) := by decide +kernel
theorem own_d5_163 : decode prog_66_method_4_code 163 = .ok (.aload_n 1, 1) := by decide +kernel
theorem own_d5_164 : decode prog_66_method_4_code 164 = .ok (.iload_n 2, 1) := by decide +kernel
theorem own_d5_165 : decode prog_66_method_4_code 165 = .ok (.iload_n 3, 1) := by decide +kernel
theorem own_d5_166 : decode prog_66_method_4_code 166 = .ok (.invokestatic 29, 3) := by decide +kernel
theorem own_pd0 : parseMethodDescriptor "([CII)I" = some ⟨[(.array .char), .int, .int], some .int⟩ := by decide +kernel
theorem own_d5_169 : decode prog_66_method_4_code 169 = .ok (.iastore, 1) := by decide +kernel
theorem own_d5_170 : decode prog_66_method_4_code 170 = .ok (.aload_n 0, 1) := by decide +kernel
theorem own_d5_171 : decode prog_66_method_4_code 171 = .ok (.getfield 18, 3) := by decide +kernel
theorem own_d5_174 : decode prog_66_method_4_code 174 = .ok (.iload 6, 2) := by decide +kernel
theorem own_d5_176 : decode prog_66_method_4_code 176 = .ok (.iconst 1, 1) := by decide +kernel
theorem own_d5_177 : decode prog_66_method_4_code 177 = .ok (.iadd, 1) := by decide +kernel
theorem own_d5_178 : decode prog_66_method_4_code 178 = .ok (.iload 5, 2) := by decide +kernel
theorem own_d5_180 : decode prog_66_method_4_code 180 = .ok (.iload 4, 2) := by decide +kernel
theorem own_d5_182 : decode prog_66_method_4_code 182 = .ok (.iadd, 1) := by decide +kernel
theorem own_d5_183 : decode prog_66_method_4_code 183 = .ok (.iastore, 1) := by decide +kernel
theorem own_d5_184 : decode prog_66_method_4_code 184 = .ok (.aload_n 0, 1) := by decide +kernel
theorem own_d5_185 : decode prog_66_method_4_code 185 = .ok (.dup, 1) := by decide +kernel
theorem own_d5_186 : decode prog_66_method_4_code 186 = .ok (.getfield 25, 3) := by decide +kernel
theorem own_d5_189 : decode prog_66_method_4_code 189 = .ok (.iconst 1, 1) := by decide +kernel
theorem own_d5_190 : decode prog_66_method_4_code 190 = .ok (.iadd, 1) := by decide +kernel
theorem own_d5_191 : decode prog_66_method_4_code 191 = .ok (.putfield 25, 3) := by decide +kernel
theorem own_d5_194 : decode prog_66_method_4_code 194 = .ok (.iconst 2, 1) := by decide +kernel
theorem own_d5_195 : decode prog_66_method_4_code 195 = .ok (.aload_n 0, 1) := by decide +kernel
theorem own_d5_196 : decode prog_66_method_4_code 196 = .ok (.getfield 25, 3) := by decide +kernel
theorem own_d5_199 : decode prog_66_method_4_code 199 = .ok (.imul, 1) := by decide +kernel
theorem own_d5_200 : decode prog_66_method_4_code 200 = .ok (.aload_n 0, 1) := by decide +kernel
theorem own_d5_201 : decode prog_66_method_4_code 201 = .ok (.getfield 9, 3) := by decide +kernel
theorem own_d5_204 : decode prog_66_method_4_code 204 = .ok (.arraylength, 1) := by decide +kernel
theorem own_d5_205 : decode prog_66_method_4_code 205 = .ok (.if_icmp .le 43, 3) := by decide +kernel
theorem own_d5_248 : decode prog_66_method_4_code 248 = .ok (.aload_n 0, 1) := by decide +kernel
theorem own_d5_249 : decode prog_66_method_4_code 249 = .ok (.iload 6, 2) := by decide +kernel
theorem own_d5_251 : decode prog_66_method_4_code 251 = .ok (.invokevirtual 72, 3) := by decide +kernel
theorem own_pd1 : parseMethodDescriptor "(I)V" = some ⟨[.int], none⟩ := by decide +kernel
theorem own_d5_254 : decode prog_66_method_4_code 254 = .ok (.iload 6, 2) := by decide +kernel
theorem own_d5_256 : decode prog_66_method_4_code 256 = .ok (.ireturn, 1) := by decide +kernel
def own_Q5 (Z : State) (a1 : Addr) (a2 : Addr) (p3 : Int32) (p4 : Int32) (sl : Addr) (ha : Addr) (st : Addr) (ch : Addr) (ksl : ClassId) (kha : ClassId) (kst : ClassId) (kch : ClassId) (kt : ClassId) (S : List Int32) (vsH : List Value) (vsS : List Value) (vsC : List Value) (cs : List Int32) (toks : List (List Int32)) (F : Int32) (nz : Int32) (nz1 : Int32) (h0 : Heap) (n0 : Nat) (v : Option Value) (h : Heap) (L : List Loc) : Prop := ∃ vsS1 : List Value, ∃ vsH1 : List Value, ∃ vsC1 : List Value, ∃ S1 : List Int32, ∃ F1 : Int32, v = some (.int nz) ∧ Fr n0 L ∧ Keep h0 h [a1, sl, ha, st, ch] ∧ Exa Z h a1 "com/example/archerfish/archerfish/index/TokenTable" ∧ Fld Z h a1 "com/example/archerfish/archerfish/index/TokenTable" "slots" "[I" (.ref sl) ∧ Fld Z h a1 "com/example/archerfish/archerfish/index/TokenTable" "hashes" "[I" (.ref ha) ∧ Fld Z h a1 "com/example/archerfish/archerfish/index/TokenTable" "starts" "[I" (.ref st) ∧ Fld Z h a1 "com/example/archerfish/archerfish/index/TokenTable" "chars" "[C" (.ref ch) ∧ Fld Z h a1 "com/example/archerfish/archerfish/index/TokenTable" "size" "I" (.int nz1) ∧ Arv Z h sl ksl .int (1024 : Int32) (List.map Value.int S1) (.int (0 : Int32)) ∧ Arv Z h ha kha .int (512 : Int32) vsH1 (.int (0 : Int32)) ∧ Arv Z h st kst .int (513 : Int32) vsS1 (.int (0 : Int32)) ∧ Arv Z h ch kch .char (4096 : Int32) vsC1 (.int (0 : Int32)) ∧ (own_inv (toks ++ [(own_sl cs p3 p4)]) vsS1 vsH1 vsC1 S1 F1)
theorem own_ef_own_rm5 (m : MethodId) (a1 : Addr) (a2 : Addr) (p3 : Int32) (p4 : Int32) : entryFrame m #[(.ref a1), (.ref a2), (.int p3), (.int p4)] 8 = mkF m 0 #[.val (.ref a1), .val (.ref a2), .val (.int p3), .val (.int p4), .unset, .unset, .unset, .unset] [] := by first | (simp [entryFrame, mkF, argsToLocals, Value.category]; done) | rfl
set_option maxRecDepth 65536 in
set_option maxHeartbeats 40000000 in
theorem own_rm5 (l : Launch) (Z : State) (a0 : Array Value) (hw : ∀ d ∈ tables_1, d.before a0 Z = true) (ws : List Jvm.Cond) (a1 : Addr) (a2 : Addr) (p3 : Int32) (p4 : Int32) (sl : Addr) (ha : Addr) (st : Addr) (ch : Addr) (ksl : ClassId) (kha : ClassId) (kst : ClassId) (kch : ClassId) (kt : ClassId) (S : List Int32) (vsH : List Value) (vsS : List Value) (vsC : List Value) (cs : List Int32) (toks : List (List Int32)) (F : Int32) (nz : Int32) (nz1 : Int32) (h0 : Heap) (n0 : Nat) (Z0 : n0 ≤ h0.size) (E_a1 : Exa Z h0 a1 "com/example/archerfish/archerfish/index/TokenTable") (F_slots_a1 : Fld Z h0 a1 "com/example/archerfish/archerfish/index/TokenTable" "slots" "[I" (.ref sl)) (F_hashes_a1 : Fld Z h0 a1 "com/example/archerfish/archerfish/index/TokenTable" "hashes" "[I" (.ref ha)) (F_starts_a1 : Fld Z h0 a1 "com/example/archerfish/archerfish/index/TokenTable" "starts" "[I" (.ref st)) (F_chars_a1 : Fld Z h0 a1 "com/example/archerfish/archerfish/index/TokenTable" "chars" "[C" (.ref ch)) (V_sl : Arv Z h0 sl ksl .int (1024 : Int32) (List.map Value.int S) (.int (0 : Int32))) (V_ha : Arv Z h0 ha kha .int (512 : Int32) vsH (.int (0 : Int32))) (V_st : Arv Z h0 st kst .int (513 : Int32) vsS (.int (0 : Int32))) (V_ch : Arv Z h0 ch kch .char (4096 : Int32) vsC (.int (0 : Int32))) (V_a2 : Arv Z h0 a2 kt .char (4 : Int32) (List.map Value.int cs) (.int (0 : Int32))) (g_a1 : n0 ≤ a1) (g_sl : n0 ≤ sl) (g_ha : n0 ≤ ha) (g_st : n0 ≤ st) (g_ch : n0 ≤ ch) (ne_a1_sl : a1 ≠ sl) (ne_a1_ha : a1 ≠ ha) (ne_a1_st : a1 ≠ st) (ne_a1_ch : a1 ≠ ch) (ne_sl_ha : sl ≠ ha) (ne_sl_st : sl ≠ st) (ne_sl_ch : sl ≠ ch) (ne_ha_st : ha ≠ st) (ne_ha_ch : ha ≠ ch) (ne_st_ch : st ≠ ch) (ne_a2_ch : a2 ≠ ch) (hI : own_inv toks vsS vsH vsC S F) (hcl : cs.length = 4) (hrg : own_rg p3 p4) (F_size_a1 : Fld Z h0 a1 "com/example/archerfish/archerfish/index/TokenTable" "size" "I" (.int nz)) (ht : toks.length ≤ 2) (hnz : nz.toInt = toks.length) (hn1 : nz1 = nz + (1 : Int32)) :
    MetFree l (⟨"com/example/archerfish/archerfish/index/TokenTable", "add", "([CII)I"⟩ : MethodName) (head1 (Jvm.Cond.code (⟨"com/example/archerfish/archerfish/index/TokenTable", "add", "([CII)I"⟩ : MethodName) prog_66_method_4_code 8 (some .int) :: ws) ({ frames := 1, cells := 0, slots := 0, locals := 27 } : Room)) (fun a U => a = #[(.ref a1), (.ref a2), (.int p3), (.int p4)] ∧ Z.Warmed39 U.vm ∧ U.heap = h0) (fun _ _ _ _ _ => True) (fun _ U o U' => ∃ v L, o = .returned v ∧ own_Q5 Z a1 a2 p3 p4 sl ha st ch ksl kha kst kch kt S vsH vsS vsC cs toks F nz nz1 h0 n0 v U'.heap L ∧ FrameEnd U o U' L ({ frames := 1, cells := 0, slots := 0, locals := 27 } : Room).cells ({ frames := 1, cells := 0, slots := 0, locals := 27 } : Room).slots) := by
  refine MetFree.of_bodySF (plainFor_of_name own_pn0) hisR ?_
  intro p e s m args below meth c s₁ Bd hml0 hP hK
  obtain ⟨rfl, hZ, hh⟩ := hP
  have hx := Bd.exec
  have hby := Bd.bytes
  have hml : c.maxLocals = 8 := hml0
  have hown : s.vm.findClass "com/example/archerfish/archerfish/index/TokenTable" = some m.cls := findClass_of_methodNamed Bd.named
  have hnm := (name_of_methodNamed Bd.named Bd.method).1
  have X0 : Stand p l e ({ frames := 1, cells := 0, slots := 0, locals := 27 } : Room) s m #[(.ref a1), (.ref a2), (.int p3), (.int p4)] below meth c s₁ [] 0 0 := Stand.of_body Bd
  have e0 : s₁.heap = h0 := by rw [← hh, Bd.state]; rfl
  have N0 := Fr.nil n0
  show OE FrameEnd p e below s (own_Q5 Z a1 a2 p3 p4 sl ha st ch ksl kha kst kch kt S vsH vsS vsC cs toks F nz nz1 h0 n0) ({ frames := 1, cells := 0, slots := 0, locals := 27 } : Room).cells ({ frames := 1, cells := 0, slots := 0, locals := 27 } : Room).slots s₁ (entryFrame m #[(.ref a1), (.ref a2), (.int p3), (.int p4)] 8)
  rw [own_ef_own_rm5]
  have nq := own_nz hnz ht hn1
  have l4 := own_len4 hcl hrg
  have fq := own_fit ht hI.2.1.2.1 hI.2.1.2.2 l4.2.2.1 l4.2.2.2
  show OE _ p e below s _ _ _ s₁ (mkF m 0 #[.val (.ref a1), .val (.ref a2), .val (.int p3), .val (.int p4), .unset, .unset, .unset, .unset] [])
  refine OE.iloadN X0 hx hby own_d5_0 rfl ?_
  refine OE.iloadN X0 hx hby own_d5_1 rfl ?_
  refine OE.isub X0 hx hby own_d5_2 ?_
  refine OE.istore X0 hx hby own_d5_3 (l' := #[.val (.ref a1), .val (.ref a2), .val (.int p3), .val (.int p4), .val (.int (p4 - p3)), .unset, .unset, .unset]) rfl ?_
  refine OE.aloadN X0 hx hby own_d5_5 rfl rfl ?_
  obtain ⟨T1, X1, e1, st1⟩ := getF X0 hx hZ hown (host := "") (Or.inl (hw _ (List.mem_of_getElem? (i := 22) rfl))) Via.refl e0 F_starts_a1 (g := (mkF m 6 #[.val (.ref a1), .val (.ref a2), .val (.int p3), .val (.int p4), .val (.int (p4 - p3)), .unset, .unset, .unset] [(.ref a1)])) rfl rfl (hb hby own_d5_6)
  refine OE.of st1 ?_
  show OE _ p e below s _ _ _ T1 (mkF m 9 #[.val (.ref a1), .val (.ref a2), .val (.int p3), .val (.int p4), .val (.int (p4 - p3)), .unset, .unset, .unset] [(.ref st)])
  refine OE.aloadN X1 hx hby own_d5_9 rfl rfl ?_
  obtain ⟨T2, X2, e2, st2⟩ := getF X1 hx hZ hown (host := "") (Or.inl (hw _ (List.mem_of_getElem? (i := 31) rfl))) Via.refl e1 F_size_a1 (g := (mkF m 10 #[.val (.ref a1), .val (.ref a2), .val (.int p3), .val (.int p4), .val (.int (p4 - p3)), .unset, .unset, .unset] [(.ref a1), (.ref st)])) rfl rfl (hb hby own_d5_10)
  refine OE.of st2 ?_
  show OE _ p e below s _ _ _ T2 (mkF m 13 #[.val (.ref a1), .val (.ref a2), .val (.int p3), .val (.int p4), .val (.int (p4 - p3)), .unset, .unset, .unset] [(.int nz), (.ref st)])
  have Vo3 := V_st
  obtain ⟨cl3, Ar3, -, Sz3, Nz3, Hz3, Gz3⟩ := Vo3
  have hin3 : ¬ (nz < 0 ∨ cl3.slots.size ≤ (nz).toNatClampNeg) := inb_of Sz3 nq.2.1
  have hat3 : cl3.slots[(nz).toNatClampNeg]? = some (.int F) := Has.at Hz3 hin3 (by rw [nq.2.2.2.2.2.1]; exact hI.2.1.1)
  refine OE.of (X2.iaload hx (j := nz) (v := (.int F)) (by rw [e2]; exact Ar3.1) (State.isArrayOf_alike hZ.alike Ar3.2.1) Ar3.2.2 hin3 hat3 (g := (mkF m 13 #[.val (.ref a1), .val (.ref a2), .val (.int p3), .val (.int p4), .val (.int (p4 - p3)), .unset, .unset, .unset] [(.int nz), (.ref st)])) rfl rfl (hb hby own_d5_13)) ?_
  show OE _ p e below s _ _ _ T2 (mkF m 14 #[.val (.ref a1), .val (.ref a2), .val (.int p3), .val (.int p4), .val (.int (p4 - p3)), .unset, .unset, .unset] [(.int F)])
  refine OE.istore X2 hx hby own_d5_14 (l' := #[.val (.ref a1), .val (.ref a2), .val (.int p3), .val (.int p4), .val (.int (p4 - p3)), .val (.int F), .unset, .unset]) rfl ?_
  refine OE.iload X2 hx hby own_d5_16 rfl ?_
  refine OE.i2l X2 hx hby own_d5_18 ?_
  refine OE.iload X2 hx hby own_d5_19 rfl ?_
  refine OE.i2l X2 hx hby own_d5_21 ?_
  refine OE.ladd X2 hx hby own_d5_22 ?_
  refine OE.of (X2.ldc2Long hx hown (mvT hZ (hw _ (List.mem_of_getElem? (i := 33) rfl))) (g := (mkF m 23 #[.val (.ref a1), .val (.ref a2), .val (.int p3), .val (.int p4), .val (.int (p4 - p3)), .val (.int F), .unset, .unset] [(.long ((F.toInt64) + ((p4 - p3).toInt64)))])) rfl (hb hby own_d5_23)) ?_
  show OE _ p e below s _ _ _ T2 (mkF m 26 #[.val (.ref a1), .val (.ref a2), .val (.int p3), .val (.int p4), .val (.int (p4 - p3)), .val (.int F), .unset, .unset] [(.long (2147483639 : Int64)), (.long ((F.toInt64) + ((p4 - p3).toInt64)))])
  refine OE.lcmp X2 hx hby own_d5_26 ?_
  refine OE.ifYes X2 hx hby (pc' := 40) own_d5_27 (flt (fq.1 : ¬ ((0 : Int32) < (lcmpW ((F.toInt64) + ((p4 - p3).toInt64)) (2147483639 : Int64))))).2.2.2 (h := ?_)
  refine OE.iload X2 hx hby own_d5_40 rfl ?_
  refine OE.iload X2 hx hby own_d5_42 rfl ?_
  refine OE.iadd X2 hx hby own_d5_44 ?_
  refine OE.aloadN X2 hx hby own_d5_45 rfl rfl ?_
  obtain ⟨T4, X4, e4, st4⟩ := getF X2 hx hZ hown (host := "") (Or.inl (hw _ (List.mem_of_getElem? (i := 24) rfl))) Via.refl e2 F_chars_a1 (g := (mkF m 46 #[.val (.ref a1), .val (.ref a2), .val (.int p3), .val (.int p4), .val (.int (p4 - p3)), .val (.int F), .unset, .unset] [(.ref a1), (.int (F + (p4 - p3)))])) rfl rfl (hb hby own_d5_46)
  refine OE.of st4 ?_
  show OE _ p e below s _ _ _ T4 (mkF m 49 #[.val (.ref a1), .val (.ref a2), .val (.int p3), .val (.int p4), .val (.int (p4 - p3)), .val (.int F), .unset, .unset] [(.ref ch), (.int (F + (p4 - p3)))])
  have Vo5 := V_ch
  obtain ⟨cl5, Ar5, -, Sz5, Nz5, -, -⟩ := Vo5
  refine OE.of (X4.arraylength hx (by rw [e4]; exact Ar5.1) (State.isArrayOf_alike hZ.alike Ar5.2.1) (g := (mkF m 49 #[.val (.ref a1), .val (.ref a2), .val (.int p3), .val (.int p4), .val (.int (p4 - p3)), .val (.int F), .unset, .unset] [(.ref ch), (.int (F + (p4 - p3)))])) rfl rfl (hb hby own_d5_49)) ?_
  rw [len_of Sz5 Nz5]
  show OE _ p e below s _ _ _ T4 (mkF m 50 #[.val (.ref a1), .val (.ref a2), .val (.int p3), .val (.int p4), .val (.int (p4 - p3)), .val (.int F), .unset, .unset] [(.int (4096 : Int32)), (.int (F + (p4 - p3)))])
  refine OE.icmpYes X4 hx hby (pc' := 90) own_d5_50 (flt (fq.2.1 : ¬ ((4096 : Int32) < (F + (p4 - p3))))).2.2.2 (h := ?_)
  refine OE.aloadN X4 hx hby own_d5_90 rfl rfl ?_
  obtain ⟨T6, X6, e6, st6⟩ := getF X4 hx hZ hown (host := "") (Or.inl (hw _ (List.mem_of_getElem? (i := 31) rfl))) Via.refl e4 F_size_a1 (g := (mkF m 91 #[.val (.ref a1), .val (.ref a2), .val (.int p3), .val (.int p4), .val (.int (p4 - p3)), .val (.int F), .unset, .unset] [(.ref a1)])) rfl rfl (hb hby own_d5_91)
  refine OE.of st6 ?_
  show OE _ p e below s _ _ _ T6 (mkF m 94 #[.val (.ref a1), .val (.ref a2), .val (.int p3), .val (.int p4), .val (.int (p4 - p3)), .val (.int F), .unset, .unset] [(.int nz)])
  refine OE.aloadN X6 hx hby own_d5_94 rfl rfl ?_
  obtain ⟨T7, X7, e7, st7⟩ := getF X6 hx hZ hown (host := "") (Or.inl (hw _ (List.mem_of_getElem? (i := 20) rfl))) Via.refl e6 F_hashes_a1 (g := (mkF m 95 #[.val (.ref a1), .val (.ref a2), .val (.int p3), .val (.int p4), .val (.int (p4 - p3)), .val (.int F), .unset, .unset] [(.ref a1), (.int nz)])) rfl rfl (hb hby own_d5_95)
  refine OE.of st7 ?_
  show OE _ p e below s _ _ _ T7 (mkF m 98 #[.val (.ref a1), .val (.ref a2), .val (.int p3), .val (.int p4), .val (.int (p4 - p3)), .val (.int F), .unset, .unset] [(.ref ha), (.int nz)])
  have Vo8 := V_ha
  obtain ⟨cl8, Ar8, -, Sz8, Nz8, -, -⟩ := Vo8
  refine OE.of (X7.arraylength hx (by rw [e7]; exact Ar8.1) (State.isArrayOf_alike hZ.alike Ar8.2.1) (g := (mkF m 98 #[.val (.ref a1), .val (.ref a2), .val (.int p3), .val (.int p4), .val (.int (p4 - p3)), .val (.int F), .unset, .unset] [(.ref ha), (.int nz)])) rfl rfl (hb hby own_d5_98)) ?_
  rw [len_of Sz8 Nz8]
  show OE _ p e below s _ _ _ T7 (mkF m 99 #[.val (.ref a1), .val (.ref a2), .val (.int p3), .val (.int p4), .val (.int (p4 - p3)), .val (.int F), .unset, .unset] [(.int (512 : Int32)), (.int nz)])
  refine OE.icmpYes X7 hx hby (pc' := 138) own_d5_99 (feq (nq.2.2.2.1 : ¬ (nz = (512 : Int32)))).2 (h := ?_)
  refine OE.aloadN X7 hx hby own_d5_138 rfl rfl ?_
  obtain ⟨T9, X9, e9, st9⟩ := getF X7 hx hZ hown (host := "") (Or.inl (hw _ (List.mem_of_getElem? (i := 31) rfl))) Via.refl e7 F_size_a1 (g := (mkF m 139 #[.val (.ref a1), .val (.ref a2), .val (.int p3), .val (.int p4), .val (.int (p4 - p3)), .val (.int F), .unset, .unset] [(.ref a1)])) rfl rfl (hb hby own_d5_139)
  refine OE.of st9 ?_
  show OE _ p e below s _ _ _ T9 (mkF m 142 #[.val (.ref a1), .val (.ref a2), .val (.int p3), .val (.int p4), .val (.int (p4 - p3)), .val (.int F), .unset, .unset] [(.int nz)])
  refine OE.istore X9 hx hby own_d5_142 (l' := #[.val (.ref a1), .val (.ref a2), .val (.int p3), .val (.int p4), .val (.int (p4 - p3)), .val (.int F), .val (.int nz), .unset]) rfl ?_
  refine OE.aloadN X9 hx hby own_d5_144 rfl rfl ?_
  refine OE.iloadN X9 hx hby own_d5_145 rfl ?_
  refine OE.aloadN X9 hx hby own_d5_146 rfl rfl ?_
  obtain ⟨T10, X10, e10, st10⟩ := getF X9 hx hZ hown (host := "") (Or.inl (hw _ (List.mem_of_getElem? (i := 24) rfl))) Via.refl e9 F_chars_a1 (g := (mkF m 147 #[.val (.ref a1), .val (.ref a2), .val (.int p3), .val (.int p4), .val (.int (p4 - p3)), .val (.int F), .val (.int nz), .unset] [(.ref a1), (.int p3), (.ref a2)])) rfl rfl (hb hby own_d5_147)
  refine OE.of st10 ?_
  show OE _ p e below s _ _ _ T10 (mkF m 150 #[.val (.ref a1), .val (.ref a2), .val (.int p3), .val (.int p4), .val (.int (p4 - p3)), .val (.int F), .val (.int nz), .unset] [(.ref ch), (.int p3), (.ref a2)])
  refine OE.iload X10 hx hby own_d5_150 rfl ?_
  refine OE.iload X10 hx hby own_d5_152 rfl ?_
  obtain ⟨T11, h11, L11, X11, e11, N11, K11, V11, st11⟩ := cpA X10 hx hZ hown (hw _ (List.mem_of_getElem? (i := 34) rfl)) (hw _ (List.mem_of_getElem? (i := 37) rfl)) (hw _ (List.mem_of_getElem? (i := 35) rfl)) (hw _ (List.mem_of_getElem? (i := 36) rfl)) e10 V_a2 V_ch (Or.inl ⟨rfl, rfl⟩) (us := (List.map Value.int (own_sl cs p3 p4))) (sp := p3) (dp := F) (nn := (p4 - p3)) (own_h4 hrg).1 fq.2.2.2.1 fq.2.2.2.2.1 (own_h4 hrg).2 (Nat.le_trans fq.2.2.2.2.2 (by decide)) (own_us hcl hrg) (by rw [hI.1.2.2.1]; exact fq.2.2.2.2.2) N0 g_ch (g := (mkF m 154 #[.val (.ref a1), .val (.ref a2), .val (.int p3), .val (.int p4), .val (.int (p4 - p3)), .val (.int F), .val (.int nz), .unset] [(.int (p4 - p3)), (.int F), (.ref ch), (.int p3), (.ref a2)])) rfl (by rw [hml]; rfl) rfl (hb hby own_d5_154) (by decide) (W := 0) (by show 2 * 0 + _ ≤ _; exact Nat.le_of_eq rfl) (by decide)
  refine OE.of st11 ?_
  show OE _ p e below s _ _ _ T11 (mkF m 157 #[.val (.ref a1), .val (.ref a2), .val (.int p3), .val (.int p4), .val (.int (p4 - p3)), .val (.int F), .val (.int nz), .unset] [])
  refine OE.aloadN X11 hx hby own_d5_157 rfl rfl ?_
  have f12 : Fld Z h11 a1 "com/example/archerfish/archerfish/index/TokenTable" "hashes" "[I" (.ref ha) := (F_hashes_a1.keep K11 (ninS ne_a1_ch nin0))
  obtain ⟨T13, X13, e13, st13⟩ := getF X11 hx hZ hown (host := "") (Or.inl (hw _ (List.mem_of_getElem? (i := 20) rfl))) Via.refl e11 f12 (g := (mkF m 158 #[.val (.ref a1), .val (.ref a2), .val (.int p3), .val (.int p4), .val (.int (p4 - p3)), .val (.int F), .val (.int nz), .unset] [(.ref a1)])) rfl rfl (hb hby own_d5_158)
  refine OE.of st13 ?_
  show OE _ p e below s _ _ _ T13 (mkF m 161 #[.val (.ref a1), .val (.ref a2), .val (.int p3), .val (.int p4), .val (.int (p4 - p3)), .val (.int F), .val (.int nz), .unset] [(.ref ha)])
  refine OE.iload X13 hx hby own_d5_161 rfl ?_
  refine OE.aloadN X13 hx hby own_d5_163 rfl rfl ?_
  refine OE.iloadN X13 hx hby own_d5_164 rfl ?_
  refine OE.iloadN X13 hx hby own_d5_165 rfl ?_
  have f14 : Arv Z h11 a2 kt .char (4 : Int32) (List.map Value.int cs) (.int (0 : Int32)) := (V_a2.keep K11 (ninS ne_a2_ch nin0))
  have z15 : n0 ≤ h11.size := (Nat.le_trans Z0 K11.1)
  obtain ⟨_, _, ⟨T16, L16, k16, n16⟩, -, X16, ⟨Lc16, hQ16, l16, y16, z16⟩, st16⟩ := Jvm.LawKit.callS X13 hx (y := (⟨"com/example/archerfish/archerfish/index/TokenTable", "hash", "([CII)I"⟩ : MethodName)) hown (mvT hZ (hw _ (List.mem_of_getElem? (i := 38) rfl))) (mvT hZ (hw _ (List.mem_of_getElem? (i := 39) rfl))) (mvT hZ (hw _ (List.mem_of_getElem? (i := 10) rfl))) (mvT hZ (hw _ (List.mem_of_getElem? (i := 40) rfl))) (by decide) (backOf (W := 2) (own_rm6 l Z a0 hw [] a2 p3 p4 cs kt h11 n0 z15 f14 hcl hrg) hZ (hw _ (List.mem_of_getElem? (i := 40) rfl)) (hw _ (List.mem_of_getElem? (i := 10) rfl)) (by decide) (by decide)) (g := (mkF m 166 #[.val (.ref a1), .val (.ref a2), .val (.int p3), .val (.int p4), .val (.int (p4 - p3)), .val (.int F), .val (.int nz), .unset] [(.int p4), (.int p3), (.ref a2), (.int nz), (.ref ha)])) rfl (by rw [hml]; rfl) (argsL := [(.ref a2), (.int p3), (.int p4)]) (rest := [(.int nz), (.ref ha)]) (lenOf own_pd0 rfl) rfl (by show 2 * 0 + _ ≤ _; exact Nat.le_of_eq rfl) (hb hby own_d5_166) (fun _ _ => ⟨rfl, e13, (by decide : 0 + 0 ≤ _), (by decide : 0 + 0 ≤ _)⟩)
  dsimp only [Pt.U, Pt.locs, Pt.cells, Pt.slots] at X16 l16 y16 z16 st16 hQ16
  have yc16 : 0 = k16 := y16.symm
  have zc16 : 0 = n16 := z16.symm
  have lc16 := l16.symm
  subst lc16 yc16 zc16
  obtain ⟨rfl, Nq16, eq16⟩ := hQ16
  refine OE.of (fun _ k => st16 _ k) ?_
  have N16 := Fr.app N11 Nq16
  show OE _ p e below s _ _ _ T16 (mkF m 169 #[.val (.ref a1), .val (.ref a2), .val (.int p3), .val (.int p4), .val (.int (p4 - p3)), .val (.int F), .val (.int nz), .unset] [(.int (own_hash (own_sl cs p3 p4))), (.int nz), (.ref ha)])
  have f17 : Arv Z h11 ha kha .int (512 : Int32) vsH (.int (0 : Int32)) := (V_ha.keep K11 (ninS ne_ha_ch nin0))
  have Vo18 := f17
  obtain ⟨cl18, Ar18, qz18, Sz18, Nz18, Hz18, Gz18⟩ := Vo18
  have hin18 : ¬ (nz < 0 ∨ cl18.slots.size ≤ (nz).toNatClampNeg) := inb_of Sz18 nq.1
  obtain ⟨T18, h18, X18, e18, W18, st18⟩ := stI X16 hx hZ eq16 Ar18 (j := nz) hin18 (g := (mkF m 169 #[.val (.ref a1), .val (.ref a2), .val (.int p3), .val (.int p4), .val (.int (p4 - p3)), .val (.int F), .val (.int nz), .unset] [(.int (own_hash (own_sl cs p3 p4))), (.int nz), (.ref ha)])) rfl rfl (hb hby own_d5_169)
  refine OE.of st18 ?_
  have V18 : Arv Z h18 ha kha .int (512 : Int32) (vsH.set toks.length (.int (own_hash (own_sl cs p3 p4)))) (.int (0 : Int32)) := Arv.set Ar18 qz18 Sz18 Nz18 Hz18 Gz18 rfl W18 toks.length nq.2.2.2.2.2.1 (by rw [hI.1.2.1]; omega)
  have N18 := Fr.snoc X18 N16 g_ha
  show OE _ p e below s _ _ _ T18 (mkF m 170 #[.val (.ref a1), .val (.ref a2), .val (.int p3), .val (.int p4), .val (.int (p4 - p3)), .val (.int F), .val (.int nz), .unset] [])
  refine OE.aloadN X18 hx hby own_d5_170 rfl rfl ?_
  have f19 : Fld Z h18 a1 "com/example/archerfish/archerfish/index/TokenTable" "starts" "[I" (.ref st) := ((F_starts_a1.keep K11 (ninS ne_a1_ch nin0)).other W18 (Or.inl ne_a1_ha))
  obtain ⟨T20, X20, e20, st20⟩ := getF X18 hx hZ hown (host := "") (Or.inl (hw _ (List.mem_of_getElem? (i := 22) rfl))) Via.refl e18 f19 (g := (mkF m 171 #[.val (.ref a1), .val (.ref a2), .val (.int p3), .val (.int p4), .val (.int (p4 - p3)), .val (.int F), .val (.int nz), .unset] [(.ref a1)])) rfl rfl (hb hby own_d5_171)
  refine OE.of st20 ?_
  show OE _ p e below s _ _ _ T20 (mkF m 174 #[.val (.ref a1), .val (.ref a2), .val (.int p3), .val (.int p4), .val (.int (p4 - p3)), .val (.int F), .val (.int nz), .unset] [(.ref st)])
  refine OE.iload X20 hx hby own_d5_174 rfl ?_
  refine OE.iconst X20 hx hby own_d5_176 (1 : Int32) rfl ?_
  refine OE.iadd X20 hx hby own_d5_177 ?_
  refine OE.iload X20 hx hby own_d5_178 rfl ?_
  refine OE.iload X20 hx hby own_d5_180 rfl ?_
  refine OE.iadd X20 hx hby own_d5_182 ?_
  have f21 : Arv Z h18 st kst .int (513 : Int32) vsS (.int (0 : Int32)) := ((V_st.keep K11 (ninS ne_st_ch nin0)).other W18 (Ne.symm ne_ha_st))
  have Vo22 := f21
  obtain ⟨cl22, Ar22, qz22, Sz22, Nz22, Hz22, Gz22⟩ := Vo22
  have hin22 : ¬ ((nz + (1 : Int32)) < 0 ∨ cl22.slots.size ≤ ((nz + (1 : Int32))).toNatClampNeg) := inb_of Sz22 nq.2.2.1
  obtain ⟨T22, h22, X22, e22, W22, st22⟩ := stI X20 hx hZ e20 Ar22 (j := (nz + (1 : Int32))) hin22 (g := (mkF m 183 #[.val (.ref a1), .val (.ref a2), .val (.int p3), .val (.int p4), .val (.int (p4 - p3)), .val (.int F), .val (.int nz), .unset] [(.int (F + (p4 - p3))), (.int (nz + (1 : Int32))), (.ref st)])) rfl rfl (hb hby own_d5_183)
  refine OE.of st22 ?_
  have V22 : Arv Z h22 st kst .int (513 : Int32) (vsS.set (toks.length + 1) (.int (F + (p4 - p3)))) (.int (0 : Int32)) := Arv.set Ar22 qz22 Sz22 Nz22 Hz22 Gz22 rfl W22 (toks.length + 1) nq.2.2.2.2.2.2.1 (by rw [hI.1.1]; omega)
  have N22 := Fr.snoc X22 N18 g_st
  show OE _ p e below s _ _ _ T22 (mkF m 184 #[.val (.ref a1), .val (.ref a2), .val (.int p3), .val (.int p4), .val (.int (p4 - p3)), .val (.int F), .val (.int nz), .unset] [])
  refine OE.aloadN X22 hx hby own_d5_184 rfl rfl ?_
  refine OE.dup X22 hx hby own_d5_185 rfl ?_
  have f23 : Fld Z h22 a1 "com/example/archerfish/archerfish/index/TokenTable" "size" "I" (.int nz) := (((F_size_a1.keep K11 (ninS ne_a1_ch nin0)).other W18 (Or.inl ne_a1_ha)).other W22 (Or.inl ne_a1_st))
  obtain ⟨T24, X24, e24, st24⟩ := getF X22 hx hZ hown (host := "") (Or.inl (hw _ (List.mem_of_getElem? (i := 31) rfl))) Via.refl e22 f23 (g := (mkF m 186 #[.val (.ref a1), .val (.ref a2), .val (.int p3), .val (.int p4), .val (.int (p4 - p3)), .val (.int F), .val (.int nz), .unset] [(.ref a1), (.ref a1)])) rfl rfl (hb hby own_d5_186)
  refine OE.of st24 ?_
  show OE _ p e below s _ _ _ T24 (mkF m 189 #[.val (.ref a1), .val (.ref a2), .val (.int p3), .val (.int p4), .val (.int (p4 - p3)), .val (.int F), .val (.int nz), .unset] [(.int nz), (.ref a1)])
  refine OE.iconst X24 hx hby own_d5_189 (1 : Int32) rfl ?_
  refine OE.iadd X24 hx hby own_d5_190 ?_
  rw [(hn1.symm : (nz + (1 : Int32)) = nz1)]
  show OE _ p e below s _ _ _ T24 (mkF m 191 #[.val (.ref a1), .val (.ref a2), .val (.int p3), .val (.int p4), .val (.int (p4 - p3)), .val (.int F), .val (.int nz), .unset] [(.int nz1), (.ref a1)])
  have f25 : Exa Z h22 a1 "com/example/archerfish/archerfish/index/TokenTable" := (((E_a1.keep K11).wr W18).wr W22)
  obtain ⟨T26, h26, X26, e26, W26, st26⟩ := putF X24 hx hZ hown (host := "") (Or.inl (hw _ (List.mem_of_getElem? (i := 31) rfl))) Via.refl e24 f23 f25 (Or.inl (hw _ (List.mem_of_getElem? (i := 32) rfl))) (hw _ (List.mem_of_getElem? (i := 9) rfl)) (ty := .int) (by decide) rfl rfl (g := (mkF m 191 #[.val (.ref a1), .val (.ref a2), .val (.int p3), .val (.int p4), .val (.int (p4 - p3)), .val (.int F), .val (.int nz), .unset] [(.int nz1), (.ref a1)])) rfl rfl (hb hby own_d5_191)
  refine OE.of st26 ?_
  have N26 := Fr.snoc X26 N22 g_a1
  have Fw26 := f23.same W26
  show OE _ p e below s _ _ _ T26 (mkF m 194 #[.val (.ref a1), .val (.ref a2), .val (.int p3), .val (.int p4), .val (.int (p4 - p3)), .val (.int F), .val (.int nz), .unset] [])
  refine OE.iconst X26 hx hby own_d5_194 (2 : Int32) rfl ?_
  refine OE.aloadN X26 hx hby own_d5_195 rfl rfl ?_
  obtain ⟨T27, X27, e27, st27⟩ := getF X26 hx hZ hown (host := "") (Or.inl (hw _ (List.mem_of_getElem? (i := 31) rfl))) Via.refl e26 Fw26 (g := (mkF m 196 #[.val (.ref a1), .val (.ref a2), .val (.int p3), .val (.int p4), .val (.int (p4 - p3)), .val (.int F), .val (.int nz), .unset] [(.ref a1), (.int (2 : Int32))])) rfl rfl (hb hby own_d5_196)
  refine OE.of st27 ?_
  show OE _ p e below s _ _ _ T27 (mkF m 199 #[.val (.ref a1), .val (.ref a2), .val (.int p3), .val (.int p4), .val (.int (p4 - p3)), .val (.int F), .val (.int nz), .unset] [(.int nz1), (.int (2 : Int32))])
  refine OE.imul X27 hx hby own_d5_199 ?_
  refine OE.aloadN X27 hx hby own_d5_200 rfl rfl ?_
  have f28 : Fld Z h26 a1 "com/example/archerfish/archerfish/index/TokenTable" "slots" "[I" (.ref sl) := ((((F_slots_a1.keep K11 (ninS ne_a1_ch nin0)).other W18 (Or.inl ne_a1_ha)).other W22 (Or.inl ne_a1_st)).other W26 (Or.inr (slot_ne (Or.inl (hw _ (List.mem_of_getElem? (i := 19) rfl))) (Or.inl (hw _ (List.mem_of_getElem? (i := 32) rfl))) (by decide) (t := (.array .int)) (t' := .int) (by decide) (by decide))))
  obtain ⟨T29, X29, e29, st29⟩ := getF X27 hx hZ hown (host := "") (Or.inl (hw _ (List.mem_of_getElem? (i := 18) rfl))) Via.refl e27 f28 (g := (mkF m 201 #[.val (.ref a1), .val (.ref a2), .val (.int p3), .val (.int p4), .val (.int (p4 - p3)), .val (.int F), .val (.int nz), .unset] [(.ref a1), (.int ((2 : Int32) * nz1))])) rfl rfl (hb hby own_d5_201)
  refine OE.of st29 ?_
  show OE _ p e below s _ _ _ T29 (mkF m 204 #[.val (.ref a1), .val (.ref a2), .val (.int p3), .val (.int p4), .val (.int (p4 - p3)), .val (.int F), .val (.int nz), .unset] [(.ref sl), (.int ((2 : Int32) * nz1))])
  have f30 : Arv Z h26 sl ksl .int (1024 : Int32) (List.map Value.int S) (.int (0 : Int32)) := ((((V_sl.keep K11 (ninS ne_sl_ch nin0)).other W18 ne_sl_ha).other W22 ne_sl_st).other W26 (Ne.symm ne_a1_sl))
  have Vo31 := f30
  obtain ⟨cl31, Ar31, -, Sz31, Nz31, -, -⟩ := Vo31
  refine OE.of (X29.arraylength hx (by rw [e29]; exact Ar31.1) (State.isArrayOf_alike hZ.alike Ar31.2.1) (g := (mkF m 204 #[.val (.ref a1), .val (.ref a2), .val (.int p3), .val (.int p4), .val (.int (p4 - p3)), .val (.int F), .val (.int nz), .unset] [(.ref sl), (.int ((2 : Int32) * nz1))])) rfl rfl (hb hby own_d5_204)) ?_
  rw [len_of Sz31 Nz31]
  show OE _ p e below s _ _ _ T29 (mkF m 205 #[.val (.ref a1), .val (.ref a2), .val (.int p3), .val (.int p4), .val (.int (p4 - p3)), .val (.int F), .val (.int nz), .unset] [(.int (1024 : Int32)), (.int ((2 : Int32) * nz1))])
  refine OE.icmpYes X29 hx hby (pc' := 248) own_d5_205 (flt (nq.2.2.2.2.1 : ¬ ((1024 : Int32) < ((2 : Int32) * nz1)))).2.2.2 (h := ?_)
  refine OE.aloadN X29 hx hby own_d5_248 rfl rfl ?_
  refine OE.iload X29 hx hby own_d5_249 rfl ?_
  obtain ⟨D0, -, hD0⟩ := hI.2.2.2.2.2 (own_b (own_sl cs p3 p4))
  have f32 : Fld Z h26 a1 "com/example/archerfish/archerfish/index/TokenTable" "hashes" "[I" (.ref ha) := (((f12.other W18 (Or.inl ne_a1_ha)).other W22 (Or.inl ne_a1_st)).other W26 (Or.inr (slot_ne (Or.inl (hw _ (List.mem_of_getElem? (i := 21) rfl))) (Or.inl (hw _ (List.mem_of_getElem? (i := 32) rfl))) (by decide) (t := (.array .int)) (t' := .int) (by decide) (by decide))))
  have f33 : Arv Z h26 ha kha .int (512 : Int32) (vsH.set toks.length (.int (own_hash (own_sl cs p3 p4)))) (.int (0 : Int32)) := ((V18.other W22 ne_ha_st).other W26 (Ne.symm ne_a1_ha))
  have z34 : n0 ≤ h26.size := (Nat.le_trans (Nat.le_trans (Nat.le_trans z15 (Nat.le_of_eq W18.size.symm)) (Nat.le_of_eq W22.size.symm)) (Nat.le_of_eq W26.size.symm))
  have f36 : Exa Z h26 a1 "com/example/archerfish/archerfish/index/TokenTable" := (f25.wr W26)
  obtain ⟨cq35, qa35, qb35⟩ := f36.cell
  obtain ⟨_, _, ⟨T35, L35, k35, n35⟩, -, X35, ⟨Lc35, hQ35, l35, y35, z35⟩, st35⟩ := X29.privateBack hx (y := (⟨"com/example/archerfish/archerfish/index/TokenTable", "place", "(I)V"⟩ : MethodName)) hown (mvT hZ (hw _ (List.mem_of_getElem? (i := 42) rfl))) (mvT hZ (hw _ (List.mem_of_getElem? (i := 43) rfl))) (own_sel (mvT hZ (hw _ (List.mem_of_getElem? (i := 43) rfl)) (args := #[])) (Cond.privateMethod_at (mvP hZ (hw _ (List.mem_of_getElem? (i := 44) rfl)) (args := #[]))) (mvT hZ (hw _ (List.mem_of_getElem? (i := 9) rfl)) (args := #[])) (by decide)) (Cond.privateMethod_at (mvP hZ (hw _ (List.mem_of_getElem? (i := 44) rfl)) (args := #[]))) (mvT hZ (hw _ (List.mem_of_getElem? (i := 45) rfl))) (by decide) (backOf (W := 0) (own_rm7 l Z a0 hw [] a1 nz sl ha ksl kha S (vsH.set toks.length (.int (own_hash (own_sl cs p3 p4)))) (own_hash (own_sl cs p3 p4)) D0 h26 n0 z34 f28 f32 f30 f33 g_sl hI.1.2.2.2 nq.1 (by rw [nq.2.2.2.2.2.1]; exact own_setE (by rw [hI.1.2.1]; omega)) hD0) hZ (hw _ (List.mem_of_getElem? (i := 45) rfl)) (hw _ (List.mem_of_getElem? (i := 10) rfl)) (by decide) (by decide)) (g := (mkF m 251 #[.val (.ref a1), .val (.ref a2), .val (.int p3), .val (.int p4), .val (.int (p4 - p3)), .val (.int F), .val (.int nz), .unset] [(.int nz), (.ref a1)])) rfl (by rw [hml]; rfl) (Steps.refl _) (a := a1) (by rw [e29]; exact qa35) qb35 (argsL := [(.int nz)]) (rest := []) (lenOf own_pd1 rfl) rfl (by show 2 * 0 + _ ≤ _; exact Nat.le_of_eq rfl) (hb hby own_d5_251) (fun _ _ => ⟨rfl, e29, (by decide : 0 + 0 ≤ _), (by decide : 0 + 0 ≤ _)⟩)
  dsimp only [Pt.U, Pt.locs, Pt.cells, Pt.slots] at X35 l35 y35 z35 st35 hQ35
  have yc35 : 0 = k35 := y35.symm
  have zc35 : 0 = n35 := z35.symm
  have lc35 := l35.symm
  subst lc35 yc35 zc35
  obtain ⟨r35_d, rfl, Nq35, K35, q35_0, h35_hd, h35_h0, h35_hn⟩ := hQ35
  refine OE.of (fun _ k => st35.trans k) ?_
  have N35 := Fr.app N26 Nq35
  show OE _ p e below s _ _ _ T35 (mkF m 254 #[.val (.ref a1), .val (.ref a2), .val (.int p3), .val (.int p4), .val (.int (p4 - p3)), .val (.int F), .val (.int nz), .unset] [])
  refine OE.iload X35 hx hby own_d5_254 rfl ?_
  refine OE.retI X35 hx Bd.returns Bd.notSynchronized (hb hby own_d5_256) (by decide) (by decide) ?_
  have K37 : Keep h0 T35.heap [a1, sl, ha, st, ch] := (Keep.trans (Keep.wr (Keep.wr (Keep.wr (Keep.trans (Keep.refl h0 [a1, sl, ha, st, ch]) K11 (allS (Or.inl (List.mem_of_getElem? (i := 4) rfl)) all0)) W18 (Or.inl (List.mem_of_getElem? (i := 2) rfl))) W22 (Or.inl (List.mem_of_getElem? (i := 3) rfl))) W26 (Or.inl (List.mem_of_getElem? (i := 0) rfl))) K35 (allS (Or.inl (List.mem_of_getElem? (i := 1) rfl)) all0))
  have f38 : Exa Z T35.heap a1 "com/example/archerfish/archerfish/index/TokenTable" := (f36.keep K35)
  have f39 : Fld Z T35.heap a1 "com/example/archerfish/archerfish/index/TokenTable" "slots" "[I" (.ref sl) := (f28.keep K35 (ninS ne_a1_sl nin0))
  have f40 : Fld Z T35.heap a1 "com/example/archerfish/archerfish/index/TokenTable" "hashes" "[I" (.ref ha) := (f32.keep K35 (ninS ne_a1_sl nin0))
  have f41 : Fld Z T35.heap a1 "com/example/archerfish/archerfish/index/TokenTable" "starts" "[I" (.ref st) := (((f19.other W22 (Or.inl ne_a1_st)).other W26 (Or.inr (slot_ne (Or.inl (hw _ (List.mem_of_getElem? (i := 23) rfl))) (Or.inl (hw _ (List.mem_of_getElem? (i := 32) rfl))) (by decide) (t := (.array .int)) (t' := .int) (by decide) (by decide)))).keep K35 (ninS ne_a1_sl nin0))
  have f42 : Fld Z T35.heap a1 "com/example/archerfish/archerfish/index/TokenTable" "chars" "[C" (.ref ch) := (((((F_chars_a1.keep K11 (ninS ne_a1_ch nin0)).other W18 (Or.inl ne_a1_ha)).other W22 (Or.inl ne_a1_st)).other W26 (Or.inr (slot_ne (Or.inl (hw _ (List.mem_of_getElem? (i := 25) rfl))) (Or.inl (hw _ (List.mem_of_getElem? (i := 32) rfl))) (by decide) (t := (.array .char)) (t' := .int) (by decide) (by decide)))).keep K35 (ninS ne_a1_sl nin0))
  have f43 : Fld Z T35.heap a1 "com/example/archerfish/archerfish/index/TokenTable" "size" "I" (.int nz1) := (Fw26.keep K35 (ninS ne_a1_sl nin0))
  have f44 : Arv Z T35.heap ha kha .int (512 : Int32) (vsH.set toks.length (.int (own_hash (own_sl cs p3 p4)))) (.int (0 : Int32)) := (f33.keep K35 (ninS (Ne.symm ne_sl_ha) nin0))
  have f45 : Arv Z T35.heap st kst .int (513 : Int32) (vsS.set (toks.length + 1) (.int (F + (p4 - p3)))) (.int (0 : Int32)) := ((V22.other W26 (Ne.symm ne_a1_st)).keep K35 (ninS (Ne.symm ne_sl_st) nin0))
  have f46 : Arv Z T35.heap ch kch .char (4096 : Int32) (vsC.take F.toNatClampNeg ++ (List.map Value.int (own_sl cs p3 p4)) ++ vsC.drop (F.toNatClampNeg + (p4 - p3).toNatClampNeg)) (.int (0 : Int32)) := ((((V11.other W18 (Ne.symm ne_ha_ch)).other W22 (Ne.symm ne_st_ch)).other W26 (Ne.symm ne_a1_ch)).keep K35 (ninS (Ne.symm ne_sl_ch) nin0))
  exact ⟨(vsS.set (toks.length + 1) (.int (F + (p4 - p3)))), (vsH.set toks.length (.int (own_hash (own_sl cs p3 p4)))), (vsC.take F.toNatClampNeg ++ (List.map Value.int (own_sl cs p3 p4)) ++ vsC.drop (F.toNatClampNeg + (p4 - p3).toNatClampNeg)), _, _, rfl, N35, K37, f38, f39, f40, f41, f42, f43, q35_0, f44, f45, f46, own_add hI ht hnz hcl hrg h35_h0 h35_hn⟩
theorem own_d9_0 : decode prog_66_method_3_code 0 = .ok (.aload_n 1, 1) := by decide +kernel
theorem own_d9_1 : decode prog_66_method_3_code 1 = .ok (.iload_n 2, 1) := by decide +kernel
theorem own_d9_2 : decode prog_66_method_3_code 2 = .ok (.iload_n 3, 1) := by decide +kernel
theorem own_d9_3 : decode prog_66_method_3_code 3 = .ok (.invokestatic 29, 3) := by decide +kernel
theorem own_d9_6 : decode prog_66_method_3_code 6 = .ok (.istore 4, 2) := by decide +kernel
theorem own_d9_8 : decode prog_66_method_3_code 8 = .ok (.aload_n 0, 1) := by decide +kernel
theorem own_d9_9 : decode prog_66_method_3_code 9 = .ok (.getfield 9, 3) := by decide +kernel
theorem own_d9_12 : decode prog_66_method_3_code 12 = .ok (.arraylength, 1) := by decide +kernel
theorem own_d9_13 : decode prog_66_method_3_code 13 = .ok (.iconst 1, 1) := by decide +kernel
theorem own_d9_14 : decode prog_66_method_3_code 14 = .ok (.isub, 1) := by decide +kernel
theorem own_d9_15 : decode prog_66_method_3_code 15 = .ok (.istore 5, 2) := by decide +kernel
theorem own_d9_17 : decode prog_66_method_3_code 17 = .ok (.iload 4, 2) := by decide +kernel
theorem own_d9_19 : decode prog_66_method_3_code 19 = .ok (.iload 5, 2) := by decide +kernel
theorem own_d9_21 : decode prog_66_method_3_code 21 = .ok (.iand, 1) := by decide +kernel
theorem own_d9_22 : decode prog_66_method_3_code 22 = .ok (.istore 6, 2) := by decide +kernel
theorem own_d9_24 : decode prog_66_method_3_code 24 = .ok (.aload_n 0, 1) := by decide +kernel
theorem own_d9_25 : decode prog_66_method_3_code 25 = .ok (.getfield 9, 3) := by decide +kernel
theorem own_d9_28 : decode prog_66_method_3_code 28 = .ok (.iload 6, 2) := by decide +kernel
theorem own_d9_30 : decode prog_66_method_3_code 30 = .ok (.iaload, 1) := by decide +kernel
theorem own_d9_31 : decode prog_66_method_3_code 31 = .ok (.ifCond .eq 53, 3) := by decide +kernel
theorem own_d9_84 : decode prog_66_method_3_code 84 = .ok (.iconst (-1), 1) := by decide +kernel
theorem own_d9_85 : decode prog_66_method_3_code 85 = .ok (.ireturn, 1) := by decide +kernel
theorem own_d9_34 : decode prog_66_method_3_code 34 = .ok (.aload_n 0, 1) := by decide +kernel
theorem own_d9_35 : decode prog_66_method_3_code 35 = .ok (.getfield 9, 3) := by decide +kernel
theorem own_d9_38 : decode prog_66_method_3_code 38 = .ok (.iload 6, 2) := by decide +kernel
theorem own_d9_40 : decode prog_66_method_3_code 40 = .ok (.iaload, 1) := by decide +kernel
theorem own_d9_41 : decode prog_66_method_3_code 41 = .ok (.iconst 1, 1) := by decide +kernel
theorem own_d9_42 : decode prog_66_method_3_code 42 = .ok (.isub, 1) := by decide +kernel
theorem own_d9_43 : decode prog_66_method_3_code 43 = .ok (.istore 7, 2) := by decide +kernel
theorem own_d9_45 : decode prog_66_method_3_code 45 = .ok (.aload_n 0, 1) := by decide +kernel
theorem own_d9_46 : decode prog_66_method_3_code 46 = .ok (.getfield 15, 3) := by decide +kernel
theorem own_d9_49 : decode prog_66_method_3_code 49 = .ok (.iload 7, 2) := by decide +kernel
theorem own_d9_51 : decode prog_66_method_3_code 51 = .ok (.iaload, 1) := by decide +kernel
theorem own_d9_52 : decode prog_66_method_3_code 52 = .ok (.iload 4, 2) := by decide +kernel
theorem own_d9_54 : decode prog_66_method_3_code 54 = .ok (.if_icmp .ne 18, 3) := by decide +kernel
theorem own_d9_57 : decode prog_66_method_3_code 57 = .ok (.aload_n 0, 1) := by decide +kernel
theorem own_d9_58 : decode prog_66_method_3_code 58 = .ok (.iload 7, 2) := by decide +kernel
theorem own_d9_60 : decode prog_66_method_3_code 60 = .ok (.aload_n 1, 1) := by decide +kernel
theorem own_d9_61 : decode prog_66_method_3_code 61 = .ok (.iload_n 2, 1) := by decide +kernel
theorem own_d9_62 : decode prog_66_method_3_code 62 = .ok (.iload_n 3, 1) := by decide +kernel
theorem own_d9_63 : decode prog_66_method_3_code 63 = .ok (.invokevirtual 33, 3) := by decide +kernel
theorem own_pd2 : parseMethodDescriptor "(I[CII)Z" = some ⟨[.int, (.array .char), .int, .int], some .boolean⟩ := by decide +kernel
theorem own_d9_66 : decode prog_66_method_3_code 66 = .ok (.ifCond .eq 6, 3) := by decide +kernel
theorem own_d9_69 : decode prog_66_method_3_code 69 = .ok (.iload 7, 2) := by decide +kernel
theorem own_d9_71 : decode prog_66_method_3_code 71 = .ok (.ireturn, 1) := by decide +kernel
theorem own_d9_72 : decode prog_66_method_3_code 72 = .ok (.iload 6, 2) := by decide +kernel
theorem own_d9_74 : decode prog_66_method_3_code 74 = .ok (.iconst 1, 1) := by decide +kernel
theorem own_d9_75 : decode prog_66_method_3_code 75 = .ok (.iadd, 1) := by decide +kernel
theorem own_d9_76 : decode prog_66_method_3_code 76 = .ok (.iload 5, 2) := by decide +kernel
theorem own_d9_78 : decode prog_66_method_3_code 78 = .ok (.iand, 1) := by decide +kernel
theorem own_d9_79 : decode prog_66_method_3_code 79 = .ok (.istore 6, 2) := by decide +kernel
theorem own_d9_81 : decode prog_66_method_3_code 81 = .ok (.goto (-57), 3) := by decide +kernel
def own_Q9 (Z : State) (a1 : Addr) (a2 : Addr) (p3 : Int32) (p4 : Int32) (sl : Addr) (ha : Addr) (st : Addr) (ch : Addr) (ksl : ClassId) (kha : ClassId) (kst : ClassId) (kch : ClassId) (kt : ClassId) (S : List Int32) (vsH : List Value) (vsS : List Value) (vsC : List Value) (cs : List Int32) (toks : List (List Int32)) (F : Int32) (h0 : Heap) (n0 : Nat) (v : Option Value) (h : Heap) (L : List Loc) : Prop := ∃ r : Int32, v = some (.int r) ∧ Fr n0 L ∧ h = h0 ∧ (own_fnd toks (own_sl cs p3 p4) r)
theorem own_ef_own_rm9 (m : MethodId) (a1 : Addr) (a2 : Addr) (p3 : Int32) (p4 : Int32) : entryFrame m #[(.ref a1), (.ref a2), (.int p3), (.int p4)] 8 = mkF m 0 #[.val (.ref a1), .val (.ref a2), .val (.int p3), .val (.int p4), .unset, .unset, .unset, .unset] [] := by first | (simp [entryFrame, mkF, argsToLocals, Value.category]; done) | rfl
set_option maxRecDepth 65536 in
set_option maxHeartbeats 40000000 in
theorem own_rm9 (l : Launch) (Z : State) (a0 : Array Value) (hw : ∀ d ∈ tables_1, d.before a0 Z = true) (ws : List Jvm.Cond) (a1 : Addr) (a2 : Addr) (p3 : Int32) (p4 : Int32) (sl : Addr) (ha : Addr) (st : Addr) (ch : Addr) (ksl : ClassId) (kha : ClassId) (kst : ClassId) (kch : ClassId) (kt : ClassId) (S : List Int32) (vsH : List Value) (vsS : List Value) (vsC : List Value) (cs : List Int32) (toks : List (List Int32)) (F : Int32) (h0 : Heap) (n0 : Nat) (Z0 : n0 ≤ h0.size) (E_a1 : Exa Z h0 a1 "com/example/archerfish/archerfish/index/TokenTable") (F_slots_a1 : Fld Z h0 a1 "com/example/archerfish/archerfish/index/TokenTable" "slots" "[I" (.ref sl)) (F_hashes_a1 : Fld Z h0 a1 "com/example/archerfish/archerfish/index/TokenTable" "hashes" "[I" (.ref ha)) (F_starts_a1 : Fld Z h0 a1 "com/example/archerfish/archerfish/index/TokenTable" "starts" "[I" (.ref st)) (F_chars_a1 : Fld Z h0 a1 "com/example/archerfish/archerfish/index/TokenTable" "chars" "[C" (.ref ch)) (V_sl : Arv Z h0 sl ksl .int (1024 : Int32) (List.map Value.int S) (.int (0 : Int32))) (V_ha : Arv Z h0 ha kha .int (512 : Int32) vsH (.int (0 : Int32))) (V_st : Arv Z h0 st kst .int (513 : Int32) vsS (.int (0 : Int32))) (V_ch : Arv Z h0 ch kch .char (4096 : Int32) vsC (.int (0 : Int32))) (V_a2 : Arv Z h0 a2 kt .char (4 : Int32) (List.map Value.int cs) (.int (0 : Int32))) (hI : own_inv toks vsS vsH vsC S F) (hcl : cs.length = 4) (hrg : own_rg p3 p4) (ht : toks.length ≤ 3) :
    MetFree l (⟨"com/example/archerfish/archerfish/index/TokenTable", "find", "([CII)I"⟩ : MethodName) (head1 (Jvm.Cond.code (⟨"com/example/archerfish/archerfish/index/TokenTable", "find", "([CII)I"⟩ : MethodName) prog_66_method_3_code 8 (some .int) :: ws) ({ frames := 1, cells := 0, slots := 0, locals := 18 } : Room)) (fun a U => a = #[(.ref a1), (.ref a2), (.int p3), (.int p4)] ∧ Z.Warmed39 U.vm ∧ U.heap = h0) (fun _ _ _ _ _ => True) (fun _ U o U' => ∃ v L, o = .returned v ∧ own_Q9 Z a1 a2 p3 p4 sl ha st ch ksl kha kst kch kt S vsH vsS vsC cs toks F h0 n0 v U'.heap L ∧ FrameEnd U o U' L ({ frames := 1, cells := 0, slots := 0, locals := 18 } : Room).cells ({ frames := 1, cells := 0, slots := 0, locals := 18 } : Room).slots) := by
  refine MetFree.of_bodySF (plainFor_of_name own_pn0) hisR ?_
  intro p e s m args below meth c s₁ Bd hml0 hP hK
  obtain ⟨rfl, hZ, hh⟩ := hP
  have hx := Bd.exec
  have hby := Bd.bytes
  have hml : c.maxLocals = 8 := hml0
  have hown : s.vm.findClass "com/example/archerfish/archerfish/index/TokenTable" = some m.cls := findClass_of_methodNamed Bd.named
  have hnm := (name_of_methodNamed Bd.named Bd.method).1
  have X0 : Stand p l e ({ frames := 1, cells := 0, slots := 0, locals := 18 } : Room) s m #[(.ref a1), (.ref a2), (.int p3), (.int p4)] below meth c s₁ [] 0 0 := Stand.of_body Bd
  have e0 : s₁.heap = h0 := by rw [← hh, Bd.state]; rfl
  have N0 := Fr.nil n0
  show OE FrameEnd p e below s (own_Q9 Z a1 a2 p3 p4 sl ha st ch ksl kha kst kch kt S vsH vsS vsC cs toks F h0 n0) ({ frames := 1, cells := 0, slots := 0, locals := 18 } : Room).cells ({ frames := 1, cells := 0, slots := 0, locals := 18 } : Room).slots s₁ (entryFrame m #[(.ref a1), (.ref a2), (.int p3), (.int p4)] 8)
  rw [own_ef_own_rm9]
  obtain ⟨D, hD1, hD2⟩ := hI.2.2.2.2.2 (own_b (own_sl cs p3 p4))
  have hmb := own_m1023 (own_hash (own_sl cs p3 p4))
  show OE _ p e below s _ _ _ s₁ (mkF m 0 #[.val (.ref a1), .val (.ref a2), .val (.int p3), .val (.int p4), .unset, .unset, .unset, .unset] [])
  refine OE.aloadN X0 hx hby own_d9_0 rfl rfl ?_
  refine OE.iloadN X0 hx hby own_d9_1 rfl ?_
  refine OE.iloadN X0 hx hby own_d9_2 rfl ?_
  obtain ⟨_, _, ⟨T1, L1, k1, n1⟩, -, X1, ⟨Lc1, hQ1, l1, y1, z1⟩, st1⟩ := Jvm.LawKit.callS X0 hx (y := (⟨"com/example/archerfish/archerfish/index/TokenTable", "hash", "([CII)I"⟩ : MethodName)) hown (mvT hZ (hw _ (List.mem_of_getElem? (i := 38) rfl))) (mvT hZ (hw _ (List.mem_of_getElem? (i := 39) rfl))) (mvT hZ (hw _ (List.mem_of_getElem? (i := 10) rfl))) (mvT hZ (hw _ (List.mem_of_getElem? (i := 40) rfl))) (by decide) (backOf (W := 0) (own_rm6 l Z a0 hw [] a2 p3 p4 cs kt h0 n0 Z0 V_a2 hcl hrg) hZ (hw _ (List.mem_of_getElem? (i := 40) rfl)) (hw _ (List.mem_of_getElem? (i := 10) rfl)) (by decide) (by decide)) (g := (mkF m 3 #[.val (.ref a1), .val (.ref a2), .val (.int p3), .val (.int p4), .unset, .unset, .unset, .unset] [(.int p4), (.int p3), (.ref a2)])) rfl (by rw [hml]; rfl) (argsL := [(.ref a2), (.int p3), (.int p4)]) (rest := []) (lenOf own_pd0 rfl) rfl (by show 2 * 0 + _ ≤ _; exact Nat.le_of_eq rfl) (hb hby own_d9_3) (fun _ _ => ⟨rfl, e0, (by decide : 0 + 0 ≤ _), (by decide : 0 + 0 ≤ _)⟩)
  dsimp only [Pt.U, Pt.locs, Pt.cells, Pt.slots] at X1 l1 y1 z1 st1 hQ1
  have yc1 : 0 = k1 := y1.symm
  have zc1 : 0 = n1 := z1.symm
  have lc1 := l1.symm
  subst lc1 yc1 zc1
  obtain ⟨rfl, Nq1, eq1⟩ := hQ1
  refine OE.of (fun _ k => st1 _ k) ?_
  have N1 := Fr.app N0 Nq1
  show OE _ p e below s _ _ _ T1 (mkF m 6 #[.val (.ref a1), .val (.ref a2), .val (.int p3), .val (.int p4), .unset, .unset, .unset, .unset] [(.int (own_hash (own_sl cs p3 p4)))])
  refine OE.istore X1 hx hby own_d9_6 (l' := #[.val (.ref a1), .val (.ref a2), .val (.int p3), .val (.int p4), .val (.int (own_hash (own_sl cs p3 p4))), .unset, .unset, .unset]) rfl ?_
  refine OE.aloadN X1 hx hby own_d9_8 rfl rfl ?_
  obtain ⟨T2, X2, e2, st2⟩ := getF X1 hx hZ hown (host := "") (Or.inl (hw _ (List.mem_of_getElem? (i := 18) rfl))) Via.refl eq1 F_slots_a1 (g := (mkF m 9 #[.val (.ref a1), .val (.ref a2), .val (.int p3), .val (.int p4), .val (.int (own_hash (own_sl cs p3 p4))), .unset, .unset, .unset] [(.ref a1)])) rfl rfl (hb hby own_d9_9)
  refine OE.of st2 ?_
  show OE _ p e below s _ _ _ T2 (mkF m 12 #[.val (.ref a1), .val (.ref a2), .val (.int p3), .val (.int p4), .val (.int (own_hash (own_sl cs p3 p4))), .unset, .unset, .unset] [(.ref sl)])
  have Vo3 := V_sl
  obtain ⟨cl3, Ar3, -, Sz3, Nz3, -, -⟩ := Vo3
  refine OE.of (X2.arraylength hx (by rw [e2]; exact Ar3.1) (State.isArrayOf_alike hZ.alike Ar3.2.1) (g := (mkF m 12 #[.val (.ref a1), .val (.ref a2), .val (.int p3), .val (.int p4), .val (.int (own_hash (own_sl cs p3 p4))), .unset, .unset, .unset] [(.ref sl)])) rfl rfl (hb hby own_d9_12)) ?_
  rw [len_of Sz3 Nz3]
  show OE _ p e below s _ _ _ T2 (mkF m 13 #[.val (.ref a1), .val (.ref a2), .val (.int p3), .val (.int p4), .val (.int (own_hash (own_sl cs p3 p4))), .unset, .unset, .unset] [(.int (1024 : Int32))])
  refine OE.iconst X2 hx hby own_d9_13 (1 : Int32) rfl ?_
  refine OE.isub X2 hx hby own_d9_14 ?_
  rw [(by decide : ((1024 : Int32) - (1 : Int32)) = (1023 : Int32))]
  refine OE.istore X2 hx hby own_d9_15 (l' := #[.val (.ref a1), .val (.ref a2), .val (.int p3), .val (.int p4), .val (.int (own_hash (own_sl cs p3 p4))), .val (.int (1023 : Int32)), .unset, .unset]) rfl ?_
  refine OE.iload X2 hx hby own_d9_17 rfl ?_
  refine OE.iload X2 hx hby own_d9_19 rfl ?_
  refine OE.iand X2 hx hby own_d9_21 ?_
  refine OE.istore X2 hx hby own_d9_22 (l' := #[.val (.ref a1), .val (.ref a2), .val (.int p3), .val (.int p4), .val (.int (own_hash (own_sl cs p3 p4))), .val (.int (1023 : Int32)), .val (.int ((own_hash (own_sl cs p3 p4)) &&& (1023 : Int32))), .unset]) rfl ?_
  have lp : ∀ (k4 : Nat) (i : Int32) (d : Nat) (q7 : Slot) (T4 : State) (locs4 : List Loc) (cells4 : Nat) (slots4 : Nat), D - d = k4 → Stand p l e ({ frames := 1, cells := 0, slots := 0, locals := 18 } : Room) s m #[(.ref a1), (.ref a2), (.int p3), (.int p4)] below meth c T4 locs4 cells4 slots4 → T4.heap = h0 → Fr n0 locs4 → cells4 ≤ 0 → slots4 ≤ 0 → (d ≤ D) → (0 ≤ i.toInt ∧ i.toNatClampNeg = ((own_hash (own_sl cs p3 p4) &&& (1023 : Int32)).toNatClampNeg + d) % 1024) → (q7 = .unset ∨ ∃ x, q7 = .val (.int x)) → (∀ e, e < d → ∃ k T, k < toks.length ∧ S.getD (((own_hash (own_sl cs p3 p4) &&& (1023 : Int32)).toNatClampNeg + e) % 1024) 0 = Int32.ofNat (k + 1) ∧ toks[k]? = some T ∧ T ≠ (own_sl cs p3 p4)) → OE FrameEnd p e below s (own_Q9 Z a1 a2 p3 p4 sl ha st ch ksl kha kst kch kt S vsH vsS vsC cs toks F h0 n0) ({ frames := 1, cells := 0, slots := 0, locals := 18 } : Room).cells ({ frames := 1, cells := 0, slots := 0, locals := 18 } : Room).slots T4 (mkF m 24 #[.val (.ref a1), .val (.ref a2), .val (.int p3), .val (.int p4), .val (.int (own_hash (own_sl cs p3 p4))), .val (.int (1023 : Int32)), .val (.int i), q7] []) := by
    intro k4
    induction k4 using Nat.strongRecOn with
    | _ k4 ih4 =>
    intro i d q7 T4 locs4 cells4 slots4 hk4 X4 e4 N4 hcl4 hsl4 hd hi hq7 hn
    show OE _ p e below s _ _ _ T4 (mkF m 24 #[.val (.ref a1), .val (.ref a2), .val (.int p3), .val (.int p4), .val (.int (own_hash (own_sl cs p3 p4))), .val (.int (1023 : Int32)), .val (.int i), q7] [])
    have hlt : i.toNatClampNeg < 1024 := by rw [hi.2]; exact Nat.mod_lt _ (by decide)
    refine OE.aloadN X4 hx hby own_d9_24 rfl rfl ?_
    obtain ⟨T5, X5, e5, st5⟩ := getF X4 hx hZ hown (host := "") (Or.inl (hw _ (List.mem_of_getElem? (i := 18) rfl))) Via.refl e4 F_slots_a1 (g := (mkF m 25 #[.val (.ref a1), .val (.ref a2), .val (.int p3), .val (.int p4), .val (.int (own_hash (own_sl cs p3 p4))), .val (.int (1023 : Int32)), .val (.int i), q7] [(.ref a1)])) rfl rfl (hb hby own_d9_25)
    refine OE.of st5 ?_
    show OE _ p e below s _ _ _ T5 (mkF m 28 #[.val (.ref a1), .val (.ref a2), .val (.int p3), .val (.int p4), .val (.int (own_hash (own_sl cs p3 p4))), .val (.int (1023 : Int32)), .val (.int i), q7] [(.ref sl)])
    refine OE.iload X5 hx hby own_d9_28 rfl ?_
    have Vo6 := V_sl
    obtain ⟨cl6, Ar6, -, Sz6, Nz6, Hz6, Gz6⟩ := Vo6
    have hin6 : ¬ (i < 0 ∨ cl6.slots.size ≤ (i).toNatClampNeg) := inb_of Sz6 (own_1024 hi.1 hlt)
    have hat6 : cl6.slots[(i).toNatClampNeg]? = some (.int (S.getD i.toNatClampNeg 0)) := Has.at Hz6 hin6 (own_mapget S _)
    refine OE.of (X5.iaload hx (j := i) (v := (.int (S.getD i.toNatClampNeg 0))) (by rw [e5]; exact Ar6.1) (State.isArrayOf_alike hZ.alike Ar6.2.1) Ar6.2.2 hin6 hat6 (g := (mkF m 30 #[.val (.ref a1), .val (.ref a2), .val (.int p3), .val (.int p4), .val (.int (own_hash (own_sl cs p3 p4))), .val (.int (1023 : Int32)), .val (.int i), q7] [(.int i), (.ref sl)])) rfl rfl (hb hby own_d9_30)) ?_
    show OE _ p e below s _ _ _ T5 (mkF m 31 #[.val (.ref a1), .val (.ref a2), .val (.int p3), .val (.int p4), .val (.int (own_hash (own_sl cs p3 p4))), .val (.int (1023 : Int32)), .val (.int i), q7] [(.int (S.getD i.toNatClampNeg 0))])
    by_cases hc31 : (S.getD i.toNatClampNeg 0) = (0 : Int32)
    · skip
      refine OE.ifYes X5 hx hby (pc' := 84) own_d9_31 (teq hc31).1 (h := ?_)
      refine OE.iconst X5 hx hby own_d9_84 (-1 : Int32) rfl ?_
      refine OE.retI X5 hx Bd.returns Bd.notSynchronized (hb hby own_d9_85) (Nat.le_trans hcl4 (by decide)) (Nat.le_trans hsl4 (by decide)) ?_
      rw [e5]
      exact ⟨_, rfl, N4, rfl, Or.inl ⟨rfl, own_abs hI ht hn (by rw [← hi.2]; exact hc31)⟩⟩
    · skip
      refine OE.ifNo X5 hx hby own_d9_31 (feq hc31).1 ?_
      refine OE.aloadN X5 hx hby own_d9_34 rfl rfl ?_
      obtain ⟨T7, X7, e7, st7⟩ := getF X5 hx hZ hown (host := "") (Or.inl (hw _ (List.mem_of_getElem? (i := 18) rfl))) Via.refl e5 F_slots_a1 (g := (mkF m 35 #[.val (.ref a1), .val (.ref a2), .val (.int p3), .val (.int p4), .val (.int (own_hash (own_sl cs p3 p4))), .val (.int (1023 : Int32)), .val (.int i), q7] [(.ref a1)])) rfl rfl (hb hby own_d9_35)
      refine OE.of st7 ?_
      show OE _ p e below s _ _ _ T7 (mkF m 38 #[.val (.ref a1), .val (.ref a2), .val (.int p3), .val (.int p4), .val (.int (own_hash (own_sl cs p3 p4))), .val (.int (1023 : Int32)), .val (.int i), q7] [(.ref sl)])
      refine OE.iload X7 hx hby own_d9_38 rfl ?_
      have Vo8 := V_sl
      obtain ⟨cl8, Ar8, -, Sz8, Nz8, Hz8, Gz8⟩ := Vo8
      have hin8 : ¬ (i < 0 ∨ cl8.slots.size ≤ (i).toNatClampNeg) := inb_of Sz8 (own_1024 hi.1 hlt)
      have hat8 : cl8.slots[(i).toNatClampNeg]? = some (.int (S.getD i.toNatClampNeg 0)) := Has.at Hz8 hin8 (own_mapget S _)
      refine OE.of (X7.iaload hx (j := i) (v := (.int (S.getD i.toNatClampNeg 0))) (by rw [e7]; exact Ar8.1) (State.isArrayOf_alike hZ.alike Ar8.2.1) Ar8.2.2 hin8 hat8 (g := (mkF m 40 #[.val (.ref a1), .val (.ref a2), .val (.int p3), .val (.int p4), .val (.int (own_hash (own_sl cs p3 p4))), .val (.int (1023 : Int32)), .val (.int i), q7] [(.int i), (.ref sl)])) rfl rfl (hb hby own_d9_40)) ?_
      show OE _ p e below s _ _ _ T7 (mkF m 41 #[.val (.ref a1), .val (.ref a2), .val (.int p3), .val (.int p4), .val (.int (own_hash (own_sl cs p3 p4))), .val (.int (1023 : Int32)), .val (.int i), q7] [(.int (S.getD i.toNatClampNeg 0))])
      refine OE.iconst X7 hx hby own_d9_41 (1 : Int32) rfl ?_
      refine OE.isub X7 hx hby own_d9_42 ?_
      obtain ⟨k, T, hk, hT, hS⟩ := own_hit hI hc31
      obtain ⟨f, g, q1, q2, q3, q4, q5, q6⟩ := hI.2.2.1 k T hT
      have oq := own_ofs (k := k) (by omega)
      rw [((by rw [hS]; exact oq.1) : ((S.getD i.toNatClampNeg 0) - (1 : Int32)) = (Int32.ofNat k))]
      show OE _ p e below s _ _ _ T7 (mkF m 43 #[.val (.ref a1), .val (.ref a2), .val (.int p3), .val (.int p4), .val (.int (own_hash (own_sl cs p3 p4))), .val (.int (1023 : Int32)), .val (.int i), q7] [(.int (Int32.ofNat k))])
      refine OE.istore X7 hx hby own_d9_43 (l' := #[.val (.ref a1), .val (.ref a2), .val (.int p3), .val (.int p4), .val (.int (own_hash (own_sl cs p3 p4))), .val (.int (1023 : Int32)), .val (.int i), .val (.int (Int32.ofNat k))]) (by rcases hq7 with rfl | ⟨x7, rfl⟩ <;> rfl) ?_
      refine OE.aloadN X7 hx hby own_d9_45 rfl rfl ?_
      obtain ⟨T9, X9, e9, st9⟩ := getF X7 hx hZ hown (host := "") (Or.inl (hw _ (List.mem_of_getElem? (i := 20) rfl))) Via.refl e7 F_hashes_a1 (g := (mkF m 46 #[.val (.ref a1), .val (.ref a2), .val (.int p3), .val (.int p4), .val (.int (own_hash (own_sl cs p3 p4))), .val (.int (1023 : Int32)), .val (.int i), .val (.int (Int32.ofNat k))] [(.ref a1)])) rfl rfl (hb hby own_d9_46)
      refine OE.of st9 ?_
      show OE _ p e below s _ _ _ T9 (mkF m 49 #[.val (.ref a1), .val (.ref a2), .val (.int p3), .val (.int p4), .val (.int (own_hash (own_sl cs p3 p4))), .val (.int (1023 : Int32)), .val (.int i), .val (.int (Int32.ofNat k))] [(.ref ha)])
      refine OE.iload X9 hx hby own_d9_49 rfl ?_
      have Vo10 := V_ha
      obtain ⟨cl10, Ar10, -, Sz10, Nz10, Hz10, Gz10⟩ := Vo10
      have hin10 : ¬ ((Int32.ofNat k) < 0 ∨ cl10.slots.size ≤ ((Int32.ofNat k)).toNatClampNeg) := inb_of Sz10 oq.2.1
      have hat10 : cl10.slots[((Int32.ofNat k)).toNatClampNeg]? = some (.int (own_hash T)) := Has.at Hz10 hin10 (by rw [oq.2.2]; exact q5)
      refine OE.of (X9.iaload hx (j := (Int32.ofNat k)) (v := (.int (own_hash T))) (by rw [e9]; exact Ar10.1) (State.isArrayOf_alike hZ.alike Ar10.2.1) Ar10.2.2 hin10 hat10 (g := (mkF m 51 #[.val (.ref a1), .val (.ref a2), .val (.int p3), .val (.int p4), .val (.int (own_hash (own_sl cs p3 p4))), .val (.int (1023 : Int32)), .val (.int i), .val (.int (Int32.ofNat k))] [(.int (Int32.ofNat k)), (.ref ha)])) rfl rfl (hb hby own_d9_51)) ?_
      show OE _ p e below s _ _ _ T9 (mkF m 52 #[.val (.ref a1), .val (.ref a2), .val (.int p3), .val (.int p4), .val (.int (own_hash (own_sl cs p3 p4))), .val (.int (1023 : Int32)), .val (.int i), .val (.int (Int32.ofNat k))] [(.int (own_hash T))])
      refine OE.iload X9 hx hby own_d9_52 rfl ?_
      by_cases hc54 : (own_hash T) = (own_hash (own_sl cs p3 p4))
      · skip
        refine OE.icmpNo X9 hx hby own_d9_54 (teq hc54).2 ?_
        refine OE.aloadN X9 hx hby own_d9_57 rfl rfl ?_
        refine OE.iload X9 hx hby own_d9_58 rfl ?_
        refine OE.aloadN X9 hx hby own_d9_60 rfl rfl ?_
        refine OE.iloadN X9 hx hby own_d9_61 rfl ?_
        refine OE.iloadN X9 hx hby own_d9_62 rfl ?_
        obtain ⟨cq11, qa11, qb11⟩ := E_a1.cell
        obtain ⟨_, _, ⟨T11, L11, k11, n11⟩, -, X11, ⟨Lc11, hQ11, l11, y11, z11⟩, st11⟩ := X9.privateBack hx (y := (⟨"com/example/archerfish/archerfish/index/TokenTable", "holds", "(I[CII)Z"⟩ : MethodName)) hown (mvT hZ (hw _ (List.mem_of_getElem? (i := 54) rfl))) (mvT hZ (hw _ (List.mem_of_getElem? (i := 55) rfl))) (own_sel (mvT hZ (hw _ (List.mem_of_getElem? (i := 55) rfl)) (args := #[])) (Cond.privateMethod_at (mvP hZ (hw _ (List.mem_of_getElem? (i := 56) rfl)) (args := #[]))) (mvT hZ (hw _ (List.mem_of_getElem? (i := 9) rfl)) (args := #[])) (by decide)) (Cond.privateMethod_at (mvP hZ (hw _ (List.mem_of_getElem? (i := 56) rfl)) (args := #[]))) (mvT hZ (hw _ (List.mem_of_getElem? (i := 57) rfl))) (by decide) (backOf (W := 0) (own_rm10 l Z a0 hw [] a1 (Int32.ofNat k) a2 p3 p4 st ch kst kch vsS vsC cs kt f g T h0 n0 Z0 F_starts_a1 F_chars_a1 V_st V_ch V_a2 hcl hrg oq.2.1 (by rw [oq.2.2]; exact q1) (by rw [(own_k513 oq.2.1).2.2, oq.2.2]; exact q2) q3 q6) hZ (hw _ (List.mem_of_getElem? (i := 57) rfl)) (hw _ (List.mem_of_getElem? (i := 10) rfl)) (by decide) (by decide)) (g := (mkF m 63 #[.val (.ref a1), .val (.ref a2), .val (.int p3), .val (.int p4), .val (.int (own_hash (own_sl cs p3 p4))), .val (.int (1023 : Int32)), .val (.int i), .val (.int (Int32.ofNat k))] [(.int p4), (.int p3), (.ref a2), (.int (Int32.ofNat k)), (.ref a1)])) rfl (by rw [hml]; rfl) (Steps.refl _) (a := a1) (by rw [e9]; exact qa11) qb11 (argsL := [(.int (Int32.ofNat k)), (.ref a2), (.int p3), (.int p4)]) (rest := []) (lenOf own_pd2 rfl) rfl (by show 2 * 0 + _ ≤ _; exact Nat.le_of_eq rfl) (hb hby own_d9_63) (fun _ _ => ⟨rfl, e9, (Nat.le_trans (Nat.add_le_add_right hcl4 0) (by decide)), (Nat.le_trans (Nat.add_le_add_right hsl4 0) (by decide))⟩)
        dsimp only [Pt.U, Pt.locs, Pt.cells, Pt.slots] at X11 l11 y11 z11 st11 hQ11
        have yc11 : cells4 = k11 := y11.symm
        have zc11 : slots4 = n11 := z11.symm
        have lc11 := l11.symm
        subst lc11 yc11 zc11
        obtain ⟨r11_r, rfl, Nq11, eq11, h11_hr⟩ := hQ11
        refine OE.of (fun _ k => st11.trans k) ?_
        have N11 := Fr.app N4 Nq11
        show OE _ p e below s _ _ _ T11 (mkF m 66 #[.val (.ref a1), .val (.ref a2), .val (.int p3), .val (.int p4), .val (.int (own_hash (own_sl cs p3 p4))), .val (.int (1023 : Int32)), .val (.int i), .val (.int (Int32.ofNat k))] [(.int r11_r)])
        rcases h11_hr with ⟨e1, hTQ⟩ | ⟨e1, hTQ⟩
        · subst e1
          show OE _ p e below s _ _ _ T11 (mkF m 66 #[.val (.ref a1), .val (.ref a2), .val (.int p3), .val (.int p4), .val (.int (own_hash (own_sl cs p3 p4))), .val (.int (1023 : Int32)), .val (.int i), .val (.int (Int32.ofNat k))] [(.int (1 : Int32))])
          refine OE.ifNo X11 hx hby own_d9_66 (feq (by decide : ¬ ((1 : Int32) = (0 : Int32)))).1 ?_
          refine OE.iload X11 hx hby own_d9_69 rfl ?_
          refine OE.retI X11 hx Bd.returns Bd.notSynchronized (hb hby own_d9_71) (Nat.le_trans hcl4 (by decide)) (Nat.le_trans hsl4 (by decide)) ?_
          rw [eq11]
          exact ⟨_, rfl, N11, rfl, Or.inr ⟨k, hk, rfl, hT.trans (congrArg some hTQ)⟩⟩
        · subst e1
          show OE _ p e below s _ _ _ T11 (mkF m 66 #[.val (.ref a1), .val (.ref a2), .val (.int p3), .val (.int p4), .val (.int (own_hash (own_sl cs p3 p4))), .val (.int (1023 : Int32)), .val (.int i), .val (.int (Int32.ofNat k))] [(.int (0 : Int32))])
          refine OE.ifYes X11 hx hby (pc' := 72) own_d9_66 (teq (by decide : (0 : Int32) = (0 : Int32))).1 (h := ?_)
          refine OE.iload X11 hx hby own_d9_72 rfl ?_
          refine OE.iconst X11 hx hby own_d9_74 (1 : Int32) rfl ?_
          refine OE.iadd X11 hx hby own_d9_75 ?_
          refine OE.iload X11 hx hby own_d9_76 rfl ?_
          refine OE.iand X11 hx hby own_d9_78 ?_
          refine OE.istore X11 hx hby own_d9_79 (l' := #[.val (.ref a1), .val (.ref a2), .val (.int p3), .val (.int p4), .val (.int (own_hash (own_sl cs p3 p4))), .val (.int (1023 : Int32)), .val (.int ((i + (1 : Int32)) &&& (1023 : Int32))), .val (.int (Int32.ofNat k))]) rfl ?_
          refine OE.goto X11 hx hby (pc' := 24) own_d9_81 (h := ?_)
          have q := own_nx hi.1 hi.2
          have hdD : d ≠ D := fun q => hc31 (by rw [hi.2, q]; exact hD2)
          exact ih4 _ (by omega) ((i + (1 : Int32)) &&& (1023 : Int32)) (d + 1) (.val (.int (Int32.ofNat k))) _ _ _ _ rfl X11 eq11 N11 (Nat.le_trans hcl4 (by decide)) (Nat.le_trans hsl4 (by decide)) (by omega) q (Or.inr ⟨_, rfl⟩) (fun e he => by
              by_cases q1 : e < d
              · exact hn e q1
              · have : e = d := by omega
                rw [this, ← hi.2]; exact ⟨k, T, hk, hS, hT, hTQ⟩)
      · skip
        refine OE.icmpYes X9 hx hby (pc' := 72) own_d9_54 (feq hc54).2 (h := ?_)
        refine OE.iload X9 hx hby own_d9_72 rfl ?_
        refine OE.iconst X9 hx hby own_d9_74 (1 : Int32) rfl ?_
        refine OE.iadd X9 hx hby own_d9_75 ?_
        refine OE.iload X9 hx hby own_d9_76 rfl ?_
        refine OE.iand X9 hx hby own_d9_78 ?_
        refine OE.istore X9 hx hby own_d9_79 (l' := #[.val (.ref a1), .val (.ref a2), .val (.int p3), .val (.int p4), .val (.int (own_hash (own_sl cs p3 p4))), .val (.int (1023 : Int32)), .val (.int ((i + (1 : Int32)) &&& (1023 : Int32))), .val (.int (Int32.ofNat k))]) rfl ?_
        refine OE.goto X9 hx hby (pc' := 24) own_d9_81 (h := ?_)
        have q := own_nx hi.1 hi.2
        have hdD : d ≠ D := fun q => hc31 (by rw [hi.2, q]; exact hD2)
        exact ih4 _ (by omega) ((i + (1 : Int32)) &&& (1023 : Int32)) (d + 1) (.val (.int (Int32.ofNat k))) _ _ _ _ rfl X9 e9 N4 (Nat.le_trans hcl4 (by decide)) (Nat.le_trans hsl4 (by decide)) (by omega) q (Or.inr ⟨_, rfl⟩) (fun e he => by
            by_cases q1 : e < d
            · exact hn e q1
            · have : e = d := by omega
              rw [this, ← hi.2]; exact ⟨k, T, hk, hS, hT, (fun q => hc54 (by rw [q]))⟩)
  exact lp _ (own_hash (own_sl cs p3 p4) &&& (1023 : Int32)) 0 (.unset) _ _ _ _ rfl X2 e2 N1 (by decide) (by decide) (Nat.zero_le _) ⟨hmb.1, by rw [Nat.add_zero, Nat.mod_eq_of_lt hmb.2.2]⟩ (Or.inl rfl) (fun e he => absurd he (Nat.not_lt_zero e))
theorem own_three (x : Int32) : (x &&& (3 : Int32)) = 0 ∨ (x &&& (3 : Int32)) = 1 ∨ (x &&& (3 : Int32)) = 2 ∨ (x &&& (3 : Int32)) = 3 := by
  have hv := c_and x 3 (by decide)
  have h3 : (3 : Int32).toInt = 3 := by decide
  rw [h3] at hv
  generalize (x &&& (3 : Int32)) = v at *
  have b0 : (0 : Int32).toInt = 0 := by decide
  have b1 : (1 : Int32).toInt = 1 := by decide
  have b2 : (2 : Int32).toInt = 2 := by decide
  have : v.toInt = 0 ∨ v.toInt = 1 ∨ v.toInt = 2 ∨ v.toInt = 3 := by omega
  rcases this with h | h | h | h
  · exact Or.inl (Int32.toInt_inj.mp (by omega))
  · exact Or.inr (Or.inl (Int32.toInt_inj.mp (by omega)))
  · exact Or.inr (Or.inr (Or.inl (Int32.toInt_inj.mp (by omega))))
  · exact Or.inr (Or.inr (Or.inr (Int32.toInt_inj.mp (by omega))))
theorem own_k0 {Q : List Int32} {k : Nat} (h : ([] : List (List Int32))[k]? = some Q) : False := by simp at h
theorem own_k1 {A Q : List Int32} {k : Nat} (h : [A][k]? = some Q) : k = 0 ∧ A = Q := by
  match k, h with
  | 0, h => exact ⟨rfl, Option.some.inj h⟩
theorem own_k2 {A B Q : List Int32} {k : Nat} (h : [A, B][k]? = some Q) : (k = 0 ∧ A = Q) ∨ (k = 1 ∧ B = Q) := by
  match k, h with
  | 0, h => exact Or.inl ⟨rfl, Option.some.inj h⟩
  | 1, h => exact Or.inr ⟨rfl, Option.some.inj h⟩
theorem own_k3 {A B C Q : List Int32} {k : Nat} (h : [A, B, C][k]? = some Q) : (k = 0 ∧ A = Q) ∨ (k = 1 ∧ B = Q) ∨ (k = 2 ∧ C = Q) := by
  match k, h with
  | 0, h => exact Or.inl ⟨rfl, Option.some.inj h⟩
  | 1, h => exact Or.inr (Or.inl ⟨rfl, Option.some.inj h⟩)
  | 2, h => exact Or.inr (Or.inr ⟨rfl, Option.some.inj h⟩)
theorem own_f0 {Q : List Int32} {r : Int32} (h : own_fnd [] Q r) : r = (-1 : Int32) := by
  rcases h with ⟨e, -⟩ | ⟨k, -, -, h1⟩
  · exact e
  · exact (own_k0 h1).elim
theorem own_f1a {A Q : List Int32} {r : Int32} (h : own_fnd [A] Q r) (e : Q = A) : r = (0 : Int32) := by
  rcases h with ⟨-, h1⟩ | ⟨k, -, rfl, h1⟩
  · exact absurd (congrArg some e.symm) (h1 0)
  · obtain ⟨rfl, -⟩ := own_k1 h1; rfl
theorem own_f1n {A Q : List Int32} {r : Int32} (h : own_fnd [A] Q r) (n : Q ≠ A) : r = (-1 : Int32) := by
  rcases h with ⟨e, -⟩ | ⟨k, -, rfl, h1⟩
  · exact e
  · exact absurd (own_k1 h1).2.symm n
theorem own_f2a {A B Q : List Int32} {r : Int32} (h : own_fnd [A, B] Q r) (n1 : B ≠ A) (e : Q = A) : r = (0 : Int32) := by
  rcases h with ⟨-, h1⟩ | ⟨k, -, rfl, h1⟩
  · exact absurd (congrArg some e.symm) (h1 0)
  · rcases own_k2 h1 with ⟨rfl, -⟩ | ⟨-, q⟩
    · rfl
    · exact absurd (q.trans e) n1
theorem own_f2b {A B Q : List Int32} {r : Int32} (h : own_fnd [A, B] Q r) (n : Q ≠ A) (e : Q = B) : r = (1 : Int32) := by
  rcases h with ⟨-, h1⟩ | ⟨k, -, rfl, h1⟩
  · exact absurd (congrArg some e.symm) (h1 1)
  · rcases own_k2 h1 with ⟨-, q⟩ | ⟨rfl, -⟩
    · exact absurd q.symm n
    · rfl
theorem own_f2n {A B Q : List Int32} {r : Int32} (h : own_fnd [A, B] Q r) (n : Q ≠ A) (n2 : Q ≠ B) : r = (-1 : Int32) := by
  rcases h with ⟨e, -⟩ | ⟨k, -, rfl, h1⟩
  · exact e
  · rcases own_k2 h1 with ⟨-, q⟩ | ⟨-, q⟩
    · exact absurd q.symm n
    · exact absurd q.symm n2
theorem own_f3a {A B C Q : List Int32} {r : Int32} (h : own_fnd [A, B, C] Q r) (n1 : B ≠ A) (n2 : C ≠ A) (e : Q = A) : r = (0 : Int32) := by
  rcases h with ⟨-, h1⟩ | ⟨k, -, rfl, h1⟩
  · exact absurd (congrArg some e.symm) (h1 0)
  · rcases own_k3 h1 with ⟨rfl, -⟩ | ⟨-, q⟩ | ⟨-, q⟩
    · rfl
    · exact absurd (q.trans e) n1
    · exact absurd (q.trans e) n2
theorem own_f3b {A B C Q : List Int32} {r : Int32} (h : own_fnd [A, B, C] Q r) (n1 : C ≠ B) (n : Q ≠ A) (e : Q = B) : r = (1 : Int32) := by
  rcases h with ⟨-, h1⟩ | ⟨k, -, rfl, h1⟩
  · exact absurd (congrArg some e.symm) (h1 1)
  · rcases own_k3 h1 with ⟨-, q⟩ | ⟨rfl, -⟩ | ⟨-, q⟩
    · exact absurd q.symm n
    · rfl
    · exact absurd (q.trans e) n1
theorem own_f3c {A B C Q : List Int32} {r : Int32} (h : own_fnd [A, B, C] Q r) (n : Q ≠ A) (n2 : Q ≠ B) (e : Q = C) : r = (2 : Int32) := by
  rcases h with ⟨-, h1⟩ | ⟨k, -, rfl, h1⟩
  · exact absurd (congrArg some e.symm) (h1 2)
  · rcases own_k3 h1 with ⟨-, q⟩ | ⟨-, q⟩ | ⟨rfl, -⟩
    · exact absurd q.symm n
    · exact absurd q.symm n2
    · rfl
theorem own_f3n {A B C Q : List Int32} {r : Int32} (h : own_fnd [A, B, C] Q r) (n : Q ≠ A) (n2 : Q ≠ B) (n3 : Q ≠ C) : r = (-1 : Int32) := by
  rcases h with ⟨e, -⟩ | ⟨k, -, rfl, h1⟩
  · exact e
  · rcases own_k3 h1 with ⟨-, q⟩ | ⟨-, q⟩ | ⟨-, q⟩
    · exact absurd q.symm n
    · exact absurd q.symm n2
    · exact absurd q.symm n3
theorem own_pd3 : parseMethodDescriptor "()V" = some ⟨[], none⟩ := by decide +kernel
theorem own_pd4 : parseMethodDescriptor "()I" = some ⟨[], some .int⟩ := by decide +kernel
theorem own_pd5 : parseMethodDescriptor "([CII[CII)Z" = some ⟨[(.array .char), .int, .int, (.array .char), .int, .int], some .boolean⟩ := by decide +kernel
theorem own_pd6 : parseMethodDescriptor "(I)I" = some ⟨[.int], some .int⟩ := by decide +kernel
def own_Q0 (Z : State) (p1 : Int32) (p2 : Int32) (p3 : Int32) (p4 : Int32) (h0 : Heap) (n0 : Nat) (v : Option Value) (h : Heap) (L : List Loc) : Prop := v = some (.int (1 : Int32)) ∧ Fr n0 L
theorem own_ef_own_rm0 (m : MethodId) (p1 : Int32) (p2 : Int32) (p3 : Int32) (p4 : Int32) : entryFrame m #[(.int p1), (.int p2), (.int p3), (.int p4)] maxLocals = mkF m 0 #[.val (.int p1), .val (.int p2), .val (.int p3), .val (.int p4), .unset, .unset, .unset, .unset, .unset, .unset, .unset, .unset, .unset, .unset, .unset, .unset, .unset, .unset, .unset, .unset, .unset, .unset, .unset, .unset, .unset, .unset, .unset, .unset] [] := by first | (simp [entryFrame, mkF, argsToLocals, Value.category, maxLocals]; done) | rfl
set_option maxRecDepth 65536 in
set_option maxHeartbeats 40000000 in
theorem own_rm0 (l : Launch) (Z : State) (a0 : Array Value) (hw : ∀ d ∈ tables_1, d.before a0 Z = true) (ws : List Jvm.Cond) (p1 : Int32) (p2 : Int32) (p3 : Int32) (p4 : Int32) (h0 : Heap) (n0 : Nat) (Z0 : n0 ≤ h0.size) :
    MetFree l x (head1 (Jvm.Cond.code x code maxLocals ret :: ws) room_1) (fun a U => a = #[(.int p1), (.int p2), (.int p3), (.int p4)] ∧ Z.Warmed39 U.vm ∧ U.heap = h0) (fun _ _ _ _ _ => True) (fun _ U o U' => ∃ v L, o = .returned v ∧ own_Q0 Z p1 p2 p3 p4 h0 n0 v U'.heap L ∧ FrameEnd U o U' L room_1.cells room_1.slots) := by
  refine MetFree.of_bodySF (plainFor_of_name own_pn1) hisR ?_
  intro p e s m args below meth c s₁ Bd hml0 hP hK
  obtain ⟨rfl, hZ, hh⟩ := hP
  have hx := Bd.exec
  have hby := Bd.bytes
  have hml : c.maxLocals = 28 := hml0
  have hown : s.vm.findClass "com/example/archerfish/archerfish/index/TokenTableFindPinLaw" = some m.cls := findClass_of_methodNamed Bd.named
  have hnm := (name_of_methodNamed Bd.named Bd.method).1
  have X0 : Stand p l e room_1 s m #[(.int p1), (.int p2), (.int p3), (.int p4)] below meth c s₁ [] 0 0 := Stand.of_body Bd
  have e0 : s₁.heap = h0 := by rw [← hh, Bd.state]; rfl
  have N0 := Fr.nil n0
  show OE FrameEnd p e below s (own_Q0 Z p1 p2 p3 p4 h0 n0) room_1.cells room_1.slots s₁ (entryFrame m #[(.int p1), (.int p2), (.int p3), (.int p4)] maxLocals)
  rw [own_ef_own_rm0]
  have c214 : ∀ (cm : Int32) (t : Addr) (u : Addr) (kk : Int32) (sm : Int32) (qa : Addr) (tl : List Int32) (ql : List Int32) (kt : ClassId) (kq : ClassId) (xa : Int32) (ya : Int32) (xb : Int32) (yb : Int32) (xc : Int32) (yc : Int32) (xq : Int32) (yq : Int32) (T1 : State) (H1 : Heap) (locs1 : List Loc) (cells1 : Nat) (slots1 : Nat), Stand p l e room_1 s m #[(.int p1), (.int p2), (.int p3), (.int p4)] below meth c T1 locs1 cells1 slots1 → T1.heap = H1 → Fr n0 locs1 → cells1 ≤ 2 → slots1 ≤ 8 → n0 ≤ H1.size → Keep h0 H1 [] → Arv Z H1 t kt .char (4 : Int32) (List.map Value.int tl) (.int (0 : Int32)) → Arv Z H1 qa kq .char (4 : Int32) (List.map Value.int ql) (.int (0 : Int32)) → (tl.length = 4) → (ql.length = 4) → (kk = 0 ∨ kk = 1 ∨ kk = 2 ∨ kk = 3) → (own_rg xa ya) → (own_rg xb yb) → (own_rg xc yc) → (own_rg xq yq) → OE FrameEnd p e below s (own_Q0 Z p1 p2 p3 p4 h0 n0) room_1.cells room_1.slots T1 (mkF m 214 #[.val (.int p1), .val (.int p2), .val (.int p3), .val (.int p4), .val (.int cm), .val (.ref t), .val (.ref u), .val (.int kk), .val (.int sm), .val (.ref qa), .val (.int xa), .val (.int ya), .val (.int xb), .val (.int yb), .val (.int xc), .val (.int yc), .val (.int xq), .val (.int yq), .unset, .unset, .unset, .unset, .unset, .unset, .unset, .unset, .unset, .unset] []) := by
    intro cm t u kk sm qa tl ql kt kq xa ya xb yb xc yc xq yq T1 H1 locs1 cells1 slots1 X1 e1 N1 hcl1 hsl1 z1 K1 V_t V_qa htl hql hkk hrA hrB hrC hrQ
    show OE _ p e below s _ _ _ T1 (mkF m 214 #[.val (.int p1), .val (.int p2), .val (.int p3), .val (.int p4), .val (.int cm), .val (.ref t), .val (.ref u), .val (.int kk), .val (.int sm), .val (.ref qa), .val (.int xa), .val (.int ya), .val (.int xb), .val (.int yb), .val (.int xc), .val (.int yc), .val (.int xq), .val (.int yq), .unset, .unset, .unset, .unset, .unset, .unset, .unset, .unset, .unset, .unset] [])
    obtain ⟨T2, h2, X2, e2, E2, A2, D2, -, st2⟩ := newO X1 hx hZ hown (hw _ (List.mem_of_getElem? (i := 8) rfl)) (hw _ (List.mem_of_getElem? (i := 9) rfl)) (hw _ (List.mem_of_getElem? (i := 10) rfl)) e1 (g := (mkF m 214 #[.val (.int p1), .val (.int p2), .val (.int p3), .val (.int p4), .val (.int cm), .val (.ref t), .val (.ref u), .val (.int kk), .val (.int sm), .val (.ref qa), .val (.int xa), .val (.int ya), .val (.int xb), .val (.int yb), .val (.int xc), .val (.int yc), .val (.int xq), .val (.int yq), .unset, .unset, .unset, .unset, .unset, .unset, .unset, .unset, .unset, .unset] [])) rfl (hb hby at_214) (Nat.le_trans (Nat.add_le_add_right hcl1 1) (by decide)) (Nat.le_trans (Nat.add_le_add_right hsl1 5) (by decide))
    refine OE.of st2 ?_
    obtain ⟨b2, g2⟩ : ∃ z, z = H1.size := ⟨_, rfl⟩
    rw [← g2] at A2 D2 ⊢
    have ne_qa_b2 : qa ≠ b2 := Nat.ne_of_lt (Nat.lt_of_lt_of_le V_qa.lt (Nat.le_of_eq g2.symm))
    have ne_t_b2 : t ≠ b2 := Nat.ne_of_lt (Nat.lt_of_lt_of_le V_t.lt (Nat.le_of_eq g2.symm))
    have g_b2 : n0 ≤ b2 := Nat.le_trans z1 (Nat.le_of_eq g2.symm)
    have sz_b2 : h0.size ≤ b2 := Nat.le_trans K1.1 (Nat.le_of_eq g2.symm)
    have F2_slots : Fld Z h2 b2 "com/example/archerfish/archerfish/index/TokenTable" "slots" "[I" .null := D2 (Or.inl (hw _ (List.mem_of_getElem? (i := 19) rfl))) (ty := (.array .int)) (by decide)
    have F2_hashes : Fld Z h2 b2 "com/example/archerfish/archerfish/index/TokenTable" "hashes" "[I" .null := D2 (Or.inl (hw _ (List.mem_of_getElem? (i := 21) rfl))) (ty := (.array .int)) (by decide)
    have F2_starts : Fld Z h2 b2 "com/example/archerfish/archerfish/index/TokenTable" "starts" "[I" .null := D2 (Or.inl (hw _ (List.mem_of_getElem? (i := 23) rfl))) (ty := (.array .int)) (by decide)
    have F2_chars : Fld Z h2 b2 "com/example/archerfish/archerfish/index/TokenTable" "chars" "[C" .null := D2 (Or.inl (hw _ (List.mem_of_getElem? (i := 25) rfl))) (ty := (.array .char)) (by decide)
    have F2_size : Fld Z h2 b2 "com/example/archerfish/archerfish/index/TokenTable" "size" "I" (.int (0 : Int32)) := D2 (Or.inl (hw _ (List.mem_of_getElem? (i := 32) rfl))) (ty := .int) (by decide)
    show OE _ p e below s _ _ _ T2 (mkF m 217 #[.val (.int p1), .val (.int p2), .val (.int p3), .val (.int p4), .val (.int cm), .val (.ref t), .val (.ref u), .val (.int kk), .val (.int sm), .val (.ref qa), .val (.int xa), .val (.int ya), .val (.int xb), .val (.int yb), .val (.int xc), .val (.int yc), .val (.int xq), .val (.int yq), .unset, .unset, .unset, .unset, .unset, .unset, .unset, .unset, .unset, .unset] [(.ref b2)])
    refine OE.dup X2 hx hby at_217 rfl ?_
    have z3 : n0 ≤ h2.size := (Nat.le_trans z1 E2.1)
    obtain ⟨_, _, ⟨T4, L4, k4, n4⟩, -, X4, ⟨Lc4, hQ4, l4, y4, z4⟩, st4⟩ := X2.specialBack hx (y := (⟨"com/example/archerfish/archerfish/index/TokenTable", "<init>", "()V"⟩ : MethodName)) rfl hown (mvT hZ (hw _ (List.mem_of_getElem? (i := 11) rfl))) (mvT hZ (hw _ (List.mem_of_getElem? (i := 12) rfl))) (mvT hZ (hw _ (List.mem_of_getElem? (i := 13) rfl))) (by decide) (backOf (W := 1) (own_rm3 l Z a0 hw [] b2 h2 n0 z3 A2 F2_slots F2_hashes F2_starts F2_chars F2_size g_b2) hZ (hw _ (List.mem_of_getElem? (i := 13) rfl)) (hw _ (List.mem_of_getElem? (i := 10) rfl)) (by decide) (by decide)) (g := (mkF m 218 #[.val (.int p1), .val (.int p2), .val (.int p3), .val (.int p4), .val (.int cm), .val (.ref t), .val (.ref u), .val (.int kk), .val (.int sm), .val (.ref qa), .val (.int xa), .val (.int ya), .val (.int xb), .val (.int yb), .val (.int xc), .val (.int yc), .val (.int xq), .val (.int yq), .unset, .unset, .unset, .unset, .unset, .unset, .unset, .unset, .unset, .unset] [(.ref b2), (.ref b2)])) rfl (by rw [hml]; rfl) (Steps.refl _) (a := b2) (argsL := []) (rest := [(.ref b2)]) (lenOf own_pd3 rfl) rfl (by show 2 * 0 + _ ≤ _; exact Nat.le_of_eq rfl) (hb hby at_218) (fun _ _ => ⟨rfl, e2, (Nat.le_trans (Nat.add_le_add_right (Nat.add_le_add_right hcl1 1) 4) (by decide)), (Nat.le_trans (Nat.add_le_add_right (Nat.add_le_add_right hsl1 5) 6145) (by decide))⟩)
    dsimp only [Pt.U, Pt.locs, Pt.cells, Pt.slots] at X4 l4 y4 z4 st4 hQ4
    have yc4 : cells1 + 5 = k4 := y4.symm
    have zc4 : slots1 + 6150 = n4 := z4.symm
    have lc4 := l4.symm
    subst lc4 yc4 zc4
    obtain ⟨r4_sl, r4_ha, r4_st, r4_ch, r4_ksl, r4_kha, r4_kst, r4_kch, rfl, Nq4, K4, q4_0, q4_1, q4_2, q4_3, q4_4, q4_5, q4_6, q4_7, q4_8, q4_9, h4_s_sl, h4_s_ha, h4_s_st, h4_s_ch, h4_n_sl_ha, h4_n_sl_st, h4_n_sl_ch, h4_n_ha_st, h4_n_ha_ch, h4_n_st_ch⟩ := hQ4
    refine OE.of (fun _ k => st4.trans k) ?_
    have N4 := Fr.app N1 Nq4
    have ne_b2_r4_sl : b2 ≠ r4_sl := Nat.ne_of_lt (Nat.lt_of_lt_of_le A2.lt h4_s_sl)
    have f5 : Arv Z h2 qa kq .char (4 : Int32) (List.map Value.int ql) (.int (0 : Int32)) := (V_qa.ext E2)
    have ne_qa_r4_sl : qa ≠ r4_sl := Nat.ne_of_lt (Nat.lt_of_lt_of_le f5.lt h4_s_sl)
    have f6 : Arv Z h2 t kt .char (4 : Int32) (List.map Value.int tl) (.int (0 : Int32)) := (V_t.ext E2)
    have ne_t_r4_sl : t ≠ r4_sl := Nat.ne_of_lt (Nat.lt_of_lt_of_le f6.lt h4_s_sl)
    have g_r4_sl : n0 ≤ r4_sl := Nat.le_trans z3 h4_s_sl
    have K7 : Keep h0 h2 [] := (Keep.ext K1 E2)
    have sz_r4_sl : h0.size ≤ r4_sl := Nat.le_trans K7.1 h4_s_sl
    have ne_b2_r4_ha : b2 ≠ r4_ha := Nat.ne_of_lt (Nat.lt_of_lt_of_le A2.lt h4_s_ha)
    have ne_qa_r4_ha : qa ≠ r4_ha := Nat.ne_of_lt (Nat.lt_of_lt_of_le f5.lt h4_s_ha)
    have ne_t_r4_ha : t ≠ r4_ha := Nat.ne_of_lt (Nat.lt_of_lt_of_le f6.lt h4_s_ha)
    have g_r4_ha : n0 ≤ r4_ha := Nat.le_trans z3 h4_s_ha
    have sz_r4_ha : h0.size ≤ r4_ha := Nat.le_trans K7.1 h4_s_ha
    have ne_b2_r4_st : b2 ≠ r4_st := Nat.ne_of_lt (Nat.lt_of_lt_of_le A2.lt h4_s_st)
    have ne_qa_r4_st : qa ≠ r4_st := Nat.ne_of_lt (Nat.lt_of_lt_of_le f5.lt h4_s_st)
    have ne_t_r4_st : t ≠ r4_st := Nat.ne_of_lt (Nat.lt_of_lt_of_le f6.lt h4_s_st)
    have g_r4_st : n0 ≤ r4_st := Nat.le_trans z3 h4_s_st
    have sz_r4_st : h0.size ≤ r4_st := Nat.le_trans K7.1 h4_s_st
    have ne_b2_r4_ch : b2 ≠ r4_ch := Nat.ne_of_lt (Nat.lt_of_lt_of_le A2.lt h4_s_ch)
    have ne_qa_r4_ch : qa ≠ r4_ch := Nat.ne_of_lt (Nat.lt_of_lt_of_le f5.lt h4_s_ch)
    have ne_t_r4_ch : t ≠ r4_ch := Nat.ne_of_lt (Nat.lt_of_lt_of_le f6.lt h4_s_ch)
    have g_r4_ch : n0 ≤ r4_ch := Nat.le_trans z3 h4_s_ch
    have sz_r4_ch : h0.size ≤ r4_ch := Nat.le_trans K7.1 h4_s_ch
    show OE _ p e below s _ _ _ T4 (mkF m 221 #[.val (.int p1), .val (.int p2), .val (.int p3), .val (.int p4), .val (.int cm), .val (.ref t), .val (.ref u), .val (.int kk), .val (.int sm), .val (.ref qa), .val (.int xa), .val (.int ya), .val (.int xb), .val (.int yb), .val (.int xc), .val (.int yc), .val (.int xq), .val (.int yq), .unset, .unset, .unset, .unset, .unset, .unset, .unset, .unset, .unset, .unset] [(.ref b2)])
    refine OE.astore X4 hx hby at_221 rfl (l' := #[.val (.int p1), .val (.int p2), .val (.int p3), .val (.int p4), .val (.int cm), .val (.ref t), .val (.ref u), .val (.int kk), .val (.int sm), .val (.ref qa), .val (.int xa), .val (.int ya), .val (.int xb), .val (.int yb), .val (.int xc), .val (.int yc), .val (.int xq), .val (.int yq), .val (.ref b2), .unset, .unset, .unset, .unset, .unset, .unset, .unset, .unset, .unset]) rfl ?_
    refine OE.iconst X4 hx hby at_223 (1 : Int32) rfl ?_
    refine OE.istore X4 hx hby at_224 (l' := #[.val (.int p1), .val (.int p2), .val (.int p3), .val (.int p4), .val (.int cm), .val (.ref t), .val (.ref u), .val (.int kk), .val (.int sm), .val (.ref qa), .val (.int xa), .val (.int ya), .val (.int xb), .val (.int yb), .val (.int xc), .val (.int yc), .val (.int xq), .val (.int yq), .val (.ref b2), .val (.int (1 : Int32)), .unset, .unset, .unset, .unset, .unset, .unset, .unset, .unset]) rfl ?_
    refine OE.iconst X4 hx hby at_226 (0 : Int32) rfl ?_
    refine OE.istore X4 hx hby at_227 (l' := #[.val (.int p1), .val (.int p2), .val (.int p3), .val (.int p4), .val (.int cm), .val (.ref t), .val (.ref u), .val (.int kk), .val (.int sm), .val (.ref qa), .val (.int xa), .val (.int ya), .val (.int xb), .val (.int yb), .val (.int xc), .val (.int yc), .val (.int xq), .val (.int yq), .val (.ref b2), .val (.int (1 : Int32)), .val (.int (0 : Int32)), .unset, .unset, .unset, .unset, .unset, .unset, .unset]) rfl ?_
    refine OE.iconst X4 hx hby at_229 (0 : Int32) rfl ?_
    refine OE.istore X4 hx hby at_230 (l' := #[.val (.int p1), .val (.int p2), .val (.int p3), .val (.int p4), .val (.int cm), .val (.ref t), .val (.ref u), .val (.int kk), .val (.int sm), .val (.ref qa), .val (.int xa), .val (.int ya), .val (.int xb), .val (.int yb), .val (.int xc), .val (.int yc), .val (.int xq), .val (.int yq), .val (.ref b2), .val (.int (1 : Int32)), .val (.int (0 : Int32)), .val (.int (0 : Int32)), .unset, .unset, .unset, .unset, .unset, .unset]) rfl ?_
    refine OE.iconst X4 hx hby at_232 (0 : Int32) rfl ?_
    refine OE.istore X4 hx hby at_233 (l' := #[.val (.int p1), .val (.int p2), .val (.int p3), .val (.int p4), .val (.int cm), .val (.ref t), .val (.ref u), .val (.int kk), .val (.int sm), .val (.ref qa), .val (.int xa), .val (.int ya), .val (.int xb), .val (.int yb), .val (.int xc), .val (.int yc), .val (.int xq), .val (.int yq), .val (.ref b2), .val (.int (1 : Int32)), .val (.int (0 : Int32)), .val (.int (0 : Int32)), .val (.int (0 : Int32)), .unset, .unset, .unset, .unset, .unset]) rfl ?_
    refine OE.iconst X4 hx hby at_235 (-1 : Int32) rfl ?_
    refine OE.istore X4 hx hby at_236 (l' := #[.val (.int p1), .val (.int p2), .val (.int p3), .val (.int p4), .val (.int cm), .val (.ref t), .val (.ref u), .val (.int kk), .val (.int sm), .val (.ref qa), .val (.int xa), .val (.int ya), .val (.int xb), .val (.int yb), .val (.int xc), .val (.int yc), .val (.int xq), .val (.int yq), .val (.ref b2), .val (.int (1 : Int32)), .val (.int (0 : Int32)), .val (.int (0 : Int32)), .val (.int (0 : Int32)), .val (.int (-1 : Int32)), .unset, .unset, .unset, .unset]) rfl ?_
    refine OE.iconst X4 hx hby at_238 (-1 : Int32) rfl ?_
    refine OE.istore X4 hx hby at_239 (l' := #[.val (.int p1), .val (.int p2), .val (.int p3), .val (.int p4), .val (.int cm), .val (.ref t), .val (.ref u), .val (.int kk), .val (.int sm), .val (.ref qa), .val (.int xa), .val (.int ya), .val (.int xb), .val (.int yb), .val (.int xc), .val (.int yc), .val (.int xq), .val (.int yq), .val (.ref b2), .val (.int (1 : Int32)), .val (.int (0 : Int32)), .val (.int (0 : Int32)), .val (.int (0 : Int32)), .val (.int (-1 : Int32)), .val (.int (-1 : Int32)), .unset, .unset, .unset]) rfl ?_
    refine OE.iconst X4 hx hby at_241 (0 : Int32) rfl ?_
    refine OE.istore X4 hx hby at_242 (l' := #[.val (.int p1), .val (.int p2), .val (.int p3), .val (.int p4), .val (.int cm), .val (.ref t), .val (.ref u), .val (.int kk), .val (.int sm), .val (.ref qa), .val (.int xa), .val (.int ya), .val (.int xb), .val (.int yb), .val (.int xc), .val (.int yc), .val (.int xq), .val (.int yq), .val (.ref b2), .val (.int (1 : Int32)), .val (.int (0 : Int32)), .val (.int (0 : Int32)), .val (.int (0 : Int32)), .val (.int (-1 : Int32)), .val (.int (-1 : Int32)), .val (.int (0 : Int32)), .unset, .unset]) rfl ?_
    rcases hkk with rfl | rfl | rfl | rfl
    · skip
      show OE _ p e below s _ _ _ T4 (mkF m 244 #[.val (.int p1), .val (.int p2), .val (.int p3), .val (.int p4), .val (.int cm), .val (.ref t), .val (.ref u), .val (.int (0 : Int32)), .val (.int sm), .val (.ref qa), .val (.int xa), .val (.int ya), .val (.int xb), .val (.int yb), .val (.int xc), .val (.int yc), .val (.int xq), .val (.int yq), .val (.ref b2), .val (.int (1 : Int32)), .val (.int (0 : Int32)), .val (.int (0 : Int32)), .val (.int (0 : Int32)), .val (.int (-1 : Int32)), .val (.int (-1 : Int32)), .val (.int (0 : Int32)), .unset, .unset] [])
      refine OE.iload X4 hx hby at_244 rfl ?_
      refine OE.iconst X4 hx hby at_246 (1 : Int32) rfl ?_
      refine OE.icmpYes X4 hx hby (pc' := 282) at_247 (tlt (by decide : (0 : Int32) < (1 : Int32))).1 (h := ?_)
      refine OE.iload X4 hx hby at_282 rfl ?_
      refine OE.iconst X4 hx hby at_284 (2 : Int32) rfl ?_
      refine OE.icmpYes X4 hx hby (pc' := 344) at_285 (tlt (by decide : (0 : Int32) < (2 : Int32))).1 (h := ?_)
      refine OE.iload X4 hx hby at_344 rfl ?_
      refine OE.iconst X4 hx hby at_346 (3 : Int32) rfl ?_
      refine OE.icmpYes X4 hx hby (pc' := 429) at_347 (tlt (by decide : (0 : Int32) < (3 : Int32))).1 (h := ?_)
      refine OE.iconst X4 hx hby at_429 (-1 : Int32) rfl ?_
      refine OE.istore X4 hx hby at_430 (l' := #[.val (.int p1), .val (.int p2), .val (.int p3), .val (.int p4), .val (.int cm), .val (.ref t), .val (.ref u), .val (.int (0 : Int32)), .val (.int sm), .val (.ref qa), .val (.int xa), .val (.int ya), .val (.int xb), .val (.int yb), .val (.int xc), .val (.int yc), .val (.int xq), .val (.int yq), .val (.ref b2), .val (.int (1 : Int32)), .val (.int (0 : Int32)), .val (.int (0 : Int32)), .val (.int (0 : Int32)), .val (.int (-1 : Int32)), .val (.int (-1 : Int32)), .val (.int (0 : Int32)), .val (.int (-1 : Int32)), .unset]) rfl ?_
      refine OE.iload X4 hx hby at_432 rfl ?_
      refine OE.ifYes X4 hx hby (pc' := 461) at_434 (teq (by decide : (0 : Int32) = (0 : Int32))).1 (h := ?_)
      refine OE.iload X4 hx hby at_461 rfl ?_
      refine OE.ifYes X4 hx hby (pc' := 491) at_463 (teq (by decide : (0 : Int32) = (0 : Int32))).1 (h := ?_)
      refine OE.iload X4 hx hby at_491 rfl ?_
      refine OE.ifYes X4 hx hby (pc' := 518) at_493 (teq (by decide : (0 : Int32) = (0 : Int32))).1 (h := ?_)
      refine OE.aload X4 hx hby at_518 rfl rfl ?_
      refine OE.aload X4 hx hby at_520 rfl rfl ?_
      refine OE.iload X4 hx hby at_522 rfl ?_
      refine OE.iload X4 hx hby at_524 rfl ?_
      have f8 : Arv Z T4.heap qa kq .char (4 : Int32) (List.map Value.int ql) (.int (0 : Int32)) := (f5.keep K4 (ninS ne_qa_b2 nin0))
      have z9 : n0 ≤ T4.heap.size := (Nat.le_trans z3 K4.1)
      obtain ⟨cq10, kq10, qa10, qb10, qc10⟩ := isOf hZ rfl q4_0
      obtain ⟨_, _, ⟨T10, L10, k10, n10⟩, -, X10, ⟨Lc10, hQ10, l10, y10, z10⟩, st10⟩ := X4.virtualBack hx (y := (⟨"com/example/archerfish/archerfish/index/TokenTable", "find", "([CII)I"⟩ : MethodName)) (z := (⟨"com/example/archerfish/archerfish/index/TokenTable", "find", "([CII)I"⟩ : MethodName)) hown (mvT hZ (hw _ (List.mem_of_getElem? (i := 49) rfl))) (mvT hZ (hw _ (List.mem_of_getElem? (i := 50) rfl))) (notFace_of_selects (args := #[]) (mvT hZ (hw _ (List.mem_of_getElem? (i := 52) rfl)))) (mvT hZ (hw _ (List.mem_of_getElem? (i := 52) rfl))) (mvT hZ (hw _ (List.mem_of_getElem? (i := 51) rfl))) (by decide) (backOf (W := 0) (own_rm9 l Z a0 hw [] b2 qa xq yq r4_sl r4_ha r4_st r4_ch r4_ksl r4_kha r4_kst r4_kch kq (List.replicate 1024 (0 : Int32)) (List.replicate 512 (.int (0 : Int32))) (List.replicate 513 (.int (0 : Int32))) (List.replicate 4096 (.int (0 : Int32))) ql ([] : List (List Int32)) (0 : Int32) T4.heap n0 z9 q4_0 q4_1 q4_2 q4_3 q4_4 q4_6 q4_7 q4_8 q4_9 f8 own_inv0 hql hrQ (by decide : 0 ≤ 3)) hZ (hw _ (List.mem_of_getElem? (i := 53) rfl)) (hw _ (List.mem_of_getElem? (i := 10) rfl)) (by decide) (by decide)) qa10 qc10 (g := (mkF m 526 #[.val (.int p1), .val (.int p2), .val (.int p3), .val (.int p4), .val (.int cm), .val (.ref t), .val (.ref u), .val (.int (0 : Int32)), .val (.int sm), .val (.ref qa), .val (.int xa), .val (.int ya), .val (.int xb), .val (.int yb), .val (.int xc), .val (.int yc), .val (.int xq), .val (.int yq), .val (.ref b2), .val (.int (1 : Int32)), .val (.int (0 : Int32)), .val (.int (0 : Int32)), .val (.int (0 : Int32)), .val (.int (-1 : Int32)), .val (.int (-1 : Int32)), .val (.int (0 : Int32)), .val (.int (-1 : Int32)), .unset] [(.int yq), (.int xq), (.ref qa), (.ref b2)])) rfl (by rw [hml]; rfl) (Steps.refl _) (argsL := [(.ref qa), (.int xq), (.int yq)]) (rest := []) (lenOf own_pd0 rfl) rfl (by show 2 * 0 + _ ≤ _; exact Nat.le_of_eq rfl) (hb hby at_526) (fun _ _ => ⟨rfl, rfl, (Nat.le_trans (Nat.add_le_add_right (Nat.add_le_add_right hcl1 5) 0) (by decide)), (Nat.le_trans (Nat.add_le_add_right (Nat.add_le_add_right hsl1 6150) 0) (by decide))⟩)
      dsimp only [Pt.U, Pt.locs, Pt.cells, Pt.slots] at X10 l10 y10 z10 st10 hQ10
      have yc10 : cells1 + 5 = k10 := y10.symm
      have zc10 : slots1 + 6150 = n10 := z10.symm
      have lc10 := l10.symm
      subst lc10 yc10 zc10
      obtain ⟨r10_r, rfl, Nq10, eq10, h10_hr⟩ := hQ10
      refine OE.of (fun _ k => st10.trans k) ?_
      have N10 := Fr.app N4 Nq10
      show OE _ p e below s _ _ _ T10 (mkF m 529 #[.val (.int p1), .val (.int p2), .val (.int p3), .val (.int p4), .val (.int cm), .val (.ref t), .val (.ref u), .val (.int (0 : Int32)), .val (.int sm), .val (.ref qa), .val (.int xa), .val (.int ya), .val (.int xb), .val (.int yb), .val (.int xc), .val (.int yc), .val (.int xq), .val (.int yq), .val (.ref b2), .val (.int (1 : Int32)), .val (.int (0 : Int32)), .val (.int (0 : Int32)), .val (.int (0 : Int32)), .val (.int (-1 : Int32)), .val (.int (-1 : Int32)), .val (.int (0 : Int32)), .val (.int (-1 : Int32)), .unset] [(.int r10_r)])
      refine OE.istore X10 hx hby at_529 (l' := #[.val (.int p1), .val (.int p2), .val (.int p3), .val (.int p4), .val (.int cm), .val (.ref t), .val (.ref u), .val (.int (0 : Int32)), .val (.int sm), .val (.ref qa), .val (.int xa), .val (.int ya), .val (.int xb), .val (.int yb), .val (.int xc), .val (.int yc), .val (.int xq), .val (.int yq), .val (.ref b2), .val (.int (1 : Int32)), .val (.int (0 : Int32)), .val (.int (0 : Int32)), .val (.int (0 : Int32)), .val (.int (-1 : Int32)), .val (.int (-1 : Int32)), .val (.int (0 : Int32)), .val (.int (-1 : Int32)), .val (.int r10_r)]) rfl ?_
      refine OE.iload X10 hx hby at_531 rfl ?_
      refine OE.ifNo X10 hx hby at_533 (feq (by decide : ¬ ((1 : Int32) = (0 : Int32)))).1 ?_
      refine OE.aload X10 hx hby at_536 rfl rfl ?_
      obtain ⟨cq11, kq11, qa11, qb11, qc11⟩ := isOf hZ eq10 q4_0
      obtain ⟨_, _, ⟨T11, L11, k11, n11⟩, -, X11, ⟨Lc11, hQ11, l11, y11, z11⟩, st11⟩ := X10.virtualBack hx (y := (⟨"com/example/archerfish/archerfish/index/TokenTable", "size", "()I"⟩ : MethodName)) (z := (⟨"com/example/archerfish/archerfish/index/TokenTable", "size", "()I"⟩ : MethodName)) hown (mvT hZ (hw _ (List.mem_of_getElem? (i := 58) rfl))) (mvT hZ (hw _ (List.mem_of_getElem? (i := 59) rfl))) (notFace_of_selects (args := #[]) (mvT hZ (hw _ (List.mem_of_getElem? (i := 61) rfl)))) (mvT hZ (hw _ (List.mem_of_getElem? (i := 61) rfl))) (mvT hZ (hw _ (List.mem_of_getElem? (i := 60) rfl))) (by decide) (backOf (W := 0) (own_rm11 l Z a0 hw [] b2 (0 : Int32) T4.heap n0 z9 q4_5) hZ (hw _ (List.mem_of_getElem? (i := 62) rfl)) (hw _ (List.mem_of_getElem? (i := 10) rfl)) (by decide) (by decide)) qa11 qc11 (g := (mkF m 538 #[.val (.int p1), .val (.int p2), .val (.int p3), .val (.int p4), .val (.int cm), .val (.ref t), .val (.ref u), .val (.int (0 : Int32)), .val (.int sm), .val (.ref qa), .val (.int xa), .val (.int ya), .val (.int xb), .val (.int yb), .val (.int xc), .val (.int yc), .val (.int xq), .val (.int yq), .val (.ref b2), .val (.int (1 : Int32)), .val (.int (0 : Int32)), .val (.int (0 : Int32)), .val (.int (0 : Int32)), .val (.int (-1 : Int32)), .val (.int (-1 : Int32)), .val (.int (0 : Int32)), .val (.int (-1 : Int32)), .val (.int r10_r)] [(.ref b2)])) rfl (by rw [hml]; rfl) (Steps.refl _) (argsL := []) (rest := []) (lenOf own_pd4 rfl) rfl (by show 2 * 0 + _ ≤ _; exact Nat.le_of_eq rfl) (hb hby at_538) (fun _ _ => ⟨rfl, eq10, (Nat.le_trans (Nat.add_le_add_right (Nat.add_le_add_right hcl1 5) 0) (by decide)), (Nat.le_trans (Nat.add_le_add_right (Nat.add_le_add_right hsl1 6150) 0) (by decide))⟩)
      dsimp only [Pt.U, Pt.locs, Pt.cells, Pt.slots] at X11 l11 y11 z11 st11 hQ11
      have yc11 : cells1 + 5 = k11 := y11.symm
      have zc11 : slots1 + 6150 = n11 := z11.symm
      have lc11 := l11.symm
      subst lc11 yc11 zc11
      obtain ⟨rfl, Nq11, eq11⟩ := hQ11
      refine OE.of (fun _ k => st11.trans k) ?_
      have N11 := Fr.app N10 Nq11
      show OE _ p e below s _ _ _ T11 (mkF m 541 #[.val (.int p1), .val (.int p2), .val (.int p3), .val (.int p4), .val (.int cm), .val (.ref t), .val (.ref u), .val (.int (0 : Int32)), .val (.int sm), .val (.ref qa), .val (.int xa), .val (.int ya), .val (.int xb), .val (.int yb), .val (.int xc), .val (.int yc), .val (.int xq), .val (.int yq), .val (.ref b2), .val (.int (1 : Int32)), .val (.int (0 : Int32)), .val (.int (0 : Int32)), .val (.int (0 : Int32)), .val (.int (-1 : Int32)), .val (.int (-1 : Int32)), .val (.int (0 : Int32)), .val (.int (-1 : Int32)), .val (.int r10_r)] [(.int (0 : Int32))])
      refine OE.iload X11 hx hby at_541 rfl ?_
      refine OE.icmpNo X11 hx hby at_543 (teq (by decide : (0 : Int32) = (0 : Int32))).2 ?_
      refine OE.iload X11 hx hby at_546 rfl ?_
      refine OE.iload X11 hx hby at_548 rfl ?_
      refine OE.icmpNo X11 hx hby at_550 (teq (own_f0 h10_hr : r10_r = (-1 : Int32))).2 ?_
      refine OE.iload X11 hx hby at_553 rfl ?_
      refine OE.iconst X11 hx hby at_555 (-1 : Int32) rfl ?_
      refine OE.icmpNo X11 hx hby at_556 (flt (by decide : ¬ ((-1 : Int32) < (-1 : Int32)))).1 ?_
      refine OE.iconst X11 hx hby at_559 (1 : Int32) rfl ?_
      refine OE.goto X11 hx hby (pc' := 564) at_560 (h := ?_)
      refine OE.retN X11 hx (t := .boolean) Bd.returns (by simp) Bd.notSynchronized (hb hby at_564) (Nat.le_trans (Nat.add_le_add_right hcl1 5) (by decide)) (Nat.le_trans (Nat.add_le_add_right hsl1 6150) (by decide)) ?_
      rw [eq11]
      exact ⟨rfl, N11⟩
    · skip
      show OE _ p e below s _ _ _ T4 (mkF m 244 #[.val (.int p1), .val (.int p2), .val (.int p3), .val (.int p4), .val (.int cm), .val (.ref t), .val (.ref u), .val (.int (1 : Int32)), .val (.int sm), .val (.ref qa), .val (.int xa), .val (.int ya), .val (.int xb), .val (.int yb), .val (.int xc), .val (.int yc), .val (.int xq), .val (.int yq), .val (.ref b2), .val (.int (1 : Int32)), .val (.int (0 : Int32)), .val (.int (0 : Int32)), .val (.int (0 : Int32)), .val (.int (-1 : Int32)), .val (.int (-1 : Int32)), .val (.int (0 : Int32)), .unset, .unset] [])
      refine OE.iload X4 hx hby at_244 rfl ?_
      refine OE.iconst X4 hx hby at_246 (1 : Int32) rfl ?_
      refine OE.icmpNo X4 hx hby at_247 (flt (by decide : ¬ ((1 : Int32) < (1 : Int32)))).1 ?_
      refine OE.iload X4 hx hby at_250 rfl ?_
      refine OE.ifNo X4 hx hby at_252 (feq (by decide : ¬ ((1 : Int32) = (0 : Int32)))).1 ?_
      refine OE.aload X4 hx hby at_255 rfl rfl ?_
      refine OE.aload X4 hx hby at_257 rfl rfl ?_
      refine OE.iload X4 hx hby at_259 rfl ?_
      refine OE.iload X4 hx hby at_261 rfl ?_
      have f12 : Arv Z T4.heap t kt .char (4 : Int32) (List.map Value.int tl) (.int (0 : Int32)) := (f6.keep K4 (ninS ne_t_b2 nin0))
      have z13 : n0 ≤ T4.heap.size := (Nat.le_trans z3 K4.1)
      obtain ⟨cq14, kq14, qa14, qb14, qc14⟩ := isOf hZ rfl q4_0
      obtain ⟨_, _, ⟨T14, L14, k14, n14⟩, -, X14, ⟨Lc14, hQ14, l14, y14, z14⟩, st14⟩ := X4.virtualBack hx (y := (⟨"com/example/archerfish/archerfish/index/TokenTable", "add", "([CII)I"⟩ : MethodName)) (z := (⟨"com/example/archerfish/archerfish/index/TokenTable", "add", "([CII)I"⟩ : MethodName)) hown (mvT hZ (hw _ (List.mem_of_getElem? (i := 26) rfl))) (mvT hZ (hw _ (List.mem_of_getElem? (i := 27) rfl))) (notFace_of_selects (args := #[]) (mvT hZ (hw _ (List.mem_of_getElem? (i := 29) rfl)))) (mvT hZ (hw _ (List.mem_of_getElem? (i := 29) rfl))) (mvT hZ (hw _ (List.mem_of_getElem? (i := 28) rfl))) (by decide) (backOf (W := 0) (own_rm5 l Z a0 hw [] b2 t xa ya r4_sl r4_ha r4_st r4_ch r4_ksl r4_kha r4_kst r4_kch kt (List.replicate 1024 (0 : Int32)) (List.replicate 512 (.int (0 : Int32))) (List.replicate 513 (.int (0 : Int32))) (List.replicate 4096 (.int (0 : Int32))) tl ([] : List (List Int32)) (0 : Int32) (0 : Int32) (1 : Int32) T4.heap n0 z13 q4_0 q4_1 q4_2 q4_3 q4_4 q4_6 q4_7 q4_8 q4_9 f12 g_b2 g_r4_sl g_r4_ha g_r4_st g_r4_ch ne_b2_r4_sl ne_b2_r4_ha ne_b2_r4_st ne_b2_r4_ch h4_n_sl_ha h4_n_sl_st h4_n_sl_ch h4_n_ha_st h4_n_ha_ch h4_n_st_ch ne_t_r4_ch own_inv0 htl hrA q4_5 (by decide : 0 ≤ 2) rfl (by decide)) hZ (hw _ (List.mem_of_getElem? (i := 30) rfl)) (hw _ (List.mem_of_getElem? (i := 10) rfl)) (by decide) (by decide)) qa14 qc14 (g := (mkF m 263 #[.val (.int p1), .val (.int p2), .val (.int p3), .val (.int p4), .val (.int cm), .val (.ref t), .val (.ref u), .val (.int (1 : Int32)), .val (.int sm), .val (.ref qa), .val (.int xa), .val (.int ya), .val (.int xb), .val (.int yb), .val (.int xc), .val (.int yc), .val (.int xq), .val (.int yq), .val (.ref b2), .val (.int (1 : Int32)), .val (.int (0 : Int32)), .val (.int (0 : Int32)), .val (.int (0 : Int32)), .val (.int (-1 : Int32)), .val (.int (-1 : Int32)), .val (.int (0 : Int32)), .unset, .unset] [(.int ya), (.int xa), (.ref t), (.ref b2)])) rfl (by rw [hml]; rfl) (Steps.refl _) (argsL := [(.ref t), (.int xa), (.int ya)]) (rest := []) (lenOf own_pd0 rfl) rfl (by show 2 * 0 + _ ≤ _; exact Nat.le_of_eq rfl) (hb hby at_263) (fun _ _ => ⟨rfl, rfl, (Nat.le_trans (Nat.add_le_add_right (Nat.add_le_add_right hcl1 5) 0) (by decide)), (Nat.le_trans (Nat.add_le_add_right (Nat.add_le_add_right hsl1 6150) 0) (by decide))⟩)
      dsimp only [Pt.U, Pt.locs, Pt.cells, Pt.slots] at X14 l14 y14 z14 st14 hQ14
      have yc14 : cells1 + 5 = k14 := y14.symm
      have zc14 : slots1 + 6150 = n14 := z14.symm
      have lc14 := l14.symm
      subst lc14 yc14 zc14
      obtain ⟨r14_vsS1, r14_vsH1, r14_vsC1, r14_S1, r14_F1, rfl, Nq14, K14, q14_0, q14_1, q14_2, q14_3, q14_4, q14_5, q14_6, q14_7, q14_8, q14_9, h14_hI⟩ := hQ14
      refine OE.of (fun _ k => st14.trans k) ?_
      have N14 := Fr.app N4 Nq14
      show OE _ p e below s _ _ _ T14 (mkF m 266 #[.val (.int p1), .val (.int p2), .val (.int p3), .val (.int p4), .val (.int cm), .val (.ref t), .val (.ref u), .val (.int (1 : Int32)), .val (.int sm), .val (.ref qa), .val (.int xa), .val (.int ya), .val (.int xb), .val (.int yb), .val (.int xc), .val (.int yc), .val (.int xq), .val (.int yq), .val (.ref b2), .val (.int (1 : Int32)), .val (.int (0 : Int32)), .val (.int (0 : Int32)), .val (.int (0 : Int32)), .val (.int (-1 : Int32)), .val (.int (-1 : Int32)), .val (.int (0 : Int32)), .unset, .unset] [(.int (0 : Int32))])
      have I14 : own_inv [(own_sl tl xa ya)] r14_vsS1 r14_vsH1 r14_vsC1 r14_S1 r14_F1 := h14_hI
      refine OE.ifNo X14 hx hby at_266 (teq (by decide : (0 : Int32) = (0 : Int32))).2 ?_
      refine OE.iconst X14 hx hby at_269 (1 : Int32) rfl ?_
      refine OE.goto X14 hx hby (pc' := 274) at_270 (h := ?_)
      refine OE.istore X14 hx hby at_274 (l' := #[.val (.int p1), .val (.int p2), .val (.int p3), .val (.int p4), .val (.int cm), .val (.ref t), .val (.ref u), .val (.int (1 : Int32)), .val (.int sm), .val (.ref qa), .val (.int xa), .val (.int ya), .val (.int xb), .val (.int yb), .val (.int xc), .val (.int yc), .val (.int xq), .val (.int yq), .val (.ref b2), .val (.int (1 : Int32)), .val (.int (0 : Int32)), .val (.int (0 : Int32)), .val (.int (0 : Int32)), .val (.int (-1 : Int32)), .val (.int (-1 : Int32)), .val (.int (0 : Int32)), .unset, .unset]) rfl ?_
      refine OE.iconst X14 hx hby at_276 (1 : Int32) rfl ?_
      refine OE.istore X14 hx hby at_277 (l' := #[.val (.int p1), .val (.int p2), .val (.int p3), .val (.int p4), .val (.int cm), .val (.ref t), .val (.ref u), .val (.int (1 : Int32)), .val (.int sm), .val (.ref qa), .val (.int xa), .val (.int ya), .val (.int xb), .val (.int yb), .val (.int xc), .val (.int yc), .val (.int xq), .val (.int yq), .val (.ref b2), .val (.int (1 : Int32)), .val (.int (1 : Int32)), .val (.int (0 : Int32)), .val (.int (0 : Int32)), .val (.int (-1 : Int32)), .val (.int (-1 : Int32)), .val (.int (0 : Int32)), .unset, .unset]) rfl ?_
      refine OE.iconst X14 hx hby at_279 (1 : Int32) rfl ?_
      refine OE.istore X14 hx hby at_280 (l' := #[.val (.int p1), .val (.int p2), .val (.int p3), .val (.int p4), .val (.int cm), .val (.ref t), .val (.ref u), .val (.int (1 : Int32)), .val (.int sm), .val (.ref qa), .val (.int xa), .val (.int ya), .val (.int xb), .val (.int yb), .val (.int xc), .val (.int yc), .val (.int xq), .val (.int yq), .val (.ref b2), .val (.int (1 : Int32)), .val (.int (1 : Int32)), .val (.int (0 : Int32)), .val (.int (0 : Int32)), .val (.int (-1 : Int32)), .val (.int (-1 : Int32)), .val (.int (1 : Int32)), .unset, .unset]) rfl ?_
      refine OE.iload X14 hx hby at_282 rfl ?_
      refine OE.iconst X14 hx hby at_284 (2 : Int32) rfl ?_
      refine OE.icmpYes X14 hx hby (pc' := 344) at_285 (tlt (by decide : (1 : Int32) < (2 : Int32))).1 (h := ?_)
      refine OE.iload X14 hx hby at_344 rfl ?_
      refine OE.iconst X14 hx hby at_346 (3 : Int32) rfl ?_
      refine OE.icmpYes X14 hx hby (pc' := 429) at_347 (tlt (by decide : (1 : Int32) < (3 : Int32))).1 (h := ?_)
      refine OE.iconst X14 hx hby at_429 (-1 : Int32) rfl ?_
      refine OE.istore X14 hx hby at_430 (l' := #[.val (.int p1), .val (.int p2), .val (.int p3), .val (.int p4), .val (.int cm), .val (.ref t), .val (.ref u), .val (.int (1 : Int32)), .val (.int sm), .val (.ref qa), .val (.int xa), .val (.int ya), .val (.int xb), .val (.int yb), .val (.int xc), .val (.int yc), .val (.int xq), .val (.int yq), .val (.ref b2), .val (.int (1 : Int32)), .val (.int (1 : Int32)), .val (.int (0 : Int32)), .val (.int (0 : Int32)), .val (.int (-1 : Int32)), .val (.int (-1 : Int32)), .val (.int (1 : Int32)), .val (.int (-1 : Int32)), .unset]) rfl ?_
      refine OE.iload X14 hx hby at_432 rfl ?_
      refine OE.ifNo X14 hx hby at_434 (feq (by decide : ¬ ((1 : Int32) = (0 : Int32)))).1 ?_
      refine OE.aload X14 hx hby at_437 rfl rfl ?_
      refine OE.iload X14 hx hby at_439 rfl ?_
      refine OE.iload X14 hx hby at_441 rfl ?_
      refine OE.aload X14 hx hby at_443 rfl rfl ?_
      refine OE.iload X14 hx hby at_445 rfl ?_
      refine OE.iload X14 hx hby at_447 rfl ?_
      have f15 : Arv Z T14.heap qa kq .char (4 : Int32) (List.map Value.int ql) (.int (0 : Int32)) := ((f5.keep K4 (ninS ne_qa_b2 nin0)).keep K14 (ninS ne_qa_b2 (ninS ne_qa_r4_sl (ninS ne_qa_r4_ha (ninS ne_qa_r4_st (ninS ne_qa_r4_ch nin0))))))
      have f16 : Arv Z T14.heap t kt .char (4 : Int32) (List.map Value.int tl) (.int (0 : Int32)) := (f12.keep K14 (ninS ne_t_b2 (ninS ne_t_r4_sl (ninS ne_t_r4_ha (ninS ne_t_r4_st (ninS ne_t_r4_ch nin0))))))
      have z17 : n0 ≤ T14.heap.size := (Nat.le_trans z13 K14.1)
      obtain ⟨_, _, ⟨T18, L18, k18, n18⟩, -, X18, ⟨Lc18, hQ18, l18, y18, z18⟩, st18⟩ := Jvm.LawKit.callS X14 hx (y := (⟨"com/example/archerfish/archerfish/index/TokenTableFindPinLaw", "eq", "([CII[CII)Z"⟩ : MethodName)) hown (mvT hZ (hw _ (List.mem_of_getElem? (i := 46) rfl))) (mvT hZ (hw _ (List.mem_of_getElem? (i := 47) rfl))) (mvT hZ (hw _ (List.mem_of_getElem? (i := 3) rfl))) (mvT hZ (hw _ (List.mem_of_getElem? (i := 48) rfl))) (by decide) (backOf (W := 0) (own_rm8 l Z a0 hw [] qa xq yq t xa ya ql tl kq kt T14.heap n0 z17 f15 f16 hql htl hrQ hrA) hZ (hw _ (List.mem_of_getElem? (i := 48) rfl)) (hw _ (List.mem_of_getElem? (i := 3) rfl)) (by decide) (by decide)) (g := (mkF m 449 #[.val (.int p1), .val (.int p2), .val (.int p3), .val (.int p4), .val (.int cm), .val (.ref t), .val (.ref u), .val (.int (1 : Int32)), .val (.int sm), .val (.ref qa), .val (.int xa), .val (.int ya), .val (.int xb), .val (.int yb), .val (.int xc), .val (.int yc), .val (.int xq), .val (.int yq), .val (.ref b2), .val (.int (1 : Int32)), .val (.int (1 : Int32)), .val (.int (0 : Int32)), .val (.int (0 : Int32)), .val (.int (-1 : Int32)), .val (.int (-1 : Int32)), .val (.int (1 : Int32)), .val (.int (-1 : Int32)), .unset] [(.int ya), (.int xa), (.ref t), (.int yq), (.int xq), (.ref qa)])) rfl (by rw [hml]; rfl) (argsL := [(.ref qa), (.int xq), (.int yq), (.ref t), (.int xa), (.int ya)]) (rest := []) (lenOf own_pd5 rfl) rfl (by show 2 * 0 + _ ≤ _; exact Nat.le_of_eq rfl) (hb hby at_449) (fun _ _ => ⟨rfl, rfl, (Nat.le_trans (Nat.add_le_add_right (Nat.add_le_add_right hcl1 5) 0) (by decide)), (Nat.le_trans (Nat.add_le_add_right (Nat.add_le_add_right hsl1 6150) 0) (by decide))⟩)
      dsimp only [Pt.U, Pt.locs, Pt.cells, Pt.slots] at X18 l18 y18 z18 st18 hQ18
      have yc18 : cells1 + 5 = k18 := y18.symm
      have zc18 : slots1 + 6150 = n18 := z18.symm
      have lc18 := l18.symm
      subst lc18 yc18 zc18
      obtain ⟨r18_r, rfl, Nq18, eq18, h18_hr⟩ := hQ18
      refine OE.of (fun _ k => st18 _ k) ?_
      have N18 := Fr.app N14 Nq18
      show OE _ p e below s _ _ _ T18 (mkF m 452 #[.val (.int p1), .val (.int p2), .val (.int p3), .val (.int p4), .val (.int cm), .val (.ref t), .val (.ref u), .val (.int (1 : Int32)), .val (.int sm), .val (.ref qa), .val (.int xa), .val (.int ya), .val (.int xb), .val (.int yb), .val (.int xc), .val (.int yc), .val (.int xq), .val (.int yq), .val (.ref b2), .val (.int (1 : Int32)), .val (.int (1 : Int32)), .val (.int (0 : Int32)), .val (.int (0 : Int32)), .val (.int (-1 : Int32)), .val (.int (-1 : Int32)), .val (.int (1 : Int32)), .val (.int (-1 : Int32)), .unset] [(.int r18_r)])
      rcases h18_hr with ⟨e18, d18⟩ | ⟨e18, d18⟩
      · subst e18
        show OE _ p e below s _ _ _ T18 (mkF m 452 #[.val (.int p1), .val (.int p2), .val (.int p3), .val (.int p4), .val (.int cm), .val (.ref t), .val (.ref u), .val (.int (1 : Int32)), .val (.int sm), .val (.ref qa), .val (.int xa), .val (.int ya), .val (.int xb), .val (.int yb), .val (.int xc), .val (.int yc), .val (.int xq), .val (.int yq), .val (.ref b2), .val (.int (1 : Int32)), .val (.int (1 : Int32)), .val (.int (0 : Int32)), .val (.int (0 : Int32)), .val (.int (-1 : Int32)), .val (.int (-1 : Int32)), .val (.int (1 : Int32)), .val (.int (-1 : Int32)), .unset] [(.int (1 : Int32))])
        refine OE.ifNo X18 hx hby at_452 (feq (by decide : ¬ ((1 : Int32) = (0 : Int32)))).1 ?_
        refine OE.iconst X18 hx hby at_455 (0 : Int32) rfl ?_
        refine OE.istore X18 hx hby at_456 (l' := #[.val (.int p1), .val (.int p2), .val (.int p3), .val (.int p4), .val (.int cm), .val (.ref t), .val (.ref u), .val (.int (1 : Int32)), .val (.int sm), .val (.ref qa), .val (.int xa), .val (.int ya), .val (.int xb), .val (.int yb), .val (.int xc), .val (.int yc), .val (.int xq), .val (.int yq), .val (.ref b2), .val (.int (1 : Int32)), .val (.int (1 : Int32)), .val (.int (0 : Int32)), .val (.int (0 : Int32)), .val (.int (-1 : Int32)), .val (.int (-1 : Int32)), .val (.int (1 : Int32)), .val (.int (0 : Int32)), .unset]) rfl ?_
        refine OE.goto X18 hx hby (pc' := 518) at_458 (h := ?_)
        refine OE.aload X18 hx hby at_518 rfl rfl ?_
        refine OE.aload X18 hx hby at_520 rfl rfl ?_
        refine OE.iload X18 hx hby at_522 rfl ?_
        refine OE.iload X18 hx hby at_524 rfl ?_
        obtain ⟨cq19, kq19, qa19, qb19, qc19⟩ := isOf hZ eq18 q14_0
        obtain ⟨_, _, ⟨T19, L19, k19, n19⟩, -, X19, ⟨Lc19, hQ19, l19, y19, z19⟩, st19⟩ := X18.virtualBack hx (y := (⟨"com/example/archerfish/archerfish/index/TokenTable", "find", "([CII)I"⟩ : MethodName)) (z := (⟨"com/example/archerfish/archerfish/index/TokenTable", "find", "([CII)I"⟩ : MethodName)) hown (mvT hZ (hw _ (List.mem_of_getElem? (i := 49) rfl))) (mvT hZ (hw _ (List.mem_of_getElem? (i := 50) rfl))) (notFace_of_selects (args := #[]) (mvT hZ (hw _ (List.mem_of_getElem? (i := 52) rfl)))) (mvT hZ (hw _ (List.mem_of_getElem? (i := 52) rfl))) (mvT hZ (hw _ (List.mem_of_getElem? (i := 51) rfl))) (by decide) (backOf (W := 0) (own_rm9 l Z a0 hw [] b2 qa xq yq r4_sl r4_ha r4_st r4_ch r4_ksl r4_kha r4_kst r4_kch kq r14_S1 r14_vsH1 r14_vsS1 r14_vsC1 ql ([(own_sl tl xa ya)] : List (List Int32)) r14_F1 T14.heap n0 z17 q14_0 q14_1 q14_2 q14_3 q14_4 q14_6 q14_7 q14_8 q14_9 f15 I14 hql hrQ (by decide : 1 ≤ 3)) hZ (hw _ (List.mem_of_getElem? (i := 53) rfl)) (hw _ (List.mem_of_getElem? (i := 10) rfl)) (by decide) (by decide)) qa19 qc19 (g := (mkF m 526 #[.val (.int p1), .val (.int p2), .val (.int p3), .val (.int p4), .val (.int cm), .val (.ref t), .val (.ref u), .val (.int (1 : Int32)), .val (.int sm), .val (.ref qa), .val (.int xa), .val (.int ya), .val (.int xb), .val (.int yb), .val (.int xc), .val (.int yc), .val (.int xq), .val (.int yq), .val (.ref b2), .val (.int (1 : Int32)), .val (.int (1 : Int32)), .val (.int (0 : Int32)), .val (.int (0 : Int32)), .val (.int (-1 : Int32)), .val (.int (-1 : Int32)), .val (.int (1 : Int32)), .val (.int (0 : Int32)), .unset] [(.int yq), (.int xq), (.ref qa), (.ref b2)])) rfl (by rw [hml]; rfl) (Steps.refl _) (argsL := [(.ref qa), (.int xq), (.int yq)]) (rest := []) (lenOf own_pd0 rfl) rfl (by show 2 * 0 + _ ≤ _; exact Nat.le_of_eq rfl) (hb hby at_526) (fun _ _ => ⟨rfl, eq18, (Nat.le_trans (Nat.add_le_add_right (Nat.add_le_add_right hcl1 5) 0) (by decide)), (Nat.le_trans (Nat.add_le_add_right (Nat.add_le_add_right hsl1 6150) 0) (by decide))⟩)
        dsimp only [Pt.U, Pt.locs, Pt.cells, Pt.slots] at X19 l19 y19 z19 st19 hQ19
        have yc19 : cells1 + 5 = k19 := y19.symm
        have zc19 : slots1 + 6150 = n19 := z19.symm
        have lc19 := l19.symm
        subst lc19 yc19 zc19
        obtain ⟨r19_r, rfl, Nq19, eq19, h19_hr⟩ := hQ19
        refine OE.of (fun _ k => st19.trans k) ?_
        have N19 := Fr.app N18 Nq19
        show OE _ p e below s _ _ _ T19 (mkF m 529 #[.val (.int p1), .val (.int p2), .val (.int p3), .val (.int p4), .val (.int cm), .val (.ref t), .val (.ref u), .val (.int (1 : Int32)), .val (.int sm), .val (.ref qa), .val (.int xa), .val (.int ya), .val (.int xb), .val (.int yb), .val (.int xc), .val (.int yc), .val (.int xq), .val (.int yq), .val (.ref b2), .val (.int (1 : Int32)), .val (.int (1 : Int32)), .val (.int (0 : Int32)), .val (.int (0 : Int32)), .val (.int (-1 : Int32)), .val (.int (-1 : Int32)), .val (.int (1 : Int32)), .val (.int (0 : Int32)), .unset] [(.int r19_r)])
        refine OE.istore X19 hx hby at_529 (l' := #[.val (.int p1), .val (.int p2), .val (.int p3), .val (.int p4), .val (.int cm), .val (.ref t), .val (.ref u), .val (.int (1 : Int32)), .val (.int sm), .val (.ref qa), .val (.int xa), .val (.int ya), .val (.int xb), .val (.int yb), .val (.int xc), .val (.int yc), .val (.int xq), .val (.int yq), .val (.ref b2), .val (.int (1 : Int32)), .val (.int (1 : Int32)), .val (.int (0 : Int32)), .val (.int (0 : Int32)), .val (.int (-1 : Int32)), .val (.int (-1 : Int32)), .val (.int (1 : Int32)), .val (.int (0 : Int32)), .val (.int r19_r)]) rfl ?_
        refine OE.iload X19 hx hby at_531 rfl ?_
        refine OE.ifNo X19 hx hby at_533 (feq (by decide : ¬ ((1 : Int32) = (0 : Int32)))).1 ?_
        refine OE.aload X19 hx hby at_536 rfl rfl ?_
        obtain ⟨cq20, kq20, qa20, qb20, qc20⟩ := isOf hZ eq19 q14_0
        obtain ⟨_, _, ⟨T20, L20, k20, n20⟩, -, X20, ⟨Lc20, hQ20, l20, y20, z20⟩, st20⟩ := X19.virtualBack hx (y := (⟨"com/example/archerfish/archerfish/index/TokenTable", "size", "()I"⟩ : MethodName)) (z := (⟨"com/example/archerfish/archerfish/index/TokenTable", "size", "()I"⟩ : MethodName)) hown (mvT hZ (hw _ (List.mem_of_getElem? (i := 58) rfl))) (mvT hZ (hw _ (List.mem_of_getElem? (i := 59) rfl))) (notFace_of_selects (args := #[]) (mvT hZ (hw _ (List.mem_of_getElem? (i := 61) rfl)))) (mvT hZ (hw _ (List.mem_of_getElem? (i := 61) rfl))) (mvT hZ (hw _ (List.mem_of_getElem? (i := 60) rfl))) (by decide) (backOf (W := 0) (own_rm11 l Z a0 hw [] b2 (1 : Int32) T14.heap n0 z17 q14_5) hZ (hw _ (List.mem_of_getElem? (i := 62) rfl)) (hw _ (List.mem_of_getElem? (i := 10) rfl)) (by decide) (by decide)) qa20 qc20 (g := (mkF m 538 #[.val (.int p1), .val (.int p2), .val (.int p3), .val (.int p4), .val (.int cm), .val (.ref t), .val (.ref u), .val (.int (1 : Int32)), .val (.int sm), .val (.ref qa), .val (.int xa), .val (.int ya), .val (.int xb), .val (.int yb), .val (.int xc), .val (.int yc), .val (.int xq), .val (.int yq), .val (.ref b2), .val (.int (1 : Int32)), .val (.int (1 : Int32)), .val (.int (0 : Int32)), .val (.int (0 : Int32)), .val (.int (-1 : Int32)), .val (.int (-1 : Int32)), .val (.int (1 : Int32)), .val (.int (0 : Int32)), .val (.int r19_r)] [(.ref b2)])) rfl (by rw [hml]; rfl) (Steps.refl _) (argsL := []) (rest := []) (lenOf own_pd4 rfl) rfl (by show 2 * 0 + _ ≤ _; exact Nat.le_of_eq rfl) (hb hby at_538) (fun _ _ => ⟨rfl, eq19, (Nat.le_trans (Nat.add_le_add_right (Nat.add_le_add_right hcl1 5) 0) (by decide)), (Nat.le_trans (Nat.add_le_add_right (Nat.add_le_add_right hsl1 6150) 0) (by decide))⟩)
        dsimp only [Pt.U, Pt.locs, Pt.cells, Pt.slots] at X20 l20 y20 z20 st20 hQ20
        have yc20 : cells1 + 5 = k20 := y20.symm
        have zc20 : slots1 + 6150 = n20 := z20.symm
        have lc20 := l20.symm
        subst lc20 yc20 zc20
        obtain ⟨rfl, Nq20, eq20⟩ := hQ20
        refine OE.of (fun _ k => st20.trans k) ?_
        have N20 := Fr.app N19 Nq20
        show OE _ p e below s _ _ _ T20 (mkF m 541 #[.val (.int p1), .val (.int p2), .val (.int p3), .val (.int p4), .val (.int cm), .val (.ref t), .val (.ref u), .val (.int (1 : Int32)), .val (.int sm), .val (.ref qa), .val (.int xa), .val (.int ya), .val (.int xb), .val (.int yb), .val (.int xc), .val (.int yc), .val (.int xq), .val (.int yq), .val (.ref b2), .val (.int (1 : Int32)), .val (.int (1 : Int32)), .val (.int (0 : Int32)), .val (.int (0 : Int32)), .val (.int (-1 : Int32)), .val (.int (-1 : Int32)), .val (.int (1 : Int32)), .val (.int (0 : Int32)), .val (.int r19_r)] [(.int (1 : Int32))])
        refine OE.iload X20 hx hby at_541 rfl ?_
        refine OE.icmpNo X20 hx hby at_543 (teq (by decide : (1 : Int32) = (1 : Int32))).2 ?_
        refine OE.iload X20 hx hby at_546 rfl ?_
        refine OE.iload X20 hx hby at_548 rfl ?_
        refine OE.icmpNo X20 hx hby at_550 (teq (own_f1a h19_hr   d18 : r19_r = (0 : Int32))).2 ?_
        refine OE.iload X20 hx hby at_553 rfl ?_
        refine OE.iconst X20 hx hby at_555 (-1 : Int32) rfl ?_
        refine OE.icmpNo X20 hx hby at_556 (flt (by decide : ¬ ((0 : Int32) < (-1 : Int32)))).1 ?_
        refine OE.iconst X20 hx hby at_559 (1 : Int32) rfl ?_
        refine OE.goto X20 hx hby (pc' := 564) at_560 (h := ?_)
        refine OE.retN X20 hx (t := .boolean) Bd.returns (by simp) Bd.notSynchronized (hb hby at_564) (Nat.le_trans (Nat.add_le_add_right hcl1 5) (by decide)) (Nat.le_trans (Nat.add_le_add_right hsl1 6150) (by decide)) ?_
        rw [eq20]
        exact ⟨rfl, N20⟩
      · subst e18
        show OE _ p e below s _ _ _ T18 (mkF m 452 #[.val (.int p1), .val (.int p2), .val (.int p3), .val (.int p4), .val (.int cm), .val (.ref t), .val (.ref u), .val (.int (1 : Int32)), .val (.int sm), .val (.ref qa), .val (.int xa), .val (.int ya), .val (.int xb), .val (.int yb), .val (.int xc), .val (.int yc), .val (.int xq), .val (.int yq), .val (.ref b2), .val (.int (1 : Int32)), .val (.int (1 : Int32)), .val (.int (0 : Int32)), .val (.int (0 : Int32)), .val (.int (-1 : Int32)), .val (.int (-1 : Int32)), .val (.int (1 : Int32)), .val (.int (-1 : Int32)), .unset] [(.int (0 : Int32))])
        refine OE.ifYes X18 hx hby (pc' := 461) at_452 (teq (by decide : (0 : Int32) = (0 : Int32))).1 (h := ?_)
        refine OE.iload X18 hx hby at_461 rfl ?_
        refine OE.ifYes X18 hx hby (pc' := 491) at_463 (teq (by decide : (0 : Int32) = (0 : Int32))).1 (h := ?_)
        refine OE.iload X18 hx hby at_491 rfl ?_
        refine OE.ifYes X18 hx hby (pc' := 518) at_493 (teq (by decide : (0 : Int32) = (0 : Int32))).1 (h := ?_)
        refine OE.aload X18 hx hby at_518 rfl rfl ?_
        refine OE.aload X18 hx hby at_520 rfl rfl ?_
        refine OE.iload X18 hx hby at_522 rfl ?_
        refine OE.iload X18 hx hby at_524 rfl ?_
        obtain ⟨cq21, kq21, qa21, qb21, qc21⟩ := isOf hZ eq18 q14_0
        obtain ⟨_, _, ⟨T21, L21, k21, n21⟩, -, X21, ⟨Lc21, hQ21, l21, y21, z21⟩, st21⟩ := X18.virtualBack hx (y := (⟨"com/example/archerfish/archerfish/index/TokenTable", "find", "([CII)I"⟩ : MethodName)) (z := (⟨"com/example/archerfish/archerfish/index/TokenTable", "find", "([CII)I"⟩ : MethodName)) hown (mvT hZ (hw _ (List.mem_of_getElem? (i := 49) rfl))) (mvT hZ (hw _ (List.mem_of_getElem? (i := 50) rfl))) (notFace_of_selects (args := #[]) (mvT hZ (hw _ (List.mem_of_getElem? (i := 52) rfl)))) (mvT hZ (hw _ (List.mem_of_getElem? (i := 52) rfl))) (mvT hZ (hw _ (List.mem_of_getElem? (i := 51) rfl))) (by decide) (backOf (W := 0) (own_rm9 l Z a0 hw [] b2 qa xq yq r4_sl r4_ha r4_st r4_ch r4_ksl r4_kha r4_kst r4_kch kq r14_S1 r14_vsH1 r14_vsS1 r14_vsC1 ql ([(own_sl tl xa ya)] : List (List Int32)) r14_F1 T14.heap n0 z17 q14_0 q14_1 q14_2 q14_3 q14_4 q14_6 q14_7 q14_8 q14_9 f15 I14 hql hrQ (by decide : 1 ≤ 3)) hZ (hw _ (List.mem_of_getElem? (i := 53) rfl)) (hw _ (List.mem_of_getElem? (i := 10) rfl)) (by decide) (by decide)) qa21 qc21 (g := (mkF m 526 #[.val (.int p1), .val (.int p2), .val (.int p3), .val (.int p4), .val (.int cm), .val (.ref t), .val (.ref u), .val (.int (1 : Int32)), .val (.int sm), .val (.ref qa), .val (.int xa), .val (.int ya), .val (.int xb), .val (.int yb), .val (.int xc), .val (.int yc), .val (.int xq), .val (.int yq), .val (.ref b2), .val (.int (1 : Int32)), .val (.int (1 : Int32)), .val (.int (0 : Int32)), .val (.int (0 : Int32)), .val (.int (-1 : Int32)), .val (.int (-1 : Int32)), .val (.int (1 : Int32)), .val (.int (-1 : Int32)), .unset] [(.int yq), (.int xq), (.ref qa), (.ref b2)])) rfl (by rw [hml]; rfl) (Steps.refl _) (argsL := [(.ref qa), (.int xq), (.int yq)]) (rest := []) (lenOf own_pd0 rfl) rfl (by show 2 * 0 + _ ≤ _; exact Nat.le_of_eq rfl) (hb hby at_526) (fun _ _ => ⟨rfl, eq18, (Nat.le_trans (Nat.add_le_add_right (Nat.add_le_add_right hcl1 5) 0) (by decide)), (Nat.le_trans (Nat.add_le_add_right (Nat.add_le_add_right hsl1 6150) 0) (by decide))⟩)
        dsimp only [Pt.U, Pt.locs, Pt.cells, Pt.slots] at X21 l21 y21 z21 st21 hQ21
        have yc21 : cells1 + 5 = k21 := y21.symm
        have zc21 : slots1 + 6150 = n21 := z21.symm
        have lc21 := l21.symm
        subst lc21 yc21 zc21
        obtain ⟨r21_r, rfl, Nq21, eq21, h21_hr⟩ := hQ21
        refine OE.of (fun _ k => st21.trans k) ?_
        have N21 := Fr.app N18 Nq21
        show OE _ p e below s _ _ _ T21 (mkF m 529 #[.val (.int p1), .val (.int p2), .val (.int p3), .val (.int p4), .val (.int cm), .val (.ref t), .val (.ref u), .val (.int (1 : Int32)), .val (.int sm), .val (.ref qa), .val (.int xa), .val (.int ya), .val (.int xb), .val (.int yb), .val (.int xc), .val (.int yc), .val (.int xq), .val (.int yq), .val (.ref b2), .val (.int (1 : Int32)), .val (.int (1 : Int32)), .val (.int (0 : Int32)), .val (.int (0 : Int32)), .val (.int (-1 : Int32)), .val (.int (-1 : Int32)), .val (.int (1 : Int32)), .val (.int (-1 : Int32)), .unset] [(.int r21_r)])
        refine OE.istore X21 hx hby at_529 (l' := #[.val (.int p1), .val (.int p2), .val (.int p3), .val (.int p4), .val (.int cm), .val (.ref t), .val (.ref u), .val (.int (1 : Int32)), .val (.int sm), .val (.ref qa), .val (.int xa), .val (.int ya), .val (.int xb), .val (.int yb), .val (.int xc), .val (.int yc), .val (.int xq), .val (.int yq), .val (.ref b2), .val (.int (1 : Int32)), .val (.int (1 : Int32)), .val (.int (0 : Int32)), .val (.int (0 : Int32)), .val (.int (-1 : Int32)), .val (.int (-1 : Int32)), .val (.int (1 : Int32)), .val (.int (-1 : Int32)), .val (.int r21_r)]) rfl ?_
        refine OE.iload X21 hx hby at_531 rfl ?_
        refine OE.ifNo X21 hx hby at_533 (feq (by decide : ¬ ((1 : Int32) = (0 : Int32)))).1 ?_
        refine OE.aload X21 hx hby at_536 rfl rfl ?_
        obtain ⟨cq22, kq22, qa22, qb22, qc22⟩ := isOf hZ eq21 q14_0
        obtain ⟨_, _, ⟨T22, L22, k22, n22⟩, -, X22, ⟨Lc22, hQ22, l22, y22, z22⟩, st22⟩ := X21.virtualBack hx (y := (⟨"com/example/archerfish/archerfish/index/TokenTable", "size", "()I"⟩ : MethodName)) (z := (⟨"com/example/archerfish/archerfish/index/TokenTable", "size", "()I"⟩ : MethodName)) hown (mvT hZ (hw _ (List.mem_of_getElem? (i := 58) rfl))) (mvT hZ (hw _ (List.mem_of_getElem? (i := 59) rfl))) (notFace_of_selects (args := #[]) (mvT hZ (hw _ (List.mem_of_getElem? (i := 61) rfl)))) (mvT hZ (hw _ (List.mem_of_getElem? (i := 61) rfl))) (mvT hZ (hw _ (List.mem_of_getElem? (i := 60) rfl))) (by decide) (backOf (W := 0) (own_rm11 l Z a0 hw [] b2 (1 : Int32) T14.heap n0 z17 q14_5) hZ (hw _ (List.mem_of_getElem? (i := 62) rfl)) (hw _ (List.mem_of_getElem? (i := 10) rfl)) (by decide) (by decide)) qa22 qc22 (g := (mkF m 538 #[.val (.int p1), .val (.int p2), .val (.int p3), .val (.int p4), .val (.int cm), .val (.ref t), .val (.ref u), .val (.int (1 : Int32)), .val (.int sm), .val (.ref qa), .val (.int xa), .val (.int ya), .val (.int xb), .val (.int yb), .val (.int xc), .val (.int yc), .val (.int xq), .val (.int yq), .val (.ref b2), .val (.int (1 : Int32)), .val (.int (1 : Int32)), .val (.int (0 : Int32)), .val (.int (0 : Int32)), .val (.int (-1 : Int32)), .val (.int (-1 : Int32)), .val (.int (1 : Int32)), .val (.int (-1 : Int32)), .val (.int r21_r)] [(.ref b2)])) rfl (by rw [hml]; rfl) (Steps.refl _) (argsL := []) (rest := []) (lenOf own_pd4 rfl) rfl (by show 2 * 0 + _ ≤ _; exact Nat.le_of_eq rfl) (hb hby at_538) (fun _ _ => ⟨rfl, eq21, (Nat.le_trans (Nat.add_le_add_right (Nat.add_le_add_right hcl1 5) 0) (by decide)), (Nat.le_trans (Nat.add_le_add_right (Nat.add_le_add_right hsl1 6150) 0) (by decide))⟩)
        dsimp only [Pt.U, Pt.locs, Pt.cells, Pt.slots] at X22 l22 y22 z22 st22 hQ22
        have yc22 : cells1 + 5 = k22 := y22.symm
        have zc22 : slots1 + 6150 = n22 := z22.symm
        have lc22 := l22.symm
        subst lc22 yc22 zc22
        obtain ⟨rfl, Nq22, eq22⟩ := hQ22
        refine OE.of (fun _ k => st22.trans k) ?_
        have N22 := Fr.app N21 Nq22
        show OE _ p e below s _ _ _ T22 (mkF m 541 #[.val (.int p1), .val (.int p2), .val (.int p3), .val (.int p4), .val (.int cm), .val (.ref t), .val (.ref u), .val (.int (1 : Int32)), .val (.int sm), .val (.ref qa), .val (.int xa), .val (.int ya), .val (.int xb), .val (.int yb), .val (.int xc), .val (.int yc), .val (.int xq), .val (.int yq), .val (.ref b2), .val (.int (1 : Int32)), .val (.int (1 : Int32)), .val (.int (0 : Int32)), .val (.int (0 : Int32)), .val (.int (-1 : Int32)), .val (.int (-1 : Int32)), .val (.int (1 : Int32)), .val (.int (-1 : Int32)), .val (.int r21_r)] [(.int (1 : Int32))])
        refine OE.iload X22 hx hby at_541 rfl ?_
        refine OE.icmpNo X22 hx hby at_543 (teq (by decide : (1 : Int32) = (1 : Int32))).2 ?_
        refine OE.iload X22 hx hby at_546 rfl ?_
        refine OE.iload X22 hx hby at_548 rfl ?_
        refine OE.icmpNo X22 hx hby at_550 (teq (own_f1n h21_hr d18 : r21_r = (-1 : Int32))).2 ?_
        refine OE.iload X22 hx hby at_553 rfl ?_
        refine OE.iconst X22 hx hby at_555 (-1 : Int32) rfl ?_
        refine OE.icmpNo X22 hx hby at_556 (flt (by decide : ¬ ((-1 : Int32) < (-1 : Int32)))).1 ?_
        refine OE.iconst X22 hx hby at_559 (1 : Int32) rfl ?_
        refine OE.goto X22 hx hby (pc' := 564) at_560 (h := ?_)
        refine OE.retN X22 hx (t := .boolean) Bd.returns (by simp) Bd.notSynchronized (hb hby at_564) (Nat.le_trans (Nat.add_le_add_right hcl1 5) (by decide)) (Nat.le_trans (Nat.add_le_add_right hsl1 6150) (by decide)) ?_
        rw [eq22]
        exact ⟨rfl, N22⟩
    · skip
      show OE _ p e below s _ _ _ T4 (mkF m 244 #[.val (.int p1), .val (.int p2), .val (.int p3), .val (.int p4), .val (.int cm), .val (.ref t), .val (.ref u), .val (.int (2 : Int32)), .val (.int sm), .val (.ref qa), .val (.int xa), .val (.int ya), .val (.int xb), .val (.int yb), .val (.int xc), .val (.int yc), .val (.int xq), .val (.int yq), .val (.ref b2), .val (.int (1 : Int32)), .val (.int (0 : Int32)), .val (.int (0 : Int32)), .val (.int (0 : Int32)), .val (.int (-1 : Int32)), .val (.int (-1 : Int32)), .val (.int (0 : Int32)), .unset, .unset] [])
      refine OE.iload X4 hx hby at_244 rfl ?_
      refine OE.iconst X4 hx hby at_246 (1 : Int32) rfl ?_
      refine OE.icmpNo X4 hx hby at_247 (flt (by decide : ¬ ((2 : Int32) < (1 : Int32)))).1 ?_
      refine OE.iload X4 hx hby at_250 rfl ?_
      refine OE.ifNo X4 hx hby at_252 (feq (by decide : ¬ ((1 : Int32) = (0 : Int32)))).1 ?_
      refine OE.aload X4 hx hby at_255 rfl rfl ?_
      refine OE.aload X4 hx hby at_257 rfl rfl ?_
      refine OE.iload X4 hx hby at_259 rfl ?_
      refine OE.iload X4 hx hby at_261 rfl ?_
      have f23 : Arv Z T4.heap t kt .char (4 : Int32) (List.map Value.int tl) (.int (0 : Int32)) := (f6.keep K4 (ninS ne_t_b2 nin0))
      have z24 : n0 ≤ T4.heap.size := (Nat.le_trans z3 K4.1)
      obtain ⟨cq25, kq25, qa25, qb25, qc25⟩ := isOf hZ rfl q4_0
      obtain ⟨_, _, ⟨T25, L25, k25, n25⟩, -, X25, ⟨Lc25, hQ25, l25, y25, z25⟩, st25⟩ := X4.virtualBack hx (y := (⟨"com/example/archerfish/archerfish/index/TokenTable", "add", "([CII)I"⟩ : MethodName)) (z := (⟨"com/example/archerfish/archerfish/index/TokenTable", "add", "([CII)I"⟩ : MethodName)) hown (mvT hZ (hw _ (List.mem_of_getElem? (i := 26) rfl))) (mvT hZ (hw _ (List.mem_of_getElem? (i := 27) rfl))) (notFace_of_selects (args := #[]) (mvT hZ (hw _ (List.mem_of_getElem? (i := 29) rfl)))) (mvT hZ (hw _ (List.mem_of_getElem? (i := 29) rfl))) (mvT hZ (hw _ (List.mem_of_getElem? (i := 28) rfl))) (by decide) (backOf (W := 0) (own_rm5 l Z a0 hw [] b2 t xa ya r4_sl r4_ha r4_st r4_ch r4_ksl r4_kha r4_kst r4_kch kt (List.replicate 1024 (0 : Int32)) (List.replicate 512 (.int (0 : Int32))) (List.replicate 513 (.int (0 : Int32))) (List.replicate 4096 (.int (0 : Int32))) tl ([] : List (List Int32)) (0 : Int32) (0 : Int32) (1 : Int32) T4.heap n0 z24 q4_0 q4_1 q4_2 q4_3 q4_4 q4_6 q4_7 q4_8 q4_9 f23 g_b2 g_r4_sl g_r4_ha g_r4_st g_r4_ch ne_b2_r4_sl ne_b2_r4_ha ne_b2_r4_st ne_b2_r4_ch h4_n_sl_ha h4_n_sl_st h4_n_sl_ch h4_n_ha_st h4_n_ha_ch h4_n_st_ch ne_t_r4_ch own_inv0 htl hrA q4_5 (by decide : 0 ≤ 2) rfl (by decide)) hZ (hw _ (List.mem_of_getElem? (i := 30) rfl)) (hw _ (List.mem_of_getElem? (i := 10) rfl)) (by decide) (by decide)) qa25 qc25 (g := (mkF m 263 #[.val (.int p1), .val (.int p2), .val (.int p3), .val (.int p4), .val (.int cm), .val (.ref t), .val (.ref u), .val (.int (2 : Int32)), .val (.int sm), .val (.ref qa), .val (.int xa), .val (.int ya), .val (.int xb), .val (.int yb), .val (.int xc), .val (.int yc), .val (.int xq), .val (.int yq), .val (.ref b2), .val (.int (1 : Int32)), .val (.int (0 : Int32)), .val (.int (0 : Int32)), .val (.int (0 : Int32)), .val (.int (-1 : Int32)), .val (.int (-1 : Int32)), .val (.int (0 : Int32)), .unset, .unset] [(.int ya), (.int xa), (.ref t), (.ref b2)])) rfl (by rw [hml]; rfl) (Steps.refl _) (argsL := [(.ref t), (.int xa), (.int ya)]) (rest := []) (lenOf own_pd0 rfl) rfl (by show 2 * 0 + _ ≤ _; exact Nat.le_of_eq rfl) (hb hby at_263) (fun _ _ => ⟨rfl, rfl, (Nat.le_trans (Nat.add_le_add_right (Nat.add_le_add_right hcl1 5) 0) (by decide)), (Nat.le_trans (Nat.add_le_add_right (Nat.add_le_add_right hsl1 6150) 0) (by decide))⟩)
      dsimp only [Pt.U, Pt.locs, Pt.cells, Pt.slots] at X25 l25 y25 z25 st25 hQ25
      have yc25 : cells1 + 5 = k25 := y25.symm
      have zc25 : slots1 + 6150 = n25 := z25.symm
      have lc25 := l25.symm
      subst lc25 yc25 zc25
      obtain ⟨r25_vsS1, r25_vsH1, r25_vsC1, r25_S1, r25_F1, rfl, Nq25, K25, q25_0, q25_1, q25_2, q25_3, q25_4, q25_5, q25_6, q25_7, q25_8, q25_9, h25_hI⟩ := hQ25
      refine OE.of (fun _ k => st25.trans k) ?_
      have N25 := Fr.app N4 Nq25
      show OE _ p e below s _ _ _ T25 (mkF m 266 #[.val (.int p1), .val (.int p2), .val (.int p3), .val (.int p4), .val (.int cm), .val (.ref t), .val (.ref u), .val (.int (2 : Int32)), .val (.int sm), .val (.ref qa), .val (.int xa), .val (.int ya), .val (.int xb), .val (.int yb), .val (.int xc), .val (.int yc), .val (.int xq), .val (.int yq), .val (.ref b2), .val (.int (1 : Int32)), .val (.int (0 : Int32)), .val (.int (0 : Int32)), .val (.int (0 : Int32)), .val (.int (-1 : Int32)), .val (.int (-1 : Int32)), .val (.int (0 : Int32)), .unset, .unset] [(.int (0 : Int32))])
      have I25 : own_inv [(own_sl tl xa ya)] r25_vsS1 r25_vsH1 r25_vsC1 r25_S1 r25_F1 := h25_hI
      refine OE.ifNo X25 hx hby at_266 (teq (by decide : (0 : Int32) = (0 : Int32))).2 ?_
      refine OE.iconst X25 hx hby at_269 (1 : Int32) rfl ?_
      refine OE.goto X25 hx hby (pc' := 274) at_270 (h := ?_)
      refine OE.istore X25 hx hby at_274 (l' := #[.val (.int p1), .val (.int p2), .val (.int p3), .val (.int p4), .val (.int cm), .val (.ref t), .val (.ref u), .val (.int (2 : Int32)), .val (.int sm), .val (.ref qa), .val (.int xa), .val (.int ya), .val (.int xb), .val (.int yb), .val (.int xc), .val (.int yc), .val (.int xq), .val (.int yq), .val (.ref b2), .val (.int (1 : Int32)), .val (.int (0 : Int32)), .val (.int (0 : Int32)), .val (.int (0 : Int32)), .val (.int (-1 : Int32)), .val (.int (-1 : Int32)), .val (.int (0 : Int32)), .unset, .unset]) rfl ?_
      refine OE.iconst X25 hx hby at_276 (1 : Int32) rfl ?_
      refine OE.istore X25 hx hby at_277 (l' := #[.val (.int p1), .val (.int p2), .val (.int p3), .val (.int p4), .val (.int cm), .val (.ref t), .val (.ref u), .val (.int (2 : Int32)), .val (.int sm), .val (.ref qa), .val (.int xa), .val (.int ya), .val (.int xb), .val (.int yb), .val (.int xc), .val (.int yc), .val (.int xq), .val (.int yq), .val (.ref b2), .val (.int (1 : Int32)), .val (.int (1 : Int32)), .val (.int (0 : Int32)), .val (.int (0 : Int32)), .val (.int (-1 : Int32)), .val (.int (-1 : Int32)), .val (.int (0 : Int32)), .unset, .unset]) rfl ?_
      refine OE.iconst X25 hx hby at_279 (1 : Int32) rfl ?_
      refine OE.istore X25 hx hby at_280 (l' := #[.val (.int p1), .val (.int p2), .val (.int p3), .val (.int p4), .val (.int cm), .val (.ref t), .val (.ref u), .val (.int (2 : Int32)), .val (.int sm), .val (.ref qa), .val (.int xa), .val (.int ya), .val (.int xb), .val (.int yb), .val (.int xc), .val (.int yc), .val (.int xq), .val (.int yq), .val (.ref b2), .val (.int (1 : Int32)), .val (.int (1 : Int32)), .val (.int (0 : Int32)), .val (.int (0 : Int32)), .val (.int (-1 : Int32)), .val (.int (-1 : Int32)), .val (.int (1 : Int32)), .unset, .unset]) rfl ?_
      refine OE.iload X25 hx hby at_282 rfl ?_
      refine OE.iconst X25 hx hby at_284 (2 : Int32) rfl ?_
      refine OE.icmpNo X25 hx hby at_285 (flt (by decide : ¬ ((2 : Int32) < (2 : Int32)))).1 ?_
      refine OE.aload X25 hx hby at_288 rfl rfl ?_
      refine OE.iload X25 hx hby at_290 rfl ?_
      refine OE.iload X25 hx hby at_292 rfl ?_
      refine OE.aload X25 hx hby at_294 rfl rfl ?_
      refine OE.iload X25 hx hby at_296 rfl ?_
      refine OE.iload X25 hx hby at_298 rfl ?_
      have f26 : Arv Z T25.heap t kt .char (4 : Int32) (List.map Value.int tl) (.int (0 : Int32)) := (f23.keep K25 (ninS ne_t_b2 (ninS ne_t_r4_sl (ninS ne_t_r4_ha (ninS ne_t_r4_st (ninS ne_t_r4_ch nin0))))))
      have z27 : n0 ≤ T25.heap.size := (Nat.le_trans z24 K25.1)
      obtain ⟨_, _, ⟨T28, L28, k28, n28⟩, -, X28, ⟨Lc28, hQ28, l28, y28, z28⟩, st28⟩ := Jvm.LawKit.callS X25 hx (y := (⟨"com/example/archerfish/archerfish/index/TokenTableFindPinLaw", "eq", "([CII[CII)Z"⟩ : MethodName)) hown (mvT hZ (hw _ (List.mem_of_getElem? (i := 46) rfl))) (mvT hZ (hw _ (List.mem_of_getElem? (i := 47) rfl))) (mvT hZ (hw _ (List.mem_of_getElem? (i := 3) rfl))) (mvT hZ (hw _ (List.mem_of_getElem? (i := 48) rfl))) (by decide) (backOf (W := 0) (own_rm8 l Z a0 hw [] t xb yb t xa ya tl tl kt kt T25.heap n0 z27 f26 f26 htl htl hrB hrA) hZ (hw _ (List.mem_of_getElem? (i := 48) rfl)) (hw _ (List.mem_of_getElem? (i := 3) rfl)) (by decide) (by decide)) (g := (mkF m 300 #[.val (.int p1), .val (.int p2), .val (.int p3), .val (.int p4), .val (.int cm), .val (.ref t), .val (.ref u), .val (.int (2 : Int32)), .val (.int sm), .val (.ref qa), .val (.int xa), .val (.int ya), .val (.int xb), .val (.int yb), .val (.int xc), .val (.int yc), .val (.int xq), .val (.int yq), .val (.ref b2), .val (.int (1 : Int32)), .val (.int (1 : Int32)), .val (.int (0 : Int32)), .val (.int (0 : Int32)), .val (.int (-1 : Int32)), .val (.int (-1 : Int32)), .val (.int (1 : Int32)), .unset, .unset] [(.int ya), (.int xa), (.ref t), (.int yb), (.int xb), (.ref t)])) rfl (by rw [hml]; rfl) (argsL := [(.ref t), (.int xb), (.int yb), (.ref t), (.int xa), (.int ya)]) (rest := []) (lenOf own_pd5 rfl) rfl (by show 2 * 0 + _ ≤ _; exact Nat.le_of_eq rfl) (hb hby at_300) (fun _ _ => ⟨rfl, rfl, (Nat.le_trans (Nat.add_le_add_right (Nat.add_le_add_right hcl1 5) 0) (by decide)), (Nat.le_trans (Nat.add_le_add_right (Nat.add_le_add_right hsl1 6150) 0) (by decide))⟩)
      dsimp only [Pt.U, Pt.locs, Pt.cells, Pt.slots] at X28 l28 y28 z28 st28 hQ28
      have yc28 : cells1 + 5 = k28 := y28.symm
      have zc28 : slots1 + 6150 = n28 := z28.symm
      have lc28 := l28.symm
      subst lc28 yc28 zc28
      obtain ⟨r28_r, rfl, Nq28, eq28, h28_hr⟩ := hQ28
      refine OE.of (fun _ k => st28 _ k) ?_
      have N28 := Fr.app N25 Nq28
      show OE _ p e below s _ _ _ T28 (mkF m 303 #[.val (.int p1), .val (.int p2), .val (.int p3), .val (.int p4), .val (.int cm), .val (.ref t), .val (.ref u), .val (.int (2 : Int32)), .val (.int sm), .val (.ref qa), .val (.int xa), .val (.int ya), .val (.int xb), .val (.int yb), .val (.int xc), .val (.int yc), .val (.int xq), .val (.int yq), .val (.ref b2), .val (.int (1 : Int32)), .val (.int (1 : Int32)), .val (.int (0 : Int32)), .val (.int (0 : Int32)), .val (.int (-1 : Int32)), .val (.int (-1 : Int32)), .val (.int (1 : Int32)), .unset, .unset] [(.int r28_r)])
      rcases h28_hr with ⟨e28, d28⟩ | ⟨e28, d28⟩
      · subst e28
        show OE _ p e below s _ _ _ T28 (mkF m 303 #[.val (.int p1), .val (.int p2), .val (.int p3), .val (.int p4), .val (.int cm), .val (.ref t), .val (.ref u), .val (.int (2 : Int32)), .val (.int sm), .val (.ref qa), .val (.int xa), .val (.int ya), .val (.int xb), .val (.int yb), .val (.int xc), .val (.int yc), .val (.int xq), .val (.int yq), .val (.ref b2), .val (.int (1 : Int32)), .val (.int (1 : Int32)), .val (.int (0 : Int32)), .val (.int (0 : Int32)), .val (.int (-1 : Int32)), .val (.int (-1 : Int32)), .val (.int (1 : Int32)), .unset, .unset] [(.int (1 : Int32))])
        refine OE.ifYes X28 hx hby (pc' := 344) at_303 (feq (by decide : ¬ ((1 : Int32) = (0 : Int32)))).2 (h := ?_)
        refine OE.iload X28 hx hby at_344 rfl ?_
        refine OE.iconst X28 hx hby at_346 (3 : Int32) rfl ?_
        refine OE.icmpYes X28 hx hby (pc' := 429) at_347 (tlt (by decide : (2 : Int32) < (3 : Int32))).1 (h := ?_)
        refine OE.iconst X28 hx hby at_429 (-1 : Int32) rfl ?_
        refine OE.istore X28 hx hby at_430 (l' := #[.val (.int p1), .val (.int p2), .val (.int p3), .val (.int p4), .val (.int cm), .val (.ref t), .val (.ref u), .val (.int (2 : Int32)), .val (.int sm), .val (.ref qa), .val (.int xa), .val (.int ya), .val (.int xb), .val (.int yb), .val (.int xc), .val (.int yc), .val (.int xq), .val (.int yq), .val (.ref b2), .val (.int (1 : Int32)), .val (.int (1 : Int32)), .val (.int (0 : Int32)), .val (.int (0 : Int32)), .val (.int (-1 : Int32)), .val (.int (-1 : Int32)), .val (.int (1 : Int32)), .val (.int (-1 : Int32)), .unset]) rfl ?_
        refine OE.iload X28 hx hby at_432 rfl ?_
        refine OE.ifNo X28 hx hby at_434 (feq (by decide : ¬ ((1 : Int32) = (0 : Int32)))).1 ?_
        refine OE.aload X28 hx hby at_437 rfl rfl ?_
        refine OE.iload X28 hx hby at_439 rfl ?_
        refine OE.iload X28 hx hby at_441 rfl ?_
        refine OE.aload X28 hx hby at_443 rfl rfl ?_
        refine OE.iload X28 hx hby at_445 rfl ?_
        refine OE.iload X28 hx hby at_447 rfl ?_
        have f29 : Arv Z T25.heap qa kq .char (4 : Int32) (List.map Value.int ql) (.int (0 : Int32)) := ((f5.keep K4 (ninS ne_qa_b2 nin0)).keep K25 (ninS ne_qa_b2 (ninS ne_qa_r4_sl (ninS ne_qa_r4_ha (ninS ne_qa_r4_st (ninS ne_qa_r4_ch nin0))))))
        obtain ⟨_, _, ⟨T30, L30, k30, n30⟩, -, X30, ⟨Lc30, hQ30, l30, y30, z30⟩, st30⟩ := Jvm.LawKit.callS X28 hx (y := (⟨"com/example/archerfish/archerfish/index/TokenTableFindPinLaw", "eq", "([CII[CII)Z"⟩ : MethodName)) hown (mvT hZ (hw _ (List.mem_of_getElem? (i := 46) rfl))) (mvT hZ (hw _ (List.mem_of_getElem? (i := 47) rfl))) (mvT hZ (hw _ (List.mem_of_getElem? (i := 3) rfl))) (mvT hZ (hw _ (List.mem_of_getElem? (i := 48) rfl))) (by decide) (backOf (W := 0) (own_rm8 l Z a0 hw [] qa xq yq t xa ya ql tl kq kt T25.heap n0 z27 f29 f26 hql htl hrQ hrA) hZ (hw _ (List.mem_of_getElem? (i := 48) rfl)) (hw _ (List.mem_of_getElem? (i := 3) rfl)) (by decide) (by decide)) (g := (mkF m 449 #[.val (.int p1), .val (.int p2), .val (.int p3), .val (.int p4), .val (.int cm), .val (.ref t), .val (.ref u), .val (.int (2 : Int32)), .val (.int sm), .val (.ref qa), .val (.int xa), .val (.int ya), .val (.int xb), .val (.int yb), .val (.int xc), .val (.int yc), .val (.int xq), .val (.int yq), .val (.ref b2), .val (.int (1 : Int32)), .val (.int (1 : Int32)), .val (.int (0 : Int32)), .val (.int (0 : Int32)), .val (.int (-1 : Int32)), .val (.int (-1 : Int32)), .val (.int (1 : Int32)), .val (.int (-1 : Int32)), .unset] [(.int ya), (.int xa), (.ref t), (.int yq), (.int xq), (.ref qa)])) rfl (by rw [hml]; rfl) (argsL := [(.ref qa), (.int xq), (.int yq), (.ref t), (.int xa), (.int ya)]) (rest := []) (lenOf own_pd5 rfl) rfl (by show 2 * 0 + _ ≤ _; exact Nat.le_of_eq rfl) (hb hby at_449) (fun _ _ => ⟨rfl, eq28, (Nat.le_trans (Nat.add_le_add_right (Nat.add_le_add_right hcl1 5) 0) (by decide)), (Nat.le_trans (Nat.add_le_add_right (Nat.add_le_add_right hsl1 6150) 0) (by decide))⟩)
        dsimp only [Pt.U, Pt.locs, Pt.cells, Pt.slots] at X30 l30 y30 z30 st30 hQ30
        have yc30 : cells1 + 5 = k30 := y30.symm
        have zc30 : slots1 + 6150 = n30 := z30.symm
        have lc30 := l30.symm
        subst lc30 yc30 zc30
        obtain ⟨r30_r, rfl, Nq30, eq30, h30_hr⟩ := hQ30
        refine OE.of (fun _ k => st30 _ k) ?_
        have N30 := Fr.app N28 Nq30
        show OE _ p e below s _ _ _ T30 (mkF m 452 #[.val (.int p1), .val (.int p2), .val (.int p3), .val (.int p4), .val (.int cm), .val (.ref t), .val (.ref u), .val (.int (2 : Int32)), .val (.int sm), .val (.ref qa), .val (.int xa), .val (.int ya), .val (.int xb), .val (.int yb), .val (.int xc), .val (.int yc), .val (.int xq), .val (.int yq), .val (.ref b2), .val (.int (1 : Int32)), .val (.int (1 : Int32)), .val (.int (0 : Int32)), .val (.int (0 : Int32)), .val (.int (-1 : Int32)), .val (.int (-1 : Int32)), .val (.int (1 : Int32)), .val (.int (-1 : Int32)), .unset] [(.int r30_r)])
        rcases h30_hr with ⟨e30, d30⟩ | ⟨e30, d30⟩
        · subst e30
          show OE _ p e below s _ _ _ T30 (mkF m 452 #[.val (.int p1), .val (.int p2), .val (.int p3), .val (.int p4), .val (.int cm), .val (.ref t), .val (.ref u), .val (.int (2 : Int32)), .val (.int sm), .val (.ref qa), .val (.int xa), .val (.int ya), .val (.int xb), .val (.int yb), .val (.int xc), .val (.int yc), .val (.int xq), .val (.int yq), .val (.ref b2), .val (.int (1 : Int32)), .val (.int (1 : Int32)), .val (.int (0 : Int32)), .val (.int (0 : Int32)), .val (.int (-1 : Int32)), .val (.int (-1 : Int32)), .val (.int (1 : Int32)), .val (.int (-1 : Int32)), .unset] [(.int (1 : Int32))])
          refine OE.ifNo X30 hx hby at_452 (feq (by decide : ¬ ((1 : Int32) = (0 : Int32)))).1 ?_
          refine OE.iconst X30 hx hby at_455 (0 : Int32) rfl ?_
          refine OE.istore X30 hx hby at_456 (l' := #[.val (.int p1), .val (.int p2), .val (.int p3), .val (.int p4), .val (.int cm), .val (.ref t), .val (.ref u), .val (.int (2 : Int32)), .val (.int sm), .val (.ref qa), .val (.int xa), .val (.int ya), .val (.int xb), .val (.int yb), .val (.int xc), .val (.int yc), .val (.int xq), .val (.int yq), .val (.ref b2), .val (.int (1 : Int32)), .val (.int (1 : Int32)), .val (.int (0 : Int32)), .val (.int (0 : Int32)), .val (.int (-1 : Int32)), .val (.int (-1 : Int32)), .val (.int (1 : Int32)), .val (.int (0 : Int32)), .unset]) rfl ?_
          refine OE.goto X30 hx hby (pc' := 518) at_458 (h := ?_)
          refine OE.aload X30 hx hby at_518 rfl rfl ?_
          refine OE.aload X30 hx hby at_520 rfl rfl ?_
          refine OE.iload X30 hx hby at_522 rfl ?_
          refine OE.iload X30 hx hby at_524 rfl ?_
          obtain ⟨cq31, kq31, qa31, qb31, qc31⟩ := isOf hZ eq30 q25_0
          obtain ⟨_, _, ⟨T31, L31, k31, n31⟩, -, X31, ⟨Lc31, hQ31, l31, y31, z31⟩, st31⟩ := X30.virtualBack hx (y := (⟨"com/example/archerfish/archerfish/index/TokenTable", "find", "([CII)I"⟩ : MethodName)) (z := (⟨"com/example/archerfish/archerfish/index/TokenTable", "find", "([CII)I"⟩ : MethodName)) hown (mvT hZ (hw _ (List.mem_of_getElem? (i := 49) rfl))) (mvT hZ (hw _ (List.mem_of_getElem? (i := 50) rfl))) (notFace_of_selects (args := #[]) (mvT hZ (hw _ (List.mem_of_getElem? (i := 52) rfl)))) (mvT hZ (hw _ (List.mem_of_getElem? (i := 52) rfl))) (mvT hZ (hw _ (List.mem_of_getElem? (i := 51) rfl))) (by decide) (backOf (W := 0) (own_rm9 l Z a0 hw [] b2 qa xq yq r4_sl r4_ha r4_st r4_ch r4_ksl r4_kha r4_kst r4_kch kq r25_S1 r25_vsH1 r25_vsS1 r25_vsC1 ql ([(own_sl tl xa ya)] : List (List Int32)) r25_F1 T25.heap n0 z27 q25_0 q25_1 q25_2 q25_3 q25_4 q25_6 q25_7 q25_8 q25_9 f29 I25 hql hrQ (by decide : 1 ≤ 3)) hZ (hw _ (List.mem_of_getElem? (i := 53) rfl)) (hw _ (List.mem_of_getElem? (i := 10) rfl)) (by decide) (by decide)) qa31 qc31 (g := (mkF m 526 #[.val (.int p1), .val (.int p2), .val (.int p3), .val (.int p4), .val (.int cm), .val (.ref t), .val (.ref u), .val (.int (2 : Int32)), .val (.int sm), .val (.ref qa), .val (.int xa), .val (.int ya), .val (.int xb), .val (.int yb), .val (.int xc), .val (.int yc), .val (.int xq), .val (.int yq), .val (.ref b2), .val (.int (1 : Int32)), .val (.int (1 : Int32)), .val (.int (0 : Int32)), .val (.int (0 : Int32)), .val (.int (-1 : Int32)), .val (.int (-1 : Int32)), .val (.int (1 : Int32)), .val (.int (0 : Int32)), .unset] [(.int yq), (.int xq), (.ref qa), (.ref b2)])) rfl (by rw [hml]; rfl) (Steps.refl _) (argsL := [(.ref qa), (.int xq), (.int yq)]) (rest := []) (lenOf own_pd0 rfl) rfl (by show 2 * 0 + _ ≤ _; exact Nat.le_of_eq rfl) (hb hby at_526) (fun _ _ => ⟨rfl, eq30, (Nat.le_trans (Nat.add_le_add_right (Nat.add_le_add_right hcl1 5) 0) (by decide)), (Nat.le_trans (Nat.add_le_add_right (Nat.add_le_add_right hsl1 6150) 0) (by decide))⟩)
          dsimp only [Pt.U, Pt.locs, Pt.cells, Pt.slots] at X31 l31 y31 z31 st31 hQ31
          have yc31 : cells1 + 5 = k31 := y31.symm
          have zc31 : slots1 + 6150 = n31 := z31.symm
          have lc31 := l31.symm
          subst lc31 yc31 zc31
          obtain ⟨r31_r, rfl, Nq31, eq31, h31_hr⟩ := hQ31
          refine OE.of (fun _ k => st31.trans k) ?_
          have N31 := Fr.app N30 Nq31
          show OE _ p e below s _ _ _ T31 (mkF m 529 #[.val (.int p1), .val (.int p2), .val (.int p3), .val (.int p4), .val (.int cm), .val (.ref t), .val (.ref u), .val (.int (2 : Int32)), .val (.int sm), .val (.ref qa), .val (.int xa), .val (.int ya), .val (.int xb), .val (.int yb), .val (.int xc), .val (.int yc), .val (.int xq), .val (.int yq), .val (.ref b2), .val (.int (1 : Int32)), .val (.int (1 : Int32)), .val (.int (0 : Int32)), .val (.int (0 : Int32)), .val (.int (-1 : Int32)), .val (.int (-1 : Int32)), .val (.int (1 : Int32)), .val (.int (0 : Int32)), .unset] [(.int r31_r)])
          refine OE.istore X31 hx hby at_529 (l' := #[.val (.int p1), .val (.int p2), .val (.int p3), .val (.int p4), .val (.int cm), .val (.ref t), .val (.ref u), .val (.int (2 : Int32)), .val (.int sm), .val (.ref qa), .val (.int xa), .val (.int ya), .val (.int xb), .val (.int yb), .val (.int xc), .val (.int yc), .val (.int xq), .val (.int yq), .val (.ref b2), .val (.int (1 : Int32)), .val (.int (1 : Int32)), .val (.int (0 : Int32)), .val (.int (0 : Int32)), .val (.int (-1 : Int32)), .val (.int (-1 : Int32)), .val (.int (1 : Int32)), .val (.int (0 : Int32)), .val (.int r31_r)]) rfl ?_
          refine OE.iload X31 hx hby at_531 rfl ?_
          refine OE.ifNo X31 hx hby at_533 (feq (by decide : ¬ ((1 : Int32) = (0 : Int32)))).1 ?_
          refine OE.aload X31 hx hby at_536 rfl rfl ?_
          obtain ⟨cq32, kq32, qa32, qb32, qc32⟩ := isOf hZ eq31 q25_0
          obtain ⟨_, _, ⟨T32, L32, k32, n32⟩, -, X32, ⟨Lc32, hQ32, l32, y32, z32⟩, st32⟩ := X31.virtualBack hx (y := (⟨"com/example/archerfish/archerfish/index/TokenTable", "size", "()I"⟩ : MethodName)) (z := (⟨"com/example/archerfish/archerfish/index/TokenTable", "size", "()I"⟩ : MethodName)) hown (mvT hZ (hw _ (List.mem_of_getElem? (i := 58) rfl))) (mvT hZ (hw _ (List.mem_of_getElem? (i := 59) rfl))) (notFace_of_selects (args := #[]) (mvT hZ (hw _ (List.mem_of_getElem? (i := 61) rfl)))) (mvT hZ (hw _ (List.mem_of_getElem? (i := 61) rfl))) (mvT hZ (hw _ (List.mem_of_getElem? (i := 60) rfl))) (by decide) (backOf (W := 0) (own_rm11 l Z a0 hw [] b2 (1 : Int32) T25.heap n0 z27 q25_5) hZ (hw _ (List.mem_of_getElem? (i := 62) rfl)) (hw _ (List.mem_of_getElem? (i := 10) rfl)) (by decide) (by decide)) qa32 qc32 (g := (mkF m 538 #[.val (.int p1), .val (.int p2), .val (.int p3), .val (.int p4), .val (.int cm), .val (.ref t), .val (.ref u), .val (.int (2 : Int32)), .val (.int sm), .val (.ref qa), .val (.int xa), .val (.int ya), .val (.int xb), .val (.int yb), .val (.int xc), .val (.int yc), .val (.int xq), .val (.int yq), .val (.ref b2), .val (.int (1 : Int32)), .val (.int (1 : Int32)), .val (.int (0 : Int32)), .val (.int (0 : Int32)), .val (.int (-1 : Int32)), .val (.int (-1 : Int32)), .val (.int (1 : Int32)), .val (.int (0 : Int32)), .val (.int r31_r)] [(.ref b2)])) rfl (by rw [hml]; rfl) (Steps.refl _) (argsL := []) (rest := []) (lenOf own_pd4 rfl) rfl (by show 2 * 0 + _ ≤ _; exact Nat.le_of_eq rfl) (hb hby at_538) (fun _ _ => ⟨rfl, eq31, (Nat.le_trans (Nat.add_le_add_right (Nat.add_le_add_right hcl1 5) 0) (by decide)), (Nat.le_trans (Nat.add_le_add_right (Nat.add_le_add_right hsl1 6150) 0) (by decide))⟩)
          dsimp only [Pt.U, Pt.locs, Pt.cells, Pt.slots] at X32 l32 y32 z32 st32 hQ32
          have yc32 : cells1 + 5 = k32 := y32.symm
          have zc32 : slots1 + 6150 = n32 := z32.symm
          have lc32 := l32.symm
          subst lc32 yc32 zc32
          obtain ⟨rfl, Nq32, eq32⟩ := hQ32
          refine OE.of (fun _ k => st32.trans k) ?_
          have N32 := Fr.app N31 Nq32
          show OE _ p e below s _ _ _ T32 (mkF m 541 #[.val (.int p1), .val (.int p2), .val (.int p3), .val (.int p4), .val (.int cm), .val (.ref t), .val (.ref u), .val (.int (2 : Int32)), .val (.int sm), .val (.ref qa), .val (.int xa), .val (.int ya), .val (.int xb), .val (.int yb), .val (.int xc), .val (.int yc), .val (.int xq), .val (.int yq), .val (.ref b2), .val (.int (1 : Int32)), .val (.int (1 : Int32)), .val (.int (0 : Int32)), .val (.int (0 : Int32)), .val (.int (-1 : Int32)), .val (.int (-1 : Int32)), .val (.int (1 : Int32)), .val (.int (0 : Int32)), .val (.int r31_r)] [(.int (1 : Int32))])
          refine OE.iload X32 hx hby at_541 rfl ?_
          refine OE.icmpNo X32 hx hby at_543 (teq (by decide : (1 : Int32) = (1 : Int32))).2 ?_
          refine OE.iload X32 hx hby at_546 rfl ?_
          refine OE.iload X32 hx hby at_548 rfl ?_
          refine OE.icmpNo X32 hx hby at_550 (teq (own_f1a h31_hr   d30 : r31_r = (0 : Int32))).2 ?_
          refine OE.iload X32 hx hby at_553 rfl ?_
          refine OE.iconst X32 hx hby at_555 (-1 : Int32) rfl ?_
          refine OE.icmpNo X32 hx hby at_556 (flt (by decide : ¬ ((0 : Int32) < (-1 : Int32)))).1 ?_
          refine OE.iconst X32 hx hby at_559 (1 : Int32) rfl ?_
          refine OE.goto X32 hx hby (pc' := 564) at_560 (h := ?_)
          refine OE.retN X32 hx (t := .boolean) Bd.returns (by simp) Bd.notSynchronized (hb hby at_564) (Nat.le_trans (Nat.add_le_add_right hcl1 5) (by decide)) (Nat.le_trans (Nat.add_le_add_right hsl1 6150) (by decide)) ?_
          rw [eq32]
          exact ⟨rfl, N32⟩
        · subst e30
          show OE _ p e below s _ _ _ T30 (mkF m 452 #[.val (.int p1), .val (.int p2), .val (.int p3), .val (.int p4), .val (.int cm), .val (.ref t), .val (.ref u), .val (.int (2 : Int32)), .val (.int sm), .val (.ref qa), .val (.int xa), .val (.int ya), .val (.int xb), .val (.int yb), .val (.int xc), .val (.int yc), .val (.int xq), .val (.int yq), .val (.ref b2), .val (.int (1 : Int32)), .val (.int (1 : Int32)), .val (.int (0 : Int32)), .val (.int (0 : Int32)), .val (.int (-1 : Int32)), .val (.int (-1 : Int32)), .val (.int (1 : Int32)), .val (.int (-1 : Int32)), .unset] [(.int (0 : Int32))])
          refine OE.ifYes X30 hx hby (pc' := 461) at_452 (teq (by decide : (0 : Int32) = (0 : Int32))).1 (h := ?_)
          refine OE.iload X30 hx hby at_461 rfl ?_
          refine OE.ifYes X30 hx hby (pc' := 491) at_463 (teq (by decide : (0 : Int32) = (0 : Int32))).1 (h := ?_)
          refine OE.iload X30 hx hby at_491 rfl ?_
          refine OE.ifYes X30 hx hby (pc' := 518) at_493 (teq (by decide : (0 : Int32) = (0 : Int32))).1 (h := ?_)
          refine OE.aload X30 hx hby at_518 rfl rfl ?_
          refine OE.aload X30 hx hby at_520 rfl rfl ?_
          refine OE.iload X30 hx hby at_522 rfl ?_
          refine OE.iload X30 hx hby at_524 rfl ?_
          obtain ⟨cq33, kq33, qa33, qb33, qc33⟩ := isOf hZ eq30 q25_0
          obtain ⟨_, _, ⟨T33, L33, k33, n33⟩, -, X33, ⟨Lc33, hQ33, l33, y33, z33⟩, st33⟩ := X30.virtualBack hx (y := (⟨"com/example/archerfish/archerfish/index/TokenTable", "find", "([CII)I"⟩ : MethodName)) (z := (⟨"com/example/archerfish/archerfish/index/TokenTable", "find", "([CII)I"⟩ : MethodName)) hown (mvT hZ (hw _ (List.mem_of_getElem? (i := 49) rfl))) (mvT hZ (hw _ (List.mem_of_getElem? (i := 50) rfl))) (notFace_of_selects (args := #[]) (mvT hZ (hw _ (List.mem_of_getElem? (i := 52) rfl)))) (mvT hZ (hw _ (List.mem_of_getElem? (i := 52) rfl))) (mvT hZ (hw _ (List.mem_of_getElem? (i := 51) rfl))) (by decide) (backOf (W := 0) (own_rm9 l Z a0 hw [] b2 qa xq yq r4_sl r4_ha r4_st r4_ch r4_ksl r4_kha r4_kst r4_kch kq r25_S1 r25_vsH1 r25_vsS1 r25_vsC1 ql ([(own_sl tl xa ya)] : List (List Int32)) r25_F1 T25.heap n0 z27 q25_0 q25_1 q25_2 q25_3 q25_4 q25_6 q25_7 q25_8 q25_9 f29 I25 hql hrQ (by decide : 1 ≤ 3)) hZ (hw _ (List.mem_of_getElem? (i := 53) rfl)) (hw _ (List.mem_of_getElem? (i := 10) rfl)) (by decide) (by decide)) qa33 qc33 (g := (mkF m 526 #[.val (.int p1), .val (.int p2), .val (.int p3), .val (.int p4), .val (.int cm), .val (.ref t), .val (.ref u), .val (.int (2 : Int32)), .val (.int sm), .val (.ref qa), .val (.int xa), .val (.int ya), .val (.int xb), .val (.int yb), .val (.int xc), .val (.int yc), .val (.int xq), .val (.int yq), .val (.ref b2), .val (.int (1 : Int32)), .val (.int (1 : Int32)), .val (.int (0 : Int32)), .val (.int (0 : Int32)), .val (.int (-1 : Int32)), .val (.int (-1 : Int32)), .val (.int (1 : Int32)), .val (.int (-1 : Int32)), .unset] [(.int yq), (.int xq), (.ref qa), (.ref b2)])) rfl (by rw [hml]; rfl) (Steps.refl _) (argsL := [(.ref qa), (.int xq), (.int yq)]) (rest := []) (lenOf own_pd0 rfl) rfl (by show 2 * 0 + _ ≤ _; exact Nat.le_of_eq rfl) (hb hby at_526) (fun _ _ => ⟨rfl, eq30, (Nat.le_trans (Nat.add_le_add_right (Nat.add_le_add_right hcl1 5) 0) (by decide)), (Nat.le_trans (Nat.add_le_add_right (Nat.add_le_add_right hsl1 6150) 0) (by decide))⟩)
          dsimp only [Pt.U, Pt.locs, Pt.cells, Pt.slots] at X33 l33 y33 z33 st33 hQ33
          have yc33 : cells1 + 5 = k33 := y33.symm
          have zc33 : slots1 + 6150 = n33 := z33.symm
          have lc33 := l33.symm
          subst lc33 yc33 zc33
          obtain ⟨r33_r, rfl, Nq33, eq33, h33_hr⟩ := hQ33
          refine OE.of (fun _ k => st33.trans k) ?_
          have N33 := Fr.app N30 Nq33
          show OE _ p e below s _ _ _ T33 (mkF m 529 #[.val (.int p1), .val (.int p2), .val (.int p3), .val (.int p4), .val (.int cm), .val (.ref t), .val (.ref u), .val (.int (2 : Int32)), .val (.int sm), .val (.ref qa), .val (.int xa), .val (.int ya), .val (.int xb), .val (.int yb), .val (.int xc), .val (.int yc), .val (.int xq), .val (.int yq), .val (.ref b2), .val (.int (1 : Int32)), .val (.int (1 : Int32)), .val (.int (0 : Int32)), .val (.int (0 : Int32)), .val (.int (-1 : Int32)), .val (.int (-1 : Int32)), .val (.int (1 : Int32)), .val (.int (-1 : Int32)), .unset] [(.int r33_r)])
          refine OE.istore X33 hx hby at_529 (l' := #[.val (.int p1), .val (.int p2), .val (.int p3), .val (.int p4), .val (.int cm), .val (.ref t), .val (.ref u), .val (.int (2 : Int32)), .val (.int sm), .val (.ref qa), .val (.int xa), .val (.int ya), .val (.int xb), .val (.int yb), .val (.int xc), .val (.int yc), .val (.int xq), .val (.int yq), .val (.ref b2), .val (.int (1 : Int32)), .val (.int (1 : Int32)), .val (.int (0 : Int32)), .val (.int (0 : Int32)), .val (.int (-1 : Int32)), .val (.int (-1 : Int32)), .val (.int (1 : Int32)), .val (.int (-1 : Int32)), .val (.int r33_r)]) rfl ?_
          refine OE.iload X33 hx hby at_531 rfl ?_
          refine OE.ifNo X33 hx hby at_533 (feq (by decide : ¬ ((1 : Int32) = (0 : Int32)))).1 ?_
          refine OE.aload X33 hx hby at_536 rfl rfl ?_
          obtain ⟨cq34, kq34, qa34, qb34, qc34⟩ := isOf hZ eq33 q25_0
          obtain ⟨_, _, ⟨T34, L34, k34, n34⟩, -, X34, ⟨Lc34, hQ34, l34, y34, z34⟩, st34⟩ := X33.virtualBack hx (y := (⟨"com/example/archerfish/archerfish/index/TokenTable", "size", "()I"⟩ : MethodName)) (z := (⟨"com/example/archerfish/archerfish/index/TokenTable", "size", "()I"⟩ : MethodName)) hown (mvT hZ (hw _ (List.mem_of_getElem? (i := 58) rfl))) (mvT hZ (hw _ (List.mem_of_getElem? (i := 59) rfl))) (notFace_of_selects (args := #[]) (mvT hZ (hw _ (List.mem_of_getElem? (i := 61) rfl)))) (mvT hZ (hw _ (List.mem_of_getElem? (i := 61) rfl))) (mvT hZ (hw _ (List.mem_of_getElem? (i := 60) rfl))) (by decide) (backOf (W := 0) (own_rm11 l Z a0 hw [] b2 (1 : Int32) T25.heap n0 z27 q25_5) hZ (hw _ (List.mem_of_getElem? (i := 62) rfl)) (hw _ (List.mem_of_getElem? (i := 10) rfl)) (by decide) (by decide)) qa34 qc34 (g := (mkF m 538 #[.val (.int p1), .val (.int p2), .val (.int p3), .val (.int p4), .val (.int cm), .val (.ref t), .val (.ref u), .val (.int (2 : Int32)), .val (.int sm), .val (.ref qa), .val (.int xa), .val (.int ya), .val (.int xb), .val (.int yb), .val (.int xc), .val (.int yc), .val (.int xq), .val (.int yq), .val (.ref b2), .val (.int (1 : Int32)), .val (.int (1 : Int32)), .val (.int (0 : Int32)), .val (.int (0 : Int32)), .val (.int (-1 : Int32)), .val (.int (-1 : Int32)), .val (.int (1 : Int32)), .val (.int (-1 : Int32)), .val (.int r33_r)] [(.ref b2)])) rfl (by rw [hml]; rfl) (Steps.refl _) (argsL := []) (rest := []) (lenOf own_pd4 rfl) rfl (by show 2 * 0 + _ ≤ _; exact Nat.le_of_eq rfl) (hb hby at_538) (fun _ _ => ⟨rfl, eq33, (Nat.le_trans (Nat.add_le_add_right (Nat.add_le_add_right hcl1 5) 0) (by decide)), (Nat.le_trans (Nat.add_le_add_right (Nat.add_le_add_right hsl1 6150) 0) (by decide))⟩)
          dsimp only [Pt.U, Pt.locs, Pt.cells, Pt.slots] at X34 l34 y34 z34 st34 hQ34
          have yc34 : cells1 + 5 = k34 := y34.symm
          have zc34 : slots1 + 6150 = n34 := z34.symm
          have lc34 := l34.symm
          subst lc34 yc34 zc34
          obtain ⟨rfl, Nq34, eq34⟩ := hQ34
          refine OE.of (fun _ k => st34.trans k) ?_
          have N34 := Fr.app N33 Nq34
          show OE _ p e below s _ _ _ T34 (mkF m 541 #[.val (.int p1), .val (.int p2), .val (.int p3), .val (.int p4), .val (.int cm), .val (.ref t), .val (.ref u), .val (.int (2 : Int32)), .val (.int sm), .val (.ref qa), .val (.int xa), .val (.int ya), .val (.int xb), .val (.int yb), .val (.int xc), .val (.int yc), .val (.int xq), .val (.int yq), .val (.ref b2), .val (.int (1 : Int32)), .val (.int (1 : Int32)), .val (.int (0 : Int32)), .val (.int (0 : Int32)), .val (.int (-1 : Int32)), .val (.int (-1 : Int32)), .val (.int (1 : Int32)), .val (.int (-1 : Int32)), .val (.int r33_r)] [(.int (1 : Int32))])
          refine OE.iload X34 hx hby at_541 rfl ?_
          refine OE.icmpNo X34 hx hby at_543 (teq (by decide : (1 : Int32) = (1 : Int32))).2 ?_
          refine OE.iload X34 hx hby at_546 rfl ?_
          refine OE.iload X34 hx hby at_548 rfl ?_
          refine OE.icmpNo X34 hx hby at_550 (teq (own_f1n h33_hr d30 : r33_r = (-1 : Int32))).2 ?_
          refine OE.iload X34 hx hby at_553 rfl ?_
          refine OE.iconst X34 hx hby at_555 (-1 : Int32) rfl ?_
          refine OE.icmpNo X34 hx hby at_556 (flt (by decide : ¬ ((-1 : Int32) < (-1 : Int32)))).1 ?_
          refine OE.iconst X34 hx hby at_559 (1 : Int32) rfl ?_
          refine OE.goto X34 hx hby (pc' := 564) at_560 (h := ?_)
          refine OE.retN X34 hx (t := .boolean) Bd.returns (by simp) Bd.notSynchronized (hb hby at_564) (Nat.le_trans (Nat.add_le_add_right hcl1 5) (by decide)) (Nat.le_trans (Nat.add_le_add_right hsl1 6150) (by decide)) ?_
          rw [eq34]
          exact ⟨rfl, N34⟩
      · subst e28
        show OE _ p e below s _ _ _ T28 (mkF m 303 #[.val (.int p1), .val (.int p2), .val (.int p3), .val (.int p4), .val (.int cm), .val (.ref t), .val (.ref u), .val (.int (2 : Int32)), .val (.int sm), .val (.ref qa), .val (.int xa), .val (.int ya), .val (.int xb), .val (.int yb), .val (.int xc), .val (.int yc), .val (.int xq), .val (.int yq), .val (.ref b2), .val (.int (1 : Int32)), .val (.int (1 : Int32)), .val (.int (0 : Int32)), .val (.int (0 : Int32)), .val (.int (-1 : Int32)), .val (.int (-1 : Int32)), .val (.int (1 : Int32)), .unset, .unset] [(.int (0 : Int32))])
        refine OE.ifNo X28 hx hby at_303 (teq (by decide : (0 : Int32) = (0 : Int32))).2 ?_
        refine OE.iload X28 hx hby at_306 rfl ?_
        refine OE.ifNo X28 hx hby at_308 (feq (by decide : ¬ ((1 : Int32) = (0 : Int32)))).1 ?_
        refine OE.aload X28 hx hby at_311 rfl rfl ?_
        refine OE.aload X28 hx hby at_313 rfl rfl ?_
        refine OE.iload X28 hx hby at_315 rfl ?_
        refine OE.iload X28 hx hby at_317 rfl ?_
        obtain ⟨cq35, kq35, qa35, qb35, qc35⟩ := isOf hZ eq28 q25_0
        obtain ⟨_, _, ⟨T35, L35, k35, n35⟩, -, X35, ⟨Lc35, hQ35, l35, y35, z35⟩, st35⟩ := X28.virtualBack hx (y := (⟨"com/example/archerfish/archerfish/index/TokenTable", "add", "([CII)I"⟩ : MethodName)) (z := (⟨"com/example/archerfish/archerfish/index/TokenTable", "add", "([CII)I"⟩ : MethodName)) hown (mvT hZ (hw _ (List.mem_of_getElem? (i := 26) rfl))) (mvT hZ (hw _ (List.mem_of_getElem? (i := 27) rfl))) (notFace_of_selects (args := #[]) (mvT hZ (hw _ (List.mem_of_getElem? (i := 29) rfl)))) (mvT hZ (hw _ (List.mem_of_getElem? (i := 29) rfl))) (mvT hZ (hw _ (List.mem_of_getElem? (i := 28) rfl))) (by decide) (backOf (W := 0) (own_rm5 l Z a0 hw [] b2 t xb yb r4_sl r4_ha r4_st r4_ch r4_ksl r4_kha r4_kst r4_kch kt r25_S1 r25_vsH1 r25_vsS1 r25_vsC1 tl ([(own_sl tl xa ya)] : List (List Int32)) r25_F1 (1 : Int32) (2 : Int32) T25.heap n0 z27 q25_0 q25_1 q25_2 q25_3 q25_4 q25_6 q25_7 q25_8 q25_9 f26 g_b2 g_r4_sl g_r4_ha g_r4_st g_r4_ch ne_b2_r4_sl ne_b2_r4_ha ne_b2_r4_st ne_b2_r4_ch h4_n_sl_ha h4_n_sl_st h4_n_sl_ch h4_n_ha_st h4_n_ha_ch h4_n_st_ch ne_t_r4_ch I25 htl hrB q25_5 (by decide : 1 ≤ 2) rfl (by decide)) hZ (hw _ (List.mem_of_getElem? (i := 30) rfl)) (hw _ (List.mem_of_getElem? (i := 10) rfl)) (by decide) (by decide)) qa35 qc35 (g := (mkF m 319 #[.val (.int p1), .val (.int p2), .val (.int p3), .val (.int p4), .val (.int cm), .val (.ref t), .val (.ref u), .val (.int (2 : Int32)), .val (.int sm), .val (.ref qa), .val (.int xa), .val (.int ya), .val (.int xb), .val (.int yb), .val (.int xc), .val (.int yc), .val (.int xq), .val (.int yq), .val (.ref b2), .val (.int (1 : Int32)), .val (.int (1 : Int32)), .val (.int (0 : Int32)), .val (.int (0 : Int32)), .val (.int (-1 : Int32)), .val (.int (-1 : Int32)), .val (.int (1 : Int32)), .unset, .unset] [(.int yb), (.int xb), (.ref t), (.ref b2)])) rfl (by rw [hml]; rfl) (Steps.refl _) (argsL := [(.ref t), (.int xb), (.int yb)]) (rest := []) (lenOf own_pd0 rfl) rfl (by show 2 * 0 + _ ≤ _; exact Nat.le_of_eq rfl) (hb hby at_319) (fun _ _ => ⟨rfl, eq28, (Nat.le_trans (Nat.add_le_add_right (Nat.add_le_add_right hcl1 5) 0) (by decide)), (Nat.le_trans (Nat.add_le_add_right (Nat.add_le_add_right hsl1 6150) 0) (by decide))⟩)
        dsimp only [Pt.U, Pt.locs, Pt.cells, Pt.slots] at X35 l35 y35 z35 st35 hQ35
        have yc35 : cells1 + 5 = k35 := y35.symm
        have zc35 : slots1 + 6150 = n35 := z35.symm
        have lc35 := l35.symm
        subst lc35 yc35 zc35
        obtain ⟨r35_vsS1, r35_vsH1, r35_vsC1, r35_S1, r35_F1, rfl, Nq35, K35, q35_0, q35_1, q35_2, q35_3, q35_4, q35_5, q35_6, q35_7, q35_8, q35_9, h35_hI⟩ := hQ35
        refine OE.of (fun _ k => st35.trans k) ?_
        have N35 := Fr.app N28 Nq35
        show OE _ p e below s _ _ _ T35 (mkF m 322 #[.val (.int p1), .val (.int p2), .val (.int p3), .val (.int p4), .val (.int cm), .val (.ref t), .val (.ref u), .val (.int (2 : Int32)), .val (.int sm), .val (.ref qa), .val (.int xa), .val (.int ya), .val (.int xb), .val (.int yb), .val (.int xc), .val (.int yc), .val (.int xq), .val (.int yq), .val (.ref b2), .val (.int (1 : Int32)), .val (.int (1 : Int32)), .val (.int (0 : Int32)), .val (.int (0 : Int32)), .val (.int (-1 : Int32)), .val (.int (-1 : Int32)), .val (.int (1 : Int32)), .unset, .unset] [(.int (1 : Int32))])
        have I35 : own_inv [(own_sl tl xa ya), (own_sl tl xb yb)] r35_vsS1 r35_vsH1 r35_vsC1 r35_S1 r35_F1 := h35_hI
        refine OE.iload X35 hx hby at_322 rfl ?_
        refine OE.icmpNo X35 hx hby at_324 (teq (by decide : (1 : Int32) = (1 : Int32))).2 ?_
        refine OE.iconst X35 hx hby at_327 (1 : Int32) rfl ?_
        refine OE.goto X35 hx hby (pc' := 332) at_328 (h := ?_)
        refine OE.istore X35 hx hby at_332 (l' := #[.val (.int p1), .val (.int p2), .val (.int p3), .val (.int p4), .val (.int cm), .val (.ref t), .val (.ref u), .val (.int (2 : Int32)), .val (.int sm), .val (.ref qa), .val (.int xa), .val (.int ya), .val (.int xb), .val (.int yb), .val (.int xc), .val (.int yc), .val (.int xq), .val (.int yq), .val (.ref b2), .val (.int (1 : Int32)), .val (.int (1 : Int32)), .val (.int (0 : Int32)), .val (.int (0 : Int32)), .val (.int (-1 : Int32)), .val (.int (-1 : Int32)), .val (.int (1 : Int32)), .unset, .unset]) rfl ?_
        refine OE.iconst X35 hx hby at_334 (1 : Int32) rfl ?_
        refine OE.istore X35 hx hby at_335 (l' := #[.val (.int p1), .val (.int p2), .val (.int p3), .val (.int p4), .val (.int cm), .val (.ref t), .val (.ref u), .val (.int (2 : Int32)), .val (.int sm), .val (.ref qa), .val (.int xa), .val (.int ya), .val (.int xb), .val (.int yb), .val (.int xc), .val (.int yc), .val (.int xq), .val (.int yq), .val (.ref b2), .val (.int (1 : Int32)), .val (.int (1 : Int32)), .val (.int (1 : Int32)), .val (.int (0 : Int32)), .val (.int (-1 : Int32)), .val (.int (-1 : Int32)), .val (.int (1 : Int32)), .unset, .unset]) rfl ?_
        refine OE.iload X35 hx hby at_337 rfl ?_
        refine OE.istore X35 hx hby at_339 (l' := #[.val (.int p1), .val (.int p2), .val (.int p3), .val (.int p4), .val (.int cm), .val (.ref t), .val (.ref u), .val (.int (2 : Int32)), .val (.int sm), .val (.ref qa), .val (.int xa), .val (.int ya), .val (.int xb), .val (.int yb), .val (.int xc), .val (.int yc), .val (.int xq), .val (.int yq), .val (.ref b2), .val (.int (1 : Int32)), .val (.int (1 : Int32)), .val (.int (1 : Int32)), .val (.int (0 : Int32)), .val (.int (1 : Int32)), .val (.int (-1 : Int32)), .val (.int (1 : Int32)), .unset, .unset]) rfl ?_
        refine OE.iinc X35 hx hby at_341 rfl (l' := #[.val (.int p1), .val (.int p2), .val (.int p3), .val (.int p4), .val (.int cm), .val (.ref t), .val (.ref u), .val (.int (2 : Int32)), .val (.int sm), .val (.ref qa), .val (.int xa), .val (.int ya), .val (.int xb), .val (.int yb), .val (.int xc), .val (.int yc), .val (.int xq), .val (.int yq), .val (.ref b2), .val (.int (1 : Int32)), .val (.int (1 : Int32)), .val (.int (1 : Int32)), .val (.int (0 : Int32)), .val (.int (1 : Int32)), .val (.int (-1 : Int32)), .val (.int ((1 : Int32) + (1 : Int32))), .unset, .unset]) rfl ?_
        rw [(by decide : ((1 : Int32) + (1 : Int32)) = (2 : Int32))]
        refine OE.iload X35 hx hby at_344 rfl ?_
        refine OE.iconst X35 hx hby at_346 (3 : Int32) rfl ?_
        refine OE.icmpYes X35 hx hby (pc' := 429) at_347 (tlt (by decide : (2 : Int32) < (3 : Int32))).1 (h := ?_)
        refine OE.iconst X35 hx hby at_429 (-1 : Int32) rfl ?_
        refine OE.istore X35 hx hby at_430 (l' := #[.val (.int p1), .val (.int p2), .val (.int p3), .val (.int p4), .val (.int cm), .val (.ref t), .val (.ref u), .val (.int (2 : Int32)), .val (.int sm), .val (.ref qa), .val (.int xa), .val (.int ya), .val (.int xb), .val (.int yb), .val (.int xc), .val (.int yc), .val (.int xq), .val (.int yq), .val (.ref b2), .val (.int (1 : Int32)), .val (.int (1 : Int32)), .val (.int (1 : Int32)), .val (.int (0 : Int32)), .val (.int (1 : Int32)), .val (.int (-1 : Int32)), .val (.int (2 : Int32)), .val (.int (-1 : Int32)), .unset]) rfl ?_
        refine OE.iload X35 hx hby at_432 rfl ?_
        refine OE.ifNo X35 hx hby at_434 (feq (by decide : ¬ ((1 : Int32) = (0 : Int32)))).1 ?_
        refine OE.aload X35 hx hby at_437 rfl rfl ?_
        refine OE.iload X35 hx hby at_439 rfl ?_
        refine OE.iload X35 hx hby at_441 rfl ?_
        refine OE.aload X35 hx hby at_443 rfl rfl ?_
        refine OE.iload X35 hx hby at_445 rfl ?_
        refine OE.iload X35 hx hby at_447 rfl ?_
        have f36 : Arv Z T35.heap qa kq .char (4 : Int32) (List.map Value.int ql) (.int (0 : Int32)) := (((f5.keep K4 (ninS ne_qa_b2 nin0)).keep K25 (ninS ne_qa_b2 (ninS ne_qa_r4_sl (ninS ne_qa_r4_ha (ninS ne_qa_r4_st (ninS ne_qa_r4_ch nin0)))))).keep K35 (ninS ne_qa_b2 (ninS ne_qa_r4_sl (ninS ne_qa_r4_ha (ninS ne_qa_r4_st (ninS ne_qa_r4_ch nin0))))))
        have f37 : Arv Z T35.heap t kt .char (4 : Int32) (List.map Value.int tl) (.int (0 : Int32)) := (f26.keep K35 (ninS ne_t_b2 (ninS ne_t_r4_sl (ninS ne_t_r4_ha (ninS ne_t_r4_st (ninS ne_t_r4_ch nin0))))))
        have z38 : n0 ≤ T35.heap.size := (Nat.le_trans z27 K35.1)
        obtain ⟨_, _, ⟨T39, L39, k39, n39⟩, -, X39, ⟨Lc39, hQ39, l39, y39, z39⟩, st39⟩ := Jvm.LawKit.callS X35 hx (y := (⟨"com/example/archerfish/archerfish/index/TokenTableFindPinLaw", "eq", "([CII[CII)Z"⟩ : MethodName)) hown (mvT hZ (hw _ (List.mem_of_getElem? (i := 46) rfl))) (mvT hZ (hw _ (List.mem_of_getElem? (i := 47) rfl))) (mvT hZ (hw _ (List.mem_of_getElem? (i := 3) rfl))) (mvT hZ (hw _ (List.mem_of_getElem? (i := 48) rfl))) (by decide) (backOf (W := 0) (own_rm8 l Z a0 hw [] qa xq yq t xa ya ql tl kq kt T35.heap n0 z38 f36 f37 hql htl hrQ hrA) hZ (hw _ (List.mem_of_getElem? (i := 48) rfl)) (hw _ (List.mem_of_getElem? (i := 3) rfl)) (by decide) (by decide)) (g := (mkF m 449 #[.val (.int p1), .val (.int p2), .val (.int p3), .val (.int p4), .val (.int cm), .val (.ref t), .val (.ref u), .val (.int (2 : Int32)), .val (.int sm), .val (.ref qa), .val (.int xa), .val (.int ya), .val (.int xb), .val (.int yb), .val (.int xc), .val (.int yc), .val (.int xq), .val (.int yq), .val (.ref b2), .val (.int (1 : Int32)), .val (.int (1 : Int32)), .val (.int (1 : Int32)), .val (.int (0 : Int32)), .val (.int (1 : Int32)), .val (.int (-1 : Int32)), .val (.int (2 : Int32)), .val (.int (-1 : Int32)), .unset] [(.int ya), (.int xa), (.ref t), (.int yq), (.int xq), (.ref qa)])) rfl (by rw [hml]; rfl) (argsL := [(.ref qa), (.int xq), (.int yq), (.ref t), (.int xa), (.int ya)]) (rest := []) (lenOf own_pd5 rfl) rfl (by show 2 * 0 + _ ≤ _; exact Nat.le_of_eq rfl) (hb hby at_449) (fun _ _ => ⟨rfl, rfl, (Nat.le_trans (Nat.add_le_add_right (Nat.add_le_add_right hcl1 5) 0) (by decide)), (Nat.le_trans (Nat.add_le_add_right (Nat.add_le_add_right hsl1 6150) 0) (by decide))⟩)
        dsimp only [Pt.U, Pt.locs, Pt.cells, Pt.slots] at X39 l39 y39 z39 st39 hQ39
        have yc39 : cells1 + 5 = k39 := y39.symm
        have zc39 : slots1 + 6150 = n39 := z39.symm
        have lc39 := l39.symm
        subst lc39 yc39 zc39
        obtain ⟨r39_r, rfl, Nq39, eq39, h39_hr⟩ := hQ39
        refine OE.of (fun _ k => st39 _ k) ?_
        have N39 := Fr.app N35 Nq39
        show OE _ p e below s _ _ _ T39 (mkF m 452 #[.val (.int p1), .val (.int p2), .val (.int p3), .val (.int p4), .val (.int cm), .val (.ref t), .val (.ref u), .val (.int (2 : Int32)), .val (.int sm), .val (.ref qa), .val (.int xa), .val (.int ya), .val (.int xb), .val (.int yb), .val (.int xc), .val (.int yc), .val (.int xq), .val (.int yq), .val (.ref b2), .val (.int (1 : Int32)), .val (.int (1 : Int32)), .val (.int (1 : Int32)), .val (.int (0 : Int32)), .val (.int (1 : Int32)), .val (.int (-1 : Int32)), .val (.int (2 : Int32)), .val (.int (-1 : Int32)), .unset] [(.int r39_r)])
        rcases h39_hr with ⟨e39, d39⟩ | ⟨e39, d39⟩
        · subst e39
          show OE _ p e below s _ _ _ T39 (mkF m 452 #[.val (.int p1), .val (.int p2), .val (.int p3), .val (.int p4), .val (.int cm), .val (.ref t), .val (.ref u), .val (.int (2 : Int32)), .val (.int sm), .val (.ref qa), .val (.int xa), .val (.int ya), .val (.int xb), .val (.int yb), .val (.int xc), .val (.int yc), .val (.int xq), .val (.int yq), .val (.ref b2), .val (.int (1 : Int32)), .val (.int (1 : Int32)), .val (.int (1 : Int32)), .val (.int (0 : Int32)), .val (.int (1 : Int32)), .val (.int (-1 : Int32)), .val (.int (2 : Int32)), .val (.int (-1 : Int32)), .unset] [(.int (1 : Int32))])
          refine OE.ifNo X39 hx hby at_452 (feq (by decide : ¬ ((1 : Int32) = (0 : Int32)))).1 ?_
          refine OE.iconst X39 hx hby at_455 (0 : Int32) rfl ?_
          refine OE.istore X39 hx hby at_456 (l' := #[.val (.int p1), .val (.int p2), .val (.int p3), .val (.int p4), .val (.int cm), .val (.ref t), .val (.ref u), .val (.int (2 : Int32)), .val (.int sm), .val (.ref qa), .val (.int xa), .val (.int ya), .val (.int xb), .val (.int yb), .val (.int xc), .val (.int yc), .val (.int xq), .val (.int yq), .val (.ref b2), .val (.int (1 : Int32)), .val (.int (1 : Int32)), .val (.int (1 : Int32)), .val (.int (0 : Int32)), .val (.int (1 : Int32)), .val (.int (-1 : Int32)), .val (.int (2 : Int32)), .val (.int (0 : Int32)), .unset]) rfl ?_
          refine OE.goto X39 hx hby (pc' := 518) at_458 (h := ?_)
          refine OE.aload X39 hx hby at_518 rfl rfl ?_
          refine OE.aload X39 hx hby at_520 rfl rfl ?_
          refine OE.iload X39 hx hby at_522 rfl ?_
          refine OE.iload X39 hx hby at_524 rfl ?_
          obtain ⟨cq40, kq40, qa40, qb40, qc40⟩ := isOf hZ eq39 q35_0
          obtain ⟨_, _, ⟨T40, L40, k40, n40⟩, -, X40, ⟨Lc40, hQ40, l40, y40, z40⟩, st40⟩ := X39.virtualBack hx (y := (⟨"com/example/archerfish/archerfish/index/TokenTable", "find", "([CII)I"⟩ : MethodName)) (z := (⟨"com/example/archerfish/archerfish/index/TokenTable", "find", "([CII)I"⟩ : MethodName)) hown (mvT hZ (hw _ (List.mem_of_getElem? (i := 49) rfl))) (mvT hZ (hw _ (List.mem_of_getElem? (i := 50) rfl))) (notFace_of_selects (args := #[]) (mvT hZ (hw _ (List.mem_of_getElem? (i := 52) rfl)))) (mvT hZ (hw _ (List.mem_of_getElem? (i := 52) rfl))) (mvT hZ (hw _ (List.mem_of_getElem? (i := 51) rfl))) (by decide) (backOf (W := 0) (own_rm9 l Z a0 hw [] b2 qa xq yq r4_sl r4_ha r4_st r4_ch r4_ksl r4_kha r4_kst r4_kch kq r35_S1 r35_vsH1 r35_vsS1 r35_vsC1 ql ([(own_sl tl xa ya), (own_sl tl xb yb)] : List (List Int32)) r35_F1 T35.heap n0 z38 q35_0 q35_1 q35_2 q35_3 q35_4 q35_6 q35_7 q35_8 q35_9 f36 I35 hql hrQ (by decide : 2 ≤ 3)) hZ (hw _ (List.mem_of_getElem? (i := 53) rfl)) (hw _ (List.mem_of_getElem? (i := 10) rfl)) (by decide) (by decide)) qa40 qc40 (g := (mkF m 526 #[.val (.int p1), .val (.int p2), .val (.int p3), .val (.int p4), .val (.int cm), .val (.ref t), .val (.ref u), .val (.int (2 : Int32)), .val (.int sm), .val (.ref qa), .val (.int xa), .val (.int ya), .val (.int xb), .val (.int yb), .val (.int xc), .val (.int yc), .val (.int xq), .val (.int yq), .val (.ref b2), .val (.int (1 : Int32)), .val (.int (1 : Int32)), .val (.int (1 : Int32)), .val (.int (0 : Int32)), .val (.int (1 : Int32)), .val (.int (-1 : Int32)), .val (.int (2 : Int32)), .val (.int (0 : Int32)), .unset] [(.int yq), (.int xq), (.ref qa), (.ref b2)])) rfl (by rw [hml]; rfl) (Steps.refl _) (argsL := [(.ref qa), (.int xq), (.int yq)]) (rest := []) (lenOf own_pd0 rfl) rfl (by show 2 * 0 + _ ≤ _; exact Nat.le_of_eq rfl) (hb hby at_526) (fun _ _ => ⟨rfl, eq39, (Nat.le_trans (Nat.add_le_add_right (Nat.add_le_add_right hcl1 5) 0) (by decide)), (Nat.le_trans (Nat.add_le_add_right (Nat.add_le_add_right hsl1 6150) 0) (by decide))⟩)
          dsimp only [Pt.U, Pt.locs, Pt.cells, Pt.slots] at X40 l40 y40 z40 st40 hQ40
          have yc40 : cells1 + 5 = k40 := y40.symm
          have zc40 : slots1 + 6150 = n40 := z40.symm
          have lc40 := l40.symm
          subst lc40 yc40 zc40
          obtain ⟨r40_r, rfl, Nq40, eq40, h40_hr⟩ := hQ40
          refine OE.of (fun _ k => st40.trans k) ?_
          have N40 := Fr.app N39 Nq40
          show OE _ p e below s _ _ _ T40 (mkF m 529 #[.val (.int p1), .val (.int p2), .val (.int p3), .val (.int p4), .val (.int cm), .val (.ref t), .val (.ref u), .val (.int (2 : Int32)), .val (.int sm), .val (.ref qa), .val (.int xa), .val (.int ya), .val (.int xb), .val (.int yb), .val (.int xc), .val (.int yc), .val (.int xq), .val (.int yq), .val (.ref b2), .val (.int (1 : Int32)), .val (.int (1 : Int32)), .val (.int (1 : Int32)), .val (.int (0 : Int32)), .val (.int (1 : Int32)), .val (.int (-1 : Int32)), .val (.int (2 : Int32)), .val (.int (0 : Int32)), .unset] [(.int r40_r)])
          refine OE.istore X40 hx hby at_529 (l' := #[.val (.int p1), .val (.int p2), .val (.int p3), .val (.int p4), .val (.int cm), .val (.ref t), .val (.ref u), .val (.int (2 : Int32)), .val (.int sm), .val (.ref qa), .val (.int xa), .val (.int ya), .val (.int xb), .val (.int yb), .val (.int xc), .val (.int yc), .val (.int xq), .val (.int yq), .val (.ref b2), .val (.int (1 : Int32)), .val (.int (1 : Int32)), .val (.int (1 : Int32)), .val (.int (0 : Int32)), .val (.int (1 : Int32)), .val (.int (-1 : Int32)), .val (.int (2 : Int32)), .val (.int (0 : Int32)), .val (.int r40_r)]) rfl ?_
          refine OE.iload X40 hx hby at_531 rfl ?_
          refine OE.ifNo X40 hx hby at_533 (feq (by decide : ¬ ((1 : Int32) = (0 : Int32)))).1 ?_
          refine OE.aload X40 hx hby at_536 rfl rfl ?_
          obtain ⟨cq41, kq41, qa41, qb41, qc41⟩ := isOf hZ eq40 q35_0
          obtain ⟨_, _, ⟨T41, L41, k41, n41⟩, -, X41, ⟨Lc41, hQ41, l41, y41, z41⟩, st41⟩ := X40.virtualBack hx (y := (⟨"com/example/archerfish/archerfish/index/TokenTable", "size", "()I"⟩ : MethodName)) (z := (⟨"com/example/archerfish/archerfish/index/TokenTable", "size", "()I"⟩ : MethodName)) hown (mvT hZ (hw _ (List.mem_of_getElem? (i := 58) rfl))) (mvT hZ (hw _ (List.mem_of_getElem? (i := 59) rfl))) (notFace_of_selects (args := #[]) (mvT hZ (hw _ (List.mem_of_getElem? (i := 61) rfl)))) (mvT hZ (hw _ (List.mem_of_getElem? (i := 61) rfl))) (mvT hZ (hw _ (List.mem_of_getElem? (i := 60) rfl))) (by decide) (backOf (W := 0) (own_rm11 l Z a0 hw [] b2 (2 : Int32) T35.heap n0 z38 q35_5) hZ (hw _ (List.mem_of_getElem? (i := 62) rfl)) (hw _ (List.mem_of_getElem? (i := 10) rfl)) (by decide) (by decide)) qa41 qc41 (g := (mkF m 538 #[.val (.int p1), .val (.int p2), .val (.int p3), .val (.int p4), .val (.int cm), .val (.ref t), .val (.ref u), .val (.int (2 : Int32)), .val (.int sm), .val (.ref qa), .val (.int xa), .val (.int ya), .val (.int xb), .val (.int yb), .val (.int xc), .val (.int yc), .val (.int xq), .val (.int yq), .val (.ref b2), .val (.int (1 : Int32)), .val (.int (1 : Int32)), .val (.int (1 : Int32)), .val (.int (0 : Int32)), .val (.int (1 : Int32)), .val (.int (-1 : Int32)), .val (.int (2 : Int32)), .val (.int (0 : Int32)), .val (.int r40_r)] [(.ref b2)])) rfl (by rw [hml]; rfl) (Steps.refl _) (argsL := []) (rest := []) (lenOf own_pd4 rfl) rfl (by show 2 * 0 + _ ≤ _; exact Nat.le_of_eq rfl) (hb hby at_538) (fun _ _ => ⟨rfl, eq40, (Nat.le_trans (Nat.add_le_add_right (Nat.add_le_add_right hcl1 5) 0) (by decide)), (Nat.le_trans (Nat.add_le_add_right (Nat.add_le_add_right hsl1 6150) 0) (by decide))⟩)
          dsimp only [Pt.U, Pt.locs, Pt.cells, Pt.slots] at X41 l41 y41 z41 st41 hQ41
          have yc41 : cells1 + 5 = k41 := y41.symm
          have zc41 : slots1 + 6150 = n41 := z41.symm
          have lc41 := l41.symm
          subst lc41 yc41 zc41
          obtain ⟨rfl, Nq41, eq41⟩ := hQ41
          refine OE.of (fun _ k => st41.trans k) ?_
          have N41 := Fr.app N40 Nq41
          show OE _ p e below s _ _ _ T41 (mkF m 541 #[.val (.int p1), .val (.int p2), .val (.int p3), .val (.int p4), .val (.int cm), .val (.ref t), .val (.ref u), .val (.int (2 : Int32)), .val (.int sm), .val (.ref qa), .val (.int xa), .val (.int ya), .val (.int xb), .val (.int yb), .val (.int xc), .val (.int yc), .val (.int xq), .val (.int yq), .val (.ref b2), .val (.int (1 : Int32)), .val (.int (1 : Int32)), .val (.int (1 : Int32)), .val (.int (0 : Int32)), .val (.int (1 : Int32)), .val (.int (-1 : Int32)), .val (.int (2 : Int32)), .val (.int (0 : Int32)), .val (.int r40_r)] [(.int (2 : Int32))])
          refine OE.iload X41 hx hby at_541 rfl ?_
          refine OE.icmpNo X41 hx hby at_543 (teq (by decide : (2 : Int32) = (2 : Int32))).2 ?_
          refine OE.iload X41 hx hby at_546 rfl ?_
          refine OE.iload X41 hx hby at_548 rfl ?_
          refine OE.icmpNo X41 hx hby at_550 (teq (own_f2a h40_hr d28  d39 : r40_r = (0 : Int32))).2 ?_
          refine OE.iload X41 hx hby at_553 rfl ?_
          refine OE.iconst X41 hx hby at_555 (-1 : Int32) rfl ?_
          refine OE.icmpNo X41 hx hby at_556 (flt (by decide : ¬ ((0 : Int32) < (-1 : Int32)))).1 ?_
          refine OE.iconst X41 hx hby at_559 (1 : Int32) rfl ?_
          refine OE.goto X41 hx hby (pc' := 564) at_560 (h := ?_)
          refine OE.retN X41 hx (t := .boolean) Bd.returns (by simp) Bd.notSynchronized (hb hby at_564) (Nat.le_trans (Nat.add_le_add_right hcl1 5) (by decide)) (Nat.le_trans (Nat.add_le_add_right hsl1 6150) (by decide)) ?_
          rw [eq41]
          exact ⟨rfl, N41⟩
        · subst e39
          show OE _ p e below s _ _ _ T39 (mkF m 452 #[.val (.int p1), .val (.int p2), .val (.int p3), .val (.int p4), .val (.int cm), .val (.ref t), .val (.ref u), .val (.int (2 : Int32)), .val (.int sm), .val (.ref qa), .val (.int xa), .val (.int ya), .val (.int xb), .val (.int yb), .val (.int xc), .val (.int yc), .val (.int xq), .val (.int yq), .val (.ref b2), .val (.int (1 : Int32)), .val (.int (1 : Int32)), .val (.int (1 : Int32)), .val (.int (0 : Int32)), .val (.int (1 : Int32)), .val (.int (-1 : Int32)), .val (.int (2 : Int32)), .val (.int (-1 : Int32)), .unset] [(.int (0 : Int32))])
          refine OE.ifYes X39 hx hby (pc' := 461) at_452 (teq (by decide : (0 : Int32) = (0 : Int32))).1 (h := ?_)
          refine OE.iload X39 hx hby at_461 rfl ?_
          refine OE.ifNo X39 hx hby at_463 (feq (by decide : ¬ ((1 : Int32) = (0 : Int32)))).1 ?_
          refine OE.aload X39 hx hby at_466 rfl rfl ?_
          refine OE.iload X39 hx hby at_468 rfl ?_
          refine OE.iload X39 hx hby at_470 rfl ?_
          refine OE.aload X39 hx hby at_472 rfl rfl ?_
          refine OE.iload X39 hx hby at_474 rfl ?_
          refine OE.iload X39 hx hby at_476 rfl ?_
          obtain ⟨_, _, ⟨T42, L42, k42, n42⟩, -, X42, ⟨Lc42, hQ42, l42, y42, z42⟩, st42⟩ := Jvm.LawKit.callS X39 hx (y := (⟨"com/example/archerfish/archerfish/index/TokenTableFindPinLaw", "eq", "([CII[CII)Z"⟩ : MethodName)) hown (mvT hZ (hw _ (List.mem_of_getElem? (i := 46) rfl))) (mvT hZ (hw _ (List.mem_of_getElem? (i := 47) rfl))) (mvT hZ (hw _ (List.mem_of_getElem? (i := 3) rfl))) (mvT hZ (hw _ (List.mem_of_getElem? (i := 48) rfl))) (by decide) (backOf (W := 0) (own_rm8 l Z a0 hw [] qa xq yq t xb yb ql tl kq kt T35.heap n0 z38 f36 f37 hql htl hrQ hrB) hZ (hw _ (List.mem_of_getElem? (i := 48) rfl)) (hw _ (List.mem_of_getElem? (i := 3) rfl)) (by decide) (by decide)) (g := (mkF m 478 #[.val (.int p1), .val (.int p2), .val (.int p3), .val (.int p4), .val (.int cm), .val (.ref t), .val (.ref u), .val (.int (2 : Int32)), .val (.int sm), .val (.ref qa), .val (.int xa), .val (.int ya), .val (.int xb), .val (.int yb), .val (.int xc), .val (.int yc), .val (.int xq), .val (.int yq), .val (.ref b2), .val (.int (1 : Int32)), .val (.int (1 : Int32)), .val (.int (1 : Int32)), .val (.int (0 : Int32)), .val (.int (1 : Int32)), .val (.int (-1 : Int32)), .val (.int (2 : Int32)), .val (.int (-1 : Int32)), .unset] [(.int yb), (.int xb), (.ref t), (.int yq), (.int xq), (.ref qa)])) rfl (by rw [hml]; rfl) (argsL := [(.ref qa), (.int xq), (.int yq), (.ref t), (.int xb), (.int yb)]) (rest := []) (lenOf own_pd5 rfl) rfl (by show 2 * 0 + _ ≤ _; exact Nat.le_of_eq rfl) (hb hby at_478) (fun _ _ => ⟨rfl, eq39, (Nat.le_trans (Nat.add_le_add_right (Nat.add_le_add_right hcl1 5) 0) (by decide)), (Nat.le_trans (Nat.add_le_add_right (Nat.add_le_add_right hsl1 6150) 0) (by decide))⟩)
          dsimp only [Pt.U, Pt.locs, Pt.cells, Pt.slots] at X42 l42 y42 z42 st42 hQ42
          have yc42 : cells1 + 5 = k42 := y42.symm
          have zc42 : slots1 + 6150 = n42 := z42.symm
          have lc42 := l42.symm
          subst lc42 yc42 zc42
          obtain ⟨r42_r, rfl, Nq42, eq42, h42_hr⟩ := hQ42
          refine OE.of (fun _ k => st42 _ k) ?_
          have N42 := Fr.app N39 Nq42
          show OE _ p e below s _ _ _ T42 (mkF m 481 #[.val (.int p1), .val (.int p2), .val (.int p3), .val (.int p4), .val (.int cm), .val (.ref t), .val (.ref u), .val (.int (2 : Int32)), .val (.int sm), .val (.ref qa), .val (.int xa), .val (.int ya), .val (.int xb), .val (.int yb), .val (.int xc), .val (.int yc), .val (.int xq), .val (.int yq), .val (.ref b2), .val (.int (1 : Int32)), .val (.int (1 : Int32)), .val (.int (1 : Int32)), .val (.int (0 : Int32)), .val (.int (1 : Int32)), .val (.int (-1 : Int32)), .val (.int (2 : Int32)), .val (.int (-1 : Int32)), .unset] [(.int r42_r)])
          rcases h42_hr with ⟨e42, d42⟩ | ⟨e42, d42⟩
          · subst e42
            show OE _ p e below s _ _ _ T42 (mkF m 481 #[.val (.int p1), .val (.int p2), .val (.int p3), .val (.int p4), .val (.int cm), .val (.ref t), .val (.ref u), .val (.int (2 : Int32)), .val (.int sm), .val (.ref qa), .val (.int xa), .val (.int ya), .val (.int xb), .val (.int yb), .val (.int xc), .val (.int yc), .val (.int xq), .val (.int yq), .val (.ref b2), .val (.int (1 : Int32)), .val (.int (1 : Int32)), .val (.int (1 : Int32)), .val (.int (0 : Int32)), .val (.int (1 : Int32)), .val (.int (-1 : Int32)), .val (.int (2 : Int32)), .val (.int (-1 : Int32)), .unset] [(.int (1 : Int32))])
            refine OE.ifNo X42 hx hby at_481 (feq (by decide : ¬ ((1 : Int32) = (0 : Int32)))).1 ?_
            refine OE.iload X42 hx hby at_484 rfl ?_
            refine OE.istore X42 hx hby at_486 (l' := #[.val (.int p1), .val (.int p2), .val (.int p3), .val (.int p4), .val (.int cm), .val (.ref t), .val (.ref u), .val (.int (2 : Int32)), .val (.int sm), .val (.ref qa), .val (.int xa), .val (.int ya), .val (.int xb), .val (.int yb), .val (.int xc), .val (.int yc), .val (.int xq), .val (.int yq), .val (.ref b2), .val (.int (1 : Int32)), .val (.int (1 : Int32)), .val (.int (1 : Int32)), .val (.int (0 : Int32)), .val (.int (1 : Int32)), .val (.int (-1 : Int32)), .val (.int (2 : Int32)), .val (.int (1 : Int32)), .unset]) rfl ?_
            refine OE.goto X42 hx hby (pc' := 518) at_488 (h := ?_)
            refine OE.aload X42 hx hby at_518 rfl rfl ?_
            refine OE.aload X42 hx hby at_520 rfl rfl ?_
            refine OE.iload X42 hx hby at_522 rfl ?_
            refine OE.iload X42 hx hby at_524 rfl ?_
            obtain ⟨cq43, kq43, qa43, qb43, qc43⟩ := isOf hZ eq42 q35_0
            obtain ⟨_, _, ⟨T43, L43, k43, n43⟩, -, X43, ⟨Lc43, hQ43, l43, y43, z43⟩, st43⟩ := X42.virtualBack hx (y := (⟨"com/example/archerfish/archerfish/index/TokenTable", "find", "([CII)I"⟩ : MethodName)) (z := (⟨"com/example/archerfish/archerfish/index/TokenTable", "find", "([CII)I"⟩ : MethodName)) hown (mvT hZ (hw _ (List.mem_of_getElem? (i := 49) rfl))) (mvT hZ (hw _ (List.mem_of_getElem? (i := 50) rfl))) (notFace_of_selects (args := #[]) (mvT hZ (hw _ (List.mem_of_getElem? (i := 52) rfl)))) (mvT hZ (hw _ (List.mem_of_getElem? (i := 52) rfl))) (mvT hZ (hw _ (List.mem_of_getElem? (i := 51) rfl))) (by decide) (backOf (W := 0) (own_rm9 l Z a0 hw [] b2 qa xq yq r4_sl r4_ha r4_st r4_ch r4_ksl r4_kha r4_kst r4_kch kq r35_S1 r35_vsH1 r35_vsS1 r35_vsC1 ql ([(own_sl tl xa ya), (own_sl tl xb yb)] : List (List Int32)) r35_F1 T35.heap n0 z38 q35_0 q35_1 q35_2 q35_3 q35_4 q35_6 q35_7 q35_8 q35_9 f36 I35 hql hrQ (by decide : 2 ≤ 3)) hZ (hw _ (List.mem_of_getElem? (i := 53) rfl)) (hw _ (List.mem_of_getElem? (i := 10) rfl)) (by decide) (by decide)) qa43 qc43 (g := (mkF m 526 #[.val (.int p1), .val (.int p2), .val (.int p3), .val (.int p4), .val (.int cm), .val (.ref t), .val (.ref u), .val (.int (2 : Int32)), .val (.int sm), .val (.ref qa), .val (.int xa), .val (.int ya), .val (.int xb), .val (.int yb), .val (.int xc), .val (.int yc), .val (.int xq), .val (.int yq), .val (.ref b2), .val (.int (1 : Int32)), .val (.int (1 : Int32)), .val (.int (1 : Int32)), .val (.int (0 : Int32)), .val (.int (1 : Int32)), .val (.int (-1 : Int32)), .val (.int (2 : Int32)), .val (.int (1 : Int32)), .unset] [(.int yq), (.int xq), (.ref qa), (.ref b2)])) rfl (by rw [hml]; rfl) (Steps.refl _) (argsL := [(.ref qa), (.int xq), (.int yq)]) (rest := []) (lenOf own_pd0 rfl) rfl (by show 2 * 0 + _ ≤ _; exact Nat.le_of_eq rfl) (hb hby at_526) (fun _ _ => ⟨rfl, eq42, (Nat.le_trans (Nat.add_le_add_right (Nat.add_le_add_right hcl1 5) 0) (by decide)), (Nat.le_trans (Nat.add_le_add_right (Nat.add_le_add_right hsl1 6150) 0) (by decide))⟩)
            dsimp only [Pt.U, Pt.locs, Pt.cells, Pt.slots] at X43 l43 y43 z43 st43 hQ43
            have yc43 : cells1 + 5 = k43 := y43.symm
            have zc43 : slots1 + 6150 = n43 := z43.symm
            have lc43 := l43.symm
            subst lc43 yc43 zc43
            obtain ⟨r43_r, rfl, Nq43, eq43, h43_hr⟩ := hQ43
            refine OE.of (fun _ k => st43.trans k) ?_
            have N43 := Fr.app N42 Nq43
            show OE _ p e below s _ _ _ T43 (mkF m 529 #[.val (.int p1), .val (.int p2), .val (.int p3), .val (.int p4), .val (.int cm), .val (.ref t), .val (.ref u), .val (.int (2 : Int32)), .val (.int sm), .val (.ref qa), .val (.int xa), .val (.int ya), .val (.int xb), .val (.int yb), .val (.int xc), .val (.int yc), .val (.int xq), .val (.int yq), .val (.ref b2), .val (.int (1 : Int32)), .val (.int (1 : Int32)), .val (.int (1 : Int32)), .val (.int (0 : Int32)), .val (.int (1 : Int32)), .val (.int (-1 : Int32)), .val (.int (2 : Int32)), .val (.int (1 : Int32)), .unset] [(.int r43_r)])
            refine OE.istore X43 hx hby at_529 (l' := #[.val (.int p1), .val (.int p2), .val (.int p3), .val (.int p4), .val (.int cm), .val (.ref t), .val (.ref u), .val (.int (2 : Int32)), .val (.int sm), .val (.ref qa), .val (.int xa), .val (.int ya), .val (.int xb), .val (.int yb), .val (.int xc), .val (.int yc), .val (.int xq), .val (.int yq), .val (.ref b2), .val (.int (1 : Int32)), .val (.int (1 : Int32)), .val (.int (1 : Int32)), .val (.int (0 : Int32)), .val (.int (1 : Int32)), .val (.int (-1 : Int32)), .val (.int (2 : Int32)), .val (.int (1 : Int32)), .val (.int r43_r)]) rfl ?_
            refine OE.iload X43 hx hby at_531 rfl ?_
            refine OE.ifNo X43 hx hby at_533 (feq (by decide : ¬ ((1 : Int32) = (0 : Int32)))).1 ?_
            refine OE.aload X43 hx hby at_536 rfl rfl ?_
            obtain ⟨cq44, kq44, qa44, qb44, qc44⟩ := isOf hZ eq43 q35_0
            obtain ⟨_, _, ⟨T44, L44, k44, n44⟩, -, X44, ⟨Lc44, hQ44, l44, y44, z44⟩, st44⟩ := X43.virtualBack hx (y := (⟨"com/example/archerfish/archerfish/index/TokenTable", "size", "()I"⟩ : MethodName)) (z := (⟨"com/example/archerfish/archerfish/index/TokenTable", "size", "()I"⟩ : MethodName)) hown (mvT hZ (hw _ (List.mem_of_getElem? (i := 58) rfl))) (mvT hZ (hw _ (List.mem_of_getElem? (i := 59) rfl))) (notFace_of_selects (args := #[]) (mvT hZ (hw _ (List.mem_of_getElem? (i := 61) rfl)))) (mvT hZ (hw _ (List.mem_of_getElem? (i := 61) rfl))) (mvT hZ (hw _ (List.mem_of_getElem? (i := 60) rfl))) (by decide) (backOf (W := 0) (own_rm11 l Z a0 hw [] b2 (2 : Int32) T35.heap n0 z38 q35_5) hZ (hw _ (List.mem_of_getElem? (i := 62) rfl)) (hw _ (List.mem_of_getElem? (i := 10) rfl)) (by decide) (by decide)) qa44 qc44 (g := (mkF m 538 #[.val (.int p1), .val (.int p2), .val (.int p3), .val (.int p4), .val (.int cm), .val (.ref t), .val (.ref u), .val (.int (2 : Int32)), .val (.int sm), .val (.ref qa), .val (.int xa), .val (.int ya), .val (.int xb), .val (.int yb), .val (.int xc), .val (.int yc), .val (.int xq), .val (.int yq), .val (.ref b2), .val (.int (1 : Int32)), .val (.int (1 : Int32)), .val (.int (1 : Int32)), .val (.int (0 : Int32)), .val (.int (1 : Int32)), .val (.int (-1 : Int32)), .val (.int (2 : Int32)), .val (.int (1 : Int32)), .val (.int r43_r)] [(.ref b2)])) rfl (by rw [hml]; rfl) (Steps.refl _) (argsL := []) (rest := []) (lenOf own_pd4 rfl) rfl (by show 2 * 0 + _ ≤ _; exact Nat.le_of_eq rfl) (hb hby at_538) (fun _ _ => ⟨rfl, eq43, (Nat.le_trans (Nat.add_le_add_right (Nat.add_le_add_right hcl1 5) 0) (by decide)), (Nat.le_trans (Nat.add_le_add_right (Nat.add_le_add_right hsl1 6150) 0) (by decide))⟩)
            dsimp only [Pt.U, Pt.locs, Pt.cells, Pt.slots] at X44 l44 y44 z44 st44 hQ44
            have yc44 : cells1 + 5 = k44 := y44.symm
            have zc44 : slots1 + 6150 = n44 := z44.symm
            have lc44 := l44.symm
            subst lc44 yc44 zc44
            obtain ⟨rfl, Nq44, eq44⟩ := hQ44
            refine OE.of (fun _ k => st44.trans k) ?_
            have N44 := Fr.app N43 Nq44
            show OE _ p e below s _ _ _ T44 (mkF m 541 #[.val (.int p1), .val (.int p2), .val (.int p3), .val (.int p4), .val (.int cm), .val (.ref t), .val (.ref u), .val (.int (2 : Int32)), .val (.int sm), .val (.ref qa), .val (.int xa), .val (.int ya), .val (.int xb), .val (.int yb), .val (.int xc), .val (.int yc), .val (.int xq), .val (.int yq), .val (.ref b2), .val (.int (1 : Int32)), .val (.int (1 : Int32)), .val (.int (1 : Int32)), .val (.int (0 : Int32)), .val (.int (1 : Int32)), .val (.int (-1 : Int32)), .val (.int (2 : Int32)), .val (.int (1 : Int32)), .val (.int r43_r)] [(.int (2 : Int32))])
            refine OE.iload X44 hx hby at_541 rfl ?_
            refine OE.icmpNo X44 hx hby at_543 (teq (by decide : (2 : Int32) = (2 : Int32))).2 ?_
            refine OE.iload X44 hx hby at_546 rfl ?_
            refine OE.iload X44 hx hby at_548 rfl ?_
            refine OE.icmpNo X44 hx hby at_550 (teq (own_f2b h43_hr  d39 d42 : r43_r = (1 : Int32))).2 ?_
            refine OE.iload X44 hx hby at_553 rfl ?_
            refine OE.iconst X44 hx hby at_555 (-1 : Int32) rfl ?_
            refine OE.icmpNo X44 hx hby at_556 (flt (by decide : ¬ ((1 : Int32) < (-1 : Int32)))).1 ?_
            refine OE.iconst X44 hx hby at_559 (1 : Int32) rfl ?_
            refine OE.goto X44 hx hby (pc' := 564) at_560 (h := ?_)
            refine OE.retN X44 hx (t := .boolean) Bd.returns (by simp) Bd.notSynchronized (hb hby at_564) (Nat.le_trans (Nat.add_le_add_right hcl1 5) (by decide)) (Nat.le_trans (Nat.add_le_add_right hsl1 6150) (by decide)) ?_
            rw [eq44]
            exact ⟨rfl, N44⟩
          · subst e42
            show OE _ p e below s _ _ _ T42 (mkF m 481 #[.val (.int p1), .val (.int p2), .val (.int p3), .val (.int p4), .val (.int cm), .val (.ref t), .val (.ref u), .val (.int (2 : Int32)), .val (.int sm), .val (.ref qa), .val (.int xa), .val (.int ya), .val (.int xb), .val (.int yb), .val (.int xc), .val (.int yc), .val (.int xq), .val (.int yq), .val (.ref b2), .val (.int (1 : Int32)), .val (.int (1 : Int32)), .val (.int (1 : Int32)), .val (.int (0 : Int32)), .val (.int (1 : Int32)), .val (.int (-1 : Int32)), .val (.int (2 : Int32)), .val (.int (-1 : Int32)), .unset] [(.int (0 : Int32))])
            refine OE.ifYes X42 hx hby (pc' := 491) at_481 (teq (by decide : (0 : Int32) = (0 : Int32))).1 (h := ?_)
            refine OE.iload X42 hx hby at_491 rfl ?_
            refine OE.ifYes X42 hx hby (pc' := 518) at_493 (teq (by decide : (0 : Int32) = (0 : Int32))).1 (h := ?_)
            refine OE.aload X42 hx hby at_518 rfl rfl ?_
            refine OE.aload X42 hx hby at_520 rfl rfl ?_
            refine OE.iload X42 hx hby at_522 rfl ?_
            refine OE.iload X42 hx hby at_524 rfl ?_
            obtain ⟨cq45, kq45, qa45, qb45, qc45⟩ := isOf hZ eq42 q35_0
            obtain ⟨_, _, ⟨T45, L45, k45, n45⟩, -, X45, ⟨Lc45, hQ45, l45, y45, z45⟩, st45⟩ := X42.virtualBack hx (y := (⟨"com/example/archerfish/archerfish/index/TokenTable", "find", "([CII)I"⟩ : MethodName)) (z := (⟨"com/example/archerfish/archerfish/index/TokenTable", "find", "([CII)I"⟩ : MethodName)) hown (mvT hZ (hw _ (List.mem_of_getElem? (i := 49) rfl))) (mvT hZ (hw _ (List.mem_of_getElem? (i := 50) rfl))) (notFace_of_selects (args := #[]) (mvT hZ (hw _ (List.mem_of_getElem? (i := 52) rfl)))) (mvT hZ (hw _ (List.mem_of_getElem? (i := 52) rfl))) (mvT hZ (hw _ (List.mem_of_getElem? (i := 51) rfl))) (by decide) (backOf (W := 0) (own_rm9 l Z a0 hw [] b2 qa xq yq r4_sl r4_ha r4_st r4_ch r4_ksl r4_kha r4_kst r4_kch kq r35_S1 r35_vsH1 r35_vsS1 r35_vsC1 ql ([(own_sl tl xa ya), (own_sl tl xb yb)] : List (List Int32)) r35_F1 T35.heap n0 z38 q35_0 q35_1 q35_2 q35_3 q35_4 q35_6 q35_7 q35_8 q35_9 f36 I35 hql hrQ (by decide : 2 ≤ 3)) hZ (hw _ (List.mem_of_getElem? (i := 53) rfl)) (hw _ (List.mem_of_getElem? (i := 10) rfl)) (by decide) (by decide)) qa45 qc45 (g := (mkF m 526 #[.val (.int p1), .val (.int p2), .val (.int p3), .val (.int p4), .val (.int cm), .val (.ref t), .val (.ref u), .val (.int (2 : Int32)), .val (.int sm), .val (.ref qa), .val (.int xa), .val (.int ya), .val (.int xb), .val (.int yb), .val (.int xc), .val (.int yc), .val (.int xq), .val (.int yq), .val (.ref b2), .val (.int (1 : Int32)), .val (.int (1 : Int32)), .val (.int (1 : Int32)), .val (.int (0 : Int32)), .val (.int (1 : Int32)), .val (.int (-1 : Int32)), .val (.int (2 : Int32)), .val (.int (-1 : Int32)), .unset] [(.int yq), (.int xq), (.ref qa), (.ref b2)])) rfl (by rw [hml]; rfl) (Steps.refl _) (argsL := [(.ref qa), (.int xq), (.int yq)]) (rest := []) (lenOf own_pd0 rfl) rfl (by show 2 * 0 + _ ≤ _; exact Nat.le_of_eq rfl) (hb hby at_526) (fun _ _ => ⟨rfl, eq42, (Nat.le_trans (Nat.add_le_add_right (Nat.add_le_add_right hcl1 5) 0) (by decide)), (Nat.le_trans (Nat.add_le_add_right (Nat.add_le_add_right hsl1 6150) 0) (by decide))⟩)
            dsimp only [Pt.U, Pt.locs, Pt.cells, Pt.slots] at X45 l45 y45 z45 st45 hQ45
            have yc45 : cells1 + 5 = k45 := y45.symm
            have zc45 : slots1 + 6150 = n45 := z45.symm
            have lc45 := l45.symm
            subst lc45 yc45 zc45
            obtain ⟨r45_r, rfl, Nq45, eq45, h45_hr⟩ := hQ45
            refine OE.of (fun _ k => st45.trans k) ?_
            have N45 := Fr.app N42 Nq45
            show OE _ p e below s _ _ _ T45 (mkF m 529 #[.val (.int p1), .val (.int p2), .val (.int p3), .val (.int p4), .val (.int cm), .val (.ref t), .val (.ref u), .val (.int (2 : Int32)), .val (.int sm), .val (.ref qa), .val (.int xa), .val (.int ya), .val (.int xb), .val (.int yb), .val (.int xc), .val (.int yc), .val (.int xq), .val (.int yq), .val (.ref b2), .val (.int (1 : Int32)), .val (.int (1 : Int32)), .val (.int (1 : Int32)), .val (.int (0 : Int32)), .val (.int (1 : Int32)), .val (.int (-1 : Int32)), .val (.int (2 : Int32)), .val (.int (-1 : Int32)), .unset] [(.int r45_r)])
            refine OE.istore X45 hx hby at_529 (l' := #[.val (.int p1), .val (.int p2), .val (.int p3), .val (.int p4), .val (.int cm), .val (.ref t), .val (.ref u), .val (.int (2 : Int32)), .val (.int sm), .val (.ref qa), .val (.int xa), .val (.int ya), .val (.int xb), .val (.int yb), .val (.int xc), .val (.int yc), .val (.int xq), .val (.int yq), .val (.ref b2), .val (.int (1 : Int32)), .val (.int (1 : Int32)), .val (.int (1 : Int32)), .val (.int (0 : Int32)), .val (.int (1 : Int32)), .val (.int (-1 : Int32)), .val (.int (2 : Int32)), .val (.int (-1 : Int32)), .val (.int r45_r)]) rfl ?_
            refine OE.iload X45 hx hby at_531 rfl ?_
            refine OE.ifNo X45 hx hby at_533 (feq (by decide : ¬ ((1 : Int32) = (0 : Int32)))).1 ?_
            refine OE.aload X45 hx hby at_536 rfl rfl ?_
            obtain ⟨cq46, kq46, qa46, qb46, qc46⟩ := isOf hZ eq45 q35_0
            obtain ⟨_, _, ⟨T46, L46, k46, n46⟩, -, X46, ⟨Lc46, hQ46, l46, y46, z46⟩, st46⟩ := X45.virtualBack hx (y := (⟨"com/example/archerfish/archerfish/index/TokenTable", "size", "()I"⟩ : MethodName)) (z := (⟨"com/example/archerfish/archerfish/index/TokenTable", "size", "()I"⟩ : MethodName)) hown (mvT hZ (hw _ (List.mem_of_getElem? (i := 58) rfl))) (mvT hZ (hw _ (List.mem_of_getElem? (i := 59) rfl))) (notFace_of_selects (args := #[]) (mvT hZ (hw _ (List.mem_of_getElem? (i := 61) rfl)))) (mvT hZ (hw _ (List.mem_of_getElem? (i := 61) rfl))) (mvT hZ (hw _ (List.mem_of_getElem? (i := 60) rfl))) (by decide) (backOf (W := 0) (own_rm11 l Z a0 hw [] b2 (2 : Int32) T35.heap n0 z38 q35_5) hZ (hw _ (List.mem_of_getElem? (i := 62) rfl)) (hw _ (List.mem_of_getElem? (i := 10) rfl)) (by decide) (by decide)) qa46 qc46 (g := (mkF m 538 #[.val (.int p1), .val (.int p2), .val (.int p3), .val (.int p4), .val (.int cm), .val (.ref t), .val (.ref u), .val (.int (2 : Int32)), .val (.int sm), .val (.ref qa), .val (.int xa), .val (.int ya), .val (.int xb), .val (.int yb), .val (.int xc), .val (.int yc), .val (.int xq), .val (.int yq), .val (.ref b2), .val (.int (1 : Int32)), .val (.int (1 : Int32)), .val (.int (1 : Int32)), .val (.int (0 : Int32)), .val (.int (1 : Int32)), .val (.int (-1 : Int32)), .val (.int (2 : Int32)), .val (.int (-1 : Int32)), .val (.int r45_r)] [(.ref b2)])) rfl (by rw [hml]; rfl) (Steps.refl _) (argsL := []) (rest := []) (lenOf own_pd4 rfl) rfl (by show 2 * 0 + _ ≤ _; exact Nat.le_of_eq rfl) (hb hby at_538) (fun _ _ => ⟨rfl, eq45, (Nat.le_trans (Nat.add_le_add_right (Nat.add_le_add_right hcl1 5) 0) (by decide)), (Nat.le_trans (Nat.add_le_add_right (Nat.add_le_add_right hsl1 6150) 0) (by decide))⟩)
            dsimp only [Pt.U, Pt.locs, Pt.cells, Pt.slots] at X46 l46 y46 z46 st46 hQ46
            have yc46 : cells1 + 5 = k46 := y46.symm
            have zc46 : slots1 + 6150 = n46 := z46.symm
            have lc46 := l46.symm
            subst lc46 yc46 zc46
            obtain ⟨rfl, Nq46, eq46⟩ := hQ46
            refine OE.of (fun _ k => st46.trans k) ?_
            have N46 := Fr.app N45 Nq46
            show OE _ p e below s _ _ _ T46 (mkF m 541 #[.val (.int p1), .val (.int p2), .val (.int p3), .val (.int p4), .val (.int cm), .val (.ref t), .val (.ref u), .val (.int (2 : Int32)), .val (.int sm), .val (.ref qa), .val (.int xa), .val (.int ya), .val (.int xb), .val (.int yb), .val (.int xc), .val (.int yc), .val (.int xq), .val (.int yq), .val (.ref b2), .val (.int (1 : Int32)), .val (.int (1 : Int32)), .val (.int (1 : Int32)), .val (.int (0 : Int32)), .val (.int (1 : Int32)), .val (.int (-1 : Int32)), .val (.int (2 : Int32)), .val (.int (-1 : Int32)), .val (.int r45_r)] [(.int (2 : Int32))])
            refine OE.iload X46 hx hby at_541 rfl ?_
            refine OE.icmpNo X46 hx hby at_543 (teq (by decide : (2 : Int32) = (2 : Int32))).2 ?_
            refine OE.iload X46 hx hby at_546 rfl ?_
            refine OE.iload X46 hx hby at_548 rfl ?_
            refine OE.icmpNo X46 hx hby at_550 (teq (own_f2n h45_hr d39 d42 : r45_r = (-1 : Int32))).2 ?_
            refine OE.iload X46 hx hby at_553 rfl ?_
            refine OE.iconst X46 hx hby at_555 (-1 : Int32) rfl ?_
            refine OE.icmpNo X46 hx hby at_556 (flt (by decide : ¬ ((-1 : Int32) < (-1 : Int32)))).1 ?_
            refine OE.iconst X46 hx hby at_559 (1 : Int32) rfl ?_
            refine OE.goto X46 hx hby (pc' := 564) at_560 (h := ?_)
            refine OE.retN X46 hx (t := .boolean) Bd.returns (by simp) Bd.notSynchronized (hb hby at_564) (Nat.le_trans (Nat.add_le_add_right hcl1 5) (by decide)) (Nat.le_trans (Nat.add_le_add_right hsl1 6150) (by decide)) ?_
            rw [eq46]
            exact ⟨rfl, N46⟩
    · skip
      show OE _ p e below s _ _ _ T4 (mkF m 244 #[.val (.int p1), .val (.int p2), .val (.int p3), .val (.int p4), .val (.int cm), .val (.ref t), .val (.ref u), .val (.int (3 : Int32)), .val (.int sm), .val (.ref qa), .val (.int xa), .val (.int ya), .val (.int xb), .val (.int yb), .val (.int xc), .val (.int yc), .val (.int xq), .val (.int yq), .val (.ref b2), .val (.int (1 : Int32)), .val (.int (0 : Int32)), .val (.int (0 : Int32)), .val (.int (0 : Int32)), .val (.int (-1 : Int32)), .val (.int (-1 : Int32)), .val (.int (0 : Int32)), .unset, .unset] [])
      refine OE.iload X4 hx hby at_244 rfl ?_
      refine OE.iconst X4 hx hby at_246 (1 : Int32) rfl ?_
      refine OE.icmpNo X4 hx hby at_247 (flt (by decide : ¬ ((3 : Int32) < (1 : Int32)))).1 ?_
      refine OE.iload X4 hx hby at_250 rfl ?_
      refine OE.ifNo X4 hx hby at_252 (feq (by decide : ¬ ((1 : Int32) = (0 : Int32)))).1 ?_
      refine OE.aload X4 hx hby at_255 rfl rfl ?_
      refine OE.aload X4 hx hby at_257 rfl rfl ?_
      refine OE.iload X4 hx hby at_259 rfl ?_
      refine OE.iload X4 hx hby at_261 rfl ?_
      have f47 : Arv Z T4.heap t kt .char (4 : Int32) (List.map Value.int tl) (.int (0 : Int32)) := (f6.keep K4 (ninS ne_t_b2 nin0))
      have z48 : n0 ≤ T4.heap.size := (Nat.le_trans z3 K4.1)
      obtain ⟨cq49, kq49, qa49, qb49, qc49⟩ := isOf hZ rfl q4_0
      obtain ⟨_, _, ⟨T49, L49, k49, n49⟩, -, X49, ⟨Lc49, hQ49, l49, y49, z49⟩, st49⟩ := X4.virtualBack hx (y := (⟨"com/example/archerfish/archerfish/index/TokenTable", "add", "([CII)I"⟩ : MethodName)) (z := (⟨"com/example/archerfish/archerfish/index/TokenTable", "add", "([CII)I"⟩ : MethodName)) hown (mvT hZ (hw _ (List.mem_of_getElem? (i := 26) rfl))) (mvT hZ (hw _ (List.mem_of_getElem? (i := 27) rfl))) (notFace_of_selects (args := #[]) (mvT hZ (hw _ (List.mem_of_getElem? (i := 29) rfl)))) (mvT hZ (hw _ (List.mem_of_getElem? (i := 29) rfl))) (mvT hZ (hw _ (List.mem_of_getElem? (i := 28) rfl))) (by decide) (backOf (W := 0) (own_rm5 l Z a0 hw [] b2 t xa ya r4_sl r4_ha r4_st r4_ch r4_ksl r4_kha r4_kst r4_kch kt (List.replicate 1024 (0 : Int32)) (List.replicate 512 (.int (0 : Int32))) (List.replicate 513 (.int (0 : Int32))) (List.replicate 4096 (.int (0 : Int32))) tl ([] : List (List Int32)) (0 : Int32) (0 : Int32) (1 : Int32) T4.heap n0 z48 q4_0 q4_1 q4_2 q4_3 q4_4 q4_6 q4_7 q4_8 q4_9 f47 g_b2 g_r4_sl g_r4_ha g_r4_st g_r4_ch ne_b2_r4_sl ne_b2_r4_ha ne_b2_r4_st ne_b2_r4_ch h4_n_sl_ha h4_n_sl_st h4_n_sl_ch h4_n_ha_st h4_n_ha_ch h4_n_st_ch ne_t_r4_ch own_inv0 htl hrA q4_5 (by decide : 0 ≤ 2) rfl (by decide)) hZ (hw _ (List.mem_of_getElem? (i := 30) rfl)) (hw _ (List.mem_of_getElem? (i := 10) rfl)) (by decide) (by decide)) qa49 qc49 (g := (mkF m 263 #[.val (.int p1), .val (.int p2), .val (.int p3), .val (.int p4), .val (.int cm), .val (.ref t), .val (.ref u), .val (.int (3 : Int32)), .val (.int sm), .val (.ref qa), .val (.int xa), .val (.int ya), .val (.int xb), .val (.int yb), .val (.int xc), .val (.int yc), .val (.int xq), .val (.int yq), .val (.ref b2), .val (.int (1 : Int32)), .val (.int (0 : Int32)), .val (.int (0 : Int32)), .val (.int (0 : Int32)), .val (.int (-1 : Int32)), .val (.int (-1 : Int32)), .val (.int (0 : Int32)), .unset, .unset] [(.int ya), (.int xa), (.ref t), (.ref b2)])) rfl (by rw [hml]; rfl) (Steps.refl _) (argsL := [(.ref t), (.int xa), (.int ya)]) (rest := []) (lenOf own_pd0 rfl) rfl (by show 2 * 0 + _ ≤ _; exact Nat.le_of_eq rfl) (hb hby at_263) (fun _ _ => ⟨rfl, rfl, (Nat.le_trans (Nat.add_le_add_right (Nat.add_le_add_right hcl1 5) 0) (by decide)), (Nat.le_trans (Nat.add_le_add_right (Nat.add_le_add_right hsl1 6150) 0) (by decide))⟩)
      dsimp only [Pt.U, Pt.locs, Pt.cells, Pt.slots] at X49 l49 y49 z49 st49 hQ49
      have yc49 : cells1 + 5 = k49 := y49.symm
      have zc49 : slots1 + 6150 = n49 := z49.symm
      have lc49 := l49.symm
      subst lc49 yc49 zc49
      obtain ⟨r49_vsS1, r49_vsH1, r49_vsC1, r49_S1, r49_F1, rfl, Nq49, K49, q49_0, q49_1, q49_2, q49_3, q49_4, q49_5, q49_6, q49_7, q49_8, q49_9, h49_hI⟩ := hQ49
      refine OE.of (fun _ k => st49.trans k) ?_
      have N49 := Fr.app N4 Nq49
      show OE _ p e below s _ _ _ T49 (mkF m 266 #[.val (.int p1), .val (.int p2), .val (.int p3), .val (.int p4), .val (.int cm), .val (.ref t), .val (.ref u), .val (.int (3 : Int32)), .val (.int sm), .val (.ref qa), .val (.int xa), .val (.int ya), .val (.int xb), .val (.int yb), .val (.int xc), .val (.int yc), .val (.int xq), .val (.int yq), .val (.ref b2), .val (.int (1 : Int32)), .val (.int (0 : Int32)), .val (.int (0 : Int32)), .val (.int (0 : Int32)), .val (.int (-1 : Int32)), .val (.int (-1 : Int32)), .val (.int (0 : Int32)), .unset, .unset] [(.int (0 : Int32))])
      have I49 : own_inv [(own_sl tl xa ya)] r49_vsS1 r49_vsH1 r49_vsC1 r49_S1 r49_F1 := h49_hI
      refine OE.ifNo X49 hx hby at_266 (teq (by decide : (0 : Int32) = (0 : Int32))).2 ?_
      refine OE.iconst X49 hx hby at_269 (1 : Int32) rfl ?_
      refine OE.goto X49 hx hby (pc' := 274) at_270 (h := ?_)
      refine OE.istore X49 hx hby at_274 (l' := #[.val (.int p1), .val (.int p2), .val (.int p3), .val (.int p4), .val (.int cm), .val (.ref t), .val (.ref u), .val (.int (3 : Int32)), .val (.int sm), .val (.ref qa), .val (.int xa), .val (.int ya), .val (.int xb), .val (.int yb), .val (.int xc), .val (.int yc), .val (.int xq), .val (.int yq), .val (.ref b2), .val (.int (1 : Int32)), .val (.int (0 : Int32)), .val (.int (0 : Int32)), .val (.int (0 : Int32)), .val (.int (-1 : Int32)), .val (.int (-1 : Int32)), .val (.int (0 : Int32)), .unset, .unset]) rfl ?_
      refine OE.iconst X49 hx hby at_276 (1 : Int32) rfl ?_
      refine OE.istore X49 hx hby at_277 (l' := #[.val (.int p1), .val (.int p2), .val (.int p3), .val (.int p4), .val (.int cm), .val (.ref t), .val (.ref u), .val (.int (3 : Int32)), .val (.int sm), .val (.ref qa), .val (.int xa), .val (.int ya), .val (.int xb), .val (.int yb), .val (.int xc), .val (.int yc), .val (.int xq), .val (.int yq), .val (.ref b2), .val (.int (1 : Int32)), .val (.int (1 : Int32)), .val (.int (0 : Int32)), .val (.int (0 : Int32)), .val (.int (-1 : Int32)), .val (.int (-1 : Int32)), .val (.int (0 : Int32)), .unset, .unset]) rfl ?_
      refine OE.iconst X49 hx hby at_279 (1 : Int32) rfl ?_
      refine OE.istore X49 hx hby at_280 (l' := #[.val (.int p1), .val (.int p2), .val (.int p3), .val (.int p4), .val (.int cm), .val (.ref t), .val (.ref u), .val (.int (3 : Int32)), .val (.int sm), .val (.ref qa), .val (.int xa), .val (.int ya), .val (.int xb), .val (.int yb), .val (.int xc), .val (.int yc), .val (.int xq), .val (.int yq), .val (.ref b2), .val (.int (1 : Int32)), .val (.int (1 : Int32)), .val (.int (0 : Int32)), .val (.int (0 : Int32)), .val (.int (-1 : Int32)), .val (.int (-1 : Int32)), .val (.int (1 : Int32)), .unset, .unset]) rfl ?_
      refine OE.iload X49 hx hby at_282 rfl ?_
      refine OE.iconst X49 hx hby at_284 (2 : Int32) rfl ?_
      refine OE.icmpNo X49 hx hby at_285 (flt (by decide : ¬ ((3 : Int32) < (2 : Int32)))).1 ?_
      refine OE.aload X49 hx hby at_288 rfl rfl ?_
      refine OE.iload X49 hx hby at_290 rfl ?_
      refine OE.iload X49 hx hby at_292 rfl ?_
      refine OE.aload X49 hx hby at_294 rfl rfl ?_
      refine OE.iload X49 hx hby at_296 rfl ?_
      refine OE.iload X49 hx hby at_298 rfl ?_
      have f50 : Arv Z T49.heap t kt .char (4 : Int32) (List.map Value.int tl) (.int (0 : Int32)) := (f47.keep K49 (ninS ne_t_b2 (ninS ne_t_r4_sl (ninS ne_t_r4_ha (ninS ne_t_r4_st (ninS ne_t_r4_ch nin0))))))
      have z51 : n0 ≤ T49.heap.size := (Nat.le_trans z48 K49.1)
      obtain ⟨_, _, ⟨T52, L52, k52, n52⟩, -, X52, ⟨Lc52, hQ52, l52, y52, z52⟩, st52⟩ := Jvm.LawKit.callS X49 hx (y := (⟨"com/example/archerfish/archerfish/index/TokenTableFindPinLaw", "eq", "([CII[CII)Z"⟩ : MethodName)) hown (mvT hZ (hw _ (List.mem_of_getElem? (i := 46) rfl))) (mvT hZ (hw _ (List.mem_of_getElem? (i := 47) rfl))) (mvT hZ (hw _ (List.mem_of_getElem? (i := 3) rfl))) (mvT hZ (hw _ (List.mem_of_getElem? (i := 48) rfl))) (by decide) (backOf (W := 0) (own_rm8 l Z a0 hw [] t xb yb t xa ya tl tl kt kt T49.heap n0 z51 f50 f50 htl htl hrB hrA) hZ (hw _ (List.mem_of_getElem? (i := 48) rfl)) (hw _ (List.mem_of_getElem? (i := 3) rfl)) (by decide) (by decide)) (g := (mkF m 300 #[.val (.int p1), .val (.int p2), .val (.int p3), .val (.int p4), .val (.int cm), .val (.ref t), .val (.ref u), .val (.int (3 : Int32)), .val (.int sm), .val (.ref qa), .val (.int xa), .val (.int ya), .val (.int xb), .val (.int yb), .val (.int xc), .val (.int yc), .val (.int xq), .val (.int yq), .val (.ref b2), .val (.int (1 : Int32)), .val (.int (1 : Int32)), .val (.int (0 : Int32)), .val (.int (0 : Int32)), .val (.int (-1 : Int32)), .val (.int (-1 : Int32)), .val (.int (1 : Int32)), .unset, .unset] [(.int ya), (.int xa), (.ref t), (.int yb), (.int xb), (.ref t)])) rfl (by rw [hml]; rfl) (argsL := [(.ref t), (.int xb), (.int yb), (.ref t), (.int xa), (.int ya)]) (rest := []) (lenOf own_pd5 rfl) rfl (by show 2 * 0 + _ ≤ _; exact Nat.le_of_eq rfl) (hb hby at_300) (fun _ _ => ⟨rfl, rfl, (Nat.le_trans (Nat.add_le_add_right (Nat.add_le_add_right hcl1 5) 0) (by decide)), (Nat.le_trans (Nat.add_le_add_right (Nat.add_le_add_right hsl1 6150) 0) (by decide))⟩)
      dsimp only [Pt.U, Pt.locs, Pt.cells, Pt.slots] at X52 l52 y52 z52 st52 hQ52
      have yc52 : cells1 + 5 = k52 := y52.symm
      have zc52 : slots1 + 6150 = n52 := z52.symm
      have lc52 := l52.symm
      subst lc52 yc52 zc52
      obtain ⟨r52_r, rfl, Nq52, eq52, h52_hr⟩ := hQ52
      refine OE.of (fun _ k => st52 _ k) ?_
      have N52 := Fr.app N49 Nq52
      show OE _ p e below s _ _ _ T52 (mkF m 303 #[.val (.int p1), .val (.int p2), .val (.int p3), .val (.int p4), .val (.int cm), .val (.ref t), .val (.ref u), .val (.int (3 : Int32)), .val (.int sm), .val (.ref qa), .val (.int xa), .val (.int ya), .val (.int xb), .val (.int yb), .val (.int xc), .val (.int yc), .val (.int xq), .val (.int yq), .val (.ref b2), .val (.int (1 : Int32)), .val (.int (1 : Int32)), .val (.int (0 : Int32)), .val (.int (0 : Int32)), .val (.int (-1 : Int32)), .val (.int (-1 : Int32)), .val (.int (1 : Int32)), .unset, .unset] [(.int r52_r)])
      rcases h52_hr with ⟨e52, d52⟩ | ⟨e52, d52⟩
      · subst e52
        show OE _ p e below s _ _ _ T52 (mkF m 303 #[.val (.int p1), .val (.int p2), .val (.int p3), .val (.int p4), .val (.int cm), .val (.ref t), .val (.ref u), .val (.int (3 : Int32)), .val (.int sm), .val (.ref qa), .val (.int xa), .val (.int ya), .val (.int xb), .val (.int yb), .val (.int xc), .val (.int yc), .val (.int xq), .val (.int yq), .val (.ref b2), .val (.int (1 : Int32)), .val (.int (1 : Int32)), .val (.int (0 : Int32)), .val (.int (0 : Int32)), .val (.int (-1 : Int32)), .val (.int (-1 : Int32)), .val (.int (1 : Int32)), .unset, .unset] [(.int (1 : Int32))])
        refine OE.ifYes X52 hx hby (pc' := 344) at_303 (feq (by decide : ¬ ((1 : Int32) = (0 : Int32)))).2 (h := ?_)
        refine OE.iload X52 hx hby at_344 rfl ?_
        refine OE.iconst X52 hx hby at_346 (3 : Int32) rfl ?_
        refine OE.icmpNo X52 hx hby at_347 (flt (by decide : ¬ ((3 : Int32) < (3 : Int32)))).1 ?_
        refine OE.aload X52 hx hby at_350 rfl rfl ?_
        refine OE.iload X52 hx hby at_352 rfl ?_
        refine OE.iload X52 hx hby at_354 rfl ?_
        refine OE.aload X52 hx hby at_356 rfl rfl ?_
        refine OE.iload X52 hx hby at_358 rfl ?_
        refine OE.iload X52 hx hby at_360 rfl ?_
        obtain ⟨_, _, ⟨T53, L53, k53, n53⟩, -, X53, ⟨Lc53, hQ53, l53, y53, z53⟩, st53⟩ := Jvm.LawKit.callS X52 hx (y := (⟨"com/example/archerfish/archerfish/index/TokenTableFindPinLaw", "eq", "([CII[CII)Z"⟩ : MethodName)) hown (mvT hZ (hw _ (List.mem_of_getElem? (i := 46) rfl))) (mvT hZ (hw _ (List.mem_of_getElem? (i := 47) rfl))) (mvT hZ (hw _ (List.mem_of_getElem? (i := 3) rfl))) (mvT hZ (hw _ (List.mem_of_getElem? (i := 48) rfl))) (by decide) (backOf (W := 0) (own_rm8 l Z a0 hw [] t xc yc t xa ya tl tl kt kt T49.heap n0 z51 f50 f50 htl htl hrC hrA) hZ (hw _ (List.mem_of_getElem? (i := 48) rfl)) (hw _ (List.mem_of_getElem? (i := 3) rfl)) (by decide) (by decide)) (g := (mkF m 362 #[.val (.int p1), .val (.int p2), .val (.int p3), .val (.int p4), .val (.int cm), .val (.ref t), .val (.ref u), .val (.int (3 : Int32)), .val (.int sm), .val (.ref qa), .val (.int xa), .val (.int ya), .val (.int xb), .val (.int yb), .val (.int xc), .val (.int yc), .val (.int xq), .val (.int yq), .val (.ref b2), .val (.int (1 : Int32)), .val (.int (1 : Int32)), .val (.int (0 : Int32)), .val (.int (0 : Int32)), .val (.int (-1 : Int32)), .val (.int (-1 : Int32)), .val (.int (1 : Int32)), .unset, .unset] [(.int ya), (.int xa), (.ref t), (.int yc), (.int xc), (.ref t)])) rfl (by rw [hml]; rfl) (argsL := [(.ref t), (.int xc), (.int yc), (.ref t), (.int xa), (.int ya)]) (rest := []) (lenOf own_pd5 rfl) rfl (by show 2 * 0 + _ ≤ _; exact Nat.le_of_eq rfl) (hb hby at_362) (fun _ _ => ⟨rfl, eq52, (Nat.le_trans (Nat.add_le_add_right (Nat.add_le_add_right hcl1 5) 0) (by decide)), (Nat.le_trans (Nat.add_le_add_right (Nat.add_le_add_right hsl1 6150) 0) (by decide))⟩)
        dsimp only [Pt.U, Pt.locs, Pt.cells, Pt.slots] at X53 l53 y53 z53 st53 hQ53
        have yc53 : cells1 + 5 = k53 := y53.symm
        have zc53 : slots1 + 6150 = n53 := z53.symm
        have lc53 := l53.symm
        subst lc53 yc53 zc53
        obtain ⟨r53_r, rfl, Nq53, eq53, h53_hr⟩ := hQ53
        refine OE.of (fun _ k => st53 _ k) ?_
        have N53 := Fr.app N52 Nq53
        show OE _ p e below s _ _ _ T53 (mkF m 365 #[.val (.int p1), .val (.int p2), .val (.int p3), .val (.int p4), .val (.int cm), .val (.ref t), .val (.ref u), .val (.int (3 : Int32)), .val (.int sm), .val (.ref qa), .val (.int xa), .val (.int ya), .val (.int xb), .val (.int yb), .val (.int xc), .val (.int yc), .val (.int xq), .val (.int yq), .val (.ref b2), .val (.int (1 : Int32)), .val (.int (1 : Int32)), .val (.int (0 : Int32)), .val (.int (0 : Int32)), .val (.int (-1 : Int32)), .val (.int (-1 : Int32)), .val (.int (1 : Int32)), .unset, .unset] [(.int r53_r)])
        rcases h53_hr with ⟨e53, d53⟩ | ⟨e53, d53⟩
        · subst e53
          show OE _ p e below s _ _ _ T53 (mkF m 365 #[.val (.int p1), .val (.int p2), .val (.int p3), .val (.int p4), .val (.int cm), .val (.ref t), .val (.ref u), .val (.int (3 : Int32)), .val (.int sm), .val (.ref qa), .val (.int xa), .val (.int ya), .val (.int xb), .val (.int yb), .val (.int xc), .val (.int yc), .val (.int xq), .val (.int yq), .val (.ref b2), .val (.int (1 : Int32)), .val (.int (1 : Int32)), .val (.int (0 : Int32)), .val (.int (0 : Int32)), .val (.int (-1 : Int32)), .val (.int (-1 : Int32)), .val (.int (1 : Int32)), .unset, .unset] [(.int (1 : Int32))])
          refine OE.ifYes X53 hx hby (pc' := 429) at_365 (feq (by decide : ¬ ((1 : Int32) = (0 : Int32)))).2 (h := ?_)
          refine OE.iconst X53 hx hby at_429 (-1 : Int32) rfl ?_
          refine OE.istore X53 hx hby at_430 (l' := #[.val (.int p1), .val (.int p2), .val (.int p3), .val (.int p4), .val (.int cm), .val (.ref t), .val (.ref u), .val (.int (3 : Int32)), .val (.int sm), .val (.ref qa), .val (.int xa), .val (.int ya), .val (.int xb), .val (.int yb), .val (.int xc), .val (.int yc), .val (.int xq), .val (.int yq), .val (.ref b2), .val (.int (1 : Int32)), .val (.int (1 : Int32)), .val (.int (0 : Int32)), .val (.int (0 : Int32)), .val (.int (-1 : Int32)), .val (.int (-1 : Int32)), .val (.int (1 : Int32)), .val (.int (-1 : Int32)), .unset]) rfl ?_
          refine OE.iload X53 hx hby at_432 rfl ?_
          refine OE.ifNo X53 hx hby at_434 (feq (by decide : ¬ ((1 : Int32) = (0 : Int32)))).1 ?_
          refine OE.aload X53 hx hby at_437 rfl rfl ?_
          refine OE.iload X53 hx hby at_439 rfl ?_
          refine OE.iload X53 hx hby at_441 rfl ?_
          refine OE.aload X53 hx hby at_443 rfl rfl ?_
          refine OE.iload X53 hx hby at_445 rfl ?_
          refine OE.iload X53 hx hby at_447 rfl ?_
          have f54 : Arv Z T49.heap qa kq .char (4 : Int32) (List.map Value.int ql) (.int (0 : Int32)) := ((f5.keep K4 (ninS ne_qa_b2 nin0)).keep K49 (ninS ne_qa_b2 (ninS ne_qa_r4_sl (ninS ne_qa_r4_ha (ninS ne_qa_r4_st (ninS ne_qa_r4_ch nin0))))))
          obtain ⟨_, _, ⟨T55, L55, k55, n55⟩, -, X55, ⟨Lc55, hQ55, l55, y55, z55⟩, st55⟩ := Jvm.LawKit.callS X53 hx (y := (⟨"com/example/archerfish/archerfish/index/TokenTableFindPinLaw", "eq", "([CII[CII)Z"⟩ : MethodName)) hown (mvT hZ (hw _ (List.mem_of_getElem? (i := 46) rfl))) (mvT hZ (hw _ (List.mem_of_getElem? (i := 47) rfl))) (mvT hZ (hw _ (List.mem_of_getElem? (i := 3) rfl))) (mvT hZ (hw _ (List.mem_of_getElem? (i := 48) rfl))) (by decide) (backOf (W := 0) (own_rm8 l Z a0 hw [] qa xq yq t xa ya ql tl kq kt T49.heap n0 z51 f54 f50 hql htl hrQ hrA) hZ (hw _ (List.mem_of_getElem? (i := 48) rfl)) (hw _ (List.mem_of_getElem? (i := 3) rfl)) (by decide) (by decide)) (g := (mkF m 449 #[.val (.int p1), .val (.int p2), .val (.int p3), .val (.int p4), .val (.int cm), .val (.ref t), .val (.ref u), .val (.int (3 : Int32)), .val (.int sm), .val (.ref qa), .val (.int xa), .val (.int ya), .val (.int xb), .val (.int yb), .val (.int xc), .val (.int yc), .val (.int xq), .val (.int yq), .val (.ref b2), .val (.int (1 : Int32)), .val (.int (1 : Int32)), .val (.int (0 : Int32)), .val (.int (0 : Int32)), .val (.int (-1 : Int32)), .val (.int (-1 : Int32)), .val (.int (1 : Int32)), .val (.int (-1 : Int32)), .unset] [(.int ya), (.int xa), (.ref t), (.int yq), (.int xq), (.ref qa)])) rfl (by rw [hml]; rfl) (argsL := [(.ref qa), (.int xq), (.int yq), (.ref t), (.int xa), (.int ya)]) (rest := []) (lenOf own_pd5 rfl) rfl (by show 2 * 0 + _ ≤ _; exact Nat.le_of_eq rfl) (hb hby at_449) (fun _ _ => ⟨rfl, eq53, (Nat.le_trans (Nat.add_le_add_right (Nat.add_le_add_right hcl1 5) 0) (by decide)), (Nat.le_trans (Nat.add_le_add_right (Nat.add_le_add_right hsl1 6150) 0) (by decide))⟩)
          dsimp only [Pt.U, Pt.locs, Pt.cells, Pt.slots] at X55 l55 y55 z55 st55 hQ55
          have yc55 : cells1 + 5 = k55 := y55.symm
          have zc55 : slots1 + 6150 = n55 := z55.symm
          have lc55 := l55.symm
          subst lc55 yc55 zc55
          obtain ⟨r55_r, rfl, Nq55, eq55, h55_hr⟩ := hQ55
          refine OE.of (fun _ k => st55 _ k) ?_
          have N55 := Fr.app N53 Nq55
          show OE _ p e below s _ _ _ T55 (mkF m 452 #[.val (.int p1), .val (.int p2), .val (.int p3), .val (.int p4), .val (.int cm), .val (.ref t), .val (.ref u), .val (.int (3 : Int32)), .val (.int sm), .val (.ref qa), .val (.int xa), .val (.int ya), .val (.int xb), .val (.int yb), .val (.int xc), .val (.int yc), .val (.int xq), .val (.int yq), .val (.ref b2), .val (.int (1 : Int32)), .val (.int (1 : Int32)), .val (.int (0 : Int32)), .val (.int (0 : Int32)), .val (.int (-1 : Int32)), .val (.int (-1 : Int32)), .val (.int (1 : Int32)), .val (.int (-1 : Int32)), .unset] [(.int r55_r)])
          rcases h55_hr with ⟨e55, d55⟩ | ⟨e55, d55⟩
          · subst e55
            show OE _ p e below s _ _ _ T55 (mkF m 452 #[.val (.int p1), .val (.int p2), .val (.int p3), .val (.int p4), .val (.int cm), .val (.ref t), .val (.ref u), .val (.int (3 : Int32)), .val (.int sm), .val (.ref qa), .val (.int xa), .val (.int ya), .val (.int xb), .val (.int yb), .val (.int xc), .val (.int yc), .val (.int xq), .val (.int yq), .val (.ref b2), .val (.int (1 : Int32)), .val (.int (1 : Int32)), .val (.int (0 : Int32)), .val (.int (0 : Int32)), .val (.int (-1 : Int32)), .val (.int (-1 : Int32)), .val (.int (1 : Int32)), .val (.int (-1 : Int32)), .unset] [(.int (1 : Int32))])
            refine OE.ifNo X55 hx hby at_452 (feq (by decide : ¬ ((1 : Int32) = (0 : Int32)))).1 ?_
            refine OE.iconst X55 hx hby at_455 (0 : Int32) rfl ?_
            refine OE.istore X55 hx hby at_456 (l' := #[.val (.int p1), .val (.int p2), .val (.int p3), .val (.int p4), .val (.int cm), .val (.ref t), .val (.ref u), .val (.int (3 : Int32)), .val (.int sm), .val (.ref qa), .val (.int xa), .val (.int ya), .val (.int xb), .val (.int yb), .val (.int xc), .val (.int yc), .val (.int xq), .val (.int yq), .val (.ref b2), .val (.int (1 : Int32)), .val (.int (1 : Int32)), .val (.int (0 : Int32)), .val (.int (0 : Int32)), .val (.int (-1 : Int32)), .val (.int (-1 : Int32)), .val (.int (1 : Int32)), .val (.int (0 : Int32)), .unset]) rfl ?_
            refine OE.goto X55 hx hby (pc' := 518) at_458 (h := ?_)
            refine OE.aload X55 hx hby at_518 rfl rfl ?_
            refine OE.aload X55 hx hby at_520 rfl rfl ?_
            refine OE.iload X55 hx hby at_522 rfl ?_
            refine OE.iload X55 hx hby at_524 rfl ?_
            obtain ⟨cq56, kq56, qa56, qb56, qc56⟩ := isOf hZ eq55 q49_0
            obtain ⟨_, _, ⟨T56, L56, k56, n56⟩, -, X56, ⟨Lc56, hQ56, l56, y56, z56⟩, st56⟩ := X55.virtualBack hx (y := (⟨"com/example/archerfish/archerfish/index/TokenTable", "find", "([CII)I"⟩ : MethodName)) (z := (⟨"com/example/archerfish/archerfish/index/TokenTable", "find", "([CII)I"⟩ : MethodName)) hown (mvT hZ (hw _ (List.mem_of_getElem? (i := 49) rfl))) (mvT hZ (hw _ (List.mem_of_getElem? (i := 50) rfl))) (notFace_of_selects (args := #[]) (mvT hZ (hw _ (List.mem_of_getElem? (i := 52) rfl)))) (mvT hZ (hw _ (List.mem_of_getElem? (i := 52) rfl))) (mvT hZ (hw _ (List.mem_of_getElem? (i := 51) rfl))) (by decide) (backOf (W := 0) (own_rm9 l Z a0 hw [] b2 qa xq yq r4_sl r4_ha r4_st r4_ch r4_ksl r4_kha r4_kst r4_kch kq r49_S1 r49_vsH1 r49_vsS1 r49_vsC1 ql ([(own_sl tl xa ya)] : List (List Int32)) r49_F1 T49.heap n0 z51 q49_0 q49_1 q49_2 q49_3 q49_4 q49_6 q49_7 q49_8 q49_9 f54 I49 hql hrQ (by decide : 1 ≤ 3)) hZ (hw _ (List.mem_of_getElem? (i := 53) rfl)) (hw _ (List.mem_of_getElem? (i := 10) rfl)) (by decide) (by decide)) qa56 qc56 (g := (mkF m 526 #[.val (.int p1), .val (.int p2), .val (.int p3), .val (.int p4), .val (.int cm), .val (.ref t), .val (.ref u), .val (.int (3 : Int32)), .val (.int sm), .val (.ref qa), .val (.int xa), .val (.int ya), .val (.int xb), .val (.int yb), .val (.int xc), .val (.int yc), .val (.int xq), .val (.int yq), .val (.ref b2), .val (.int (1 : Int32)), .val (.int (1 : Int32)), .val (.int (0 : Int32)), .val (.int (0 : Int32)), .val (.int (-1 : Int32)), .val (.int (-1 : Int32)), .val (.int (1 : Int32)), .val (.int (0 : Int32)), .unset] [(.int yq), (.int xq), (.ref qa), (.ref b2)])) rfl (by rw [hml]; rfl) (Steps.refl _) (argsL := [(.ref qa), (.int xq), (.int yq)]) (rest := []) (lenOf own_pd0 rfl) rfl (by show 2 * 0 + _ ≤ _; exact Nat.le_of_eq rfl) (hb hby at_526) (fun _ _ => ⟨rfl, eq55, (Nat.le_trans (Nat.add_le_add_right (Nat.add_le_add_right hcl1 5) 0) (by decide)), (Nat.le_trans (Nat.add_le_add_right (Nat.add_le_add_right hsl1 6150) 0) (by decide))⟩)
            dsimp only [Pt.U, Pt.locs, Pt.cells, Pt.slots] at X56 l56 y56 z56 st56 hQ56
            have yc56 : cells1 + 5 = k56 := y56.symm
            have zc56 : slots1 + 6150 = n56 := z56.symm
            have lc56 := l56.symm
            subst lc56 yc56 zc56
            obtain ⟨r56_r, rfl, Nq56, eq56, h56_hr⟩ := hQ56
            refine OE.of (fun _ k => st56.trans k) ?_
            have N56 := Fr.app N55 Nq56
            show OE _ p e below s _ _ _ T56 (mkF m 529 #[.val (.int p1), .val (.int p2), .val (.int p3), .val (.int p4), .val (.int cm), .val (.ref t), .val (.ref u), .val (.int (3 : Int32)), .val (.int sm), .val (.ref qa), .val (.int xa), .val (.int ya), .val (.int xb), .val (.int yb), .val (.int xc), .val (.int yc), .val (.int xq), .val (.int yq), .val (.ref b2), .val (.int (1 : Int32)), .val (.int (1 : Int32)), .val (.int (0 : Int32)), .val (.int (0 : Int32)), .val (.int (-1 : Int32)), .val (.int (-1 : Int32)), .val (.int (1 : Int32)), .val (.int (0 : Int32)), .unset] [(.int r56_r)])
            refine OE.istore X56 hx hby at_529 (l' := #[.val (.int p1), .val (.int p2), .val (.int p3), .val (.int p4), .val (.int cm), .val (.ref t), .val (.ref u), .val (.int (3 : Int32)), .val (.int sm), .val (.ref qa), .val (.int xa), .val (.int ya), .val (.int xb), .val (.int yb), .val (.int xc), .val (.int yc), .val (.int xq), .val (.int yq), .val (.ref b2), .val (.int (1 : Int32)), .val (.int (1 : Int32)), .val (.int (0 : Int32)), .val (.int (0 : Int32)), .val (.int (-1 : Int32)), .val (.int (-1 : Int32)), .val (.int (1 : Int32)), .val (.int (0 : Int32)), .val (.int r56_r)]) rfl ?_
            refine OE.iload X56 hx hby at_531 rfl ?_
            refine OE.ifNo X56 hx hby at_533 (feq (by decide : ¬ ((1 : Int32) = (0 : Int32)))).1 ?_
            refine OE.aload X56 hx hby at_536 rfl rfl ?_
            obtain ⟨cq57, kq57, qa57, qb57, qc57⟩ := isOf hZ eq56 q49_0
            obtain ⟨_, _, ⟨T57, L57, k57, n57⟩, -, X57, ⟨Lc57, hQ57, l57, y57, z57⟩, st57⟩ := X56.virtualBack hx (y := (⟨"com/example/archerfish/archerfish/index/TokenTable", "size", "()I"⟩ : MethodName)) (z := (⟨"com/example/archerfish/archerfish/index/TokenTable", "size", "()I"⟩ : MethodName)) hown (mvT hZ (hw _ (List.mem_of_getElem? (i := 58) rfl))) (mvT hZ (hw _ (List.mem_of_getElem? (i := 59) rfl))) (notFace_of_selects (args := #[]) (mvT hZ (hw _ (List.mem_of_getElem? (i := 61) rfl)))) (mvT hZ (hw _ (List.mem_of_getElem? (i := 61) rfl))) (mvT hZ (hw _ (List.mem_of_getElem? (i := 60) rfl))) (by decide) (backOf (W := 0) (own_rm11 l Z a0 hw [] b2 (1 : Int32) T49.heap n0 z51 q49_5) hZ (hw _ (List.mem_of_getElem? (i := 62) rfl)) (hw _ (List.mem_of_getElem? (i := 10) rfl)) (by decide) (by decide)) qa57 qc57 (g := (mkF m 538 #[.val (.int p1), .val (.int p2), .val (.int p3), .val (.int p4), .val (.int cm), .val (.ref t), .val (.ref u), .val (.int (3 : Int32)), .val (.int sm), .val (.ref qa), .val (.int xa), .val (.int ya), .val (.int xb), .val (.int yb), .val (.int xc), .val (.int yc), .val (.int xq), .val (.int yq), .val (.ref b2), .val (.int (1 : Int32)), .val (.int (1 : Int32)), .val (.int (0 : Int32)), .val (.int (0 : Int32)), .val (.int (-1 : Int32)), .val (.int (-1 : Int32)), .val (.int (1 : Int32)), .val (.int (0 : Int32)), .val (.int r56_r)] [(.ref b2)])) rfl (by rw [hml]; rfl) (Steps.refl _) (argsL := []) (rest := []) (lenOf own_pd4 rfl) rfl (by show 2 * 0 + _ ≤ _; exact Nat.le_of_eq rfl) (hb hby at_538) (fun _ _ => ⟨rfl, eq56, (Nat.le_trans (Nat.add_le_add_right (Nat.add_le_add_right hcl1 5) 0) (by decide)), (Nat.le_trans (Nat.add_le_add_right (Nat.add_le_add_right hsl1 6150) 0) (by decide))⟩)
            dsimp only [Pt.U, Pt.locs, Pt.cells, Pt.slots] at X57 l57 y57 z57 st57 hQ57
            have yc57 : cells1 + 5 = k57 := y57.symm
            have zc57 : slots1 + 6150 = n57 := z57.symm
            have lc57 := l57.symm
            subst lc57 yc57 zc57
            obtain ⟨rfl, Nq57, eq57⟩ := hQ57
            refine OE.of (fun _ k => st57.trans k) ?_
            have N57 := Fr.app N56 Nq57
            show OE _ p e below s _ _ _ T57 (mkF m 541 #[.val (.int p1), .val (.int p2), .val (.int p3), .val (.int p4), .val (.int cm), .val (.ref t), .val (.ref u), .val (.int (3 : Int32)), .val (.int sm), .val (.ref qa), .val (.int xa), .val (.int ya), .val (.int xb), .val (.int yb), .val (.int xc), .val (.int yc), .val (.int xq), .val (.int yq), .val (.ref b2), .val (.int (1 : Int32)), .val (.int (1 : Int32)), .val (.int (0 : Int32)), .val (.int (0 : Int32)), .val (.int (-1 : Int32)), .val (.int (-1 : Int32)), .val (.int (1 : Int32)), .val (.int (0 : Int32)), .val (.int r56_r)] [(.int (1 : Int32))])
            refine OE.iload X57 hx hby at_541 rfl ?_
            refine OE.icmpNo X57 hx hby at_543 (teq (by decide : (1 : Int32) = (1 : Int32))).2 ?_
            refine OE.iload X57 hx hby at_546 rfl ?_
            refine OE.iload X57 hx hby at_548 rfl ?_
            refine OE.icmpNo X57 hx hby at_550 (teq (own_f1a h56_hr   d55 : r56_r = (0 : Int32))).2 ?_
            refine OE.iload X57 hx hby at_553 rfl ?_
            refine OE.iconst X57 hx hby at_555 (-1 : Int32) rfl ?_
            refine OE.icmpNo X57 hx hby at_556 (flt (by decide : ¬ ((0 : Int32) < (-1 : Int32)))).1 ?_
            refine OE.iconst X57 hx hby at_559 (1 : Int32) rfl ?_
            refine OE.goto X57 hx hby (pc' := 564) at_560 (h := ?_)
            refine OE.retN X57 hx (t := .boolean) Bd.returns (by simp) Bd.notSynchronized (hb hby at_564) (Nat.le_trans (Nat.add_le_add_right hcl1 5) (by decide)) (Nat.le_trans (Nat.add_le_add_right hsl1 6150) (by decide)) ?_
            rw [eq57]
            exact ⟨rfl, N57⟩
          · subst e55
            show OE _ p e below s _ _ _ T55 (mkF m 452 #[.val (.int p1), .val (.int p2), .val (.int p3), .val (.int p4), .val (.int cm), .val (.ref t), .val (.ref u), .val (.int (3 : Int32)), .val (.int sm), .val (.ref qa), .val (.int xa), .val (.int ya), .val (.int xb), .val (.int yb), .val (.int xc), .val (.int yc), .val (.int xq), .val (.int yq), .val (.ref b2), .val (.int (1 : Int32)), .val (.int (1 : Int32)), .val (.int (0 : Int32)), .val (.int (0 : Int32)), .val (.int (-1 : Int32)), .val (.int (-1 : Int32)), .val (.int (1 : Int32)), .val (.int (-1 : Int32)), .unset] [(.int (0 : Int32))])
            refine OE.ifYes X55 hx hby (pc' := 461) at_452 (teq (by decide : (0 : Int32) = (0 : Int32))).1 (h := ?_)
            refine OE.iload X55 hx hby at_461 rfl ?_
            refine OE.ifYes X55 hx hby (pc' := 491) at_463 (teq (by decide : (0 : Int32) = (0 : Int32))).1 (h := ?_)
            refine OE.iload X55 hx hby at_491 rfl ?_
            refine OE.ifYes X55 hx hby (pc' := 518) at_493 (teq (by decide : (0 : Int32) = (0 : Int32))).1 (h := ?_)
            refine OE.aload X55 hx hby at_518 rfl rfl ?_
            refine OE.aload X55 hx hby at_520 rfl rfl ?_
            refine OE.iload X55 hx hby at_522 rfl ?_
            refine OE.iload X55 hx hby at_524 rfl ?_
            obtain ⟨cq58, kq58, qa58, qb58, qc58⟩ := isOf hZ eq55 q49_0
            obtain ⟨_, _, ⟨T58, L58, k58, n58⟩, -, X58, ⟨Lc58, hQ58, l58, y58, z58⟩, st58⟩ := X55.virtualBack hx (y := (⟨"com/example/archerfish/archerfish/index/TokenTable", "find", "([CII)I"⟩ : MethodName)) (z := (⟨"com/example/archerfish/archerfish/index/TokenTable", "find", "([CII)I"⟩ : MethodName)) hown (mvT hZ (hw _ (List.mem_of_getElem? (i := 49) rfl))) (mvT hZ (hw _ (List.mem_of_getElem? (i := 50) rfl))) (notFace_of_selects (args := #[]) (mvT hZ (hw _ (List.mem_of_getElem? (i := 52) rfl)))) (mvT hZ (hw _ (List.mem_of_getElem? (i := 52) rfl))) (mvT hZ (hw _ (List.mem_of_getElem? (i := 51) rfl))) (by decide) (backOf (W := 0) (own_rm9 l Z a0 hw [] b2 qa xq yq r4_sl r4_ha r4_st r4_ch r4_ksl r4_kha r4_kst r4_kch kq r49_S1 r49_vsH1 r49_vsS1 r49_vsC1 ql ([(own_sl tl xa ya)] : List (List Int32)) r49_F1 T49.heap n0 z51 q49_0 q49_1 q49_2 q49_3 q49_4 q49_6 q49_7 q49_8 q49_9 f54 I49 hql hrQ (by decide : 1 ≤ 3)) hZ (hw _ (List.mem_of_getElem? (i := 53) rfl)) (hw _ (List.mem_of_getElem? (i := 10) rfl)) (by decide) (by decide)) qa58 qc58 (g := (mkF m 526 #[.val (.int p1), .val (.int p2), .val (.int p3), .val (.int p4), .val (.int cm), .val (.ref t), .val (.ref u), .val (.int (3 : Int32)), .val (.int sm), .val (.ref qa), .val (.int xa), .val (.int ya), .val (.int xb), .val (.int yb), .val (.int xc), .val (.int yc), .val (.int xq), .val (.int yq), .val (.ref b2), .val (.int (1 : Int32)), .val (.int (1 : Int32)), .val (.int (0 : Int32)), .val (.int (0 : Int32)), .val (.int (-1 : Int32)), .val (.int (-1 : Int32)), .val (.int (1 : Int32)), .val (.int (-1 : Int32)), .unset] [(.int yq), (.int xq), (.ref qa), (.ref b2)])) rfl (by rw [hml]; rfl) (Steps.refl _) (argsL := [(.ref qa), (.int xq), (.int yq)]) (rest := []) (lenOf own_pd0 rfl) rfl (by show 2 * 0 + _ ≤ _; exact Nat.le_of_eq rfl) (hb hby at_526) (fun _ _ => ⟨rfl, eq55, (Nat.le_trans (Nat.add_le_add_right (Nat.add_le_add_right hcl1 5) 0) (by decide)), (Nat.le_trans (Nat.add_le_add_right (Nat.add_le_add_right hsl1 6150) 0) (by decide))⟩)
            dsimp only [Pt.U, Pt.locs, Pt.cells, Pt.slots] at X58 l58 y58 z58 st58 hQ58
            have yc58 : cells1 + 5 = k58 := y58.symm
            have zc58 : slots1 + 6150 = n58 := z58.symm
            have lc58 := l58.symm
            subst lc58 yc58 zc58
            obtain ⟨r58_r, rfl, Nq58, eq58, h58_hr⟩ := hQ58
            refine OE.of (fun _ k => st58.trans k) ?_
            have N58 := Fr.app N55 Nq58
            show OE _ p e below s _ _ _ T58 (mkF m 529 #[.val (.int p1), .val (.int p2), .val (.int p3), .val (.int p4), .val (.int cm), .val (.ref t), .val (.ref u), .val (.int (3 : Int32)), .val (.int sm), .val (.ref qa), .val (.int xa), .val (.int ya), .val (.int xb), .val (.int yb), .val (.int xc), .val (.int yc), .val (.int xq), .val (.int yq), .val (.ref b2), .val (.int (1 : Int32)), .val (.int (1 : Int32)), .val (.int (0 : Int32)), .val (.int (0 : Int32)), .val (.int (-1 : Int32)), .val (.int (-1 : Int32)), .val (.int (1 : Int32)), .val (.int (-1 : Int32)), .unset] [(.int r58_r)])
            refine OE.istore X58 hx hby at_529 (l' := #[.val (.int p1), .val (.int p2), .val (.int p3), .val (.int p4), .val (.int cm), .val (.ref t), .val (.ref u), .val (.int (3 : Int32)), .val (.int sm), .val (.ref qa), .val (.int xa), .val (.int ya), .val (.int xb), .val (.int yb), .val (.int xc), .val (.int yc), .val (.int xq), .val (.int yq), .val (.ref b2), .val (.int (1 : Int32)), .val (.int (1 : Int32)), .val (.int (0 : Int32)), .val (.int (0 : Int32)), .val (.int (-1 : Int32)), .val (.int (-1 : Int32)), .val (.int (1 : Int32)), .val (.int (-1 : Int32)), .val (.int r58_r)]) rfl ?_
            refine OE.iload X58 hx hby at_531 rfl ?_
            refine OE.ifNo X58 hx hby at_533 (feq (by decide : ¬ ((1 : Int32) = (0 : Int32)))).1 ?_
            refine OE.aload X58 hx hby at_536 rfl rfl ?_
            obtain ⟨cq59, kq59, qa59, qb59, qc59⟩ := isOf hZ eq58 q49_0
            obtain ⟨_, _, ⟨T59, L59, k59, n59⟩, -, X59, ⟨Lc59, hQ59, l59, y59, z59⟩, st59⟩ := X58.virtualBack hx (y := (⟨"com/example/archerfish/archerfish/index/TokenTable", "size", "()I"⟩ : MethodName)) (z := (⟨"com/example/archerfish/archerfish/index/TokenTable", "size", "()I"⟩ : MethodName)) hown (mvT hZ (hw _ (List.mem_of_getElem? (i := 58) rfl))) (mvT hZ (hw _ (List.mem_of_getElem? (i := 59) rfl))) (notFace_of_selects (args := #[]) (mvT hZ (hw _ (List.mem_of_getElem? (i := 61) rfl)))) (mvT hZ (hw _ (List.mem_of_getElem? (i := 61) rfl))) (mvT hZ (hw _ (List.mem_of_getElem? (i := 60) rfl))) (by decide) (backOf (W := 0) (own_rm11 l Z a0 hw [] b2 (1 : Int32) T49.heap n0 z51 q49_5) hZ (hw _ (List.mem_of_getElem? (i := 62) rfl)) (hw _ (List.mem_of_getElem? (i := 10) rfl)) (by decide) (by decide)) qa59 qc59 (g := (mkF m 538 #[.val (.int p1), .val (.int p2), .val (.int p3), .val (.int p4), .val (.int cm), .val (.ref t), .val (.ref u), .val (.int (3 : Int32)), .val (.int sm), .val (.ref qa), .val (.int xa), .val (.int ya), .val (.int xb), .val (.int yb), .val (.int xc), .val (.int yc), .val (.int xq), .val (.int yq), .val (.ref b2), .val (.int (1 : Int32)), .val (.int (1 : Int32)), .val (.int (0 : Int32)), .val (.int (0 : Int32)), .val (.int (-1 : Int32)), .val (.int (-1 : Int32)), .val (.int (1 : Int32)), .val (.int (-1 : Int32)), .val (.int r58_r)] [(.ref b2)])) rfl (by rw [hml]; rfl) (Steps.refl _) (argsL := []) (rest := []) (lenOf own_pd4 rfl) rfl (by show 2 * 0 + _ ≤ _; exact Nat.le_of_eq rfl) (hb hby at_538) (fun _ _ => ⟨rfl, eq58, (Nat.le_trans (Nat.add_le_add_right (Nat.add_le_add_right hcl1 5) 0) (by decide)), (Nat.le_trans (Nat.add_le_add_right (Nat.add_le_add_right hsl1 6150) 0) (by decide))⟩)
            dsimp only [Pt.U, Pt.locs, Pt.cells, Pt.slots] at X59 l59 y59 z59 st59 hQ59
            have yc59 : cells1 + 5 = k59 := y59.symm
            have zc59 : slots1 + 6150 = n59 := z59.symm
            have lc59 := l59.symm
            subst lc59 yc59 zc59
            obtain ⟨rfl, Nq59, eq59⟩ := hQ59
            refine OE.of (fun _ k => st59.trans k) ?_
            have N59 := Fr.app N58 Nq59
            show OE _ p e below s _ _ _ T59 (mkF m 541 #[.val (.int p1), .val (.int p2), .val (.int p3), .val (.int p4), .val (.int cm), .val (.ref t), .val (.ref u), .val (.int (3 : Int32)), .val (.int sm), .val (.ref qa), .val (.int xa), .val (.int ya), .val (.int xb), .val (.int yb), .val (.int xc), .val (.int yc), .val (.int xq), .val (.int yq), .val (.ref b2), .val (.int (1 : Int32)), .val (.int (1 : Int32)), .val (.int (0 : Int32)), .val (.int (0 : Int32)), .val (.int (-1 : Int32)), .val (.int (-1 : Int32)), .val (.int (1 : Int32)), .val (.int (-1 : Int32)), .val (.int r58_r)] [(.int (1 : Int32))])
            refine OE.iload X59 hx hby at_541 rfl ?_
            refine OE.icmpNo X59 hx hby at_543 (teq (by decide : (1 : Int32) = (1 : Int32))).2 ?_
            refine OE.iload X59 hx hby at_546 rfl ?_
            refine OE.iload X59 hx hby at_548 rfl ?_
            refine OE.icmpNo X59 hx hby at_550 (teq (own_f1n h58_hr d55 : r58_r = (-1 : Int32))).2 ?_
            refine OE.iload X59 hx hby at_553 rfl ?_
            refine OE.iconst X59 hx hby at_555 (-1 : Int32) rfl ?_
            refine OE.icmpNo X59 hx hby at_556 (flt (by decide : ¬ ((-1 : Int32) < (-1 : Int32)))).1 ?_
            refine OE.iconst X59 hx hby at_559 (1 : Int32) rfl ?_
            refine OE.goto X59 hx hby (pc' := 564) at_560 (h := ?_)
            refine OE.retN X59 hx (t := .boolean) Bd.returns (by simp) Bd.notSynchronized (hb hby at_564) (Nat.le_trans (Nat.add_le_add_right hcl1 5) (by decide)) (Nat.le_trans (Nat.add_le_add_right hsl1 6150) (by decide)) ?_
            rw [eq59]
            exact ⟨rfl, N59⟩
        · subst e53
          show OE _ p e below s _ _ _ T53 (mkF m 365 #[.val (.int p1), .val (.int p2), .val (.int p3), .val (.int p4), .val (.int cm), .val (.ref t), .val (.ref u), .val (.int (3 : Int32)), .val (.int sm), .val (.ref qa), .val (.int xa), .val (.int ya), .val (.int xb), .val (.int yb), .val (.int xc), .val (.int yc), .val (.int xq), .val (.int yq), .val (.ref b2), .val (.int (1 : Int32)), .val (.int (1 : Int32)), .val (.int (0 : Int32)), .val (.int (0 : Int32)), .val (.int (-1 : Int32)), .val (.int (-1 : Int32)), .val (.int (1 : Int32)), .unset, .unset] [(.int (0 : Int32))])
          refine OE.ifNo X53 hx hby at_365 (teq (by decide : (0 : Int32) = (0 : Int32))).2 ?_
          refine OE.iload X53 hx hby at_368 rfl ?_
          refine OE.ifYes X53 hx hby (pc' := 391) at_370 (teq (by decide : (0 : Int32) = (0 : Int32))).1 (h := ?_)
          refine OE.iload X53 hx hby at_391 rfl ?_
          refine OE.ifNo X53 hx hby at_393 (feq (by decide : ¬ ((1 : Int32) = (0 : Int32)))).1 ?_
          refine OE.aload X53 hx hby at_396 rfl rfl ?_
          refine OE.aload X53 hx hby at_398 rfl rfl ?_
          refine OE.iload X53 hx hby at_400 rfl ?_
          refine OE.iload X53 hx hby at_402 rfl ?_
          obtain ⟨cq60, kq60, qa60, qb60, qc60⟩ := isOf hZ eq53 q49_0
          obtain ⟨_, _, ⟨T60, L60, k60, n60⟩, -, X60, ⟨Lc60, hQ60, l60, y60, z60⟩, st60⟩ := X53.virtualBack hx (y := (⟨"com/example/archerfish/archerfish/index/TokenTable", "add", "([CII)I"⟩ : MethodName)) (z := (⟨"com/example/archerfish/archerfish/index/TokenTable", "add", "([CII)I"⟩ : MethodName)) hown (mvT hZ (hw _ (List.mem_of_getElem? (i := 26) rfl))) (mvT hZ (hw _ (List.mem_of_getElem? (i := 27) rfl))) (notFace_of_selects (args := #[]) (mvT hZ (hw _ (List.mem_of_getElem? (i := 29) rfl)))) (mvT hZ (hw _ (List.mem_of_getElem? (i := 29) rfl))) (mvT hZ (hw _ (List.mem_of_getElem? (i := 28) rfl))) (by decide) (backOf (W := 0) (own_rm5 l Z a0 hw [] b2 t xc yc r4_sl r4_ha r4_st r4_ch r4_ksl r4_kha r4_kst r4_kch kt r49_S1 r49_vsH1 r49_vsS1 r49_vsC1 tl ([(own_sl tl xa ya)] : List (List Int32)) r49_F1 (1 : Int32) (2 : Int32) T49.heap n0 z51 q49_0 q49_1 q49_2 q49_3 q49_4 q49_6 q49_7 q49_8 q49_9 f50 g_b2 g_r4_sl g_r4_ha g_r4_st g_r4_ch ne_b2_r4_sl ne_b2_r4_ha ne_b2_r4_st ne_b2_r4_ch h4_n_sl_ha h4_n_sl_st h4_n_sl_ch h4_n_ha_st h4_n_ha_ch h4_n_st_ch ne_t_r4_ch I49 htl hrC q49_5 (by decide : 1 ≤ 2) rfl (by decide)) hZ (hw _ (List.mem_of_getElem? (i := 30) rfl)) (hw _ (List.mem_of_getElem? (i := 10) rfl)) (by decide) (by decide)) qa60 qc60 (g := (mkF m 404 #[.val (.int p1), .val (.int p2), .val (.int p3), .val (.int p4), .val (.int cm), .val (.ref t), .val (.ref u), .val (.int (3 : Int32)), .val (.int sm), .val (.ref qa), .val (.int xa), .val (.int ya), .val (.int xb), .val (.int yb), .val (.int xc), .val (.int yc), .val (.int xq), .val (.int yq), .val (.ref b2), .val (.int (1 : Int32)), .val (.int (1 : Int32)), .val (.int (0 : Int32)), .val (.int (0 : Int32)), .val (.int (-1 : Int32)), .val (.int (-1 : Int32)), .val (.int (1 : Int32)), .unset, .unset] [(.int yc), (.int xc), (.ref t), (.ref b2)])) rfl (by rw [hml]; rfl) (Steps.refl _) (argsL := [(.ref t), (.int xc), (.int yc)]) (rest := []) (lenOf own_pd0 rfl) rfl (by show 2 * 0 + _ ≤ _; exact Nat.le_of_eq rfl) (hb hby at_404) (fun _ _ => ⟨rfl, eq53, (Nat.le_trans (Nat.add_le_add_right (Nat.add_le_add_right hcl1 5) 0) (by decide)), (Nat.le_trans (Nat.add_le_add_right (Nat.add_le_add_right hsl1 6150) 0) (by decide))⟩)
          dsimp only [Pt.U, Pt.locs, Pt.cells, Pt.slots] at X60 l60 y60 z60 st60 hQ60
          have yc60 : cells1 + 5 = k60 := y60.symm
          have zc60 : slots1 + 6150 = n60 := z60.symm
          have lc60 := l60.symm
          subst lc60 yc60 zc60
          obtain ⟨r60_vsS1, r60_vsH1, r60_vsC1, r60_S1, r60_F1, rfl, Nq60, K60, q60_0, q60_1, q60_2, q60_3, q60_4, q60_5, q60_6, q60_7, q60_8, q60_9, h60_hI⟩ := hQ60
          refine OE.of (fun _ k => st60.trans k) ?_
          have N60 := Fr.app N53 Nq60
          show OE _ p e below s _ _ _ T60 (mkF m 407 #[.val (.int p1), .val (.int p2), .val (.int p3), .val (.int p4), .val (.int cm), .val (.ref t), .val (.ref u), .val (.int (3 : Int32)), .val (.int sm), .val (.ref qa), .val (.int xa), .val (.int ya), .val (.int xb), .val (.int yb), .val (.int xc), .val (.int yc), .val (.int xq), .val (.int yq), .val (.ref b2), .val (.int (1 : Int32)), .val (.int (1 : Int32)), .val (.int (0 : Int32)), .val (.int (0 : Int32)), .val (.int (-1 : Int32)), .val (.int (-1 : Int32)), .val (.int (1 : Int32)), .unset, .unset] [(.int (1 : Int32))])
          have I60 : own_inv [(own_sl tl xa ya), (own_sl tl xc yc)] r60_vsS1 r60_vsH1 r60_vsC1 r60_S1 r60_F1 := h60_hI
          refine OE.iload X60 hx hby at_407 rfl ?_
          refine OE.icmpNo X60 hx hby at_409 (teq (by decide : (1 : Int32) = (1 : Int32))).2 ?_
          refine OE.iconst X60 hx hby at_412 (1 : Int32) rfl ?_
          refine OE.goto X60 hx hby (pc' := 417) at_413 (h := ?_)
          refine OE.istore X60 hx hby at_417 (l' := #[.val (.int p1), .val (.int p2), .val (.int p3), .val (.int p4), .val (.int cm), .val (.ref t), .val (.ref u), .val (.int (3 : Int32)), .val (.int sm), .val (.ref qa), .val (.int xa), .val (.int ya), .val (.int xb), .val (.int yb), .val (.int xc), .val (.int yc), .val (.int xq), .val (.int yq), .val (.ref b2), .val (.int (1 : Int32)), .val (.int (1 : Int32)), .val (.int (0 : Int32)), .val (.int (0 : Int32)), .val (.int (-1 : Int32)), .val (.int (-1 : Int32)), .val (.int (1 : Int32)), .unset, .unset]) rfl ?_
          refine OE.iconst X60 hx hby at_419 (1 : Int32) rfl ?_
          refine OE.istore X60 hx hby at_420 (l' := #[.val (.int p1), .val (.int p2), .val (.int p3), .val (.int p4), .val (.int cm), .val (.ref t), .val (.ref u), .val (.int (3 : Int32)), .val (.int sm), .val (.ref qa), .val (.int xa), .val (.int ya), .val (.int xb), .val (.int yb), .val (.int xc), .val (.int yc), .val (.int xq), .val (.int yq), .val (.ref b2), .val (.int (1 : Int32)), .val (.int (1 : Int32)), .val (.int (0 : Int32)), .val (.int (1 : Int32)), .val (.int (-1 : Int32)), .val (.int (-1 : Int32)), .val (.int (1 : Int32)), .unset, .unset]) rfl ?_
          refine OE.iload X60 hx hby at_422 rfl ?_
          refine OE.istore X60 hx hby at_424 (l' := #[.val (.int p1), .val (.int p2), .val (.int p3), .val (.int p4), .val (.int cm), .val (.ref t), .val (.ref u), .val (.int (3 : Int32)), .val (.int sm), .val (.ref qa), .val (.int xa), .val (.int ya), .val (.int xb), .val (.int yb), .val (.int xc), .val (.int yc), .val (.int xq), .val (.int yq), .val (.ref b2), .val (.int (1 : Int32)), .val (.int (1 : Int32)), .val (.int (0 : Int32)), .val (.int (1 : Int32)), .val (.int (-1 : Int32)), .val (.int (1 : Int32)), .val (.int (1 : Int32)), .unset, .unset]) rfl ?_
          refine OE.iinc X60 hx hby at_426 rfl (l' := #[.val (.int p1), .val (.int p2), .val (.int p3), .val (.int p4), .val (.int cm), .val (.ref t), .val (.ref u), .val (.int (3 : Int32)), .val (.int sm), .val (.ref qa), .val (.int xa), .val (.int ya), .val (.int xb), .val (.int yb), .val (.int xc), .val (.int yc), .val (.int xq), .val (.int yq), .val (.ref b2), .val (.int (1 : Int32)), .val (.int (1 : Int32)), .val (.int (0 : Int32)), .val (.int (1 : Int32)), .val (.int (-1 : Int32)), .val (.int (1 : Int32)), .val (.int ((1 : Int32) + (1 : Int32))), .unset, .unset]) rfl ?_
          rw [(by decide : ((1 : Int32) + (1 : Int32)) = (2 : Int32))]
          refine OE.iconst X60 hx hby at_429 (-1 : Int32) rfl ?_
          refine OE.istore X60 hx hby at_430 (l' := #[.val (.int p1), .val (.int p2), .val (.int p3), .val (.int p4), .val (.int cm), .val (.ref t), .val (.ref u), .val (.int (3 : Int32)), .val (.int sm), .val (.ref qa), .val (.int xa), .val (.int ya), .val (.int xb), .val (.int yb), .val (.int xc), .val (.int yc), .val (.int xq), .val (.int yq), .val (.ref b2), .val (.int (1 : Int32)), .val (.int (1 : Int32)), .val (.int (0 : Int32)), .val (.int (1 : Int32)), .val (.int (-1 : Int32)), .val (.int (1 : Int32)), .val (.int (2 : Int32)), .val (.int (-1 : Int32)), .unset]) rfl ?_
          refine OE.iload X60 hx hby at_432 rfl ?_
          refine OE.ifNo X60 hx hby at_434 (feq (by decide : ¬ ((1 : Int32) = (0 : Int32)))).1 ?_
          refine OE.aload X60 hx hby at_437 rfl rfl ?_
          refine OE.iload X60 hx hby at_439 rfl ?_
          refine OE.iload X60 hx hby at_441 rfl ?_
          refine OE.aload X60 hx hby at_443 rfl rfl ?_
          refine OE.iload X60 hx hby at_445 rfl ?_
          refine OE.iload X60 hx hby at_447 rfl ?_
          have f61 : Arv Z T60.heap qa kq .char (4 : Int32) (List.map Value.int ql) (.int (0 : Int32)) := (((f5.keep K4 (ninS ne_qa_b2 nin0)).keep K49 (ninS ne_qa_b2 (ninS ne_qa_r4_sl (ninS ne_qa_r4_ha (ninS ne_qa_r4_st (ninS ne_qa_r4_ch nin0)))))).keep K60 (ninS ne_qa_b2 (ninS ne_qa_r4_sl (ninS ne_qa_r4_ha (ninS ne_qa_r4_st (ninS ne_qa_r4_ch nin0))))))
          have f62 : Arv Z T60.heap t kt .char (4 : Int32) (List.map Value.int tl) (.int (0 : Int32)) := (f50.keep K60 (ninS ne_t_b2 (ninS ne_t_r4_sl (ninS ne_t_r4_ha (ninS ne_t_r4_st (ninS ne_t_r4_ch nin0))))))
          have z63 : n0 ≤ T60.heap.size := (Nat.le_trans z51 K60.1)
          obtain ⟨_, _, ⟨T64, L64, k64, n64⟩, -, X64, ⟨Lc64, hQ64, l64, y64, z64⟩, st64⟩ := Jvm.LawKit.callS X60 hx (y := (⟨"com/example/archerfish/archerfish/index/TokenTableFindPinLaw", "eq", "([CII[CII)Z"⟩ : MethodName)) hown (mvT hZ (hw _ (List.mem_of_getElem? (i := 46) rfl))) (mvT hZ (hw _ (List.mem_of_getElem? (i := 47) rfl))) (mvT hZ (hw _ (List.mem_of_getElem? (i := 3) rfl))) (mvT hZ (hw _ (List.mem_of_getElem? (i := 48) rfl))) (by decide) (backOf (W := 0) (own_rm8 l Z a0 hw [] qa xq yq t xa ya ql tl kq kt T60.heap n0 z63 f61 f62 hql htl hrQ hrA) hZ (hw _ (List.mem_of_getElem? (i := 48) rfl)) (hw _ (List.mem_of_getElem? (i := 3) rfl)) (by decide) (by decide)) (g := (mkF m 449 #[.val (.int p1), .val (.int p2), .val (.int p3), .val (.int p4), .val (.int cm), .val (.ref t), .val (.ref u), .val (.int (3 : Int32)), .val (.int sm), .val (.ref qa), .val (.int xa), .val (.int ya), .val (.int xb), .val (.int yb), .val (.int xc), .val (.int yc), .val (.int xq), .val (.int yq), .val (.ref b2), .val (.int (1 : Int32)), .val (.int (1 : Int32)), .val (.int (0 : Int32)), .val (.int (1 : Int32)), .val (.int (-1 : Int32)), .val (.int (1 : Int32)), .val (.int (2 : Int32)), .val (.int (-1 : Int32)), .unset] [(.int ya), (.int xa), (.ref t), (.int yq), (.int xq), (.ref qa)])) rfl (by rw [hml]; rfl) (argsL := [(.ref qa), (.int xq), (.int yq), (.ref t), (.int xa), (.int ya)]) (rest := []) (lenOf own_pd5 rfl) rfl (by show 2 * 0 + _ ≤ _; exact Nat.le_of_eq rfl) (hb hby at_449) (fun _ _ => ⟨rfl, rfl, (Nat.le_trans (Nat.add_le_add_right (Nat.add_le_add_right hcl1 5) 0) (by decide)), (Nat.le_trans (Nat.add_le_add_right (Nat.add_le_add_right hsl1 6150) 0) (by decide))⟩)
          dsimp only [Pt.U, Pt.locs, Pt.cells, Pt.slots] at X64 l64 y64 z64 st64 hQ64
          have yc64 : cells1 + 5 = k64 := y64.symm
          have zc64 : slots1 + 6150 = n64 := z64.symm
          have lc64 := l64.symm
          subst lc64 yc64 zc64
          obtain ⟨r64_r, rfl, Nq64, eq64, h64_hr⟩ := hQ64
          refine OE.of (fun _ k => st64 _ k) ?_
          have N64 := Fr.app N60 Nq64
          show OE _ p e below s _ _ _ T64 (mkF m 452 #[.val (.int p1), .val (.int p2), .val (.int p3), .val (.int p4), .val (.int cm), .val (.ref t), .val (.ref u), .val (.int (3 : Int32)), .val (.int sm), .val (.ref qa), .val (.int xa), .val (.int ya), .val (.int xb), .val (.int yb), .val (.int xc), .val (.int yc), .val (.int xq), .val (.int yq), .val (.ref b2), .val (.int (1 : Int32)), .val (.int (1 : Int32)), .val (.int (0 : Int32)), .val (.int (1 : Int32)), .val (.int (-1 : Int32)), .val (.int (1 : Int32)), .val (.int (2 : Int32)), .val (.int (-1 : Int32)), .unset] [(.int r64_r)])
          rcases h64_hr with ⟨e64, d64⟩ | ⟨e64, d64⟩
          · subst e64
            show OE _ p e below s _ _ _ T64 (mkF m 452 #[.val (.int p1), .val (.int p2), .val (.int p3), .val (.int p4), .val (.int cm), .val (.ref t), .val (.ref u), .val (.int (3 : Int32)), .val (.int sm), .val (.ref qa), .val (.int xa), .val (.int ya), .val (.int xb), .val (.int yb), .val (.int xc), .val (.int yc), .val (.int xq), .val (.int yq), .val (.ref b2), .val (.int (1 : Int32)), .val (.int (1 : Int32)), .val (.int (0 : Int32)), .val (.int (1 : Int32)), .val (.int (-1 : Int32)), .val (.int (1 : Int32)), .val (.int (2 : Int32)), .val (.int (-1 : Int32)), .unset] [(.int (1 : Int32))])
            refine OE.ifNo X64 hx hby at_452 (feq (by decide : ¬ ((1 : Int32) = (0 : Int32)))).1 ?_
            refine OE.iconst X64 hx hby at_455 (0 : Int32) rfl ?_
            refine OE.istore X64 hx hby at_456 (l' := #[.val (.int p1), .val (.int p2), .val (.int p3), .val (.int p4), .val (.int cm), .val (.ref t), .val (.ref u), .val (.int (3 : Int32)), .val (.int sm), .val (.ref qa), .val (.int xa), .val (.int ya), .val (.int xb), .val (.int yb), .val (.int xc), .val (.int yc), .val (.int xq), .val (.int yq), .val (.ref b2), .val (.int (1 : Int32)), .val (.int (1 : Int32)), .val (.int (0 : Int32)), .val (.int (1 : Int32)), .val (.int (-1 : Int32)), .val (.int (1 : Int32)), .val (.int (2 : Int32)), .val (.int (0 : Int32)), .unset]) rfl ?_
            refine OE.goto X64 hx hby (pc' := 518) at_458 (h := ?_)
            refine OE.aload X64 hx hby at_518 rfl rfl ?_
            refine OE.aload X64 hx hby at_520 rfl rfl ?_
            refine OE.iload X64 hx hby at_522 rfl ?_
            refine OE.iload X64 hx hby at_524 rfl ?_
            obtain ⟨cq65, kq65, qa65, qb65, qc65⟩ := isOf hZ eq64 q60_0
            obtain ⟨_, _, ⟨T65, L65, k65, n65⟩, -, X65, ⟨Lc65, hQ65, l65, y65, z65⟩, st65⟩ := X64.virtualBack hx (y := (⟨"com/example/archerfish/archerfish/index/TokenTable", "find", "([CII)I"⟩ : MethodName)) (z := (⟨"com/example/archerfish/archerfish/index/TokenTable", "find", "([CII)I"⟩ : MethodName)) hown (mvT hZ (hw _ (List.mem_of_getElem? (i := 49) rfl))) (mvT hZ (hw _ (List.mem_of_getElem? (i := 50) rfl))) (notFace_of_selects (args := #[]) (mvT hZ (hw _ (List.mem_of_getElem? (i := 52) rfl)))) (mvT hZ (hw _ (List.mem_of_getElem? (i := 52) rfl))) (mvT hZ (hw _ (List.mem_of_getElem? (i := 51) rfl))) (by decide) (backOf (W := 0) (own_rm9 l Z a0 hw [] b2 qa xq yq r4_sl r4_ha r4_st r4_ch r4_ksl r4_kha r4_kst r4_kch kq r60_S1 r60_vsH1 r60_vsS1 r60_vsC1 ql ([(own_sl tl xa ya), (own_sl tl xc yc)] : List (List Int32)) r60_F1 T60.heap n0 z63 q60_0 q60_1 q60_2 q60_3 q60_4 q60_6 q60_7 q60_8 q60_9 f61 I60 hql hrQ (by decide : 2 ≤ 3)) hZ (hw _ (List.mem_of_getElem? (i := 53) rfl)) (hw _ (List.mem_of_getElem? (i := 10) rfl)) (by decide) (by decide)) qa65 qc65 (g := (mkF m 526 #[.val (.int p1), .val (.int p2), .val (.int p3), .val (.int p4), .val (.int cm), .val (.ref t), .val (.ref u), .val (.int (3 : Int32)), .val (.int sm), .val (.ref qa), .val (.int xa), .val (.int ya), .val (.int xb), .val (.int yb), .val (.int xc), .val (.int yc), .val (.int xq), .val (.int yq), .val (.ref b2), .val (.int (1 : Int32)), .val (.int (1 : Int32)), .val (.int (0 : Int32)), .val (.int (1 : Int32)), .val (.int (-1 : Int32)), .val (.int (1 : Int32)), .val (.int (2 : Int32)), .val (.int (0 : Int32)), .unset] [(.int yq), (.int xq), (.ref qa), (.ref b2)])) rfl (by rw [hml]; rfl) (Steps.refl _) (argsL := [(.ref qa), (.int xq), (.int yq)]) (rest := []) (lenOf own_pd0 rfl) rfl (by show 2 * 0 + _ ≤ _; exact Nat.le_of_eq rfl) (hb hby at_526) (fun _ _ => ⟨rfl, eq64, (Nat.le_trans (Nat.add_le_add_right (Nat.add_le_add_right hcl1 5) 0) (by decide)), (Nat.le_trans (Nat.add_le_add_right (Nat.add_le_add_right hsl1 6150) 0) (by decide))⟩)
            dsimp only [Pt.U, Pt.locs, Pt.cells, Pt.slots] at X65 l65 y65 z65 st65 hQ65
            have yc65 : cells1 + 5 = k65 := y65.symm
            have zc65 : slots1 + 6150 = n65 := z65.symm
            have lc65 := l65.symm
            subst lc65 yc65 zc65
            obtain ⟨r65_r, rfl, Nq65, eq65, h65_hr⟩ := hQ65
            refine OE.of (fun _ k => st65.trans k) ?_
            have N65 := Fr.app N64 Nq65
            show OE _ p e below s _ _ _ T65 (mkF m 529 #[.val (.int p1), .val (.int p2), .val (.int p3), .val (.int p4), .val (.int cm), .val (.ref t), .val (.ref u), .val (.int (3 : Int32)), .val (.int sm), .val (.ref qa), .val (.int xa), .val (.int ya), .val (.int xb), .val (.int yb), .val (.int xc), .val (.int yc), .val (.int xq), .val (.int yq), .val (.ref b2), .val (.int (1 : Int32)), .val (.int (1 : Int32)), .val (.int (0 : Int32)), .val (.int (1 : Int32)), .val (.int (-1 : Int32)), .val (.int (1 : Int32)), .val (.int (2 : Int32)), .val (.int (0 : Int32)), .unset] [(.int r65_r)])
            refine OE.istore X65 hx hby at_529 (l' := #[.val (.int p1), .val (.int p2), .val (.int p3), .val (.int p4), .val (.int cm), .val (.ref t), .val (.ref u), .val (.int (3 : Int32)), .val (.int sm), .val (.ref qa), .val (.int xa), .val (.int ya), .val (.int xb), .val (.int yb), .val (.int xc), .val (.int yc), .val (.int xq), .val (.int yq), .val (.ref b2), .val (.int (1 : Int32)), .val (.int (1 : Int32)), .val (.int (0 : Int32)), .val (.int (1 : Int32)), .val (.int (-1 : Int32)), .val (.int (1 : Int32)), .val (.int (2 : Int32)), .val (.int (0 : Int32)), .val (.int r65_r)]) rfl ?_
            refine OE.iload X65 hx hby at_531 rfl ?_
            refine OE.ifNo X65 hx hby at_533 (feq (by decide : ¬ ((1 : Int32) = (0 : Int32)))).1 ?_
            refine OE.aload X65 hx hby at_536 rfl rfl ?_
            obtain ⟨cq66, kq66, qa66, qb66, qc66⟩ := isOf hZ eq65 q60_0
            obtain ⟨_, _, ⟨T66, L66, k66, n66⟩, -, X66, ⟨Lc66, hQ66, l66, y66, z66⟩, st66⟩ := X65.virtualBack hx (y := (⟨"com/example/archerfish/archerfish/index/TokenTable", "size", "()I"⟩ : MethodName)) (z := (⟨"com/example/archerfish/archerfish/index/TokenTable", "size", "()I"⟩ : MethodName)) hown (mvT hZ (hw _ (List.mem_of_getElem? (i := 58) rfl))) (mvT hZ (hw _ (List.mem_of_getElem? (i := 59) rfl))) (notFace_of_selects (args := #[]) (mvT hZ (hw _ (List.mem_of_getElem? (i := 61) rfl)))) (mvT hZ (hw _ (List.mem_of_getElem? (i := 61) rfl))) (mvT hZ (hw _ (List.mem_of_getElem? (i := 60) rfl))) (by decide) (backOf (W := 0) (own_rm11 l Z a0 hw [] b2 (2 : Int32) T60.heap n0 z63 q60_5) hZ (hw _ (List.mem_of_getElem? (i := 62) rfl)) (hw _ (List.mem_of_getElem? (i := 10) rfl)) (by decide) (by decide)) qa66 qc66 (g := (mkF m 538 #[.val (.int p1), .val (.int p2), .val (.int p3), .val (.int p4), .val (.int cm), .val (.ref t), .val (.ref u), .val (.int (3 : Int32)), .val (.int sm), .val (.ref qa), .val (.int xa), .val (.int ya), .val (.int xb), .val (.int yb), .val (.int xc), .val (.int yc), .val (.int xq), .val (.int yq), .val (.ref b2), .val (.int (1 : Int32)), .val (.int (1 : Int32)), .val (.int (0 : Int32)), .val (.int (1 : Int32)), .val (.int (-1 : Int32)), .val (.int (1 : Int32)), .val (.int (2 : Int32)), .val (.int (0 : Int32)), .val (.int r65_r)] [(.ref b2)])) rfl (by rw [hml]; rfl) (Steps.refl _) (argsL := []) (rest := []) (lenOf own_pd4 rfl) rfl (by show 2 * 0 + _ ≤ _; exact Nat.le_of_eq rfl) (hb hby at_538) (fun _ _ => ⟨rfl, eq65, (Nat.le_trans (Nat.add_le_add_right (Nat.add_le_add_right hcl1 5) 0) (by decide)), (Nat.le_trans (Nat.add_le_add_right (Nat.add_le_add_right hsl1 6150) 0) (by decide))⟩)
            dsimp only [Pt.U, Pt.locs, Pt.cells, Pt.slots] at X66 l66 y66 z66 st66 hQ66
            have yc66 : cells1 + 5 = k66 := y66.symm
            have zc66 : slots1 + 6150 = n66 := z66.symm
            have lc66 := l66.symm
            subst lc66 yc66 zc66
            obtain ⟨rfl, Nq66, eq66⟩ := hQ66
            refine OE.of (fun _ k => st66.trans k) ?_
            have N66 := Fr.app N65 Nq66
            show OE _ p e below s _ _ _ T66 (mkF m 541 #[.val (.int p1), .val (.int p2), .val (.int p3), .val (.int p4), .val (.int cm), .val (.ref t), .val (.ref u), .val (.int (3 : Int32)), .val (.int sm), .val (.ref qa), .val (.int xa), .val (.int ya), .val (.int xb), .val (.int yb), .val (.int xc), .val (.int yc), .val (.int xq), .val (.int yq), .val (.ref b2), .val (.int (1 : Int32)), .val (.int (1 : Int32)), .val (.int (0 : Int32)), .val (.int (1 : Int32)), .val (.int (-1 : Int32)), .val (.int (1 : Int32)), .val (.int (2 : Int32)), .val (.int (0 : Int32)), .val (.int r65_r)] [(.int (2 : Int32))])
            refine OE.iload X66 hx hby at_541 rfl ?_
            refine OE.icmpNo X66 hx hby at_543 (teq (by decide : (2 : Int32) = (2 : Int32))).2 ?_
            refine OE.iload X66 hx hby at_546 rfl ?_
            refine OE.iload X66 hx hby at_548 rfl ?_
            refine OE.icmpNo X66 hx hby at_550 (teq (own_f2a h65_hr d53  d64 : r65_r = (0 : Int32))).2 ?_
            refine OE.iload X66 hx hby at_553 rfl ?_
            refine OE.iconst X66 hx hby at_555 (-1 : Int32) rfl ?_
            refine OE.icmpNo X66 hx hby at_556 (flt (by decide : ¬ ((0 : Int32) < (-1 : Int32)))).1 ?_
            refine OE.iconst X66 hx hby at_559 (1 : Int32) rfl ?_
            refine OE.goto X66 hx hby (pc' := 564) at_560 (h := ?_)
            refine OE.retN X66 hx (t := .boolean) Bd.returns (by simp) Bd.notSynchronized (hb hby at_564) (Nat.le_trans (Nat.add_le_add_right hcl1 5) (by decide)) (Nat.le_trans (Nat.add_le_add_right hsl1 6150) (by decide)) ?_
            rw [eq66]
            exact ⟨rfl, N66⟩
          · subst e64
            show OE _ p e below s _ _ _ T64 (mkF m 452 #[.val (.int p1), .val (.int p2), .val (.int p3), .val (.int p4), .val (.int cm), .val (.ref t), .val (.ref u), .val (.int (3 : Int32)), .val (.int sm), .val (.ref qa), .val (.int xa), .val (.int ya), .val (.int xb), .val (.int yb), .val (.int xc), .val (.int yc), .val (.int xq), .val (.int yq), .val (.ref b2), .val (.int (1 : Int32)), .val (.int (1 : Int32)), .val (.int (0 : Int32)), .val (.int (1 : Int32)), .val (.int (-1 : Int32)), .val (.int (1 : Int32)), .val (.int (2 : Int32)), .val (.int (-1 : Int32)), .unset] [(.int (0 : Int32))])
            refine OE.ifYes X64 hx hby (pc' := 461) at_452 (teq (by decide : (0 : Int32) = (0 : Int32))).1 (h := ?_)
            refine OE.iload X64 hx hby at_461 rfl ?_
            refine OE.ifYes X64 hx hby (pc' := 491) at_463 (teq (by decide : (0 : Int32) = (0 : Int32))).1 (h := ?_)
            refine OE.iload X64 hx hby at_491 rfl ?_
            refine OE.ifNo X64 hx hby at_493 (feq (by decide : ¬ ((1 : Int32) = (0 : Int32)))).1 ?_
            refine OE.aload X64 hx hby at_496 rfl rfl ?_
            refine OE.iload X64 hx hby at_498 rfl ?_
            refine OE.iload X64 hx hby at_500 rfl ?_
            refine OE.aload X64 hx hby at_502 rfl rfl ?_
            refine OE.iload X64 hx hby at_504 rfl ?_
            refine OE.iload X64 hx hby at_506 rfl ?_
            obtain ⟨_, _, ⟨T67, L67, k67, n67⟩, -, X67, ⟨Lc67, hQ67, l67, y67, z67⟩, st67⟩ := Jvm.LawKit.callS X64 hx (y := (⟨"com/example/archerfish/archerfish/index/TokenTableFindPinLaw", "eq", "([CII[CII)Z"⟩ : MethodName)) hown (mvT hZ (hw _ (List.mem_of_getElem? (i := 46) rfl))) (mvT hZ (hw _ (List.mem_of_getElem? (i := 47) rfl))) (mvT hZ (hw _ (List.mem_of_getElem? (i := 3) rfl))) (mvT hZ (hw _ (List.mem_of_getElem? (i := 48) rfl))) (by decide) (backOf (W := 0) (own_rm8 l Z a0 hw [] qa xq yq t xc yc ql tl kq kt T60.heap n0 z63 f61 f62 hql htl hrQ hrC) hZ (hw _ (List.mem_of_getElem? (i := 48) rfl)) (hw _ (List.mem_of_getElem? (i := 3) rfl)) (by decide) (by decide)) (g := (mkF m 508 #[.val (.int p1), .val (.int p2), .val (.int p3), .val (.int p4), .val (.int cm), .val (.ref t), .val (.ref u), .val (.int (3 : Int32)), .val (.int sm), .val (.ref qa), .val (.int xa), .val (.int ya), .val (.int xb), .val (.int yb), .val (.int xc), .val (.int yc), .val (.int xq), .val (.int yq), .val (.ref b2), .val (.int (1 : Int32)), .val (.int (1 : Int32)), .val (.int (0 : Int32)), .val (.int (1 : Int32)), .val (.int (-1 : Int32)), .val (.int (1 : Int32)), .val (.int (2 : Int32)), .val (.int (-1 : Int32)), .unset] [(.int yc), (.int xc), (.ref t), (.int yq), (.int xq), (.ref qa)])) rfl (by rw [hml]; rfl) (argsL := [(.ref qa), (.int xq), (.int yq), (.ref t), (.int xc), (.int yc)]) (rest := []) (lenOf own_pd5 rfl) rfl (by show 2 * 0 + _ ≤ _; exact Nat.le_of_eq rfl) (hb hby at_508) (fun _ _ => ⟨rfl, eq64, (Nat.le_trans (Nat.add_le_add_right (Nat.add_le_add_right hcl1 5) 0) (by decide)), (Nat.le_trans (Nat.add_le_add_right (Nat.add_le_add_right hsl1 6150) 0) (by decide))⟩)
            dsimp only [Pt.U, Pt.locs, Pt.cells, Pt.slots] at X67 l67 y67 z67 st67 hQ67
            have yc67 : cells1 + 5 = k67 := y67.symm
            have zc67 : slots1 + 6150 = n67 := z67.symm
            have lc67 := l67.symm
            subst lc67 yc67 zc67
            obtain ⟨r67_r, rfl, Nq67, eq67, h67_hr⟩ := hQ67
            refine OE.of (fun _ k => st67 _ k) ?_
            have N67 := Fr.app N64 Nq67
            show OE _ p e below s _ _ _ T67 (mkF m 511 #[.val (.int p1), .val (.int p2), .val (.int p3), .val (.int p4), .val (.int cm), .val (.ref t), .val (.ref u), .val (.int (3 : Int32)), .val (.int sm), .val (.ref qa), .val (.int xa), .val (.int ya), .val (.int xb), .val (.int yb), .val (.int xc), .val (.int yc), .val (.int xq), .val (.int yq), .val (.ref b2), .val (.int (1 : Int32)), .val (.int (1 : Int32)), .val (.int (0 : Int32)), .val (.int (1 : Int32)), .val (.int (-1 : Int32)), .val (.int (1 : Int32)), .val (.int (2 : Int32)), .val (.int (-1 : Int32)), .unset] [(.int r67_r)])
            rcases h67_hr with ⟨e67, d67⟩ | ⟨e67, d67⟩
            · subst e67
              show OE _ p e below s _ _ _ T67 (mkF m 511 #[.val (.int p1), .val (.int p2), .val (.int p3), .val (.int p4), .val (.int cm), .val (.ref t), .val (.ref u), .val (.int (3 : Int32)), .val (.int sm), .val (.ref qa), .val (.int xa), .val (.int ya), .val (.int xb), .val (.int yb), .val (.int xc), .val (.int yc), .val (.int xq), .val (.int yq), .val (.ref b2), .val (.int (1 : Int32)), .val (.int (1 : Int32)), .val (.int (0 : Int32)), .val (.int (1 : Int32)), .val (.int (-1 : Int32)), .val (.int (1 : Int32)), .val (.int (2 : Int32)), .val (.int (-1 : Int32)), .unset] [(.int (1 : Int32))])
              refine OE.ifNo X67 hx hby at_511 (feq (by decide : ¬ ((1 : Int32) = (0 : Int32)))).1 ?_
              refine OE.iload X67 hx hby at_514 rfl ?_
              refine OE.istore X67 hx hby at_516 (l' := #[.val (.int p1), .val (.int p2), .val (.int p3), .val (.int p4), .val (.int cm), .val (.ref t), .val (.ref u), .val (.int (3 : Int32)), .val (.int sm), .val (.ref qa), .val (.int xa), .val (.int ya), .val (.int xb), .val (.int yb), .val (.int xc), .val (.int yc), .val (.int xq), .val (.int yq), .val (.ref b2), .val (.int (1 : Int32)), .val (.int (1 : Int32)), .val (.int (0 : Int32)), .val (.int (1 : Int32)), .val (.int (-1 : Int32)), .val (.int (1 : Int32)), .val (.int (2 : Int32)), .val (.int (1 : Int32)), .unset]) rfl ?_
              refine OE.aload X67 hx hby at_518 rfl rfl ?_
              refine OE.aload X67 hx hby at_520 rfl rfl ?_
              refine OE.iload X67 hx hby at_522 rfl ?_
              refine OE.iload X67 hx hby at_524 rfl ?_
              obtain ⟨cq68, kq68, qa68, qb68, qc68⟩ := isOf hZ eq67 q60_0
              obtain ⟨_, _, ⟨T68, L68, k68, n68⟩, -, X68, ⟨Lc68, hQ68, l68, y68, z68⟩, st68⟩ := X67.virtualBack hx (y := (⟨"com/example/archerfish/archerfish/index/TokenTable", "find", "([CII)I"⟩ : MethodName)) (z := (⟨"com/example/archerfish/archerfish/index/TokenTable", "find", "([CII)I"⟩ : MethodName)) hown (mvT hZ (hw _ (List.mem_of_getElem? (i := 49) rfl))) (mvT hZ (hw _ (List.mem_of_getElem? (i := 50) rfl))) (notFace_of_selects (args := #[]) (mvT hZ (hw _ (List.mem_of_getElem? (i := 52) rfl)))) (mvT hZ (hw _ (List.mem_of_getElem? (i := 52) rfl))) (mvT hZ (hw _ (List.mem_of_getElem? (i := 51) rfl))) (by decide) (backOf (W := 0) (own_rm9 l Z a0 hw [] b2 qa xq yq r4_sl r4_ha r4_st r4_ch r4_ksl r4_kha r4_kst r4_kch kq r60_S1 r60_vsH1 r60_vsS1 r60_vsC1 ql ([(own_sl tl xa ya), (own_sl tl xc yc)] : List (List Int32)) r60_F1 T60.heap n0 z63 q60_0 q60_1 q60_2 q60_3 q60_4 q60_6 q60_7 q60_8 q60_9 f61 I60 hql hrQ (by decide : 2 ≤ 3)) hZ (hw _ (List.mem_of_getElem? (i := 53) rfl)) (hw _ (List.mem_of_getElem? (i := 10) rfl)) (by decide) (by decide)) qa68 qc68 (g := (mkF m 526 #[.val (.int p1), .val (.int p2), .val (.int p3), .val (.int p4), .val (.int cm), .val (.ref t), .val (.ref u), .val (.int (3 : Int32)), .val (.int sm), .val (.ref qa), .val (.int xa), .val (.int ya), .val (.int xb), .val (.int yb), .val (.int xc), .val (.int yc), .val (.int xq), .val (.int yq), .val (.ref b2), .val (.int (1 : Int32)), .val (.int (1 : Int32)), .val (.int (0 : Int32)), .val (.int (1 : Int32)), .val (.int (-1 : Int32)), .val (.int (1 : Int32)), .val (.int (2 : Int32)), .val (.int (1 : Int32)), .unset] [(.int yq), (.int xq), (.ref qa), (.ref b2)])) rfl (by rw [hml]; rfl) (Steps.refl _) (argsL := [(.ref qa), (.int xq), (.int yq)]) (rest := []) (lenOf own_pd0 rfl) rfl (by show 2 * 0 + _ ≤ _; exact Nat.le_of_eq rfl) (hb hby at_526) (fun _ _ => ⟨rfl, eq67, (Nat.le_trans (Nat.add_le_add_right (Nat.add_le_add_right hcl1 5) 0) (by decide)), (Nat.le_trans (Nat.add_le_add_right (Nat.add_le_add_right hsl1 6150) 0) (by decide))⟩)
              dsimp only [Pt.U, Pt.locs, Pt.cells, Pt.slots] at X68 l68 y68 z68 st68 hQ68
              have yc68 : cells1 + 5 = k68 := y68.symm
              have zc68 : slots1 + 6150 = n68 := z68.symm
              have lc68 := l68.symm
              subst lc68 yc68 zc68
              obtain ⟨r68_r, rfl, Nq68, eq68, h68_hr⟩ := hQ68
              refine OE.of (fun _ k => st68.trans k) ?_
              have N68 := Fr.app N67 Nq68
              show OE _ p e below s _ _ _ T68 (mkF m 529 #[.val (.int p1), .val (.int p2), .val (.int p3), .val (.int p4), .val (.int cm), .val (.ref t), .val (.ref u), .val (.int (3 : Int32)), .val (.int sm), .val (.ref qa), .val (.int xa), .val (.int ya), .val (.int xb), .val (.int yb), .val (.int xc), .val (.int yc), .val (.int xq), .val (.int yq), .val (.ref b2), .val (.int (1 : Int32)), .val (.int (1 : Int32)), .val (.int (0 : Int32)), .val (.int (1 : Int32)), .val (.int (-1 : Int32)), .val (.int (1 : Int32)), .val (.int (2 : Int32)), .val (.int (1 : Int32)), .unset] [(.int r68_r)])
              refine OE.istore X68 hx hby at_529 (l' := #[.val (.int p1), .val (.int p2), .val (.int p3), .val (.int p4), .val (.int cm), .val (.ref t), .val (.ref u), .val (.int (3 : Int32)), .val (.int sm), .val (.ref qa), .val (.int xa), .val (.int ya), .val (.int xb), .val (.int yb), .val (.int xc), .val (.int yc), .val (.int xq), .val (.int yq), .val (.ref b2), .val (.int (1 : Int32)), .val (.int (1 : Int32)), .val (.int (0 : Int32)), .val (.int (1 : Int32)), .val (.int (-1 : Int32)), .val (.int (1 : Int32)), .val (.int (2 : Int32)), .val (.int (1 : Int32)), .val (.int r68_r)]) rfl ?_
              refine OE.iload X68 hx hby at_531 rfl ?_
              refine OE.ifNo X68 hx hby at_533 (feq (by decide : ¬ ((1 : Int32) = (0 : Int32)))).1 ?_
              refine OE.aload X68 hx hby at_536 rfl rfl ?_
              obtain ⟨cq69, kq69, qa69, qb69, qc69⟩ := isOf hZ eq68 q60_0
              obtain ⟨_, _, ⟨T69, L69, k69, n69⟩, -, X69, ⟨Lc69, hQ69, l69, y69, z69⟩, st69⟩ := X68.virtualBack hx (y := (⟨"com/example/archerfish/archerfish/index/TokenTable", "size", "()I"⟩ : MethodName)) (z := (⟨"com/example/archerfish/archerfish/index/TokenTable", "size", "()I"⟩ : MethodName)) hown (mvT hZ (hw _ (List.mem_of_getElem? (i := 58) rfl))) (mvT hZ (hw _ (List.mem_of_getElem? (i := 59) rfl))) (notFace_of_selects (args := #[]) (mvT hZ (hw _ (List.mem_of_getElem? (i := 61) rfl)))) (mvT hZ (hw _ (List.mem_of_getElem? (i := 61) rfl))) (mvT hZ (hw _ (List.mem_of_getElem? (i := 60) rfl))) (by decide) (backOf (W := 0) (own_rm11 l Z a0 hw [] b2 (2 : Int32) T60.heap n0 z63 q60_5) hZ (hw _ (List.mem_of_getElem? (i := 62) rfl)) (hw _ (List.mem_of_getElem? (i := 10) rfl)) (by decide) (by decide)) qa69 qc69 (g := (mkF m 538 #[.val (.int p1), .val (.int p2), .val (.int p3), .val (.int p4), .val (.int cm), .val (.ref t), .val (.ref u), .val (.int (3 : Int32)), .val (.int sm), .val (.ref qa), .val (.int xa), .val (.int ya), .val (.int xb), .val (.int yb), .val (.int xc), .val (.int yc), .val (.int xq), .val (.int yq), .val (.ref b2), .val (.int (1 : Int32)), .val (.int (1 : Int32)), .val (.int (0 : Int32)), .val (.int (1 : Int32)), .val (.int (-1 : Int32)), .val (.int (1 : Int32)), .val (.int (2 : Int32)), .val (.int (1 : Int32)), .val (.int r68_r)] [(.ref b2)])) rfl (by rw [hml]; rfl) (Steps.refl _) (argsL := []) (rest := []) (lenOf own_pd4 rfl) rfl (by show 2 * 0 + _ ≤ _; exact Nat.le_of_eq rfl) (hb hby at_538) (fun _ _ => ⟨rfl, eq68, (Nat.le_trans (Nat.add_le_add_right (Nat.add_le_add_right hcl1 5) 0) (by decide)), (Nat.le_trans (Nat.add_le_add_right (Nat.add_le_add_right hsl1 6150) 0) (by decide))⟩)
              dsimp only [Pt.U, Pt.locs, Pt.cells, Pt.slots] at X69 l69 y69 z69 st69 hQ69
              have yc69 : cells1 + 5 = k69 := y69.symm
              have zc69 : slots1 + 6150 = n69 := z69.symm
              have lc69 := l69.symm
              subst lc69 yc69 zc69
              obtain ⟨rfl, Nq69, eq69⟩ := hQ69
              refine OE.of (fun _ k => st69.trans k) ?_
              have N69 := Fr.app N68 Nq69
              show OE _ p e below s _ _ _ T69 (mkF m 541 #[.val (.int p1), .val (.int p2), .val (.int p3), .val (.int p4), .val (.int cm), .val (.ref t), .val (.ref u), .val (.int (3 : Int32)), .val (.int sm), .val (.ref qa), .val (.int xa), .val (.int ya), .val (.int xb), .val (.int yb), .val (.int xc), .val (.int yc), .val (.int xq), .val (.int yq), .val (.ref b2), .val (.int (1 : Int32)), .val (.int (1 : Int32)), .val (.int (0 : Int32)), .val (.int (1 : Int32)), .val (.int (-1 : Int32)), .val (.int (1 : Int32)), .val (.int (2 : Int32)), .val (.int (1 : Int32)), .val (.int r68_r)] [(.int (2 : Int32))])
              refine OE.iload X69 hx hby at_541 rfl ?_
              refine OE.icmpNo X69 hx hby at_543 (teq (by decide : (2 : Int32) = (2 : Int32))).2 ?_
              refine OE.iload X69 hx hby at_546 rfl ?_
              refine OE.iload X69 hx hby at_548 rfl ?_
              refine OE.icmpNo X69 hx hby at_550 (teq (own_f2b h68_hr  d64 d67 : r68_r = (1 : Int32))).2 ?_
              refine OE.iload X69 hx hby at_553 rfl ?_
              refine OE.iconst X69 hx hby at_555 (-1 : Int32) rfl ?_
              refine OE.icmpNo X69 hx hby at_556 (flt (by decide : ¬ ((1 : Int32) < (-1 : Int32)))).1 ?_
              refine OE.iconst X69 hx hby at_559 (1 : Int32) rfl ?_
              refine OE.goto X69 hx hby (pc' := 564) at_560 (h := ?_)
              refine OE.retN X69 hx (t := .boolean) Bd.returns (by simp) Bd.notSynchronized (hb hby at_564) (Nat.le_trans (Nat.add_le_add_right hcl1 5) (by decide)) (Nat.le_trans (Nat.add_le_add_right hsl1 6150) (by decide)) ?_
              rw [eq69]
              exact ⟨rfl, N69⟩
            · subst e67
              show OE _ p e below s _ _ _ T67 (mkF m 511 #[.val (.int p1), .val (.int p2), .val (.int p3), .val (.int p4), .val (.int cm), .val (.ref t), .val (.ref u), .val (.int (3 : Int32)), .val (.int sm), .val (.ref qa), .val (.int xa), .val (.int ya), .val (.int xb), .val (.int yb), .val (.int xc), .val (.int yc), .val (.int xq), .val (.int yq), .val (.ref b2), .val (.int (1 : Int32)), .val (.int (1 : Int32)), .val (.int (0 : Int32)), .val (.int (1 : Int32)), .val (.int (-1 : Int32)), .val (.int (1 : Int32)), .val (.int (2 : Int32)), .val (.int (-1 : Int32)), .unset] [(.int (0 : Int32))])
              refine OE.ifYes X67 hx hby (pc' := 518) at_511 (teq (by decide : (0 : Int32) = (0 : Int32))).1 (h := ?_)
              refine OE.aload X67 hx hby at_518 rfl rfl ?_
              refine OE.aload X67 hx hby at_520 rfl rfl ?_
              refine OE.iload X67 hx hby at_522 rfl ?_
              refine OE.iload X67 hx hby at_524 rfl ?_
              obtain ⟨cq70, kq70, qa70, qb70, qc70⟩ := isOf hZ eq67 q60_0
              obtain ⟨_, _, ⟨T70, L70, k70, n70⟩, -, X70, ⟨Lc70, hQ70, l70, y70, z70⟩, st70⟩ := X67.virtualBack hx (y := (⟨"com/example/archerfish/archerfish/index/TokenTable", "find", "([CII)I"⟩ : MethodName)) (z := (⟨"com/example/archerfish/archerfish/index/TokenTable", "find", "([CII)I"⟩ : MethodName)) hown (mvT hZ (hw _ (List.mem_of_getElem? (i := 49) rfl))) (mvT hZ (hw _ (List.mem_of_getElem? (i := 50) rfl))) (notFace_of_selects (args := #[]) (mvT hZ (hw _ (List.mem_of_getElem? (i := 52) rfl)))) (mvT hZ (hw _ (List.mem_of_getElem? (i := 52) rfl))) (mvT hZ (hw _ (List.mem_of_getElem? (i := 51) rfl))) (by decide) (backOf (W := 0) (own_rm9 l Z a0 hw [] b2 qa xq yq r4_sl r4_ha r4_st r4_ch r4_ksl r4_kha r4_kst r4_kch kq r60_S1 r60_vsH1 r60_vsS1 r60_vsC1 ql ([(own_sl tl xa ya), (own_sl tl xc yc)] : List (List Int32)) r60_F1 T60.heap n0 z63 q60_0 q60_1 q60_2 q60_3 q60_4 q60_6 q60_7 q60_8 q60_9 f61 I60 hql hrQ (by decide : 2 ≤ 3)) hZ (hw _ (List.mem_of_getElem? (i := 53) rfl)) (hw _ (List.mem_of_getElem? (i := 10) rfl)) (by decide) (by decide)) qa70 qc70 (g := (mkF m 526 #[.val (.int p1), .val (.int p2), .val (.int p3), .val (.int p4), .val (.int cm), .val (.ref t), .val (.ref u), .val (.int (3 : Int32)), .val (.int sm), .val (.ref qa), .val (.int xa), .val (.int ya), .val (.int xb), .val (.int yb), .val (.int xc), .val (.int yc), .val (.int xq), .val (.int yq), .val (.ref b2), .val (.int (1 : Int32)), .val (.int (1 : Int32)), .val (.int (0 : Int32)), .val (.int (1 : Int32)), .val (.int (-1 : Int32)), .val (.int (1 : Int32)), .val (.int (2 : Int32)), .val (.int (-1 : Int32)), .unset] [(.int yq), (.int xq), (.ref qa), (.ref b2)])) rfl (by rw [hml]; rfl) (Steps.refl _) (argsL := [(.ref qa), (.int xq), (.int yq)]) (rest := []) (lenOf own_pd0 rfl) rfl (by show 2 * 0 + _ ≤ _; exact Nat.le_of_eq rfl) (hb hby at_526) (fun _ _ => ⟨rfl, eq67, (Nat.le_trans (Nat.add_le_add_right (Nat.add_le_add_right hcl1 5) 0) (by decide)), (Nat.le_trans (Nat.add_le_add_right (Nat.add_le_add_right hsl1 6150) 0) (by decide))⟩)
              dsimp only [Pt.U, Pt.locs, Pt.cells, Pt.slots] at X70 l70 y70 z70 st70 hQ70
              have yc70 : cells1 + 5 = k70 := y70.symm
              have zc70 : slots1 + 6150 = n70 := z70.symm
              have lc70 := l70.symm
              subst lc70 yc70 zc70
              obtain ⟨r70_r, rfl, Nq70, eq70, h70_hr⟩ := hQ70
              refine OE.of (fun _ k => st70.trans k) ?_
              have N70 := Fr.app N67 Nq70
              show OE _ p e below s _ _ _ T70 (mkF m 529 #[.val (.int p1), .val (.int p2), .val (.int p3), .val (.int p4), .val (.int cm), .val (.ref t), .val (.ref u), .val (.int (3 : Int32)), .val (.int sm), .val (.ref qa), .val (.int xa), .val (.int ya), .val (.int xb), .val (.int yb), .val (.int xc), .val (.int yc), .val (.int xq), .val (.int yq), .val (.ref b2), .val (.int (1 : Int32)), .val (.int (1 : Int32)), .val (.int (0 : Int32)), .val (.int (1 : Int32)), .val (.int (-1 : Int32)), .val (.int (1 : Int32)), .val (.int (2 : Int32)), .val (.int (-1 : Int32)), .unset] [(.int r70_r)])
              refine OE.istore X70 hx hby at_529 (l' := #[.val (.int p1), .val (.int p2), .val (.int p3), .val (.int p4), .val (.int cm), .val (.ref t), .val (.ref u), .val (.int (3 : Int32)), .val (.int sm), .val (.ref qa), .val (.int xa), .val (.int ya), .val (.int xb), .val (.int yb), .val (.int xc), .val (.int yc), .val (.int xq), .val (.int yq), .val (.ref b2), .val (.int (1 : Int32)), .val (.int (1 : Int32)), .val (.int (0 : Int32)), .val (.int (1 : Int32)), .val (.int (-1 : Int32)), .val (.int (1 : Int32)), .val (.int (2 : Int32)), .val (.int (-1 : Int32)), .val (.int r70_r)]) rfl ?_
              refine OE.iload X70 hx hby at_531 rfl ?_
              refine OE.ifNo X70 hx hby at_533 (feq (by decide : ¬ ((1 : Int32) = (0 : Int32)))).1 ?_
              refine OE.aload X70 hx hby at_536 rfl rfl ?_
              obtain ⟨cq71, kq71, qa71, qb71, qc71⟩ := isOf hZ eq70 q60_0
              obtain ⟨_, _, ⟨T71, L71, k71, n71⟩, -, X71, ⟨Lc71, hQ71, l71, y71, z71⟩, st71⟩ := X70.virtualBack hx (y := (⟨"com/example/archerfish/archerfish/index/TokenTable", "size", "()I"⟩ : MethodName)) (z := (⟨"com/example/archerfish/archerfish/index/TokenTable", "size", "()I"⟩ : MethodName)) hown (mvT hZ (hw _ (List.mem_of_getElem? (i := 58) rfl))) (mvT hZ (hw _ (List.mem_of_getElem? (i := 59) rfl))) (notFace_of_selects (args := #[]) (mvT hZ (hw _ (List.mem_of_getElem? (i := 61) rfl)))) (mvT hZ (hw _ (List.mem_of_getElem? (i := 61) rfl))) (mvT hZ (hw _ (List.mem_of_getElem? (i := 60) rfl))) (by decide) (backOf (W := 0) (own_rm11 l Z a0 hw [] b2 (2 : Int32) T60.heap n0 z63 q60_5) hZ (hw _ (List.mem_of_getElem? (i := 62) rfl)) (hw _ (List.mem_of_getElem? (i := 10) rfl)) (by decide) (by decide)) qa71 qc71 (g := (mkF m 538 #[.val (.int p1), .val (.int p2), .val (.int p3), .val (.int p4), .val (.int cm), .val (.ref t), .val (.ref u), .val (.int (3 : Int32)), .val (.int sm), .val (.ref qa), .val (.int xa), .val (.int ya), .val (.int xb), .val (.int yb), .val (.int xc), .val (.int yc), .val (.int xq), .val (.int yq), .val (.ref b2), .val (.int (1 : Int32)), .val (.int (1 : Int32)), .val (.int (0 : Int32)), .val (.int (1 : Int32)), .val (.int (-1 : Int32)), .val (.int (1 : Int32)), .val (.int (2 : Int32)), .val (.int (-1 : Int32)), .val (.int r70_r)] [(.ref b2)])) rfl (by rw [hml]; rfl) (Steps.refl _) (argsL := []) (rest := []) (lenOf own_pd4 rfl) rfl (by show 2 * 0 + _ ≤ _; exact Nat.le_of_eq rfl) (hb hby at_538) (fun _ _ => ⟨rfl, eq70, (Nat.le_trans (Nat.add_le_add_right (Nat.add_le_add_right hcl1 5) 0) (by decide)), (Nat.le_trans (Nat.add_le_add_right (Nat.add_le_add_right hsl1 6150) 0) (by decide))⟩)
              dsimp only [Pt.U, Pt.locs, Pt.cells, Pt.slots] at X71 l71 y71 z71 st71 hQ71
              have yc71 : cells1 + 5 = k71 := y71.symm
              have zc71 : slots1 + 6150 = n71 := z71.symm
              have lc71 := l71.symm
              subst lc71 yc71 zc71
              obtain ⟨rfl, Nq71, eq71⟩ := hQ71
              refine OE.of (fun _ k => st71.trans k) ?_
              have N71 := Fr.app N70 Nq71
              show OE _ p e below s _ _ _ T71 (mkF m 541 #[.val (.int p1), .val (.int p2), .val (.int p3), .val (.int p4), .val (.int cm), .val (.ref t), .val (.ref u), .val (.int (3 : Int32)), .val (.int sm), .val (.ref qa), .val (.int xa), .val (.int ya), .val (.int xb), .val (.int yb), .val (.int xc), .val (.int yc), .val (.int xq), .val (.int yq), .val (.ref b2), .val (.int (1 : Int32)), .val (.int (1 : Int32)), .val (.int (0 : Int32)), .val (.int (1 : Int32)), .val (.int (-1 : Int32)), .val (.int (1 : Int32)), .val (.int (2 : Int32)), .val (.int (-1 : Int32)), .val (.int r70_r)] [(.int (2 : Int32))])
              refine OE.iload X71 hx hby at_541 rfl ?_
              refine OE.icmpNo X71 hx hby at_543 (teq (by decide : (2 : Int32) = (2 : Int32))).2 ?_
              refine OE.iload X71 hx hby at_546 rfl ?_
              refine OE.iload X71 hx hby at_548 rfl ?_
              refine OE.icmpNo X71 hx hby at_550 (teq (own_f2n h70_hr d64 d67 : r70_r = (-1 : Int32))).2 ?_
              refine OE.iload X71 hx hby at_553 rfl ?_
              refine OE.iconst X71 hx hby at_555 (-1 : Int32) rfl ?_
              refine OE.icmpNo X71 hx hby at_556 (flt (by decide : ¬ ((-1 : Int32) < (-1 : Int32)))).1 ?_
              refine OE.iconst X71 hx hby at_559 (1 : Int32) rfl ?_
              refine OE.goto X71 hx hby (pc' := 564) at_560 (h := ?_)
              refine OE.retN X71 hx (t := .boolean) Bd.returns (by simp) Bd.notSynchronized (hb hby at_564) (Nat.le_trans (Nat.add_le_add_right hcl1 5) (by decide)) (Nat.le_trans (Nat.add_le_add_right hsl1 6150) (by decide)) ?_
              rw [eq71]
              exact ⟨rfl, N71⟩
      · subst e52
        show OE _ p e below s _ _ _ T52 (mkF m 303 #[.val (.int p1), .val (.int p2), .val (.int p3), .val (.int p4), .val (.int cm), .val (.ref t), .val (.ref u), .val (.int (3 : Int32)), .val (.int sm), .val (.ref qa), .val (.int xa), .val (.int ya), .val (.int xb), .val (.int yb), .val (.int xc), .val (.int yc), .val (.int xq), .val (.int yq), .val (.ref b2), .val (.int (1 : Int32)), .val (.int (1 : Int32)), .val (.int (0 : Int32)), .val (.int (0 : Int32)), .val (.int (-1 : Int32)), .val (.int (-1 : Int32)), .val (.int (1 : Int32)), .unset, .unset] [(.int (0 : Int32))])
        refine OE.ifNo X52 hx hby at_303 (teq (by decide : (0 : Int32) = (0 : Int32))).2 ?_
        refine OE.iload X52 hx hby at_306 rfl ?_
        refine OE.ifNo X52 hx hby at_308 (feq (by decide : ¬ ((1 : Int32) = (0 : Int32)))).1 ?_
        refine OE.aload X52 hx hby at_311 rfl rfl ?_
        refine OE.aload X52 hx hby at_313 rfl rfl ?_
        refine OE.iload X52 hx hby at_315 rfl ?_
        refine OE.iload X52 hx hby at_317 rfl ?_
        obtain ⟨cq72, kq72, qa72, qb72, qc72⟩ := isOf hZ eq52 q49_0
        obtain ⟨_, _, ⟨T72, L72, k72, n72⟩, -, X72, ⟨Lc72, hQ72, l72, y72, z72⟩, st72⟩ := X52.virtualBack hx (y := (⟨"com/example/archerfish/archerfish/index/TokenTable", "add", "([CII)I"⟩ : MethodName)) (z := (⟨"com/example/archerfish/archerfish/index/TokenTable", "add", "([CII)I"⟩ : MethodName)) hown (mvT hZ (hw _ (List.mem_of_getElem? (i := 26) rfl))) (mvT hZ (hw _ (List.mem_of_getElem? (i := 27) rfl))) (notFace_of_selects (args := #[]) (mvT hZ (hw _ (List.mem_of_getElem? (i := 29) rfl)))) (mvT hZ (hw _ (List.mem_of_getElem? (i := 29) rfl))) (mvT hZ (hw _ (List.mem_of_getElem? (i := 28) rfl))) (by decide) (backOf (W := 0) (own_rm5 l Z a0 hw [] b2 t xb yb r4_sl r4_ha r4_st r4_ch r4_ksl r4_kha r4_kst r4_kch kt r49_S1 r49_vsH1 r49_vsS1 r49_vsC1 tl ([(own_sl tl xa ya)] : List (List Int32)) r49_F1 (1 : Int32) (2 : Int32) T49.heap n0 z51 q49_0 q49_1 q49_2 q49_3 q49_4 q49_6 q49_7 q49_8 q49_9 f50 g_b2 g_r4_sl g_r4_ha g_r4_st g_r4_ch ne_b2_r4_sl ne_b2_r4_ha ne_b2_r4_st ne_b2_r4_ch h4_n_sl_ha h4_n_sl_st h4_n_sl_ch h4_n_ha_st h4_n_ha_ch h4_n_st_ch ne_t_r4_ch I49 htl hrB q49_5 (by decide : 1 ≤ 2) rfl (by decide)) hZ (hw _ (List.mem_of_getElem? (i := 30) rfl)) (hw _ (List.mem_of_getElem? (i := 10) rfl)) (by decide) (by decide)) qa72 qc72 (g := (mkF m 319 #[.val (.int p1), .val (.int p2), .val (.int p3), .val (.int p4), .val (.int cm), .val (.ref t), .val (.ref u), .val (.int (3 : Int32)), .val (.int sm), .val (.ref qa), .val (.int xa), .val (.int ya), .val (.int xb), .val (.int yb), .val (.int xc), .val (.int yc), .val (.int xq), .val (.int yq), .val (.ref b2), .val (.int (1 : Int32)), .val (.int (1 : Int32)), .val (.int (0 : Int32)), .val (.int (0 : Int32)), .val (.int (-1 : Int32)), .val (.int (-1 : Int32)), .val (.int (1 : Int32)), .unset, .unset] [(.int yb), (.int xb), (.ref t), (.ref b2)])) rfl (by rw [hml]; rfl) (Steps.refl _) (argsL := [(.ref t), (.int xb), (.int yb)]) (rest := []) (lenOf own_pd0 rfl) rfl (by show 2 * 0 + _ ≤ _; exact Nat.le_of_eq rfl) (hb hby at_319) (fun _ _ => ⟨rfl, eq52, (Nat.le_trans (Nat.add_le_add_right (Nat.add_le_add_right hcl1 5) 0) (by decide)), (Nat.le_trans (Nat.add_le_add_right (Nat.add_le_add_right hsl1 6150) 0) (by decide))⟩)
        dsimp only [Pt.U, Pt.locs, Pt.cells, Pt.slots] at X72 l72 y72 z72 st72 hQ72
        have yc72 : cells1 + 5 = k72 := y72.symm
        have zc72 : slots1 + 6150 = n72 := z72.symm
        have lc72 := l72.symm
        subst lc72 yc72 zc72
        obtain ⟨r72_vsS1, r72_vsH1, r72_vsC1, r72_S1, r72_F1, rfl, Nq72, K72, q72_0, q72_1, q72_2, q72_3, q72_4, q72_5, q72_6, q72_7, q72_8, q72_9, h72_hI⟩ := hQ72
        refine OE.of (fun _ k => st72.trans k) ?_
        have N72 := Fr.app N52 Nq72
        show OE _ p e below s _ _ _ T72 (mkF m 322 #[.val (.int p1), .val (.int p2), .val (.int p3), .val (.int p4), .val (.int cm), .val (.ref t), .val (.ref u), .val (.int (3 : Int32)), .val (.int sm), .val (.ref qa), .val (.int xa), .val (.int ya), .val (.int xb), .val (.int yb), .val (.int xc), .val (.int yc), .val (.int xq), .val (.int yq), .val (.ref b2), .val (.int (1 : Int32)), .val (.int (1 : Int32)), .val (.int (0 : Int32)), .val (.int (0 : Int32)), .val (.int (-1 : Int32)), .val (.int (-1 : Int32)), .val (.int (1 : Int32)), .unset, .unset] [(.int (1 : Int32))])
        have I72 : own_inv [(own_sl tl xa ya), (own_sl tl xb yb)] r72_vsS1 r72_vsH1 r72_vsC1 r72_S1 r72_F1 := h72_hI
        refine OE.iload X72 hx hby at_322 rfl ?_
        refine OE.icmpNo X72 hx hby at_324 (teq (by decide : (1 : Int32) = (1 : Int32))).2 ?_
        refine OE.iconst X72 hx hby at_327 (1 : Int32) rfl ?_
        refine OE.goto X72 hx hby (pc' := 332) at_328 (h := ?_)
        refine OE.istore X72 hx hby at_332 (l' := #[.val (.int p1), .val (.int p2), .val (.int p3), .val (.int p4), .val (.int cm), .val (.ref t), .val (.ref u), .val (.int (3 : Int32)), .val (.int sm), .val (.ref qa), .val (.int xa), .val (.int ya), .val (.int xb), .val (.int yb), .val (.int xc), .val (.int yc), .val (.int xq), .val (.int yq), .val (.ref b2), .val (.int (1 : Int32)), .val (.int (1 : Int32)), .val (.int (0 : Int32)), .val (.int (0 : Int32)), .val (.int (-1 : Int32)), .val (.int (-1 : Int32)), .val (.int (1 : Int32)), .unset, .unset]) rfl ?_
        refine OE.iconst X72 hx hby at_334 (1 : Int32) rfl ?_
        refine OE.istore X72 hx hby at_335 (l' := #[.val (.int p1), .val (.int p2), .val (.int p3), .val (.int p4), .val (.int cm), .val (.ref t), .val (.ref u), .val (.int (3 : Int32)), .val (.int sm), .val (.ref qa), .val (.int xa), .val (.int ya), .val (.int xb), .val (.int yb), .val (.int xc), .val (.int yc), .val (.int xq), .val (.int yq), .val (.ref b2), .val (.int (1 : Int32)), .val (.int (1 : Int32)), .val (.int (1 : Int32)), .val (.int (0 : Int32)), .val (.int (-1 : Int32)), .val (.int (-1 : Int32)), .val (.int (1 : Int32)), .unset, .unset]) rfl ?_
        refine OE.iload X72 hx hby at_337 rfl ?_
        refine OE.istore X72 hx hby at_339 (l' := #[.val (.int p1), .val (.int p2), .val (.int p3), .val (.int p4), .val (.int cm), .val (.ref t), .val (.ref u), .val (.int (3 : Int32)), .val (.int sm), .val (.ref qa), .val (.int xa), .val (.int ya), .val (.int xb), .val (.int yb), .val (.int xc), .val (.int yc), .val (.int xq), .val (.int yq), .val (.ref b2), .val (.int (1 : Int32)), .val (.int (1 : Int32)), .val (.int (1 : Int32)), .val (.int (0 : Int32)), .val (.int (1 : Int32)), .val (.int (-1 : Int32)), .val (.int (1 : Int32)), .unset, .unset]) rfl ?_
        refine OE.iinc X72 hx hby at_341 rfl (l' := #[.val (.int p1), .val (.int p2), .val (.int p3), .val (.int p4), .val (.int cm), .val (.ref t), .val (.ref u), .val (.int (3 : Int32)), .val (.int sm), .val (.ref qa), .val (.int xa), .val (.int ya), .val (.int xb), .val (.int yb), .val (.int xc), .val (.int yc), .val (.int xq), .val (.int yq), .val (.ref b2), .val (.int (1 : Int32)), .val (.int (1 : Int32)), .val (.int (1 : Int32)), .val (.int (0 : Int32)), .val (.int (1 : Int32)), .val (.int (-1 : Int32)), .val (.int ((1 : Int32) + (1 : Int32))), .unset, .unset]) rfl ?_
        rw [(by decide : ((1 : Int32) + (1 : Int32)) = (2 : Int32))]
        refine OE.iload X72 hx hby at_344 rfl ?_
        refine OE.iconst X72 hx hby at_346 (3 : Int32) rfl ?_
        refine OE.icmpNo X72 hx hby at_347 (flt (by decide : ¬ ((3 : Int32) < (3 : Int32)))).1 ?_
        refine OE.aload X72 hx hby at_350 rfl rfl ?_
        refine OE.iload X72 hx hby at_352 rfl ?_
        refine OE.iload X72 hx hby at_354 rfl ?_
        refine OE.aload X72 hx hby at_356 rfl rfl ?_
        refine OE.iload X72 hx hby at_358 rfl ?_
        refine OE.iload X72 hx hby at_360 rfl ?_
        have f73 : Arv Z T72.heap t kt .char (4 : Int32) (List.map Value.int tl) (.int (0 : Int32)) := (f50.keep K72 (ninS ne_t_b2 (ninS ne_t_r4_sl (ninS ne_t_r4_ha (ninS ne_t_r4_st (ninS ne_t_r4_ch nin0))))))
        have z74 : n0 ≤ T72.heap.size := (Nat.le_trans z51 K72.1)
        obtain ⟨_, _, ⟨T75, L75, k75, n75⟩, -, X75, ⟨Lc75, hQ75, l75, y75, z75⟩, st75⟩ := Jvm.LawKit.callS X72 hx (y := (⟨"com/example/archerfish/archerfish/index/TokenTableFindPinLaw", "eq", "([CII[CII)Z"⟩ : MethodName)) hown (mvT hZ (hw _ (List.mem_of_getElem? (i := 46) rfl))) (mvT hZ (hw _ (List.mem_of_getElem? (i := 47) rfl))) (mvT hZ (hw _ (List.mem_of_getElem? (i := 3) rfl))) (mvT hZ (hw _ (List.mem_of_getElem? (i := 48) rfl))) (by decide) (backOf (W := 0) (own_rm8 l Z a0 hw [] t xc yc t xa ya tl tl kt kt T72.heap n0 z74 f73 f73 htl htl hrC hrA) hZ (hw _ (List.mem_of_getElem? (i := 48) rfl)) (hw _ (List.mem_of_getElem? (i := 3) rfl)) (by decide) (by decide)) (g := (mkF m 362 #[.val (.int p1), .val (.int p2), .val (.int p3), .val (.int p4), .val (.int cm), .val (.ref t), .val (.ref u), .val (.int (3 : Int32)), .val (.int sm), .val (.ref qa), .val (.int xa), .val (.int ya), .val (.int xb), .val (.int yb), .val (.int xc), .val (.int yc), .val (.int xq), .val (.int yq), .val (.ref b2), .val (.int (1 : Int32)), .val (.int (1 : Int32)), .val (.int (1 : Int32)), .val (.int (0 : Int32)), .val (.int (1 : Int32)), .val (.int (-1 : Int32)), .val (.int (2 : Int32)), .unset, .unset] [(.int ya), (.int xa), (.ref t), (.int yc), (.int xc), (.ref t)])) rfl (by rw [hml]; rfl) (argsL := [(.ref t), (.int xc), (.int yc), (.ref t), (.int xa), (.int ya)]) (rest := []) (lenOf own_pd5 rfl) rfl (by show 2 * 0 + _ ≤ _; exact Nat.le_of_eq rfl) (hb hby at_362) (fun _ _ => ⟨rfl, rfl, (Nat.le_trans (Nat.add_le_add_right (Nat.add_le_add_right hcl1 5) 0) (by decide)), (Nat.le_trans (Nat.add_le_add_right (Nat.add_le_add_right hsl1 6150) 0) (by decide))⟩)
        dsimp only [Pt.U, Pt.locs, Pt.cells, Pt.slots] at X75 l75 y75 z75 st75 hQ75
        have yc75 : cells1 + 5 = k75 := y75.symm
        have zc75 : slots1 + 6150 = n75 := z75.symm
        have lc75 := l75.symm
        subst lc75 yc75 zc75
        obtain ⟨r75_r, rfl, Nq75, eq75, h75_hr⟩ := hQ75
        refine OE.of (fun _ k => st75 _ k) ?_
        have N75 := Fr.app N72 Nq75
        show OE _ p e below s _ _ _ T75 (mkF m 365 #[.val (.int p1), .val (.int p2), .val (.int p3), .val (.int p4), .val (.int cm), .val (.ref t), .val (.ref u), .val (.int (3 : Int32)), .val (.int sm), .val (.ref qa), .val (.int xa), .val (.int ya), .val (.int xb), .val (.int yb), .val (.int xc), .val (.int yc), .val (.int xq), .val (.int yq), .val (.ref b2), .val (.int (1 : Int32)), .val (.int (1 : Int32)), .val (.int (1 : Int32)), .val (.int (0 : Int32)), .val (.int (1 : Int32)), .val (.int (-1 : Int32)), .val (.int (2 : Int32)), .unset, .unset] [(.int r75_r)])
        rcases h75_hr with ⟨e75, d75⟩ | ⟨e75, d75⟩
        · subst e75
          show OE _ p e below s _ _ _ T75 (mkF m 365 #[.val (.int p1), .val (.int p2), .val (.int p3), .val (.int p4), .val (.int cm), .val (.ref t), .val (.ref u), .val (.int (3 : Int32)), .val (.int sm), .val (.ref qa), .val (.int xa), .val (.int ya), .val (.int xb), .val (.int yb), .val (.int xc), .val (.int yc), .val (.int xq), .val (.int yq), .val (.ref b2), .val (.int (1 : Int32)), .val (.int (1 : Int32)), .val (.int (1 : Int32)), .val (.int (0 : Int32)), .val (.int (1 : Int32)), .val (.int (-1 : Int32)), .val (.int (2 : Int32)), .unset, .unset] [(.int (1 : Int32))])
          refine OE.ifYes X75 hx hby (pc' := 429) at_365 (feq (by decide : ¬ ((1 : Int32) = (0 : Int32)))).2 (h := ?_)
          refine OE.iconst X75 hx hby at_429 (-1 : Int32) rfl ?_
          refine OE.istore X75 hx hby at_430 (l' := #[.val (.int p1), .val (.int p2), .val (.int p3), .val (.int p4), .val (.int cm), .val (.ref t), .val (.ref u), .val (.int (3 : Int32)), .val (.int sm), .val (.ref qa), .val (.int xa), .val (.int ya), .val (.int xb), .val (.int yb), .val (.int xc), .val (.int yc), .val (.int xq), .val (.int yq), .val (.ref b2), .val (.int (1 : Int32)), .val (.int (1 : Int32)), .val (.int (1 : Int32)), .val (.int (0 : Int32)), .val (.int (1 : Int32)), .val (.int (-1 : Int32)), .val (.int (2 : Int32)), .val (.int (-1 : Int32)), .unset]) rfl ?_
          refine OE.iload X75 hx hby at_432 rfl ?_
          refine OE.ifNo X75 hx hby at_434 (feq (by decide : ¬ ((1 : Int32) = (0 : Int32)))).1 ?_
          refine OE.aload X75 hx hby at_437 rfl rfl ?_
          refine OE.iload X75 hx hby at_439 rfl ?_
          refine OE.iload X75 hx hby at_441 rfl ?_
          refine OE.aload X75 hx hby at_443 rfl rfl ?_
          refine OE.iload X75 hx hby at_445 rfl ?_
          refine OE.iload X75 hx hby at_447 rfl ?_
          have f76 : Arv Z T72.heap qa kq .char (4 : Int32) (List.map Value.int ql) (.int (0 : Int32)) := (((f5.keep K4 (ninS ne_qa_b2 nin0)).keep K49 (ninS ne_qa_b2 (ninS ne_qa_r4_sl (ninS ne_qa_r4_ha (ninS ne_qa_r4_st (ninS ne_qa_r4_ch nin0)))))).keep K72 (ninS ne_qa_b2 (ninS ne_qa_r4_sl (ninS ne_qa_r4_ha (ninS ne_qa_r4_st (ninS ne_qa_r4_ch nin0))))))
          obtain ⟨_, _, ⟨T77, L77, k77, n77⟩, -, X77, ⟨Lc77, hQ77, l77, y77, z77⟩, st77⟩ := Jvm.LawKit.callS X75 hx (y := (⟨"com/example/archerfish/archerfish/index/TokenTableFindPinLaw", "eq", "([CII[CII)Z"⟩ : MethodName)) hown (mvT hZ (hw _ (List.mem_of_getElem? (i := 46) rfl))) (mvT hZ (hw _ (List.mem_of_getElem? (i := 47) rfl))) (mvT hZ (hw _ (List.mem_of_getElem? (i := 3) rfl))) (mvT hZ (hw _ (List.mem_of_getElem? (i := 48) rfl))) (by decide) (backOf (W := 0) (own_rm8 l Z a0 hw [] qa xq yq t xa ya ql tl kq kt T72.heap n0 z74 f76 f73 hql htl hrQ hrA) hZ (hw _ (List.mem_of_getElem? (i := 48) rfl)) (hw _ (List.mem_of_getElem? (i := 3) rfl)) (by decide) (by decide)) (g := (mkF m 449 #[.val (.int p1), .val (.int p2), .val (.int p3), .val (.int p4), .val (.int cm), .val (.ref t), .val (.ref u), .val (.int (3 : Int32)), .val (.int sm), .val (.ref qa), .val (.int xa), .val (.int ya), .val (.int xb), .val (.int yb), .val (.int xc), .val (.int yc), .val (.int xq), .val (.int yq), .val (.ref b2), .val (.int (1 : Int32)), .val (.int (1 : Int32)), .val (.int (1 : Int32)), .val (.int (0 : Int32)), .val (.int (1 : Int32)), .val (.int (-1 : Int32)), .val (.int (2 : Int32)), .val (.int (-1 : Int32)), .unset] [(.int ya), (.int xa), (.ref t), (.int yq), (.int xq), (.ref qa)])) rfl (by rw [hml]; rfl) (argsL := [(.ref qa), (.int xq), (.int yq), (.ref t), (.int xa), (.int ya)]) (rest := []) (lenOf own_pd5 rfl) rfl (by show 2 * 0 + _ ≤ _; exact Nat.le_of_eq rfl) (hb hby at_449) (fun _ _ => ⟨rfl, eq75, (Nat.le_trans (Nat.add_le_add_right (Nat.add_le_add_right hcl1 5) 0) (by decide)), (Nat.le_trans (Nat.add_le_add_right (Nat.add_le_add_right hsl1 6150) 0) (by decide))⟩)
          dsimp only [Pt.U, Pt.locs, Pt.cells, Pt.slots] at X77 l77 y77 z77 st77 hQ77
          have yc77 : cells1 + 5 = k77 := y77.symm
          have zc77 : slots1 + 6150 = n77 := z77.symm
          have lc77 := l77.symm
          subst lc77 yc77 zc77
          obtain ⟨r77_r, rfl, Nq77, eq77, h77_hr⟩ := hQ77
          refine OE.of (fun _ k => st77 _ k) ?_
          have N77 := Fr.app N75 Nq77
          show OE _ p e below s _ _ _ T77 (mkF m 452 #[.val (.int p1), .val (.int p2), .val (.int p3), .val (.int p4), .val (.int cm), .val (.ref t), .val (.ref u), .val (.int (3 : Int32)), .val (.int sm), .val (.ref qa), .val (.int xa), .val (.int ya), .val (.int xb), .val (.int yb), .val (.int xc), .val (.int yc), .val (.int xq), .val (.int yq), .val (.ref b2), .val (.int (1 : Int32)), .val (.int (1 : Int32)), .val (.int (1 : Int32)), .val (.int (0 : Int32)), .val (.int (1 : Int32)), .val (.int (-1 : Int32)), .val (.int (2 : Int32)), .val (.int (-1 : Int32)), .unset] [(.int r77_r)])
          rcases h77_hr with ⟨e77, d77⟩ | ⟨e77, d77⟩
          · subst e77
            show OE _ p e below s _ _ _ T77 (mkF m 452 #[.val (.int p1), .val (.int p2), .val (.int p3), .val (.int p4), .val (.int cm), .val (.ref t), .val (.ref u), .val (.int (3 : Int32)), .val (.int sm), .val (.ref qa), .val (.int xa), .val (.int ya), .val (.int xb), .val (.int yb), .val (.int xc), .val (.int yc), .val (.int xq), .val (.int yq), .val (.ref b2), .val (.int (1 : Int32)), .val (.int (1 : Int32)), .val (.int (1 : Int32)), .val (.int (0 : Int32)), .val (.int (1 : Int32)), .val (.int (-1 : Int32)), .val (.int (2 : Int32)), .val (.int (-1 : Int32)), .unset] [(.int (1 : Int32))])
            refine OE.ifNo X77 hx hby at_452 (feq (by decide : ¬ ((1 : Int32) = (0 : Int32)))).1 ?_
            refine OE.iconst X77 hx hby at_455 (0 : Int32) rfl ?_
            refine OE.istore X77 hx hby at_456 (l' := #[.val (.int p1), .val (.int p2), .val (.int p3), .val (.int p4), .val (.int cm), .val (.ref t), .val (.ref u), .val (.int (3 : Int32)), .val (.int sm), .val (.ref qa), .val (.int xa), .val (.int ya), .val (.int xb), .val (.int yb), .val (.int xc), .val (.int yc), .val (.int xq), .val (.int yq), .val (.ref b2), .val (.int (1 : Int32)), .val (.int (1 : Int32)), .val (.int (1 : Int32)), .val (.int (0 : Int32)), .val (.int (1 : Int32)), .val (.int (-1 : Int32)), .val (.int (2 : Int32)), .val (.int (0 : Int32)), .unset]) rfl ?_
            refine OE.goto X77 hx hby (pc' := 518) at_458 (h := ?_)
            refine OE.aload X77 hx hby at_518 rfl rfl ?_
            refine OE.aload X77 hx hby at_520 rfl rfl ?_
            refine OE.iload X77 hx hby at_522 rfl ?_
            refine OE.iload X77 hx hby at_524 rfl ?_
            obtain ⟨cq78, kq78, qa78, qb78, qc78⟩ := isOf hZ eq77 q72_0
            obtain ⟨_, _, ⟨T78, L78, k78, n78⟩, -, X78, ⟨Lc78, hQ78, l78, y78, z78⟩, st78⟩ := X77.virtualBack hx (y := (⟨"com/example/archerfish/archerfish/index/TokenTable", "find", "([CII)I"⟩ : MethodName)) (z := (⟨"com/example/archerfish/archerfish/index/TokenTable", "find", "([CII)I"⟩ : MethodName)) hown (mvT hZ (hw _ (List.mem_of_getElem? (i := 49) rfl))) (mvT hZ (hw _ (List.mem_of_getElem? (i := 50) rfl))) (notFace_of_selects (args := #[]) (mvT hZ (hw _ (List.mem_of_getElem? (i := 52) rfl)))) (mvT hZ (hw _ (List.mem_of_getElem? (i := 52) rfl))) (mvT hZ (hw _ (List.mem_of_getElem? (i := 51) rfl))) (by decide) (backOf (W := 0) (own_rm9 l Z a0 hw [] b2 qa xq yq r4_sl r4_ha r4_st r4_ch r4_ksl r4_kha r4_kst r4_kch kq r72_S1 r72_vsH1 r72_vsS1 r72_vsC1 ql ([(own_sl tl xa ya), (own_sl tl xb yb)] : List (List Int32)) r72_F1 T72.heap n0 z74 q72_0 q72_1 q72_2 q72_3 q72_4 q72_6 q72_7 q72_8 q72_9 f76 I72 hql hrQ (by decide : 2 ≤ 3)) hZ (hw _ (List.mem_of_getElem? (i := 53) rfl)) (hw _ (List.mem_of_getElem? (i := 10) rfl)) (by decide) (by decide)) qa78 qc78 (g := (mkF m 526 #[.val (.int p1), .val (.int p2), .val (.int p3), .val (.int p4), .val (.int cm), .val (.ref t), .val (.ref u), .val (.int (3 : Int32)), .val (.int sm), .val (.ref qa), .val (.int xa), .val (.int ya), .val (.int xb), .val (.int yb), .val (.int xc), .val (.int yc), .val (.int xq), .val (.int yq), .val (.ref b2), .val (.int (1 : Int32)), .val (.int (1 : Int32)), .val (.int (1 : Int32)), .val (.int (0 : Int32)), .val (.int (1 : Int32)), .val (.int (-1 : Int32)), .val (.int (2 : Int32)), .val (.int (0 : Int32)), .unset] [(.int yq), (.int xq), (.ref qa), (.ref b2)])) rfl (by rw [hml]; rfl) (Steps.refl _) (argsL := [(.ref qa), (.int xq), (.int yq)]) (rest := []) (lenOf own_pd0 rfl) rfl (by show 2 * 0 + _ ≤ _; exact Nat.le_of_eq rfl) (hb hby at_526) (fun _ _ => ⟨rfl, eq77, (Nat.le_trans (Nat.add_le_add_right (Nat.add_le_add_right hcl1 5) 0) (by decide)), (Nat.le_trans (Nat.add_le_add_right (Nat.add_le_add_right hsl1 6150) 0) (by decide))⟩)
            dsimp only [Pt.U, Pt.locs, Pt.cells, Pt.slots] at X78 l78 y78 z78 st78 hQ78
            have yc78 : cells1 + 5 = k78 := y78.symm
            have zc78 : slots1 + 6150 = n78 := z78.symm
            have lc78 := l78.symm
            subst lc78 yc78 zc78
            obtain ⟨r78_r, rfl, Nq78, eq78, h78_hr⟩ := hQ78
            refine OE.of (fun _ k => st78.trans k) ?_
            have N78 := Fr.app N77 Nq78
            show OE _ p e below s _ _ _ T78 (mkF m 529 #[.val (.int p1), .val (.int p2), .val (.int p3), .val (.int p4), .val (.int cm), .val (.ref t), .val (.ref u), .val (.int (3 : Int32)), .val (.int sm), .val (.ref qa), .val (.int xa), .val (.int ya), .val (.int xb), .val (.int yb), .val (.int xc), .val (.int yc), .val (.int xq), .val (.int yq), .val (.ref b2), .val (.int (1 : Int32)), .val (.int (1 : Int32)), .val (.int (1 : Int32)), .val (.int (0 : Int32)), .val (.int (1 : Int32)), .val (.int (-1 : Int32)), .val (.int (2 : Int32)), .val (.int (0 : Int32)), .unset] [(.int r78_r)])
            refine OE.istore X78 hx hby at_529 (l' := #[.val (.int p1), .val (.int p2), .val (.int p3), .val (.int p4), .val (.int cm), .val (.ref t), .val (.ref u), .val (.int (3 : Int32)), .val (.int sm), .val (.ref qa), .val (.int xa), .val (.int ya), .val (.int xb), .val (.int yb), .val (.int xc), .val (.int yc), .val (.int xq), .val (.int yq), .val (.ref b2), .val (.int (1 : Int32)), .val (.int (1 : Int32)), .val (.int (1 : Int32)), .val (.int (0 : Int32)), .val (.int (1 : Int32)), .val (.int (-1 : Int32)), .val (.int (2 : Int32)), .val (.int (0 : Int32)), .val (.int r78_r)]) rfl ?_
            refine OE.iload X78 hx hby at_531 rfl ?_
            refine OE.ifNo X78 hx hby at_533 (feq (by decide : ¬ ((1 : Int32) = (0 : Int32)))).1 ?_
            refine OE.aload X78 hx hby at_536 rfl rfl ?_
            obtain ⟨cq79, kq79, qa79, qb79, qc79⟩ := isOf hZ eq78 q72_0
            obtain ⟨_, _, ⟨T79, L79, k79, n79⟩, -, X79, ⟨Lc79, hQ79, l79, y79, z79⟩, st79⟩ := X78.virtualBack hx (y := (⟨"com/example/archerfish/archerfish/index/TokenTable", "size", "()I"⟩ : MethodName)) (z := (⟨"com/example/archerfish/archerfish/index/TokenTable", "size", "()I"⟩ : MethodName)) hown (mvT hZ (hw _ (List.mem_of_getElem? (i := 58) rfl))) (mvT hZ (hw _ (List.mem_of_getElem? (i := 59) rfl))) (notFace_of_selects (args := #[]) (mvT hZ (hw _ (List.mem_of_getElem? (i := 61) rfl)))) (mvT hZ (hw _ (List.mem_of_getElem? (i := 61) rfl))) (mvT hZ (hw _ (List.mem_of_getElem? (i := 60) rfl))) (by decide) (backOf (W := 0) (own_rm11 l Z a0 hw [] b2 (2 : Int32) T72.heap n0 z74 q72_5) hZ (hw _ (List.mem_of_getElem? (i := 62) rfl)) (hw _ (List.mem_of_getElem? (i := 10) rfl)) (by decide) (by decide)) qa79 qc79 (g := (mkF m 538 #[.val (.int p1), .val (.int p2), .val (.int p3), .val (.int p4), .val (.int cm), .val (.ref t), .val (.ref u), .val (.int (3 : Int32)), .val (.int sm), .val (.ref qa), .val (.int xa), .val (.int ya), .val (.int xb), .val (.int yb), .val (.int xc), .val (.int yc), .val (.int xq), .val (.int yq), .val (.ref b2), .val (.int (1 : Int32)), .val (.int (1 : Int32)), .val (.int (1 : Int32)), .val (.int (0 : Int32)), .val (.int (1 : Int32)), .val (.int (-1 : Int32)), .val (.int (2 : Int32)), .val (.int (0 : Int32)), .val (.int r78_r)] [(.ref b2)])) rfl (by rw [hml]; rfl) (Steps.refl _) (argsL := []) (rest := []) (lenOf own_pd4 rfl) rfl (by show 2 * 0 + _ ≤ _; exact Nat.le_of_eq rfl) (hb hby at_538) (fun _ _ => ⟨rfl, eq78, (Nat.le_trans (Nat.add_le_add_right (Nat.add_le_add_right hcl1 5) 0) (by decide)), (Nat.le_trans (Nat.add_le_add_right (Nat.add_le_add_right hsl1 6150) 0) (by decide))⟩)
            dsimp only [Pt.U, Pt.locs, Pt.cells, Pt.slots] at X79 l79 y79 z79 st79 hQ79
            have yc79 : cells1 + 5 = k79 := y79.symm
            have zc79 : slots1 + 6150 = n79 := z79.symm
            have lc79 := l79.symm
            subst lc79 yc79 zc79
            obtain ⟨rfl, Nq79, eq79⟩ := hQ79
            refine OE.of (fun _ k => st79.trans k) ?_
            have N79 := Fr.app N78 Nq79
            show OE _ p e below s _ _ _ T79 (mkF m 541 #[.val (.int p1), .val (.int p2), .val (.int p3), .val (.int p4), .val (.int cm), .val (.ref t), .val (.ref u), .val (.int (3 : Int32)), .val (.int sm), .val (.ref qa), .val (.int xa), .val (.int ya), .val (.int xb), .val (.int yb), .val (.int xc), .val (.int yc), .val (.int xq), .val (.int yq), .val (.ref b2), .val (.int (1 : Int32)), .val (.int (1 : Int32)), .val (.int (1 : Int32)), .val (.int (0 : Int32)), .val (.int (1 : Int32)), .val (.int (-1 : Int32)), .val (.int (2 : Int32)), .val (.int (0 : Int32)), .val (.int r78_r)] [(.int (2 : Int32))])
            refine OE.iload X79 hx hby at_541 rfl ?_
            refine OE.icmpNo X79 hx hby at_543 (teq (by decide : (2 : Int32) = (2 : Int32))).2 ?_
            refine OE.iload X79 hx hby at_546 rfl ?_
            refine OE.iload X79 hx hby at_548 rfl ?_
            refine OE.icmpNo X79 hx hby at_550 (teq (own_f2a h78_hr d52  d77 : r78_r = (0 : Int32))).2 ?_
            refine OE.iload X79 hx hby at_553 rfl ?_
            refine OE.iconst X79 hx hby at_555 (-1 : Int32) rfl ?_
            refine OE.icmpNo X79 hx hby at_556 (flt (by decide : ¬ ((0 : Int32) < (-1 : Int32)))).1 ?_
            refine OE.iconst X79 hx hby at_559 (1 : Int32) rfl ?_
            refine OE.goto X79 hx hby (pc' := 564) at_560 (h := ?_)
            refine OE.retN X79 hx (t := .boolean) Bd.returns (by simp) Bd.notSynchronized (hb hby at_564) (Nat.le_trans (Nat.add_le_add_right hcl1 5) (by decide)) (Nat.le_trans (Nat.add_le_add_right hsl1 6150) (by decide)) ?_
            rw [eq79]
            exact ⟨rfl, N79⟩
          · subst e77
            show OE _ p e below s _ _ _ T77 (mkF m 452 #[.val (.int p1), .val (.int p2), .val (.int p3), .val (.int p4), .val (.int cm), .val (.ref t), .val (.ref u), .val (.int (3 : Int32)), .val (.int sm), .val (.ref qa), .val (.int xa), .val (.int ya), .val (.int xb), .val (.int yb), .val (.int xc), .val (.int yc), .val (.int xq), .val (.int yq), .val (.ref b2), .val (.int (1 : Int32)), .val (.int (1 : Int32)), .val (.int (1 : Int32)), .val (.int (0 : Int32)), .val (.int (1 : Int32)), .val (.int (-1 : Int32)), .val (.int (2 : Int32)), .val (.int (-1 : Int32)), .unset] [(.int (0 : Int32))])
            refine OE.ifYes X77 hx hby (pc' := 461) at_452 (teq (by decide : (0 : Int32) = (0 : Int32))).1 (h := ?_)
            refine OE.iload X77 hx hby at_461 rfl ?_
            refine OE.ifNo X77 hx hby at_463 (feq (by decide : ¬ ((1 : Int32) = (0 : Int32)))).1 ?_
            refine OE.aload X77 hx hby at_466 rfl rfl ?_
            refine OE.iload X77 hx hby at_468 rfl ?_
            refine OE.iload X77 hx hby at_470 rfl ?_
            refine OE.aload X77 hx hby at_472 rfl rfl ?_
            refine OE.iload X77 hx hby at_474 rfl ?_
            refine OE.iload X77 hx hby at_476 rfl ?_
            obtain ⟨_, _, ⟨T80, L80, k80, n80⟩, -, X80, ⟨Lc80, hQ80, l80, y80, z80⟩, st80⟩ := Jvm.LawKit.callS X77 hx (y := (⟨"com/example/archerfish/archerfish/index/TokenTableFindPinLaw", "eq", "([CII[CII)Z"⟩ : MethodName)) hown (mvT hZ (hw _ (List.mem_of_getElem? (i := 46) rfl))) (mvT hZ (hw _ (List.mem_of_getElem? (i := 47) rfl))) (mvT hZ (hw _ (List.mem_of_getElem? (i := 3) rfl))) (mvT hZ (hw _ (List.mem_of_getElem? (i := 48) rfl))) (by decide) (backOf (W := 0) (own_rm8 l Z a0 hw [] qa xq yq t xb yb ql tl kq kt T72.heap n0 z74 f76 f73 hql htl hrQ hrB) hZ (hw _ (List.mem_of_getElem? (i := 48) rfl)) (hw _ (List.mem_of_getElem? (i := 3) rfl)) (by decide) (by decide)) (g := (mkF m 478 #[.val (.int p1), .val (.int p2), .val (.int p3), .val (.int p4), .val (.int cm), .val (.ref t), .val (.ref u), .val (.int (3 : Int32)), .val (.int sm), .val (.ref qa), .val (.int xa), .val (.int ya), .val (.int xb), .val (.int yb), .val (.int xc), .val (.int yc), .val (.int xq), .val (.int yq), .val (.ref b2), .val (.int (1 : Int32)), .val (.int (1 : Int32)), .val (.int (1 : Int32)), .val (.int (0 : Int32)), .val (.int (1 : Int32)), .val (.int (-1 : Int32)), .val (.int (2 : Int32)), .val (.int (-1 : Int32)), .unset] [(.int yb), (.int xb), (.ref t), (.int yq), (.int xq), (.ref qa)])) rfl (by rw [hml]; rfl) (argsL := [(.ref qa), (.int xq), (.int yq), (.ref t), (.int xb), (.int yb)]) (rest := []) (lenOf own_pd5 rfl) rfl (by show 2 * 0 + _ ≤ _; exact Nat.le_of_eq rfl) (hb hby at_478) (fun _ _ => ⟨rfl, eq77, (Nat.le_trans (Nat.add_le_add_right (Nat.add_le_add_right hcl1 5) 0) (by decide)), (Nat.le_trans (Nat.add_le_add_right (Nat.add_le_add_right hsl1 6150) 0) (by decide))⟩)
            dsimp only [Pt.U, Pt.locs, Pt.cells, Pt.slots] at X80 l80 y80 z80 st80 hQ80
            have yc80 : cells1 + 5 = k80 := y80.symm
            have zc80 : slots1 + 6150 = n80 := z80.symm
            have lc80 := l80.symm
            subst lc80 yc80 zc80
            obtain ⟨r80_r, rfl, Nq80, eq80, h80_hr⟩ := hQ80
            refine OE.of (fun _ k => st80 _ k) ?_
            have N80 := Fr.app N77 Nq80
            show OE _ p e below s _ _ _ T80 (mkF m 481 #[.val (.int p1), .val (.int p2), .val (.int p3), .val (.int p4), .val (.int cm), .val (.ref t), .val (.ref u), .val (.int (3 : Int32)), .val (.int sm), .val (.ref qa), .val (.int xa), .val (.int ya), .val (.int xb), .val (.int yb), .val (.int xc), .val (.int yc), .val (.int xq), .val (.int yq), .val (.ref b2), .val (.int (1 : Int32)), .val (.int (1 : Int32)), .val (.int (1 : Int32)), .val (.int (0 : Int32)), .val (.int (1 : Int32)), .val (.int (-1 : Int32)), .val (.int (2 : Int32)), .val (.int (-1 : Int32)), .unset] [(.int r80_r)])
            rcases h80_hr with ⟨e80, d80⟩ | ⟨e80, d80⟩
            · subst e80
              show OE _ p e below s _ _ _ T80 (mkF m 481 #[.val (.int p1), .val (.int p2), .val (.int p3), .val (.int p4), .val (.int cm), .val (.ref t), .val (.ref u), .val (.int (3 : Int32)), .val (.int sm), .val (.ref qa), .val (.int xa), .val (.int ya), .val (.int xb), .val (.int yb), .val (.int xc), .val (.int yc), .val (.int xq), .val (.int yq), .val (.ref b2), .val (.int (1 : Int32)), .val (.int (1 : Int32)), .val (.int (1 : Int32)), .val (.int (0 : Int32)), .val (.int (1 : Int32)), .val (.int (-1 : Int32)), .val (.int (2 : Int32)), .val (.int (-1 : Int32)), .unset] [(.int (1 : Int32))])
              refine OE.ifNo X80 hx hby at_481 (feq (by decide : ¬ ((1 : Int32) = (0 : Int32)))).1 ?_
              refine OE.iload X80 hx hby at_484 rfl ?_
              refine OE.istore X80 hx hby at_486 (l' := #[.val (.int p1), .val (.int p2), .val (.int p3), .val (.int p4), .val (.int cm), .val (.ref t), .val (.ref u), .val (.int (3 : Int32)), .val (.int sm), .val (.ref qa), .val (.int xa), .val (.int ya), .val (.int xb), .val (.int yb), .val (.int xc), .val (.int yc), .val (.int xq), .val (.int yq), .val (.ref b2), .val (.int (1 : Int32)), .val (.int (1 : Int32)), .val (.int (1 : Int32)), .val (.int (0 : Int32)), .val (.int (1 : Int32)), .val (.int (-1 : Int32)), .val (.int (2 : Int32)), .val (.int (1 : Int32)), .unset]) rfl ?_
              refine OE.goto X80 hx hby (pc' := 518) at_488 (h := ?_)
              refine OE.aload X80 hx hby at_518 rfl rfl ?_
              refine OE.aload X80 hx hby at_520 rfl rfl ?_
              refine OE.iload X80 hx hby at_522 rfl ?_
              refine OE.iload X80 hx hby at_524 rfl ?_
              obtain ⟨cq81, kq81, qa81, qb81, qc81⟩ := isOf hZ eq80 q72_0
              obtain ⟨_, _, ⟨T81, L81, k81, n81⟩, -, X81, ⟨Lc81, hQ81, l81, y81, z81⟩, st81⟩ := X80.virtualBack hx (y := (⟨"com/example/archerfish/archerfish/index/TokenTable", "find", "([CII)I"⟩ : MethodName)) (z := (⟨"com/example/archerfish/archerfish/index/TokenTable", "find", "([CII)I"⟩ : MethodName)) hown (mvT hZ (hw _ (List.mem_of_getElem? (i := 49) rfl))) (mvT hZ (hw _ (List.mem_of_getElem? (i := 50) rfl))) (notFace_of_selects (args := #[]) (mvT hZ (hw _ (List.mem_of_getElem? (i := 52) rfl)))) (mvT hZ (hw _ (List.mem_of_getElem? (i := 52) rfl))) (mvT hZ (hw _ (List.mem_of_getElem? (i := 51) rfl))) (by decide) (backOf (W := 0) (own_rm9 l Z a0 hw [] b2 qa xq yq r4_sl r4_ha r4_st r4_ch r4_ksl r4_kha r4_kst r4_kch kq r72_S1 r72_vsH1 r72_vsS1 r72_vsC1 ql ([(own_sl tl xa ya), (own_sl tl xb yb)] : List (List Int32)) r72_F1 T72.heap n0 z74 q72_0 q72_1 q72_2 q72_3 q72_4 q72_6 q72_7 q72_8 q72_9 f76 I72 hql hrQ (by decide : 2 ≤ 3)) hZ (hw _ (List.mem_of_getElem? (i := 53) rfl)) (hw _ (List.mem_of_getElem? (i := 10) rfl)) (by decide) (by decide)) qa81 qc81 (g := (mkF m 526 #[.val (.int p1), .val (.int p2), .val (.int p3), .val (.int p4), .val (.int cm), .val (.ref t), .val (.ref u), .val (.int (3 : Int32)), .val (.int sm), .val (.ref qa), .val (.int xa), .val (.int ya), .val (.int xb), .val (.int yb), .val (.int xc), .val (.int yc), .val (.int xq), .val (.int yq), .val (.ref b2), .val (.int (1 : Int32)), .val (.int (1 : Int32)), .val (.int (1 : Int32)), .val (.int (0 : Int32)), .val (.int (1 : Int32)), .val (.int (-1 : Int32)), .val (.int (2 : Int32)), .val (.int (1 : Int32)), .unset] [(.int yq), (.int xq), (.ref qa), (.ref b2)])) rfl (by rw [hml]; rfl) (Steps.refl _) (argsL := [(.ref qa), (.int xq), (.int yq)]) (rest := []) (lenOf own_pd0 rfl) rfl (by show 2 * 0 + _ ≤ _; exact Nat.le_of_eq rfl) (hb hby at_526) (fun _ _ => ⟨rfl, eq80, (Nat.le_trans (Nat.add_le_add_right (Nat.add_le_add_right hcl1 5) 0) (by decide)), (Nat.le_trans (Nat.add_le_add_right (Nat.add_le_add_right hsl1 6150) 0) (by decide))⟩)
              dsimp only [Pt.U, Pt.locs, Pt.cells, Pt.slots] at X81 l81 y81 z81 st81 hQ81
              have yc81 : cells1 + 5 = k81 := y81.symm
              have zc81 : slots1 + 6150 = n81 := z81.symm
              have lc81 := l81.symm
              subst lc81 yc81 zc81
              obtain ⟨r81_r, rfl, Nq81, eq81, h81_hr⟩ := hQ81
              refine OE.of (fun _ k => st81.trans k) ?_
              have N81 := Fr.app N80 Nq81
              show OE _ p e below s _ _ _ T81 (mkF m 529 #[.val (.int p1), .val (.int p2), .val (.int p3), .val (.int p4), .val (.int cm), .val (.ref t), .val (.ref u), .val (.int (3 : Int32)), .val (.int sm), .val (.ref qa), .val (.int xa), .val (.int ya), .val (.int xb), .val (.int yb), .val (.int xc), .val (.int yc), .val (.int xq), .val (.int yq), .val (.ref b2), .val (.int (1 : Int32)), .val (.int (1 : Int32)), .val (.int (1 : Int32)), .val (.int (0 : Int32)), .val (.int (1 : Int32)), .val (.int (-1 : Int32)), .val (.int (2 : Int32)), .val (.int (1 : Int32)), .unset] [(.int r81_r)])
              refine OE.istore X81 hx hby at_529 (l' := #[.val (.int p1), .val (.int p2), .val (.int p3), .val (.int p4), .val (.int cm), .val (.ref t), .val (.ref u), .val (.int (3 : Int32)), .val (.int sm), .val (.ref qa), .val (.int xa), .val (.int ya), .val (.int xb), .val (.int yb), .val (.int xc), .val (.int yc), .val (.int xq), .val (.int yq), .val (.ref b2), .val (.int (1 : Int32)), .val (.int (1 : Int32)), .val (.int (1 : Int32)), .val (.int (0 : Int32)), .val (.int (1 : Int32)), .val (.int (-1 : Int32)), .val (.int (2 : Int32)), .val (.int (1 : Int32)), .val (.int r81_r)]) rfl ?_
              refine OE.iload X81 hx hby at_531 rfl ?_
              refine OE.ifNo X81 hx hby at_533 (feq (by decide : ¬ ((1 : Int32) = (0 : Int32)))).1 ?_
              refine OE.aload X81 hx hby at_536 rfl rfl ?_
              obtain ⟨cq82, kq82, qa82, qb82, qc82⟩ := isOf hZ eq81 q72_0
              obtain ⟨_, _, ⟨T82, L82, k82, n82⟩, -, X82, ⟨Lc82, hQ82, l82, y82, z82⟩, st82⟩ := X81.virtualBack hx (y := (⟨"com/example/archerfish/archerfish/index/TokenTable", "size", "()I"⟩ : MethodName)) (z := (⟨"com/example/archerfish/archerfish/index/TokenTable", "size", "()I"⟩ : MethodName)) hown (mvT hZ (hw _ (List.mem_of_getElem? (i := 58) rfl))) (mvT hZ (hw _ (List.mem_of_getElem? (i := 59) rfl))) (notFace_of_selects (args := #[]) (mvT hZ (hw _ (List.mem_of_getElem? (i := 61) rfl)))) (mvT hZ (hw _ (List.mem_of_getElem? (i := 61) rfl))) (mvT hZ (hw _ (List.mem_of_getElem? (i := 60) rfl))) (by decide) (backOf (W := 0) (own_rm11 l Z a0 hw [] b2 (2 : Int32) T72.heap n0 z74 q72_5) hZ (hw _ (List.mem_of_getElem? (i := 62) rfl)) (hw _ (List.mem_of_getElem? (i := 10) rfl)) (by decide) (by decide)) qa82 qc82 (g := (mkF m 538 #[.val (.int p1), .val (.int p2), .val (.int p3), .val (.int p4), .val (.int cm), .val (.ref t), .val (.ref u), .val (.int (3 : Int32)), .val (.int sm), .val (.ref qa), .val (.int xa), .val (.int ya), .val (.int xb), .val (.int yb), .val (.int xc), .val (.int yc), .val (.int xq), .val (.int yq), .val (.ref b2), .val (.int (1 : Int32)), .val (.int (1 : Int32)), .val (.int (1 : Int32)), .val (.int (0 : Int32)), .val (.int (1 : Int32)), .val (.int (-1 : Int32)), .val (.int (2 : Int32)), .val (.int (1 : Int32)), .val (.int r81_r)] [(.ref b2)])) rfl (by rw [hml]; rfl) (Steps.refl _) (argsL := []) (rest := []) (lenOf own_pd4 rfl) rfl (by show 2 * 0 + _ ≤ _; exact Nat.le_of_eq rfl) (hb hby at_538) (fun _ _ => ⟨rfl, eq81, (Nat.le_trans (Nat.add_le_add_right (Nat.add_le_add_right hcl1 5) 0) (by decide)), (Nat.le_trans (Nat.add_le_add_right (Nat.add_le_add_right hsl1 6150) 0) (by decide))⟩)
              dsimp only [Pt.U, Pt.locs, Pt.cells, Pt.slots] at X82 l82 y82 z82 st82 hQ82
              have yc82 : cells1 + 5 = k82 := y82.symm
              have zc82 : slots1 + 6150 = n82 := z82.symm
              have lc82 := l82.symm
              subst lc82 yc82 zc82
              obtain ⟨rfl, Nq82, eq82⟩ := hQ82
              refine OE.of (fun _ k => st82.trans k) ?_
              have N82 := Fr.app N81 Nq82
              show OE _ p e below s _ _ _ T82 (mkF m 541 #[.val (.int p1), .val (.int p2), .val (.int p3), .val (.int p4), .val (.int cm), .val (.ref t), .val (.ref u), .val (.int (3 : Int32)), .val (.int sm), .val (.ref qa), .val (.int xa), .val (.int ya), .val (.int xb), .val (.int yb), .val (.int xc), .val (.int yc), .val (.int xq), .val (.int yq), .val (.ref b2), .val (.int (1 : Int32)), .val (.int (1 : Int32)), .val (.int (1 : Int32)), .val (.int (0 : Int32)), .val (.int (1 : Int32)), .val (.int (-1 : Int32)), .val (.int (2 : Int32)), .val (.int (1 : Int32)), .val (.int r81_r)] [(.int (2 : Int32))])
              refine OE.iload X82 hx hby at_541 rfl ?_
              refine OE.icmpNo X82 hx hby at_543 (teq (by decide : (2 : Int32) = (2 : Int32))).2 ?_
              refine OE.iload X82 hx hby at_546 rfl ?_
              refine OE.iload X82 hx hby at_548 rfl ?_
              refine OE.icmpNo X82 hx hby at_550 (teq (own_f2b h81_hr  d77 d80 : r81_r = (1 : Int32))).2 ?_
              refine OE.iload X82 hx hby at_553 rfl ?_
              refine OE.iconst X82 hx hby at_555 (-1 : Int32) rfl ?_
              refine OE.icmpNo X82 hx hby at_556 (flt (by decide : ¬ ((1 : Int32) < (-1 : Int32)))).1 ?_
              refine OE.iconst X82 hx hby at_559 (1 : Int32) rfl ?_
              refine OE.goto X82 hx hby (pc' := 564) at_560 (h := ?_)
              refine OE.retN X82 hx (t := .boolean) Bd.returns (by simp) Bd.notSynchronized (hb hby at_564) (Nat.le_trans (Nat.add_le_add_right hcl1 5) (by decide)) (Nat.le_trans (Nat.add_le_add_right hsl1 6150) (by decide)) ?_
              rw [eq82]
              exact ⟨rfl, N82⟩
            · subst e80
              show OE _ p e below s _ _ _ T80 (mkF m 481 #[.val (.int p1), .val (.int p2), .val (.int p3), .val (.int p4), .val (.int cm), .val (.ref t), .val (.ref u), .val (.int (3 : Int32)), .val (.int sm), .val (.ref qa), .val (.int xa), .val (.int ya), .val (.int xb), .val (.int yb), .val (.int xc), .val (.int yc), .val (.int xq), .val (.int yq), .val (.ref b2), .val (.int (1 : Int32)), .val (.int (1 : Int32)), .val (.int (1 : Int32)), .val (.int (0 : Int32)), .val (.int (1 : Int32)), .val (.int (-1 : Int32)), .val (.int (2 : Int32)), .val (.int (-1 : Int32)), .unset] [(.int (0 : Int32))])
              refine OE.ifYes X80 hx hby (pc' := 491) at_481 (teq (by decide : (0 : Int32) = (0 : Int32))).1 (h := ?_)
              refine OE.iload X80 hx hby at_491 rfl ?_
              refine OE.ifYes X80 hx hby (pc' := 518) at_493 (teq (by decide : (0 : Int32) = (0 : Int32))).1 (h := ?_)
              refine OE.aload X80 hx hby at_518 rfl rfl ?_
              refine OE.aload X80 hx hby at_520 rfl rfl ?_
              refine OE.iload X80 hx hby at_522 rfl ?_
              refine OE.iload X80 hx hby at_524 rfl ?_
              obtain ⟨cq83, kq83, qa83, qb83, qc83⟩ := isOf hZ eq80 q72_0
              obtain ⟨_, _, ⟨T83, L83, k83, n83⟩, -, X83, ⟨Lc83, hQ83, l83, y83, z83⟩, st83⟩ := X80.virtualBack hx (y := (⟨"com/example/archerfish/archerfish/index/TokenTable", "find", "([CII)I"⟩ : MethodName)) (z := (⟨"com/example/archerfish/archerfish/index/TokenTable", "find", "([CII)I"⟩ : MethodName)) hown (mvT hZ (hw _ (List.mem_of_getElem? (i := 49) rfl))) (mvT hZ (hw _ (List.mem_of_getElem? (i := 50) rfl))) (notFace_of_selects (args := #[]) (mvT hZ (hw _ (List.mem_of_getElem? (i := 52) rfl)))) (mvT hZ (hw _ (List.mem_of_getElem? (i := 52) rfl))) (mvT hZ (hw _ (List.mem_of_getElem? (i := 51) rfl))) (by decide) (backOf (W := 0) (own_rm9 l Z a0 hw [] b2 qa xq yq r4_sl r4_ha r4_st r4_ch r4_ksl r4_kha r4_kst r4_kch kq r72_S1 r72_vsH1 r72_vsS1 r72_vsC1 ql ([(own_sl tl xa ya), (own_sl tl xb yb)] : List (List Int32)) r72_F1 T72.heap n0 z74 q72_0 q72_1 q72_2 q72_3 q72_4 q72_6 q72_7 q72_8 q72_9 f76 I72 hql hrQ (by decide : 2 ≤ 3)) hZ (hw _ (List.mem_of_getElem? (i := 53) rfl)) (hw _ (List.mem_of_getElem? (i := 10) rfl)) (by decide) (by decide)) qa83 qc83 (g := (mkF m 526 #[.val (.int p1), .val (.int p2), .val (.int p3), .val (.int p4), .val (.int cm), .val (.ref t), .val (.ref u), .val (.int (3 : Int32)), .val (.int sm), .val (.ref qa), .val (.int xa), .val (.int ya), .val (.int xb), .val (.int yb), .val (.int xc), .val (.int yc), .val (.int xq), .val (.int yq), .val (.ref b2), .val (.int (1 : Int32)), .val (.int (1 : Int32)), .val (.int (1 : Int32)), .val (.int (0 : Int32)), .val (.int (1 : Int32)), .val (.int (-1 : Int32)), .val (.int (2 : Int32)), .val (.int (-1 : Int32)), .unset] [(.int yq), (.int xq), (.ref qa), (.ref b2)])) rfl (by rw [hml]; rfl) (Steps.refl _) (argsL := [(.ref qa), (.int xq), (.int yq)]) (rest := []) (lenOf own_pd0 rfl) rfl (by show 2 * 0 + _ ≤ _; exact Nat.le_of_eq rfl) (hb hby at_526) (fun _ _ => ⟨rfl, eq80, (Nat.le_trans (Nat.add_le_add_right (Nat.add_le_add_right hcl1 5) 0) (by decide)), (Nat.le_trans (Nat.add_le_add_right (Nat.add_le_add_right hsl1 6150) 0) (by decide))⟩)
              dsimp only [Pt.U, Pt.locs, Pt.cells, Pt.slots] at X83 l83 y83 z83 st83 hQ83
              have yc83 : cells1 + 5 = k83 := y83.symm
              have zc83 : slots1 + 6150 = n83 := z83.symm
              have lc83 := l83.symm
              subst lc83 yc83 zc83
              obtain ⟨r83_r, rfl, Nq83, eq83, h83_hr⟩ := hQ83
              refine OE.of (fun _ k => st83.trans k) ?_
              have N83 := Fr.app N80 Nq83
              show OE _ p e below s _ _ _ T83 (mkF m 529 #[.val (.int p1), .val (.int p2), .val (.int p3), .val (.int p4), .val (.int cm), .val (.ref t), .val (.ref u), .val (.int (3 : Int32)), .val (.int sm), .val (.ref qa), .val (.int xa), .val (.int ya), .val (.int xb), .val (.int yb), .val (.int xc), .val (.int yc), .val (.int xq), .val (.int yq), .val (.ref b2), .val (.int (1 : Int32)), .val (.int (1 : Int32)), .val (.int (1 : Int32)), .val (.int (0 : Int32)), .val (.int (1 : Int32)), .val (.int (-1 : Int32)), .val (.int (2 : Int32)), .val (.int (-1 : Int32)), .unset] [(.int r83_r)])
              refine OE.istore X83 hx hby at_529 (l' := #[.val (.int p1), .val (.int p2), .val (.int p3), .val (.int p4), .val (.int cm), .val (.ref t), .val (.ref u), .val (.int (3 : Int32)), .val (.int sm), .val (.ref qa), .val (.int xa), .val (.int ya), .val (.int xb), .val (.int yb), .val (.int xc), .val (.int yc), .val (.int xq), .val (.int yq), .val (.ref b2), .val (.int (1 : Int32)), .val (.int (1 : Int32)), .val (.int (1 : Int32)), .val (.int (0 : Int32)), .val (.int (1 : Int32)), .val (.int (-1 : Int32)), .val (.int (2 : Int32)), .val (.int (-1 : Int32)), .val (.int r83_r)]) rfl ?_
              refine OE.iload X83 hx hby at_531 rfl ?_
              refine OE.ifNo X83 hx hby at_533 (feq (by decide : ¬ ((1 : Int32) = (0 : Int32)))).1 ?_
              refine OE.aload X83 hx hby at_536 rfl rfl ?_
              obtain ⟨cq84, kq84, qa84, qb84, qc84⟩ := isOf hZ eq83 q72_0
              obtain ⟨_, _, ⟨T84, L84, k84, n84⟩, -, X84, ⟨Lc84, hQ84, l84, y84, z84⟩, st84⟩ := X83.virtualBack hx (y := (⟨"com/example/archerfish/archerfish/index/TokenTable", "size", "()I"⟩ : MethodName)) (z := (⟨"com/example/archerfish/archerfish/index/TokenTable", "size", "()I"⟩ : MethodName)) hown (mvT hZ (hw _ (List.mem_of_getElem? (i := 58) rfl))) (mvT hZ (hw _ (List.mem_of_getElem? (i := 59) rfl))) (notFace_of_selects (args := #[]) (mvT hZ (hw _ (List.mem_of_getElem? (i := 61) rfl)))) (mvT hZ (hw _ (List.mem_of_getElem? (i := 61) rfl))) (mvT hZ (hw _ (List.mem_of_getElem? (i := 60) rfl))) (by decide) (backOf (W := 0) (own_rm11 l Z a0 hw [] b2 (2 : Int32) T72.heap n0 z74 q72_5) hZ (hw _ (List.mem_of_getElem? (i := 62) rfl)) (hw _ (List.mem_of_getElem? (i := 10) rfl)) (by decide) (by decide)) qa84 qc84 (g := (mkF m 538 #[.val (.int p1), .val (.int p2), .val (.int p3), .val (.int p4), .val (.int cm), .val (.ref t), .val (.ref u), .val (.int (3 : Int32)), .val (.int sm), .val (.ref qa), .val (.int xa), .val (.int ya), .val (.int xb), .val (.int yb), .val (.int xc), .val (.int yc), .val (.int xq), .val (.int yq), .val (.ref b2), .val (.int (1 : Int32)), .val (.int (1 : Int32)), .val (.int (1 : Int32)), .val (.int (0 : Int32)), .val (.int (1 : Int32)), .val (.int (-1 : Int32)), .val (.int (2 : Int32)), .val (.int (-1 : Int32)), .val (.int r83_r)] [(.ref b2)])) rfl (by rw [hml]; rfl) (Steps.refl _) (argsL := []) (rest := []) (lenOf own_pd4 rfl) rfl (by show 2 * 0 + _ ≤ _; exact Nat.le_of_eq rfl) (hb hby at_538) (fun _ _ => ⟨rfl, eq83, (Nat.le_trans (Nat.add_le_add_right (Nat.add_le_add_right hcl1 5) 0) (by decide)), (Nat.le_trans (Nat.add_le_add_right (Nat.add_le_add_right hsl1 6150) 0) (by decide))⟩)
              dsimp only [Pt.U, Pt.locs, Pt.cells, Pt.slots] at X84 l84 y84 z84 st84 hQ84
              have yc84 : cells1 + 5 = k84 := y84.symm
              have zc84 : slots1 + 6150 = n84 := z84.symm
              have lc84 := l84.symm
              subst lc84 yc84 zc84
              obtain ⟨rfl, Nq84, eq84⟩ := hQ84
              refine OE.of (fun _ k => st84.trans k) ?_
              have N84 := Fr.app N83 Nq84
              show OE _ p e below s _ _ _ T84 (mkF m 541 #[.val (.int p1), .val (.int p2), .val (.int p3), .val (.int p4), .val (.int cm), .val (.ref t), .val (.ref u), .val (.int (3 : Int32)), .val (.int sm), .val (.ref qa), .val (.int xa), .val (.int ya), .val (.int xb), .val (.int yb), .val (.int xc), .val (.int yc), .val (.int xq), .val (.int yq), .val (.ref b2), .val (.int (1 : Int32)), .val (.int (1 : Int32)), .val (.int (1 : Int32)), .val (.int (0 : Int32)), .val (.int (1 : Int32)), .val (.int (-1 : Int32)), .val (.int (2 : Int32)), .val (.int (-1 : Int32)), .val (.int r83_r)] [(.int (2 : Int32))])
              refine OE.iload X84 hx hby at_541 rfl ?_
              refine OE.icmpNo X84 hx hby at_543 (teq (by decide : (2 : Int32) = (2 : Int32))).2 ?_
              refine OE.iload X84 hx hby at_546 rfl ?_
              refine OE.iload X84 hx hby at_548 rfl ?_
              refine OE.icmpNo X84 hx hby at_550 (teq (own_f2n h83_hr d77 d80 : r83_r = (-1 : Int32))).2 ?_
              refine OE.iload X84 hx hby at_553 rfl ?_
              refine OE.iconst X84 hx hby at_555 (-1 : Int32) rfl ?_
              refine OE.icmpNo X84 hx hby at_556 (flt (by decide : ¬ ((-1 : Int32) < (-1 : Int32)))).1 ?_
              refine OE.iconst X84 hx hby at_559 (1 : Int32) rfl ?_
              refine OE.goto X84 hx hby (pc' := 564) at_560 (h := ?_)
              refine OE.retN X84 hx (t := .boolean) Bd.returns (by simp) Bd.notSynchronized (hb hby at_564) (Nat.le_trans (Nat.add_le_add_right hcl1 5) (by decide)) (Nat.le_trans (Nat.add_le_add_right hsl1 6150) (by decide)) ?_
              rw [eq84]
              exact ⟨rfl, N84⟩
        · subst e75
          show OE _ p e below s _ _ _ T75 (mkF m 365 #[.val (.int p1), .val (.int p2), .val (.int p3), .val (.int p4), .val (.int cm), .val (.ref t), .val (.ref u), .val (.int (3 : Int32)), .val (.int sm), .val (.ref qa), .val (.int xa), .val (.int ya), .val (.int xb), .val (.int yb), .val (.int xc), .val (.int yc), .val (.int xq), .val (.int yq), .val (.ref b2), .val (.int (1 : Int32)), .val (.int (1 : Int32)), .val (.int (1 : Int32)), .val (.int (0 : Int32)), .val (.int (1 : Int32)), .val (.int (-1 : Int32)), .val (.int (2 : Int32)), .unset, .unset] [(.int (0 : Int32))])
          refine OE.ifNo X75 hx hby at_365 (teq (by decide : (0 : Int32) = (0 : Int32))).2 ?_
          refine OE.iload X75 hx hby at_368 rfl ?_
          refine OE.ifNo X75 hx hby at_370 (feq (by decide : ¬ ((1 : Int32) = (0 : Int32)))).1 ?_
          refine OE.aload X75 hx hby at_373 rfl rfl ?_
          refine OE.iload X75 hx hby at_375 rfl ?_
          refine OE.iload X75 hx hby at_377 rfl ?_
          refine OE.aload X75 hx hby at_379 rfl rfl ?_
          refine OE.iload X75 hx hby at_381 rfl ?_
          refine OE.iload X75 hx hby at_383 rfl ?_
          obtain ⟨_, _, ⟨T85, L85, k85, n85⟩, -, X85, ⟨Lc85, hQ85, l85, y85, z85⟩, st85⟩ := Jvm.LawKit.callS X75 hx (y := (⟨"com/example/archerfish/archerfish/index/TokenTableFindPinLaw", "eq", "([CII[CII)Z"⟩ : MethodName)) hown (mvT hZ (hw _ (List.mem_of_getElem? (i := 46) rfl))) (mvT hZ (hw _ (List.mem_of_getElem? (i := 47) rfl))) (mvT hZ (hw _ (List.mem_of_getElem? (i := 3) rfl))) (mvT hZ (hw _ (List.mem_of_getElem? (i := 48) rfl))) (by decide) (backOf (W := 0) (own_rm8 l Z a0 hw [] t xc yc t xb yb tl tl kt kt T72.heap n0 z74 f73 f73 htl htl hrC hrB) hZ (hw _ (List.mem_of_getElem? (i := 48) rfl)) (hw _ (List.mem_of_getElem? (i := 3) rfl)) (by decide) (by decide)) (g := (mkF m 385 #[.val (.int p1), .val (.int p2), .val (.int p3), .val (.int p4), .val (.int cm), .val (.ref t), .val (.ref u), .val (.int (3 : Int32)), .val (.int sm), .val (.ref qa), .val (.int xa), .val (.int ya), .val (.int xb), .val (.int yb), .val (.int xc), .val (.int yc), .val (.int xq), .val (.int yq), .val (.ref b2), .val (.int (1 : Int32)), .val (.int (1 : Int32)), .val (.int (1 : Int32)), .val (.int (0 : Int32)), .val (.int (1 : Int32)), .val (.int (-1 : Int32)), .val (.int (2 : Int32)), .unset, .unset] [(.int yb), (.int xb), (.ref t), (.int yc), (.int xc), (.ref t)])) rfl (by rw [hml]; rfl) (argsL := [(.ref t), (.int xc), (.int yc), (.ref t), (.int xb), (.int yb)]) (rest := []) (lenOf own_pd5 rfl) rfl (by show 2 * 0 + _ ≤ _; exact Nat.le_of_eq rfl) (hb hby at_385) (fun _ _ => ⟨rfl, eq75, (Nat.le_trans (Nat.add_le_add_right (Nat.add_le_add_right hcl1 5) 0) (by decide)), (Nat.le_trans (Nat.add_le_add_right (Nat.add_le_add_right hsl1 6150) 0) (by decide))⟩)
          dsimp only [Pt.U, Pt.locs, Pt.cells, Pt.slots] at X85 l85 y85 z85 st85 hQ85
          have yc85 : cells1 + 5 = k85 := y85.symm
          have zc85 : slots1 + 6150 = n85 := z85.symm
          have lc85 := l85.symm
          subst lc85 yc85 zc85
          obtain ⟨r85_r, rfl, Nq85, eq85, h85_hr⟩ := hQ85
          refine OE.of (fun _ k => st85 _ k) ?_
          have N85 := Fr.app N75 Nq85
          show OE _ p e below s _ _ _ T85 (mkF m 388 #[.val (.int p1), .val (.int p2), .val (.int p3), .val (.int p4), .val (.int cm), .val (.ref t), .val (.ref u), .val (.int (3 : Int32)), .val (.int sm), .val (.ref qa), .val (.int xa), .val (.int ya), .val (.int xb), .val (.int yb), .val (.int xc), .val (.int yc), .val (.int xq), .val (.int yq), .val (.ref b2), .val (.int (1 : Int32)), .val (.int (1 : Int32)), .val (.int (1 : Int32)), .val (.int (0 : Int32)), .val (.int (1 : Int32)), .val (.int (-1 : Int32)), .val (.int (2 : Int32)), .unset, .unset] [(.int r85_r)])
          rcases h85_hr with ⟨e85, d85⟩ | ⟨e85, d85⟩
          · subst e85
            show OE _ p e below s _ _ _ T85 (mkF m 388 #[.val (.int p1), .val (.int p2), .val (.int p3), .val (.int p4), .val (.int cm), .val (.ref t), .val (.ref u), .val (.int (3 : Int32)), .val (.int sm), .val (.ref qa), .val (.int xa), .val (.int ya), .val (.int xb), .val (.int yb), .val (.int xc), .val (.int yc), .val (.int xq), .val (.int yq), .val (.ref b2), .val (.int (1 : Int32)), .val (.int (1 : Int32)), .val (.int (1 : Int32)), .val (.int (0 : Int32)), .val (.int (1 : Int32)), .val (.int (-1 : Int32)), .val (.int (2 : Int32)), .unset, .unset] [(.int (1 : Int32))])
            refine OE.ifYes X85 hx hby (pc' := 429) at_388 (feq (by decide : ¬ ((1 : Int32) = (0 : Int32)))).2 (h := ?_)
            refine OE.iconst X85 hx hby at_429 (-1 : Int32) rfl ?_
            refine OE.istore X85 hx hby at_430 (l' := #[.val (.int p1), .val (.int p2), .val (.int p3), .val (.int p4), .val (.int cm), .val (.ref t), .val (.ref u), .val (.int (3 : Int32)), .val (.int sm), .val (.ref qa), .val (.int xa), .val (.int ya), .val (.int xb), .val (.int yb), .val (.int xc), .val (.int yc), .val (.int xq), .val (.int yq), .val (.ref b2), .val (.int (1 : Int32)), .val (.int (1 : Int32)), .val (.int (1 : Int32)), .val (.int (0 : Int32)), .val (.int (1 : Int32)), .val (.int (-1 : Int32)), .val (.int (2 : Int32)), .val (.int (-1 : Int32)), .unset]) rfl ?_
            refine OE.iload X85 hx hby at_432 rfl ?_
            refine OE.ifNo X85 hx hby at_434 (feq (by decide : ¬ ((1 : Int32) = (0 : Int32)))).1 ?_
            refine OE.aload X85 hx hby at_437 rfl rfl ?_
            refine OE.iload X85 hx hby at_439 rfl ?_
            refine OE.iload X85 hx hby at_441 rfl ?_
            refine OE.aload X85 hx hby at_443 rfl rfl ?_
            refine OE.iload X85 hx hby at_445 rfl ?_
            refine OE.iload X85 hx hby at_447 rfl ?_
            have f86 : Arv Z T72.heap qa kq .char (4 : Int32) (List.map Value.int ql) (.int (0 : Int32)) := (((f5.keep K4 (ninS ne_qa_b2 nin0)).keep K49 (ninS ne_qa_b2 (ninS ne_qa_r4_sl (ninS ne_qa_r4_ha (ninS ne_qa_r4_st (ninS ne_qa_r4_ch nin0)))))).keep K72 (ninS ne_qa_b2 (ninS ne_qa_r4_sl (ninS ne_qa_r4_ha (ninS ne_qa_r4_st (ninS ne_qa_r4_ch nin0))))))
            obtain ⟨_, _, ⟨T87, L87, k87, n87⟩, -, X87, ⟨Lc87, hQ87, l87, y87, z87⟩, st87⟩ := Jvm.LawKit.callS X85 hx (y := (⟨"com/example/archerfish/archerfish/index/TokenTableFindPinLaw", "eq", "([CII[CII)Z"⟩ : MethodName)) hown (mvT hZ (hw _ (List.mem_of_getElem? (i := 46) rfl))) (mvT hZ (hw _ (List.mem_of_getElem? (i := 47) rfl))) (mvT hZ (hw _ (List.mem_of_getElem? (i := 3) rfl))) (mvT hZ (hw _ (List.mem_of_getElem? (i := 48) rfl))) (by decide) (backOf (W := 0) (own_rm8 l Z a0 hw [] qa xq yq t xa ya ql tl kq kt T72.heap n0 z74 f86 f73 hql htl hrQ hrA) hZ (hw _ (List.mem_of_getElem? (i := 48) rfl)) (hw _ (List.mem_of_getElem? (i := 3) rfl)) (by decide) (by decide)) (g := (mkF m 449 #[.val (.int p1), .val (.int p2), .val (.int p3), .val (.int p4), .val (.int cm), .val (.ref t), .val (.ref u), .val (.int (3 : Int32)), .val (.int sm), .val (.ref qa), .val (.int xa), .val (.int ya), .val (.int xb), .val (.int yb), .val (.int xc), .val (.int yc), .val (.int xq), .val (.int yq), .val (.ref b2), .val (.int (1 : Int32)), .val (.int (1 : Int32)), .val (.int (1 : Int32)), .val (.int (0 : Int32)), .val (.int (1 : Int32)), .val (.int (-1 : Int32)), .val (.int (2 : Int32)), .val (.int (-1 : Int32)), .unset] [(.int ya), (.int xa), (.ref t), (.int yq), (.int xq), (.ref qa)])) rfl (by rw [hml]; rfl) (argsL := [(.ref qa), (.int xq), (.int yq), (.ref t), (.int xa), (.int ya)]) (rest := []) (lenOf own_pd5 rfl) rfl (by show 2 * 0 + _ ≤ _; exact Nat.le_of_eq rfl) (hb hby at_449) (fun _ _ => ⟨rfl, eq85, (Nat.le_trans (Nat.add_le_add_right (Nat.add_le_add_right hcl1 5) 0) (by decide)), (Nat.le_trans (Nat.add_le_add_right (Nat.add_le_add_right hsl1 6150) 0) (by decide))⟩)
            dsimp only [Pt.U, Pt.locs, Pt.cells, Pt.slots] at X87 l87 y87 z87 st87 hQ87
            have yc87 : cells1 + 5 = k87 := y87.symm
            have zc87 : slots1 + 6150 = n87 := z87.symm
            have lc87 := l87.symm
            subst lc87 yc87 zc87
            obtain ⟨r87_r, rfl, Nq87, eq87, h87_hr⟩ := hQ87
            refine OE.of (fun _ k => st87 _ k) ?_
            have N87 := Fr.app N85 Nq87
            show OE _ p e below s _ _ _ T87 (mkF m 452 #[.val (.int p1), .val (.int p2), .val (.int p3), .val (.int p4), .val (.int cm), .val (.ref t), .val (.ref u), .val (.int (3 : Int32)), .val (.int sm), .val (.ref qa), .val (.int xa), .val (.int ya), .val (.int xb), .val (.int yb), .val (.int xc), .val (.int yc), .val (.int xq), .val (.int yq), .val (.ref b2), .val (.int (1 : Int32)), .val (.int (1 : Int32)), .val (.int (1 : Int32)), .val (.int (0 : Int32)), .val (.int (1 : Int32)), .val (.int (-1 : Int32)), .val (.int (2 : Int32)), .val (.int (-1 : Int32)), .unset] [(.int r87_r)])
            rcases h87_hr with ⟨e87, d87⟩ | ⟨e87, d87⟩
            · subst e87
              show OE _ p e below s _ _ _ T87 (mkF m 452 #[.val (.int p1), .val (.int p2), .val (.int p3), .val (.int p4), .val (.int cm), .val (.ref t), .val (.ref u), .val (.int (3 : Int32)), .val (.int sm), .val (.ref qa), .val (.int xa), .val (.int ya), .val (.int xb), .val (.int yb), .val (.int xc), .val (.int yc), .val (.int xq), .val (.int yq), .val (.ref b2), .val (.int (1 : Int32)), .val (.int (1 : Int32)), .val (.int (1 : Int32)), .val (.int (0 : Int32)), .val (.int (1 : Int32)), .val (.int (-1 : Int32)), .val (.int (2 : Int32)), .val (.int (-1 : Int32)), .unset] [(.int (1 : Int32))])
              refine OE.ifNo X87 hx hby at_452 (feq (by decide : ¬ ((1 : Int32) = (0 : Int32)))).1 ?_
              refine OE.iconst X87 hx hby at_455 (0 : Int32) rfl ?_
              refine OE.istore X87 hx hby at_456 (l' := #[.val (.int p1), .val (.int p2), .val (.int p3), .val (.int p4), .val (.int cm), .val (.ref t), .val (.ref u), .val (.int (3 : Int32)), .val (.int sm), .val (.ref qa), .val (.int xa), .val (.int ya), .val (.int xb), .val (.int yb), .val (.int xc), .val (.int yc), .val (.int xq), .val (.int yq), .val (.ref b2), .val (.int (1 : Int32)), .val (.int (1 : Int32)), .val (.int (1 : Int32)), .val (.int (0 : Int32)), .val (.int (1 : Int32)), .val (.int (-1 : Int32)), .val (.int (2 : Int32)), .val (.int (0 : Int32)), .unset]) rfl ?_
              refine OE.goto X87 hx hby (pc' := 518) at_458 (h := ?_)
              refine OE.aload X87 hx hby at_518 rfl rfl ?_
              refine OE.aload X87 hx hby at_520 rfl rfl ?_
              refine OE.iload X87 hx hby at_522 rfl ?_
              refine OE.iload X87 hx hby at_524 rfl ?_
              obtain ⟨cq88, kq88, qa88, qb88, qc88⟩ := isOf hZ eq87 q72_0
              obtain ⟨_, _, ⟨T88, L88, k88, n88⟩, -, X88, ⟨Lc88, hQ88, l88, y88, z88⟩, st88⟩ := X87.virtualBack hx (y := (⟨"com/example/archerfish/archerfish/index/TokenTable", "find", "([CII)I"⟩ : MethodName)) (z := (⟨"com/example/archerfish/archerfish/index/TokenTable", "find", "([CII)I"⟩ : MethodName)) hown (mvT hZ (hw _ (List.mem_of_getElem? (i := 49) rfl))) (mvT hZ (hw _ (List.mem_of_getElem? (i := 50) rfl))) (notFace_of_selects (args := #[]) (mvT hZ (hw _ (List.mem_of_getElem? (i := 52) rfl)))) (mvT hZ (hw _ (List.mem_of_getElem? (i := 52) rfl))) (mvT hZ (hw _ (List.mem_of_getElem? (i := 51) rfl))) (by decide) (backOf (W := 0) (own_rm9 l Z a0 hw [] b2 qa xq yq r4_sl r4_ha r4_st r4_ch r4_ksl r4_kha r4_kst r4_kch kq r72_S1 r72_vsH1 r72_vsS1 r72_vsC1 ql ([(own_sl tl xa ya), (own_sl tl xb yb)] : List (List Int32)) r72_F1 T72.heap n0 z74 q72_0 q72_1 q72_2 q72_3 q72_4 q72_6 q72_7 q72_8 q72_9 f86 I72 hql hrQ (by decide : 2 ≤ 3)) hZ (hw _ (List.mem_of_getElem? (i := 53) rfl)) (hw _ (List.mem_of_getElem? (i := 10) rfl)) (by decide) (by decide)) qa88 qc88 (g := (mkF m 526 #[.val (.int p1), .val (.int p2), .val (.int p3), .val (.int p4), .val (.int cm), .val (.ref t), .val (.ref u), .val (.int (3 : Int32)), .val (.int sm), .val (.ref qa), .val (.int xa), .val (.int ya), .val (.int xb), .val (.int yb), .val (.int xc), .val (.int yc), .val (.int xq), .val (.int yq), .val (.ref b2), .val (.int (1 : Int32)), .val (.int (1 : Int32)), .val (.int (1 : Int32)), .val (.int (0 : Int32)), .val (.int (1 : Int32)), .val (.int (-1 : Int32)), .val (.int (2 : Int32)), .val (.int (0 : Int32)), .unset] [(.int yq), (.int xq), (.ref qa), (.ref b2)])) rfl (by rw [hml]; rfl) (Steps.refl _) (argsL := [(.ref qa), (.int xq), (.int yq)]) (rest := []) (lenOf own_pd0 rfl) rfl (by show 2 * 0 + _ ≤ _; exact Nat.le_of_eq rfl) (hb hby at_526) (fun _ _ => ⟨rfl, eq87, (Nat.le_trans (Nat.add_le_add_right (Nat.add_le_add_right hcl1 5) 0) (by decide)), (Nat.le_trans (Nat.add_le_add_right (Nat.add_le_add_right hsl1 6150) 0) (by decide))⟩)
              dsimp only [Pt.U, Pt.locs, Pt.cells, Pt.slots] at X88 l88 y88 z88 st88 hQ88
              have yc88 : cells1 + 5 = k88 := y88.symm
              have zc88 : slots1 + 6150 = n88 := z88.symm
              have lc88 := l88.symm
              subst lc88 yc88 zc88
              obtain ⟨r88_r, rfl, Nq88, eq88, h88_hr⟩ := hQ88
              refine OE.of (fun _ k => st88.trans k) ?_
              have N88 := Fr.app N87 Nq88
              show OE _ p e below s _ _ _ T88 (mkF m 529 #[.val (.int p1), .val (.int p2), .val (.int p3), .val (.int p4), .val (.int cm), .val (.ref t), .val (.ref u), .val (.int (3 : Int32)), .val (.int sm), .val (.ref qa), .val (.int xa), .val (.int ya), .val (.int xb), .val (.int yb), .val (.int xc), .val (.int yc), .val (.int xq), .val (.int yq), .val (.ref b2), .val (.int (1 : Int32)), .val (.int (1 : Int32)), .val (.int (1 : Int32)), .val (.int (0 : Int32)), .val (.int (1 : Int32)), .val (.int (-1 : Int32)), .val (.int (2 : Int32)), .val (.int (0 : Int32)), .unset] [(.int r88_r)])
              refine OE.istore X88 hx hby at_529 (l' := #[.val (.int p1), .val (.int p2), .val (.int p3), .val (.int p4), .val (.int cm), .val (.ref t), .val (.ref u), .val (.int (3 : Int32)), .val (.int sm), .val (.ref qa), .val (.int xa), .val (.int ya), .val (.int xb), .val (.int yb), .val (.int xc), .val (.int yc), .val (.int xq), .val (.int yq), .val (.ref b2), .val (.int (1 : Int32)), .val (.int (1 : Int32)), .val (.int (1 : Int32)), .val (.int (0 : Int32)), .val (.int (1 : Int32)), .val (.int (-1 : Int32)), .val (.int (2 : Int32)), .val (.int (0 : Int32)), .val (.int r88_r)]) rfl ?_
              refine OE.iload X88 hx hby at_531 rfl ?_
              refine OE.ifNo X88 hx hby at_533 (feq (by decide : ¬ ((1 : Int32) = (0 : Int32)))).1 ?_
              refine OE.aload X88 hx hby at_536 rfl rfl ?_
              obtain ⟨cq89, kq89, qa89, qb89, qc89⟩ := isOf hZ eq88 q72_0
              obtain ⟨_, _, ⟨T89, L89, k89, n89⟩, -, X89, ⟨Lc89, hQ89, l89, y89, z89⟩, st89⟩ := X88.virtualBack hx (y := (⟨"com/example/archerfish/archerfish/index/TokenTable", "size", "()I"⟩ : MethodName)) (z := (⟨"com/example/archerfish/archerfish/index/TokenTable", "size", "()I"⟩ : MethodName)) hown (mvT hZ (hw _ (List.mem_of_getElem? (i := 58) rfl))) (mvT hZ (hw _ (List.mem_of_getElem? (i := 59) rfl))) (notFace_of_selects (args := #[]) (mvT hZ (hw _ (List.mem_of_getElem? (i := 61) rfl)))) (mvT hZ (hw _ (List.mem_of_getElem? (i := 61) rfl))) (mvT hZ (hw _ (List.mem_of_getElem? (i := 60) rfl))) (by decide) (backOf (W := 0) (own_rm11 l Z a0 hw [] b2 (2 : Int32) T72.heap n0 z74 q72_5) hZ (hw _ (List.mem_of_getElem? (i := 62) rfl)) (hw _ (List.mem_of_getElem? (i := 10) rfl)) (by decide) (by decide)) qa89 qc89 (g := (mkF m 538 #[.val (.int p1), .val (.int p2), .val (.int p3), .val (.int p4), .val (.int cm), .val (.ref t), .val (.ref u), .val (.int (3 : Int32)), .val (.int sm), .val (.ref qa), .val (.int xa), .val (.int ya), .val (.int xb), .val (.int yb), .val (.int xc), .val (.int yc), .val (.int xq), .val (.int yq), .val (.ref b2), .val (.int (1 : Int32)), .val (.int (1 : Int32)), .val (.int (1 : Int32)), .val (.int (0 : Int32)), .val (.int (1 : Int32)), .val (.int (-1 : Int32)), .val (.int (2 : Int32)), .val (.int (0 : Int32)), .val (.int r88_r)] [(.ref b2)])) rfl (by rw [hml]; rfl) (Steps.refl _) (argsL := []) (rest := []) (lenOf own_pd4 rfl) rfl (by show 2 * 0 + _ ≤ _; exact Nat.le_of_eq rfl) (hb hby at_538) (fun _ _ => ⟨rfl, eq88, (Nat.le_trans (Nat.add_le_add_right (Nat.add_le_add_right hcl1 5) 0) (by decide)), (Nat.le_trans (Nat.add_le_add_right (Nat.add_le_add_right hsl1 6150) 0) (by decide))⟩)
              dsimp only [Pt.U, Pt.locs, Pt.cells, Pt.slots] at X89 l89 y89 z89 st89 hQ89
              have yc89 : cells1 + 5 = k89 := y89.symm
              have zc89 : slots1 + 6150 = n89 := z89.symm
              have lc89 := l89.symm
              subst lc89 yc89 zc89
              obtain ⟨rfl, Nq89, eq89⟩ := hQ89
              refine OE.of (fun _ k => st89.trans k) ?_
              have N89 := Fr.app N88 Nq89
              show OE _ p e below s _ _ _ T89 (mkF m 541 #[.val (.int p1), .val (.int p2), .val (.int p3), .val (.int p4), .val (.int cm), .val (.ref t), .val (.ref u), .val (.int (3 : Int32)), .val (.int sm), .val (.ref qa), .val (.int xa), .val (.int ya), .val (.int xb), .val (.int yb), .val (.int xc), .val (.int yc), .val (.int xq), .val (.int yq), .val (.ref b2), .val (.int (1 : Int32)), .val (.int (1 : Int32)), .val (.int (1 : Int32)), .val (.int (0 : Int32)), .val (.int (1 : Int32)), .val (.int (-1 : Int32)), .val (.int (2 : Int32)), .val (.int (0 : Int32)), .val (.int r88_r)] [(.int (2 : Int32))])
              refine OE.iload X89 hx hby at_541 rfl ?_
              refine OE.icmpNo X89 hx hby at_543 (teq (by decide : (2 : Int32) = (2 : Int32))).2 ?_
              refine OE.iload X89 hx hby at_546 rfl ?_
              refine OE.iload X89 hx hby at_548 rfl ?_
              refine OE.icmpNo X89 hx hby at_550 (teq (own_f2a h88_hr d52  d87 : r88_r = (0 : Int32))).2 ?_
              refine OE.iload X89 hx hby at_553 rfl ?_
              refine OE.iconst X89 hx hby at_555 (-1 : Int32) rfl ?_
              refine OE.icmpNo X89 hx hby at_556 (flt (by decide : ¬ ((0 : Int32) < (-1 : Int32)))).1 ?_
              refine OE.iconst X89 hx hby at_559 (1 : Int32) rfl ?_
              refine OE.goto X89 hx hby (pc' := 564) at_560 (h := ?_)
              refine OE.retN X89 hx (t := .boolean) Bd.returns (by simp) Bd.notSynchronized (hb hby at_564) (Nat.le_trans (Nat.add_le_add_right hcl1 5) (by decide)) (Nat.le_trans (Nat.add_le_add_right hsl1 6150) (by decide)) ?_
              rw [eq89]
              exact ⟨rfl, N89⟩
            · subst e87
              show OE _ p e below s _ _ _ T87 (mkF m 452 #[.val (.int p1), .val (.int p2), .val (.int p3), .val (.int p4), .val (.int cm), .val (.ref t), .val (.ref u), .val (.int (3 : Int32)), .val (.int sm), .val (.ref qa), .val (.int xa), .val (.int ya), .val (.int xb), .val (.int yb), .val (.int xc), .val (.int yc), .val (.int xq), .val (.int yq), .val (.ref b2), .val (.int (1 : Int32)), .val (.int (1 : Int32)), .val (.int (1 : Int32)), .val (.int (0 : Int32)), .val (.int (1 : Int32)), .val (.int (-1 : Int32)), .val (.int (2 : Int32)), .val (.int (-1 : Int32)), .unset] [(.int (0 : Int32))])
              refine OE.ifYes X87 hx hby (pc' := 461) at_452 (teq (by decide : (0 : Int32) = (0 : Int32))).1 (h := ?_)
              refine OE.iload X87 hx hby at_461 rfl ?_
              refine OE.ifNo X87 hx hby at_463 (feq (by decide : ¬ ((1 : Int32) = (0 : Int32)))).1 ?_
              refine OE.aload X87 hx hby at_466 rfl rfl ?_
              refine OE.iload X87 hx hby at_468 rfl ?_
              refine OE.iload X87 hx hby at_470 rfl ?_
              refine OE.aload X87 hx hby at_472 rfl rfl ?_
              refine OE.iload X87 hx hby at_474 rfl ?_
              refine OE.iload X87 hx hby at_476 rfl ?_
              obtain ⟨_, _, ⟨T90, L90, k90, n90⟩, -, X90, ⟨Lc90, hQ90, l90, y90, z90⟩, st90⟩ := Jvm.LawKit.callS X87 hx (y := (⟨"com/example/archerfish/archerfish/index/TokenTableFindPinLaw", "eq", "([CII[CII)Z"⟩ : MethodName)) hown (mvT hZ (hw _ (List.mem_of_getElem? (i := 46) rfl))) (mvT hZ (hw _ (List.mem_of_getElem? (i := 47) rfl))) (mvT hZ (hw _ (List.mem_of_getElem? (i := 3) rfl))) (mvT hZ (hw _ (List.mem_of_getElem? (i := 48) rfl))) (by decide) (backOf (W := 0) (own_rm8 l Z a0 hw [] qa xq yq t xb yb ql tl kq kt T72.heap n0 z74 f86 f73 hql htl hrQ hrB) hZ (hw _ (List.mem_of_getElem? (i := 48) rfl)) (hw _ (List.mem_of_getElem? (i := 3) rfl)) (by decide) (by decide)) (g := (mkF m 478 #[.val (.int p1), .val (.int p2), .val (.int p3), .val (.int p4), .val (.int cm), .val (.ref t), .val (.ref u), .val (.int (3 : Int32)), .val (.int sm), .val (.ref qa), .val (.int xa), .val (.int ya), .val (.int xb), .val (.int yb), .val (.int xc), .val (.int yc), .val (.int xq), .val (.int yq), .val (.ref b2), .val (.int (1 : Int32)), .val (.int (1 : Int32)), .val (.int (1 : Int32)), .val (.int (0 : Int32)), .val (.int (1 : Int32)), .val (.int (-1 : Int32)), .val (.int (2 : Int32)), .val (.int (-1 : Int32)), .unset] [(.int yb), (.int xb), (.ref t), (.int yq), (.int xq), (.ref qa)])) rfl (by rw [hml]; rfl) (argsL := [(.ref qa), (.int xq), (.int yq), (.ref t), (.int xb), (.int yb)]) (rest := []) (lenOf own_pd5 rfl) rfl (by show 2 * 0 + _ ≤ _; exact Nat.le_of_eq rfl) (hb hby at_478) (fun _ _ => ⟨rfl, eq87, (Nat.le_trans (Nat.add_le_add_right (Nat.add_le_add_right hcl1 5) 0) (by decide)), (Nat.le_trans (Nat.add_le_add_right (Nat.add_le_add_right hsl1 6150) 0) (by decide))⟩)
              dsimp only [Pt.U, Pt.locs, Pt.cells, Pt.slots] at X90 l90 y90 z90 st90 hQ90
              have yc90 : cells1 + 5 = k90 := y90.symm
              have zc90 : slots1 + 6150 = n90 := z90.symm
              have lc90 := l90.symm
              subst lc90 yc90 zc90
              obtain ⟨r90_r, rfl, Nq90, eq90, h90_hr⟩ := hQ90
              refine OE.of (fun _ k => st90 _ k) ?_
              have N90 := Fr.app N87 Nq90
              show OE _ p e below s _ _ _ T90 (mkF m 481 #[.val (.int p1), .val (.int p2), .val (.int p3), .val (.int p4), .val (.int cm), .val (.ref t), .val (.ref u), .val (.int (3 : Int32)), .val (.int sm), .val (.ref qa), .val (.int xa), .val (.int ya), .val (.int xb), .val (.int yb), .val (.int xc), .val (.int yc), .val (.int xq), .val (.int yq), .val (.ref b2), .val (.int (1 : Int32)), .val (.int (1 : Int32)), .val (.int (1 : Int32)), .val (.int (0 : Int32)), .val (.int (1 : Int32)), .val (.int (-1 : Int32)), .val (.int (2 : Int32)), .val (.int (-1 : Int32)), .unset] [(.int r90_r)])
              rcases h90_hr with ⟨e90, d90⟩ | ⟨e90, d90⟩
              · subst e90
                show OE _ p e below s _ _ _ T90 (mkF m 481 #[.val (.int p1), .val (.int p2), .val (.int p3), .val (.int p4), .val (.int cm), .val (.ref t), .val (.ref u), .val (.int (3 : Int32)), .val (.int sm), .val (.ref qa), .val (.int xa), .val (.int ya), .val (.int xb), .val (.int yb), .val (.int xc), .val (.int yc), .val (.int xq), .val (.int yq), .val (.ref b2), .val (.int (1 : Int32)), .val (.int (1 : Int32)), .val (.int (1 : Int32)), .val (.int (0 : Int32)), .val (.int (1 : Int32)), .val (.int (-1 : Int32)), .val (.int (2 : Int32)), .val (.int (-1 : Int32)), .unset] [(.int (1 : Int32))])
                refine OE.ifNo X90 hx hby at_481 (feq (by decide : ¬ ((1 : Int32) = (0 : Int32)))).1 ?_
                refine OE.iload X90 hx hby at_484 rfl ?_
                refine OE.istore X90 hx hby at_486 (l' := #[.val (.int p1), .val (.int p2), .val (.int p3), .val (.int p4), .val (.int cm), .val (.ref t), .val (.ref u), .val (.int (3 : Int32)), .val (.int sm), .val (.ref qa), .val (.int xa), .val (.int ya), .val (.int xb), .val (.int yb), .val (.int xc), .val (.int yc), .val (.int xq), .val (.int yq), .val (.ref b2), .val (.int (1 : Int32)), .val (.int (1 : Int32)), .val (.int (1 : Int32)), .val (.int (0 : Int32)), .val (.int (1 : Int32)), .val (.int (-1 : Int32)), .val (.int (2 : Int32)), .val (.int (1 : Int32)), .unset]) rfl ?_
                refine OE.goto X90 hx hby (pc' := 518) at_488 (h := ?_)
                refine OE.aload X90 hx hby at_518 rfl rfl ?_
                refine OE.aload X90 hx hby at_520 rfl rfl ?_
                refine OE.iload X90 hx hby at_522 rfl ?_
                refine OE.iload X90 hx hby at_524 rfl ?_
                obtain ⟨cq91, kq91, qa91, qb91, qc91⟩ := isOf hZ eq90 q72_0
                obtain ⟨_, _, ⟨T91, L91, k91, n91⟩, -, X91, ⟨Lc91, hQ91, l91, y91, z91⟩, st91⟩ := X90.virtualBack hx (y := (⟨"com/example/archerfish/archerfish/index/TokenTable", "find", "([CII)I"⟩ : MethodName)) (z := (⟨"com/example/archerfish/archerfish/index/TokenTable", "find", "([CII)I"⟩ : MethodName)) hown (mvT hZ (hw _ (List.mem_of_getElem? (i := 49) rfl))) (mvT hZ (hw _ (List.mem_of_getElem? (i := 50) rfl))) (notFace_of_selects (args := #[]) (mvT hZ (hw _ (List.mem_of_getElem? (i := 52) rfl)))) (mvT hZ (hw _ (List.mem_of_getElem? (i := 52) rfl))) (mvT hZ (hw _ (List.mem_of_getElem? (i := 51) rfl))) (by decide) (backOf (W := 0) (own_rm9 l Z a0 hw [] b2 qa xq yq r4_sl r4_ha r4_st r4_ch r4_ksl r4_kha r4_kst r4_kch kq r72_S1 r72_vsH1 r72_vsS1 r72_vsC1 ql ([(own_sl tl xa ya), (own_sl tl xb yb)] : List (List Int32)) r72_F1 T72.heap n0 z74 q72_0 q72_1 q72_2 q72_3 q72_4 q72_6 q72_7 q72_8 q72_9 f86 I72 hql hrQ (by decide : 2 ≤ 3)) hZ (hw _ (List.mem_of_getElem? (i := 53) rfl)) (hw _ (List.mem_of_getElem? (i := 10) rfl)) (by decide) (by decide)) qa91 qc91 (g := (mkF m 526 #[.val (.int p1), .val (.int p2), .val (.int p3), .val (.int p4), .val (.int cm), .val (.ref t), .val (.ref u), .val (.int (3 : Int32)), .val (.int sm), .val (.ref qa), .val (.int xa), .val (.int ya), .val (.int xb), .val (.int yb), .val (.int xc), .val (.int yc), .val (.int xq), .val (.int yq), .val (.ref b2), .val (.int (1 : Int32)), .val (.int (1 : Int32)), .val (.int (1 : Int32)), .val (.int (0 : Int32)), .val (.int (1 : Int32)), .val (.int (-1 : Int32)), .val (.int (2 : Int32)), .val (.int (1 : Int32)), .unset] [(.int yq), (.int xq), (.ref qa), (.ref b2)])) rfl (by rw [hml]; rfl) (Steps.refl _) (argsL := [(.ref qa), (.int xq), (.int yq)]) (rest := []) (lenOf own_pd0 rfl) rfl (by show 2 * 0 + _ ≤ _; exact Nat.le_of_eq rfl) (hb hby at_526) (fun _ _ => ⟨rfl, eq90, (Nat.le_trans (Nat.add_le_add_right (Nat.add_le_add_right hcl1 5) 0) (by decide)), (Nat.le_trans (Nat.add_le_add_right (Nat.add_le_add_right hsl1 6150) 0) (by decide))⟩)
                dsimp only [Pt.U, Pt.locs, Pt.cells, Pt.slots] at X91 l91 y91 z91 st91 hQ91
                have yc91 : cells1 + 5 = k91 := y91.symm
                have zc91 : slots1 + 6150 = n91 := z91.symm
                have lc91 := l91.symm
                subst lc91 yc91 zc91
                obtain ⟨r91_r, rfl, Nq91, eq91, h91_hr⟩ := hQ91
                refine OE.of (fun _ k => st91.trans k) ?_
                have N91 := Fr.app N90 Nq91
                show OE _ p e below s _ _ _ T91 (mkF m 529 #[.val (.int p1), .val (.int p2), .val (.int p3), .val (.int p4), .val (.int cm), .val (.ref t), .val (.ref u), .val (.int (3 : Int32)), .val (.int sm), .val (.ref qa), .val (.int xa), .val (.int ya), .val (.int xb), .val (.int yb), .val (.int xc), .val (.int yc), .val (.int xq), .val (.int yq), .val (.ref b2), .val (.int (1 : Int32)), .val (.int (1 : Int32)), .val (.int (1 : Int32)), .val (.int (0 : Int32)), .val (.int (1 : Int32)), .val (.int (-1 : Int32)), .val (.int (2 : Int32)), .val (.int (1 : Int32)), .unset] [(.int r91_r)])
                refine OE.istore X91 hx hby at_529 (l' := #[.val (.int p1), .val (.int p2), .val (.int p3), .val (.int p4), .val (.int cm), .val (.ref t), .val (.ref u), .val (.int (3 : Int32)), .val (.int sm), .val (.ref qa), .val (.int xa), .val (.int ya), .val (.int xb), .val (.int yb), .val (.int xc), .val (.int yc), .val (.int xq), .val (.int yq), .val (.ref b2), .val (.int (1 : Int32)), .val (.int (1 : Int32)), .val (.int (1 : Int32)), .val (.int (0 : Int32)), .val (.int (1 : Int32)), .val (.int (-1 : Int32)), .val (.int (2 : Int32)), .val (.int (1 : Int32)), .val (.int r91_r)]) rfl ?_
                refine OE.iload X91 hx hby at_531 rfl ?_
                refine OE.ifNo X91 hx hby at_533 (feq (by decide : ¬ ((1 : Int32) = (0 : Int32)))).1 ?_
                refine OE.aload X91 hx hby at_536 rfl rfl ?_
                obtain ⟨cq92, kq92, qa92, qb92, qc92⟩ := isOf hZ eq91 q72_0
                obtain ⟨_, _, ⟨T92, L92, k92, n92⟩, -, X92, ⟨Lc92, hQ92, l92, y92, z92⟩, st92⟩ := X91.virtualBack hx (y := (⟨"com/example/archerfish/archerfish/index/TokenTable", "size", "()I"⟩ : MethodName)) (z := (⟨"com/example/archerfish/archerfish/index/TokenTable", "size", "()I"⟩ : MethodName)) hown (mvT hZ (hw _ (List.mem_of_getElem? (i := 58) rfl))) (mvT hZ (hw _ (List.mem_of_getElem? (i := 59) rfl))) (notFace_of_selects (args := #[]) (mvT hZ (hw _ (List.mem_of_getElem? (i := 61) rfl)))) (mvT hZ (hw _ (List.mem_of_getElem? (i := 61) rfl))) (mvT hZ (hw _ (List.mem_of_getElem? (i := 60) rfl))) (by decide) (backOf (W := 0) (own_rm11 l Z a0 hw [] b2 (2 : Int32) T72.heap n0 z74 q72_5) hZ (hw _ (List.mem_of_getElem? (i := 62) rfl)) (hw _ (List.mem_of_getElem? (i := 10) rfl)) (by decide) (by decide)) qa92 qc92 (g := (mkF m 538 #[.val (.int p1), .val (.int p2), .val (.int p3), .val (.int p4), .val (.int cm), .val (.ref t), .val (.ref u), .val (.int (3 : Int32)), .val (.int sm), .val (.ref qa), .val (.int xa), .val (.int ya), .val (.int xb), .val (.int yb), .val (.int xc), .val (.int yc), .val (.int xq), .val (.int yq), .val (.ref b2), .val (.int (1 : Int32)), .val (.int (1 : Int32)), .val (.int (1 : Int32)), .val (.int (0 : Int32)), .val (.int (1 : Int32)), .val (.int (-1 : Int32)), .val (.int (2 : Int32)), .val (.int (1 : Int32)), .val (.int r91_r)] [(.ref b2)])) rfl (by rw [hml]; rfl) (Steps.refl _) (argsL := []) (rest := []) (lenOf own_pd4 rfl) rfl (by show 2 * 0 + _ ≤ _; exact Nat.le_of_eq rfl) (hb hby at_538) (fun _ _ => ⟨rfl, eq91, (Nat.le_trans (Nat.add_le_add_right (Nat.add_le_add_right hcl1 5) 0) (by decide)), (Nat.le_trans (Nat.add_le_add_right (Nat.add_le_add_right hsl1 6150) 0) (by decide))⟩)
                dsimp only [Pt.U, Pt.locs, Pt.cells, Pt.slots] at X92 l92 y92 z92 st92 hQ92
                have yc92 : cells1 + 5 = k92 := y92.symm
                have zc92 : slots1 + 6150 = n92 := z92.symm
                have lc92 := l92.symm
                subst lc92 yc92 zc92
                obtain ⟨rfl, Nq92, eq92⟩ := hQ92
                refine OE.of (fun _ k => st92.trans k) ?_
                have N92 := Fr.app N91 Nq92
                show OE _ p e below s _ _ _ T92 (mkF m 541 #[.val (.int p1), .val (.int p2), .val (.int p3), .val (.int p4), .val (.int cm), .val (.ref t), .val (.ref u), .val (.int (3 : Int32)), .val (.int sm), .val (.ref qa), .val (.int xa), .val (.int ya), .val (.int xb), .val (.int yb), .val (.int xc), .val (.int yc), .val (.int xq), .val (.int yq), .val (.ref b2), .val (.int (1 : Int32)), .val (.int (1 : Int32)), .val (.int (1 : Int32)), .val (.int (0 : Int32)), .val (.int (1 : Int32)), .val (.int (-1 : Int32)), .val (.int (2 : Int32)), .val (.int (1 : Int32)), .val (.int r91_r)] [(.int (2 : Int32))])
                refine OE.iload X92 hx hby at_541 rfl ?_
                refine OE.icmpNo X92 hx hby at_543 (teq (by decide : (2 : Int32) = (2 : Int32))).2 ?_
                refine OE.iload X92 hx hby at_546 rfl ?_
                refine OE.iload X92 hx hby at_548 rfl ?_
                refine OE.icmpNo X92 hx hby at_550 (teq (own_f2b h91_hr  d87 d90 : r91_r = (1 : Int32))).2 ?_
                refine OE.iload X92 hx hby at_553 rfl ?_
                refine OE.iconst X92 hx hby at_555 (-1 : Int32) rfl ?_
                refine OE.icmpNo X92 hx hby at_556 (flt (by decide : ¬ ((1 : Int32) < (-1 : Int32)))).1 ?_
                refine OE.iconst X92 hx hby at_559 (1 : Int32) rfl ?_
                refine OE.goto X92 hx hby (pc' := 564) at_560 (h := ?_)
                refine OE.retN X92 hx (t := .boolean) Bd.returns (by simp) Bd.notSynchronized (hb hby at_564) (Nat.le_trans (Nat.add_le_add_right hcl1 5) (by decide)) (Nat.le_trans (Nat.add_le_add_right hsl1 6150) (by decide)) ?_
                rw [eq92]
                exact ⟨rfl, N92⟩
              · subst e90
                show OE _ p e below s _ _ _ T90 (mkF m 481 #[.val (.int p1), .val (.int p2), .val (.int p3), .val (.int p4), .val (.int cm), .val (.ref t), .val (.ref u), .val (.int (3 : Int32)), .val (.int sm), .val (.ref qa), .val (.int xa), .val (.int ya), .val (.int xb), .val (.int yb), .val (.int xc), .val (.int yc), .val (.int xq), .val (.int yq), .val (.ref b2), .val (.int (1 : Int32)), .val (.int (1 : Int32)), .val (.int (1 : Int32)), .val (.int (0 : Int32)), .val (.int (1 : Int32)), .val (.int (-1 : Int32)), .val (.int (2 : Int32)), .val (.int (-1 : Int32)), .unset] [(.int (0 : Int32))])
                refine OE.ifYes X90 hx hby (pc' := 491) at_481 (teq (by decide : (0 : Int32) = (0 : Int32))).1 (h := ?_)
                refine OE.iload X90 hx hby at_491 rfl ?_
                refine OE.ifYes X90 hx hby (pc' := 518) at_493 (teq (by decide : (0 : Int32) = (0 : Int32))).1 (h := ?_)
                refine OE.aload X90 hx hby at_518 rfl rfl ?_
                refine OE.aload X90 hx hby at_520 rfl rfl ?_
                refine OE.iload X90 hx hby at_522 rfl ?_
                refine OE.iload X90 hx hby at_524 rfl ?_
                obtain ⟨cq93, kq93, qa93, qb93, qc93⟩ := isOf hZ eq90 q72_0
                obtain ⟨_, _, ⟨T93, L93, k93, n93⟩, -, X93, ⟨Lc93, hQ93, l93, y93, z93⟩, st93⟩ := X90.virtualBack hx (y := (⟨"com/example/archerfish/archerfish/index/TokenTable", "find", "([CII)I"⟩ : MethodName)) (z := (⟨"com/example/archerfish/archerfish/index/TokenTable", "find", "([CII)I"⟩ : MethodName)) hown (mvT hZ (hw _ (List.mem_of_getElem? (i := 49) rfl))) (mvT hZ (hw _ (List.mem_of_getElem? (i := 50) rfl))) (notFace_of_selects (args := #[]) (mvT hZ (hw _ (List.mem_of_getElem? (i := 52) rfl)))) (mvT hZ (hw _ (List.mem_of_getElem? (i := 52) rfl))) (mvT hZ (hw _ (List.mem_of_getElem? (i := 51) rfl))) (by decide) (backOf (W := 0) (own_rm9 l Z a0 hw [] b2 qa xq yq r4_sl r4_ha r4_st r4_ch r4_ksl r4_kha r4_kst r4_kch kq r72_S1 r72_vsH1 r72_vsS1 r72_vsC1 ql ([(own_sl tl xa ya), (own_sl tl xb yb)] : List (List Int32)) r72_F1 T72.heap n0 z74 q72_0 q72_1 q72_2 q72_3 q72_4 q72_6 q72_7 q72_8 q72_9 f86 I72 hql hrQ (by decide : 2 ≤ 3)) hZ (hw _ (List.mem_of_getElem? (i := 53) rfl)) (hw _ (List.mem_of_getElem? (i := 10) rfl)) (by decide) (by decide)) qa93 qc93 (g := (mkF m 526 #[.val (.int p1), .val (.int p2), .val (.int p3), .val (.int p4), .val (.int cm), .val (.ref t), .val (.ref u), .val (.int (3 : Int32)), .val (.int sm), .val (.ref qa), .val (.int xa), .val (.int ya), .val (.int xb), .val (.int yb), .val (.int xc), .val (.int yc), .val (.int xq), .val (.int yq), .val (.ref b2), .val (.int (1 : Int32)), .val (.int (1 : Int32)), .val (.int (1 : Int32)), .val (.int (0 : Int32)), .val (.int (1 : Int32)), .val (.int (-1 : Int32)), .val (.int (2 : Int32)), .val (.int (-1 : Int32)), .unset] [(.int yq), (.int xq), (.ref qa), (.ref b2)])) rfl (by rw [hml]; rfl) (Steps.refl _) (argsL := [(.ref qa), (.int xq), (.int yq)]) (rest := []) (lenOf own_pd0 rfl) rfl (by show 2 * 0 + _ ≤ _; exact Nat.le_of_eq rfl) (hb hby at_526) (fun _ _ => ⟨rfl, eq90, (Nat.le_trans (Nat.add_le_add_right (Nat.add_le_add_right hcl1 5) 0) (by decide)), (Nat.le_trans (Nat.add_le_add_right (Nat.add_le_add_right hsl1 6150) 0) (by decide))⟩)
                dsimp only [Pt.U, Pt.locs, Pt.cells, Pt.slots] at X93 l93 y93 z93 st93 hQ93
                have yc93 : cells1 + 5 = k93 := y93.symm
                have zc93 : slots1 + 6150 = n93 := z93.symm
                have lc93 := l93.symm
                subst lc93 yc93 zc93
                obtain ⟨r93_r, rfl, Nq93, eq93, h93_hr⟩ := hQ93
                refine OE.of (fun _ k => st93.trans k) ?_
                have N93 := Fr.app N90 Nq93
                show OE _ p e below s _ _ _ T93 (mkF m 529 #[.val (.int p1), .val (.int p2), .val (.int p3), .val (.int p4), .val (.int cm), .val (.ref t), .val (.ref u), .val (.int (3 : Int32)), .val (.int sm), .val (.ref qa), .val (.int xa), .val (.int ya), .val (.int xb), .val (.int yb), .val (.int xc), .val (.int yc), .val (.int xq), .val (.int yq), .val (.ref b2), .val (.int (1 : Int32)), .val (.int (1 : Int32)), .val (.int (1 : Int32)), .val (.int (0 : Int32)), .val (.int (1 : Int32)), .val (.int (-1 : Int32)), .val (.int (2 : Int32)), .val (.int (-1 : Int32)), .unset] [(.int r93_r)])
                refine OE.istore X93 hx hby at_529 (l' := #[.val (.int p1), .val (.int p2), .val (.int p3), .val (.int p4), .val (.int cm), .val (.ref t), .val (.ref u), .val (.int (3 : Int32)), .val (.int sm), .val (.ref qa), .val (.int xa), .val (.int ya), .val (.int xb), .val (.int yb), .val (.int xc), .val (.int yc), .val (.int xq), .val (.int yq), .val (.ref b2), .val (.int (1 : Int32)), .val (.int (1 : Int32)), .val (.int (1 : Int32)), .val (.int (0 : Int32)), .val (.int (1 : Int32)), .val (.int (-1 : Int32)), .val (.int (2 : Int32)), .val (.int (-1 : Int32)), .val (.int r93_r)]) rfl ?_
                refine OE.iload X93 hx hby at_531 rfl ?_
                refine OE.ifNo X93 hx hby at_533 (feq (by decide : ¬ ((1 : Int32) = (0 : Int32)))).1 ?_
                refine OE.aload X93 hx hby at_536 rfl rfl ?_
                obtain ⟨cq94, kq94, qa94, qb94, qc94⟩ := isOf hZ eq93 q72_0
                obtain ⟨_, _, ⟨T94, L94, k94, n94⟩, -, X94, ⟨Lc94, hQ94, l94, y94, z94⟩, st94⟩ := X93.virtualBack hx (y := (⟨"com/example/archerfish/archerfish/index/TokenTable", "size", "()I"⟩ : MethodName)) (z := (⟨"com/example/archerfish/archerfish/index/TokenTable", "size", "()I"⟩ : MethodName)) hown (mvT hZ (hw _ (List.mem_of_getElem? (i := 58) rfl))) (mvT hZ (hw _ (List.mem_of_getElem? (i := 59) rfl))) (notFace_of_selects (args := #[]) (mvT hZ (hw _ (List.mem_of_getElem? (i := 61) rfl)))) (mvT hZ (hw _ (List.mem_of_getElem? (i := 61) rfl))) (mvT hZ (hw _ (List.mem_of_getElem? (i := 60) rfl))) (by decide) (backOf (W := 0) (own_rm11 l Z a0 hw [] b2 (2 : Int32) T72.heap n0 z74 q72_5) hZ (hw _ (List.mem_of_getElem? (i := 62) rfl)) (hw _ (List.mem_of_getElem? (i := 10) rfl)) (by decide) (by decide)) qa94 qc94 (g := (mkF m 538 #[.val (.int p1), .val (.int p2), .val (.int p3), .val (.int p4), .val (.int cm), .val (.ref t), .val (.ref u), .val (.int (3 : Int32)), .val (.int sm), .val (.ref qa), .val (.int xa), .val (.int ya), .val (.int xb), .val (.int yb), .val (.int xc), .val (.int yc), .val (.int xq), .val (.int yq), .val (.ref b2), .val (.int (1 : Int32)), .val (.int (1 : Int32)), .val (.int (1 : Int32)), .val (.int (0 : Int32)), .val (.int (1 : Int32)), .val (.int (-1 : Int32)), .val (.int (2 : Int32)), .val (.int (-1 : Int32)), .val (.int r93_r)] [(.ref b2)])) rfl (by rw [hml]; rfl) (Steps.refl _) (argsL := []) (rest := []) (lenOf own_pd4 rfl) rfl (by show 2 * 0 + _ ≤ _; exact Nat.le_of_eq rfl) (hb hby at_538) (fun _ _ => ⟨rfl, eq93, (Nat.le_trans (Nat.add_le_add_right (Nat.add_le_add_right hcl1 5) 0) (by decide)), (Nat.le_trans (Nat.add_le_add_right (Nat.add_le_add_right hsl1 6150) 0) (by decide))⟩)
                dsimp only [Pt.U, Pt.locs, Pt.cells, Pt.slots] at X94 l94 y94 z94 st94 hQ94
                have yc94 : cells1 + 5 = k94 := y94.symm
                have zc94 : slots1 + 6150 = n94 := z94.symm
                have lc94 := l94.symm
                subst lc94 yc94 zc94
                obtain ⟨rfl, Nq94, eq94⟩ := hQ94
                refine OE.of (fun _ k => st94.trans k) ?_
                have N94 := Fr.app N93 Nq94
                show OE _ p e below s _ _ _ T94 (mkF m 541 #[.val (.int p1), .val (.int p2), .val (.int p3), .val (.int p4), .val (.int cm), .val (.ref t), .val (.ref u), .val (.int (3 : Int32)), .val (.int sm), .val (.ref qa), .val (.int xa), .val (.int ya), .val (.int xb), .val (.int yb), .val (.int xc), .val (.int yc), .val (.int xq), .val (.int yq), .val (.ref b2), .val (.int (1 : Int32)), .val (.int (1 : Int32)), .val (.int (1 : Int32)), .val (.int (0 : Int32)), .val (.int (1 : Int32)), .val (.int (-1 : Int32)), .val (.int (2 : Int32)), .val (.int (-1 : Int32)), .val (.int r93_r)] [(.int (2 : Int32))])
                refine OE.iload X94 hx hby at_541 rfl ?_
                refine OE.icmpNo X94 hx hby at_543 (teq (by decide : (2 : Int32) = (2 : Int32))).2 ?_
                refine OE.iload X94 hx hby at_546 rfl ?_
                refine OE.iload X94 hx hby at_548 rfl ?_
                refine OE.icmpNo X94 hx hby at_550 (teq (own_f2n h93_hr d87 d90 : r93_r = (-1 : Int32))).2 ?_
                refine OE.iload X94 hx hby at_553 rfl ?_
                refine OE.iconst X94 hx hby at_555 (-1 : Int32) rfl ?_
                refine OE.icmpNo X94 hx hby at_556 (flt (by decide : ¬ ((-1 : Int32) < (-1 : Int32)))).1 ?_
                refine OE.iconst X94 hx hby at_559 (1 : Int32) rfl ?_
                refine OE.goto X94 hx hby (pc' := 564) at_560 (h := ?_)
                refine OE.retN X94 hx (t := .boolean) Bd.returns (by simp) Bd.notSynchronized (hb hby at_564) (Nat.le_trans (Nat.add_le_add_right hcl1 5) (by decide)) (Nat.le_trans (Nat.add_le_add_right hsl1 6150) (by decide)) ?_
                rw [eq94]
                exact ⟨rfl, N94⟩
          · subst e85
            show OE _ p e below s _ _ _ T85 (mkF m 388 #[.val (.int p1), .val (.int p2), .val (.int p3), .val (.int p4), .val (.int cm), .val (.ref t), .val (.ref u), .val (.int (3 : Int32)), .val (.int sm), .val (.ref qa), .val (.int xa), .val (.int ya), .val (.int xb), .val (.int yb), .val (.int xc), .val (.int yc), .val (.int xq), .val (.int yq), .val (.ref b2), .val (.int (1 : Int32)), .val (.int (1 : Int32)), .val (.int (1 : Int32)), .val (.int (0 : Int32)), .val (.int (1 : Int32)), .val (.int (-1 : Int32)), .val (.int (2 : Int32)), .unset, .unset] [(.int (0 : Int32))])
            refine OE.ifNo X85 hx hby at_388 (teq (by decide : (0 : Int32) = (0 : Int32))).2 ?_
            refine OE.iload X85 hx hby at_391 rfl ?_
            refine OE.ifNo X85 hx hby at_393 (feq (by decide : ¬ ((1 : Int32) = (0 : Int32)))).1 ?_
            refine OE.aload X85 hx hby at_396 rfl rfl ?_
            refine OE.aload X85 hx hby at_398 rfl rfl ?_
            refine OE.iload X85 hx hby at_400 rfl ?_
            refine OE.iload X85 hx hby at_402 rfl ?_
            obtain ⟨cq95, kq95, qa95, qb95, qc95⟩ := isOf hZ eq85 q72_0
            obtain ⟨_, _, ⟨T95, L95, k95, n95⟩, -, X95, ⟨Lc95, hQ95, l95, y95, z95⟩, st95⟩ := X85.virtualBack hx (y := (⟨"com/example/archerfish/archerfish/index/TokenTable", "add", "([CII)I"⟩ : MethodName)) (z := (⟨"com/example/archerfish/archerfish/index/TokenTable", "add", "([CII)I"⟩ : MethodName)) hown (mvT hZ (hw _ (List.mem_of_getElem? (i := 26) rfl))) (mvT hZ (hw _ (List.mem_of_getElem? (i := 27) rfl))) (notFace_of_selects (args := #[]) (mvT hZ (hw _ (List.mem_of_getElem? (i := 29) rfl)))) (mvT hZ (hw _ (List.mem_of_getElem? (i := 29) rfl))) (mvT hZ (hw _ (List.mem_of_getElem? (i := 28) rfl))) (by decide) (backOf (W := 0) (own_rm5 l Z a0 hw [] b2 t xc yc r4_sl r4_ha r4_st r4_ch r4_ksl r4_kha r4_kst r4_kch kt r72_S1 r72_vsH1 r72_vsS1 r72_vsC1 tl ([(own_sl tl xa ya), (own_sl tl xb yb)] : List (List Int32)) r72_F1 (2 : Int32) (3 : Int32) T72.heap n0 z74 q72_0 q72_1 q72_2 q72_3 q72_4 q72_6 q72_7 q72_8 q72_9 f73 g_b2 g_r4_sl g_r4_ha g_r4_st g_r4_ch ne_b2_r4_sl ne_b2_r4_ha ne_b2_r4_st ne_b2_r4_ch h4_n_sl_ha h4_n_sl_st h4_n_sl_ch h4_n_ha_st h4_n_ha_ch h4_n_st_ch ne_t_r4_ch I72 htl hrC q72_5 (by decide : 2 ≤ 2) rfl (by decide)) hZ (hw _ (List.mem_of_getElem? (i := 30) rfl)) (hw _ (List.mem_of_getElem? (i := 10) rfl)) (by decide) (by decide)) qa95 qc95 (g := (mkF m 404 #[.val (.int p1), .val (.int p2), .val (.int p3), .val (.int p4), .val (.int cm), .val (.ref t), .val (.ref u), .val (.int (3 : Int32)), .val (.int sm), .val (.ref qa), .val (.int xa), .val (.int ya), .val (.int xb), .val (.int yb), .val (.int xc), .val (.int yc), .val (.int xq), .val (.int yq), .val (.ref b2), .val (.int (1 : Int32)), .val (.int (1 : Int32)), .val (.int (1 : Int32)), .val (.int (0 : Int32)), .val (.int (1 : Int32)), .val (.int (-1 : Int32)), .val (.int (2 : Int32)), .unset, .unset] [(.int yc), (.int xc), (.ref t), (.ref b2)])) rfl (by rw [hml]; rfl) (Steps.refl _) (argsL := [(.ref t), (.int xc), (.int yc)]) (rest := []) (lenOf own_pd0 rfl) rfl (by show 2 * 0 + _ ≤ _; exact Nat.le_of_eq rfl) (hb hby at_404) (fun _ _ => ⟨rfl, eq85, (Nat.le_trans (Nat.add_le_add_right (Nat.add_le_add_right hcl1 5) 0) (by decide)), (Nat.le_trans (Nat.add_le_add_right (Nat.add_le_add_right hsl1 6150) 0) (by decide))⟩)
            dsimp only [Pt.U, Pt.locs, Pt.cells, Pt.slots] at X95 l95 y95 z95 st95 hQ95
            have yc95 : cells1 + 5 = k95 := y95.symm
            have zc95 : slots1 + 6150 = n95 := z95.symm
            have lc95 := l95.symm
            subst lc95 yc95 zc95
            obtain ⟨r95_vsS1, r95_vsH1, r95_vsC1, r95_S1, r95_F1, rfl, Nq95, K95, q95_0, q95_1, q95_2, q95_3, q95_4, q95_5, q95_6, q95_7, q95_8, q95_9, h95_hI⟩ := hQ95
            refine OE.of (fun _ k => st95.trans k) ?_
            have N95 := Fr.app N85 Nq95
            show OE _ p e below s _ _ _ T95 (mkF m 407 #[.val (.int p1), .val (.int p2), .val (.int p3), .val (.int p4), .val (.int cm), .val (.ref t), .val (.ref u), .val (.int (3 : Int32)), .val (.int sm), .val (.ref qa), .val (.int xa), .val (.int ya), .val (.int xb), .val (.int yb), .val (.int xc), .val (.int yc), .val (.int xq), .val (.int yq), .val (.ref b2), .val (.int (1 : Int32)), .val (.int (1 : Int32)), .val (.int (1 : Int32)), .val (.int (0 : Int32)), .val (.int (1 : Int32)), .val (.int (-1 : Int32)), .val (.int (2 : Int32)), .unset, .unset] [(.int (2 : Int32))])
            have I95 : own_inv [(own_sl tl xa ya), (own_sl tl xb yb), (own_sl tl xc yc)] r95_vsS1 r95_vsH1 r95_vsC1 r95_S1 r95_F1 := h95_hI
            refine OE.iload X95 hx hby at_407 rfl ?_
            refine OE.icmpNo X95 hx hby at_409 (teq (by decide : (2 : Int32) = (2 : Int32))).2 ?_
            refine OE.iconst X95 hx hby at_412 (1 : Int32) rfl ?_
            refine OE.goto X95 hx hby (pc' := 417) at_413 (h := ?_)
            refine OE.istore X95 hx hby at_417 (l' := #[.val (.int p1), .val (.int p2), .val (.int p3), .val (.int p4), .val (.int cm), .val (.ref t), .val (.ref u), .val (.int (3 : Int32)), .val (.int sm), .val (.ref qa), .val (.int xa), .val (.int ya), .val (.int xb), .val (.int yb), .val (.int xc), .val (.int yc), .val (.int xq), .val (.int yq), .val (.ref b2), .val (.int (1 : Int32)), .val (.int (1 : Int32)), .val (.int (1 : Int32)), .val (.int (0 : Int32)), .val (.int (1 : Int32)), .val (.int (-1 : Int32)), .val (.int (2 : Int32)), .unset, .unset]) rfl ?_
            refine OE.iconst X95 hx hby at_419 (1 : Int32) rfl ?_
            refine OE.istore X95 hx hby at_420 (l' := #[.val (.int p1), .val (.int p2), .val (.int p3), .val (.int p4), .val (.int cm), .val (.ref t), .val (.ref u), .val (.int (3 : Int32)), .val (.int sm), .val (.ref qa), .val (.int xa), .val (.int ya), .val (.int xb), .val (.int yb), .val (.int xc), .val (.int yc), .val (.int xq), .val (.int yq), .val (.ref b2), .val (.int (1 : Int32)), .val (.int (1 : Int32)), .val (.int (1 : Int32)), .val (.int (1 : Int32)), .val (.int (1 : Int32)), .val (.int (-1 : Int32)), .val (.int (2 : Int32)), .unset, .unset]) rfl ?_
            refine OE.iload X95 hx hby at_422 rfl ?_
            refine OE.istore X95 hx hby at_424 (l' := #[.val (.int p1), .val (.int p2), .val (.int p3), .val (.int p4), .val (.int cm), .val (.ref t), .val (.ref u), .val (.int (3 : Int32)), .val (.int sm), .val (.ref qa), .val (.int xa), .val (.int ya), .val (.int xb), .val (.int yb), .val (.int xc), .val (.int yc), .val (.int xq), .val (.int yq), .val (.ref b2), .val (.int (1 : Int32)), .val (.int (1 : Int32)), .val (.int (1 : Int32)), .val (.int (1 : Int32)), .val (.int (1 : Int32)), .val (.int (2 : Int32)), .val (.int (2 : Int32)), .unset, .unset]) rfl ?_
            refine OE.iinc X95 hx hby at_426 rfl (l' := #[.val (.int p1), .val (.int p2), .val (.int p3), .val (.int p4), .val (.int cm), .val (.ref t), .val (.ref u), .val (.int (3 : Int32)), .val (.int sm), .val (.ref qa), .val (.int xa), .val (.int ya), .val (.int xb), .val (.int yb), .val (.int xc), .val (.int yc), .val (.int xq), .val (.int yq), .val (.ref b2), .val (.int (1 : Int32)), .val (.int (1 : Int32)), .val (.int (1 : Int32)), .val (.int (1 : Int32)), .val (.int (1 : Int32)), .val (.int (2 : Int32)), .val (.int ((2 : Int32) + (1 : Int32))), .unset, .unset]) rfl ?_
            rw [(by decide : ((2 : Int32) + (1 : Int32)) = (3 : Int32))]
            refine OE.iconst X95 hx hby at_429 (-1 : Int32) rfl ?_
            refine OE.istore X95 hx hby at_430 (l' := #[.val (.int p1), .val (.int p2), .val (.int p3), .val (.int p4), .val (.int cm), .val (.ref t), .val (.ref u), .val (.int (3 : Int32)), .val (.int sm), .val (.ref qa), .val (.int xa), .val (.int ya), .val (.int xb), .val (.int yb), .val (.int xc), .val (.int yc), .val (.int xq), .val (.int yq), .val (.ref b2), .val (.int (1 : Int32)), .val (.int (1 : Int32)), .val (.int (1 : Int32)), .val (.int (1 : Int32)), .val (.int (1 : Int32)), .val (.int (2 : Int32)), .val (.int (3 : Int32)), .val (.int (-1 : Int32)), .unset]) rfl ?_
            refine OE.iload X95 hx hby at_432 rfl ?_
            refine OE.ifNo X95 hx hby at_434 (feq (by decide : ¬ ((1 : Int32) = (0 : Int32)))).1 ?_
            refine OE.aload X95 hx hby at_437 rfl rfl ?_
            refine OE.iload X95 hx hby at_439 rfl ?_
            refine OE.iload X95 hx hby at_441 rfl ?_
            refine OE.aload X95 hx hby at_443 rfl rfl ?_
            refine OE.iload X95 hx hby at_445 rfl ?_
            refine OE.iload X95 hx hby at_447 rfl ?_
            have f96 : Arv Z T95.heap qa kq .char (4 : Int32) (List.map Value.int ql) (.int (0 : Int32)) := ((((f5.keep K4 (ninS ne_qa_b2 nin0)).keep K49 (ninS ne_qa_b2 (ninS ne_qa_r4_sl (ninS ne_qa_r4_ha (ninS ne_qa_r4_st (ninS ne_qa_r4_ch nin0)))))).keep K72 (ninS ne_qa_b2 (ninS ne_qa_r4_sl (ninS ne_qa_r4_ha (ninS ne_qa_r4_st (ninS ne_qa_r4_ch nin0)))))).keep K95 (ninS ne_qa_b2 (ninS ne_qa_r4_sl (ninS ne_qa_r4_ha (ninS ne_qa_r4_st (ninS ne_qa_r4_ch nin0))))))
            have f97 : Arv Z T95.heap t kt .char (4 : Int32) (List.map Value.int tl) (.int (0 : Int32)) := (f73.keep K95 (ninS ne_t_b2 (ninS ne_t_r4_sl (ninS ne_t_r4_ha (ninS ne_t_r4_st (ninS ne_t_r4_ch nin0))))))
            have z98 : n0 ≤ T95.heap.size := (Nat.le_trans z74 K95.1)
            obtain ⟨_, _, ⟨T99, L99, k99, n99⟩, -, X99, ⟨Lc99, hQ99, l99, y99, z99⟩, st99⟩ := Jvm.LawKit.callS X95 hx (y := (⟨"com/example/archerfish/archerfish/index/TokenTableFindPinLaw", "eq", "([CII[CII)Z"⟩ : MethodName)) hown (mvT hZ (hw _ (List.mem_of_getElem? (i := 46) rfl))) (mvT hZ (hw _ (List.mem_of_getElem? (i := 47) rfl))) (mvT hZ (hw _ (List.mem_of_getElem? (i := 3) rfl))) (mvT hZ (hw _ (List.mem_of_getElem? (i := 48) rfl))) (by decide) (backOf (W := 0) (own_rm8 l Z a0 hw [] qa xq yq t xa ya ql tl kq kt T95.heap n0 z98 f96 f97 hql htl hrQ hrA) hZ (hw _ (List.mem_of_getElem? (i := 48) rfl)) (hw _ (List.mem_of_getElem? (i := 3) rfl)) (by decide) (by decide)) (g := (mkF m 449 #[.val (.int p1), .val (.int p2), .val (.int p3), .val (.int p4), .val (.int cm), .val (.ref t), .val (.ref u), .val (.int (3 : Int32)), .val (.int sm), .val (.ref qa), .val (.int xa), .val (.int ya), .val (.int xb), .val (.int yb), .val (.int xc), .val (.int yc), .val (.int xq), .val (.int yq), .val (.ref b2), .val (.int (1 : Int32)), .val (.int (1 : Int32)), .val (.int (1 : Int32)), .val (.int (1 : Int32)), .val (.int (1 : Int32)), .val (.int (2 : Int32)), .val (.int (3 : Int32)), .val (.int (-1 : Int32)), .unset] [(.int ya), (.int xa), (.ref t), (.int yq), (.int xq), (.ref qa)])) rfl (by rw [hml]; rfl) (argsL := [(.ref qa), (.int xq), (.int yq), (.ref t), (.int xa), (.int ya)]) (rest := []) (lenOf own_pd5 rfl) rfl (by show 2 * 0 + _ ≤ _; exact Nat.le_of_eq rfl) (hb hby at_449) (fun _ _ => ⟨rfl, rfl, (Nat.le_trans (Nat.add_le_add_right (Nat.add_le_add_right hcl1 5) 0) (by decide)), (Nat.le_trans (Nat.add_le_add_right (Nat.add_le_add_right hsl1 6150) 0) (by decide))⟩)
            dsimp only [Pt.U, Pt.locs, Pt.cells, Pt.slots] at X99 l99 y99 z99 st99 hQ99
            have yc99 : cells1 + 5 = k99 := y99.symm
            have zc99 : slots1 + 6150 = n99 := z99.symm
            have lc99 := l99.symm
            subst lc99 yc99 zc99
            obtain ⟨r99_r, rfl, Nq99, eq99, h99_hr⟩ := hQ99
            refine OE.of (fun _ k => st99 _ k) ?_
            have N99 := Fr.app N95 Nq99
            show OE _ p e below s _ _ _ T99 (mkF m 452 #[.val (.int p1), .val (.int p2), .val (.int p3), .val (.int p4), .val (.int cm), .val (.ref t), .val (.ref u), .val (.int (3 : Int32)), .val (.int sm), .val (.ref qa), .val (.int xa), .val (.int ya), .val (.int xb), .val (.int yb), .val (.int xc), .val (.int yc), .val (.int xq), .val (.int yq), .val (.ref b2), .val (.int (1 : Int32)), .val (.int (1 : Int32)), .val (.int (1 : Int32)), .val (.int (1 : Int32)), .val (.int (1 : Int32)), .val (.int (2 : Int32)), .val (.int (3 : Int32)), .val (.int (-1 : Int32)), .unset] [(.int r99_r)])
            rcases h99_hr with ⟨e99, d99⟩ | ⟨e99, d99⟩
            · subst e99
              show OE _ p e below s _ _ _ T99 (mkF m 452 #[.val (.int p1), .val (.int p2), .val (.int p3), .val (.int p4), .val (.int cm), .val (.ref t), .val (.ref u), .val (.int (3 : Int32)), .val (.int sm), .val (.ref qa), .val (.int xa), .val (.int ya), .val (.int xb), .val (.int yb), .val (.int xc), .val (.int yc), .val (.int xq), .val (.int yq), .val (.ref b2), .val (.int (1 : Int32)), .val (.int (1 : Int32)), .val (.int (1 : Int32)), .val (.int (1 : Int32)), .val (.int (1 : Int32)), .val (.int (2 : Int32)), .val (.int (3 : Int32)), .val (.int (-1 : Int32)), .unset] [(.int (1 : Int32))])
              refine OE.ifNo X99 hx hby at_452 (feq (by decide : ¬ ((1 : Int32) = (0 : Int32)))).1 ?_
              refine OE.iconst X99 hx hby at_455 (0 : Int32) rfl ?_
              refine OE.istore X99 hx hby at_456 (l' := #[.val (.int p1), .val (.int p2), .val (.int p3), .val (.int p4), .val (.int cm), .val (.ref t), .val (.ref u), .val (.int (3 : Int32)), .val (.int sm), .val (.ref qa), .val (.int xa), .val (.int ya), .val (.int xb), .val (.int yb), .val (.int xc), .val (.int yc), .val (.int xq), .val (.int yq), .val (.ref b2), .val (.int (1 : Int32)), .val (.int (1 : Int32)), .val (.int (1 : Int32)), .val (.int (1 : Int32)), .val (.int (1 : Int32)), .val (.int (2 : Int32)), .val (.int (3 : Int32)), .val (.int (0 : Int32)), .unset]) rfl ?_
              refine OE.goto X99 hx hby (pc' := 518) at_458 (h := ?_)
              refine OE.aload X99 hx hby at_518 rfl rfl ?_
              refine OE.aload X99 hx hby at_520 rfl rfl ?_
              refine OE.iload X99 hx hby at_522 rfl ?_
              refine OE.iload X99 hx hby at_524 rfl ?_
              obtain ⟨cq100, kq100, qa100, qb100, qc100⟩ := isOf hZ eq99 q95_0
              obtain ⟨_, _, ⟨T100, L100, k100, n100⟩, -, X100, ⟨Lc100, hQ100, l100, y100, z100⟩, st100⟩ := X99.virtualBack hx (y := (⟨"com/example/archerfish/archerfish/index/TokenTable", "find", "([CII)I"⟩ : MethodName)) (z := (⟨"com/example/archerfish/archerfish/index/TokenTable", "find", "([CII)I"⟩ : MethodName)) hown (mvT hZ (hw _ (List.mem_of_getElem? (i := 49) rfl))) (mvT hZ (hw _ (List.mem_of_getElem? (i := 50) rfl))) (notFace_of_selects (args := #[]) (mvT hZ (hw _ (List.mem_of_getElem? (i := 52) rfl)))) (mvT hZ (hw _ (List.mem_of_getElem? (i := 52) rfl))) (mvT hZ (hw _ (List.mem_of_getElem? (i := 51) rfl))) (by decide) (backOf (W := 0) (own_rm9 l Z a0 hw [] b2 qa xq yq r4_sl r4_ha r4_st r4_ch r4_ksl r4_kha r4_kst r4_kch kq r95_S1 r95_vsH1 r95_vsS1 r95_vsC1 ql ([(own_sl tl xa ya), (own_sl tl xb yb), (own_sl tl xc yc)] : List (List Int32)) r95_F1 T95.heap n0 z98 q95_0 q95_1 q95_2 q95_3 q95_4 q95_6 q95_7 q95_8 q95_9 f96 I95 hql hrQ (by decide : 3 ≤ 3)) hZ (hw _ (List.mem_of_getElem? (i := 53) rfl)) (hw _ (List.mem_of_getElem? (i := 10) rfl)) (by decide) (by decide)) qa100 qc100 (g := (mkF m 526 #[.val (.int p1), .val (.int p2), .val (.int p3), .val (.int p4), .val (.int cm), .val (.ref t), .val (.ref u), .val (.int (3 : Int32)), .val (.int sm), .val (.ref qa), .val (.int xa), .val (.int ya), .val (.int xb), .val (.int yb), .val (.int xc), .val (.int yc), .val (.int xq), .val (.int yq), .val (.ref b2), .val (.int (1 : Int32)), .val (.int (1 : Int32)), .val (.int (1 : Int32)), .val (.int (1 : Int32)), .val (.int (1 : Int32)), .val (.int (2 : Int32)), .val (.int (3 : Int32)), .val (.int (0 : Int32)), .unset] [(.int yq), (.int xq), (.ref qa), (.ref b2)])) rfl (by rw [hml]; rfl) (Steps.refl _) (argsL := [(.ref qa), (.int xq), (.int yq)]) (rest := []) (lenOf own_pd0 rfl) rfl (by show 2 * 0 + _ ≤ _; exact Nat.le_of_eq rfl) (hb hby at_526) (fun _ _ => ⟨rfl, eq99, (Nat.le_trans (Nat.add_le_add_right (Nat.add_le_add_right hcl1 5) 0) (by decide)), (Nat.le_trans (Nat.add_le_add_right (Nat.add_le_add_right hsl1 6150) 0) (by decide))⟩)
              dsimp only [Pt.U, Pt.locs, Pt.cells, Pt.slots] at X100 l100 y100 z100 st100 hQ100
              have yc100 : cells1 + 5 = k100 := y100.symm
              have zc100 : slots1 + 6150 = n100 := z100.symm
              have lc100 := l100.symm
              subst lc100 yc100 zc100
              obtain ⟨r100_r, rfl, Nq100, eq100, h100_hr⟩ := hQ100
              refine OE.of (fun _ k => st100.trans k) ?_
              have N100 := Fr.app N99 Nq100
              show OE _ p e below s _ _ _ T100 (mkF m 529 #[.val (.int p1), .val (.int p2), .val (.int p3), .val (.int p4), .val (.int cm), .val (.ref t), .val (.ref u), .val (.int (3 : Int32)), .val (.int sm), .val (.ref qa), .val (.int xa), .val (.int ya), .val (.int xb), .val (.int yb), .val (.int xc), .val (.int yc), .val (.int xq), .val (.int yq), .val (.ref b2), .val (.int (1 : Int32)), .val (.int (1 : Int32)), .val (.int (1 : Int32)), .val (.int (1 : Int32)), .val (.int (1 : Int32)), .val (.int (2 : Int32)), .val (.int (3 : Int32)), .val (.int (0 : Int32)), .unset] [(.int r100_r)])
              refine OE.istore X100 hx hby at_529 (l' := #[.val (.int p1), .val (.int p2), .val (.int p3), .val (.int p4), .val (.int cm), .val (.ref t), .val (.ref u), .val (.int (3 : Int32)), .val (.int sm), .val (.ref qa), .val (.int xa), .val (.int ya), .val (.int xb), .val (.int yb), .val (.int xc), .val (.int yc), .val (.int xq), .val (.int yq), .val (.ref b2), .val (.int (1 : Int32)), .val (.int (1 : Int32)), .val (.int (1 : Int32)), .val (.int (1 : Int32)), .val (.int (1 : Int32)), .val (.int (2 : Int32)), .val (.int (3 : Int32)), .val (.int (0 : Int32)), .val (.int r100_r)]) rfl ?_
              refine OE.iload X100 hx hby at_531 rfl ?_
              refine OE.ifNo X100 hx hby at_533 (feq (by decide : ¬ ((1 : Int32) = (0 : Int32)))).1 ?_
              refine OE.aload X100 hx hby at_536 rfl rfl ?_
              obtain ⟨cq101, kq101, qa101, qb101, qc101⟩ := isOf hZ eq100 q95_0
              obtain ⟨_, _, ⟨T101, L101, k101, n101⟩, -, X101, ⟨Lc101, hQ101, l101, y101, z101⟩, st101⟩ := X100.virtualBack hx (y := (⟨"com/example/archerfish/archerfish/index/TokenTable", "size", "()I"⟩ : MethodName)) (z := (⟨"com/example/archerfish/archerfish/index/TokenTable", "size", "()I"⟩ : MethodName)) hown (mvT hZ (hw _ (List.mem_of_getElem? (i := 58) rfl))) (mvT hZ (hw _ (List.mem_of_getElem? (i := 59) rfl))) (notFace_of_selects (args := #[]) (mvT hZ (hw _ (List.mem_of_getElem? (i := 61) rfl)))) (mvT hZ (hw _ (List.mem_of_getElem? (i := 61) rfl))) (mvT hZ (hw _ (List.mem_of_getElem? (i := 60) rfl))) (by decide) (backOf (W := 0) (own_rm11 l Z a0 hw [] b2 (3 : Int32) T95.heap n0 z98 q95_5) hZ (hw _ (List.mem_of_getElem? (i := 62) rfl)) (hw _ (List.mem_of_getElem? (i := 10) rfl)) (by decide) (by decide)) qa101 qc101 (g := (mkF m 538 #[.val (.int p1), .val (.int p2), .val (.int p3), .val (.int p4), .val (.int cm), .val (.ref t), .val (.ref u), .val (.int (3 : Int32)), .val (.int sm), .val (.ref qa), .val (.int xa), .val (.int ya), .val (.int xb), .val (.int yb), .val (.int xc), .val (.int yc), .val (.int xq), .val (.int yq), .val (.ref b2), .val (.int (1 : Int32)), .val (.int (1 : Int32)), .val (.int (1 : Int32)), .val (.int (1 : Int32)), .val (.int (1 : Int32)), .val (.int (2 : Int32)), .val (.int (3 : Int32)), .val (.int (0 : Int32)), .val (.int r100_r)] [(.ref b2)])) rfl (by rw [hml]; rfl) (Steps.refl _) (argsL := []) (rest := []) (lenOf own_pd4 rfl) rfl (by show 2 * 0 + _ ≤ _; exact Nat.le_of_eq rfl) (hb hby at_538) (fun _ _ => ⟨rfl, eq100, (Nat.le_trans (Nat.add_le_add_right (Nat.add_le_add_right hcl1 5) 0) (by decide)), (Nat.le_trans (Nat.add_le_add_right (Nat.add_le_add_right hsl1 6150) 0) (by decide))⟩)
              dsimp only [Pt.U, Pt.locs, Pt.cells, Pt.slots] at X101 l101 y101 z101 st101 hQ101
              have yc101 : cells1 + 5 = k101 := y101.symm
              have zc101 : slots1 + 6150 = n101 := z101.symm
              have lc101 := l101.symm
              subst lc101 yc101 zc101
              obtain ⟨rfl, Nq101, eq101⟩ := hQ101
              refine OE.of (fun _ k => st101.trans k) ?_
              have N101 := Fr.app N100 Nq101
              show OE _ p e below s _ _ _ T101 (mkF m 541 #[.val (.int p1), .val (.int p2), .val (.int p3), .val (.int p4), .val (.int cm), .val (.ref t), .val (.ref u), .val (.int (3 : Int32)), .val (.int sm), .val (.ref qa), .val (.int xa), .val (.int ya), .val (.int xb), .val (.int yb), .val (.int xc), .val (.int yc), .val (.int xq), .val (.int yq), .val (.ref b2), .val (.int (1 : Int32)), .val (.int (1 : Int32)), .val (.int (1 : Int32)), .val (.int (1 : Int32)), .val (.int (1 : Int32)), .val (.int (2 : Int32)), .val (.int (3 : Int32)), .val (.int (0 : Int32)), .val (.int r100_r)] [(.int (3 : Int32))])
              refine OE.iload X101 hx hby at_541 rfl ?_
              refine OE.icmpNo X101 hx hby at_543 (teq (by decide : (3 : Int32) = (3 : Int32))).2 ?_
              refine OE.iload X101 hx hby at_546 rfl ?_
              refine OE.iload X101 hx hby at_548 rfl ?_
              refine OE.icmpNo X101 hx hby at_550 (teq (own_f3a h100_hr d52 d75  d99 : r100_r = (0 : Int32))).2 ?_
              refine OE.iload X101 hx hby at_553 rfl ?_
              refine OE.iconst X101 hx hby at_555 (-1 : Int32) rfl ?_
              refine OE.icmpNo X101 hx hby at_556 (flt (by decide : ¬ ((0 : Int32) < (-1 : Int32)))).1 ?_
              refine OE.iconst X101 hx hby at_559 (1 : Int32) rfl ?_
              refine OE.goto X101 hx hby (pc' := 564) at_560 (h := ?_)
              refine OE.retN X101 hx (t := .boolean) Bd.returns (by simp) Bd.notSynchronized (hb hby at_564) (Nat.le_trans (Nat.add_le_add_right hcl1 5) (by decide)) (Nat.le_trans (Nat.add_le_add_right hsl1 6150) (by decide)) ?_
              rw [eq101]
              exact ⟨rfl, N101⟩
            · subst e99
              show OE _ p e below s _ _ _ T99 (mkF m 452 #[.val (.int p1), .val (.int p2), .val (.int p3), .val (.int p4), .val (.int cm), .val (.ref t), .val (.ref u), .val (.int (3 : Int32)), .val (.int sm), .val (.ref qa), .val (.int xa), .val (.int ya), .val (.int xb), .val (.int yb), .val (.int xc), .val (.int yc), .val (.int xq), .val (.int yq), .val (.ref b2), .val (.int (1 : Int32)), .val (.int (1 : Int32)), .val (.int (1 : Int32)), .val (.int (1 : Int32)), .val (.int (1 : Int32)), .val (.int (2 : Int32)), .val (.int (3 : Int32)), .val (.int (-1 : Int32)), .unset] [(.int (0 : Int32))])
              refine OE.ifYes X99 hx hby (pc' := 461) at_452 (teq (by decide : (0 : Int32) = (0 : Int32))).1 (h := ?_)
              refine OE.iload X99 hx hby at_461 rfl ?_
              refine OE.ifNo X99 hx hby at_463 (feq (by decide : ¬ ((1 : Int32) = (0 : Int32)))).1 ?_
              refine OE.aload X99 hx hby at_466 rfl rfl ?_
              refine OE.iload X99 hx hby at_468 rfl ?_
              refine OE.iload X99 hx hby at_470 rfl ?_
              refine OE.aload X99 hx hby at_472 rfl rfl ?_
              refine OE.iload X99 hx hby at_474 rfl ?_
              refine OE.iload X99 hx hby at_476 rfl ?_
              obtain ⟨_, _, ⟨T102, L102, k102, n102⟩, -, X102, ⟨Lc102, hQ102, l102, y102, z102⟩, st102⟩ := Jvm.LawKit.callS X99 hx (y := (⟨"com/example/archerfish/archerfish/index/TokenTableFindPinLaw", "eq", "([CII[CII)Z"⟩ : MethodName)) hown (mvT hZ (hw _ (List.mem_of_getElem? (i := 46) rfl))) (mvT hZ (hw _ (List.mem_of_getElem? (i := 47) rfl))) (mvT hZ (hw _ (List.mem_of_getElem? (i := 3) rfl))) (mvT hZ (hw _ (List.mem_of_getElem? (i := 48) rfl))) (by decide) (backOf (W := 0) (own_rm8 l Z a0 hw [] qa xq yq t xb yb ql tl kq kt T95.heap n0 z98 f96 f97 hql htl hrQ hrB) hZ (hw _ (List.mem_of_getElem? (i := 48) rfl)) (hw _ (List.mem_of_getElem? (i := 3) rfl)) (by decide) (by decide)) (g := (mkF m 478 #[.val (.int p1), .val (.int p2), .val (.int p3), .val (.int p4), .val (.int cm), .val (.ref t), .val (.ref u), .val (.int (3 : Int32)), .val (.int sm), .val (.ref qa), .val (.int xa), .val (.int ya), .val (.int xb), .val (.int yb), .val (.int xc), .val (.int yc), .val (.int xq), .val (.int yq), .val (.ref b2), .val (.int (1 : Int32)), .val (.int (1 : Int32)), .val (.int (1 : Int32)), .val (.int (1 : Int32)), .val (.int (1 : Int32)), .val (.int (2 : Int32)), .val (.int (3 : Int32)), .val (.int (-1 : Int32)), .unset] [(.int yb), (.int xb), (.ref t), (.int yq), (.int xq), (.ref qa)])) rfl (by rw [hml]; rfl) (argsL := [(.ref qa), (.int xq), (.int yq), (.ref t), (.int xb), (.int yb)]) (rest := []) (lenOf own_pd5 rfl) rfl (by show 2 * 0 + _ ≤ _; exact Nat.le_of_eq rfl) (hb hby at_478) (fun _ _ => ⟨rfl, eq99, (Nat.le_trans (Nat.add_le_add_right (Nat.add_le_add_right hcl1 5) 0) (by decide)), (Nat.le_trans (Nat.add_le_add_right (Nat.add_le_add_right hsl1 6150) 0) (by decide))⟩)
              dsimp only [Pt.U, Pt.locs, Pt.cells, Pt.slots] at X102 l102 y102 z102 st102 hQ102
              have yc102 : cells1 + 5 = k102 := y102.symm
              have zc102 : slots1 + 6150 = n102 := z102.symm
              have lc102 := l102.symm
              subst lc102 yc102 zc102
              obtain ⟨r102_r, rfl, Nq102, eq102, h102_hr⟩ := hQ102
              refine OE.of (fun _ k => st102 _ k) ?_
              have N102 := Fr.app N99 Nq102
              show OE _ p e below s _ _ _ T102 (mkF m 481 #[.val (.int p1), .val (.int p2), .val (.int p3), .val (.int p4), .val (.int cm), .val (.ref t), .val (.ref u), .val (.int (3 : Int32)), .val (.int sm), .val (.ref qa), .val (.int xa), .val (.int ya), .val (.int xb), .val (.int yb), .val (.int xc), .val (.int yc), .val (.int xq), .val (.int yq), .val (.ref b2), .val (.int (1 : Int32)), .val (.int (1 : Int32)), .val (.int (1 : Int32)), .val (.int (1 : Int32)), .val (.int (1 : Int32)), .val (.int (2 : Int32)), .val (.int (3 : Int32)), .val (.int (-1 : Int32)), .unset] [(.int r102_r)])
              rcases h102_hr with ⟨e102, d102⟩ | ⟨e102, d102⟩
              · subst e102
                show OE _ p e below s _ _ _ T102 (mkF m 481 #[.val (.int p1), .val (.int p2), .val (.int p3), .val (.int p4), .val (.int cm), .val (.ref t), .val (.ref u), .val (.int (3 : Int32)), .val (.int sm), .val (.ref qa), .val (.int xa), .val (.int ya), .val (.int xb), .val (.int yb), .val (.int xc), .val (.int yc), .val (.int xq), .val (.int yq), .val (.ref b2), .val (.int (1 : Int32)), .val (.int (1 : Int32)), .val (.int (1 : Int32)), .val (.int (1 : Int32)), .val (.int (1 : Int32)), .val (.int (2 : Int32)), .val (.int (3 : Int32)), .val (.int (-1 : Int32)), .unset] [(.int (1 : Int32))])
                refine OE.ifNo X102 hx hby at_481 (feq (by decide : ¬ ((1 : Int32) = (0 : Int32)))).1 ?_
                refine OE.iload X102 hx hby at_484 rfl ?_
                refine OE.istore X102 hx hby at_486 (l' := #[.val (.int p1), .val (.int p2), .val (.int p3), .val (.int p4), .val (.int cm), .val (.ref t), .val (.ref u), .val (.int (3 : Int32)), .val (.int sm), .val (.ref qa), .val (.int xa), .val (.int ya), .val (.int xb), .val (.int yb), .val (.int xc), .val (.int yc), .val (.int xq), .val (.int yq), .val (.ref b2), .val (.int (1 : Int32)), .val (.int (1 : Int32)), .val (.int (1 : Int32)), .val (.int (1 : Int32)), .val (.int (1 : Int32)), .val (.int (2 : Int32)), .val (.int (3 : Int32)), .val (.int (1 : Int32)), .unset]) rfl ?_
                refine OE.goto X102 hx hby (pc' := 518) at_488 (h := ?_)
                refine OE.aload X102 hx hby at_518 rfl rfl ?_
                refine OE.aload X102 hx hby at_520 rfl rfl ?_
                refine OE.iload X102 hx hby at_522 rfl ?_
                refine OE.iload X102 hx hby at_524 rfl ?_
                obtain ⟨cq103, kq103, qa103, qb103, qc103⟩ := isOf hZ eq102 q95_0
                obtain ⟨_, _, ⟨T103, L103, k103, n103⟩, -, X103, ⟨Lc103, hQ103, l103, y103, z103⟩, st103⟩ := X102.virtualBack hx (y := (⟨"com/example/archerfish/archerfish/index/TokenTable", "find", "([CII)I"⟩ : MethodName)) (z := (⟨"com/example/archerfish/archerfish/index/TokenTable", "find", "([CII)I"⟩ : MethodName)) hown (mvT hZ (hw _ (List.mem_of_getElem? (i := 49) rfl))) (mvT hZ (hw _ (List.mem_of_getElem? (i := 50) rfl))) (notFace_of_selects (args := #[]) (mvT hZ (hw _ (List.mem_of_getElem? (i := 52) rfl)))) (mvT hZ (hw _ (List.mem_of_getElem? (i := 52) rfl))) (mvT hZ (hw _ (List.mem_of_getElem? (i := 51) rfl))) (by decide) (backOf (W := 0) (own_rm9 l Z a0 hw [] b2 qa xq yq r4_sl r4_ha r4_st r4_ch r4_ksl r4_kha r4_kst r4_kch kq r95_S1 r95_vsH1 r95_vsS1 r95_vsC1 ql ([(own_sl tl xa ya), (own_sl tl xb yb), (own_sl tl xc yc)] : List (List Int32)) r95_F1 T95.heap n0 z98 q95_0 q95_1 q95_2 q95_3 q95_4 q95_6 q95_7 q95_8 q95_9 f96 I95 hql hrQ (by decide : 3 ≤ 3)) hZ (hw _ (List.mem_of_getElem? (i := 53) rfl)) (hw _ (List.mem_of_getElem? (i := 10) rfl)) (by decide) (by decide)) qa103 qc103 (g := (mkF m 526 #[.val (.int p1), .val (.int p2), .val (.int p3), .val (.int p4), .val (.int cm), .val (.ref t), .val (.ref u), .val (.int (3 : Int32)), .val (.int sm), .val (.ref qa), .val (.int xa), .val (.int ya), .val (.int xb), .val (.int yb), .val (.int xc), .val (.int yc), .val (.int xq), .val (.int yq), .val (.ref b2), .val (.int (1 : Int32)), .val (.int (1 : Int32)), .val (.int (1 : Int32)), .val (.int (1 : Int32)), .val (.int (1 : Int32)), .val (.int (2 : Int32)), .val (.int (3 : Int32)), .val (.int (1 : Int32)), .unset] [(.int yq), (.int xq), (.ref qa), (.ref b2)])) rfl (by rw [hml]; rfl) (Steps.refl _) (argsL := [(.ref qa), (.int xq), (.int yq)]) (rest := []) (lenOf own_pd0 rfl) rfl (by show 2 * 0 + _ ≤ _; exact Nat.le_of_eq rfl) (hb hby at_526) (fun _ _ => ⟨rfl, eq102, (Nat.le_trans (Nat.add_le_add_right (Nat.add_le_add_right hcl1 5) 0) (by decide)), (Nat.le_trans (Nat.add_le_add_right (Nat.add_le_add_right hsl1 6150) 0) (by decide))⟩)
                dsimp only [Pt.U, Pt.locs, Pt.cells, Pt.slots] at X103 l103 y103 z103 st103 hQ103
                have yc103 : cells1 + 5 = k103 := y103.symm
                have zc103 : slots1 + 6150 = n103 := z103.symm
                have lc103 := l103.symm
                subst lc103 yc103 zc103
                obtain ⟨r103_r, rfl, Nq103, eq103, h103_hr⟩ := hQ103
                refine OE.of (fun _ k => st103.trans k) ?_
                have N103 := Fr.app N102 Nq103
                show OE _ p e below s _ _ _ T103 (mkF m 529 #[.val (.int p1), .val (.int p2), .val (.int p3), .val (.int p4), .val (.int cm), .val (.ref t), .val (.ref u), .val (.int (3 : Int32)), .val (.int sm), .val (.ref qa), .val (.int xa), .val (.int ya), .val (.int xb), .val (.int yb), .val (.int xc), .val (.int yc), .val (.int xq), .val (.int yq), .val (.ref b2), .val (.int (1 : Int32)), .val (.int (1 : Int32)), .val (.int (1 : Int32)), .val (.int (1 : Int32)), .val (.int (1 : Int32)), .val (.int (2 : Int32)), .val (.int (3 : Int32)), .val (.int (1 : Int32)), .unset] [(.int r103_r)])
                refine OE.istore X103 hx hby at_529 (l' := #[.val (.int p1), .val (.int p2), .val (.int p3), .val (.int p4), .val (.int cm), .val (.ref t), .val (.ref u), .val (.int (3 : Int32)), .val (.int sm), .val (.ref qa), .val (.int xa), .val (.int ya), .val (.int xb), .val (.int yb), .val (.int xc), .val (.int yc), .val (.int xq), .val (.int yq), .val (.ref b2), .val (.int (1 : Int32)), .val (.int (1 : Int32)), .val (.int (1 : Int32)), .val (.int (1 : Int32)), .val (.int (1 : Int32)), .val (.int (2 : Int32)), .val (.int (3 : Int32)), .val (.int (1 : Int32)), .val (.int r103_r)]) rfl ?_
                refine OE.iload X103 hx hby at_531 rfl ?_
                refine OE.ifNo X103 hx hby at_533 (feq (by decide : ¬ ((1 : Int32) = (0 : Int32)))).1 ?_
                refine OE.aload X103 hx hby at_536 rfl rfl ?_
                obtain ⟨cq104, kq104, qa104, qb104, qc104⟩ := isOf hZ eq103 q95_0
                obtain ⟨_, _, ⟨T104, L104, k104, n104⟩, -, X104, ⟨Lc104, hQ104, l104, y104, z104⟩, st104⟩ := X103.virtualBack hx (y := (⟨"com/example/archerfish/archerfish/index/TokenTable", "size", "()I"⟩ : MethodName)) (z := (⟨"com/example/archerfish/archerfish/index/TokenTable", "size", "()I"⟩ : MethodName)) hown (mvT hZ (hw _ (List.mem_of_getElem? (i := 58) rfl))) (mvT hZ (hw _ (List.mem_of_getElem? (i := 59) rfl))) (notFace_of_selects (args := #[]) (mvT hZ (hw _ (List.mem_of_getElem? (i := 61) rfl)))) (mvT hZ (hw _ (List.mem_of_getElem? (i := 61) rfl))) (mvT hZ (hw _ (List.mem_of_getElem? (i := 60) rfl))) (by decide) (backOf (W := 0) (own_rm11 l Z a0 hw [] b2 (3 : Int32) T95.heap n0 z98 q95_5) hZ (hw _ (List.mem_of_getElem? (i := 62) rfl)) (hw _ (List.mem_of_getElem? (i := 10) rfl)) (by decide) (by decide)) qa104 qc104 (g := (mkF m 538 #[.val (.int p1), .val (.int p2), .val (.int p3), .val (.int p4), .val (.int cm), .val (.ref t), .val (.ref u), .val (.int (3 : Int32)), .val (.int sm), .val (.ref qa), .val (.int xa), .val (.int ya), .val (.int xb), .val (.int yb), .val (.int xc), .val (.int yc), .val (.int xq), .val (.int yq), .val (.ref b2), .val (.int (1 : Int32)), .val (.int (1 : Int32)), .val (.int (1 : Int32)), .val (.int (1 : Int32)), .val (.int (1 : Int32)), .val (.int (2 : Int32)), .val (.int (3 : Int32)), .val (.int (1 : Int32)), .val (.int r103_r)] [(.ref b2)])) rfl (by rw [hml]; rfl) (Steps.refl _) (argsL := []) (rest := []) (lenOf own_pd4 rfl) rfl (by show 2 * 0 + _ ≤ _; exact Nat.le_of_eq rfl) (hb hby at_538) (fun _ _ => ⟨rfl, eq103, (Nat.le_trans (Nat.add_le_add_right (Nat.add_le_add_right hcl1 5) 0) (by decide)), (Nat.le_trans (Nat.add_le_add_right (Nat.add_le_add_right hsl1 6150) 0) (by decide))⟩)
                dsimp only [Pt.U, Pt.locs, Pt.cells, Pt.slots] at X104 l104 y104 z104 st104 hQ104
                have yc104 : cells1 + 5 = k104 := y104.symm
                have zc104 : slots1 + 6150 = n104 := z104.symm
                have lc104 := l104.symm
                subst lc104 yc104 zc104
                obtain ⟨rfl, Nq104, eq104⟩ := hQ104
                refine OE.of (fun _ k => st104.trans k) ?_
                have N104 := Fr.app N103 Nq104
                show OE _ p e below s _ _ _ T104 (mkF m 541 #[.val (.int p1), .val (.int p2), .val (.int p3), .val (.int p4), .val (.int cm), .val (.ref t), .val (.ref u), .val (.int (3 : Int32)), .val (.int sm), .val (.ref qa), .val (.int xa), .val (.int ya), .val (.int xb), .val (.int yb), .val (.int xc), .val (.int yc), .val (.int xq), .val (.int yq), .val (.ref b2), .val (.int (1 : Int32)), .val (.int (1 : Int32)), .val (.int (1 : Int32)), .val (.int (1 : Int32)), .val (.int (1 : Int32)), .val (.int (2 : Int32)), .val (.int (3 : Int32)), .val (.int (1 : Int32)), .val (.int r103_r)] [(.int (3 : Int32))])
                refine OE.iload X104 hx hby at_541 rfl ?_
                refine OE.icmpNo X104 hx hby at_543 (teq (by decide : (3 : Int32) = (3 : Int32))).2 ?_
                refine OE.iload X104 hx hby at_546 rfl ?_
                refine OE.iload X104 hx hby at_548 rfl ?_
                refine OE.icmpNo X104 hx hby at_550 (teq (own_f3b h103_hr d85 d99 d102 : r103_r = (1 : Int32))).2 ?_
                refine OE.iload X104 hx hby at_553 rfl ?_
                refine OE.iconst X104 hx hby at_555 (-1 : Int32) rfl ?_
                refine OE.icmpNo X104 hx hby at_556 (flt (by decide : ¬ ((1 : Int32) < (-1 : Int32)))).1 ?_
                refine OE.iconst X104 hx hby at_559 (1 : Int32) rfl ?_
                refine OE.goto X104 hx hby (pc' := 564) at_560 (h := ?_)
                refine OE.retN X104 hx (t := .boolean) Bd.returns (by simp) Bd.notSynchronized (hb hby at_564) (Nat.le_trans (Nat.add_le_add_right hcl1 5) (by decide)) (Nat.le_trans (Nat.add_le_add_right hsl1 6150) (by decide)) ?_
                rw [eq104]
                exact ⟨rfl, N104⟩
              · subst e102
                show OE _ p e below s _ _ _ T102 (mkF m 481 #[.val (.int p1), .val (.int p2), .val (.int p3), .val (.int p4), .val (.int cm), .val (.ref t), .val (.ref u), .val (.int (3 : Int32)), .val (.int sm), .val (.ref qa), .val (.int xa), .val (.int ya), .val (.int xb), .val (.int yb), .val (.int xc), .val (.int yc), .val (.int xq), .val (.int yq), .val (.ref b2), .val (.int (1 : Int32)), .val (.int (1 : Int32)), .val (.int (1 : Int32)), .val (.int (1 : Int32)), .val (.int (1 : Int32)), .val (.int (2 : Int32)), .val (.int (3 : Int32)), .val (.int (-1 : Int32)), .unset] [(.int (0 : Int32))])
                refine OE.ifYes X102 hx hby (pc' := 491) at_481 (teq (by decide : (0 : Int32) = (0 : Int32))).1 (h := ?_)
                refine OE.iload X102 hx hby at_491 rfl ?_
                refine OE.ifNo X102 hx hby at_493 (feq (by decide : ¬ ((1 : Int32) = (0 : Int32)))).1 ?_
                refine OE.aload X102 hx hby at_496 rfl rfl ?_
                refine OE.iload X102 hx hby at_498 rfl ?_
                refine OE.iload X102 hx hby at_500 rfl ?_
                refine OE.aload X102 hx hby at_502 rfl rfl ?_
                refine OE.iload X102 hx hby at_504 rfl ?_
                refine OE.iload X102 hx hby at_506 rfl ?_
                obtain ⟨_, _, ⟨T105, L105, k105, n105⟩, -, X105, ⟨Lc105, hQ105, l105, y105, z105⟩, st105⟩ := Jvm.LawKit.callS X102 hx (y := (⟨"com/example/archerfish/archerfish/index/TokenTableFindPinLaw", "eq", "([CII[CII)Z"⟩ : MethodName)) hown (mvT hZ (hw _ (List.mem_of_getElem? (i := 46) rfl))) (mvT hZ (hw _ (List.mem_of_getElem? (i := 47) rfl))) (mvT hZ (hw _ (List.mem_of_getElem? (i := 3) rfl))) (mvT hZ (hw _ (List.mem_of_getElem? (i := 48) rfl))) (by decide) (backOf (W := 0) (own_rm8 l Z a0 hw [] qa xq yq t xc yc ql tl kq kt T95.heap n0 z98 f96 f97 hql htl hrQ hrC) hZ (hw _ (List.mem_of_getElem? (i := 48) rfl)) (hw _ (List.mem_of_getElem? (i := 3) rfl)) (by decide) (by decide)) (g := (mkF m 508 #[.val (.int p1), .val (.int p2), .val (.int p3), .val (.int p4), .val (.int cm), .val (.ref t), .val (.ref u), .val (.int (3 : Int32)), .val (.int sm), .val (.ref qa), .val (.int xa), .val (.int ya), .val (.int xb), .val (.int yb), .val (.int xc), .val (.int yc), .val (.int xq), .val (.int yq), .val (.ref b2), .val (.int (1 : Int32)), .val (.int (1 : Int32)), .val (.int (1 : Int32)), .val (.int (1 : Int32)), .val (.int (1 : Int32)), .val (.int (2 : Int32)), .val (.int (3 : Int32)), .val (.int (-1 : Int32)), .unset] [(.int yc), (.int xc), (.ref t), (.int yq), (.int xq), (.ref qa)])) rfl (by rw [hml]; rfl) (argsL := [(.ref qa), (.int xq), (.int yq), (.ref t), (.int xc), (.int yc)]) (rest := []) (lenOf own_pd5 rfl) rfl (by show 2 * 0 + _ ≤ _; exact Nat.le_of_eq rfl) (hb hby at_508) (fun _ _ => ⟨rfl, eq102, (Nat.le_trans (Nat.add_le_add_right (Nat.add_le_add_right hcl1 5) 0) (by decide)), (Nat.le_trans (Nat.add_le_add_right (Nat.add_le_add_right hsl1 6150) 0) (by decide))⟩)
                dsimp only [Pt.U, Pt.locs, Pt.cells, Pt.slots] at X105 l105 y105 z105 st105 hQ105
                have yc105 : cells1 + 5 = k105 := y105.symm
                have zc105 : slots1 + 6150 = n105 := z105.symm
                have lc105 := l105.symm
                subst lc105 yc105 zc105
                obtain ⟨r105_r, rfl, Nq105, eq105, h105_hr⟩ := hQ105
                refine OE.of (fun _ k => st105 _ k) ?_
                have N105 := Fr.app N102 Nq105
                show OE _ p e below s _ _ _ T105 (mkF m 511 #[.val (.int p1), .val (.int p2), .val (.int p3), .val (.int p4), .val (.int cm), .val (.ref t), .val (.ref u), .val (.int (3 : Int32)), .val (.int sm), .val (.ref qa), .val (.int xa), .val (.int ya), .val (.int xb), .val (.int yb), .val (.int xc), .val (.int yc), .val (.int xq), .val (.int yq), .val (.ref b2), .val (.int (1 : Int32)), .val (.int (1 : Int32)), .val (.int (1 : Int32)), .val (.int (1 : Int32)), .val (.int (1 : Int32)), .val (.int (2 : Int32)), .val (.int (3 : Int32)), .val (.int (-1 : Int32)), .unset] [(.int r105_r)])
                rcases h105_hr with ⟨e105, d105⟩ | ⟨e105, d105⟩
                · subst e105
                  show OE _ p e below s _ _ _ T105 (mkF m 511 #[.val (.int p1), .val (.int p2), .val (.int p3), .val (.int p4), .val (.int cm), .val (.ref t), .val (.ref u), .val (.int (3 : Int32)), .val (.int sm), .val (.ref qa), .val (.int xa), .val (.int ya), .val (.int xb), .val (.int yb), .val (.int xc), .val (.int yc), .val (.int xq), .val (.int yq), .val (.ref b2), .val (.int (1 : Int32)), .val (.int (1 : Int32)), .val (.int (1 : Int32)), .val (.int (1 : Int32)), .val (.int (1 : Int32)), .val (.int (2 : Int32)), .val (.int (3 : Int32)), .val (.int (-1 : Int32)), .unset] [(.int (1 : Int32))])
                  refine OE.ifNo X105 hx hby at_511 (feq (by decide : ¬ ((1 : Int32) = (0 : Int32)))).1 ?_
                  refine OE.iload X105 hx hby at_514 rfl ?_
                  refine OE.istore X105 hx hby at_516 (l' := #[.val (.int p1), .val (.int p2), .val (.int p3), .val (.int p4), .val (.int cm), .val (.ref t), .val (.ref u), .val (.int (3 : Int32)), .val (.int sm), .val (.ref qa), .val (.int xa), .val (.int ya), .val (.int xb), .val (.int yb), .val (.int xc), .val (.int yc), .val (.int xq), .val (.int yq), .val (.ref b2), .val (.int (1 : Int32)), .val (.int (1 : Int32)), .val (.int (1 : Int32)), .val (.int (1 : Int32)), .val (.int (1 : Int32)), .val (.int (2 : Int32)), .val (.int (3 : Int32)), .val (.int (2 : Int32)), .unset]) rfl ?_
                  refine OE.aload X105 hx hby at_518 rfl rfl ?_
                  refine OE.aload X105 hx hby at_520 rfl rfl ?_
                  refine OE.iload X105 hx hby at_522 rfl ?_
                  refine OE.iload X105 hx hby at_524 rfl ?_
                  obtain ⟨cq106, kq106, qa106, qb106, qc106⟩ := isOf hZ eq105 q95_0
                  obtain ⟨_, _, ⟨T106, L106, k106, n106⟩, -, X106, ⟨Lc106, hQ106, l106, y106, z106⟩, st106⟩ := X105.virtualBack hx (y := (⟨"com/example/archerfish/archerfish/index/TokenTable", "find", "([CII)I"⟩ : MethodName)) (z := (⟨"com/example/archerfish/archerfish/index/TokenTable", "find", "([CII)I"⟩ : MethodName)) hown (mvT hZ (hw _ (List.mem_of_getElem? (i := 49) rfl))) (mvT hZ (hw _ (List.mem_of_getElem? (i := 50) rfl))) (notFace_of_selects (args := #[]) (mvT hZ (hw _ (List.mem_of_getElem? (i := 52) rfl)))) (mvT hZ (hw _ (List.mem_of_getElem? (i := 52) rfl))) (mvT hZ (hw _ (List.mem_of_getElem? (i := 51) rfl))) (by decide) (backOf (W := 0) (own_rm9 l Z a0 hw [] b2 qa xq yq r4_sl r4_ha r4_st r4_ch r4_ksl r4_kha r4_kst r4_kch kq r95_S1 r95_vsH1 r95_vsS1 r95_vsC1 ql ([(own_sl tl xa ya), (own_sl tl xb yb), (own_sl tl xc yc)] : List (List Int32)) r95_F1 T95.heap n0 z98 q95_0 q95_1 q95_2 q95_3 q95_4 q95_6 q95_7 q95_8 q95_9 f96 I95 hql hrQ (by decide : 3 ≤ 3)) hZ (hw _ (List.mem_of_getElem? (i := 53) rfl)) (hw _ (List.mem_of_getElem? (i := 10) rfl)) (by decide) (by decide)) qa106 qc106 (g := (mkF m 526 #[.val (.int p1), .val (.int p2), .val (.int p3), .val (.int p4), .val (.int cm), .val (.ref t), .val (.ref u), .val (.int (3 : Int32)), .val (.int sm), .val (.ref qa), .val (.int xa), .val (.int ya), .val (.int xb), .val (.int yb), .val (.int xc), .val (.int yc), .val (.int xq), .val (.int yq), .val (.ref b2), .val (.int (1 : Int32)), .val (.int (1 : Int32)), .val (.int (1 : Int32)), .val (.int (1 : Int32)), .val (.int (1 : Int32)), .val (.int (2 : Int32)), .val (.int (3 : Int32)), .val (.int (2 : Int32)), .unset] [(.int yq), (.int xq), (.ref qa), (.ref b2)])) rfl (by rw [hml]; rfl) (Steps.refl _) (argsL := [(.ref qa), (.int xq), (.int yq)]) (rest := []) (lenOf own_pd0 rfl) rfl (by show 2 * 0 + _ ≤ _; exact Nat.le_of_eq rfl) (hb hby at_526) (fun _ _ => ⟨rfl, eq105, (Nat.le_trans (Nat.add_le_add_right (Nat.add_le_add_right hcl1 5) 0) (by decide)), (Nat.le_trans (Nat.add_le_add_right (Nat.add_le_add_right hsl1 6150) 0) (by decide))⟩)
                  dsimp only [Pt.U, Pt.locs, Pt.cells, Pt.slots] at X106 l106 y106 z106 st106 hQ106
                  have yc106 : cells1 + 5 = k106 := y106.symm
                  have zc106 : slots1 + 6150 = n106 := z106.symm
                  have lc106 := l106.symm
                  subst lc106 yc106 zc106
                  obtain ⟨r106_r, rfl, Nq106, eq106, h106_hr⟩ := hQ106
                  refine OE.of (fun _ k => st106.trans k) ?_
                  have N106 := Fr.app N105 Nq106
                  show OE _ p e below s _ _ _ T106 (mkF m 529 #[.val (.int p1), .val (.int p2), .val (.int p3), .val (.int p4), .val (.int cm), .val (.ref t), .val (.ref u), .val (.int (3 : Int32)), .val (.int sm), .val (.ref qa), .val (.int xa), .val (.int ya), .val (.int xb), .val (.int yb), .val (.int xc), .val (.int yc), .val (.int xq), .val (.int yq), .val (.ref b2), .val (.int (1 : Int32)), .val (.int (1 : Int32)), .val (.int (1 : Int32)), .val (.int (1 : Int32)), .val (.int (1 : Int32)), .val (.int (2 : Int32)), .val (.int (3 : Int32)), .val (.int (2 : Int32)), .unset] [(.int r106_r)])
                  refine OE.istore X106 hx hby at_529 (l' := #[.val (.int p1), .val (.int p2), .val (.int p3), .val (.int p4), .val (.int cm), .val (.ref t), .val (.ref u), .val (.int (3 : Int32)), .val (.int sm), .val (.ref qa), .val (.int xa), .val (.int ya), .val (.int xb), .val (.int yb), .val (.int xc), .val (.int yc), .val (.int xq), .val (.int yq), .val (.ref b2), .val (.int (1 : Int32)), .val (.int (1 : Int32)), .val (.int (1 : Int32)), .val (.int (1 : Int32)), .val (.int (1 : Int32)), .val (.int (2 : Int32)), .val (.int (3 : Int32)), .val (.int (2 : Int32)), .val (.int r106_r)]) rfl ?_
                  refine OE.iload X106 hx hby at_531 rfl ?_
                  refine OE.ifNo X106 hx hby at_533 (feq (by decide : ¬ ((1 : Int32) = (0 : Int32)))).1 ?_
                  refine OE.aload X106 hx hby at_536 rfl rfl ?_
                  obtain ⟨cq107, kq107, qa107, qb107, qc107⟩ := isOf hZ eq106 q95_0
                  obtain ⟨_, _, ⟨T107, L107, k107, n107⟩, -, X107, ⟨Lc107, hQ107, l107, y107, z107⟩, st107⟩ := X106.virtualBack hx (y := (⟨"com/example/archerfish/archerfish/index/TokenTable", "size", "()I"⟩ : MethodName)) (z := (⟨"com/example/archerfish/archerfish/index/TokenTable", "size", "()I"⟩ : MethodName)) hown (mvT hZ (hw _ (List.mem_of_getElem? (i := 58) rfl))) (mvT hZ (hw _ (List.mem_of_getElem? (i := 59) rfl))) (notFace_of_selects (args := #[]) (mvT hZ (hw _ (List.mem_of_getElem? (i := 61) rfl)))) (mvT hZ (hw _ (List.mem_of_getElem? (i := 61) rfl))) (mvT hZ (hw _ (List.mem_of_getElem? (i := 60) rfl))) (by decide) (backOf (W := 0) (own_rm11 l Z a0 hw [] b2 (3 : Int32) T95.heap n0 z98 q95_5) hZ (hw _ (List.mem_of_getElem? (i := 62) rfl)) (hw _ (List.mem_of_getElem? (i := 10) rfl)) (by decide) (by decide)) qa107 qc107 (g := (mkF m 538 #[.val (.int p1), .val (.int p2), .val (.int p3), .val (.int p4), .val (.int cm), .val (.ref t), .val (.ref u), .val (.int (3 : Int32)), .val (.int sm), .val (.ref qa), .val (.int xa), .val (.int ya), .val (.int xb), .val (.int yb), .val (.int xc), .val (.int yc), .val (.int xq), .val (.int yq), .val (.ref b2), .val (.int (1 : Int32)), .val (.int (1 : Int32)), .val (.int (1 : Int32)), .val (.int (1 : Int32)), .val (.int (1 : Int32)), .val (.int (2 : Int32)), .val (.int (3 : Int32)), .val (.int (2 : Int32)), .val (.int r106_r)] [(.ref b2)])) rfl (by rw [hml]; rfl) (Steps.refl _) (argsL := []) (rest := []) (lenOf own_pd4 rfl) rfl (by show 2 * 0 + _ ≤ _; exact Nat.le_of_eq rfl) (hb hby at_538) (fun _ _ => ⟨rfl, eq106, (Nat.le_trans (Nat.add_le_add_right (Nat.add_le_add_right hcl1 5) 0) (by decide)), (Nat.le_trans (Nat.add_le_add_right (Nat.add_le_add_right hsl1 6150) 0) (by decide))⟩)
                  dsimp only [Pt.U, Pt.locs, Pt.cells, Pt.slots] at X107 l107 y107 z107 st107 hQ107
                  have yc107 : cells1 + 5 = k107 := y107.symm
                  have zc107 : slots1 + 6150 = n107 := z107.symm
                  have lc107 := l107.symm
                  subst lc107 yc107 zc107
                  obtain ⟨rfl, Nq107, eq107⟩ := hQ107
                  refine OE.of (fun _ k => st107.trans k) ?_
                  have N107 := Fr.app N106 Nq107
                  show OE _ p e below s _ _ _ T107 (mkF m 541 #[.val (.int p1), .val (.int p2), .val (.int p3), .val (.int p4), .val (.int cm), .val (.ref t), .val (.ref u), .val (.int (3 : Int32)), .val (.int sm), .val (.ref qa), .val (.int xa), .val (.int ya), .val (.int xb), .val (.int yb), .val (.int xc), .val (.int yc), .val (.int xq), .val (.int yq), .val (.ref b2), .val (.int (1 : Int32)), .val (.int (1 : Int32)), .val (.int (1 : Int32)), .val (.int (1 : Int32)), .val (.int (1 : Int32)), .val (.int (2 : Int32)), .val (.int (3 : Int32)), .val (.int (2 : Int32)), .val (.int r106_r)] [(.int (3 : Int32))])
                  refine OE.iload X107 hx hby at_541 rfl ?_
                  refine OE.icmpNo X107 hx hby at_543 (teq (by decide : (3 : Int32) = (3 : Int32))).2 ?_
                  refine OE.iload X107 hx hby at_546 rfl ?_
                  refine OE.iload X107 hx hby at_548 rfl ?_
                  refine OE.icmpNo X107 hx hby at_550 (teq (own_f3c h106_hr  d99 d102 d105 : r106_r = (2 : Int32))).2 ?_
                  refine OE.iload X107 hx hby at_553 rfl ?_
                  refine OE.iconst X107 hx hby at_555 (-1 : Int32) rfl ?_
                  refine OE.icmpNo X107 hx hby at_556 (flt (by decide : ¬ ((2 : Int32) < (-1 : Int32)))).1 ?_
                  refine OE.iconst X107 hx hby at_559 (1 : Int32) rfl ?_
                  refine OE.goto X107 hx hby (pc' := 564) at_560 (h := ?_)
                  refine OE.retN X107 hx (t := .boolean) Bd.returns (by simp) Bd.notSynchronized (hb hby at_564) (Nat.le_trans (Nat.add_le_add_right hcl1 5) (by decide)) (Nat.le_trans (Nat.add_le_add_right hsl1 6150) (by decide)) ?_
                  rw [eq107]
                  exact ⟨rfl, N107⟩
                · subst e105
                  show OE _ p e below s _ _ _ T105 (mkF m 511 #[.val (.int p1), .val (.int p2), .val (.int p3), .val (.int p4), .val (.int cm), .val (.ref t), .val (.ref u), .val (.int (3 : Int32)), .val (.int sm), .val (.ref qa), .val (.int xa), .val (.int ya), .val (.int xb), .val (.int yb), .val (.int xc), .val (.int yc), .val (.int xq), .val (.int yq), .val (.ref b2), .val (.int (1 : Int32)), .val (.int (1 : Int32)), .val (.int (1 : Int32)), .val (.int (1 : Int32)), .val (.int (1 : Int32)), .val (.int (2 : Int32)), .val (.int (3 : Int32)), .val (.int (-1 : Int32)), .unset] [(.int (0 : Int32))])
                  refine OE.ifYes X105 hx hby (pc' := 518) at_511 (teq (by decide : (0 : Int32) = (0 : Int32))).1 (h := ?_)
                  refine OE.aload X105 hx hby at_518 rfl rfl ?_
                  refine OE.aload X105 hx hby at_520 rfl rfl ?_
                  refine OE.iload X105 hx hby at_522 rfl ?_
                  refine OE.iload X105 hx hby at_524 rfl ?_
                  obtain ⟨cq108, kq108, qa108, qb108, qc108⟩ := isOf hZ eq105 q95_0
                  obtain ⟨_, _, ⟨T108, L108, k108, n108⟩, -, X108, ⟨Lc108, hQ108, l108, y108, z108⟩, st108⟩ := X105.virtualBack hx (y := (⟨"com/example/archerfish/archerfish/index/TokenTable", "find", "([CII)I"⟩ : MethodName)) (z := (⟨"com/example/archerfish/archerfish/index/TokenTable", "find", "([CII)I"⟩ : MethodName)) hown (mvT hZ (hw _ (List.mem_of_getElem? (i := 49) rfl))) (mvT hZ (hw _ (List.mem_of_getElem? (i := 50) rfl))) (notFace_of_selects (args := #[]) (mvT hZ (hw _ (List.mem_of_getElem? (i := 52) rfl)))) (mvT hZ (hw _ (List.mem_of_getElem? (i := 52) rfl))) (mvT hZ (hw _ (List.mem_of_getElem? (i := 51) rfl))) (by decide) (backOf (W := 0) (own_rm9 l Z a0 hw [] b2 qa xq yq r4_sl r4_ha r4_st r4_ch r4_ksl r4_kha r4_kst r4_kch kq r95_S1 r95_vsH1 r95_vsS1 r95_vsC1 ql ([(own_sl tl xa ya), (own_sl tl xb yb), (own_sl tl xc yc)] : List (List Int32)) r95_F1 T95.heap n0 z98 q95_0 q95_1 q95_2 q95_3 q95_4 q95_6 q95_7 q95_8 q95_9 f96 I95 hql hrQ (by decide : 3 ≤ 3)) hZ (hw _ (List.mem_of_getElem? (i := 53) rfl)) (hw _ (List.mem_of_getElem? (i := 10) rfl)) (by decide) (by decide)) qa108 qc108 (g := (mkF m 526 #[.val (.int p1), .val (.int p2), .val (.int p3), .val (.int p4), .val (.int cm), .val (.ref t), .val (.ref u), .val (.int (3 : Int32)), .val (.int sm), .val (.ref qa), .val (.int xa), .val (.int ya), .val (.int xb), .val (.int yb), .val (.int xc), .val (.int yc), .val (.int xq), .val (.int yq), .val (.ref b2), .val (.int (1 : Int32)), .val (.int (1 : Int32)), .val (.int (1 : Int32)), .val (.int (1 : Int32)), .val (.int (1 : Int32)), .val (.int (2 : Int32)), .val (.int (3 : Int32)), .val (.int (-1 : Int32)), .unset] [(.int yq), (.int xq), (.ref qa), (.ref b2)])) rfl (by rw [hml]; rfl) (Steps.refl _) (argsL := [(.ref qa), (.int xq), (.int yq)]) (rest := []) (lenOf own_pd0 rfl) rfl (by show 2 * 0 + _ ≤ _; exact Nat.le_of_eq rfl) (hb hby at_526) (fun _ _ => ⟨rfl, eq105, (Nat.le_trans (Nat.add_le_add_right (Nat.add_le_add_right hcl1 5) 0) (by decide)), (Nat.le_trans (Nat.add_le_add_right (Nat.add_le_add_right hsl1 6150) 0) (by decide))⟩)
                  dsimp only [Pt.U, Pt.locs, Pt.cells, Pt.slots] at X108 l108 y108 z108 st108 hQ108
                  have yc108 : cells1 + 5 = k108 := y108.symm
                  have zc108 : slots1 + 6150 = n108 := z108.symm
                  have lc108 := l108.symm
                  subst lc108 yc108 zc108
                  obtain ⟨r108_r, rfl, Nq108, eq108, h108_hr⟩ := hQ108
                  refine OE.of (fun _ k => st108.trans k) ?_
                  have N108 := Fr.app N105 Nq108
                  show OE _ p e below s _ _ _ T108 (mkF m 529 #[.val (.int p1), .val (.int p2), .val (.int p3), .val (.int p4), .val (.int cm), .val (.ref t), .val (.ref u), .val (.int (3 : Int32)), .val (.int sm), .val (.ref qa), .val (.int xa), .val (.int ya), .val (.int xb), .val (.int yb), .val (.int xc), .val (.int yc), .val (.int xq), .val (.int yq), .val (.ref b2), .val (.int (1 : Int32)), .val (.int (1 : Int32)), .val (.int (1 : Int32)), .val (.int (1 : Int32)), .val (.int (1 : Int32)), .val (.int (2 : Int32)), .val (.int (3 : Int32)), .val (.int (-1 : Int32)), .unset] [(.int r108_r)])
                  refine OE.istore X108 hx hby at_529 (l' := #[.val (.int p1), .val (.int p2), .val (.int p3), .val (.int p4), .val (.int cm), .val (.ref t), .val (.ref u), .val (.int (3 : Int32)), .val (.int sm), .val (.ref qa), .val (.int xa), .val (.int ya), .val (.int xb), .val (.int yb), .val (.int xc), .val (.int yc), .val (.int xq), .val (.int yq), .val (.ref b2), .val (.int (1 : Int32)), .val (.int (1 : Int32)), .val (.int (1 : Int32)), .val (.int (1 : Int32)), .val (.int (1 : Int32)), .val (.int (2 : Int32)), .val (.int (3 : Int32)), .val (.int (-1 : Int32)), .val (.int r108_r)]) rfl ?_
                  refine OE.iload X108 hx hby at_531 rfl ?_
                  refine OE.ifNo X108 hx hby at_533 (feq (by decide : ¬ ((1 : Int32) = (0 : Int32)))).1 ?_
                  refine OE.aload X108 hx hby at_536 rfl rfl ?_
                  obtain ⟨cq109, kq109, qa109, qb109, qc109⟩ := isOf hZ eq108 q95_0
                  obtain ⟨_, _, ⟨T109, L109, k109, n109⟩, -, X109, ⟨Lc109, hQ109, l109, y109, z109⟩, st109⟩ := X108.virtualBack hx (y := (⟨"com/example/archerfish/archerfish/index/TokenTable", "size", "()I"⟩ : MethodName)) (z := (⟨"com/example/archerfish/archerfish/index/TokenTable", "size", "()I"⟩ : MethodName)) hown (mvT hZ (hw _ (List.mem_of_getElem? (i := 58) rfl))) (mvT hZ (hw _ (List.mem_of_getElem? (i := 59) rfl))) (notFace_of_selects (args := #[]) (mvT hZ (hw _ (List.mem_of_getElem? (i := 61) rfl)))) (mvT hZ (hw _ (List.mem_of_getElem? (i := 61) rfl))) (mvT hZ (hw _ (List.mem_of_getElem? (i := 60) rfl))) (by decide) (backOf (W := 0) (own_rm11 l Z a0 hw [] b2 (3 : Int32) T95.heap n0 z98 q95_5) hZ (hw _ (List.mem_of_getElem? (i := 62) rfl)) (hw _ (List.mem_of_getElem? (i := 10) rfl)) (by decide) (by decide)) qa109 qc109 (g := (mkF m 538 #[.val (.int p1), .val (.int p2), .val (.int p3), .val (.int p4), .val (.int cm), .val (.ref t), .val (.ref u), .val (.int (3 : Int32)), .val (.int sm), .val (.ref qa), .val (.int xa), .val (.int ya), .val (.int xb), .val (.int yb), .val (.int xc), .val (.int yc), .val (.int xq), .val (.int yq), .val (.ref b2), .val (.int (1 : Int32)), .val (.int (1 : Int32)), .val (.int (1 : Int32)), .val (.int (1 : Int32)), .val (.int (1 : Int32)), .val (.int (2 : Int32)), .val (.int (3 : Int32)), .val (.int (-1 : Int32)), .val (.int r108_r)] [(.ref b2)])) rfl (by rw [hml]; rfl) (Steps.refl _) (argsL := []) (rest := []) (lenOf own_pd4 rfl) rfl (by show 2 * 0 + _ ≤ _; exact Nat.le_of_eq rfl) (hb hby at_538) (fun _ _ => ⟨rfl, eq108, (Nat.le_trans (Nat.add_le_add_right (Nat.add_le_add_right hcl1 5) 0) (by decide)), (Nat.le_trans (Nat.add_le_add_right (Nat.add_le_add_right hsl1 6150) 0) (by decide))⟩)
                  dsimp only [Pt.U, Pt.locs, Pt.cells, Pt.slots] at X109 l109 y109 z109 st109 hQ109
                  have yc109 : cells1 + 5 = k109 := y109.symm
                  have zc109 : slots1 + 6150 = n109 := z109.symm
                  have lc109 := l109.symm
                  subst lc109 yc109 zc109
                  obtain ⟨rfl, Nq109, eq109⟩ := hQ109
                  refine OE.of (fun _ k => st109.trans k) ?_
                  have N109 := Fr.app N108 Nq109
                  show OE _ p e below s _ _ _ T109 (mkF m 541 #[.val (.int p1), .val (.int p2), .val (.int p3), .val (.int p4), .val (.int cm), .val (.ref t), .val (.ref u), .val (.int (3 : Int32)), .val (.int sm), .val (.ref qa), .val (.int xa), .val (.int ya), .val (.int xb), .val (.int yb), .val (.int xc), .val (.int yc), .val (.int xq), .val (.int yq), .val (.ref b2), .val (.int (1 : Int32)), .val (.int (1 : Int32)), .val (.int (1 : Int32)), .val (.int (1 : Int32)), .val (.int (1 : Int32)), .val (.int (2 : Int32)), .val (.int (3 : Int32)), .val (.int (-1 : Int32)), .val (.int r108_r)] [(.int (3 : Int32))])
                  refine OE.iload X109 hx hby at_541 rfl ?_
                  refine OE.icmpNo X109 hx hby at_543 (teq (by decide : (3 : Int32) = (3 : Int32))).2 ?_
                  refine OE.iload X109 hx hby at_546 rfl ?_
                  refine OE.iload X109 hx hby at_548 rfl ?_
                  refine OE.icmpNo X109 hx hby at_550 (teq (own_f3n h108_hr d99 d102 d105 : r108_r = (-1 : Int32))).2 ?_
                  refine OE.iload X109 hx hby at_553 rfl ?_
                  refine OE.iconst X109 hx hby at_555 (-1 : Int32) rfl ?_
                  refine OE.icmpNo X109 hx hby at_556 (flt (by decide : ¬ ((-1 : Int32) < (-1 : Int32)))).1 ?_
                  refine OE.iconst X109 hx hby at_559 (1 : Int32) rfl ?_
                  refine OE.goto X109 hx hby (pc' := 564) at_560 (h := ?_)
                  refine OE.retN X109 hx (t := .boolean) Bd.returns (by simp) Bd.notSynchronized (hb hby at_564) (Nat.le_trans (Nat.add_le_add_right hcl1 5) (by decide)) (Nat.le_trans (Nat.add_le_add_right hsl1 6150) (by decide)) ?_
                  rw [eq109]
                  exact ⟨rfl, N109⟩
  have c148 : ∀ (cm : Int32) (t : Addr) (u : Addr) (kk : Int32) (sm : Int32) (qa : Addr) (tl : List Int32) (ql : List Int32) (kt : ClassId) (kq : ClassId) (T110 : State) (H110 : Heap) (locs110 : List Loc) (cells110 : Nat) (slots110 : Nat), Stand p l e room_1 s m #[(.int p1), (.int p2), (.int p3), (.int p4)] below meth c T110 locs110 cells110 slots110 → T110.heap = H110 → Fr n0 locs110 → cells110 ≤ 2 → slots110 ≤ 8 → n0 ≤ H110.size → Keep h0 H110 [] → Arv Z H110 t kt .char (4 : Int32) (List.map Value.int tl) (.int (0 : Int32)) → Arv Z H110 qa kq .char (4 : Int32) (List.map Value.int ql) (.int (0 : Int32)) → (tl.length = 4) → (ql.length = 4) → (kk = 0 ∨ kk = 1 ∨ kk = 2 ∨ kk = 3) → OE FrameEnd p e below s (own_Q0 Z p1 p2 p3 p4 h0 n0) room_1.cells room_1.slots T110 (mkF m 148 #[.val (.int p1), .val (.int p2), .val (.int p3), .val (.int p4), .val (.int cm), .val (.ref t), .val (.ref u), .val (.int kk), .val (.int sm), .val (.ref qa), .unset, .unset, .unset, .unset, .unset, .unset, .unset, .unset, .unset, .unset, .unset, .unset, .unset, .unset, .unset, .unset, .unset, .unset] []) := by
    intro cm t u kk sm qa tl ql kt kq T110 H110 locs110 cells110 slots110 X110 e110 N110 hcl110 hsl110 z110 K110 V_t V_qa htl hql hkk
    show OE _ p e below s _ _ _ T110 (mkF m 148 #[.val (.int p1), .val (.int p2), .val (.int p3), .val (.int p4), .val (.int cm), .val (.ref t), .val (.ref u), .val (.int kk), .val (.int sm), .val (.ref qa), .unset, .unset, .unset, .unset, .unset, .unset, .unset, .unset, .unset, .unset, .unset, .unset, .unset, .unset, .unset, .unset, .unset, .unset] [])
    refine OE.iloadN X110 hx hby at_148 rfl ?_
    obtain ⟨_, _, ⟨T111, L111, k111, n111⟩, -, X111, ⟨Lc111, hQ111, l111, y111, z111⟩, st111⟩ := Jvm.LawKit.callS X110 hx (y := (⟨"com/example/archerfish/archerfish/index/TokenTableFindPinLaw", "st", "(I)I"⟩ : MethodName)) hown (mvT hZ (hw _ (List.mem_of_getElem? (i := 1) rfl))) (mvT hZ (hw _ (List.mem_of_getElem? (i := 2) rfl))) (mvT hZ (hw _ (List.mem_of_getElem? (i := 3) rfl))) (mvT hZ (hw _ (List.mem_of_getElem? (i := 4) rfl))) (by decide) (backOf (W := 0) (own_rm1 l Z a0 hw [] p3 H110 n0 z110 ) hZ (hw _ (List.mem_of_getElem? (i := 4) rfl)) (hw _ (List.mem_of_getElem? (i := 3) rfl)) (by decide) (by decide)) (g := (mkF m 149 #[.val (.int p1), .val (.int p2), .val (.int p3), .val (.int p4), .val (.int cm), .val (.ref t), .val (.ref u), .val (.int kk), .val (.int sm), .val (.ref qa), .unset, .unset, .unset, .unset, .unset, .unset, .unset, .unset, .unset, .unset, .unset, .unset, .unset, .unset, .unset, .unset, .unset, .unset] [(.int p3)])) rfl (by rw [hml]; rfl) (argsL := [(.int p3)]) (rest := []) (lenOf own_pd6 rfl) rfl (by show 2 * 0 + _ ≤ _; exact Nat.le_of_eq rfl) (hb hby at_149) (fun _ _ => ⟨rfl, e110, (Nat.le_trans (Nat.add_le_add_right hcl110 0) (by decide)), (Nat.le_trans (Nat.add_le_add_right hsl110 0) (by decide))⟩)
    dsimp only [Pt.U, Pt.locs, Pt.cells, Pt.slots] at X111 l111 y111 z111 st111 hQ111
    have yc111 : cells110 = k111 := y111.symm
    have zc111 : slots110 = n111 := z111.symm
    have lc111 := l111.symm
    subst lc111 yc111 zc111
    obtain ⟨rfl, Nq111, eq111⟩ := hQ111
    refine OE.of (fun _ k => st111 _ k) ?_
    have N111 := Fr.app N110 Nq111
    show OE _ p e below s _ _ _ T111 (mkF m 152 #[.val (.int p1), .val (.int p2), .val (.int p3), .val (.int p4), .val (.int cm), .val (.ref t), .val (.ref u), .val (.int kk), .val (.int sm), .val (.ref qa), .unset, .unset, .unset, .unset, .unset, .unset, .unset, .unset, .unset, .unset, .unset, .unset, .unset, .unset, .unset, .unset, .unset, .unset] [(.int ((p3 &&& (7 : Int32)) % (5 : Int32)))])
    refine OE.istore X111 hx hby at_152 (l' := #[.val (.int p1), .val (.int p2), .val (.int p3), .val (.int p4), .val (.int cm), .val (.ref t), .val (.ref u), .val (.int kk), .val (.int sm), .val (.ref qa), .val (.int ((p3 &&& (7 : Int32)) % (5 : Int32))), .unset, .unset, .unset, .unset, .unset, .unset, .unset, .unset, .unset, .unset, .unset, .unset, .unset, .unset, .unset, .unset, .unset]) rfl ?_
    refine OE.iloadN X111 hx hby at_154 rfl ?_
    obtain ⟨_, _, ⟨T112, L112, k112, n112⟩, -, X112, ⟨Lc112, hQ112, l112, y112, z112⟩, st112⟩ := Jvm.LawKit.callS X111 hx (y := (⟨"com/example/archerfish/archerfish/index/TokenTableFindPinLaw", "en", "(I)I"⟩ : MethodName)) hown (mvT hZ (hw _ (List.mem_of_getElem? (i := 5) rfl))) (mvT hZ (hw _ (List.mem_of_getElem? (i := 6) rfl))) (mvT hZ (hw _ (List.mem_of_getElem? (i := 3) rfl))) (mvT hZ (hw _ (List.mem_of_getElem? (i := 7) rfl))) (by decide) (backOf (W := 0) (own_rm2 l Z a0 hw [] p3 H110 n0 z110 ) hZ (hw _ (List.mem_of_getElem? (i := 7) rfl)) (hw _ (List.mem_of_getElem? (i := 3) rfl)) (by decide) (by decide)) (g := (mkF m 155 #[.val (.int p1), .val (.int p2), .val (.int p3), .val (.int p4), .val (.int cm), .val (.ref t), .val (.ref u), .val (.int kk), .val (.int sm), .val (.ref qa), .val (.int ((p3 &&& (7 : Int32)) % (5 : Int32))), .unset, .unset, .unset, .unset, .unset, .unset, .unset, .unset, .unset, .unset, .unset, .unset, .unset, .unset, .unset, .unset, .unset] [(.int p3)])) rfl (by rw [hml]; rfl) (argsL := [(.int p3)]) (rest := []) (lenOf own_pd6 rfl) rfl (by show 2 * 0 + _ ≤ _; exact Nat.le_of_eq rfl) (hb hby at_155) (fun _ _ => ⟨rfl, eq111, (Nat.le_trans (Nat.add_le_add_right hcl110 0) (by decide)), (Nat.le_trans (Nat.add_le_add_right hsl110 0) (by decide))⟩)
    dsimp only [Pt.U, Pt.locs, Pt.cells, Pt.slots] at X112 l112 y112 z112 st112 hQ112
    have yc112 : cells110 = k112 := y112.symm
    have zc112 : slots110 = n112 := z112.symm
    have lc112 := l112.symm
    subst lc112 yc112 zc112
    obtain ⟨rfl, Nq112, eq112⟩ := hQ112
    refine OE.of (fun _ k => st112 _ k) ?_
    have N112 := Fr.app N111 Nq112
    show OE _ p e below s _ _ _ T112 (mkF m 158 #[.val (.int p1), .val (.int p2), .val (.int p3), .val (.int p4), .val (.int cm), .val (.ref t), .val (.ref u), .val (.int kk), .val (.int sm), .val (.ref qa), .val (.int ((p3 &&& (7 : Int32)) % (5 : Int32))), .unset, .unset, .unset, .unset, .unset, .unset, .unset, .unset, .unset, .unset, .unset, .unset, .unset, .unset, .unset, .unset, .unset] [(.int (((p3 &&& (7 : Int32)) % (5 : Int32)) + ((((p3.toUInt32 >>> ((3 : Int32) &&& 31).toUInt32).toInt32) &&& (7 : Int32)) % ((5 : Int32) - ((p3 &&& (7 : Int32)) % (5 : Int32))))))])
    refine OE.istore X112 hx hby at_158 (l' := #[.val (.int p1), .val (.int p2), .val (.int p3), .val (.int p4), .val (.int cm), .val (.ref t), .val (.ref u), .val (.int kk), .val (.int sm), .val (.ref qa), .val (.int ((p3 &&& (7 : Int32)) % (5 : Int32))), .val (.int (((p3 &&& (7 : Int32)) % (5 : Int32)) + ((((p3.toUInt32 >>> ((3 : Int32) &&& 31).toUInt32).toInt32) &&& (7 : Int32)) % ((5 : Int32) - ((p3 &&& (7 : Int32)) % (5 : Int32)))))), .unset, .unset, .unset, .unset, .unset, .unset, .unset, .unset, .unset, .unset, .unset, .unset, .unset, .unset, .unset, .unset]) rfl ?_
    refine OE.iloadN X112 hx hby at_160 rfl ?_
    refine OE.bipush X112 hx hby at_161 (6 : Int32) rfl ?_
    refine OE.iushr X112 hx hby at_163 ?_
    obtain ⟨_, _, ⟨T113, L113, k113, n113⟩, -, X113, ⟨Lc113, hQ113, l113, y113, z113⟩, st113⟩ := Jvm.LawKit.callS X112 hx (y := (⟨"com/example/archerfish/archerfish/index/TokenTableFindPinLaw", "st", "(I)I"⟩ : MethodName)) hown (mvT hZ (hw _ (List.mem_of_getElem? (i := 1) rfl))) (mvT hZ (hw _ (List.mem_of_getElem? (i := 2) rfl))) (mvT hZ (hw _ (List.mem_of_getElem? (i := 3) rfl))) (mvT hZ (hw _ (List.mem_of_getElem? (i := 4) rfl))) (by decide) (backOf (W := 0) (own_rm1 l Z a0 hw [] ((p3.toUInt32 >>> ((6 : Int32) &&& 31).toUInt32).toInt32) H110 n0 z110 ) hZ (hw _ (List.mem_of_getElem? (i := 4) rfl)) (hw _ (List.mem_of_getElem? (i := 3) rfl)) (by decide) (by decide)) (g := (mkF m 164 #[.val (.int p1), .val (.int p2), .val (.int p3), .val (.int p4), .val (.int cm), .val (.ref t), .val (.ref u), .val (.int kk), .val (.int sm), .val (.ref qa), .val (.int ((p3 &&& (7 : Int32)) % (5 : Int32))), .val (.int (((p3 &&& (7 : Int32)) % (5 : Int32)) + ((((p3.toUInt32 >>> ((3 : Int32) &&& 31).toUInt32).toInt32) &&& (7 : Int32)) % ((5 : Int32) - ((p3 &&& (7 : Int32)) % (5 : Int32)))))), .unset, .unset, .unset, .unset, .unset, .unset, .unset, .unset, .unset, .unset, .unset, .unset, .unset, .unset, .unset, .unset] [(.int ((p3.toUInt32 >>> ((6 : Int32) &&& 31).toUInt32).toInt32))])) rfl (by rw [hml]; rfl) (argsL := [(.int ((p3.toUInt32 >>> ((6 : Int32) &&& 31).toUInt32).toInt32))]) (rest := []) (lenOf own_pd6 rfl) rfl (by show 2 * 0 + _ ≤ _; exact Nat.le_of_eq rfl) (hb hby at_164) (fun _ _ => ⟨rfl, eq112, (Nat.le_trans (Nat.add_le_add_right hcl110 0) (by decide)), (Nat.le_trans (Nat.add_le_add_right hsl110 0) (by decide))⟩)
    dsimp only [Pt.U, Pt.locs, Pt.cells, Pt.slots] at X113 l113 y113 z113 st113 hQ113
    have yc113 : cells110 = k113 := y113.symm
    have zc113 : slots110 = n113 := z113.symm
    have lc113 := l113.symm
    subst lc113 yc113 zc113
    obtain ⟨rfl, Nq113, eq113⟩ := hQ113
    refine OE.of (fun _ k => st113 _ k) ?_
    have N113 := Fr.app N112 Nq113
    show OE _ p e below s _ _ _ T113 (mkF m 167 #[.val (.int p1), .val (.int p2), .val (.int p3), .val (.int p4), .val (.int cm), .val (.ref t), .val (.ref u), .val (.int kk), .val (.int sm), .val (.ref qa), .val (.int ((p3 &&& (7 : Int32)) % (5 : Int32))), .val (.int (((p3 &&& (7 : Int32)) % (5 : Int32)) + ((((p3.toUInt32 >>> ((3 : Int32) &&& 31).toUInt32).toInt32) &&& (7 : Int32)) % ((5 : Int32) - ((p3 &&& (7 : Int32)) % (5 : Int32)))))), .unset, .unset, .unset, .unset, .unset, .unset, .unset, .unset, .unset, .unset, .unset, .unset, .unset, .unset, .unset, .unset] [(.int ((((p3.toUInt32 >>> ((6 : Int32) &&& 31).toUInt32).toInt32) &&& (7 : Int32)) % (5 : Int32)))])
    refine OE.istore X113 hx hby at_167 (l' := #[.val (.int p1), .val (.int p2), .val (.int p3), .val (.int p4), .val (.int cm), .val (.ref t), .val (.ref u), .val (.int kk), .val (.int sm), .val (.ref qa), .val (.int ((p3 &&& (7 : Int32)) % (5 : Int32))), .val (.int (((p3 &&& (7 : Int32)) % (5 : Int32)) + ((((p3.toUInt32 >>> ((3 : Int32) &&& 31).toUInt32).toInt32) &&& (7 : Int32)) % ((5 : Int32) - ((p3 &&& (7 : Int32)) % (5 : Int32)))))), .val (.int ((((p3.toUInt32 >>> ((6 : Int32) &&& 31).toUInt32).toInt32) &&& (7 : Int32)) % (5 : Int32))), .unset, .unset, .unset, .unset, .unset, .unset, .unset, .unset, .unset, .unset, .unset, .unset, .unset, .unset, .unset]) rfl ?_
    refine OE.iloadN X113 hx hby at_169 rfl ?_
    refine OE.bipush X113 hx hby at_170 (6 : Int32) rfl ?_
    refine OE.iushr X113 hx hby at_172 ?_
    obtain ⟨_, _, ⟨T114, L114, k114, n114⟩, -, X114, ⟨Lc114, hQ114, l114, y114, z114⟩, st114⟩ := Jvm.LawKit.callS X113 hx (y := (⟨"com/example/archerfish/archerfish/index/TokenTableFindPinLaw", "en", "(I)I"⟩ : MethodName)) hown (mvT hZ (hw _ (List.mem_of_getElem? (i := 5) rfl))) (mvT hZ (hw _ (List.mem_of_getElem? (i := 6) rfl))) (mvT hZ (hw _ (List.mem_of_getElem? (i := 3) rfl))) (mvT hZ (hw _ (List.mem_of_getElem? (i := 7) rfl))) (by decide) (backOf (W := 0) (own_rm2 l Z a0 hw [] ((p3.toUInt32 >>> ((6 : Int32) &&& 31).toUInt32).toInt32) H110 n0 z110 ) hZ (hw _ (List.mem_of_getElem? (i := 7) rfl)) (hw _ (List.mem_of_getElem? (i := 3) rfl)) (by decide) (by decide)) (g := (mkF m 173 #[.val (.int p1), .val (.int p2), .val (.int p3), .val (.int p4), .val (.int cm), .val (.ref t), .val (.ref u), .val (.int kk), .val (.int sm), .val (.ref qa), .val (.int ((p3 &&& (7 : Int32)) % (5 : Int32))), .val (.int (((p3 &&& (7 : Int32)) % (5 : Int32)) + ((((p3.toUInt32 >>> ((3 : Int32) &&& 31).toUInt32).toInt32) &&& (7 : Int32)) % ((5 : Int32) - ((p3 &&& (7 : Int32)) % (5 : Int32)))))), .val (.int ((((p3.toUInt32 >>> ((6 : Int32) &&& 31).toUInt32).toInt32) &&& (7 : Int32)) % (5 : Int32))), .unset, .unset, .unset, .unset, .unset, .unset, .unset, .unset, .unset, .unset, .unset, .unset, .unset, .unset, .unset] [(.int ((p3.toUInt32 >>> ((6 : Int32) &&& 31).toUInt32).toInt32))])) rfl (by rw [hml]; rfl) (argsL := [(.int ((p3.toUInt32 >>> ((6 : Int32) &&& 31).toUInt32).toInt32))]) (rest := []) (lenOf own_pd6 rfl) rfl (by show 2 * 0 + _ ≤ _; exact Nat.le_of_eq rfl) (hb hby at_173) (fun _ _ => ⟨rfl, eq113, (Nat.le_trans (Nat.add_le_add_right hcl110 0) (by decide)), (Nat.le_trans (Nat.add_le_add_right hsl110 0) (by decide))⟩)
    dsimp only [Pt.U, Pt.locs, Pt.cells, Pt.slots] at X114 l114 y114 z114 st114 hQ114
    have yc114 : cells110 = k114 := y114.symm
    have zc114 : slots110 = n114 := z114.symm
    have lc114 := l114.symm
    subst lc114 yc114 zc114
    obtain ⟨rfl, Nq114, eq114⟩ := hQ114
    refine OE.of (fun _ k => st114 _ k) ?_
    have N114 := Fr.app N113 Nq114
    show OE _ p e below s _ _ _ T114 (mkF m 176 #[.val (.int p1), .val (.int p2), .val (.int p3), .val (.int p4), .val (.int cm), .val (.ref t), .val (.ref u), .val (.int kk), .val (.int sm), .val (.ref qa), .val (.int ((p3 &&& (7 : Int32)) % (5 : Int32))), .val (.int (((p3 &&& (7 : Int32)) % (5 : Int32)) + ((((p3.toUInt32 >>> ((3 : Int32) &&& 31).toUInt32).toInt32) &&& (7 : Int32)) % ((5 : Int32) - ((p3 &&& (7 : Int32)) % (5 : Int32)))))), .val (.int ((((p3.toUInt32 >>> ((6 : Int32) &&& 31).toUInt32).toInt32) &&& (7 : Int32)) % (5 : Int32))), .unset, .unset, .unset, .unset, .unset, .unset, .unset, .unset, .unset, .unset, .unset, .unset, .unset, .unset, .unset] [(.int (((((p3.toUInt32 >>> ((6 : Int32) &&& 31).toUInt32).toInt32) &&& (7 : Int32)) % (5 : Int32)) + ((((((p3.toUInt32 >>> ((6 : Int32) &&& 31).toUInt32).toInt32).toUInt32 >>> ((3 : Int32) &&& 31).toUInt32).toInt32) &&& (7 : Int32)) % ((5 : Int32) - ((((p3.toUInt32 >>> ((6 : Int32) &&& 31).toUInt32).toInt32) &&& (7 : Int32)) % (5 : Int32))))))])
    refine OE.istore X114 hx hby at_176 (l' := #[.val (.int p1), .val (.int p2), .val (.int p3), .val (.int p4), .val (.int cm), .val (.ref t), .val (.ref u), .val (.int kk), .val (.int sm), .val (.ref qa), .val (.int ((p3 &&& (7 : Int32)) % (5 : Int32))), .val (.int (((p3 &&& (7 : Int32)) % (5 : Int32)) + ((((p3.toUInt32 >>> ((3 : Int32) &&& 31).toUInt32).toInt32) &&& (7 : Int32)) % ((5 : Int32) - ((p3 &&& (7 : Int32)) % (5 : Int32)))))), .val (.int ((((p3.toUInt32 >>> ((6 : Int32) &&& 31).toUInt32).toInt32) &&& (7 : Int32)) % (5 : Int32))), .val (.int (((((p3.toUInt32 >>> ((6 : Int32) &&& 31).toUInt32).toInt32) &&& (7 : Int32)) % (5 : Int32)) + ((((((p3.toUInt32 >>> ((6 : Int32) &&& 31).toUInt32).toInt32).toUInt32 >>> ((3 : Int32) &&& 31).toUInt32).toInt32) &&& (7 : Int32)) % ((5 : Int32) - ((((p3.toUInt32 >>> ((6 : Int32) &&& 31).toUInt32).toInt32) &&& (7 : Int32)) % (5 : Int32)))))), .unset, .unset, .unset, .unset, .unset, .unset, .unset, .unset, .unset, .unset, .unset, .unset, .unset, .unset]) rfl ?_
    refine OE.iloadN X114 hx hby at_178 rfl ?_
    refine OE.bipush X114 hx hby at_179 (12 : Int32) rfl ?_
    refine OE.iushr X114 hx hby at_181 ?_
    obtain ⟨_, _, ⟨T115, L115, k115, n115⟩, -, X115, ⟨Lc115, hQ115, l115, y115, z115⟩, st115⟩ := Jvm.LawKit.callS X114 hx (y := (⟨"com/example/archerfish/archerfish/index/TokenTableFindPinLaw", "st", "(I)I"⟩ : MethodName)) hown (mvT hZ (hw _ (List.mem_of_getElem? (i := 1) rfl))) (mvT hZ (hw _ (List.mem_of_getElem? (i := 2) rfl))) (mvT hZ (hw _ (List.mem_of_getElem? (i := 3) rfl))) (mvT hZ (hw _ (List.mem_of_getElem? (i := 4) rfl))) (by decide) (backOf (W := 0) (own_rm1 l Z a0 hw [] ((p3.toUInt32 >>> ((12 : Int32) &&& 31).toUInt32).toInt32) H110 n0 z110 ) hZ (hw _ (List.mem_of_getElem? (i := 4) rfl)) (hw _ (List.mem_of_getElem? (i := 3) rfl)) (by decide) (by decide)) (g := (mkF m 182 #[.val (.int p1), .val (.int p2), .val (.int p3), .val (.int p4), .val (.int cm), .val (.ref t), .val (.ref u), .val (.int kk), .val (.int sm), .val (.ref qa), .val (.int ((p3 &&& (7 : Int32)) % (5 : Int32))), .val (.int (((p3 &&& (7 : Int32)) % (5 : Int32)) + ((((p3.toUInt32 >>> ((3 : Int32) &&& 31).toUInt32).toInt32) &&& (7 : Int32)) % ((5 : Int32) - ((p3 &&& (7 : Int32)) % (5 : Int32)))))), .val (.int ((((p3.toUInt32 >>> ((6 : Int32) &&& 31).toUInt32).toInt32) &&& (7 : Int32)) % (5 : Int32))), .val (.int (((((p3.toUInt32 >>> ((6 : Int32) &&& 31).toUInt32).toInt32) &&& (7 : Int32)) % (5 : Int32)) + ((((((p3.toUInt32 >>> ((6 : Int32) &&& 31).toUInt32).toInt32).toUInt32 >>> ((3 : Int32) &&& 31).toUInt32).toInt32) &&& (7 : Int32)) % ((5 : Int32) - ((((p3.toUInt32 >>> ((6 : Int32) &&& 31).toUInt32).toInt32) &&& (7 : Int32)) % (5 : Int32)))))), .unset, .unset, .unset, .unset, .unset, .unset, .unset, .unset, .unset, .unset, .unset, .unset, .unset, .unset] [(.int ((p3.toUInt32 >>> ((12 : Int32) &&& 31).toUInt32).toInt32))])) rfl (by rw [hml]; rfl) (argsL := [(.int ((p3.toUInt32 >>> ((12 : Int32) &&& 31).toUInt32).toInt32))]) (rest := []) (lenOf own_pd6 rfl) rfl (by show 2 * 0 + _ ≤ _; exact Nat.le_of_eq rfl) (hb hby at_182) (fun _ _ => ⟨rfl, eq114, (Nat.le_trans (Nat.add_le_add_right hcl110 0) (by decide)), (Nat.le_trans (Nat.add_le_add_right hsl110 0) (by decide))⟩)
    dsimp only [Pt.U, Pt.locs, Pt.cells, Pt.slots] at X115 l115 y115 z115 st115 hQ115
    have yc115 : cells110 = k115 := y115.symm
    have zc115 : slots110 = n115 := z115.symm
    have lc115 := l115.symm
    subst lc115 yc115 zc115
    obtain ⟨rfl, Nq115, eq115⟩ := hQ115
    refine OE.of (fun _ k => st115 _ k) ?_
    have N115 := Fr.app N114 Nq115
    show OE _ p e below s _ _ _ T115 (mkF m 185 #[.val (.int p1), .val (.int p2), .val (.int p3), .val (.int p4), .val (.int cm), .val (.ref t), .val (.ref u), .val (.int kk), .val (.int sm), .val (.ref qa), .val (.int ((p3 &&& (7 : Int32)) % (5 : Int32))), .val (.int (((p3 &&& (7 : Int32)) % (5 : Int32)) + ((((p3.toUInt32 >>> ((3 : Int32) &&& 31).toUInt32).toInt32) &&& (7 : Int32)) % ((5 : Int32) - ((p3 &&& (7 : Int32)) % (5 : Int32)))))), .val (.int ((((p3.toUInt32 >>> ((6 : Int32) &&& 31).toUInt32).toInt32) &&& (7 : Int32)) % (5 : Int32))), .val (.int (((((p3.toUInt32 >>> ((6 : Int32) &&& 31).toUInt32).toInt32) &&& (7 : Int32)) % (5 : Int32)) + ((((((p3.toUInt32 >>> ((6 : Int32) &&& 31).toUInt32).toInt32).toUInt32 >>> ((3 : Int32) &&& 31).toUInt32).toInt32) &&& (7 : Int32)) % ((5 : Int32) - ((((p3.toUInt32 >>> ((6 : Int32) &&& 31).toUInt32).toInt32) &&& (7 : Int32)) % (5 : Int32)))))), .unset, .unset, .unset, .unset, .unset, .unset, .unset, .unset, .unset, .unset, .unset, .unset, .unset, .unset] [(.int ((((p3.toUInt32 >>> ((12 : Int32) &&& 31).toUInt32).toInt32) &&& (7 : Int32)) % (5 : Int32)))])
    refine OE.istore X115 hx hby at_185 (l' := #[.val (.int p1), .val (.int p2), .val (.int p3), .val (.int p4), .val (.int cm), .val (.ref t), .val (.ref u), .val (.int kk), .val (.int sm), .val (.ref qa), .val (.int ((p3 &&& (7 : Int32)) % (5 : Int32))), .val (.int (((p3 &&& (7 : Int32)) % (5 : Int32)) + ((((p3.toUInt32 >>> ((3 : Int32) &&& 31).toUInt32).toInt32) &&& (7 : Int32)) % ((5 : Int32) - ((p3 &&& (7 : Int32)) % (5 : Int32)))))), .val (.int ((((p3.toUInt32 >>> ((6 : Int32) &&& 31).toUInt32).toInt32) &&& (7 : Int32)) % (5 : Int32))), .val (.int (((((p3.toUInt32 >>> ((6 : Int32) &&& 31).toUInt32).toInt32) &&& (7 : Int32)) % (5 : Int32)) + ((((((p3.toUInt32 >>> ((6 : Int32) &&& 31).toUInt32).toInt32).toUInt32 >>> ((3 : Int32) &&& 31).toUInt32).toInt32) &&& (7 : Int32)) % ((5 : Int32) - ((((p3.toUInt32 >>> ((6 : Int32) &&& 31).toUInt32).toInt32) &&& (7 : Int32)) % (5 : Int32)))))), .val (.int ((((p3.toUInt32 >>> ((12 : Int32) &&& 31).toUInt32).toInt32) &&& (7 : Int32)) % (5 : Int32))), .unset, .unset, .unset, .unset, .unset, .unset, .unset, .unset, .unset, .unset, .unset, .unset, .unset]) rfl ?_
    refine OE.iloadN X115 hx hby at_187 rfl ?_
    refine OE.bipush X115 hx hby at_188 (12 : Int32) rfl ?_
    refine OE.iushr X115 hx hby at_190 ?_
    obtain ⟨_, _, ⟨T116, L116, k116, n116⟩, -, X116, ⟨Lc116, hQ116, l116, y116, z116⟩, st116⟩ := Jvm.LawKit.callS X115 hx (y := (⟨"com/example/archerfish/archerfish/index/TokenTableFindPinLaw", "en", "(I)I"⟩ : MethodName)) hown (mvT hZ (hw _ (List.mem_of_getElem? (i := 5) rfl))) (mvT hZ (hw _ (List.mem_of_getElem? (i := 6) rfl))) (mvT hZ (hw _ (List.mem_of_getElem? (i := 3) rfl))) (mvT hZ (hw _ (List.mem_of_getElem? (i := 7) rfl))) (by decide) (backOf (W := 0) (own_rm2 l Z a0 hw [] ((p3.toUInt32 >>> ((12 : Int32) &&& 31).toUInt32).toInt32) H110 n0 z110 ) hZ (hw _ (List.mem_of_getElem? (i := 7) rfl)) (hw _ (List.mem_of_getElem? (i := 3) rfl)) (by decide) (by decide)) (g := (mkF m 191 #[.val (.int p1), .val (.int p2), .val (.int p3), .val (.int p4), .val (.int cm), .val (.ref t), .val (.ref u), .val (.int kk), .val (.int sm), .val (.ref qa), .val (.int ((p3 &&& (7 : Int32)) % (5 : Int32))), .val (.int (((p3 &&& (7 : Int32)) % (5 : Int32)) + ((((p3.toUInt32 >>> ((3 : Int32) &&& 31).toUInt32).toInt32) &&& (7 : Int32)) % ((5 : Int32) - ((p3 &&& (7 : Int32)) % (5 : Int32)))))), .val (.int ((((p3.toUInt32 >>> ((6 : Int32) &&& 31).toUInt32).toInt32) &&& (7 : Int32)) % (5 : Int32))), .val (.int (((((p3.toUInt32 >>> ((6 : Int32) &&& 31).toUInt32).toInt32) &&& (7 : Int32)) % (5 : Int32)) + ((((((p3.toUInt32 >>> ((6 : Int32) &&& 31).toUInt32).toInt32).toUInt32 >>> ((3 : Int32) &&& 31).toUInt32).toInt32) &&& (7 : Int32)) % ((5 : Int32) - ((((p3.toUInt32 >>> ((6 : Int32) &&& 31).toUInt32).toInt32) &&& (7 : Int32)) % (5 : Int32)))))), .val (.int ((((p3.toUInt32 >>> ((12 : Int32) &&& 31).toUInt32).toInt32) &&& (7 : Int32)) % (5 : Int32))), .unset, .unset, .unset, .unset, .unset, .unset, .unset, .unset, .unset, .unset, .unset, .unset, .unset] [(.int ((p3.toUInt32 >>> ((12 : Int32) &&& 31).toUInt32).toInt32))])) rfl (by rw [hml]; rfl) (argsL := [(.int ((p3.toUInt32 >>> ((12 : Int32) &&& 31).toUInt32).toInt32))]) (rest := []) (lenOf own_pd6 rfl) rfl (by show 2 * 0 + _ ≤ _; exact Nat.le_of_eq rfl) (hb hby at_191) (fun _ _ => ⟨rfl, eq115, (Nat.le_trans (Nat.add_le_add_right hcl110 0) (by decide)), (Nat.le_trans (Nat.add_le_add_right hsl110 0) (by decide))⟩)
    dsimp only [Pt.U, Pt.locs, Pt.cells, Pt.slots] at X116 l116 y116 z116 st116 hQ116
    have yc116 : cells110 = k116 := y116.symm
    have zc116 : slots110 = n116 := z116.symm
    have lc116 := l116.symm
    subst lc116 yc116 zc116
    obtain ⟨rfl, Nq116, eq116⟩ := hQ116
    refine OE.of (fun _ k => st116 _ k) ?_
    have N116 := Fr.app N115 Nq116
    show OE _ p e below s _ _ _ T116 (mkF m 194 #[.val (.int p1), .val (.int p2), .val (.int p3), .val (.int p4), .val (.int cm), .val (.ref t), .val (.ref u), .val (.int kk), .val (.int sm), .val (.ref qa), .val (.int ((p3 &&& (7 : Int32)) % (5 : Int32))), .val (.int (((p3 &&& (7 : Int32)) % (5 : Int32)) + ((((p3.toUInt32 >>> ((3 : Int32) &&& 31).toUInt32).toInt32) &&& (7 : Int32)) % ((5 : Int32) - ((p3 &&& (7 : Int32)) % (5 : Int32)))))), .val (.int ((((p3.toUInt32 >>> ((6 : Int32) &&& 31).toUInt32).toInt32) &&& (7 : Int32)) % (5 : Int32))), .val (.int (((((p3.toUInt32 >>> ((6 : Int32) &&& 31).toUInt32).toInt32) &&& (7 : Int32)) % (5 : Int32)) + ((((((p3.toUInt32 >>> ((6 : Int32) &&& 31).toUInt32).toInt32).toUInt32 >>> ((3 : Int32) &&& 31).toUInt32).toInt32) &&& (7 : Int32)) % ((5 : Int32) - ((((p3.toUInt32 >>> ((6 : Int32) &&& 31).toUInt32).toInt32) &&& (7 : Int32)) % (5 : Int32)))))), .val (.int ((((p3.toUInt32 >>> ((12 : Int32) &&& 31).toUInt32).toInt32) &&& (7 : Int32)) % (5 : Int32))), .unset, .unset, .unset, .unset, .unset, .unset, .unset, .unset, .unset, .unset, .unset, .unset, .unset] [(.int (((((p3.toUInt32 >>> ((12 : Int32) &&& 31).toUInt32).toInt32) &&& (7 : Int32)) % (5 : Int32)) + ((((((p3.toUInt32 >>> ((12 : Int32) &&& 31).toUInt32).toInt32).toUInt32 >>> ((3 : Int32) &&& 31).toUInt32).toInt32) &&& (7 : Int32)) % ((5 : Int32) - ((((p3.toUInt32 >>> ((12 : Int32) &&& 31).toUInt32).toInt32) &&& (7 : Int32)) % (5 : Int32))))))])
    refine OE.istore X116 hx hby at_194 (l' := #[.val (.int p1), .val (.int p2), .val (.int p3), .val (.int p4), .val (.int cm), .val (.ref t), .val (.ref u), .val (.int kk), .val (.int sm), .val (.ref qa), .val (.int ((p3 &&& (7 : Int32)) % (5 : Int32))), .val (.int (((p3 &&& (7 : Int32)) % (5 : Int32)) + ((((p3.toUInt32 >>> ((3 : Int32) &&& 31).toUInt32).toInt32) &&& (7 : Int32)) % ((5 : Int32) - ((p3 &&& (7 : Int32)) % (5 : Int32)))))), .val (.int ((((p3.toUInt32 >>> ((6 : Int32) &&& 31).toUInt32).toInt32) &&& (7 : Int32)) % (5 : Int32))), .val (.int (((((p3.toUInt32 >>> ((6 : Int32) &&& 31).toUInt32).toInt32) &&& (7 : Int32)) % (5 : Int32)) + ((((((p3.toUInt32 >>> ((6 : Int32) &&& 31).toUInt32).toInt32).toUInt32 >>> ((3 : Int32) &&& 31).toUInt32).toInt32) &&& (7 : Int32)) % ((5 : Int32) - ((((p3.toUInt32 >>> ((6 : Int32) &&& 31).toUInt32).toInt32) &&& (7 : Int32)) % (5 : Int32)))))), .val (.int ((((p3.toUInt32 >>> ((12 : Int32) &&& 31).toUInt32).toInt32) &&& (7 : Int32)) % (5 : Int32))), .val (.int (((((p3.toUInt32 >>> ((12 : Int32) &&& 31).toUInt32).toInt32) &&& (7 : Int32)) % (5 : Int32)) + ((((((p3.toUInt32 >>> ((12 : Int32) &&& 31).toUInt32).toInt32).toUInt32 >>> ((3 : Int32) &&& 31).toUInt32).toInt32) &&& (7 : Int32)) % ((5 : Int32) - ((((p3.toUInt32 >>> ((12 : Int32) &&& 31).toUInt32).toInt32) &&& (7 : Int32)) % (5 : Int32)))))), .unset, .unset, .unset, .unset, .unset, .unset, .unset, .unset, .unset, .unset, .unset, .unset]) rfl ?_
    refine OE.iloadN X116 hx hby at_196 rfl ?_
    refine OE.bipush X116 hx hby at_197 (18 : Int32) rfl ?_
    refine OE.iushr X116 hx hby at_199 ?_
    obtain ⟨_, _, ⟨T117, L117, k117, n117⟩, -, X117, ⟨Lc117, hQ117, l117, y117, z117⟩, st117⟩ := Jvm.LawKit.callS X116 hx (y := (⟨"com/example/archerfish/archerfish/index/TokenTableFindPinLaw", "st", "(I)I"⟩ : MethodName)) hown (mvT hZ (hw _ (List.mem_of_getElem? (i := 1) rfl))) (mvT hZ (hw _ (List.mem_of_getElem? (i := 2) rfl))) (mvT hZ (hw _ (List.mem_of_getElem? (i := 3) rfl))) (mvT hZ (hw _ (List.mem_of_getElem? (i := 4) rfl))) (by decide) (backOf (W := 0) (own_rm1 l Z a0 hw [] ((p3.toUInt32 >>> ((18 : Int32) &&& 31).toUInt32).toInt32) H110 n0 z110 ) hZ (hw _ (List.mem_of_getElem? (i := 4) rfl)) (hw _ (List.mem_of_getElem? (i := 3) rfl)) (by decide) (by decide)) (g := (mkF m 200 #[.val (.int p1), .val (.int p2), .val (.int p3), .val (.int p4), .val (.int cm), .val (.ref t), .val (.ref u), .val (.int kk), .val (.int sm), .val (.ref qa), .val (.int ((p3 &&& (7 : Int32)) % (5 : Int32))), .val (.int (((p3 &&& (7 : Int32)) % (5 : Int32)) + ((((p3.toUInt32 >>> ((3 : Int32) &&& 31).toUInt32).toInt32) &&& (7 : Int32)) % ((5 : Int32) - ((p3 &&& (7 : Int32)) % (5 : Int32)))))), .val (.int ((((p3.toUInt32 >>> ((6 : Int32) &&& 31).toUInt32).toInt32) &&& (7 : Int32)) % (5 : Int32))), .val (.int (((((p3.toUInt32 >>> ((6 : Int32) &&& 31).toUInt32).toInt32) &&& (7 : Int32)) % (5 : Int32)) + ((((((p3.toUInt32 >>> ((6 : Int32) &&& 31).toUInt32).toInt32).toUInt32 >>> ((3 : Int32) &&& 31).toUInt32).toInt32) &&& (7 : Int32)) % ((5 : Int32) - ((((p3.toUInt32 >>> ((6 : Int32) &&& 31).toUInt32).toInt32) &&& (7 : Int32)) % (5 : Int32)))))), .val (.int ((((p3.toUInt32 >>> ((12 : Int32) &&& 31).toUInt32).toInt32) &&& (7 : Int32)) % (5 : Int32))), .val (.int (((((p3.toUInt32 >>> ((12 : Int32) &&& 31).toUInt32).toInt32) &&& (7 : Int32)) % (5 : Int32)) + ((((((p3.toUInt32 >>> ((12 : Int32) &&& 31).toUInt32).toInt32).toUInt32 >>> ((3 : Int32) &&& 31).toUInt32).toInt32) &&& (7 : Int32)) % ((5 : Int32) - ((((p3.toUInt32 >>> ((12 : Int32) &&& 31).toUInt32).toInt32) &&& (7 : Int32)) % (5 : Int32)))))), .unset, .unset, .unset, .unset, .unset, .unset, .unset, .unset, .unset, .unset, .unset, .unset] [(.int ((p3.toUInt32 >>> ((18 : Int32) &&& 31).toUInt32).toInt32))])) rfl (by rw [hml]; rfl) (argsL := [(.int ((p3.toUInt32 >>> ((18 : Int32) &&& 31).toUInt32).toInt32))]) (rest := []) (lenOf own_pd6 rfl) rfl (by show 2 * 0 + _ ≤ _; exact Nat.le_of_eq rfl) (hb hby at_200) (fun _ _ => ⟨rfl, eq116, (Nat.le_trans (Nat.add_le_add_right hcl110 0) (by decide)), (Nat.le_trans (Nat.add_le_add_right hsl110 0) (by decide))⟩)
    dsimp only [Pt.U, Pt.locs, Pt.cells, Pt.slots] at X117 l117 y117 z117 st117 hQ117
    have yc117 : cells110 = k117 := y117.symm
    have zc117 : slots110 = n117 := z117.symm
    have lc117 := l117.symm
    subst lc117 yc117 zc117
    obtain ⟨rfl, Nq117, eq117⟩ := hQ117
    refine OE.of (fun _ k => st117 _ k) ?_
    have N117 := Fr.app N116 Nq117
    show OE _ p e below s _ _ _ T117 (mkF m 203 #[.val (.int p1), .val (.int p2), .val (.int p3), .val (.int p4), .val (.int cm), .val (.ref t), .val (.ref u), .val (.int kk), .val (.int sm), .val (.ref qa), .val (.int ((p3 &&& (7 : Int32)) % (5 : Int32))), .val (.int (((p3 &&& (7 : Int32)) % (5 : Int32)) + ((((p3.toUInt32 >>> ((3 : Int32) &&& 31).toUInt32).toInt32) &&& (7 : Int32)) % ((5 : Int32) - ((p3 &&& (7 : Int32)) % (5 : Int32)))))), .val (.int ((((p3.toUInt32 >>> ((6 : Int32) &&& 31).toUInt32).toInt32) &&& (7 : Int32)) % (5 : Int32))), .val (.int (((((p3.toUInt32 >>> ((6 : Int32) &&& 31).toUInt32).toInt32) &&& (7 : Int32)) % (5 : Int32)) + ((((((p3.toUInt32 >>> ((6 : Int32) &&& 31).toUInt32).toInt32).toUInt32 >>> ((3 : Int32) &&& 31).toUInt32).toInt32) &&& (7 : Int32)) % ((5 : Int32) - ((((p3.toUInt32 >>> ((6 : Int32) &&& 31).toUInt32).toInt32) &&& (7 : Int32)) % (5 : Int32)))))), .val (.int ((((p3.toUInt32 >>> ((12 : Int32) &&& 31).toUInt32).toInt32) &&& (7 : Int32)) % (5 : Int32))), .val (.int (((((p3.toUInt32 >>> ((12 : Int32) &&& 31).toUInt32).toInt32) &&& (7 : Int32)) % (5 : Int32)) + ((((((p3.toUInt32 >>> ((12 : Int32) &&& 31).toUInt32).toInt32).toUInt32 >>> ((3 : Int32) &&& 31).toUInt32).toInt32) &&& (7 : Int32)) % ((5 : Int32) - ((((p3.toUInt32 >>> ((12 : Int32) &&& 31).toUInt32).toInt32) &&& (7 : Int32)) % (5 : Int32)))))), .unset, .unset, .unset, .unset, .unset, .unset, .unset, .unset, .unset, .unset, .unset, .unset] [(.int ((((p3.toUInt32 >>> ((18 : Int32) &&& 31).toUInt32).toInt32) &&& (7 : Int32)) % (5 : Int32)))])
    refine OE.istore X117 hx hby at_203 (l' := #[.val (.int p1), .val (.int p2), .val (.int p3), .val (.int p4), .val (.int cm), .val (.ref t), .val (.ref u), .val (.int kk), .val (.int sm), .val (.ref qa), .val (.int ((p3 &&& (7 : Int32)) % (5 : Int32))), .val (.int (((p3 &&& (7 : Int32)) % (5 : Int32)) + ((((p3.toUInt32 >>> ((3 : Int32) &&& 31).toUInt32).toInt32) &&& (7 : Int32)) % ((5 : Int32) - ((p3 &&& (7 : Int32)) % (5 : Int32)))))), .val (.int ((((p3.toUInt32 >>> ((6 : Int32) &&& 31).toUInt32).toInt32) &&& (7 : Int32)) % (5 : Int32))), .val (.int (((((p3.toUInt32 >>> ((6 : Int32) &&& 31).toUInt32).toInt32) &&& (7 : Int32)) % (5 : Int32)) + ((((((p3.toUInt32 >>> ((6 : Int32) &&& 31).toUInt32).toInt32).toUInt32 >>> ((3 : Int32) &&& 31).toUInt32).toInt32) &&& (7 : Int32)) % ((5 : Int32) - ((((p3.toUInt32 >>> ((6 : Int32) &&& 31).toUInt32).toInt32) &&& (7 : Int32)) % (5 : Int32)))))), .val (.int ((((p3.toUInt32 >>> ((12 : Int32) &&& 31).toUInt32).toInt32) &&& (7 : Int32)) % (5 : Int32))), .val (.int (((((p3.toUInt32 >>> ((12 : Int32) &&& 31).toUInt32).toInt32) &&& (7 : Int32)) % (5 : Int32)) + ((((((p3.toUInt32 >>> ((12 : Int32) &&& 31).toUInt32).toInt32).toUInt32 >>> ((3 : Int32) &&& 31).toUInt32).toInt32) &&& (7 : Int32)) % ((5 : Int32) - ((((p3.toUInt32 >>> ((12 : Int32) &&& 31).toUInt32).toInt32) &&& (7 : Int32)) % (5 : Int32)))))), .val (.int ((((p3.toUInt32 >>> ((18 : Int32) &&& 31).toUInt32).toInt32) &&& (7 : Int32)) % (5 : Int32))), .unset, .unset, .unset, .unset, .unset, .unset, .unset, .unset, .unset, .unset, .unset]) rfl ?_
    refine OE.iloadN X117 hx hby at_205 rfl ?_
    refine OE.bipush X117 hx hby at_206 (18 : Int32) rfl ?_
    refine OE.iushr X117 hx hby at_208 ?_
    obtain ⟨_, _, ⟨T118, L118, k118, n118⟩, -, X118, ⟨Lc118, hQ118, l118, y118, z118⟩, st118⟩ := Jvm.LawKit.callS X117 hx (y := (⟨"com/example/archerfish/archerfish/index/TokenTableFindPinLaw", "en", "(I)I"⟩ : MethodName)) hown (mvT hZ (hw _ (List.mem_of_getElem? (i := 5) rfl))) (mvT hZ (hw _ (List.mem_of_getElem? (i := 6) rfl))) (mvT hZ (hw _ (List.mem_of_getElem? (i := 3) rfl))) (mvT hZ (hw _ (List.mem_of_getElem? (i := 7) rfl))) (by decide) (backOf (W := 0) (own_rm2 l Z a0 hw [] ((p3.toUInt32 >>> ((18 : Int32) &&& 31).toUInt32).toInt32) H110 n0 z110 ) hZ (hw _ (List.mem_of_getElem? (i := 7) rfl)) (hw _ (List.mem_of_getElem? (i := 3) rfl)) (by decide) (by decide)) (g := (mkF m 209 #[.val (.int p1), .val (.int p2), .val (.int p3), .val (.int p4), .val (.int cm), .val (.ref t), .val (.ref u), .val (.int kk), .val (.int sm), .val (.ref qa), .val (.int ((p3 &&& (7 : Int32)) % (5 : Int32))), .val (.int (((p3 &&& (7 : Int32)) % (5 : Int32)) + ((((p3.toUInt32 >>> ((3 : Int32) &&& 31).toUInt32).toInt32) &&& (7 : Int32)) % ((5 : Int32) - ((p3 &&& (7 : Int32)) % (5 : Int32)))))), .val (.int ((((p3.toUInt32 >>> ((6 : Int32) &&& 31).toUInt32).toInt32) &&& (7 : Int32)) % (5 : Int32))), .val (.int (((((p3.toUInt32 >>> ((6 : Int32) &&& 31).toUInt32).toInt32) &&& (7 : Int32)) % (5 : Int32)) + ((((((p3.toUInt32 >>> ((6 : Int32) &&& 31).toUInt32).toInt32).toUInt32 >>> ((3 : Int32) &&& 31).toUInt32).toInt32) &&& (7 : Int32)) % ((5 : Int32) - ((((p3.toUInt32 >>> ((6 : Int32) &&& 31).toUInt32).toInt32) &&& (7 : Int32)) % (5 : Int32)))))), .val (.int ((((p3.toUInt32 >>> ((12 : Int32) &&& 31).toUInt32).toInt32) &&& (7 : Int32)) % (5 : Int32))), .val (.int (((((p3.toUInt32 >>> ((12 : Int32) &&& 31).toUInt32).toInt32) &&& (7 : Int32)) % (5 : Int32)) + ((((((p3.toUInt32 >>> ((12 : Int32) &&& 31).toUInt32).toInt32).toUInt32 >>> ((3 : Int32) &&& 31).toUInt32).toInt32) &&& (7 : Int32)) % ((5 : Int32) - ((((p3.toUInt32 >>> ((12 : Int32) &&& 31).toUInt32).toInt32) &&& (7 : Int32)) % (5 : Int32)))))), .val (.int ((((p3.toUInt32 >>> ((18 : Int32) &&& 31).toUInt32).toInt32) &&& (7 : Int32)) % (5 : Int32))), .unset, .unset, .unset, .unset, .unset, .unset, .unset, .unset, .unset, .unset, .unset] [(.int ((p3.toUInt32 >>> ((18 : Int32) &&& 31).toUInt32).toInt32))])) rfl (by rw [hml]; rfl) (argsL := [(.int ((p3.toUInt32 >>> ((18 : Int32) &&& 31).toUInt32).toInt32))]) (rest := []) (lenOf own_pd6 rfl) rfl (by show 2 * 0 + _ ≤ _; exact Nat.le_of_eq rfl) (hb hby at_209) (fun _ _ => ⟨rfl, eq117, (Nat.le_trans (Nat.add_le_add_right hcl110 0) (by decide)), (Nat.le_trans (Nat.add_le_add_right hsl110 0) (by decide))⟩)
    dsimp only [Pt.U, Pt.locs, Pt.cells, Pt.slots] at X118 l118 y118 z118 st118 hQ118
    have yc118 : cells110 = k118 := y118.symm
    have zc118 : slots110 = n118 := z118.symm
    have lc118 := l118.symm
    subst lc118 yc118 zc118
    obtain ⟨rfl, Nq118, eq118⟩ := hQ118
    refine OE.of (fun _ k => st118 _ k) ?_
    have N118 := Fr.app N117 Nq118
    show OE _ p e below s _ _ _ T118 (mkF m 212 #[.val (.int p1), .val (.int p2), .val (.int p3), .val (.int p4), .val (.int cm), .val (.ref t), .val (.ref u), .val (.int kk), .val (.int sm), .val (.ref qa), .val (.int ((p3 &&& (7 : Int32)) % (5 : Int32))), .val (.int (((p3 &&& (7 : Int32)) % (5 : Int32)) + ((((p3.toUInt32 >>> ((3 : Int32) &&& 31).toUInt32).toInt32) &&& (7 : Int32)) % ((5 : Int32) - ((p3 &&& (7 : Int32)) % (5 : Int32)))))), .val (.int ((((p3.toUInt32 >>> ((6 : Int32) &&& 31).toUInt32).toInt32) &&& (7 : Int32)) % (5 : Int32))), .val (.int (((((p3.toUInt32 >>> ((6 : Int32) &&& 31).toUInt32).toInt32) &&& (7 : Int32)) % (5 : Int32)) + ((((((p3.toUInt32 >>> ((6 : Int32) &&& 31).toUInt32).toInt32).toUInt32 >>> ((3 : Int32) &&& 31).toUInt32).toInt32) &&& (7 : Int32)) % ((5 : Int32) - ((((p3.toUInt32 >>> ((6 : Int32) &&& 31).toUInt32).toInt32) &&& (7 : Int32)) % (5 : Int32)))))), .val (.int ((((p3.toUInt32 >>> ((12 : Int32) &&& 31).toUInt32).toInt32) &&& (7 : Int32)) % (5 : Int32))), .val (.int (((((p3.toUInt32 >>> ((12 : Int32) &&& 31).toUInt32).toInt32) &&& (7 : Int32)) % (5 : Int32)) + ((((((p3.toUInt32 >>> ((12 : Int32) &&& 31).toUInt32).toInt32).toUInt32 >>> ((3 : Int32) &&& 31).toUInt32).toInt32) &&& (7 : Int32)) % ((5 : Int32) - ((((p3.toUInt32 >>> ((12 : Int32) &&& 31).toUInt32).toInt32) &&& (7 : Int32)) % (5 : Int32)))))), .val (.int ((((p3.toUInt32 >>> ((18 : Int32) &&& 31).toUInt32).toInt32) &&& (7 : Int32)) % (5 : Int32))), .unset, .unset, .unset, .unset, .unset, .unset, .unset, .unset, .unset, .unset, .unset] [(.int (((((p3.toUInt32 >>> ((18 : Int32) &&& 31).toUInt32).toInt32) &&& (7 : Int32)) % (5 : Int32)) + ((((((p3.toUInt32 >>> ((18 : Int32) &&& 31).toUInt32).toInt32).toUInt32 >>> ((3 : Int32) &&& 31).toUInt32).toInt32) &&& (7 : Int32)) % ((5 : Int32) - ((((p3.toUInt32 >>> ((18 : Int32) &&& 31).toUInt32).toInt32) &&& (7 : Int32)) % (5 : Int32))))))])
    refine OE.istore X118 hx hby at_212 (l' := #[.val (.int p1), .val (.int p2), .val (.int p3), .val (.int p4), .val (.int cm), .val (.ref t), .val (.ref u), .val (.int kk), .val (.int sm), .val (.ref qa), .val (.int ((p3 &&& (7 : Int32)) % (5 : Int32))), .val (.int (((p3 &&& (7 : Int32)) % (5 : Int32)) + ((((p3.toUInt32 >>> ((3 : Int32) &&& 31).toUInt32).toInt32) &&& (7 : Int32)) % ((5 : Int32) - ((p3 &&& (7 : Int32)) % (5 : Int32)))))), .val (.int ((((p3.toUInt32 >>> ((6 : Int32) &&& 31).toUInt32).toInt32) &&& (7 : Int32)) % (5 : Int32))), .val (.int (((((p3.toUInt32 >>> ((6 : Int32) &&& 31).toUInt32).toInt32) &&& (7 : Int32)) % (5 : Int32)) + ((((((p3.toUInt32 >>> ((6 : Int32) &&& 31).toUInt32).toInt32).toUInt32 >>> ((3 : Int32) &&& 31).toUInt32).toInt32) &&& (7 : Int32)) % ((5 : Int32) - ((((p3.toUInt32 >>> ((6 : Int32) &&& 31).toUInt32).toInt32) &&& (7 : Int32)) % (5 : Int32)))))), .val (.int ((((p3.toUInt32 >>> ((12 : Int32) &&& 31).toUInt32).toInt32) &&& (7 : Int32)) % (5 : Int32))), .val (.int (((((p3.toUInt32 >>> ((12 : Int32) &&& 31).toUInt32).toInt32) &&& (7 : Int32)) % (5 : Int32)) + ((((((p3.toUInt32 >>> ((12 : Int32) &&& 31).toUInt32).toInt32).toUInt32 >>> ((3 : Int32) &&& 31).toUInt32).toInt32) &&& (7 : Int32)) % ((5 : Int32) - ((((p3.toUInt32 >>> ((12 : Int32) &&& 31).toUInt32).toInt32) &&& (7 : Int32)) % (5 : Int32)))))), .val (.int ((((p3.toUInt32 >>> ((18 : Int32) &&& 31).toUInt32).toInt32) &&& (7 : Int32)) % (5 : Int32))), .val (.int (((((p3.toUInt32 >>> ((18 : Int32) &&& 31).toUInt32).toInt32) &&& (7 : Int32)) % (5 : Int32)) + ((((((p3.toUInt32 >>> ((18 : Int32) &&& 31).toUInt32).toInt32).toUInt32 >>> ((3 : Int32) &&& 31).toUInt32).toInt32) &&& (7 : Int32)) % ((5 : Int32) - ((((p3.toUInt32 >>> ((18 : Int32) &&& 31).toUInt32).toInt32) &&& (7 : Int32)) % (5 : Int32)))))), .unset, .unset, .unset, .unset, .unset, .unset, .unset, .unset, .unset, .unset]) rfl ?_
    exact c214 cm t u kk sm qa tl ql kt kq ((p3 &&& (7 : Int32)) % (5 : Int32)) (((p3 &&& (7 : Int32)) % (5 : Int32)) + ((((p3.toUInt32 >>> ((3 : Int32) &&& 31).toUInt32).toInt32) &&& (7 : Int32)) % ((5 : Int32) - ((p3 &&& (7 : Int32)) % (5 : Int32))))) ((((p3.toUInt32 >>> ((6 : Int32) &&& 31).toUInt32).toInt32) &&& (7 : Int32)) % (5 : Int32)) (((((p3.toUInt32 >>> ((6 : Int32) &&& 31).toUInt32).toInt32) &&& (7 : Int32)) % (5 : Int32)) + ((((((p3.toUInt32 >>> ((6 : Int32) &&& 31).toUInt32).toInt32).toUInt32 >>> ((3 : Int32) &&& 31).toUInt32).toInt32) &&& (7 : Int32)) % ((5 : Int32) - ((((p3.toUInt32 >>> ((6 : Int32) &&& 31).toUInt32).toInt32) &&& (7 : Int32)) % (5 : Int32))))) ((((p3.toUInt32 >>> ((12 : Int32) &&& 31).toUInt32).toInt32) &&& (7 : Int32)) % (5 : Int32)) (((((p3.toUInt32 >>> ((12 : Int32) &&& 31).toUInt32).toInt32) &&& (7 : Int32)) % (5 : Int32)) + ((((((p3.toUInt32 >>> ((12 : Int32) &&& 31).toUInt32).toInt32).toUInt32 >>> ((3 : Int32) &&& 31).toUInt32).toInt32) &&& (7 : Int32)) % ((5 : Int32) - ((((p3.toUInt32 >>> ((12 : Int32) &&& 31).toUInt32).toInt32) &&& (7 : Int32)) % (5 : Int32))))) ((((p3.toUInt32 >>> ((18 : Int32) &&& 31).toUInt32).toInt32) &&& (7 : Int32)) % (5 : Int32)) (((((p3.toUInt32 >>> ((18 : Int32) &&& 31).toUInt32).toInt32) &&& (7 : Int32)) % (5 : Int32)) + ((((((p3.toUInt32 >>> ((18 : Int32) &&& 31).toUInt32).toInt32).toUInt32 >>> ((3 : Int32) &&& 31).toUInt32).toInt32) &&& (7 : Int32)) % ((5 : Int32) - ((((p3.toUInt32 >>> ((18 : Int32) &&& 31).toUInt32).toInt32) &&& (7 : Int32)) % (5 : Int32))))) _ _ _ _ _ X118 eq118 N118 (Nat.le_trans hcl110 (by decide)) (Nat.le_trans hsl110 (by decide)) z110 K110 V_t V_qa htl hql hkk (own_rge p3) (own_rge ((p3.toUInt32 >>> ((6 : Int32) &&& 31).toUInt32).toInt32)) (own_rge ((p3.toUInt32 >>> ((12 : Int32) &&& 31).toUInt32).toInt32)) (own_rge ((p3.toUInt32 >>> ((18 : Int32) &&& 31).toUInt32).toInt32))
  have c16 : ∀ (cm : Int32) (T119 : State) (H119 : Heap) (locs119 : List Loc) (cells119 : Nat) (slots119 : Nat), Stand p l e room_1 s m #[(.int p1), (.int p2), (.int p3), (.int p4)] below meth c T119 locs119 cells119 slots119 → T119.heap = H119 → Fr n0 locs119 → cells119 ≤ 0 → slots119 ≤ 0 → n0 ≤ H119.size → Keep h0 H119 [] → OE FrameEnd p e below s (own_Q0 Z p1 p2 p3 p4 h0 n0) room_1.cells room_1.slots T119 (mkF m 16 #[.val (.int p1), .val (.int p2), .val (.int p3), .val (.int p4), .val (.int cm), .unset, .unset, .unset, .unset, .unset, .unset, .unset, .unset, .unset, .unset, .unset, .unset, .unset, .unset, .unset, .unset, .unset, .unset, .unset, .unset, .unset, .unset, .unset] []) := by
    intro cm T119 H119 locs119 cells119 slots119 X119 e119 N119 hcl119 hsl119 z119 K119
    show OE _ p e below s _ _ _ T119 (mkF m 16 #[.val (.int p1), .val (.int p2), .val (.int p3), .val (.int p4), .val (.int cm), .unset, .unset, .unset, .unset, .unset, .unset, .unset, .unset, .unset, .unset, .unset, .unset, .unset, .unset, .unset, .unset, .unset, .unset, .unset, .unset, .unset, .unset, .unset] [])
    refine OE.iconst X119 hx hby at_16 (4 : Int32) rfl ?_
    obtain ⟨T120, h120, k120, X120, e120, E120, A120, B120, st120⟩ := newPE X119 hx hZ (hw _ (List.mem_of_getElem? (i := 0) rfl)) e119 (g := (mkF m 17 #[.val (.int p1), .val (.int p2), .val (.int p3), .val (.int p4), .val (.int cm), .unset, .unset, .unset, .unset, .unset, .unset, .unset, .unset, .unset, .unset, .unset, .unset, .unset, .unset, .unset, .unset, .unset, .unset, .unset, .unset, .unset, .unset, .unset] [(.int (4 : Int32))])) rfl (hb hby at_17) rfl (by decide) (cap := 4) (by decide) (by decide) (Nat.le_trans (Nat.add_le_add_right hcl119 1) (by decide)) (Nat.le_trans (Nat.add_le_add_right hsl119 4) (by decide)) (ad := "[C") (by decide)
    refine OE.of st120 ?_
    obtain ⟨b120, g120⟩ : ∃ z, z = H119.size := ⟨_, rfl⟩
    rw [← g120] at A120 B120 ⊢
    have g_b120 : n0 ≤ b120 := Nat.le_trans z119 (Nat.le_of_eq g120.symm)
    have sz_b120 : h0.size ≤ b120 := Nat.le_trans K119.1 (Nat.le_of_eq g120.symm)
    have V120 : Arv Z h120 b120 k120 .char (4 : Int32) [(.int (0 : Int32)), (.int (0 : Int32)), (.int (0 : Int32)), (.int (0 : Int32))] (.int (0 : Int32)) := (Arv.new A120 (by decide)).pad (pad_rep [] (.int (0 : Int32)) 4)
    show OE _ p e below s _ _ _ T120 (mkF m 19 #[.val (.int p1), .val (.int p2), .val (.int p3), .val (.int p4), .val (.int cm), .unset, .unset, .unset, .unset, .unset, .unset, .unset, .unset, .unset, .unset, .unset, .unset, .unset, .unset, .unset, .unset, .unset, .unset, .unset, .unset, .unset, .unset, .unset] [(.ref b120)])
    refine OE.astore X120 hx hby at_19 rfl (l' := #[.val (.int p1), .val (.int p2), .val (.int p3), .val (.int p4), .val (.int cm), .val (.ref b120), .unset, .unset, .unset, .unset, .unset, .unset, .unset, .unset, .unset, .unset, .unset, .unset, .unset, .unset, .unset, .unset, .unset, .unset, .unset, .unset, .unset, .unset]) rfl ?_
    refine OE.iconst X120 hx hby at_21 (4 : Int32) rfl ?_
    obtain ⟨T121, h121, k121, X121, e121, E121, A121, B121, st121⟩ := newPE X120 hx hZ (hw _ (List.mem_of_getElem? (i := 0) rfl)) e120 (g := (mkF m 22 #[.val (.int p1), .val (.int p2), .val (.int p3), .val (.int p4), .val (.int cm), .val (.ref b120), .unset, .unset, .unset, .unset, .unset, .unset, .unset, .unset, .unset, .unset, .unset, .unset, .unset, .unset, .unset, .unset, .unset, .unset, .unset, .unset, .unset, .unset] [(.int (4 : Int32))])) rfl (hb hby at_22) rfl (by decide) (cap := 4) (by decide) (by decide) (Nat.le_trans (Nat.add_le_add_right (Nat.add_le_add_right hcl119 1) 1) (by decide)) (Nat.le_trans (Nat.add_le_add_right (Nat.add_le_add_right hsl119 4) 4) (by decide)) (ad := "[C") (by decide)
    refine OE.of st121 ?_
    obtain ⟨b121, g121⟩ : ∃ z, z = h120.size := ⟨_, rfl⟩
    rw [← g121] at A121 B121 ⊢
    have ne_b120_b121 : b120 ≠ b121 := Nat.ne_of_lt (Nat.lt_of_lt_of_le V120.lt (Nat.le_of_eq g121.symm))
    have z122 : n0 ≤ h120.size := (Nat.le_trans z119 E120.1)
    have g_b121 : n0 ≤ b121 := Nat.le_trans z122 (Nat.le_of_eq g121.symm)
    have K123 : Keep h0 h120 [] := (Keep.ext K119 E120)
    have sz_b121 : h0.size ≤ b121 := Nat.le_trans K123.1 (Nat.le_of_eq g121.symm)
    have V121 : Arv Z h121 b121 k121 .char (4 : Int32) [(.int (0 : Int32)), (.int (0 : Int32)), (.int (0 : Int32)), (.int (0 : Int32))] (.int (0 : Int32)) := (Arv.new A121 (by decide)).pad (pad_rep [] (.int (0 : Int32)) 4)
    show OE _ p e below s _ _ _ T121 (mkF m 24 #[.val (.int p1), .val (.int p2), .val (.int p3), .val (.int p4), .val (.int cm), .val (.ref b120), .unset, .unset, .unset, .unset, .unset, .unset, .unset, .unset, .unset, .unset, .unset, .unset, .unset, .unset, .unset, .unset, .unset, .unset, .unset, .unset, .unset, .unset] [(.ref b121)])
    refine OE.astore X121 hx hby at_24 rfl (l' := #[.val (.int p1), .val (.int p2), .val (.int p3), .val (.int p4), .val (.int cm), .val (.ref b120), .val (.ref b121), .unset, .unset, .unset, .unset, .unset, .unset, .unset, .unset, .unset, .unset, .unset, .unset, .unset, .unset, .unset, .unset, .unset, .unset, .unset, .unset, .unset]) rfl ?_
    refine OE.aload X121 hx hby at_26 rfl rfl ?_
    refine OE.iconst X121 hx hby at_28 (0 : Int32) rfl ?_
    refine OE.iloadN X121 hx hby at_29 rfl ?_
    refine OE.iload X121 hx hby at_30 rfl ?_
    refine OE.iand X121 hx hby at_32 ?_
    refine OE.i2c X121 hx hby at_33 ?_
    have f124 : Arv Z h121 b120 k120 .char (4 : Int32) [(.int (0 : Int32)), (.int (0 : Int32)), (.int (0 : Int32)), (.int (0 : Int32))] (.int (0 : Int32)) := (V120.ext E121)
    have Vo125 := f124
    obtain ⟨cl125, Ar125, qz125, Sz125, Nz125, Hz125, Gz125⟩ := Vo125
    have hin125 : ¬ ((0 : Int32) < 0 ∨ cl125.slots.size ≤ ((0 : Int32)).toNatClampNeg) := inb_of Sz125 ⟨by decide, by decide⟩
    obtain ⟨T125, h125, X125, e125, W125, st125⟩ := stC X121 hx hZ e121 Ar125 (j := (0 : Int32)) hin125 (g := (mkF m 34 #[.val (.int p1), .val (.int p2), .val (.int p3), .val (.int p4), .val (.int cm), .val (.ref b120), .val (.ref b121), .unset, .unset, .unset, .unset, .unset, .unset, .unset, .unset, .unset, .unset, .unset, .unset, .unset, .unset, .unset, .unset, .unset, .unset, .unset, .unset, .unset] [(.int ((p1 &&& cm).toUInt32.toUInt16.toUInt32.toInt32)), (.int (0 : Int32)), (.ref b120)])) rfl rfl (hb hby at_34)
    refine OE.of st125 ?_
    have V125 : Arv Z h125 b120 k120 .char (4 : Int32) [(.int (nar .char ((p1 &&& cm).toUInt32.toUInt16.toUInt32.toInt32))), (.int (0 : Int32)), (.int (0 : Int32)), (.int (0 : Int32))] (.int (0 : Int32)) := Arv.set Ar125 qz125 Sz125 Nz125 Hz125 Gz125 (fits_nar_char _) W125 0 rfl (Nat.le_of_ble_eq_true rfl)
    have N125 := Fr.snoc X125 N119 g_b120
    show OE _ p e below s _ _ _ T125 (mkF m 35 #[.val (.int p1), .val (.int p2), .val (.int p3), .val (.int p4), .val (.int cm), .val (.ref b120), .val (.ref b121), .unset, .unset, .unset, .unset, .unset, .unset, .unset, .unset, .unset, .unset, .unset, .unset, .unset, .unset, .unset, .unset, .unset, .unset, .unset, .unset, .unset] [])
    refine OE.aload X125 hx hby at_35 rfl rfl ?_
    refine OE.iconst X125 hx hby at_37 (1 : Int32) rfl ?_
    refine OE.iloadN X125 hx hby at_38 rfl ?_
    refine OE.bipush X125 hx hby at_39 (8 : Int32) rfl ?_
    refine OE.iushr X125 hx hby at_41 ?_
    refine OE.iload X125 hx hby at_42 rfl ?_
    refine OE.iand X125 hx hby at_44 ?_
    refine OE.i2c X125 hx hby at_45 ?_
    have Vo126 := V125
    obtain ⟨cl126, Ar126, qz126, Sz126, Nz126, Hz126, Gz126⟩ := Vo126
    have hin126 : ¬ ((1 : Int32) < 0 ∨ cl126.slots.size ≤ ((1 : Int32)).toNatClampNeg) := inb_of Sz126 ⟨by decide, by decide⟩
    obtain ⟨T126, h126, X126, e126, W126, st126⟩ := stC X125 hx hZ e125 Ar126 (j := (1 : Int32)) hin126 (g := (mkF m 46 #[.val (.int p1), .val (.int p2), .val (.int p3), .val (.int p4), .val (.int cm), .val (.ref b120), .val (.ref b121), .unset, .unset, .unset, .unset, .unset, .unset, .unset, .unset, .unset, .unset, .unset, .unset, .unset, .unset, .unset, .unset, .unset, .unset, .unset, .unset, .unset] [(.int ((((p1.toUInt32 >>> ((8 : Int32) &&& 31).toUInt32).toInt32) &&& cm).toUInt32.toUInt16.toUInt32.toInt32)), (.int (1 : Int32)), (.ref b120)])) rfl rfl (hb hby at_46)
    refine OE.of st126 ?_
    have V126 : Arv Z h126 b120 k120 .char (4 : Int32) [(.int (nar .char ((p1 &&& cm).toUInt32.toUInt16.toUInt32.toInt32))), (.int (nar .char ((((p1.toUInt32 >>> ((8 : Int32) &&& 31).toUInt32).toInt32) &&& cm).toUInt32.toUInt16.toUInt32.toInt32))), (.int (0 : Int32)), (.int (0 : Int32))] (.int (0 : Int32)) := Arv.set Ar126 qz126 Sz126 Nz126 Hz126 Gz126 (fits_nar_char _) W126 1 rfl (Nat.le_of_ble_eq_true rfl)
    have N126 := Fr.snoc X126 N125 g_b120
    show OE _ p e below s _ _ _ T126 (mkF m 47 #[.val (.int p1), .val (.int p2), .val (.int p3), .val (.int p4), .val (.int cm), .val (.ref b120), .val (.ref b121), .unset, .unset, .unset, .unset, .unset, .unset, .unset, .unset, .unset, .unset, .unset, .unset, .unset, .unset, .unset, .unset, .unset, .unset, .unset, .unset, .unset] [])
    refine OE.aload X126 hx hby at_47 rfl rfl ?_
    refine OE.iconst X126 hx hby at_49 (2 : Int32) rfl ?_
    refine OE.iloadN X126 hx hby at_50 rfl ?_
    refine OE.bipush X126 hx hby at_51 (16 : Int32) rfl ?_
    refine OE.iushr X126 hx hby at_53 ?_
    refine OE.iload X126 hx hby at_54 rfl ?_
    refine OE.iand X126 hx hby at_56 ?_
    refine OE.i2c X126 hx hby at_57 ?_
    have Vo127 := V126
    obtain ⟨cl127, Ar127, qz127, Sz127, Nz127, Hz127, Gz127⟩ := Vo127
    have hin127 : ¬ ((2 : Int32) < 0 ∨ cl127.slots.size ≤ ((2 : Int32)).toNatClampNeg) := inb_of Sz127 ⟨by decide, by decide⟩
    obtain ⟨T127, h127, X127, e127, W127, st127⟩ := stC X126 hx hZ e126 Ar127 (j := (2 : Int32)) hin127 (g := (mkF m 58 #[.val (.int p1), .val (.int p2), .val (.int p3), .val (.int p4), .val (.int cm), .val (.ref b120), .val (.ref b121), .unset, .unset, .unset, .unset, .unset, .unset, .unset, .unset, .unset, .unset, .unset, .unset, .unset, .unset, .unset, .unset, .unset, .unset, .unset, .unset, .unset] [(.int ((((p1.toUInt32 >>> ((16 : Int32) &&& 31).toUInt32).toInt32) &&& cm).toUInt32.toUInt16.toUInt32.toInt32)), (.int (2 : Int32)), (.ref b120)])) rfl rfl (hb hby at_58)
    refine OE.of st127 ?_
    have V127 : Arv Z h127 b120 k120 .char (4 : Int32) [(.int (nar .char ((p1 &&& cm).toUInt32.toUInt16.toUInt32.toInt32))), (.int (nar .char ((((p1.toUInt32 >>> ((8 : Int32) &&& 31).toUInt32).toInt32) &&& cm).toUInt32.toUInt16.toUInt32.toInt32))), (.int (nar .char ((((p1.toUInt32 >>> ((16 : Int32) &&& 31).toUInt32).toInt32) &&& cm).toUInt32.toUInt16.toUInt32.toInt32))), (.int (0 : Int32))] (.int (0 : Int32)) := Arv.set Ar127 qz127 Sz127 Nz127 Hz127 Gz127 (fits_nar_char _) W127 2 rfl (Nat.le_of_ble_eq_true rfl)
    have N127 := Fr.snoc X127 N126 g_b120
    show OE _ p e below s _ _ _ T127 (mkF m 59 #[.val (.int p1), .val (.int p2), .val (.int p3), .val (.int p4), .val (.int cm), .val (.ref b120), .val (.ref b121), .unset, .unset, .unset, .unset, .unset, .unset, .unset, .unset, .unset, .unset, .unset, .unset, .unset, .unset, .unset, .unset, .unset, .unset, .unset, .unset, .unset] [])
    refine OE.aload X127 hx hby at_59 rfl rfl ?_
    refine OE.iconst X127 hx hby at_61 (3 : Int32) rfl ?_
    refine OE.iloadN X127 hx hby at_62 rfl ?_
    refine OE.bipush X127 hx hby at_63 (24 : Int32) rfl ?_
    refine OE.iushr X127 hx hby at_65 ?_
    refine OE.iload X127 hx hby at_66 rfl ?_
    refine OE.iand X127 hx hby at_68 ?_
    refine OE.i2c X127 hx hby at_69 ?_
    have Vo128 := V127
    obtain ⟨cl128, Ar128, qz128, Sz128, Nz128, Hz128, Gz128⟩ := Vo128
    have hin128 : ¬ ((3 : Int32) < 0 ∨ cl128.slots.size ≤ ((3 : Int32)).toNatClampNeg) := inb_of Sz128 ⟨by decide, by decide⟩
    obtain ⟨T128, h128, X128, e128, W128, st128⟩ := stC X127 hx hZ e127 Ar128 (j := (3 : Int32)) hin128 (g := (mkF m 70 #[.val (.int p1), .val (.int p2), .val (.int p3), .val (.int p4), .val (.int cm), .val (.ref b120), .val (.ref b121), .unset, .unset, .unset, .unset, .unset, .unset, .unset, .unset, .unset, .unset, .unset, .unset, .unset, .unset, .unset, .unset, .unset, .unset, .unset, .unset, .unset] [(.int ((((p1.toUInt32 >>> ((24 : Int32) &&& 31).toUInt32).toInt32) &&& cm).toUInt32.toUInt16.toUInt32.toInt32)), (.int (3 : Int32)), (.ref b120)])) rfl rfl (hb hby at_70)
    refine OE.of st128 ?_
    have V128 : Arv Z h128 b120 k120 .char (4 : Int32) [(.int (nar .char ((p1 &&& cm).toUInt32.toUInt16.toUInt32.toInt32))), (.int (nar .char ((((p1.toUInt32 >>> ((8 : Int32) &&& 31).toUInt32).toInt32) &&& cm).toUInt32.toUInt16.toUInt32.toInt32))), (.int (nar .char ((((p1.toUInt32 >>> ((16 : Int32) &&& 31).toUInt32).toInt32) &&& cm).toUInt32.toUInt16.toUInt32.toInt32))), (.int (nar .char ((((p1.toUInt32 >>> ((24 : Int32) &&& 31).toUInt32).toInt32) &&& cm).toUInt32.toUInt16.toUInt32.toInt32)))] (.int (0 : Int32)) := Arv.set Ar128 qz128 Sz128 Nz128 Hz128 Gz128 (fits_nar_char _) W128 3 rfl (Nat.le_of_ble_eq_true rfl)
    have N128 := Fr.snoc X128 N127 g_b120
    show OE _ p e below s _ _ _ T128 (mkF m 71 #[.val (.int p1), .val (.int p2), .val (.int p3), .val (.int p4), .val (.int cm), .val (.ref b120), .val (.ref b121), .unset, .unset, .unset, .unset, .unset, .unset, .unset, .unset, .unset, .unset, .unset, .unset, .unset, .unset, .unset, .unset, .unset, .unset, .unset, .unset, .unset] [])
    refine OE.aload X128 hx hby at_71 rfl rfl ?_
    refine OE.iconst X128 hx hby at_73 (0 : Int32) rfl ?_
    refine OE.iloadN X128 hx hby at_74 rfl ?_
    refine OE.iload X128 hx hby at_75 rfl ?_
    refine OE.iand X128 hx hby at_77 ?_
    refine OE.i2c X128 hx hby at_78 ?_
    have f129 : Arv Z h128 b121 k121 .char (4 : Int32) [(.int (0 : Int32)), (.int (0 : Int32)), (.int (0 : Int32)), (.int (0 : Int32))] (.int (0 : Int32)) := ((((V121.other W125 (Ne.symm ne_b120_b121)).other W126 (Ne.symm ne_b120_b121)).other W127 (Ne.symm ne_b120_b121)).other W128 (Ne.symm ne_b120_b121))
    have Vo130 := f129
    obtain ⟨cl130, Ar130, qz130, Sz130, Nz130, Hz130, Gz130⟩ := Vo130
    have hin130 : ¬ ((0 : Int32) < 0 ∨ cl130.slots.size ≤ ((0 : Int32)).toNatClampNeg) := inb_of Sz130 ⟨by decide, by decide⟩
    obtain ⟨T130, h130, X130, e130, W130, st130⟩ := stC X128 hx hZ e128 Ar130 (j := (0 : Int32)) hin130 (g := (mkF m 79 #[.val (.int p1), .val (.int p2), .val (.int p3), .val (.int p4), .val (.int cm), .val (.ref b120), .val (.ref b121), .unset, .unset, .unset, .unset, .unset, .unset, .unset, .unset, .unset, .unset, .unset, .unset, .unset, .unset, .unset, .unset, .unset, .unset, .unset, .unset, .unset] [(.int ((p2 &&& cm).toUInt32.toUInt16.toUInt32.toInt32)), (.int (0 : Int32)), (.ref b121)])) rfl rfl (hb hby at_79)
    refine OE.of st130 ?_
    have V130 : Arv Z h130 b121 k121 .char (4 : Int32) [(.int (nar .char ((p2 &&& cm).toUInt32.toUInt16.toUInt32.toInt32))), (.int (0 : Int32)), (.int (0 : Int32)), (.int (0 : Int32))] (.int (0 : Int32)) := Arv.set Ar130 qz130 Sz130 Nz130 Hz130 Gz130 (fits_nar_char _) W130 0 rfl (Nat.le_of_ble_eq_true rfl)
    have N130 := Fr.snoc X130 N128 g_b121
    show OE _ p e below s _ _ _ T130 (mkF m 80 #[.val (.int p1), .val (.int p2), .val (.int p3), .val (.int p4), .val (.int cm), .val (.ref b120), .val (.ref b121), .unset, .unset, .unset, .unset, .unset, .unset, .unset, .unset, .unset, .unset, .unset, .unset, .unset, .unset, .unset, .unset, .unset, .unset, .unset, .unset, .unset] [])
    refine OE.aload X130 hx hby at_80 rfl rfl ?_
    refine OE.iconst X130 hx hby at_82 (1 : Int32) rfl ?_
    refine OE.iloadN X130 hx hby at_83 rfl ?_
    refine OE.bipush X130 hx hby at_84 (8 : Int32) rfl ?_
    refine OE.iushr X130 hx hby at_86 ?_
    refine OE.iload X130 hx hby at_87 rfl ?_
    refine OE.iand X130 hx hby at_89 ?_
    refine OE.i2c X130 hx hby at_90 ?_
    have Vo131 := V130
    obtain ⟨cl131, Ar131, qz131, Sz131, Nz131, Hz131, Gz131⟩ := Vo131
    have hin131 : ¬ ((1 : Int32) < 0 ∨ cl131.slots.size ≤ ((1 : Int32)).toNatClampNeg) := inb_of Sz131 ⟨by decide, by decide⟩
    obtain ⟨T131, h131, X131, e131, W131, st131⟩ := stC X130 hx hZ e130 Ar131 (j := (1 : Int32)) hin131 (g := (mkF m 91 #[.val (.int p1), .val (.int p2), .val (.int p3), .val (.int p4), .val (.int cm), .val (.ref b120), .val (.ref b121), .unset, .unset, .unset, .unset, .unset, .unset, .unset, .unset, .unset, .unset, .unset, .unset, .unset, .unset, .unset, .unset, .unset, .unset, .unset, .unset, .unset] [(.int ((((p2.toUInt32 >>> ((8 : Int32) &&& 31).toUInt32).toInt32) &&& cm).toUInt32.toUInt16.toUInt32.toInt32)), (.int (1 : Int32)), (.ref b121)])) rfl rfl (hb hby at_91)
    refine OE.of st131 ?_
    have V131 : Arv Z h131 b121 k121 .char (4 : Int32) [(.int (nar .char ((p2 &&& cm).toUInt32.toUInt16.toUInt32.toInt32))), (.int (nar .char ((((p2.toUInt32 >>> ((8 : Int32) &&& 31).toUInt32).toInt32) &&& cm).toUInt32.toUInt16.toUInt32.toInt32))), (.int (0 : Int32)), (.int (0 : Int32))] (.int (0 : Int32)) := Arv.set Ar131 qz131 Sz131 Nz131 Hz131 Gz131 (fits_nar_char _) W131 1 rfl (Nat.le_of_ble_eq_true rfl)
    have N131 := Fr.snoc X131 N130 g_b121
    show OE _ p e below s _ _ _ T131 (mkF m 92 #[.val (.int p1), .val (.int p2), .val (.int p3), .val (.int p4), .val (.int cm), .val (.ref b120), .val (.ref b121), .unset, .unset, .unset, .unset, .unset, .unset, .unset, .unset, .unset, .unset, .unset, .unset, .unset, .unset, .unset, .unset, .unset, .unset, .unset, .unset, .unset] [])
    refine OE.aload X131 hx hby at_92 rfl rfl ?_
    refine OE.iconst X131 hx hby at_94 (2 : Int32) rfl ?_
    refine OE.iloadN X131 hx hby at_95 rfl ?_
    refine OE.bipush X131 hx hby at_96 (16 : Int32) rfl ?_
    refine OE.iushr X131 hx hby at_98 ?_
    refine OE.iload X131 hx hby at_99 rfl ?_
    refine OE.iand X131 hx hby at_101 ?_
    refine OE.i2c X131 hx hby at_102 ?_
    have Vo132 := V131
    obtain ⟨cl132, Ar132, qz132, Sz132, Nz132, Hz132, Gz132⟩ := Vo132
    have hin132 : ¬ ((2 : Int32) < 0 ∨ cl132.slots.size ≤ ((2 : Int32)).toNatClampNeg) := inb_of Sz132 ⟨by decide, by decide⟩
    obtain ⟨T132, h132, X132, e132, W132, st132⟩ := stC X131 hx hZ e131 Ar132 (j := (2 : Int32)) hin132 (g := (mkF m 103 #[.val (.int p1), .val (.int p2), .val (.int p3), .val (.int p4), .val (.int cm), .val (.ref b120), .val (.ref b121), .unset, .unset, .unset, .unset, .unset, .unset, .unset, .unset, .unset, .unset, .unset, .unset, .unset, .unset, .unset, .unset, .unset, .unset, .unset, .unset, .unset] [(.int ((((p2.toUInt32 >>> ((16 : Int32) &&& 31).toUInt32).toInt32) &&& cm).toUInt32.toUInt16.toUInt32.toInt32)), (.int (2 : Int32)), (.ref b121)])) rfl rfl (hb hby at_103)
    refine OE.of st132 ?_
    have V132 : Arv Z h132 b121 k121 .char (4 : Int32) [(.int (nar .char ((p2 &&& cm).toUInt32.toUInt16.toUInt32.toInt32))), (.int (nar .char ((((p2.toUInt32 >>> ((8 : Int32) &&& 31).toUInt32).toInt32) &&& cm).toUInt32.toUInt16.toUInt32.toInt32))), (.int (nar .char ((((p2.toUInt32 >>> ((16 : Int32) &&& 31).toUInt32).toInt32) &&& cm).toUInt32.toUInt16.toUInt32.toInt32))), (.int (0 : Int32))] (.int (0 : Int32)) := Arv.set Ar132 qz132 Sz132 Nz132 Hz132 Gz132 (fits_nar_char _) W132 2 rfl (Nat.le_of_ble_eq_true rfl)
    have N132 := Fr.snoc X132 N131 g_b121
    show OE _ p e below s _ _ _ T132 (mkF m 104 #[.val (.int p1), .val (.int p2), .val (.int p3), .val (.int p4), .val (.int cm), .val (.ref b120), .val (.ref b121), .unset, .unset, .unset, .unset, .unset, .unset, .unset, .unset, .unset, .unset, .unset, .unset, .unset, .unset, .unset, .unset, .unset, .unset, .unset, .unset, .unset] [])
    refine OE.aload X132 hx hby at_104 rfl rfl ?_
    refine OE.iconst X132 hx hby at_106 (3 : Int32) rfl ?_
    refine OE.iloadN X132 hx hby at_107 rfl ?_
    refine OE.bipush X132 hx hby at_108 (24 : Int32) rfl ?_
    refine OE.iushr X132 hx hby at_110 ?_
    refine OE.iload X132 hx hby at_111 rfl ?_
    refine OE.iand X132 hx hby at_113 ?_
    refine OE.i2c X132 hx hby at_114 ?_
    have Vo133 := V132
    obtain ⟨cl133, Ar133, qz133, Sz133, Nz133, Hz133, Gz133⟩ := Vo133
    have hin133 : ¬ ((3 : Int32) < 0 ∨ cl133.slots.size ≤ ((3 : Int32)).toNatClampNeg) := inb_of Sz133 ⟨by decide, by decide⟩
    obtain ⟨T133, h133, X133, e133, W133, st133⟩ := stC X132 hx hZ e132 Ar133 (j := (3 : Int32)) hin133 (g := (mkF m 115 #[.val (.int p1), .val (.int p2), .val (.int p3), .val (.int p4), .val (.int cm), .val (.ref b120), .val (.ref b121), .unset, .unset, .unset, .unset, .unset, .unset, .unset, .unset, .unset, .unset, .unset, .unset, .unset, .unset, .unset, .unset, .unset, .unset, .unset, .unset, .unset] [(.int ((((p2.toUInt32 >>> ((24 : Int32) &&& 31).toUInt32).toInt32) &&& cm).toUInt32.toUInt16.toUInt32.toInt32)), (.int (3 : Int32)), (.ref b121)])) rfl rfl (hb hby at_115)
    refine OE.of st133 ?_
    have V133 : Arv Z h133 b121 k121 .char (4 : Int32) [(.int (nar .char ((p2 &&& cm).toUInt32.toUInt16.toUInt32.toInt32))), (.int (nar .char ((((p2.toUInt32 >>> ((8 : Int32) &&& 31).toUInt32).toInt32) &&& cm).toUInt32.toUInt16.toUInt32.toInt32))), (.int (nar .char ((((p2.toUInt32 >>> ((16 : Int32) &&& 31).toUInt32).toInt32) &&& cm).toUInt32.toUInt16.toUInt32.toInt32))), (.int (nar .char ((((p2.toUInt32 >>> ((24 : Int32) &&& 31).toUInt32).toInt32) &&& cm).toUInt32.toUInt16.toUInt32.toInt32)))] (.int (0 : Int32)) := Arv.set Ar133 qz133 Sz133 Nz133 Hz133 Gz133 (fits_nar_char _) W133 3 rfl (Nat.le_of_ble_eq_true rfl)
    have N133 := Fr.snoc X133 N132 g_b121
    show OE _ p e below s _ _ _ T133 (mkF m 116 #[.val (.int p1), .val (.int p2), .val (.int p3), .val (.int p4), .val (.int cm), .val (.ref b120), .val (.ref b121), .unset, .unset, .unset, .unset, .unset, .unset, .unset, .unset, .unset, .unset, .unset, .unset, .unset, .unset, .unset, .unset, .unset, .unset, .unset, .unset, .unset] [])
    refine OE.iloadN X133 hx hby at_116 rfl ?_
    refine OE.iconst X133 hx hby at_117 (3 : Int32) rfl ?_
    refine OE.iand X133 hx hby at_118 ?_
    refine OE.istore X133 hx hby at_119 (l' := #[.val (.int p1), .val (.int p2), .val (.int p3), .val (.int p4), .val (.int cm), .val (.ref b120), .val (.ref b121), .val (.int (p4 &&& (3 : Int32))), .unset, .unset, .unset, .unset, .unset, .unset, .unset, .unset, .unset, .unset, .unset, .unset, .unset, .unset, .unset, .unset, .unset, .unset, .unset, .unset]) rfl ?_
    refine OE.iloadN X133 hx hby at_121 rfl ?_
    refine OE.iconst X133 hx hby at_122 (4 : Int32) rfl ?_
    refine OE.iand X133 hx hby at_123 ?_
    by_cases hc124 : (p4 &&& (4 : Int32)) = (0 : Int32)
    · skip
      refine OE.ifYes X133 hx hby (pc' := 131) at_124 (teq hc124).1 (h := ?_)
      refine OE.iconst X133 hx hby at_131 (0 : Int32) rfl ?_
      refine OE.istore X133 hx hby at_132 (l' := #[.val (.int p1), .val (.int p2), .val (.int p3), .val (.int p4), .val (.int cm), .val (.ref b120), .val (.ref b121), .val (.int (p4 &&& (3 : Int32))), .val (.int (0 : Int32)), .unset, .unset, .unset, .unset, .unset, .unset, .unset, .unset, .unset, .unset, .unset, .unset, .unset, .unset, .unset, .unset, .unset, .unset, .unset]) rfl ?_
      refine OE.iload X133 hx hby at_134 rfl ?_
      refine OE.ifYes X133 hx hby (pc' := 144) at_136 (teq (by decide : (0 : Int32) = (0 : Int32))).1 (h := ?_)
      refine OE.aload X133 hx hby at_144 rfl rfl ?_
      refine OE.astore X133 hx hby at_146 rfl (l' := #[.val (.int p1), .val (.int p2), .val (.int p3), .val (.int p4), .val (.int cm), .val (.ref b120), .val (.ref b121), .val (.int (p4 &&& (3 : Int32))), .val (.int (0 : Int32)), .val (.ref b121), .unset, .unset, .unset, .unset, .unset, .unset, .unset, .unset, .unset, .unset, .unset, .unset, .unset, .unset, .unset, .unset, .unset, .unset]) rfl ?_
      have f134 : Arv Z h133 b120 k120 .char (4 : Int32) [(.int (nar .char ((p1 &&& cm).toUInt32.toUInt16.toUInt32.toInt32))), (.int (nar .char ((((p1.toUInt32 >>> ((8 : Int32) &&& 31).toUInt32).toInt32) &&& cm).toUInt32.toUInt16.toUInt32.toInt32))), (.int (nar .char ((((p1.toUInt32 >>> ((16 : Int32) &&& 31).toUInt32).toInt32) &&& cm).toUInt32.toUInt16.toUInt32.toInt32))), (.int (nar .char ((((p1.toUInt32 >>> ((24 : Int32) &&& 31).toUInt32).toInt32) &&& cm).toUInt32.toUInt16.toUInt32.toInt32)))] (.int (0 : Int32)) := ((((V128.other W130 ne_b120_b121).other W131 ne_b120_b121).other W132 ne_b120_b121).other W133 ne_b120_b121)
      have R135 : Arv Z h133 b120 k120 .char (4 : Int32) (List.map Value.int ([(nar .char ((p1 &&& cm).toUInt32.toUInt16.toUInt32.toInt32)), (nar .char ((((p1.toUInt32 >>> ((8 : Int32) &&& 31).toUInt32).toInt32) &&& cm).toUInt32.toUInt16.toUInt32.toInt32)), (nar .char ((((p1.toUInt32 >>> ((16 : Int32) &&& 31).toUInt32).toInt32) &&& cm).toUInt32.toUInt16.toUInt32.toInt32)), (nar .char ((((p1.toUInt32 >>> ((24 : Int32) &&& 31).toUInt32).toInt32) &&& cm).toUInt32.toUInt16.toUInt32.toInt32))] : List Int32)) (.int (0 : Int32)) := f134
      have R136 : Arv Z h133 b121 k121 .char (4 : Int32) (List.map Value.int ([(nar .char ((p2 &&& cm).toUInt32.toUInt16.toUInt32.toInt32)), (nar .char ((((p2.toUInt32 >>> ((8 : Int32) &&& 31).toUInt32).toInt32) &&& cm).toUInt32.toUInt16.toUInt32.toInt32)), (nar .char ((((p2.toUInt32 >>> ((16 : Int32) &&& 31).toUInt32).toInt32) &&& cm).toUInt32.toUInt16.toUInt32.toInt32)), (nar .char ((((p2.toUInt32 >>> ((24 : Int32) &&& 31).toUInt32).toInt32) &&& cm).toUInt32.toUInt16.toUInt32.toInt32))] : List Int32)) (.int (0 : Int32)) := V133
      have z137 : n0 ≤ h133.size := (Nat.le_trans (Nat.le_trans (Nat.le_trans (Nat.le_trans (Nat.le_trans (Nat.le_trans (Nat.le_trans (Nat.le_trans (Nat.le_trans z122 E121.1) (Nat.le_of_eq W125.size.symm)) (Nat.le_of_eq W126.size.symm)) (Nat.le_of_eq W127.size.symm)) (Nat.le_of_eq W128.size.symm)) (Nat.le_of_eq W130.size.symm)) (Nat.le_of_eq W131.size.symm)) (Nat.le_of_eq W132.size.symm)) (Nat.le_of_eq W133.size.symm))
      have K138 : Keep h0 h133 [] := (Keep.wr (Keep.wr (Keep.wr (Keep.wr (Keep.wr (Keep.wr (Keep.wr (Keep.wr (Keep.ext K123 E121) W125 (Or.inr sz_b120)) W126 (Or.inr sz_b120)) W127 (Or.inr sz_b120)) W128 (Or.inr sz_b120)) W130 (Or.inr sz_b121)) W131 (Or.inr sz_b121)) W132 (Or.inr sz_b121)) W133 (Or.inr sz_b121))
      exact c148 cm b120 b121 (p4 &&& (3 : Int32)) (0 : Int32) b121 ([(nar .char ((p1 &&& cm).toUInt32.toUInt16.toUInt32.toInt32)), (nar .char ((((p1.toUInt32 >>> ((8 : Int32) &&& 31).toUInt32).toInt32) &&& cm).toUInt32.toUInt16.toUInt32.toInt32)), (nar .char ((((p1.toUInt32 >>> ((16 : Int32) &&& 31).toUInt32).toInt32) &&& cm).toUInt32.toUInt16.toUInt32.toInt32)), (nar .char ((((p1.toUInt32 >>> ((24 : Int32) &&& 31).toUInt32).toInt32) &&& cm).toUInt32.toUInt16.toUInt32.toInt32))] : List Int32) ([(nar .char ((p2 &&& cm).toUInt32.toUInt16.toUInt32.toInt32)), (nar .char ((((p2.toUInt32 >>> ((8 : Int32) &&& 31).toUInt32).toInt32) &&& cm).toUInt32.toUInt16.toUInt32.toInt32)), (nar .char ((((p2.toUInt32 >>> ((16 : Int32) &&& 31).toUInt32).toInt32) &&& cm).toUInt32.toUInt16.toUInt32.toInt32)), (nar .char ((((p2.toUInt32 >>> ((24 : Int32) &&& 31).toUInt32).toInt32) &&& cm).toUInt32.toUInt16.toUInt32.toInt32))] : List Int32) k120 k121 _ _ _ _ _ X133 e133 N133 (Nat.le_trans (Nat.add_le_add_right (Nat.add_le_add_right hcl119 1) 1) (by decide)) (Nat.le_trans (Nat.add_le_add_right (Nat.add_le_add_right hsl119 4) 4) (by decide)) z137 K138 R135 R136 rfl rfl (own_three p4)
    · skip
      refine OE.ifNo X133 hx hby at_124 (feq hc124).1 ?_
      refine OE.iconst X133 hx hby at_127 (1 : Int32) rfl ?_
      refine OE.goto X133 hx hby (pc' := 132) at_128 (h := ?_)
      refine OE.istore X133 hx hby at_132 (l' := #[.val (.int p1), .val (.int p2), .val (.int p3), .val (.int p4), .val (.int cm), .val (.ref b120), .val (.ref b121), .val (.int (p4 &&& (3 : Int32))), .val (.int (1 : Int32)), .unset, .unset, .unset, .unset, .unset, .unset, .unset, .unset, .unset, .unset, .unset, .unset, .unset, .unset, .unset, .unset, .unset, .unset, .unset]) rfl ?_
      refine OE.iload X133 hx hby at_134 rfl ?_
      refine OE.ifNo X133 hx hby at_136 (feq (by decide : ¬ ((1 : Int32) = (0 : Int32)))).1 ?_
      refine OE.aload X133 hx hby at_139 rfl rfl ?_
      refine OE.goto X133 hx hby (pc' := 146) at_141 (h := ?_)
      refine OE.astore X133 hx hby at_146 rfl (l' := #[.val (.int p1), .val (.int p2), .val (.int p3), .val (.int p4), .val (.int cm), .val (.ref b120), .val (.ref b121), .val (.int (p4 &&& (3 : Int32))), .val (.int (1 : Int32)), .val (.ref b120), .unset, .unset, .unset, .unset, .unset, .unset, .unset, .unset, .unset, .unset, .unset, .unset, .unset, .unset, .unset, .unset, .unset, .unset]) rfl ?_
      have f139 : Arv Z h133 b120 k120 .char (4 : Int32) [(.int (nar .char ((p1 &&& cm).toUInt32.toUInt16.toUInt32.toInt32))), (.int (nar .char ((((p1.toUInt32 >>> ((8 : Int32) &&& 31).toUInt32).toInt32) &&& cm).toUInt32.toUInt16.toUInt32.toInt32))), (.int (nar .char ((((p1.toUInt32 >>> ((16 : Int32) &&& 31).toUInt32).toInt32) &&& cm).toUInt32.toUInt16.toUInt32.toInt32))), (.int (nar .char ((((p1.toUInt32 >>> ((24 : Int32) &&& 31).toUInt32).toInt32) &&& cm).toUInt32.toUInt16.toUInt32.toInt32)))] (.int (0 : Int32)) := ((((V128.other W130 ne_b120_b121).other W131 ne_b120_b121).other W132 ne_b120_b121).other W133 ne_b120_b121)
      have R140 : Arv Z h133 b120 k120 .char (4 : Int32) (List.map Value.int ([(nar .char ((p1 &&& cm).toUInt32.toUInt16.toUInt32.toInt32)), (nar .char ((((p1.toUInt32 >>> ((8 : Int32) &&& 31).toUInt32).toInt32) &&& cm).toUInt32.toUInt16.toUInt32.toInt32)), (nar .char ((((p1.toUInt32 >>> ((16 : Int32) &&& 31).toUInt32).toInt32) &&& cm).toUInt32.toUInt16.toUInt32.toInt32)), (nar .char ((((p1.toUInt32 >>> ((24 : Int32) &&& 31).toUInt32).toInt32) &&& cm).toUInt32.toUInt16.toUInt32.toInt32))] : List Int32)) (.int (0 : Int32)) := f139
      have R141 : Arv Z h133 b121 k121 .char (4 : Int32) (List.map Value.int ([(nar .char ((p2 &&& cm).toUInt32.toUInt16.toUInt32.toInt32)), (nar .char ((((p2.toUInt32 >>> ((8 : Int32) &&& 31).toUInt32).toInt32) &&& cm).toUInt32.toUInt16.toUInt32.toInt32)), (nar .char ((((p2.toUInt32 >>> ((16 : Int32) &&& 31).toUInt32).toInt32) &&& cm).toUInt32.toUInt16.toUInt32.toInt32)), (nar .char ((((p2.toUInt32 >>> ((24 : Int32) &&& 31).toUInt32).toInt32) &&& cm).toUInt32.toUInt16.toUInt32.toInt32))] : List Int32)) (.int (0 : Int32)) := V133
      have z142 : n0 ≤ h133.size := (Nat.le_trans (Nat.le_trans (Nat.le_trans (Nat.le_trans (Nat.le_trans (Nat.le_trans (Nat.le_trans (Nat.le_trans (Nat.le_trans z122 E121.1) (Nat.le_of_eq W125.size.symm)) (Nat.le_of_eq W126.size.symm)) (Nat.le_of_eq W127.size.symm)) (Nat.le_of_eq W128.size.symm)) (Nat.le_of_eq W130.size.symm)) (Nat.le_of_eq W131.size.symm)) (Nat.le_of_eq W132.size.symm)) (Nat.le_of_eq W133.size.symm))
      have K143 : Keep h0 h133 [] := (Keep.wr (Keep.wr (Keep.wr (Keep.wr (Keep.wr (Keep.wr (Keep.wr (Keep.wr (Keep.ext K123 E121) W125 (Or.inr sz_b120)) W126 (Or.inr sz_b120)) W127 (Or.inr sz_b120)) W128 (Or.inr sz_b120)) W130 (Or.inr sz_b121)) W131 (Or.inr sz_b121)) W132 (Or.inr sz_b121)) W133 (Or.inr sz_b121))
      exact c148 cm b120 b121 (p4 &&& (3 : Int32)) (1 : Int32) b120 ([(nar .char ((p1 &&& cm).toUInt32.toUInt16.toUInt32.toInt32)), (nar .char ((((p1.toUInt32 >>> ((8 : Int32) &&& 31).toUInt32).toInt32) &&& cm).toUInt32.toUInt16.toUInt32.toInt32)), (nar .char ((((p1.toUInt32 >>> ((16 : Int32) &&& 31).toUInt32).toInt32) &&& cm).toUInt32.toUInt16.toUInt32.toInt32)), (nar .char ((((p1.toUInt32 >>> ((24 : Int32) &&& 31).toUInt32).toInt32) &&& cm).toUInt32.toUInt16.toUInt32.toInt32))] : List Int32) ([(nar .char ((p1 &&& cm).toUInt32.toUInt16.toUInt32.toInt32)), (nar .char ((((p1.toUInt32 >>> ((8 : Int32) &&& 31).toUInt32).toInt32) &&& cm).toUInt32.toUInt16.toUInt32.toInt32)), (nar .char ((((p1.toUInt32 >>> ((16 : Int32) &&& 31).toUInt32).toInt32) &&& cm).toUInt32.toUInt16.toUInt32.toInt32)), (nar .char ((((p1.toUInt32 >>> ((24 : Int32) &&& 31).toUInt32).toInt32) &&& cm).toUInt32.toUInt16.toUInt32.toInt32))] : List Int32) k120 k120 _ _ _ _ _ X133 e133 N133 (Nat.le_trans (Nat.add_le_add_right (Nat.add_le_add_right hcl119 1) 1) (by decide)) (Nat.le_trans (Nat.add_le_add_right (Nat.add_le_add_right hsl119 4) 4) (by decide)) z142 K143 R140 R140 rfl rfl (own_three p4)
  show OE _ p e below s _ _ _ s₁ (mkF m 0 #[.val (.int p1), .val (.int p2), .val (.int p3), .val (.int p4), .unset, .unset, .unset, .unset, .unset, .unset, .unset, .unset, .unset, .unset, .unset, .unset, .unset, .unset, .unset, .unset, .unset, .unset, .unset, .unset, .unset, .unset, .unset, .unset] [])
  refine OE.iloadN X0 hx hby at_0 rfl ?_
  refine OE.bipush X0 hx hby at_1 (8 : Int32) rfl ?_
  refine OE.iand X0 hx hby at_3 ?_
  by_cases hc4 : (p4 &&& (8 : Int32)) = (0 : Int32)
  · skip
    refine OE.ifYes X0 hx hby (pc' := 11) at_4 (teq hc4).1 (h := ?_)
    refine OE.sipush X0 hx hby at_11 (255 : Int32) rfl ?_
    refine OE.istore X0 hx hby at_14 (l' := #[.val (.int p1), .val (.int p2), .val (.int p3), .val (.int p4), .val (.int (255 : Int32)), .unset, .unset, .unset, .unset, .unset, .unset, .unset, .unset, .unset, .unset, .unset, .unset, .unset, .unset, .unset, .unset, .unset, .unset, .unset, .unset, .unset, .unset, .unset]) rfl ?_
    exact c16 (255 : Int32) _ _ _ _ _ X0 e0 N0 (by decide) (by decide) Z0 (Keep.refl h0 [])
  · skip
    refine OE.ifNo X0 hx hby at_4 (feq hc4).1 ?_
    refine OE.iconst X0 hx hby at_7 (1 : Int32) rfl ?_
    refine OE.goto X0 hx hby (pc' := 14) at_8 (h := ?_)
    refine OE.istore X0 hx hby at_14 (l' := #[.val (.int p1), .val (.int p2), .val (.int p3), .val (.int p4), .val (.int (1 : Int32)), .unset, .unset, .unset, .unset, .unset, .unset, .unset, .unset, .unset, .unset, .unset, .unset, .unset, .unset, .unset, .unset, .unset, .unset, .unset, .unset, .unset, .unset, .unset]) rfl ?_
    exact c16 (1 : Int32) _ _ _ _ _ X0 e0 N0 (by decide) (by decide) Z0 (Keep.refl h0 [])
set_option maxRecDepth 65536 in
set_option maxHeartbeats 40000000 in
theorem comes_1 {Post : Tables → Env → Array Value → State → Outcome → State → Prop} (hpost : ∀ tb e args s v u, (limb_1_1.after args s (.returned v) u = true ∧ limb_1_2.after args s (.returned v) u = true ∧ True) → FrameEnd s (.returned v) u (Jvm.fieldLocs frame_1_writes args s ++ Jvm.arrayLocs frame_1_arrays args s ++ Jvm.staticLocs frame_1_statics s) 24 12416 → Post tb e args s (.returned v) u) :
    ArmFor flags0 classFile x code maxLocals ret World_1 tables_1 room_1 Calls_1 rest_1 Pre_1 Post := by
  intro l hfl _ _ p e ha hc hk s m args below hf hA hF happ hP
  obtain ⟨hcalls, hrest, hpre⟩ := hP
  obtain ⟨-, -, -, hnamed, -, -, -, hat⟩ := (Spec.applies_iff hf).mp happ
  obtain ⟨hg, hn⟩ := and_e (Cond.before_iff.mp (show (Jvm.Cond.and given_1 narrow_1).before args s = true from hpre))
  obtain ⟨g1, g2⟩ := and_e hg
  obtain ⟨g3, g4⟩ := and_e g2
  obtain ⟨g5, g6⟩ := and_e g4
  obtain ⟨g7, g8⟩ := and_e g6
  obtain ⟨w0, w1, w2, w3, rfl⟩ : ∃ w0 w1 w2 w3 : Value, args = #[w0, w1, w2, w3] := by
    have hs : args.size = 4 := by simpa [Cond.value, given_1] using g1
    obtain ⟨L⟩ := args
    match L, hs with
    | [w0, w1, w2, w3], _ => exact ⟨w0, w1, w2, w3, rfl⟩
  have hw := fun d (hd : d ∈ tables_1) => atoms_spec (ws := Jvm.Cond.code x code maxLocals ret :: tables_1) hat d (List.mem_cons_of_mem _ hd)
  have hfit : Fit s := fun {y c} hc i hi => by
    obtain ⟨ha, rfl⟩ := Array.getElem?_eq_some_iff.mp hc
    have q := List.all_eq_true.mp ((Array.all_eq_true_iff_forall_mem.mp hF) _ (Array.getElem_mem ha)) i (List.mem_range.mpr hi)
    simpa [Array.getElem?_eq_getElem hi] using q
  obtain ⟨i0, ei0⟩ := is_v g3
  obtain rfl : w0 = (.int i0) := Option.some.inj ei0
  obtain ⟨i1, ei1⟩ := is_v g5
  obtain rfl : w1 = (.int i1) := Option.some.inj ei1
  obtain ⟨i2, ei2⟩ := is_v g7
  obtain rfl : w2 = (.int i2) := Option.some.inj ei2
  obtain ⟨i3, ei3⟩ := is_v g8
  obtain rfl : w3 = (.int i3) := Option.some.inj ei3
  obtain ⟨n, o, h1, h2, h3, _, L, rfl, ⟨rfl, N⟩, hq⟩ := own_rm0 l s _ hw tables_1 i0 i1 i2 i3 s.heap s.heap.size (Nat.le_refl _)  p e ha hc hk s m _ below hf ((Spec.applies_iff_loose hf).mp happ).1 ⟨rfl, State.Warmed39.refl s, rfl⟩ trivial
  refine ⟨n, _, h1, h2, h3, hpost _ _ _ _ _ _ ⟨Cond.after_iff.mpr rfl, Cond.after_iff.mpr (eq_i res_at (Term.int_eval (1)) rfl), trivial⟩ ⟨hq.1, hq.2.1, (hq.2.2.sift fun y hy => Or.inr (N y hy)).mono (by decide) (by decide)⟩⟩
theorem main_1_1 : Claimed_1_1 := comes_1 fun _ _ _ _ _ _ h hF => ⟨h.1, hF⟩
theorem main_1_2 : Claimed_1_2 := comes_1 fun _ _ _ _ _ _ h hF => ⟨h.2.1, hF⟩
end Jvm.Pilot.@@N@@
namespace Jvm.Pilot.@@N@@
open Jvm Jvm.ClassFile Sem Op Lib Jvm.Free Jvm.Stand Jvm.Pilot.@@N@@.Jvm.D
/-! MADE BY PROGRAM (witnessworld.py) out of the Statement's table words and the real class files: 12 classes; the members and pool entries that the words name. The judged class is class 1, her method 1. -/
namespace start1
open Jvm.ClassFile
def u (s : String) : CpInfo := .utf8 (stringToUtf16 s)
/-- a pool by its gaps: so many unusable entries, then the entry; so many at the end -/
def gap : Nat → List CpInfo → List CpInfo
  | 0, r => r
  | n + 1, r => .unusable :: gap n r
def poolList (es : List (Nat × CpInfo)) (last : Nat) : List CpInfo := es.foldr (fun e r => gap e.1 (e.2 :: r)) (gap last [])
def pool (es : List (Nat × CpInfo)) (last : Nat) : Array CpInfo := ⟨poolList es last⟩
def fileOf (pool : Array CpInfo) (this : Nat) (attrs : Array Attribute := #[]) (ms : Array MethodInfo := #[]) (fl : Nat := 33) (sup : Nat := 0) (ifs : Array Nat := #[]) (fds : Array FieldInfo := #[]) : ClassFile where
  minorVersion := 0
  majorVersion := 65
  constantPool := pool
  accessFlags := fl
  thisClass := this
  superClass := sup
  interfaces := ifs
  fields := fds
  methods := ms
  attributes := attrs
def plain (name : String) (sup : Option ClassId) : Class where
  name := name
  kind := .ordinary
  loader := none
  accessFlags := 33
  super := sup
  interfaces := #[]
  cf := none
  fields := #[]
  methods := #[]
  instanceTypes := #[]
  staticTypes := #[]
  resolved := #[]
  callSites := []
  init := .initialized
  statics := none
  mirror := none

def pool0 : Array CpInfo := pool [(5, u "<init>"), (0, u "()V"), (1, .class_ 10), (1, u "java/lang/Object")] 113

def k0c0 : Code := { maxStack := 0, maxLocals := 1, code := object_method_1_code, exceptionTable := #[], attributes := #[] }
def k0m0 : Method := { name := "<init>", desc := "()V", sig := { parameters := [], returnType := none }, accessFlags := 1, code := some k0c0 }
/-- java/lang/Object -/
def k0 : Class := { plain "java/lang/Object" none with
  accessFlags := 33
  interfaces := #[]
  cf := some (fileOf pool0 8 #[] #[{ accessFlags := 1, nameIndex := 5, descriptorIndex := 6, attributes := #[] }] 33 0 #[] #[])
  fields := #[]
  methods := #[k0m0]
  instanceTypes := #[]
  staticTypes := #[]
  resolved := Array.replicate 124 none
  statics := none }

def pool1 : Array CpInfo := pool [(2, .class_ 4), (0, .nameAndType 5 6), (0, u "java/lang/Object"), (0, u "<init>"), (0, u "()V"), (0, .methodref 8 9), (0, .class_ 10), (0, .nameAndType 11 12), (0, u "com/example/archerfish/archerfish/index/TokenTableFindPinLaw"), (0, u "st"), (0, u "(I)I"), (0, .methodref 8 14), (0, .nameAndType 15 12), (0, u "en"), (0, .class_ 17), (0, u "com/example/archerfish/archerfish/index/TokenTable"), (0, .methodref 16 3), (0, .methodref 16 20), (0, .nameAndType 21 22), (0, u "add"), (0, u "([CII)I"), (0, .methodref 8 24), (0, .nameAndType 25 26), (0, u "eq"), (0, u "([CII[CII)Z"), (0, .methodref 16 28), (0, .nameAndType 29 22), (0, u "find"), (0, .methodref 16 31), (0, .nameAndType 32 33), (0, u "size"), (0, u "()I"), (2, u "law"), (0, u "(IIII)Z")] 5

def k1m0 : Method := { name := "<init>", desc := "()V", sig := { parameters := [], returnType := none }, accessFlags := 1, code := none }
def k1c1 : Code := { maxStack := 6, maxLocals := 28, code := code, exceptionTable := #[], attributes := #[] }
def k1m1 : Method := { name := "law", desc := "(IIII)Z", sig := { parameters := [.int, .int, .int, .int], returnType := some .boolean }, accessFlags := 9, code := some k1c1 }
def k1c2 : Code := { maxStack := 2, maxLocals := 1, code := method_3_code, exceptionTable := #[], attributes := #[] }
def k1m2 : Method := { name := "st", desc := "(I)I", sig := { parameters := [.int], returnType := some .int }, accessFlags := 10, code := some k1c2 }
def k1c3 : Code := { maxStack := 4, maxLocals := 2, code := method_4_code, exceptionTable := #[], attributes := #[] }
def k1m3 : Method := { name := "en", desc := "(I)I", sig := { parameters := [.int], returnType := some .int }, accessFlags := 10, code := some k1c3 }
def k1c4 : Code := { maxStack := 4, maxLocals := 7, code := method_5_code, exceptionTable := #[], attributes := #[] }
def k1m4 : Method := { name := "eq", desc := "([CII[CII)Z", sig := { parameters := [(.array .char), .int, .int, (.array .char), .int, .int], returnType := some .boolean }, accessFlags := 10, code := some k1c4 }
/-- com/example/archerfish/archerfish/index/TokenTableFindPinLaw -/
def k1 : Class := { plain "com/example/archerfish/archerfish/index/TokenTableFindPinLaw" (some 0) with
  accessFlags := 49
  interfaces := #[]
  cf := some (fileOf pool1 8 #[] #[{ accessFlags := 1, nameIndex := 5, descriptorIndex := 6, attributes := #[] }, { accessFlags := 9, nameIndex := 36, descriptorIndex := 37, attributes := #[] }, { accessFlags := 10, nameIndex := 11, descriptorIndex := 12, attributes := #[] }, { accessFlags := 10, nameIndex := 15, descriptorIndex := 12, attributes := #[] }, { accessFlags := 10, nameIndex := 25, descriptorIndex := 26, attributes := #[] }] 49 2 #[] #[])
  fields := #[]
  methods := #[k1m0, k1m1, k1m2, k1m3, k1m4]
  instanceTypes := #[]
  staticTypes := #[]
  resolved := Array.replicate 43 none
  statics := none }

def pool2 : Array CpInfo := pool [(3, .methodref 4 5), (0, .class_ 6), (0, .nameAndType 7 8), (0, u "java/lang/Object"), (0, u "<init>"), (0, u "()V"), (0, .fieldref 10 11), (0, .class_ 12), (0, .nameAndType 13 14), (0, u "com/example/archerfish/archerfish/index/TokenTable"), (0, u "slots"), (0, u "[I"), (0, .fieldref 10 16), (0, .nameAndType 17 14), (0, u "hashes"), (0, .fieldref 10 19), (0, .nameAndType 20 14), (0, u "starts"), (0, .fieldref 10 22), (0, .nameAndType 23 24), (0, u "chars"), (0, u "[C"), (0, .fieldref 10 26), (0, .nameAndType 27 28), (0, u "size"), (0, u "I"), (0, .methodref 10 30), (0, .nameAndType 31 32), (0, u "hash"), (0, u "([CII)I"), (0, .methodref 10 34), (0, .nameAndType 35 36), (0, u "holds"), (0, u "(I[CII)Z"), (0, .long 2147483639), (8, .long 2), (19, .methodref 67 68), (0, .class_ 69), (0, .nameAndType 70 71), (0, u "java/lang/System"), (0, u "arraycopy"), (0, u "(Ljava/lang/Object;ILjava/lang/Object;II)V"), (0, .methodref 10 73), (0, .nameAndType 74 75), (0, u "place"), (0, u "(I)V"), (5, .integer 2654435769), (0, u "ABSENT"), (2, u "MAX_LENGTH"), (3, u "()I"), (0, u "find"), (1, u "add")] 4

def k2c0 : Code := { maxStack := 2, maxLocals := 1, code := prog_66_method_1_code, exceptionTable := #[], attributes := #[] }
def k2m0 : Method := { name := "<init>", desc := "()V", sig := { parameters := [], returnType := none }, accessFlags := 0, code := some k2c0 }
def k2c1 : Code := { maxStack := 1, maxLocals := 1, code := prog_66_method_2_code, exceptionTable := #[], attributes := #[] }
def k2m1 : Method := { name := "size", desc := "()I", sig := { parameters := [], returnType := some .int }, accessFlags := 0, code := some k2c1 }
def k2c2 : Code := { maxStack := 5, maxLocals := 8, code := prog_66_method_3_code, exceptionTable := #[], attributes := #[] }
def k2m2 : Method := { name := "find", desc := "([CII)I", sig := { parameters := [(.array .char), .int, .int], returnType := some .int }, accessFlags := 0, code := some k2c2 }
def k2c3 : Code := { maxStack := 8, maxLocals := 8, code := prog_66_method_4_code, exceptionTable := #[], attributes := #[] }
def k2m3 : Method := { name := "add", desc := "([CII)I", sig := { parameters := [(.array .char), .int, .int], returnType := some .int }, accessFlags := 0, code := some k2c3 }
def k2c4 : Code := { maxStack := 4, maxLocals := 4, code := prog_66_method_6_code, exceptionTable := #[], attributes := #[] }
def k2m4 : Method := { name := "place", desc := "(I)V", sig := { parameters := [.int], returnType := none }, accessFlags := 2, code := some k2c4 }
def k2c5 : Code := { maxStack := 3, maxLocals := 7, code := prog_66_method_7_code, exceptionTable := #[], attributes := #[] }
def k2m5 : Method := { name := "holds", desc := "(I[CII)Z", sig := { parameters := [.int, (.array .char), .int, .int], returnType := some .boolean }, accessFlags := 2, code := some k2c5 }
def k2c6 : Code := { maxStack := 3, maxLocals := 5, code := prog_66_method_8_code, exceptionTable := #[], attributes := #[] }
def k2m6 : Method := { name := "hash", desc := "([CII)I", sig := { parameters := [(.array .char), .int, .int], returnType := some .int }, accessFlags := 8, code := some k2c6 }
/-- com/example/archerfish/archerfish/index/TokenTable -/
def k2 : Class := { plain "com/example/archerfish/archerfish/index/TokenTable" (some 0) with
  accessFlags := 48
  interfaces := #[]
  cf := some (fileOf pool2 10 #[] #[{ accessFlags := 0, nameIndex := 7, descriptorIndex := 8, attributes := #[] }, { accessFlags := 0, nameIndex := 27, descriptorIndex := 89, attributes := #[] }, { accessFlags := 0, nameIndex := 90, descriptorIndex := 32, attributes := #[] }, { accessFlags := 0, nameIndex := 92, descriptorIndex := 32, attributes := #[] }, { accessFlags := 2, nameIndex := 74, descriptorIndex := 75, attributes := #[] }, { accessFlags := 2, nameIndex := 35, descriptorIndex := 36, attributes := #[] }, { accessFlags := 8, nameIndex := 31, descriptorIndex := 32, attributes := #[] }] 48 4 #[] #[{ accessFlags := 24, nameIndex := 82, descriptorIndex := 28, attributes := #[] }, { accessFlags := 26, nameIndex := 85, descriptorIndex := 28, attributes := #[] }, { accessFlags := 2, nameIndex := 13, descriptorIndex := 14, attributes := #[] }, { accessFlags := 2, nameIndex := 27, descriptorIndex := 28, attributes := #[] }, { accessFlags := 2, nameIndex := 17, descriptorIndex := 14, attributes := #[] }, { accessFlags := 2, nameIndex := 20, descriptorIndex := 14, attributes := #[] }, { accessFlags := 2, nameIndex := 23, descriptorIndex := 24, attributes := #[] }])
  fields := #[{ name := "ABSENT", type := .int, accessFlags := 24, slot := 0, constantValue := 0 }, { name := "MAX_LENGTH", type := .int, accessFlags := 26, slot := 1, constantValue := 0 }, { name := "slots", type := (.array .int), accessFlags := 2, slot := 0, constantValue := 0 }, { name := "size", type := .int, accessFlags := 2, slot := 1, constantValue := 0 }, { name := "hashes", type := (.array .int), accessFlags := 2, slot := 2, constantValue := 0 }, { name := "starts", type := (.array .int), accessFlags := 2, slot := 3, constantValue := 0 }, { name := "chars", type := (.array .char), accessFlags := 2, slot := 4, constantValue := 0 }]
  methods := #[k2m0, k2m1, k2m2, k2m3, k2m4, k2m5, k2m6]
  instanceTypes := #[(.array .int), .int, (.array .int), (.array .int), (.array .char)]
  staticTypes := #[.int, .int]
  resolved := Array.replicate 97 none
  statics := none }

def pool3 : Array CpInfo := pool [(2, .class_ 4), (1, u "java/lang/Object"), (0, u "<init>"), (0, u "()V"), (1, .class_ 10), (1, u "java/lang/System"), (0, u "allowSecurityManager"), (0, u "I"), (16, u "cons"), (0, u "Ljava/io/Console;"), (77, .class_ 110), (1, u "java/lang/System$CallersHolder"), (43, u "initialErrStream"), (0, u "Ljava/io/PrintStream;"), (19, u "security"), (0, u "Ljava/lang/SecurityManager;"), (31, .class_ 209), (0, u "java/lang/System$1"), (7, u "props"), (0, u "Ljava/util/Properties;"), (2, u "lineSeparator"), (0, u "Ljava/lang/String;"), (96, .class_ 321), (1, u "java/lang/System$LoggerFinder"), (5, .class_ 328), (0, u "java/lang/System$Logger"), (67, u "err"), (2, u "out"), (91, u "notSupportedJnuEncoding"), (15, u "in"), (17, u "initialIn"), (0, u "Ljava/io/InputStream;"), (35, u "bootLayer"), (0, u "Ljava/lang/ModuleLayer;"), (99, .class_ 664), (0, u "java/lang/System$2"), (9, u "NEVER"), (2, u "MAYBE"), (49, u "arraycopy"), (0, u "(Ljava/lang/Object;ILjava/lang/Object;II)V"), (72, .class_ 802), (0, u "java/lang/System$Logger$Level")] 31

def k3m0 : Method := { name := "<init>", desc := "()V", sig := { parameters := [], returnType := none }, accessFlags := 2, code := none }
def k3m1 : Method := { name := "arraycopy", desc := "(Ljava/lang/Object;ILjava/lang/Object;II)V", sig := { parameters := [(.object "java/lang/Object"), .int, (.object "java/lang/Object"), .int, .int], returnType := none }, accessFlags := 265, code := none }
/-- java/lang/System -/
def k3 : Class := { plain "java/lang/System" (some 0) with
  accessFlags := 49
  interfaces := #[]
  cf := some (fileOf pool3 8 #[.nestMembers #[319, 327, 801, 108, 663, 208]] #[{ accessFlags := 2, nameIndex := 5, descriptorIndex := 6, attributes := #[] }, { accessFlags := 265, nameIndex := 727, descriptorIndex := 728, attributes := #[] }] 49 2 #[] #[{ accessFlags := 25, nameIndex := 507, descriptorIndex := 526, attributes := #[] }, { accessFlags := 25, nameIndex := 399, descriptorIndex := 155, attributes := #[] }, { accessFlags := 25, nameIndex := 396, descriptorIndex := 155, attributes := #[] }, { accessFlags := 10, nameIndex := 525, descriptorIndex := 526, attributes := #[] }, { accessFlags := 26, nameIndex := 674, descriptorIndex := 12, attributes := #[] }, { accessFlags := 26, nameIndex := 677, descriptorIndex := 12, attributes := #[] }, { accessFlags := 10, nameIndex := 11, descriptorIndex := 12, attributes := #[] }, { accessFlags := 74, nameIndex := 175, descriptorIndex := 176, attributes := #[] }, { accessFlags := 10, nameIndex := 491, descriptorIndex := 222, attributes := #[] }, { accessFlags := 74, nameIndex := 29, descriptorIndex := 30, attributes := #[] }, { accessFlags := 74, nameIndex := 154, descriptorIndex := 155, attributes := #[] }, { accessFlags := 10, nameIndex := 217, descriptorIndex := 218, attributes := #[] }, { accessFlags := 10, nameIndex := 221, descriptorIndex := 222, attributes := #[] }, { accessFlags := 8, nameIndex := 562, descriptorIndex := 563, attributes := #[] }])
  fields := #[{ name := "in", type := (.object "java/io/InputStream"), accessFlags := 25, slot := 0, constantValue := 0 }, { name := "out", type := (.object "java/io/PrintStream"), accessFlags := 25, slot := 1, constantValue := 0 }, { name := "err", type := (.object "java/io/PrintStream"), accessFlags := 25, slot := 2, constantValue := 0 }, { name := "initialIn", type := (.object "java/io/InputStream"), accessFlags := 10, slot := 3, constantValue := 0 }, { name := "NEVER", type := .int, accessFlags := 26, slot := 4, constantValue := 0 }, { name := "MAYBE", type := .int, accessFlags := 26, slot := 5, constantValue := 0 }, { name := "allowSecurityManager", type := .int, accessFlags := 10, slot := 6, constantValue := 0 }, { name := "security", type := (.object "java/lang/SecurityManager"), accessFlags := 74, slot := 7, constantValue := 0 }, { name := "notSupportedJnuEncoding", type := (.object "java/lang/String"), accessFlags := 10, slot := 8, constantValue := 0 }, { name := "cons", type := (.object "java/io/Console"), accessFlags := 74, slot := 9, constantValue := 0 }, { name := "initialErrStream", type := (.object "java/io/PrintStream"), accessFlags := 74, slot := 10, constantValue := 0 }, { name := "props", type := (.object "java/util/Properties"), accessFlags := 10, slot := 11, constantValue := 0 }, { name := "lineSeparator", type := (.object "java/lang/String"), accessFlags := 10, slot := 12, constantValue := 0 }, { name := "bootLayer", type := (.object "java/lang/ModuleLayer"), accessFlags := 8, slot := 13, constantValue := 0 }]
  methods := #[k3m0, k3m1]
  instanceTypes := #[]
  staticTypes := #[(.object "java/io/InputStream"), (.object "java/io/PrintStream"), (.object "java/io/PrintStream"), (.object "java/io/InputStream"), .int, .int, .int, (.object "java/lang/SecurityManager"), (.object "java/lang/String"), (.object "java/io/Console"), (.object "java/io/PrintStream"), (.object "java/util/Properties"), (.object "java/lang/String"), (.object "java/lang/ModuleLayer")]
  resolved := Array.replicate 834 none
  statics := none }

def pool4 : Array CpInfo := pool [(1, u "java/lang/Cloneable"), (0, .class_ 1), (0, u "java/lang/Object"), (0, .class_ 3)] 3

/-- java/lang/Cloneable -/
def k4 : Class := { plain "java/lang/Cloneable" (some 0) with
  accessFlags := 1537
  interfaces := #[]
  cf := some (fileOf pool4 2 #[] #[] 1537 4 #[] #[])
  fields := #[]
  methods := #[]
  instanceTypes := #[]
  staticTypes := #[]
  resolved := Array.replicate 8 none
  statics := none }

def pool5 : Array CpInfo := pool [(1, u "java/io/Serializable"), (0, .class_ 1), (0, u "java/lang/Object"), (0, .class_ 3)] 3

/-- java/io/Serializable -/
def k5 : Class := { plain "java/io/Serializable" (some 0) with
  accessFlags := 1537
  interfaces := #[]
  cf := some (fileOf pool5 2 #[] #[] 1537 4 #[] #[])
  fields := #[]
  methods := #[]
  instanceTypes := #[]
  staticTypes := #[]
  resolved := Array.replicate 8 none
  statics := none }

/-- the primitive byte -/
def k6 : Class := { plain "byte" none with kind := .primitive 'B', accessFlags := 0x411 }
/-- [B -/
def k7 : Class := { plain "[B" (some 0) with kind := .array 6 .byte, interfaces := #[4, 5], accessFlags := 1041 }

/-- the primitive char -/
def k8 : Class := { plain "char" none with kind := .primitive 'C', accessFlags := 0x411 }
/-- [C -/
def k9 : Class := { plain "[C" (some 0) with kind := .array 8 .char, interfaces := #[4, 5], accessFlags := 1041 }

/-- the primitive int -/
def k10 : Class := { plain "int" none with kind := .primitive 'I', accessFlags := 0x411 }
/-- [I -/
def k11 : Class := { plain "[I" (some 0) with kind := .array 10 .int, interfaces := #[4, 5], accessFlags := 1041 }

def heap : Heap := #[]
def classes : Array Class := #[k0, k1, k2, k3, k4, k5, k6, k7, k8, k9, k10, k11]
def interned : List (Array UInt16 × Addr) := []
def slotsUsed : Nat := 0
def theMethod : MethodId := ⟨1, 1⟩
def args0 : Array Value := #[.int 5, .int 7, .int 9, .int 2]
def aboutOver (below : List Frame) : State where
  vm := { classes := classes, interned := interned.toArray }
  heap := heap
  slotsUsed := slotsUsed
  threads := #[{ frames := .invoking theMethod args0 :: below }]
def below0 : List Frame := [.native { method := ⟨0, 0⟩, args := #[] }]
def about1 : State := aboutOver below0
def p0 : Program := .bare "" "" ""
def e0 : Env := launch0.env 0 0 0
theorem w_frames : about1.frames = Frame.invoking theMethod args0 :: below0 := rfl
set_option maxRecDepth 65536 in
theorem w_args : argsFit about1.vm theMethod args0 = true := by decide +kernel
set_option maxRecDepth 65536 in
theorem w_heap : heapFits about1 = true := by decide +kernel
set_option maxRecDepth 65536 in
theorem w_runnable : about1.curStatus? = some .runnable := by decide +kernel
set_option maxRecDepth 65536 in
theorem w_alone : about1.alone = true := by decide +kernel
set_option maxRecDepth 65536 in
theorem w_named : about1.methodNamed? x = some theMethod := by decide +kernel
set_option maxRecDepth 65536 in
theorem w_hears : about1.hears theMethod below0 = true := by decide +kernel
set_option maxRecDepth 65536 in
theorem w_ripe : about1.ripe theMethod args0 below0 = true := by decide +kernel
theorem w_running : about1.status = .running := rfl
set_option maxRecDepth 65536 in
theorem w_room : about1.hasRoom e0.platform room_1 = true :=
  launch0.hasRoom_least _ room_1 (by decide +kernel) (by decide +kernel) (by decide +kernel) (by decide +kernel) (by decide +kernel) (by decide +kernel)
theorem allAtoms_all (ts : List Jvm.Cond) (a : Array Jvm.Value) (st : Jvm.State) : (allAtoms ts).before a st = ts.all (fun c => c.before a st) := by
  induction ts with
  | nil => rfl
  | cons c t ih =>
    show (Jvm.Cond.and c (allAtoms t)).before a st = _
    rw [Jvm.Cond.before_and, ih, List.all_cons]
def words1 : List Jvm.Cond := Jvm.Cond.code x code maxLocals ret :: tables_1
/-- a 'code' word, met by the world's own term for the bytes: nothing is compared byte by byte -/
theorem code_word {y : MethodName} {bytes : ByteArray} {mx : Nat} {rt : Option FieldType} {a : Array Value} {s : State} {m : MethodId} {meth : Method} {c : Code} (h1 : s.methodNamed? y = some m) (h2 : s.vm.method? m = some meth) (h3 : meth.code = some c) (h4 : c.code = bytes)
    (h5 : (c.maxLocals == mx && c.exceptionTable.isEmpty && decide (c.maxStack ≤ mostOperands) && decide (meth.sig.returnType = rt) && !meth.locks && decide (parseMethodDescriptor y.desc = some meth.sig)) = true) : (Jvm.Cond.code y bytes mx rt).before a s = true := by
  simp only [Bool.and_eq_true, beq_iff_eq, Bool.not_eq_true', decide_eq_true_eq] at h5
  obtain ⟨⟨⟨⟨⟨g1, g2⟩, g3⟩, g4⟩, g5⟩, g6⟩ := h5
  simp [Cond.before, Cond.holds, Cond.value, h1, h2, h3, h4, g1, g2, g3, g4, g5, g6]
def isCode : Jvm.Cond → Bool
  | .code _ _ _ _ => true
  | _ => false
theorem all_split {L : List Jvm.Cond} {P : Jvm.Cond → Bool} (h1 : L.all (fun c => isCode c || P c) = true) (h2 : ∀ c ∈ L.filter isCode, P c = true) : L.all P = true := by
  refine List.all_eq_true.mpr fun c hc => ?_
  have h := List.all_eq_true.mp h1 c hc
  rcases Bool.eq_false_or_eq_true (isCode c) with hi | hi
  · exact h2 c (List.mem_filter.mpr ⟨hc, hi⟩)
  · simpa [hi] using h
set_option maxRecDepth 65536 in
theorem w_c0 : (Jvm.Cond.code x code maxLocals ret).before args0 about1 = true := code_word (m := ⟨1, 1⟩) (meth := k1m1) (c := k1c1) (by decide +kernel) rfl rfl rfl (by decide +kernel)
set_option maxRecDepth 65536 in
theorem w_c1 : (Jvm.Cond.code ({ cls := "com/example/archerfish/archerfish/index/TokenTableFindPinLaw", name := "st", desc := "(I)I" } : Jvm.MethodName) method_3_code (1 : Nat) (Option.some Jvm.ClassFile.FieldType.int)).before args0 about1 = true := code_word (m := ⟨1, 2⟩) (meth := k1m2) (c := k1c2) (by decide +kernel) rfl rfl rfl (by decide +kernel)
set_option maxRecDepth 65536 in
theorem w_c2 : (Jvm.Cond.code ({ cls := "com/example/archerfish/archerfish/index/TokenTableFindPinLaw", name := "en", desc := "(I)I" } : Jvm.MethodName) method_4_code (2 : Nat) (Option.some Jvm.ClassFile.FieldType.int)).before args0 about1 = true := code_word (m := ⟨1, 3⟩) (meth := k1m3) (c := k1c3) (by decide +kernel) rfl rfl rfl (by decide +kernel)
set_option maxRecDepth 65536 in
theorem w_c3 : (Jvm.Cond.code ({ cls := "com/example/archerfish/archerfish/index/TokenTable", name := "<init>", desc := "()V" } : Jvm.MethodName) prog_66_method_1_code (1 : Nat) (Option.none : Option Jvm.ClassFile.FieldType)).before args0 about1 = true := code_word (m := ⟨2, 0⟩) (meth := k2m0) (c := k2c0) (by decide +kernel) rfl rfl rfl (by decide +kernel)
set_option maxRecDepth 65536 in
theorem w_c4 : (Jvm.Cond.code ({ cls := "java/lang/Object", name := "<init>", desc := "()V" } : Jvm.MethodName) object_method_1_code (1 : Nat) (Option.none : Option Jvm.ClassFile.FieldType)).before args0 about1 = true := code_word (m := ⟨0, 0⟩) (meth := k0m0) (c := k0c0) (by decide +kernel) rfl rfl rfl (by decide +kernel)
set_option maxRecDepth 65536 in
theorem w_c5 : (Jvm.Cond.code ({ cls := "com/example/archerfish/archerfish/index/TokenTable", name := "add", desc := "([CII)I" } : Jvm.MethodName) prog_66_method_4_code (8 : Nat) (Option.some Jvm.ClassFile.FieldType.int)).before args0 about1 = true := code_word (m := ⟨2, 3⟩) (meth := k2m3) (c := k2c3) (by decide +kernel) rfl rfl rfl (by decide +kernel)
set_option maxRecDepth 65536 in
theorem w_c6 : (Jvm.Cond.code ({ cls := "com/example/archerfish/archerfish/index/TokenTable", name := "hash", desc := "([CII)I" } : Jvm.MethodName) prog_66_method_8_code (5 : Nat) (Option.some Jvm.ClassFile.FieldType.int)).before args0 about1 = true := code_word (m := ⟨2, 6⟩) (meth := k2m6) (c := k2c6) (by decide +kernel) rfl rfl rfl (by decide +kernel)
set_option maxRecDepth 65536 in
theorem w_c7 : (Jvm.Cond.code ({ cls := "com/example/archerfish/archerfish/index/TokenTable", name := "place", desc := "(I)V" } : Jvm.MethodName) prog_66_method_6_code (4 : Nat) (Option.none : Option Jvm.ClassFile.FieldType)).before args0 about1 = true := code_word (m := ⟨2, 4⟩) (meth := k2m4) (c := k2c4) (by decide +kernel) rfl rfl rfl (by decide +kernel)
set_option maxRecDepth 65536 in
theorem w_c8 : (Jvm.Cond.code ({ cls := "com/example/archerfish/archerfish/index/TokenTableFindPinLaw", name := "eq", desc := "([CII[CII)Z" } : Jvm.MethodName) method_5_code (7 : Nat) (Option.some Jvm.ClassFile.FieldType.boolean)).before args0 about1 = true := code_word (m := ⟨1, 4⟩) (meth := k1m4) (c := k1c4) (by decide +kernel) rfl rfl rfl (by decide +kernel)
set_option maxRecDepth 65536 in
theorem w_c9 : (Jvm.Cond.code ({ cls := "com/example/archerfish/archerfish/index/TokenTable", name := "find", desc := "([CII)I" } : Jvm.MethodName) prog_66_method_3_code (8 : Nat) (Option.some Jvm.ClassFile.FieldType.int)).before args0 about1 = true := code_word (m := ⟨2, 2⟩) (meth := k2m2) (c := k2c2) (by decide +kernel) rfl rfl rfl (by decide +kernel)
set_option maxRecDepth 65536 in
theorem w_c10 : (Jvm.Cond.code ({ cls := "com/example/archerfish/archerfish/index/TokenTable", name := "holds", desc := "(I[CII)Z" } : Jvm.MethodName) prog_66_method_7_code (7 : Nat) (Option.some Jvm.ClassFile.FieldType.boolean)).before args0 about1 = true := code_word (m := ⟨2, 5⟩) (meth := k2m5) (c := k2c5) (by decide +kernel) rfl rfl rfl (by decide +kernel)
set_option maxRecDepth 65536 in
theorem w_c11 : (Jvm.Cond.code ({ cls := "com/example/archerfish/archerfish/index/TokenTable", name := "size", desc := "()I" } : Jvm.MethodName) prog_66_method_2_code (1 : Nat) (Option.some Jvm.ClassFile.FieldType.int)).before args0 about1 = true := code_word (m := ⟨2, 1⟩) (meth := k2m1) (c := k2c1) (by decide +kernel) rfl rfl rfl (by decide +kernel)
def codes1 : List Jvm.Cond := [Jvm.Cond.code x code maxLocals ret, Jvm.Cond.code ({ cls := "com/example/archerfish/archerfish/index/TokenTableFindPinLaw", name := "st", desc := "(I)I" } : Jvm.MethodName) method_3_code (1 : Nat) (Option.some Jvm.ClassFile.FieldType.int), Jvm.Cond.code ({ cls := "com/example/archerfish/archerfish/index/TokenTableFindPinLaw", name := "en", desc := "(I)I" } : Jvm.MethodName) method_4_code (2 : Nat) (Option.some Jvm.ClassFile.FieldType.int), Jvm.Cond.code ({ cls := "com/example/archerfish/archerfish/index/TokenTable", name := "<init>", desc := "()V" } : Jvm.MethodName) prog_66_method_1_code (1 : Nat) (Option.none : Option Jvm.ClassFile.FieldType), Jvm.Cond.code ({ cls := "java/lang/Object", name := "<init>", desc := "()V" } : Jvm.MethodName) object_method_1_code (1 : Nat) (Option.none : Option Jvm.ClassFile.FieldType), Jvm.Cond.code ({ cls := "com/example/archerfish/archerfish/index/TokenTable", name := "add", desc := "([CII)I" } : Jvm.MethodName) prog_66_method_4_code (8 : Nat) (Option.some Jvm.ClassFile.FieldType.int), Jvm.Cond.code ({ cls := "com/example/archerfish/archerfish/index/TokenTable", name := "hash", desc := "([CII)I" } : Jvm.MethodName) prog_66_method_8_code (5 : Nat) (Option.some Jvm.ClassFile.FieldType.int), Jvm.Cond.code ({ cls := "com/example/archerfish/archerfish/index/TokenTable", name := "place", desc := "(I)V" } : Jvm.MethodName) prog_66_method_6_code (4 : Nat) (Option.none : Option Jvm.ClassFile.FieldType), Jvm.Cond.code ({ cls := "com/example/archerfish/archerfish/index/TokenTableFindPinLaw", name := "eq", desc := "([CII[CII)Z" } : Jvm.MethodName) method_5_code (7 : Nat) (Option.some Jvm.ClassFile.FieldType.boolean), Jvm.Cond.code ({ cls := "com/example/archerfish/archerfish/index/TokenTable", name := "find", desc := "([CII)I" } : Jvm.MethodName) prog_66_method_3_code (8 : Nat) (Option.some Jvm.ClassFile.FieldType.int), Jvm.Cond.code ({ cls := "com/example/archerfish/archerfish/index/TokenTable", name := "holds", desc := "(I[CII)Z" } : Jvm.MethodName) prog_66_method_7_code (7 : Nat) (Option.some Jvm.ClassFile.FieldType.boolean), Jvm.Cond.code ({ cls := "com/example/archerfish/archerfish/index/TokenTable", name := "size", desc := "()I" } : Jvm.MethodName) prog_66_method_2_code (1 : Nat) (Option.some Jvm.ClassFile.FieldType.int)]
set_option maxRecDepth 65536 in
theorem codes_eq : words1.filter isCode = codes1 := rfl
theorem w_codes : ∀ c ∈ words1.filter isCode, c.before args0 about1 = true := by
  rw [codes_eq]
  intro c hc
  simp only [codes1, List.mem_cons, List.not_mem_nil, or_false] at hc
  rcases hc with rfl | rfl | rfl | rfl | rfl | rfl | rfl | rfl | rfl | rfl | rfl | rfl
  · exact w_c0
  · exact w_c1
  · exact w_c2
  · exact w_c3
  · exact w_c4
  · exact w_c5
  · exact w_c6
  · exact w_c7
  · exact w_c8
  · exact w_c9
  · exact w_c10
  · exact w_c11
set_option maxRecDepth 65536 in
theorem w_t1 : (words1.take 24).all (fun c => isCode c || c.before args0 about1) = true := by decide +kernel
set_option maxRecDepth 65536 in
theorem w_t2 : ((words1.drop 24).take 24).all (fun c => isCode c || c.before args0 about1) = true := by decide +kernel
set_option maxRecDepth 65536 in
theorem w_t3 : ((words1.drop 24).drop 24).all (fun c => isCode c || c.before args0 about1) = true := by decide +kernel
theorem w_tables : (allAtoms (Jvm.Cond.code x code maxLocals ret :: tables_1)).before args0 about1 = true := by
  rw [allAtoms_all]
  show words1.all (fun c => c.before args0 about1) = true
  refine all_split ?_ w_codes
  rw [← List.take_append_drop 24 words1, List.all_append, w_t1, ← List.take_append_drop 24 (words1.drop 24), List.all_append, w_t2, w_t3]
  rfl
set_option maxRecDepth 65536 in
theorem w_case : (Jvm.Cond.and given_1 narrow_1).before args0 about1 = true := by decide +kernel
theorem w_applies : (headSpec (Jvm.Cond.code x code maxLocals ret :: tables_1) room_1).applies x e0.platform about1 = true :=
  (Spec.applies_iff w_frames).mpr ⟨w_running, w_runnable, w_alone, w_named, w_hears, w_ripe, w_room, w_tables⟩
theorem atStart : AtStart classFile x code maxLocals ret World_1 tables_1 room_1 Calls_1 rest_1 Pre_1 launch0 p0 e0 about1 theMethod args0 below0 :=
  ⟨lists_1, trivial, launch0.admits_env _ _ _, launch0.least_env, fairChoices_fair.cas, fairChoices_fair.clock, w_frames, w_args, w_heap, w_applies, trivial, trivial, w_case⟩
end start1
theorem witness_1 : WitnessClaimed_1 := ⟨start1.p0, start1.e0, start1.about1, start1.theMethod, start1.args0, start1.below0, start1.atStart⟩
end Jvm.Pilot.@@N@@
