import JvmDerived
import JvmDerived.Pilot.@@N@@Statement
import JvmDerived.Pilot.@@N@@Code
set_option linter.unusedVariables false
set_option linter.unusedSimpArgs false
namespace Jvm.RoadKit
open Sem ClassFile Op Lib Jvm.Stand Jvm.Free Jvm.LawKit
section New
variable {p : Program} {l : Launch} {e : Env} {R : Room} {s : State} {m : MethodId} {args : Array Value} {below : List Frame} {meth : Method} {c : Code} {T : State} {locs : List Loc} {cells slots : Nat}
theorem retI (X : Stand p l e R s m args below meth c T locs cells slots) (hx : p.tables.exec = Jvm.exec) {pc : Nat} {Ls : Array Slot} {z : Int32} {rest : List Value} (hret : meth.sig.returnType = some .int) (hd : decode c.code pc = .ok (.ireturn, 1)) {fs : List Frame}
    (hl : ∀ (f : JFrame) (acts : List Action), f.method = m → f.locked = none → f.entered = [] → (doReturn e (T.setTop f) acts (some (.int z))).1 = T.setFrames fs) : Steps p.tables e below (T.setTop (mkF m pc Ls (.int z :: rest))) (T.setFrames fs) := by
  have hm' : T.vm.method? m = some meth := X.method'
  have hn : narrow .int (.int z) = .int z := rfl
  show Steps p.tables e below (T.setTop { method := m, pc := pc, locals := Ls, stack := _ :: rest, locked := none }) _
  jvm_step X.here [X.here.top, hx, hd, hm', hret, hn]
  first | (intro acts; rw [hl _ acts rfl rfl rfl]) | rw [hl _ _ rfl rfl rfl]
  exact Steps.refl _
/-- the walk that stands at g in T comes to its end, with Q -/
def OE (FE : State → Outcome → State → List Loc → Nat → Nat → Prop) (p : Program) (e : Env) (below : List Frame) (s : State) (Q : Option Value → Heap → List Loc → Prop) (kc ks : Nat) (T : State) (g : JFrame) : Prop :=
  ∃ s₂ o, Steps p.tables e below (T.setTop g) s₂ ∧ s₂.status = .running ∧ Ended s₂ below o ∧ ∃ v L, o = .returned v ∧ Q v s₂.heap L ∧ FE s o s₂ L kc ks
variable {FE : State → Outcome → State → List Loc → Nat → Nat → Prop} {Q : Option Value → Heap → List Loc → Prop} {kc ks : Nat} {s' : State}
theorem OE.of {T' : State} {g g' : JFrame} (k : ∀ t, Steps p.tables e below (T'.setTop g') t → Steps p.tables e below (T.setTop g) t) (h : OE FE p e below s Q kc ks T' g') : OE FE p e below s Q kc ks T g := by
  obtain ⟨s₂, o, h1, h2⟩ := h
  exact ⟨s₂, o, k _ h1, h2⟩
theorem OE.retN (X : Stand p l e R s m args below meth c T locs cells slots) (hx : p.tables.exec = Jvm.exec) {pc : Nat} {Ls : Array Slot} {z : Int32} {t : FieldType} {rest : List Value} (hret : meth.sig.returnType = some t) (ht : t = .boolean ∨ t = .byte ∨ t = .char ∨ t = .short) (hlk : meth.locks = false)
    (hd : decode c.code pc = .ok (.ireturn, 1)) (hc : cells ≤ kc) (hs : slots ≤ ks) (hQ : Q (some (.int (nar t z))) T.heap locs) : OE FrameEnd p e below s Q kc ks T (mkF m pc Ls (.int z :: rest)) := by
  obtain ⟨fs, hr, hrun, hended, hW, hsame⟩ := X.leave (v := some (.int (nar t z))) (fun h => by rw [hret] at h; cases h) hlk
  exact ⟨_, _, Jvm.RoadKit.retN X hx hret ht hd hr, hrun, hended, _, _, rfl, hQ, ⟨_, rfl⟩, hW, hsame.mono hc hs⟩
theorem OE.retI (X : Stand p l e R s m args below meth c T locs cells slots) (hx : p.tables.exec = Jvm.exec) {pc : Nat} {Ls : Array Slot} {z : Int32} {rest : List Value} (hret : meth.sig.returnType = some .int) (hlk : meth.locks = false)
    (hd : decode c.code pc = .ok (.ireturn, 1)) (hc : cells ≤ kc) (hs : slots ≤ ks) (hQ : Q (some (.int z)) T.heap locs) : OE FrameEnd p e below s Q kc ks T (mkF m pc Ls (.int z :: rest)) := by
  obtain ⟨fs, hr, hrun, hended, hW, hsame⟩ := X.leave (v := some (.int z)) (fun h => by rw [hret] at h; cases h) hlk
  exact ⟨_, _, Jvm.RoadKit.retI X hx hret hd hr, hrun, hended, _, _, rfl, hQ, ⟨_, rfl⟩, hW, hsame.mono hc hs⟩
theorem OE.retJ (X : Stand p l e R s m args below meth c T locs cells slots) (hx : p.tables.exec = Jvm.exec) {pc : Nat} {Ls : Array Slot} {z : Int64} (hret : meth.sig.returnType = some .long) (hlk : meth.locks = false)
    (hd : decode c.code pc = .ok (.lreturn, 1)) (hc : cells ≤ kc) (hs : slots ≤ ks) (hQ : Q (some (.long z)) T.heap locs) : OE FrameEnd p e below s Q kc ks T (mkF m pc Ls [.long z]) := by
  obtain ⟨fs, hr, hrun, hended, hW, hsame⟩ := X.leave (v := some (.long z)) (fun h => by rw [hret] at h; cases h) hlk
  exact ⟨_, _, X.lreturnOut hx hret hd hr, hrun, hended, _, _, rfl, hQ, ⟨_, rfl⟩, hW, hsame.mono hc hs⟩
theorem OE.retA (X : Stand p l e R s m args below meth c T locs cells slots) (hx : p.tables.exec = Jvm.exec) {pc : Nat} {Ls : Array Slot} {w : Value} {t : FieldType} (hw : w.isRef = true) (hret : meth.sig.returnType = some t) (ht : t.isReference = true) (hlk : meth.locks = false)
    (hd : decode c.code pc = .ok (.areturn, 1)) (hc : cells ≤ kc) (hs : slots ≤ ks) (hQ : Q (some w) T.heap locs) : OE FrameEnd p e below s Q kc ks T (mkF m pc Ls [w]) := by
  obtain ⟨fs, hr, hrun, hended, hW, hsame⟩ := X.leave (v := some w) (fun h => by rw [hret] at h; cases h) hlk
  exact ⟨_, _, X.areturnOut hx hw hret ht hd hr, hrun, hended, _, _, rfl, hQ, ⟨_, rfl⟩, hW, hsame.mono hc hs⟩
theorem OE.ret0 (X : Stand p l e R s m args below meth c T locs cells slots) (hx : p.tables.exec = Jvm.exec) {pc : Nat} {Ls : Array Slot} (hret : meth.sig.returnType = none) (hlk : meth.locks = false)
    (hd : decode c.code pc = .ok (.return_, 1)) (hc : cells ≤ kc) (hs : slots ≤ ks) (hQ : Q none T.heap locs) : OE FrameEnd p e below s Q kc ks T (mkF m pc Ls []) := by
  obtain ⟨fs, hr, hrun, hended, hW, hsame⟩ := X.leave (v := none) (fun _ => rfl) hlk
  exact ⟨_, _, X.returnOut hx hret hd hr, hrun, hended, _, _, rfl, hQ, ⟨_, rfl⟩, hW, hsame.mono hc hs⟩
theorem OE.iload (X : Stand p l e R s' m args below meth c T locs cells slots) (hx : p.tables.exec = Jvm.exec) {code : ByteArray} (hby : c.code = code) {pc : Nat} {Ls : Array Slot} {k : Nat} {v : Int32} {st : List Value} (hd : decode code pc = .ok (.iload k, 2)) (hl : Ls[k]? = some (.val (.int v))) (h : OE FE p e below s Q kc ks T (mkF m (pc + 2) Ls (.int v :: st))) : OE FE p e below s Q kc ks T (mkF m pc Ls (st)) := OE.of (fun _ k' => XS.iload X.here hx rfl (hb hby hd) hl k') h
theorem OE.iloadN (X : Stand p l e R s' m args below meth c T locs cells slots) (hx : p.tables.exec = Jvm.exec) {code : ByteArray} (hby : c.code = code) {pc : Nat} {Ls : Array Slot} {k : Fin 4} {v : Int32} {st : List Value} (hd : decode code pc = .ok (.iload_n k, 1)) (hl : Ls[k.val]? = some (.val (.int v))) (h : OE FE p e below s Q kc ks T (mkF m (pc + 1) Ls (.int v :: st))) : OE FE p e below s Q kc ks T (mkF m pc Ls (st)) := OE.of (fun _ k' => XS.iloadN X.here hx rfl (hb hby hd) hl k') h
theorem OE.lload (X : Stand p l e R s' m args below meth c T locs cells slots) (hx : p.tables.exec = Jvm.exec) {code : ByteArray} (hby : c.code = code) {pc : Nat} {Ls : Array Slot} {k : Nat} {v : Int64} {st : List Value} (hd : decode code pc = .ok (.lload k, 2)) (hl : Ls[k]? = some (.val (.long v))) (h : OE FE p e below s Q kc ks T (mkF m (pc + 2) Ls (.long v :: st))) : OE FE p e below s Q kc ks T (mkF m pc Ls (st)) := OE.of (fun _ k' => XS.lload X.here hx rfl (hb hby hd) hl k') h
theorem OE.lloadN (X : Stand p l e R s' m args below meth c T locs cells slots) (hx : p.tables.exec = Jvm.exec) {code : ByteArray} (hby : c.code = code) {pc : Nat} {Ls : Array Slot} {k : Fin 4} {v : Int64} {st : List Value} (hd : decode code pc = .ok (.lload_n k, 1)) (hl : Ls[k.val]? = some (.val (.long v))) (h : OE FE p e below s Q kc ks T (mkF m (pc + 1) Ls (.long v :: st))) : OE FE p e below s Q kc ks T (mkF m pc Ls (st)) := OE.of (fun _ k' => XS.lloadN X.here hx rfl (hb hby hd) hl k') h
theorem OE.aload (X : Stand p l e R s' m args below meth c T locs cells slots) (hx : p.tables.exec = Jvm.exec) {code : ByteArray} (hby : c.code = code) {pc : Nat} {Ls : Array Slot} {k : Nat} {v : Value} {st : List Value} (hd : decode code pc = .ok (.aload k, 2)) (hl : Ls[k]? = some (.val v)) (hv : v.isRef = true) (h : OE FE p e below s Q kc ks T (mkF m (pc + 2) Ls (v :: st))) : OE FE p e below s Q kc ks T (mkF m pc Ls (st)) := OE.of (fun _ k' => XS.aload X.here hx rfl (hb hby hd) hl hv k') h
theorem OE.aloadN (X : Stand p l e R s' m args below meth c T locs cells slots) (hx : p.tables.exec = Jvm.exec) {code : ByteArray} (hby : c.code = code) {pc : Nat} {Ls : Array Slot} {k : Fin 4} {v : Value} {st : List Value} (hd : decode code pc = .ok (.aload_n k, 1)) (hl : Ls[k.val]? = some (.val v)) (hv : v.isRef = true) (h : OE FE p e below s Q kc ks T (mkF m (pc + 1) Ls (v :: st))) : OE FE p e below s Q kc ks T (mkF m pc Ls (st)) := OE.of (fun _ k' => XS.aloadN X.here hx rfl (hb hby hd) hl hv k') h
theorem OE.istore (X : Stand p l e R s' m args below meth c T locs cells slots) (hx : p.tables.exec = Jvm.exec) {code : ByteArray} (hby : c.code = code) {pc : Nat} {Ls : Array Slot} {k : Nat} {v : Int32} {st : List Value} {l' : Array Slot} (hd : decode code pc = .ok (.istore k, 2)) (hl : storeLocals Ls k (.int v) = some l') (h : OE FE p e below s Q kc ks T (mkF m (pc + 2) l' (st))) : OE FE p e below s Q kc ks T (mkF m pc Ls (.int v :: st)) := OE.of (fun _ k' => XS.istore X.here hx rfl (hb hby hd) rfl hl k') h
theorem OE.istoreN (X : Stand p l e R s' m args below meth c T locs cells slots) (hx : p.tables.exec = Jvm.exec) {code : ByteArray} (hby : c.code = code) {pc : Nat} {Ls : Array Slot} {k : Fin 4} {v : Int32} {st : List Value} {l' : Array Slot} (hd : decode code pc = .ok (.istore_n k, 1)) (hl : storeLocals Ls k.val (.int v) = some l') (h : OE FE p e below s Q kc ks T (mkF m (pc + 1) l' (st))) : OE FE p e below s Q kc ks T (mkF m pc Ls (.int v :: st)) := OE.of (fun _ k' => XS.istoreN X.here hx rfl (hb hby hd) rfl hl k') h
theorem OE.lstore (X : Stand p l e R s' m args below meth c T locs cells slots) (hx : p.tables.exec = Jvm.exec) {code : ByteArray} (hby : c.code = code) {pc : Nat} {Ls : Array Slot} {k : Nat} {v : Int64} {st : List Value} {l' : Array Slot} (hd : decode code pc = .ok (.lstore k, 2)) (hl : storeLocals Ls k (.long v) = some l') (h : OE FE p e below s Q kc ks T (mkF m (pc + 2) l' (st))) : OE FE p e below s Q kc ks T (mkF m pc Ls (.long v :: st)) := OE.of (fun _ k' => XS.lstore X.here hx rfl (hb hby hd) rfl hl k') h
theorem OE.lstoreN (X : Stand p l e R s' m args below meth c T locs cells slots) (hx : p.tables.exec = Jvm.exec) {code : ByteArray} (hby : c.code = code) {pc : Nat} {Ls : Array Slot} {k : Fin 4} {v : Int64} {st : List Value} {l' : Array Slot} (hd : decode code pc = .ok (.lstore_n k, 1)) (hl : storeLocals Ls k.val (.long v) = some l') (h : OE FE p e below s Q kc ks T (mkF m (pc + 1) l' (st))) : OE FE p e below s Q kc ks T (mkF m pc Ls (.long v :: st)) := OE.of (fun _ k' => XS.lstoreN X.here hx rfl (hb hby hd) rfl hl k') h
theorem OE.astore (X : Stand p l e R s' m args below meth c T locs cells slots) (hx : p.tables.exec = Jvm.exec) {code : ByteArray} (hby : c.code = code) {pc : Nat} {Ls : Array Slot} {k : Nat} {v : Value} {st : List Value} {l' : Array Slot} (hd : decode code pc = .ok (.astore k, 2)) (hv : v.isRef = true) (hl : storeLocals Ls k v = some l') (h : OE FE p e below s Q kc ks T (mkF m (pc + 2) l' (st))) : OE FE p e below s Q kc ks T (mkF m pc Ls (v :: st)) := OE.of (fun _ k' => XS.astore X.here hx rfl (hb hby hd) rfl hv hl k') h
theorem OE.astoreN (X : Stand p l e R s' m args below meth c T locs cells slots) (hx : p.tables.exec = Jvm.exec) {code : ByteArray} (hby : c.code = code) {pc : Nat} {Ls : Array Slot} {k : Fin 4} {v : Value} {st : List Value} {l' : Array Slot} (hd : decode code pc = .ok (.astore_n k, 1)) (hv : v.isRef = true) (hl : storeLocals Ls k.val v = some l') (h : OE FE p e below s Q kc ks T (mkF m (pc + 1) l' (st))) : OE FE p e below s Q kc ks T (mkF m pc Ls (v :: st)) := OE.of (fun _ k' => XS.astoreN X.here hx rfl (hb hby hd) rfl hv hl k') h
theorem OE.iconst (X : Stand p l e R s' m args below meth c T locs cells slots) (hx : p.tables.exec = Jvm.exec) {code : ByteArray} (hby : c.code = code) {pc : Nat} {Ls : Array Slot} {i : Int} {st : List Value} (hd : decode code pc = .ok (.iconst i, 1)) (z : Int32) (hz : Int32.ofInt i = z) (h : OE FE p e below s Q kc ks T (mkF m (pc + 1) Ls (.int z :: st))) : OE FE p e below s Q kc ks T (mkF m pc Ls (st)) := OE.of (fun _ k' => XS.iconst X.here hx rfl (hb hby hd) (by subst hz; exact k')) h
theorem OE.bipush (X : Stand p l e R s' m args below meth c T locs cells slots) (hx : p.tables.exec = Jvm.exec) {code : ByteArray} (hby : c.code = code) {pc : Nat} {Ls : Array Slot} {i : Int} {st : List Value} (hd : decode code pc = .ok (.bipush i, 2)) (z : Int32) (hz : (Int8.ofInt i).toInt32 = z) (h : OE FE p e below s Q kc ks T (mkF m (pc + 2) Ls (.int z :: st))) : OE FE p e below s Q kc ks T (mkF m pc Ls (st)) := OE.of (fun _ k' => XS.bipush X.here hx rfl (hb hby hd) (by subst hz; exact k')) h
theorem OE.sipush (X : Stand p l e R s' m args below meth c T locs cells slots) (hx : p.tables.exec = Jvm.exec) {code : ByteArray} (hby : c.code = code) {pc : Nat} {Ls : Array Slot} {i : Int} {st : List Value} (hd : decode code pc = .ok (.sipush i, 3)) (z : Int32) (hz : (Int16.ofInt i).toInt32 = z) (h : OE FE p e below s Q kc ks T (mkF m (pc + 3) Ls (.int z :: st))) : OE FE p e below s Q kc ks T (mkF m pc Ls (st)) := OE.of (fun _ k' => XS.sipush X.here hx rfl (hb hby hd) (by subst hz; exact k')) h
theorem OE.lconst (X : Stand p l e R s' m args below meth c T locs cells slots) (hx : p.tables.exec = Jvm.exec) {code : ByteArray} (hby : c.code = code) {pc : Nat} {Ls : Array Slot} {i : Fin 2} {st : List Value} (hd : decode code pc = .ok (.lconst i, 1)) (z : Int64) (hz : Int64.ofNat i = z) (h : OE FE p e below s Q kc ks T (mkF m (pc + 1) Ls (.long z :: st))) : OE FE p e below s Q kc ks T (mkF m pc Ls (st)) := OE.of (fun _ k' => XS.lconst X.here hx rfl (hb hby hd) (by subst hz; exact k')) h
theorem OE.aconstNull (X : Stand p l e R s' m args below meth c T locs cells slots) (hx : p.tables.exec = Jvm.exec) {code : ByteArray} (hby : c.code = code) {pc : Nat} {Ls : Array Slot} {st : List Value} (hd : decode code pc = .ok (.aconst_null, 1))  (h : OE FE p e below s Q kc ks T (mkF m (pc + 1) Ls (.null :: st))) : OE FE p e below s Q kc ks T (mkF m pc Ls (st)) := OE.of (fun _ k' => XS.aconstNull X.here hx rfl (hb hby hd) k') h
theorem OE.iadd (X : Stand p l e R s' m args below meth c T locs cells slots) (hx : p.tables.exec = Jvm.exec) {code : ByteArray} (hby : c.code = code) {pc : Nat} {Ls : Array Slot} {x y : Int32} {st : List Value} (hd : decode code pc = .ok (.iadd, 1))  (h : OE FE p e below s Q kc ks T (mkF m (pc + 1) Ls (.int (x + y) :: st))) : OE FE p e below s Q kc ks T (mkF m pc Ls (.int y :: .int x :: st)) := OE.of (fun _ k' => XS.iadd X.here hx rfl (hb hby hd) rfl k') h
theorem OE.ladd (X : Stand p l e R s' m args below meth c T locs cells slots) (hx : p.tables.exec = Jvm.exec) {code : ByteArray} (hby : c.code = code) {pc : Nat} {Ls : Array Slot} {x y : Int64} {st : List Value} (hd : decode code pc = .ok (.ladd, 1))  (h : OE FE p e below s Q kc ks T (mkF m (pc + 1) Ls (.long (x + y) :: st))) : OE FE p e below s Q kc ks T (mkF m pc Ls (.long y :: .long x :: st)) := OE.of (fun _ k' => XS.ladd X.here hx rfl (hb hby hd) rfl k') h
theorem OE.isub (X : Stand p l e R s' m args below meth c T locs cells slots) (hx : p.tables.exec = Jvm.exec) {code : ByteArray} (hby : c.code = code) {pc : Nat} {Ls : Array Slot} {x y : Int32} {st : List Value} (hd : decode code pc = .ok (.isub, 1))  (h : OE FE p e below s Q kc ks T (mkF m (pc + 1) Ls (.int (x - y) :: st))) : OE FE p e below s Q kc ks T (mkF m pc Ls (.int y :: .int x :: st)) := OE.of (fun _ k' => XS.isub X.here hx rfl (hb hby hd) rfl k') h
theorem OE.lsub (X : Stand p l e R s' m args below meth c T locs cells slots) (hx : p.tables.exec = Jvm.exec) {code : ByteArray} (hby : c.code = code) {pc : Nat} {Ls : Array Slot} {x y : Int64} {st : List Value} (hd : decode code pc = .ok (.lsub, 1))  (h : OE FE p e below s Q kc ks T (mkF m (pc + 1) Ls (.long (x - y) :: st))) : OE FE p e below s Q kc ks T (mkF m pc Ls (.long y :: .long x :: st)) := OE.of (fun _ k' => XS.lsub X.here hx rfl (hb hby hd) rfl k') h
theorem OE.imul (X : Stand p l e R s' m args below meth c T locs cells slots) (hx : p.tables.exec = Jvm.exec) {code : ByteArray} (hby : c.code = code) {pc : Nat} {Ls : Array Slot} {x y : Int32} {st : List Value} (hd : decode code pc = .ok (.imul, 1))  (h : OE FE p e below s Q kc ks T (mkF m (pc + 1) Ls (.int (x * y) :: st))) : OE FE p e below s Q kc ks T (mkF m pc Ls (.int y :: .int x :: st)) := OE.of (fun _ k' => XS.imul X.here hx rfl (hb hby hd) rfl k') h
theorem OE.lmul (X : Stand p l e R s' m args below meth c T locs cells slots) (hx : p.tables.exec = Jvm.exec) {code : ByteArray} (hby : c.code = code) {pc : Nat} {Ls : Array Slot} {x y : Int64} {st : List Value} (hd : decode code pc = .ok (.lmul, 1))  (h : OE FE p e below s Q kc ks T (mkF m (pc + 1) Ls (.long (x * y) :: st))) : OE FE p e below s Q kc ks T (mkF m pc Ls (.long y :: .long x :: st)) := OE.of (fun _ k' => XS.lmul X.here hx rfl (hb hby hd) rfl k') h
theorem OE.iand (X : Stand p l e R s' m args below meth c T locs cells slots) (hx : p.tables.exec = Jvm.exec) {code : ByteArray} (hby : c.code = code) {pc : Nat} {Ls : Array Slot} {x y : Int32} {st : List Value} (hd : decode code pc = .ok (.iand, 1))  (h : OE FE p e below s Q kc ks T (mkF m (pc + 1) Ls (.int (x &&& y) :: st))) : OE FE p e below s Q kc ks T (mkF m pc Ls (.int y :: .int x :: st)) := OE.of (fun _ k' => XS.iand X.here hx rfl (hb hby hd) rfl k') h
theorem OE.land (X : Stand p l e R s' m args below meth c T locs cells slots) (hx : p.tables.exec = Jvm.exec) {code : ByteArray} (hby : c.code = code) {pc : Nat} {Ls : Array Slot} {x y : Int64} {st : List Value} (hd : decode code pc = .ok (.land, 1))  (h : OE FE p e below s Q kc ks T (mkF m (pc + 1) Ls (.long (x &&& y) :: st))) : OE FE p e below s Q kc ks T (mkF m pc Ls (.long y :: .long x :: st)) := OE.of (fun _ k' => XS.land X.here hx rfl (hb hby hd) rfl k') h
theorem OE.ior (X : Stand p l e R s' m args below meth c T locs cells slots) (hx : p.tables.exec = Jvm.exec) {code : ByteArray} (hby : c.code = code) {pc : Nat} {Ls : Array Slot} {x y : Int32} {st : List Value} (hd : decode code pc = .ok (.ior, 1))  (h : OE FE p e below s Q kc ks T (mkF m (pc + 1) Ls (.int (x ||| y) :: st))) : OE FE p e below s Q kc ks T (mkF m pc Ls (.int y :: .int x :: st)) := OE.of (fun _ k' => XS.ior X.here hx rfl (hb hby hd) rfl k') h
theorem OE.lor (X : Stand p l e R s' m args below meth c T locs cells slots) (hx : p.tables.exec = Jvm.exec) {code : ByteArray} (hby : c.code = code) {pc : Nat} {Ls : Array Slot} {x y : Int64} {st : List Value} (hd : decode code pc = .ok (.lor, 1))  (h : OE FE p e below s Q kc ks T (mkF m (pc + 1) Ls (.long (x ||| y) :: st))) : OE FE p e below s Q kc ks T (mkF m pc Ls (.long y :: .long x :: st)) := OE.of (fun _ k' => XS.lor X.here hx rfl (hb hby hd) rfl k') h
theorem OE.ixor (X : Stand p l e R s' m args below meth c T locs cells slots) (hx : p.tables.exec = Jvm.exec) {code : ByteArray} (hby : c.code = code) {pc : Nat} {Ls : Array Slot} {x y : Int32} {st : List Value} (hd : decode code pc = .ok (.ixor, 1))  (h : OE FE p e below s Q kc ks T (mkF m (pc + 1) Ls (.int (x ^^^ y) :: st))) : OE FE p e below s Q kc ks T (mkF m pc Ls (.int y :: .int x :: st)) := OE.of (fun _ k' => XS.ixor X.here hx rfl (hb hby hd) rfl k') h
theorem OE.lxor (X : Stand p l e R s' m args below meth c T locs cells slots) (hx : p.tables.exec = Jvm.exec) {code : ByteArray} (hby : c.code = code) {pc : Nat} {Ls : Array Slot} {x y : Int64} {st : List Value} (hd : decode code pc = .ok (.lxor, 1))  (h : OE FE p e below s Q kc ks T (mkF m (pc + 1) Ls (.long (x ^^^ y) :: st))) : OE FE p e below s Q kc ks T (mkF m pc Ls (.long y :: .long x :: st)) := OE.of (fun _ k' => XS.lxor X.here hx rfl (hb hby hd) rfl k') h
theorem OE.ishl (X : Stand p l e R s' m args below meth c T locs cells slots) (hx : p.tables.exec = Jvm.exec) {code : ByteArray} (hby : c.code = code) {pc : Nat} {Ls : Array Slot} {x y : Int32} {st : List Value} (hd : decode code pc = .ok (.ishl, 1))  (h : OE FE p e below s Q kc ks T (mkF m (pc + 1) Ls (.int (x <<< (y &&& 31)) :: st))) : OE FE p e below s Q kc ks T (mkF m pc Ls (.int y :: .int x :: st)) := OE.of (fun _ k' => XS.ishl X.here hx rfl (hb hby hd) rfl k') h
theorem OE.ishr (X : Stand p l e R s' m args below meth c T locs cells slots) (hx : p.tables.exec = Jvm.exec) {code : ByteArray} (hby : c.code = code) {pc : Nat} {Ls : Array Slot} {x y : Int32} {st : List Value} (hd : decode code pc = .ok (.ishr, 1))  (h : OE FE p e below s Q kc ks T (mkF m (pc + 1) Ls (.int (x >>> (y &&& 31)) :: st))) : OE FE p e below s Q kc ks T (mkF m pc Ls (.int y :: .int x :: st)) := OE.of (fun _ k' => XS.ishr X.here hx rfl (hb hby hd) rfl k') h
theorem OE.iushr (X : Stand p l e R s' m args below meth c T locs cells slots) (hx : p.tables.exec = Jvm.exec) {code : ByteArray} (hby : c.code = code) {pc : Nat} {Ls : Array Slot} {x y : Int32} {st : List Value} (hd : decode code pc = .ok (.iushr, 1))  (h : OE FE p e below s Q kc ks T (mkF m (pc + 1) Ls (.int ((x.toUInt32 >>> (y &&& 31).toUInt32).toInt32) :: st))) : OE FE p e below s Q kc ks T (mkF m pc Ls (.int y :: .int x :: st)) := OE.of (fun _ k' => XS.iushr X.here hx rfl (hb hby hd) rfl k') h
theorem OE.lshl (X : Stand p l e R s' m args below meth c T locs cells slots) (hx : p.tables.exec = Jvm.exec) {code : ByteArray} (hby : c.code = code) {pc : Nat} {Ls : Array Slot} {x : Int64} {y : Int32} {st : List Value} (hd : decode code pc = .ok (.lshl, 1))  (h : OE FE p e below s Q kc ks T (mkF m (pc + 1) Ls (.long (x <<< (y &&& 0x3f).toInt64) :: st))) : OE FE p e below s Q kc ks T (mkF m pc Ls (.int y :: .long x :: st)) := OE.of (fun _ k' => XS.lshl X.here hx rfl (hb hby hd) rfl k') h
theorem OE.lshr (X : Stand p l e R s' m args below meth c T locs cells slots) (hx : p.tables.exec = Jvm.exec) {code : ByteArray} (hby : c.code = code) {pc : Nat} {Ls : Array Slot} {x : Int64} {y : Int32} {st : List Value} (hd : decode code pc = .ok (.lshr, 1))  (h : OE FE p e below s Q kc ks T (mkF m (pc + 1) Ls (.long (x >>> (y &&& 0x3f).toInt64) :: st))) : OE FE p e below s Q kc ks T (mkF m pc Ls (.int y :: .long x :: st)) := OE.of (fun _ k' => XS.lshr X.here hx rfl (hb hby hd) rfl k') h
theorem OE.lushr (X : Stand p l e R s' m args below meth c T locs cells slots) (hx : p.tables.exec = Jvm.exec) {code : ByteArray} (hby : c.code = code) {pc : Nat} {Ls : Array Slot} {x : Int64} {y : Int32} {st : List Value} (hd : decode code pc = .ok (.lushr, 1))  (h : OE FE p e below s Q kc ks T (mkF m (pc + 1) Ls (.long ((x.toUInt64 >>> (y &&& 0x3f).toInt64.toUInt64).toInt64) :: st))) : OE FE p e below s Q kc ks T (mkF m pc Ls (.int y :: .long x :: st)) := OE.of (fun _ k' => XS.lushr X.here hx rfl (hb hby hd) rfl k') h
theorem OE.ineg (X : Stand p l e R s' m args below meth c T locs cells slots) (hx : p.tables.exec = Jvm.exec) {code : ByteArray} (hby : c.code = code) {pc : Nat} {Ls : Array Slot} {x : Int32} {st : List Value} (hd : decode code pc = .ok (.ineg, 1))  (h : OE FE p e below s Q kc ks T (mkF m (pc + 1) Ls (.int (-x) :: st))) : OE FE p e below s Q kc ks T (mkF m pc Ls (.int x :: st)) := OE.of (fun _ k' => XS.ineg X.here hx rfl (hb hby hd) rfl k') h
theorem OE.lneg (X : Stand p l e R s' m args below meth c T locs cells slots) (hx : p.tables.exec = Jvm.exec) {code : ByteArray} (hby : c.code = code) {pc : Nat} {Ls : Array Slot} {x : Int64} {st : List Value} (hd : decode code pc = .ok (.lneg, 1))  (h : OE FE p e below s Q kc ks T (mkF m (pc + 1) Ls (.long (-x) :: st))) : OE FE p e below s Q kc ks T (mkF m pc Ls (.long x :: st)) := OE.of (fun _ k' => XS.lneg X.here hx rfl (hb hby hd) rfl k') h
theorem OE.i2l (X : Stand p l e R s' m args below meth c T locs cells slots) (hx : p.tables.exec = Jvm.exec) {code : ByteArray} (hby : c.code = code) {pc : Nat} {Ls : Array Slot} {x : Int32} {st : List Value} (hd : decode code pc = .ok (.i2l, 1))  (h : OE FE p e below s Q kc ks T (mkF m (pc + 1) Ls (.long x.toInt64 :: st))) : OE FE p e below s Q kc ks T (mkF m pc Ls (.int x :: st)) := OE.of (fun _ k' => XS.i2l X.here hx rfl (hb hby hd) rfl k') h
theorem OE.l2i (X : Stand p l e R s' m args below meth c T locs cells slots) (hx : p.tables.exec = Jvm.exec) {code : ByteArray} (hby : c.code = code) {pc : Nat} {Ls : Array Slot} {x : Int64} {st : List Value} (hd : decode code pc = .ok (.l2i, 1))  (h : OE FE p e below s Q kc ks T (mkF m (pc + 1) Ls (.int x.toInt32 :: st))) : OE FE p e below s Q kc ks T (mkF m pc Ls (.long x :: st)) := OE.of (fun _ k' => XS.l2i X.here hx rfl (hb hby hd) rfl k') h
theorem OE.i2b (X : Stand p l e R s' m args below meth c T locs cells slots) (hx : p.tables.exec = Jvm.exec) {code : ByteArray} (hby : c.code = code) {pc : Nat} {Ls : Array Slot} {x : Int32} {st : List Value} (hd : decode code pc = .ok (.i2b, 1))  (h : OE FE p e below s Q kc ks T (mkF m (pc + 1) Ls (.int x.toInt8.toInt32 :: st))) : OE FE p e below s Q kc ks T (mkF m pc Ls (.int x :: st)) := OE.of (fun _ k' => XS.i2b X.here hx rfl (hb hby hd) rfl k') h
theorem OE.i2s (X : Stand p l e R s' m args below meth c T locs cells slots) (hx : p.tables.exec = Jvm.exec) {code : ByteArray} (hby : c.code = code) {pc : Nat} {Ls : Array Slot} {x : Int32} {st : List Value} (hd : decode code pc = .ok (.i2s, 1))  (h : OE FE p e below s Q kc ks T (mkF m (pc + 1) Ls (.int x.toInt16.toInt32 :: st))) : OE FE p e below s Q kc ks T (mkF m pc Ls (.int x :: st)) := OE.of (fun _ k' => XS.i2s X.here hx rfl (hb hby hd) rfl k') h
theorem OE.i2c (X : Stand p l e R s' m args below meth c T locs cells slots) (hx : p.tables.exec = Jvm.exec) {code : ByteArray} (hby : c.code = code) {pc : Nat} {Ls : Array Slot} {x : Int32} {st : List Value} (hd : decode code pc = .ok (.i2c, 1))  (h : OE FE p e below s Q kc ks T (mkF m (pc + 1) Ls (.int x.toUInt32.toUInt16.toUInt32.toInt32 :: st))) : OE FE p e below s Q kc ks T (mkF m pc Ls (.int x :: st)) := OE.of (fun _ k' => XS.i2c X.here hx rfl (hb hby hd) rfl k') h
theorem OE.lcmp (X : Stand p l e R s' m args below meth c T locs cells slots) (hx : p.tables.exec = Jvm.exec) {code : ByteArray} (hby : c.code = code) {pc : Nat} {Ls : Array Slot} {x y : Int64} {st : List Value} (hd : decode code pc = .ok (.lcmp, 1))  (h : OE FE p e below s Q kc ks T (mkF m (pc + 1) Ls (.int (lcmpW x y) :: st))) : OE FE p e below s Q kc ks T (mkF m pc Ls (.long y :: .long x :: st)) := OE.of (fun _ k' => XS.lcmp X.here hx rfl (hb hby hd) rfl k') h
theorem OE.idiv (X : Stand p l e R s' m args below meth c T locs cells slots) (hx : p.tables.exec = Jvm.exec) {code : ByteArray} (hby : c.code = code) {pc : Nat} {Ls : Array Slot} {x y : Int32} {st : List Value} (hd : decode code pc = .ok (.idiv, 1)) (hy : y ≠ 0) (h : OE FE p e below s Q kc ks T (mkF m (pc + 1) Ls (.int (x / y) :: st))) : OE FE p e below s Q kc ks T (mkF m pc Ls (.int y :: .int x :: st)) := OE.of (fun _ k' => XS.idiv X.here hx rfl (hb hby hd) rfl hy k') h
theorem OE.irem (X : Stand p l e R s' m args below meth c T locs cells slots) (hx : p.tables.exec = Jvm.exec) {code : ByteArray} (hby : c.code = code) {pc : Nat} {Ls : Array Slot} {x y : Int32} {st : List Value} (hd : decode code pc = .ok (.irem, 1)) (hy : y ≠ 0) (h : OE FE p e below s Q kc ks T (mkF m (pc + 1) Ls (.int (x % y) :: st))) : OE FE p e below s Q kc ks T (mkF m pc Ls (.int y :: .int x :: st)) := OE.of (fun _ k' => XS.irem X.here hx rfl (hb hby hd) rfl hy (by rw [irem_eq_mod]; exact k')) h
theorem OE.ldiv (X : Stand p l e R s' m args below meth c T locs cells slots) (hx : p.tables.exec = Jvm.exec) {code : ByteArray} (hby : c.code = code) {pc : Nat} {Ls : Array Slot} {x y : Int64} {st : List Value} (hd : decode code pc = .ok (.ldiv, 1)) (hy : y ≠ 0) (h : OE FE p e below s Q kc ks T (mkF m (pc + 1) Ls (.long (x / y) :: st))) : OE FE p e below s Q kc ks T (mkF m pc Ls (.long y :: .long x :: st)) := OE.of (fun _ k' => XS.ldiv X.here hx rfl (hb hby hd) rfl hy k') h
theorem OE.lrem (X : Stand p l e R s' m args below meth c T locs cells slots) (hx : p.tables.exec = Jvm.exec) {code : ByteArray} (hby : c.code = code) {pc : Nat} {Ls : Array Slot} {x y : Int64} {st : List Value} (hd : decode code pc = .ok (.lrem, 1)) (hy : y ≠ 0) (h : OE FE p e below s Q kc ks T (mkF m (pc + 1) Ls (.long (x % y) :: st))) : OE FE p e below s Q kc ks T (mkF m pc Ls (.long y :: .long x :: st)) := OE.of (fun _ k' => XS.lrem X.here hx rfl (hb hby hd) rfl hy (by rw [lrem_mod]; exact k')) h
theorem OE.iinc (X : Stand p l e R s' m args below meth c T locs cells slots) (hx : p.tables.exec = Jvm.exec) {code : ByteArray} (hby : c.code = code) {pc : Nat} {Ls : Array Slot} {k : Nat} {cst : Int} {x : Int32} {l' : Array Slot} {st : List Value} (hd : decode code pc = .ok (.iinc k cst, 3)) (hl : Ls[k]? = some (.val (.int x))) (hl' : storeLocals Ls k (.int (x + Int32.ofInt cst)) = some l') (h : OE FE p e below s Q kc ks T (mkF m (pc + 3) l' (st))) : OE FE p e below s Q kc ks T (mkF m pc Ls (st)) := OE.of (fun _ k' => XS.iinc X.here hx rfl (hb hby hd) hl hl' k') h
theorem OE.dup (X : Stand p l e R s' m args below meth c T locs cells slots) (hx : p.tables.exec = Jvm.exec) {code : ByteArray} (hby : c.code = code) {pc : Nat} {Ls : Array Slot} {v : Value} {st : List Value} (hd : decode code pc = .ok (.dup, 1)) (hc : v.category = 1) (h : OE FE p e below s Q kc ks T (mkF m (pc + 1) Ls (v :: v :: st))) : OE FE p e below s Q kc ks T (mkF m pc Ls (v :: st)) := OE.of (fun _ k' => XS.dup X.here hx rfl (hb hby hd) rfl hc k') h
theorem OE.pop (X : Stand p l e R s' m args below meth c T locs cells slots) (hx : p.tables.exec = Jvm.exec) {code : ByteArray} (hby : c.code = code) {pc : Nat} {Ls : Array Slot} {v : Value} {st : List Value} (hd : decode code pc = .ok (.pop, 1)) (hc : v.category = 1) (h : OE FE p e below s Q kc ks T (mkF m (pc + 1) Ls (st))) : OE FE p e below s Q kc ks T (mkF m pc Ls (v :: st)) := OE.of (fun _ k' => XS.pop X.here hx rfl (hb hby hd) rfl hc k') h
theorem OE.dupX1 (X : Stand p l e R s' m args below meth c T locs cells slots) (hx : p.tables.exec = Jvm.exec) {code : ByteArray} (hby : c.code = code) {pc : Nat} {Ls : Array Slot} {v w : Value} {st : List Value} (hd : decode code pc = .ok (.dup_x1, 1)) (hc : v.category = 1) (hc' : w.category = 1) (h : OE FE p e below s Q kc ks T (mkF m (pc + 1) Ls (v :: w :: v :: st))) : OE FE p e below s Q kc ks T (mkF m pc Ls (v :: w :: st)) := OE.of (fun _ k' => XS.dupX1 X.here hx rfl (hb hby hd) rfl hc hc' k') h
theorem OE.dup2 (X : Stand p l e R s' m args below meth c T locs cells slots) (hx : p.tables.exec = Jvm.exec) {code : ByteArray} (hby : c.code = code) {pc : Nat} {Ls : Array Slot} {v w : Value} {st : List Value} (hd : decode code pc = .ok (.dup2, 1)) (hc : v.category = 1) (hc' : w.category = 1) (h : OE FE p e below s Q kc ks T (mkF m (pc + 1) Ls (v :: w :: v :: w :: st))) : OE FE p e below s Q kc ks T (mkF m pc Ls (v :: w :: st)) := OE.of (fun _ k' => Jvm.Free.XT.dup2 X.here hx rfl (hb hby hd) rfl hc hc' k') h
theorem OE.dup2L (X : Stand p l e R s' m args below meth c T locs cells slots) (hx : p.tables.exec = Jvm.exec) {code : ByteArray} (hby : c.code = code) {pc : Nat} {Ls : Array Slot} {v : Int64} {st : List Value} (hd : decode code pc = .ok (.dup2, 1))  (h : OE FE p e below s Q kc ks T (mkF m (pc + 1) Ls (.long v :: .long v :: st))) : OE FE p e below s Q kc ks T (mkF m pc Ls (.long v :: st)) := OE.of (fun _ k' => Jvm.Free.XT.dup2L X.here hx rfl (hb hby hd) rfl k') h
theorem OE.goto (X : Stand p l e R s' m args below meth c T locs cells slots) (hx : p.tables.exec = Jvm.exec) {code : ByteArray} (hby : c.code = code) {pc : Nat} {Ls : Array Slot} {o : Int} (pc' : Nat) {st : List Value} (hd : decode code pc = .ok (.goto o, 3)) (ho : 0 ≤ (pc : Int) + o := by decide) (hp : ((pc : Int) + o).toNat = pc' := by decide) (h : OE FE p e below s Q kc ks T (mkF m pc' Ls (st))) : OE FE p e below s Q kc ks T (mkF m pc Ls (st)) := OE.of (fun _ k' => XS.goto X.here hx rfl rfl (hb hby hd) ho hp k') h
theorem OE.ifYes (X : Stand p l e R s' m args below meth c T locs cells slots) (hx : p.tables.exec = Jvm.exec) {code : ByteArray} (hby : c.code = code) {pc : Nat} {Ls : Array Slot} {cd : ClassFile.Cond} {x : Int32} {o : Int} (pc' : Nat) {st : List Value} (hd : decode code pc = .ok (.ifCond cd o, 3)) (hc : if_icmp.holds cd x 0 = true) (ho : 0 ≤ (pc : Int) + o := by decide) (hp : ((pc : Int) + o).toNat = pc' := by decide) (h : OE FE p e below s Q kc ks T (mkF m pc' Ls (st))) : OE FE p e below s Q kc ks T (mkF m pc Ls (.int x :: st)) := OE.of (fun _ k' => XS.ifYes X.here hx rfl rfl (hb hby hd) rfl ((if0 _ _).trans hc) ho hp k') h
theorem OE.ifNo (X : Stand p l e R s' m args below meth c T locs cells slots) (hx : p.tables.exec = Jvm.exec) {code : ByteArray} (hby : c.code = code) {pc : Nat} {Ls : Array Slot} {cd : ClassFile.Cond} {x : Int32} {o : Int} {st : List Value} (hd : decode code pc = .ok (.ifCond cd o, 3)) (hc : if_icmp.holds cd x 0 = false) (h : OE FE p e below s Q kc ks T (mkF m (pc + 3) Ls (st))) : OE FE p e below s Q kc ks T (mkF m pc Ls (.int x :: st)) := OE.of (fun _ k' => XS.ifNo X.here hx rfl (hb hby hd) rfl ((if0 _ _).trans hc) k') h
theorem OE.icmpYes (X : Stand p l e R s' m args below meth c T locs cells slots) (hx : p.tables.exec = Jvm.exec) {code : ByteArray} (hby : c.code = code) {pc : Nat} {Ls : Array Slot} {cd : ClassFile.Cond} {x y : Int32} {o : Int} (pc' : Nat) {st : List Value} (hd : decode code pc = .ok (.if_icmp cd o, 3)) (hc : if_icmp.holds cd x y = true) (ho : 0 ≤ (pc : Int) + o := by decide) (hp : ((pc : Int) + o).toNat = pc' := by decide) (h : OE FE p e below s Q kc ks T (mkF m pc' Ls (st))) : OE FE p e below s Q kc ks T (mkF m pc Ls (.int y :: .int x :: st)) := OE.of (fun _ k' => XS.icmpYes X.here hx rfl rfl (hb hby hd) rfl hc ho hp k') h
theorem OE.icmpNo (X : Stand p l e R s' m args below meth c T locs cells slots) (hx : p.tables.exec = Jvm.exec) {code : ByteArray} (hby : c.code = code) {pc : Nat} {Ls : Array Slot} {cd : ClassFile.Cond} {x y : Int32} {o : Int} {st : List Value} (hd : decode code pc = .ok (.if_icmp cd o, 3)) (hc : if_icmp.holds cd x y = false) (h : OE FE p e below s Q kc ks T (mkF m (pc + 3) Ls (st))) : OE FE p e below s Q kc ks T (mkF m pc Ls (.int y :: .int x :: st)) := OE.of (fun _ k' => XS.icmpNo X.here hx rfl (hb hby hd) rfl hc k') h
theorem OE.ifnullYes (X : Stand p l e R s' m args below meth c T locs cells slots) (hx : p.tables.exec = Jvm.exec) {code : ByteArray} (hby : c.code = code) {pc : Nat} {Ls : Array Slot} {o : Int} (pc' : Nat) {st : List Value} (hd : decode code pc = .ok (.ifnull o, 3)) (ho : 0 ≤ (pc : Int) + o := by decide) (hp : ((pc : Int) + o).toNat = pc' := by decide) (h : OE FE p e below s Q kc ks T (mkF m pc' Ls (st))) : OE FE p e below s Q kc ks T (mkF m pc Ls (.null :: st)) := OE.of (fun _ k' => XS.ifnullYes X.here hx rfl rfl (hb hby hd) rfl ho hp k') h
theorem OE.ifnullNo (X : Stand p l e R s' m args below meth c T locs cells slots) (hx : p.tables.exec = Jvm.exec) {code : ByteArray} (hby : c.code = code) {pc : Nat} {Ls : Array Slot} {b : Addr} {o : Int} {st : List Value} (hd : decode code pc = .ok (.ifnull o, 3))  (h : OE FE p e below s Q kc ks T (mkF m (pc + 3) Ls (st))) : OE FE p e below s Q kc ks T (mkF m pc Ls (.ref b :: st)) := OE.of (fun _ k' => XS.ifnullNo X.here hx rfl (hb hby hd) rfl k') h
theorem OE.ifnonnullYes (X : Stand p l e R s' m args below meth c T locs cells slots) (hx : p.tables.exec = Jvm.exec) {code : ByteArray} (hby : c.code = code) {pc : Nat} {Ls : Array Slot} {b : Addr} {o : Int} (pc' : Nat) {st : List Value} (hd : decode code pc = .ok (.ifnonnull o, 3)) (ho : 0 ≤ (pc : Int) + o := by decide) (hp : ((pc : Int) + o).toNat = pc' := by decide) (h : OE FE p e below s Q kc ks T (mkF m pc' Ls (st))) : OE FE p e below s Q kc ks T (mkF m pc Ls (.ref b :: st)) := OE.of (fun _ k' => XS.ifnonnullYes X.here hx rfl rfl (hb hby hd) rfl ho hp k') h
theorem OE.ifnonnullNo (X : Stand p l e R s' m args below meth c T locs cells slots) (hx : p.tables.exec = Jvm.exec) {code : ByteArray} (hby : c.code = code) {pc : Nat} {Ls : Array Slot} {o : Int} {st : List Value} (hd : decode code pc = .ok (.ifnonnull o, 3))  (h : OE FE p e below s Q kc ks T (mkF m (pc + 3) Ls (st))) : OE FE p e below s Q kc ks T (mkF m pc Ls (.null :: st)) := OE.of (fun _ k' => XS.ifnonnullNo X.here hx rfl (hb hby hd) rfl k') h
end New
end Jvm.RoadKit
namespace Jvm.Pilot.@@N@@
open Jvm Jvm.ClassFile Sem Op Lib Jvm.Free Jvm.Stand Jvm.LawKit Jvm.RoadKit Bundle Jvm.Pilot.@@N@@.Jvm.D
theorem own_out {x : Int32} (h1 : ¬ x = 9) (h2 : ¬ x = 10) (h3 : ¬ x = 11) (h4 : ¬ x = 12) (h5 : ¬ x = 13) : x.toInt < 9 ∨ x.toInt > 13 := by
  have e : ∀ k : Int32, ¬ x = k → x.toInt ≠ k.toInt := fun k h q => h (Int32.toInt_inj.mp q)
  have a1 := e 9 h1
  have a2 := e 10 h2
  have a3 := e 11 h3
  have a4 := e 12 h4
  have a5 := e 13 h5
  have b1 : (9 : Int32).toInt = 9 := by decide
  have b2 : (10 : Int32).toInt = 10 := by decide
  have b3 : (11 : Int32).toInt = 11 := by decide
  have b4 : (12 : Int32).toInt = 12 := by decide
  have b5 : (13 : Int32).toInt = 13 := by decide
  omega
theorem own_d1_0 : decode prog_17_method_4_code 0 = .ok (.iload_n 0, 1) := by decide +kernel
theorem own_d1_1 : decode prog_17_method_4_code 1 = .ok (.tableswitch 53 9 13 #[35, 47, 53, 53, 41], 35) := by decide +kernel
theorem own_d1_36 : decode prog_17_method_4_code 36 = .ok (.getstatic 3, 3) := by decide +kernel
theorem own_d1_39 : decode prog_17_method_4_code 39 = .ok (.goto 16, 3) := by decide +kernel
theorem own_d1_55 : decode prog_17_method_4_code 55 = .ok (.areturn, 1) := by decide +kernel
theorem own_d1_48 : decode prog_17_method_4_code 48 = .ok (.getstatic 10, 3) := by decide +kernel
theorem own_d1_51 : decode prog_17_method_4_code 51 = .ok (.goto 4, 3) := by decide +kernel
theorem own_d1_54 : decode prog_17_method_4_code 54 = .ok (.aconst_null, 1) := by decide +kernel
theorem own_d1_42 : decode prog_17_method_4_code 42 = .ok (.getstatic 7, 3) := by decide +kernel
theorem own_d1_45 : decode prog_17_method_4_code 45 = .ok (.goto 10, 3) := by decide +kernel
def own_Q1 (Z : State) (p1 : Int32) (a_CR : Addr) (a_TAB : Addr) (a_LF : Addr) (h0 : Heap) (n0 : Nat) (v : Option Value) (h : Heap) (L : List Loc) : Prop := v = some (if p1 = (9 : Int32) then (.ref a_TAB) else (if p1 = (10 : Int32) then (.ref a_LF) else (if p1 = (11 : Int32) then .null else (if p1 = (12 : Int32) then .null else (if p1 = (13 : Int32) then (.ref a_CR) else .null))))) ∧ Fr n0 L ∧ h = h0
theorem own_pn0 : plainName "com/example/placetree/placetree/cli/Output$Separator" = true := by first | (simp [plainName, overriddenIn]; done) | decide +kernel
theorem own_ef_own_rm1 (m : MethodId) (p1 : Int32) : entryFrame m #[(.int p1)] 1 = mkF m 0 #[.val (.int p1)] [] := by first | (simp [entryFrame, mkF, argsToLocals, Value.category]; done) | rfl
set_option maxRecDepth 65536 in
set_option maxHeartbeats 40000000 in
theorem own_rm1 (l : Launch) (Z : State) (a0 : Array Value) (hw : ∀ d ∈ tables_1, d.before a0 Z = true) (ws : List Jvm.Cond) (p1 : Int32) (a_CR : Addr) (a_TAB : Addr) (a_LF : Addr) (h0 : Heap) (n0 : Nat) (Z0 : n0 ≤ h0.size) (S_CR : Sta Z h0 "com/example/placetree/placetree/cli/Output$Separator" "CR" "Lcom/example/placetree/placetree/cli/Output$Separator;" (.ref a_CR)) (S_TAB : Sta Z h0 "com/example/placetree/placetree/cli/Output$Separator" "TAB" "Lcom/example/placetree/placetree/cli/Output$Separator;" (.ref a_TAB)) (S_LF : Sta Z h0 "com/example/placetree/placetree/cli/Output$Separator" "LF" "Lcom/example/placetree/placetree/cli/Output$Separator;" (.ref a_LF)) :
    MetFree l (⟨"com/example/placetree/placetree/cli/Output$Separator", "of", "(C)Lcom/example/placetree/placetree/cli/Output$Separator;"⟩ : MethodName) (head1 (Jvm.Cond.code (⟨"com/example/placetree/placetree/cli/Output$Separator", "of", "(C)Lcom/example/placetree/placetree/cli/Output$Separator;"⟩ : MethodName) prog_17_method_4_code 1 (some (.object "com/example/placetree/placetree/cli/Output$Separator")) :: ws) ({ frames := 0, cells := 0, slots := 0, locals := 0 } : Room)) (fun a U => a = #[(.int p1)] ∧ Z.Warmed39 U.vm ∧ U.heap = h0) (fun _ _ _ _ _ => True) (fun _ U o U' => ∃ v L, o = .returned v ∧ own_Q1 Z p1 a_CR a_TAB a_LF h0 n0 v U'.heap L ∧ FrameEnd U o U' L ({ frames := 0, cells := 0, slots := 0, locals := 0 } : Room).cells ({ frames := 0, cells := 0, slots := 0, locals := 0 } : Room).slots) := by
  refine MetFree.of_bodySF (plainFor_of_name own_pn0) hisR ?_
  intro p e s m args below meth c s₁ Bd hml0 hP hK
  obtain ⟨rfl, hZ, hh⟩ := hP
  have hx := Bd.exec
  have hby := Bd.bytes
  have hml : c.maxLocals = 1 := hml0
  have hown : s.vm.findClass "com/example/placetree/placetree/cli/Output$Separator" = some m.cls := findClass_of_methodNamed Bd.named
  have hnm := (name_of_methodNamed Bd.named Bd.method).1
  have X0 : Stand p l e ({ frames := 0, cells := 0, slots := 0, locals := 0 } : Room) s m #[(.int p1)] below meth c s₁ [] 0 0 := Stand.of_body Bd
  have e0 : s₁.heap = h0 := by rw [← hh, Bd.state]; rfl
  have N0 := Fr.nil n0
  show OE FrameEnd p e below s (own_Q1 Z p1 a_CR a_TAB a_LF h0 n0) ({ frames := 0, cells := 0, slots := 0, locals := 0 } : Room).cells ({ frames := 0, cells := 0, slots := 0, locals := 0 } : Room).slots s₁ (entryFrame m #[(.int p1)] 1)
  rw [own_ef_own_rm1]
  show OE _ p e below s _ _ _ s₁ (mkF m 0 #[.val (.int p1)] [])
  refine OE.iloadN X0 hx hby own_d1_0 rfl ?_
  by_cases hw1 : p1 = (9 : Int32)
  · skip
    refine OE.of (fun _ k => XS.tswIn X0.here hx rfl (pc0 := 1) (pc' := 36) rfl (hb hby own_d1_1) rfl (by rw [hw1]; decide) (o := 35) (by rw [hw1]; decide) (by decide) (by decide) k) ?_
    show OE _ p e below s _ _ _ s₁ (mkF m 36 #[.val (.int p1)] [])
    obtain ⟨T2, X2, e2, st2⟩ := getS2 X0 hx hZ hown (host := "") (Or.inl (hw _ (List.mem_of_getElem? (i := 9) rfl))) Via.refl e0 S_TAB (g := (mkF m 36 #[.val (.int p1)] [])) rfl (hb hby own_d1_36)
    refine OE.of st2 ?_
    show OE _ p e below s _ _ _ T2 (mkF m 39 #[.val (.int p1)] [(.ref a_TAB)])
    refine OE.goto X2 hx hby (pc' := 55) own_d1_39 (h := ?_)
    refine OE.retA X2 hx rfl Bd.returns rfl Bd.notSynchronized (hb hby own_d1_55) (by decide) (by decide) ?_
    rw [e2]
    exact ⟨(congrArg (fun z : Value => some z) (show ((.ref a_TAB) : Value) = (if p1 = (9 : Int32) then (.ref a_TAB) else (if p1 = (10 : Int32) then (.ref a_LF) else (if p1 = (11 : Int32) then .null else (if p1 = (12 : Int32) then .null else (if p1 = (13 : Int32) then (.ref a_CR) else .null))))) from by rw [if_pos hw1])), N0, rfl⟩
  by_cases hw3 : p1 = (10 : Int32)
  · skip
    refine OE.of (fun _ k => XS.tswIn X0.here hx rfl (pc0 := 1) (pc' := 48) rfl (hb hby own_d1_1) rfl (by rw [hw3]; decide) (o := 47) (by rw [hw3]; decide) (by decide) (by decide) k) ?_
    show OE _ p e below s _ _ _ s₁ (mkF m 48 #[.val (.int p1)] [])
    obtain ⟨T4, X4, e4, st4⟩ := getS2 X0 hx hZ hown (host := "") (Or.inl (hw _ (List.mem_of_getElem? (i := 12) rfl))) Via.refl e0 S_LF (g := (mkF m 48 #[.val (.int p1)] [])) rfl (hb hby own_d1_48)
    refine OE.of st4 ?_
    show OE _ p e below s _ _ _ T4 (mkF m 51 #[.val (.int p1)] [(.ref a_LF)])
    refine OE.goto X4 hx hby (pc' := 55) own_d1_51 (h := ?_)
    refine OE.retA X4 hx rfl Bd.returns rfl Bd.notSynchronized (hb hby own_d1_55) (by decide) (by decide) ?_
    rw [e4]
    exact ⟨(congrArg (fun z : Value => some z) (show ((.ref a_LF) : Value) = (if p1 = (9 : Int32) then (.ref a_TAB) else (if p1 = (10 : Int32) then (.ref a_LF) else (if p1 = (11 : Int32) then .null else (if p1 = (12 : Int32) then .null else (if p1 = (13 : Int32) then (.ref a_CR) else .null))))) from by rw [if_neg hw1, if_pos hw3])), N0, rfl⟩
  by_cases hw5 : p1 = (11 : Int32)
  · skip
    refine OE.of (fun _ k => XS.tswIn X0.here hx rfl (pc0 := 1) (pc' := 54) rfl (hb hby own_d1_1) rfl (by rw [hw5]; decide) (o := 53) (by rw [hw5]; decide) (by decide) (by decide) k) ?_
    show OE _ p e below s _ _ _ s₁ (mkF m 54 #[.val (.int p1)] [])
    refine OE.aconstNull X0 hx hby own_d1_54 ?_
    refine OE.retA X0 hx rfl Bd.returns rfl Bd.notSynchronized (hb hby own_d1_55) (by decide) (by decide) ?_
    rw [e0]
    exact ⟨(congrArg (fun z : Value => some z) (show (.null : Value) = (if p1 = (9 : Int32) then (.ref a_TAB) else (if p1 = (10 : Int32) then (.ref a_LF) else (if p1 = (11 : Int32) then .null else (if p1 = (12 : Int32) then .null else (if p1 = (13 : Int32) then (.ref a_CR) else .null))))) from by rw [if_neg hw1, if_neg hw3, if_pos hw5])), N0, rfl⟩
  by_cases hw6 : p1 = (12 : Int32)
  · skip
    refine OE.of (fun _ k => XS.tswIn X0.here hx rfl (pc0 := 1) (pc' := 54) rfl (hb hby own_d1_1) rfl (by rw [hw6]; decide) (o := 53) (by rw [hw6]; decide) (by decide) (by decide) k) ?_
    show OE _ p e below s _ _ _ s₁ (mkF m 54 #[.val (.int p1)] [])
    refine OE.aconstNull X0 hx hby own_d1_54 ?_
    refine OE.retA X0 hx rfl Bd.returns rfl Bd.notSynchronized (hb hby own_d1_55) (by decide) (by decide) ?_
    rw [e0]
    exact ⟨(congrArg (fun z : Value => some z) (show (.null : Value) = (if p1 = (9 : Int32) then (.ref a_TAB) else (if p1 = (10 : Int32) then (.ref a_LF) else (if p1 = (11 : Int32) then .null else (if p1 = (12 : Int32) then .null else (if p1 = (13 : Int32) then (.ref a_CR) else .null))))) from by rw [if_neg hw1, if_neg hw3, if_neg hw5, if_pos hw6])), N0, rfl⟩
  by_cases hw7 : p1 = (13 : Int32)
  · skip
    refine OE.of (fun _ k => XS.tswIn X0.here hx rfl (pc0 := 1) (pc' := 42) rfl (hb hby own_d1_1) rfl (by rw [hw7]; decide) (o := 41) (by rw [hw7]; decide) (by decide) (by decide) k) ?_
    show OE _ p e below s _ _ _ s₁ (mkF m 42 #[.val (.int p1)] [])
    obtain ⟨T8, X8, e8, st8⟩ := getS2 X0 hx hZ hown (host := "") (Or.inl (hw _ (List.mem_of_getElem? (i := 6) rfl))) Via.refl e0 S_CR (g := (mkF m 42 #[.val (.int p1)] [])) rfl (hb hby own_d1_42)
    refine OE.of st8 ?_
    show OE _ p e below s _ _ _ T8 (mkF m 45 #[.val (.int p1)] [(.ref a_CR)])
    refine OE.goto X8 hx hby (pc' := 55) own_d1_45 (h := ?_)
    refine OE.retA X8 hx rfl Bd.returns rfl Bd.notSynchronized (hb hby own_d1_55) (by decide) (by decide) ?_
    rw [e8]
    exact ⟨(congrArg (fun z : Value => some z) (show ((.ref a_CR) : Value) = (if p1 = (9 : Int32) then (.ref a_TAB) else (if p1 = (10 : Int32) then (.ref a_LF) else (if p1 = (11 : Int32) then .null else (if p1 = (12 : Int32) then .null else (if p1 = (13 : Int32) then (.ref a_CR) else .null))))) from by rw [if_neg hw1, if_neg hw3, if_neg hw5, if_neg hw6, if_pos hw7])), N0, rfl⟩
  refine OE.of (fun _ k => XS.tswOut X0.here hx rfl (pc0 := 1) (pc' := 54) rfl (hb hby own_d1_1) rfl (own_out hw1 hw3 hw5 hw6 hw7) (by decide) (by decide) k) ?_
  show OE _ p e below s _ _ _ s₁ (mkF m 54 #[.val (.int p1)] [])
  refine OE.aconstNull X0 hx hby own_d1_54 ?_
  refine OE.retA X0 hx rfl Bd.returns rfl Bd.notSynchronized (hb hby own_d1_55) (by decide) (by decide) ?_
  rw [e0]
  exact ⟨(congrArg (fun z : Value => some z) (show (.null : Value) = (if p1 = (9 : Int32) then (.ref a_TAB) else (if p1 = (10 : Int32) then (.ref a_LF) else (if p1 = (11 : Int32) then .null else (if p1 = (12 : Int32) then .null else (if p1 = (13 : Int32) then (.ref a_CR) else .null))))) from by rw [if_neg hw1, if_neg hw3, if_neg hw5, if_neg hw6, if_neg hw7])), N0, rfl⟩
theorem own_pd0 : parseMethodDescriptor "(C)Lcom/example/placetree/placetree/cli/Output$Separator;" = some ⟨[.char], some (.object "com/example/placetree/placetree/cli/Output$Separator")⟩ := by decide +kernel
def own_Q0 (Z : State) (p1 : Int32) (p2 : Int32) (a_CR : Addr) (a_TAB : Addr) (a_LF : Addr) (h0 : Heap) (n0 : Nat) (v : Option Value) (h : Heap) (L : List Loc) : Prop := v = some (.int (1 : Int32)) ∧ Fr n0 L
theorem own_pn1 : plainName "com/example/placetree/placetree/cli/SeparatorOfPinLaw" = true := by first | (simp [plainName, overriddenIn]; done) | decide +kernel
theorem own_ef_own_rm0 (m : MethodId) (p1 : Int32) (p2 : Int32) : entryFrame m #[(.int p1), (.int p2)] maxLocals = mkF m 0 #[.val (.int p1), .val (.int p2), .unset, .unset, .unset, .unset, .unset] [] := by first | (simp [entryFrame, mkF, argsToLocals, Value.category, maxLocals]; done) | rfl
set_option maxRecDepth 65536 in
set_option maxHeartbeats 40000000 in
theorem own_rm0 (l : Launch) (Z : State) (a0 : Array Value) (hw : ∀ d ∈ tables_1, d.before a0 Z = true) (ws : List Jvm.Cond) (p1 : Int32) (p2 : Int32) (a_CR : Addr) (a_TAB : Addr) (a_LF : Addr) (h0 : Heap) (n0 : Nat) (Z0 : n0 ≤ h0.size) (S_CR : Sta Z h0 "com/example/placetree/placetree/cli/Output$Separator" "CR" "Lcom/example/placetree/placetree/cli/Output$Separator;" (.ref a_CR)) (S_TAB : Sta Z h0 "com/example/placetree/placetree/cli/Output$Separator" "TAB" "Lcom/example/placetree/placetree/cli/Output$Separator;" (.ref a_TAB)) (S_LF : Sta Z h0 "com/example/placetree/placetree/cli/Output$Separator" "LF" "Lcom/example/placetree/placetree/cli/Output$Separator;" (.ref a_LF)) :
    MetFree l x (head1 (Jvm.Cond.code x code maxLocals ret :: ws) room_1) (fun a U => a = #[(.int p1), (.int p2)] ∧ Z.Warmed39 U.vm ∧ U.heap = h0) (fun _ _ _ _ _ => True) (fun _ U o U' => ∃ v L, o = .returned v ∧ own_Q0 Z p1 p2 a_CR a_TAB a_LF h0 n0 v U'.heap L ∧ FrameEnd U o U' L room_1.cells room_1.slots) := by
  refine MetFree.of_bodySF (plainFor_of_name own_pn1) hisR ?_
  intro p e s m args below meth c s₁ Bd hml0 hP hK
  obtain ⟨rfl, hZ, hh⟩ := hP
  have hx := Bd.exec
  have hby := Bd.bytes
  have hml : c.maxLocals = 7 := hml0
  have hown : s.vm.findClass "com/example/placetree/placetree/cli/SeparatorOfPinLaw" = some m.cls := findClass_of_methodNamed Bd.named
  have hnm := (name_of_methodNamed Bd.named Bd.method).1
  have X0 : Stand p l e room_1 s m #[(.int p1), (.int p2)] below meth c s₁ [] 0 0 := Stand.of_body Bd
  have e0 : s₁.heap = h0 := by rw [← hh, Bd.state]; rfl
  have N0 := Fr.nil n0
  show OE FrameEnd p e below s (own_Q0 Z p1 p2 a_CR a_TAB a_LF h0 n0) room_1.cells room_1.slots s₁ (entryFrame m #[(.int p1), (.int p2)] maxLocals)
  rw [own_ef_own_rm0]
  show OE _ p e below s _ _ _ s₁ (mkF m 0 #[.val (.int p1), .val (.int p2), .unset, .unset, .unset, .unset, .unset] [])
  refine OE.iloadN X0 hx hby at_0 rfl ?_
  refine OE.iconst X0 hx hby at_1 (3 : Int32) rfl ?_
  refine OE.iand X0 hx hby at_2 ?_
  refine OE.istoreN X0 hx hby at_3 (l' := #[.val (.int p1), .val (.int p2), .val (.int (p2 &&& (3 : Int32))), .unset, .unset, .unset, .unset]) rfl ?_
  refine OE.iloadN X0 hx hby at_4 rfl ?_
  by_cases hc5 : (p2 &&& (3 : Int32)) = (0 : Int32)
  · skip
    refine OE.ifNo X0 hx hby at_5 (teq hc5).2 ?_
    refine OE.bipush X0 hx hby at_8 (9 : Int32) rfl ?_
    refine OE.istoreN X0 hx hby at_10 (l' := #[.val (.int p1), .val (.int p2), .val (.int (p2 &&& (3 : Int32))), .val (.int (9 : Int32)), .unset, .unset, .unset]) rfl ?_
    refine OE.goto X0 hx hby (pc' := 39) at_11 (h := ?_)
    refine OE.iloadN X0 hx hby at_39 rfl ?_
    refine OE.istore X0 hx hby at_40 (l' := #[.val (.int p1), .val (.int p2), .val (.int (p2 &&& (3 : Int32))), .val (.int (9 : Int32)), .unset, .val (.int (9 : Int32)), .unset]) rfl ?_
    refine OE.iload X0 hx hby at_42 rfl ?_
    refine OE.bipush X0 hx hby at_44 (9 : Int32) rfl ?_
    refine OE.icmpNo X0 hx hby at_46 (teq (by decide : (9 : Int32) = (9 : Int32))).2 ?_
    obtain ⟨T1, X1, e1, st1⟩ := getS2 X0 hx hZ hown (host := "") (Or.inl (hw _ (List.mem_of_getElem? (i := 7) rfl))) Via.refl e0 S_TAB (g := (mkF m 49 #[.val (.int p1), .val (.int p2), .val (.int (p2 &&& (3 : Int32))), .val (.int (9 : Int32)), .unset, .val (.int (9 : Int32)), .unset] [])) rfl (hb hby at_49)
    refine OE.of st1 ?_
    show OE _ p e below s _ _ _ T1 (mkF m 52 #[.val (.int p1), .val (.int p2), .val (.int (p2 &&& (3 : Int32))), .val (.int (9 : Int32)), .unset, .val (.int (9 : Int32)), .unset] [(.ref a_TAB)])
    refine OE.astore X1 hx hby at_52 rfl (l' := #[.val (.int p1), .val (.int p2), .val (.int (p2 &&& (3 : Int32))), .val (.int (9 : Int32)), .val (.ref a_TAB), .val (.int (9 : Int32)), .unset]) rfl ?_
    refine OE.goto X1 hx hby (pc' := 90) at_54 (h := ?_)
    refine OE.iloadN X1 hx hby at_90 rfl ?_
    obtain ⟨_, _, ⟨T2, L2, k2, n2⟩, -, X2, ⟨Lc2, hQ2, l2, y2, z2⟩, st2⟩ := Jvm.LawKit.callS X1 hx (y := (⟨"com/example/placetree/placetree/cli/Output$Separator", "of", "(C)Lcom/example/placetree/placetree/cli/Output$Separator;"⟩ : MethodName)) hown (mvT hZ (hw _ (List.mem_of_getElem? (i := 0) rfl))) (mvT hZ (hw _ (List.mem_of_getElem? (i := 1) rfl))) (mvT hZ (hw _ (List.mem_of_getElem? (i := 2) rfl))) (mvT hZ (hw _ (List.mem_of_getElem? (i := 3) rfl))) (by decide) (backOf (W := 0) (own_rm1 l Z a0 hw [] (9 : Int32) a_CR a_TAB a_LF h0 n0 Z0 S_CR S_TAB S_LF) hZ (hw _ (List.mem_of_getElem? (i := 3) rfl)) (hw _ (List.mem_of_getElem? (i := 2) rfl)) (by decide) (by decide)) (g := (mkF m 91 #[.val (.int p1), .val (.int p2), .val (.int (p2 &&& (3 : Int32))), .val (.int (9 : Int32)), .val (.ref a_TAB), .val (.int (9 : Int32)), .unset] [(.int (9 : Int32))])) rfl (by rw [hml]; rfl) (argsL := [(.int (9 : Int32))]) (rest := []) (lenOf own_pd0 rfl) rfl (by show 2 * 0 + _ ≤ _; exact Nat.le_of_eq rfl) (hb hby at_91) (fun _ _ => ⟨rfl, e1, (by decide : 0 + 0 ≤ _), (by decide : 0 + 0 ≤ _)⟩)
    dsimp only [Pt.U, Pt.locs, Pt.cells, Pt.slots] at X2 l2 y2 z2 st2 hQ2
    subst l2 y2 z2
    obtain ⟨rfl, Nq2, eq2⟩ := hQ2
    refine OE.of (fun _ k => st2 _ k) ?_
    have N2 := Fr.app N0 Nq2
    show OE _ p e below s _ _ _ T2 (mkF m 94 #[.val (.int p1), .val (.int p2), .val (.int (p2 &&& (3 : Int32))), .val (.int (9 : Int32)), .val (.ref a_TAB), .val (.int (9 : Int32)), .unset] [(if (9 : Int32) = (9 : Int32) then (.ref a_TAB) else (if (9 : Int32) = (10 : Int32) then (.ref a_LF) else (if (9 : Int32) = (11 : Int32) then .null else (if (9 : Int32) = (12 : Int32) then .null else (if (9 : Int32) = (13 : Int32) then (.ref a_CR) else .null)))))])
    rw [if_pos (show (9 : Int32) = (9 : Int32) from (by decide : (9 : Int32) = (9 : Int32)))]
    show OE _ p e below s _ _ _ T2 (mkF m 94 #[.val (.int p1), .val (.int p2), .val (.int (p2 &&& (3 : Int32))), .val (.int (9 : Int32)), .val (.ref a_TAB), .val (.int (9 : Int32)), .unset] [(.ref a_TAB)])
    refine OE.astore X2 hx hby at_94 rfl (l' := #[.val (.int p1), .val (.int p2), .val (.int (p2 &&& (3 : Int32))), .val (.int (9 : Int32)), .val (.ref a_TAB), .val (.int (9 : Int32)), .val (.ref a_TAB)]) rfl ?_
    refine OE.aload X2 hx hby at_96 rfl rfl ?_
    refine OE.aload X2 hx hby at_98 rfl rfl ?_
    refine OE.of (fun _ k => Jvm.RoadKit.acmp (g := (mkF m 100 #[.val (.int p1), .val (.int p2), .val (.int (p2 &&& (3 : Int32))), .val (.int (9 : Int32)), .val (.ref a_TAB), .val (.int (9 : Int32)), .val (.ref a_TAB)] [(.ref a_TAB), (.ref a_TAB)])) X2 hx rfl rfl rfl (pc0 := 100) (pc' := 103) (same := true) rfl (hb hby at_100) rfl (decide_eq_true rfl) (by decide) (by decide) k) ?_
    show OE _ p e below s _ _ _ T2 (mkF m 103 #[.val (.int p1), .val (.int p2), .val (.int (p2 &&& (3 : Int32))), .val (.int (9 : Int32)), .val (.ref a_TAB), .val (.int (9 : Int32)), .val (.ref a_TAB)] [])
    refine OE.iconst X2 hx hby at_103 (1 : Int32) rfl ?_
    refine OE.goto X2 hx hby (pc' := 108) at_104 (h := ?_)
    refine OE.retN X2 hx (t := .boolean) Bd.returns (by simp) Bd.notSynchronized (hb hby at_108) (by decide) (by decide) ?_
    rw [eq2]
    exact ⟨rfl, N2⟩
  · skip
    refine OE.ifYes X0 hx hby (pc' := 14) at_5 (feq hc5).2 (h := ?_)
    refine OE.iloadN X0 hx hby at_14 rfl ?_
    refine OE.iconst X0 hx hby at_15 (1 : Int32) rfl ?_
    by_cases hc16 : (p2 &&& (3 : Int32)) = (1 : Int32)
    · skip
      refine OE.icmpNo X0 hx hby at_16 (teq hc16).2 ?_
      refine OE.bipush X0 hx hby at_19 (13 : Int32) rfl ?_
      refine OE.istoreN X0 hx hby at_21 (l' := #[.val (.int p1), .val (.int p2), .val (.int (p2 &&& (3 : Int32))), .val (.int (13 : Int32)), .unset, .unset, .unset]) rfl ?_
      refine OE.goto X0 hx hby (pc' := 39) at_22 (h := ?_)
      refine OE.iloadN X0 hx hby at_39 rfl ?_
      refine OE.istore X0 hx hby at_40 (l' := #[.val (.int p1), .val (.int p2), .val (.int (p2 &&& (3 : Int32))), .val (.int (13 : Int32)), .unset, .val (.int (13 : Int32)), .unset]) rfl ?_
      refine OE.iload X0 hx hby at_42 rfl ?_
      refine OE.bipush X0 hx hby at_44 (9 : Int32) rfl ?_
      refine OE.icmpYes X0 hx hby (pc' := 57) at_46 (feq (by decide : ¬ ((13 : Int32) = (9 : Int32)))).2 (h := ?_)
      refine OE.iload X0 hx hby at_57 rfl ?_
      refine OE.bipush X0 hx hby at_59 (13 : Int32) rfl ?_
      refine OE.icmpNo X0 hx hby at_61 (teq (by decide : (13 : Int32) = (13 : Int32))).2 ?_
      obtain ⟨T3, X3, e3, st3⟩ := getS2 X0 hx hZ hown (host := "") (Or.inl (hw _ (List.mem_of_getElem? (i := 4) rfl))) Via.refl e0 S_CR (g := (mkF m 64 #[.val (.int p1), .val (.int p2), .val (.int (p2 &&& (3 : Int32))), .val (.int (13 : Int32)), .unset, .val (.int (13 : Int32)), .unset] [])) rfl (hb hby at_64)
      refine OE.of st3 ?_
      show OE _ p e below s _ _ _ T3 (mkF m 67 #[.val (.int p1), .val (.int p2), .val (.int (p2 &&& (3 : Int32))), .val (.int (13 : Int32)), .unset, .val (.int (13 : Int32)), .unset] [(.ref a_CR)])
      refine OE.astore X3 hx hby at_67 rfl (l' := #[.val (.int p1), .val (.int p2), .val (.int (p2 &&& (3 : Int32))), .val (.int (13 : Int32)), .val (.ref a_CR), .val (.int (13 : Int32)), .unset]) rfl ?_
      refine OE.goto X3 hx hby (pc' := 90) at_69 (h := ?_)
      refine OE.iloadN X3 hx hby at_90 rfl ?_
      obtain ⟨_, _, ⟨T4, L4, k4, n4⟩, -, X4, ⟨Lc4, hQ4, l4, y4, z4⟩, st4⟩ := Jvm.LawKit.callS X3 hx (y := (⟨"com/example/placetree/placetree/cli/Output$Separator", "of", "(C)Lcom/example/placetree/placetree/cli/Output$Separator;"⟩ : MethodName)) hown (mvT hZ (hw _ (List.mem_of_getElem? (i := 0) rfl))) (mvT hZ (hw _ (List.mem_of_getElem? (i := 1) rfl))) (mvT hZ (hw _ (List.mem_of_getElem? (i := 2) rfl))) (mvT hZ (hw _ (List.mem_of_getElem? (i := 3) rfl))) (by decide) (backOf (W := 0) (own_rm1 l Z a0 hw [] (13 : Int32) a_CR a_TAB a_LF h0 n0 Z0 S_CR S_TAB S_LF) hZ (hw _ (List.mem_of_getElem? (i := 3) rfl)) (hw _ (List.mem_of_getElem? (i := 2) rfl)) (by decide) (by decide)) (g := (mkF m 91 #[.val (.int p1), .val (.int p2), .val (.int (p2 &&& (3 : Int32))), .val (.int (13 : Int32)), .val (.ref a_CR), .val (.int (13 : Int32)), .unset] [(.int (13 : Int32))])) rfl (by rw [hml]; rfl) (argsL := [(.int (13 : Int32))]) (rest := []) (lenOf own_pd0 rfl) rfl (by show 2 * 0 + _ ≤ _; exact Nat.le_of_eq rfl) (hb hby at_91) (fun _ _ => ⟨rfl, e3, (by decide : 0 + 0 ≤ _), (by decide : 0 + 0 ≤ _)⟩)
      dsimp only [Pt.U, Pt.locs, Pt.cells, Pt.slots] at X4 l4 y4 z4 st4 hQ4
      subst l4 y4 z4
      obtain ⟨rfl, Nq4, eq4⟩ := hQ4
      refine OE.of (fun _ k => st4 _ k) ?_
      have N4 := Fr.app N0 Nq4
      show OE _ p e below s _ _ _ T4 (mkF m 94 #[.val (.int p1), .val (.int p2), .val (.int (p2 &&& (3 : Int32))), .val (.int (13 : Int32)), .val (.ref a_CR), .val (.int (13 : Int32)), .unset] [(if (13 : Int32) = (9 : Int32) then (.ref a_TAB) else (if (13 : Int32) = (10 : Int32) then (.ref a_LF) else (if (13 : Int32) = (11 : Int32) then .null else (if (13 : Int32) = (12 : Int32) then .null else (if (13 : Int32) = (13 : Int32) then (.ref a_CR) else .null)))))])
      rw [if_neg (show ¬ ((13 : Int32) = (9 : Int32)) from (by decide : ¬ ((13 : Int32) = (9 : Int32))))]
      show OE _ p e below s _ _ _ T4 (mkF m 94 #[.val (.int p1), .val (.int p2), .val (.int (p2 &&& (3 : Int32))), .val (.int (13 : Int32)), .val (.ref a_CR), .val (.int (13 : Int32)), .unset] [(if (13 : Int32) = (10 : Int32) then (.ref a_LF) else (if (13 : Int32) = (11 : Int32) then .null else (if (13 : Int32) = (12 : Int32) then .null else (if (13 : Int32) = (13 : Int32) then (.ref a_CR) else .null))))])
      rw [if_neg (show ¬ ((13 : Int32) = (10 : Int32)) from (by decide : ¬ ((13 : Int32) = (10 : Int32))))]
      show OE _ p e below s _ _ _ T4 (mkF m 94 #[.val (.int p1), .val (.int p2), .val (.int (p2 &&& (3 : Int32))), .val (.int (13 : Int32)), .val (.ref a_CR), .val (.int (13 : Int32)), .unset] [(if (13 : Int32) = (11 : Int32) then .null else (if (13 : Int32) = (12 : Int32) then .null else (if (13 : Int32) = (13 : Int32) then (.ref a_CR) else .null)))])
      rw [if_neg (show ¬ ((13 : Int32) = (11 : Int32)) from (by decide : ¬ ((13 : Int32) = (11 : Int32))))]
      show OE _ p e below s _ _ _ T4 (mkF m 94 #[.val (.int p1), .val (.int p2), .val (.int (p2 &&& (3 : Int32))), .val (.int (13 : Int32)), .val (.ref a_CR), .val (.int (13 : Int32)), .unset] [(if (13 : Int32) = (12 : Int32) then .null else (if (13 : Int32) = (13 : Int32) then (.ref a_CR) else .null))])
      rw [if_neg (show ¬ ((13 : Int32) = (12 : Int32)) from (by decide : ¬ ((13 : Int32) = (12 : Int32))))]
      show OE _ p e below s _ _ _ T4 (mkF m 94 #[.val (.int p1), .val (.int p2), .val (.int (p2 &&& (3 : Int32))), .val (.int (13 : Int32)), .val (.ref a_CR), .val (.int (13 : Int32)), .unset] [(if (13 : Int32) = (13 : Int32) then (.ref a_CR) else .null)])
      rw [if_pos (show (13 : Int32) = (13 : Int32) from (by decide : (13 : Int32) = (13 : Int32)))]
      show OE _ p e below s _ _ _ T4 (mkF m 94 #[.val (.int p1), .val (.int p2), .val (.int (p2 &&& (3 : Int32))), .val (.int (13 : Int32)), .val (.ref a_CR), .val (.int (13 : Int32)), .unset] [(.ref a_CR)])
      refine OE.astore X4 hx hby at_94 rfl (l' := #[.val (.int p1), .val (.int p2), .val (.int (p2 &&& (3 : Int32))), .val (.int (13 : Int32)), .val (.ref a_CR), .val (.int (13 : Int32)), .val (.ref a_CR)]) rfl ?_
      refine OE.aload X4 hx hby at_96 rfl rfl ?_
      refine OE.aload X4 hx hby at_98 rfl rfl ?_
      refine OE.of (fun _ k => Jvm.RoadKit.acmp (g := (mkF m 100 #[.val (.int p1), .val (.int p2), .val (.int (p2 &&& (3 : Int32))), .val (.int (13 : Int32)), .val (.ref a_CR), .val (.int (13 : Int32)), .val (.ref a_CR)] [(.ref a_CR), (.ref a_CR)])) X4 hx rfl rfl rfl (pc0 := 100) (pc' := 103) (same := true) rfl (hb hby at_100) rfl (decide_eq_true rfl) (by decide) (by decide) k) ?_
      show OE _ p e below s _ _ _ T4 (mkF m 103 #[.val (.int p1), .val (.int p2), .val (.int (p2 &&& (3 : Int32))), .val (.int (13 : Int32)), .val (.ref a_CR), .val (.int (13 : Int32)), .val (.ref a_CR)] [])
      refine OE.iconst X4 hx hby at_103 (1 : Int32) rfl ?_
      refine OE.goto X4 hx hby (pc' := 108) at_104 (h := ?_)
      refine OE.retN X4 hx (t := .boolean) Bd.returns (by simp) Bd.notSynchronized (hb hby at_108) (by decide) (by decide) ?_
      rw [eq4]
      exact ⟨rfl, N4⟩
    · skip
      refine OE.icmpYes X0 hx hby (pc' := 25) at_16 (feq hc16).2 (h := ?_)
      refine OE.iloadN X0 hx hby at_25 rfl ?_
      refine OE.iconst X0 hx hby at_26 (2 : Int32) rfl ?_
      by_cases hc27 : (p2 &&& (3 : Int32)) = (2 : Int32)
      · skip
        refine OE.icmpNo X0 hx hby at_27 (teq hc27).2 ?_
        refine OE.bipush X0 hx hby at_30 (10 : Int32) rfl ?_
        refine OE.istoreN X0 hx hby at_32 (l' := #[.val (.int p1), .val (.int p2), .val (.int (p2 &&& (3 : Int32))), .val (.int (10 : Int32)), .unset, .unset, .unset]) rfl ?_
        refine OE.goto X0 hx hby (pc' := 39) at_33 (h := ?_)
        refine OE.iloadN X0 hx hby at_39 rfl ?_
        refine OE.istore X0 hx hby at_40 (l' := #[.val (.int p1), .val (.int p2), .val (.int (p2 &&& (3 : Int32))), .val (.int (10 : Int32)), .unset, .val (.int (10 : Int32)), .unset]) rfl ?_
        refine OE.iload X0 hx hby at_42 rfl ?_
        refine OE.bipush X0 hx hby at_44 (9 : Int32) rfl ?_
        refine OE.icmpYes X0 hx hby (pc' := 57) at_46 (feq (by decide : ¬ ((10 : Int32) = (9 : Int32)))).2 (h := ?_)
        refine OE.iload X0 hx hby at_57 rfl ?_
        refine OE.bipush X0 hx hby at_59 (13 : Int32) rfl ?_
        refine OE.icmpYes X0 hx hby (pc' := 72) at_61 (feq (by decide : ¬ ((10 : Int32) = (13 : Int32)))).2 (h := ?_)
        refine OE.iload X0 hx hby at_72 rfl ?_
        refine OE.bipush X0 hx hby at_74 (10 : Int32) rfl ?_
        refine OE.icmpNo X0 hx hby at_76 (teq (by decide : (10 : Int32) = (10 : Int32))).2 ?_
        obtain ⟨T5, X5, e5, st5⟩ := getS2 X0 hx hZ hown (host := "") (Or.inl (hw _ (List.mem_of_getElem? (i := 10) rfl))) Via.refl e0 S_LF (g := (mkF m 79 #[.val (.int p1), .val (.int p2), .val (.int (p2 &&& (3 : Int32))), .val (.int (10 : Int32)), .unset, .val (.int (10 : Int32)), .unset] [])) rfl (hb hby at_79)
        refine OE.of st5 ?_
        show OE _ p e below s _ _ _ T5 (mkF m 82 #[.val (.int p1), .val (.int p2), .val (.int (p2 &&& (3 : Int32))), .val (.int (10 : Int32)), .unset, .val (.int (10 : Int32)), .unset] [(.ref a_LF)])
        refine OE.astore X5 hx hby at_82 rfl (l' := #[.val (.int p1), .val (.int p2), .val (.int (p2 &&& (3 : Int32))), .val (.int (10 : Int32)), .val (.ref a_LF), .val (.int (10 : Int32)), .unset]) rfl ?_
        refine OE.goto X5 hx hby (pc' := 90) at_84 (h := ?_)
        refine OE.iloadN X5 hx hby at_90 rfl ?_
        obtain ⟨_, _, ⟨T6, L6, k6, n6⟩, -, X6, ⟨Lc6, hQ6, l6, y6, z6⟩, st6⟩ := Jvm.LawKit.callS X5 hx (y := (⟨"com/example/placetree/placetree/cli/Output$Separator", "of", "(C)Lcom/example/placetree/placetree/cli/Output$Separator;"⟩ : MethodName)) hown (mvT hZ (hw _ (List.mem_of_getElem? (i := 0) rfl))) (mvT hZ (hw _ (List.mem_of_getElem? (i := 1) rfl))) (mvT hZ (hw _ (List.mem_of_getElem? (i := 2) rfl))) (mvT hZ (hw _ (List.mem_of_getElem? (i := 3) rfl))) (by decide) (backOf (W := 0) (own_rm1 l Z a0 hw [] (10 : Int32) a_CR a_TAB a_LF h0 n0 Z0 S_CR S_TAB S_LF) hZ (hw _ (List.mem_of_getElem? (i := 3) rfl)) (hw _ (List.mem_of_getElem? (i := 2) rfl)) (by decide) (by decide)) (g := (mkF m 91 #[.val (.int p1), .val (.int p2), .val (.int (p2 &&& (3 : Int32))), .val (.int (10 : Int32)), .val (.ref a_LF), .val (.int (10 : Int32)), .unset] [(.int (10 : Int32))])) rfl (by rw [hml]; rfl) (argsL := [(.int (10 : Int32))]) (rest := []) (lenOf own_pd0 rfl) rfl (by show 2 * 0 + _ ≤ _; exact Nat.le_of_eq rfl) (hb hby at_91) (fun _ _ => ⟨rfl, e5, (by decide : 0 + 0 ≤ _), (by decide : 0 + 0 ≤ _)⟩)
        dsimp only [Pt.U, Pt.locs, Pt.cells, Pt.slots] at X6 l6 y6 z6 st6 hQ6
        subst l6 y6 z6
        obtain ⟨rfl, Nq6, eq6⟩ := hQ6
        refine OE.of (fun _ k => st6 _ k) ?_
        have N6 := Fr.app N0 Nq6
        show OE _ p e below s _ _ _ T6 (mkF m 94 #[.val (.int p1), .val (.int p2), .val (.int (p2 &&& (3 : Int32))), .val (.int (10 : Int32)), .val (.ref a_LF), .val (.int (10 : Int32)), .unset] [(if (10 : Int32) = (9 : Int32) then (.ref a_TAB) else (if (10 : Int32) = (10 : Int32) then (.ref a_LF) else (if (10 : Int32) = (11 : Int32) then .null else (if (10 : Int32) = (12 : Int32) then .null else (if (10 : Int32) = (13 : Int32) then (.ref a_CR) else .null)))))])
        rw [if_neg (show ¬ ((10 : Int32) = (9 : Int32)) from (by decide : ¬ ((10 : Int32) = (9 : Int32))))]
        show OE _ p e below s _ _ _ T6 (mkF m 94 #[.val (.int p1), .val (.int p2), .val (.int (p2 &&& (3 : Int32))), .val (.int (10 : Int32)), .val (.ref a_LF), .val (.int (10 : Int32)), .unset] [(if (10 : Int32) = (10 : Int32) then (.ref a_LF) else (if (10 : Int32) = (11 : Int32) then .null else (if (10 : Int32) = (12 : Int32) then .null else (if (10 : Int32) = (13 : Int32) then (.ref a_CR) else .null))))])
        rw [if_pos (show (10 : Int32) = (10 : Int32) from (by decide : (10 : Int32) = (10 : Int32)))]
        show OE _ p e below s _ _ _ T6 (mkF m 94 #[.val (.int p1), .val (.int p2), .val (.int (p2 &&& (3 : Int32))), .val (.int (10 : Int32)), .val (.ref a_LF), .val (.int (10 : Int32)), .unset] [(.ref a_LF)])
        refine OE.astore X6 hx hby at_94 rfl (l' := #[.val (.int p1), .val (.int p2), .val (.int (p2 &&& (3 : Int32))), .val (.int (10 : Int32)), .val (.ref a_LF), .val (.int (10 : Int32)), .val (.ref a_LF)]) rfl ?_
        refine OE.aload X6 hx hby at_96 rfl rfl ?_
        refine OE.aload X6 hx hby at_98 rfl rfl ?_
        refine OE.of (fun _ k => Jvm.RoadKit.acmp (g := (mkF m 100 #[.val (.int p1), .val (.int p2), .val (.int (p2 &&& (3 : Int32))), .val (.int (10 : Int32)), .val (.ref a_LF), .val (.int (10 : Int32)), .val (.ref a_LF)] [(.ref a_LF), (.ref a_LF)])) X6 hx rfl rfl rfl (pc0 := 100) (pc' := 103) (same := true) rfl (hb hby at_100) rfl (decide_eq_true rfl) (by decide) (by decide) k) ?_
        show OE _ p e below s _ _ _ T6 (mkF m 103 #[.val (.int p1), .val (.int p2), .val (.int (p2 &&& (3 : Int32))), .val (.int (10 : Int32)), .val (.ref a_LF), .val (.int (10 : Int32)), .val (.ref a_LF)] [])
        refine OE.iconst X6 hx hby at_103 (1 : Int32) rfl ?_
        refine OE.goto X6 hx hby (pc' := 108) at_104 (h := ?_)
        refine OE.retN X6 hx (t := .boolean) Bd.returns (by simp) Bd.notSynchronized (hb hby at_108) (by decide) (by decide) ?_
        rw [eq6]
        exact ⟨rfl, N6⟩
      · skip
        refine OE.icmpYes X0 hx hby (pc' := 36) at_27 (feq hc27).2 (h := ?_)
        refine OE.iloadN X0 hx hby at_36 rfl ?_
        refine OE.i2c X0 hx hby at_37 ?_
        refine OE.istoreN X0 hx hby at_38 (l' := #[.val (.int p1), .val (.int p2), .val (.int (p2 &&& (3 : Int32))), .val (.int (p1.toUInt32.toUInt16.toUInt32.toInt32)), .unset, .unset, .unset]) rfl ?_
        refine OE.iloadN X0 hx hby at_39 rfl ?_
        refine OE.istore X0 hx hby at_40 (l' := #[.val (.int p1), .val (.int p2), .val (.int (p2 &&& (3 : Int32))), .val (.int (p1.toUInt32.toUInt16.toUInt32.toInt32)), .unset, .val (.int (p1.toUInt32.toUInt16.toUInt32.toInt32)), .unset]) rfl ?_
        refine OE.iload X0 hx hby at_42 rfl ?_
        refine OE.bipush X0 hx hby at_44 (9 : Int32) rfl ?_
        by_cases hc46 : (p1.toUInt32.toUInt16.toUInt32.toInt32) = (9 : Int32)
        · skip
          refine OE.icmpNo X0 hx hby at_46 (teq hc46).2 ?_
          obtain ⟨T7, X7, e7, st7⟩ := getS2 X0 hx hZ hown (host := "") (Or.inl (hw _ (List.mem_of_getElem? (i := 7) rfl))) Via.refl e0 S_TAB (g := (mkF m 49 #[.val (.int p1), .val (.int p2), .val (.int (p2 &&& (3 : Int32))), .val (.int (p1.toUInt32.toUInt16.toUInt32.toInt32)), .unset, .val (.int (p1.toUInt32.toUInt16.toUInt32.toInt32)), .unset] [])) rfl (hb hby at_49)
          refine OE.of st7 ?_
          show OE _ p e below s _ _ _ T7 (mkF m 52 #[.val (.int p1), .val (.int p2), .val (.int (p2 &&& (3 : Int32))), .val (.int (p1.toUInt32.toUInt16.toUInt32.toInt32)), .unset, .val (.int (p1.toUInt32.toUInt16.toUInt32.toInt32)), .unset] [(.ref a_TAB)])
          refine OE.astore X7 hx hby at_52 rfl (l' := #[.val (.int p1), .val (.int p2), .val (.int (p2 &&& (3 : Int32))), .val (.int (p1.toUInt32.toUInt16.toUInt32.toInt32)), .val (.ref a_TAB), .val (.int (p1.toUInt32.toUInt16.toUInt32.toInt32)), .unset]) rfl ?_
          refine OE.goto X7 hx hby (pc' := 90) at_54 (h := ?_)
          refine OE.iloadN X7 hx hby at_90 rfl ?_
          obtain ⟨_, _, ⟨T8, L8, k8, n8⟩, -, X8, ⟨Lc8, hQ8, l8, y8, z8⟩, st8⟩ := Jvm.LawKit.callS X7 hx (y := (⟨"com/example/placetree/placetree/cli/Output$Separator", "of", "(C)Lcom/example/placetree/placetree/cli/Output$Separator;"⟩ : MethodName)) hown (mvT hZ (hw _ (List.mem_of_getElem? (i := 0) rfl))) (mvT hZ (hw _ (List.mem_of_getElem? (i := 1) rfl))) (mvT hZ (hw _ (List.mem_of_getElem? (i := 2) rfl))) (mvT hZ (hw _ (List.mem_of_getElem? (i := 3) rfl))) (by decide) (backOf (W := 0) (own_rm1 l Z a0 hw [] (p1.toUInt32.toUInt16.toUInt32.toInt32) a_CR a_TAB a_LF h0 n0 Z0 S_CR S_TAB S_LF) hZ (hw _ (List.mem_of_getElem? (i := 3) rfl)) (hw _ (List.mem_of_getElem? (i := 2) rfl)) (by decide) (by decide)) (g := (mkF m 91 #[.val (.int p1), .val (.int p2), .val (.int (p2 &&& (3 : Int32))), .val (.int (p1.toUInt32.toUInt16.toUInt32.toInt32)), .val (.ref a_TAB), .val (.int (p1.toUInt32.toUInt16.toUInt32.toInt32)), .unset] [(.int (p1.toUInt32.toUInt16.toUInt32.toInt32))])) rfl (by rw [hml]; rfl) (argsL := [(.int (p1.toUInt32.toUInt16.toUInt32.toInt32))]) (rest := []) (lenOf own_pd0 rfl) rfl (by show 2 * 0 + _ ≤ _; exact Nat.le_of_eq rfl) (hb hby at_91) (fun _ _ => ⟨rfl, e7, (by decide : 0 + 0 ≤ _), (by decide : 0 + 0 ≤ _)⟩)
          dsimp only [Pt.U, Pt.locs, Pt.cells, Pt.slots] at X8 l8 y8 z8 st8 hQ8
          subst l8 y8 z8
          obtain ⟨rfl, Nq8, eq8⟩ := hQ8
          refine OE.of (fun _ k => st8 _ k) ?_
          have N8 := Fr.app N0 Nq8
          show OE _ p e below s _ _ _ T8 (mkF m 94 #[.val (.int p1), .val (.int p2), .val (.int (p2 &&& (3 : Int32))), .val (.int (p1.toUInt32.toUInt16.toUInt32.toInt32)), .val (.ref a_TAB), .val (.int (p1.toUInt32.toUInt16.toUInt32.toInt32)), .unset] [(if (p1.toUInt32.toUInt16.toUInt32.toInt32) = (9 : Int32) then (.ref a_TAB) else (if (p1.toUInt32.toUInt16.toUInt32.toInt32) = (10 : Int32) then (.ref a_LF) else (if (p1.toUInt32.toUInt16.toUInt32.toInt32) = (11 : Int32) then .null else (if (p1.toUInt32.toUInt16.toUInt32.toInt32) = (12 : Int32) then .null else (if (p1.toUInt32.toUInt16.toUInt32.toInt32) = (13 : Int32) then (.ref a_CR) else .null)))))])
          rw [if_pos (show (p1.toUInt32.toUInt16.toUInt32.toInt32) = (9 : Int32) from hc46)]
          show OE _ p e below s _ _ _ T8 (mkF m 94 #[.val (.int p1), .val (.int p2), .val (.int (p2 &&& (3 : Int32))), .val (.int (p1.toUInt32.toUInt16.toUInt32.toInt32)), .val (.ref a_TAB), .val (.int (p1.toUInt32.toUInt16.toUInt32.toInt32)), .unset] [(.ref a_TAB)])
          refine OE.astore X8 hx hby at_94 rfl (l' := #[.val (.int p1), .val (.int p2), .val (.int (p2 &&& (3 : Int32))), .val (.int (p1.toUInt32.toUInt16.toUInt32.toInt32)), .val (.ref a_TAB), .val (.int (p1.toUInt32.toUInt16.toUInt32.toInt32)), .val (.ref a_TAB)]) rfl ?_
          refine OE.aload X8 hx hby at_96 rfl rfl ?_
          refine OE.aload X8 hx hby at_98 rfl rfl ?_
          refine OE.of (fun _ k => Jvm.RoadKit.acmp (g := (mkF m 100 #[.val (.int p1), .val (.int p2), .val (.int (p2 &&& (3 : Int32))), .val (.int (p1.toUInt32.toUInt16.toUInt32.toInt32)), .val (.ref a_TAB), .val (.int (p1.toUInt32.toUInt16.toUInt32.toInt32)), .val (.ref a_TAB)] [(.ref a_TAB), (.ref a_TAB)])) X8 hx rfl rfl rfl (pc0 := 100) (pc' := 103) (same := true) rfl (hb hby at_100) rfl (decide_eq_true rfl) (by decide) (by decide) k) ?_
          show OE _ p e below s _ _ _ T8 (mkF m 103 #[.val (.int p1), .val (.int p2), .val (.int (p2 &&& (3 : Int32))), .val (.int (p1.toUInt32.toUInt16.toUInt32.toInt32)), .val (.ref a_TAB), .val (.int (p1.toUInt32.toUInt16.toUInt32.toInt32)), .val (.ref a_TAB)] [])
          refine OE.iconst X8 hx hby at_103 (1 : Int32) rfl ?_
          refine OE.goto X8 hx hby (pc' := 108) at_104 (h := ?_)
          refine OE.retN X8 hx (t := .boolean) Bd.returns (by simp) Bd.notSynchronized (hb hby at_108) (by decide) (by decide) ?_
          rw [eq8]
          exact ⟨rfl, N8⟩
        · skip
          refine OE.icmpYes X0 hx hby (pc' := 57) at_46 (feq hc46).2 (h := ?_)
          refine OE.iload X0 hx hby at_57 rfl ?_
          refine OE.bipush X0 hx hby at_59 (13 : Int32) rfl ?_
          by_cases hc61 : (p1.toUInt32.toUInt16.toUInt32.toInt32) = (13 : Int32)
          · skip
            refine OE.icmpNo X0 hx hby at_61 (teq hc61).2 ?_
            obtain ⟨T9, X9, e9, st9⟩ := getS2 X0 hx hZ hown (host := "") (Or.inl (hw _ (List.mem_of_getElem? (i := 4) rfl))) Via.refl e0 S_CR (g := (mkF m 64 #[.val (.int p1), .val (.int p2), .val (.int (p2 &&& (3 : Int32))), .val (.int (p1.toUInt32.toUInt16.toUInt32.toInt32)), .unset, .val (.int (p1.toUInt32.toUInt16.toUInt32.toInt32)), .unset] [])) rfl (hb hby at_64)
            refine OE.of st9 ?_
            show OE _ p e below s _ _ _ T9 (mkF m 67 #[.val (.int p1), .val (.int p2), .val (.int (p2 &&& (3 : Int32))), .val (.int (p1.toUInt32.toUInt16.toUInt32.toInt32)), .unset, .val (.int (p1.toUInt32.toUInt16.toUInt32.toInt32)), .unset] [(.ref a_CR)])
            refine OE.astore X9 hx hby at_67 rfl (l' := #[.val (.int p1), .val (.int p2), .val (.int (p2 &&& (3 : Int32))), .val (.int (p1.toUInt32.toUInt16.toUInt32.toInt32)), .val (.ref a_CR), .val (.int (p1.toUInt32.toUInt16.toUInt32.toInt32)), .unset]) rfl ?_
            refine OE.goto X9 hx hby (pc' := 90) at_69 (h := ?_)
            refine OE.iloadN X9 hx hby at_90 rfl ?_
            obtain ⟨_, _, ⟨T10, L10, k10, n10⟩, -, X10, ⟨Lc10, hQ10, l10, y10, z10⟩, st10⟩ := Jvm.LawKit.callS X9 hx (y := (⟨"com/example/placetree/placetree/cli/Output$Separator", "of", "(C)Lcom/example/placetree/placetree/cli/Output$Separator;"⟩ : MethodName)) hown (mvT hZ (hw _ (List.mem_of_getElem? (i := 0) rfl))) (mvT hZ (hw _ (List.mem_of_getElem? (i := 1) rfl))) (mvT hZ (hw _ (List.mem_of_getElem? (i := 2) rfl))) (mvT hZ (hw _ (List.mem_of_getElem? (i := 3) rfl))) (by decide) (backOf (W := 0) (own_rm1 l Z a0 hw [] (p1.toUInt32.toUInt16.toUInt32.toInt32) a_CR a_TAB a_LF h0 n0 Z0 S_CR S_TAB S_LF) hZ (hw _ (List.mem_of_getElem? (i := 3) rfl)) (hw _ (List.mem_of_getElem? (i := 2) rfl)) (by decide) (by decide)) (g := (mkF m 91 #[.val (.int p1), .val (.int p2), .val (.int (p2 &&& (3 : Int32))), .val (.int (p1.toUInt32.toUInt16.toUInt32.toInt32)), .val (.ref a_CR), .val (.int (p1.toUInt32.toUInt16.toUInt32.toInt32)), .unset] [(.int (p1.toUInt32.toUInt16.toUInt32.toInt32))])) rfl (by rw [hml]; rfl) (argsL := [(.int (p1.toUInt32.toUInt16.toUInt32.toInt32))]) (rest := []) (lenOf own_pd0 rfl) rfl (by show 2 * 0 + _ ≤ _; exact Nat.le_of_eq rfl) (hb hby at_91) (fun _ _ => ⟨rfl, e9, (by decide : 0 + 0 ≤ _), (by decide : 0 + 0 ≤ _)⟩)
            dsimp only [Pt.U, Pt.locs, Pt.cells, Pt.slots] at X10 l10 y10 z10 st10 hQ10
            subst l10 y10 z10
            obtain ⟨rfl, Nq10, eq10⟩ := hQ10
            refine OE.of (fun _ k => st10 _ k) ?_
            have N10 := Fr.app N0 Nq10
            show OE _ p e below s _ _ _ T10 (mkF m 94 #[.val (.int p1), .val (.int p2), .val (.int (p2 &&& (3 : Int32))), .val (.int (p1.toUInt32.toUInt16.toUInt32.toInt32)), .val (.ref a_CR), .val (.int (p1.toUInt32.toUInt16.toUInt32.toInt32)), .unset] [(if (p1.toUInt32.toUInt16.toUInt32.toInt32) = (9 : Int32) then (.ref a_TAB) else (if (p1.toUInt32.toUInt16.toUInt32.toInt32) = (10 : Int32) then (.ref a_LF) else (if (p1.toUInt32.toUInt16.toUInt32.toInt32) = (11 : Int32) then .null else (if (p1.toUInt32.toUInt16.toUInt32.toInt32) = (12 : Int32) then .null else (if (p1.toUInt32.toUInt16.toUInt32.toInt32) = (13 : Int32) then (.ref a_CR) else .null)))))])
            rw [if_neg (show ¬ ((p1.toUInt32.toUInt16.toUInt32.toInt32) = (9 : Int32)) from hc46)]
            show OE _ p e below s _ _ _ T10 (mkF m 94 #[.val (.int p1), .val (.int p2), .val (.int (p2 &&& (3 : Int32))), .val (.int (p1.toUInt32.toUInt16.toUInt32.toInt32)), .val (.ref a_CR), .val (.int (p1.toUInt32.toUInt16.toUInt32.toInt32)), .unset] [(if (p1.toUInt32.toUInt16.toUInt32.toInt32) = (10 : Int32) then (.ref a_LF) else (if (p1.toUInt32.toUInt16.toUInt32.toInt32) = (11 : Int32) then .null else (if (p1.toUInt32.toUInt16.toUInt32.toInt32) = (12 : Int32) then .null else (if (p1.toUInt32.toUInt16.toUInt32.toInt32) = (13 : Int32) then (.ref a_CR) else .null))))])
            rw [if_neg (show ¬ ((p1.toUInt32.toUInt16.toUInt32.toInt32) = (10 : Int32)) from (fun q => absurd (hc61.symm.trans q) (by decide)))]
            show OE _ p e below s _ _ _ T10 (mkF m 94 #[.val (.int p1), .val (.int p2), .val (.int (p2 &&& (3 : Int32))), .val (.int (p1.toUInt32.toUInt16.toUInt32.toInt32)), .val (.ref a_CR), .val (.int (p1.toUInt32.toUInt16.toUInt32.toInt32)), .unset] [(if (p1.toUInt32.toUInt16.toUInt32.toInt32) = (11 : Int32) then .null else (if (p1.toUInt32.toUInt16.toUInt32.toInt32) = (12 : Int32) then .null else (if (p1.toUInt32.toUInt16.toUInt32.toInt32) = (13 : Int32) then (.ref a_CR) else .null)))])
            rw [if_neg (show ¬ ((p1.toUInt32.toUInt16.toUInt32.toInt32) = (11 : Int32)) from (fun q => absurd (hc61.symm.trans q) (by decide)))]
            show OE _ p e below s _ _ _ T10 (mkF m 94 #[.val (.int p1), .val (.int p2), .val (.int (p2 &&& (3 : Int32))), .val (.int (p1.toUInt32.toUInt16.toUInt32.toInt32)), .val (.ref a_CR), .val (.int (p1.toUInt32.toUInt16.toUInt32.toInt32)), .unset] [(if (p1.toUInt32.toUInt16.toUInt32.toInt32) = (12 : Int32) then .null else (if (p1.toUInt32.toUInt16.toUInt32.toInt32) = (13 : Int32) then (.ref a_CR) else .null))])
            rw [if_neg (show ¬ ((p1.toUInt32.toUInt16.toUInt32.toInt32) = (12 : Int32)) from (fun q => absurd (hc61.symm.trans q) (by decide)))]
            show OE _ p e below s _ _ _ T10 (mkF m 94 #[.val (.int p1), .val (.int p2), .val (.int (p2 &&& (3 : Int32))), .val (.int (p1.toUInt32.toUInt16.toUInt32.toInt32)), .val (.ref a_CR), .val (.int (p1.toUInt32.toUInt16.toUInt32.toInt32)), .unset] [(if (p1.toUInt32.toUInt16.toUInt32.toInt32) = (13 : Int32) then (.ref a_CR) else .null)])
            rw [if_pos (show (p1.toUInt32.toUInt16.toUInt32.toInt32) = (13 : Int32) from hc61)]
            show OE _ p e below s _ _ _ T10 (mkF m 94 #[.val (.int p1), .val (.int p2), .val (.int (p2 &&& (3 : Int32))), .val (.int (p1.toUInt32.toUInt16.toUInt32.toInt32)), .val (.ref a_CR), .val (.int (p1.toUInt32.toUInt16.toUInt32.toInt32)), .unset] [(.ref a_CR)])
            refine OE.astore X10 hx hby at_94 rfl (l' := #[.val (.int p1), .val (.int p2), .val (.int (p2 &&& (3 : Int32))), .val (.int (p1.toUInt32.toUInt16.toUInt32.toInt32)), .val (.ref a_CR), .val (.int (p1.toUInt32.toUInt16.toUInt32.toInt32)), .val (.ref a_CR)]) rfl ?_
            refine OE.aload X10 hx hby at_96 rfl rfl ?_
            refine OE.aload X10 hx hby at_98 rfl rfl ?_
            refine OE.of (fun _ k => Jvm.RoadKit.acmp (g := (mkF m 100 #[.val (.int p1), .val (.int p2), .val (.int (p2 &&& (3 : Int32))), .val (.int (p1.toUInt32.toUInt16.toUInt32.toInt32)), .val (.ref a_CR), .val (.int (p1.toUInt32.toUInt16.toUInt32.toInt32)), .val (.ref a_CR)] [(.ref a_CR), (.ref a_CR)])) X10 hx rfl rfl rfl (pc0 := 100) (pc' := 103) (same := true) rfl (hb hby at_100) rfl (decide_eq_true rfl) (by decide) (by decide) k) ?_
            show OE _ p e below s _ _ _ T10 (mkF m 103 #[.val (.int p1), .val (.int p2), .val (.int (p2 &&& (3 : Int32))), .val (.int (p1.toUInt32.toUInt16.toUInt32.toInt32)), .val (.ref a_CR), .val (.int (p1.toUInt32.toUInt16.toUInt32.toInt32)), .val (.ref a_CR)] [])
            refine OE.iconst X10 hx hby at_103 (1 : Int32) rfl ?_
            refine OE.goto X10 hx hby (pc' := 108) at_104 (h := ?_)
            refine OE.retN X10 hx (t := .boolean) Bd.returns (by simp) Bd.notSynchronized (hb hby at_108) (by decide) (by decide) ?_
            rw [eq10]
            exact ⟨rfl, N10⟩
          · skip
            refine OE.icmpYes X0 hx hby (pc' := 72) at_61 (feq hc61).2 (h := ?_)
            refine OE.iload X0 hx hby at_72 rfl ?_
            refine OE.bipush X0 hx hby at_74 (10 : Int32) rfl ?_
            by_cases hc76 : (p1.toUInt32.toUInt16.toUInt32.toInt32) = (10 : Int32)
            · skip
              refine OE.icmpNo X0 hx hby at_76 (teq hc76).2 ?_
              obtain ⟨T11, X11, e11, st11⟩ := getS2 X0 hx hZ hown (host := "") (Or.inl (hw _ (List.mem_of_getElem? (i := 10) rfl))) Via.refl e0 S_LF (g := (mkF m 79 #[.val (.int p1), .val (.int p2), .val (.int (p2 &&& (3 : Int32))), .val (.int (p1.toUInt32.toUInt16.toUInt32.toInt32)), .unset, .val (.int (p1.toUInt32.toUInt16.toUInt32.toInt32)), .unset] [])) rfl (hb hby at_79)
              refine OE.of st11 ?_
              show OE _ p e below s _ _ _ T11 (mkF m 82 #[.val (.int p1), .val (.int p2), .val (.int (p2 &&& (3 : Int32))), .val (.int (p1.toUInt32.toUInt16.toUInt32.toInt32)), .unset, .val (.int (p1.toUInt32.toUInt16.toUInt32.toInt32)), .unset] [(.ref a_LF)])
              refine OE.astore X11 hx hby at_82 rfl (l' := #[.val (.int p1), .val (.int p2), .val (.int (p2 &&& (3 : Int32))), .val (.int (p1.toUInt32.toUInt16.toUInt32.toInt32)), .val (.ref a_LF), .val (.int (p1.toUInt32.toUInt16.toUInt32.toInt32)), .unset]) rfl ?_
              refine OE.goto X11 hx hby (pc' := 90) at_84 (h := ?_)
              refine OE.iloadN X11 hx hby at_90 rfl ?_
              obtain ⟨_, _, ⟨T12, L12, k12, n12⟩, -, X12, ⟨Lc12, hQ12, l12, y12, z12⟩, st12⟩ := Jvm.LawKit.callS X11 hx (y := (⟨"com/example/placetree/placetree/cli/Output$Separator", "of", "(C)Lcom/example/placetree/placetree/cli/Output$Separator;"⟩ : MethodName)) hown (mvT hZ (hw _ (List.mem_of_getElem? (i := 0) rfl))) (mvT hZ (hw _ (List.mem_of_getElem? (i := 1) rfl))) (mvT hZ (hw _ (List.mem_of_getElem? (i := 2) rfl))) (mvT hZ (hw _ (List.mem_of_getElem? (i := 3) rfl))) (by decide) (backOf (W := 0) (own_rm1 l Z a0 hw [] (p1.toUInt32.toUInt16.toUInt32.toInt32) a_CR a_TAB a_LF h0 n0 Z0 S_CR S_TAB S_LF) hZ (hw _ (List.mem_of_getElem? (i := 3) rfl)) (hw _ (List.mem_of_getElem? (i := 2) rfl)) (by decide) (by decide)) (g := (mkF m 91 #[.val (.int p1), .val (.int p2), .val (.int (p2 &&& (3 : Int32))), .val (.int (p1.toUInt32.toUInt16.toUInt32.toInt32)), .val (.ref a_LF), .val (.int (p1.toUInt32.toUInt16.toUInt32.toInt32)), .unset] [(.int (p1.toUInt32.toUInt16.toUInt32.toInt32))])) rfl (by rw [hml]; rfl) (argsL := [(.int (p1.toUInt32.toUInt16.toUInt32.toInt32))]) (rest := []) (lenOf own_pd0 rfl) rfl (by show 2 * 0 + _ ≤ _; exact Nat.le_of_eq rfl) (hb hby at_91) (fun _ _ => ⟨rfl, e11, (by decide : 0 + 0 ≤ _), (by decide : 0 + 0 ≤ _)⟩)
              dsimp only [Pt.U, Pt.locs, Pt.cells, Pt.slots] at X12 l12 y12 z12 st12 hQ12
              subst l12 y12 z12
              obtain ⟨rfl, Nq12, eq12⟩ := hQ12
              refine OE.of (fun _ k => st12 _ k) ?_
              have N12 := Fr.app N0 Nq12
              show OE _ p e below s _ _ _ T12 (mkF m 94 #[.val (.int p1), .val (.int p2), .val (.int (p2 &&& (3 : Int32))), .val (.int (p1.toUInt32.toUInt16.toUInt32.toInt32)), .val (.ref a_LF), .val (.int (p1.toUInt32.toUInt16.toUInt32.toInt32)), .unset] [(if (p1.toUInt32.toUInt16.toUInt32.toInt32) = (9 : Int32) then (.ref a_TAB) else (if (p1.toUInt32.toUInt16.toUInt32.toInt32) = (10 : Int32) then (.ref a_LF) else (if (p1.toUInt32.toUInt16.toUInt32.toInt32) = (11 : Int32) then .null else (if (p1.toUInt32.toUInt16.toUInt32.toInt32) = (12 : Int32) then .null else (if (p1.toUInt32.toUInt16.toUInt32.toInt32) = (13 : Int32) then (.ref a_CR) else .null)))))])
              rw [if_neg (show ¬ ((p1.toUInt32.toUInt16.toUInt32.toInt32) = (9 : Int32)) from hc46)]
              show OE _ p e below s _ _ _ T12 (mkF m 94 #[.val (.int p1), .val (.int p2), .val (.int (p2 &&& (3 : Int32))), .val (.int (p1.toUInt32.toUInt16.toUInt32.toInt32)), .val (.ref a_LF), .val (.int (p1.toUInt32.toUInt16.toUInt32.toInt32)), .unset] [(if (p1.toUInt32.toUInt16.toUInt32.toInt32) = (10 : Int32) then (.ref a_LF) else (if (p1.toUInt32.toUInt16.toUInt32.toInt32) = (11 : Int32) then .null else (if (p1.toUInt32.toUInt16.toUInt32.toInt32) = (12 : Int32) then .null else (if (p1.toUInt32.toUInt16.toUInt32.toInt32) = (13 : Int32) then (.ref a_CR) else .null))))])
              rw [if_pos (show (p1.toUInt32.toUInt16.toUInt32.toInt32) = (10 : Int32) from hc76)]
              show OE _ p e below s _ _ _ T12 (mkF m 94 #[.val (.int p1), .val (.int p2), .val (.int (p2 &&& (3 : Int32))), .val (.int (p1.toUInt32.toUInt16.toUInt32.toInt32)), .val (.ref a_LF), .val (.int (p1.toUInt32.toUInt16.toUInt32.toInt32)), .unset] [(.ref a_LF)])
              refine OE.astore X12 hx hby at_94 rfl (l' := #[.val (.int p1), .val (.int p2), .val (.int (p2 &&& (3 : Int32))), .val (.int (p1.toUInt32.toUInt16.toUInt32.toInt32)), .val (.ref a_LF), .val (.int (p1.toUInt32.toUInt16.toUInt32.toInt32)), .val (.ref a_LF)]) rfl ?_
              refine OE.aload X12 hx hby at_96 rfl rfl ?_
              refine OE.aload X12 hx hby at_98 rfl rfl ?_
              refine OE.of (fun _ k => Jvm.RoadKit.acmp (g := (mkF m 100 #[.val (.int p1), .val (.int p2), .val (.int (p2 &&& (3 : Int32))), .val (.int (p1.toUInt32.toUInt16.toUInt32.toInt32)), .val (.ref a_LF), .val (.int (p1.toUInt32.toUInt16.toUInt32.toInt32)), .val (.ref a_LF)] [(.ref a_LF), (.ref a_LF)])) X12 hx rfl rfl rfl (pc0 := 100) (pc' := 103) (same := true) rfl (hb hby at_100) rfl (decide_eq_true rfl) (by decide) (by decide) k) ?_
              show OE _ p e below s _ _ _ T12 (mkF m 103 #[.val (.int p1), .val (.int p2), .val (.int (p2 &&& (3 : Int32))), .val (.int (p1.toUInt32.toUInt16.toUInt32.toInt32)), .val (.ref a_LF), .val (.int (p1.toUInt32.toUInt16.toUInt32.toInt32)), .val (.ref a_LF)] [])
              refine OE.iconst X12 hx hby at_103 (1 : Int32) rfl ?_
              refine OE.goto X12 hx hby (pc' := 108) at_104 (h := ?_)
              refine OE.retN X12 hx (t := .boolean) Bd.returns (by simp) Bd.notSynchronized (hb hby at_108) (by decide) (by decide) ?_
              rw [eq12]
              exact ⟨rfl, N12⟩
            · skip
              refine OE.icmpYes X0 hx hby (pc' := 87) at_76 (feq hc76).2 (h := ?_)
              refine OE.aconstNull X0 hx hby at_87 ?_
              refine OE.astore X0 hx hby at_88 rfl (l' := #[.val (.int p1), .val (.int p2), .val (.int (p2 &&& (3 : Int32))), .val (.int (p1.toUInt32.toUInt16.toUInt32.toInt32)), .val .null, .val (.int (p1.toUInt32.toUInt16.toUInt32.toInt32)), .unset]) rfl ?_
              refine OE.iloadN X0 hx hby at_90 rfl ?_
              obtain ⟨_, _, ⟨T13, L13, k13, n13⟩, -, X13, ⟨Lc13, hQ13, l13, y13, z13⟩, st13⟩ := Jvm.LawKit.callS X0 hx (y := (⟨"com/example/placetree/placetree/cli/Output$Separator", "of", "(C)Lcom/example/placetree/placetree/cli/Output$Separator;"⟩ : MethodName)) hown (mvT hZ (hw _ (List.mem_of_getElem? (i := 0) rfl))) (mvT hZ (hw _ (List.mem_of_getElem? (i := 1) rfl))) (mvT hZ (hw _ (List.mem_of_getElem? (i := 2) rfl))) (mvT hZ (hw _ (List.mem_of_getElem? (i := 3) rfl))) (by decide) (backOf (W := 0) (own_rm1 l Z a0 hw [] (p1.toUInt32.toUInt16.toUInt32.toInt32) a_CR a_TAB a_LF h0 n0 Z0 S_CR S_TAB S_LF) hZ (hw _ (List.mem_of_getElem? (i := 3) rfl)) (hw _ (List.mem_of_getElem? (i := 2) rfl)) (by decide) (by decide)) (g := (mkF m 91 #[.val (.int p1), .val (.int p2), .val (.int (p2 &&& (3 : Int32))), .val (.int (p1.toUInt32.toUInt16.toUInt32.toInt32)), .val .null, .val (.int (p1.toUInt32.toUInt16.toUInt32.toInt32)), .unset] [(.int (p1.toUInt32.toUInt16.toUInt32.toInt32))])) rfl (by rw [hml]; rfl) (argsL := [(.int (p1.toUInt32.toUInt16.toUInt32.toInt32))]) (rest := []) (lenOf own_pd0 rfl) rfl (by show 2 * 0 + _ ≤ _; exact Nat.le_of_eq rfl) (hb hby at_91) (fun _ _ => ⟨rfl, e0, (by decide : 0 + 0 ≤ _), (by decide : 0 + 0 ≤ _)⟩)
              dsimp only [Pt.U, Pt.locs, Pt.cells, Pt.slots] at X13 l13 y13 z13 st13 hQ13
              subst l13 y13 z13
              obtain ⟨rfl, Nq13, eq13⟩ := hQ13
              refine OE.of (fun _ k => st13 _ k) ?_
              have N13 := Fr.app N0 Nq13
              show OE _ p e below s _ _ _ T13 (mkF m 94 #[.val (.int p1), .val (.int p2), .val (.int (p2 &&& (3 : Int32))), .val (.int (p1.toUInt32.toUInt16.toUInt32.toInt32)), .val .null, .val (.int (p1.toUInt32.toUInt16.toUInt32.toInt32)), .unset] [(if (p1.toUInt32.toUInt16.toUInt32.toInt32) = (9 : Int32) then (.ref a_TAB) else (if (p1.toUInt32.toUInt16.toUInt32.toInt32) = (10 : Int32) then (.ref a_LF) else (if (p1.toUInt32.toUInt16.toUInt32.toInt32) = (11 : Int32) then .null else (if (p1.toUInt32.toUInt16.toUInt32.toInt32) = (12 : Int32) then .null else (if (p1.toUInt32.toUInt16.toUInt32.toInt32) = (13 : Int32) then (.ref a_CR) else .null)))))])
              rw [if_neg (show ¬ ((p1.toUInt32.toUInt16.toUInt32.toInt32) = (9 : Int32)) from hc46)]
              show OE _ p e below s _ _ _ T13 (mkF m 94 #[.val (.int p1), .val (.int p2), .val (.int (p2 &&& (3 : Int32))), .val (.int (p1.toUInt32.toUInt16.toUInt32.toInt32)), .val .null, .val (.int (p1.toUInt32.toUInt16.toUInt32.toInt32)), .unset] [(if (p1.toUInt32.toUInt16.toUInt32.toInt32) = (10 : Int32) then (.ref a_LF) else (if (p1.toUInt32.toUInt16.toUInt32.toInt32) = (11 : Int32) then .null else (if (p1.toUInt32.toUInt16.toUInt32.toInt32) = (12 : Int32) then .null else (if (p1.toUInt32.toUInt16.toUInt32.toInt32) = (13 : Int32) then (.ref a_CR) else .null))))])
              rw [if_neg (show ¬ ((p1.toUInt32.toUInt16.toUInt32.toInt32) = (10 : Int32)) from hc76)]
              show OE _ p e below s _ _ _ T13 (mkF m 94 #[.val (.int p1), .val (.int p2), .val (.int (p2 &&& (3 : Int32))), .val (.int (p1.toUInt32.toUInt16.toUInt32.toInt32)), .val .null, .val (.int (p1.toUInt32.toUInt16.toUInt32.toInt32)), .unset] [(if (p1.toUInt32.toUInt16.toUInt32.toInt32) = (11 : Int32) then .null else (if (p1.toUInt32.toUInt16.toUInt32.toInt32) = (12 : Int32) then .null else (if (p1.toUInt32.toUInt16.toUInt32.toInt32) = (13 : Int32) then (.ref a_CR) else .null)))])
              by_cases hl14 : (p1.toUInt32.toUInt16.toUInt32.toInt32) = (11 : Int32)
              · skip
                rw [if_pos (show (p1.toUInt32.toUInt16.toUInt32.toInt32) = (11 : Int32) from hl14)]
                show OE _ p e below s _ _ _ T13 (mkF m 94 #[.val (.int p1), .val (.int p2), .val (.int (p2 &&& (3 : Int32))), .val (.int (p1.toUInt32.toUInt16.toUInt32.toInt32)), .val .null, .val (.int (p1.toUInt32.toUInt16.toUInt32.toInt32)), .unset] [.null])
                refine OE.astore X13 hx hby at_94 rfl (l' := #[.val (.int p1), .val (.int p2), .val (.int (p2 &&& (3 : Int32))), .val (.int (p1.toUInt32.toUInt16.toUInt32.toInt32)), .val .null, .val (.int (p1.toUInt32.toUInt16.toUInt32.toInt32)), .val .null]) rfl ?_
                refine OE.aload X13 hx hby at_96 rfl rfl ?_
                refine OE.aload X13 hx hby at_98 rfl rfl ?_
                refine OE.of (fun _ k => Jvm.RoadKit.acmp (g := (mkF m 100 #[.val (.int p1), .val (.int p2), .val (.int (p2 &&& (3 : Int32))), .val (.int (p1.toUInt32.toUInt16.toUInt32.toInt32)), .val .null, .val (.int (p1.toUInt32.toUInt16.toUInt32.toInt32)), .val .null] [.null, .null])) X13 hx rfl rfl rfl (pc0 := 100) (pc' := 103) (same := true) rfl (hb hby at_100) rfl (decide_eq_true rfl) (by decide) (by decide) k) ?_
                show OE _ p e below s _ _ _ T13 (mkF m 103 #[.val (.int p1), .val (.int p2), .val (.int (p2 &&& (3 : Int32))), .val (.int (p1.toUInt32.toUInt16.toUInt32.toInt32)), .val .null, .val (.int (p1.toUInt32.toUInt16.toUInt32.toInt32)), .val .null] [])
                refine OE.iconst X13 hx hby at_103 (1 : Int32) rfl ?_
                refine OE.goto X13 hx hby (pc' := 108) at_104 (h := ?_)
                refine OE.retN X13 hx (t := .boolean) Bd.returns (by simp) Bd.notSynchronized (hb hby at_108) (by decide) (by decide) ?_
                rw [eq13]
                exact ⟨rfl, N13⟩
              · skip
                rw [if_neg (show ¬ ((p1.toUInt32.toUInt16.toUInt32.toInt32) = (11 : Int32)) from hl14)]
                show OE _ p e below s _ _ _ T13 (mkF m 94 #[.val (.int p1), .val (.int p2), .val (.int (p2 &&& (3 : Int32))), .val (.int (p1.toUInt32.toUInt16.toUInt32.toInt32)), .val .null, .val (.int (p1.toUInt32.toUInt16.toUInt32.toInt32)), .unset] [(if (p1.toUInt32.toUInt16.toUInt32.toInt32) = (12 : Int32) then .null else (if (p1.toUInt32.toUInt16.toUInt32.toInt32) = (13 : Int32) then (.ref a_CR) else .null))])
                by_cases hl15 : (p1.toUInt32.toUInt16.toUInt32.toInt32) = (12 : Int32)
                · skip
                  rw [if_pos (show (p1.toUInt32.toUInt16.toUInt32.toInt32) = (12 : Int32) from hl15)]
                  show OE _ p e below s _ _ _ T13 (mkF m 94 #[.val (.int p1), .val (.int p2), .val (.int (p2 &&& (3 : Int32))), .val (.int (p1.toUInt32.toUInt16.toUInt32.toInt32)), .val .null, .val (.int (p1.toUInt32.toUInt16.toUInt32.toInt32)), .unset] [.null])
                  refine OE.astore X13 hx hby at_94 rfl (l' := #[.val (.int p1), .val (.int p2), .val (.int (p2 &&& (3 : Int32))), .val (.int (p1.toUInt32.toUInt16.toUInt32.toInt32)), .val .null, .val (.int (p1.toUInt32.toUInt16.toUInt32.toInt32)), .val .null]) rfl ?_
                  refine OE.aload X13 hx hby at_96 rfl rfl ?_
                  refine OE.aload X13 hx hby at_98 rfl rfl ?_
                  refine OE.of (fun _ k => Jvm.RoadKit.acmp (g := (mkF m 100 #[.val (.int p1), .val (.int p2), .val (.int (p2 &&& (3 : Int32))), .val (.int (p1.toUInt32.toUInt16.toUInt32.toInt32)), .val .null, .val (.int (p1.toUInt32.toUInt16.toUInt32.toInt32)), .val .null] [.null, .null])) X13 hx rfl rfl rfl (pc0 := 100) (pc' := 103) (same := true) rfl (hb hby at_100) rfl (decide_eq_true rfl) (by decide) (by decide) k) ?_
                  show OE _ p e below s _ _ _ T13 (mkF m 103 #[.val (.int p1), .val (.int p2), .val (.int (p2 &&& (3 : Int32))), .val (.int (p1.toUInt32.toUInt16.toUInt32.toInt32)), .val .null, .val (.int (p1.toUInt32.toUInt16.toUInt32.toInt32)), .val .null] [])
                  refine OE.iconst X13 hx hby at_103 (1 : Int32) rfl ?_
                  refine OE.goto X13 hx hby (pc' := 108) at_104 (h := ?_)
                  refine OE.retN X13 hx (t := .boolean) Bd.returns (by simp) Bd.notSynchronized (hb hby at_108) (by decide) (by decide) ?_
                  rw [eq13]
                  exact ⟨rfl, N13⟩
                · skip
                  rw [if_neg (show ¬ ((p1.toUInt32.toUInt16.toUInt32.toInt32) = (12 : Int32)) from hl15)]
                  show OE _ p e below s _ _ _ T13 (mkF m 94 #[.val (.int p1), .val (.int p2), .val (.int (p2 &&& (3 : Int32))), .val (.int (p1.toUInt32.toUInt16.toUInt32.toInt32)), .val .null, .val (.int (p1.toUInt32.toUInt16.toUInt32.toInt32)), .unset] [(if (p1.toUInt32.toUInt16.toUInt32.toInt32) = (13 : Int32) then (.ref a_CR) else .null)])
                  rw [if_neg (show ¬ ((p1.toUInt32.toUInt16.toUInt32.toInt32) = (13 : Int32)) from hc61)]
                  show OE _ p e below s _ _ _ T13 (mkF m 94 #[.val (.int p1), .val (.int p2), .val (.int (p2 &&& (3 : Int32))), .val (.int (p1.toUInt32.toUInt16.toUInt32.toInt32)), .val .null, .val (.int (p1.toUInt32.toUInt16.toUInt32.toInt32)), .unset] [.null])
                  refine OE.astore X13 hx hby at_94 rfl (l' := #[.val (.int p1), .val (.int p2), .val (.int (p2 &&& (3 : Int32))), .val (.int (p1.toUInt32.toUInt16.toUInt32.toInt32)), .val .null, .val (.int (p1.toUInt32.toUInt16.toUInt32.toInt32)), .val .null]) rfl ?_
                  refine OE.aload X13 hx hby at_96 rfl rfl ?_
                  refine OE.aload X13 hx hby at_98 rfl rfl ?_
                  refine OE.of (fun _ k => Jvm.RoadKit.acmp (g := (mkF m 100 #[.val (.int p1), .val (.int p2), .val (.int (p2 &&& (3 : Int32))), .val (.int (p1.toUInt32.toUInt16.toUInt32.toInt32)), .val .null, .val (.int (p1.toUInt32.toUInt16.toUInt32.toInt32)), .val .null] [.null, .null])) X13 hx rfl rfl rfl (pc0 := 100) (pc' := 103) (same := true) rfl (hb hby at_100) rfl (decide_eq_true rfl) (by decide) (by decide) k) ?_
                  show OE _ p e below s _ _ _ T13 (mkF m 103 #[.val (.int p1), .val (.int p2), .val (.int (p2 &&& (3 : Int32))), .val (.int (p1.toUInt32.toUInt16.toUInt32.toInt32)), .val .null, .val (.int (p1.toUInt32.toUInt16.toUInt32.toInt32)), .val .null] [])
                  refine OE.iconst X13 hx hby at_103 (1 : Int32) rfl ?_
                  refine OE.goto X13 hx hby (pc' := 108) at_104 (h := ?_)
                  refine OE.retN X13 hx (t := .boolean) Bd.returns (by simp) Bd.notSynchronized (hb hby at_108) (by decide) (by decide) ?_
                  rw [eq13]
                  exact ⟨rfl, N13⟩
set_option maxRecDepth 65536 in
set_option maxHeartbeats 40000000 in
theorem comes_1 {Post : Tables → Env → Array Value → State → Outcome → State → Prop} (hpost : ∀ tb e args s v u, (limb_1_1.after args s (.returned v) u = true ∧ limb_1_2.after args s (.returned v) u = true ∧ True) → FrameEnd s (.returned v) u (Jvm.fieldLocs frame_1_writes args s ++ Jvm.arrayLocs frame_1_arrays args s ++ Jvm.staticLocs frame_1_statics s) 0 0 → Post tb e args s (.returned v) u) :
    ArmFor flags0 classFile x code maxLocals ret World_1 tables_1 room_1 Calls_1 rest_1 Pre_1 Post := by
  intro l hfl _ _ p e ha hc hk s m args below hf hA hF happ hP
  obtain ⟨hcalls, hrest, hpre⟩ := hP
  obtain ⟨-, -, -, hnamed, -, -, -, hat⟩ := (Spec.applies_iff hf).mp happ
  obtain ⟨hg, hn⟩ := and_e (Cond.before_iff.mp (show (Jvm.Cond.and given_1 narrow_1).before args s = true from hpre))
  obtain ⟨g1, g2⟩ := and_e hg
  obtain ⟨g3, g4⟩ := and_e g2
  obtain ⟨w0, w1, rfl⟩ : ∃ w0 w1 : Value, args = #[w0, w1] := by
    have hs : args.size = 2 := by simpa [Cond.value, given_1] using g1
    obtain ⟨L⟩ := args
    match L, hs with
    | [w0, w1], _ => exact ⟨w0, w1, rfl⟩
  have hw := fun d (hd : d ∈ tables_1) => atoms_spec (ws := Jvm.Cond.code x code maxLocals ret :: tables_1) hat d (List.mem_cons_of_mem _ hd)
  have hfit : Fit s := fun {y c} hc i hi => by
    obtain ⟨ha, rfl⟩ := Array.getElem?_eq_some_iff.mp hc
    have q := List.all_eq_true.mp ((Array.all_eq_true_iff_forall_mem.mp hF) _ (Array.getElem_mem ha)) i (List.mem_range.mpr hi)
    simpa [Array.getElem?_eq_getElem hi] using q
  obtain ⟨i0, ei0⟩ := is_v g3
  obtain rfl : w0 = (.int i0) := Option.some.inj ei0
  obtain ⟨i1, ei1⟩ := is_v g4
  obtain rfl : w1 = (.int i1) := Option.some.inj ei1
  obtain ⟨n1, n2⟩ := and_e hn
  obtain ⟨n3, n4⟩ := and_e n2
  obtain ⟨a_CR, e_CR⟩ := exa_v n1
  have S_CR : Sta s s.heap "com/example/placetree/placetree/cli/Output$Separator" "CR" "Lcom/example/placetree/placetree/cli/Output$Separator;" (.ref a_CR) := Sta.start e_CR (Or.inr ⟨(hw _ (List.mem_of_getElem? (i := 2) rfl)), (hw _ (List.mem_of_getElem? (i := 5) rfl))⟩)
  obtain ⟨a_TAB, e_TAB⟩ := exa_v n3
  have S_TAB : Sta s s.heap "com/example/placetree/placetree/cli/Output$Separator" "TAB" "Lcom/example/placetree/placetree/cli/Output$Separator;" (.ref a_TAB) := Sta.start e_TAB (Or.inr ⟨(hw _ (List.mem_of_getElem? (i := 2) rfl)), (hw _ (List.mem_of_getElem? (i := 8) rfl))⟩)
  obtain ⟨a_LF, e_LF⟩ := exa_v n4
  have S_LF : Sta s s.heap "com/example/placetree/placetree/cli/Output$Separator" "LF" "Lcom/example/placetree/placetree/cli/Output$Separator;" (.ref a_LF) := Sta.start e_LF (Or.inr ⟨(hw _ (List.mem_of_getElem? (i := 2) rfl)), (hw _ (List.mem_of_getElem? (i := 11) rfl))⟩)
  obtain ⟨n, o, h1, h2, h3, _, L, rfl, ⟨rfl, N⟩, hq⟩ := own_rm0 l s _ hw tables_1 i0 i1 a_CR a_TAB a_LF s.heap s.heap.size (Nat.le_refl _) S_CR S_TAB S_LF p e ha hc hk s m _ below hf ((Spec.applies_iff_loose hf).mp happ).1 ⟨rfl, State.Warmed39.refl s, rfl⟩ trivial
  refine ⟨n, _, h1, h2, h3, hpost _ _ _ _ _ _ ⟨Cond.after_iff.mpr rfl, Cond.after_iff.mpr (eq_i res_at (Term.int_eval (1)) rfl), trivial⟩ ⟨hq.1, hq.2.1, (hq.2.2.sift fun y hy => Or.inr (N y hy)).mono (by decide) (by decide)⟩⟩
theorem main_1_1 : Claimed_1_1 := comes_1 fun _ _ _ _ _ _ h hF => ⟨h.1, hF⟩
theorem main_1_2 : Claimed_1_2 := comes_1 fun _ _ _ _ _ _ h hF => ⟨h.2.1, hF⟩
end Jvm.Pilot.@@N@@
namespace Jvm.Pilot.@@N@@
open Jvm Jvm.ClassFile Sem Op Lib Jvm.Free Jvm.Stand Jvm.Pilot.@@N@@.Jvm.D
/-! MADE BY PROGRAM (witnessworld.py) out of the Statement's table words and the real class files: 12 classes; the members and pool entries that the words name. The judged class is class 1, her method 1. -/
namespace start1
open Jvm.ClassFile
def u (s : String) : CpInfo := .utf8 (stringToUtf16 s)
/-- a pool by its gaps: so many unusable entries, then the entry; so many at the end -/
def gap : Nat → List CpInfo → List CpInfo
  | 0, r => r
  | n + 1, r => .unusable :: gap n r
def poolList (es : List (Nat × CpInfo)) (last : Nat) : List CpInfo := es.foldr (fun e r => gap e.1 (e.2 :: r)) (gap last [])
def pool (es : List (Nat × CpInfo)) (last : Nat) : Array CpInfo := ⟨poolList es last⟩
def fileOf (pool : Array CpInfo) (this : Nat) (attrs : Array Attribute := #[]) (ms : Array MethodInfo := #[]) (fl : Nat := 33) (sup : Nat := 0) (ifs : Array Nat := #[]) (fds : Array FieldInfo := #[]) : ClassFile where
  minorVersion := 0
  majorVersion := 65
  constantPool := pool
  accessFlags := fl
  thisClass := this
  superClass := sup
  interfaces := ifs
  fields := fds
  methods := ms
  attributes := attrs
def plain (name : String) (sup : Option ClassId) : Class where
  name := name
  kind := .ordinary
  loader := none
  accessFlags := 33
  super := sup
  interfaces := #[]
  cf := none
  fields := #[]
  methods := #[]
  instanceTypes := #[]
  staticTypes := #[]
  resolved := #[]
  callSites := []
  init := .initialized
  statics := none
  mirror := none

def pool0 : Array CpInfo := pool [(5, u "<init>"), (0, u "()V"), (1, .class_ 10), (1, u "java/lang/Object")] 113

def k0m0 : Method := { name := "<init>", desc := "()V", sig := { parameters := [], returnType := none }, accessFlags := 1, code := none }
/-- java/lang/Object -/
def k0 : Class := { plain "java/lang/Object" none with
  accessFlags := 33
  interfaces := #[]
  cf := some (fileOf pool0 8 #[] #[{ accessFlags := 1, nameIndex := 5, descriptorIndex := 6, attributes := #[] }] 33 0 #[] #[])
  fields := #[]
  methods := #[k0m0]
  instanceTypes := #[]
  staticTypes := #[]
  resolved := Array.replicate 124 none
  statics := none }

def pool1 : Array CpInfo := pool [(2, .class_ 4), (1, u "java/lang/Object"), (0, u "<init>"), (0, u "()V"), (0, .fieldref 8 9), (0, .class_ 10), (0, .nameAndType 11 12), (0, u "com/example/placetree/placetree/cli/Output$Separator"), (0, u "TAB"), (0, u "Lcom/example/placetree/placetree/cli/Output$Separator;"), (0, .fieldref 8 14), (0, .nameAndType 15 12), (0, u "CR"), (0, .fieldref 8 17), (0, .nameAndType 18 12), (0, u "LF"), (0, .methodref 8 20), (0, .nameAndType 21 22), (0, u "of"), (0, u "(C)Lcom/example/placetree/placetree/cli/Output$Separator;"), (0, .class_ 24), (0, u "com/example/placetree/placetree/cli/SeparatorOfPinLaw"), (2, u "law"), (0, u "(II)Z")] 7

def k1m0 : Method := { name := "<init>", desc := "()V", sig := { parameters := [], returnType := none }, accessFlags := 2, code := none }
def k1c1 : Code := { maxStack := 2, maxLocals := 7, code := code, exceptionTable := #[], attributes := #[] }
def k1m1 : Method := { name := "law", desc := "(II)Z", sig := { parameters := [.int, .int], returnType := some .boolean }, accessFlags := 9, code := some k1c1 }
/-- com/example/placetree/placetree/cli/SeparatorOfPinLaw -/
def k1 : Class := { plain "com/example/placetree/placetree/cli/SeparatorOfPinLaw" (some 0) with
  accessFlags := 49
  interfaces := #[]
  cf := some (fileOf pool1 23 #[] #[{ accessFlags := 2, nameIndex := 5, descriptorIndex := 6, attributes := #[] }, { accessFlags := 9, nameIndex := 27, descriptorIndex := 28, attributes := #[] }] 49 2 #[] #[])
  fields := #[]
  methods := #[k1m0, k1m1]
  instanceTypes := #[]
  staticTypes := #[]
  resolved := Array.replicate 36 none
  statics := none }

def pool2 : Array CpInfo := pool [(1, .class_ 2), (0, u "java/lang/constant/Constable"), (0, .class_ 4), (0, u "java/lang/Object")] 6

/-- java/lang/constant/Constable -/
def k2 : Class := { plain "java/lang/constant/Constable" (some 0) with
  accessFlags := 1537
  interfaces := #[]
  cf := some (fileOf pool2 1 #[] #[] 1537 3 #[] #[])
  fields := #[]
  methods := #[]
  instanceTypes := #[]
  staticTypes := #[]
  resolved := Array.replicate 11 none
  statics := none }

def pool3 : Array CpInfo := pool [(1, .class_ 2), (0, u "java/lang/Comparable"), (0, .class_ 4), (0, u "java/lang/Object")] 7

/-- java/lang/Comparable -/
def k3 : Class := { plain "java/lang/Comparable" (some 0) with
  accessFlags := 1537
  interfaces := #[]
  cf := some (fileOf pool3 1 #[] #[] 1537 3 #[] #[])
  fields := #[]
  methods := #[]
  instanceTypes := #[]
  staticTypes := #[]
  resolved := Array.replicate 12 none
  statics := none }

def pool4 : Array CpInfo := pool [(1, .class_ 2), (0, u "java/io/Serializable"), (0, .class_ 4), (0, u "java/lang/Object")] 2

/-- java/io/Serializable -/
def k4 : Class := { plain "java/io/Serializable" (some 0) with
  accessFlags := 1537
  interfaces := #[]
  cf := some (fileOf pool4 1 #[] #[] 1537 3 #[] #[])
  fields := #[]
  methods := #[]
  instanceTypes := #[]
  staticTypes := #[]
  resolved := Array.replicate 7 none
  statics := none }

def pool5 : Array CpInfo := pool [(2, .class_ 4), (1, u "java/lang/Enum"), (0, u "name"), (0, u "Ljava/lang/String;"), (2, u "ordinal"), (0, u "I"), (1, .class_ 14), (1, u "java/lang/Object"), (4, u "hash"), (86, .class_ 108), (1, u "java/lang/Enum$EnumDesc"), (2, .class_ 112), (0, u "java/lang/constant/Constable"), (0, .class_ 114), (0, u "java/lang/Comparable"), (0, .class_ 116), (0, u "java/io/Serializable")] 87

/-- java/lang/Enum -/
def k5 : Class := { plain "java/lang/Enum" (some 0) with
  accessFlags := 1057
  interfaces := #[2, 3, 4]
  cf := some (fileOf pool5 2 #[.nestMembers #[106]] #[] 1057 12 #[111, 113, 115] #[{ accessFlags := 18, nameIndex := 5, descriptorIndex := 6, attributes := #[] }, { accessFlags := 18, nameIndex := 9, descriptorIndex := 10, attributes := #[] }, { accessFlags := 2, nameIndex := 19, descriptorIndex := 10, attributes := #[] }])
  fields := #[{ name := "name", type := (.object "java/lang/String"), accessFlags := 18, slot := 0, constantValue := 0 }, { name := "ordinal", type := .int, accessFlags := 18, slot := 1, constantValue := 0 }, { name := "hash", type := .int, accessFlags := 2, slot := 2, constantValue := 0 }]
  methods := #[]
  instanceTypes := #[(.object "java/lang/String"), .int, .int]
  staticTypes := #[]
  resolved := Array.replicate 204 none
  statics := none }

def pool6 : Array CpInfo := pool [(1, .class_ 2), (0, u "com/example/placetree/placetree/cli/Output$Separator"), (0, .fieldref 1 4), (0, .nameAndType 5 6), (0, u "TAB"), (0, u "Lcom/example/placetree/placetree/cli/Output$Separator;"), (0, .fieldref 1 8), (0, .nameAndType 9 6), (0, u "CR"), (0, .fieldref 1 11), (0, .nameAndType 12 6), (0, u "LF"), (2, u "$VALUES"), (0, u "[Lcom/example/placetree/placetree/cli/Output$Separator;"), (6, .class_ 25), (1, u "java/lang/Enum"), (21, u "of"), (0, u "(C)Lcom/example/placetree/placetree/cli/Output$Separator;"), (6, .class_ 56), (0, u "com/example/placetree/placetree/cli/Output")] 2

def k6c0 : Code := { maxStack := 1, maxLocals := 1, code := prog_17_method_4_code, exceptionTable := #[], attributes := #[] }
def k6m0 : Method := { name := "of", desc := "(C)Lcom/example/placetree/placetree/cli/Output$Separator;", sig := { parameters := [.char], returnType := some (.object "com/example/placetree/placetree/cli/Output$Separator") }, accessFlags := 8, code := some k6c0 }
/-- com/example/placetree/placetree/cli/Output$Separator -/
def k6 : Class := { plain "com/example/placetree/placetree/cli/Output$Separator" (some 5) with
  accessFlags := 16432
  interfaces := #[]
  cf := some (fileOf pool6 1 #[.nestHost 55] #[{ accessFlags := 8, nameIndex := 47, descriptorIndex := 48, attributes := #[] }] 16432 23 #[] #[{ accessFlags := 16409, nameIndex := 5, descriptorIndex := 6, attributes := #[] }, { accessFlags := 16409, nameIndex := 9, descriptorIndex := 6, attributes := #[] }, { accessFlags := 16409, nameIndex := 12, descriptorIndex := 6, attributes := #[] }, { accessFlags := 4122, nameIndex := 15, descriptorIndex := 16, attributes := #[] }])
  fields := #[{ name := "TAB", type := (.object "com/example/placetree/placetree/cli/Output$Separator"), accessFlags := 16409, slot := 0, constantValue := 0 }, { name := "CR", type := (.object "com/example/placetree/placetree/cli/Output$Separator"), accessFlags := 16409, slot := 1, constantValue := 0 }, { name := "LF", type := (.object "com/example/placetree/placetree/cli/Output$Separator"), accessFlags := 16409, slot := 2, constantValue := 0 }, { name := "$VALUES", type := (.array (.object "com/example/placetree/placetree/cli/Output$Separator")), accessFlags := 4122, slot := 3, constantValue := 0 }]
  methods := #[k6m0]
  instanceTypes := #[(.object "java/lang/String"), .int, .int]
  staticTypes := #[(.object "com/example/placetree/placetree/cli/Output$Separator"), (.object "com/example/placetree/placetree/cli/Output$Separator"), (.object "com/example/placetree/placetree/cli/Output$Separator"), (.array (.object "com/example/placetree/placetree/cli/Output$Separator"))]
  resolved := Array.replicate 59 none
  statics := some 0 }

def pool7 : Array CpInfo := pool [(1, u "java/lang/Cloneable"), (0, .class_ 1), (0, u "java/lang/Object"), (0, .class_ 3)] 3

/-- java/lang/Cloneable -/
def k7 : Class := { plain "java/lang/Cloneable" (some 0) with
  accessFlags := 1537
  interfaces := #[]
  cf := some (fileOf pool7 2 #[] #[] 1537 4 #[] #[])
  fields := #[]
  methods := #[]
  instanceTypes := #[]
  staticTypes := #[]
  resolved := Array.replicate 8 none
  statics := none }

/-- the primitive byte -/
def k8 : Class := { plain "byte" none with kind := .primitive 'B', accessFlags := 0x411 }
/-- [B -/
def k9 : Class := { plain "[B" (some 0) with kind := .array 8 .byte, interfaces := #[7, 4], accessFlags := 1041 }

/-- the primitive int -/
def k10 : Class := { plain "int" none with kind := .primitive 'I', accessFlags := 0x411 }
/-- [I -/
def k11 : Class := { plain "[I" (some 0) with kind := .array 10 .int, interfaces := #[7, 4], accessFlags := 1041 }

def heap : Heap := #[{ cls := 6, slots := #[.ref 1, .ref 2, .ref 3, .null], vm := .statics 6 },
  { cls := 6, slots := #[.null, .int 0, .int 0], vm := .none },
  { cls := 6, slots := #[.null, .int 0, .int 0], vm := .none },
  { cls := 6, slots := #[.null, .int 0, .int 0], vm := .none }]
def classes : Array Class := #[k0, k1, k2, k3, k4, k5, k6, k7, k8, k9, k10, k11]
def interned : List (Array UInt16 × Addr) := []
def slotsUsed : Nat := 13
def theMethod : MethodId := ⟨1, 1⟩
def args0 : Array Value := #[.int 5, .int 7]
def aboutOver (below : List Frame) : State where
  vm := { classes := classes, interned := interned.toArray }
  heap := heap
  slotsUsed := slotsUsed
  threads := #[{ frames := .invoking theMethod args0 :: below }]
def below0 : List Frame := [.native { method := ⟨0, 0⟩, args := #[] }]
def about1 : State := aboutOver below0
def p0 : Program := .bare "" "" ""
def e0 : Env := launch0.env 0 0 0
theorem w_frames : about1.frames = Frame.invoking theMethod args0 :: below0 := rfl
set_option maxRecDepth 65536 in
theorem w_args : argsFit about1.vm theMethod args0 = true := by decide +kernel
set_option maxRecDepth 65536 in
theorem w_heap : heapFits about1 = true := by decide +kernel
set_option maxRecDepth 65536 in
theorem w_runnable : about1.curStatus? = some .runnable := by decide +kernel
set_option maxRecDepth 65536 in
theorem w_alone : about1.alone = true := by decide +kernel
set_option maxRecDepth 65536 in
theorem w_named : about1.methodNamed? x = some theMethod := by decide +kernel
set_option maxRecDepth 65536 in
theorem w_hears : about1.hears theMethod below0 = true := by decide +kernel
set_option maxRecDepth 65536 in
theorem w_ripe : about1.ripe theMethod args0 below0 = true := by decide +kernel
theorem w_running : about1.status = .running := rfl
set_option maxRecDepth 65536 in
theorem w_room : about1.hasRoom e0.platform room_1 = true :=
  launch0.hasRoom_least _ room_1 (by decide +kernel) (by decide +kernel) (by decide +kernel) (by decide +kernel) (by decide +kernel) (by decide +kernel)
theorem allAtoms_all (ts : List Jvm.Cond) (a : Array Jvm.Value) (st : Jvm.State) : (allAtoms ts).before a st = ts.all (fun c => c.before a st) := by
  induction ts with
  | nil => rfl
  | cons c t ih =>
    show (Jvm.Cond.and c (allAtoms t)).before a st = _
    rw [Jvm.Cond.before_and, ih, List.all_cons]
def words1 : List Jvm.Cond := Jvm.Cond.code x code maxLocals ret :: tables_1
/-- a 'code' word, met by the world's own term for the bytes: nothing is compared byte by byte -/
theorem code_word {y : MethodName} {bytes : ByteArray} {mx : Nat} {rt : Option FieldType} {a : Array Value} {s : State} {m : MethodId} {meth : Method} {c : Code} (h1 : s.methodNamed? y = some m) (h2 : s.vm.method? m = some meth) (h3 : meth.code = some c) (h4 : c.code = bytes)
    (h5 : (c.maxLocals == mx && c.exceptionTable.isEmpty && decide (c.maxStack ≤ mostOperands) && decide (meth.sig.returnType = rt) && !meth.locks && decide (parseMethodDescriptor y.desc = some meth.sig)) = true) : (Jvm.Cond.code y bytes mx rt).before a s = true := by
  simp only [Bool.and_eq_true, beq_iff_eq, Bool.not_eq_true', decide_eq_true_eq] at h5
  obtain ⟨⟨⟨⟨⟨g1, g2⟩, g3⟩, g4⟩, g5⟩, g6⟩ := h5
  simp [Cond.before, Cond.holds, Cond.value, h1, h2, h3, h4, g1, g2, g3, g4, g5, g6]
def isCode : Jvm.Cond → Bool
  | .code _ _ _ _ => true
  | _ => false
theorem all_split {L : List Jvm.Cond} {P : Jvm.Cond → Bool} (h1 : L.all (fun c => isCode c || P c) = true) (h2 : ∀ c ∈ L.filter isCode, P c = true) : L.all P = true := by
  refine List.all_eq_true.mpr fun c hc => ?_
  have h := List.all_eq_true.mp h1 c hc
  rcases Bool.eq_false_or_eq_true (isCode c) with hi | hi
  · exact h2 c (List.mem_filter.mpr ⟨hc, hi⟩)
  · simpa [hi] using h
set_option maxRecDepth 65536 in
theorem w_c0 : (Jvm.Cond.code x code maxLocals ret).before args0 about1 = true := code_word (m := ⟨1, 1⟩) (meth := k1m1) (c := k1c1) (by decide +kernel) rfl rfl rfl (by decide +kernel)
set_option maxRecDepth 65536 in
theorem w_c1 : (Jvm.Cond.code ({ cls := "com/example/placetree/placetree/cli/Output$Separator", name := "of", desc := "(C)Lcom/example/placetree/placetree/cli/Output$Separator;" } : Jvm.MethodName) prog_17_method_4_code (1 : Nat) (Option.some (Jvm.ClassFile.FieldType.object "com/example/placetree/placetree/cli/Output$Separator"))).before args0 about1 = true := code_word (m := ⟨6, 0⟩) (meth := k6m0) (c := k6c0) (by decide +kernel) rfl rfl rfl (by decide +kernel)
def codes1 : List Jvm.Cond := [Jvm.Cond.code x code maxLocals ret, Jvm.Cond.code ({ cls := "com/example/placetree/placetree/cli/Output$Separator", name := "of", desc := "(C)Lcom/example/placetree/placetree/cli/Output$Separator;" } : Jvm.MethodName) prog_17_method_4_code (1 : Nat) (Option.some (Jvm.ClassFile.FieldType.object "com/example/placetree/placetree/cli/Output$Separator"))]
set_option maxRecDepth 65536 in
theorem codes_eq : words1.filter isCode = codes1 := rfl
theorem w_codes : ∀ c ∈ words1.filter isCode, c.before args0 about1 = true := by
  rw [codes_eq]
  intro c hc
  simp only [codes1, List.mem_cons, List.not_mem_nil, or_false] at hc
  rcases hc with rfl | rfl
  · exact w_c0
  · exact w_c1
set_option maxRecDepth 65536 in
theorem w_t1 : words1.all (fun c => isCode c || c.before args0 about1) = true := by decide +kernel
theorem w_tables : (allAtoms (Jvm.Cond.code x code maxLocals ret :: tables_1)).before args0 about1 = true := by
  rw [allAtoms_all]
  show words1.all (fun c => c.before args0 about1) = true
  refine all_split ?_ w_codes
  rw [w_t1]
set_option maxRecDepth 65536 in
theorem w_case : (Jvm.Cond.and given_1 narrow_1).before args0 about1 = true := by decide +kernel
theorem w_applies : (headSpec (Jvm.Cond.code x code maxLocals ret :: tables_1) room_1).applies x e0.platform about1 = true :=
  (Spec.applies_iff w_frames).mpr ⟨w_running, w_runnable, w_alone, w_named, w_hears, w_ripe, w_room, w_tables⟩
theorem atStart : AtStart classFile x code maxLocals ret World_1 tables_1 room_1 Calls_1 rest_1 Pre_1 launch0 p0 e0 about1 theMethod args0 below0 :=
  ⟨lists_1, trivial, launch0.admits_env _ _ _, launch0.least_env, fairChoices_fair.cas, fairChoices_fair.clock, w_frames, w_args, w_heap, w_applies, trivial, trivial, w_case⟩
end start1
theorem witness_1 : WitnessClaimed_1 := ⟨start1.p0, start1.e0, start1.about1, start1.theMethod, start1.args0, start1.below0, start1.atStart⟩
end Jvm.Pilot.@@N@@
