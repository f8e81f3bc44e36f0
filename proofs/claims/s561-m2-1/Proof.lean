import JvmDerived
import JvmDerived.Pilot.@@N@@Statement
import JvmDerived.Pilot.@@N@@Code
set_option linter.unusedVariables false
set_option linter.unusedSimpArgs false
namespace Jvm.RoadKit
open Sem ClassFile Op Lib Jvm.Stand Jvm.Free Jvm.LawKit
section New
variable {p : Program} {l : Launch} {e : Env} {R : Room} {s : State} {m : MethodId} {args : Array Value} {below : List Frame} {meth : Method} {c : Code} {T : State} {locs : List Loc} {cells slots : Nat}
theorem retI (X : Stand p l e R s m args below meth c T locs cells slots) (hx : p.tables.exec = Jvm.exec) {pc : Nat} {Ls : Array Slot} {z : Int32} {rest : List Value} (hret : meth.sig.returnType = some .int) (hd : decode c.code pc = .ok (.ireturn, 1)) {fs : List Frame}
    (hl : ∀ (f : JFrame) (acts : List Action), f.method = m → f.locked = none → f.entered = [] → (doReturn e (T.setTop f) acts (some (.int z))).1 = T.setFrames fs) : Steps p.tables e below (T.setTop (mkF m pc Ls (.int z :: rest))) (T.setFrames fs) := by
  have hm' : T.vm.method? m = some meth := X.method'
  have hn : narrow .int (.int z) = .int z := rfl
  show Steps p.tables e below (T.setTop { method := m, pc := pc, locals := Ls, stack := _ :: rest, locked := none }) _
  jvm_step X.here [X.here.top, hx, hd, hm', hret, hn]
  first | (intro acts; rw [hl _ acts rfl rfl rfl]) | rw [hl _ _ rfl rfl rfl]
  exact Steps.refl _
/-- the walk that stands at g in T comes to its end, with Q -/
def OE (FE : State → Outcome → State → List Loc → Nat → Nat → Prop) (p : Program) (e : Env) (below : List Frame) (s : State) (Q : Option Value → Heap → List Loc → Prop) (kc ks : Nat) (T : State) (g : JFrame) : Prop :=
  ∃ s₂ o, Steps p.tables e below (T.setTop g) s₂ ∧ s₂.status = .running ∧ Ended s₂ below o ∧ ∃ v L, o = .returned v ∧ Q v s₂.heap L ∧ FE s o s₂ L kc ks
variable {FE : State → Outcome → State → List Loc → Nat → Nat → Prop} {Q : Option Value → Heap → List Loc → Prop} {kc ks : Nat} {s' : State}
theorem OE.of {T' : State} {g g' : JFrame} (k : ∀ t, Steps p.tables e below (T'.setTop g') t → Steps p.tables e below (T.setTop g) t) (h : OE FE p e below s Q kc ks T' g') : OE FE p e below s Q kc ks T g := by
  obtain ⟨s₂, o, h1, h2⟩ := h
  exact ⟨s₂, o, k _ h1, h2⟩
theorem OE.retN (X : Stand p l e R s m args below meth c T locs cells slots) (hx : p.tables.exec = Jvm.exec) {pc : Nat} {Ls : Array Slot} {z : Int32} {t : FieldType} {rest : List Value} (hret : meth.sig.returnType = some t) (ht : t = .boolean ∨ t = .byte ∨ t = .char ∨ t = .short) (hlk : meth.locks = false)
    (hd : decode c.code pc = .ok (.ireturn, 1)) (hc : cells ≤ kc) (hs : slots ≤ ks) (hQ : Q (some (.int (nar t z))) T.heap locs) : OE FrameEnd p e below s Q kc ks T (mkF m pc Ls (.int z :: rest)) := by
  obtain ⟨fs, hr, hrun, hended, hW, hsame⟩ := X.leave (v := some (.int (nar t z))) (fun h => by rw [hret] at h; cases h) hlk
  exact ⟨_, _, Jvm.RoadKit.retN X hx hret ht hd hr, hrun, hended, _, _, rfl, hQ, ⟨_, rfl⟩, hW, hsame.mono hc hs⟩
theorem OE.retI (X : Stand p l e R s m args below meth c T locs cells slots) (hx : p.tables.exec = Jvm.exec) {pc : Nat} {Ls : Array Slot} {z : Int32} {rest : List Value} (hret : meth.sig.returnType = some .int) (hlk : meth.locks = false)
    (hd : decode c.code pc = .ok (.ireturn, 1)) (hc : cells ≤ kc) (hs : slots ≤ ks) (hQ : Q (some (.int z)) T.heap locs) : OE FrameEnd p e below s Q kc ks T (mkF m pc Ls (.int z :: rest)) := by
  obtain ⟨fs, hr, hrun, hended, hW, hsame⟩ := X.leave (v := some (.int z)) (fun h => by rw [hret] at h; cases h) hlk
  exact ⟨_, _, Jvm.RoadKit.retI X hx hret hd hr, hrun, hended, _, _, rfl, hQ, ⟨_, rfl⟩, hW, hsame.mono hc hs⟩
theorem OE.retJ (X : Stand p l e R s m args below meth c T locs cells slots) (hx : p.tables.exec = Jvm.exec) {pc : Nat} {Ls : Array Slot} {z : Int64} (hret : meth.sig.returnType = some .long) (hlk : meth.locks = false)
    (hd : decode c.code pc = .ok (.lreturn, 1)) (hc : cells ≤ kc) (hs : slots ≤ ks) (hQ : Q (some (.long z)) T.heap locs) : OE FrameEnd p e below s Q kc ks T (mkF m pc Ls [.long z]) := by
  obtain ⟨fs, hr, hrun, hended, hW, hsame⟩ := X.leave (v := some (.long z)) (fun h => by rw [hret] at h; cases h) hlk
  exact ⟨_, _, X.lreturnOut hx hret hd hr, hrun, hended, _, _, rfl, hQ, ⟨_, rfl⟩, hW, hsame.mono hc hs⟩
theorem OE.retA (X : Stand p l e R s m args below meth c T locs cells slots) (hx : p.tables.exec = Jvm.exec) {pc : Nat} {Ls : Array Slot} {w : Value} {t : FieldType} (hw : w.isRef = true) (hret : meth.sig.returnType = some t) (ht : t.isReference = true) (hlk : meth.locks = false)
    (hd : decode c.code pc = .ok (.areturn, 1)) (hc : cells ≤ kc) (hs : slots ≤ ks) (hQ : Q (some w) T.heap locs) : OE FrameEnd p e below s Q kc ks T (mkF m pc Ls [w]) := by
  obtain ⟨fs, hr, hrun, hended, hW, hsame⟩ := X.leave (v := some w) (fun h => by rw [hret] at h; cases h) hlk
  exact ⟨_, _, X.areturnOut hx hw hret ht hd hr, hrun, hended, _, _, rfl, hQ, ⟨_, rfl⟩, hW, hsame.mono hc hs⟩
theorem OE.ret0 (X : Stand p l e R s m args below meth c T locs cells slots) (hx : p.tables.exec = Jvm.exec) {pc : Nat} {Ls : Array Slot} (hret : meth.sig.returnType = none) (hlk : meth.locks = false)
    (hd : decode c.code pc = .ok (.return_, 1)) (hc : cells ≤ kc) (hs : slots ≤ ks) (hQ : Q none T.heap locs) : OE FrameEnd p e below s Q kc ks T (mkF m pc Ls []) := by
  obtain ⟨fs, hr, hrun, hended, hW, hsame⟩ := X.leave (v := none) (fun _ => rfl) hlk
  exact ⟨_, _, X.returnOut hx hret hd hr, hrun, hended, _, _, rfl, hQ, ⟨_, rfl⟩, hW, hsame.mono hc hs⟩
theorem OE.iload (X : Stand p l e R s' m args below meth c T locs cells slots) (hx : p.tables.exec = Jvm.exec) {code : ByteArray} (hby : c.code = code) {pc : Nat} {Ls : Array Slot} {k : Nat} {v : Int32} {st : List Value} (hd : decode code pc = .ok (.iload k, 2)) (hl : Ls[k]? = some (.val (.int v))) (h : OE FE p e below s Q kc ks T (mkF m (pc + 2) Ls (.int v :: st))) : OE FE p e below s Q kc ks T (mkF m pc Ls (st)) := OE.of (fun _ k' => XS.iload X.here hx rfl (hb hby hd) hl k') h
theorem OE.iloadN (X : Stand p l e R s' m args below meth c T locs cells slots) (hx : p.tables.exec = Jvm.exec) {code : ByteArray} (hby : c.code = code) {pc : Nat} {Ls : Array Slot} {k : Fin 4} {v : Int32} {st : List Value} (hd : decode code pc = .ok (.iload_n k, 1)) (hl : Ls[k.val]? = some (.val (.int v))) (h : OE FE p e below s Q kc ks T (mkF m (pc + 1) Ls (.int v :: st))) : OE FE p e below s Q kc ks T (mkF m pc Ls (st)) := OE.of (fun _ k' => XS.iloadN X.here hx rfl (hb hby hd) hl k') h
theorem OE.lload (X : Stand p l e R s' m args below meth c T locs cells slots) (hx : p.tables.exec = Jvm.exec) {code : ByteArray} (hby : c.code = code) {pc : Nat} {Ls : Array Slot} {k : Nat} {v : Int64} {st : List Value} (hd : decode code pc = .ok (.lload k, 2)) (hl : Ls[k]? = some (.val (.long v))) (h : OE FE p e below s Q kc ks T (mkF m (pc + 2) Ls (.long v :: st))) : OE FE p e below s Q kc ks T (mkF m pc Ls (st)) := OE.of (fun _ k' => XS.lload X.here hx rfl (hb hby hd) hl k') h
theorem OE.lloadN (X : Stand p l e R s' m args below meth c T locs cells slots) (hx : p.tables.exec = Jvm.exec) {code : ByteArray} (hby : c.code = code) {pc : Nat} {Ls : Array Slot} {k : Fin 4} {v : Int64} {st : List Value} (hd : decode code pc = .ok (.lload_n k, 1)) (hl : Ls[k.val]? = some (.val (.long v))) (h : OE FE p e below s Q kc ks T (mkF m (pc + 1) Ls (.long v :: st))) : OE FE p e below s Q kc ks T (mkF m pc Ls (st)) := OE.of (fun _ k' => XS.lloadN X.here hx rfl (hb hby hd) hl k') h
theorem OE.aload (X : Stand p l e R s' m args below meth c T locs cells slots) (hx : p.tables.exec = Jvm.exec) {code : ByteArray} (hby : c.code = code) {pc : Nat} {Ls : Array Slot} {k : Nat} {v : Value} {st : List Value} (hd : decode code pc = .ok (.aload k, 2)) (hl : Ls[k]? = some (.val v)) (hv : v.isRef = true) (h : OE FE p e below s Q kc ks T (mkF m (pc + 2) Ls (v :: st))) : OE FE p e below s Q kc ks T (mkF m pc Ls (st)) := OE.of (fun _ k' => XS.aload X.here hx rfl (hb hby hd) hl hv k') h
theorem OE.aloadN (X : Stand p l e R s' m args below meth c T locs cells slots) (hx : p.tables.exec = Jvm.exec) {code : ByteArray} (hby : c.code = code) {pc : Nat} {Ls : Array Slot} {k : Fin 4} {v : Value} {st : List Value} (hd : decode code pc = .ok (.aload_n k, 1)) (hl : Ls[k.val]? = some (.val v)) (hv : v.isRef = true) (h : OE FE p e below s Q kc ks T (mkF m (pc + 1) Ls (v :: st))) : OE FE p e below s Q kc ks T (mkF m pc Ls (st)) := OE.of (fun _ k' => XS.aloadN X.here hx rfl (hb hby hd) hl hv k') h
theorem OE.istore (X : Stand p l e R s' m args below meth c T locs cells slots) (hx : p.tables.exec = Jvm.exec) {code : ByteArray} (hby : c.code = code) {pc : Nat} {Ls : Array Slot} {k : Nat} {v : Int32} {st : List Value} {l' : Array Slot} (hd : decode code pc = .ok (.istore k, 2)) (hl : storeLocals Ls k (.int v) = some l') (h : OE FE p e below s Q kc ks T (mkF m (pc + 2) l' (st))) : OE FE p e below s Q kc ks T (mkF m pc Ls (.int v :: st)) := OE.of (fun _ k' => XS.istore X.here hx rfl (hb hby hd) rfl hl k') h
theorem OE.istoreN (X : Stand p l e R s' m args below meth c T locs cells slots) (hx : p.tables.exec = Jvm.exec) {code : ByteArray} (hby : c.code = code) {pc : Nat} {Ls : Array Slot} {k : Fin 4} {v : Int32} {st : List Value} {l' : Array Slot} (hd : decode code pc = .ok (.istore_n k, 1)) (hl : storeLocals Ls k.val (.int v) = some l') (h : OE FE p e below s Q kc ks T (mkF m (pc + 1) l' (st))) : OE FE p e below s Q kc ks T (mkF m pc Ls (.int v :: st)) := OE.of (fun _ k' => XS.istoreN X.here hx rfl (hb hby hd) rfl hl k') h
theorem OE.lstore (X : Stand p l e R s' m args below meth c T locs cells slots) (hx : p.tables.exec = Jvm.exec) {code : ByteArray} (hby : c.code = code) {pc : Nat} {Ls : Array Slot} {k : Nat} {v : Int64} {st : List Value} {l' : Array Slot} (hd : decode code pc = .ok (.lstore k, 2)) (hl : storeLocals Ls k (.long v) = some l') (h : OE FE p e below s Q kc ks T (mkF m (pc + 2) l' (st))) : OE FE p e below s Q kc ks T (mkF m pc Ls (.long v :: st)) := OE.of (fun _ k' => XS.lstore X.here hx rfl (hb hby hd) rfl hl k') h
theorem OE.lstoreN (X : Stand p l e R s' m args below meth c T locs cells slots) (hx : p.tables.exec = Jvm.exec) {code : ByteArray} (hby : c.code = code) {pc : Nat} {Ls : Array Slot} {k : Fin 4} {v : Int64} {st : List Value} {l' : Array Slot} (hd : decode code pc = .ok (.lstore_n k, 1)) (hl : storeLocals Ls k.val (.long v) = some l') (h : OE FE p e below s Q kc ks T (mkF m (pc + 1) l' (st))) : OE FE p e below s Q kc ks T (mkF m pc Ls (.long v :: st)) := OE.of (fun _ k' => XS.lstoreN X.here hx rfl (hb hby hd) rfl hl k') h
theorem OE.astore (X : Stand p l e R s' m args below meth c T locs cells slots) (hx : p.tables.exec = Jvm.exec) {code : ByteArray} (hby : c.code = code) {pc : Nat} {Ls : Array Slot} {k : Nat} {v : Value} {st : List Value} {l' : Array Slot} (hd : decode code pc = .ok (.astore k, 2)) (hv : v.isRef = true) (hl : storeLocals Ls k v = some l') (h : OE FE p e below s Q kc ks T (mkF m (pc + 2) l' (st))) : OE FE p e below s Q kc ks T (mkF m pc Ls (v :: st)) := OE.of (fun _ k' => XS.astore X.here hx rfl (hb hby hd) rfl hv hl k') h
theorem OE.astoreN (X : Stand p l e R s' m args below meth c T locs cells slots) (hx : p.tables.exec = Jvm.exec) {code : ByteArray} (hby : c.code = code) {pc : Nat} {Ls : Array Slot} {k : Fin 4} {v : Value} {st : List Value} {l' : Array Slot} (hd : decode code pc = .ok (.astore_n k, 1)) (hv : v.isRef = true) (hl : storeLocals Ls k.val v = some l') (h : OE FE p e below s Q kc ks T (mkF m (pc + 1) l' (st))) : OE FE p e below s Q kc ks T (mkF m pc Ls (v :: st)) := OE.of (fun _ k' => XS.astoreN X.here hx rfl (hb hby hd) rfl hv hl k') h
theorem OE.iconst (X : Stand p l e R s' m args below meth c T locs cells slots) (hx : p.tables.exec = Jvm.exec) {code : ByteArray} (hby : c.code = code) {pc : Nat} {Ls : Array Slot} {i : Int} {st : List Value} (hd : decode code pc = .ok (.iconst i, 1)) (z : Int32) (hz : Int32.ofInt i = z) (h : OE FE p e below s Q kc ks T (mkF m (pc + 1) Ls (.int z :: st))) : OE FE p e below s Q kc ks T (mkF m pc Ls (st)) := OE.of (fun _ k' => XS.iconst X.here hx rfl (hb hby hd) (by subst hz; exact k')) h
theorem OE.bipush (X : Stand p l e R s' m args below meth c T locs cells slots) (hx : p.tables.exec = Jvm.exec) {code : ByteArray} (hby : c.code = code) {pc : Nat} {Ls : Array Slot} {i : Int} {st : List Value} (hd : decode code pc = .ok (.bipush i, 2)) (z : Int32) (hz : (Int8.ofInt i).toInt32 = z) (h : OE FE p e below s Q kc ks T (mkF m (pc + 2) Ls (.int z :: st))) : OE FE p e below s Q kc ks T (mkF m pc Ls (st)) := OE.of (fun _ k' => XS.bipush X.here hx rfl (hb hby hd) (by subst hz; exact k')) h
theorem OE.sipush (X : Stand p l e R s' m args below meth c T locs cells slots) (hx : p.tables.exec = Jvm.exec) {code : ByteArray} (hby : c.code = code) {pc : Nat} {Ls : Array Slot} {i : Int} {st : List Value} (hd : decode code pc = .ok (.sipush i, 3)) (z : Int32) (hz : (Int16.ofInt i).toInt32 = z) (h : OE FE p e below s Q kc ks T (mkF m (pc + 3) Ls (.int z :: st))) : OE FE p e below s Q kc ks T (mkF m pc Ls (st)) := OE.of (fun _ k' => XS.sipush X.here hx rfl (hb hby hd) (by subst hz; exact k')) h
theorem OE.lconst (X : Stand p l e R s' m args below meth c T locs cells slots) (hx : p.tables.exec = Jvm.exec) {code : ByteArray} (hby : c.code = code) {pc : Nat} {Ls : Array Slot} {i : Fin 2} {st : List Value} (hd : decode code pc = .ok (.lconst i, 1)) (z : Int64) (hz : Int64.ofNat i = z) (h : OE FE p e below s Q kc ks T (mkF m (pc + 1) Ls (.long z :: st))) : OE FE p e below s Q kc ks T (mkF m pc Ls (st)) := OE.of (fun _ k' => XS.lconst X.here hx rfl (hb hby hd) (by subst hz; exact k')) h
theorem OE.aconstNull (X : Stand p l e R s' m args below meth c T locs cells slots) (hx : p.tables.exec = Jvm.exec) {code : ByteArray} (hby : c.code = code) {pc : Nat} {Ls : Array Slot} {st : List Value} (hd : decode code pc = .ok (.aconst_null, 1))  (h : OE FE p e below s Q kc ks T (mkF m (pc + 1) Ls (.null :: st))) : OE FE p e below s Q kc ks T (mkF m pc Ls (st)) := OE.of (fun _ k' => XS.aconstNull X.here hx rfl (hb hby hd) k') h
theorem OE.iadd (X : Stand p l e R s' m args below meth c T locs cells slots) (hx : p.tables.exec = Jvm.exec) {code : ByteArray} (hby : c.code = code) {pc : Nat} {Ls : Array Slot} {x y : Int32} {st : List Value} (hd : decode code pc = .ok (.iadd, 1))  (h : OE FE p e below s Q kc ks T (mkF m (pc + 1) Ls (.int (x + y) :: st))) : OE FE p e below s Q kc ks T (mkF m pc Ls (.int y :: .int x :: st)) := OE.of (fun _ k' => XS.iadd X.here hx rfl (hb hby hd) rfl k') h
theorem OE.ladd (X : Stand p l e R s' m args below meth c T locs cells slots) (hx : p.tables.exec = Jvm.exec) {code : ByteArray} (hby : c.code = code) {pc : Nat} {Ls : Array Slot} {x y : Int64} {st : List Value} (hd : decode code pc = .ok (.ladd, 1))  (h : OE FE p e below s Q kc ks T (mkF m (pc + 1) Ls (.long (x + y) :: st))) : OE FE p e below s Q kc ks T (mkF m pc Ls (.long y :: .long x :: st)) := OE.of (fun _ k' => XS.ladd X.here hx rfl (hb hby hd) rfl k') h
theorem OE.isub (X : Stand p l e R s' m args below meth c T locs cells slots) (hx : p.tables.exec = Jvm.exec) {code : ByteArray} (hby : c.code = code) {pc : Nat} {Ls : Array Slot} {x y : Int32} {st : List Value} (hd : decode code pc = .ok (.isub, 1))  (h : OE FE p e below s Q kc ks T (mkF m (pc + 1) Ls (.int (x - y) :: st))) : OE FE p e below s Q kc ks T (mkF m pc Ls (.int y :: .int x :: st)) := OE.of (fun _ k' => XS.isub X.here hx rfl (hb hby hd) rfl k') h
theorem OE.lsub (X : Stand p l e R s' m args below meth c T locs cells slots) (hx : p.tables.exec = Jvm.exec) {code : ByteArray} (hby : c.code = code) {pc : Nat} {Ls : Array Slot} {x y : Int64} {st : List Value} (hd : decode code pc = .ok (.lsub, 1))  (h : OE FE p e below s Q kc ks T (mkF m (pc + 1) Ls (.long (x - y) :: st))) : OE FE p e below s Q kc ks T (mkF m pc Ls (.long y :: .long x :: st)) := OE.of (fun _ k' => XS.lsub X.here hx rfl (hb hby hd) rfl k') h
theorem OE.imul (X : Stand p l e R s' m args below meth c T locs cells slots) (hx : p.tables.exec = Jvm.exec) {code : ByteArray} (hby : c.code = code) {pc : Nat} {Ls : Array Slot} {x y : Int32} {st : List Value} (hd : decode code pc = .ok (.imul, 1))  (h : OE FE p e below s Q kc ks T (mkF m (pc + 1) Ls (.int (x * y) :: st))) : OE FE p e below s Q kc ks T (mkF m pc Ls (.int y :: .int x :: st)) := OE.of (fun _ k' => XS.imul X.here hx rfl (hb hby hd) rfl k') h
theorem OE.lmul (X : Stand p l e R s' m args below meth c T locs cells slots) (hx : p.tables.exec = Jvm.exec) {code : ByteArray} (hby : c.code = code) {pc : Nat} {Ls : Array Slot} {x y : Int64} {st : List Value} (hd : decode code pc = .ok (.lmul, 1))  (h : OE FE p e below s Q kc ks T (mkF m (pc + 1) Ls (.long (x * y) :: st))) : OE FE p e below s Q kc ks T (mkF m pc Ls (.long y :: .long x :: st)) := OE.of (fun _ k' => XS.lmul X.here hx rfl (hb hby hd) rfl k') h
theorem OE.iand (X : Stand p l e R s' m args below meth c T locs cells slots) (hx : p.tables.exec = Jvm.exec) {code : ByteArray} (hby : c.code = code) {pc : Nat} {Ls : Array Slot} {x y : Int32} {st : List Value} (hd : decode code pc = .ok (.iand, 1))  (h : OE FE p e below s Q kc ks T (mkF m (pc + 1) Ls (.int (x &&& y) :: st))) : OE FE p e below s Q kc ks T (mkF m pc Ls (.int y :: .int x :: st)) := OE.of (fun _ k' => XS.iand X.here hx rfl (hb hby hd) rfl k') h
theorem OE.land (X : Stand p l e R s' m args below meth c T locs cells slots) (hx : p.tables.exec = Jvm.exec) {code : ByteArray} (hby : c.code = code) {pc : Nat} {Ls : Array Slot} {x y : Int64} {st : List Value} (hd : decode code pc = .ok (.land, 1))  (h : OE FE p e below s Q kc ks T (mkF m (pc + 1) Ls (.long (x &&& y) :: st))) : OE FE p e below s Q kc ks T (mkF m pc Ls (.long y :: .long x :: st)) := OE.of (fun _ k' => XS.land X.here hx rfl (hb hby hd) rfl k') h
theorem OE.ior (X : Stand p l e R s' m args below meth c T locs cells slots) (hx : p.tables.exec = Jvm.exec) {code : ByteArray} (hby : c.code = code) {pc : Nat} {Ls : Array Slot} {x y : Int32} {st : List Value} (hd : decode code pc = .ok (.ior, 1))  (h : OE FE p e below s Q kc ks T (mkF m (pc + 1) Ls (.int (x ||| y) :: st))) : OE FE p e below s Q kc ks T (mkF m pc Ls (.int y :: .int x :: st)) := OE.of (fun _ k' => XS.ior X.here hx rfl (hb hby hd) rfl k') h
theorem OE.lor (X : Stand p l e R s' m args below meth c T locs cells slots) (hx : p.tables.exec = Jvm.exec) {code : ByteArray} (hby : c.code = code) {pc : Nat} {Ls : Array Slot} {x y : Int64} {st : List Value} (hd : decode code pc = .ok (.lor, 1))  (h : OE FE p e below s Q kc ks T (mkF m (pc + 1) Ls (.long (x ||| y) :: st))) : OE FE p e below s Q kc ks T (mkF m pc Ls (.long y :: .long x :: st)) := OE.of (fun _ k' => XS.lor X.here hx rfl (hb hby hd) rfl k') h
theorem OE.ixor (X : Stand p l e R s' m args below meth c T locs cells slots) (hx : p.tables.exec = Jvm.exec) {code : ByteArray} (hby : c.code = code) {pc : Nat} {Ls : Array Slot} {x y : Int32} {st : List Value} (hd : decode code pc = .ok (.ixor, 1))  (h : OE FE p e below s Q kc ks T (mkF m (pc + 1) Ls (.int (x ^^^ y) :: st))) : OE FE p e below s Q kc ks T (mkF m pc Ls (.int y :: .int x :: st)) := OE.of (fun _ k' => XS.ixor X.here hx rfl (hb hby hd) rfl k') h
theorem OE.lxor (X : Stand p l e R s' m args below meth c T locs cells slots) (hx : p.tables.exec = Jvm.exec) {code : ByteArray} (hby : c.code = code) {pc : Nat} {Ls : Array Slot} {x y : Int64} {st : List Value} (hd : decode code pc = .ok (.lxor, 1))  (h : OE FE p e below s Q kc ks T (mkF m (pc + 1) Ls (.long (x ^^^ y) :: st))) : OE FE p e below s Q kc ks T (mkF m pc Ls (.long y :: .long x :: st)) := OE.of (fun _ k' => XS.lxor X.here hx rfl (hb hby hd) rfl k') h
theorem OE.ishl (X : Stand p l e R s' m args below meth c T locs cells slots) (hx : p.tables.exec = Jvm.exec) {code : ByteArray} (hby : c.code = code) {pc : Nat} {Ls : Array Slot} {x y : Int32} {st : List Value} (hd : decode code pc = .ok (.ishl, 1))  (h : OE FE p e below s Q kc ks T (mkF m (pc + 1) Ls (.int (x <<< (y &&& 31)) :: st))) : OE FE p e below s Q kc ks T (mkF m pc Ls (.int y :: .int x :: st)) := OE.of (fun _ k' => XS.ishl X.here hx rfl (hb hby hd) rfl k') h
theorem OE.ishr (X : Stand p l e R s' m args below meth c T locs cells slots) (hx : p.tables.exec = Jvm.exec) {code : ByteArray} (hby : c.code = code) {pc : Nat} {Ls : Array Slot} {x y : Int32} {st : List Value} (hd : decode code pc = .ok (.ishr, 1))  (h : OE FE p e below s Q kc ks T (mkF m (pc + 1) Ls (.int (x >>> (y &&& 31)) :: st))) : OE FE p e below s Q kc ks T (mkF m pc Ls (.int y :: .int x :: st)) := OE.of (fun _ k' => XS.ishr X.here hx rfl (hb hby hd) rfl k') h
theorem OE.iushr (X : Stand p l e R s' m args below meth c T locs cells slots) (hx : p.tables.exec = Jvm.exec) {code : ByteArray} (hby : c.code = code) {pc : Nat} {Ls : Array Slot} {x y : Int32} {st : List Value} (hd : decode code pc = .ok (.iushr, 1))  (h : OE FE p e below s Q kc ks T (mkF m (pc + 1) Ls (.int ((x.toUInt32 >>> (y &&& 31).toUInt32).toInt32) :: st))) : OE FE p e below s Q kc ks T (mkF m pc Ls (.int y :: .int x :: st)) := OE.of (fun _ k' => XS.iushr X.here hx rfl (hb hby hd) rfl k') h
theorem OE.lshl (X : Stand p l e R s' m args below meth c T locs cells slots) (hx : p.tables.exec = Jvm.exec) {code : ByteArray} (hby : c.code = code) {pc : Nat} {Ls : Array Slot} {x : Int64} {y : Int32} {st : List Value} (hd : decode code pc = .ok (.lshl, 1))  (h : OE FE p e below s Q kc ks T (mkF m (pc + 1) Ls (.long (x <<< (y &&& 0x3f).toInt64) :: st))) : OE FE p e below s Q kc ks T (mkF m pc Ls (.int y :: .long x :: st)) := OE.of (fun _ k' => XS.lshl X.here hx rfl (hb hby hd) rfl k') h
theorem OE.lshr (X : Stand p l e R s' m args below meth c T locs cells slots) (hx : p.tables.exec = Jvm.exec) {code : ByteArray} (hby : c.code = code) {pc : Nat} {Ls : Array Slot} {x : Int64} {y : Int32} {st : List Value} (hd : decode code pc = .ok (.lshr, 1))  (h : OE FE p e below s Q kc ks T (mkF m (pc + 1) Ls (.long (x >>> (y &&& 0x3f).toInt64) :: st))) : OE FE p e below s Q kc ks T (mkF m pc Ls (.int y :: .long x :: st)) := OE.of (fun _ k' => XS.lshr X.here hx rfl (hb hby hd) rfl k') h
theorem OE.lushr (X : Stand p l e R s' m args below meth c T locs cells slots) (hx : p.tables.exec = Jvm.exec) {code : ByteArray} (hby : c.code = code) {pc : Nat} {Ls : Array Slot} {x : Int64} {y : Int32} {st : List Value} (hd : decode code pc = .ok (.lushr, 1))  (h : OE FE p e below s Q kc ks T (mkF m (pc + 1) Ls (.long ((x.toUInt64 >>> (y &&& 0x3f).toInt64.toUInt64).toInt64) :: st))) : OE FE p e below s Q kc ks T (mkF m pc Ls (.int y :: .long x :: st)) := OE.of (fun _ k' => XS.lushr X.here hx rfl (hb hby hd) rfl k') h
theorem OE.ineg (X : Stand p l e R s' m args below meth c T locs cells slots) (hx : p.tables.exec = Jvm.exec) {code : ByteArray} (hby : c.code = code) {pc : Nat} {Ls : Array Slot} {x : Int32} {st : List Value} (hd : decode code pc = .ok (.ineg, 1))  (h : OE FE p e below s Q kc ks T (mkF m (pc + 1) Ls (.int (-x) :: st))) : OE FE p e below s Q kc ks T (mkF m pc Ls (.int x :: st)) := OE.of (fun _ k' => XS.ineg X.here hx rfl (hb hby hd) rfl k') h
theorem OE.lneg (X : Stand p l e R s' m args below meth c T locs cells slots) (hx : p.tables.exec = Jvm.exec) {code : ByteArray} (hby : c.code = code) {pc : Nat} {Ls : Array Slot} {x : Int64} {st : List Value} (hd : decode code pc = .ok (.lneg, 1))  (h : OE FE p e below s Q kc ks T (mkF m (pc + 1) Ls (.long (-x) :: st))) : OE FE p e below s Q kc ks T (mkF m pc Ls (.long x :: st)) := OE.of (fun _ k' => XS.lneg X.here hx rfl (hb hby hd) rfl k') h
theorem OE.i2l (X : Stand p l e R s' m args below meth c T locs cells slots) (hx : p.tables.exec = Jvm.exec) {code : ByteArray} (hby : c.code = code) {pc : Nat} {Ls : Array Slot} {x : Int32} {st : List Value} (hd : decode code pc = .ok (.i2l, 1))  (h : OE FE p e below s Q kc ks T (mkF m (pc + 1) Ls (.long x.toInt64 :: st))) : OE FE p e below s Q kc ks T (mkF m pc Ls (.int x :: st)) := OE.of (fun _ k' => XS.i2l X.here hx rfl (hb hby hd) rfl k') h
theorem OE.l2i (X : Stand p l e R s' m args below meth c T locs cells slots) (hx : p.tables.exec = Jvm.exec) {code : ByteArray} (hby : c.code = code) {pc : Nat} {Ls : Array Slot} {x : Int64} {st : List Value} (hd : decode code pc = .ok (.l2i, 1))  (h : OE FE p e below s Q kc ks T (mkF m (pc + 1) Ls (.int x.toInt32 :: st))) : OE FE p e below s Q kc ks T (mkF m pc Ls (.long x :: st)) := OE.of (fun _ k' => XS.l2i X.here hx rfl (hb hby hd) rfl k') h
theorem OE.i2b (X : Stand p l e R s' m args below meth c T locs cells slots) (hx : p.tables.exec = Jvm.exec) {code : ByteArray} (hby : c.code = code) {pc : Nat} {Ls : Array Slot} {x : Int32} {st : List Value} (hd : decode code pc = .ok (.i2b, 1))  (h : OE FE p e below s Q kc ks T (mkF m (pc + 1) Ls (.int x.toInt8.toInt32 :: st))) : OE FE p e below s Q kc ks T (mkF m pc Ls (.int x :: st)) := OE.of (fun _ k' => XS.i2b X.here hx rfl (hb hby hd) rfl k') h
theorem OE.i2s (X : Stand p l e R s' m args below meth c T locs cells slots) (hx : p.tables.exec = Jvm.exec) {code : ByteArray} (hby : c.code = code) {pc : Nat} {Ls : Array Slot} {x : Int32} {st : List Value} (hd : decode code pc = .ok (.i2s, 1))  (h : OE FE p e below s Q kc ks T (mkF m (pc + 1) Ls (.int x.toInt16.toInt32 :: st))) : OE FE p e below s Q kc ks T (mkF m pc Ls (.int x :: st)) := OE.of (fun _ k' => XS.i2s X.here hx rfl (hb hby hd) rfl k') h
theorem OE.i2c (X : Stand p l e R s' m args below meth c T locs cells slots) (hx : p.tables.exec = Jvm.exec) {code : ByteArray} (hby : c.code = code) {pc : Nat} {Ls : Array Slot} {x : Int32} {st : List Value} (hd : decode code pc = .ok (.i2c, 1))  (h : OE FE p e below s Q kc ks T (mkF m (pc + 1) Ls (.int x.toUInt32.toUInt16.toUInt32.toInt32 :: st))) : OE FE p e below s Q kc ks T (mkF m pc Ls (.int x :: st)) := OE.of (fun _ k' => XS.i2c X.here hx rfl (hb hby hd) rfl k') h
theorem OE.lcmp (X : Stand p l e R s' m args below meth c T locs cells slots) (hx : p.tables.exec = Jvm.exec) {code : ByteArray} (hby : c.code = code) {pc : Nat} {Ls : Array Slot} {x y : Int64} {st : List Value} (hd : decode code pc = .ok (.lcmp, 1))  (h : OE FE p e below s Q kc ks T (mkF m (pc + 1) Ls (.int (lcmpW x y) :: st))) : OE FE p e below s Q kc ks T (mkF m pc Ls (.long y :: .long x :: st)) := OE.of (fun _ k' => XS.lcmp X.here hx rfl (hb hby hd) rfl k') h
theorem OE.idiv (X : Stand p l e R s' m args below meth c T locs cells slots) (hx : p.tables.exec = Jvm.exec) {code : ByteArray} (hby : c.code = code) {pc : Nat} {Ls : Array Slot} {x y : Int32} {st : List Value} (hd : decode code pc = .ok (.idiv, 1)) (hy : y ≠ 0) (h : OE FE p e below s Q kc ks T (mkF m (pc + 1) Ls (.int (x / y) :: st))) : OE FE p e below s Q kc ks T (mkF m pc Ls (.int y :: .int x :: st)) := OE.of (fun _ k' => XS.idiv X.here hx rfl (hb hby hd) rfl hy k') h
theorem OE.irem (X : Stand p l e R s' m args below meth c T locs cells slots) (hx : p.tables.exec = Jvm.exec) {code : ByteArray} (hby : c.code = code) {pc : Nat} {Ls : Array Slot} {x y : Int32} {st : List Value} (hd : decode code pc = .ok (.irem, 1)) (hy : y ≠ 0) (h : OE FE p e below s Q kc ks T (mkF m (pc + 1) Ls (.int (x % y) :: st))) : OE FE p e below s Q kc ks T (mkF m pc Ls (.int y :: .int x :: st)) := OE.of (fun _ k' => XS.irem X.here hx rfl (hb hby hd) rfl hy (by rw [irem_eq_mod]; exact k')) h
theorem OE.ldiv (X : Stand p l e R s' m args below meth c T locs cells slots) (hx : p.tables.exec = Jvm.exec) {code : ByteArray} (hby : c.code = code) {pc : Nat} {Ls : Array Slot} {x y : Int64} {st : List Value} (hd : decode code pc = .ok (.ldiv, 1)) (hy : y ≠ 0) (h : OE FE p e below s Q kc ks T (mkF m (pc + 1) Ls (.long (x / y) :: st))) : OE FE p e below s Q kc ks T (mkF m pc Ls (.long y :: .long x :: st)) := OE.of (fun _ k' => XS.ldiv X.here hx rfl (hb hby hd) rfl hy k') h
theorem OE.lrem (X : Stand p l e R s' m args below meth c T locs cells slots) (hx : p.tables.exec = Jvm.exec) {code : ByteArray} (hby : c.code = code) {pc : Nat} {Ls : Array Slot} {x y : Int64} {st : List Value} (hd : decode code pc = .ok (.lrem, 1)) (hy : y ≠ 0) (h : OE FE p e below s Q kc ks T (mkF m (pc + 1) Ls (.long (x % y) :: st))) : OE FE p e below s Q kc ks T (mkF m pc Ls (.long y :: .long x :: st)) := OE.of (fun _ k' => XS.lrem X.here hx rfl (hb hby hd) rfl hy (by rw [lrem_mod]; exact k')) h
theorem OE.iinc (X : Stand p l e R s' m args below meth c T locs cells slots) (hx : p.tables.exec = Jvm.exec) {code : ByteArray} (hby : c.code = code) {pc : Nat} {Ls : Array Slot} {k : Nat} {cst : Int} {x : Int32} {l' : Array Slot} {st : List Value} (hd : decode code pc = .ok (.iinc k cst, 3)) (hl : Ls[k]? = some (.val (.int x))) (hl' : storeLocals Ls k (.int (x + Int32.ofInt cst)) = some l') (h : OE FE p e below s Q kc ks T (mkF m (pc + 3) l' (st))) : OE FE p e below s Q kc ks T (mkF m pc Ls (st)) := OE.of (fun _ k' => XS.iinc X.here hx rfl (hb hby hd) hl hl' k') h
theorem OE.dup (X : Stand p l e R s' m args below meth c T locs cells slots) (hx : p.tables.exec = Jvm.exec) {code : ByteArray} (hby : c.code = code) {pc : Nat} {Ls : Array Slot} {v : Value} {st : List Value} (hd : decode code pc = .ok (.dup, 1)) (hc : v.category = 1) (h : OE FE p e below s Q kc ks T (mkF m (pc + 1) Ls (v :: v :: st))) : OE FE p e below s Q kc ks T (mkF m pc Ls (v :: st)) := OE.of (fun _ k' => XS.dup X.here hx rfl (hb hby hd) rfl hc k') h
theorem OE.pop (X : Stand p l e R s' m args below meth c T locs cells slots) (hx : p.tables.exec = Jvm.exec) {code : ByteArray} (hby : c.code = code) {pc : Nat} {Ls : Array Slot} {v : Value} {st : List Value} (hd : decode code pc = .ok (.pop, 1)) (hc : v.category = 1) (h : OE FE p e below s Q kc ks T (mkF m (pc + 1) Ls (st))) : OE FE p e below s Q kc ks T (mkF m pc Ls (v :: st)) := OE.of (fun _ k' => XS.pop X.here hx rfl (hb hby hd) rfl hc k') h
theorem OE.dupX1 (X : Stand p l e R s' m args below meth c T locs cells slots) (hx : p.tables.exec = Jvm.exec) {code : ByteArray} (hby : c.code = code) {pc : Nat} {Ls : Array Slot} {v w : Value} {st : List Value} (hd : decode code pc = .ok (.dup_x1, 1)) (hc : v.category = 1) (hc' : w.category = 1) (h : OE FE p e below s Q kc ks T (mkF m (pc + 1) Ls (v :: w :: v :: st))) : OE FE p e below s Q kc ks T (mkF m pc Ls (v :: w :: st)) := OE.of (fun _ k' => XS.dupX1 X.here hx rfl (hb hby hd) rfl hc hc' k') h
theorem OE.dup2 (X : Stand p l e R s' m args below meth c T locs cells slots) (hx : p.tables.exec = Jvm.exec) {code : ByteArray} (hby : c.code = code) {pc : Nat} {Ls : Array Slot} {v w : Value} {st : List Value} (hd : decode code pc = .ok (.dup2, 1)) (hc : v.category = 1) (hc' : w.category = 1) (h : OE FE p e below s Q kc ks T (mkF m (pc + 1) Ls (v :: w :: v :: w :: st))) : OE FE p e below s Q kc ks T (mkF m pc Ls (v :: w :: st)) := OE.of (fun _ k' => Jvm.Free.XT.dup2 X.here hx rfl (hb hby hd) rfl hc hc' k') h
theorem OE.dup2L (X : Stand p l e R s' m args below meth c T locs cells slots) (hx : p.tables.exec = Jvm.exec) {code : ByteArray} (hby : c.code = code) {pc : Nat} {Ls : Array Slot} {v : Int64} {st : List Value} (hd : decode code pc = .ok (.dup2, 1))  (h : OE FE p e below s Q kc ks T (mkF m (pc + 1) Ls (.long v :: .long v :: st))) : OE FE p e below s Q kc ks T (mkF m pc Ls (.long v :: st)) := OE.of (fun _ k' => Jvm.Free.XT.dup2L X.here hx rfl (hb hby hd) rfl k') h
theorem OE.goto (X : Stand p l e R s' m args below meth c T locs cells slots) (hx : p.tables.exec = Jvm.exec) {code : ByteArray} (hby : c.code = code) {pc : Nat} {Ls : Array Slot} {o : Int} (pc' : Nat) {st : List Value} (hd : decode code pc = .ok (.goto o, 3)) (ho : 0 ≤ (pc : Int) + o := by decide) (hp : ((pc : Int) + o).toNat = pc' := by decide) (h : OE FE p e below s Q kc ks T (mkF m pc' Ls (st))) : OE FE p e below s Q kc ks T (mkF m pc Ls (st)) := OE.of (fun _ k' => XS.goto X.here hx rfl rfl (hb hby hd) ho hp k') h
theorem OE.ifYes (X : Stand p l e R s' m args below meth c T locs cells slots) (hx : p.tables.exec = Jvm.exec) {code : ByteArray} (hby : c.code = code) {pc : Nat} {Ls : Array Slot} {cd : ClassFile.Cond} {x : Int32} {o : Int} (pc' : Nat) {st : List Value} (hd : decode code pc = .ok (.ifCond cd o, 3)) (hc : if_icmp.holds cd x 0 = true) (ho : 0 ≤ (pc : Int) + o := by decide) (hp : ((pc : Int) + o).toNat = pc' := by decide) (h : OE FE p e below s Q kc ks T (mkF m pc' Ls (st))) : OE FE p e below s Q kc ks T (mkF m pc Ls (.int x :: st)) := OE.of (fun _ k' => XS.ifYes X.here hx rfl rfl (hb hby hd) rfl ((if0 _ _).trans hc) ho hp k') h
theorem OE.ifNo (X : Stand p l e R s' m args below meth c T locs cells slots) (hx : p.tables.exec = Jvm.exec) {code : ByteArray} (hby : c.code = code) {pc : Nat} {Ls : Array Slot} {cd : ClassFile.Cond} {x : Int32} {o : Int} {st : List Value} (hd : decode code pc = .ok (.ifCond cd o, 3)) (hc : if_icmp.holds cd x 0 = false) (h : OE FE p e below s Q kc ks T (mkF m (pc + 3) Ls (st))) : OE FE p e below s Q kc ks T (mkF m pc Ls (.int x :: st)) := OE.of (fun _ k' => XS.ifNo X.here hx rfl (hb hby hd) rfl ((if0 _ _).trans hc) k') h
theorem OE.icmpYes (X : Stand p l e R s' m args below meth c T locs cells slots) (hx : p.tables.exec = Jvm.exec) {code : ByteArray} (hby : c.code = code) {pc : Nat} {Ls : Array Slot} {cd : ClassFile.Cond} {x y : Int32} {o : Int} (pc' : Nat) {st : List Value} (hd : decode code pc = .ok (.if_icmp cd o, 3)) (hc : if_icmp.holds cd x y = true) (ho : 0 ≤ (pc : Int) + o := by decide) (hp : ((pc : Int) + o).toNat = pc' := by decide) (h : OE FE p e below s Q kc ks T (mkF m pc' Ls (st))) : OE FE p e below s Q kc ks T (mkF m pc Ls (.int y :: .int x :: st)) := OE.of (fun _ k' => XS.icmpYes X.here hx rfl rfl (hb hby hd) rfl hc ho hp k') h
theorem OE.icmpNo (X : Stand p l e R s' m args below meth c T locs cells slots) (hx : p.tables.exec = Jvm.exec) {code : ByteArray} (hby : c.code = code) {pc : Nat} {Ls : Array Slot} {cd : ClassFile.Cond} {x y : Int32} {o : Int} {st : List Value} (hd : decode code pc = .ok (.if_icmp cd o, 3)) (hc : if_icmp.holds cd x y = false) (h : OE FE p e below s Q kc ks T (mkF m (pc + 3) Ls (st))) : OE FE p e below s Q kc ks T (mkF m pc Ls (.int y :: .int x :: st)) := OE.of (fun _ k' => XS.icmpNo X.here hx rfl (hb hby hd) rfl hc k') h
theorem OE.ifnullYes (X : Stand p l e R s' m args below meth c T locs cells slots) (hx : p.tables.exec = Jvm.exec) {code : ByteArray} (hby : c.code = code) {pc : Nat} {Ls : Array Slot} {o : Int} (pc' : Nat) {st : List Value} (hd : decode code pc = .ok (.ifnull o, 3)) (ho : 0 ≤ (pc : Int) + o := by decide) (hp : ((pc : Int) + o).toNat = pc' := by decide) (h : OE FE p e below s Q kc ks T (mkF m pc' Ls (st))) : OE FE p e below s Q kc ks T (mkF m pc Ls (.null :: st)) := OE.of (fun _ k' => XS.ifnullYes X.here hx rfl rfl (hb hby hd) rfl ho hp k') h
theorem OE.ifnullNo (X : Stand p l e R s' m args below meth c T locs cells slots) (hx : p.tables.exec = Jvm.exec) {code : ByteArray} (hby : c.code = code) {pc : Nat} {Ls : Array Slot} {b : Addr} {o : Int} {st : List Value} (hd : decode code pc = .ok (.ifnull o, 3))  (h : OE FE p e below s Q kc ks T (mkF m (pc + 3) Ls (st))) : OE FE p e below s Q kc ks T (mkF m pc Ls (.ref b :: st)) := OE.of (fun _ k' => XS.ifnullNo X.here hx rfl (hb hby hd) rfl k') h
theorem OE.ifnonnullYes (X : Stand p l e R s' m args below meth c T locs cells slots) (hx : p.tables.exec = Jvm.exec) {code : ByteArray} (hby : c.code = code) {pc : Nat} {Ls : Array Slot} {b : Addr} {o : Int} (pc' : Nat) {st : List Value} (hd : decode code pc = .ok (.ifnonnull o, 3)) (ho : 0 ≤ (pc : Int) + o := by decide) (hp : ((pc : Int) + o).toNat = pc' := by decide) (h : OE FE p e below s Q kc ks T (mkF m pc' Ls (st))) : OE FE p e below s Q kc ks T (mkF m pc Ls (.ref b :: st)) := OE.of (fun _ k' => XS.ifnonnullYes X.here hx rfl rfl (hb hby hd) rfl ho hp k') h
theorem OE.ifnonnullNo (X : Stand p l e R s' m args below meth c T locs cells slots) (hx : p.tables.exec = Jvm.exec) {code : ByteArray} (hby : c.code = code) {pc : Nat} {Ls : Array Slot} {o : Int} {st : List Value} (hd : decode code pc = .ok (.ifnonnull o, 3))  (h : OE FE p e below s Q kc ks T (mkF m (pc + 3) Ls (st))) : OE FE p e below s Q kc ks T (mkF m pc Ls (.null :: st)) := OE.of (fun _ k' => XS.ifnonnullNo X.here hx rfl (hb hby hd) rfl k') h
end New
end Jvm.RoadKit
namespace Jvm.Pilot.@@N@@
open Jvm Jvm.ClassFile Sem Op Lib Jvm.Free Jvm.Stand Jvm.LawKit Jvm.RoadKit Bundle Jvm.Pilot.@@N@@.Jvm.D
theorem own_d8_0 : decode jdk_43_method_4_code 0 = .ok (.iload_n 0, 1) := by decide +kernel
theorem own_d8_1 : decode jdk_43_method_4_code 1 = .ok (.ifCond .lt 14, 3) := by decide +kernel
theorem own_d8_15 : decode jdk_43_method_4_code 15 = .ok (.iconst 0, 1) := by decide +kernel
theorem own_d8_16 : decode jdk_43_method_4_code 16 = .ok (.ireturn, 1) := by decide +kernel
theorem own_d8_4 : decode jdk_43_method_4_code 4 = .ok (.iload_n 0, 1) := by decide +kernel
theorem own_d8_5 : decode jdk_43_method_4_code 5 = .ok (.sipush 255, 3) := by decide +kernel
theorem own_d8_8 : decode jdk_43_method_4_code 8 = .ok (.if_icmp .gt 7, 3) := by decide +kernel
theorem own_d8_11 : decode jdk_43_method_4_code 11 = .ok (.iconst 1, 1) := by decide +kernel
theorem own_d8_12 : decode jdk_43_method_4_code 12 = .ok (.goto 4, 3) := by decide +kernel
def own_Q8 (Z : State) (p1 : Int32) (h0 : Heap) (n0 : Nat) (v : Option Value) (h : Heap) (L : List Loc) : Prop := v = some (.int (if p1 < (0 : Int32) then (0 : Int32) else (if (255 : Int32) < p1 then (0 : Int32) else (1 : Int32)))) ∧ Fr n0 L ∧ h = h0
theorem own_pn0 : plainName "java/lang/StringLatin1" = true := by first | (simp [plainName, overriddenIn]; done) | decide +kernel
theorem own_ef_own_rm8 (m : MethodId) (p1 : Int32) : entryFrame m #[(.int p1)] 1 = mkF m 0 #[.val (.int p1)] [] := by first | (simp [entryFrame, mkF, argsToLocals, Value.category]; done) | rfl
set_option maxRecDepth 65536 in
set_option maxHeartbeats 40000000 in
theorem own_rm8 (l : Launch) (Z : State) (a0 : Array Value) (hw : ∀ d ∈ tables_1, d.before a0 Z = true) (ws : List Jvm.Cond) (p1 : Int32) (h0 : Heap) (n0 : Nat) (Z0 : n0 ≤ h0.size) :
    MetFree l (⟨"java/lang/StringLatin1", "canEncode", "(I)Z"⟩ : MethodName) (head1 (Jvm.Cond.code (⟨"java/lang/StringLatin1", "canEncode", "(I)Z"⟩ : MethodName) jdk_43_method_4_code 1 (some .boolean) :: ws) ({ frames := 0, cells := 0, slots := 0, locals := 0 } : Room)) (fun a U => a = #[(.int p1)] ∧ Z.Warmed39 U.vm ∧ U.heap = h0) (fun _ _ _ _ _ => True) (fun _ U o U' => ∃ v L, o = .returned v ∧ own_Q8 Z p1 h0 n0 v U'.heap L ∧ FrameEnd U o U' L ({ frames := 0, cells := 0, slots := 0, locals := 0 } : Room).cells ({ frames := 0, cells := 0, slots := 0, locals := 0 } : Room).slots) := by
  refine MetFree.of_bodySF (plainFor_of_name own_pn0) hisR ?_
  intro p e s m args below meth c s₁ Bd hml0 hP hK
  obtain ⟨rfl, hZ, hh⟩ := hP
  have hx := Bd.exec
  have hby := Bd.bytes
  have hml : c.maxLocals = 1 := hml0
  have hown : s.vm.findClass "java/lang/StringLatin1" = some m.cls := findClass_of_methodNamed Bd.named
  have hnm := (name_of_methodNamed Bd.named Bd.method).1
  have X0 : Stand p l e ({ frames := 0, cells := 0, slots := 0, locals := 0 } : Room) s m #[(.int p1)] below meth c s₁ [] 0 0 := Stand.of_body Bd
  have e0 : s₁.heap = h0 := by rw [← hh, Bd.state]; rfl
  have N0 := Fr.nil n0
  show OE FrameEnd p e below s (own_Q8 Z p1 h0 n0) ({ frames := 0, cells := 0, slots := 0, locals := 0 } : Room).cells ({ frames := 0, cells := 0, slots := 0, locals := 0 } : Room).slots s₁ (entryFrame m #[(.int p1)] 1)
  rw [own_ef_own_rm8]
  show OE _ p e below s _ _ _ s₁ (mkF m 0 #[.val (.int p1)] [])
  refine OE.iloadN X0 hx hby own_d8_0 rfl ?_
  by_cases hc1 : p1 < (0 : Int32)
  · skip
    refine OE.ifYes X0 hx hby (pc' := 15) own_d8_1 (tlt hc1).1 (h := ?_)
    refine OE.iconst X0 hx hby own_d8_15 (0 : Int32) rfl ?_
    refine OE.retN X0 hx (t := .boolean) Bd.returns (by simp) Bd.notSynchronized (hb hby own_d8_16) (by decide) (by decide) ?_
    rw [e0]
    exact ⟨(congrArg (fun z => some (Value.int z)) (show (0 : Int32) = (if p1 < (0 : Int32) then (0 : Int32) else (if (255 : Int32) < p1 then (0 : Int32) else (1 : Int32))) from by rw [if_pos hc1])), N0, rfl⟩
  · skip
    refine OE.ifNo X0 hx hby own_d8_1 (flt hc1).1 ?_
    refine OE.iloadN X0 hx hby own_d8_4 rfl ?_
    refine OE.sipush X0 hx hby own_d8_5 (255 : Int32) rfl ?_
    by_cases hc8 : (255 : Int32) < p1
    · skip
      refine OE.icmpYes X0 hx hby (pc' := 15) own_d8_8 (tlt hc8).2.2.1 (h := ?_)
      refine OE.iconst X0 hx hby own_d8_15 (0 : Int32) rfl ?_
      refine OE.retN X0 hx (t := .boolean) Bd.returns (by simp) Bd.notSynchronized (hb hby own_d8_16) (by decide) (by decide) ?_
      rw [e0]
      exact ⟨(congrArg (fun z => some (Value.int z)) (show (0 : Int32) = (if p1 < (0 : Int32) then (0 : Int32) else (if (255 : Int32) < p1 then (0 : Int32) else (1 : Int32))) from by rw [if_neg hc1, if_pos hc8])), N0, rfl⟩
    · skip
      refine OE.icmpNo X0 hx hby own_d8_8 (flt hc8).2.2.1 ?_
      refine OE.iconst X0 hx hby own_d8_11 (1 : Int32) rfl ?_
      refine OE.goto X0 hx hby (pc' := 16) own_d8_12 (h := ?_)
      refine OE.retN X0 hx (t := .boolean) Bd.returns (by simp) Bd.notSynchronized (hb hby own_d8_16) (by decide) (by decide) ?_
      rw [e0]
      exact ⟨(congrArg (fun z => some (Value.int z)) (show (1 : Int32) = (if p1 < (0 : Int32) then (0 : Int32) else (if (255 : Int32) < p1 then (0 : Int32) else (1 : Int32))) from by rw [if_neg hc1, if_neg hc8])), N0, rfl⟩
theorem own_d9_0 : decode jdk_29_method_65_code 0 = .ok (.iload_n 0, 1) := by decide +kernel
theorem own_d9_1 : decode jdk_29_method_65_code 1 = .ok (.iload_n 1, 1) := by decide +kernel
theorem own_d9_2 : decode jdk_29_method_65_code 2 = .ok (.if_icmp .lt 7, 3) := by decide +kernel
theorem own_d9_9 : decode jdk_29_method_65_code 9 = .ok (.iload_n 1, 1) := by decide +kernel
theorem own_d9_10 : decode jdk_29_method_65_code 10 = .ok (.ireturn, 1) := by decide +kernel
theorem own_d9_5 : decode jdk_29_method_65_code 5 = .ok (.iload_n 0, 1) := by decide +kernel
theorem own_d9_6 : decode jdk_29_method_65_code 6 = .ok (.goto 4, 3) := by decide +kernel
def own_Q9 (Z : State) (p1 : Int32) (p2 : Int32) (h0 : Heap) (n0 : Nat) (v : Option Value) (h : Heap) (L : List Loc) : Prop := v = some (.int (if p1 < p2 then p2 else p1)) ∧ Fr n0 L ∧ h = h0
theorem own_ef_own_rm9 (m : MethodId) (p1 : Int32) (p2 : Int32) : entryFrame m #[(.int p1), (.int p2)] 2 = mkF m 0 #[.val (.int p1), .val (.int p2)] [] := by first | (simp [entryFrame, mkF, argsToLocals, Value.category]; done) | rfl
set_option maxRecDepth 65536 in
set_option maxHeartbeats 40000000 in
theorem own_rm9 (l : Launch) (Z : State) (a0 : Array Value) (hw : ∀ d ∈ tables_1, d.before a0 Z = true) (ws : List Jvm.Cond) (p1 : Int32) (p2 : Int32) (h0 : Heap) (n0 : Nat) (Z0 : n0 ≤ h0.size) :
    MetFree l (⟨"java/lang/Math", "max", "(II)I"⟩ : MethodName) (head1 (Jvm.Cond.code (⟨"java/lang/Math", "max", "(II)I"⟩ : MethodName) jdk_29_method_65_code 2 (some .int) :: ws) ({ frames := 0, cells := 0, slots := 0, locals := 0 } : Room)) (fun a U => a = #[(.int p1), (.int p2)] ∧ Z.Warmed39 U.vm ∧ U.heap = h0) (fun _ _ _ _ _ => True) (fun _ U o U' => ∃ v L, o = .returned v ∧ own_Q9 Z p1 p2 h0 n0 v U'.heap L ∧ FrameEnd U o U' L ({ frames := 0, cells := 0, slots := 0, locals := 0 } : Room).cells ({ frames := 0, cells := 0, slots := 0, locals := 0 } : Room).slots) := by
  refine MetFree.of_bodySF (Jvm.Free.JP.mathPlain rfl (by decide +kernel)) hisR ?_
  intro p e s m args below meth c s₁ Bd hml0 hP hK
  obtain ⟨rfl, hZ, hh⟩ := hP
  have hx := Bd.exec
  have hby := Bd.bytes
  have hml : c.maxLocals = 2 := hml0
  have hown : s.vm.findClass "java/lang/Math" = some m.cls := findClass_of_methodNamed Bd.named
  have hnm := (name_of_methodNamed Bd.named Bd.method).1
  have X0 : Stand p l e ({ frames := 0, cells := 0, slots := 0, locals := 0 } : Room) s m #[(.int p1), (.int p2)] below meth c s₁ [] 0 0 := Stand.of_body Bd
  have e0 : s₁.heap = h0 := by rw [← hh, Bd.state]; rfl
  have N0 := Fr.nil n0
  show OE FrameEnd p e below s (own_Q9 Z p1 p2 h0 n0) ({ frames := 0, cells := 0, slots := 0, locals := 0 } : Room).cells ({ frames := 0, cells := 0, slots := 0, locals := 0 } : Room).slots s₁ (entryFrame m #[(.int p1), (.int p2)] 2)
  rw [own_ef_own_rm9]
  show OE _ p e below s _ _ _ s₁ (mkF m 0 #[.val (.int p1), .val (.int p2)] [])
  refine OE.iloadN X0 hx hby own_d9_0 rfl ?_
  refine OE.iloadN X0 hx hby own_d9_1 rfl ?_
  by_cases hc2 : p1 < p2
  · skip
    refine OE.icmpYes X0 hx hby (pc' := 9) own_d9_2 (tlt hc2).1 (h := ?_)
    refine OE.iloadN X0 hx hby own_d9_9 rfl ?_
    refine OE.retI X0 hx Bd.returns Bd.notSynchronized (hb hby own_d9_10) (by decide) (by decide) ?_
    rw [e0]
    exact ⟨(congrArg (fun z => some (Value.int z)) (show p2 = (if p1 < p2 then p2 else p1) from by rw [if_pos hc2])), N0, rfl⟩
  · skip
    refine OE.icmpNo X0 hx hby own_d9_2 (flt hc2).1 ?_
    refine OE.iloadN X0 hx hby own_d9_5 rfl ?_
    refine OE.goto X0 hx hby (pc' := 10) own_d9_6 (h := ?_)
    refine OE.retI X0 hx Bd.returns Bd.notSynchronized (hb hby own_d9_10) (by decide) (by decide) ?_
    rw [e0]
    exact ⟨(congrArg (fun z => some (Value.int z)) (show p1 = (if p1 < p2 then p2 else p1) from by rw [if_neg hc2])), N0, rfl⟩
theorem own_d10_0 : decode jdk_29_method_69_code 0 = .ok (.iload_n 0, 1) := by decide +kernel
theorem own_d10_1 : decode jdk_29_method_69_code 1 = .ok (.iload_n 1, 1) := by decide +kernel
theorem own_d10_2 : decode jdk_29_method_69_code 2 = .ok (.if_icmp .gt 7, 3) := by decide +kernel
theorem own_d10_9 : decode jdk_29_method_69_code 9 = .ok (.iload_n 1, 1) := by decide +kernel
theorem own_d10_10 : decode jdk_29_method_69_code 10 = .ok (.ireturn, 1) := by decide +kernel
theorem own_d10_5 : decode jdk_29_method_69_code 5 = .ok (.iload_n 0, 1) := by decide +kernel
theorem own_d10_6 : decode jdk_29_method_69_code 6 = .ok (.goto 4, 3) := by decide +kernel
def own_Q10 (Z : State) (p1 : Int32) (p2 : Int32) (h0 : Heap) (n0 : Nat) (v : Option Value) (h : Heap) (L : List Loc) : Prop := v = some (.int (if p2 < p1 then p2 else p1)) ∧ Fr n0 L ∧ h = h0
theorem own_ef_own_rm10 (m : MethodId) (p1 : Int32) (p2 : Int32) : entryFrame m #[(.int p1), (.int p2)] 2 = mkF m 0 #[.val (.int p1), .val (.int p2)] [] := by first | (simp [entryFrame, mkF, argsToLocals, Value.category]; done) | rfl
set_option maxRecDepth 65536 in
set_option maxHeartbeats 40000000 in
theorem own_rm10 (l : Launch) (Z : State) (a0 : Array Value) (hw : ∀ d ∈ tables_1, d.before a0 Z = true) (ws : List Jvm.Cond) (p1 : Int32) (p2 : Int32) (h0 : Heap) (n0 : Nat) (Z0 : n0 ≤ h0.size) :
    MetFree l (⟨"java/lang/Math", "min", "(II)I"⟩ : MethodName) (head1 (Jvm.Cond.code (⟨"java/lang/Math", "min", "(II)I"⟩ : MethodName) jdk_29_method_69_code 2 (some .int) :: ws) ({ frames := 0, cells := 0, slots := 0, locals := 0 } : Room)) (fun a U => a = #[(.int p1), (.int p2)] ∧ Z.Warmed39 U.vm ∧ U.heap = h0) (fun _ _ _ _ _ => True) (fun _ U o U' => ∃ v L, o = .returned v ∧ own_Q10 Z p1 p2 h0 n0 v U'.heap L ∧ FrameEnd U o U' L ({ frames := 0, cells := 0, slots := 0, locals := 0 } : Room).cells ({ frames := 0, cells := 0, slots := 0, locals := 0 } : Room).slots) := by
  refine MetFree.of_bodySF (Jvm.Free.JP.mathPlain rfl (by decide +kernel)) hisR ?_
  intro p e s m args below meth c s₁ Bd hml0 hP hK
  obtain ⟨rfl, hZ, hh⟩ := hP
  have hx := Bd.exec
  have hby := Bd.bytes
  have hml : c.maxLocals = 2 := hml0
  have hown : s.vm.findClass "java/lang/Math" = some m.cls := findClass_of_methodNamed Bd.named
  have hnm := (name_of_methodNamed Bd.named Bd.method).1
  have X0 : Stand p l e ({ frames := 0, cells := 0, slots := 0, locals := 0 } : Room) s m #[(.int p1), (.int p2)] below meth c s₁ [] 0 0 := Stand.of_body Bd
  have e0 : s₁.heap = h0 := by rw [← hh, Bd.state]; rfl
  have N0 := Fr.nil n0
  show OE FrameEnd p e below s (own_Q10 Z p1 p2 h0 n0) ({ frames := 0, cells := 0, slots := 0, locals := 0 } : Room).cells ({ frames := 0, cells := 0, slots := 0, locals := 0 } : Room).slots s₁ (entryFrame m #[(.int p1), (.int p2)] 2)
  rw [own_ef_own_rm10]
  show OE _ p e below s _ _ _ s₁ (mkF m 0 #[.val (.int p1), .val (.int p2)] [])
  refine OE.iloadN X0 hx hby own_d10_0 rfl ?_
  refine OE.iloadN X0 hx hby own_d10_1 rfl ?_
  by_cases hc2 : p2 < p1
  · skip
    refine OE.icmpYes X0 hx hby (pc' := 9) own_d10_2 (tlt hc2).2.2.1 (h := ?_)
    refine OE.iloadN X0 hx hby own_d10_9 rfl ?_
    refine OE.retI X0 hx Bd.returns Bd.notSynchronized (hb hby own_d10_10) (by decide) (by decide) ?_
    rw [e0]
    exact ⟨(congrArg (fun z => some (Value.int z)) (show p2 = (if p2 < p1 then p2 else p1) from by rw [if_pos hc2])), N0, rfl⟩
  · skip
    refine OE.icmpNo X0 hx hby own_d10_2 (flt hc2).2.2.1 ?_
    refine OE.iloadN X0 hx hby own_d10_5 rfl ?_
    refine OE.goto X0 hx hby (pc' := 10) own_d10_6 (h := ?_)
    refine OE.retI X0 hx Bd.returns Bd.notSynchronized (hb hby own_d10_10) (by decide) (by decide) ?_
    rw [e0]
    exact ⟨(congrArg (fun z => some (Value.int z)) (show p1 = (if p2 < p1 then p2 else p1) from by rw [if_neg hc2])), N0, rfl⟩
theorem own_d6_0 : decode jdk_42_method_152_code 0 = .ok (.getstatic 38, 3) := by decide +kernel
theorem own_d6_3 : decode jdk_42_method_152_code 3 = .ok (.ifCond .eq 10, 3) := by decide +kernel
theorem own_d6_6 : decode jdk_42_method_152_code 6 = .ok (.aload_n 0, 1) := by decide +kernel
theorem own_d6_7 : decode jdk_42_method_152_code 7 = .ok (.getfield 15, 3) := by decide +kernel
theorem own_d6_10 : decode jdk_42_method_152_code 10 = .ok (.goto 4, 3) := by decide +kernel
theorem own_d6_14 : decode jdk_42_method_152_code 14 = .ok (.ireturn, 1) := by decide +kernel
def own_Q6 (Z : State) (a1 : Addr) (cs : Int32) (h0 : Heap) (n0 : Nat) (v : Option Value) (h : Heap) (L : List Loc) : Prop := v = some (.int (0 : Int32)) ∧ Fr n0 L ∧ h = h0
theorem own_pn1 : plainName "java/lang/String" = true := by first | (simp [plainName, overriddenIn]; done) | decide +kernel
theorem own_ef_own_rm6 (m : MethodId) (a1 : Addr) : entryFrame m #[(.ref a1)] 1 = mkF m 0 #[.val (.ref a1)] [] := by first | (simp [entryFrame, mkF, argsToLocals, Value.category]; done) | rfl
set_option maxRecDepth 65536 in
set_option maxHeartbeats 40000000 in
theorem own_rm6 (l : Launch) (Z : State) (a0 : Array Value) (hw : ∀ d ∈ tables_1, d.before a0 Z = true) (ws : List Jvm.Cond) (a1 : Addr) (cs : Int32) (h0 : Heap) (n0 : Nat) (Z0 : n0 ≤ h0.size) (S_cs : Sta Z h0 "java/lang/String" "COMPACT_STRINGS" "Z" (.int cs)) (hcs : ¬ cs = (0 : Int32)) (Fc_a1 : Fld Z h0 a1 "java/lang/String" "coder" "B" (.int (0 : Int32))) :
    MetFree l (⟨"java/lang/String", "coder", "()B"⟩ : MethodName) (head1 (Jvm.Cond.code (⟨"java/lang/String", "coder", "()B"⟩ : MethodName) jdk_42_method_152_code 1 (some .byte) :: ws) ({ frames := 0, cells := 0, slots := 0, locals := 0 } : Room)) (fun a U => a = #[(.ref a1)] ∧ Z.Warmed39 U.vm ∧ U.heap = h0) (fun _ _ _ _ _ => True) (fun _ U o U' => ∃ v L, o = .returned v ∧ own_Q6 Z a1 cs h0 n0 v U'.heap L ∧ FrameEnd U o U' L ({ frames := 0, cells := 0, slots := 0, locals := 0 } : Room).cells ({ frames := 0, cells := 0, slots := 0, locals := 0 } : Room).slots) := by
  refine MetFree.of_bodySF (plainFor_of_name own_pn1) hisR ?_
  intro p e s m args below meth c s₁ Bd hml0 hP hK
  obtain ⟨rfl, hZ, hh⟩ := hP
  have hx := Bd.exec
  have hby := Bd.bytes
  have hml : c.maxLocals = 1 := hml0
  have hown : s.vm.findClass "java/lang/String" = some m.cls := findClass_of_methodNamed Bd.named
  have hnm := (name_of_methodNamed Bd.named Bd.method).1
  have X0 : Stand p l e ({ frames := 0, cells := 0, slots := 0, locals := 0 } : Room) s m #[(.ref a1)] below meth c s₁ [] 0 0 := Stand.of_body Bd
  have e0 : s₁.heap = h0 := by rw [← hh, Bd.state]; rfl
  have N0 := Fr.nil n0
  show OE FrameEnd p e below s (own_Q6 Z a1 cs h0 n0) ({ frames := 0, cells := 0, slots := 0, locals := 0 } : Room).cells ({ frames := 0, cells := 0, slots := 0, locals := 0 } : Room).slots s₁ (entryFrame m #[(.ref a1)] 1)
  rw [own_ef_own_rm6]
  show OE _ p e below s _ _ _ s₁ (mkF m 0 #[.val (.ref a1)] [])
  obtain ⟨T1, X1, e1, st1⟩ := getS2 X0 hx hZ hown (host := "") (Or.inl (hw _ (List.mem_of_getElem? (i := 27) rfl))) Via.refl e0 S_cs (g := (mkF m 0 #[.val (.ref a1)] [])) rfl (hb hby own_d6_0)
  refine OE.of st1 ?_
  show OE _ p e below s _ _ _ T1 (mkF m 3 #[.val (.ref a1)] [(.int cs)])
  refine OE.ifNo X1 hx hby own_d6_3 (feq (hcs : ¬ (cs = (0 : Int32)))).1 ?_
  refine OE.aloadN X1 hx hby own_d6_6 rfl rfl ?_
  obtain ⟨T2, X2, e2, st2⟩ := getF X1 hx hZ hown (host := "") (Or.inl (hw _ (List.mem_of_getElem? (i := 28) rfl))) Via.refl e1 Fc_a1 (g := (mkF m 7 #[.val (.ref a1)] [(.ref a1)])) rfl rfl (hb hby own_d6_7)
  refine OE.of st2 ?_
  show OE _ p e below s _ _ _ T2 (mkF m 10 #[.val (.ref a1)] [(.int (0 : Int32))])
  refine OE.goto X2 hx hby (pc' := 14) own_d6_10 (h := ?_)
  refine OE.retN X2 hx (t := .byte) Bd.returns (by simp) Bd.notSynchronized (hb hby own_d6_14) (by decide) (by decide) ?_
  rw [e2]
  exact ⟨rfl, N0, rfl⟩
theorem own_d4_0 : decode jdk_42_method_154_code 0 = .ok (.getstatic 38, 3) := by decide +kernel
theorem own_d4_3 : decode jdk_42_method_154_code 3 = .ok (.ifCond .eq 14, 3) := by decide +kernel
theorem own_d4_6 : decode jdk_42_method_154_code 6 = .ok (.aload_n 0, 1) := by decide +kernel
theorem own_d4_7 : decode jdk_42_method_154_code 7 = .ok (.getfield 15, 3) := by decide +kernel
theorem own_d4_10 : decode jdk_42_method_154_code 10 = .ok (.ifCond .ne 7, 3) := by decide +kernel
theorem own_d4_13 : decode jdk_42_method_154_code 13 = .ok (.iconst 1, 1) := by decide +kernel
theorem own_d4_14 : decode jdk_42_method_154_code 14 = .ok (.goto 4, 3) := by decide +kernel
theorem own_d4_18 : decode jdk_42_method_154_code 18 = .ok (.ireturn, 1) := by decide +kernel
def own_Q4 (Z : State) (a1 : Addr) (cs : Int32) (h0 : Heap) (n0 : Nat) (v : Option Value) (h : Heap) (L : List Loc) : Prop := v = some (.int (1 : Int32)) ∧ Fr n0 L ∧ h = h0
theorem own_ef_own_rm4 (m : MethodId) (a1 : Addr) : entryFrame m #[(.ref a1)] 1 = mkF m 0 #[.val (.ref a1)] [] := by first | (simp [entryFrame, mkF, argsToLocals, Value.category]; done) | rfl
set_option maxRecDepth 65536 in
set_option maxHeartbeats 40000000 in
theorem own_rm4 (l : Launch) (Z : State) (a0 : Array Value) (hw : ∀ d ∈ tables_1, d.before a0 Z = true) (ws : List Jvm.Cond) (a1 : Addr) (cs : Int32) (h0 : Heap) (n0 : Nat) (Z0 : n0 ≤ h0.size) (S_cs : Sta Z h0 "java/lang/String" "COMPACT_STRINGS" "Z" (.int cs)) (hcs : ¬ cs = (0 : Int32)) (Fc_a1 : Fld Z h0 a1 "java/lang/String" "coder" "B" (.int (0 : Int32))) :
    MetFree l (⟨"java/lang/String", "isLatin1", "()Z"⟩ : MethodName) (head1 (Jvm.Cond.code (⟨"java/lang/String", "isLatin1", "()Z"⟩ : MethodName) jdk_42_method_154_code 1 (some .boolean) :: ws) ({ frames := 0, cells := 0, slots := 0, locals := 0 } : Room)) (fun a U => a = #[(.ref a1)] ∧ Z.Warmed39 U.vm ∧ U.heap = h0) (fun _ _ _ _ _ => True) (fun _ U o U' => ∃ v L, o = .returned v ∧ own_Q4 Z a1 cs h0 n0 v U'.heap L ∧ FrameEnd U o U' L ({ frames := 0, cells := 0, slots := 0, locals := 0 } : Room).cells ({ frames := 0, cells := 0, slots := 0, locals := 0 } : Room).slots) := by
  refine MetFree.of_bodySF (plainFor_of_name own_pn1) hisR ?_
  intro p e s m args below meth c s₁ Bd hml0 hP hK
  obtain ⟨rfl, hZ, hh⟩ := hP
  have hx := Bd.exec
  have hby := Bd.bytes
  have hml : c.maxLocals = 1 := hml0
  have hown : s.vm.findClass "java/lang/String" = some m.cls := findClass_of_methodNamed Bd.named
  have hnm := (name_of_methodNamed Bd.named Bd.method).1
  have X0 : Stand p l e ({ frames := 0, cells := 0, slots := 0, locals := 0 } : Room) s m #[(.ref a1)] below meth c s₁ [] 0 0 := Stand.of_body Bd
  have e0 : s₁.heap = h0 := by rw [← hh, Bd.state]; rfl
  have N0 := Fr.nil n0
  show OE FrameEnd p e below s (own_Q4 Z a1 cs h0 n0) ({ frames := 0, cells := 0, slots := 0, locals := 0 } : Room).cells ({ frames := 0, cells := 0, slots := 0, locals := 0 } : Room).slots s₁ (entryFrame m #[(.ref a1)] 1)
  rw [own_ef_own_rm4]
  show OE _ p e below s _ _ _ s₁ (mkF m 0 #[.val (.ref a1)] [])
  obtain ⟨T1, X1, e1, st1⟩ := getS2 X0 hx hZ hown (host := "") (Or.inl (hw _ (List.mem_of_getElem? (i := 27) rfl))) Via.refl e0 S_cs (g := (mkF m 0 #[.val (.ref a1)] [])) rfl (hb hby own_d4_0)
  refine OE.of st1 ?_
  show OE _ p e below s _ _ _ T1 (mkF m 3 #[.val (.ref a1)] [(.int cs)])
  refine OE.ifNo X1 hx hby own_d4_3 (feq (hcs : ¬ (cs = (0 : Int32)))).1 ?_
  refine OE.aloadN X1 hx hby own_d4_6 rfl rfl ?_
  obtain ⟨T2, X2, e2, st2⟩ := getF X1 hx hZ hown (host := "") (Or.inl (hw _ (List.mem_of_getElem? (i := 28) rfl))) Via.refl e1 Fc_a1 (g := (mkF m 7 #[.val (.ref a1)] [(.ref a1)])) rfl rfl (hb hby own_d4_7)
  refine OE.of st2 ?_
  show OE _ p e below s _ _ _ T2 (mkF m 10 #[.val (.ref a1)] [(.int (0 : Int32))])
  refine OE.ifNo X2 hx hby own_d4_10 (teq (by decide : (0 : Int32) = (0 : Int32))).2 ?_
  refine OE.iconst X2 hx hby own_d4_13 (1 : Int32) rfl ?_
  refine OE.goto X2 hx hby (pc' := 18) own_d4_14 (h := ?_)
  refine OE.retN X2 hx (t := .boolean) Bd.returns (by simp) Bd.notSynchronized (hb hby own_d4_18) (by decide) (by decide) ?_
  rw [e2]
  exact ⟨rfl, N0, rfl⟩
theorem own_shr0 (v : Int32) : (v >>> ((0 : Int32) &&& 31)) = v := by
  apply Int32.toInt_inj.mp
  have := c_ishr v 0 0 (by decide)
  rw [this]; simp
def own_enc (p : Int32) (bs : List Int32) : Prop := (¬ p < (0 : Int32) ∧ ¬ (255 : Int32) < p) ∧ p.toInt8.toInt32 ∈ bs
theorem own_get {i nn : Int32} {bs : List Int32} (hl : nn.toInt = bs.length) (h : i < nn) (h0 : ¬ i < 0) : ∃ x, bs[i.toNatClampNeg]? = some x := by
  rw [Int32.lt_iff_toInt_lt] at h h0
  have z : (0 : Int32).toInt = 0 := by decide
  have : i.toNatClampNeg < bs.length := by simp only [Int32.toNatClampNeg]; omega
  exact ⟨_, List.getElem?_eq_getElem this⟩
theorem own_at {j : Nat} {x : Int32} {bs : List Int32} {d : Value} (h : bs[j]? = some x) : (List.map Value.int bs).getD j d = .int x := by
  rw [List.getD_eq_getElem?_getD, List.getElem?_map, h]; rfl
theorem own_stp {i nn b x : Int32} {bs : List Int32} (hl : nn.toInt = bs.length) (h : i < nn) (h0 : ¬ i < 0) (hx : bs[i.toNatClampNeg]? = some x) (hne : ¬ x = b) (hno : ∀ j, j < i.toNatClampNeg → bs[j]? ≠ some b) :
    bs.length - (i + 1).toNatClampNeg < bs.length - i.toNatClampNeg ∧ ¬ (i + 1) < 0 ∧ (i + 1).toNatClampNeg ≤ bs.length ∧ ∀ j, j < (i + 1).toNatClampNeg → bs[j]? ≠ some b := by
  rw [Int32.lt_iff_toInt_lt] at h h0
  have z : (0 : Int32).toInt = 0 := by decide
  have o : (1 : Int32).toInt = 1 := by decide
  have a := c_iadd i 1
  have r := rng32 (i + 1)
  have r2 := rng32 nn
  have e : (i + 1).toInt = i.toInt + 1 := by omega
  have e2 : (i + 1).toNatClampNeg = i.toNatClampNeg + 1 := by simp only [Int32.toNatClampNeg]; omega
  have e3 : i.toNatClampNeg < bs.length := by simp only [Int32.toNatClampNeg]; omega
  refine ⟨by omega, by rw [Int32.lt_iff_toInt_lt]; omega, by omega, fun j hj => ?_⟩
  by_cases q : j < i.toNatClampNeg
  · exact hno j q
  · have : j = i.toNatClampNeg := by omega
    rw [this, hx]
    exact fun q => hne (Option.some.inj q)
theorem own_hit {i b x : Int32} {bs : List Int32} (h0 : ¬ i < 0) (hx : bs[i.toNatClampNeg]? = some x) (he : x = b) : ¬ i < 0 ↔ b ∈ bs :=
  ⟨fun _ => he ▸ List.mem_of_getElem? hx, fun _ => h0⟩
theorem own_no {i nn b : Int32} {bs : List Int32} (hl : nn.toInt = bs.length) (h : ¬ i < nn) (h0 : ¬ i < 0) (hno : ∀ j, j < i.toNatClampNeg → bs[j]? ≠ some b) : ¬ (-1 : Int32) < 0 ↔ b ∈ bs := by
  refine ⟨fun q => absurd (by decide) q, fun q => ?_⟩
  rw [Int32.lt_iff_toInt_lt] at h h0
  have z : (0 : Int32).toInt = 0 := by decide
  obtain ⟨j, hj, e⟩ := List.mem_iff_getElem.mp q
  exact absurd (by rw [List.getElem?_eq_getElem hj, e]) (hno j (by simp only [Int32.toNatClampNeg]; omega))
theorem own_d5_0 : decode jdk_42_method_54_code 0 = .ok (.aload_n 0, 1) := by decide +kernel
theorem own_d5_1 : decode jdk_42_method_54_code 1 = .ok (.getfield 9, 3) := by decide +kernel
theorem own_d5_4 : decode jdk_42_method_54_code 4 = .ok (.arraylength, 1) := by decide +kernel
theorem own_d5_5 : decode jdk_42_method_54_code 5 = .ok (.aload_n 0, 1) := by decide +kernel
theorem own_d5_6 : decode jdk_42_method_54_code 6 = .ok (.invokevirtual 335, 3) := by decide +kernel
theorem own_pd0 : parseMethodDescriptor "()B" = some ⟨[], some .byte⟩ := by decide +kernel
theorem own_d5_9 : decode jdk_42_method_54_code 9 = .ok (.ishr, 1) := by decide +kernel
theorem own_d5_10 : decode jdk_42_method_54_code 10 = .ok (.ireturn, 1) := by decide +kernel
def own_Q5 (Z : State) (a1 : Addr) (cs : Int32) (v_a1 : Addr) (k_v_a1 : ClassId) (n_v_a1 : Int32) (vs_v_a1 : List Value) (h0 : Heap) (n0 : Nat) (v : Option Value) (h : Heap) (L : List Loc) : Prop := v = some (.int n_v_a1) ∧ Fr n0 L ∧ h = h0
theorem own_ef_own_rm5 (m : MethodId) (a1 : Addr) : entryFrame m #[(.ref a1)] 1 = mkF m 0 #[.val (.ref a1)] [] := by first | (simp [entryFrame, mkF, argsToLocals, Value.category]; done) | rfl
set_option maxRecDepth 65536 in
set_option maxHeartbeats 40000000 in
theorem own_rm5 (l : Launch) (Z : State) (a0 : Array Value) (hw : ∀ d ∈ tables_1, d.before a0 Z = true) (ws : List Jvm.Cond) (a1 : Addr) (cs : Int32) (v_a1 : Addr) (k_v_a1 : ClassId) (n_v_a1 : Int32) (vs_v_a1 : List Value) (h0 : Heap) (n0 : Nat) (Z0 : n0 ≤ h0.size) (S_cs : Sta Z h0 "java/lang/String" "COMPACT_STRINGS" "Z" (.int cs)) (hcs : ¬ cs = (0 : Int32)) (E_a1 : Exa Z h0 a1 "java/lang/String") (Fc_a1 : Fld Z h0 a1 "java/lang/String" "coder" "B" (.int (0 : Int32))) (Fv_a1 : Fld Z h0 a1 "java/lang/String" "value" "[B" (.ref v_a1)) (V_v_a1 : Arv Z h0 v_a1 k_v_a1 .byte n_v_a1 vs_v_a1 (.int (0 : Int32))) :
    MetFree l (⟨"java/lang/String", "length", "()I"⟩ : MethodName) (head1 (Jvm.Cond.code (⟨"java/lang/String", "length", "()I"⟩ : MethodName) jdk_42_method_54_code 1 (some .int) :: ws) ({ frames := 1, cells := 0, slots := 0, locals := 13 } : Room)) (fun a U => a = #[(.ref a1)] ∧ Z.Warmed39 U.vm ∧ U.heap = h0) (fun _ _ _ _ _ => True) (fun _ U o U' => ∃ v L, o = .returned v ∧ own_Q5 Z a1 cs v_a1 k_v_a1 n_v_a1 vs_v_a1 h0 n0 v U'.heap L ∧ FrameEnd U o U' L ({ frames := 1, cells := 0, slots := 0, locals := 13 } : Room).cells ({ frames := 1, cells := 0, slots := 0, locals := 13 } : Room).slots) := by
  refine MetFree.of_bodySF (plainFor_of_name own_pn1) hisR ?_
  intro p e s m args below meth c s₁ Bd hml0 hP hK
  obtain ⟨rfl, hZ, hh⟩ := hP
  have hx := Bd.exec
  have hby := Bd.bytes
  have hml : c.maxLocals = 1 := hml0
  have hown : s.vm.findClass "java/lang/String" = some m.cls := findClass_of_methodNamed Bd.named
  have hnm := (name_of_methodNamed Bd.named Bd.method).1
  have X0 : Stand p l e ({ frames := 1, cells := 0, slots := 0, locals := 13 } : Room) s m #[(.ref a1)] below meth c s₁ [] 0 0 := Stand.of_body Bd
  have e0 : s₁.heap = h0 := by rw [← hh, Bd.state]; rfl
  have N0 := Fr.nil n0
  show OE FrameEnd p e below s (own_Q5 Z a1 cs v_a1 k_v_a1 n_v_a1 vs_v_a1 h0 n0) ({ frames := 1, cells := 0, slots := 0, locals := 13 } : Room).cells ({ frames := 1, cells := 0, slots := 0, locals := 13 } : Room).slots s₁ (entryFrame m #[(.ref a1)] 1)
  rw [own_ef_own_rm5]
  show OE _ p e below s _ _ _ s₁ (mkF m 0 #[.val (.ref a1)] [])
  refine OE.aloadN X0 hx hby own_d5_0 rfl rfl ?_
  obtain ⟨T1, X1, e1, st1⟩ := getF X0 hx hZ hown (host := "") (Or.inl (hw _ (List.mem_of_getElem? (i := 30) rfl))) Via.refl e0 Fv_a1 (g := (mkF m 1 #[.val (.ref a1)] [(.ref a1)])) rfl rfl (hb hby own_d5_1)
  refine OE.of st1 ?_
  show OE _ p e below s _ _ _ T1 (mkF m 4 #[.val (.ref a1)] [(.ref v_a1)])
  have Vo2 := V_v_a1
  obtain ⟨cl2, Ar2, -, Sz2, Nz2, -, -⟩ := Vo2
  refine OE.of (X1.arraylength hx (by rw [e1]; exact Ar2.1) (State.isArrayOf_alike hZ.alike Ar2.2.1) (g := (mkF m 4 #[.val (.ref a1)] [(.ref v_a1)])) rfl rfl (hb hby own_d5_4)) ?_
  rw [len_of Sz2 Nz2]
  show OE _ p e below s _ _ _ T1 (mkF m 5 #[.val (.ref a1)] [(.int n_v_a1)])
  refine OE.aloadN X1 hx hby own_d5_5 rfl rfl ?_
  obtain ⟨cq3, kq3, qa3, qb3, qc3⟩ := isOf hZ e1 E_a1
  obtain ⟨_, _, ⟨T3, L3, k3, n3⟩, -, X3, ⟨Lc3, hQ3, l3, y3, z3⟩, st3⟩ := X1.virtualBack hx (y := (⟨"java/lang/String", "coder", "()B"⟩ : MethodName)) (z := (⟨"java/lang/String", "coder", "()B"⟩ : MethodName)) hown (mvT hZ (hw _ (List.mem_of_getElem? (i := 37) rfl))) (mvT hZ (hw _ (List.mem_of_getElem? (i := 38) rfl))) (notFace_of_selects (args := #[]) (mvT hZ (hw _ (List.mem_of_getElem? (i := 40) rfl)))) (mvT hZ (hw _ (List.mem_of_getElem? (i := 40) rfl))) (mvT hZ (hw _ (List.mem_of_getElem? (i := 39) rfl))) (by decide) (backOf (W := 1) (own_rm6 l Z a0 hw [] a1 cs h0 n0 Z0 S_cs hcs Fc_a1) hZ (hw _ (List.mem_of_getElem? (i := 41) rfl)) (hw _ (List.mem_of_getElem? (i := 15) rfl)) (by decide) (by decide)) qa3 qc3 (g := (mkF m 6 #[.val (.ref a1)] [(.ref a1), (.int n_v_a1)])) rfl (by rw [hml]; rfl) (Steps.refl _) (argsL := []) (rest := [(.int n_v_a1)]) (lenOf own_pd0 rfl) rfl (by show 2 * 0 + _ ≤ _; exact Nat.le_of_eq rfl) (hb hby own_d5_6) (fun _ _ => ⟨rfl, e1, (by decide : 0 + 0 ≤ _), (by decide : 0 + 0 ≤ _)⟩)
  dsimp only [Pt.U, Pt.locs, Pt.cells, Pt.slots] at X3 l3 y3 z3 st3 hQ3
  subst l3 y3 z3
  obtain ⟨rfl, Nq3, eq3⟩ := hQ3
  refine OE.of (fun _ k => st3.trans k) ?_
  have N3 := Fr.app N0 Nq3
  show OE _ p e below s _ _ _ T3 (mkF m 9 #[.val (.ref a1)] [(.int (0 : Int32)), (.int n_v_a1)])
  refine OE.ishr X3 hx hby own_d5_9 ?_
  rw [(own_shr0 n_v_a1 : (n_v_a1 >>> ((0 : Int32) &&& 31)) = n_v_a1)]
  show OE _ p e below s _ _ _ T3 (mkF m 10 #[.val (.ref a1)] [(.int n_v_a1)])
  refine OE.retI X3 hx Bd.returns Bd.notSynchronized (hb hby own_d5_10) (by decide) (by decide) ?_
  rw [eq3]
  exact ⟨rfl, N3, rfl⟩
theorem own_d11_0 : decode jdk_43_method_23_code 0 = .ok (.iload_n 1, 1) := by decide +kernel
theorem own_d11_1 : decode jdk_43_method_23_code 1 = .ok (.i2b, 1) := by decide +kernel
theorem own_d11_2 : decode jdk_43_method_23_code 2 = .ok (.istore 4, 2) := by decide +kernel
theorem own_d11_4 : decode jdk_43_method_23_code 4 = .ok (.iload_n 2, 1) := by decide +kernel
theorem own_d11_5 : decode jdk_43_method_23_code 5 = .ok (.istore 5, 2) := by decide +kernel
theorem own_d11_7 : decode jdk_43_method_23_code 7 = .ok (.iload 5, 2) := by decide +kernel
theorem own_d11_9 : decode jdk_43_method_23_code 9 = .ok (.iload_n 3, 1) := by decide +kernel
theorem own_d11_10 : decode jdk_43_method_23_code 10 = .ok (.if_icmp .ge 21, 3) := by decide +kernel
theorem own_d11_13 : decode jdk_43_method_23_code 13 = .ok (.aload_n 0, 1) := by decide +kernel
theorem own_d11_14 : decode jdk_43_method_23_code 14 = .ok (.iload 5, 2) := by decide +kernel
theorem own_d11_16 : decode jdk_43_method_23_code 16 = .ok (.baload, 1) := by decide +kernel
theorem own_d11_17 : decode jdk_43_method_23_code 17 = .ok (.iload 4, 2) := by decide +kernel
theorem own_d11_19 : decode jdk_43_method_23_code 19 = .ok (.if_icmp .ne 6, 3) := by decide +kernel
theorem own_d11_22 : decode jdk_43_method_23_code 22 = .ok (.iload 5, 2) := by decide +kernel
theorem own_d11_24 : decode jdk_43_method_23_code 24 = .ok (.ireturn, 1) := by decide +kernel
theorem own_d11_25 : decode jdk_43_method_23_code 25 = .ok (.iinc 5 1, 3) := by decide +kernel
theorem own_d11_28 : decode jdk_43_method_23_code 28 = .ok (.goto (-21), 3) := by decide +kernel
theorem own_d11_31 : decode jdk_43_method_23_code 31 = .ok (.iconst (-1), 1) := by decide +kernel
theorem own_d11_32 : decode jdk_43_method_23_code 32 = .ok (.ireturn, 1) := by decide +kernel
def own_Q11 (Z : State) (a1 : Addr) (p2 : Int32) (nn : Int32) (bs : List Int32) (k_a1 : ClassId) (h0 : Heap) (n0 : Nat) (v : Option Value) (h : Heap) (L : List Loc) : Prop := ∃ r : Int32, v = some (.int r) ∧ Fr n0 L ∧ h = h0 ∧ ((¬ r < 0 ↔ p2.toInt8.toInt32 ∈ bs))
theorem own_ef_own_rm11 (m : MethodId) (a1 : Addr) (p2 : Int32) (nn : Int32) : entryFrame m #[(.ref a1), (.int p2), (.int (0 : Int32)), (.int nn)] 6 = mkF m 0 #[.val (.ref a1), .val (.int p2), .val (.int (0 : Int32)), .val (.int nn), .unset, .unset] [] := by first | (simp [entryFrame, mkF, argsToLocals, Value.category]; done) | rfl
set_option maxRecDepth 65536 in
set_option maxHeartbeats 40000000 in
theorem own_rm11 (l : Launch) (Z : State) (a0 : Array Value) (hw : ∀ d ∈ tables_1, d.before a0 Z = true) (ws : List Jvm.Cond) (a1 : Addr) (p2 : Int32) (nn : Int32) (bs : List Int32) (k_a1 : ClassId) (h0 : Heap) (n0 : Nat) (Z0 : n0 ≤ h0.size) (V_a1 : Arv Z h0 a1 k_a1 .byte nn (List.map Value.int bs) (.int (0 : Int32))) (hl : nn.toInt = bs.length) :
    MetFree l (⟨"java/lang/StringLatin1", "indexOfChar", "([BIII)I"⟩ : MethodName) (head1 (Jvm.Cond.code (⟨"java/lang/StringLatin1", "indexOfChar", "([BIII)I"⟩ : MethodName) jdk_43_method_23_code 6 (some .int) :: ws) ({ frames := 0, cells := 0, slots := 0, locals := 0 } : Room)) (fun a U => a = #[(.ref a1), (.int p2), (.int (0 : Int32)), (.int nn)] ∧ Z.Warmed39 U.vm ∧ U.heap = h0) (fun _ _ _ _ _ => True) (fun _ U o U' => ∃ v L, o = .returned v ∧ own_Q11 Z a1 p2 nn bs k_a1 h0 n0 v U'.heap L ∧ FrameEnd U o U' L ({ frames := 0, cells := 0, slots := 0, locals := 0 } : Room).cells ({ frames := 0, cells := 0, slots := 0, locals := 0 } : Room).slots) := by
  refine MetFree.of_bodySF (plainFor_of_name own_pn0) hisR ?_
  intro p e s m args below meth c s₁ Bd hml0 hP hK
  obtain ⟨rfl, hZ, hh⟩ := hP
  have hx := Bd.exec
  have hby := Bd.bytes
  have hml : c.maxLocals = 6 := hml0
  have hown : s.vm.findClass "java/lang/StringLatin1" = some m.cls := findClass_of_methodNamed Bd.named
  have hnm := (name_of_methodNamed Bd.named Bd.method).1
  have X0 : Stand p l e ({ frames := 0, cells := 0, slots := 0, locals := 0 } : Room) s m #[(.ref a1), (.int p2), (.int (0 : Int32)), (.int nn)] below meth c s₁ [] 0 0 := Stand.of_body Bd
  have e0 : s₁.heap = h0 := by rw [← hh, Bd.state]; rfl
  have N0 := Fr.nil n0
  show OE FrameEnd p e below s (own_Q11 Z a1 p2 nn bs k_a1 h0 n0) ({ frames := 0, cells := 0, slots := 0, locals := 0 } : Room).cells ({ frames := 0, cells := 0, slots := 0, locals := 0 } : Room).slots s₁ (entryFrame m #[(.ref a1), (.int p2), (.int (0 : Int32)), (.int nn)] 6)
  rw [own_ef_own_rm11]
  show OE _ p e below s _ _ _ s₁ (mkF m 0 #[.val (.ref a1), .val (.int p2), .val (.int (0 : Int32)), .val (.int nn), .unset, .unset] [])
  refine OE.iloadN X0 hx hby own_d11_0 rfl ?_
  refine OE.i2b X0 hx hby own_d11_1 ?_
  refine OE.istore X0 hx hby own_d11_2 (l' := #[.val (.ref a1), .val (.int p2), .val (.int (0 : Int32)), .val (.int nn), .val (.int (p2.toInt8.toInt32)), .unset]) rfl ?_
  refine OE.iloadN X0 hx hby own_d11_4 rfl ?_
  refine OE.istore X0 hx hby own_d11_5 (l' := #[.val (.ref a1), .val (.int p2), .val (.int (0 : Int32)), .val (.int nn), .val (.int (p2.toInt8.toInt32)), .val (.int (0 : Int32))]) rfl ?_
  have loop7 : ∀ (k1 : Nat) (i : Int32) (T1 : State) (locs1 : List Loc) (cells1 : Nat) (slots1 : Nat), bs.length - i.toNatClampNeg = k1 → Stand p l e ({ frames := 0, cells := 0, slots := 0, locals := 0 } : Room) s m #[(.ref a1), (.int p2), (.int (0 : Int32)), (.int nn)] below meth c T1 locs1 cells1 slots1 → T1.heap = h0 → Fr n0 locs1 → cells1 ≤ 0 → slots1 ≤ 0 → (¬ i < 0) → (i.toNatClampNeg ≤ bs.length) → ((∀ j, j < i.toNatClampNeg → bs[j]? ≠ some (p2.toInt8.toInt32))) → OE FrameEnd p e below s (own_Q11 Z a1 p2 nn bs k_a1 h0 n0) ({ frames := 0, cells := 0, slots := 0, locals := 0 } : Room).cells ({ frames := 0, cells := 0, slots := 0, locals := 0 } : Room).slots T1 (mkF m 7 #[.val (.ref a1), .val (.int p2), .val (.int (0 : Int32)), .val (.int nn), .val (.int (p2.toInt8.toInt32)), .val (.int i)] []) := by
    intro k1
    induction k1 using Nat.strongRecOn with
    | _ k1 ih1 =>
    intro i T1 locs1 cells1 slots1 hk1 X1 e1 N1 hcl1 hsl1 hi0 hile hno
    show OE _ p e below s _ _ _ T1 (mkF m 7 #[.val (.ref a1), .val (.int p2), .val (.int (0 : Int32)), .val (.int nn), .val (.int (p2.toInt8.toInt32)), .val (.int i)] [])
    refine OE.iload X1 hx hby own_d11_7 rfl ?_
    refine OE.iloadN X1 hx hby own_d11_9 rfl ?_
    by_cases hc10 : i < nn
    · skip
      refine OE.icmpNo X1 hx hby own_d11_10 (tlt hc10).2.1 ?_
      obtain ⟨x, hx1⟩ := own_get hl hc10 hi0
      refine OE.aloadN X1 hx hby own_d11_13 rfl rfl ?_
      refine OE.iload X1 hx hby own_d11_14 rfl ?_
      have Vo2 := V_a1
      obtain ⟨cl2, Ar2, -, Sz2, Nz2, Hz2, Gz2⟩ := Vo2
      have hin2 : ¬ (i < 0 ∨ cl2.slots.size ≤ (i).toNatClampNeg) := inb_of Sz2 ⟨hi0, hc10⟩
      have hat2 : cl2.slots[(i).toNatClampNeg]? = some (.int x) := Has.at Hz2 hin2 (own_at hx1)
      refine OE.of (X1.baloadBytes hx (j := i) (v := (.int x)) (by rw [e1]; exact Ar2.1) (State.isArrayOf_alike hZ.alike Ar2.2.1) Ar2.2.2 hin2 hat2 (g := (mkF m 16 #[.val (.ref a1), .val (.int p2), .val (.int (0 : Int32)), .val (.int nn), .val (.int (p2.toInt8.toInt32)), .val (.int i)] [(.int i), (.ref a1)])) rfl rfl (hb hby own_d11_16)) ?_
      show OE _ p e below s _ _ _ T1 (mkF m 17 #[.val (.ref a1), .val (.int p2), .val (.int (0 : Int32)), .val (.int nn), .val (.int (p2.toInt8.toInt32)), .val (.int i)] [(.int x)])
      refine OE.iload X1 hx hby own_d11_17 rfl ?_
      by_cases hc19 : x = (p2.toInt8.toInt32)
      · skip
        refine OE.icmpNo X1 hx hby own_d11_19 (teq hc19).2 ?_
        refine OE.iload X1 hx hby own_d11_22 rfl ?_
        refine OE.retI X1 hx Bd.returns Bd.notSynchronized (hb hby own_d11_24) (Nat.le_trans hcl1 (by decide)) (Nat.le_trans hsl1 (by decide)) ?_
        rw [e1]
        exact ⟨i, rfl, N1, rfl, own_hit hi0 hx1 hc19⟩
      · skip
        refine OE.icmpYes X1 hx hby (pc' := 25) own_d11_19 (feq hc19).2 (h := ?_)
        refine OE.iinc X1 hx hby own_d11_25 rfl (l' := #[.val (.ref a1), .val (.int p2), .val (.int (0 : Int32)), .val (.int nn), .val (.int (p2.toInt8.toInt32)), .val (.int (i + (1 : Int32)))]) rfl ?_
        refine OE.goto X1 hx hby (pc' := 7) own_d11_28 (h := ?_)
        obtain ⟨g1, g2, g3, g4⟩ := own_stp hl hc10 hi0 hx1 hc19 hno
        exact ih1 _ (by omega) (i + (1 : Int32)) _ _ _ _ rfl X1 e1 N1 (Nat.le_trans hcl1 (by decide)) (Nat.le_trans hsl1 (by decide)) g2 g3 g4
    · skip
      refine OE.icmpYes X1 hx hby (pc' := 31) own_d11_10 (flt hc10).2.1 (h := ?_)
      refine OE.iconst X1 hx hby own_d11_31 (-1 : Int32) rfl ?_
      refine OE.retI X1 hx Bd.returns Bd.notSynchronized (hb hby own_d11_32) (Nat.le_trans hcl1 (by decide)) (Nat.le_trans hsl1 (by decide)) ?_
      rw [e1]
      exact ⟨(-1 : Int32), rfl, N1, rfl, own_no hl hc10 hi0 hno⟩
  exact loop7 _ (0 : Int32) _ _ _ _ rfl X0 e0 N0 (by decide) (by decide) (by decide) (Nat.zero_le _) (fun j hj => absurd hj (Nat.not_lt_zero j))
theorem own_lo {p : Int32} {bs : List Int32} (h : p < (0 : Int32)) : ¬ (-1 : Int32) < 0 ↔ own_enc p bs := ⟨fun q => absurd (by decide) q, fun q => absurd h q.1.1⟩
theorem own_hi {p : Int32} {bs : List Int32} (h : (255 : Int32) < p) : ¬ (-1 : Int32) < 0 ↔ own_enc p bs := ⟨fun q => absurd (by decide) q, fun q => absurd h q.1.2⟩
theorem own_em {p nn : Int32} {bs : List Int32} (hl : nn.toInt = bs.length) (h : ¬ (0 : Int32) < nn) : ¬ (-1 : Int32) < 0 ↔ own_enc p bs := by
  rw [Int32.lt_iff_toInt_lt] at h
  have z : (0 : Int32).toInt = 0 := by decide
  have : bs = [] := List.eq_nil_of_length_eq_zero (by omega)
  subst this
  exact ⟨fun q => absurd (by decide) q, fun q => nomatch q.2⟩
theorem own_in {p r : Int32} {bs : List Int32} (h1 : ¬ p < (0 : Int32)) (h2 : ¬ (255 : Int32) < p) (h : ¬ r < 0 ↔ p.toInt8.toInt32 ∈ bs) : ¬ r < 0 ↔ own_enc p bs := ⟨fun q => ⟨⟨h1, h2⟩, h.mp q⟩, fun q => h.mpr q.2⟩
theorem own_d7_0 : decode jdk_43_method_22_code 0 = .ok (.iload_n 1, 1) := by decide +kernel
theorem own_d7_1 : decode jdk_43_method_22_code 1 = .ok (.invokestatic 88, 3) := by decide +kernel
theorem own_pd1 : parseMethodDescriptor "(I)Z" = some ⟨[.int], some .boolean⟩ := by decide +kernel
theorem own_d7_4 : decode jdk_43_method_22_code 4 = .ok (.ifCond .ne 5, 3) := by decide +kernel
theorem own_d7_7 : decode jdk_43_method_22_code 7 = .ok (.iconst (-1), 1) := by decide +kernel
theorem own_d7_8 : decode jdk_43_method_22_code 8 = .ok (.ireturn, 1) := by decide +kernel
theorem own_d7_9 : decode jdk_43_method_22_code 9 = .ok (.iload_n 2, 1) := by decide +kernel
theorem own_d7_10 : decode jdk_43_method_22_code 10 = .ok (.iconst 0, 1) := by decide +kernel
theorem own_d7_11 : decode jdk_43_method_22_code 11 = .ok (.invokestatic 92, 3) := by decide +kernel
theorem own_pd2 : parseMethodDescriptor "(II)I" = some ⟨[.int, .int], some .int⟩ := by decide +kernel
theorem own_d7_14 : decode jdk_43_method_22_code 14 = .ok (.istore_n 2, 1) := by decide +kernel
theorem own_d7_15 : decode jdk_43_method_22_code 15 = .ok (.iload_n 3, 1) := by decide +kernel
theorem own_d7_16 : decode jdk_43_method_22_code 16 = .ok (.aload_n 0, 1) := by decide +kernel
theorem own_d7_17 : decode jdk_43_method_22_code 17 = .ok (.arraylength, 1) := by decide +kernel
theorem own_d7_18 : decode jdk_43_method_22_code 18 = .ok (.invokestatic 38, 3) := by decide +kernel
theorem own_d7_21 : decode jdk_43_method_22_code 21 = .ok (.istore_n 3, 1) := by decide +kernel
theorem own_d7_22 : decode jdk_43_method_22_code 22 = .ok (.iload_n 2, 1) := by decide +kernel
theorem own_d7_23 : decode jdk_43_method_22_code 23 = .ok (.iload_n 3, 1) := by decide +kernel
theorem own_d7_24 : decode jdk_43_method_22_code 24 = .ok (.if_icmp .lt 5, 3) := by decide +kernel
theorem own_d7_29 : decode jdk_43_method_22_code 29 = .ok (.aload_n 0, 1) := by decide +kernel
theorem own_d7_30 : decode jdk_43_method_22_code 30 = .ok (.iload_n 1, 1) := by decide +kernel
theorem own_d7_31 : decode jdk_43_method_22_code 31 = .ok (.iload_n 2, 1) := by decide +kernel
theorem own_d7_32 : decode jdk_43_method_22_code 32 = .ok (.iload_n 3, 1) := by decide +kernel
theorem own_d7_33 : decode jdk_43_method_22_code 33 = .ok (.invokestatic 95, 3) := by decide +kernel
theorem own_pd3 : parseMethodDescriptor "([BIII)I" = some ⟨[(.array .byte), .int, .int, .int], some .int⟩ := by decide +kernel
theorem own_d7_36 : decode jdk_43_method_22_code 36 = .ok (.ireturn, 1) := by decide +kernel
theorem own_d7_27 : decode jdk_43_method_22_code 27 = .ok (.iconst (-1), 1) := by decide +kernel
theorem own_d7_28 : decode jdk_43_method_22_code 28 = .ok (.ireturn, 1) := by decide +kernel
def own_Q7 (Z : State) (a1 : Addr) (p2 : Int32) (nn : Int32) (bs : List Int32) (k_a1 : ClassId) (h0 : Heap) (n0 : Nat) (v : Option Value) (h : Heap) (L : List Loc) : Prop := ∃ r : Int32, v = some (.int r) ∧ Fr n0 L ∧ h = h0 ∧ ((¬ r < 0 ↔ own_enc p2 bs))
theorem own_ef_own_rm7 (m : MethodId) (a1 : Addr) (p2 : Int32) (nn : Int32) : entryFrame m #[(.ref a1), (.int p2), (.int (0 : Int32)), (.int nn)] 4 = mkF m 0 #[.val (.ref a1), .val (.int p2), .val (.int (0 : Int32)), .val (.int nn)] [] := by first | (simp [entryFrame, mkF, argsToLocals, Value.category]; done) | rfl
set_option maxRecDepth 65536 in
set_option maxHeartbeats 40000000 in
theorem own_rm7 (l : Launch) (Z : State) (a0 : Array Value) (hw : ∀ d ∈ tables_1, d.before a0 Z = true) (ws : List Jvm.Cond) (a1 : Addr) (p2 : Int32) (nn : Int32) (bs : List Int32) (k_a1 : ClassId) (h0 : Heap) (n0 : Nat) (Z0 : n0 ≤ h0.size) (V_a1 : Arv Z h0 a1 k_a1 .byte nn (List.map Value.int bs) (.int (0 : Int32))) (hl : nn.toInt = bs.length) :
    MetFree l (⟨"java/lang/StringLatin1", "indexOf", "([BIII)I"⟩ : MethodName) (head1 (Jvm.Cond.code (⟨"java/lang/StringLatin1", "indexOf", "([BIII)I"⟩ : MethodName) jdk_43_method_22_code 4 (some .int) :: ws) ({ frames := 1, cells := 0, slots := 0, locals := 17 } : Room)) (fun a U => a = #[(.ref a1), (.int p2), (.int (0 : Int32)), (.int nn)] ∧ Z.Warmed39 U.vm ∧ U.heap = h0) (fun _ _ _ _ _ => True) (fun _ U o U' => ∃ v L, o = .returned v ∧ own_Q7 Z a1 p2 nn bs k_a1 h0 n0 v U'.heap L ∧ FrameEnd U o U' L ({ frames := 1, cells := 0, slots := 0, locals := 17 } : Room).cells ({ frames := 1, cells := 0, slots := 0, locals := 17 } : Room).slots) := by
  refine MetFree.of_bodySF (plainFor_of_name own_pn0) hisR ?_
  intro p e s m args below meth c s₁ Bd hml0 hP hK
  obtain ⟨rfl, hZ, hh⟩ := hP
  have hx := Bd.exec
  have hby := Bd.bytes
  have hml : c.maxLocals = 4 := hml0
  have hown : s.vm.findClass "java/lang/StringLatin1" = some m.cls := findClass_of_methodNamed Bd.named
  have hnm := (name_of_methodNamed Bd.named Bd.method).1
  have X0 : Stand p l e ({ frames := 1, cells := 0, slots := 0, locals := 17 } : Room) s m #[(.ref a1), (.int p2), (.int (0 : Int32)), (.int nn)] below meth c s₁ [] 0 0 := Stand.of_body Bd
  have e0 : s₁.heap = h0 := by rw [← hh, Bd.state]; rfl
  have N0 := Fr.nil n0
  show OE FrameEnd p e below s (own_Q7 Z a1 p2 nn bs k_a1 h0 n0) ({ frames := 1, cells := 0, slots := 0, locals := 17 } : Room).cells ({ frames := 1, cells := 0, slots := 0, locals := 17 } : Room).slots s₁ (entryFrame m #[(.ref a1), (.int p2), (.int (0 : Int32)), (.int nn)] 4)
  rw [own_ef_own_rm7]
  show OE _ p e below s _ _ _ s₁ (mkF m 0 #[.val (.ref a1), .val (.int p2), .val (.int (0 : Int32)), .val (.int nn)] [])
  refine OE.iloadN X0 hx hby own_d7_0 rfl ?_
  obtain ⟨_, _, ⟨T1, L1, k1, n1⟩, -, X1, ⟨Lc1, hQ1, l1, y1, z1⟩, st1⟩ := Jvm.LawKit.callS X0 hx (y := (⟨"java/lang/StringLatin1", "canEncode", "(I)Z"⟩ : MethodName)) hown (mvT hZ (hw _ (List.mem_of_getElem? (i := 46) rfl))) (mvT hZ (hw _ (List.mem_of_getElem? (i := 47) rfl))) (mvT hZ (hw _ (List.mem_of_getElem? (i := 44) rfl))) (mvT hZ (hw _ (List.mem_of_getElem? (i := 48) rfl))) (by decide) (backOf (W := 0) (own_rm8 l Z a0 hw [] p2 h0 n0 Z0 ) hZ (hw _ (List.mem_of_getElem? (i := 48) rfl)) (hw _ (List.mem_of_getElem? (i := 44) rfl)) (by decide) (by decide)) (g := (mkF m 1 #[.val (.ref a1), .val (.int p2), .val (.int (0 : Int32)), .val (.int nn)] [(.int p2)])) rfl (by rw [hml]; rfl) (argsL := [(.int p2)]) (rest := []) (lenOf own_pd1 rfl) rfl (by show 2 * 0 + _ ≤ _; exact Nat.le_of_eq rfl) (hb hby own_d7_1) (fun _ _ => ⟨rfl, e0, (by decide : 0 + 0 ≤ _), (by decide : 0 + 0 ≤ _)⟩)
  dsimp only [Pt.U, Pt.locs, Pt.cells, Pt.slots] at X1 l1 y1 z1 st1 hQ1
  subst l1 y1 z1
  obtain ⟨rfl, Nq1, eq1⟩ := hQ1
  refine OE.of (fun _ k => st1 _ k) ?_
  have N1 := Fr.app N0 Nq1
  show OE _ p e below s _ _ _ T1 (mkF m 4 #[.val (.ref a1), .val (.int p2), .val (.int (0 : Int32)), .val (.int nn)] [(.int (if p2 < (0 : Int32) then (0 : Int32) else (if (255 : Int32) < p2 then (0 : Int32) else (1 : Int32))))])
  by_cases hl2 : p2 < (0 : Int32)
  · skip
    rw [if_pos (show p2 < (0 : Int32) from hl2)]
    show OE _ p e below s _ _ _ T1 (mkF m 4 #[.val (.ref a1), .val (.int p2), .val (.int (0 : Int32)), .val (.int nn)] [(.int (0 : Int32))])
    refine OE.ifNo X1 hx hby own_d7_4 (teq (by decide : (0 : Int32) = (0 : Int32))).2 ?_
    refine OE.iconst X1 hx hby own_d7_7 (-1 : Int32) rfl ?_
    refine OE.retI X1 hx Bd.returns Bd.notSynchronized (hb hby own_d7_8) (by decide) (by decide) ?_
    rw [eq1]
    exact ⟨(-1 : Int32), rfl, N1, rfl, own_lo hl2⟩
  · skip
    rw [if_neg (show ¬ (p2 < (0 : Int32)) from hl2)]
    show OE _ p e below s _ _ _ T1 (mkF m 4 #[.val (.ref a1), .val (.int p2), .val (.int (0 : Int32)), .val (.int nn)] [(.int (if (255 : Int32) < p2 then (0 : Int32) else (1 : Int32)))])
    by_cases hl3 : (255 : Int32) < p2
    · skip
      rw [if_pos (show (255 : Int32) < p2 from hl3)]
      show OE _ p e below s _ _ _ T1 (mkF m 4 #[.val (.ref a1), .val (.int p2), .val (.int (0 : Int32)), .val (.int nn)] [(.int (0 : Int32))])
      refine OE.ifNo X1 hx hby own_d7_4 (teq (by decide : (0 : Int32) = (0 : Int32))).2 ?_
      refine OE.iconst X1 hx hby own_d7_7 (-1 : Int32) rfl ?_
      refine OE.retI X1 hx Bd.returns Bd.notSynchronized (hb hby own_d7_8) (by decide) (by decide) ?_
      rw [eq1]
      exact ⟨(-1 : Int32), rfl, N1, rfl, own_hi hl3⟩
    · skip
      rw [if_neg (show ¬ ((255 : Int32) < p2) from hl3)]
      show OE _ p e below s _ _ _ T1 (mkF m 4 #[.val (.ref a1), .val (.int p2), .val (.int (0 : Int32)), .val (.int nn)] [(.int (1 : Int32))])
      refine OE.ifYes X1 hx hby (pc' := 9) own_d7_4 (feq (by decide : ¬ ((1 : Int32) = (0 : Int32)))).2 (h := ?_)
      refine OE.iloadN X1 hx hby own_d7_9 rfl ?_
      refine OE.iconst X1 hx hby own_d7_10 (0 : Int32) rfl ?_
      obtain ⟨_, _, ⟨T4, L4, k4, n4⟩, -, X4, ⟨Lc4, hQ4, l4, y4, z4⟩, st4⟩ := Jvm.LawKit.callS X1 hx (y := (⟨"java/lang/Math", "max", "(II)I"⟩ : MethodName)) hown (mvT hZ (hw _ (List.mem_of_getElem? (i := 49) rfl))) (mvT hZ (hw _ (List.mem_of_getElem? (i := 50) rfl))) (mvT hZ (hw _ (List.mem_of_getElem? (i := 51) rfl))) (mvT hZ (hw _ (List.mem_of_getElem? (i := 52) rfl))) (by decide) (backOf (W := 0) (own_rm9 l Z a0 hw [] (0 : Int32) (0 : Int32) h0 n0 Z0 ) hZ (hw _ (List.mem_of_getElem? (i := 52) rfl)) (hw _ (List.mem_of_getElem? (i := 51) rfl)) (by decide) (by decide)) (g := (mkF m 11 #[.val (.ref a1), .val (.int p2), .val (.int (0 : Int32)), .val (.int nn)] [(.int (0 : Int32)), (.int (0 : Int32))])) rfl (by rw [hml]; rfl) (argsL := [(.int (0 : Int32)), (.int (0 : Int32))]) (rest := []) (lenOf own_pd2 rfl) rfl (by show 2 * 0 + _ ≤ _; exact Nat.le_of_eq rfl) (hb hby own_d7_11) (fun _ _ => ⟨rfl, eq1, (by decide : 0 + 0 ≤ _), (by decide : 0 + 0 ≤ _)⟩)
      dsimp only [Pt.U, Pt.locs, Pt.cells, Pt.slots] at X4 l4 y4 z4 st4 hQ4
      subst l4 y4 z4
      obtain ⟨rfl, Nq4, eq4⟩ := hQ4
      refine OE.of (fun _ k => st4 _ k) ?_
      have N4 := Fr.app N1 Nq4
      show OE _ p e below s _ _ _ T4 (mkF m 14 #[.val (.ref a1), .val (.int p2), .val (.int (0 : Int32)), .val (.int nn)] [(.int (if (0 : Int32) < (0 : Int32) then (0 : Int32) else (0 : Int32)))])
      rw [if_neg (show ¬ ((0 : Int32) < (0 : Int32)) from (by decide : ¬ ((0 : Int32) < (0 : Int32))))]
      show OE _ p e below s _ _ _ T4 (mkF m 14 #[.val (.ref a1), .val (.int p2), .val (.int (0 : Int32)), .val (.int nn)] [(.int (0 : Int32))])
      refine OE.istoreN X4 hx hby own_d7_14 (l' := #[.val (.ref a1), .val (.int p2), .val (.int (0 : Int32)), .val (.int nn)]) rfl ?_
      refine OE.iloadN X4 hx hby own_d7_15 rfl ?_
      refine OE.aloadN X4 hx hby own_d7_16 rfl rfl ?_
      have Vo5 := V_a1
      obtain ⟨cl5, Ar5, -, Sz5, Nz5, -, -⟩ := Vo5
      refine OE.of (X4.arraylength hx (by rw [eq4]; exact Ar5.1) (State.isArrayOf_alike hZ.alike Ar5.2.1) (g := (mkF m 17 #[.val (.ref a1), .val (.int p2), .val (.int (0 : Int32)), .val (.int nn)] [(.ref a1), (.int nn)])) rfl rfl (hb hby own_d7_17)) ?_
      rw [len_of Sz5 Nz5]
      show OE _ p e below s _ _ _ T4 (mkF m 18 #[.val (.ref a1), .val (.int p2), .val (.int (0 : Int32)), .val (.int nn)] [(.int nn), (.int nn)])
      obtain ⟨_, _, ⟨T6, L6, k6, n6⟩, -, X6, ⟨Lc6, hQ6, l6, y6, z6⟩, st6⟩ := Jvm.LawKit.callS X4 hx (y := (⟨"java/lang/Math", "min", "(II)I"⟩ : MethodName)) hown (mvT hZ (hw _ (List.mem_of_getElem? (i := 53) rfl))) (mvT hZ (hw _ (List.mem_of_getElem? (i := 54) rfl))) (mvT hZ (hw _ (List.mem_of_getElem? (i := 51) rfl))) (mvT hZ (hw _ (List.mem_of_getElem? (i := 55) rfl))) (by decide) (backOf (W := 0) (own_rm10 l Z a0 hw [] nn nn h0 n0 Z0 ) hZ (hw _ (List.mem_of_getElem? (i := 55) rfl)) (hw _ (List.mem_of_getElem? (i := 51) rfl)) (by decide) (by decide)) (g := (mkF m 18 #[.val (.ref a1), .val (.int p2), .val (.int (0 : Int32)), .val (.int nn)] [(.int nn), (.int nn)])) rfl (by rw [hml]; rfl) (argsL := [(.int nn), (.int nn)]) (rest := []) (lenOf own_pd2 rfl) rfl (by show 2 * 0 + _ ≤ _; exact Nat.le_of_eq rfl) (hb hby own_d7_18) (fun _ _ => ⟨rfl, eq4, (by decide : 0 + 0 ≤ _), (by decide : 0 + 0 ≤ _)⟩)
      dsimp only [Pt.U, Pt.locs, Pt.cells, Pt.slots] at X6 l6 y6 z6 st6 hQ6
      subst l6 y6 z6
      obtain ⟨rfl, Nq6, eq6⟩ := hQ6
      refine OE.of (fun _ k => st6 _ k) ?_
      have N6 := Fr.app N4 Nq6
      show OE _ p e below s _ _ _ T6 (mkF m 21 #[.val (.ref a1), .val (.int p2), .val (.int (0 : Int32)), .val (.int nn)] [(.int (if nn < nn then nn else nn))])
      rw [if_neg (show ¬ (nn < nn) from Int32.lt_irrefl)]
      show OE _ p e below s _ _ _ T6 (mkF m 21 #[.val (.ref a1), .val (.int p2), .val (.int (0 : Int32)), .val (.int nn)] [(.int nn)])
      refine OE.istoreN X6 hx hby own_d7_21 (l' := #[.val (.ref a1), .val (.int p2), .val (.int (0 : Int32)), .val (.int nn)]) rfl ?_
      refine OE.iloadN X6 hx hby own_d7_22 rfl ?_
      refine OE.iloadN X6 hx hby own_d7_23 rfl ?_
      by_cases hc24 : (0 : Int32) < nn
      · skip
        refine OE.icmpYes X6 hx hby (pc' := 29) own_d7_24 (tlt hc24).1 (h := ?_)
        refine OE.aloadN X6 hx hby own_d7_29 rfl rfl ?_
        refine OE.iloadN X6 hx hby own_d7_30 rfl ?_
        refine OE.iloadN X6 hx hby own_d7_31 rfl ?_
        refine OE.iloadN X6 hx hby own_d7_32 rfl ?_
        obtain ⟨_, _, ⟨T7, L7, k7, n7⟩, -, X7, ⟨Lc7, hQ7, l7, y7, z7⟩, st7⟩ := Jvm.LawKit.callS X6 hx (y := (⟨"java/lang/StringLatin1", "indexOfChar", "([BIII)I"⟩ : MethodName)) hown (mvT hZ (hw _ (List.mem_of_getElem? (i := 56) rfl))) (mvT hZ (hw _ (List.mem_of_getElem? (i := 57) rfl))) (mvT hZ (hw _ (List.mem_of_getElem? (i := 44) rfl))) (mvT hZ (hw _ (List.mem_of_getElem? (i := 58) rfl))) (by decide) (backOf (W := 0) (own_rm11 l Z a0 hw [] a1 p2 nn bs k_a1 h0 n0 Z0 V_a1 hl) hZ (hw _ (List.mem_of_getElem? (i := 58) rfl)) (hw _ (List.mem_of_getElem? (i := 44) rfl)) (by decide) (by decide)) (g := (mkF m 33 #[.val (.ref a1), .val (.int p2), .val (.int (0 : Int32)), .val (.int nn)] [(.int nn), (.int (0 : Int32)), (.int p2), (.ref a1)])) rfl (by rw [hml]; rfl) (argsL := [(.ref a1), (.int p2), (.int (0 : Int32)), (.int nn)]) (rest := []) (lenOf own_pd3 rfl) rfl (by show 2 * 0 + _ ≤ _; exact Nat.le_of_eq rfl) (hb hby own_d7_33) (fun _ _ => ⟨rfl, eq6, (by decide : 0 + 0 ≤ _), (by decide : 0 + 0 ≤ _)⟩)
        dsimp only [Pt.U, Pt.locs, Pt.cells, Pt.slots] at X7 l7 y7 z7 st7 hQ7
        subst l7 y7 z7
        obtain ⟨r7_r, rfl, Nq7, eq7, h7_hr⟩ := hQ7
        refine OE.of (fun _ k => st7 _ k) ?_
        have N7 := Fr.app N6 Nq7
        show OE _ p e below s _ _ _ T7 (mkF m 36 #[.val (.ref a1), .val (.int p2), .val (.int (0 : Int32)), .val (.int nn)] [(.int r7_r)])
        refine OE.retI X7 hx Bd.returns Bd.notSynchronized (hb hby own_d7_36) (by decide) (by decide) ?_
        rw [eq7]
        exact ⟨r7_r, rfl, N7, rfl, own_in hl2 hl3 h7_hr⟩
      · skip
        refine OE.icmpNo X6 hx hby own_d7_24 (flt hc24).1 ?_
        refine OE.iconst X6 hx hby own_d7_27 (-1 : Int32) rfl ?_
        refine OE.retI X6 hx Bd.returns Bd.notSynchronized (hb hby own_d7_28) (by decide) (by decide) ?_
        rw [eq6]
        exact ⟨(-1 : Int32), rfl, N6, rfl, own_em hl hc24⟩
theorem own_d3_0 : decode jdk_42_method_80_code 0 = .ok (.aload_n 0, 1) := by decide +kernel
theorem own_d3_1 : decode jdk_42_method_80_code 1 = .ok (.invokevirtual 492, 3) := by decide +kernel
theorem own_pd4 : parseMethodDescriptor "()Z" = some ⟨[], some .boolean⟩ := by decide +kernel
theorem own_d3_4 : decode jdk_42_method_80_code 4 = .ok (.ifCond .eq 19, 3) := by decide +kernel
theorem own_d3_7 : decode jdk_42_method_80_code 7 = .ok (.aload_n 0, 1) := by decide +kernel
theorem own_d3_8 : decode jdk_42_method_80_code 8 = .ok (.getfield 9, 3) := by decide +kernel
theorem own_d3_11 : decode jdk_42_method_80_code 11 = .ok (.iload_n 1, 1) := by decide +kernel
theorem own_d3_12 : decode jdk_42_method_80_code 12 = .ok (.iload_n 2, 1) := by decide +kernel
theorem own_d3_13 : decode jdk_42_method_80_code 13 = .ok (.aload_n 0, 1) := by decide +kernel
theorem own_d3_14 : decode jdk_42_method_80_code 14 = .ok (.invokevirtual 505, 3) := by decide +kernel
theorem own_pd5 : parseMethodDescriptor "()I" = some ⟨[], some .int⟩ := by decide +kernel
theorem own_d3_17 : decode jdk_42_method_80_code 17 = .ok (.invokestatic 637, 3) := by decide +kernel
theorem own_d3_20 : decode jdk_42_method_80_code 20 = .ok (.goto 16, 3) := by decide +kernel
theorem own_d3_36 : decode jdk_42_method_80_code 36 = .ok (.ireturn, 1) := by decide +kernel
def own_Q3 (Z : State) (a1 : Addr) (p2 : Int32) (cs : Int32) (v_a1 : Addr) (nn_a1 : Int32) (bs_a1 : List Int32) (k_v_a1 : ClassId) (h0 : Heap) (n0 : Nat) (v : Option Value) (h : Heap) (L : List Loc) : Prop := ∃ r : Int32, v = some (.int r) ∧ Fr n0 L ∧ h = h0 ∧ ((¬ r < 0 ↔ own_enc p2 bs_a1))
theorem own_ef_own_rm3 (m : MethodId) (a1 : Addr) (p2 : Int32) : entryFrame m #[(.ref a1), (.int p2), (.int (0 : Int32))] 3 = mkF m 0 #[.val (.ref a1), .val (.int p2), .val (.int (0 : Int32))] [] := by first | (simp [entryFrame, mkF, argsToLocals, Value.category]; done) | rfl
set_option maxRecDepth 65536 in
set_option maxHeartbeats 40000000 in
theorem own_rm3 (l : Launch) (Z : State) (a0 : Array Value) (hw : ∀ d ∈ tables_1, d.before a0 Z = true) (ws : List Jvm.Cond) (a1 : Addr) (p2 : Int32) (cs : Int32) (v_a1 : Addr) (nn_a1 : Int32) (bs_a1 : List Int32) (k_v_a1 : ClassId) (h0 : Heap) (n0 : Nat) (Z0 : n0 ≤ h0.size) (S_cs : Sta Z h0 "java/lang/String" "COMPACT_STRINGS" "Z" (.int cs)) (hcs : ¬ cs = (0 : Int32)) (E_a1 : Exa Z h0 a1 "java/lang/String") (Fc_a1 : Fld Z h0 a1 "java/lang/String" "coder" "B" (.int (0 : Int32))) (Fv_a1 : Fld Z h0 a1 "java/lang/String" "value" "[B" (.ref v_a1)) (V_v_a1 : Arv Z h0 v_a1 k_v_a1 .byte nn_a1 (List.map Value.int bs_a1) (.int (0 : Int32))) (hl_a1 : nn_a1.toInt = bs_a1.length) :
    MetFree l (⟨"java/lang/String", "indexOf", "(II)I"⟩ : MethodName) (head1 (Jvm.Cond.code (⟨"java/lang/String", "indexOf", "(II)I"⟩ : MethodName) jdk_42_method_80_code 3 (some .int) :: ws) ({ frames := 2, cells := 0, slots := 0, locals := 32 } : Room)) (fun a U => a = #[(.ref a1), (.int p2), (.int (0 : Int32))] ∧ Z.Warmed39 U.vm ∧ U.heap = h0) (fun _ _ _ _ _ => True) (fun _ U o U' => ∃ v L, o = .returned v ∧ own_Q3 Z a1 p2 cs v_a1 nn_a1 bs_a1 k_v_a1 h0 n0 v U'.heap L ∧ FrameEnd U o U' L ({ frames := 2, cells := 0, slots := 0, locals := 32 } : Room).cells ({ frames := 2, cells := 0, slots := 0, locals := 32 } : Room).slots) := by
  refine MetFree.of_bodySF (plainFor_of_name own_pn1) hisR ?_
  intro p e s m args below meth c s₁ Bd hml0 hP hK
  obtain ⟨rfl, hZ, hh⟩ := hP
  have hx := Bd.exec
  have hby := Bd.bytes
  have hml : c.maxLocals = 3 := hml0
  have hown : s.vm.findClass "java/lang/String" = some m.cls := findClass_of_methodNamed Bd.named
  have hnm := (name_of_methodNamed Bd.named Bd.method).1
  have X0 : Stand p l e ({ frames := 2, cells := 0, slots := 0, locals := 32 } : Room) s m #[(.ref a1), (.int p2), (.int (0 : Int32))] below meth c s₁ [] 0 0 := Stand.of_body Bd
  have e0 : s₁.heap = h0 := by rw [← hh, Bd.state]; rfl
  have N0 := Fr.nil n0
  show OE FrameEnd p e below s (own_Q3 Z a1 p2 cs v_a1 nn_a1 bs_a1 k_v_a1 h0 n0) ({ frames := 2, cells := 0, slots := 0, locals := 32 } : Room).cells ({ frames := 2, cells := 0, slots := 0, locals := 32 } : Room).slots s₁ (entryFrame m #[(.ref a1), (.int p2), (.int (0 : Int32))] 3)
  rw [own_ef_own_rm3]
  show OE _ p e below s _ _ _ s₁ (mkF m 0 #[.val (.ref a1), .val (.int p2), .val (.int (0 : Int32))] [])
  refine OE.aloadN X0 hx hby own_d3_0 rfl rfl ?_
  obtain ⟨cq1, kq1, qa1, qb1, qc1⟩ := isOf hZ e0 E_a1
  obtain ⟨_, _, ⟨T1, L1, k1, n1⟩, -, X1, ⟨Lc1, hQ1, l1, y1, z1⟩, st1⟩ := X0.virtualBack hx (y := (⟨"java/lang/String", "isLatin1", "()Z"⟩ : MethodName)) (z := (⟨"java/lang/String", "isLatin1", "()Z"⟩ : MethodName)) hown (mvT hZ (hw _ (List.mem_of_getElem? (i := 22) rfl))) (mvT hZ (hw _ (List.mem_of_getElem? (i := 23) rfl))) (notFace_of_selects (args := #[]) (mvT hZ (hw _ (List.mem_of_getElem? (i := 25) rfl)))) (mvT hZ (hw _ (List.mem_of_getElem? (i := 25) rfl))) (mvT hZ (hw _ (List.mem_of_getElem? (i := 24) rfl))) (by decide) (backOf (W := 0) (own_rm4 l Z a0 hw [] a1 cs h0 n0 Z0 S_cs hcs Fc_a1) hZ (hw _ (List.mem_of_getElem? (i := 26) rfl)) (hw _ (List.mem_of_getElem? (i := 15) rfl)) (by decide) (by decide)) qa1 qc1 (g := (mkF m 1 #[.val (.ref a1), .val (.int p2), .val (.int (0 : Int32))] [(.ref a1)])) rfl (by rw [hml]; rfl) (Steps.refl _) (argsL := []) (rest := []) (lenOf own_pd4 rfl) rfl (by show 2 * 0 + _ ≤ _; exact Nat.le_of_eq rfl) (hb hby own_d3_1) (fun _ _ => ⟨rfl, e0, (by decide : 0 + 0 ≤ _), (by decide : 0 + 0 ≤ _)⟩)
  dsimp only [Pt.U, Pt.locs, Pt.cells, Pt.slots] at X1 l1 y1 z1 st1 hQ1
  subst l1 y1 z1
  obtain ⟨rfl, Nq1, eq1⟩ := hQ1
  refine OE.of (fun _ k => st1.trans k) ?_
  have N1 := Fr.app N0 Nq1
  show OE _ p e below s _ _ _ T1 (mkF m 4 #[.val (.ref a1), .val (.int p2), .val (.int (0 : Int32))] [(.int (1 : Int32))])
  refine OE.ifNo X1 hx hby own_d3_4 (feq (by decide : ¬ ((1 : Int32) = (0 : Int32)))).1 ?_
  refine OE.aloadN X1 hx hby own_d3_7 rfl rfl ?_
  obtain ⟨T2, X2, e2, st2⟩ := getF X1 hx hZ hown (host := "") (Or.inl (hw _ (List.mem_of_getElem? (i := 30) rfl))) Via.refl eq1 Fv_a1 (g := (mkF m 8 #[.val (.ref a1), .val (.int p2), .val (.int (0 : Int32))] [(.ref a1)])) rfl rfl (hb hby own_d3_8)
  refine OE.of st2 ?_
  show OE _ p e below s _ _ _ T2 (mkF m 11 #[.val (.ref a1), .val (.int p2), .val (.int (0 : Int32))] [(.ref v_a1)])
  refine OE.iloadN X2 hx hby own_d3_11 rfl ?_
  refine OE.iloadN X2 hx hby own_d3_12 rfl ?_
  refine OE.aloadN X2 hx hby own_d3_13 rfl rfl ?_
  obtain ⟨cq3, kq3, qa3, qb3, qc3⟩ := isOf hZ e2 E_a1
  obtain ⟨_, _, ⟨T3, L3, k3, n3⟩, -, X3, ⟨Lc3, hQ3, l3, y3, z3⟩, st3⟩ := X2.virtualBack hx (y := (⟨"java/lang/String", "length", "()I"⟩ : MethodName)) (z := (⟨"java/lang/String", "length", "()I"⟩ : MethodName)) hown (mvT hZ (hw _ (List.mem_of_getElem? (i := 32) rfl))) (mvT hZ (hw _ (List.mem_of_getElem? (i := 33) rfl))) (notFace_of_selects (args := #[]) (mvT hZ (hw _ (List.mem_of_getElem? (i := 35) rfl)))) (mvT hZ (hw _ (List.mem_of_getElem? (i := 35) rfl))) (mvT hZ (hw _ (List.mem_of_getElem? (i := 34) rfl))) (by decide) (backOf (W := 3) (own_rm5 l Z a0 hw [] a1 cs v_a1 k_v_a1 nn_a1 (List.map Value.int bs_a1) h0 n0 Z0 S_cs hcs E_a1 Fc_a1 Fv_a1 V_v_a1) hZ (hw _ (List.mem_of_getElem? (i := 36) rfl)) (hw _ (List.mem_of_getElem? (i := 15) rfl)) (by decide) (by decide)) qa3 qc3 (g := (mkF m 14 #[.val (.ref a1), .val (.int p2), .val (.int (0 : Int32))] [(.ref a1), (.int (0 : Int32)), (.int p2), (.ref v_a1)])) rfl (by rw [hml]; rfl) (Steps.refl _) (argsL := []) (rest := [(.int (0 : Int32)), (.int p2), (.ref v_a1)]) (lenOf own_pd5 rfl) rfl (by show 2 * 0 + _ ≤ _; exact Nat.le_of_eq rfl) (hb hby own_d3_14) (fun _ _ => ⟨rfl, e2, (by decide : 0 + 0 ≤ _), (by decide : 0 + 0 ≤ _)⟩)
  dsimp only [Pt.U, Pt.locs, Pt.cells, Pt.slots] at X3 l3 y3 z3 st3 hQ3
  subst l3 y3 z3
  obtain ⟨rfl, Nq3, eq3⟩ := hQ3
  refine OE.of (fun _ k => st3.trans k) ?_
  have N3 := Fr.app N1 Nq3
  show OE _ p e below s _ _ _ T3 (mkF m 17 #[.val (.ref a1), .val (.int p2), .val (.int (0 : Int32))] [(.int nn_a1), (.int (0 : Int32)), (.int p2), (.ref v_a1)])
  obtain ⟨_, _, ⟨T4, L4, k4, n4⟩, -, X4, ⟨Lc4, hQ4, l4, y4, z4⟩, st4⟩ := Jvm.LawKit.callS X3 hx (y := (⟨"java/lang/StringLatin1", "indexOf", "([BIII)I"⟩ : MethodName)) hown (mvT hZ (hw _ (List.mem_of_getElem? (i := 42) rfl))) (mvT hZ (hw _ (List.mem_of_getElem? (i := 43) rfl))) (mvT hZ (hw _ (List.mem_of_getElem? (i := 44) rfl))) (mvT hZ (hw _ (List.mem_of_getElem? (i := 45) rfl))) (by decide) (backOf (W := 0) (own_rm7 l Z a0 hw [] v_a1 p2 nn_a1 bs_a1 k_v_a1 h0 n0 Z0 V_v_a1 hl_a1) hZ (hw _ (List.mem_of_getElem? (i := 45) rfl)) (hw _ (List.mem_of_getElem? (i := 44) rfl)) (by decide) (by decide)) (g := (mkF m 17 #[.val (.ref a1), .val (.int p2), .val (.int (0 : Int32))] [(.int nn_a1), (.int (0 : Int32)), (.int p2), (.ref v_a1)])) rfl (by rw [hml]; rfl) (argsL := [(.ref v_a1), (.int p2), (.int (0 : Int32)), (.int nn_a1)]) (rest := []) (lenOf own_pd3 rfl) rfl (by show 2 * 0 + _ ≤ _; exact Nat.le_of_eq rfl) (hb hby own_d3_17) (fun _ _ => ⟨rfl, eq3, (by decide : 0 + 0 ≤ _), (by decide : 0 + 0 ≤ _)⟩)
  dsimp only [Pt.U, Pt.locs, Pt.cells, Pt.slots] at X4 l4 y4 z4 st4 hQ4
  subst l4 y4 z4
  obtain ⟨r4_r, rfl, Nq4, eq4, h4_hr⟩ := hQ4
  refine OE.of (fun _ k => st4 _ k) ?_
  have N4 := Fr.app N3 Nq4
  show OE _ p e below s _ _ _ T4 (mkF m 20 #[.val (.ref a1), .val (.int p2), .val (.int (0 : Int32))] [(.int r4_r)])
  refine OE.goto X4 hx hby (pc' := 36) own_d3_20 (h := ?_)
  refine OE.retI X4 hx Bd.returns Bd.notSynchronized (hb hby own_d3_36) (by decide) (by decide) ?_
  rw [eq4]
  exact ⟨r4_r, rfl, N4, rfl, h4_hr⟩
theorem own_d2_0 : decode jdk_42_method_79_code 0 = .ok (.aload_n 0, 1) := by decide +kernel
theorem own_d2_1 : decode jdk_42_method_79_code 1 = .ok (.iload_n 1, 1) := by decide +kernel
theorem own_d2_2 : decode jdk_42_method_79_code 2 = .ok (.iconst 0, 1) := by decide +kernel
theorem own_d2_3 : decode jdk_42_method_79_code 3 = .ok (.invokevirtual 633, 3) := by decide +kernel
theorem own_d2_6 : decode jdk_42_method_79_code 6 = .ok (.ireturn, 1) := by decide +kernel
def own_Q2 (Z : State) (a1 : Addr) (p2 : Int32) (cs : Int32) (v_a1 : Addr) (nn_a1 : Int32) (bs_a1 : List Int32) (k_v_a1 : ClassId) (h0 : Heap) (n0 : Nat) (v : Option Value) (h : Heap) (L : List Loc) : Prop := ∃ r : Int32, v = some (.int r) ∧ Fr n0 L ∧ h = h0 ∧ ((¬ r < 0 ↔ own_enc p2 bs_a1))
theorem own_ef_own_rm2 (m : MethodId) (a1 : Addr) (p2 : Int32) : entryFrame m #[(.ref a1), (.int p2)] 2 = mkF m 0 #[.val (.ref a1), .val (.int p2)] [] := by first | (simp [entryFrame, mkF, argsToLocals, Value.category]; done) | rfl
set_option maxRecDepth 65536 in
set_option maxHeartbeats 40000000 in
theorem own_rm2 (l : Launch) (Z : State) (a0 : Array Value) (hw : ∀ d ∈ tables_1, d.before a0 Z = true) (ws : List Jvm.Cond) (a1 : Addr) (p2 : Int32) (cs : Int32) (v_a1 : Addr) (nn_a1 : Int32) (bs_a1 : List Int32) (k_v_a1 : ClassId) (h0 : Heap) (n0 : Nat) (Z0 : n0 ≤ h0.size) (S_cs : Sta Z h0 "java/lang/String" "COMPACT_STRINGS" "Z" (.int cs)) (hcs : ¬ cs = (0 : Int32)) (E_a1 : Exa Z h0 a1 "java/lang/String") (Fc_a1 : Fld Z h0 a1 "java/lang/String" "coder" "B" (.int (0 : Int32))) (Fv_a1 : Fld Z h0 a1 "java/lang/String" "value" "[B" (.ref v_a1)) (V_v_a1 : Arv Z h0 v_a1 k_v_a1 .byte nn_a1 (List.map Value.int bs_a1) (.int (0 : Int32))) (hl_a1 : nn_a1.toInt = bs_a1.length) :
    MetFree l (⟨"java/lang/String", "indexOf", "(I)I"⟩ : MethodName) (head1 (Jvm.Cond.code (⟨"java/lang/String", "indexOf", "(I)I"⟩ : MethodName) jdk_42_method_79_code 2 (some .int) :: ws) ({ frames := 3, cells := 0, slots := 0, locals := 46 } : Room)) (fun a U => a = #[(.ref a1), (.int p2)] ∧ Z.Warmed39 U.vm ∧ U.heap = h0) (fun _ _ _ _ _ => True) (fun _ U o U' => ∃ v L, o = .returned v ∧ own_Q2 Z a1 p2 cs v_a1 nn_a1 bs_a1 k_v_a1 h0 n0 v U'.heap L ∧ FrameEnd U o U' L ({ frames := 3, cells := 0, slots := 0, locals := 46 } : Room).cells ({ frames := 3, cells := 0, slots := 0, locals := 46 } : Room).slots) := by
  refine MetFree.of_bodySF (plainFor_of_name own_pn1) hisR ?_
  intro p e s m args below meth c s₁ Bd hml0 hP hK
  obtain ⟨rfl, hZ, hh⟩ := hP
  have hx := Bd.exec
  have hby := Bd.bytes
  have hml : c.maxLocals = 2 := hml0
  have hown : s.vm.findClass "java/lang/String" = some m.cls := findClass_of_methodNamed Bd.named
  have hnm := (name_of_methodNamed Bd.named Bd.method).1
  have X0 : Stand p l e ({ frames := 3, cells := 0, slots := 0, locals := 46 } : Room) s m #[(.ref a1), (.int p2)] below meth c s₁ [] 0 0 := Stand.of_body Bd
  have e0 : s₁.heap = h0 := by rw [← hh, Bd.state]; rfl
  have N0 := Fr.nil n0
  show OE FrameEnd p e below s (own_Q2 Z a1 p2 cs v_a1 nn_a1 bs_a1 k_v_a1 h0 n0) ({ frames := 3, cells := 0, slots := 0, locals := 46 } : Room).cells ({ frames := 3, cells := 0, slots := 0, locals := 46 } : Room).slots s₁ (entryFrame m #[(.ref a1), (.int p2)] 2)
  rw [own_ef_own_rm2]
  show OE _ p e below s _ _ _ s₁ (mkF m 0 #[.val (.ref a1), .val (.int p2)] [])
  refine OE.aloadN X0 hx hby own_d2_0 rfl rfl ?_
  refine OE.iloadN X0 hx hby own_d2_1 rfl ?_
  refine OE.iconst X0 hx hby own_d2_2 (0 : Int32) rfl ?_
  obtain ⟨cq1, kq1, qa1, qb1, qc1⟩ := isOf hZ e0 E_a1
  obtain ⟨_, _, ⟨T1, L1, k1, n1⟩, -, X1, ⟨Lc1, hQ1, l1, y1, z1⟩, st1⟩ := X0.virtualBack hx (y := (⟨"java/lang/String", "indexOf", "(II)I"⟩ : MethodName)) (z := (⟨"java/lang/String", "indexOf", "(II)I"⟩ : MethodName)) hown (mvT hZ (hw _ (List.mem_of_getElem? (i := 17) rfl))) (mvT hZ (hw _ (List.mem_of_getElem? (i := 18) rfl))) (notFace_of_selects (args := #[]) (mvT hZ (hw _ (List.mem_of_getElem? (i := 20) rfl)))) (mvT hZ (hw _ (List.mem_of_getElem? (i := 20) rfl))) (mvT hZ (hw _ (List.mem_of_getElem? (i := 19) rfl))) (by decide) (backOf (W := 0) (own_rm3 l Z a0 hw [] a1 p2 cs v_a1 nn_a1 bs_a1 k_v_a1 h0 n0 Z0 S_cs hcs E_a1 Fc_a1 Fv_a1 V_v_a1 hl_a1) hZ (hw _ (List.mem_of_getElem? (i := 21) rfl)) (hw _ (List.mem_of_getElem? (i := 15) rfl)) (by decide) (by decide)) qa1 qc1 (g := (mkF m 3 #[.val (.ref a1), .val (.int p2)] [(.int (0 : Int32)), (.int p2), (.ref a1)])) rfl (by rw [hml]; rfl) (Steps.refl _) (argsL := [(.int p2), (.int (0 : Int32))]) (rest := []) (lenOf own_pd2 rfl) rfl (by show 2 * 0 + _ ≤ _; exact Nat.le_of_eq rfl) (hb hby own_d2_3) (fun _ _ => ⟨rfl, e0, (by decide : 0 + 0 ≤ _), (by decide : 0 + 0 ≤ _)⟩)
  dsimp only [Pt.U, Pt.locs, Pt.cells, Pt.slots] at X1 l1 y1 z1 st1 hQ1
  subst l1 y1 z1
  obtain ⟨r1_r, rfl, Nq1, eq1, h1_hr⟩ := hQ1
  refine OE.of (fun _ k => st1.trans k) ?_
  have N1 := Fr.app N0 Nq1
  show OE _ p e below s _ _ _ T1 (mkF m 6 #[.val (.ref a1), .val (.int p2)] [(.int r1_r)])
  refine OE.retI X1 hx Bd.returns Bd.notSynchronized (hb hby own_d2_6) (by decide) (by decide) ?_
  rw [eq1]
  exact ⟨r1_r, rfl, N1, rfl, h1_hr⟩
theorem own_d1_0 : decode prog_39_method_10_code 0 = .ok (.aload_n 0, 1) := by decide +kernel
theorem own_d1_1 : decode prog_39_method_10_code 1 = .ok (.getfield 49, 3) := by decide +kernel
theorem own_d1_4 : decode prog_39_method_10_code 4 = .ok (.iload_n 1, 1) := by decide +kernel
theorem own_d1_5 : decode prog_39_method_10_code 5 = .ok (.invokevirtual 85, 3) := by decide +kernel
theorem own_pd6 : parseMethodDescriptor "(I)I" = some ⟨[.int], some .int⟩ := by decide +kernel
theorem own_d1_8 : decode prog_39_method_10_code 8 = .ok (.ifCond .ge 14, 3) := by decide +kernel
theorem own_d1_11 : decode prog_39_method_10_code 11 = .ok (.aload_n 0, 1) := by decide +kernel
theorem own_d1_12 : decode prog_39_method_10_code 12 = .ok (.getfield 52, 3) := by decide +kernel
theorem own_d1_15 : decode prog_39_method_10_code 15 = .ok (.iload_n 1, 1) := by decide +kernel
theorem own_d1_16 : decode prog_39_method_10_code 16 = .ok (.invokevirtual 85, 3) := by decide +kernel
theorem own_d1_19 : decode prog_39_method_10_code 19 = .ok (.ifCond .lt 7, 3) := by decide +kernel
theorem own_d1_26 : decode prog_39_method_10_code 26 = .ok (.iconst 0, 1) := by decide +kernel
theorem own_d1_27 : decode prog_39_method_10_code 27 = .ok (.ireturn, 1) := by decide +kernel
theorem own_d1_22 : decode prog_39_method_10_code 22 = .ok (.iconst 1, 1) := by decide +kernel
theorem own_d1_23 : decode prog_39_method_10_code 23 = .ok (.goto 4, 3) := by decide +kernel
def own_Q1 (Z : State) (a1 : Addr) (p2 : Int32) (s1 : Addr) (cs : Int32) (v_s1 : Addr) (nn_s1 : Int32) (bs_s1 : List Int32) (k_v_s1 : ClassId) (s2 : Addr) (v_s2 : Addr) (nn_s2 : Int32) (bs_s2 : List Int32) (k_v_s2 : ClassId) (h0 : Heap) (n0 : Nat) (v : Option Value) (h : Heap) (L : List Loc) : Prop := ∃ r : Int32, v = some (.int r) ∧ Fr n0 L ∧ h = h0 ∧ (((r = (1 : Int32) ∧ (own_enc p2 bs_s1 ∨ own_enc p2 bs_s2)) ∨ (r = (0 : Int32) ∧ ¬ own_enc p2 bs_s1 ∧ ¬ own_enc p2 bs_s2)))
theorem own_pn2 : plainName "com/example/placetree/placetree/places/FieldDefinition" = true := by first | (simp [plainName, overriddenIn]; done) | decide +kernel
theorem own_ef_own_rm1 (m : MethodId) (a1 : Addr) (p2 : Int32) : entryFrame m #[(.ref a1), (.int p2)] 2 = mkF m 0 #[.val (.ref a1), .val (.int p2)] [] := by first | (simp [entryFrame, mkF, argsToLocals, Value.category]; done) | rfl
set_option maxRecDepth 65536 in
set_option maxHeartbeats 40000000 in
theorem own_rm1 (l : Launch) (Z : State) (a0 : Array Value) (hw : ∀ d ∈ tables_1, d.before a0 Z = true) (ws : List Jvm.Cond) (a1 : Addr) (p2 : Int32) (s1 : Addr) (cs : Int32) (v_s1 : Addr) (nn_s1 : Int32) (bs_s1 : List Int32) (k_v_s1 : ClassId) (s2 : Addr) (v_s2 : Addr) (nn_s2 : Int32) (bs_s2 : List Int32) (k_v_s2 : ClassId) (h0 : Heap) (n0 : Nat) (Z0 : n0 ≤ h0.size) (E_a1 : Exa Z h0 a1 "com/example/placetree/placetree/places/FieldDefinition") (F_r : Fld Z h0 a1 "com/example/placetree/placetree/places/FieldDefinition" "rankedLevelCodes" "Ljava/lang/String;" (.ref s1)) (S_cs : Sta Z h0 "java/lang/String" "COMPACT_STRINGS" "Z" (.int cs)) (hcs : ¬ cs = (0 : Int32)) (E_s1 : Exa Z h0 s1 "java/lang/String") (Fc_s1 : Fld Z h0 s1 "java/lang/String" "coder" "B" (.int (0 : Int32))) (Fv_s1 : Fld Z h0 s1 "java/lang/String" "value" "[B" (.ref v_s1)) (V_v_s1 : Arv Z h0 v_s1 k_v_s1 .byte nn_s1 (List.map Value.int bs_s1) (.int (0 : Int32))) (hl_s1 : nn_s1.toInt = bs_s1.length) (F_u : Fld Z h0 a1 "com/example/placetree/placetree/places/FieldDefinition" "unrankedLevelCodes" "Ljava/lang/String;" (.ref s2)) (E_s2 : Exa Z h0 s2 "java/lang/String") (Fc_s2 : Fld Z h0 s2 "java/lang/String" "coder" "B" (.int (0 : Int32))) (Fv_s2 : Fld Z h0 s2 "java/lang/String" "value" "[B" (.ref v_s2)) (V_v_s2 : Arv Z h0 v_s2 k_v_s2 .byte nn_s2 (List.map Value.int bs_s2) (.int (0 : Int32))) (hl_s2 : nn_s2.toInt = bs_s2.length) :
    MetFree l (⟨"com/example/placetree/placetree/places/FieldDefinition", "isPlaceLevel", "(C)Z"⟩ : MethodName) (head1 (Jvm.Cond.code (⟨"com/example/placetree/placetree/places/FieldDefinition", "isPlaceLevel", "(C)Z"⟩ : MethodName) prog_39_method_10_code 2 (some .boolean) :: ws) ({ frames := 4, cells := 0, slots := 0, locals := 59 } : Room)) (fun a U => a = #[(.ref a1), (.int p2)] ∧ Z.Warmed39 U.vm ∧ U.heap = h0) (fun _ _ _ _ _ => True) (fun _ U o U' => ∃ v L, o = .returned v ∧ own_Q1 Z a1 p2 s1 cs v_s1 nn_s1 bs_s1 k_v_s1 s2 v_s2 nn_s2 bs_s2 k_v_s2 h0 n0 v U'.heap L ∧ FrameEnd U o U' L ({ frames := 4, cells := 0, slots := 0, locals := 59 } : Room).cells ({ frames := 4, cells := 0, slots := 0, locals := 59 } : Room).slots) := by
  refine MetFree.of_bodySF (plainFor_of_name own_pn2) hisR ?_
  intro p e s m args below meth c s₁ Bd hml0 hP hK
  obtain ⟨rfl, hZ, hh⟩ := hP
  have hx := Bd.exec
  have hby := Bd.bytes
  have hml : c.maxLocals = 2 := hml0
  have hown : s.vm.findClass "com/example/placetree/placetree/places/FieldDefinition" = some m.cls := findClass_of_methodNamed Bd.named
  have hnm := (name_of_methodNamed Bd.named Bd.method).1
  have X0 : Stand p l e ({ frames := 4, cells := 0, slots := 0, locals := 59 } : Room) s m #[(.ref a1), (.int p2)] below meth c s₁ [] 0 0 := Stand.of_body Bd
  have e0 : s₁.heap = h0 := by rw [← hh, Bd.state]; rfl
  have N0 := Fr.nil n0
  show OE FrameEnd p e below s (own_Q1 Z a1 p2 s1 cs v_s1 nn_s1 bs_s1 k_v_s1 s2 v_s2 nn_s2 bs_s2 k_v_s2 h0 n0) ({ frames := 4, cells := 0, slots := 0, locals := 59 } : Room).cells ({ frames := 4, cells := 0, slots := 0, locals := 59 } : Room).slots s₁ (entryFrame m #[(.ref a1), (.int p2)] 2)
  rw [own_ef_own_rm1]
  show OE _ p e below s _ _ _ s₁ (mkF m 0 #[.val (.ref a1), .val (.int p2)] [])
  refine OE.aloadN X0 hx hby own_d1_0 rfl rfl ?_
  obtain ⟨T1, X1, e1, st1⟩ := getF X0 hx hZ hown (host := "") (Or.inl (hw _ (List.mem_of_getElem? (i := 9) rfl))) Via.refl e0 F_r (g := (mkF m 1 #[.val (.ref a1), .val (.int p2)] [(.ref a1)])) rfl rfl (hb hby own_d1_1)
  refine OE.of st1 ?_
  show OE _ p e below s _ _ _ T1 (mkF m 4 #[.val (.ref a1), .val (.int p2)] [(.ref s1)])
  refine OE.iloadN X1 hx hby own_d1_4 rfl ?_
  obtain ⟨cq2, kq2, qa2, qb2, qc2⟩ := isOf hZ e1 E_s1
  obtain ⟨_, _, ⟨T2, L2, k2, n2⟩, -, X2, ⟨Lc2, hQ2, l2, y2, z2⟩, st2⟩ := X1.virtualBack hx (y := (⟨"java/lang/String", "indexOf", "(I)I"⟩ : MethodName)) (z := (⟨"java/lang/String", "indexOf", "(I)I"⟩ : MethodName)) hown (mvT hZ (hw _ (List.mem_of_getElem? (i := 11) rfl))) (mvT hZ (hw _ (List.mem_of_getElem? (i := 12) rfl))) (notFace_of_selects (args := #[]) (mvT hZ (hw _ (List.mem_of_getElem? (i := 14) rfl)))) (mvT hZ (hw _ (List.mem_of_getElem? (i := 14) rfl))) (mvT hZ (hw _ (List.mem_of_getElem? (i := 13) rfl))) (by decide) (backOf (W := 0) (own_rm2 l Z a0 hw [] s1 p2 cs v_s1 nn_s1 bs_s1 k_v_s1 h0 n0 Z0 S_cs hcs E_s1 Fc_s1 Fv_s1 V_v_s1 hl_s1) hZ (hw _ (List.mem_of_getElem? (i := 16) rfl)) (hw _ (List.mem_of_getElem? (i := 15) rfl)) (by decide) (by decide)) qa2 qc2 (g := (mkF m 5 #[.val (.ref a1), .val (.int p2)] [(.int p2), (.ref s1)])) rfl (by rw [hml]; rfl) (Steps.refl _) (argsL := [(.int p2)]) (rest := []) (lenOf own_pd6 rfl) rfl (by show 2 * 0 + _ ≤ _; exact Nat.le_of_eq rfl) (hb hby own_d1_5) (fun _ _ => ⟨rfl, e1, (by decide : 0 + 0 ≤ _), (by decide : 0 + 0 ≤ _)⟩)
  dsimp only [Pt.U, Pt.locs, Pt.cells, Pt.slots] at X2 l2 y2 z2 st2 hQ2
  subst l2 y2 z2
  obtain ⟨r2_r, rfl, Nq2, eq2, h2_hr⟩ := hQ2
  refine OE.of (fun _ k => st2.trans k) ?_
  have N2 := Fr.app N0 Nq2
  show OE _ p e below s _ _ _ T2 (mkF m 8 #[.val (.ref a1), .val (.int p2)] [(.int r2_r)])
  by_cases hc8 : r2_r < (0 : Int32)
  · skip
    refine OE.ifNo X2 hx hby own_d1_8 (tlt hc8).2.1 ?_
    refine OE.aloadN X2 hx hby own_d1_11 rfl rfl ?_
    obtain ⟨T3, X3, e3, st3⟩ := getF X2 hx hZ hown (host := "") (Or.inl (hw _ (List.mem_of_getElem? (i := 59) rfl))) Via.refl eq2 F_u (g := (mkF m 12 #[.val (.ref a1), .val (.int p2)] [(.ref a1)])) rfl rfl (hb hby own_d1_12)
    refine OE.of st3 ?_
    show OE _ p e below s _ _ _ T3 (mkF m 15 #[.val (.ref a1), .val (.int p2)] [(.ref s2)])
    refine OE.iloadN X3 hx hby own_d1_15 rfl ?_
    obtain ⟨cq4, kq4, qa4, qb4, qc4⟩ := isOf hZ e3 E_s2
    obtain ⟨_, _, ⟨T4, L4, k4, n4⟩, -, X4, ⟨Lc4, hQ4, l4, y4, z4⟩, st4⟩ := X3.virtualBack hx (y := (⟨"java/lang/String", "indexOf", "(I)I"⟩ : MethodName)) (z := (⟨"java/lang/String", "indexOf", "(I)I"⟩ : MethodName)) hown (mvT hZ (hw _ (List.mem_of_getElem? (i := 11) rfl))) (mvT hZ (hw _ (List.mem_of_getElem? (i := 12) rfl))) (notFace_of_selects (args := #[]) (mvT hZ (hw _ (List.mem_of_getElem? (i := 14) rfl)))) (mvT hZ (hw _ (List.mem_of_getElem? (i := 14) rfl))) (mvT hZ (hw _ (List.mem_of_getElem? (i := 13) rfl))) (by decide) (backOf (W := 0) (own_rm2 l Z a0 hw [] s2 p2 cs v_s2 nn_s2 bs_s2 k_v_s2 h0 n0 Z0 S_cs hcs E_s2 Fc_s2 Fv_s2 V_v_s2 hl_s2) hZ (hw _ (List.mem_of_getElem? (i := 16) rfl)) (hw _ (List.mem_of_getElem? (i := 15) rfl)) (by decide) (by decide)) qa4 qc4 (g := (mkF m 16 #[.val (.ref a1), .val (.int p2)] [(.int p2), (.ref s2)])) rfl (by rw [hml]; rfl) (Steps.refl _) (argsL := [(.int p2)]) (rest := []) (lenOf own_pd6 rfl) rfl (by show 2 * 0 + _ ≤ _; exact Nat.le_of_eq rfl) (hb hby own_d1_16) (fun _ _ => ⟨rfl, e3, (by decide : 0 + 0 ≤ _), (by decide : 0 + 0 ≤ _)⟩)
    dsimp only [Pt.U, Pt.locs, Pt.cells, Pt.slots] at X4 l4 y4 z4 st4 hQ4
    subst l4 y4 z4
    obtain ⟨r4_r, rfl, Nq4, eq4, h4_hr⟩ := hQ4
    refine OE.of (fun _ k => st4.trans k) ?_
    have N4 := Fr.app N2 Nq4
    show OE _ p e below s _ _ _ T4 (mkF m 19 #[.val (.ref a1), .val (.int p2)] [(.int r4_r)])
    by_cases hc19 : r4_r < (0 : Int32)
    · skip
      refine OE.ifYes X4 hx hby (pc' := 26) own_d1_19 (tlt hc19).1 (h := ?_)
      refine OE.iconst X4 hx hby own_d1_26 (0 : Int32) rfl ?_
      refine OE.retN X4 hx (t := .boolean) Bd.returns (by simp) Bd.notSynchronized (hb hby own_d1_27) (by decide) (by decide) ?_
      rw [eq4]
      exact ⟨(0 : Int32), rfl, N4, rfl, Or.inr ⟨rfl, fun q => h2_hr.mpr q hc8, fun q => h4_hr.mpr q hc19⟩⟩
    · skip
      refine OE.ifNo X4 hx hby own_d1_19 (flt hc19).1 ?_
      refine OE.iconst X4 hx hby own_d1_22 (1 : Int32) rfl ?_
      refine OE.goto X4 hx hby (pc' := 27) own_d1_23 (h := ?_)
      refine OE.retN X4 hx (t := .boolean) Bd.returns (by simp) Bd.notSynchronized (hb hby own_d1_27) (by decide) (by decide) ?_
      rw [eq4]
      exact ⟨(1 : Int32), rfl, N4, rfl, Or.inl ⟨rfl, Or.inr (h4_hr.mp hc19)⟩⟩
  · skip
    refine OE.ifYes X2 hx hby (pc' := 22) own_d1_8 (flt hc8).2.1 (h := ?_)
    refine OE.iconst X2 hx hby own_d1_22 (1 : Int32) rfl ?_
    refine OE.goto X2 hx hby (pc' := 27) own_d1_23 (h := ?_)
    refine OE.retN X2 hx (t := .boolean) Bd.returns (by simp) Bd.notSynchronized (hb hby own_d1_27) (by decide) (by decide) ?_
    rw [eq2]
    exact ⟨(1 : Int32), rfl, N2, rfl, Or.inl ⟨rfl, Or.inl (h2_hr.mp hc8)⟩⟩
theorem own_d12_0 : decode method_2_code 0 = .ok (.iload_n 0, 1) := by decide +kernel
theorem own_d12_1 : decode method_2_code 1 = .ok (.iconst 2, 1) := by decide +kernel
theorem own_d12_2 : decode method_2_code 2 = .ok (.if_icmp .ne 5, 3) := by decide +kernel
theorem own_d12_5 : decode method_2_code 5 = .ok (.iconst 0, 1) := by decide +kernel
theorem own_d12_6 : decode method_2_code 6 = .ok (.ireturn, 1) := by decide +kernel
theorem own_d12_7 : decode method_2_code 7 = .ok (.iload_n 0, 1) := by decide +kernel
theorem own_d12_8 : decode method_2_code 8 = .ok (.iconst 3, 1) := by decide +kernel
theorem own_d12_9 : decode method_2_code 9 = .ok (.if_icmp .ne 63, 3) := by decide +kernel
theorem own_d12_12 : decode method_2_code 12 = .ok (.iload_n 1, 1) := by decide +kernel
theorem own_d12_13 : decode method_2_code 13 = .ok (.bipush 111, 2) := by decide +kernel
theorem own_d12_15 : decode method_2_code 15 = .ok (.if_icmp .eq 51, 3) := by decide +kernel
theorem own_d12_66 : decode method_2_code 66 = .ok (.iconst 1, 1) := by decide +kernel
theorem own_d12_67 : decode method_2_code 67 = .ok (.goto 4, 3) := by decide +kernel
theorem own_d12_71 : decode method_2_code 71 = .ok (.ireturn, 1) := by decide +kernel
theorem own_d12_18 : decode method_2_code 18 = .ok (.iload_n 1, 1) := by decide +kernel
theorem own_d12_19 : decode method_2_code 19 = .ok (.bipush 97, 2) := by decide +kernel
theorem own_d12_21 : decode method_2_code 21 = .ok (.if_icmp .eq 45, 3) := by decide +kernel
theorem own_d12_24 : decode method_2_code 24 = .ok (.iload_n 1, 1) := by decide +kernel
theorem own_d12_25 : decode method_2_code 25 = .ok (.bipush 98, 2) := by decide +kernel
theorem own_d12_27 : decode method_2_code 27 = .ok (.if_icmp .eq 39, 3) := by decide +kernel
theorem own_d12_30 : decode method_2_code 30 = .ok (.iload_n 1, 1) := by decide +kernel
theorem own_d12_31 : decode method_2_code 31 = .ok (.bipush 99, 2) := by decide +kernel
theorem own_d12_33 : decode method_2_code 33 = .ok (.if_icmp .eq 33, 3) := by decide +kernel
theorem own_d12_36 : decode method_2_code 36 = .ok (.iload_n 1, 1) := by decide +kernel
theorem own_d12_37 : decode method_2_code 37 = .ok (.bipush 100, 2) := by decide +kernel
theorem own_d12_39 : decode method_2_code 39 = .ok (.if_icmp .eq 27, 3) := by decide +kernel
theorem own_d12_42 : decode method_2_code 42 = .ok (.iload_n 1, 1) := by decide +kernel
theorem own_d12_43 : decode method_2_code 43 = .ok (.bipush 107, 2) := by decide +kernel
theorem own_d12_45 : decode method_2_code 45 = .ok (.if_icmp .eq 21, 3) := by decide +kernel
theorem own_d12_48 : decode method_2_code 48 = .ok (.iload_n 1, 1) := by decide +kernel
theorem own_d12_49 : decode method_2_code 49 = .ok (.bipush 101, 2) := by decide +kernel
theorem own_d12_51 : decode method_2_code 51 = .ok (.if_icmp .eq 15, 3) := by decide +kernel
theorem own_d12_54 : decode method_2_code 54 = .ok (.iload_n 1, 1) := by decide +kernel
theorem own_d12_55 : decode method_2_code 55 = .ok (.bipush 109, 2) := by decide +kernel
theorem own_d12_57 : decode method_2_code 57 = .ok (.if_icmp .eq 9, 3) := by decide +kernel
theorem own_d12_60 : decode method_2_code 60 = .ok (.iload_n 1, 1) := by decide +kernel
theorem own_d12_61 : decode method_2_code 61 = .ok (.bipush 110, 2) := by decide +kernel
theorem own_d12_63 : decode method_2_code 63 = .ok (.if_icmp .ne 7, 3) := by decide +kernel
theorem own_d12_70 : decode method_2_code 70 = .ok (.iconst 0, 1) := by decide +kernel
theorem own_d12_72 : decode method_2_code 72 = .ok (.iload_n 1, 1) := by decide +kernel
theorem own_d12_73 : decode method_2_code 73 = .ok (.bipush 97, 2) := by decide +kernel
theorem own_d12_75 : decode method_2_code 75 = .ok (.if_icmp .eq 39, 3) := by decide +kernel
theorem own_d12_114 : decode method_2_code 114 = .ok (.iconst 1, 1) := by decide +kernel
theorem own_d12_115 : decode method_2_code 115 = .ok (.goto 4, 3) := by decide +kernel
theorem own_d12_119 : decode method_2_code 119 = .ok (.ireturn, 1) := by decide +kernel
theorem own_d12_78 : decode method_2_code 78 = .ok (.iload_n 1, 1) := by decide +kernel
theorem own_d12_79 : decode method_2_code 79 = .ok (.bipush 98, 2) := by decide +kernel
theorem own_d12_81 : decode method_2_code 81 = .ok (.if_icmp .eq 33, 3) := by decide +kernel
theorem own_d12_84 : decode method_2_code 84 = .ok (.iload_n 1, 1) := by decide +kernel
theorem own_d12_85 : decode method_2_code 85 = .ok (.bipush 99, 2) := by decide +kernel
theorem own_d12_87 : decode method_2_code 87 = .ok (.if_icmp .eq 27, 3) := by decide +kernel
theorem own_d12_90 : decode method_2_code 90 = .ok (.iload_n 1, 1) := by decide +kernel
theorem own_d12_91 : decode method_2_code 91 = .ok (.bipush 100, 2) := by decide +kernel
theorem own_d12_93 : decode method_2_code 93 = .ok (.if_icmp .eq 21, 3) := by decide +kernel
theorem own_d12_96 : decode method_2_code 96 = .ok (.iload_n 1, 1) := by decide +kernel
theorem own_d12_97 : decode method_2_code 97 = .ok (.bipush 102, 2) := by decide +kernel
theorem own_d12_99 : decode method_2_code 99 = .ok (.if_icmp .eq 15, 3) := by decide +kernel
theorem own_d12_102 : decode method_2_code 102 = .ok (.iload_n 1, 1) := by decide +kernel
theorem own_d12_103 : decode method_2_code 103 = .ok (.bipush 103, 2) := by decide +kernel
theorem own_d12_105 : decode method_2_code 105 = .ok (.if_icmp .eq 9, 3) := by decide +kernel
theorem own_d12_108 : decode method_2_code 108 = .ok (.iload_n 1, 1) := by decide +kernel
theorem own_d12_109 : decode method_2_code 109 = .ok (.bipush 104, 2) := by decide +kernel
theorem own_d12_111 : decode method_2_code 111 = .ok (.if_icmp .ne 7, 3) := by decide +kernel
theorem own_d12_118 : decode method_2_code 118 = .ok (.iconst 0, 1) := by decide +kernel
def own_exp (p1 : Int32) (p2 : Int32) : Int32 := (if p1 = (2 : Int32) then (0 : Int32) else (if p1 = (3 : Int32) then (if p2 = (111 : Int32) then (1 : Int32) else (if p2 = (97 : Int32) then (1 : Int32) else (if p2 = (98 : Int32) then (1 : Int32) else (if p2 = (99 : Int32) then (1 : Int32) else (if p2 = (100 : Int32) then (1 : Int32) else (if p2 = (107 : Int32) then (1 : Int32) else (if p2 = (101 : Int32) then (1 : Int32) else (if p2 = (109 : Int32) then (1 : Int32) else (if p2 = (110 : Int32) then (1 : Int32) else (0 : Int32)))))))))) else (if p2 = (97 : Int32) then (1 : Int32) else (if p2 = (98 : Int32) then (1 : Int32) else (if p2 = (99 : Int32) then (1 : Int32) else (if p2 = (100 : Int32) then (1 : Int32) else (if p2 = (102 : Int32) then (1 : Int32) else (if p2 = (103 : Int32) then (1 : Int32) else (if p2 = (104 : Int32) then (1 : Int32) else (0 : Int32))))))))))
def own_Q12 (Z : State) (p1 : Int32) (p2 : Int32) (h0 : Heap) (n0 : Nat) (v : Option Value) (h : Heap) (L : List Loc) : Prop := v = some (.int (own_exp p1 p2)) ∧ Fr n0 L ∧ h = h0
theorem own_pn3 : plainName "com/example/placetree/placetree/places/FieldDefinitionIsPlaceLevelPinLaw" = true := by first | (simp [plainName, overriddenIn]; done) | decide +kernel
theorem own_ef_own_rm12 (m : MethodId) (p1 : Int32) (p2 : Int32) : entryFrame m #[(.int p1), (.int p2)] 2 = mkF m 0 #[.val (.int p1), .val (.int p2)] [] := by first | (simp [entryFrame, mkF, argsToLocals, Value.category]; done) | rfl
set_option maxRecDepth 65536 in
set_option maxHeartbeats 40000000 in
theorem own_rm12 (l : Launch) (Z : State) (a0 : Array Value) (hw : ∀ d ∈ tables_1, d.before a0 Z = true) (ws : List Jvm.Cond) (p1 : Int32) (p2 : Int32) (h0 : Heap) (n0 : Nat) (Z0 : n0 ≤ h0.size) :
    MetFree l (⟨"com/example/placetree/placetree/places/FieldDefinitionIsPlaceLevelPinLaw", "expected", "(IC)Z"⟩ : MethodName) (head1 (Jvm.Cond.code (⟨"com/example/placetree/placetree/places/FieldDefinitionIsPlaceLevelPinLaw", "expected", "(IC)Z"⟩ : MethodName) method_2_code 2 (some .boolean) :: ws) ({ frames := 0, cells := 0, slots := 0, locals := 0 } : Room)) (fun a U => a = #[(.int p1), (.int p2)] ∧ Z.Warmed39 U.vm ∧ U.heap = h0) (fun _ _ _ _ _ => True) (fun _ U o U' => ∃ v L, o = .returned v ∧ own_Q12 Z p1 p2 h0 n0 v U'.heap L ∧ FrameEnd U o U' L ({ frames := 0, cells := 0, slots := 0, locals := 0 } : Room).cells ({ frames := 0, cells := 0, slots := 0, locals := 0 } : Room).slots) := by
  refine MetFree.of_bodySF (plainFor_of_name own_pn3) hisR ?_
  intro p e s m args below meth c s₁ Bd hml0 hP hK
  obtain ⟨rfl, hZ, hh⟩ := hP
  have hx := Bd.exec
  have hby := Bd.bytes
  have hml : c.maxLocals = 2 := hml0
  have hown : s.vm.findClass "com/example/placetree/placetree/places/FieldDefinitionIsPlaceLevelPinLaw" = some m.cls := findClass_of_methodNamed Bd.named
  have hnm := (name_of_methodNamed Bd.named Bd.method).1
  have X0 : Stand p l e ({ frames := 0, cells := 0, slots := 0, locals := 0 } : Room) s m #[(.int p1), (.int p2)] below meth c s₁ [] 0 0 := Stand.of_body Bd
  have e0 : s₁.heap = h0 := by rw [← hh, Bd.state]; rfl
  have N0 := Fr.nil n0
  show OE FrameEnd p e below s (own_Q12 Z p1 p2 h0 n0) ({ frames := 0, cells := 0, slots := 0, locals := 0 } : Room).cells ({ frames := 0, cells := 0, slots := 0, locals := 0 } : Room).slots s₁ (entryFrame m #[(.int p1), (.int p2)] 2)
  rw [own_ef_own_rm12]
  show OE _ p e below s _ _ _ s₁ (mkF m 0 #[.val (.int p1), .val (.int p2)] [])
  refine OE.iloadN X0 hx hby own_d12_0 rfl ?_
  refine OE.iconst X0 hx hby own_d12_1 (2 : Int32) rfl ?_
  by_cases hc2 : p1 = (2 : Int32)
  · skip
    refine OE.icmpNo X0 hx hby own_d12_2 (teq hc2).2 ?_
    refine OE.iconst X0 hx hby own_d12_5 (0 : Int32) rfl ?_
    refine OE.retN X0 hx (t := .boolean) Bd.returns (by simp) Bd.notSynchronized (hb hby own_d12_6) (by decide) (by decide) ?_
    rw [e0]
    exact ⟨(congrArg (fun z => some (Value.int z)) (show (0 : Int32) = (if p1 = (2 : Int32) then (0 : Int32) else (if p1 = (3 : Int32) then (if p2 = (111 : Int32) then (1 : Int32) else (if p2 = (97 : Int32) then (1 : Int32) else (if p2 = (98 : Int32) then (1 : Int32) else (if p2 = (99 : Int32) then (1 : Int32) else (if p2 = (100 : Int32) then (1 : Int32) else (if p2 = (107 : Int32) then (1 : Int32) else (if p2 = (101 : Int32) then (1 : Int32) else (if p2 = (109 : Int32) then (1 : Int32) else (if p2 = (110 : Int32) then (1 : Int32) else (0 : Int32)))))))))) else (if p2 = (97 : Int32) then (1 : Int32) else (if p2 = (98 : Int32) then (1 : Int32) else (if p2 = (99 : Int32) then (1 : Int32) else (if p2 = (100 : Int32) then (1 : Int32) else (if p2 = (102 : Int32) then (1 : Int32) else (if p2 = (103 : Int32) then (1 : Int32) else (if p2 = (104 : Int32) then (1 : Int32) else (0 : Int32)))))))))) from by rw [if_pos hc2])), N0, rfl⟩
  · skip
    refine OE.icmpYes X0 hx hby (pc' := 7) own_d12_2 (feq hc2).2 (h := ?_)
    refine OE.iloadN X0 hx hby own_d12_7 rfl ?_
    refine OE.iconst X0 hx hby own_d12_8 (3 : Int32) rfl ?_
    by_cases hc9 : p1 = (3 : Int32)
    · skip
      refine OE.icmpNo X0 hx hby own_d12_9 (teq hc9).2 ?_
      refine OE.iloadN X0 hx hby own_d12_12 rfl ?_
      refine OE.bipush X0 hx hby own_d12_13 (111 : Int32) rfl ?_
      by_cases hc15 : p2 = (111 : Int32)
      · skip
        refine OE.icmpYes X0 hx hby (pc' := 66) own_d12_15 (teq hc15).1 (h := ?_)
        refine OE.iconst X0 hx hby own_d12_66 (1 : Int32) rfl ?_
        refine OE.goto X0 hx hby (pc' := 71) own_d12_67 (h := ?_)
        refine OE.retN X0 hx (t := .boolean) Bd.returns (by simp) Bd.notSynchronized (hb hby own_d12_71) (by decide) (by decide) ?_
        rw [e0]
        exact ⟨(congrArg (fun z => some (Value.int z)) (show (1 : Int32) = (if p1 = (2 : Int32) then (0 : Int32) else (if p1 = (3 : Int32) then (if p2 = (111 : Int32) then (1 : Int32) else (if p2 = (97 : Int32) then (1 : Int32) else (if p2 = (98 : Int32) then (1 : Int32) else (if p2 = (99 : Int32) then (1 : Int32) else (if p2 = (100 : Int32) then (1 : Int32) else (if p2 = (107 : Int32) then (1 : Int32) else (if p2 = (101 : Int32) then (1 : Int32) else (if p2 = (109 : Int32) then (1 : Int32) else (if p2 = (110 : Int32) then (1 : Int32) else (0 : Int32)))))))))) else (if p2 = (97 : Int32) then (1 : Int32) else (if p2 = (98 : Int32) then (1 : Int32) else (if p2 = (99 : Int32) then (1 : Int32) else (if p2 = (100 : Int32) then (1 : Int32) else (if p2 = (102 : Int32) then (1 : Int32) else (if p2 = (103 : Int32) then (1 : Int32) else (if p2 = (104 : Int32) then (1 : Int32) else (0 : Int32)))))))))) from by rw [if_neg hc2, if_pos hc9, if_pos hc15])), N0, rfl⟩
      · skip
        refine OE.icmpNo X0 hx hby own_d12_15 (feq hc15).1 ?_
        refine OE.iloadN X0 hx hby own_d12_18 rfl ?_
        refine OE.bipush X0 hx hby own_d12_19 (97 : Int32) rfl ?_
        by_cases hc21 : p2 = (97 : Int32)
        · skip
          refine OE.icmpYes X0 hx hby (pc' := 66) own_d12_21 (teq hc21).1 (h := ?_)
          refine OE.iconst X0 hx hby own_d12_66 (1 : Int32) rfl ?_
          refine OE.goto X0 hx hby (pc' := 71) own_d12_67 (h := ?_)
          refine OE.retN X0 hx (t := .boolean) Bd.returns (by simp) Bd.notSynchronized (hb hby own_d12_71) (by decide) (by decide) ?_
          rw [e0]
          exact ⟨(congrArg (fun z => some (Value.int z)) (show (1 : Int32) = (if p1 = (2 : Int32) then (0 : Int32) else (if p1 = (3 : Int32) then (if p2 = (111 : Int32) then (1 : Int32) else (if p2 = (97 : Int32) then (1 : Int32) else (if p2 = (98 : Int32) then (1 : Int32) else (if p2 = (99 : Int32) then (1 : Int32) else (if p2 = (100 : Int32) then (1 : Int32) else (if p2 = (107 : Int32) then (1 : Int32) else (if p2 = (101 : Int32) then (1 : Int32) else (if p2 = (109 : Int32) then (1 : Int32) else (if p2 = (110 : Int32) then (1 : Int32) else (0 : Int32)))))))))) else (if p2 = (97 : Int32) then (1 : Int32) else (if p2 = (98 : Int32) then (1 : Int32) else (if p2 = (99 : Int32) then (1 : Int32) else (if p2 = (100 : Int32) then (1 : Int32) else (if p2 = (102 : Int32) then (1 : Int32) else (if p2 = (103 : Int32) then (1 : Int32) else (if p2 = (104 : Int32) then (1 : Int32) else (0 : Int32)))))))))) from by rw [if_neg hc2, if_pos hc9, if_neg hc15, if_pos hc21])), N0, rfl⟩
        · skip
          refine OE.icmpNo X0 hx hby own_d12_21 (feq hc21).1 ?_
          refine OE.iloadN X0 hx hby own_d12_24 rfl ?_
          refine OE.bipush X0 hx hby own_d12_25 (98 : Int32) rfl ?_
          by_cases hc27 : p2 = (98 : Int32)
          · skip
            refine OE.icmpYes X0 hx hby (pc' := 66) own_d12_27 (teq hc27).1 (h := ?_)
            refine OE.iconst X0 hx hby own_d12_66 (1 : Int32) rfl ?_
            refine OE.goto X0 hx hby (pc' := 71) own_d12_67 (h := ?_)
            refine OE.retN X0 hx (t := .boolean) Bd.returns (by simp) Bd.notSynchronized (hb hby own_d12_71) (by decide) (by decide) ?_
            rw [e0]
            exact ⟨(congrArg (fun z => some (Value.int z)) (show (1 : Int32) = (if p1 = (2 : Int32) then (0 : Int32) else (if p1 = (3 : Int32) then (if p2 = (111 : Int32) then (1 : Int32) else (if p2 = (97 : Int32) then (1 : Int32) else (if p2 = (98 : Int32) then (1 : Int32) else (if p2 = (99 : Int32) then (1 : Int32) else (if p2 = (100 : Int32) then (1 : Int32) else (if p2 = (107 : Int32) then (1 : Int32) else (if p2 = (101 : Int32) then (1 : Int32) else (if p2 = (109 : Int32) then (1 : Int32) else (if p2 = (110 : Int32) then (1 : Int32) else (0 : Int32)))))))))) else (if p2 = (97 : Int32) then (1 : Int32) else (if p2 = (98 : Int32) then (1 : Int32) else (if p2 = (99 : Int32) then (1 : Int32) else (if p2 = (100 : Int32) then (1 : Int32) else (if p2 = (102 : Int32) then (1 : Int32) else (if p2 = (103 : Int32) then (1 : Int32) else (if p2 = (104 : Int32) then (1 : Int32) else (0 : Int32)))))))))) from by rw [if_neg hc2, if_pos hc9, if_neg hc15, if_neg hc21, if_pos hc27])), N0, rfl⟩
          · skip
            refine OE.icmpNo X0 hx hby own_d12_27 (feq hc27).1 ?_
            refine OE.iloadN X0 hx hby own_d12_30 rfl ?_
            refine OE.bipush X0 hx hby own_d12_31 (99 : Int32) rfl ?_
            by_cases hc33 : p2 = (99 : Int32)
            · skip
              refine OE.icmpYes X0 hx hby (pc' := 66) own_d12_33 (teq hc33).1 (h := ?_)
              refine OE.iconst X0 hx hby own_d12_66 (1 : Int32) rfl ?_
              refine OE.goto X0 hx hby (pc' := 71) own_d12_67 (h := ?_)
              refine OE.retN X0 hx (t := .boolean) Bd.returns (by simp) Bd.notSynchronized (hb hby own_d12_71) (by decide) (by decide) ?_
              rw [e0]
              exact ⟨(congrArg (fun z => some (Value.int z)) (show (1 : Int32) = (if p1 = (2 : Int32) then (0 : Int32) else (if p1 = (3 : Int32) then (if p2 = (111 : Int32) then (1 : Int32) else (if p2 = (97 : Int32) then (1 : Int32) else (if p2 = (98 : Int32) then (1 : Int32) else (if p2 = (99 : Int32) then (1 : Int32) else (if p2 = (100 : Int32) then (1 : Int32) else (if p2 = (107 : Int32) then (1 : Int32) else (if p2 = (101 : Int32) then (1 : Int32) else (if p2 = (109 : Int32) then (1 : Int32) else (if p2 = (110 : Int32) then (1 : Int32) else (0 : Int32)))))))))) else (if p2 = (97 : Int32) then (1 : Int32) else (if p2 = (98 : Int32) then (1 : Int32) else (if p2 = (99 : Int32) then (1 : Int32) else (if p2 = (100 : Int32) then (1 : Int32) else (if p2 = (102 : Int32) then (1 : Int32) else (if p2 = (103 : Int32) then (1 : Int32) else (if p2 = (104 : Int32) then (1 : Int32) else (0 : Int32)))))))))) from by rw [if_neg hc2, if_pos hc9, if_neg hc15, if_neg hc21, if_neg hc27, if_pos hc33])), N0, rfl⟩
            · skip
              refine OE.icmpNo X0 hx hby own_d12_33 (feq hc33).1 ?_
              refine OE.iloadN X0 hx hby own_d12_36 rfl ?_
              refine OE.bipush X0 hx hby own_d12_37 (100 : Int32) rfl ?_
              by_cases hc39 : p2 = (100 : Int32)
              · skip
                refine OE.icmpYes X0 hx hby (pc' := 66) own_d12_39 (teq hc39).1 (h := ?_)
                refine OE.iconst X0 hx hby own_d12_66 (1 : Int32) rfl ?_
                refine OE.goto X0 hx hby (pc' := 71) own_d12_67 (h := ?_)
                refine OE.retN X0 hx (t := .boolean) Bd.returns (by simp) Bd.notSynchronized (hb hby own_d12_71) (by decide) (by decide) ?_
                rw [e0]
                exact ⟨(congrArg (fun z => some (Value.int z)) (show (1 : Int32) = (if p1 = (2 : Int32) then (0 : Int32) else (if p1 = (3 : Int32) then (if p2 = (111 : Int32) then (1 : Int32) else (if p2 = (97 : Int32) then (1 : Int32) else (if p2 = (98 : Int32) then (1 : Int32) else (if p2 = (99 : Int32) then (1 : Int32) else (if p2 = (100 : Int32) then (1 : Int32) else (if p2 = (107 : Int32) then (1 : Int32) else (if p2 = (101 : Int32) then (1 : Int32) else (if p2 = (109 : Int32) then (1 : Int32) else (if p2 = (110 : Int32) then (1 : Int32) else (0 : Int32)))))))))) else (if p2 = (97 : Int32) then (1 : Int32) else (if p2 = (98 : Int32) then (1 : Int32) else (if p2 = (99 : Int32) then (1 : Int32) else (if p2 = (100 : Int32) then (1 : Int32) else (if p2 = (102 : Int32) then (1 : Int32) else (if p2 = (103 : Int32) then (1 : Int32) else (if p2 = (104 : Int32) then (1 : Int32) else (0 : Int32)))))))))) from by rw [if_neg hc2, if_pos hc9, if_neg hc15, if_neg hc21, if_neg hc27, if_neg hc33, if_pos hc39])), N0, rfl⟩
              · skip
                refine OE.icmpNo X0 hx hby own_d12_39 (feq hc39).1 ?_
                refine OE.iloadN X0 hx hby own_d12_42 rfl ?_
                refine OE.bipush X0 hx hby own_d12_43 (107 : Int32) rfl ?_
                by_cases hc45 : p2 = (107 : Int32)
                · skip
                  refine OE.icmpYes X0 hx hby (pc' := 66) own_d12_45 (teq hc45).1 (h := ?_)
                  refine OE.iconst X0 hx hby own_d12_66 (1 : Int32) rfl ?_
                  refine OE.goto X0 hx hby (pc' := 71) own_d12_67 (h := ?_)
                  refine OE.retN X0 hx (t := .boolean) Bd.returns (by simp) Bd.notSynchronized (hb hby own_d12_71) (by decide) (by decide) ?_
                  rw [e0]
                  exact ⟨(congrArg (fun z => some (Value.int z)) (show (1 : Int32) = (if p1 = (2 : Int32) then (0 : Int32) else (if p1 = (3 : Int32) then (if p2 = (111 : Int32) then (1 : Int32) else (if p2 = (97 : Int32) then (1 : Int32) else (if p2 = (98 : Int32) then (1 : Int32) else (if p2 = (99 : Int32) then (1 : Int32) else (if p2 = (100 : Int32) then (1 : Int32) else (if p2 = (107 : Int32) then (1 : Int32) else (if p2 = (101 : Int32) then (1 : Int32) else (if p2 = (109 : Int32) then (1 : Int32) else (if p2 = (110 : Int32) then (1 : Int32) else (0 : Int32)))))))))) else (if p2 = (97 : Int32) then (1 : Int32) else (if p2 = (98 : Int32) then (1 : Int32) else (if p2 = (99 : Int32) then (1 : Int32) else (if p2 = (100 : Int32) then (1 : Int32) else (if p2 = (102 : Int32) then (1 : Int32) else (if p2 = (103 : Int32) then (1 : Int32) else (if p2 = (104 : Int32) then (1 : Int32) else (0 : Int32)))))))))) from by rw [if_neg hc2, if_pos hc9, if_neg hc15, if_neg hc21, if_neg hc27, if_neg hc33, if_neg hc39, if_pos hc45])), N0, rfl⟩
                · skip
                  refine OE.icmpNo X0 hx hby own_d12_45 (feq hc45).1 ?_
                  refine OE.iloadN X0 hx hby own_d12_48 rfl ?_
                  refine OE.bipush X0 hx hby own_d12_49 (101 : Int32) rfl ?_
                  by_cases hc51 : p2 = (101 : Int32)
                  · skip
                    refine OE.icmpYes X0 hx hby (pc' := 66) own_d12_51 (teq hc51).1 (h := ?_)
                    refine OE.iconst X0 hx hby own_d12_66 (1 : Int32) rfl ?_
                    refine OE.goto X0 hx hby (pc' := 71) own_d12_67 (h := ?_)
                    refine OE.retN X0 hx (t := .boolean) Bd.returns (by simp) Bd.notSynchronized (hb hby own_d12_71) (by decide) (by decide) ?_
                    rw [e0]
                    exact ⟨(congrArg (fun z => some (Value.int z)) (show (1 : Int32) = (if p1 = (2 : Int32) then (0 : Int32) else (if p1 = (3 : Int32) then (if p2 = (111 : Int32) then (1 : Int32) else (if p2 = (97 : Int32) then (1 : Int32) else (if p2 = (98 : Int32) then (1 : Int32) else (if p2 = (99 : Int32) then (1 : Int32) else (if p2 = (100 : Int32) then (1 : Int32) else (if p2 = (107 : Int32) then (1 : Int32) else (if p2 = (101 : Int32) then (1 : Int32) else (if p2 = (109 : Int32) then (1 : Int32) else (if p2 = (110 : Int32) then (1 : Int32) else (0 : Int32)))))))))) else (if p2 = (97 : Int32) then (1 : Int32) else (if p2 = (98 : Int32) then (1 : Int32) else (if p2 = (99 : Int32) then (1 : Int32) else (if p2 = (100 : Int32) then (1 : Int32) else (if p2 = (102 : Int32) then (1 : Int32) else (if p2 = (103 : Int32) then (1 : Int32) else (if p2 = (104 : Int32) then (1 : Int32) else (0 : Int32)))))))))) from by rw [if_neg hc2, if_pos hc9, if_neg hc15, if_neg hc21, if_neg hc27, if_neg hc33, if_neg hc39, if_neg hc45, if_pos hc51])), N0, rfl⟩
                  · skip
                    refine OE.icmpNo X0 hx hby own_d12_51 (feq hc51).1 ?_
                    refine OE.iloadN X0 hx hby own_d12_54 rfl ?_
                    refine OE.bipush X0 hx hby own_d12_55 (109 : Int32) rfl ?_
                    by_cases hc57 : p2 = (109 : Int32)
                    · skip
                      refine OE.icmpYes X0 hx hby (pc' := 66) own_d12_57 (teq hc57).1 (h := ?_)
                      refine OE.iconst X0 hx hby own_d12_66 (1 : Int32) rfl ?_
                      refine OE.goto X0 hx hby (pc' := 71) own_d12_67 (h := ?_)
                      refine OE.retN X0 hx (t := .boolean) Bd.returns (by simp) Bd.notSynchronized (hb hby own_d12_71) (by decide) (by decide) ?_
                      rw [e0]
                      exact ⟨(congrArg (fun z => some (Value.int z)) (show (1 : Int32) = (if p1 = (2 : Int32) then (0 : Int32) else (if p1 = (3 : Int32) then (if p2 = (111 : Int32) then (1 : Int32) else (if p2 = (97 : Int32) then (1 : Int32) else (if p2 = (98 : Int32) then (1 : Int32) else (if p2 = (99 : Int32) then (1 : Int32) else (if p2 = (100 : Int32) then (1 : Int32) else (if p2 = (107 : Int32) then (1 : Int32) else (if p2 = (101 : Int32) then (1 : Int32) else (if p2 = (109 : Int32) then (1 : Int32) else (if p2 = (110 : Int32) then (1 : Int32) else (0 : Int32)))))))))) else (if p2 = (97 : Int32) then (1 : Int32) else (if p2 = (98 : Int32) then (1 : Int32) else (if p2 = (99 : Int32) then (1 : Int32) else (if p2 = (100 : Int32) then (1 : Int32) else (if p2 = (102 : Int32) then (1 : Int32) else (if p2 = (103 : Int32) then (1 : Int32) else (if p2 = (104 : Int32) then (1 : Int32) else (0 : Int32)))))))))) from by rw [if_neg hc2, if_pos hc9, if_neg hc15, if_neg hc21, if_neg hc27, if_neg hc33, if_neg hc39, if_neg hc45, if_neg hc51, if_pos hc57])), N0, rfl⟩
                    · skip
                      refine OE.icmpNo X0 hx hby own_d12_57 (feq hc57).1 ?_
                      refine OE.iloadN X0 hx hby own_d12_60 rfl ?_
                      refine OE.bipush X0 hx hby own_d12_61 (110 : Int32) rfl ?_
                      by_cases hc63 : p2 = (110 : Int32)
                      · skip
                        refine OE.icmpNo X0 hx hby own_d12_63 (teq hc63).2 ?_
                        refine OE.iconst X0 hx hby own_d12_66 (1 : Int32) rfl ?_
                        refine OE.goto X0 hx hby (pc' := 71) own_d12_67 (h := ?_)
                        refine OE.retN X0 hx (t := .boolean) Bd.returns (by simp) Bd.notSynchronized (hb hby own_d12_71) (by decide) (by decide) ?_
                        rw [e0]
                        exact ⟨(congrArg (fun z => some (Value.int z)) (show (1 : Int32) = (if p1 = (2 : Int32) then (0 : Int32) else (if p1 = (3 : Int32) then (if p2 = (111 : Int32) then (1 : Int32) else (if p2 = (97 : Int32) then (1 : Int32) else (if p2 = (98 : Int32) then (1 : Int32) else (if p2 = (99 : Int32) then (1 : Int32) else (if p2 = (100 : Int32) then (1 : Int32) else (if p2 = (107 : Int32) then (1 : Int32) else (if p2 = (101 : Int32) then (1 : Int32) else (if p2 = (109 : Int32) then (1 : Int32) else (if p2 = (110 : Int32) then (1 : Int32) else (0 : Int32)))))))))) else (if p2 = (97 : Int32) then (1 : Int32) else (if p2 = (98 : Int32) then (1 : Int32) else (if p2 = (99 : Int32) then (1 : Int32) else (if p2 = (100 : Int32) then (1 : Int32) else (if p2 = (102 : Int32) then (1 : Int32) else (if p2 = (103 : Int32) then (1 : Int32) else (if p2 = (104 : Int32) then (1 : Int32) else (0 : Int32)))))))))) from by rw [if_neg hc2, if_pos hc9, if_neg hc15, if_neg hc21, if_neg hc27, if_neg hc33, if_neg hc39, if_neg hc45, if_neg hc51, if_neg hc57, if_pos hc63])), N0, rfl⟩
                      · skip
                        refine OE.icmpYes X0 hx hby (pc' := 70) own_d12_63 (feq hc63).2 (h := ?_)
                        refine OE.iconst X0 hx hby own_d12_70 (0 : Int32) rfl ?_
                        refine OE.retN X0 hx (t := .boolean) Bd.returns (by simp) Bd.notSynchronized (hb hby own_d12_71) (by decide) (by decide) ?_
                        rw [e0]
                        exact ⟨(congrArg (fun z => some (Value.int z)) (show (0 : Int32) = (if p1 = (2 : Int32) then (0 : Int32) else (if p1 = (3 : Int32) then (if p2 = (111 : Int32) then (1 : Int32) else (if p2 = (97 : Int32) then (1 : Int32) else (if p2 = (98 : Int32) then (1 : Int32) else (if p2 = (99 : Int32) then (1 : Int32) else (if p2 = (100 : Int32) then (1 : Int32) else (if p2 = (107 : Int32) then (1 : Int32) else (if p2 = (101 : Int32) then (1 : Int32) else (if p2 = (109 : Int32) then (1 : Int32) else (if p2 = (110 : Int32) then (1 : Int32) else (0 : Int32)))))))))) else (if p2 = (97 : Int32) then (1 : Int32) else (if p2 = (98 : Int32) then (1 : Int32) else (if p2 = (99 : Int32) then (1 : Int32) else (if p2 = (100 : Int32) then (1 : Int32) else (if p2 = (102 : Int32) then (1 : Int32) else (if p2 = (103 : Int32) then (1 : Int32) else (if p2 = (104 : Int32) then (1 : Int32) else (0 : Int32)))))))))) from by rw [if_neg hc2, if_pos hc9, if_neg hc15, if_neg hc21, if_neg hc27, if_neg hc33, if_neg hc39, if_neg hc45, if_neg hc51, if_neg hc57, if_neg hc63])), N0, rfl⟩
    · skip
      refine OE.icmpYes X0 hx hby (pc' := 72) own_d12_9 (feq hc9).2 (h := ?_)
      refine OE.iloadN X0 hx hby own_d12_72 rfl ?_
      refine OE.bipush X0 hx hby own_d12_73 (97 : Int32) rfl ?_
      by_cases hc75 : p2 = (97 : Int32)
      · skip
        refine OE.icmpYes X0 hx hby (pc' := 114) own_d12_75 (teq hc75).1 (h := ?_)
        refine OE.iconst X0 hx hby own_d12_114 (1 : Int32) rfl ?_
        refine OE.goto X0 hx hby (pc' := 119) own_d12_115 (h := ?_)
        refine OE.retN X0 hx (t := .boolean) Bd.returns (by simp) Bd.notSynchronized (hb hby own_d12_119) (by decide) (by decide) ?_
        rw [e0]
        exact ⟨(congrArg (fun z => some (Value.int z)) (show (1 : Int32) = (if p1 = (2 : Int32) then (0 : Int32) else (if p1 = (3 : Int32) then (if p2 = (111 : Int32) then (1 : Int32) else (if p2 = (97 : Int32) then (1 : Int32) else (if p2 = (98 : Int32) then (1 : Int32) else (if p2 = (99 : Int32) then (1 : Int32) else (if p2 = (100 : Int32) then (1 : Int32) else (if p2 = (107 : Int32) then (1 : Int32) else (if p2 = (101 : Int32) then (1 : Int32) else (if p2 = (109 : Int32) then (1 : Int32) else (if p2 = (110 : Int32) then (1 : Int32) else (0 : Int32)))))))))) else (if p2 = (97 : Int32) then (1 : Int32) else (if p2 = (98 : Int32) then (1 : Int32) else (if p2 = (99 : Int32) then (1 : Int32) else (if p2 = (100 : Int32) then (1 : Int32) else (if p2 = (102 : Int32) then (1 : Int32) else (if p2 = (103 : Int32) then (1 : Int32) else (if p2 = (104 : Int32) then (1 : Int32) else (0 : Int32)))))))))) from by rw [if_neg hc2, if_neg hc9, if_pos hc75])), N0, rfl⟩
      · skip
        refine OE.icmpNo X0 hx hby own_d12_75 (feq hc75).1 ?_
        refine OE.iloadN X0 hx hby own_d12_78 rfl ?_
        refine OE.bipush X0 hx hby own_d12_79 (98 : Int32) rfl ?_
        by_cases hc81 : p2 = (98 : Int32)
        · skip
          refine OE.icmpYes X0 hx hby (pc' := 114) own_d12_81 (teq hc81).1 (h := ?_)
          refine OE.iconst X0 hx hby own_d12_114 (1 : Int32) rfl ?_
          refine OE.goto X0 hx hby (pc' := 119) own_d12_115 (h := ?_)
          refine OE.retN X0 hx (t := .boolean) Bd.returns (by simp) Bd.notSynchronized (hb hby own_d12_119) (by decide) (by decide) ?_
          rw [e0]
          exact ⟨(congrArg (fun z => some (Value.int z)) (show (1 : Int32) = (if p1 = (2 : Int32) then (0 : Int32) else (if p1 = (3 : Int32) then (if p2 = (111 : Int32) then (1 : Int32) else (if p2 = (97 : Int32) then (1 : Int32) else (if p2 = (98 : Int32) then (1 : Int32) else (if p2 = (99 : Int32) then (1 : Int32) else (if p2 = (100 : Int32) then (1 : Int32) else (if p2 = (107 : Int32) then (1 : Int32) else (if p2 = (101 : Int32) then (1 : Int32) else (if p2 = (109 : Int32) then (1 : Int32) else (if p2 = (110 : Int32) then (1 : Int32) else (0 : Int32)))))))))) else (if p2 = (97 : Int32) then (1 : Int32) else (if p2 = (98 : Int32) then (1 : Int32) else (if p2 = (99 : Int32) then (1 : Int32) else (if p2 = (100 : Int32) then (1 : Int32) else (if p2 = (102 : Int32) then (1 : Int32) else (if p2 = (103 : Int32) then (1 : Int32) else (if p2 = (104 : Int32) then (1 : Int32) else (0 : Int32)))))))))) from by rw [if_neg hc2, if_neg hc9, if_neg hc75, if_pos hc81])), N0, rfl⟩
        · skip
          refine OE.icmpNo X0 hx hby own_d12_81 (feq hc81).1 ?_
          refine OE.iloadN X0 hx hby own_d12_84 rfl ?_
          refine OE.bipush X0 hx hby own_d12_85 (99 : Int32) rfl ?_
          by_cases hc87 : p2 = (99 : Int32)
          · skip
            refine OE.icmpYes X0 hx hby (pc' := 114) own_d12_87 (teq hc87).1 (h := ?_)
            refine OE.iconst X0 hx hby own_d12_114 (1 : Int32) rfl ?_
            refine OE.goto X0 hx hby (pc' := 119) own_d12_115 (h := ?_)
            refine OE.retN X0 hx (t := .boolean) Bd.returns (by simp) Bd.notSynchronized (hb hby own_d12_119) (by decide) (by decide) ?_
            rw [e0]
            exact ⟨(congrArg (fun z => some (Value.int z)) (show (1 : Int32) = (if p1 = (2 : Int32) then (0 : Int32) else (if p1 = (3 : Int32) then (if p2 = (111 : Int32) then (1 : Int32) else (if p2 = (97 : Int32) then (1 : Int32) else (if p2 = (98 : Int32) then (1 : Int32) else (if p2 = (99 : Int32) then (1 : Int32) else (if p2 = (100 : Int32) then (1 : Int32) else (if p2 = (107 : Int32) then (1 : Int32) else (if p2 = (101 : Int32) then (1 : Int32) else (if p2 = (109 : Int32) then (1 : Int32) else (if p2 = (110 : Int32) then (1 : Int32) else (0 : Int32)))))))))) else (if p2 = (97 : Int32) then (1 : Int32) else (if p2 = (98 : Int32) then (1 : Int32) else (if p2 = (99 : Int32) then (1 : Int32) else (if p2 = (100 : Int32) then (1 : Int32) else (if p2 = (102 : Int32) then (1 : Int32) else (if p2 = (103 : Int32) then (1 : Int32) else (if p2 = (104 : Int32) then (1 : Int32) else (0 : Int32)))))))))) from by rw [if_neg hc2, if_neg hc9, if_neg hc75, if_neg hc81, if_pos hc87])), N0, rfl⟩
          · skip
            refine OE.icmpNo X0 hx hby own_d12_87 (feq hc87).1 ?_
            refine OE.iloadN X0 hx hby own_d12_90 rfl ?_
            refine OE.bipush X0 hx hby own_d12_91 (100 : Int32) rfl ?_
            by_cases hc93 : p2 = (100 : Int32)
            · skip
              refine OE.icmpYes X0 hx hby (pc' := 114) own_d12_93 (teq hc93).1 (h := ?_)
              refine OE.iconst X0 hx hby own_d12_114 (1 : Int32) rfl ?_
              refine OE.goto X0 hx hby (pc' := 119) own_d12_115 (h := ?_)
              refine OE.retN X0 hx (t := .boolean) Bd.returns (by simp) Bd.notSynchronized (hb hby own_d12_119) (by decide) (by decide) ?_
              rw [e0]
              exact ⟨(congrArg (fun z => some (Value.int z)) (show (1 : Int32) = (if p1 = (2 : Int32) then (0 : Int32) else (if p1 = (3 : Int32) then (if p2 = (111 : Int32) then (1 : Int32) else (if p2 = (97 : Int32) then (1 : Int32) else (if p2 = (98 : Int32) then (1 : Int32) else (if p2 = (99 : Int32) then (1 : Int32) else (if p2 = (100 : Int32) then (1 : Int32) else (if p2 = (107 : Int32) then (1 : Int32) else (if p2 = (101 : Int32) then (1 : Int32) else (if p2 = (109 : Int32) then (1 : Int32) else (if p2 = (110 : Int32) then (1 : Int32) else (0 : Int32)))))))))) else (if p2 = (97 : Int32) then (1 : Int32) else (if p2 = (98 : Int32) then (1 : Int32) else (if p2 = (99 : Int32) then (1 : Int32) else (if p2 = (100 : Int32) then (1 : Int32) else (if p2 = (102 : Int32) then (1 : Int32) else (if p2 = (103 : Int32) then (1 : Int32) else (if p2 = (104 : Int32) then (1 : Int32) else (0 : Int32)))))))))) from by rw [if_neg hc2, if_neg hc9, if_neg hc75, if_neg hc81, if_neg hc87, if_pos hc93])), N0, rfl⟩
            · skip
              refine OE.icmpNo X0 hx hby own_d12_93 (feq hc93).1 ?_
              refine OE.iloadN X0 hx hby own_d12_96 rfl ?_
              refine OE.bipush X0 hx hby own_d12_97 (102 : Int32) rfl ?_
              by_cases hc99 : p2 = (102 : Int32)
              · skip
                refine OE.icmpYes X0 hx hby (pc' := 114) own_d12_99 (teq hc99).1 (h := ?_)
                refine OE.iconst X0 hx hby own_d12_114 (1 : Int32) rfl ?_
                refine OE.goto X0 hx hby (pc' := 119) own_d12_115 (h := ?_)
                refine OE.retN X0 hx (t := .boolean) Bd.returns (by simp) Bd.notSynchronized (hb hby own_d12_119) (by decide) (by decide) ?_
                rw [e0]
                exact ⟨(congrArg (fun z => some (Value.int z)) (show (1 : Int32) = (if p1 = (2 : Int32) then (0 : Int32) else (if p1 = (3 : Int32) then (if p2 = (111 : Int32) then (1 : Int32) else (if p2 = (97 : Int32) then (1 : Int32) else (if p2 = (98 : Int32) then (1 : Int32) else (if p2 = (99 : Int32) then (1 : Int32) else (if p2 = (100 : Int32) then (1 : Int32) else (if p2 = (107 : Int32) then (1 : Int32) else (if p2 = (101 : Int32) then (1 : Int32) else (if p2 = (109 : Int32) then (1 : Int32) else (if p2 = (110 : Int32) then (1 : Int32) else (0 : Int32)))))))))) else (if p2 = (97 : Int32) then (1 : Int32) else (if p2 = (98 : Int32) then (1 : Int32) else (if p2 = (99 : Int32) then (1 : Int32) else (if p2 = (100 : Int32) then (1 : Int32) else (if p2 = (102 : Int32) then (1 : Int32) else (if p2 = (103 : Int32) then (1 : Int32) else (if p2 = (104 : Int32) then (1 : Int32) else (0 : Int32)))))))))) from by rw [if_neg hc2, if_neg hc9, if_neg hc75, if_neg hc81, if_neg hc87, if_neg hc93, if_pos hc99])), N0, rfl⟩
              · skip
                refine OE.icmpNo X0 hx hby own_d12_99 (feq hc99).1 ?_
                refine OE.iloadN X0 hx hby own_d12_102 rfl ?_
                refine OE.bipush X0 hx hby own_d12_103 (103 : Int32) rfl ?_
                by_cases hc105 : p2 = (103 : Int32)
                · skip
                  refine OE.icmpYes X0 hx hby (pc' := 114) own_d12_105 (teq hc105).1 (h := ?_)
                  refine OE.iconst X0 hx hby own_d12_114 (1 : Int32) rfl ?_
                  refine OE.goto X0 hx hby (pc' := 119) own_d12_115 (h := ?_)
                  refine OE.retN X0 hx (t := .boolean) Bd.returns (by simp) Bd.notSynchronized (hb hby own_d12_119) (by decide) (by decide) ?_
                  rw [e0]
                  exact ⟨(congrArg (fun z => some (Value.int z)) (show (1 : Int32) = (if p1 = (2 : Int32) then (0 : Int32) else (if p1 = (3 : Int32) then (if p2 = (111 : Int32) then (1 : Int32) else (if p2 = (97 : Int32) then (1 : Int32) else (if p2 = (98 : Int32) then (1 : Int32) else (if p2 = (99 : Int32) then (1 : Int32) else (if p2 = (100 : Int32) then (1 : Int32) else (if p2 = (107 : Int32) then (1 : Int32) else (if p2 = (101 : Int32) then (1 : Int32) else (if p2 = (109 : Int32) then (1 : Int32) else (if p2 = (110 : Int32) then (1 : Int32) else (0 : Int32)))))))))) else (if p2 = (97 : Int32) then (1 : Int32) else (if p2 = (98 : Int32) then (1 : Int32) else (if p2 = (99 : Int32) then (1 : Int32) else (if p2 = (100 : Int32) then (1 : Int32) else (if p2 = (102 : Int32) then (1 : Int32) else (if p2 = (103 : Int32) then (1 : Int32) else (if p2 = (104 : Int32) then (1 : Int32) else (0 : Int32)))))))))) from by rw [if_neg hc2, if_neg hc9, if_neg hc75, if_neg hc81, if_neg hc87, if_neg hc93, if_neg hc99, if_pos hc105])), N0, rfl⟩
                · skip
                  refine OE.icmpNo X0 hx hby own_d12_105 (feq hc105).1 ?_
                  refine OE.iloadN X0 hx hby own_d12_108 rfl ?_
                  refine OE.bipush X0 hx hby own_d12_109 (104 : Int32) rfl ?_
                  by_cases hc111 : p2 = (104 : Int32)
                  · skip
                    refine OE.icmpNo X0 hx hby own_d12_111 (teq hc111).2 ?_
                    refine OE.iconst X0 hx hby own_d12_114 (1 : Int32) rfl ?_
                    refine OE.goto X0 hx hby (pc' := 119) own_d12_115 (h := ?_)
                    refine OE.retN X0 hx (t := .boolean) Bd.returns (by simp) Bd.notSynchronized (hb hby own_d12_119) (by decide) (by decide) ?_
                    rw [e0]
                    exact ⟨(congrArg (fun z => some (Value.int z)) (show (1 : Int32) = (if p1 = (2 : Int32) then (0 : Int32) else (if p1 = (3 : Int32) then (if p2 = (111 : Int32) then (1 : Int32) else (if p2 = (97 : Int32) then (1 : Int32) else (if p2 = (98 : Int32) then (1 : Int32) else (if p2 = (99 : Int32) then (1 : Int32) else (if p2 = (100 : Int32) then (1 : Int32) else (if p2 = (107 : Int32) then (1 : Int32) else (if p2 = (101 : Int32) then (1 : Int32) else (if p2 = (109 : Int32) then (1 : Int32) else (if p2 = (110 : Int32) then (1 : Int32) else (0 : Int32)))))))))) else (if p2 = (97 : Int32) then (1 : Int32) else (if p2 = (98 : Int32) then (1 : Int32) else (if p2 = (99 : Int32) then (1 : Int32) else (if p2 = (100 : Int32) then (1 : Int32) else (if p2 = (102 : Int32) then (1 : Int32) else (if p2 = (103 : Int32) then (1 : Int32) else (if p2 = (104 : Int32) then (1 : Int32) else (0 : Int32)))))))))) from by rw [if_neg hc2, if_neg hc9, if_neg hc75, if_neg hc81, if_neg hc87, if_neg hc93, if_neg hc99, if_neg hc105, if_pos hc111])), N0, rfl⟩
                  · skip
                    refine OE.icmpYes X0 hx hby (pc' := 118) own_d12_111 (feq hc111).2 (h := ?_)
                    refine OE.iconst X0 hx hby own_d12_118 (0 : Int32) rfl ?_
                    refine OE.retN X0 hx (t := .boolean) Bd.returns (by simp) Bd.notSynchronized (hb hby own_d12_119) (by decide) (by decide) ?_
                    rw [e0]
                    exact ⟨(congrArg (fun z => some (Value.int z)) (show (0 : Int32) = (if p1 = (2 : Int32) then (0 : Int32) else (if p1 = (3 : Int32) then (if p2 = (111 : Int32) then (1 : Int32) else (if p2 = (97 : Int32) then (1 : Int32) else (if p2 = (98 : Int32) then (1 : Int32) else (if p2 = (99 : Int32) then (1 : Int32) else (if p2 = (100 : Int32) then (1 : Int32) else (if p2 = (107 : Int32) then (1 : Int32) else (if p2 = (101 : Int32) then (1 : Int32) else (if p2 = (109 : Int32) then (1 : Int32) else (if p2 = (110 : Int32) then (1 : Int32) else (0 : Int32)))))))))) else (if p2 = (97 : Int32) then (1 : Int32) else (if p2 = (98 : Int32) then (1 : Int32) else (if p2 = (99 : Int32) then (1 : Int32) else (if p2 = (100 : Int32) then (1 : Int32) else (if p2 = (102 : Int32) then (1 : Int32) else (if p2 = (103 : Int32) then (1 : Int32) else (if p2 = (104 : Int32) then (1 : Int32) else (0 : Int32)))))))))) from by rw [if_neg hc2, if_neg hc9, if_neg hc75, if_neg hc81, if_neg hc87, if_neg hc93, if_neg hc99, if_neg hc105, if_neg hc111])), N0, rfl⟩
theorem own_mem {c : Int32} {bs : List Int32} (hb : ∀ b ∈ bs, 0 ≤ b.toInt ∧ b.toInt < 128) (h : own_enc c bs) : c ∈ bs := by
  obtain ⟨⟨h1, h2⟩, h3⟩ := h
  rw [Int32.lt_iff_toInt_lt] at h1 h2
  have z : (0 : Int32).toInt = 0 := by decide
  have y : (255 : Int32).toInt = 255 := by decide
  have a := c_i2b c
  have b := hb _ h3
  have e : c = c.toInt8.toInt32 := Int32.toInt_inj.mp (by omega)
  rw [e]; exact h3
theorem own_f662 {k c r : Int32} (hk2 : ¬ k = (2 : Int32)) (hk3 : ¬ k = (3 : Int32)) (h : (r = (1 : Int32) ∧ (own_enc c ([97, 98, 99, 100, 102] : List Int32) ∨ own_enc c ([103, 104] : List Int32))) ∨ (r = (0 : Int32) ∧ ¬ own_enc c ([97, 98, 99, 100, 102] : List Int32) ∧ ¬ own_enc c ([103, 104] : List Int32))) : r = own_exp k c := by
  show r = (if k = (2 : Int32) then (0 : Int32) else (if k = (3 : Int32) then (if c = (111 : Int32) then (1 : Int32) else (if c = (97 : Int32) then (1 : Int32) else (if c = (98 : Int32) then (1 : Int32) else (if c = (99 : Int32) then (1 : Int32) else (if c = (100 : Int32) then (1 : Int32) else (if c = (107 : Int32) then (1 : Int32) else (if c = (101 : Int32) then (1 : Int32) else (if c = (109 : Int32) then (1 : Int32) else (if c = (110 : Int32) then (1 : Int32) else (0 : Int32)))))))))) else (if c = (97 : Int32) then (1 : Int32) else (if c = (98 : Int32) then (1 : Int32) else (if c = (99 : Int32) then (1 : Int32) else (if c = (100 : Int32) then (1 : Int32) else (if c = (102 : Int32) then (1 : Int32) else (if c = (103 : Int32) then (1 : Int32) else (if c = (104 : Int32) then (1 : Int32) else (0 : Int32))))))))))
  rw [if_neg hk2, if_neg hk3]
  rcases h with ⟨rfl, h⟩ | ⟨rfl, h1, h2⟩
  · rcases h with h | h
    · have q := own_mem (by decide) h
      simp only [List.mem_cons, List.not_mem_nil, or_false] at q
      rcases q with rfl | rfl | rfl | rfl | rfl <;> decide
    · have q := own_mem (by decide) h
      simp only [List.mem_cons, List.not_mem_nil, or_false] at q
      rcases q with rfl | rfl <;> decide
  · rw [if_neg (fun q : c = (97 : Int32) => h1 (by rw [q]; exact ⟨⟨by decide, by decide⟩, by decide⟩)), if_neg (fun q : c = (98 : Int32) => h1 (by rw [q]; exact ⟨⟨by decide, by decide⟩, by decide⟩)), if_neg (fun q : c = (99 : Int32) => h1 (by rw [q]; exact ⟨⟨by decide, by decide⟩, by decide⟩)), if_neg (fun q : c = (100 : Int32) => h1 (by rw [q]; exact ⟨⟨by decide, by decide⟩, by decide⟩)), if_neg (fun q : c = (102 : Int32) => h1 (by rw [q]; exact ⟨⟨by decide, by decide⟩, by decide⟩)), if_neg (fun q : c = (103 : Int32) => h2 (by rw [q]; exact ⟨⟨by decide, by decide⟩, by decide⟩)), if_neg (fun q : c = (104 : Int32) => h2 (by rw [q]; exact ⟨⟨by decide, by decide⟩, by decide⟩))]
theorem own_f617 {k c r : Int32} (hk2 : ¬ k = (2 : Int32)) (hk3 : k = (3 : Int32)) (h : (r = (1 : Int32) ∧ (own_enc c ([111, 97, 98, 99, 100, 107, 101] : List Int32) ∨ own_enc c ([109, 110] : List Int32))) ∨ (r = (0 : Int32) ∧ ¬ own_enc c ([111, 97, 98, 99, 100, 107, 101] : List Int32) ∧ ¬ own_enc c ([109, 110] : List Int32))) : r = own_exp k c := by
  show r = (if k = (2 : Int32) then (0 : Int32) else (if k = (3 : Int32) then (if c = (111 : Int32) then (1 : Int32) else (if c = (97 : Int32) then (1 : Int32) else (if c = (98 : Int32) then (1 : Int32) else (if c = (99 : Int32) then (1 : Int32) else (if c = (100 : Int32) then (1 : Int32) else (if c = (107 : Int32) then (1 : Int32) else (if c = (101 : Int32) then (1 : Int32) else (if c = (109 : Int32) then (1 : Int32) else (if c = (110 : Int32) then (1 : Int32) else (0 : Int32)))))))))) else (if c = (97 : Int32) then (1 : Int32) else (if c = (98 : Int32) then (1 : Int32) else (if c = (99 : Int32) then (1 : Int32) else (if c = (100 : Int32) then (1 : Int32) else (if c = (102 : Int32) then (1 : Int32) else (if c = (103 : Int32) then (1 : Int32) else (if c = (104 : Int32) then (1 : Int32) else (0 : Int32))))))))))
  rw [if_neg hk2, if_pos hk3]
  rcases h with ⟨rfl, h⟩ | ⟨rfl, h1, h2⟩
  · rcases h with h | h
    · have q := own_mem (by decide) h
      simp only [List.mem_cons, List.not_mem_nil, or_false] at q
      rcases q with rfl | rfl | rfl | rfl | rfl | rfl | rfl <;> decide
    · have q := own_mem (by decide) h
      simp only [List.mem_cons, List.not_mem_nil, or_false] at q
      rcases q with rfl | rfl <;> decide
  · rw [if_neg (fun q : c = (111 : Int32) => h1 (by rw [q]; exact ⟨⟨by decide, by decide⟩, by decide⟩)), if_neg (fun q : c = (97 : Int32) => h1 (by rw [q]; exact ⟨⟨by decide, by decide⟩, by decide⟩)), if_neg (fun q : c = (98 : Int32) => h1 (by rw [q]; exact ⟨⟨by decide, by decide⟩, by decide⟩)), if_neg (fun q : c = (99 : Int32) => h1 (by rw [q]; exact ⟨⟨by decide, by decide⟩, by decide⟩)), if_neg (fun q : c = (100 : Int32) => h1 (by rw [q]; exact ⟨⟨by decide, by decide⟩, by decide⟩)), if_neg (fun q : c = (107 : Int32) => h1 (by rw [q]; exact ⟨⟨by decide, by decide⟩, by decide⟩)), if_neg (fun q : c = (101 : Int32) => h1 (by rw [q]; exact ⟨⟨by decide, by decide⟩, by decide⟩)), if_neg (fun q : c = (109 : Int32) => h2 (by rw [q]; exact ⟨⟨by decide, by decide⟩, by decide⟩)), if_neg (fun q : c = (110 : Int32) => h2 (by rw [q]; exact ⟨⟨by decide, by decide⟩, by decide⟩))]
theorem own_f052 {k c r : Int32} (hk2 : k = (2 : Int32)) (h : (r = (1 : Int32) ∧ (own_enc c ([] : List Int32) ∨ own_enc c ([] : List Int32))) ∨ (r = (0 : Int32) ∧ ¬ own_enc c ([] : List Int32) ∧ ¬ own_enc c ([] : List Int32))) : r = own_exp k c := by
  show r = (if k = (2 : Int32) then (0 : Int32) else (if k = (3 : Int32) then (if c = (111 : Int32) then (1 : Int32) else (if c = (97 : Int32) then (1 : Int32) else (if c = (98 : Int32) then (1 : Int32) else (if c = (99 : Int32) then (1 : Int32) else (if c = (100 : Int32) then (1 : Int32) else (if c = (107 : Int32) then (1 : Int32) else (if c = (101 : Int32) then (1 : Int32) else (if c = (109 : Int32) then (1 : Int32) else (if c = (110 : Int32) then (1 : Int32) else (0 : Int32)))))))))) else (if c = (97 : Int32) then (1 : Int32) else (if c = (98 : Int32) then (1 : Int32) else (if c = (99 : Int32) then (1 : Int32) else (if c = (100 : Int32) then (1 : Int32) else (if c = (102 : Int32) then (1 : Int32) else (if c = (103 : Int32) then (1 : Int32) else (if c = (104 : Int32) then (1 : Int32) else (0 : Int32))))))))))
  rw [if_pos hk2]
  rcases h with ⟨rfl, h⟩ | ⟨rfl, -, -⟩
  · rcases h with h | h <;> exact nomatch h.2
  · rfl
theorem own_three {x : Int32} (h0 : ¬ (x &&& (3 : Int32)) = 0) (h1 : ¬ (x &&& (3 : Int32)) = 1) (h2 : ¬ (x &&& (3 : Int32)) = 2) : (x &&& (3 : Int32)) = 3 := by
  have hv := c_and x 3 (by decide)
  have h3 : (3 : Int32).toInt = 3 := by decide
  rw [h3] at hv
  generalize (x &&& (3 : Int32)) = v at *
  have e : ∀ k : Int32, ¬ v = k → v.toInt ≠ k.toInt := fun k h q => h (Int32.toInt_inj.mp q)
  have a0 := e 0 h0
  have a1 := e 1 h1
  have a2 := e 2 h2
  have b0 : (0 : Int32).toInt = 0 := by decide
  have b1 : (1 : Int32).toInt = 1 := by decide
  have b2 : (2 : Int32).toInt = 2 := by decide
  exact Int32.toInt_inj.mp (by omega)
theorem own_pd7 : parseMethodDescriptor "(C)Z" = some ⟨[.char], some .boolean⟩ := by decide +kernel
theorem own_pd8 : parseMethodDescriptor "(IC)Z" = some ⟨[.int, .char], some .boolean⟩ := by decide +kernel
def own_Q0 (Z : State) (p1 : Int32) (p2 : Int32) (p3 : Int32) (cs : Int32) (o_MARC21_662 : Addr) (o_MARC21_752 : Addr) (o_MARC21_052 : Addr) (o_UNIMARC_617 : Addr) (s_R662 : Addr) (v_R662 : Addr) (k_R662 : ClassId) (s_U662 : Addr) (v_U662 : Addr) (k_U662 : ClassId) (s_R052 : Addr) (v_R052 : Addr) (k_R052 : ClassId) (s_R617 : Addr) (v_R617 : Addr) (k_R617 : ClassId) (s_U617 : Addr) (v_U617 : Addr) (k_U617 : ClassId) (h0 : Heap) (n0 : Nat) (v : Option Value) (h : Heap) (L : List Loc) : Prop := v = some (.int (1 : Int32)) ∧ Fr n0 L
theorem own_ef_own_rm0 (m : MethodId) (p1 : Int32) (p2 : Int32) (p3 : Int32) : entryFrame m #[(.int p1), (.int p2), (.int p3)] maxLocals = mkF m 0 #[.val (.int p1), .val (.int p2), .val (.int p3), .unset, .unset, .unset] [] := by first | (simp [entryFrame, mkF, argsToLocals, Value.category, maxLocals]; done) | rfl
set_option maxRecDepth 65536 in
set_option maxHeartbeats 40000000 in
theorem own_rm0 (l : Launch) (Z : State) (a0 : Array Value) (hw : ∀ d ∈ tables_1, d.before a0 Z = true) (ws : List Jvm.Cond) (p1 : Int32) (p2 : Int32) (p3 : Int32) (cs : Int32) (o_MARC21_662 : Addr) (o_MARC21_752 : Addr) (o_MARC21_052 : Addr) (o_UNIMARC_617 : Addr) (s_R662 : Addr) (v_R662 : Addr) (k_R662 : ClassId) (s_U662 : Addr) (v_U662 : Addr) (k_U662 : ClassId) (s_R052 : Addr) (v_R052 : Addr) (k_R052 : ClassId) (s_R617 : Addr) (v_R617 : Addr) (k_R617 : ClassId) (s_U617 : Addr) (v_U617 : Addr) (k_U617 : ClassId) (h0 : Heap) (n0 : Nat) (Z0 : n0 ≤ h0.size) (S_cs : Sta Z h0 "java/lang/String" "COMPACT_STRINGS" "Z" (.int cs)) (hcs : ¬ cs = (0 : Int32)) (S_MARC21_662 : Sta Z h0 "com/example/placetree/placetree/places/FieldDefinition" "MARC21_662" "Lcom/example/placetree/placetree/places/FieldDefinition;" (.ref o_MARC21_662)) (E_o_MARC21_662 : Exa Z h0 o_MARC21_662 "com/example/placetree/placetree/places/FieldDefinition") (S_MARC21_752 : Sta Z h0 "com/example/placetree/placetree/places/FieldDefinition" "MARC21_752" "Lcom/example/placetree/placetree/places/FieldDefinition;" (.ref o_MARC21_752)) (E_o_MARC21_752 : Exa Z h0 o_MARC21_752 "com/example/placetree/placetree/places/FieldDefinition") (S_MARC21_052 : Sta Z h0 "com/example/placetree/placetree/places/FieldDefinition" "MARC21_052" "Lcom/example/placetree/placetree/places/FieldDefinition;" (.ref o_MARC21_052)) (E_o_MARC21_052 : Exa Z h0 o_MARC21_052 "com/example/placetree/placetree/places/FieldDefinition") (S_UNIMARC_617 : Sta Z h0 "com/example/placetree/placetree/places/FieldDefinition" "UNIMARC_617" "Lcom/example/placetree/placetree/places/FieldDefinition;" (.ref o_UNIMARC_617)) (E_o_UNIMARC_617 : Exa Z h0 o_UNIMARC_617 "com/example/placetree/placetree/places/FieldDefinition") (Es_R662 : Exa Z h0 s_R662 "java/lang/String") (Fc_R662 : Fld Z h0 s_R662 "java/lang/String" "coder" "B" (.int (0 : Int32))) (Fv_R662 : Fld Z h0 s_R662 "java/lang/String" "value" "[B" (.ref v_R662)) (V_R662 : Arv Z h0 v_R662 k_R662 .byte (5 : Int32) [(.int (97 : Int32)), (.int (98 : Int32)), (.int (99 : Int32)), (.int (100 : Int32)), (.int (102 : Int32))] (.int (0 : Int32))) (Es_U662 : Exa Z h0 s_U662 "java/lang/String") (Fc_U662 : Fld Z h0 s_U662 "java/lang/String" "coder" "B" (.int (0 : Int32))) (Fv_U662 : Fld Z h0 s_U662 "java/lang/String" "value" "[B" (.ref v_U662)) (V_U662 : Arv Z h0 v_U662 k_U662 .byte (2 : Int32) [(.int (103 : Int32)), (.int (104 : Int32))] (.int (0 : Int32))) (Es_R052 : Exa Z h0 s_R052 "java/lang/String") (Fc_R052 : Fld Z h0 s_R052 "java/lang/String" "coder" "B" (.int (0 : Int32))) (Fv_R052 : Fld Z h0 s_R052 "java/lang/String" "value" "[B" (.ref v_R052)) (V_R052 : Arv Z h0 v_R052 k_R052 .byte (0 : Int32) [] (.int (0 : Int32))) (Es_R617 : Exa Z h0 s_R617 "java/lang/String") (Fc_R617 : Fld Z h0 s_R617 "java/lang/String" "coder" "B" (.int (0 : Int32))) (Fv_R617 : Fld Z h0 s_R617 "java/lang/String" "value" "[B" (.ref v_R617)) (V_R617 : Arv Z h0 v_R617 k_R617 .byte (7 : Int32) [(.int (111 : Int32)), (.int (97 : Int32)), (.int (98 : Int32)), (.int (99 : Int32)), (.int (100 : Int32)), (.int (107 : Int32)), (.int (101 : Int32))] (.int (0 : Int32))) (Es_U617 : Exa Z h0 s_U617 "java/lang/String") (Fc_U617 : Fld Z h0 s_U617 "java/lang/String" "coder" "B" (.int (0 : Int32))) (Fv_U617 : Fld Z h0 s_U617 "java/lang/String" "value" "[B" (.ref v_U617)) (V_U617 : Arv Z h0 v_U617 k_U617 .byte (2 : Int32) [(.int (109 : Int32)), (.int (110 : Int32))] (.int (0 : Int32))) (F0_MARC21_662 : Fld Z h0 o_MARC21_662 "com/example/placetree/placetree/places/FieldDefinition" "rankedLevelCodes" "Ljava/lang/String;" (.ref s_R662)) (F1_MARC21_662 : Fld Z h0 o_MARC21_662 "com/example/placetree/placetree/places/FieldDefinition" "unrankedLevelCodes" "Ljava/lang/String;" (.ref s_U662)) (F0_MARC21_752 : Fld Z h0 o_MARC21_752 "com/example/placetree/placetree/places/FieldDefinition" "rankedLevelCodes" "Ljava/lang/String;" (.ref s_R662)) (F1_MARC21_752 : Fld Z h0 o_MARC21_752 "com/example/placetree/placetree/places/FieldDefinition" "unrankedLevelCodes" "Ljava/lang/String;" (.ref s_U662)) (F0_MARC21_052 : Fld Z h0 o_MARC21_052 "com/example/placetree/placetree/places/FieldDefinition" "rankedLevelCodes" "Ljava/lang/String;" (.ref s_R052)) (F1_MARC21_052 : Fld Z h0 o_MARC21_052 "com/example/placetree/placetree/places/FieldDefinition" "unrankedLevelCodes" "Ljava/lang/String;" (.ref s_R052)) (F0_UNIMARC_617 : Fld Z h0 o_UNIMARC_617 "com/example/placetree/placetree/places/FieldDefinition" "rankedLevelCodes" "Ljava/lang/String;" (.ref s_R617)) (F1_UNIMARC_617 : Fld Z h0 o_UNIMARC_617 "com/example/placetree/placetree/places/FieldDefinition" "unrankedLevelCodes" "Ljava/lang/String;" (.ref s_U617)) :
    MetFree l x (head1 (Jvm.Cond.code x code maxLocals ret :: ws) room_1) (fun a U => a = #[(.int p1), (.int p2), (.int p3)] ∧ Z.Warmed39 U.vm ∧ U.heap = h0) (fun _ _ _ _ _ => True) (fun _ U o U' => ∃ v L, o = .returned v ∧ own_Q0 Z p1 p2 p3 cs o_MARC21_662 o_MARC21_752 o_MARC21_052 o_UNIMARC_617 s_R662 v_R662 k_R662 s_U662 v_U662 k_U662 s_R052 v_R052 k_R052 s_R617 v_R617 k_R617 s_U617 v_U617 k_U617 h0 n0 v U'.heap L ∧ FrameEnd U o U' L room_1.cells room_1.slots) := by
  refine MetFree.of_bodySF (plainFor_of_name own_pn3) hisR ?_
  intro p e s m args below meth c s₁ Bd hml0 hP hK
  obtain ⟨rfl, hZ, hh⟩ := hP
  have hx := Bd.exec
  have hby := Bd.bytes
  have hml : c.maxLocals = 6 := hml0
  have hown : s.vm.findClass "com/example/placetree/placetree/places/FieldDefinitionIsPlaceLevelPinLaw" = some m.cls := findClass_of_methodNamed Bd.named
  have hnm := (name_of_methodNamed Bd.named Bd.method).1
  have X0 : Stand p l e room_1 s m #[(.int p1), (.int p2), (.int p3)] below meth c s₁ [] 0 0 := Stand.of_body Bd
  have e0 : s₁.heap = h0 := by rw [← hh, Bd.state]; rfl
  have N0 := Fr.nil n0
  show OE FrameEnd p e below s (own_Q0 Z p1 p2 p3 cs o_MARC21_662 o_MARC21_752 o_MARC21_052 o_UNIMARC_617 s_R662 v_R662 k_R662 s_U662 v_U662 k_U662 s_R052 v_R052 k_R052 s_R617 v_R617 k_R617 s_U617 v_U617 k_U617 h0 n0) room_1.cells room_1.slots s₁ (entryFrame m #[(.int p1), (.int p2), (.int p3)] maxLocals)
  rw [own_ef_own_rm0]
  show OE _ p e below s _ _ _ s₁ (mkF m 0 #[.val (.int p1), .val (.int p2), .val (.int p3), .unset, .unset, .unset] [])
  have R1 : Arv Z h0 v_R662 k_R662 .byte (5 : Int32) (List.map Value.int ([97, 98, 99, 100, 102] : List Int32)) (.int (0 : Int32)) := V_R662
  have R2 : Arv Z h0 v_U662 k_U662 .byte (2 : Int32) (List.map Value.int ([103, 104] : List Int32)) (.int (0 : Int32)) := V_U662
  have R3 : Arv Z h0 v_R052 k_R052 .byte (0 : Int32) (List.map Value.int ([] : List Int32)) (.int (0 : Int32)) := V_R052
  have R4 : Arv Z h0 v_R617 k_R617 .byte (7 : Int32) (List.map Value.int ([111, 97, 98, 99, 100, 107, 101] : List Int32)) (.int (0 : Int32)) := V_R617
  have R5 : Arv Z h0 v_U617 k_U617 .byte (2 : Int32) (List.map Value.int ([109, 110] : List Int32)) (.int (0 : Int32)) := V_U617
  refine OE.iloadN X0 hx hby at_0 rfl ?_
  refine OE.iconst X0 hx hby at_1 (3 : Int32) rfl ?_
  refine OE.iand X0 hx hby at_2 ?_
  refine OE.istoreN X0 hx hby at_3 (l' := #[.val (.int p1), .val (.int p2), .val (.int p3), .val (.int (p1 &&& (3 : Int32))), .unset, .unset]) rfl ?_
  refine OE.iloadN X0 hx hby at_4 rfl ?_
  by_cases hc5 : (p1 &&& (3 : Int32)) = (0 : Int32)
  · skip
    refine OE.ifNo X0 hx hby at_5 (teq hc5).2 ?_
    obtain ⟨T6, X6, e6, st6⟩ := getS2 X0 hx hZ hown (host := "") (Or.inl (hw _ (List.mem_of_getElem? (i := 0) rfl))) Via.refl e0 S_MARC21_662 (g := (mkF m 8 #[.val (.int p1), .val (.int p2), .val (.int p3), .val (.int (p1 &&& (3 : Int32))), .unset, .unset] [])) rfl (hb hby at_8)
    refine OE.of st6 ?_
    show OE _ p e below s _ _ _ T6 (mkF m 11 #[.val (.int p1), .val (.int p2), .val (.int p3), .val (.int (p1 &&& (3 : Int32))), .unset, .unset] [(.ref o_MARC21_662)])
    refine OE.astore X6 hx hby at_11 rfl (l' := #[.val (.int p1), .val (.int p2), .val (.int p3), .val (.int (p1 &&& (3 : Int32))), .val (.ref o_MARC21_662), .unset]) rfl ?_
    refine OE.goto X6 hx hby (pc' := 47) at_13 (h := ?_)
    refine OE.iloadN X6 hx hby at_47 rfl ?_
    refine OE.iconst X6 hx hby at_48 (1 : Int32) rfl ?_
    refine OE.iand X6 hx hby at_49 ?_
    by_cases hc50 : (p3 &&& (1 : Int32)) = (0 : Int32)
    · skip
      refine OE.ifYes X6 hx hby (pc' := 66) at_50 (teq hc50).1 (h := ?_)
      refine OE.iloadN X6 hx hby at_66 rfl ?_
      refine OE.of (X6.ldcInt hx hown (mvT hZ (hw _ (List.mem_of_getElem? (i := 3) rfl))) (g := (mkF m 67 #[.val (.int p1), .val (.int p2), .val (.int p3), .val (.int (p1 &&& (3 : Int32))), .val (.ref o_MARC21_662), .unset] [(.int p2)])) rfl (hb hby at_67)) ?_
      show OE _ p e below s _ _ _ T6 (mkF m 69 #[.val (.int p1), .val (.int p2), .val (.int p3), .val (.int (p1 &&& (3 : Int32))), .val (.ref o_MARC21_662), .unset] [(.int (65535 : Int32)), (.int p2)])
      refine OE.iand X6 hx hby at_69 ?_
      refine OE.i2c X6 hx hby at_70 ?_
      refine OE.istore X6 hx hby at_71 (l' := #[.val (.int p1), .val (.int p2), .val (.int p3), .val (.int (p1 &&& (3 : Int32))), .val (.ref o_MARC21_662), .val (.int ((p2 &&& (65535 : Int32)).toUInt32.toUInt16.toUInt32.toInt32))]) rfl ?_
      refine OE.aload X6 hx hby at_73 rfl rfl ?_
      refine OE.iload X6 hx hby at_75 rfl ?_
      obtain ⟨cq7, kq7, qa7, qb7, qc7⟩ := isOf hZ e6 E_o_MARC21_662
      obtain ⟨_, _, ⟨T7, L7, k7, n7⟩, -, X7, ⟨Lc7, hQ7, l7, y7, z7⟩, st7⟩ := X6.virtualBack hx (y := (⟨"com/example/placetree/placetree/places/FieldDefinition", "isPlaceLevel", "(C)Z"⟩ : MethodName)) (z := (⟨"com/example/placetree/placetree/places/FieldDefinition", "isPlaceLevel", "(C)Z"⟩ : MethodName)) hown (mvT hZ (hw _ (List.mem_of_getElem? (i := 4) rfl))) (mvT hZ (hw _ (List.mem_of_getElem? (i := 5) rfl))) (notFace_of_selects (args := #[]) (mvT hZ (hw _ (List.mem_of_getElem? (i := 7) rfl)))) (mvT hZ (hw _ (List.mem_of_getElem? (i := 7) rfl))) (mvT hZ (hw _ (List.mem_of_getElem? (i := 6) rfl))) (by decide) (backOf (W := 0) (own_rm1 l Z a0 hw [] o_MARC21_662 ((p2 &&& (65535 : Int32)).toUInt32.toUInt16.toUInt32.toInt32) s_R662 cs v_R662 (5 : Int32) ([97, 98, 99, 100, 102] : List Int32) k_R662 s_U662 v_U662 (2 : Int32) ([103, 104] : List Int32) k_U662 h0 n0 Z0 E_o_MARC21_662 F0_MARC21_662 S_cs hcs Es_R662 Fc_R662 Fv_R662 R1 (by decide) F1_MARC21_662 Es_U662 Fc_U662 Fv_U662 R2 (by decide)) hZ (hw _ (List.mem_of_getElem? (i := 8) rfl)) (hw _ (List.mem_of_getElem? (i := 1) rfl)) (by decide) (by decide)) qa7 qc7 (g := (mkF m 77 #[.val (.int p1), .val (.int p2), .val (.int p3), .val (.int (p1 &&& (3 : Int32))), .val (.ref o_MARC21_662), .val (.int ((p2 &&& (65535 : Int32)).toUInt32.toUInt16.toUInt32.toInt32))] [(.int ((p2 &&& (65535 : Int32)).toUInt32.toUInt16.toUInt32.toInt32)), (.ref o_MARC21_662)])) rfl (by rw [hml]; rfl) (Steps.refl _) (argsL := [(.int ((p2 &&& (65535 : Int32)).toUInt32.toUInt16.toUInt32.toInt32))]) (rest := []) (lenOf own_pd7 rfl) rfl (by show 2 * 0 + _ ≤ _; exact Nat.le_of_eq rfl) (hb hby at_77) (fun _ _ => ⟨rfl, e6, (by decide : 0 + 0 ≤ _), (by decide : 0 + 0 ≤ _)⟩)
      dsimp only [Pt.U, Pt.locs, Pt.cells, Pt.slots] at X7 l7 y7 z7 st7 hQ7
      subst l7 y7 z7
      obtain ⟨r7_r, rfl, Nq7, eq7, h7_hr⟩ := hQ7
      refine OE.of (fun _ k => st7.trans k) ?_
      have N7 := Fr.app N0 Nq7
      show OE _ p e below s _ _ _ T7 (mkF m 80 #[.val (.int p1), .val (.int p2), .val (.int p3), .val (.int (p1 &&& (3 : Int32))), .val (.ref o_MARC21_662), .val (.int ((p2 &&& (65535 : Int32)).toUInt32.toUInt16.toUInt32.toInt32))] [(.int r7_r)])
      refine OE.iloadN X7 hx hby at_80 rfl ?_
      refine OE.iload X7 hx hby at_81 rfl ?_
      obtain ⟨_, _, ⟨T8, L8, k8, n8⟩, -, X8, ⟨Lc8, hQ8, l8, y8, z8⟩, st8⟩ := Jvm.LawKit.callS X7 hx (y := (⟨"com/example/placetree/placetree/places/FieldDefinitionIsPlaceLevelPinLaw", "expected", "(IC)Z"⟩ : MethodName)) hown (mvT hZ (hw _ (List.mem_of_getElem? (i := 61) rfl))) (mvT hZ (hw _ (List.mem_of_getElem? (i := 62) rfl))) (mvT hZ (hw _ (List.mem_of_getElem? (i := 63) rfl))) (mvT hZ (hw _ (List.mem_of_getElem? (i := 64) rfl))) (by decide) (backOf (W := 1) (own_rm12 l Z a0 hw [] (p1 &&& (3 : Int32)) ((p2 &&& (65535 : Int32)).toUInt32.toUInt16.toUInt32.toInt32) h0 n0 Z0 ) hZ (hw _ (List.mem_of_getElem? (i := 64) rfl)) (hw _ (List.mem_of_getElem? (i := 63) rfl)) (by decide) (by decide)) (g := (mkF m 83 #[.val (.int p1), .val (.int p2), .val (.int p3), .val (.int (p1 &&& (3 : Int32))), .val (.ref o_MARC21_662), .val (.int ((p2 &&& (65535 : Int32)).toUInt32.toUInt16.toUInt32.toInt32))] [(.int ((p2 &&& (65535 : Int32)).toUInt32.toUInt16.toUInt32.toInt32)), (.int (p1 &&& (3 : Int32))), (.int r7_r)])) rfl (by rw [hml]; rfl) (argsL := [(.int (p1 &&& (3 : Int32))), (.int ((p2 &&& (65535 : Int32)).toUInt32.toUInt16.toUInt32.toInt32))]) (rest := [(.int r7_r)]) (lenOf own_pd8 rfl) rfl (by show 2 * 0 + _ ≤ _; exact Nat.le_of_eq rfl) (hb hby at_83) (fun _ _ => ⟨rfl, eq7, (by decide : 0 + 0 ≤ _), (by decide : 0 + 0 ≤ _)⟩)
      dsimp only [Pt.U, Pt.locs, Pt.cells, Pt.slots] at X8 l8 y8 z8 st8 hQ8
      subst l8 y8 z8
      obtain ⟨rfl, Nq8, eq8⟩ := hQ8
      refine OE.of (fun _ k => st8 _ k) ?_
      have N8 := Fr.app N7 Nq8
      show OE _ p e below s _ _ _ T8 (mkF m 86 #[.val (.int p1), .val (.int p2), .val (.int p3), .val (.int (p1 &&& (3 : Int32))), .val (.ref o_MARC21_662), .val (.int ((p2 &&& (65535 : Int32)).toUInt32.toUInt16.toUInt32.toInt32))] [(.int (own_exp (p1 &&& (3 : Int32)) ((p2 &&& (65535 : Int32)).toUInt32.toUInt16.toUInt32.toInt32))), (.int r7_r)])
      refine OE.icmpNo X8 hx hby at_86 (teq (own_f662 (fun q => absurd (hc5.symm.trans q) (by decide)) (fun q => absurd (hc5.symm.trans q) (by decide)) h7_hr : r7_r = (own_exp (p1 &&& (3 : Int32)) ((p2 &&& (65535 : Int32)).toUInt32.toUInt16.toUInt32.toInt32)))).2 ?_
      refine OE.iconst X8 hx hby at_89 (1 : Int32) rfl ?_
      refine OE.goto X8 hx hby (pc' := 94) at_90 (h := ?_)
      refine OE.retN X8 hx (t := .boolean) Bd.returns (by simp) Bd.notSynchronized (hb hby at_94) (by decide) (by decide) ?_
      rw [eq8]
      exact ⟨rfl, N8⟩
    · skip
      refine OE.ifNo X6 hx hby at_50 (feq hc50).1 ?_
      refine OE.bipush X6 hx hby at_53 (97 : Int32) rfl ?_
      refine OE.iloadN X6 hx hby at_55 rfl ?_
      refine OE.bipush X6 hx hby at_56 (15 : Int32) rfl ?_
      refine OE.iand X6 hx hby at_58 ?_
      refine OE.iadd X6 hx hby at_59 ?_
      refine OE.i2c X6 hx hby at_60 ?_
      refine OE.istore X6 hx hby at_61 (l' := #[.val (.int p1), .val (.int p2), .val (.int p3), .val (.int (p1 &&& (3 : Int32))), .val (.ref o_MARC21_662), .val (.int (((97 : Int32) + (p2 &&& (15 : Int32))).toUInt32.toUInt16.toUInt32.toInt32))]) rfl ?_
      refine OE.goto X6 hx hby (pc' := 73) at_63 (h := ?_)
      refine OE.aload X6 hx hby at_73 rfl rfl ?_
      refine OE.iload X6 hx hby at_75 rfl ?_
      obtain ⟨cq9, kq9, qa9, qb9, qc9⟩ := isOf hZ e6 E_o_MARC21_662
      obtain ⟨_, _, ⟨T9, L9, k9, n9⟩, -, X9, ⟨Lc9, hQ9, l9, y9, z9⟩, st9⟩ := X6.virtualBack hx (y := (⟨"com/example/placetree/placetree/places/FieldDefinition", "isPlaceLevel", "(C)Z"⟩ : MethodName)) (z := (⟨"com/example/placetree/placetree/places/FieldDefinition", "isPlaceLevel", "(C)Z"⟩ : MethodName)) hown (mvT hZ (hw _ (List.mem_of_getElem? (i := 4) rfl))) (mvT hZ (hw _ (List.mem_of_getElem? (i := 5) rfl))) (notFace_of_selects (args := #[]) (mvT hZ (hw _ (List.mem_of_getElem? (i := 7) rfl)))) (mvT hZ (hw _ (List.mem_of_getElem? (i := 7) rfl))) (mvT hZ (hw _ (List.mem_of_getElem? (i := 6) rfl))) (by decide) (backOf (W := 0) (own_rm1 l Z a0 hw [] o_MARC21_662 (((97 : Int32) + (p2 &&& (15 : Int32))).toUInt32.toUInt16.toUInt32.toInt32) s_R662 cs v_R662 (5 : Int32) ([97, 98, 99, 100, 102] : List Int32) k_R662 s_U662 v_U662 (2 : Int32) ([103, 104] : List Int32) k_U662 h0 n0 Z0 E_o_MARC21_662 F0_MARC21_662 S_cs hcs Es_R662 Fc_R662 Fv_R662 R1 (by decide) F1_MARC21_662 Es_U662 Fc_U662 Fv_U662 R2 (by decide)) hZ (hw _ (List.mem_of_getElem? (i := 8) rfl)) (hw _ (List.mem_of_getElem? (i := 1) rfl)) (by decide) (by decide)) qa9 qc9 (g := (mkF m 77 #[.val (.int p1), .val (.int p2), .val (.int p3), .val (.int (p1 &&& (3 : Int32))), .val (.ref o_MARC21_662), .val (.int (((97 : Int32) + (p2 &&& (15 : Int32))).toUInt32.toUInt16.toUInt32.toInt32))] [(.int (((97 : Int32) + (p2 &&& (15 : Int32))).toUInt32.toUInt16.toUInt32.toInt32)), (.ref o_MARC21_662)])) rfl (by rw [hml]; rfl) (Steps.refl _) (argsL := [(.int (((97 : Int32) + (p2 &&& (15 : Int32))).toUInt32.toUInt16.toUInt32.toInt32))]) (rest := []) (lenOf own_pd7 rfl) rfl (by show 2 * 0 + _ ≤ _; exact Nat.le_of_eq rfl) (hb hby at_77) (fun _ _ => ⟨rfl, e6, (by decide : 0 + 0 ≤ _), (by decide : 0 + 0 ≤ _)⟩)
      dsimp only [Pt.U, Pt.locs, Pt.cells, Pt.slots] at X9 l9 y9 z9 st9 hQ9
      subst l9 y9 z9
      obtain ⟨r9_r, rfl, Nq9, eq9, h9_hr⟩ := hQ9
      refine OE.of (fun _ k => st9.trans k) ?_
      have N9 := Fr.app N0 Nq9
      show OE _ p e below s _ _ _ T9 (mkF m 80 #[.val (.int p1), .val (.int p2), .val (.int p3), .val (.int (p1 &&& (3 : Int32))), .val (.ref o_MARC21_662), .val (.int (((97 : Int32) + (p2 &&& (15 : Int32))).toUInt32.toUInt16.toUInt32.toInt32))] [(.int r9_r)])
      refine OE.iloadN X9 hx hby at_80 rfl ?_
      refine OE.iload X9 hx hby at_81 rfl ?_
      obtain ⟨_, _, ⟨T10, L10, k10, n10⟩, -, X10, ⟨Lc10, hQ10, l10, y10, z10⟩, st10⟩ := Jvm.LawKit.callS X9 hx (y := (⟨"com/example/placetree/placetree/places/FieldDefinitionIsPlaceLevelPinLaw", "expected", "(IC)Z"⟩ : MethodName)) hown (mvT hZ (hw _ (List.mem_of_getElem? (i := 61) rfl))) (mvT hZ (hw _ (List.mem_of_getElem? (i := 62) rfl))) (mvT hZ (hw _ (List.mem_of_getElem? (i := 63) rfl))) (mvT hZ (hw _ (List.mem_of_getElem? (i := 64) rfl))) (by decide) (backOf (W := 1) (own_rm12 l Z a0 hw [] (p1 &&& (3 : Int32)) (((97 : Int32) + (p2 &&& (15 : Int32))).toUInt32.toUInt16.toUInt32.toInt32) h0 n0 Z0 ) hZ (hw _ (List.mem_of_getElem? (i := 64) rfl)) (hw _ (List.mem_of_getElem? (i := 63) rfl)) (by decide) (by decide)) (g := (mkF m 83 #[.val (.int p1), .val (.int p2), .val (.int p3), .val (.int (p1 &&& (3 : Int32))), .val (.ref o_MARC21_662), .val (.int (((97 : Int32) + (p2 &&& (15 : Int32))).toUInt32.toUInt16.toUInt32.toInt32))] [(.int (((97 : Int32) + (p2 &&& (15 : Int32))).toUInt32.toUInt16.toUInt32.toInt32)), (.int (p1 &&& (3 : Int32))), (.int r9_r)])) rfl (by rw [hml]; rfl) (argsL := [(.int (p1 &&& (3 : Int32))), (.int (((97 : Int32) + (p2 &&& (15 : Int32))).toUInt32.toUInt16.toUInt32.toInt32))]) (rest := [(.int r9_r)]) (lenOf own_pd8 rfl) rfl (by show 2 * 0 + _ ≤ _; exact Nat.le_of_eq rfl) (hb hby at_83) (fun _ _ => ⟨rfl, eq9, (by decide : 0 + 0 ≤ _), (by decide : 0 + 0 ≤ _)⟩)
      dsimp only [Pt.U, Pt.locs, Pt.cells, Pt.slots] at X10 l10 y10 z10 st10 hQ10
      subst l10 y10 z10
      obtain ⟨rfl, Nq10, eq10⟩ := hQ10
      refine OE.of (fun _ k => st10 _ k) ?_
      have N10 := Fr.app N9 Nq10
      show OE _ p e below s _ _ _ T10 (mkF m 86 #[.val (.int p1), .val (.int p2), .val (.int p3), .val (.int (p1 &&& (3 : Int32))), .val (.ref o_MARC21_662), .val (.int (((97 : Int32) + (p2 &&& (15 : Int32))).toUInt32.toUInt16.toUInt32.toInt32))] [(.int (own_exp (p1 &&& (3 : Int32)) (((97 : Int32) + (p2 &&& (15 : Int32))).toUInt32.toUInt16.toUInt32.toInt32))), (.int r9_r)])
      refine OE.icmpNo X10 hx hby at_86 (teq (own_f662 (fun q => absurd (hc5.symm.trans q) (by decide)) (fun q => absurd (hc5.symm.trans q) (by decide)) h9_hr : r9_r = (own_exp (p1 &&& (3 : Int32)) (((97 : Int32) + (p2 &&& (15 : Int32))).toUInt32.toUInt16.toUInt32.toInt32)))).2 ?_
      refine OE.iconst X10 hx hby at_89 (1 : Int32) rfl ?_
      refine OE.goto X10 hx hby (pc' := 94) at_90 (h := ?_)
      refine OE.retN X10 hx (t := .boolean) Bd.returns (by simp) Bd.notSynchronized (hb hby at_94) (by decide) (by decide) ?_
      rw [eq10]
      exact ⟨rfl, N10⟩
  · skip
    refine OE.ifYes X0 hx hby (pc' := 16) at_5 (feq hc5).2 (h := ?_)
    refine OE.iloadN X0 hx hby at_16 rfl ?_
    refine OE.iconst X0 hx hby at_17 (1 : Int32) rfl ?_
    by_cases hc18 : (p1 &&& (3 : Int32)) = (1 : Int32)
    · skip
      refine OE.icmpNo X0 hx hby at_18 (teq hc18).2 ?_
      obtain ⟨T11, X11, e11, st11⟩ := getS2 X0 hx hZ hown (host := "") (Or.inl (hw _ (List.mem_of_getElem? (i := 65) rfl))) Via.refl e0 S_MARC21_752 (g := (mkF m 21 #[.val (.int p1), .val (.int p2), .val (.int p3), .val (.int (p1 &&& (3 : Int32))), .unset, .unset] [])) rfl (hb hby at_21)
      refine OE.of st11 ?_
      show OE _ p e below s _ _ _ T11 (mkF m 24 #[.val (.int p1), .val (.int p2), .val (.int p3), .val (.int (p1 &&& (3 : Int32))), .unset, .unset] [(.ref o_MARC21_752)])
      refine OE.astore X11 hx hby at_24 rfl (l' := #[.val (.int p1), .val (.int p2), .val (.int p3), .val (.int (p1 &&& (3 : Int32))), .val (.ref o_MARC21_752), .unset]) rfl ?_
      refine OE.goto X11 hx hby (pc' := 47) at_26 (h := ?_)
      refine OE.iloadN X11 hx hby at_47 rfl ?_
      refine OE.iconst X11 hx hby at_48 (1 : Int32) rfl ?_
      refine OE.iand X11 hx hby at_49 ?_
      by_cases hc50 : (p3 &&& (1 : Int32)) = (0 : Int32)
      · skip
        refine OE.ifYes X11 hx hby (pc' := 66) at_50 (teq hc50).1 (h := ?_)
        refine OE.iloadN X11 hx hby at_66 rfl ?_
        refine OE.of (X11.ldcInt hx hown (mvT hZ (hw _ (List.mem_of_getElem? (i := 3) rfl))) (g := (mkF m 67 #[.val (.int p1), .val (.int p2), .val (.int p3), .val (.int (p1 &&& (3 : Int32))), .val (.ref o_MARC21_752), .unset] [(.int p2)])) rfl (hb hby at_67)) ?_
        show OE _ p e below s _ _ _ T11 (mkF m 69 #[.val (.int p1), .val (.int p2), .val (.int p3), .val (.int (p1 &&& (3 : Int32))), .val (.ref o_MARC21_752), .unset] [(.int (65535 : Int32)), (.int p2)])
        refine OE.iand X11 hx hby at_69 ?_
        refine OE.i2c X11 hx hby at_70 ?_
        refine OE.istore X11 hx hby at_71 (l' := #[.val (.int p1), .val (.int p2), .val (.int p3), .val (.int (p1 &&& (3 : Int32))), .val (.ref o_MARC21_752), .val (.int ((p2 &&& (65535 : Int32)).toUInt32.toUInt16.toUInt32.toInt32))]) rfl ?_
        refine OE.aload X11 hx hby at_73 rfl rfl ?_
        refine OE.iload X11 hx hby at_75 rfl ?_
        obtain ⟨cq12, kq12, qa12, qb12, qc12⟩ := isOf hZ e11 E_o_MARC21_752
        obtain ⟨_, _, ⟨T12, L12, k12, n12⟩, -, X12, ⟨Lc12, hQ12, l12, y12, z12⟩, st12⟩ := X11.virtualBack hx (y := (⟨"com/example/placetree/placetree/places/FieldDefinition", "isPlaceLevel", "(C)Z"⟩ : MethodName)) (z := (⟨"com/example/placetree/placetree/places/FieldDefinition", "isPlaceLevel", "(C)Z"⟩ : MethodName)) hown (mvT hZ (hw _ (List.mem_of_getElem? (i := 4) rfl))) (mvT hZ (hw _ (List.mem_of_getElem? (i := 5) rfl))) (notFace_of_selects (args := #[]) (mvT hZ (hw _ (List.mem_of_getElem? (i := 7) rfl)))) (mvT hZ (hw _ (List.mem_of_getElem? (i := 7) rfl))) (mvT hZ (hw _ (List.mem_of_getElem? (i := 6) rfl))) (by decide) (backOf (W := 0) (own_rm1 l Z a0 hw [] o_MARC21_752 ((p2 &&& (65535 : Int32)).toUInt32.toUInt16.toUInt32.toInt32) s_R662 cs v_R662 (5 : Int32) ([97, 98, 99, 100, 102] : List Int32) k_R662 s_U662 v_U662 (2 : Int32) ([103, 104] : List Int32) k_U662 h0 n0 Z0 E_o_MARC21_752 F0_MARC21_752 S_cs hcs Es_R662 Fc_R662 Fv_R662 R1 (by decide) F1_MARC21_752 Es_U662 Fc_U662 Fv_U662 R2 (by decide)) hZ (hw _ (List.mem_of_getElem? (i := 8) rfl)) (hw _ (List.mem_of_getElem? (i := 1) rfl)) (by decide) (by decide)) qa12 qc12 (g := (mkF m 77 #[.val (.int p1), .val (.int p2), .val (.int p3), .val (.int (p1 &&& (3 : Int32))), .val (.ref o_MARC21_752), .val (.int ((p2 &&& (65535 : Int32)).toUInt32.toUInt16.toUInt32.toInt32))] [(.int ((p2 &&& (65535 : Int32)).toUInt32.toUInt16.toUInt32.toInt32)), (.ref o_MARC21_752)])) rfl (by rw [hml]; rfl) (Steps.refl _) (argsL := [(.int ((p2 &&& (65535 : Int32)).toUInt32.toUInt16.toUInt32.toInt32))]) (rest := []) (lenOf own_pd7 rfl) rfl (by show 2 * 0 + _ ≤ _; exact Nat.le_of_eq rfl) (hb hby at_77) (fun _ _ => ⟨rfl, e11, (by decide : 0 + 0 ≤ _), (by decide : 0 + 0 ≤ _)⟩)
        dsimp only [Pt.U, Pt.locs, Pt.cells, Pt.slots] at X12 l12 y12 z12 st12 hQ12
        subst l12 y12 z12
        obtain ⟨r12_r, rfl, Nq12, eq12, h12_hr⟩ := hQ12
        refine OE.of (fun _ k => st12.trans k) ?_
        have N12 := Fr.app N0 Nq12
        show OE _ p e below s _ _ _ T12 (mkF m 80 #[.val (.int p1), .val (.int p2), .val (.int p3), .val (.int (p1 &&& (3 : Int32))), .val (.ref o_MARC21_752), .val (.int ((p2 &&& (65535 : Int32)).toUInt32.toUInt16.toUInt32.toInt32))] [(.int r12_r)])
        refine OE.iloadN X12 hx hby at_80 rfl ?_
        refine OE.iload X12 hx hby at_81 rfl ?_
        obtain ⟨_, _, ⟨T13, L13, k13, n13⟩, -, X13, ⟨Lc13, hQ13, l13, y13, z13⟩, st13⟩ := Jvm.LawKit.callS X12 hx (y := (⟨"com/example/placetree/placetree/places/FieldDefinitionIsPlaceLevelPinLaw", "expected", "(IC)Z"⟩ : MethodName)) hown (mvT hZ (hw _ (List.mem_of_getElem? (i := 61) rfl))) (mvT hZ (hw _ (List.mem_of_getElem? (i := 62) rfl))) (mvT hZ (hw _ (List.mem_of_getElem? (i := 63) rfl))) (mvT hZ (hw _ (List.mem_of_getElem? (i := 64) rfl))) (by decide) (backOf (W := 1) (own_rm12 l Z a0 hw [] (p1 &&& (3 : Int32)) ((p2 &&& (65535 : Int32)).toUInt32.toUInt16.toUInt32.toInt32) h0 n0 Z0 ) hZ (hw _ (List.mem_of_getElem? (i := 64) rfl)) (hw _ (List.mem_of_getElem? (i := 63) rfl)) (by decide) (by decide)) (g := (mkF m 83 #[.val (.int p1), .val (.int p2), .val (.int p3), .val (.int (p1 &&& (3 : Int32))), .val (.ref o_MARC21_752), .val (.int ((p2 &&& (65535 : Int32)).toUInt32.toUInt16.toUInt32.toInt32))] [(.int ((p2 &&& (65535 : Int32)).toUInt32.toUInt16.toUInt32.toInt32)), (.int (p1 &&& (3 : Int32))), (.int r12_r)])) rfl (by rw [hml]; rfl) (argsL := [(.int (p1 &&& (3 : Int32))), (.int ((p2 &&& (65535 : Int32)).toUInt32.toUInt16.toUInt32.toInt32))]) (rest := [(.int r12_r)]) (lenOf own_pd8 rfl) rfl (by show 2 * 0 + _ ≤ _; exact Nat.le_of_eq rfl) (hb hby at_83) (fun _ _ => ⟨rfl, eq12, (by decide : 0 + 0 ≤ _), (by decide : 0 + 0 ≤ _)⟩)
        dsimp only [Pt.U, Pt.locs, Pt.cells, Pt.slots] at X13 l13 y13 z13 st13 hQ13
        subst l13 y13 z13
        obtain ⟨rfl, Nq13, eq13⟩ := hQ13
        refine OE.of (fun _ k => st13 _ k) ?_
        have N13 := Fr.app N12 Nq13
        show OE _ p e below s _ _ _ T13 (mkF m 86 #[.val (.int p1), .val (.int p2), .val (.int p3), .val (.int (p1 &&& (3 : Int32))), .val (.ref o_MARC21_752), .val (.int ((p2 &&& (65535 : Int32)).toUInt32.toUInt16.toUInt32.toInt32))] [(.int (own_exp (p1 &&& (3 : Int32)) ((p2 &&& (65535 : Int32)).toUInt32.toUInt16.toUInt32.toInt32))), (.int r12_r)])
        refine OE.icmpNo X13 hx hby at_86 (teq (own_f662 (fun q => absurd (hc18.symm.trans q) (by decide)) (fun q => absurd (hc18.symm.trans q) (by decide)) h12_hr : r12_r = (own_exp (p1 &&& (3 : Int32)) ((p2 &&& (65535 : Int32)).toUInt32.toUInt16.toUInt32.toInt32)))).2 ?_
        refine OE.iconst X13 hx hby at_89 (1 : Int32) rfl ?_
        refine OE.goto X13 hx hby (pc' := 94) at_90 (h := ?_)
        refine OE.retN X13 hx (t := .boolean) Bd.returns (by simp) Bd.notSynchronized (hb hby at_94) (by decide) (by decide) ?_
        rw [eq13]
        exact ⟨rfl, N13⟩
      · skip
        refine OE.ifNo X11 hx hby at_50 (feq hc50).1 ?_
        refine OE.bipush X11 hx hby at_53 (97 : Int32) rfl ?_
        refine OE.iloadN X11 hx hby at_55 rfl ?_
        refine OE.bipush X11 hx hby at_56 (15 : Int32) rfl ?_
        refine OE.iand X11 hx hby at_58 ?_
        refine OE.iadd X11 hx hby at_59 ?_
        refine OE.i2c X11 hx hby at_60 ?_
        refine OE.istore X11 hx hby at_61 (l' := #[.val (.int p1), .val (.int p2), .val (.int p3), .val (.int (p1 &&& (3 : Int32))), .val (.ref o_MARC21_752), .val (.int (((97 : Int32) + (p2 &&& (15 : Int32))).toUInt32.toUInt16.toUInt32.toInt32))]) rfl ?_
        refine OE.goto X11 hx hby (pc' := 73) at_63 (h := ?_)
        refine OE.aload X11 hx hby at_73 rfl rfl ?_
        refine OE.iload X11 hx hby at_75 rfl ?_
        obtain ⟨cq14, kq14, qa14, qb14, qc14⟩ := isOf hZ e11 E_o_MARC21_752
        obtain ⟨_, _, ⟨T14, L14, k14, n14⟩, -, X14, ⟨Lc14, hQ14, l14, y14, z14⟩, st14⟩ := X11.virtualBack hx (y := (⟨"com/example/placetree/placetree/places/FieldDefinition", "isPlaceLevel", "(C)Z"⟩ : MethodName)) (z := (⟨"com/example/placetree/placetree/places/FieldDefinition", "isPlaceLevel", "(C)Z"⟩ : MethodName)) hown (mvT hZ (hw _ (List.mem_of_getElem? (i := 4) rfl))) (mvT hZ (hw _ (List.mem_of_getElem? (i := 5) rfl))) (notFace_of_selects (args := #[]) (mvT hZ (hw _ (List.mem_of_getElem? (i := 7) rfl)))) (mvT hZ (hw _ (List.mem_of_getElem? (i := 7) rfl))) (mvT hZ (hw _ (List.mem_of_getElem? (i := 6) rfl))) (by decide) (backOf (W := 0) (own_rm1 l Z a0 hw [] o_MARC21_752 (((97 : Int32) + (p2 &&& (15 : Int32))).toUInt32.toUInt16.toUInt32.toInt32) s_R662 cs v_R662 (5 : Int32) ([97, 98, 99, 100, 102] : List Int32) k_R662 s_U662 v_U662 (2 : Int32) ([103, 104] : List Int32) k_U662 h0 n0 Z0 E_o_MARC21_752 F0_MARC21_752 S_cs hcs Es_R662 Fc_R662 Fv_R662 R1 (by decide) F1_MARC21_752 Es_U662 Fc_U662 Fv_U662 R2 (by decide)) hZ (hw _ (List.mem_of_getElem? (i := 8) rfl)) (hw _ (List.mem_of_getElem? (i := 1) rfl)) (by decide) (by decide)) qa14 qc14 (g := (mkF m 77 #[.val (.int p1), .val (.int p2), .val (.int p3), .val (.int (p1 &&& (3 : Int32))), .val (.ref o_MARC21_752), .val (.int (((97 : Int32) + (p2 &&& (15 : Int32))).toUInt32.toUInt16.toUInt32.toInt32))] [(.int (((97 : Int32) + (p2 &&& (15 : Int32))).toUInt32.toUInt16.toUInt32.toInt32)), (.ref o_MARC21_752)])) rfl (by rw [hml]; rfl) (Steps.refl _) (argsL := [(.int (((97 : Int32) + (p2 &&& (15 : Int32))).toUInt32.toUInt16.toUInt32.toInt32))]) (rest := []) (lenOf own_pd7 rfl) rfl (by show 2 * 0 + _ ≤ _; exact Nat.le_of_eq rfl) (hb hby at_77) (fun _ _ => ⟨rfl, e11, (by decide : 0 + 0 ≤ _), (by decide : 0 + 0 ≤ _)⟩)
        dsimp only [Pt.U, Pt.locs, Pt.cells, Pt.slots] at X14 l14 y14 z14 st14 hQ14
        subst l14 y14 z14
        obtain ⟨r14_r, rfl, Nq14, eq14, h14_hr⟩ := hQ14
        refine OE.of (fun _ k => st14.trans k) ?_
        have N14 := Fr.app N0 Nq14
        show OE _ p e below s _ _ _ T14 (mkF m 80 #[.val (.int p1), .val (.int p2), .val (.int p3), .val (.int (p1 &&& (3 : Int32))), .val (.ref o_MARC21_752), .val (.int (((97 : Int32) + (p2 &&& (15 : Int32))).toUInt32.toUInt16.toUInt32.toInt32))] [(.int r14_r)])
        refine OE.iloadN X14 hx hby at_80 rfl ?_
        refine OE.iload X14 hx hby at_81 rfl ?_
        obtain ⟨_, _, ⟨T15, L15, k15, n15⟩, -, X15, ⟨Lc15, hQ15, l15, y15, z15⟩, st15⟩ := Jvm.LawKit.callS X14 hx (y := (⟨"com/example/placetree/placetree/places/FieldDefinitionIsPlaceLevelPinLaw", "expected", "(IC)Z"⟩ : MethodName)) hown (mvT hZ (hw _ (List.mem_of_getElem? (i := 61) rfl))) (mvT hZ (hw _ (List.mem_of_getElem? (i := 62) rfl))) (mvT hZ (hw _ (List.mem_of_getElem? (i := 63) rfl))) (mvT hZ (hw _ (List.mem_of_getElem? (i := 64) rfl))) (by decide) (backOf (W := 1) (own_rm12 l Z a0 hw [] (p1 &&& (3 : Int32)) (((97 : Int32) + (p2 &&& (15 : Int32))).toUInt32.toUInt16.toUInt32.toInt32) h0 n0 Z0 ) hZ (hw _ (List.mem_of_getElem? (i := 64) rfl)) (hw _ (List.mem_of_getElem? (i := 63) rfl)) (by decide) (by decide)) (g := (mkF m 83 #[.val (.int p1), .val (.int p2), .val (.int p3), .val (.int (p1 &&& (3 : Int32))), .val (.ref o_MARC21_752), .val (.int (((97 : Int32) + (p2 &&& (15 : Int32))).toUInt32.toUInt16.toUInt32.toInt32))] [(.int (((97 : Int32) + (p2 &&& (15 : Int32))).toUInt32.toUInt16.toUInt32.toInt32)), (.int (p1 &&& (3 : Int32))), (.int r14_r)])) rfl (by rw [hml]; rfl) (argsL := [(.int (p1 &&& (3 : Int32))), (.int (((97 : Int32) + (p2 &&& (15 : Int32))).toUInt32.toUInt16.toUInt32.toInt32))]) (rest := [(.int r14_r)]) (lenOf own_pd8 rfl) rfl (by show 2 * 0 + _ ≤ _; exact Nat.le_of_eq rfl) (hb hby at_83) (fun _ _ => ⟨rfl, eq14, (by decide : 0 + 0 ≤ _), (by decide : 0 + 0 ≤ _)⟩)
        dsimp only [Pt.U, Pt.locs, Pt.cells, Pt.slots] at X15 l15 y15 z15 st15 hQ15
        subst l15 y15 z15
        obtain ⟨rfl, Nq15, eq15⟩ := hQ15
        refine OE.of (fun _ k => st15 _ k) ?_
        have N15 := Fr.app N14 Nq15
        show OE _ p e below s _ _ _ T15 (mkF m 86 #[.val (.int p1), .val (.int p2), .val (.int p3), .val (.int (p1 &&& (3 : Int32))), .val (.ref o_MARC21_752), .val (.int (((97 : Int32) + (p2 &&& (15 : Int32))).toUInt32.toUInt16.toUInt32.toInt32))] [(.int (own_exp (p1 &&& (3 : Int32)) (((97 : Int32) + (p2 &&& (15 : Int32))).toUInt32.toUInt16.toUInt32.toInt32))), (.int r14_r)])
        refine OE.icmpNo X15 hx hby at_86 (teq (own_f662 (fun q => absurd (hc18.symm.trans q) (by decide)) (fun q => absurd (hc18.symm.trans q) (by decide)) h14_hr : r14_r = (own_exp (p1 &&& (3 : Int32)) (((97 : Int32) + (p2 &&& (15 : Int32))).toUInt32.toUInt16.toUInt32.toInt32)))).2 ?_
        refine OE.iconst X15 hx hby at_89 (1 : Int32) rfl ?_
        refine OE.goto X15 hx hby (pc' := 94) at_90 (h := ?_)
        refine OE.retN X15 hx (t := .boolean) Bd.returns (by simp) Bd.notSynchronized (hb hby at_94) (by decide) (by decide) ?_
        rw [eq15]
        exact ⟨rfl, N15⟩
    · skip
      refine OE.icmpYes X0 hx hby (pc' := 29) at_18 (feq hc18).2 (h := ?_)
      refine OE.iloadN X0 hx hby at_29 rfl ?_
      refine OE.iconst X0 hx hby at_30 (2 : Int32) rfl ?_
      by_cases hc31 : (p1 &&& (3 : Int32)) = (2 : Int32)
      · skip
        refine OE.icmpNo X0 hx hby at_31 (teq hc31).2 ?_
        obtain ⟨T16, X16, e16, st16⟩ := getS2 X0 hx hZ hown (host := "") (Or.inl (hw _ (List.mem_of_getElem? (i := 69) rfl))) Via.refl e0 S_MARC21_052 (g := (mkF m 34 #[.val (.int p1), .val (.int p2), .val (.int p3), .val (.int (p1 &&& (3 : Int32))), .unset, .unset] [])) rfl (hb hby at_34)
        refine OE.of st16 ?_
        show OE _ p e below s _ _ _ T16 (mkF m 37 #[.val (.int p1), .val (.int p2), .val (.int p3), .val (.int (p1 &&& (3 : Int32))), .unset, .unset] [(.ref o_MARC21_052)])
        refine OE.astore X16 hx hby at_37 rfl (l' := #[.val (.int p1), .val (.int p2), .val (.int p3), .val (.int (p1 &&& (3 : Int32))), .val (.ref o_MARC21_052), .unset]) rfl ?_
        refine OE.goto X16 hx hby (pc' := 47) at_39 (h := ?_)
        refine OE.iloadN X16 hx hby at_47 rfl ?_
        refine OE.iconst X16 hx hby at_48 (1 : Int32) rfl ?_
        refine OE.iand X16 hx hby at_49 ?_
        by_cases hc50 : (p3 &&& (1 : Int32)) = (0 : Int32)
        · skip
          refine OE.ifYes X16 hx hby (pc' := 66) at_50 (teq hc50).1 (h := ?_)
          refine OE.iloadN X16 hx hby at_66 rfl ?_
          refine OE.of (X16.ldcInt hx hown (mvT hZ (hw _ (List.mem_of_getElem? (i := 3) rfl))) (g := (mkF m 67 #[.val (.int p1), .val (.int p2), .val (.int p3), .val (.int (p1 &&& (3 : Int32))), .val (.ref o_MARC21_052), .unset] [(.int p2)])) rfl (hb hby at_67)) ?_
          show OE _ p e below s _ _ _ T16 (mkF m 69 #[.val (.int p1), .val (.int p2), .val (.int p3), .val (.int (p1 &&& (3 : Int32))), .val (.ref o_MARC21_052), .unset] [(.int (65535 : Int32)), (.int p2)])
          refine OE.iand X16 hx hby at_69 ?_
          refine OE.i2c X16 hx hby at_70 ?_
          refine OE.istore X16 hx hby at_71 (l' := #[.val (.int p1), .val (.int p2), .val (.int p3), .val (.int (p1 &&& (3 : Int32))), .val (.ref o_MARC21_052), .val (.int ((p2 &&& (65535 : Int32)).toUInt32.toUInt16.toUInt32.toInt32))]) rfl ?_
          refine OE.aload X16 hx hby at_73 rfl rfl ?_
          refine OE.iload X16 hx hby at_75 rfl ?_
          obtain ⟨cq17, kq17, qa17, qb17, qc17⟩ := isOf hZ e16 E_o_MARC21_052
          obtain ⟨_, _, ⟨T17, L17, k17, n17⟩, -, X17, ⟨Lc17, hQ17, l17, y17, z17⟩, st17⟩ := X16.virtualBack hx (y := (⟨"com/example/placetree/placetree/places/FieldDefinition", "isPlaceLevel", "(C)Z"⟩ : MethodName)) (z := (⟨"com/example/placetree/placetree/places/FieldDefinition", "isPlaceLevel", "(C)Z"⟩ : MethodName)) hown (mvT hZ (hw _ (List.mem_of_getElem? (i := 4) rfl))) (mvT hZ (hw _ (List.mem_of_getElem? (i := 5) rfl))) (notFace_of_selects (args := #[]) (mvT hZ (hw _ (List.mem_of_getElem? (i := 7) rfl)))) (mvT hZ (hw _ (List.mem_of_getElem? (i := 7) rfl))) (mvT hZ (hw _ (List.mem_of_getElem? (i := 6) rfl))) (by decide) (backOf (W := 0) (own_rm1 l Z a0 hw [] o_MARC21_052 ((p2 &&& (65535 : Int32)).toUInt32.toUInt16.toUInt32.toInt32) s_R052 cs v_R052 (0 : Int32) ([] : List Int32) k_R052 s_R052 v_R052 (0 : Int32) ([] : List Int32) k_R052 h0 n0 Z0 E_o_MARC21_052 F0_MARC21_052 S_cs hcs Es_R052 Fc_R052 Fv_R052 R3 (by decide) F1_MARC21_052 Es_R052 Fc_R052 Fv_R052 R3 (by decide)) hZ (hw _ (List.mem_of_getElem? (i := 8) rfl)) (hw _ (List.mem_of_getElem? (i := 1) rfl)) (by decide) (by decide)) qa17 qc17 (g := (mkF m 77 #[.val (.int p1), .val (.int p2), .val (.int p3), .val (.int (p1 &&& (3 : Int32))), .val (.ref o_MARC21_052), .val (.int ((p2 &&& (65535 : Int32)).toUInt32.toUInt16.toUInt32.toInt32))] [(.int ((p2 &&& (65535 : Int32)).toUInt32.toUInt16.toUInt32.toInt32)), (.ref o_MARC21_052)])) rfl (by rw [hml]; rfl) (Steps.refl _) (argsL := [(.int ((p2 &&& (65535 : Int32)).toUInt32.toUInt16.toUInt32.toInt32))]) (rest := []) (lenOf own_pd7 rfl) rfl (by show 2 * 0 + _ ≤ _; exact Nat.le_of_eq rfl) (hb hby at_77) (fun _ _ => ⟨rfl, e16, (by decide : 0 + 0 ≤ _), (by decide : 0 + 0 ≤ _)⟩)
          dsimp only [Pt.U, Pt.locs, Pt.cells, Pt.slots] at X17 l17 y17 z17 st17 hQ17
          subst l17 y17 z17
          obtain ⟨r17_r, rfl, Nq17, eq17, h17_hr⟩ := hQ17
          refine OE.of (fun _ k => st17.trans k) ?_
          have N17 := Fr.app N0 Nq17
          show OE _ p e below s _ _ _ T17 (mkF m 80 #[.val (.int p1), .val (.int p2), .val (.int p3), .val (.int (p1 &&& (3 : Int32))), .val (.ref o_MARC21_052), .val (.int ((p2 &&& (65535 : Int32)).toUInt32.toUInt16.toUInt32.toInt32))] [(.int r17_r)])
          refine OE.iloadN X17 hx hby at_80 rfl ?_
          refine OE.iload X17 hx hby at_81 rfl ?_
          obtain ⟨_, _, ⟨T18, L18, k18, n18⟩, -, X18, ⟨Lc18, hQ18, l18, y18, z18⟩, st18⟩ := Jvm.LawKit.callS X17 hx (y := (⟨"com/example/placetree/placetree/places/FieldDefinitionIsPlaceLevelPinLaw", "expected", "(IC)Z"⟩ : MethodName)) hown (mvT hZ (hw _ (List.mem_of_getElem? (i := 61) rfl))) (mvT hZ (hw _ (List.mem_of_getElem? (i := 62) rfl))) (mvT hZ (hw _ (List.mem_of_getElem? (i := 63) rfl))) (mvT hZ (hw _ (List.mem_of_getElem? (i := 64) rfl))) (by decide) (backOf (W := 1) (own_rm12 l Z a0 hw [] (p1 &&& (3 : Int32)) ((p2 &&& (65535 : Int32)).toUInt32.toUInt16.toUInt32.toInt32) h0 n0 Z0 ) hZ (hw _ (List.mem_of_getElem? (i := 64) rfl)) (hw _ (List.mem_of_getElem? (i := 63) rfl)) (by decide) (by decide)) (g := (mkF m 83 #[.val (.int p1), .val (.int p2), .val (.int p3), .val (.int (p1 &&& (3 : Int32))), .val (.ref o_MARC21_052), .val (.int ((p2 &&& (65535 : Int32)).toUInt32.toUInt16.toUInt32.toInt32))] [(.int ((p2 &&& (65535 : Int32)).toUInt32.toUInt16.toUInt32.toInt32)), (.int (p1 &&& (3 : Int32))), (.int r17_r)])) rfl (by rw [hml]; rfl) (argsL := [(.int (p1 &&& (3 : Int32))), (.int ((p2 &&& (65535 : Int32)).toUInt32.toUInt16.toUInt32.toInt32))]) (rest := [(.int r17_r)]) (lenOf own_pd8 rfl) rfl (by show 2 * 0 + _ ≤ _; exact Nat.le_of_eq rfl) (hb hby at_83) (fun _ _ => ⟨rfl, eq17, (by decide : 0 + 0 ≤ _), (by decide : 0 + 0 ≤ _)⟩)
          dsimp only [Pt.U, Pt.locs, Pt.cells, Pt.slots] at X18 l18 y18 z18 st18 hQ18
          subst l18 y18 z18
          obtain ⟨rfl, Nq18, eq18⟩ := hQ18
          refine OE.of (fun _ k => st18 _ k) ?_
          have N18 := Fr.app N17 Nq18
          show OE _ p e below s _ _ _ T18 (mkF m 86 #[.val (.int p1), .val (.int p2), .val (.int p3), .val (.int (p1 &&& (3 : Int32))), .val (.ref o_MARC21_052), .val (.int ((p2 &&& (65535 : Int32)).toUInt32.toUInt16.toUInt32.toInt32))] [(.int (own_exp (p1 &&& (3 : Int32)) ((p2 &&& (65535 : Int32)).toUInt32.toUInt16.toUInt32.toInt32))), (.int r17_r)])
          refine OE.icmpNo X18 hx hby at_86 (teq (own_f052 hc31 h17_hr : r17_r = (own_exp (p1 &&& (3 : Int32)) ((p2 &&& (65535 : Int32)).toUInt32.toUInt16.toUInt32.toInt32)))).2 ?_
          refine OE.iconst X18 hx hby at_89 (1 : Int32) rfl ?_
          refine OE.goto X18 hx hby (pc' := 94) at_90 (h := ?_)
          refine OE.retN X18 hx (t := .boolean) Bd.returns (by simp) Bd.notSynchronized (hb hby at_94) (by decide) (by decide) ?_
          rw [eq18]
          exact ⟨rfl, N18⟩
        · skip
          refine OE.ifNo X16 hx hby at_50 (feq hc50).1 ?_
          refine OE.bipush X16 hx hby at_53 (97 : Int32) rfl ?_
          refine OE.iloadN X16 hx hby at_55 rfl ?_
          refine OE.bipush X16 hx hby at_56 (15 : Int32) rfl ?_
          refine OE.iand X16 hx hby at_58 ?_
          refine OE.iadd X16 hx hby at_59 ?_
          refine OE.i2c X16 hx hby at_60 ?_
          refine OE.istore X16 hx hby at_61 (l' := #[.val (.int p1), .val (.int p2), .val (.int p3), .val (.int (p1 &&& (3 : Int32))), .val (.ref o_MARC21_052), .val (.int (((97 : Int32) + (p2 &&& (15 : Int32))).toUInt32.toUInt16.toUInt32.toInt32))]) rfl ?_
          refine OE.goto X16 hx hby (pc' := 73) at_63 (h := ?_)
          refine OE.aload X16 hx hby at_73 rfl rfl ?_
          refine OE.iload X16 hx hby at_75 rfl ?_
          obtain ⟨cq19, kq19, qa19, qb19, qc19⟩ := isOf hZ e16 E_o_MARC21_052
          obtain ⟨_, _, ⟨T19, L19, k19, n19⟩, -, X19, ⟨Lc19, hQ19, l19, y19, z19⟩, st19⟩ := X16.virtualBack hx (y := (⟨"com/example/placetree/placetree/places/FieldDefinition", "isPlaceLevel", "(C)Z"⟩ : MethodName)) (z := (⟨"com/example/placetree/placetree/places/FieldDefinition", "isPlaceLevel", "(C)Z"⟩ : MethodName)) hown (mvT hZ (hw _ (List.mem_of_getElem? (i := 4) rfl))) (mvT hZ (hw _ (List.mem_of_getElem? (i := 5) rfl))) (notFace_of_selects (args := #[]) (mvT hZ (hw _ (List.mem_of_getElem? (i := 7) rfl)))) (mvT hZ (hw _ (List.mem_of_getElem? (i := 7) rfl))) (mvT hZ (hw _ (List.mem_of_getElem? (i := 6) rfl))) (by decide) (backOf (W := 0) (own_rm1 l Z a0 hw [] o_MARC21_052 (((97 : Int32) + (p2 &&& (15 : Int32))).toUInt32.toUInt16.toUInt32.toInt32) s_R052 cs v_R052 (0 : Int32) ([] : List Int32) k_R052 s_R052 v_R052 (0 : Int32) ([] : List Int32) k_R052 h0 n0 Z0 E_o_MARC21_052 F0_MARC21_052 S_cs hcs Es_R052 Fc_R052 Fv_R052 R3 (by decide) F1_MARC21_052 Es_R052 Fc_R052 Fv_R052 R3 (by decide)) hZ (hw _ (List.mem_of_getElem? (i := 8) rfl)) (hw _ (List.mem_of_getElem? (i := 1) rfl)) (by decide) (by decide)) qa19 qc19 (g := (mkF m 77 #[.val (.int p1), .val (.int p2), .val (.int p3), .val (.int (p1 &&& (3 : Int32))), .val (.ref o_MARC21_052), .val (.int (((97 : Int32) + (p2 &&& (15 : Int32))).toUInt32.toUInt16.toUInt32.toInt32))] [(.int (((97 : Int32) + (p2 &&& (15 : Int32))).toUInt32.toUInt16.toUInt32.toInt32)), (.ref o_MARC21_052)])) rfl (by rw [hml]; rfl) (Steps.refl _) (argsL := [(.int (((97 : Int32) + (p2 &&& (15 : Int32))).toUInt32.toUInt16.toUInt32.toInt32))]) (rest := []) (lenOf own_pd7 rfl) rfl (by show 2 * 0 + _ ≤ _; exact Nat.le_of_eq rfl) (hb hby at_77) (fun _ _ => ⟨rfl, e16, (by decide : 0 + 0 ≤ _), (by decide : 0 + 0 ≤ _)⟩)
          dsimp only [Pt.U, Pt.locs, Pt.cells, Pt.slots] at X19 l19 y19 z19 st19 hQ19
          subst l19 y19 z19
          obtain ⟨r19_r, rfl, Nq19, eq19, h19_hr⟩ := hQ19
          refine OE.of (fun _ k => st19.trans k) ?_
          have N19 := Fr.app N0 Nq19
          show OE _ p e below s _ _ _ T19 (mkF m 80 #[.val (.int p1), .val (.int p2), .val (.int p3), .val (.int (p1 &&& (3 : Int32))), .val (.ref o_MARC21_052), .val (.int (((97 : Int32) + (p2 &&& (15 : Int32))).toUInt32.toUInt16.toUInt32.toInt32))] [(.int r19_r)])
          refine OE.iloadN X19 hx hby at_80 rfl ?_
          refine OE.iload X19 hx hby at_81 rfl ?_
          obtain ⟨_, _, ⟨T20, L20, k20, n20⟩, -, X20, ⟨Lc20, hQ20, l20, y20, z20⟩, st20⟩ := Jvm.LawKit.callS X19 hx (y := (⟨"com/example/placetree/placetree/places/FieldDefinitionIsPlaceLevelPinLaw", "expected", "(IC)Z"⟩ : MethodName)) hown (mvT hZ (hw _ (List.mem_of_getElem? (i := 61) rfl))) (mvT hZ (hw _ (List.mem_of_getElem? (i := 62) rfl))) (mvT hZ (hw _ (List.mem_of_getElem? (i := 63) rfl))) (mvT hZ (hw _ (List.mem_of_getElem? (i := 64) rfl))) (by decide) (backOf (W := 1) (own_rm12 l Z a0 hw [] (p1 &&& (3 : Int32)) (((97 : Int32) + (p2 &&& (15 : Int32))).toUInt32.toUInt16.toUInt32.toInt32) h0 n0 Z0 ) hZ (hw _ (List.mem_of_getElem? (i := 64) rfl)) (hw _ (List.mem_of_getElem? (i := 63) rfl)) (by decide) (by decide)) (g := (mkF m 83 #[.val (.int p1), .val (.int p2), .val (.int p3), .val (.int (p1 &&& (3 : Int32))), .val (.ref o_MARC21_052), .val (.int (((97 : Int32) + (p2 &&& (15 : Int32))).toUInt32.toUInt16.toUInt32.toInt32))] [(.int (((97 : Int32) + (p2 &&& (15 : Int32))).toUInt32.toUInt16.toUInt32.toInt32)), (.int (p1 &&& (3 : Int32))), (.int r19_r)])) rfl (by rw [hml]; rfl) (argsL := [(.int (p1 &&& (3 : Int32))), (.int (((97 : Int32) + (p2 &&& (15 : Int32))).toUInt32.toUInt16.toUInt32.toInt32))]) (rest := [(.int r19_r)]) (lenOf own_pd8 rfl) rfl (by show 2 * 0 + _ ≤ _; exact Nat.le_of_eq rfl) (hb hby at_83) (fun _ _ => ⟨rfl, eq19, (by decide : 0 + 0 ≤ _), (by decide : 0 + 0 ≤ _)⟩)
          dsimp only [Pt.U, Pt.locs, Pt.cells, Pt.slots] at X20 l20 y20 z20 st20 hQ20
          subst l20 y20 z20
          obtain ⟨rfl, Nq20, eq20⟩ := hQ20
          refine OE.of (fun _ k => st20 _ k) ?_
          have N20 := Fr.app N19 Nq20
          show OE _ p e below s _ _ _ T20 (mkF m 86 #[.val (.int p1), .val (.int p2), .val (.int p3), .val (.int (p1 &&& (3 : Int32))), .val (.ref o_MARC21_052), .val (.int (((97 : Int32) + (p2 &&& (15 : Int32))).toUInt32.toUInt16.toUInt32.toInt32))] [(.int (own_exp (p1 &&& (3 : Int32)) (((97 : Int32) + (p2 &&& (15 : Int32))).toUInt32.toUInt16.toUInt32.toInt32))), (.int r19_r)])
          refine OE.icmpNo X20 hx hby at_86 (teq (own_f052 hc31 h19_hr : r19_r = (own_exp (p1 &&& (3 : Int32)) (((97 : Int32) + (p2 &&& (15 : Int32))).toUInt32.toUInt16.toUInt32.toInt32)))).2 ?_
          refine OE.iconst X20 hx hby at_89 (1 : Int32) rfl ?_
          refine OE.goto X20 hx hby (pc' := 94) at_90 (h := ?_)
          refine OE.retN X20 hx (t := .boolean) Bd.returns (by simp) Bd.notSynchronized (hb hby at_94) (by decide) (by decide) ?_
          rw [eq20]
          exact ⟨rfl, N20⟩
      · skip
        refine OE.icmpYes X0 hx hby (pc' := 42) at_31 (feq hc31).2 (h := ?_)
        have hk3 := own_three hc5 hc18 hc31
        obtain ⟨T21, X21, e21, st21⟩ := getS2 X0 hx hZ hown (host := "") (Or.inl (hw _ (List.mem_of_getElem? (i := 67) rfl))) Via.refl e0 S_UNIMARC_617 (g := (mkF m 42 #[.val (.int p1), .val (.int p2), .val (.int p3), .val (.int (p1 &&& (3 : Int32))), .unset, .unset] [])) rfl (hb hby at_42)
        refine OE.of st21 ?_
        show OE _ p e below s _ _ _ T21 (mkF m 45 #[.val (.int p1), .val (.int p2), .val (.int p3), .val (.int (p1 &&& (3 : Int32))), .unset, .unset] [(.ref o_UNIMARC_617)])
        refine OE.astore X21 hx hby at_45 rfl (l' := #[.val (.int p1), .val (.int p2), .val (.int p3), .val (.int (p1 &&& (3 : Int32))), .val (.ref o_UNIMARC_617), .unset]) rfl ?_
        refine OE.iloadN X21 hx hby at_47 rfl ?_
        refine OE.iconst X21 hx hby at_48 (1 : Int32) rfl ?_
        refine OE.iand X21 hx hby at_49 ?_
        by_cases hc50 : (p3 &&& (1 : Int32)) = (0 : Int32)
        · skip
          refine OE.ifYes X21 hx hby (pc' := 66) at_50 (teq hc50).1 (h := ?_)
          refine OE.iloadN X21 hx hby at_66 rfl ?_
          refine OE.of (X21.ldcInt hx hown (mvT hZ (hw _ (List.mem_of_getElem? (i := 3) rfl))) (g := (mkF m 67 #[.val (.int p1), .val (.int p2), .val (.int p3), .val (.int (p1 &&& (3 : Int32))), .val (.ref o_UNIMARC_617), .unset] [(.int p2)])) rfl (hb hby at_67)) ?_
          show OE _ p e below s _ _ _ T21 (mkF m 69 #[.val (.int p1), .val (.int p2), .val (.int p3), .val (.int (p1 &&& (3 : Int32))), .val (.ref o_UNIMARC_617), .unset] [(.int (65535 : Int32)), (.int p2)])
          refine OE.iand X21 hx hby at_69 ?_
          refine OE.i2c X21 hx hby at_70 ?_
          refine OE.istore X21 hx hby at_71 (l' := #[.val (.int p1), .val (.int p2), .val (.int p3), .val (.int (p1 &&& (3 : Int32))), .val (.ref o_UNIMARC_617), .val (.int ((p2 &&& (65535 : Int32)).toUInt32.toUInt16.toUInt32.toInt32))]) rfl ?_
          refine OE.aload X21 hx hby at_73 rfl rfl ?_
          refine OE.iload X21 hx hby at_75 rfl ?_
          obtain ⟨cq22, kq22, qa22, qb22, qc22⟩ := isOf hZ e21 E_o_UNIMARC_617
          obtain ⟨_, _, ⟨T22, L22, k22, n22⟩, -, X22, ⟨Lc22, hQ22, l22, y22, z22⟩, st22⟩ := X21.virtualBack hx (y := (⟨"com/example/placetree/placetree/places/FieldDefinition", "isPlaceLevel", "(C)Z"⟩ : MethodName)) (z := (⟨"com/example/placetree/placetree/places/FieldDefinition", "isPlaceLevel", "(C)Z"⟩ : MethodName)) hown (mvT hZ (hw _ (List.mem_of_getElem? (i := 4) rfl))) (mvT hZ (hw _ (List.mem_of_getElem? (i := 5) rfl))) (notFace_of_selects (args := #[]) (mvT hZ (hw _ (List.mem_of_getElem? (i := 7) rfl)))) (mvT hZ (hw _ (List.mem_of_getElem? (i := 7) rfl))) (mvT hZ (hw _ (List.mem_of_getElem? (i := 6) rfl))) (by decide) (backOf (W := 0) (own_rm1 l Z a0 hw [] o_UNIMARC_617 ((p2 &&& (65535 : Int32)).toUInt32.toUInt16.toUInt32.toInt32) s_R617 cs v_R617 (7 : Int32) ([111, 97, 98, 99, 100, 107, 101] : List Int32) k_R617 s_U617 v_U617 (2 : Int32) ([109, 110] : List Int32) k_U617 h0 n0 Z0 E_o_UNIMARC_617 F0_UNIMARC_617 S_cs hcs Es_R617 Fc_R617 Fv_R617 R4 (by decide) F1_UNIMARC_617 Es_U617 Fc_U617 Fv_U617 R5 (by decide)) hZ (hw _ (List.mem_of_getElem? (i := 8) rfl)) (hw _ (List.mem_of_getElem? (i := 1) rfl)) (by decide) (by decide)) qa22 qc22 (g := (mkF m 77 #[.val (.int p1), .val (.int p2), .val (.int p3), .val (.int (p1 &&& (3 : Int32))), .val (.ref o_UNIMARC_617), .val (.int ((p2 &&& (65535 : Int32)).toUInt32.toUInt16.toUInt32.toInt32))] [(.int ((p2 &&& (65535 : Int32)).toUInt32.toUInt16.toUInt32.toInt32)), (.ref o_UNIMARC_617)])) rfl (by rw [hml]; rfl) (Steps.refl _) (argsL := [(.int ((p2 &&& (65535 : Int32)).toUInt32.toUInt16.toUInt32.toInt32))]) (rest := []) (lenOf own_pd7 rfl) rfl (by show 2 * 0 + _ ≤ _; exact Nat.le_of_eq rfl) (hb hby at_77) (fun _ _ => ⟨rfl, e21, (by decide : 0 + 0 ≤ _), (by decide : 0 + 0 ≤ _)⟩)
          dsimp only [Pt.U, Pt.locs, Pt.cells, Pt.slots] at X22 l22 y22 z22 st22 hQ22
          subst l22 y22 z22
          obtain ⟨r22_r, rfl, Nq22, eq22, h22_hr⟩ := hQ22
          refine OE.of (fun _ k => st22.trans k) ?_
          have N22 := Fr.app N0 Nq22
          show OE _ p e below s _ _ _ T22 (mkF m 80 #[.val (.int p1), .val (.int p2), .val (.int p3), .val (.int (p1 &&& (3 : Int32))), .val (.ref o_UNIMARC_617), .val (.int ((p2 &&& (65535 : Int32)).toUInt32.toUInt16.toUInt32.toInt32))] [(.int r22_r)])
          refine OE.iloadN X22 hx hby at_80 rfl ?_
          refine OE.iload X22 hx hby at_81 rfl ?_
          obtain ⟨_, _, ⟨T23, L23, k23, n23⟩, -, X23, ⟨Lc23, hQ23, l23, y23, z23⟩, st23⟩ := Jvm.LawKit.callS X22 hx (y := (⟨"com/example/placetree/placetree/places/FieldDefinitionIsPlaceLevelPinLaw", "expected", "(IC)Z"⟩ : MethodName)) hown (mvT hZ (hw _ (List.mem_of_getElem? (i := 61) rfl))) (mvT hZ (hw _ (List.mem_of_getElem? (i := 62) rfl))) (mvT hZ (hw _ (List.mem_of_getElem? (i := 63) rfl))) (mvT hZ (hw _ (List.mem_of_getElem? (i := 64) rfl))) (by decide) (backOf (W := 1) (own_rm12 l Z a0 hw [] (p1 &&& (3 : Int32)) ((p2 &&& (65535 : Int32)).toUInt32.toUInt16.toUInt32.toInt32) h0 n0 Z0 ) hZ (hw _ (List.mem_of_getElem? (i := 64) rfl)) (hw _ (List.mem_of_getElem? (i := 63) rfl)) (by decide) (by decide)) (g := (mkF m 83 #[.val (.int p1), .val (.int p2), .val (.int p3), .val (.int (p1 &&& (3 : Int32))), .val (.ref o_UNIMARC_617), .val (.int ((p2 &&& (65535 : Int32)).toUInt32.toUInt16.toUInt32.toInt32))] [(.int ((p2 &&& (65535 : Int32)).toUInt32.toUInt16.toUInt32.toInt32)), (.int (p1 &&& (3 : Int32))), (.int r22_r)])) rfl (by rw [hml]; rfl) (argsL := [(.int (p1 &&& (3 : Int32))), (.int ((p2 &&& (65535 : Int32)).toUInt32.toUInt16.toUInt32.toInt32))]) (rest := [(.int r22_r)]) (lenOf own_pd8 rfl) rfl (by show 2 * 0 + _ ≤ _; exact Nat.le_of_eq rfl) (hb hby at_83) (fun _ _ => ⟨rfl, eq22, (by decide : 0 + 0 ≤ _), (by decide : 0 + 0 ≤ _)⟩)
          dsimp only [Pt.U, Pt.locs, Pt.cells, Pt.slots] at X23 l23 y23 z23 st23 hQ23
          subst l23 y23 z23
          obtain ⟨rfl, Nq23, eq23⟩ := hQ23
          refine OE.of (fun _ k => st23 _ k) ?_
          have N23 := Fr.app N22 Nq23
          show OE _ p e below s _ _ _ T23 (mkF m 86 #[.val (.int p1), .val (.int p2), .val (.int p3), .val (.int (p1 &&& (3 : Int32))), .val (.ref o_UNIMARC_617), .val (.int ((p2 &&& (65535 : Int32)).toUInt32.toUInt16.toUInt32.toInt32))] [(.int (own_exp (p1 &&& (3 : Int32)) ((p2 &&& (65535 : Int32)).toUInt32.toUInt16.toUInt32.toInt32))), (.int r22_r)])
          refine OE.icmpNo X23 hx hby at_86 (teq (own_f617 hc31 hk3 h22_hr : r22_r = (own_exp (p1 &&& (3 : Int32)) ((p2 &&& (65535 : Int32)).toUInt32.toUInt16.toUInt32.toInt32)))).2 ?_
          refine OE.iconst X23 hx hby at_89 (1 : Int32) rfl ?_
          refine OE.goto X23 hx hby (pc' := 94) at_90 (h := ?_)
          refine OE.retN X23 hx (t := .boolean) Bd.returns (by simp) Bd.notSynchronized (hb hby at_94) (by decide) (by decide) ?_
          rw [eq23]
          exact ⟨rfl, N23⟩
        · skip
          refine OE.ifNo X21 hx hby at_50 (feq hc50).1 ?_
          refine OE.bipush X21 hx hby at_53 (97 : Int32) rfl ?_
          refine OE.iloadN X21 hx hby at_55 rfl ?_
          refine OE.bipush X21 hx hby at_56 (15 : Int32) rfl ?_
          refine OE.iand X21 hx hby at_58 ?_
          refine OE.iadd X21 hx hby at_59 ?_
          refine OE.i2c X21 hx hby at_60 ?_
          refine OE.istore X21 hx hby at_61 (l' := #[.val (.int p1), .val (.int p2), .val (.int p3), .val (.int (p1 &&& (3 : Int32))), .val (.ref o_UNIMARC_617), .val (.int (((97 : Int32) + (p2 &&& (15 : Int32))).toUInt32.toUInt16.toUInt32.toInt32))]) rfl ?_
          refine OE.goto X21 hx hby (pc' := 73) at_63 (h := ?_)
          refine OE.aload X21 hx hby at_73 rfl rfl ?_
          refine OE.iload X21 hx hby at_75 rfl ?_
          obtain ⟨cq24, kq24, qa24, qb24, qc24⟩ := isOf hZ e21 E_o_UNIMARC_617
          obtain ⟨_, _, ⟨T24, L24, k24, n24⟩, -, X24, ⟨Lc24, hQ24, l24, y24, z24⟩, st24⟩ := X21.virtualBack hx (y := (⟨"com/example/placetree/placetree/places/FieldDefinition", "isPlaceLevel", "(C)Z"⟩ : MethodName)) (z := (⟨"com/example/placetree/placetree/places/FieldDefinition", "isPlaceLevel", "(C)Z"⟩ : MethodName)) hown (mvT hZ (hw _ (List.mem_of_getElem? (i := 4) rfl))) (mvT hZ (hw _ (List.mem_of_getElem? (i := 5) rfl))) (notFace_of_selects (args := #[]) (mvT hZ (hw _ (List.mem_of_getElem? (i := 7) rfl)))) (mvT hZ (hw _ (List.mem_of_getElem? (i := 7) rfl))) (mvT hZ (hw _ (List.mem_of_getElem? (i := 6) rfl))) (by decide) (backOf (W := 0) (own_rm1 l Z a0 hw [] o_UNIMARC_617 (((97 : Int32) + (p2 &&& (15 : Int32))).toUInt32.toUInt16.toUInt32.toInt32) s_R617 cs v_R617 (7 : Int32) ([111, 97, 98, 99, 100, 107, 101] : List Int32) k_R617 s_U617 v_U617 (2 : Int32) ([109, 110] : List Int32) k_U617 h0 n0 Z0 E_o_UNIMARC_617 F0_UNIMARC_617 S_cs hcs Es_R617 Fc_R617 Fv_R617 R4 (by decide) F1_UNIMARC_617 Es_U617 Fc_U617 Fv_U617 R5 (by decide)) hZ (hw _ (List.mem_of_getElem? (i := 8) rfl)) (hw _ (List.mem_of_getElem? (i := 1) rfl)) (by decide) (by decide)) qa24 qc24 (g := (mkF m 77 #[.val (.int p1), .val (.int p2), .val (.int p3), .val (.int (p1 &&& (3 : Int32))), .val (.ref o_UNIMARC_617), .val (.int (((97 : Int32) + (p2 &&& (15 : Int32))).toUInt32.toUInt16.toUInt32.toInt32))] [(.int (((97 : Int32) + (p2 &&& (15 : Int32))).toUInt32.toUInt16.toUInt32.toInt32)), (.ref o_UNIMARC_617)])) rfl (by rw [hml]; rfl) (Steps.refl _) (argsL := [(.int (((97 : Int32) + (p2 &&& (15 : Int32))).toUInt32.toUInt16.toUInt32.toInt32))]) (rest := []) (lenOf own_pd7 rfl) rfl (by show 2 * 0 + _ ≤ _; exact Nat.le_of_eq rfl) (hb hby at_77) (fun _ _ => ⟨rfl, e21, (by decide : 0 + 0 ≤ _), (by decide : 0 + 0 ≤ _)⟩)
          dsimp only [Pt.U, Pt.locs, Pt.cells, Pt.slots] at X24 l24 y24 z24 st24 hQ24
          subst l24 y24 z24
          obtain ⟨r24_r, rfl, Nq24, eq24, h24_hr⟩ := hQ24
          refine OE.of (fun _ k => st24.trans k) ?_
          have N24 := Fr.app N0 Nq24
          show OE _ p e below s _ _ _ T24 (mkF m 80 #[.val (.int p1), .val (.int p2), .val (.int p3), .val (.int (p1 &&& (3 : Int32))), .val (.ref o_UNIMARC_617), .val (.int (((97 : Int32) + (p2 &&& (15 : Int32))).toUInt32.toUInt16.toUInt32.toInt32))] [(.int r24_r)])
          refine OE.iloadN X24 hx hby at_80 rfl ?_
          refine OE.iload X24 hx hby at_81 rfl ?_
          obtain ⟨_, _, ⟨T25, L25, k25, n25⟩, -, X25, ⟨Lc25, hQ25, l25, y25, z25⟩, st25⟩ := Jvm.LawKit.callS X24 hx (y := (⟨"com/example/placetree/placetree/places/FieldDefinitionIsPlaceLevelPinLaw", "expected", "(IC)Z"⟩ : MethodName)) hown (mvT hZ (hw _ (List.mem_of_getElem? (i := 61) rfl))) (mvT hZ (hw _ (List.mem_of_getElem? (i := 62) rfl))) (mvT hZ (hw _ (List.mem_of_getElem? (i := 63) rfl))) (mvT hZ (hw _ (List.mem_of_getElem? (i := 64) rfl))) (by decide) (backOf (W := 1) (own_rm12 l Z a0 hw [] (p1 &&& (3 : Int32)) (((97 : Int32) + (p2 &&& (15 : Int32))).toUInt32.toUInt16.toUInt32.toInt32) h0 n0 Z0 ) hZ (hw _ (List.mem_of_getElem? (i := 64) rfl)) (hw _ (List.mem_of_getElem? (i := 63) rfl)) (by decide) (by decide)) (g := (mkF m 83 #[.val (.int p1), .val (.int p2), .val (.int p3), .val (.int (p1 &&& (3 : Int32))), .val (.ref o_UNIMARC_617), .val (.int (((97 : Int32) + (p2 &&& (15 : Int32))).toUInt32.toUInt16.toUInt32.toInt32))] [(.int (((97 : Int32) + (p2 &&& (15 : Int32))).toUInt32.toUInt16.toUInt32.toInt32)), (.int (p1 &&& (3 : Int32))), (.int r24_r)])) rfl (by rw [hml]; rfl) (argsL := [(.int (p1 &&& (3 : Int32))), (.int (((97 : Int32) + (p2 &&& (15 : Int32))).toUInt32.toUInt16.toUInt32.toInt32))]) (rest := [(.int r24_r)]) (lenOf own_pd8 rfl) rfl (by show 2 * 0 + _ ≤ _; exact Nat.le_of_eq rfl) (hb hby at_83) (fun _ _ => ⟨rfl, eq24, (by decide : 0 + 0 ≤ _), (by decide : 0 + 0 ≤ _)⟩)
          dsimp only [Pt.U, Pt.locs, Pt.cells, Pt.slots] at X25 l25 y25 z25 st25 hQ25
          subst l25 y25 z25
          obtain ⟨rfl, Nq25, eq25⟩ := hQ25
          refine OE.of (fun _ k => st25 _ k) ?_
          have N25 := Fr.app N24 Nq25
          show OE _ p e below s _ _ _ T25 (mkF m 86 #[.val (.int p1), .val (.int p2), .val (.int p3), .val (.int (p1 &&& (3 : Int32))), .val (.ref o_UNIMARC_617), .val (.int (((97 : Int32) + (p2 &&& (15 : Int32))).toUInt32.toUInt16.toUInt32.toInt32))] [(.int (own_exp (p1 &&& (3 : Int32)) (((97 : Int32) + (p2 &&& (15 : Int32))).toUInt32.toUInt16.toUInt32.toInt32))), (.int r24_r)])
          refine OE.icmpNo X25 hx hby at_86 (teq (own_f617 hc31 hk3 h24_hr : r24_r = (own_exp (p1 &&& (3 : Int32)) (((97 : Int32) + (p2 &&& (15 : Int32))).toUInt32.toUInt16.toUInt32.toInt32)))).2 ?_
          refine OE.iconst X25 hx hby at_89 (1 : Int32) rfl ?_
          refine OE.goto X25 hx hby (pc' := 94) at_90 (h := ?_)
          refine OE.retN X25 hx (t := .boolean) Bd.returns (by simp) Bd.notSynchronized (hb hby at_94) (by decide) (by decide) ?_
          rw [eq25]
          exact ⟨rfl, N25⟩
theorem own_lt5 {n : Int32} {sz i : Nat} (h6 : sz < 2 ^ 31) (h5 : Value.int n = Value.int sz.toInt32) (h : (i : Int) < n.toInt) : i < sz := by
  have z := len_toInt h6
  rw [← Value.int.inj h5] at z
  omega
theorem own_eqr {Z : State} {args : Array Value} {X F : Term} {idx : List Nat} {y : Addr} (hF : F.eval args Z none idx Z = some (.ref y)) (h : (Jvm.Cond.eq X F).value args Z none Z idx = some true) : X.eval args Z none idx Z = some (.ref y) := by
  obtain ⟨x, y', e1, e2, k1, k2⟩ := cmp_v (Or.inl h)
  cases hF.symm.trans e2
  obtain ⟨-, k3⟩ := k2
  exact e1.trans (congrArg some (gotT (eq_R e1 hF k3 rfl) h))
theorem own_elem {Z : State} {args : Array Value} {t i : Term} {a : Addr} {cl : Cell} {j v : Int32} {k : Nat} {idx : List Nat} (ht : t.eval args Z none idx Z = some (.ref a)) (hi : i.eval args Z none idx Z = some (.int j)) (hk : j.toNatClampNeg = k) (hc : Z.heap[a]? = some cl) (h : (Term.elem t i).eval args Z none idx Z = some (.int v)) : cl.slots[k]? = some (.int v) := by
  rw [← hk]; exact (elem_in h ht hi hc).2
theorem own_allL {Z : State} {args : Array Value} {t i : Term} {a : Addr} {cl : Cell} {j : Int32} {y : Int64} {v : Int32} {k : Nat} {idx : List Nat} (ht : t.eval args Z none idx Z = some (.ref a)) (hi : i.eval args Z none idx Z = some (.int j)) (hk : j.toNatClampNeg = k) (hc : Z.heap[a]? = some cl) (hy : v.toInt = y.toInt)
    (h : (Term.op1 .i2l (Term.elem t i)).eval args Z none idx Z = some (.long y)) : cl.slots[k]? = some (.int v) := by
  obtain ⟨x, e1, e2⟩ := op1_v h
  cases x with
  | int z =>
    have e3 : z.toInt64 = y := by cases e2; rfl
    have e4 : z = v := Int32.toInt_inj.mp (by rw [← c_i2l z, e3, hy])
    subst e4
    exact own_elem ht hi hk hc e1
  | _ => cases e2
set_option maxRecDepth 65536 in
set_option maxHeartbeats 40000000 in
theorem comes_1 {Post : Tables → Env → Array Value → State → Outcome → State → Prop} (hpost : ∀ tb e args s v u, (limb_1_1.after args s (.returned v) u = true ∧ limb_1_2.after args s (.returned v) u = true ∧ True) → FrameEnd s (.returned v) u (Jvm.fieldLocs frame_1_writes args s ++ Jvm.arrayLocs frame_1_arrays args s ++ Jvm.staticLocs frame_1_statics s) 0 0 → Post tb e args s (.returned v) u) :
    ArmFor flags0 classFile x code maxLocals ret World_1 tables_1 room_1 Calls_1 rest_1 Pre_1 Post := by
  intro l hfl _ _ p e ha hc hk s m args below hf hA hF happ hP
  obtain ⟨hcalls, hrest, hpre⟩ := hP
  obtain ⟨-, -, -, hnamed, -, -, -, hat⟩ := (Spec.applies_iff hf).mp happ
  obtain ⟨hg, hn⟩ := and_e (Cond.before_iff.mp (show (Jvm.Cond.and given_1 narrow_1).before args s = true from hpre))
  obtain ⟨g1, g2⟩ := and_e hg
  obtain ⟨g3, g4⟩ := and_e g2
  obtain ⟨g5, g6⟩ := and_e g4
  obtain ⟨w0, w1, w2, rfl⟩ : ∃ w0 w1 w2 : Value, args = #[w0, w1, w2] := by
    have hs : args.size = 3 := by simpa [Cond.value, given_1] using g1
    obtain ⟨L⟩ := args
    match L, hs with
    | [w0, w1, w2], _ => exact ⟨w0, w1, w2, rfl⟩
  have hw := fun d (hd : d ∈ tables_1) => atoms_spec (ws := Jvm.Cond.code x code maxLocals ret :: tables_1) hat d (List.mem_cons_of_mem _ hd)
  have hfit : Fit s := fun {y c} hc i hi => by
    obtain ⟨ha, rfl⟩ := Array.getElem?_eq_some_iff.mp hc
    have q := List.all_eq_true.mp ((Array.all_eq_true_iff_forall_mem.mp hF) _ (Array.getElem_mem ha)) i (List.mem_range.mpr hi)
    simpa [Array.getElem?_eq_getElem hi] using q
  obtain ⟨hsets, hown0⟩ := atoms_of _ (rest_1_c_eq ▸ (show rest_1_c.before _ s = true from hrest))
  have hr0 := Cond.before_iff.mp hown0
  obtain ⟨i0, ei0⟩ := is_v g3
  obtain rfl : w0 = (.int i0) := Option.some.inj ei0
  obtain ⟨i1, ei1⟩ := is_v g5
  obtain rfl : w1 = (.int i1) := Option.some.inj ei1
  obtain ⟨i2, ei2⟩ := is_v g6
  obtain rfl : w2 = (.int i2) := Option.some.inj ei2
  obtain ⟨n1, n2⟩ := and_e hn
  obtain ⟨n3, n4⟩ := and_e n2
  obtain ⟨n5, n6⟩ := and_e n4
  obtain ⟨n7, n8⟩ := and_e n6
  obtain ⟨n9, n10⟩ := and_e n8
  obtain ⟨n11, n12⟩ := and_e n10
  obtain ⟨n13, n14⟩ := and_e n12
  obtain ⟨n15, n16⟩ := and_e n14
  obtain ⟨n17, n18⟩ := and_e n16
  obtain ⟨n19, n20⟩ := and_e n18
  obtain ⟨n21, n22⟩ := and_e n20
  obtain ⟨n23, n24⟩ := and_e n22
  obtain ⟨n25, n26⟩ := and_e n24
  obtain ⟨n27, n28⟩ := and_e n26
  obtain ⟨n29, n30⟩ := and_e n28
  obtain ⟨n31, n32⟩ := and_e n30
  obtain ⟨n33, n34⟩ := and_e n32
  obtain ⟨n35, n36⟩ := and_e n34
  obtain ⟨n37, n38⟩ := and_e n36
  obtain ⟨n39, n40⟩ := and_e n38
  obtain ⟨n41, n42⟩ := and_e n40
  obtain ⟨n43, n44⟩ := and_e n42
  obtain ⟨n45, n46⟩ := and_e n44
  obtain ⟨n47, n48⟩ := and_e n46
  obtain ⟨n49, n50⟩ := and_e n48
  obtain ⟨n51, n52⟩ := and_e n50
  obtain ⟨n53, n54⟩ := and_e n52
  obtain ⟨n55, n56⟩ := and_e n54
  obtain ⟨n57, n58⟩ := and_e n56
  obtain ⟨n59, n60⟩ := and_e n58
  obtain ⟨n61, n62⟩ := and_e n60
  obtain ⟨n63, n64⟩ := and_e n62
  obtain ⟨n65, n66⟩ := and_e n64
  obtain ⟨n67, n68⟩ := and_e n66
  obtain ⟨n69, n70⟩ := and_e n68
  obtain ⟨n71, n72⟩ := and_e n70
  obtain ⟨o_MARC21_662, e_MARC21_662⟩ := exa_v n1
  have S_MARC21_662 : Sta s s.heap "com/example/placetree/placetree/places/FieldDefinition" "MARC21_662" "Lcom/example/placetree/placetree/places/FieldDefinition;" (.ref o_MARC21_662) := Sta.start e_MARC21_662 (Or.inr ⟨(hw _ (List.mem_of_getElem? (i := 1) rfl)), (hw _ (List.mem_of_getElem? (i := 2) rfl))⟩)
  have E_o_MARC21_662 : Exa s s.heap o_MARC21_662 "com/example/placetree/placetree/places/FieldDefinition" := Exa.start e_MARC21_662 n1
  obtain ⟨o_MARC21_752, e_MARC21_752⟩ := exa_v n23
  have S_MARC21_752 : Sta s s.heap "com/example/placetree/placetree/places/FieldDefinition" "MARC21_752" "Lcom/example/placetree/placetree/places/FieldDefinition;" (.ref o_MARC21_752) := Sta.start e_MARC21_752 (Or.inr ⟨(hw _ (List.mem_of_getElem? (i := 1) rfl)), (hw _ (List.mem_of_getElem? (i := 66) rfl))⟩)
  have E_o_MARC21_752 : Exa s s.heap o_MARC21_752 "com/example/placetree/placetree/places/FieldDefinition" := Exa.start e_MARC21_752 n23
  obtain ⟨o_MARC21_052, e_MARC21_052⟩ := exa_v n39
  have S_MARC21_052 : Sta s s.heap "com/example/placetree/placetree/places/FieldDefinition" "MARC21_052" "Lcom/example/placetree/placetree/places/FieldDefinition;" (.ref o_MARC21_052) := Sta.start e_MARC21_052 (Or.inr ⟨(hw _ (List.mem_of_getElem? (i := 1) rfl)), (hw _ (List.mem_of_getElem? (i := 70) rfl))⟩)
  have E_o_MARC21_052 : Exa s s.heap o_MARC21_052 "com/example/placetree/placetree/places/FieldDefinition" := Exa.start e_MARC21_052 n39
  obtain ⟨o_UNIMARC_617, e_UNIMARC_617⟩ := exa_v n29
  have S_UNIMARC_617 : Sta s s.heap "com/example/placetree/placetree/places/FieldDefinition" "UNIMARC_617" "Lcom/example/placetree/placetree/places/FieldDefinition;" (.ref o_UNIMARC_617) := Sta.start e_UNIMARC_617 (Or.inr ⟨(hw _ (List.mem_of_getElem? (i := 1) rfl)), (hw _ (List.mem_of_getElem? (i := 68) rfl))⟩)
  have E_o_UNIMARC_617 : Exa s s.heap o_UNIMARC_617 "com/example/placetree/placetree/places/FieldDefinition" := Exa.start e_UNIMARC_617 n29
  obtain ⟨s_R662, es_R662⟩ := exa_v n3
  have Es_R662 : Exa s s.heap s_R662 "java/lang/String" := Exa.start es_R662 n3
  have Fc_R662 : Fld s s.heap s_R662 "java/lang/String" "coder" "B" (.int (0 : Int32)) := Fld.start ((fld_at es_R662).symm.trans (eqv_i (Term.int_eval 0) n5))
  obtain ⟨v_R662, ev_R662⟩ := arr_v n7
  have Fv_R662 : Fld s s.heap s_R662 "java/lang/String" "value" "[B" (.ref v_R662) := Fld.start ((fld_at es_R662).symm.trans ev_R662)
  obtain ⟨cl_R662, A_R662⟩ := Arr.start ev_R662 n7
  obtain ⟨q1_R662, q2_R662, q3_R662, q4_R662, q5_R662, q6_R662⟩ := Jvm.Free.SB.Term.length_small (eqv_i (Term.int_eval (5 : Int32)) n9)
  cases ev_R662.symm.trans q3_R662
  cases (A_R662.fin (Vm.Alike.refl _)).symm.trans q4_R662
  have y_R662_0 := Cond.all_elim ev_R662 (A_R662.fin (Vm.Alike.refl _)) n63 0 (own_lt5 (n := (5 : Int32)) (q6_R662) (q5_R662) (by decide))
  rw [Cond.or_of_right (nay (Cond.le_ints (Term.int_eval 4) (Term.index_eval 0)) (by decide))] at y_R662_0
  have x_R662_0 : cl_R662.slots[0]? = some (.int (97 : Int32)) := own_allL (idx := [0]) ev_R662 (Term.index_eval 0) (by decide) A_R662.1 (y := (97 : Int64)) (by decide) (eqv_l rfl y_R662_0)
  have y_R662_1 := Cond.all_elim ev_R662 (A_R662.fin (Vm.Alike.refl _)) n63 1 (own_lt5 (n := (5 : Int32)) (q6_R662) (q5_R662) (by decide))
  rw [Cond.or_of_right (nay (Cond.le_ints (Term.int_eval 4) (Term.index_eval 1)) (by decide))] at y_R662_1
  have x_R662_1 : cl_R662.slots[1]? = some (.int (98 : Int32)) := own_allL (idx := [1]) ev_R662 (Term.index_eval 1) (by decide) A_R662.1 (y := (98 : Int64)) (by decide) (eqv_l rfl y_R662_1)
  have y_R662_2 := Cond.all_elim ev_R662 (A_R662.fin (Vm.Alike.refl _)) n63 2 (own_lt5 (n := (5 : Int32)) (q6_R662) (q5_R662) (by decide))
  rw [Cond.or_of_right (nay (Cond.le_ints (Term.int_eval 4) (Term.index_eval 2)) (by decide))] at y_R662_2
  have x_R662_2 : cl_R662.slots[2]? = some (.int (99 : Int32)) := own_allL (idx := [2]) ev_R662 (Term.index_eval 2) (by decide) A_R662.1 (y := (99 : Int64)) (by decide) (eqv_l rfl y_R662_2)
  have y_R662_3 := Cond.all_elim ev_R662 (A_R662.fin (Vm.Alike.refl _)) n63 3 (own_lt5 (n := (5 : Int32)) (q6_R662) (q5_R662) (by decide))
  rw [Cond.or_of_right (nay (Cond.le_ints (Term.int_eval 4) (Term.index_eval 3)) (by decide))] at y_R662_3
  have x_R662_3 : cl_R662.slots[3]? = some (.int (100 : Int32)) := own_allL (idx := [3]) ev_R662 (Term.index_eval 3) (by decide) A_R662.1 (y := (100 : Int64)) (by decide) (eqv_l rfl y_R662_3)
  have x_R662_4 : cl_R662.slots[4]? = some (.int (102 : Int32)) := own_elem ev_R662 (Term.int_eval (4 : Int32)) (by decide) A_R662.1 (eqv_i (Term.int_eval (102 : Int32)) n65)
  have V_R662 : Arv s s.heap v_R662 cl_R662.cls .byte (5 : Int32) [(.int (97 : Int32)), (.int (98 : Int32)), (.int (99 : Int32)), (.int (100 : Int32)), (.int (102 : Int32))] (.int (0 : Int32)) := Arv.start hfit A_R662 q6_R662 (Value.int.inj q5_R662).symm (by decide) (by decide) ⟨x_R662_0, x_R662_1, x_R662_2, x_R662_3, x_R662_4, trivial⟩
  obtain ⟨s_U662, es_U662⟩ := exa_v n11
  have Es_U662 : Exa s s.heap s_U662 "java/lang/String" := Exa.start es_U662 n11
  have Fc_U662 : Fld s s.heap s_U662 "java/lang/String" "coder" "B" (.int (0 : Int32)) := Fld.start ((fld_at es_U662).symm.trans (eqv_i (Term.int_eval 0) n13))
  obtain ⟨v_U662, ev_U662⟩ := arr_v n15
  have Fv_U662 : Fld s s.heap s_U662 "java/lang/String" "value" "[B" (.ref v_U662) := Fld.start ((fld_at es_U662).symm.trans ev_U662)
  obtain ⟨cl_U662, A_U662⟩ := Arr.start ev_U662 n15
  obtain ⟨q1_U662, q2_U662, q3_U662, q4_U662, q5_U662, q6_U662⟩ := Jvm.Free.SB.Term.length_small (eqv_i (Term.int_eval (2 : Int32)) n17)
  cases ev_U662.symm.trans q3_U662
  cases (A_U662.fin (Vm.Alike.refl _)).symm.trans q4_U662
  have x_U662_0 : cl_U662.slots[0]? = some (.int (103 : Int32)) := own_elem ev_U662 (Term.int_eval (0 : Int32)) (by decide) A_U662.1 (eqv_i (Term.int_eval (103 : Int32)) n19)
  have x_U662_1 : cl_U662.slots[1]? = some (.int (104 : Int32)) := own_elem ev_U662 (Term.int_eval (1 : Int32)) (by decide) A_U662.1 (eqv_i (Term.int_eval (104 : Int32)) n21)
  have V_U662 : Arv s s.heap v_U662 cl_U662.cls .byte (2 : Int32) [(.int (103 : Int32)), (.int (104 : Int32))] (.int (0 : Int32)) := Arv.start hfit A_U662 q6_U662 (Value.int.inj q5_U662).symm (by decide) (by decide) ⟨x_U662_0, x_U662_1, trivial⟩
  obtain ⟨s_R052, es_R052⟩ := exa_v n41
  have Es_R052 : Exa s s.heap s_R052 "java/lang/String" := Exa.start es_R052 n41
  have Fc_R052 : Fld s s.heap s_R052 "java/lang/String" "coder" "B" (.int (0 : Int32)) := Fld.start ((fld_at es_R052).symm.trans (eqv_i (Term.int_eval 0) n43))
  obtain ⟨v_R052, ev_R052⟩ := arr_v n45
  have Fv_R052 : Fld s s.heap s_R052 "java/lang/String" "value" "[B" (.ref v_R052) := Fld.start ((fld_at es_R052).symm.trans ev_R052)
  obtain ⟨cl_R052, A_R052⟩ := Arr.start ev_R052 n45
  obtain ⟨q1_R052, q2_R052, q3_R052, q4_R052, q5_R052, q6_R052⟩ := Jvm.Free.SB.Term.length_small (eqv_i (Term.int_eval (0 : Int32)) n47)
  cases ev_R052.symm.trans q3_R052
  cases (A_R052.fin (Vm.Alike.refl _)).symm.trans q4_R052
  have V_R052 : Arv s s.heap v_R052 cl_R052.cls .byte (0 : Int32) [] (.int (0 : Int32)) := Arv.start hfit A_R052 q6_R052 (Value.int.inj q5_R052).symm (by decide) (by decide) trivial
  obtain ⟨s_R617, es_R617⟩ := exa_v n31
  have Es_R617 : Exa s s.heap s_R617 "java/lang/String" := Exa.start es_R617 n31
  have Fc_R617 : Fld s s.heap s_R617 "java/lang/String" "coder" "B" (.int (0 : Int32)) := Fld.start ((fld_at es_R617).symm.trans (eqv_i (Term.int_eval 0) n33))
  obtain ⟨v_R617, ev_R617⟩ := arr_v n35
  have Fv_R617 : Fld s s.heap s_R617 "java/lang/String" "value" "[B" (.ref v_R617) := Fld.start ((fld_at es_R617).symm.trans ev_R617)
  obtain ⟨cl_R617, A_R617⟩ := Arr.start ev_R617 n35
  obtain ⟨q1_R617, q2_R617, q3_R617, q4_R617, q5_R617, q6_R617⟩ := Jvm.Free.SB.Term.length_small (eqv_i (Term.int_eval (7 : Int32)) n37)
  cases ev_R617.symm.trans q3_R617
  cases (A_R617.fin (Vm.Alike.refl _)).symm.trans q4_R617
  have x_R617_0 : cl_R617.slots[0]? = some (.int (111 : Int32)) := own_elem ev_R617 (Term.int_eval (0 : Int32)) (by decide) A_R617.1 (eqv_i (Term.int_eval (111 : Int32)) n67)
  have y_R617_1 := Cond.all_elim ev_R617 (A_R617.fin (Vm.Alike.refl _)) n69 1 (own_lt5 (n := (7 : Int32)) (q6_R617) (q5_R617) (by decide))
  rw [Cond.or_of_right (nay (Cond.lt_ints (Term.index_eval 1) (Term.int_eval 1)) (by decide)), Cond.or_of_right (nay (Cond.le_ints (Term.int_eval 5) (Term.index_eval 1)) (by decide))] at y_R617_1
  have x_R617_1 : cl_R617.slots[1]? = some (.int (97 : Int32)) := own_allL (idx := [1]) ev_R617 (Term.index_eval 1) (by decide) A_R617.1 (y := (97 : Int64)) (by decide) (eqv_l rfl y_R617_1)
  have y_R617_2 := Cond.all_elim ev_R617 (A_R617.fin (Vm.Alike.refl _)) n69 2 (own_lt5 (n := (7 : Int32)) (q6_R617) (q5_R617) (by decide))
  rw [Cond.or_of_right (nay (Cond.lt_ints (Term.index_eval 2) (Term.int_eval 1)) (by decide)), Cond.or_of_right (nay (Cond.le_ints (Term.int_eval 5) (Term.index_eval 2)) (by decide))] at y_R617_2
  have x_R617_2 : cl_R617.slots[2]? = some (.int (98 : Int32)) := own_allL (idx := [2]) ev_R617 (Term.index_eval 2) (by decide) A_R617.1 (y := (98 : Int64)) (by decide) (eqv_l rfl y_R617_2)
  have y_R617_3 := Cond.all_elim ev_R617 (A_R617.fin (Vm.Alike.refl _)) n69 3 (own_lt5 (n := (7 : Int32)) (q6_R617) (q5_R617) (by decide))
  rw [Cond.or_of_right (nay (Cond.lt_ints (Term.index_eval 3) (Term.int_eval 1)) (by decide)), Cond.or_of_right (nay (Cond.le_ints (Term.int_eval 5) (Term.index_eval 3)) (by decide))] at y_R617_3
  have x_R617_3 : cl_R617.slots[3]? = some (.int (99 : Int32)) := own_allL (idx := [3]) ev_R617 (Term.index_eval 3) (by decide) A_R617.1 (y := (99 : Int64)) (by decide) (eqv_l rfl y_R617_3)
  have y_R617_4 := Cond.all_elim ev_R617 (A_R617.fin (Vm.Alike.refl _)) n69 4 (own_lt5 (n := (7 : Int32)) (q6_R617) (q5_R617) (by decide))
  rw [Cond.or_of_right (nay (Cond.lt_ints (Term.index_eval 4) (Term.int_eval 1)) (by decide)), Cond.or_of_right (nay (Cond.le_ints (Term.int_eval 5) (Term.index_eval 4)) (by decide))] at y_R617_4
  have x_R617_4 : cl_R617.slots[4]? = some (.int (100 : Int32)) := own_allL (idx := [4]) ev_R617 (Term.index_eval 4) (by decide) A_R617.1 (y := (100 : Int64)) (by decide) (eqv_l rfl y_R617_4)
  have x_R617_5 : cl_R617.slots[5]? = some (.int (107 : Int32)) := own_elem ev_R617 (Term.int_eval (5 : Int32)) (by decide) A_R617.1 (eqv_i (Term.int_eval (107 : Int32)) n71)
  have x_R617_6 : cl_R617.slots[6]? = some (.int (101 : Int32)) := own_elem ev_R617 (Term.int_eval (6 : Int32)) (by decide) A_R617.1 (eqv_i (Term.int_eval (101 : Int32)) n72)
  have V_R617 : Arv s s.heap v_R617 cl_R617.cls .byte (7 : Int32) [(.int (111 : Int32)), (.int (97 : Int32)), (.int (98 : Int32)), (.int (99 : Int32)), (.int (100 : Int32)), (.int (107 : Int32)), (.int (101 : Int32))] (.int (0 : Int32)) := Arv.start hfit A_R617 q6_R617 (Value.int.inj q5_R617).symm (by decide) (by decide) ⟨x_R617_0, x_R617_1, x_R617_2, x_R617_3, x_R617_4, x_R617_5, x_R617_6, trivial⟩
  obtain ⟨s_U617, es_U617⟩ := exa_v n51
  have Es_U617 : Exa s s.heap s_U617 "java/lang/String" := Exa.start es_U617 n51
  have Fc_U617 : Fld s s.heap s_U617 "java/lang/String" "coder" "B" (.int (0 : Int32)) := Fld.start ((fld_at es_U617).symm.trans (eqv_i (Term.int_eval 0) n53))
  obtain ⟨v_U617, ev_U617⟩ := arr_v n55
  have Fv_U617 : Fld s s.heap s_U617 "java/lang/String" "value" "[B" (.ref v_U617) := Fld.start ((fld_at es_U617).symm.trans ev_U617)
  obtain ⟨cl_U617, A_U617⟩ := Arr.start ev_U617 n55
  obtain ⟨q1_U617, q2_U617, q3_U617, q4_U617, q5_U617, q6_U617⟩ := Jvm.Free.SB.Term.length_small (eqv_i (Term.int_eval (2 : Int32)) n57)
  cases ev_U617.symm.trans q3_U617
  cases (A_U617.fin (Vm.Alike.refl _)).symm.trans q4_U617
  have x_U617_0 : cl_U617.slots[0]? = some (.int (109 : Int32)) := own_elem ev_U617 (Term.int_eval (0 : Int32)) (by decide) A_U617.1 (eqv_i (Term.int_eval (109 : Int32)) n59)
  have x_U617_1 : cl_U617.slots[1]? = some (.int (110 : Int32)) := own_elem ev_U617 (Term.int_eval (1 : Int32)) (by decide) A_U617.1 (eqv_i (Term.int_eval (110 : Int32)) n61)
  have V_U617 : Arv s s.heap v_U617 cl_U617.cls .byte (2 : Int32) [(.int (109 : Int32)), (.int (110 : Int32))] (.int (0 : Int32)) := Arv.start hfit A_U617 q6_U617 (Value.int.inj q5_U617).symm (by decide) (by decide) ⟨x_U617_0, x_U617_1, trivial⟩
  have F0_MARC21_662 : Fld s s.heap o_MARC21_662 "com/example/placetree/placetree/places/FieldDefinition" "rankedLevelCodes" "Ljava/lang/String;" (.ref s_R662) := Fld.start ((fld_at e_MARC21_662).symm.trans es_R662)
  have F1_MARC21_662 : Fld s s.heap o_MARC21_662 "com/example/placetree/placetree/places/FieldDefinition" "unrankedLevelCodes" "Ljava/lang/String;" (.ref s_U662) := Fld.start ((fld_at e_MARC21_662).symm.trans es_U662)
  have F0_MARC21_752 : Fld s s.heap o_MARC21_752 "com/example/placetree/placetree/places/FieldDefinition" "rankedLevelCodes" "Ljava/lang/String;" (.ref s_R662) := Fld.start ((fld_at e_MARC21_752).symm.trans (own_eqr es_R662 n25))
  have F1_MARC21_752 : Fld s s.heap o_MARC21_752 "com/example/placetree/placetree/places/FieldDefinition" "unrankedLevelCodes" "Ljava/lang/String;" (.ref s_U662) := Fld.start ((fld_at e_MARC21_752).symm.trans (own_eqr es_U662 n27))
  have F0_MARC21_052 : Fld s s.heap o_MARC21_052 "com/example/placetree/placetree/places/FieldDefinition" "rankedLevelCodes" "Ljava/lang/String;" (.ref s_R052) := Fld.start ((fld_at e_MARC21_052).symm.trans es_R052)
  have F1_MARC21_052 : Fld s s.heap o_MARC21_052 "com/example/placetree/placetree/places/FieldDefinition" "unrankedLevelCodes" "Ljava/lang/String;" (.ref s_R052) := Fld.start ((fld_at e_MARC21_052).symm.trans (own_eqr es_R052 n49))
  have F0_UNIMARC_617 : Fld s s.heap o_UNIMARC_617 "com/example/placetree/placetree/places/FieldDefinition" "rankedLevelCodes" "Ljava/lang/String;" (.ref s_R617) := Fld.start ((fld_at e_UNIMARC_617).symm.trans es_R617)
  have F1_UNIMARC_617 : Fld s s.heap o_UNIMARC_617 "com/example/placetree/placetree/places/FieldDefinition" "unrankedLevelCodes" "Ljava/lang/String;" (.ref s_U617) := Fld.start ((fld_at e_UNIMARC_617).symm.trans es_U617)
  obtain ⟨cs, ecs⟩ := is_v (Cond.before_iff.mp (hsets _ (List.mem_of_getElem? (i := 1) rfl)))
  have S_cs : Sta s s.heap "java/lang/String" "COMPACT_STRINGS" "Z" (.int cs) := Sta.start ecs (Or.inl (hsets _ (List.mem_of_getElem? (i := 0) rfl)))
  have hcs : ¬ cs = (0 : Int32) := gotF (Cond.eq_ints ecs (Term.int_eval 0)) (not_v (Cond.before_iff.mp (hsets _ (List.mem_of_getElem? (i := 2) rfl))))
  obtain ⟨n, o, h1, h2, h3, _, L, rfl, ⟨rfl, N⟩, hq⟩ := own_rm0 l s _ hw tables_1 i0 i1 i2 cs o_MARC21_662 o_MARC21_752 o_MARC21_052 o_UNIMARC_617 s_R662 v_R662 cl_R662.cls s_U662 v_U662 cl_U662.cls s_R052 v_R052 cl_R052.cls s_R617 v_R617 cl_R617.cls s_U617 v_U617 cl_U617.cls s.heap s.heap.size (Nat.le_refl _) S_cs hcs S_MARC21_662 E_o_MARC21_662 S_MARC21_752 E_o_MARC21_752 S_MARC21_052 E_o_MARC21_052 S_UNIMARC_617 E_o_UNIMARC_617 Es_R662 Fc_R662 Fv_R662 V_R662 Es_U662 Fc_U662 Fv_U662 V_U662 Es_R052 Fc_R052 Fv_R052 V_R052 Es_R617 Fc_R617 Fv_R617 V_R617 Es_U617 Fc_U617 Fv_U617 V_U617 F0_MARC21_662 F1_MARC21_662 F0_MARC21_752 F1_MARC21_752 F0_MARC21_052 F1_MARC21_052 F0_UNIMARC_617 F1_UNIMARC_617 p e ha hc hk s m _ below hf ((Spec.applies_iff_loose hf).mp happ).1 ⟨rfl, State.Warmed39.refl s, rfl⟩ trivial
  refine ⟨n, _, h1, h2, h3, hpost _ _ _ _ _ _ ⟨Cond.after_iff.mpr rfl, Cond.after_iff.mpr (eq_i res_at (Term.int_eval (1)) rfl), trivial⟩ ⟨hq.1, hq.2.1, (hq.2.2.sift fun y hy => Or.inr (N y hy)).mono (by decide) (by decide)⟩⟩
theorem main_1_1 : Claimed_1_1 := comes_1 fun _ _ _ _ _ _ h hF => ⟨h.1, hF⟩
theorem main_1_2 : Claimed_1_2 := comes_1 fun _ _ _ _ _ _ h hF => ⟨h.2.1, hF⟩
end Jvm.Pilot.@@N@@
namespace Jvm.Pilot.@@N@@
open Jvm Jvm.ClassFile Sem Op Lib Jvm.Free Jvm.Stand Jvm.Pilot.@@N@@.Jvm.D
/-! MADE BY PROGRAM (witnessworld.py) out of the Statement's table words and the real class files: 19 classes; the members and pool entries that the words name. The judged class is class 1, her method 2. -/
namespace start1
open Jvm.ClassFile
def u (s : String) : CpInfo := .utf8 (stringToUtf16 s)
/-- a pool by its gaps: so many unusable entries, then the entry; so many at the end -/
def gap : Nat → List CpInfo → List CpInfo
  | 0, r => r
  | n + 1, r => .unusable :: gap n r
def poolList (es : List (Nat × CpInfo)) (last : Nat) : List CpInfo := es.foldr (fun e r => gap e.1 (e.2 :: r)) (gap last [])
def pool (es : List (Nat × CpInfo)) (last : Nat) : Array CpInfo := ⟨poolList es last⟩
def fileOf (pool : Array CpInfo) (this : Nat) (attrs : Array Attribute := #[]) (ms : Array MethodInfo := #[]) (fl : Nat := 33) (sup : Nat := 0) (ifs : Array Nat := #[]) (fds : Array FieldInfo := #[]) : ClassFile where
  minorVersion := 0
  majorVersion := 65
  constantPool := pool
  accessFlags := fl
  thisClass := this
  superClass := sup
  interfaces := ifs
  fields := fds
  methods := ms
  attributes := attrs
def plain (name : String) (sup : Option ClassId) : Class where
  name := name
  kind := .ordinary
  loader := none
  accessFlags := 33
  super := sup
  interfaces := #[]
  cf := none
  fields := #[]
  methods := #[]
  instanceTypes := #[]
  staticTypes := #[]
  resolved := #[]
  callSites := []
  init := .initialized
  statics := none
  mirror := none

def pool0 : Array CpInfo := pool [(5, u "<init>"), (0, u "()V"), (1, .class_ 10), (1, u "java/lang/Object")] 113

def k0m0 : Method := { name := "<init>", desc := "()V", sig := { parameters := [], returnType := none }, accessFlags := 1, code := none }
/-- java/lang/Object -/
def k0 : Class := { plain "java/lang/Object" none with
  accessFlags := 33
  interfaces := #[]
  cf := some (fileOf pool0 8 #[] #[{ accessFlags := 1, nameIndex := 5, descriptorIndex := 6, attributes := #[] }] 33 0 #[] #[])
  fields := #[]
  methods := #[k0m0]
  instanceTypes := #[]
  staticTypes := #[]
  resolved := Array.replicate 124 none
  statics := none }

def pool1 : Array CpInfo := pool [(2, .class_ 4), (1, u "java/lang/Object"), (0, u "<init>"), (0, u "()V"), (0, .fieldref 8 9), (0, .class_ 10), (0, .nameAndType 11 12), (0, u "com/example/placetree/placetree/places/FieldDefinition"), (0, u "MARC21_662"), (0, u "Lcom/example/placetree/placetree/places/FieldDefinition;"), (0, .fieldref 8 14), (0, .nameAndType 15 12), (0, u "MARC21_752"), (0, .fieldref 8 17), (0, .nameAndType 18 12), (0, u "MARC21_052"), (0, .fieldref 8 20), (0, .nameAndType 21 12), (0, u "UNIMARC_617"), (0, .integer 65535), (0, .methodref 8 24), (0, .nameAndType 25 26), (0, u "isPlaceLevel"), (0, u "(C)Z"), (0, .methodref 28 29), (0, .class_ 30), (0, .nameAndType 31 32), (0, u "com/example/placetree/placetree/places/FieldDefinitionIsPlaceLevelPinLaw"), (0, u "expected"), (0, u "(IC)Z"), (3, u "law"), (0, u "(III)Z")] 2

def k1m0 : Method := { name := "<init>", desc := "()V", sig := { parameters := [], returnType := none }, accessFlags := 2, code := none }
def k1c1 : Code := { maxStack := 2, maxLocals := 2, code := method_2_code, exceptionTable := #[], attributes := #[] }
def k1m1 : Method := { name := "expected", desc := "(IC)Z", sig := { parameters := [.int, .char], returnType := some .boolean }, accessFlags := 10, code := some k1c1 }
def k1c2 : Code := { maxStack := 3, maxLocals := 6, code := code, exceptionTable := #[], attributes := #[] }
def k1m2 : Method := { name := "law", desc := "(III)Z", sig := { parameters := [.int, .int, .int], returnType := some .boolean }, accessFlags := 9, code := some k1c2 }
/-- com/example/placetree/placetree/places/FieldDefinitionIsPlaceLevelPinLaw -/
def k1 : Class := { plain "com/example/placetree/placetree/places/FieldDefinitionIsPlaceLevelPinLaw" (some 0) with
  accessFlags := 49
  interfaces := #[]
  cf := some (fileOf pool1 28 #[] #[{ accessFlags := 2, nameIndex := 5, descriptorIndex := 6, attributes := #[] }, { accessFlags := 10, nameIndex := 31, descriptorIndex := 32, attributes := #[] }, { accessFlags := 9, nameIndex := 36, descriptorIndex := 37, attributes := #[] }] 49 2 #[] #[])
  fields := #[]
  methods := #[k1m0, k1m1, k1m2]
  instanceTypes := #[]
  staticTypes := #[]
  resolved := Array.replicate 40 none
  statics := none }

def pool2 : Array CpInfo := pool [(1, .class_ 2), (0, u "java/lang/constant/Constable"), (0, .class_ 4), (0, u "java/lang/Object")] 6

/-- java/lang/constant/Constable -/
def k2 : Class := { plain "java/lang/constant/Constable" (some 0) with
  accessFlags := 1537
  interfaces := #[]
  cf := some (fileOf pool2 1 #[] #[] 1537 3 #[] #[])
  fields := #[]
  methods := #[]
  instanceTypes := #[]
  staticTypes := #[]
  resolved := Array.replicate 11 none
  statics := none }

def pool3 : Array CpInfo := pool [(1, .class_ 2), (0, u "java/lang/Comparable"), (0, .class_ 4), (0, u "java/lang/Object")] 7

/-- java/lang/Comparable -/
def k3 : Class := { plain "java/lang/Comparable" (some 0) with
  accessFlags := 1537
  interfaces := #[]
  cf := some (fileOf pool3 1 #[] #[] 1537 3 #[] #[])
  fields := #[]
  methods := #[]
  instanceTypes := #[]
  staticTypes := #[]
  resolved := Array.replicate 12 none
  statics := none }

def pool4 : Array CpInfo := pool [(1, .class_ 2), (0, u "java/io/Serializable"), (0, .class_ 4), (0, u "java/lang/Object")] 2

/-- java/io/Serializable -/
def k4 : Class := { plain "java/io/Serializable" (some 0) with
  accessFlags := 1537
  interfaces := #[]
  cf := some (fileOf pool4 1 #[] #[] 1537 3 #[] #[])
  fields := #[]
  methods := #[]
  instanceTypes := #[]
  staticTypes := #[]
  resolved := Array.replicate 7 none
  statics := none }

def pool5 : Array CpInfo := pool [(2, .class_ 4), (1, u "java/lang/Enum"), (0, u "name"), (0, u "Ljava/lang/String;"), (2, u "ordinal"), (0, u "I"), (1, .class_ 14), (1, u "java/lang/Object"), (4, u "hash"), (86, .class_ 108), (1, u "java/lang/Enum$EnumDesc"), (2, .class_ 112), (0, u "java/lang/constant/Constable"), (0, .class_ 114), (0, u "java/lang/Comparable"), (0, .class_ 116), (0, u "java/io/Serializable")] 87

/-- java/lang/Enum -/
def k5 : Class := { plain "java/lang/Enum" (some 0) with
  accessFlags := 1057
  interfaces := #[2, 3, 4]
  cf := some (fileOf pool5 2 #[.nestMembers #[106]] #[] 1057 12 #[111, 113, 115] #[{ accessFlags := 18, nameIndex := 5, descriptorIndex := 6, attributes := #[] }, { accessFlags := 18, nameIndex := 9, descriptorIndex := 10, attributes := #[] }, { accessFlags := 2, nameIndex := 19, descriptorIndex := 10, attributes := #[] }])
  fields := #[{ name := "name", type := (.object "java/lang/String"), accessFlags := 18, slot := 0, constantValue := 0 }, { name := "ordinal", type := .int, accessFlags := 18, slot := 1, constantValue := 0 }, { name := "hash", type := .int, accessFlags := 2, slot := 2, constantValue := 0 }]
  methods := #[]
  instanceTypes := #[(.object "java/lang/String"), .int, .int]
  staticTypes := #[]
  resolved := Array.replicate 204 none
  statics := none }

def pool6 : Array CpInfo := pool [(1, .class_ 2), (0, u "com/example/placetree/placetree/places/FieldDefinition"), (2, u "MARC21_662"), (0, u "Lcom/example/placetree/placetree/places/FieldDefinition;"), (2, u "MARC21_752"), (2, u "MARC21_052"), (2, u "UNIMARC_617"), (2, u "$VALUES"), (0, u "[Lcom/example/placetree/placetree/places/FieldDefinition;"), (6, .class_ 28), (1, u "java/lang/Enum"), (11, u "tag"), (0, u "Ljava/lang/String;"), (2, u "format"), (0, u "Lcom/example/placetree/placetree/places/BibliographicFormat;"), (2, u "title"), (0, .fieldref 1 50), (0, .nameAndType 51 41), (0, u "rankedLevelCodes"), (0, .fieldref 1 53), (0, .nameAndType 54 41), (0, u "unrankedLevelCodes"), (2, u "contentDesignators"), (0, u "Lcom/example/placetree/placetree/places/ContentDesignators;"), (2, u "geographicCodes"), (0, u "Lcom/example/placetree/placetree/places/GeographicCodes;"), (2, u "BY_TAG"), (0, u "Ljava/util/Map;"), (13, .class_ 82), (1, u "java/lang/String"), (2, .methodref 80 86), (0, .nameAndType 87 88), (0, u "indexOf"), (0, u "(I)I"), (23, .class_ 113), (0, u "com/example/placetree/placetree/places/FieldDefinition$Marc21Place"), (90, u "SOURCE_CODE"), (0, u "C"), (16, u "isPlaceLevel"), (0, u "(C)Z")] 35

def k6c0 : Code := { maxStack := 2, maxLocals := 2, code := prog_39_method_10_code, exceptionTable := #[], attributes := #[] }
def k6m0 : Method := { name := "isPlaceLevel", desc := "(C)Z", sig := { parameters := [.char], returnType := some .boolean }, accessFlags := 1, code := some k6c0 }
/-- com/example/placetree/placetree/places/FieldDefinition -/
def k6 : Class := { plain "com/example/placetree/placetree/places/FieldDefinition" (some 5) with
  accessFlags := 16433
  interfaces := #[]
  cf := some (fileOf pool6 1 #[.nestMembers #[112]] #[{ accessFlags := 1, nameIndex := 222, descriptorIndex := 223, attributes := #[] }] 16433 26 #[] #[{ accessFlags := 16409, nameIndex := 5, descriptorIndex := 6, attributes := #[] }, { accessFlags := 16409, nameIndex := 9, descriptorIndex := 6, attributes := #[] }, { accessFlags := 16409, nameIndex := 12, descriptorIndex := 6, attributes := #[] }, { accessFlags := 16409, nameIndex := 15, descriptorIndex := 6, attributes := #[] }, { accessFlags := 26, nameIndex := 204, descriptorIndex := 205, attributes := #[] }, { accessFlags := 26, nameIndex := 65, descriptorIndex := 66, attributes := #[] }, { accessFlags := 18, nameIndex := 40, descriptorIndex := 41, attributes := #[] }, { accessFlags := 18, nameIndex := 44, descriptorIndex := 45, attributes := #[] }, { accessFlags := 18, nameIndex := 48, descriptorIndex := 41, attributes := #[] }, { accessFlags := 18, nameIndex := 51, descriptorIndex := 41, attributes := #[] }, { accessFlags := 18, nameIndex := 54, descriptorIndex := 41, attributes := #[] }, { accessFlags := 18, nameIndex := 57, descriptorIndex := 58, attributes := #[] }, { accessFlags := 18, nameIndex := 61, descriptorIndex := 62, attributes := #[] }, { accessFlags := 4122, nameIndex := 18, descriptorIndex := 19, attributes := #[] }])
  fields := #[{ name := "MARC21_662", type := (.object "com/example/placetree/placetree/places/FieldDefinition"), accessFlags := 16409, slot := 0, constantValue := 0 }, { name := "MARC21_752", type := (.object "com/example/placetree/placetree/places/FieldDefinition"), accessFlags := 16409, slot := 1, constantValue := 0 }, { name := "MARC21_052", type := (.object "com/example/placetree/placetree/places/FieldDefinition"), accessFlags := 16409, slot := 2, constantValue := 0 }, { name := "UNIMARC_617", type := (.object "com/example/placetree/placetree/places/FieldDefinition"), accessFlags := 16409, slot := 3, constantValue := 0 }, { name := "SOURCE_CODE", type := .char, accessFlags := 26, slot := 4, constantValue := 0 }, { name := "BY_TAG", type := (.object "java/util/Map"), accessFlags := 26, slot := 5, constantValue := 0 }, { name := "tag", type := (.object "java/lang/String"), accessFlags := 18, slot := 3, constantValue := 0 }, { name := "format", type := (.object "com/example/placetree/placetree/places/BibliographicFormat"), accessFlags := 18, slot := 4, constantValue := 0 }, { name := "title", type := (.object "java/lang/String"), accessFlags := 18, slot := 5, constantValue := 0 }, { name := "rankedLevelCodes", type := (.object "java/lang/String"), accessFlags := 18, slot := 6, constantValue := 0 }, { name := "unrankedLevelCodes", type := (.object "java/lang/String"), accessFlags := 18, slot := 7, constantValue := 0 }, { name := "contentDesignators", type := (.object "com/example/placetree/placetree/places/ContentDesignators"), accessFlags := 18, slot := 8, constantValue := 0 }, { name := "geographicCodes", type := (.object "com/example/placetree/placetree/places/GeographicCodes"), accessFlags := 18, slot := 9, constantValue := 0 }, { name := "$VALUES", type := (.array (.object "com/example/placetree/placetree/places/FieldDefinition")), accessFlags := 4122, slot := 6, constantValue := 0 }]
  methods := #[k6m0]
  instanceTypes := #[(.object "java/lang/String"), .int, .int, (.object "java/lang/String"), (.object "com/example/placetree/placetree/places/BibliographicFormat"), (.object "java/lang/String"), (.object "java/lang/String"), (.object "java/lang/String"), (.object "com/example/placetree/placetree/places/ContentDesignators"), (.object "com/example/placetree/placetree/places/GeographicCodes")]
  staticTypes := #[(.object "com/example/placetree/placetree/places/FieldDefinition"), (.object "com/example/placetree/placetree/places/FieldDefinition"), (.object "com/example/placetree/placetree/places/FieldDefinition"), (.object "com/example/placetree/placetree/places/FieldDefinition"), .char, (.object "java/util/Map"), (.array (.object "com/example/placetree/placetree/places/FieldDefinition"))]
  resolved := Array.replicate 259 none
  statics := some 0 }

def pool7 : Array CpInfo := pool [(2, .class_ 4), (1, u "java/lang/CharSequence"), (42, .class_ 48), (0, u "java/lang/CharSequence$1CodePointIterator"), (10, .class_ 60), (0, u "java/lang/CharSequence$1CharIterator"), (5, .class_ 67), (0, u "java/lang/Object")] 63

/-- java/lang/CharSequence -/
def k7 : Class := { plain "java/lang/CharSequence" (some 0) with
  accessFlags := 1537
  interfaces := #[]
  cf := some (fileOf pool7 2 #[.nestMembers #[47, 59]] #[] 1537 66 #[] #[])
  fields := #[]
  methods := #[]
  instanceTypes := #[]
  staticTypes := #[]
  resolved := Array.replicate 131 none
  statics := none }

def pool8 : Array CpInfo := pool [(1, .class_ 2), (0, u "java/lang/constant/ConstantDesc"), (0, .class_ 4), (0, u "java/lang/Object")] 32

/-- java/lang/constant/ConstantDesc -/
def k8 : Class := { plain "java/lang/constant/ConstantDesc" (some 0) with
  accessFlags := 1537
  interfaces := #[]
  cf := some (fileOf pool8 1 #[] #[] 1537 3 #[] #[])
  fields := #[]
  methods := #[]
  instanceTypes := #[]
  staticTypes := #[]
  resolved := Array.replicate 37 none
  statics := none }

def pool9 : Array CpInfo := pool [(2, .class_ 4), (1, u "java/lang/Object"), (0, u "<init>"), (0, u "()V"), (2, .fieldref 10 11), (0, .class_ 12), (0, .nameAndType 13 14), (0, u "java/lang/String"), (0, u "value"), (0, u "[B"), (0, .fieldref 10 16), (0, .nameAndType 17 18), (0, u "coder"), (0, u "B"), (2, u "hash"), (0, u "I"), (2, u "hashIsZero"), (0, u "Z"), (11, .fieldref 10 39), (0, .nameAndType 40 26), (0, u "COMPACT_STRINGS"), (66, .class_ 109), (1, u "java/lang/StringLatin1"), (32, u "()Z"), (191, u "()I"), (0, .methodref 10 336), (0, .nameAndType 17 337), (0, u "()B"), (154, .methodref 10 493), (0, .nameAndType 494 142), (0, u "isLatin1"), (10, .methodref 10 506), (0, .nameAndType 507 334), (0, u "length"), (67, .class_ 576), (0, u "java/lang/CharSequence"), (22, u "CASE_INSENSITIVE_ORDER"), (0, u "Ljava/util/Comparator;"), (32, .methodref 10 634), (0, .nameAndType 635 636), (0, u "indexOf"), (0, u "(II)I"), (0, .methodref 107 638), (0, .nameAndType 635 639), (0, u "([BIII)I"), (125, u "(I)I"), (335, u "serialPersistentFields"), (0, u "[Ljava/io/ObjectStreamField;"), (0, .class_ 1104), (0, u "java/lang/String$CaseInsensitiveComparator"), (1, .class_ 1107), (0, u "java/io/Serializable"), (0, .class_ 1109), (0, u "java/lang/Comparable"), (0, .class_ 1111), (0, u "java/lang/constant/Constable"), (0, .class_ 1113), (0, u "java/lang/constant/ConstantDesc"), (2, u "serialVersionUID"), (0, u "J"), (3, u "REPL"), (0, u "C"), (2, u "LATIN1"), (1, u "UTF16")] 323

def k9m0 : Method := { name := "<init>", desc := "()V", sig := { parameters := [], returnType := none }, accessFlags := 1, code := none }
def k9c1 : Code := { maxStack := 2, maxLocals := 1, code := jdk_42_method_54_code, exceptionTable := #[], attributes := #[] }
def k9m1 : Method := { name := "length", desc := "()I", sig := { parameters := [], returnType := some .int }, accessFlags := 1, code := some k9c1 }
def k9c2 : Code := { maxStack := 3, maxLocals := 2, code := jdk_42_method_79_code, exceptionTable := #[], attributes := #[] }
def k9m2 : Method := { name := "indexOf", desc := "(I)I", sig := { parameters := [.int], returnType := some .int }, accessFlags := 1, code := some k9c2 }
def k9c3 : Code := { maxStack := 4, maxLocals := 3, code := jdk_42_method_80_code, exceptionTable := #[], attributes := #[] }
def k9m3 : Method := { name := "indexOf", desc := "(II)I", sig := { parameters := [.int, .int], returnType := some .int }, accessFlags := 1, code := some k9c3 }
def k9c4 : Code := { maxStack := 1, maxLocals := 1, code := jdk_42_method_152_code, exceptionTable := #[], attributes := #[] }
def k9m4 : Method := { name := "coder", desc := "()B", sig := { parameters := [], returnType := some .byte }, accessFlags := 0, code := some k9c4 }
def k9c5 : Code := { maxStack := 1, maxLocals := 1, code := jdk_42_method_154_code, exceptionTable := #[], attributes := #[] }
def k9m5 : Method := { name := "isLatin1", desc := "()Z", sig := { parameters := [], returnType := some .boolean }, accessFlags := 0, code := some k9c5 }
/-- java/lang/String -/
def k9 : Class := { plain "java/lang/String" (some 0) with
  accessFlags := 49
  interfaces := #[4, 3, 7, 2, 8]
  cf := some (fileOf pool9 10 #[.nestMembers #[1103]] #[{ accessFlags := 1, nameIndex := 5, descriptorIndex := 6, attributes := #[] }, { accessFlags := 1, nameIndex := 507, descriptorIndex := 334, attributes := #[] }, { accessFlags := 1, nameIndex := 635, descriptorIndex := 765, attributes := #[] }, { accessFlags := 1, nameIndex := 635, descriptorIndex := 636, attributes := #[] }, { accessFlags := 0, nameIndex := 17, descriptorIndex := 337, attributes := #[] }, { accessFlags := 0, nameIndex := 494, descriptorIndex := 142, attributes := #[] }] 49 2 #[1106, 1108, 575, 1110, 1112] #[{ accessFlags := 18, nameIndex := 13, descriptorIndex := 14, attributes := #[] }, { accessFlags := 18, nameIndex := 17, descriptorIndex := 18, attributes := #[] }, { accessFlags := 2, nameIndex := 21, descriptorIndex := 22, attributes := #[] }, { accessFlags := 2, nameIndex := 25, descriptorIndex := 26, attributes := #[] }, { accessFlags := 26, nameIndex := 1116, descriptorIndex := 1117, attributes := #[] }, { accessFlags := 24, nameIndex := 40, descriptorIndex := 26, attributes := #[] }, { accessFlags := 26, nameIndex := 1101, descriptorIndex := 1102, attributes := #[] }, { accessFlags := 26, nameIndex := 1121, descriptorIndex := 1122, attributes := #[] }, { accessFlags := 25, nameIndex := 599, descriptorIndex := 600, attributes := #[] }, { accessFlags := 24, nameIndex := 1125, descriptorIndex := 18, attributes := #[] }, { accessFlags := 24, nameIndex := 1127, descriptorIndex := 18, attributes := #[] }])
  fields := #[{ name := "value", type := (.array .byte), accessFlags := 18, slot := 0, constantValue := 0 }, { name := "coder", type := .byte, accessFlags := 18, slot := 1, constantValue := 0 }, { name := "hash", type := .int, accessFlags := 2, slot := 2, constantValue := 0 }, { name := "hashIsZero", type := .boolean, accessFlags := 2, slot := 3, constantValue := 0 }, { name := "serialVersionUID", type := .long, accessFlags := 26, slot := 0, constantValue := 0 }, { name := "COMPACT_STRINGS", type := .boolean, accessFlags := 24, slot := 1, constantValue := 0 }, { name := "serialPersistentFields", type := (.array (.object "java/io/ObjectStreamField")), accessFlags := 26, slot := 2, constantValue := 0 }, { name := "REPL", type := .char, accessFlags := 26, slot := 3, constantValue := 0 }, { name := "CASE_INSENSITIVE_ORDER", type := (.object "java/util/Comparator"), accessFlags := 25, slot := 4, constantValue := 0 }, { name := "LATIN1", type := .byte, accessFlags := 24, slot := 5, constantValue := 0 }, { name := "UTF16", type := .byte, accessFlags := 24, slot := 6, constantValue := 0 }]
  methods := #[k9m0, k9m1, k9m2, k9m3, k9m4, k9m5]
  instanceTypes := #[(.array .byte), .byte, .int, .boolean]
  staticTypes := #[.long, .boolean, (.array (.object "java/io/ObjectStreamField")), .char, (.object "java/util/Comparator"), .byte, .byte]
  resolved := Array.replicate 1451 none
  statics := some 1 }

def pool10 : Array CpInfo := pool [(4, .class_ 6), (1, u "java/lang/Object"), (0, u "<init>"), (0, u "()V"), (5, .class_ 16), (1, u "java/lang/StringLatin1"), (21, .methodref 39 40), (0, .class_ 41), (0, .nameAndType 42 43), (0, u "java/lang/Math"), (0, u "min"), (0, u "(II)I"), (44, .methodref 14 89), (0, .nameAndType 90 91), (0, u "canEncode"), (0, u "(I)Z"), (0, .methodref 39 93), (0, .nameAndType 94 43), (0, u "max"), (0, .methodref 14 96), (0, .nameAndType 97 98), (0, u "indexOfChar"), (0, u "([BIII)I"), (2, u "indexOf"), (19, u "$assertionsDisabled"), (0, u "Z"), (98, .class_ 223), (1, u "java/lang/StringLatin1$LinesSpliterator"), (166, .class_ 391), (0, u "java/lang/StringLatin1$CharsSpliterator")] 3

def k10m0 : Method := { name := "<init>", desc := "()V", sig := { parameters := [], returnType := none }, accessFlags := 0, code := none }
def k10c1 : Code := { maxStack := 2, maxLocals := 1, code := jdk_43_method_4_code, exceptionTable := #[], attributes := #[] }
def k10m1 : Method := { name := "canEncode", desc := "(I)Z", sig := { parameters := [.int], returnType := some .boolean }, accessFlags := 9, code := some k10c1 }
def k10c2 : Code := { maxStack := 4, maxLocals := 4, code := jdk_43_method_22_code, exceptionTable := #[], attributes := #[] }
def k10m2 : Method := { name := "indexOf", desc := "([BIII)I", sig := { parameters := [(.array .byte), .int, .int, .int], returnType := some .int }, accessFlags := 9, code := some k10c2 }
def k10c3 : Code := { maxStack := 2, maxLocals := 6, code := jdk_43_method_23_code, exceptionTable := #[], attributes := #[] }
def k10m3 : Method := { name := "indexOfChar", desc := "([BIII)I", sig := { parameters := [(.array .byte), .int, .int, .int], returnType := some .int }, accessFlags := 10, code := some k10c3 }
/-- java/lang/StringLatin1 -/
def k10 : Class := { plain "java/lang/StringLatin1" (some 0) with
  accessFlags := 48
  interfaces := #[]
  cf := some (fileOf pool10 14 #[.nestMembers #[390, 221]] #[{ accessFlags := 0, nameIndex := 7, descriptorIndex := 8, attributes := #[] }, { accessFlags := 9, nameIndex := 90, descriptorIndex := 91, attributes := #[] }, { accessFlags := 9, nameIndex := 101, descriptorIndex := 98, attributes := #[] }, { accessFlags := 10, nameIndex := 97, descriptorIndex := 98, attributes := #[] }] 48 4 #[] #[{ accessFlags := 4120, nameIndex := 121, descriptorIndex := 122, attributes := #[] }])
  fields := #[{ name := "$assertionsDisabled", type := .boolean, accessFlags := 4120, slot := 0, constantValue := 0 }]
  methods := #[k10m0, k10m1, k10m2, k10m3]
  instanceTypes := #[]
  staticTypes := #[.boolean]
  resolved := Array.replicate 395 none
  statics := none }

def pool11 : Array CpInfo := pool [(1, .class_ 2), (0, u "java/lang/Math"), (1, .class_ 6), (1, u "java/lang/Object"), (0, u "<init>"), (0, u "()V"), (89, .class_ 100), (1, u "java/lang/Math$RandomNumberGeneratorHolder"), (71, u "negativeZeroFloatBits"), (0, u "J"), (2, u "negativeZeroDoubleBits"), (21, u "max"), (2, u "min"), (43, u "$assertionsDisabled"), (0, u "Z"), (88, u "(II)I"), (2, u "twoToTheDoubleScaleDown"), (0, u "D"), (4, u "twoToTheDoubleScaleUp"), (9, u "E"), (3, u "PI"), (2, u "TAU"), (2, u "DEGREES_TO_RADIANS"), (0, u "RADIANS_TO_DEGREES")] 94

def k11m0 : Method := { name := "<init>", desc := "()V", sig := { parameters := [], returnType := none }, accessFlags := 2, code := none }
def k11c1 : Code := { maxStack := 2, maxLocals := 2, code := jdk_29_method_65_code, exceptionTable := #[], attributes := #[] }
def k11m1 : Method := { name := "max", desc := "(II)I", sig := { parameters := [.int, .int], returnType := some .int }, accessFlags := 9, code := some k11c1 }
def k11c2 : Code := { maxStack := 2, maxLocals := 2, code := jdk_29_method_69_code, exceptionTable := #[], attributes := #[] }
def k11m2 : Method := { name := "min", desc := "(II)I", sig := { parameters := [.int, .int], returnType := some .int }, accessFlags := 9, code := some k11c2 }
/-- java/lang/Math -/
def k11 : Class := { plain "java/lang/Math" (some 0) with
  accessFlags := 49
  interfaces := #[]
  cf := some (fileOf pool11 1 #[.nestMembers #[98]] #[{ accessFlags := 2, nameIndex := 7, descriptorIndex := 8, attributes := #[] }, { accessFlags := 9, nameIndex := 198, descriptorIndex := 335, attributes := #[] }, { accessFlags := 9, nameIndex := 201, descriptorIndex := 335, attributes := #[] }] 49 4 #[] #[{ accessFlags := 25, nameIndex := 354, descriptorIndex := 339, attributes := #[] }, { accessFlags := 25, nameIndex := 358, descriptorIndex := 339, attributes := #[] }, { accessFlags := 25, nameIndex := 361, descriptorIndex := 339, attributes := #[] }, { accessFlags := 26, nameIndex := 364, descriptorIndex := 339, attributes := #[] }, { accessFlags := 26, nameIndex := 365, descriptorIndex := 339, attributes := #[] }, { accessFlags := 26, nameIndex := 172, descriptorIndex := 173, attributes := #[] }, { accessFlags := 26, nameIndex := 176, descriptorIndex := 173, attributes := #[] }, { accessFlags := 8, nameIndex := 344, descriptorIndex := 339, attributes := #[] }, { accessFlags := 8, nameIndex := 338, descriptorIndex := 339, attributes := #[] }, { accessFlags := 4120, nameIndex := 245, descriptorIndex := 246, attributes := #[] }])
  fields := #[{ name := "E", type := .double, accessFlags := 25, slot := 0, constantValue := 0 }, { name := "PI", type := .double, accessFlags := 25, slot := 1, constantValue := 0 }, { name := "TAU", type := .double, accessFlags := 25, slot := 2, constantValue := 0 }, { name := "DEGREES_TO_RADIANS", type := .double, accessFlags := 26, slot := 3, constantValue := 0 }, { name := "RADIANS_TO_DEGREES", type := .double, accessFlags := 26, slot := 4, constantValue := 0 }, { name := "negativeZeroFloatBits", type := .long, accessFlags := 26, slot := 5, constantValue := 0 }, { name := "negativeZeroDoubleBits", type := .long, accessFlags := 26, slot := 6, constantValue := 0 }, { name := "twoToTheDoubleScaleUp", type := .double, accessFlags := 8, slot := 7, constantValue := 0 }, { name := "twoToTheDoubleScaleDown", type := .double, accessFlags := 8, slot := 8, constantValue := 0 }, { name := "$assertionsDisabled", type := .boolean, accessFlags := 4120, slot := 9, constantValue := 0 }]
  methods := #[k11m0, k11m1, k11m2]
  instanceTypes := #[]
  staticTypes := #[.double, .double, .double, .double, .double, .long, .long, .double, .double, .boolean]
  resolved := Array.replicate 460 none
  statics := none }

def pool12 : Array CpInfo := pool [(2, .class_ 4), (1, u "java/lang/Object"), (0, u "<init>"), (0, u "()V"), (17, .class_ 26), (1, u "jdk/internal/util/Preconditions"), (28, .class_ 56), (0, u "jdk/internal/util/Preconditions$4"), (57, .class_ 115), (0, u "jdk/internal/util/Preconditions$1"), (7, u "SIOOBE_FORMATTER"), (0, u "Ljava/util/function/BiFunction;"), (0, .class_ 126), (0, u "jdk/internal/util/Preconditions$2"), (3, u "AIOOBE_FORMATTER"), (0, .class_ 132), (0, u "jdk/internal/util/Preconditions$3"), (3, u "IOOBE_FORMATTER")] 57

def k12m0 : Method := { name := "<init>", desc := "()V", sig := { parameters := [], returnType := none }, accessFlags := 1, code := none }
/-- jdk/internal/util/Preconditions -/
def k12 : Class := { plain "jdk/internal/util/Preconditions" (some 0) with
  accessFlags := 33
  interfaces := #[]
  cf := some (fileOf pool12 24 #[.nestMembers #[55, 131, 125, 114]] #[{ accessFlags := 1, nameIndex := 5, descriptorIndex := 6, attributes := #[] }] 33 2 #[] #[{ accessFlags := 25, nameIndex := 123, descriptorIndex := 124, attributes := #[] }, { accessFlags := 25, nameIndex := 130, descriptorIndex := 124, attributes := #[] }, { accessFlags := 25, nameIndex := 136, descriptorIndex := 124, attributes := #[] }])
  fields := #[{ name := "SIOOBE_FORMATTER", type := (.object "java/util/function/BiFunction"), accessFlags := 25, slot := 0, constantValue := 0 }, { name := "AIOOBE_FORMATTER", type := (.object "java/util/function/BiFunction"), accessFlags := 25, slot := 1, constantValue := 0 }, { name := "IOOBE_FORMATTER", type := (.object "java/util/function/BiFunction"), accessFlags := 25, slot := 2, constantValue := 0 }]
  methods := #[k12m0]
  instanceTypes := #[]
  staticTypes := #[(.object "java/util/function/BiFunction"), (.object "java/util/function/BiFunction"), (.object "java/util/function/BiFunction")]
  resolved := Array.replicate 194 none
  statics := some 2 }

def pool13 : Array CpInfo := pool [(9, u "<init>"), (6, .class_ 18), (1, u "java/lang/Object"), (0, u "()V"), (1, .class_ 23), (1, u "jdk/internal/util/ArraysSupport"), (0, u "LOG2_ARRAY_LONG_INDEX_SCALE"), (0, u "I"), (2, u "U"), (0, u "Ljdk/internal/misc/Unsafe;"), (8, u "BIG_ENDIAN"), (0, u "Z"), (8, u "LOG2_BYTE_BIT_SIZE"), (4, u "LOG2_ARRAY_INT_INDEX_SCALE"), (54, u "JLA"), (0, u "Ljdk/internal/access/JavaLangAccess;"), (11, u "LOG2_ARRAY_BOOLEAN_INDEX_SCALE"), (9, u "LOG2_ARRAY_BYTE_INDEX_SCALE"), (5, u "LOG2_ARRAY_CHAR_INDEX_SCALE"), (5, u "LOG2_ARRAY_SHORT_INDEX_SCALE"), (18, u "LOG2_ARRAY_FLOAT_INDEX_SCALE"), (24, u "LOG2_ARRAY_DOUBLE_INDEX_SCALE"), (89, u "T_BOOLEAN"), (2, u "T_CHAR"), (1, u "T_FLOAT"), (1, u "T_DOUBLE"), (1, u "T_BYTE"), (1, u "T_SHORT"), (1, u "T_INT"), (1, u "T_LONG"), (1, u "SOFT_MAX_ARRAY_LENGTH")] 83

def k13m0 : Method := { name := "<init>", desc := "()V", sig := { parameters := [], returnType := none }, accessFlags := 2, code := none }
/-- jdk/internal/util/ArraysSupport -/
def k13 : Class := { plain "jdk/internal/util/ArraysSupport" (some 0) with
  accessFlags := 33
  interfaces := #[]
  cf := some (fileOf pool13 21 #[] #[{ accessFlags := 2, nameIndex := 9, descriptorIndex := 19, attributes := #[] }] 33 16 #[] #[{ accessFlags := 24, nameIndex := 28, descriptorIndex := 29, attributes := #[] }, { accessFlags := 26, nameIndex := 38, descriptorIndex := 39, attributes := #[] }, { accessFlags := 25, nameIndex := 121, descriptorIndex := 25, attributes := #[] }, { accessFlags := 25, nameIndex := 131, descriptorIndex := 25, attributes := #[] }, { accessFlags := 25, nameIndex := 137, descriptorIndex := 25, attributes := #[] }, { accessFlags := 25, nameIndex := 143, descriptorIndex := 25, attributes := #[] }, { accessFlags := 25, nameIndex := 53, descriptorIndex := 25, attributes := #[] }, { accessFlags := 25, nameIndex := 24, descriptorIndex := 25, attributes := #[] }, { accessFlags := 25, nameIndex := 162, descriptorIndex := 25, attributes := #[] }, { accessFlags := 25, nameIndex := 187, descriptorIndex := 25, attributes := #[] }, { accessFlags := 26, nameIndex := 48, descriptorIndex := 25, attributes := #[] }, { accessFlags := 25, nameIndex := 277, descriptorIndex := 25, attributes := #[] }, { accessFlags := 25, nameIndex := 280, descriptorIndex := 25, attributes := #[] }, { accessFlags := 25, nameIndex := 282, descriptorIndex := 25, attributes := #[] }, { accessFlags := 25, nameIndex := 284, descriptorIndex := 25, attributes := #[] }, { accessFlags := 25, nameIndex := 286, descriptorIndex := 25, attributes := #[] }, { accessFlags := 25, nameIndex := 288, descriptorIndex := 25, attributes := #[] }, { accessFlags := 25, nameIndex := 290, descriptorIndex := 25, attributes := #[] }, { accessFlags := 25, nameIndex := 292, descriptorIndex := 25, attributes := #[] }, { accessFlags := 26, nameIndex := 108, descriptorIndex := 109, attributes := #[] }, { accessFlags := 25, nameIndex := 294, descriptorIndex := 25, attributes := #[] }])
  fields := #[{ name := "U", type := (.object "jdk/internal/misc/Unsafe"), accessFlags := 24, slot := 0, constantValue := 0 }, { name := "BIG_ENDIAN", type := .boolean, accessFlags := 26, slot := 1, constantValue := 0 }, { name := "LOG2_ARRAY_BOOLEAN_INDEX_SCALE", type := .int, accessFlags := 25, slot := 2, constantValue := 0 }, { name := "LOG2_ARRAY_BYTE_INDEX_SCALE", type := .int, accessFlags := 25, slot := 3, constantValue := 0 }, { name := "LOG2_ARRAY_CHAR_INDEX_SCALE", type := .int, accessFlags := 25, slot := 4, constantValue := 0 }, { name := "LOG2_ARRAY_SHORT_INDEX_SCALE", type := .int, accessFlags := 25, slot := 5, constantValue := 0 }, { name := "LOG2_ARRAY_INT_INDEX_SCALE", type := .int, accessFlags := 25, slot := 6, constantValue := 0 }, { name := "LOG2_ARRAY_LONG_INDEX_SCALE", type := .int, accessFlags := 25, slot := 7, constantValue := 0 }, { name := "LOG2_ARRAY_FLOAT_INDEX_SCALE", type := .int, accessFlags := 25, slot := 8, constantValue := 0 }, { name := "LOG2_ARRAY_DOUBLE_INDEX_SCALE", type := .int, accessFlags := 25, slot := 9, constantValue := 0 }, { name := "LOG2_BYTE_BIT_SIZE", type := .int, accessFlags := 26, slot := 10, constantValue := 0 }, { name := "T_BOOLEAN", type := .int, accessFlags := 25, slot := 11, constantValue := 0 }, { name := "T_CHAR", type := .int, accessFlags := 25, slot := 12, constantValue := 0 }, { name := "T_FLOAT", type := .int, accessFlags := 25, slot := 13, constantValue := 0 }, { name := "T_DOUBLE", type := .int, accessFlags := 25, slot := 14, constantValue := 0 }, { name := "T_BYTE", type := .int, accessFlags := 25, slot := 15, constantValue := 0 }, { name := "T_SHORT", type := .int, accessFlags := 25, slot := 16, constantValue := 0 }, { name := "T_INT", type := .int, accessFlags := 25, slot := 17, constantValue := 0 }, { name := "T_LONG", type := .int, accessFlags := 25, slot := 18, constantValue := 0 }, { name := "JLA", type := (.object "jdk/internal/access/JavaLangAccess"), accessFlags := 26, slot := 19, constantValue := 0 }, { name := "SOFT_MAX_ARRAY_LENGTH", type := .int, accessFlags := 25, slot := 20, constantValue := 0 }]
  methods := #[k13m0]
  instanceTypes := #[]
  staticTypes := #[(.object "jdk/internal/misc/Unsafe"), .boolean, .int, .int, .int, .int, .int, .int, .int, .int, .int, .int, .int, .int, .int, .int, .int, .int, .int, (.object "jdk/internal/access/JavaLangAccess"), .int]
  resolved := Array.replicate 378 none
  statics := none }

def pool14 : Array CpInfo := pool [(1, u "java/lang/Cloneable"), (0, .class_ 1), (0, u "java/lang/Object"), (0, .class_ 3)] 3

/-- java/lang/Cloneable -/
def k14 : Class := { plain "java/lang/Cloneable" (some 0) with
  accessFlags := 1537
  interfaces := #[]
  cf := some (fileOf pool14 2 #[] #[] 1537 4 #[] #[])
  fields := #[]
  methods := #[]
  instanceTypes := #[]
  staticTypes := #[]
  resolved := Array.replicate 8 none
  statics := none }

/-- the primitive byte -/
def k15 : Class := { plain "byte" none with kind := .primitive 'B', accessFlags := 0x411 }
/-- [B -/
def k16 : Class := { plain "[B" (some 0) with kind := .array 15 .byte, interfaces := #[14, 4], accessFlags := 1041 }

/-- the primitive int -/
def k17 : Class := { plain "int" none with kind := .primitive 'I', accessFlags := 0x411 }
/-- [I -/
def k18 : Class := { plain "[I" (some 0) with kind := .array 17 .int, interfaces := #[14, 4], accessFlags := 1041 }

def heap : Heap := #[{ cls := 6, slots := #[.ref 13, .ref 14, .ref 15, .ref 16, .int 0, .null, .null], vm := .statics 6 },
  { cls := 9, slots := #[.long 0, .int 1, .null, .int 0, .null, .int 0, .int 0], vm := .statics 9 },
  { cls := 12, slots := #[.null, .null, .null], vm := .statics 12 },
  { cls := 16, slots := #[.int 97, .int 98, .int 99, .int 100, .int 102], vm := .none },
  { cls := 9, slots := #[.ref 3, .int 0, .int 0, .int 0], vm := .none },
  { cls := 16, slots := #[], vm := .none },
  { cls := 9, slots := #[.ref 5, .int 0, .int 0, .int 0], vm := .none },
  { cls := 16, slots := #[.int 111, .int 97, .int 98, .int 99, .int 100, .int 107, .int 101], vm := .none },
  { cls := 9, slots := #[.ref 7, .int 0, .int 0, .int 0], vm := .none },
  { cls := 16, slots := #[.int 103, .int 104], vm := .none },
  { cls := 9, slots := #[.ref 9, .int 0, .int 0, .int 0], vm := .none },
  { cls := 16, slots := #[.int 109, .int 110], vm := .none },
  { cls := 9, slots := #[.ref 11, .int 0, .int 0, .int 0], vm := .none },
  { cls := 6, slots := #[.null, .int 0, .int 0, .null, .null, .null, .ref 4, .ref 10, .null, .null], vm := .none },
  { cls := 6, slots := #[.null, .int 0, .int 0, .null, .null, .null, .ref 4, .ref 10, .null, .null], vm := .none },
  { cls := 6, slots := #[.null, .int 0, .int 0, .null, .null, .null, .ref 6, .ref 6, .null, .null], vm := .none },
  { cls := 6, slots := #[.null, .int 0, .int 0, .null, .null, .null, .ref 8, .ref 12, .null, .null], vm := .none }]
def classes : Array Class := #[k0, k1, k2, k3, k4, k5, k6, k7, k8, k9, k10, k11, k12, k13, k14, k15, k16, k17, k18]
def interned : List (Array UInt16 × Addr) := []
def slotsUsed : Nat := 93
def theMethod : MethodId := ⟨1, 2⟩
def args0 : Array Value := #[.int 5, .int 7, .int 3]
def aboutOver (below : List Frame) : State where
  vm := { classes := classes, interned := interned.toArray }
  heap := heap
  slotsUsed := slotsUsed
  threads := #[{ frames := .invoking theMethod args0 :: below }]
def below0 : List Frame := [.native { method := ⟨0, 0⟩, args := #[] }]
def about1 : State := aboutOver below0
def p0 : Program := .bare "" "" ""
def e0 : Env := launch0.env 0 0 0
theorem w_frames : about1.frames = Frame.invoking theMethod args0 :: below0 := rfl
set_option maxRecDepth 65536 in
theorem w_args : argsFit about1.vm theMethod args0 = true := by decide +kernel
set_option maxRecDepth 65536 in
theorem w_heap : heapFits about1 = true := by decide +kernel
set_option maxRecDepth 65536 in
theorem w_runnable : about1.curStatus? = some .runnable := by decide +kernel
set_option maxRecDepth 65536 in
theorem w_alone : about1.alone = true := by decide +kernel
set_option maxRecDepth 65536 in
theorem w_named : about1.methodNamed? x = some theMethod := by decide +kernel
set_option maxRecDepth 65536 in
theorem w_hears : about1.hears theMethod below0 = true := by decide +kernel
set_option maxRecDepth 65536 in
theorem w_ripe : about1.ripe theMethod args0 below0 = true := by decide +kernel
theorem w_running : about1.status = .running := rfl
set_option maxRecDepth 65536 in
theorem w_room : about1.hasRoom e0.platform room_1 = true :=
  launch0.hasRoom_least _ room_1 (by decide +kernel) (by decide +kernel) (by decide +kernel) (by decide +kernel) (by decide +kernel) (by decide +kernel)
theorem allAtoms_all (ts : List Jvm.Cond) (a : Array Jvm.Value) (st : Jvm.State) : (allAtoms ts).before a st = ts.all (fun c => c.before a st) := by
  induction ts with
  | nil => rfl
  | cons c t ih =>
    show (Jvm.Cond.and c (allAtoms t)).before a st = _
    rw [Jvm.Cond.before_and, ih, List.all_cons]
def words1 : List Jvm.Cond := Jvm.Cond.code x code maxLocals ret :: tables_1
/-- a 'code' word, met by the world's own term for the bytes: nothing is compared byte by byte -/
theorem code_word {y : MethodName} {bytes : ByteArray} {mx : Nat} {rt : Option FieldType} {a : Array Value} {s : State} {m : MethodId} {meth : Method} {c : Code} (h1 : s.methodNamed? y = some m) (h2 : s.vm.method? m = some meth) (h3 : meth.code = some c) (h4 : c.code = bytes)
    (h5 : (c.maxLocals == mx && c.exceptionTable.isEmpty && decide (c.maxStack ≤ mostOperands) && decide (meth.sig.returnType = rt) && !meth.locks && decide (parseMethodDescriptor y.desc = some meth.sig)) = true) : (Jvm.Cond.code y bytes mx rt).before a s = true := by
  simp only [Bool.and_eq_true, beq_iff_eq, Bool.not_eq_true', decide_eq_true_eq] at h5
  obtain ⟨⟨⟨⟨⟨g1, g2⟩, g3⟩, g4⟩, g5⟩, g6⟩ := h5
  simp [Cond.before, Cond.holds, Cond.value, h1, h2, h3, h4, g1, g2, g3, g4, g5, g6]
def isCode : Jvm.Cond → Bool
  | .code _ _ _ _ => true
  | _ => false
theorem all_split {L : List Jvm.Cond} {P : Jvm.Cond → Bool} (h1 : L.all (fun c => isCode c || P c) = true) (h2 : ∀ c ∈ L.filter isCode, P c = true) : L.all P = true := by
  refine List.all_eq_true.mpr fun c hc => ?_
  have h := List.all_eq_true.mp h1 c hc
  rcases Bool.eq_false_or_eq_true (isCode c) with hi | hi
  · exact h2 c (List.mem_filter.mpr ⟨hc, hi⟩)
  · simpa [hi] using h
set_option maxRecDepth 65536 in
theorem w_c0 : (Jvm.Cond.code x code maxLocals ret).before args0 about1 = true := code_word (m := ⟨1, 2⟩) (meth := k1m2) (c := k1c2) (by decide +kernel) rfl rfl rfl (by decide +kernel)
set_option maxRecDepth 65536 in
theorem w_c1 : (Jvm.Cond.code ({ cls := "com/example/placetree/placetree/places/FieldDefinition", name := "isPlaceLevel", desc := "(C)Z" } : Jvm.MethodName) prog_39_method_10_code (2 : Nat) (Option.some Jvm.ClassFile.FieldType.boolean)).before args0 about1 = true := code_word (m := ⟨6, 0⟩) (meth := k6m0) (c := k6c0) (by decide +kernel) rfl rfl rfl (by decide +kernel)
set_option maxRecDepth 65536 in
theorem w_c2 : (Jvm.Cond.code ({ cls := "java/lang/String", name := "indexOf", desc := "(I)I" } : Jvm.MethodName) jdk_42_method_79_code (2 : Nat) (Option.some Jvm.ClassFile.FieldType.int)).before args0 about1 = true := code_word (m := ⟨9, 2⟩) (meth := k9m2) (c := k9c2) (by decide +kernel) rfl rfl rfl (by decide +kernel)
set_option maxRecDepth 65536 in
theorem w_c3 : (Jvm.Cond.code ({ cls := "java/lang/String", name := "indexOf", desc := "(II)I" } : Jvm.MethodName) jdk_42_method_80_code (3 : Nat) (Option.some Jvm.ClassFile.FieldType.int)).before args0 about1 = true := code_word (m := ⟨9, 3⟩) (meth := k9m3) (c := k9c3) (by decide +kernel) rfl rfl rfl (by decide +kernel)
set_option maxRecDepth 65536 in
theorem w_c4 : (Jvm.Cond.code ({ cls := "java/lang/String", name := "isLatin1", desc := "()Z" } : Jvm.MethodName) jdk_42_method_154_code (1 : Nat) (Option.some Jvm.ClassFile.FieldType.boolean)).before args0 about1 = true := code_word (m := ⟨9, 5⟩) (meth := k9m5) (c := k9c5) (by decide +kernel) rfl rfl rfl (by decide +kernel)
set_option maxRecDepth 65536 in
theorem w_c5 : (Jvm.Cond.code ({ cls := "java/lang/String", name := "length", desc := "()I" } : Jvm.MethodName) jdk_42_method_54_code (1 : Nat) (Option.some Jvm.ClassFile.FieldType.int)).before args0 about1 = true := code_word (m := ⟨9, 1⟩) (meth := k9m1) (c := k9c1) (by decide +kernel) rfl rfl rfl (by decide +kernel)
set_option maxRecDepth 65536 in
theorem w_c6 : (Jvm.Cond.code ({ cls := "java/lang/String", name := "coder", desc := "()B" } : Jvm.MethodName) jdk_42_method_152_code (1 : Nat) (Option.some Jvm.ClassFile.FieldType.byte)).before args0 about1 = true := code_word (m := ⟨9, 4⟩) (meth := k9m4) (c := k9c4) (by decide +kernel) rfl rfl rfl (by decide +kernel)
set_option maxRecDepth 65536 in
theorem w_c7 : (Jvm.Cond.code ({ cls := "java/lang/StringLatin1", name := "indexOf", desc := "([BIII)I" } : Jvm.MethodName) jdk_43_method_22_code (4 : Nat) (Option.some Jvm.ClassFile.FieldType.int)).before args0 about1 = true := code_word (m := ⟨10, 2⟩) (meth := k10m2) (c := k10c2) (by decide +kernel) rfl rfl rfl (by decide +kernel)
set_option maxRecDepth 65536 in
theorem w_c8 : (Jvm.Cond.code ({ cls := "java/lang/StringLatin1", name := "canEncode", desc := "(I)Z" } : Jvm.MethodName) jdk_43_method_4_code (1 : Nat) (Option.some Jvm.ClassFile.FieldType.boolean)).before args0 about1 = true := code_word (m := ⟨10, 1⟩) (meth := k10m1) (c := k10c1) (by decide +kernel) rfl rfl rfl (by decide +kernel)
set_option maxRecDepth 65536 in
theorem w_c9 : (Jvm.Cond.code ({ cls := "java/lang/Math", name := "max", desc := "(II)I" } : Jvm.MethodName) jdk_29_method_65_code (2 : Nat) (Option.some Jvm.ClassFile.FieldType.int)).before args0 about1 = true := code_word (m := ⟨11, 1⟩) (meth := k11m1) (c := k11c1) (by decide +kernel) rfl rfl rfl (by decide +kernel)
set_option maxRecDepth 65536 in
theorem w_c10 : (Jvm.Cond.code ({ cls := "java/lang/Math", name := "min", desc := "(II)I" } : Jvm.MethodName) jdk_29_method_69_code (2 : Nat) (Option.some Jvm.ClassFile.FieldType.int)).before args0 about1 = true := code_word (m := ⟨11, 2⟩) (meth := k11m2) (c := k11c2) (by decide +kernel) rfl rfl rfl (by decide +kernel)
set_option maxRecDepth 65536 in
theorem w_c11 : (Jvm.Cond.code ({ cls := "java/lang/StringLatin1", name := "indexOfChar", desc := "([BIII)I" } : Jvm.MethodName) jdk_43_method_23_code (6 : Nat) (Option.some Jvm.ClassFile.FieldType.int)).before args0 about1 = true := code_word (m := ⟨10, 3⟩) (meth := k10m3) (c := k10c3) (by decide +kernel) rfl rfl rfl (by decide +kernel)
set_option maxRecDepth 65536 in
theorem w_c12 : (Jvm.Cond.code ({ cls := "com/example/placetree/placetree/places/FieldDefinitionIsPlaceLevelPinLaw", name := "expected", desc := "(IC)Z" } : Jvm.MethodName) method_2_code (2 : Nat) (Option.some Jvm.ClassFile.FieldType.boolean)).before args0 about1 = true := code_word (m := ⟨1, 1⟩) (meth := k1m1) (c := k1c1) (by decide +kernel) rfl rfl rfl (by decide +kernel)
def codes1 : List Jvm.Cond := [Jvm.Cond.code x code maxLocals ret, Jvm.Cond.code ({ cls := "com/example/placetree/placetree/places/FieldDefinition", name := "isPlaceLevel", desc := "(C)Z" } : Jvm.MethodName) prog_39_method_10_code (2 : Nat) (Option.some Jvm.ClassFile.FieldType.boolean), Jvm.Cond.code ({ cls := "java/lang/String", name := "indexOf", desc := "(I)I" } : Jvm.MethodName) jdk_42_method_79_code (2 : Nat) (Option.some Jvm.ClassFile.FieldType.int), Jvm.Cond.code ({ cls := "java/lang/String", name := "indexOf", desc := "(II)I" } : Jvm.MethodName) jdk_42_method_80_code (3 : Nat) (Option.some Jvm.ClassFile.FieldType.int), Jvm.Cond.code ({ cls := "java/lang/String", name := "isLatin1", desc := "()Z" } : Jvm.MethodName) jdk_42_method_154_code (1 : Nat) (Option.some Jvm.ClassFile.FieldType.boolean), Jvm.Cond.code ({ cls := "java/lang/String", name := "length", desc := "()I" } : Jvm.MethodName) jdk_42_method_54_code (1 : Nat) (Option.some Jvm.ClassFile.FieldType.int), Jvm.Cond.code ({ cls := "java/lang/String", name := "coder", desc := "()B" } : Jvm.MethodName) jdk_42_method_152_code (1 : Nat) (Option.some Jvm.ClassFile.FieldType.byte), Jvm.Cond.code ({ cls := "java/lang/StringLatin1", name := "indexOf", desc := "([BIII)I" } : Jvm.MethodName) jdk_43_method_22_code (4 : Nat) (Option.some Jvm.ClassFile.FieldType.int), Jvm.Cond.code ({ cls := "java/lang/StringLatin1", name := "canEncode", desc := "(I)Z" } : Jvm.MethodName) jdk_43_method_4_code (1 : Nat) (Option.some Jvm.ClassFile.FieldType.boolean), Jvm.Cond.code ({ cls := "java/lang/Math", name := "max", desc := "(II)I" } : Jvm.MethodName) jdk_29_method_65_code (2 : Nat) (Option.some Jvm.ClassFile.FieldType.int), Jvm.Cond.code ({ cls := "java/lang/Math", name := "min", desc := "(II)I" } : Jvm.MethodName) jdk_29_method_69_code (2 : Nat) (Option.some Jvm.ClassFile.FieldType.int), Jvm.Cond.code ({ cls := "java/lang/StringLatin1", name := "indexOfChar", desc := "([BIII)I" } : Jvm.MethodName) jdk_43_method_23_code (6 : Nat) (Option.some Jvm.ClassFile.FieldType.int), Jvm.Cond.code ({ cls := "com/example/placetree/placetree/places/FieldDefinitionIsPlaceLevelPinLaw", name := "expected", desc := "(IC)Z" } : Jvm.MethodName) method_2_code (2 : Nat) (Option.some Jvm.ClassFile.FieldType.boolean)]
set_option maxRecDepth 65536 in
theorem codes_eq : words1.filter isCode = codes1 := rfl
theorem w_codes : ∀ c ∈ words1.filter isCode, c.before args0 about1 = true := by
  rw [codes_eq]
  intro c hc
  simp only [codes1, List.mem_cons, List.not_mem_nil, or_false] at hc
  rcases hc with rfl | rfl | rfl | rfl | rfl | rfl | rfl | rfl | rfl | rfl | rfl | rfl | rfl
  · exact w_c0
  · exact w_c1
  · exact w_c2
  · exact w_c3
  · exact w_c4
  · exact w_c5
  · exact w_c6
  · exact w_c7
  · exact w_c8
  · exact w_c9
  · exact w_c10
  · exact w_c11
  · exact w_c12
set_option maxRecDepth 65536 in
theorem w_t1 : (words1.take 24).all (fun c => isCode c || c.before args0 about1) = true := by decide +kernel
set_option maxRecDepth 65536 in
theorem w_t2 : ((words1.drop 24).take 24).all (fun c => isCode c || c.before args0 about1) = true := by decide +kernel
set_option maxRecDepth 65536 in
theorem w_t3 : ((words1.drop 24).drop 24).all (fun c => isCode c || c.before args0 about1) = true := by decide +kernel
theorem w_tables : (allAtoms (Jvm.Cond.code x code maxLocals ret :: tables_1)).before args0 about1 = true := by
  rw [allAtoms_all]
  show words1.all (fun c => c.before args0 about1) = true
  refine all_split ?_ w_codes
  rw [← List.take_append_drop 24 words1, List.all_append, w_t1, ← List.take_append_drop 24 (words1.drop 24), List.all_append, w_t2, w_t3]
  rfl
set_option maxRecDepth 65536 in
theorem w_rest : rest_1_c.before args0 about1 = true := by decide +kernel
set_option maxRecDepth 65536 in
theorem w_case : (Jvm.Cond.and given_1 narrow_1).before args0 about1 = true := by decide +kernel
theorem w_applies : (headSpec (Jvm.Cond.code x code maxLocals ret :: tables_1) room_1).applies x e0.platform about1 = true :=
  (Spec.applies_iff w_frames).mpr ⟨w_running, w_runnable, w_alone, w_named, w_hears, w_ripe, w_room, w_tables⟩
theorem atStart : AtStart classFile x code maxLocals ret World_1 tables_1 room_1 Calls_1 rest_1 Pre_1 launch0 p0 e0 about1 theMethod args0 below0 :=
  ⟨lists_1, trivial, launch0.admits_env _ _ _, launch0.least_env, fairChoices_fair.cas, fairChoices_fair.clock, w_frames, w_args, w_heap, w_applies, trivial, w_rest, w_case⟩
end start1
theorem witness_1 : WitnessClaimed_1 := ⟨start1.p0, start1.e0, start1.about1, start1.theMethod, start1.args0, start1.below0, start1.atStart⟩
end Jvm.Pilot.@@N@@
