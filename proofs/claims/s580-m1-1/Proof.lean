import JvmDerived
import JvmDerived.Pilot.@@N@@Statement
import JvmDerived.Pilot.@@N@@Code
set_option linter.unusedVariables false
set_option linter.unusedSimpArgs false
namespace Jvm.RoadKit
open Sem ClassFile Op Lib Jvm.Stand Jvm.Free Jvm.LawKit
section New
variable {p : Program} {l : Launch} {e : Env} {R : Room} {s : State} {m : MethodId} {args : Array Value} {below : List Frame} {meth : Method} {c : Code} {T : State} {locs : List Loc} {cells slots : Nat}
theorem retI (X : Stand p l e R s m args below meth c T locs cells slots) (hx : p.tables.exec = Jvm.exec) {pc : Nat} {Ls : Array Slot} {z : Int32} {rest : List Value} (hret : meth.sig.returnType = some .int) (hd : decode c.code pc = .ok (.ireturn, 1)) {fs : List Frame}
    (hl : ∀ (f : JFrame) (acts : List Action), f.method = m → f.locked = none → f.entered = [] → (doReturn e (T.setTop f) acts (some (.int z))).1 = T.setFrames fs) : Steps p.tables e below (T.setTop (mkF m pc Ls (.int z :: rest))) (T.setFrames fs) := by
  have hm' : T.vm.method? m = some meth := X.method'
  have hn : narrow .int (.int z) = .int z := rfl
  show Steps p.tables e below (T.setTop { method := m, pc := pc, locals := Ls, stack := _ :: rest, locked := none }) _
  jvm_step X.here [X.here.top, hx, hd, hm', hret, hn]
  first | (intro acts; rw [hl _ acts rfl rfl rfl]) | rw [hl _ _ rfl rfl rfl]
  exact Steps.refl _
/-- the walk that stands at g in T comes to its end, with Q -/
def OE (FE : State → Outcome → State → List Loc → Nat → Nat → Prop) (p : Program) (e : Env) (below : List Frame) (s : State) (Q : Option Value → Heap → List Loc → Prop) (kc ks : Nat) (T : State) (g : JFrame) : Prop :=
  ∃ s₂ o, Steps p.tables e below (T.setTop g) s₂ ∧ s₂.status = .running ∧ Ended s₂ below o ∧ ∃ v L, o = .returned v ∧ Q v s₂.heap L ∧ FE s o s₂ L kc ks
variable {FE : State → Outcome → State → List Loc → Nat → Nat → Prop} {Q : Option Value → Heap → List Loc → Prop} {kc ks : Nat} {s' : State}
theorem OE.of {T' : State} {g g' : JFrame} (k : ∀ t, Steps p.tables e below (T'.setTop g') t → Steps p.tables e below (T.setTop g) t) (h : OE FE p e below s Q kc ks T' g') : OE FE p e below s Q kc ks T g := by
  obtain ⟨s₂, o, h1, h2⟩ := h
  exact ⟨s₂, o, k _ h1, h2⟩
theorem OE.retN (X : Stand p l e R s m args below meth c T locs cells slots) (hx : p.tables.exec = Jvm.exec) {pc : Nat} {Ls : Array Slot} {z : Int32} {t : FieldType} {rest : List Value} (hret : meth.sig.returnType = some t) (ht : t = .boolean ∨ t = .byte ∨ t = .char ∨ t = .short) (hlk : meth.locks = false)
    (hd : decode c.code pc = .ok (.ireturn, 1)) (hc : cells ≤ kc) (hs : slots ≤ ks) (hQ : Q (some (.int (nar t z))) T.heap locs) : OE FrameEnd p e below s Q kc ks T (mkF m pc Ls (.int z :: rest)) := by
  obtain ⟨fs, hr, hrun, hended, hW, hsame⟩ := X.leave (v := some (.int (nar t z))) (fun h => by rw [hret] at h; cases h) hlk
  exact ⟨_, _, Jvm.RoadKit.retN X hx hret ht hd hr, hrun, hended, _, _, rfl, hQ, ⟨_, rfl⟩, hW, hsame.mono hc hs⟩
theorem OE.retI (X : Stand p l e R s m args below meth c T locs cells slots) (hx : p.tables.exec = Jvm.exec) {pc : Nat} {Ls : Array Slot} {z : Int32} {rest : List Value} (hret : meth.sig.returnType = some .int) (hlk : meth.locks = false)
    (hd : decode c.code pc = .ok (.ireturn, 1)) (hc : cells ≤ kc) (hs : slots ≤ ks) (hQ : Q (some (.int z)) T.heap locs) : OE FrameEnd p e below s Q kc ks T (mkF m pc Ls (.int z :: rest)) := by
  obtain ⟨fs, hr, hrun, hended, hW, hsame⟩ := X.leave (v := some (.int z)) (fun h => by rw [hret] at h; cases h) hlk
  exact ⟨_, _, Jvm.RoadKit.retI X hx hret hd hr, hrun, hended, _, _, rfl, hQ, ⟨_, rfl⟩, hW, hsame.mono hc hs⟩
theorem OE.retJ (X : Stand p l e R s m args below meth c T locs cells slots) (hx : p.tables.exec = Jvm.exec) {pc : Nat} {Ls : Array Slot} {z : Int64} (hret : meth.sig.returnType = some .long) (hlk : meth.locks = false)
    (hd : decode c.code pc = .ok (.lreturn, 1)) (hc : cells ≤ kc) (hs : slots ≤ ks) (hQ : Q (some (.long z)) T.heap locs) : OE FrameEnd p e below s Q kc ks T (mkF m pc Ls [.long z]) := by
  obtain ⟨fs, hr, hrun, hended, hW, hsame⟩ := X.leave (v := some (.long z)) (fun h => by rw [hret] at h; cases h) hlk
  exact ⟨_, _, X.lreturnOut hx hret hd hr, hrun, hended, _, _, rfl, hQ, ⟨_, rfl⟩, hW, hsame.mono hc hs⟩
theorem OE.retA (X : Stand p l e R s m args below meth c T locs cells slots) (hx : p.tables.exec = Jvm.exec) {pc : Nat} {Ls : Array Slot} {w : Value} {t : FieldType} (hw : w.isRef = true) (hret : meth.sig.returnType = some t) (ht : t.isReference = true) (hlk : meth.locks = false)
    (hd : decode c.code pc = .ok (.areturn, 1)) (hc : cells ≤ kc) (hs : slots ≤ ks) (hQ : Q (some w) T.heap locs) : OE FrameEnd p e below s Q kc ks T (mkF m pc Ls [w]) := by
  obtain ⟨fs, hr, hrun, hended, hW, hsame⟩ := X.leave (v := some w) (fun h => by rw [hret] at h; cases h) hlk
  exact ⟨_, _, X.areturnOut hx hw hret ht hd hr, hrun, hended, _, _, rfl, hQ, ⟨_, rfl⟩, hW, hsame.mono hc hs⟩
theorem OE.ret0 (X : Stand p l e R s m args below meth c T locs cells slots) (hx : p.tables.exec = Jvm.exec) {pc : Nat} {Ls : Array Slot} (hret : meth.sig.returnType = none) (hlk : meth.locks = false)
    (hd : decode c.code pc = .ok (.return_, 1)) (hc : cells ≤ kc) (hs : slots ≤ ks) (hQ : Q none T.heap locs) : OE FrameEnd p e below s Q kc ks T (mkF m pc Ls []) := by
  obtain ⟨fs, hr, hrun, hended, hW, hsame⟩ := X.leave (v := none) (fun _ => rfl) hlk
  exact ⟨_, _, X.returnOut hx hret hd hr, hrun, hended, _, _, rfl, hQ, ⟨_, rfl⟩, hW, hsame.mono hc hs⟩
theorem OE.iload (X : Stand p l e R s' m args below meth c T locs cells slots) (hx : p.tables.exec = Jvm.exec) {code : ByteArray} (hby : c.code = code) {pc : Nat} {Ls : Array Slot} {k : Nat} {v : Int32} {st : List Value} (hd : decode code pc = .ok (.iload k, 2)) (hl : Ls[k]? = some (.val (.int v))) (h : OE FE p e below s Q kc ks T (mkF m (pc + 2) Ls (.int v :: st))) : OE FE p e below s Q kc ks T (mkF m pc Ls (st)) := OE.of (fun _ k' => XS.iload X.here hx rfl (hb hby hd) hl k') h
theorem OE.iloadN (X : Stand p l e R s' m args below meth c T locs cells slots) (hx : p.tables.exec = Jvm.exec) {code : ByteArray} (hby : c.code = code) {pc : Nat} {Ls : Array Slot} {k : Fin 4} {v : Int32} {st : List Value} (hd : decode code pc = .ok (.iload_n k, 1)) (hl : Ls[k.val]? = some (.val (.int v))) (h : OE FE p e below s Q kc ks T (mkF m (pc + 1) Ls (.int v :: st))) : OE FE p e below s Q kc ks T (mkF m pc Ls (st)) := OE.of (fun _ k' => XS.iloadN X.here hx rfl (hb hby hd) hl k') h
theorem OE.lload (X : Stand p l e R s' m args below meth c T locs cells slots) (hx : p.tables.exec = Jvm.exec) {code : ByteArray} (hby : c.code = code) {pc : Nat} {Ls : Array Slot} {k : Nat} {v : Int64} {st : List Value} (hd : decode code pc = .ok (.lload k, 2)) (hl : Ls[k]? = some (.val (.long v))) (h : OE FE p e below s Q kc ks T (mkF m (pc + 2) Ls (.long v :: st))) : OE FE p e below s Q kc ks T (mkF m pc Ls (st)) := OE.of (fun _ k' => XS.lload X.here hx rfl (hb hby hd) hl k') h
theorem OE.lloadN (X : Stand p l e R s' m args below meth c T locs cells slots) (hx : p.tables.exec = Jvm.exec) {code : ByteArray} (hby : c.code = code) {pc : Nat} {Ls : Array Slot} {k : Fin 4} {v : Int64} {st : List Value} (hd : decode code pc = .ok (.lload_n k, 1)) (hl : Ls[k.val]? = some (.val (.long v))) (h : OE FE p e below s Q kc ks T (mkF m (pc + 1) Ls (.long v :: st))) : OE FE p e below s Q kc ks T (mkF m pc Ls (st)) := OE.of (fun _ k' => XS.lloadN X.here hx rfl (hb hby hd) hl k') h
theorem OE.aload (X : Stand p l e R s' m args below meth c T locs cells slots) (hx : p.tables.exec = Jvm.exec) {code : ByteArray} (hby : c.code = code) {pc : Nat} {Ls : Array Slot} {k : Nat} {v : Value} {st : List Value} (hd : decode code pc = .ok (.aload k, 2)) (hl : Ls[k]? = some (.val v)) (hv : v.isRef = true) (h : OE FE p e below s Q kc ks T (mkF m (pc + 2) Ls (v :: st))) : OE FE p e below s Q kc ks T (mkF m pc Ls (st)) := OE.of (fun _ k' => XS.aload X.here hx rfl (hb hby hd) hl hv k') h
theorem OE.aloadN (X : Stand p l e R s' m args below meth c T locs cells slots) (hx : p.tables.exec = Jvm.exec) {code : ByteArray} (hby : c.code = code) {pc : Nat} {Ls : Array Slot} {k : Fin 4} {v : Value} {st : List Value} (hd : decode code pc = .ok (.aload_n k, 1)) (hl : Ls[k.val]? = some (.val v)) (hv : v.isRef = true) (h : OE FE p e below s Q kc ks T (mkF m (pc + 1) Ls (v :: st))) : OE FE p e below s Q kc ks T (mkF m pc Ls (st)) := OE.of (fun _ k' => XS.aloadN X.here hx rfl (hb hby hd) hl hv k') h
theorem OE.istore (X : Stand p l e R s' m args below meth c T locs cells slots) (hx : p.tables.exec = Jvm.exec) {code : ByteArray} (hby : c.code = code) {pc : Nat} {Ls : Array Slot} {k : Nat} {v : Int32} {st : List Value} {l' : Array Slot} (hd : decode code pc = .ok (.istore k, 2)) (hl : storeLocals Ls k (.int v) = some l') (h : OE FE p e below s Q kc ks T (mkF m (pc + 2) l' (st))) : OE FE p e below s Q kc ks T (mkF m pc Ls (.int v :: st)) := OE.of (fun _ k' => XS.istore X.here hx rfl (hb hby hd) rfl hl k') h
theorem OE.istoreN (X : Stand p l e R s' m args below meth c T locs cells slots) (hx : p.tables.exec = Jvm.exec) {code : ByteArray} (hby : c.code = code) {pc : Nat} {Ls : Array Slot} {k : Fin 4} {v : Int32} {st : List Value} {l' : Array Slot} (hd : decode code pc = .ok (.istore_n k, 1)) (hl : storeLocals Ls k.val (.int v) = some l') (h : OE FE p e below s Q kc ks T (mkF m (pc + 1) l' (st))) : OE FE p e below s Q kc ks T (mkF m pc Ls (.int v :: st)) := OE.of (fun _ k' => XS.istoreN X.here hx rfl (hb hby hd) rfl hl k') h
theorem OE.lstore (X : Stand p l e R s' m args below meth c T locs cells slots) (hx : p.tables.exec = Jvm.exec) {code : ByteArray} (hby : c.code = code) {pc : Nat} {Ls : Array Slot} {k : Nat} {v : Int64} {st : List Value} {l' : Array Slot} (hd : decode code pc = .ok (.lstore k, 2)) (hl : storeLocals Ls k (.long v) = some l') (h : OE FE p e below s Q kc ks T (mkF m (pc + 2) l' (st))) : OE FE p e below s Q kc ks T (mkF m pc Ls (.long v :: st)) := OE.of (fun _ k' => XS.lstore X.here hx rfl (hb hby hd) rfl hl k') h
theorem OE.lstoreN (X : Stand p l e R s' m args below meth c T locs cells slots) (hx : p.tables.exec = Jvm.exec) {code : ByteArray} (hby : c.code = code) {pc : Nat} {Ls : Array Slot} {k : Fin 4} {v : Int64} {st : List Value} {l' : Array Slot} (hd : decode code pc = .ok (.lstore_n k, 1)) (hl : storeLocals Ls k.val (.long v) = some l') (h : OE FE p e below s Q kc ks T (mkF m (pc + 1) l' (st))) : OE FE p e below s Q kc ks T (mkF m pc Ls (.long v :: st)) := OE.of (fun _ k' => XS.lstoreN X.here hx rfl (hb hby hd) rfl hl k') h
theorem OE.astore (X : Stand p l e R s' m args below meth c T locs cells slots) (hx : p.tables.exec = Jvm.exec) {code : ByteArray} (hby : c.code = code) {pc : Nat} {Ls : Array Slot} {k : Nat} {v : Value} {st : List Value} {l' : Array Slot} (hd : decode code pc = .ok (.astore k, 2)) (hv : v.isRef = true) (hl : storeLocals Ls k v = some l') (h : OE FE p e below s Q kc ks T (mkF m (pc + 2) l' (st))) : OE FE p e below s Q kc ks T (mkF m pc Ls (v :: st)) := OE.of (fun _ k' => XS.astore X.here hx rfl (hb hby hd) rfl hv hl k') h
theorem OE.astoreN (X : Stand p l e R s' m args below meth c T locs cells slots) (hx : p.tables.exec = Jvm.exec) {code : ByteArray} (hby : c.code = code) {pc : Nat} {Ls : Array Slot} {k : Fin 4} {v : Value} {st : List Value} {l' : Array Slot} (hd : decode code pc = .ok (.astore_n k, 1)) (hv : v.isRef = true) (hl : storeLocals Ls k.val v = some l') (h : OE FE p e below s Q kc ks T (mkF m (pc + 1) l' (st))) : OE FE p e below s Q kc ks T (mkF m pc Ls (v :: st)) := OE.of (fun _ k' => XS.astoreN X.here hx rfl (hb hby hd) rfl hv hl k') h
theorem OE.iconst (X : Stand p l e R s' m args below meth c T locs cells slots) (hx : p.tables.exec = Jvm.exec) {code : ByteArray} (hby : c.code = code) {pc : Nat} {Ls : Array Slot} {i : Int} {st : List Value} (hd : decode code pc = .ok (.iconst i, 1)) (z : Int32) (hz : Int32.ofInt i = z) (h : OE FE p e below s Q kc ks T (mkF m (pc + 1) Ls (.int z :: st))) : OE FE p e below s Q kc ks T (mkF m pc Ls (st)) := OE.of (fun _ k' => XS.iconst X.here hx rfl (hb hby hd) (by subst hz; exact k')) h
theorem OE.bipush (X : Stand p l e R s' m args below meth c T locs cells slots) (hx : p.tables.exec = Jvm.exec) {code : ByteArray} (hby : c.code = code) {pc : Nat} {Ls : Array Slot} {i : Int} {st : List Value} (hd : decode code pc = .ok (.bipush i, 2)) (z : Int32) (hz : (Int8.ofInt i).toInt32 = z) (h : OE FE p e below s Q kc ks T (mkF m (pc + 2) Ls (.int z :: st))) : OE FE p e below s Q kc ks T (mkF m pc Ls (st)) := OE.of (fun _ k' => XS.bipush X.here hx rfl (hb hby hd) (by subst hz; exact k')) h
theorem OE.sipush (X : Stand p l e R s' m args below meth c T locs cells slots) (hx : p.tables.exec = Jvm.exec) {code : ByteArray} (hby : c.code = code) {pc : Nat} {Ls : Array Slot} {i : Int} {st : List Value} (hd : decode code pc = .ok (.sipush i, 3)) (z : Int32) (hz : (Int16.ofInt i).toInt32 = z) (h : OE FE p e below s Q kc ks T (mkF m (pc + 3) Ls (.int z :: st))) : OE FE p e below s Q kc ks T (mkF m pc Ls (st)) := OE.of (fun _ k' => XS.sipush X.here hx rfl (hb hby hd) (by subst hz; exact k')) h
theorem OE.lconst (X : Stand p l e R s' m args below meth c T locs cells slots) (hx : p.tables.exec = Jvm.exec) {code : ByteArray} (hby : c.code = code) {pc : Nat} {Ls : Array Slot} {i : Fin 2} {st : List Value} (hd : decode code pc = .ok (.lconst i, 1)) (z : Int64) (hz : Int64.ofNat i = z) (h : OE FE p e below s Q kc ks T (mkF m (pc + 1) Ls (.long z :: st))) : OE FE p e below s Q kc ks T (mkF m pc Ls (st)) := OE.of (fun _ k' => XS.lconst X.here hx rfl (hb hby hd) (by subst hz; exact k')) h
theorem OE.aconstNull (X : Stand p l e R s' m args below meth c T locs cells slots) (hx : p.tables.exec = Jvm.exec) {code : ByteArray} (hby : c.code = code) {pc : Nat} {Ls : Array Slot} {st : List Value} (hd : decode code pc = .ok (.aconst_null, 1))  (h : OE FE p e below s Q kc ks T (mkF m (pc + 1) Ls (.null :: st))) : OE FE p e below s Q kc ks T (mkF m pc Ls (st)) := OE.of (fun _ k' => XS.aconstNull X.here hx rfl (hb hby hd) k') h
theorem OE.iadd (X : Stand p l e R s' m args below meth c T locs cells slots) (hx : p.tables.exec = Jvm.exec) {code : ByteArray} (hby : c.code = code) {pc : Nat} {Ls : Array Slot} {x y : Int32} {st : List Value} (hd : decode code pc = .ok (.iadd, 1))  (h : OE FE p e below s Q kc ks T (mkF m (pc + 1) Ls (.int (x + y) :: st))) : OE FE p e below s Q kc ks T (mkF m pc Ls (.int y :: .int x :: st)) := OE.of (fun _ k' => XS.iadd X.here hx rfl (hb hby hd) rfl k') h
theorem OE.ladd (X : Stand p l e R s' m args below meth c T locs cells slots) (hx : p.tables.exec = Jvm.exec) {code : ByteArray} (hby : c.code = code) {pc : Nat} {Ls : Array Slot} {x y : Int64} {st : List Value} (hd : decode code pc = .ok (.ladd, 1))  (h : OE FE p e below s Q kc ks T (mkF m (pc + 1) Ls (.long (x + y) :: st))) : OE FE p e below s Q kc ks T (mkF m pc Ls (.long y :: .long x :: st)) := OE.of (fun _ k' => XS.ladd X.here hx rfl (hb hby hd) rfl k') h
theorem OE.isub (X : Stand p l e R s' m args below meth c T locs cells slots) (hx : p.tables.exec = Jvm.exec) {code : ByteArray} (hby : c.code = code) {pc : Nat} {Ls : Array Slot} {x y : Int32} {st : List Value} (hd : decode code pc = .ok (.isub, 1))  (h : OE FE p e below s Q kc ks T (mkF m (pc + 1) Ls (.int (x - y) :: st))) : OE FE p e below s Q kc ks T (mkF m pc Ls (.int y :: .int x :: st)) := OE.of (fun _ k' => XS.isub X.here hx rfl (hb hby hd) rfl k') h
theorem OE.lsub (X : Stand p l e R s' m args below meth c T locs cells slots) (hx : p.tables.exec = Jvm.exec) {code : ByteArray} (hby : c.code = code) {pc : Nat} {Ls : Array Slot} {x y : Int64} {st : List Value} (hd : decode code pc = .ok (.lsub, 1))  (h : OE FE p e below s Q kc ks T (mkF m (pc + 1) Ls (.long (x - y) :: st))) : OE FE p e below s Q kc ks T (mkF m pc Ls (.long y :: .long x :: st)) := OE.of (fun _ k' => XS.lsub X.here hx rfl (hb hby hd) rfl k') h
theorem OE.imul (X : Stand p l e R s' m args below meth c T locs cells slots) (hx : p.tables.exec = Jvm.exec) {code : ByteArray} (hby : c.code = code) {pc : Nat} {Ls : Array Slot} {x y : Int32} {st : List Value} (hd : decode code pc = .ok (.imul, 1))  (h : OE FE p e below s Q kc ks T (mkF m (pc + 1) Ls (.int (x * y) :: st))) : OE FE p e below s Q kc ks T (mkF m pc Ls (.int y :: .int x :: st)) := OE.of (fun _ k' => XS.imul X.here hx rfl (hb hby hd) rfl k') h
theorem OE.lmul (X : Stand p l e R s' m args below meth c T locs cells slots) (hx : p.tables.exec = Jvm.exec) {code : ByteArray} (hby : c.code = code) {pc : Nat} {Ls : Array Slot} {x y : Int64} {st : List Value} (hd : decode code pc = .ok (.lmul, 1))  (h : OE FE p e below s Q kc ks T (mkF m (pc + 1) Ls (.long (x * y) :: st))) : OE FE p e below s Q kc ks T (mkF m pc Ls (.long y :: .long x :: st)) := OE.of (fun _ k' => XS.lmul X.here hx rfl (hb hby hd) rfl k') h
theorem OE.iand (X : Stand p l e R s' m args below meth c T locs cells slots) (hx : p.tables.exec = Jvm.exec) {code : ByteArray} (hby : c.code = code) {pc : Nat} {Ls : Array Slot} {x y : Int32} {st : List Value} (hd : decode code pc = .ok (.iand, 1))  (h : OE FE p e below s Q kc ks T (mkF m (pc + 1) Ls (.int (x &&& y) :: st))) : OE FE p e below s Q kc ks T (mkF m pc Ls (.int y :: .int x :: st)) := OE.of (fun _ k' => XS.iand X.here hx rfl (hb hby hd) rfl k') h
theorem OE.land (X : Stand p l e R s' m args below meth c T locs cells slots) (hx : p.tables.exec = Jvm.exec) {code : ByteArray} (hby : c.code = code) {pc : Nat} {Ls : Array Slot} {x y : Int64} {st : List Value} (hd : decode code pc = .ok (.land, 1))  (h : OE FE p e below s Q kc ks T (mkF m (pc + 1) Ls (.long (x &&& y) :: st))) : OE FE p e below s Q kc ks T (mkF m pc Ls (.long y :: .long x :: st)) := OE.of (fun _ k' => XS.land X.here hx rfl (hb hby hd) rfl k') h
theorem OE.ior (X : Stand p l e R s' m args below meth c T locs cells slots) (hx : p.tables.exec = Jvm.exec) {code : ByteArray} (hby : c.code = code) {pc : Nat} {Ls : Array Slot} {x y : Int32} {st : List Value} (hd : decode code pc = .ok (.ior, 1))  (h : OE FE p e below s Q kc ks T (mkF m (pc + 1) Ls (.int (x ||| y) :: st))) : OE FE p e below s Q kc ks T (mkF m pc Ls (.int y :: .int x :: st)) := OE.of (fun _ k' => XS.ior X.here hx rfl (hb hby hd) rfl k') h
theorem OE.lor (X : Stand p l e R s' m args below meth c T locs cells slots) (hx : p.tables.exec = Jvm.exec) {code : ByteArray} (hby : c.code = code) {pc : Nat} {Ls : Array Slot} {x y : Int64} {st : List Value} (hd : decode code pc = .ok (.lor, 1))  (h : OE FE p e below s Q kc ks T (mkF m (pc + 1) Ls (.long (x ||| y) :: st))) : OE FE p e below s Q kc ks T (mkF m pc Ls (.long y :: .long x :: st)) := OE.of (fun _ k' => XS.lor X.here hx rfl (hb hby hd) rfl k') h
theorem OE.ixor (X : Stand p l e R s' m args below meth c T locs cells slots) (hx : p.tables.exec = Jvm.exec) {code : ByteArray} (hby : c.code = code) {pc : Nat} {Ls : Array Slot} {x y : Int32} {st : List Value} (hd : decode code pc = .ok (.ixor, 1))  (h : OE FE p e below s Q kc ks T (mkF m (pc + 1) Ls (.int (x ^^^ y) :: st))) : OE FE p e below s Q kc ks T (mkF m pc Ls (.int y :: .int x :: st)) := OE.of (fun _ k' => XS.ixor X.here hx rfl (hb hby hd) rfl k') h
theorem OE.lxor (X : Stand p l e R s' m args below meth c T locs cells slots) (hx : p.tables.exec = Jvm.exec) {code : ByteArray} (hby : c.code = code) {pc : Nat} {Ls : Array Slot} {x y : Int64} {st : List Value} (hd : decode code pc = .ok (.lxor, 1))  (h : OE FE p e below s Q kc ks T (mkF m (pc + 1) Ls (.long (x ^^^ y) :: st))) : OE FE p e below s Q kc ks T (mkF m pc Ls (.long y :: .long x :: st)) := OE.of (fun _ k' => XS.lxor X.here hx rfl (hb hby hd) rfl k') h
theorem OE.ishl (X : Stand p l e R s' m args below meth c T locs cells slots) (hx : p.tables.exec = Jvm.exec) {code : ByteArray} (hby : c.code = code) {pc : Nat} {Ls : Array Slot} {x y : Int32} {st : List Value} (hd : decode code pc = .ok (.ishl, 1))  (h : OE FE p e below s Q kc ks T (mkF m (pc + 1) Ls (.int (x <<< (y &&& 31)) :: st))) : OE FE p e below s Q kc ks T (mkF m pc Ls (.int y :: .int x :: st)) := OE.of (fun _ k' => XS.ishl X.here hx rfl (hb hby hd) rfl k') h
theorem OE.ishr (X : Stand p l e R s' m args below meth c T locs cells slots) (hx : p.tables.exec = Jvm.exec) {code : ByteArray} (hby : c.code = code) {pc : Nat} {Ls : Array Slot} {x y : Int32} {st : List Value} (hd : decode code pc = .ok (.ishr, 1))  (h : OE FE p e below s Q kc ks T (mkF m (pc + 1) Ls (.int (x >>> (y &&& 31)) :: st))) : OE FE p e below s Q kc ks T (mkF m pc Ls (.int y :: .int x :: st)) := OE.of (fun _ k' => XS.ishr X.here hx rfl (hb hby hd) rfl k') h
theorem OE.iushr (X : Stand p l e R s' m args below meth c T locs cells slots) (hx : p.tables.exec = Jvm.exec) {code : ByteArray} (hby : c.code = code) {pc : Nat} {Ls : Array Slot} {x y : Int32} {st : List Value} (hd : decode code pc = .ok (.iushr, 1))  (h : OE FE p e below s Q kc ks T (mkF m (pc + 1) Ls (.int ((x.toUInt32 >>> (y &&& 31).toUInt32).toInt32) :: st))) : OE FE p e below s Q kc ks T (mkF m pc Ls (.int y :: .int x :: st)) := OE.of (fun _ k' => XS.iushr X.here hx rfl (hb hby hd) rfl k') h
theorem OE.lshl (X : Stand p l e R s' m args below meth c T locs cells slots) (hx : p.tables.exec = Jvm.exec) {code : ByteArray} (hby : c.code = code) {pc : Nat} {Ls : Array Slot} {x : Int64} {y : Int32} {st : List Value} (hd : decode code pc = .ok (.lshl, 1))  (h : OE FE p e below s Q kc ks T (mkF m (pc + 1) Ls (.long (x <<< (y &&& 0x3f).toInt64) :: st))) : OE FE p e below s Q kc ks T (mkF m pc Ls (.int y :: .long x :: st)) := OE.of (fun _ k' => XS.lshl X.here hx rfl (hb hby hd) rfl k') h
theorem OE.lshr (X : Stand p l e R s' m args below meth c T locs cells slots) (hx : p.tables.exec = Jvm.exec) {code : ByteArray} (hby : c.code = code) {pc : Nat} {Ls : Array Slot} {x : Int64} {y : Int32} {st : List Value} (hd : decode code pc = .ok (.lshr, 1))  (h : OE FE p e below s Q kc ks T (mkF m (pc + 1) Ls (.long (x >>> (y &&& 0x3f).toInt64) :: st))) : OE FE p e below s Q kc ks T (mkF m pc Ls (.int y :: .long x :: st)) := OE.of (fun _ k' => XS.lshr X.here hx rfl (hb hby hd) rfl k') h
theorem OE.lushr (X : Stand p l e R s' m args below meth c T locs cells slots) (hx : p.tables.exec = Jvm.exec) {code : ByteArray} (hby : c.code = code) {pc : Nat} {Ls : Array Slot} {x : Int64} {y : Int32} {st : List Value} (hd : decode code pc = .ok (.lushr, 1))  (h : OE FE p e below s Q kc ks T (mkF m (pc + 1) Ls (.long ((x.toUInt64 >>> (y &&& 0x3f).toInt64.toUInt64).toInt64) :: st))) : OE FE p e below s Q kc ks T (mkF m pc Ls (.int y :: .long x :: st)) := OE.of (fun _ k' => XS.lushr X.here hx rfl (hb hby hd) rfl k') h
theorem OE.ineg (X : Stand p l e R s' m args below meth c T locs cells slots) (hx : p.tables.exec = Jvm.exec) {code : ByteArray} (hby : c.code = code) {pc : Nat} {Ls : Array Slot} {x : Int32} {st : List Value} (hd : decode code pc = .ok (.ineg, 1))  (h : OE FE p e below s Q kc ks T (mkF m (pc + 1) Ls (.int (-x) :: st))) : OE FE p e below s Q kc ks T (mkF m pc Ls (.int x :: st)) := OE.of (fun _ k' => XS.ineg X.here hx rfl (hb hby hd) rfl k') h
theorem OE.lneg (X : Stand p l e R s' m args below meth c T locs cells slots) (hx : p.tables.exec = Jvm.exec) {code : ByteArray} (hby : c.code = code) {pc : Nat} {Ls : Array Slot} {x : Int64} {st : List Value} (hd : decode code pc = .ok (.lneg, 1))  (h : OE FE p e below s Q kc ks T (mkF m (pc + 1) Ls (.long (-x) :: st))) : OE FE p e below s Q kc ks T (mkF m pc Ls (.long x :: st)) := OE.of (fun _ k' => XS.lneg X.here hx rfl (hb hby hd) rfl k') h
theorem OE.i2l (X : Stand p l e R s' m args below meth c T locs cells slots) (hx : p.tables.exec = Jvm.exec) {code : ByteArray} (hby : c.code = code) {pc : Nat} {Ls : Array Slot} {x : Int32} {st : List Value} (hd : decode code pc = .ok (.i2l, 1))  (h : OE FE p e below s Q kc ks T (mkF m (pc + 1) Ls (.long x.toInt64 :: st))) : OE FE p e below s Q kc ks T (mkF m pc Ls (.int x :: st)) := OE.of (fun _ k' => XS.i2l X.here hx rfl (hb hby hd) rfl k') h
theorem OE.l2i (X : Stand p l e R s' m args below meth c T locs cells slots) (hx : p.tables.exec = Jvm.exec) {code : ByteArray} (hby : c.code = code) {pc : Nat} {Ls : Array Slot} {x : Int64} {st : List Value} (hd : decode code pc = .ok (.l2i, 1))  (h : OE FE p e below s Q kc ks T (mkF m (pc + 1) Ls (.int x.toInt32 :: st))) : OE FE p e below s Q kc ks T (mkF m pc Ls (.long x :: st)) := OE.of (fun _ k' => XS.l2i X.here hx rfl (hb hby hd) rfl k') h
theorem OE.i2b (X : Stand p l e R s' m args below meth c T locs cells slots) (hx : p.tables.exec = Jvm.exec) {code : ByteArray} (hby : c.code = code) {pc : Nat} {Ls : Array Slot} {x : Int32} {st : List Value} (hd : decode code pc = .ok (.i2b, 1))  (h : OE FE p e below s Q kc ks T (mkF m (pc + 1) Ls (.int x.toInt8.toInt32 :: st))) : OE FE p e below s Q kc ks T (mkF m pc Ls (.int x :: st)) := OE.of (fun _ k' => XS.i2b X.here hx rfl (hb hby hd) rfl k') h
theorem OE.i2s (X : Stand p l e R s' m args below meth c T locs cells slots) (hx : p.tables.exec = Jvm.exec) {code : ByteArray} (hby : c.code = code) {pc : Nat} {Ls : Array Slot} {x : Int32} {st : List Value} (hd : decode code pc = .ok (.i2s, 1))  (h : OE FE p e below s Q kc ks T (mkF m (pc + 1) Ls (.int x.toInt16.toInt32 :: st))) : OE FE p e below s Q kc ks T (mkF m pc Ls (.int x :: st)) := OE.of (fun _ k' => XS.i2s X.here hx rfl (hb hby hd) rfl k') h
theorem OE.i2c (X : Stand p l e R s' m args below meth c T locs cells slots) (hx : p.tables.exec = Jvm.exec) {code : ByteArray} (hby : c.code = code) {pc : Nat} {Ls : Array Slot} {x : Int32} {st : List Value} (hd : decode code pc = .ok (.i2c, 1))  (h : OE FE p e below s Q kc ks T (mkF m (pc + 1) Ls (.int x.toUInt32.toUInt16.toUInt32.toInt32 :: st))) : OE FE p e below s Q kc ks T (mkF m pc Ls (.int x :: st)) := OE.of (fun _ k' => XS.i2c X.here hx rfl (hb hby hd) rfl k') h
theorem OE.lcmp (X : Stand p l e R s' m args below meth c T locs cells slots) (hx : p.tables.exec = Jvm.exec) {code : ByteArray} (hby : c.code = code) {pc : Nat} {Ls : Array Slot} {x y : Int64} {st : List Value} (hd : decode code pc = .ok (.lcmp, 1))  (h : OE FE p e below s Q kc ks T (mkF m (pc + 1) Ls (.int (lcmpW x y) :: st))) : OE FE p e below s Q kc ks T (mkF m pc Ls (.long y :: .long x :: st)) := OE.of (fun _ k' => XS.lcmp X.here hx rfl (hb hby hd) rfl k') h
theorem OE.idiv (X : Stand p l e R s' m args below meth c T locs cells slots) (hx : p.tables.exec = Jvm.exec) {code : ByteArray} (hby : c.code = code) {pc : Nat} {Ls : Array Slot} {x y : Int32} {st : List Value} (hd : decode code pc = .ok (.idiv, 1)) (hy : y ≠ 0) (h : OE FE p e below s Q kc ks T (mkF m (pc + 1) Ls (.int (x / y) :: st))) : OE FE p e below s Q kc ks T (mkF m pc Ls (.int y :: .int x :: st)) := OE.of (fun _ k' => XS.idiv X.here hx rfl (hb hby hd) rfl hy k') h
theorem OE.irem (X : Stand p l e R s' m args below meth c T locs cells slots) (hx : p.tables.exec = Jvm.exec) {code : ByteArray} (hby : c.code = code) {pc : Nat} {Ls : Array Slot} {x y : Int32} {st : List Value} (hd : decode code pc = .ok (.irem, 1)) (hy : y ≠ 0) (h : OE FE p e below s Q kc ks T (mkF m (pc + 1) Ls (.int (x % y) :: st))) : OE FE p e below s Q kc ks T (mkF m pc Ls (.int y :: .int x :: st)) := OE.of (fun _ k' => XS.irem X.here hx rfl (hb hby hd) rfl hy (by rw [irem_eq_mod]; exact k')) h
theorem OE.ldiv (X : Stand p l e R s' m args below meth c T locs cells slots) (hx : p.tables.exec = Jvm.exec) {code : ByteArray} (hby : c.code = code) {pc : Nat} {Ls : Array Slot} {x y : Int64} {st : List Value} (hd : decode code pc = .ok (.ldiv, 1)) (hy : y ≠ 0) (h : OE FE p e below s Q kc ks T (mkF m (pc + 1) Ls (.long (x / y) :: st))) : OE FE p e below s Q kc ks T (mkF m pc Ls (.long y :: .long x :: st)) := OE.of (fun _ k' => XS.ldiv X.here hx rfl (hb hby hd) rfl hy k') h
theorem OE.lrem (X : Stand p l e R s' m args below meth c T locs cells slots) (hx : p.tables.exec = Jvm.exec) {code : ByteArray} (hby : c.code = code) {pc : Nat} {Ls : Array Slot} {x y : Int64} {st : List Value} (hd : decode code pc = .ok (.lrem, 1)) (hy : y ≠ 0) (h : OE FE p e below s Q kc ks T (mkF m (pc + 1) Ls (.long (x % y) :: st))) : OE FE p e below s Q kc ks T (mkF m pc Ls (.long y :: .long x :: st)) := OE.of (fun _ k' => XS.lrem X.here hx rfl (hb hby hd) rfl hy (by rw [lrem_mod]; exact k')) h
theorem OE.iinc (X : Stand p l e R s' m args below meth c T locs cells slots) (hx : p.tables.exec = Jvm.exec) {code : ByteArray} (hby : c.code = code) {pc : Nat} {Ls : Array Slot} {k : Nat} {cst : Int} {x : Int32} {l' : Array Slot} {st : List Value} (hd : decode code pc = .ok (.iinc k cst, 3)) (hl : Ls[k]? = some (.val (.int x))) (hl' : storeLocals Ls k (.int (x + Int32.ofInt cst)) = some l') (h : OE FE p e below s Q kc ks T (mkF m (pc + 3) l' (st))) : OE FE p e below s Q kc ks T (mkF m pc Ls (st)) := OE.of (fun _ k' => XS.iinc X.here hx rfl (hb hby hd) hl hl' k') h
theorem OE.dup (X : Stand p l e R s' m args below meth c T locs cells slots) (hx : p.tables.exec = Jvm.exec) {code : ByteArray} (hby : c.code = code) {pc : Nat} {Ls : Array Slot} {v : Value} {st : List Value} (hd : decode code pc = .ok (.dup, 1)) (hc : v.category = 1) (h : OE FE p e below s Q kc ks T (mkF m (pc + 1) Ls (v :: v :: st))) : OE FE p e below s Q kc ks T (mkF m pc Ls (v :: st)) := OE.of (fun _ k' => XS.dup X.here hx rfl (hb hby hd) rfl hc k') h
theorem OE.pop (X : Stand p l e R s' m args below meth c T locs cells slots) (hx : p.tables.exec = Jvm.exec) {code : ByteArray} (hby : c.code = code) {pc : Nat} {Ls : Array Slot} {v : Value} {st : List Value} (hd : decode code pc = .ok (.pop, 1)) (hc : v.category = 1) (h : OE FE p e below s Q kc ks T (mkF m (pc + 1) Ls (st))) : OE FE p e below s Q kc ks T (mkF m pc Ls (v :: st)) := OE.of (fun _ k' => XS.pop X.here hx rfl (hb hby hd) rfl hc k') h
theorem OE.dupX1 (X : Stand p l e R s' m args below meth c T locs cells slots) (hx : p.tables.exec = Jvm.exec) {code : ByteArray} (hby : c.code = code) {pc : Nat} {Ls : Array Slot} {v w : Value} {st : List Value} (hd : decode code pc = .ok (.dup_x1, 1)) (hc : v.category = 1) (hc' : w.category = 1) (h : OE FE p e below s Q kc ks T (mkF m (pc + 1) Ls (v :: w :: v :: st))) : OE FE p e below s Q kc ks T (mkF m pc Ls (v :: w :: st)) := OE.of (fun _ k' => XS.dupX1 X.here hx rfl (hb hby hd) rfl hc hc' k') h
theorem OE.dup2 (X : Stand p l e R s' m args below meth c T locs cells slots) (hx : p.tables.exec = Jvm.exec) {code : ByteArray} (hby : c.code = code) {pc : Nat} {Ls : Array Slot} {v w : Value} {st : List Value} (hd : decode code pc = .ok (.dup2, 1)) (hc : v.category = 1) (hc' : w.category = 1) (h : OE FE p e below s Q kc ks T (mkF m (pc + 1) Ls (v :: w :: v :: w :: st))) : OE FE p e below s Q kc ks T (mkF m pc Ls (v :: w :: st)) := OE.of (fun _ k' => Jvm.Free.XT.dup2 X.here hx rfl (hb hby hd) rfl hc hc' k') h
theorem OE.dup2L (X : Stand p l e R s' m args below meth c T locs cells slots) (hx : p.tables.exec = Jvm.exec) {code : ByteArray} (hby : c.code = code) {pc : Nat} {Ls : Array Slot} {v : Int64} {st : List Value} (hd : decode code pc = .ok (.dup2, 1))  (h : OE FE p e below s Q kc ks T (mkF m (pc + 1) Ls (.long v :: .long v :: st))) : OE FE p e below s Q kc ks T (mkF m pc Ls (.long v :: st)) := OE.of (fun _ k' => Jvm.Free.XT.dup2L X.here hx rfl (hb hby hd) rfl k') h
theorem OE.goto (X : Stand p l e R s' m args below meth c T locs cells slots) (hx : p.tables.exec = Jvm.exec) {code : ByteArray} (hby : c.code = code) {pc : Nat} {Ls : Array Slot} {o : Int} (pc' : Nat) {st : List Value} (hd : decode code pc = .ok (.goto o, 3)) (ho : 0 ≤ (pc : Int) + o := by decide) (hp : ((pc : Int) + o).toNat = pc' := by decide) (h : OE FE p e below s Q kc ks T (mkF m pc' Ls (st))) : OE FE p e below s Q kc ks T (mkF m pc Ls (st)) := OE.of (fun _ k' => XS.goto X.here hx rfl rfl (hb hby hd) ho hp k') h
theorem OE.ifYes (X : Stand p l e R s' m args below meth c T locs cells slots) (hx : p.tables.exec = Jvm.exec) {code : ByteArray} (hby : c.code = code) {pc : Nat} {Ls : Array Slot} {cd : ClassFile.Cond} {x : Int32} {o : Int} (pc' : Nat) {st : List Value} (hd : decode code pc = .ok (.ifCond cd o, 3)) (hc : if_icmp.holds cd x 0 = true) (ho : 0 ≤ (pc : Int) + o := by decide) (hp : ((pc : Int) + o).toNat = pc' := by decide) (h : OE FE p e below s Q kc ks T (mkF m pc' Ls (st))) : OE FE p e below s Q kc ks T (mkF m pc Ls (.int x :: st)) := OE.of (fun _ k' => XS.ifYes X.here hx rfl rfl (hb hby hd) rfl ((if0 _ _).trans hc) ho hp k') h
theorem OE.ifNo (X : Stand p l e R s' m args below meth c T locs cells slots) (hx : p.tables.exec = Jvm.exec) {code : ByteArray} (hby : c.code = code) {pc : Nat} {Ls : Array Slot} {cd : ClassFile.Cond} {x : Int32} {o : Int} {st : List Value} (hd : decode code pc = .ok (.ifCond cd o, 3)) (hc : if_icmp.holds cd x 0 = false) (h : OE FE p e below s Q kc ks T (mkF m (pc + 3) Ls (st))) : OE FE p e below s Q kc ks T (mkF m pc Ls (.int x :: st)) := OE.of (fun _ k' => XS.ifNo X.here hx rfl (hb hby hd) rfl ((if0 _ _).trans hc) k') h
theorem OE.icmpYes (X : Stand p l e R s' m args below meth c T locs cells slots) (hx : p.tables.exec = Jvm.exec) {code : ByteArray} (hby : c.code = code) {pc : Nat} {Ls : Array Slot} {cd : ClassFile.Cond} {x y : Int32} {o : Int} (pc' : Nat) {st : List Value} (hd : decode code pc = .ok (.if_icmp cd o, 3)) (hc : if_icmp.holds cd x y = true) (ho : 0 ≤ (pc : Int) + o := by decide) (hp : ((pc : Int) + o).toNat = pc' := by decide) (h : OE FE p e below s Q kc ks T (mkF m pc' Ls (st))) : OE FE p e below s Q kc ks T (mkF m pc Ls (.int y :: .int x :: st)) := OE.of (fun _ k' => XS.icmpYes X.here hx rfl rfl (hb hby hd) rfl hc ho hp k') h
theorem OE.icmpNo (X : Stand p l e R s' m args below meth c T locs cells slots) (hx : p.tables.exec = Jvm.exec) {code : ByteArray} (hby : c.code = code) {pc : Nat} {Ls : Array Slot} {cd : ClassFile.Cond} {x y : Int32} {o : Int} {st : List Value} (hd : decode code pc = .ok (.if_icmp cd o, 3)) (hc : if_icmp.holds cd x y = false) (h : OE FE p e below s Q kc ks T (mkF m (pc + 3) Ls (st))) : OE FE p e below s Q kc ks T (mkF m pc Ls (.int y :: .int x :: st)) := OE.of (fun _ k' => XS.icmpNo X.here hx rfl (hb hby hd) rfl hc k') h
theorem OE.ifnullYes (X : Stand p l e R s' m args below meth c T locs cells slots) (hx : p.tables.exec = Jvm.exec) {code : ByteArray} (hby : c.code = code) {pc : Nat} {Ls : Array Slot} {o : Int} (pc' : Nat) {st : List Value} (hd : decode code pc = .ok (.ifnull o, 3)) (ho : 0 ≤ (pc : Int) + o := by decide) (hp : ((pc : Int) + o).toNat = pc' := by decide) (h : OE FE p e below s Q kc ks T (mkF m pc' Ls (st))) : OE FE p e below s Q kc ks T (mkF m pc Ls (.null :: st)) := OE.of (fun _ k' => XS.ifnullYes X.here hx rfl rfl (hb hby hd) rfl ho hp k') h
theorem OE.ifnullNo (X : Stand p l e R s' m args below meth c T locs cells slots) (hx : p.tables.exec = Jvm.exec) {code : ByteArray} (hby : c.code = code) {pc : Nat} {Ls : Array Slot} {b : Addr} {o : Int} {st : List Value} (hd : decode code pc = .ok (.ifnull o, 3))  (h : OE FE p e below s Q kc ks T (mkF m (pc + 3) Ls (st))) : OE FE p e below s Q kc ks T (mkF m pc Ls (.ref b :: st)) := OE.of (fun _ k' => XS.ifnullNo X.here hx rfl (hb hby hd) rfl k') h
theorem OE.ifnonnullYes (X : Stand p l e R s' m args below meth c T locs cells slots) (hx : p.tables.exec = Jvm.exec) {code : ByteArray} (hby : c.code = code) {pc : Nat} {Ls : Array Slot} {b : Addr} {o : Int} (pc' : Nat) {st : List Value} (hd : decode code pc = .ok (.ifnonnull o, 3)) (ho : 0 ≤ (pc : Int) + o := by decide) (hp : ((pc : Int) + o).toNat = pc' := by decide) (h : OE FE p e below s Q kc ks T (mkF m pc' Ls (st))) : OE FE p e below s Q kc ks T (mkF m pc Ls (.ref b :: st)) := OE.of (fun _ k' => XS.ifnonnullYes X.here hx rfl rfl (hb hby hd) rfl ho hp k') h
theorem OE.ifnonnullNo (X : Stand p l e R s' m args below meth c T locs cells slots) (hx : p.tables.exec = Jvm.exec) {code : ByteArray} (hby : c.code = code) {pc : Nat} {Ls : Array Slot} {o : Int} {st : List Value} (hd : decode code pc = .ok (.ifnonnull o, 3))  (h : OE FE p e below s Q kc ks T (mkF m (pc + 3) Ls (st))) : OE FE p e below s Q kc ks T (mkF m pc Ls (.null :: st)) := OE.of (fun _ k' => XS.ifnonnullNo X.here hx rfl (hb hby hd) rfl k') h
end New
end Jvm.RoadKit
namespace Jvm.Pilot.@@N@@
open Jvm Jvm.ClassFile Sem Op Lib Jvm.Free Jvm.Stand Jvm.LawKit Jvm.RoadKit Bundle Jvm.Pilot.@@N@@.Jvm.D
theorem own_d3_0 : decode method_4_code 0 = .ok (.iload_n 0, 1) := by decide +kernel
theorem own_d3_1 : decode method_4_code 1 = .ok (.ifCond .ne 5, 3) := by decide +kernel
theorem own_d3_4 : decode method_4_code 4 = .ok (.lconst 1, 1) := by decide +kernel
theorem own_d3_5 : decode method_4_code 5 = .ok (.lreturn, 1) := by decide +kernel
theorem own_d3_6 : decode method_4_code 6 = .ok (.iload_n 0, 1) := by decide +kernel
theorem own_d3_7 : decode method_4_code 7 = .ok (.iconst 1, 1) := by decide +kernel
theorem own_d3_8 : decode method_4_code 8 = .ok (.if_icmp .ne 7, 3) := by decide +kernel
theorem own_d3_11 : decode method_4_code 11 = .ok (.ldc2_w 27, 3) := by decide +kernel
theorem own_d3_14 : decode method_4_code 14 = .ok (.lreturn, 1) := by decide +kernel
theorem own_d3_15 : decode method_4_code 15 = .ok (.iload_n 0, 1) := by decide +kernel
theorem own_d3_16 : decode method_4_code 16 = .ok (.iconst 2, 1) := by decide +kernel
theorem own_d3_17 : decode method_4_code 17 = .ok (.if_icmp .ne 7, 3) := by decide +kernel
theorem own_d3_20 : decode method_4_code 20 = .ok (.ldc2_w 29, 3) := by decide +kernel
theorem own_d3_23 : decode method_4_code 23 = .ok (.lreturn, 1) := by decide +kernel
theorem own_d3_24 : decode method_4_code 24 = .ok (.iload_n 0, 1) := by decide +kernel
theorem own_d3_25 : decode method_4_code 25 = .ok (.iconst 3, 1) := by decide +kernel
theorem own_d3_26 : decode method_4_code 26 = .ok (.if_icmp .ne 7, 3) := by decide +kernel
theorem own_d3_29 : decode method_4_code 29 = .ok (.ldc2_w 31, 3) := by decide +kernel
theorem own_d3_32 : decode method_4_code 32 = .ok (.lreturn, 1) := by decide +kernel
theorem own_d3_33 : decode method_4_code 33 = .ok (.ldc2_w 33, 3) := by decide +kernel
theorem own_d3_36 : decode method_4_code 36 = .ok (.lreturn, 1) := by decide +kernel
def own_Q3 (Z : State) (p1 : Int32) (h0 : Heap) (n0 : Nat) (v : Option Value) (h : Heap) (L : List Loc) : Prop := v = some (.long (if p1 = (0 : Int32) then (1 : Int64) else (if p1 = (1 : Int32) then (31 : Int64) else (if p1 = (2 : Int32) then (961 : Int64) else (if p1 = (3 : Int32) then (29791 : Int64) else (923521 : Int64)))))) ∧ Fr n0 L ∧ h = h0
theorem own_pn0 : plainName "com/example/archerfish/archerfish/index/TokenTableHashPinLaw" = true := by first | (simp [plainName, overriddenIn]; done) | decide +kernel
theorem own_ef_own_rm3 (m : MethodId) (p1 : Int32) : entryFrame m #[(.int p1)] 1 = mkF m 0 #[.val (.int p1)] [] := by first | (simp [entryFrame, mkF, argsToLocals, Value.category]; done) | rfl
set_option maxRecDepth 65536 in
set_option maxHeartbeats 40000000 in
theorem own_rm3 (l : Launch) (Z : State) (a0 : Array Value) (hw : ∀ d ∈ tables_1, d.before a0 Z = true) (ws : List Jvm.Cond) (p1 : Int32) (h0 : Heap) (n0 : Nat) (Z0 : n0 ≤ h0.size) :
    MetFree l (⟨"com/example/archerfish/archerfish/index/TokenTableHashPinLaw", "pow31", "(I)J"⟩ : MethodName) (head1 (Jvm.Cond.code (⟨"com/example/archerfish/archerfish/index/TokenTableHashPinLaw", "pow31", "(I)J"⟩ : MethodName) method_4_code 1 (some .long) :: ws) ({ frames := 0, cells := 0, slots := 0, locals := 0 } : Room)) (fun a U => a = #[(.int p1)] ∧ Z.Warmed39 U.vm ∧ U.heap = h0) (fun _ _ _ _ _ => True) (fun _ U o U' => ∃ v L, o = .returned v ∧ own_Q3 Z p1 h0 n0 v U'.heap L ∧ FrameEnd U o U' L ({ frames := 0, cells := 0, slots := 0, locals := 0 } : Room).cells ({ frames := 0, cells := 0, slots := 0, locals := 0 } : Room).slots) := by
  refine MetFree.of_bodySF (plainFor_of_name own_pn0) hisR ?_
  intro p e s m args below meth c s₁ Bd hml0 hP hK
  obtain ⟨rfl, hZ, hh⟩ := hP
  have hx := Bd.exec
  have hby := Bd.bytes
  have hml : c.maxLocals = 1 := hml0
  have hown : s.vm.findClass "com/example/archerfish/archerfish/index/TokenTableHashPinLaw" = some m.cls := findClass_of_methodNamed Bd.named
  have hnm := (name_of_methodNamed Bd.named Bd.method).1
  have X0 : Stand p l e ({ frames := 0, cells := 0, slots := 0, locals := 0 } : Room) s m #[(.int p1)] below meth c s₁ [] 0 0 := Stand.of_body Bd
  have e0 : s₁.heap = h0 := by rw [← hh, Bd.state]; rfl
  have N0 := Fr.nil n0
  show OE FrameEnd p e below s (own_Q3 Z p1 h0 n0) ({ frames := 0, cells := 0, slots := 0, locals := 0 } : Room).cells ({ frames := 0, cells := 0, slots := 0, locals := 0 } : Room).slots s₁ (entryFrame m #[(.int p1)] 1)
  rw [own_ef_own_rm3]
  show OE _ p e below s _ _ _ s₁ (mkF m 0 #[.val (.int p1)] [])
  refine OE.iloadN X0 hx hby own_d3_0 rfl ?_
  by_cases hc1 : p1 = (0 : Int32)
  · skip
    refine OE.ifNo X0 hx hby own_d3_1 (teq hc1).2 ?_
    refine OE.lconst X0 hx hby own_d3_4 (1 : Int64) rfl ?_
    refine OE.retJ X0 hx Bd.returns Bd.notSynchronized (hb hby own_d3_5) (by decide) (by decide) ?_
    rw [e0]
    exact ⟨(congrArg (fun z => some (Value.long z)) (show (1 : Int64) = (if p1 = (0 : Int32) then (1 : Int64) else (if p1 = (1 : Int32) then (31 : Int64) else (if p1 = (2 : Int32) then (961 : Int64) else (if p1 = (3 : Int32) then (29791 : Int64) else (923521 : Int64))))) from by rw [if_pos hc1])), N0, rfl⟩
  · skip
    refine OE.ifYes X0 hx hby (pc' := 6) own_d3_1 (feq hc1).2 (h := ?_)
    refine OE.iloadN X0 hx hby own_d3_6 rfl ?_
    refine OE.iconst X0 hx hby own_d3_7 (1 : Int32) rfl ?_
    by_cases hc8 : p1 = (1 : Int32)
    · skip
      refine OE.icmpNo X0 hx hby own_d3_8 (teq hc8).2 ?_
      refine OE.of (X0.ldc2Long hx hown (mvT hZ (hw _ (List.mem_of_getElem? (i := 17) rfl))) (g := (mkF m 11 #[.val (.int p1)] [])) rfl (hb hby own_d3_11)) ?_
      show OE _ p e below s _ _ _ s₁ (mkF m 14 #[.val (.int p1)] [(.long (31 : Int64))])
      refine OE.retJ X0 hx Bd.returns Bd.notSynchronized (hb hby own_d3_14) (by decide) (by decide) ?_
      rw [e0]
      exact ⟨(congrArg (fun z => some (Value.long z)) (show (31 : Int64) = (if p1 = (0 : Int32) then (1 : Int64) else (if p1 = (1 : Int32) then (31 : Int64) else (if p1 = (2 : Int32) then (961 : Int64) else (if p1 = (3 : Int32) then (29791 : Int64) else (923521 : Int64))))) from by rw [if_neg hc1, if_pos hc8])), N0, rfl⟩
    · skip
      refine OE.icmpYes X0 hx hby (pc' := 15) own_d3_8 (feq hc8).2 (h := ?_)
      refine OE.iloadN X0 hx hby own_d3_15 rfl ?_
      refine OE.iconst X0 hx hby own_d3_16 (2 : Int32) rfl ?_
      by_cases hc17 : p1 = (2 : Int32)
      · skip
        refine OE.icmpNo X0 hx hby own_d3_17 (teq hc17).2 ?_
        refine OE.of (X0.ldc2Long hx hown (mvT hZ (hw _ (List.mem_of_getElem? (i := 16) rfl))) (g := (mkF m 20 #[.val (.int p1)] [])) rfl (hb hby own_d3_20)) ?_
        show OE _ p e below s _ _ _ s₁ (mkF m 23 #[.val (.int p1)] [(.long (961 : Int64))])
        refine OE.retJ X0 hx Bd.returns Bd.notSynchronized (hb hby own_d3_23) (by decide) (by decide) ?_
        rw [e0]
        exact ⟨(congrArg (fun z => some (Value.long z)) (show (961 : Int64) = (if p1 = (0 : Int32) then (1 : Int64) else (if p1 = (1 : Int32) then (31 : Int64) else (if p1 = (2 : Int32) then (961 : Int64) else (if p1 = (3 : Int32) then (29791 : Int64) else (923521 : Int64))))) from by rw [if_neg hc1, if_neg hc8, if_pos hc17])), N0, rfl⟩
      · skip
        refine OE.icmpYes X0 hx hby (pc' := 24) own_d3_17 (feq hc17).2 (h := ?_)
        refine OE.iloadN X0 hx hby own_d3_24 rfl ?_
        refine OE.iconst X0 hx hby own_d3_25 (3 : Int32) rfl ?_
        by_cases hc26 : p1 = (3 : Int32)
        · skip
          refine OE.icmpNo X0 hx hby own_d3_26 (teq hc26).2 ?_
          refine OE.of (X0.ldc2Long hx hown (mvT hZ (hw _ (List.mem_of_getElem? (i := 18) rfl))) (g := (mkF m 29 #[.val (.int p1)] [])) rfl (hb hby own_d3_29)) ?_
          show OE _ p e below s _ _ _ s₁ (mkF m 32 #[.val (.int p1)] [(.long (29791 : Int64))])
          refine OE.retJ X0 hx Bd.returns Bd.notSynchronized (hb hby own_d3_32) (by decide) (by decide) ?_
          rw [e0]
          exact ⟨(congrArg (fun z => some (Value.long z)) (show (29791 : Int64) = (if p1 = (0 : Int32) then (1 : Int64) else (if p1 = (1 : Int32) then (31 : Int64) else (if p1 = (2 : Int32) then (961 : Int64) else (if p1 = (3 : Int32) then (29791 : Int64) else (923521 : Int64))))) from by rw [if_neg hc1, if_neg hc8, if_neg hc17, if_pos hc26])), N0, rfl⟩
        · skip
          refine OE.icmpYes X0 hx hby (pc' := 33) own_d3_26 (feq hc26).2 (h := ?_)
          refine OE.of (X0.ldc2Long hx hown (mvT hZ (hw _ (List.mem_of_getElem? (i := 19) rfl))) (g := (mkF m 33 #[.val (.int p1)] [])) rfl (hb hby own_d3_33)) ?_
          show OE _ p e below s _ _ _ s₁ (mkF m 36 #[.val (.int p1)] [(.long (923521 : Int64))])
          refine OE.retJ X0 hx Bd.returns Bd.notSynchronized (hb hby own_d3_36) (by decide) (by decide) ?_
          rw [e0]
          exact ⟨(congrArg (fun z => some (Value.long z)) (show (923521 : Int64) = (if p1 = (0 : Int32) then (1 : Int64) else (if p1 = (1 : Int32) then (31 : Int64) else (if p1 = (2 : Int32) then (961 : Int64) else (if p1 = (3 : Int32) then (29791 : Int64) else (923521 : Int64))))) from by rw [if_neg hc1, if_neg hc8, if_neg hc17, if_neg hc26])), N0, rfl⟩
theorem own_d1_0 : decode method_3_code 0 = .ok (.iload_n 3, 1) := by decide +kernel
theorem own_d1_1 : decode method_3_code 1 = .ok (.iload_n 2, 1) := by decide +kernel
theorem own_d1_2 : decode method_3_code 2 = .ok (.if_icmp .lt 5, 3) := by decide +kernel
theorem own_d1_7 : decode method_3_code 7 = .ok (.aload_n 0, 1) := by decide +kernel
theorem own_d1_8 : decode method_3_code 8 = .ok (.iload_n 1, 1) := by decide +kernel
theorem own_d1_9 : decode method_3_code 9 = .ok (.iload_n 3, 1) := by decide +kernel
theorem own_d1_10 : decode method_3_code 10 = .ok (.iadd, 1) := by decide +kernel
theorem own_d1_11 : decode method_3_code 11 = .ok (.caload, 1) := by decide +kernel
theorem own_d1_12 : decode method_3_code 12 = .ok (.i2l, 1) := by decide +kernel
theorem own_d1_13 : decode method_3_code 13 = .ok (.iload_n 2, 1) := by decide +kernel
theorem own_d1_14 : decode method_3_code 14 = .ok (.iconst 1, 1) := by decide +kernel
theorem own_d1_15 : decode method_3_code 15 = .ok (.isub, 1) := by decide +kernel
theorem own_d1_16 : decode method_3_code 16 = .ok (.iload_n 3, 1) := by decide +kernel
theorem own_d1_17 : decode method_3_code 17 = .ok (.isub, 1) := by decide +kernel
theorem own_d1_18 : decode method_3_code 18 = .ok (.invokestatic 23, 3) := by decide +kernel
theorem own_pd0 : parseMethodDescriptor "(I)J" = some ⟨[.int], some .long⟩ := by decide +kernel
theorem own_d1_21 : decode method_3_code 21 = .ok (.lmul, 1) := by decide +kernel
theorem own_d1_22 : decode method_3_code 22 = .ok (.lreturn, 1) := by decide +kernel
def own_Q1_1_0 (Z : State) (a1 : Addr) (p2 : Int32) (x : Int32) (k_a1 : ClassId) (vs_a1 : List Value) (h0 : Heap) (n0 : Nat) (v : Option Value) (h : Heap) (L : List Loc) : Prop := v = some (.long ((x.toInt64) * (1 : Int64))) ∧ Fr n0 L ∧ h = h0
theorem own_ef_own_rm1_1_0 (m : MethodId) (a1 : Addr) (p2 : Int32) : entryFrame m #[(.ref a1), (.int p2), (.int (1 : Int32)), (.int (0 : Int32))] 4 = mkF m 0 #[.val (.ref a1), .val (.int p2), .val (.int (1 : Int32)), .val (.int (0 : Int32))] [] := by first | (simp [entryFrame, mkF, argsToLocals, Value.category]; done) | rfl
set_option maxRecDepth 65536 in
set_option maxHeartbeats 40000000 in
theorem own_rm1_1_0 (l : Launch) (Z : State) (a0 : Array Value) (hw : ∀ d ∈ tables_1, d.before a0 Z = true) (ws : List Jvm.Cond) (a1 : Addr) (p2 : Int32) (x : Int32) (k_a1 : ClassId) (vs_a1 : List Value) (h0 : Heap) (n0 : Nat) (Z0 : n0 ≤ h0.size) (V_a1 : Arv Z h0 a1 k_a1 .char (5 : Int32) vs_a1 (.int (0 : Int32))) (hin : ¬ (p2 + (0 : Int32)) < 0 ∧ (p2 + (0 : Int32)) < (5 : Int32)) (hat : vs_a1.getD (p2 + (0 : Int32)).toNatClampNeg (.int (0 : Int32)) = (.int x)) :
    MetFree l (⟨"com/example/archerfish/archerfish/index/TokenTableHashPinLaw", "term", "([CIII)J"⟩ : MethodName) (head1 (Jvm.Cond.code (⟨"com/example/archerfish/archerfish/index/TokenTableHashPinLaw", "term", "([CIII)J"⟩ : MethodName) method_3_code 4 (some .long) :: ws) ({ frames := 1, cells := 0, slots := 0, locals := 14 } : Room)) (fun a U => a = #[(.ref a1), (.int p2), (.int (1 : Int32)), (.int (0 : Int32))] ∧ Z.Warmed39 U.vm ∧ U.heap = h0) (fun _ _ _ _ _ => True) (fun _ U o U' => ∃ v L, o = .returned v ∧ own_Q1_1_0 Z a1 p2 x k_a1 vs_a1 h0 n0 v U'.heap L ∧ FrameEnd U o U' L ({ frames := 1, cells := 0, slots := 0, locals := 14 } : Room).cells ({ frames := 1, cells := 0, slots := 0, locals := 14 } : Room).slots) := by
  refine MetFree.of_bodySF (plainFor_of_name own_pn0) hisR ?_
  intro p e s m args below meth c s₁ Bd hml0 hP hK
  obtain ⟨rfl, hZ, hh⟩ := hP
  have hx := Bd.exec
  have hby := Bd.bytes
  have hml : c.maxLocals = 4 := hml0
  have hown : s.vm.findClass "com/example/archerfish/archerfish/index/TokenTableHashPinLaw" = some m.cls := findClass_of_methodNamed Bd.named
  have hnm := (name_of_methodNamed Bd.named Bd.method).1
  have X0 : Stand p l e ({ frames := 1, cells := 0, slots := 0, locals := 14 } : Room) s m #[(.ref a1), (.int p2), (.int (1 : Int32)), (.int (0 : Int32))] below meth c s₁ [] 0 0 := Stand.of_body Bd
  have e0 : s₁.heap = h0 := by rw [← hh, Bd.state]; rfl
  have N0 := Fr.nil n0
  show OE FrameEnd p e below s (own_Q1_1_0 Z a1 p2 x k_a1 vs_a1 h0 n0) ({ frames := 1, cells := 0, slots := 0, locals := 14 } : Room).cells ({ frames := 1, cells := 0, slots := 0, locals := 14 } : Room).slots s₁ (entryFrame m #[(.ref a1), (.int p2), (.int (1 : Int32)), (.int (0 : Int32))] 4)
  rw [own_ef_own_rm1_1_0]
  show OE _ p e below s _ _ _ s₁ (mkF m 0 #[.val (.ref a1), .val (.int p2), .val (.int (1 : Int32)), .val (.int (0 : Int32))] [])
  refine OE.iloadN X0 hx hby own_d1_0 rfl ?_
  refine OE.iloadN X0 hx hby own_d1_1 rfl ?_
  refine OE.icmpYes X0 hx hby (pc' := 7) own_d1_2 (tlt (by decide : (0 : Int32) < (1 : Int32))).1 (h := ?_)
  refine OE.aloadN X0 hx hby own_d1_7 rfl rfl ?_
  refine OE.iloadN X0 hx hby own_d1_8 rfl ?_
  refine OE.iloadN X0 hx hby own_d1_9 rfl ?_
  refine OE.iadd X0 hx hby own_d1_10 ?_
  have Vo1 := V_a1
  obtain ⟨cl1, Ar1, -, Sz1, Nz1, Hz1, Gz1⟩ := Vo1
  have hin1 : ¬ ((p2 + (0 : Int32)) < 0 ∨ cl1.slots.size ≤ ((p2 + (0 : Int32))).toNatClampNeg) := inb_of Sz1 hin
  have hat1 : cl1.slots[((p2 + (0 : Int32))).toNatClampNeg]? = some (.int x) := Has.at Hz1 hin1 hat
  refine OE.of (X0.caload hx (j := (p2 + (0 : Int32))) (v := (.int x)) (by rw [e0]; exact Ar1.1) (State.isArrayOf_alike hZ.alike Ar1.2.1) Ar1.2.2 hin1 hat1 (g := (mkF m 11 #[.val (.ref a1), .val (.int p2), .val (.int (1 : Int32)), .val (.int (0 : Int32))] [(.int (p2 + (0 : Int32))), (.ref a1)])) rfl rfl (hb hby own_d1_11)) ?_
  show OE _ p e below s _ _ _ s₁ (mkF m 12 #[.val (.ref a1), .val (.int p2), .val (.int (1 : Int32)), .val (.int (0 : Int32))] [(.int x)])
  refine OE.i2l X0 hx hby own_d1_12 ?_
  refine OE.iloadN X0 hx hby own_d1_13 rfl ?_
  refine OE.iconst X0 hx hby own_d1_14 (1 : Int32) rfl ?_
  refine OE.isub X0 hx hby own_d1_15 ?_
  rw [(by decide : ((1 : Int32) - (1 : Int32)) = (0 : Int32))]
  refine OE.iloadN X0 hx hby own_d1_16 rfl ?_
  refine OE.isub X0 hx hby own_d1_17 ?_
  rw [(by decide : ((0 : Int32) - (0 : Int32)) = (0 : Int32))]
  obtain ⟨_, _, ⟨T2, L2, k2, n2⟩, -, X2, ⟨Lc2, hQ2, l2, y2, z2⟩, st2⟩ := Jvm.LawKit.callS X0 hx (y := (⟨"com/example/archerfish/archerfish/index/TokenTableHashPinLaw", "pow31", "(I)J"⟩ : MethodName)) hown (mvT hZ (hw _ (List.mem_of_getElem? (i := 13) rfl))) (mvT hZ (hw _ (List.mem_of_getElem? (i := 14) rfl))) (mvT hZ (hw _ (List.mem_of_getElem? (i := 5) rfl))) (mvT hZ (hw _ (List.mem_of_getElem? (i := 15) rfl))) (by decide) (backOf (W := 2) (own_rm3 l Z a0 hw [] (0 : Int32) h0 n0 Z0 ) hZ (hw _ (List.mem_of_getElem? (i := 15) rfl)) (hw _ (List.mem_of_getElem? (i := 5) rfl)) (by decide) (by decide)) (g := (mkF m 18 #[.val (.ref a1), .val (.int p2), .val (.int (1 : Int32)), .val (.int (0 : Int32))] [(.int (0 : Int32)), (.long (x.toInt64))])) rfl (by rw [hml]; rfl) (argsL := [(.int (0 : Int32))]) (rest := [(.long (x.toInt64))]) (lenOf own_pd0 rfl) rfl (by show 2 * 0 + _ ≤ _; exact Nat.le_of_eq rfl) (hb hby own_d1_18) (fun _ _ => ⟨rfl, e0, (by decide : 0 + 0 ≤ _), (by decide : 0 + 0 ≤ _)⟩)
  dsimp only [Pt.U, Pt.locs, Pt.cells, Pt.slots] at X2 l2 y2 z2 st2 hQ2
  subst l2 y2 z2
  obtain ⟨rfl, Nq2, eq2⟩ := hQ2
  refine OE.of (fun _ k => st2 _ k) ?_
  have N2 := Fr.app N0 Nq2
  show OE _ p e below s _ _ _ T2 (mkF m 21 #[.val (.ref a1), .val (.int p2), .val (.int (1 : Int32)), .val (.int (0 : Int32))] [(.long (if (0 : Int32) = (0 : Int32) then (1 : Int64) else (if (0 : Int32) = (1 : Int32) then (31 : Int64) else (if (0 : Int32) = (2 : Int32) then (961 : Int64) else (if (0 : Int32) = (3 : Int32) then (29791 : Int64) else (923521 : Int64)))))), (.long (x.toInt64))])
  rw [if_pos (show (0 : Int32) = (0 : Int32) from (by decide : (0 : Int32) = (0 : Int32)))]
  show OE _ p e below s _ _ _ T2 (mkF m 21 #[.val (.ref a1), .val (.int p2), .val (.int (1 : Int32)), .val (.int (0 : Int32))] [(.long (1 : Int64)), (.long (x.toInt64))])
  refine OE.lmul X2 hx hby own_d1_21 ?_
  refine OE.retJ X2 hx Bd.returns Bd.notSynchronized (hb hby own_d1_22) (by decide) (by decide) ?_
  rw [eq2]
  exact ⟨rfl, N2, rfl⟩
def own_Q1_2_0 (Z : State) (a1 : Addr) (p2 : Int32) (x : Int32) (k_a1 : ClassId) (vs_a1 : List Value) (h0 : Heap) (n0 : Nat) (v : Option Value) (h : Heap) (L : List Loc) : Prop := v = some (.long ((x.toInt64) * (31 : Int64))) ∧ Fr n0 L ∧ h = h0
theorem own_ef_own_rm1_2_0 (m : MethodId) (a1 : Addr) (p2 : Int32) : entryFrame m #[(.ref a1), (.int p2), (.int (2 : Int32)), (.int (0 : Int32))] 4 = mkF m 0 #[.val (.ref a1), .val (.int p2), .val (.int (2 : Int32)), .val (.int (0 : Int32))] [] := by first | (simp [entryFrame, mkF, argsToLocals, Value.category]; done) | rfl
set_option maxRecDepth 65536 in
set_option maxHeartbeats 40000000 in
theorem own_rm1_2_0 (l : Launch) (Z : State) (a0 : Array Value) (hw : ∀ d ∈ tables_1, d.before a0 Z = true) (ws : List Jvm.Cond) (a1 : Addr) (p2 : Int32) (x : Int32) (k_a1 : ClassId) (vs_a1 : List Value) (h0 : Heap) (n0 : Nat) (Z0 : n0 ≤ h0.size) (V_a1 : Arv Z h0 a1 k_a1 .char (5 : Int32) vs_a1 (.int (0 : Int32))) (hin : ¬ (p2 + (0 : Int32)) < 0 ∧ (p2 + (0 : Int32)) < (5 : Int32)) (hat : vs_a1.getD (p2 + (0 : Int32)).toNatClampNeg (.int (0 : Int32)) = (.int x)) :
    MetFree l (⟨"com/example/archerfish/archerfish/index/TokenTableHashPinLaw", "term", "([CIII)J"⟩ : MethodName) (head1 (Jvm.Cond.code (⟨"com/example/archerfish/archerfish/index/TokenTableHashPinLaw", "term", "([CIII)J"⟩ : MethodName) method_3_code 4 (some .long) :: ws) ({ frames := 1, cells := 0, slots := 0, locals := 14 } : Room)) (fun a U => a = #[(.ref a1), (.int p2), (.int (2 : Int32)), (.int (0 : Int32))] ∧ Z.Warmed39 U.vm ∧ U.heap = h0) (fun _ _ _ _ _ => True) (fun _ U o U' => ∃ v L, o = .returned v ∧ own_Q1_2_0 Z a1 p2 x k_a1 vs_a1 h0 n0 v U'.heap L ∧ FrameEnd U o U' L ({ frames := 1, cells := 0, slots := 0, locals := 14 } : Room).cells ({ frames := 1, cells := 0, slots := 0, locals := 14 } : Room).slots) := by
  refine MetFree.of_bodySF (plainFor_of_name own_pn0) hisR ?_
  intro p e s m args below meth c s₁ Bd hml0 hP hK
  obtain ⟨rfl, hZ, hh⟩ := hP
  have hx := Bd.exec
  have hby := Bd.bytes
  have hml : c.maxLocals = 4 := hml0
  have hown : s.vm.findClass "com/example/archerfish/archerfish/index/TokenTableHashPinLaw" = some m.cls := findClass_of_methodNamed Bd.named
  have hnm := (name_of_methodNamed Bd.named Bd.method).1
  have X0 : Stand p l e ({ frames := 1, cells := 0, slots := 0, locals := 14 } : Room) s m #[(.ref a1), (.int p2), (.int (2 : Int32)), (.int (0 : Int32))] below meth c s₁ [] 0 0 := Stand.of_body Bd
  have e0 : s₁.heap = h0 := by rw [← hh, Bd.state]; rfl
  have N0 := Fr.nil n0
  show OE FrameEnd p e below s (own_Q1_2_0 Z a1 p2 x k_a1 vs_a1 h0 n0) ({ frames := 1, cells := 0, slots := 0, locals := 14 } : Room).cells ({ frames := 1, cells := 0, slots := 0, locals := 14 } : Room).slots s₁ (entryFrame m #[(.ref a1), (.int p2), (.int (2 : Int32)), (.int (0 : Int32))] 4)
  rw [own_ef_own_rm1_2_0]
  show OE _ p e below s _ _ _ s₁ (mkF m 0 #[.val (.ref a1), .val (.int p2), .val (.int (2 : Int32)), .val (.int (0 : Int32))] [])
  refine OE.iloadN X0 hx hby own_d1_0 rfl ?_
  refine OE.iloadN X0 hx hby own_d1_1 rfl ?_
  refine OE.icmpYes X0 hx hby (pc' := 7) own_d1_2 (tlt (by decide : (0 : Int32) < (2 : Int32))).1 (h := ?_)
  refine OE.aloadN X0 hx hby own_d1_7 rfl rfl ?_
  refine OE.iloadN X0 hx hby own_d1_8 rfl ?_
  refine OE.iloadN X0 hx hby own_d1_9 rfl ?_
  refine OE.iadd X0 hx hby own_d1_10 ?_
  have Vo1 := V_a1
  obtain ⟨cl1, Ar1, -, Sz1, Nz1, Hz1, Gz1⟩ := Vo1
  have hin1 : ¬ ((p2 + (0 : Int32)) < 0 ∨ cl1.slots.size ≤ ((p2 + (0 : Int32))).toNatClampNeg) := inb_of Sz1 hin
  have hat1 : cl1.slots[((p2 + (0 : Int32))).toNatClampNeg]? = some (.int x) := Has.at Hz1 hin1 hat
  refine OE.of (X0.caload hx (j := (p2 + (0 : Int32))) (v := (.int x)) (by rw [e0]; exact Ar1.1) (State.isArrayOf_alike hZ.alike Ar1.2.1) Ar1.2.2 hin1 hat1 (g := (mkF m 11 #[.val (.ref a1), .val (.int p2), .val (.int (2 : Int32)), .val (.int (0 : Int32))] [(.int (p2 + (0 : Int32))), (.ref a1)])) rfl rfl (hb hby own_d1_11)) ?_
  show OE _ p e below s _ _ _ s₁ (mkF m 12 #[.val (.ref a1), .val (.int p2), .val (.int (2 : Int32)), .val (.int (0 : Int32))] [(.int x)])
  refine OE.i2l X0 hx hby own_d1_12 ?_
  refine OE.iloadN X0 hx hby own_d1_13 rfl ?_
  refine OE.iconst X0 hx hby own_d1_14 (1 : Int32) rfl ?_
  refine OE.isub X0 hx hby own_d1_15 ?_
  rw [(by decide : ((2 : Int32) - (1 : Int32)) = (1 : Int32))]
  refine OE.iloadN X0 hx hby own_d1_16 rfl ?_
  refine OE.isub X0 hx hby own_d1_17 ?_
  rw [(by decide : ((1 : Int32) - (0 : Int32)) = (1 : Int32))]
  obtain ⟨_, _, ⟨T2, L2, k2, n2⟩, -, X2, ⟨Lc2, hQ2, l2, y2, z2⟩, st2⟩ := Jvm.LawKit.callS X0 hx (y := (⟨"com/example/archerfish/archerfish/index/TokenTableHashPinLaw", "pow31", "(I)J"⟩ : MethodName)) hown (mvT hZ (hw _ (List.mem_of_getElem? (i := 13) rfl))) (mvT hZ (hw _ (List.mem_of_getElem? (i := 14) rfl))) (mvT hZ (hw _ (List.mem_of_getElem? (i := 5) rfl))) (mvT hZ (hw _ (List.mem_of_getElem? (i := 15) rfl))) (by decide) (backOf (W := 2) (own_rm3 l Z a0 hw [] (1 : Int32) h0 n0 Z0 ) hZ (hw _ (List.mem_of_getElem? (i := 15) rfl)) (hw _ (List.mem_of_getElem? (i := 5) rfl)) (by decide) (by decide)) (g := (mkF m 18 #[.val (.ref a1), .val (.int p2), .val (.int (2 : Int32)), .val (.int (0 : Int32))] [(.int (1 : Int32)), (.long (x.toInt64))])) rfl (by rw [hml]; rfl) (argsL := [(.int (1 : Int32))]) (rest := [(.long (x.toInt64))]) (lenOf own_pd0 rfl) rfl (by show 2 * 0 + _ ≤ _; exact Nat.le_of_eq rfl) (hb hby own_d1_18) (fun _ _ => ⟨rfl, e0, (by decide : 0 + 0 ≤ _), (by decide : 0 + 0 ≤ _)⟩)
  dsimp only [Pt.U, Pt.locs, Pt.cells, Pt.slots] at X2 l2 y2 z2 st2 hQ2
  subst l2 y2 z2
  obtain ⟨rfl, Nq2, eq2⟩ := hQ2
  refine OE.of (fun _ k => st2 _ k) ?_
  have N2 := Fr.app N0 Nq2
  show OE _ p e below s _ _ _ T2 (mkF m 21 #[.val (.ref a1), .val (.int p2), .val (.int (2 : Int32)), .val (.int (0 : Int32))] [(.long (if (1 : Int32) = (0 : Int32) then (1 : Int64) else (if (1 : Int32) = (1 : Int32) then (31 : Int64) else (if (1 : Int32) = (2 : Int32) then (961 : Int64) else (if (1 : Int32) = (3 : Int32) then (29791 : Int64) else (923521 : Int64)))))), (.long (x.toInt64))])
  rw [if_neg (show ¬ ((1 : Int32) = (0 : Int32)) from (by decide : ¬ ((1 : Int32) = (0 : Int32))))]
  show OE _ p e below s _ _ _ T2 (mkF m 21 #[.val (.ref a1), .val (.int p2), .val (.int (2 : Int32)), .val (.int (0 : Int32))] [(.long (if (1 : Int32) = (1 : Int32) then (31 : Int64) else (if (1 : Int32) = (2 : Int32) then (961 : Int64) else (if (1 : Int32) = (3 : Int32) then (29791 : Int64) else (923521 : Int64))))), (.long (x.toInt64))])
  rw [if_pos (show (1 : Int32) = (1 : Int32) from (by decide : (1 : Int32) = (1 : Int32)))]
  show OE _ p e below s _ _ _ T2 (mkF m 21 #[.val (.ref a1), .val (.int p2), .val (.int (2 : Int32)), .val (.int (0 : Int32))] [(.long (31 : Int64)), (.long (x.toInt64))])
  refine OE.lmul X2 hx hby own_d1_21 ?_
  refine OE.retJ X2 hx Bd.returns Bd.notSynchronized (hb hby own_d1_22) (by decide) (by decide) ?_
  rw [eq2]
  exact ⟨rfl, N2, rfl⟩
def own_Q1_2_1 (Z : State) (a1 : Addr) (p2 : Int32) (x : Int32) (k_a1 : ClassId) (vs_a1 : List Value) (h0 : Heap) (n0 : Nat) (v : Option Value) (h : Heap) (L : List Loc) : Prop := v = some (.long ((x.toInt64) * (1 : Int64))) ∧ Fr n0 L ∧ h = h0
theorem own_ef_own_rm1_2_1 (m : MethodId) (a1 : Addr) (p2 : Int32) : entryFrame m #[(.ref a1), (.int p2), (.int (2 : Int32)), (.int (1 : Int32))] 4 = mkF m 0 #[.val (.ref a1), .val (.int p2), .val (.int (2 : Int32)), .val (.int (1 : Int32))] [] := by first | (simp [entryFrame, mkF, argsToLocals, Value.category]; done) | rfl
set_option maxRecDepth 65536 in
set_option maxHeartbeats 40000000 in
theorem own_rm1_2_1 (l : Launch) (Z : State) (a0 : Array Value) (hw : ∀ d ∈ tables_1, d.before a0 Z = true) (ws : List Jvm.Cond) (a1 : Addr) (p2 : Int32) (x : Int32) (k_a1 : ClassId) (vs_a1 : List Value) (h0 : Heap) (n0 : Nat) (Z0 : n0 ≤ h0.size) (V_a1 : Arv Z h0 a1 k_a1 .char (5 : Int32) vs_a1 (.int (0 : Int32))) (hin : ¬ (p2 + (1 : Int32)) < 0 ∧ (p2 + (1 : Int32)) < (5 : Int32)) (hat : vs_a1.getD (p2 + (1 : Int32)).toNatClampNeg (.int (0 : Int32)) = (.int x)) :
    MetFree l (⟨"com/example/archerfish/archerfish/index/TokenTableHashPinLaw", "term", "([CIII)J"⟩ : MethodName) (head1 (Jvm.Cond.code (⟨"com/example/archerfish/archerfish/index/TokenTableHashPinLaw", "term", "([CIII)J"⟩ : MethodName) method_3_code 4 (some .long) :: ws) ({ frames := 1, cells := 0, slots := 0, locals := 14 } : Room)) (fun a U => a = #[(.ref a1), (.int p2), (.int (2 : Int32)), (.int (1 : Int32))] ∧ Z.Warmed39 U.vm ∧ U.heap = h0) (fun _ _ _ _ _ => True) (fun _ U o U' => ∃ v L, o = .returned v ∧ own_Q1_2_1 Z a1 p2 x k_a1 vs_a1 h0 n0 v U'.heap L ∧ FrameEnd U o U' L ({ frames := 1, cells := 0, slots := 0, locals := 14 } : Room).cells ({ frames := 1, cells := 0, slots := 0, locals := 14 } : Room).slots) := by
  refine MetFree.of_bodySF (plainFor_of_name own_pn0) hisR ?_
  intro p e s m args below meth c s₁ Bd hml0 hP hK
  obtain ⟨rfl, hZ, hh⟩ := hP
  have hx := Bd.exec
  have hby := Bd.bytes
  have hml : c.maxLocals = 4 := hml0
  have hown : s.vm.findClass "com/example/archerfish/archerfish/index/TokenTableHashPinLaw" = some m.cls := findClass_of_methodNamed Bd.named
  have hnm := (name_of_methodNamed Bd.named Bd.method).1
  have X0 : Stand p l e ({ frames := 1, cells := 0, slots := 0, locals := 14 } : Room) s m #[(.ref a1), (.int p2), (.int (2 : Int32)), (.int (1 : Int32))] below meth c s₁ [] 0 0 := Stand.of_body Bd
  have e0 : s₁.heap = h0 := by rw [← hh, Bd.state]; rfl
  have N0 := Fr.nil n0
  show OE FrameEnd p e below s (own_Q1_2_1 Z a1 p2 x k_a1 vs_a1 h0 n0) ({ frames := 1, cells := 0, slots := 0, locals := 14 } : Room).cells ({ frames := 1, cells := 0, slots := 0, locals := 14 } : Room).slots s₁ (entryFrame m #[(.ref a1), (.int p2), (.int (2 : Int32)), (.int (1 : Int32))] 4)
  rw [own_ef_own_rm1_2_1]
  show OE _ p e below s _ _ _ s₁ (mkF m 0 #[.val (.ref a1), .val (.int p2), .val (.int (2 : Int32)), .val (.int (1 : Int32))] [])
  refine OE.iloadN X0 hx hby own_d1_0 rfl ?_
  refine OE.iloadN X0 hx hby own_d1_1 rfl ?_
  refine OE.icmpYes X0 hx hby (pc' := 7) own_d1_2 (tlt (by decide : (1 : Int32) < (2 : Int32))).1 (h := ?_)
  refine OE.aloadN X0 hx hby own_d1_7 rfl rfl ?_
  refine OE.iloadN X0 hx hby own_d1_8 rfl ?_
  refine OE.iloadN X0 hx hby own_d1_9 rfl ?_
  refine OE.iadd X0 hx hby own_d1_10 ?_
  have Vo1 := V_a1
  obtain ⟨cl1, Ar1, -, Sz1, Nz1, Hz1, Gz1⟩ := Vo1
  have hin1 : ¬ ((p2 + (1 : Int32)) < 0 ∨ cl1.slots.size ≤ ((p2 + (1 : Int32))).toNatClampNeg) := inb_of Sz1 hin
  have hat1 : cl1.slots[((p2 + (1 : Int32))).toNatClampNeg]? = some (.int x) := Has.at Hz1 hin1 hat
  refine OE.of (X0.caload hx (j := (p2 + (1 : Int32))) (v := (.int x)) (by rw [e0]; exact Ar1.1) (State.isArrayOf_alike hZ.alike Ar1.2.1) Ar1.2.2 hin1 hat1 (g := (mkF m 11 #[.val (.ref a1), .val (.int p2), .val (.int (2 : Int32)), .val (.int (1 : Int32))] [(.int (p2 + (1 : Int32))), (.ref a1)])) rfl rfl (hb hby own_d1_11)) ?_
  show OE _ p e below s _ _ _ s₁ (mkF m 12 #[.val (.ref a1), .val (.int p2), .val (.int (2 : Int32)), .val (.int (1 : Int32))] [(.int x)])
  refine OE.i2l X0 hx hby own_d1_12 ?_
  refine OE.iloadN X0 hx hby own_d1_13 rfl ?_
  refine OE.iconst X0 hx hby own_d1_14 (1 : Int32) rfl ?_
  refine OE.isub X0 hx hby own_d1_15 ?_
  rw [(by decide : ((2 : Int32) - (1 : Int32)) = (1 : Int32))]
  refine OE.iloadN X0 hx hby own_d1_16 rfl ?_
  refine OE.isub X0 hx hby own_d1_17 ?_
  rw [(by decide : ((1 : Int32) - (1 : Int32)) = (0 : Int32))]
  obtain ⟨_, _, ⟨T2, L2, k2, n2⟩, -, X2, ⟨Lc2, hQ2, l2, y2, z2⟩, st2⟩ := Jvm.LawKit.callS X0 hx (y := (⟨"com/example/archerfish/archerfish/index/TokenTableHashPinLaw", "pow31", "(I)J"⟩ : MethodName)) hown (mvT hZ (hw _ (List.mem_of_getElem? (i := 13) rfl))) (mvT hZ (hw _ (List.mem_of_getElem? (i := 14) rfl))) (mvT hZ (hw _ (List.mem_of_getElem? (i := 5) rfl))) (mvT hZ (hw _ (List.mem_of_getElem? (i := 15) rfl))) (by decide) (backOf (W := 2) (own_rm3 l Z a0 hw [] (0 : Int32) h0 n0 Z0 ) hZ (hw _ (List.mem_of_getElem? (i := 15) rfl)) (hw _ (List.mem_of_getElem? (i := 5) rfl)) (by decide) (by decide)) (g := (mkF m 18 #[.val (.ref a1), .val (.int p2), .val (.int (2 : Int32)), .val (.int (1 : Int32))] [(.int (0 : Int32)), (.long (x.toInt64))])) rfl (by rw [hml]; rfl) (argsL := [(.int (0 : Int32))]) (rest := [(.long (x.toInt64))]) (lenOf own_pd0 rfl) rfl (by show 2 * 0 + _ ≤ _; exact Nat.le_of_eq rfl) (hb hby own_d1_18) (fun _ _ => ⟨rfl, e0, (by decide : 0 + 0 ≤ _), (by decide : 0 + 0 ≤ _)⟩)
  dsimp only [Pt.U, Pt.locs, Pt.cells, Pt.slots] at X2 l2 y2 z2 st2 hQ2
  subst l2 y2 z2
  obtain ⟨rfl, Nq2, eq2⟩ := hQ2
  refine OE.of (fun _ k => st2 _ k) ?_
  have N2 := Fr.app N0 Nq2
  show OE _ p e below s _ _ _ T2 (mkF m 21 #[.val (.ref a1), .val (.int p2), .val (.int (2 : Int32)), .val (.int (1 : Int32))] [(.long (if (0 : Int32) = (0 : Int32) then (1 : Int64) else (if (0 : Int32) = (1 : Int32) then (31 : Int64) else (if (0 : Int32) = (2 : Int32) then (961 : Int64) else (if (0 : Int32) = (3 : Int32) then (29791 : Int64) else (923521 : Int64)))))), (.long (x.toInt64))])
  rw [if_pos (show (0 : Int32) = (0 : Int32) from (by decide : (0 : Int32) = (0 : Int32)))]
  show OE _ p e below s _ _ _ T2 (mkF m 21 #[.val (.ref a1), .val (.int p2), .val (.int (2 : Int32)), .val (.int (1 : Int32))] [(.long (1 : Int64)), (.long (x.toInt64))])
  refine OE.lmul X2 hx hby own_d1_21 ?_
  refine OE.retJ X2 hx Bd.returns Bd.notSynchronized (hb hby own_d1_22) (by decide) (by decide) ?_
  rw [eq2]
  exact ⟨rfl, N2, rfl⟩
def own_Q1_3_0 (Z : State) (a1 : Addr) (p2 : Int32) (x : Int32) (k_a1 : ClassId) (vs_a1 : List Value) (h0 : Heap) (n0 : Nat) (v : Option Value) (h : Heap) (L : List Loc) : Prop := v = some (.long ((x.toInt64) * (961 : Int64))) ∧ Fr n0 L ∧ h = h0
theorem own_ef_own_rm1_3_0 (m : MethodId) (a1 : Addr) (p2 : Int32) : entryFrame m #[(.ref a1), (.int p2), (.int (3 : Int32)), (.int (0 : Int32))] 4 = mkF m 0 #[.val (.ref a1), .val (.int p2), .val (.int (3 : Int32)), .val (.int (0 : Int32))] [] := by first | (simp [entryFrame, mkF, argsToLocals, Value.category]; done) | rfl
set_option maxRecDepth 65536 in
set_option maxHeartbeats 40000000 in
theorem own_rm1_3_0 (l : Launch) (Z : State) (a0 : Array Value) (hw : ∀ d ∈ tables_1, d.before a0 Z = true) (ws : List Jvm.Cond) (a1 : Addr) (p2 : Int32) (x : Int32) (k_a1 : ClassId) (vs_a1 : List Value) (h0 : Heap) (n0 : Nat) (Z0 : n0 ≤ h0.size) (V_a1 : Arv Z h0 a1 k_a1 .char (5 : Int32) vs_a1 (.int (0 : Int32))) (hin : ¬ (p2 + (0 : Int32)) < 0 ∧ (p2 + (0 : Int32)) < (5 : Int32)) (hat : vs_a1.getD (p2 + (0 : Int32)).toNatClampNeg (.int (0 : Int32)) = (.int x)) :
    MetFree l (⟨"com/example/archerfish/archerfish/index/TokenTableHashPinLaw", "term", "([CIII)J"⟩ : MethodName) (head1 (Jvm.Cond.code (⟨"com/example/archerfish/archerfish/index/TokenTableHashPinLaw", "term", "([CIII)J"⟩ : MethodName) method_3_code 4 (some .long) :: ws) ({ frames := 1, cells := 0, slots := 0, locals := 14 } : Room)) (fun a U => a = #[(.ref a1), (.int p2), (.int (3 : Int32)), (.int (0 : Int32))] ∧ Z.Warmed39 U.vm ∧ U.heap = h0) (fun _ _ _ _ _ => True) (fun _ U o U' => ∃ v L, o = .returned v ∧ own_Q1_3_0 Z a1 p2 x k_a1 vs_a1 h0 n0 v U'.heap L ∧ FrameEnd U o U' L ({ frames := 1, cells := 0, slots := 0, locals := 14 } : Room).cells ({ frames := 1, cells := 0, slots := 0, locals := 14 } : Room).slots) := by
  refine MetFree.of_bodySF (plainFor_of_name own_pn0) hisR ?_
  intro p e s m args below meth c s₁ Bd hml0 hP hK
  obtain ⟨rfl, hZ, hh⟩ := hP
  have hx := Bd.exec
  have hby := Bd.bytes
  have hml : c.maxLocals = 4 := hml0
  have hown : s.vm.findClass "com/example/archerfish/archerfish/index/TokenTableHashPinLaw" = some m.cls := findClass_of_methodNamed Bd.named
  have hnm := (name_of_methodNamed Bd.named Bd.method).1
  have X0 : Stand p l e ({ frames := 1, cells := 0, slots := 0, locals := 14 } : Room) s m #[(.ref a1), (.int p2), (.int (3 : Int32)), (.int (0 : Int32))] below meth c s₁ [] 0 0 := Stand.of_body Bd
  have e0 : s₁.heap = h0 := by rw [← hh, Bd.state]; rfl
  have N0 := Fr.nil n0
  show OE FrameEnd p e below s (own_Q1_3_0 Z a1 p2 x k_a1 vs_a1 h0 n0) ({ frames := 1, cells := 0, slots := 0, locals := 14 } : Room).cells ({ frames := 1, cells := 0, slots := 0, locals := 14 } : Room).slots s₁ (entryFrame m #[(.ref a1), (.int p2), (.int (3 : Int32)), (.int (0 : Int32))] 4)
  rw [own_ef_own_rm1_3_0]
  show OE _ p e below s _ _ _ s₁ (mkF m 0 #[.val (.ref a1), .val (.int p2), .val (.int (3 : Int32)), .val (.int (0 : Int32))] [])
  refine OE.iloadN X0 hx hby own_d1_0 rfl ?_
  refine OE.iloadN X0 hx hby own_d1_1 rfl ?_
  refine OE.icmpYes X0 hx hby (pc' := 7) own_d1_2 (tlt (by decide : (0 : Int32) < (3 : Int32))).1 (h := ?_)
  refine OE.aloadN X0 hx hby own_d1_7 rfl rfl ?_
  refine OE.iloadN X0 hx hby own_d1_8 rfl ?_
  refine OE.iloadN X0 hx hby own_d1_9 rfl ?_
  refine OE.iadd X0 hx hby own_d1_10 ?_
  have Vo1 := V_a1
  obtain ⟨cl1, Ar1, -, Sz1, Nz1, Hz1, Gz1⟩ := Vo1
  have hin1 : ¬ ((p2 + (0 : Int32)) < 0 ∨ cl1.slots.size ≤ ((p2 + (0 : Int32))).toNatClampNeg) := inb_of Sz1 hin
  have hat1 : cl1.slots[((p2 + (0 : Int32))).toNatClampNeg]? = some (.int x) := Has.at Hz1 hin1 hat
  refine OE.of (X0.caload hx (j := (p2 + (0 : Int32))) (v := (.int x)) (by rw [e0]; exact Ar1.1) (State.isArrayOf_alike hZ.alike Ar1.2.1) Ar1.2.2 hin1 hat1 (g := (mkF m 11 #[.val (.ref a1), .val (.int p2), .val (.int (3 : Int32)), .val (.int (0 : Int32))] [(.int (p2 + (0 : Int32))), (.ref a1)])) rfl rfl (hb hby own_d1_11)) ?_
  show OE _ p e below s _ _ _ s₁ (mkF m 12 #[.val (.ref a1), .val (.int p2), .val (.int (3 : Int32)), .val (.int (0 : Int32))] [(.int x)])
  refine OE.i2l X0 hx hby own_d1_12 ?_
  refine OE.iloadN X0 hx hby own_d1_13 rfl ?_
  refine OE.iconst X0 hx hby own_d1_14 (1 : Int32) rfl ?_
  refine OE.isub X0 hx hby own_d1_15 ?_
  rw [(by decide : ((3 : Int32) - (1 : Int32)) = (2 : Int32))]
  refine OE.iloadN X0 hx hby own_d1_16 rfl ?_
  refine OE.isub X0 hx hby own_d1_17 ?_
  rw [(by decide : ((2 : Int32) - (0 : Int32)) = (2 : Int32))]
  obtain ⟨_, _, ⟨T2, L2, k2, n2⟩, -, X2, ⟨Lc2, hQ2, l2, y2, z2⟩, st2⟩ := Jvm.LawKit.callS X0 hx (y := (⟨"com/example/archerfish/archerfish/index/TokenTableHashPinLaw", "pow31", "(I)J"⟩ : MethodName)) hown (mvT hZ (hw _ (List.mem_of_getElem? (i := 13) rfl))) (mvT hZ (hw _ (List.mem_of_getElem? (i := 14) rfl))) (mvT hZ (hw _ (List.mem_of_getElem? (i := 5) rfl))) (mvT hZ (hw _ (List.mem_of_getElem? (i := 15) rfl))) (by decide) (backOf (W := 2) (own_rm3 l Z a0 hw [] (2 : Int32) h0 n0 Z0 ) hZ (hw _ (List.mem_of_getElem? (i := 15) rfl)) (hw _ (List.mem_of_getElem? (i := 5) rfl)) (by decide) (by decide)) (g := (mkF m 18 #[.val (.ref a1), .val (.int p2), .val (.int (3 : Int32)), .val (.int (0 : Int32))] [(.int (2 : Int32)), (.long (x.toInt64))])) rfl (by rw [hml]; rfl) (argsL := [(.int (2 : Int32))]) (rest := [(.long (x.toInt64))]) (lenOf own_pd0 rfl) rfl (by show 2 * 0 + _ ≤ _; exact Nat.le_of_eq rfl) (hb hby own_d1_18) (fun _ _ => ⟨rfl, e0, (by decide : 0 + 0 ≤ _), (by decide : 0 + 0 ≤ _)⟩)
  dsimp only [Pt.U, Pt.locs, Pt.cells, Pt.slots] at X2 l2 y2 z2 st2 hQ2
  subst l2 y2 z2
  obtain ⟨rfl, Nq2, eq2⟩ := hQ2
  refine OE.of (fun _ k => st2 _ k) ?_
  have N2 := Fr.app N0 Nq2
  show OE _ p e below s _ _ _ T2 (mkF m 21 #[.val (.ref a1), .val (.int p2), .val (.int (3 : Int32)), .val (.int (0 : Int32))] [(.long (if (2 : Int32) = (0 : Int32) then (1 : Int64) else (if (2 : Int32) = (1 : Int32) then (31 : Int64) else (if (2 : Int32) = (2 : Int32) then (961 : Int64) else (if (2 : Int32) = (3 : Int32) then (29791 : Int64) else (923521 : Int64)))))), (.long (x.toInt64))])
  rw [if_neg (show ¬ ((2 : Int32) = (0 : Int32)) from (by decide : ¬ ((2 : Int32) = (0 : Int32))))]
  show OE _ p e below s _ _ _ T2 (mkF m 21 #[.val (.ref a1), .val (.int p2), .val (.int (3 : Int32)), .val (.int (0 : Int32))] [(.long (if (2 : Int32) = (1 : Int32) then (31 : Int64) else (if (2 : Int32) = (2 : Int32) then (961 : Int64) else (if (2 : Int32) = (3 : Int32) then (29791 : Int64) else (923521 : Int64))))), (.long (x.toInt64))])
  rw [if_neg (show ¬ ((2 : Int32) = (1 : Int32)) from (by decide : ¬ ((2 : Int32) = (1 : Int32))))]
  show OE _ p e below s _ _ _ T2 (mkF m 21 #[.val (.ref a1), .val (.int p2), .val (.int (3 : Int32)), .val (.int (0 : Int32))] [(.long (if (2 : Int32) = (2 : Int32) then (961 : Int64) else (if (2 : Int32) = (3 : Int32) then (29791 : Int64) else (923521 : Int64)))), (.long (x.toInt64))])
  rw [if_pos (show (2 : Int32) = (2 : Int32) from (by decide : (2 : Int32) = (2 : Int32)))]
  show OE _ p e below s _ _ _ T2 (mkF m 21 #[.val (.ref a1), .val (.int p2), .val (.int (3 : Int32)), .val (.int (0 : Int32))] [(.long (961 : Int64)), (.long (x.toInt64))])
  refine OE.lmul X2 hx hby own_d1_21 ?_
  refine OE.retJ X2 hx Bd.returns Bd.notSynchronized (hb hby own_d1_22) (by decide) (by decide) ?_
  rw [eq2]
  exact ⟨rfl, N2, rfl⟩
def own_Q1_3_1 (Z : State) (a1 : Addr) (p2 : Int32) (x : Int32) (k_a1 : ClassId) (vs_a1 : List Value) (h0 : Heap) (n0 : Nat) (v : Option Value) (h : Heap) (L : List Loc) : Prop := v = some (.long ((x.toInt64) * (31 : Int64))) ∧ Fr n0 L ∧ h = h0
theorem own_ef_own_rm1_3_1 (m : MethodId) (a1 : Addr) (p2 : Int32) : entryFrame m #[(.ref a1), (.int p2), (.int (3 : Int32)), (.int (1 : Int32))] 4 = mkF m 0 #[.val (.ref a1), .val (.int p2), .val (.int (3 : Int32)), .val (.int (1 : Int32))] [] := by first | (simp [entryFrame, mkF, argsToLocals, Value.category]; done) | rfl
set_option maxRecDepth 65536 in
set_option maxHeartbeats 40000000 in
theorem own_rm1_3_1 (l : Launch) (Z : State) (a0 : Array Value) (hw : ∀ d ∈ tables_1, d.before a0 Z = true) (ws : List Jvm.Cond) (a1 : Addr) (p2 : Int32) (x : Int32) (k_a1 : ClassId) (vs_a1 : List Value) (h0 : Heap) (n0 : Nat) (Z0 : n0 ≤ h0.size) (V_a1 : Arv Z h0 a1 k_a1 .char (5 : Int32) vs_a1 (.int (0 : Int32))) (hin : ¬ (p2 + (1 : Int32)) < 0 ∧ (p2 + (1 : Int32)) < (5 : Int32)) (hat : vs_a1.getD (p2 + (1 : Int32)).toNatClampNeg (.int (0 : Int32)) = (.int x)) :
    MetFree l (⟨"com/example/archerfish/archerfish/index/TokenTableHashPinLaw", "term", "([CIII)J"⟩ : MethodName) (head1 (Jvm.Cond.code (⟨"com/example/archerfish/archerfish/index/TokenTableHashPinLaw", "term", "([CIII)J"⟩ : MethodName) method_3_code 4 (some .long) :: ws) ({ frames := 1, cells := 0, slots := 0, locals := 14 } : Room)) (fun a U => a = #[(.ref a1), (.int p2), (.int (3 : Int32)), (.int (1 : Int32))] ∧ Z.Warmed39 U.vm ∧ U.heap = h0) (fun _ _ _ _ _ => True) (fun _ U o U' => ∃ v L, o = .returned v ∧ own_Q1_3_1 Z a1 p2 x k_a1 vs_a1 h0 n0 v U'.heap L ∧ FrameEnd U o U' L ({ frames := 1, cells := 0, slots := 0, locals := 14 } : Room).cells ({ frames := 1, cells := 0, slots := 0, locals := 14 } : Room).slots) := by
  refine MetFree.of_bodySF (plainFor_of_name own_pn0) hisR ?_
  intro p e s m args below meth c s₁ Bd hml0 hP hK
  obtain ⟨rfl, hZ, hh⟩ := hP
  have hx := Bd.exec
  have hby := Bd.bytes
  have hml : c.maxLocals = 4 := hml0
  have hown : s.vm.findClass "com/example/archerfish/archerfish/index/TokenTableHashPinLaw" = some m.cls := findClass_of_methodNamed Bd.named
  have hnm := (name_of_methodNamed Bd.named Bd.method).1
  have X0 : Stand p l e ({ frames := 1, cells := 0, slots := 0, locals := 14 } : Room) s m #[(.ref a1), (.int p2), (.int (3 : Int32)), (.int (1 : Int32))] below meth c s₁ [] 0 0 := Stand.of_body Bd
  have e0 : s₁.heap = h0 := by rw [← hh, Bd.state]; rfl
  have N0 := Fr.nil n0
  show OE FrameEnd p e below s (own_Q1_3_1 Z a1 p2 x k_a1 vs_a1 h0 n0) ({ frames := 1, cells := 0, slots := 0, locals := 14 } : Room).cells ({ frames := 1, cells := 0, slots := 0, locals := 14 } : Room).slots s₁ (entryFrame m #[(.ref a1), (.int p2), (.int (3 : Int32)), (.int (1 : Int32))] 4)
  rw [own_ef_own_rm1_3_1]
  show OE _ p e below s _ _ _ s₁ (mkF m 0 #[.val (.ref a1), .val (.int p2), .val (.int (3 : Int32)), .val (.int (1 : Int32))] [])
  refine OE.iloadN X0 hx hby own_d1_0 rfl ?_
  refine OE.iloadN X0 hx hby own_d1_1 rfl ?_
  refine OE.icmpYes X0 hx hby (pc' := 7) own_d1_2 (tlt (by decide : (1 : Int32) < (3 : Int32))).1 (h := ?_)
  refine OE.aloadN X0 hx hby own_d1_7 rfl rfl ?_
  refine OE.iloadN X0 hx hby own_d1_8 rfl ?_
  refine OE.iloadN X0 hx hby own_d1_9 rfl ?_
  refine OE.iadd X0 hx hby own_d1_10 ?_
  have Vo1 := V_a1
  obtain ⟨cl1, Ar1, -, Sz1, Nz1, Hz1, Gz1⟩ := Vo1
  have hin1 : ¬ ((p2 + (1 : Int32)) < 0 ∨ cl1.slots.size ≤ ((p2 + (1 : Int32))).toNatClampNeg) := inb_of Sz1 hin
  have hat1 : cl1.slots[((p2 + (1 : Int32))).toNatClampNeg]? = some (.int x) := Has.at Hz1 hin1 hat
  refine OE.of (X0.caload hx (j := (p2 + (1 : Int32))) (v := (.int x)) (by rw [e0]; exact Ar1.1) (State.isArrayOf_alike hZ.alike Ar1.2.1) Ar1.2.2 hin1 hat1 (g := (mkF m 11 #[.val (.ref a1), .val (.int p2), .val (.int (3 : Int32)), .val (.int (1 : Int32))] [(.int (p2 + (1 : Int32))), (.ref a1)])) rfl rfl (hb hby own_d1_11)) ?_
  show OE _ p e below s _ _ _ s₁ (mkF m 12 #[.val (.ref a1), .val (.int p2), .val (.int (3 : Int32)), .val (.int (1 : Int32))] [(.int x)])
  refine OE.i2l X0 hx hby own_d1_12 ?_
  refine OE.iloadN X0 hx hby own_d1_13 rfl ?_
  refine OE.iconst X0 hx hby own_d1_14 (1 : Int32) rfl ?_
  refine OE.isub X0 hx hby own_d1_15 ?_
  rw [(by decide : ((3 : Int32) - (1 : Int32)) = (2 : Int32))]
  refine OE.iloadN X0 hx hby own_d1_16 rfl ?_
  refine OE.isub X0 hx hby own_d1_17 ?_
  rw [(by decide : ((2 : Int32) - (1 : Int32)) = (1 : Int32))]
  obtain ⟨_, _, ⟨T2, L2, k2, n2⟩, -, X2, ⟨Lc2, hQ2, l2, y2, z2⟩, st2⟩ := Jvm.LawKit.callS X0 hx (y := (⟨"com/example/archerfish/archerfish/index/TokenTableHashPinLaw", "pow31", "(I)J"⟩ : MethodName)) hown (mvT hZ (hw _ (List.mem_of_getElem? (i := 13) rfl))) (mvT hZ (hw _ (List.mem_of_getElem? (i := 14) rfl))) (mvT hZ (hw _ (List.mem_of_getElem? (i := 5) rfl))) (mvT hZ (hw _ (List.mem_of_getElem? (i := 15) rfl))) (by decide) (backOf (W := 2) (own_rm3 l Z a0 hw [] (1 : Int32) h0 n0 Z0 ) hZ (hw _ (List.mem_of_getElem? (i := 15) rfl)) (hw _ (List.mem_of_getElem? (i := 5) rfl)) (by decide) (by decide)) (g := (mkF m 18 #[.val (.ref a1), .val (.int p2), .val (.int (3 : Int32)), .val (.int (1 : Int32))] [(.int (1 : Int32)), (.long (x.toInt64))])) rfl (by rw [hml]; rfl) (argsL := [(.int (1 : Int32))]) (rest := [(.long (x.toInt64))]) (lenOf own_pd0 rfl) rfl (by show 2 * 0 + _ ≤ _; exact Nat.le_of_eq rfl) (hb hby own_d1_18) (fun _ _ => ⟨rfl, e0, (by decide : 0 + 0 ≤ _), (by decide : 0 + 0 ≤ _)⟩)
  dsimp only [Pt.U, Pt.locs, Pt.cells, Pt.slots] at X2 l2 y2 z2 st2 hQ2
  subst l2 y2 z2
  obtain ⟨rfl, Nq2, eq2⟩ := hQ2
  refine OE.of (fun _ k => st2 _ k) ?_
  have N2 := Fr.app N0 Nq2
  show OE _ p e below s _ _ _ T2 (mkF m 21 #[.val (.ref a1), .val (.int p2), .val (.int (3 : Int32)), .val (.int (1 : Int32))] [(.long (if (1 : Int32) = (0 : Int32) then (1 : Int64) else (if (1 : Int32) = (1 : Int32) then (31 : Int64) else (if (1 : Int32) = (2 : Int32) then (961 : Int64) else (if (1 : Int32) = (3 : Int32) then (29791 : Int64) else (923521 : Int64)))))), (.long (x.toInt64))])
  rw [if_neg (show ¬ ((1 : Int32) = (0 : Int32)) from (by decide : ¬ ((1 : Int32) = (0 : Int32))))]
  show OE _ p e below s _ _ _ T2 (mkF m 21 #[.val (.ref a1), .val (.int p2), .val (.int (3 : Int32)), .val (.int (1 : Int32))] [(.long (if (1 : Int32) = (1 : Int32) then (31 : Int64) else (if (1 : Int32) = (2 : Int32) then (961 : Int64) else (if (1 : Int32) = (3 : Int32) then (29791 : Int64) else (923521 : Int64))))), (.long (x.toInt64))])
  rw [if_pos (show (1 : Int32) = (1 : Int32) from (by decide : (1 : Int32) = (1 : Int32)))]
  show OE _ p e below s _ _ _ T2 (mkF m 21 #[.val (.ref a1), .val (.int p2), .val (.int (3 : Int32)), .val (.int (1 : Int32))] [(.long (31 : Int64)), (.long (x.toInt64))])
  refine OE.lmul X2 hx hby own_d1_21 ?_
  refine OE.retJ X2 hx Bd.returns Bd.notSynchronized (hb hby own_d1_22) (by decide) (by decide) ?_
  rw [eq2]
  exact ⟨rfl, N2, rfl⟩
def own_Q1_3_2 (Z : State) (a1 : Addr) (p2 : Int32) (x : Int32) (k_a1 : ClassId) (vs_a1 : List Value) (h0 : Heap) (n0 : Nat) (v : Option Value) (h : Heap) (L : List Loc) : Prop := v = some (.long ((x.toInt64) * (1 : Int64))) ∧ Fr n0 L ∧ h = h0
theorem own_ef_own_rm1_3_2 (m : MethodId) (a1 : Addr) (p2 : Int32) : entryFrame m #[(.ref a1), (.int p2), (.int (3 : Int32)), (.int (2 : Int32))] 4 = mkF m 0 #[.val (.ref a1), .val (.int p2), .val (.int (3 : Int32)), .val (.int (2 : Int32))] [] := by first | (simp [entryFrame, mkF, argsToLocals, Value.category]; done) | rfl
set_option maxRecDepth 65536 in
set_option maxHeartbeats 40000000 in
theorem own_rm1_3_2 (l : Launch) (Z : State) (a0 : Array Value) (hw : ∀ d ∈ tables_1, d.before a0 Z = true) (ws : List Jvm.Cond) (a1 : Addr) (p2 : Int32) (x : Int32) (k_a1 : ClassId) (vs_a1 : List Value) (h0 : Heap) (n0 : Nat) (Z0 : n0 ≤ h0.size) (V_a1 : Arv Z h0 a1 k_a1 .char (5 : Int32) vs_a1 (.int (0 : Int32))) (hin : ¬ (p2 + (2 : Int32)) < 0 ∧ (p2 + (2 : Int32)) < (5 : Int32)) (hat : vs_a1.getD (p2 + (2 : Int32)).toNatClampNeg (.int (0 : Int32)) = (.int x)) :
    MetFree l (⟨"com/example/archerfish/archerfish/index/TokenTableHashPinLaw", "term", "([CIII)J"⟩ : MethodName) (head1 (Jvm.Cond.code (⟨"com/example/archerfish/archerfish/index/TokenTableHashPinLaw", "term", "([CIII)J"⟩ : MethodName) method_3_code 4 (some .long) :: ws) ({ frames := 1, cells := 0, slots := 0, locals := 14 } : Room)) (fun a U => a = #[(.ref a1), (.int p2), (.int (3 : Int32)), (.int (2 : Int32))] ∧ Z.Warmed39 U.vm ∧ U.heap = h0) (fun _ _ _ _ _ => True) (fun _ U o U' => ∃ v L, o = .returned v ∧ own_Q1_3_2 Z a1 p2 x k_a1 vs_a1 h0 n0 v U'.heap L ∧ FrameEnd U o U' L ({ frames := 1, cells := 0, slots := 0, locals := 14 } : Room).cells ({ frames := 1, cells := 0, slots := 0, locals := 14 } : Room).slots) := by
  refine MetFree.of_bodySF (plainFor_of_name own_pn0) hisR ?_
  intro p e s m args below meth c s₁ Bd hml0 hP hK
  obtain ⟨rfl, hZ, hh⟩ := hP
  have hx := Bd.exec
  have hby := Bd.bytes
  have hml : c.maxLocals = 4 := hml0
  have hown : s.vm.findClass "com/example/archerfish/archerfish/index/TokenTableHashPinLaw" = some m.cls := findClass_of_methodNamed Bd.named
  have hnm := (name_of_methodNamed Bd.named Bd.method).1
  have X0 : Stand p l e ({ frames := 1, cells := 0, slots := 0, locals := 14 } : Room) s m #[(.ref a1), (.int p2), (.int (3 : Int32)), (.int (2 : Int32))] below meth c s₁ [] 0 0 := Stand.of_body Bd
  have e0 : s₁.heap = h0 := by rw [← hh, Bd.state]; rfl
  have N0 := Fr.nil n0
  show OE FrameEnd p e below s (own_Q1_3_2 Z a1 p2 x k_a1 vs_a1 h0 n0) ({ frames := 1, cells := 0, slots := 0, locals := 14 } : Room).cells ({ frames := 1, cells := 0, slots := 0, locals := 14 } : Room).slots s₁ (entryFrame m #[(.ref a1), (.int p2), (.int (3 : Int32)), (.int (2 : Int32))] 4)
  rw [own_ef_own_rm1_3_2]
  show OE _ p e below s _ _ _ s₁ (mkF m 0 #[.val (.ref a1), .val (.int p2), .val (.int (3 : Int32)), .val (.int (2 : Int32))] [])
  refine OE.iloadN X0 hx hby own_d1_0 rfl ?_
  refine OE.iloadN X0 hx hby own_d1_1 rfl ?_
  refine OE.icmpYes X0 hx hby (pc' := 7) own_d1_2 (tlt (by decide : (2 : Int32) < (3 : Int32))).1 (h := ?_)
  refine OE.aloadN X0 hx hby own_d1_7 rfl rfl ?_
  refine OE.iloadN X0 hx hby own_d1_8 rfl ?_
  refine OE.iloadN X0 hx hby own_d1_9 rfl ?_
  refine OE.iadd X0 hx hby own_d1_10 ?_
  have Vo1 := V_a1
  obtain ⟨cl1, Ar1, -, Sz1, Nz1, Hz1, Gz1⟩ := Vo1
  have hin1 : ¬ ((p2 + (2 : Int32)) < 0 ∨ cl1.slots.size ≤ ((p2 + (2 : Int32))).toNatClampNeg) := inb_of Sz1 hin
  have hat1 : cl1.slots[((p2 + (2 : Int32))).toNatClampNeg]? = some (.int x) := Has.at Hz1 hin1 hat
  refine OE.of (X0.caload hx (j := (p2 + (2 : Int32))) (v := (.int x)) (by rw [e0]; exact Ar1.1) (State.isArrayOf_alike hZ.alike Ar1.2.1) Ar1.2.2 hin1 hat1 (g := (mkF m 11 #[.val (.ref a1), .val (.int p2), .val (.int (3 : Int32)), .val (.int (2 : Int32))] [(.int (p2 + (2 : Int32))), (.ref a1)])) rfl rfl (hb hby own_d1_11)) ?_
  show OE _ p e below s _ _ _ s₁ (mkF m 12 #[.val (.ref a1), .val (.int p2), .val (.int (3 : Int32)), .val (.int (2 : Int32))] [(.int x)])
  refine OE.i2l X0 hx hby own_d1_12 ?_
  refine OE.iloadN X0 hx hby own_d1_13 rfl ?_
  refine OE.iconst X0 hx hby own_d1_14 (1 : Int32) rfl ?_
  refine OE.isub X0 hx hby own_d1_15 ?_
  rw [(by decide : ((3 : Int32) - (1 : Int32)) = (2 : Int32))]
  refine OE.iloadN X0 hx hby own_d1_16 rfl ?_
  refine OE.isub X0 hx hby own_d1_17 ?_
  rw [(by decide : ((2 : Int32) - (2 : Int32)) = (0 : Int32))]
  obtain ⟨_, _, ⟨T2, L2, k2, n2⟩, -, X2, ⟨Lc2, hQ2, l2, y2, z2⟩, st2⟩ := Jvm.LawKit.callS X0 hx (y := (⟨"com/example/archerfish/archerfish/index/TokenTableHashPinLaw", "pow31", "(I)J"⟩ : MethodName)) hown (mvT hZ (hw _ (List.mem_of_getElem? (i := 13) rfl))) (mvT hZ (hw _ (List.mem_of_getElem? (i := 14) rfl))) (mvT hZ (hw _ (List.mem_of_getElem? (i := 5) rfl))) (mvT hZ (hw _ (List.mem_of_getElem? (i := 15) rfl))) (by decide) (backOf (W := 2) (own_rm3 l Z a0 hw [] (0 : Int32) h0 n0 Z0 ) hZ (hw _ (List.mem_of_getElem? (i := 15) rfl)) (hw _ (List.mem_of_getElem? (i := 5) rfl)) (by decide) (by decide)) (g := (mkF m 18 #[.val (.ref a1), .val (.int p2), .val (.int (3 : Int32)), .val (.int (2 : Int32))] [(.int (0 : Int32)), (.long (x.toInt64))])) rfl (by rw [hml]; rfl) (argsL := [(.int (0 : Int32))]) (rest := [(.long (x.toInt64))]) (lenOf own_pd0 rfl) rfl (by show 2 * 0 + _ ≤ _; exact Nat.le_of_eq rfl) (hb hby own_d1_18) (fun _ _ => ⟨rfl, e0, (by decide : 0 + 0 ≤ _), (by decide : 0 + 0 ≤ _)⟩)
  dsimp only [Pt.U, Pt.locs, Pt.cells, Pt.slots] at X2 l2 y2 z2 st2 hQ2
  subst l2 y2 z2
  obtain ⟨rfl, Nq2, eq2⟩ := hQ2
  refine OE.of (fun _ k => st2 _ k) ?_
  have N2 := Fr.app N0 Nq2
  show OE _ p e below s _ _ _ T2 (mkF m 21 #[.val (.ref a1), .val (.int p2), .val (.int (3 : Int32)), .val (.int (2 : Int32))] [(.long (if (0 : Int32) = (0 : Int32) then (1 : Int64) else (if (0 : Int32) = (1 : Int32) then (31 : Int64) else (if (0 : Int32) = (2 : Int32) then (961 : Int64) else (if (0 : Int32) = (3 : Int32) then (29791 : Int64) else (923521 : Int64)))))), (.long (x.toInt64))])
  rw [if_pos (show (0 : Int32) = (0 : Int32) from (by decide : (0 : Int32) = (0 : Int32)))]
  show OE _ p e below s _ _ _ T2 (mkF m 21 #[.val (.ref a1), .val (.int p2), .val (.int (3 : Int32)), .val (.int (2 : Int32))] [(.long (1 : Int64)), (.long (x.toInt64))])
  refine OE.lmul X2 hx hby own_d1_21 ?_
  refine OE.retJ X2 hx Bd.returns Bd.notSynchronized (hb hby own_d1_22) (by decide) (by decide) ?_
  rw [eq2]
  exact ⟨rfl, N2, rfl⟩
def own_Q1_4_0 (Z : State) (a1 : Addr) (p2 : Int32) (x : Int32) (k_a1 : ClassId) (vs_a1 : List Value) (h0 : Heap) (n0 : Nat) (v : Option Value) (h : Heap) (L : List Loc) : Prop := v = some (.long ((x.toInt64) * (29791 : Int64))) ∧ Fr n0 L ∧ h = h0
theorem own_ef_own_rm1_4_0 (m : MethodId) (a1 : Addr) (p2 : Int32) : entryFrame m #[(.ref a1), (.int p2), (.int (4 : Int32)), (.int (0 : Int32))] 4 = mkF m 0 #[.val (.ref a1), .val (.int p2), .val (.int (4 : Int32)), .val (.int (0 : Int32))] [] := by first | (simp [entryFrame, mkF, argsToLocals, Value.category]; done) | rfl
set_option maxRecDepth 65536 in
set_option maxHeartbeats 40000000 in
theorem own_rm1_4_0 (l : Launch) (Z : State) (a0 : Array Value) (hw : ∀ d ∈ tables_1, d.before a0 Z = true) (ws : List Jvm.Cond) (a1 : Addr) (p2 : Int32) (x : Int32) (k_a1 : ClassId) (vs_a1 : List Value) (h0 : Heap) (n0 : Nat) (Z0 : n0 ≤ h0.size) (V_a1 : Arv Z h0 a1 k_a1 .char (5 : Int32) vs_a1 (.int (0 : Int32))) (hin : ¬ (p2 + (0 : Int32)) < 0 ∧ (p2 + (0 : Int32)) < (5 : Int32)) (hat : vs_a1.getD (p2 + (0 : Int32)).toNatClampNeg (.int (0 : Int32)) = (.int x)) :
    MetFree l (⟨"com/example/archerfish/archerfish/index/TokenTableHashPinLaw", "term", "([CIII)J"⟩ : MethodName) (head1 (Jvm.Cond.code (⟨"com/example/archerfish/archerfish/index/TokenTableHashPinLaw", "term", "([CIII)J"⟩ : MethodName) method_3_code 4 (some .long) :: ws) ({ frames := 1, cells := 0, slots := 0, locals := 14 } : Room)) (fun a U => a = #[(.ref a1), (.int p2), (.int (4 : Int32)), (.int (0 : Int32))] ∧ Z.Warmed39 U.vm ∧ U.heap = h0) (fun _ _ _ _ _ => True) (fun _ U o U' => ∃ v L, o = .returned v ∧ own_Q1_4_0 Z a1 p2 x k_a1 vs_a1 h0 n0 v U'.heap L ∧ FrameEnd U o U' L ({ frames := 1, cells := 0, slots := 0, locals := 14 } : Room).cells ({ frames := 1, cells := 0, slots := 0, locals := 14 } : Room).slots) := by
  refine MetFree.of_bodySF (plainFor_of_name own_pn0) hisR ?_
  intro p e s m args below meth c s₁ Bd hml0 hP hK
  obtain ⟨rfl, hZ, hh⟩ := hP
  have hx := Bd.exec
  have hby := Bd.bytes
  have hml : c.maxLocals = 4 := hml0
  have hown : s.vm.findClass "com/example/archerfish/archerfish/index/TokenTableHashPinLaw" = some m.cls := findClass_of_methodNamed Bd.named
  have hnm := (name_of_methodNamed Bd.named Bd.method).1
  have X0 : Stand p l e ({ frames := 1, cells := 0, slots := 0, locals := 14 } : Room) s m #[(.ref a1), (.int p2), (.int (4 : Int32)), (.int (0 : Int32))] below meth c s₁ [] 0 0 := Stand.of_body Bd
  have e0 : s₁.heap = h0 := by rw [← hh, Bd.state]; rfl
  have N0 := Fr.nil n0
  show OE FrameEnd p e below s (own_Q1_4_0 Z a1 p2 x k_a1 vs_a1 h0 n0) ({ frames := 1, cells := 0, slots := 0, locals := 14 } : Room).cells ({ frames := 1, cells := 0, slots := 0, locals := 14 } : Room).slots s₁ (entryFrame m #[(.ref a1), (.int p2), (.int (4 : Int32)), (.int (0 : Int32))] 4)
  rw [own_ef_own_rm1_4_0]
  show OE _ p e below s _ _ _ s₁ (mkF m 0 #[.val (.ref a1), .val (.int p2), .val (.int (4 : Int32)), .val (.int (0 : Int32))] [])
  refine OE.iloadN X0 hx hby own_d1_0 rfl ?_
  refine OE.iloadN X0 hx hby own_d1_1 rfl ?_
  refine OE.icmpYes X0 hx hby (pc' := 7) own_d1_2 (tlt (by decide : (0 : Int32) < (4 : Int32))).1 (h := ?_)
  refine OE.aloadN X0 hx hby own_d1_7 rfl rfl ?_
  refine OE.iloadN X0 hx hby own_d1_8 rfl ?_
  refine OE.iloadN X0 hx hby own_d1_9 rfl ?_
  refine OE.iadd X0 hx hby own_d1_10 ?_
  have Vo1 := V_a1
  obtain ⟨cl1, Ar1, -, Sz1, Nz1, Hz1, Gz1⟩ := Vo1
  have hin1 : ¬ ((p2 + (0 : Int32)) < 0 ∨ cl1.slots.size ≤ ((p2 + (0 : Int32))).toNatClampNeg) := inb_of Sz1 hin
  have hat1 : cl1.slots[((p2 + (0 : Int32))).toNatClampNeg]? = some (.int x) := Has.at Hz1 hin1 hat
  refine OE.of (X0.caload hx (j := (p2 + (0 : Int32))) (v := (.int x)) (by rw [e0]; exact Ar1.1) (State.isArrayOf_alike hZ.alike Ar1.2.1) Ar1.2.2 hin1 hat1 (g := (mkF m 11 #[.val (.ref a1), .val (.int p2), .val (.int (4 : Int32)), .val (.int (0 : Int32))] [(.int (p2 + (0 : Int32))), (.ref a1)])) rfl rfl (hb hby own_d1_11)) ?_
  show OE _ p e below s _ _ _ s₁ (mkF m 12 #[.val (.ref a1), .val (.int p2), .val (.int (4 : Int32)), .val (.int (0 : Int32))] [(.int x)])
  refine OE.i2l X0 hx hby own_d1_12 ?_
  refine OE.iloadN X0 hx hby own_d1_13 rfl ?_
  refine OE.iconst X0 hx hby own_d1_14 (1 : Int32) rfl ?_
  refine OE.isub X0 hx hby own_d1_15 ?_
  rw [(by decide : ((4 : Int32) - (1 : Int32)) = (3 : Int32))]
  refine OE.iloadN X0 hx hby own_d1_16 rfl ?_
  refine OE.isub X0 hx hby own_d1_17 ?_
  rw [(by decide : ((3 : Int32) - (0 : Int32)) = (3 : Int32))]
  obtain ⟨_, _, ⟨T2, L2, k2, n2⟩, -, X2, ⟨Lc2, hQ2, l2, y2, z2⟩, st2⟩ := Jvm.LawKit.callS X0 hx (y := (⟨"com/example/archerfish/archerfish/index/TokenTableHashPinLaw", "pow31", "(I)J"⟩ : MethodName)) hown (mvT hZ (hw _ (List.mem_of_getElem? (i := 13) rfl))) (mvT hZ (hw _ (List.mem_of_getElem? (i := 14) rfl))) (mvT hZ (hw _ (List.mem_of_getElem? (i := 5) rfl))) (mvT hZ (hw _ (List.mem_of_getElem? (i := 15) rfl))) (by decide) (backOf (W := 2) (own_rm3 l Z a0 hw [] (3 : Int32) h0 n0 Z0 ) hZ (hw _ (List.mem_of_getElem? (i := 15) rfl)) (hw _ (List.mem_of_getElem? (i := 5) rfl)) (by decide) (by decide)) (g := (mkF m 18 #[.val (.ref a1), .val (.int p2), .val (.int (4 : Int32)), .val (.int (0 : Int32))] [(.int (3 : Int32)), (.long (x.toInt64))])) rfl (by rw [hml]; rfl) (argsL := [(.int (3 : Int32))]) (rest := [(.long (x.toInt64))]) (lenOf own_pd0 rfl) rfl (by show 2 * 0 + _ ≤ _; exact Nat.le_of_eq rfl) (hb hby own_d1_18) (fun _ _ => ⟨rfl, e0, (by decide : 0 + 0 ≤ _), (by decide : 0 + 0 ≤ _)⟩)
  dsimp only [Pt.U, Pt.locs, Pt.cells, Pt.slots] at X2 l2 y2 z2 st2 hQ2
  subst l2 y2 z2
  obtain ⟨rfl, Nq2, eq2⟩ := hQ2
  refine OE.of (fun _ k => st2 _ k) ?_
  have N2 := Fr.app N0 Nq2
  show OE _ p e below s _ _ _ T2 (mkF m 21 #[.val (.ref a1), .val (.int p2), .val (.int (4 : Int32)), .val (.int (0 : Int32))] [(.long (if (3 : Int32) = (0 : Int32) then (1 : Int64) else (if (3 : Int32) = (1 : Int32) then (31 : Int64) else (if (3 : Int32) = (2 : Int32) then (961 : Int64) else (if (3 : Int32) = (3 : Int32) then (29791 : Int64) else (923521 : Int64)))))), (.long (x.toInt64))])
  rw [if_neg (show ¬ ((3 : Int32) = (0 : Int32)) from (by decide : ¬ ((3 : Int32) = (0 : Int32))))]
  show OE _ p e below s _ _ _ T2 (mkF m 21 #[.val (.ref a1), .val (.int p2), .val (.int (4 : Int32)), .val (.int (0 : Int32))] [(.long (if (3 : Int32) = (1 : Int32) then (31 : Int64) else (if (3 : Int32) = (2 : Int32) then (961 : Int64) else (if (3 : Int32) = (3 : Int32) then (29791 : Int64) else (923521 : Int64))))), (.long (x.toInt64))])
  rw [if_neg (show ¬ ((3 : Int32) = (1 : Int32)) from (by decide : ¬ ((3 : Int32) = (1 : Int32))))]
  show OE _ p e below s _ _ _ T2 (mkF m 21 #[.val (.ref a1), .val (.int p2), .val (.int (4 : Int32)), .val (.int (0 : Int32))] [(.long (if (3 : Int32) = (2 : Int32) then (961 : Int64) else (if (3 : Int32) = (3 : Int32) then (29791 : Int64) else (923521 : Int64)))), (.long (x.toInt64))])
  rw [if_neg (show ¬ ((3 : Int32) = (2 : Int32)) from (by decide : ¬ ((3 : Int32) = (2 : Int32))))]
  show OE _ p e below s _ _ _ T2 (mkF m 21 #[.val (.ref a1), .val (.int p2), .val (.int (4 : Int32)), .val (.int (0 : Int32))] [(.long (if (3 : Int32) = (3 : Int32) then (29791 : Int64) else (923521 : Int64))), (.long (x.toInt64))])
  rw [if_pos (show (3 : Int32) = (3 : Int32) from (by decide : (3 : Int32) = (3 : Int32)))]
  show OE _ p e below s _ _ _ T2 (mkF m 21 #[.val (.ref a1), .val (.int p2), .val (.int (4 : Int32)), .val (.int (0 : Int32))] [(.long (29791 : Int64)), (.long (x.toInt64))])
  refine OE.lmul X2 hx hby own_d1_21 ?_
  refine OE.retJ X2 hx Bd.returns Bd.notSynchronized (hb hby own_d1_22) (by decide) (by decide) ?_
  rw [eq2]
  exact ⟨rfl, N2, rfl⟩
def own_Q1_4_1 (Z : State) (a1 : Addr) (p2 : Int32) (x : Int32) (k_a1 : ClassId) (vs_a1 : List Value) (h0 : Heap) (n0 : Nat) (v : Option Value) (h : Heap) (L : List Loc) : Prop := v = some (.long ((x.toInt64) * (961 : Int64))) ∧ Fr n0 L ∧ h = h0
theorem own_ef_own_rm1_4_1 (m : MethodId) (a1 : Addr) (p2 : Int32) : entryFrame m #[(.ref a1), (.int p2), (.int (4 : Int32)), (.int (1 : Int32))] 4 = mkF m 0 #[.val (.ref a1), .val (.int p2), .val (.int (4 : Int32)), .val (.int (1 : Int32))] [] := by first | (simp [entryFrame, mkF, argsToLocals, Value.category]; done) | rfl
set_option maxRecDepth 65536 in
set_option maxHeartbeats 40000000 in
theorem own_rm1_4_1 (l : Launch) (Z : State) (a0 : Array Value) (hw : ∀ d ∈ tables_1, d.before a0 Z = true) (ws : List Jvm.Cond) (a1 : Addr) (p2 : Int32) (x : Int32) (k_a1 : ClassId) (vs_a1 : List Value) (h0 : Heap) (n0 : Nat) (Z0 : n0 ≤ h0.size) (V_a1 : Arv Z h0 a1 k_a1 .char (5 : Int32) vs_a1 (.int (0 : Int32))) (hin : ¬ (p2 + (1 : Int32)) < 0 ∧ (p2 + (1 : Int32)) < (5 : Int32)) (hat : vs_a1.getD (p2 + (1 : Int32)).toNatClampNeg (.int (0 : Int32)) = (.int x)) :
    MetFree l (⟨"com/example/archerfish/archerfish/index/TokenTableHashPinLaw", "term", "([CIII)J"⟩ : MethodName) (head1 (Jvm.Cond.code (⟨"com/example/archerfish/archerfish/index/TokenTableHashPinLaw", "term", "([CIII)J"⟩ : MethodName) method_3_code 4 (some .long) :: ws) ({ frames := 1, cells := 0, slots := 0, locals := 14 } : Room)) (fun a U => a = #[(.ref a1), (.int p2), (.int (4 : Int32)), (.int (1 : Int32))] ∧ Z.Warmed39 U.vm ∧ U.heap = h0) (fun _ _ _ _ _ => True) (fun _ U o U' => ∃ v L, o = .returned v ∧ own_Q1_4_1 Z a1 p2 x k_a1 vs_a1 h0 n0 v U'.heap L ∧ FrameEnd U o U' L ({ frames := 1, cells := 0, slots := 0, locals := 14 } : Room).cells ({ frames := 1, cells := 0, slots := 0, locals := 14 } : Room).slots) := by
  refine MetFree.of_bodySF (plainFor_of_name own_pn0) hisR ?_
  intro p e s m args below meth c s₁ Bd hml0 hP hK
  obtain ⟨rfl, hZ, hh⟩ := hP
  have hx := Bd.exec
  have hby := Bd.bytes
  have hml : c.maxLocals = 4 := hml0
  have hown : s.vm.findClass "com/example/archerfish/archerfish/index/TokenTableHashPinLaw" = some m.cls := findClass_of_methodNamed Bd.named
  have hnm := (name_of_methodNamed Bd.named Bd.method).1
  have X0 : Stand p l e ({ frames := 1, cells := 0, slots := 0, locals := 14 } : Room) s m #[(.ref a1), (.int p2), (.int (4 : Int32)), (.int (1 : Int32))] below meth c s₁ [] 0 0 := Stand.of_body Bd
  have e0 : s₁.heap = h0 := by rw [← hh, Bd.state]; rfl
  have N0 := Fr.nil n0
  show OE FrameEnd p e below s (own_Q1_4_1 Z a1 p2 x k_a1 vs_a1 h0 n0) ({ frames := 1, cells := 0, slots := 0, locals := 14 } : Room).cells ({ frames := 1, cells := 0, slots := 0, locals := 14 } : Room).slots s₁ (entryFrame m #[(.ref a1), (.int p2), (.int (4 : Int32)), (.int (1 : Int32))] 4)
  rw [own_ef_own_rm1_4_1]
  show OE _ p e below s _ _ _ s₁ (mkF m 0 #[.val (.ref a1), .val (.int p2), .val (.int (4 : Int32)), .val (.int (1 : Int32))] [])
  refine OE.iloadN X0 hx hby own_d1_0 rfl ?_
  refine OE.iloadN X0 hx hby own_d1_1 rfl ?_
  refine OE.icmpYes X0 hx hby (pc' := 7) own_d1_2 (tlt (by decide : (1 : Int32) < (4 : Int32))).1 (h := ?_)
  refine OE.aloadN X0 hx hby own_d1_7 rfl rfl ?_
  refine OE.iloadN X0 hx hby own_d1_8 rfl ?_
  refine OE.iloadN X0 hx hby own_d1_9 rfl ?_
  refine OE.iadd X0 hx hby own_d1_10 ?_
  have Vo1 := V_a1
  obtain ⟨cl1, Ar1, -, Sz1, Nz1, Hz1, Gz1⟩ := Vo1
  have hin1 : ¬ ((p2 + (1 : Int32)) < 0 ∨ cl1.slots.size ≤ ((p2 + (1 : Int32))).toNatClampNeg) := inb_of Sz1 hin
  have hat1 : cl1.slots[((p2 + (1 : Int32))).toNatClampNeg]? = some (.int x) := Has.at Hz1 hin1 hat
  refine OE.of (X0.caload hx (j := (p2 + (1 : Int32))) (v := (.int x)) (by rw [e0]; exact Ar1.1) (State.isArrayOf_alike hZ.alike Ar1.2.1) Ar1.2.2 hin1 hat1 (g := (mkF m 11 #[.val (.ref a1), .val (.int p2), .val (.int (4 : Int32)), .val (.int (1 : Int32))] [(.int (p2 + (1 : Int32))), (.ref a1)])) rfl rfl (hb hby own_d1_11)) ?_
  show OE _ p e below s _ _ _ s₁ (mkF m 12 #[.val (.ref a1), .val (.int p2), .val (.int (4 : Int32)), .val (.int (1 : Int32))] [(.int x)])
  refine OE.i2l X0 hx hby own_d1_12 ?_
  refine OE.iloadN X0 hx hby own_d1_13 rfl ?_
  refine OE.iconst X0 hx hby own_d1_14 (1 : Int32) rfl ?_
  refine OE.isub X0 hx hby own_d1_15 ?_
  rw [(by decide : ((4 : Int32) - (1 : Int32)) = (3 : Int32))]
  refine OE.iloadN X0 hx hby own_d1_16 rfl ?_
  refine OE.isub X0 hx hby own_d1_17 ?_
  rw [(by decide : ((3 : Int32) - (1 : Int32)) = (2 : Int32))]
  obtain ⟨_, _, ⟨T2, L2, k2, n2⟩, -, X2, ⟨Lc2, hQ2, l2, y2, z2⟩, st2⟩ := Jvm.LawKit.callS X0 hx (y := (⟨"com/example/archerfish/archerfish/index/TokenTableHashPinLaw", "pow31", "(I)J"⟩ : MethodName)) hown (mvT hZ (hw _ (List.mem_of_getElem? (i := 13) rfl))) (mvT hZ (hw _ (List.mem_of_getElem? (i := 14) rfl))) (mvT hZ (hw _ (List.mem_of_getElem? (i := 5) rfl))) (mvT hZ (hw _ (List.mem_of_getElem? (i := 15) rfl))) (by decide) (backOf (W := 2) (own_rm3 l Z a0 hw [] (2 : Int32) h0 n0 Z0 ) hZ (hw _ (List.mem_of_getElem? (i := 15) rfl)) (hw _ (List.mem_of_getElem? (i := 5) rfl)) (by decide) (by decide)) (g := (mkF m 18 #[.val (.ref a1), .val (.int p2), .val (.int (4 : Int32)), .val (.int (1 : Int32))] [(.int (2 : Int32)), (.long (x.toInt64))])) rfl (by rw [hml]; rfl) (argsL := [(.int (2 : Int32))]) (rest := [(.long (x.toInt64))]) (lenOf own_pd0 rfl) rfl (by show 2 * 0 + _ ≤ _; exact Nat.le_of_eq rfl) (hb hby own_d1_18) (fun _ _ => ⟨rfl, e0, (by decide : 0 + 0 ≤ _), (by decide : 0 + 0 ≤ _)⟩)
  dsimp only [Pt.U, Pt.locs, Pt.cells, Pt.slots] at X2 l2 y2 z2 st2 hQ2
  subst l2 y2 z2
  obtain ⟨rfl, Nq2, eq2⟩ := hQ2
  refine OE.of (fun _ k => st2 _ k) ?_
  have N2 := Fr.app N0 Nq2
  show OE _ p e below s _ _ _ T2 (mkF m 21 #[.val (.ref a1), .val (.int p2), .val (.int (4 : Int32)), .val (.int (1 : Int32))] [(.long (if (2 : Int32) = (0 : Int32) then (1 : Int64) else (if (2 : Int32) = (1 : Int32) then (31 : Int64) else (if (2 : Int32) = (2 : Int32) then (961 : Int64) else (if (2 : Int32) = (3 : Int32) then (29791 : Int64) else (923521 : Int64)))))), (.long (x.toInt64))])
  rw [if_neg (show ¬ ((2 : Int32) = (0 : Int32)) from (by decide : ¬ ((2 : Int32) = (0 : Int32))))]
  show OE _ p e below s _ _ _ T2 (mkF m 21 #[.val (.ref a1), .val (.int p2), .val (.int (4 : Int32)), .val (.int (1 : Int32))] [(.long (if (2 : Int32) = (1 : Int32) then (31 : Int64) else (if (2 : Int32) = (2 : Int32) then (961 : Int64) else (if (2 : Int32) = (3 : Int32) then (29791 : Int64) else (923521 : Int64))))), (.long (x.toInt64))])
  rw [if_neg (show ¬ ((2 : Int32) = (1 : Int32)) from (by decide : ¬ ((2 : Int32) = (1 : Int32))))]
  show OE _ p e below s _ _ _ T2 (mkF m 21 #[.val (.ref a1), .val (.int p2), .val (.int (4 : Int32)), .val (.int (1 : Int32))] [(.long (if (2 : Int32) = (2 : Int32) then (961 : Int64) else (if (2 : Int32) = (3 : Int32) then (29791 : Int64) else (923521 : Int64)))), (.long (x.toInt64))])
  rw [if_pos (show (2 : Int32) = (2 : Int32) from (by decide : (2 : Int32) = (2 : Int32)))]
  show OE _ p e below s _ _ _ T2 (mkF m 21 #[.val (.ref a1), .val (.int p2), .val (.int (4 : Int32)), .val (.int (1 : Int32))] [(.long (961 : Int64)), (.long (x.toInt64))])
  refine OE.lmul X2 hx hby own_d1_21 ?_
  refine OE.retJ X2 hx Bd.returns Bd.notSynchronized (hb hby own_d1_22) (by decide) (by decide) ?_
  rw [eq2]
  exact ⟨rfl, N2, rfl⟩
def own_Q1_4_2 (Z : State) (a1 : Addr) (p2 : Int32) (x : Int32) (k_a1 : ClassId) (vs_a1 : List Value) (h0 : Heap) (n0 : Nat) (v : Option Value) (h : Heap) (L : List Loc) : Prop := v = some (.long ((x.toInt64) * (31 : Int64))) ∧ Fr n0 L ∧ h = h0
theorem own_ef_own_rm1_4_2 (m : MethodId) (a1 : Addr) (p2 : Int32) : entryFrame m #[(.ref a1), (.int p2), (.int (4 : Int32)), (.int (2 : Int32))] 4 = mkF m 0 #[.val (.ref a1), .val (.int p2), .val (.int (4 : Int32)), .val (.int (2 : Int32))] [] := by first | (simp [entryFrame, mkF, argsToLocals, Value.category]; done) | rfl
set_option maxRecDepth 65536 in
set_option maxHeartbeats 40000000 in
theorem own_rm1_4_2 (l : Launch) (Z : State) (a0 : Array Value) (hw : ∀ d ∈ tables_1, d.before a0 Z = true) (ws : List Jvm.Cond) (a1 : Addr) (p2 : Int32) (x : Int32) (k_a1 : ClassId) (vs_a1 : List Value) (h0 : Heap) (n0 : Nat) (Z0 : n0 ≤ h0.size) (V_a1 : Arv Z h0 a1 k_a1 .char (5 : Int32) vs_a1 (.int (0 : Int32))) (hin : ¬ (p2 + (2 : Int32)) < 0 ∧ (p2 + (2 : Int32)) < (5 : Int32)) (hat : vs_a1.getD (p2 + (2 : Int32)).toNatClampNeg (.int (0 : Int32)) = (.int x)) :
    MetFree l (⟨"com/example/archerfish/archerfish/index/TokenTableHashPinLaw", "term", "([CIII)J"⟩ : MethodName) (head1 (Jvm.Cond.code (⟨"com/example/archerfish/archerfish/index/TokenTableHashPinLaw", "term", "([CIII)J"⟩ : MethodName) method_3_code 4 (some .long) :: ws) ({ frames := 1, cells := 0, slots := 0, locals := 14 } : Room)) (fun a U => a = #[(.ref a1), (.int p2), (.int (4 : Int32)), (.int (2 : Int32))] ∧ Z.Warmed39 U.vm ∧ U.heap = h0) (fun _ _ _ _ _ => True) (fun _ U o U' => ∃ v L, o = .returned v ∧ own_Q1_4_2 Z a1 p2 x k_a1 vs_a1 h0 n0 v U'.heap L ∧ FrameEnd U o U' L ({ frames := 1, cells := 0, slots := 0, locals := 14 } : Room).cells ({ frames := 1, cells := 0, slots := 0, locals := 14 } : Room).slots) := by
  refine MetFree.of_bodySF (plainFor_of_name own_pn0) hisR ?_
  intro p e s m args below meth c s₁ Bd hml0 hP hK
  obtain ⟨rfl, hZ, hh⟩ := hP
  have hx := Bd.exec
  have hby := Bd.bytes
  have hml : c.maxLocals = 4 := hml0
  have hown : s.vm.findClass "com/example/archerfish/archerfish/index/TokenTableHashPinLaw" = some m.cls := findClass_of_methodNamed Bd.named
  have hnm := (name_of_methodNamed Bd.named Bd.method).1
  have X0 : Stand p l e ({ frames := 1, cells := 0, slots := 0, locals := 14 } : Room) s m #[(.ref a1), (.int p2), (.int (4 : Int32)), (.int (2 : Int32))] below meth c s₁ [] 0 0 := Stand.of_body Bd
  have e0 : s₁.heap = h0 := by rw [← hh, Bd.state]; rfl
  have N0 := Fr.nil n0
  show OE FrameEnd p e below s (own_Q1_4_2 Z a1 p2 x k_a1 vs_a1 h0 n0) ({ frames := 1, cells := 0, slots := 0, locals := 14 } : Room).cells ({ frames := 1, cells := 0, slots := 0, locals := 14 } : Room).slots s₁ (entryFrame m #[(.ref a1), (.int p2), (.int (4 : Int32)), (.int (2 : Int32))] 4)
  rw [own_ef_own_rm1_4_2]
  show OE _ p e below s _ _ _ s₁ (mkF m 0 #[.val (.ref a1), .val (.int p2), .val (.int (4 : Int32)), .val (.int (2 : Int32))] [])
  refine OE.iloadN X0 hx hby own_d1_0 rfl ?_
  refine OE.iloadN X0 hx hby own_d1_1 rfl ?_
  refine OE.icmpYes X0 hx hby (pc' := 7) own_d1_2 (tlt (by decide : (2 : Int32) < (4 : Int32))).1 (h := ?_)
  refine OE.aloadN X0 hx hby own_d1_7 rfl rfl ?_
  refine OE.iloadN X0 hx hby own_d1_8 rfl ?_
  refine OE.iloadN X0 hx hby own_d1_9 rfl ?_
  refine OE.iadd X0 hx hby own_d1_10 ?_
  have Vo1 := V_a1
  obtain ⟨cl1, Ar1, -, Sz1, Nz1, Hz1, Gz1⟩ := Vo1
  have hin1 : ¬ ((p2 + (2 : Int32)) < 0 ∨ cl1.slots.size ≤ ((p2 + (2 : Int32))).toNatClampNeg) := inb_of Sz1 hin
  have hat1 : cl1.slots[((p2 + (2 : Int32))).toNatClampNeg]? = some (.int x) := Has.at Hz1 hin1 hat
  refine OE.of (X0.caload hx (j := (p2 + (2 : Int32))) (v := (.int x)) (by rw [e0]; exact Ar1.1) (State.isArrayOf_alike hZ.alike Ar1.2.1) Ar1.2.2 hin1 hat1 (g := (mkF m 11 #[.val (.ref a1), .val (.int p2), .val (.int (4 : Int32)), .val (.int (2 : Int32))] [(.int (p2 + (2 : Int32))), (.ref a1)])) rfl rfl (hb hby own_d1_11)) ?_
  show OE _ p e below s _ _ _ s₁ (mkF m 12 #[.val (.ref a1), .val (.int p2), .val (.int (4 : Int32)), .val (.int (2 : Int32))] [(.int x)])
  refine OE.i2l X0 hx hby own_d1_12 ?_
  refine OE.iloadN X0 hx hby own_d1_13 rfl ?_
  refine OE.iconst X0 hx hby own_d1_14 (1 : Int32) rfl ?_
  refine OE.isub X0 hx hby own_d1_15 ?_
  rw [(by decide : ((4 : Int32) - (1 : Int32)) = (3 : Int32))]
  refine OE.iloadN X0 hx hby own_d1_16 rfl ?_
  refine OE.isub X0 hx hby own_d1_17 ?_
  rw [(by decide : ((3 : Int32) - (2 : Int32)) = (1 : Int32))]
  obtain ⟨_, _, ⟨T2, L2, k2, n2⟩, -, X2, ⟨Lc2, hQ2, l2, y2, z2⟩, st2⟩ := Jvm.LawKit.callS X0 hx (y := (⟨"com/example/archerfish/archerfish/index/TokenTableHashPinLaw", "pow31", "(I)J"⟩ : MethodName)) hown (mvT hZ (hw _ (List.mem_of_getElem? (i := 13) rfl))) (mvT hZ (hw _ (List.mem_of_getElem? (i := 14) rfl))) (mvT hZ (hw _ (List.mem_of_getElem? (i := 5) rfl))) (mvT hZ (hw _ (List.mem_of_getElem? (i := 15) rfl))) (by decide) (backOf (W := 2) (own_rm3 l Z a0 hw [] (1 : Int32) h0 n0 Z0 ) hZ (hw _ (List.mem_of_getElem? (i := 15) rfl)) (hw _ (List.mem_of_getElem? (i := 5) rfl)) (by decide) (by decide)) (g := (mkF m 18 #[.val (.ref a1), .val (.int p2), .val (.int (4 : Int32)), .val (.int (2 : Int32))] [(.int (1 : Int32)), (.long (x.toInt64))])) rfl (by rw [hml]; rfl) (argsL := [(.int (1 : Int32))]) (rest := [(.long (x.toInt64))]) (lenOf own_pd0 rfl) rfl (by show 2 * 0 + _ ≤ _; exact Nat.le_of_eq rfl) (hb hby own_d1_18) (fun _ _ => ⟨rfl, e0, (by decide : 0 + 0 ≤ _), (by decide : 0 + 0 ≤ _)⟩)
  dsimp only [Pt.U, Pt.locs, Pt.cells, Pt.slots] at X2 l2 y2 z2 st2 hQ2
  subst l2 y2 z2
  obtain ⟨rfl, Nq2, eq2⟩ := hQ2
  refine OE.of (fun _ k => st2 _ k) ?_
  have N2 := Fr.app N0 Nq2
  show OE _ p e below s _ _ _ T2 (mkF m 21 #[.val (.ref a1), .val (.int p2), .val (.int (4 : Int32)), .val (.int (2 : Int32))] [(.long (if (1 : Int32) = (0 : Int32) then (1 : Int64) else (if (1 : Int32) = (1 : Int32) then (31 : Int64) else (if (1 : Int32) = (2 : Int32) then (961 : Int64) else (if (1 : Int32) = (3 : Int32) then (29791 : Int64) else (923521 : Int64)))))), (.long (x.toInt64))])
  rw [if_neg (show ¬ ((1 : Int32) = (0 : Int32)) from (by decide : ¬ ((1 : Int32) = (0 : Int32))))]
  show OE _ p e below s _ _ _ T2 (mkF m 21 #[.val (.ref a1), .val (.int p2), .val (.int (4 : Int32)), .val (.int (2 : Int32))] [(.long (if (1 : Int32) = (1 : Int32) then (31 : Int64) else (if (1 : Int32) = (2 : Int32) then (961 : Int64) else (if (1 : Int32) = (3 : Int32) then (29791 : Int64) else (923521 : Int64))))), (.long (x.toInt64))])
  rw [if_pos (show (1 : Int32) = (1 : Int32) from (by decide : (1 : Int32) = (1 : Int32)))]
  show OE _ p e below s _ _ _ T2 (mkF m 21 #[.val (.ref a1), .val (.int p2), .val (.int (4 : Int32)), .val (.int (2 : Int32))] [(.long (31 : Int64)), (.long (x.toInt64))])
  refine OE.lmul X2 hx hby own_d1_21 ?_
  refine OE.retJ X2 hx Bd.returns Bd.notSynchronized (hb hby own_d1_22) (by decide) (by decide) ?_
  rw [eq2]
  exact ⟨rfl, N2, rfl⟩
def own_Q1_4_3 (Z : State) (a1 : Addr) (p2 : Int32) (x : Int32) (k_a1 : ClassId) (vs_a1 : List Value) (h0 : Heap) (n0 : Nat) (v : Option Value) (h : Heap) (L : List Loc) : Prop := v = some (.long ((x.toInt64) * (1 : Int64))) ∧ Fr n0 L ∧ h = h0
theorem own_ef_own_rm1_4_3 (m : MethodId) (a1 : Addr) (p2 : Int32) : entryFrame m #[(.ref a1), (.int p2), (.int (4 : Int32)), (.int (3 : Int32))] 4 = mkF m 0 #[.val (.ref a1), .val (.int p2), .val (.int (4 : Int32)), .val (.int (3 : Int32))] [] := by first | (simp [entryFrame, mkF, argsToLocals, Value.category]; done) | rfl
set_option maxRecDepth 65536 in
set_option maxHeartbeats 40000000 in
theorem own_rm1_4_3 (l : Launch) (Z : State) (a0 : Array Value) (hw : ∀ d ∈ tables_1, d.before a0 Z = true) (ws : List Jvm.Cond) (a1 : Addr) (p2 : Int32) (x : Int32) (k_a1 : ClassId) (vs_a1 : List Value) (h0 : Heap) (n0 : Nat) (Z0 : n0 ≤ h0.size) (V_a1 : Arv Z h0 a1 k_a1 .char (5 : Int32) vs_a1 (.int (0 : Int32))) (hin : ¬ (p2 + (3 : Int32)) < 0 ∧ (p2 + (3 : Int32)) < (5 : Int32)) (hat : vs_a1.getD (p2 + (3 : Int32)).toNatClampNeg (.int (0 : Int32)) = (.int x)) :
    MetFree l (⟨"com/example/archerfish/archerfish/index/TokenTableHashPinLaw", "term", "([CIII)J"⟩ : MethodName) (head1 (Jvm.Cond.code (⟨"com/example/archerfish/archerfish/index/TokenTableHashPinLaw", "term", "([CIII)J"⟩ : MethodName) method_3_code 4 (some .long) :: ws) ({ frames := 1, cells := 0, slots := 0, locals := 14 } : Room)) (fun a U => a = #[(.ref a1), (.int p2), (.int (4 : Int32)), (.int (3 : Int32))] ∧ Z.Warmed39 U.vm ∧ U.heap = h0) (fun _ _ _ _ _ => True) (fun _ U o U' => ∃ v L, o = .returned v ∧ own_Q1_4_3 Z a1 p2 x k_a1 vs_a1 h0 n0 v U'.heap L ∧ FrameEnd U o U' L ({ frames := 1, cells := 0, slots := 0, locals := 14 } : Room).cells ({ frames := 1, cells := 0, slots := 0, locals := 14 } : Room).slots) := by
  refine MetFree.of_bodySF (plainFor_of_name own_pn0) hisR ?_
  intro p e s m args below meth c s₁ Bd hml0 hP hK
  obtain ⟨rfl, hZ, hh⟩ := hP
  have hx := Bd.exec
  have hby := Bd.bytes
  have hml : c.maxLocals = 4 := hml0
  have hown : s.vm.findClass "com/example/archerfish/archerfish/index/TokenTableHashPinLaw" = some m.cls := findClass_of_methodNamed Bd.named
  have hnm := (name_of_methodNamed Bd.named Bd.method).1
  have X0 : Stand p l e ({ frames := 1, cells := 0, slots := 0, locals := 14 } : Room) s m #[(.ref a1), (.int p2), (.int (4 : Int32)), (.int (3 : Int32))] below meth c s₁ [] 0 0 := Stand.of_body Bd
  have e0 : s₁.heap = h0 := by rw [← hh, Bd.state]; rfl
  have N0 := Fr.nil n0
  show OE FrameEnd p e below s (own_Q1_4_3 Z a1 p2 x k_a1 vs_a1 h0 n0) ({ frames := 1, cells := 0, slots := 0, locals := 14 } : Room).cells ({ frames := 1, cells := 0, slots := 0, locals := 14 } : Room).slots s₁ (entryFrame m #[(.ref a1), (.int p2), (.int (4 : Int32)), (.int (3 : Int32))] 4)
  rw [own_ef_own_rm1_4_3]
  show OE _ p e below s _ _ _ s₁ (mkF m 0 #[.val (.ref a1), .val (.int p2), .val (.int (4 : Int32)), .val (.int (3 : Int32))] [])
  refine OE.iloadN X0 hx hby own_d1_0 rfl ?_
  refine OE.iloadN X0 hx hby own_d1_1 rfl ?_
  refine OE.icmpYes X0 hx hby (pc' := 7) own_d1_2 (tlt (by decide : (3 : Int32) < (4 : Int32))).1 (h := ?_)
  refine OE.aloadN X0 hx hby own_d1_7 rfl rfl ?_
  refine OE.iloadN X0 hx hby own_d1_8 rfl ?_
  refine OE.iloadN X0 hx hby own_d1_9 rfl ?_
  refine OE.iadd X0 hx hby own_d1_10 ?_
  have Vo1 := V_a1
  obtain ⟨cl1, Ar1, -, Sz1, Nz1, Hz1, Gz1⟩ := Vo1
  have hin1 : ¬ ((p2 + (3 : Int32)) < 0 ∨ cl1.slots.size ≤ ((p2 + (3 : Int32))).toNatClampNeg) := inb_of Sz1 hin
  have hat1 : cl1.slots[((p2 + (3 : Int32))).toNatClampNeg]? = some (.int x) := Has.at Hz1 hin1 hat
  refine OE.of (X0.caload hx (j := (p2 + (3 : Int32))) (v := (.int x)) (by rw [e0]; exact Ar1.1) (State.isArrayOf_alike hZ.alike Ar1.2.1) Ar1.2.2 hin1 hat1 (g := (mkF m 11 #[.val (.ref a1), .val (.int p2), .val (.int (4 : Int32)), .val (.int (3 : Int32))] [(.int (p2 + (3 : Int32))), (.ref a1)])) rfl rfl (hb hby own_d1_11)) ?_
  show OE _ p e below s _ _ _ s₁ (mkF m 12 #[.val (.ref a1), .val (.int p2), .val (.int (4 : Int32)), .val (.int (3 : Int32))] [(.int x)])
  refine OE.i2l X0 hx hby own_d1_12 ?_
  refine OE.iloadN X0 hx hby own_d1_13 rfl ?_
  refine OE.iconst X0 hx hby own_d1_14 (1 : Int32) rfl ?_
  refine OE.isub X0 hx hby own_d1_15 ?_
  rw [(by decide : ((4 : Int32) - (1 : Int32)) = (3 : Int32))]
  refine OE.iloadN X0 hx hby own_d1_16 rfl ?_
  refine OE.isub X0 hx hby own_d1_17 ?_
  rw [(by decide : ((3 : Int32) - (3 : Int32)) = (0 : Int32))]
  obtain ⟨_, _, ⟨T2, L2, k2, n2⟩, -, X2, ⟨Lc2, hQ2, l2, y2, z2⟩, st2⟩ := Jvm.LawKit.callS X0 hx (y := (⟨"com/example/archerfish/archerfish/index/TokenTableHashPinLaw", "pow31", "(I)J"⟩ : MethodName)) hown (mvT hZ (hw _ (List.mem_of_getElem? (i := 13) rfl))) (mvT hZ (hw _ (List.mem_of_getElem? (i := 14) rfl))) (mvT hZ (hw _ (List.mem_of_getElem? (i := 5) rfl))) (mvT hZ (hw _ (List.mem_of_getElem? (i := 15) rfl))) (by decide) (backOf (W := 2) (own_rm3 l Z a0 hw [] (0 : Int32) h0 n0 Z0 ) hZ (hw _ (List.mem_of_getElem? (i := 15) rfl)) (hw _ (List.mem_of_getElem? (i := 5) rfl)) (by decide) (by decide)) (g := (mkF m 18 #[.val (.ref a1), .val (.int p2), .val (.int (4 : Int32)), .val (.int (3 : Int32))] [(.int (0 : Int32)), (.long (x.toInt64))])) rfl (by rw [hml]; rfl) (argsL := [(.int (0 : Int32))]) (rest := [(.long (x.toInt64))]) (lenOf own_pd0 rfl) rfl (by show 2 * 0 + _ ≤ _; exact Nat.le_of_eq rfl) (hb hby own_d1_18) (fun _ _ => ⟨rfl, e0, (by decide : 0 + 0 ≤ _), (by decide : 0 + 0 ≤ _)⟩)
  dsimp only [Pt.U, Pt.locs, Pt.cells, Pt.slots] at X2 l2 y2 z2 st2 hQ2
  subst l2 y2 z2
  obtain ⟨rfl, Nq2, eq2⟩ := hQ2
  refine OE.of (fun _ k => st2 _ k) ?_
  have N2 := Fr.app N0 Nq2
  show OE _ p e below s _ _ _ T2 (mkF m 21 #[.val (.ref a1), .val (.int p2), .val (.int (4 : Int32)), .val (.int (3 : Int32))] [(.long (if (0 : Int32) = (0 : Int32) then (1 : Int64) else (if (0 : Int32) = (1 : Int32) then (31 : Int64) else (if (0 : Int32) = (2 : Int32) then (961 : Int64) else (if (0 : Int32) = (3 : Int32) then (29791 : Int64) else (923521 : Int64)))))), (.long (x.toInt64))])
  rw [if_pos (show (0 : Int32) = (0 : Int32) from (by decide : (0 : Int32) = (0 : Int32)))]
  show OE _ p e below s _ _ _ T2 (mkF m 21 #[.val (.ref a1), .val (.int p2), .val (.int (4 : Int32)), .val (.int (3 : Int32))] [(.long (1 : Int64)), (.long (x.toInt64))])
  refine OE.lmul X2 hx hby own_d1_21 ?_
  refine OE.retJ X2 hx Bd.returns Bd.notSynchronized (hb hby own_d1_22) (by decide) (by decide) ?_
  rw [eq2]
  exact ⟨rfl, N2, rfl⟩
def own_Q1_5_0 (Z : State) (a1 : Addr) (p2 : Int32) (x : Int32) (k_a1 : ClassId) (vs_a1 : List Value) (h0 : Heap) (n0 : Nat) (v : Option Value) (h : Heap) (L : List Loc) : Prop := v = some (.long ((x.toInt64) * (923521 : Int64))) ∧ Fr n0 L ∧ h = h0
theorem own_ef_own_rm1_5_0 (m : MethodId) (a1 : Addr) (p2 : Int32) : entryFrame m #[(.ref a1), (.int p2), (.int (5 : Int32)), (.int (0 : Int32))] 4 = mkF m 0 #[.val (.ref a1), .val (.int p2), .val (.int (5 : Int32)), .val (.int (0 : Int32))] [] := by first | (simp [entryFrame, mkF, argsToLocals, Value.category]; done) | rfl
set_option maxRecDepth 65536 in
set_option maxHeartbeats 40000000 in
theorem own_rm1_5_0 (l : Launch) (Z : State) (a0 : Array Value) (hw : ∀ d ∈ tables_1, d.before a0 Z = true) (ws : List Jvm.Cond) (a1 : Addr) (p2 : Int32) (x : Int32) (k_a1 : ClassId) (vs_a1 : List Value) (h0 : Heap) (n0 : Nat) (Z0 : n0 ≤ h0.size) (V_a1 : Arv Z h0 a1 k_a1 .char (5 : Int32) vs_a1 (.int (0 : Int32))) (hin : ¬ (p2 + (0 : Int32)) < 0 ∧ (p2 + (0 : Int32)) < (5 : Int32)) (hat : vs_a1.getD (p2 + (0 : Int32)).toNatClampNeg (.int (0 : Int32)) = (.int x)) :
    MetFree l (⟨"com/example/archerfish/archerfish/index/TokenTableHashPinLaw", "term", "([CIII)J"⟩ : MethodName) (head1 (Jvm.Cond.code (⟨"com/example/archerfish/archerfish/index/TokenTableHashPinLaw", "term", "([CIII)J"⟩ : MethodName) method_3_code 4 (some .long) :: ws) ({ frames := 1, cells := 0, slots := 0, locals := 14 } : Room)) (fun a U => a = #[(.ref a1), (.int p2), (.int (5 : Int32)), (.int (0 : Int32))] ∧ Z.Warmed39 U.vm ∧ U.heap = h0) (fun _ _ _ _ _ => True) (fun _ U o U' => ∃ v L, o = .returned v ∧ own_Q1_5_0 Z a1 p2 x k_a1 vs_a1 h0 n0 v U'.heap L ∧ FrameEnd U o U' L ({ frames := 1, cells := 0, slots := 0, locals := 14 } : Room).cells ({ frames := 1, cells := 0, slots := 0, locals := 14 } : Room).slots) := by
  refine MetFree.of_bodySF (plainFor_of_name own_pn0) hisR ?_
  intro p e s m args below meth c s₁ Bd hml0 hP hK
  obtain ⟨rfl, hZ, hh⟩ := hP
  have hx := Bd.exec
  have hby := Bd.bytes
  have hml : c.maxLocals = 4 := hml0
  have hown : s.vm.findClass "com/example/archerfish/archerfish/index/TokenTableHashPinLaw" = some m.cls := findClass_of_methodNamed Bd.named
  have hnm := (name_of_methodNamed Bd.named Bd.method).1
  have X0 : Stand p l e ({ frames := 1, cells := 0, slots := 0, locals := 14 } : Room) s m #[(.ref a1), (.int p2), (.int (5 : Int32)), (.int (0 : Int32))] below meth c s₁ [] 0 0 := Stand.of_body Bd
  have e0 : s₁.heap = h0 := by rw [← hh, Bd.state]; rfl
  have N0 := Fr.nil n0
  show OE FrameEnd p e below s (own_Q1_5_0 Z a1 p2 x k_a1 vs_a1 h0 n0) ({ frames := 1, cells := 0, slots := 0, locals := 14 } : Room).cells ({ frames := 1, cells := 0, slots := 0, locals := 14 } : Room).slots s₁ (entryFrame m #[(.ref a1), (.int p2), (.int (5 : Int32)), (.int (0 : Int32))] 4)
  rw [own_ef_own_rm1_5_0]
  show OE _ p e below s _ _ _ s₁ (mkF m 0 #[.val (.ref a1), .val (.int p2), .val (.int (5 : Int32)), .val (.int (0 : Int32))] [])
  refine OE.iloadN X0 hx hby own_d1_0 rfl ?_
  refine OE.iloadN X0 hx hby own_d1_1 rfl ?_
  refine OE.icmpYes X0 hx hby (pc' := 7) own_d1_2 (tlt (by decide : (0 : Int32) < (5 : Int32))).1 (h := ?_)
  refine OE.aloadN X0 hx hby own_d1_7 rfl rfl ?_
  refine OE.iloadN X0 hx hby own_d1_8 rfl ?_
  refine OE.iloadN X0 hx hby own_d1_9 rfl ?_
  refine OE.iadd X0 hx hby own_d1_10 ?_
  have Vo1 := V_a1
  obtain ⟨cl1, Ar1, -, Sz1, Nz1, Hz1, Gz1⟩ := Vo1
  have hin1 : ¬ ((p2 + (0 : Int32)) < 0 ∨ cl1.slots.size ≤ ((p2 + (0 : Int32))).toNatClampNeg) := inb_of Sz1 hin
  have hat1 : cl1.slots[((p2 + (0 : Int32))).toNatClampNeg]? = some (.int x) := Has.at Hz1 hin1 hat
  refine OE.of (X0.caload hx (j := (p2 + (0 : Int32))) (v := (.int x)) (by rw [e0]; exact Ar1.1) (State.isArrayOf_alike hZ.alike Ar1.2.1) Ar1.2.2 hin1 hat1 (g := (mkF m 11 #[.val (.ref a1), .val (.int p2), .val (.int (5 : Int32)), .val (.int (0 : Int32))] [(.int (p2 + (0 : Int32))), (.ref a1)])) rfl rfl (hb hby own_d1_11)) ?_
  show OE _ p e below s _ _ _ s₁ (mkF m 12 #[.val (.ref a1), .val (.int p2), .val (.int (5 : Int32)), .val (.int (0 : Int32))] [(.int x)])
  refine OE.i2l X0 hx hby own_d1_12 ?_
  refine OE.iloadN X0 hx hby own_d1_13 rfl ?_
  refine OE.iconst X0 hx hby own_d1_14 (1 : Int32) rfl ?_
  refine OE.isub X0 hx hby own_d1_15 ?_
  rw [(by decide : ((5 : Int32) - (1 : Int32)) = (4 : Int32))]
  refine OE.iloadN X0 hx hby own_d1_16 rfl ?_
  refine OE.isub X0 hx hby own_d1_17 ?_
  rw [(by decide : ((4 : Int32) - (0 : Int32)) = (4 : Int32))]
  obtain ⟨_, _, ⟨T2, L2, k2, n2⟩, -, X2, ⟨Lc2, hQ2, l2, y2, z2⟩, st2⟩ := Jvm.LawKit.callS X0 hx (y := (⟨"com/example/archerfish/archerfish/index/TokenTableHashPinLaw", "pow31", "(I)J"⟩ : MethodName)) hown (mvT hZ (hw _ (List.mem_of_getElem? (i := 13) rfl))) (mvT hZ (hw _ (List.mem_of_getElem? (i := 14) rfl))) (mvT hZ (hw _ (List.mem_of_getElem? (i := 5) rfl))) (mvT hZ (hw _ (List.mem_of_getElem? (i := 15) rfl))) (by decide) (backOf (W := 2) (own_rm3 l Z a0 hw [] (4 : Int32) h0 n0 Z0 ) hZ (hw _ (List.mem_of_getElem? (i := 15) rfl)) (hw _ (List.mem_of_getElem? (i := 5) rfl)) (by decide) (by decide)) (g := (mkF m 18 #[.val (.ref a1), .val (.int p2), .val (.int (5 : Int32)), .val (.int (0 : Int32))] [(.int (4 : Int32)), (.long (x.toInt64))])) rfl (by rw [hml]; rfl) (argsL := [(.int (4 : Int32))]) (rest := [(.long (x.toInt64))]) (lenOf own_pd0 rfl) rfl (by show 2 * 0 + _ ≤ _; exact Nat.le_of_eq rfl) (hb hby own_d1_18) (fun _ _ => ⟨rfl, e0, (by decide : 0 + 0 ≤ _), (by decide : 0 + 0 ≤ _)⟩)
  dsimp only [Pt.U, Pt.locs, Pt.cells, Pt.slots] at X2 l2 y2 z2 st2 hQ2
  subst l2 y2 z2
  obtain ⟨rfl, Nq2, eq2⟩ := hQ2
  refine OE.of (fun _ k => st2 _ k) ?_
  have N2 := Fr.app N0 Nq2
  show OE _ p e below s _ _ _ T2 (mkF m 21 #[.val (.ref a1), .val (.int p2), .val (.int (5 : Int32)), .val (.int (0 : Int32))] [(.long (if (4 : Int32) = (0 : Int32) then (1 : Int64) else (if (4 : Int32) = (1 : Int32) then (31 : Int64) else (if (4 : Int32) = (2 : Int32) then (961 : Int64) else (if (4 : Int32) = (3 : Int32) then (29791 : Int64) else (923521 : Int64)))))), (.long (x.toInt64))])
  rw [if_neg (show ¬ ((4 : Int32) = (0 : Int32)) from (by decide : ¬ ((4 : Int32) = (0 : Int32))))]
  show OE _ p e below s _ _ _ T2 (mkF m 21 #[.val (.ref a1), .val (.int p2), .val (.int (5 : Int32)), .val (.int (0 : Int32))] [(.long (if (4 : Int32) = (1 : Int32) then (31 : Int64) else (if (4 : Int32) = (2 : Int32) then (961 : Int64) else (if (4 : Int32) = (3 : Int32) then (29791 : Int64) else (923521 : Int64))))), (.long (x.toInt64))])
  rw [if_neg (show ¬ ((4 : Int32) = (1 : Int32)) from (by decide : ¬ ((4 : Int32) = (1 : Int32))))]
  show OE _ p e below s _ _ _ T2 (mkF m 21 #[.val (.ref a1), .val (.int p2), .val (.int (5 : Int32)), .val (.int (0 : Int32))] [(.long (if (4 : Int32) = (2 : Int32) then (961 : Int64) else (if (4 : Int32) = (3 : Int32) then (29791 : Int64) else (923521 : Int64)))), (.long (x.toInt64))])
  rw [if_neg (show ¬ ((4 : Int32) = (2 : Int32)) from (by decide : ¬ ((4 : Int32) = (2 : Int32))))]
  show OE _ p e below s _ _ _ T2 (mkF m 21 #[.val (.ref a1), .val (.int p2), .val (.int (5 : Int32)), .val (.int (0 : Int32))] [(.long (if (4 : Int32) = (3 : Int32) then (29791 : Int64) else (923521 : Int64))), (.long (x.toInt64))])
  rw [if_neg (show ¬ ((4 : Int32) = (3 : Int32)) from (by decide : ¬ ((4 : Int32) = (3 : Int32))))]
  show OE _ p e below s _ _ _ T2 (mkF m 21 #[.val (.ref a1), .val (.int p2), .val (.int (5 : Int32)), .val (.int (0 : Int32))] [(.long (923521 : Int64)), (.long (x.toInt64))])
  refine OE.lmul X2 hx hby own_d1_21 ?_
  refine OE.retJ X2 hx Bd.returns Bd.notSynchronized (hb hby own_d1_22) (by decide) (by decide) ?_
  rw [eq2]
  exact ⟨rfl, N2, rfl⟩
def own_Q1_5_1 (Z : State) (a1 : Addr) (p2 : Int32) (x : Int32) (k_a1 : ClassId) (vs_a1 : List Value) (h0 : Heap) (n0 : Nat) (v : Option Value) (h : Heap) (L : List Loc) : Prop := v = some (.long ((x.toInt64) * (29791 : Int64))) ∧ Fr n0 L ∧ h = h0
theorem own_ef_own_rm1_5_1 (m : MethodId) (a1 : Addr) (p2 : Int32) : entryFrame m #[(.ref a1), (.int p2), (.int (5 : Int32)), (.int (1 : Int32))] 4 = mkF m 0 #[.val (.ref a1), .val (.int p2), .val (.int (5 : Int32)), .val (.int (1 : Int32))] [] := by first | (simp [entryFrame, mkF, argsToLocals, Value.category]; done) | rfl
set_option maxRecDepth 65536 in
set_option maxHeartbeats 40000000 in
theorem own_rm1_5_1 (l : Launch) (Z : State) (a0 : Array Value) (hw : ∀ d ∈ tables_1, d.before a0 Z = true) (ws : List Jvm.Cond) (a1 : Addr) (p2 : Int32) (x : Int32) (k_a1 : ClassId) (vs_a1 : List Value) (h0 : Heap) (n0 : Nat) (Z0 : n0 ≤ h0.size) (V_a1 : Arv Z h0 a1 k_a1 .char (5 : Int32) vs_a1 (.int (0 : Int32))) (hin : ¬ (p2 + (1 : Int32)) < 0 ∧ (p2 + (1 : Int32)) < (5 : Int32)) (hat : vs_a1.getD (p2 + (1 : Int32)).toNatClampNeg (.int (0 : Int32)) = (.int x)) :
    MetFree l (⟨"com/example/archerfish/archerfish/index/TokenTableHashPinLaw", "term", "([CIII)J"⟩ : MethodName) (head1 (Jvm.Cond.code (⟨"com/example/archerfish/archerfish/index/TokenTableHashPinLaw", "term", "([CIII)J"⟩ : MethodName) method_3_code 4 (some .long) :: ws) ({ frames := 1, cells := 0, slots := 0, locals := 14 } : Room)) (fun a U => a = #[(.ref a1), (.int p2), (.int (5 : Int32)), (.int (1 : Int32))] ∧ Z.Warmed39 U.vm ∧ U.heap = h0) (fun _ _ _ _ _ => True) (fun _ U o U' => ∃ v L, o = .returned v ∧ own_Q1_5_1 Z a1 p2 x k_a1 vs_a1 h0 n0 v U'.heap L ∧ FrameEnd U o U' L ({ frames := 1, cells := 0, slots := 0, locals := 14 } : Room).cells ({ frames := 1, cells := 0, slots := 0, locals := 14 } : Room).slots) := by
  refine MetFree.of_bodySF (plainFor_of_name own_pn0) hisR ?_
  intro p e s m args below meth c s₁ Bd hml0 hP hK
  obtain ⟨rfl, hZ, hh⟩ := hP
  have hx := Bd.exec
  have hby := Bd.bytes
  have hml : c.maxLocals = 4 := hml0
  have hown : s.vm.findClass "com/example/archerfish/archerfish/index/TokenTableHashPinLaw" = some m.cls := findClass_of_methodNamed Bd.named
  have hnm := (name_of_methodNamed Bd.named Bd.method).1
  have X0 : Stand p l e ({ frames := 1, cells := 0, slots := 0, locals := 14 } : Room) s m #[(.ref a1), (.int p2), (.int (5 : Int32)), (.int (1 : Int32))] below meth c s₁ [] 0 0 := Stand.of_body Bd
  have e0 : s₁.heap = h0 := by rw [← hh, Bd.state]; rfl
  have N0 := Fr.nil n0
  show OE FrameEnd p e below s (own_Q1_5_1 Z a1 p2 x k_a1 vs_a1 h0 n0) ({ frames := 1, cells := 0, slots := 0, locals := 14 } : Room).cells ({ frames := 1, cells := 0, slots := 0, locals := 14 } : Room).slots s₁ (entryFrame m #[(.ref a1), (.int p2), (.int (5 : Int32)), (.int (1 : Int32))] 4)
  rw [own_ef_own_rm1_5_1]
  show OE _ p e below s _ _ _ s₁ (mkF m 0 #[.val (.ref a1), .val (.int p2), .val (.int (5 : Int32)), .val (.int (1 : Int32))] [])
  refine OE.iloadN X0 hx hby own_d1_0 rfl ?_
  refine OE.iloadN X0 hx hby own_d1_1 rfl ?_
  refine OE.icmpYes X0 hx hby (pc' := 7) own_d1_2 (tlt (by decide : (1 : Int32) < (5 : Int32))).1 (h := ?_)
  refine OE.aloadN X0 hx hby own_d1_7 rfl rfl ?_
  refine OE.iloadN X0 hx hby own_d1_8 rfl ?_
  refine OE.iloadN X0 hx hby own_d1_9 rfl ?_
  refine OE.iadd X0 hx hby own_d1_10 ?_
  have Vo1 := V_a1
  obtain ⟨cl1, Ar1, -, Sz1, Nz1, Hz1, Gz1⟩ := Vo1
  have hin1 : ¬ ((p2 + (1 : Int32)) < 0 ∨ cl1.slots.size ≤ ((p2 + (1 : Int32))).toNatClampNeg) := inb_of Sz1 hin
  have hat1 : cl1.slots[((p2 + (1 : Int32))).toNatClampNeg]? = some (.int x) := Has.at Hz1 hin1 hat
  refine OE.of (X0.caload hx (j := (p2 + (1 : Int32))) (v := (.int x)) (by rw [e0]; exact Ar1.1) (State.isArrayOf_alike hZ.alike Ar1.2.1) Ar1.2.2 hin1 hat1 (g := (mkF m 11 #[.val (.ref a1), .val (.int p2), .val (.int (5 : Int32)), .val (.int (1 : Int32))] [(.int (p2 + (1 : Int32))), (.ref a1)])) rfl rfl (hb hby own_d1_11)) ?_
  show OE _ p e below s _ _ _ s₁ (mkF m 12 #[.val (.ref a1), .val (.int p2), .val (.int (5 : Int32)), .val (.int (1 : Int32))] [(.int x)])
  refine OE.i2l X0 hx hby own_d1_12 ?_
  refine OE.iloadN X0 hx hby own_d1_13 rfl ?_
  refine OE.iconst X0 hx hby own_d1_14 (1 : Int32) rfl ?_
  refine OE.isub X0 hx hby own_d1_15 ?_
  rw [(by decide : ((5 : Int32) - (1 : Int32)) = (4 : Int32))]
  refine OE.iloadN X0 hx hby own_d1_16 rfl ?_
  refine OE.isub X0 hx hby own_d1_17 ?_
  rw [(by decide : ((4 : Int32) - (1 : Int32)) = (3 : Int32))]
  obtain ⟨_, _, ⟨T2, L2, k2, n2⟩, -, X2, ⟨Lc2, hQ2, l2, y2, z2⟩, st2⟩ := Jvm.LawKit.callS X0 hx (y := (⟨"com/example/archerfish/archerfish/index/TokenTableHashPinLaw", "pow31", "(I)J"⟩ : MethodName)) hown (mvT hZ (hw _ (List.mem_of_getElem? (i := 13) rfl))) (mvT hZ (hw _ (List.mem_of_getElem? (i := 14) rfl))) (mvT hZ (hw _ (List.mem_of_getElem? (i := 5) rfl))) (mvT hZ (hw _ (List.mem_of_getElem? (i := 15) rfl))) (by decide) (backOf (W := 2) (own_rm3 l Z a0 hw [] (3 : Int32) h0 n0 Z0 ) hZ (hw _ (List.mem_of_getElem? (i := 15) rfl)) (hw _ (List.mem_of_getElem? (i := 5) rfl)) (by decide) (by decide)) (g := (mkF m 18 #[.val (.ref a1), .val (.int p2), .val (.int (5 : Int32)), .val (.int (1 : Int32))] [(.int (3 : Int32)), (.long (x.toInt64))])) rfl (by rw [hml]; rfl) (argsL := [(.int (3 : Int32))]) (rest := [(.long (x.toInt64))]) (lenOf own_pd0 rfl) rfl (by show 2 * 0 + _ ≤ _; exact Nat.le_of_eq rfl) (hb hby own_d1_18) (fun _ _ => ⟨rfl, e0, (by decide : 0 + 0 ≤ _), (by decide : 0 + 0 ≤ _)⟩)
  dsimp only [Pt.U, Pt.locs, Pt.cells, Pt.slots] at X2 l2 y2 z2 st2 hQ2
  subst l2 y2 z2
  obtain ⟨rfl, Nq2, eq2⟩ := hQ2
  refine OE.of (fun _ k => st2 _ k) ?_
  have N2 := Fr.app N0 Nq2
  show OE _ p e below s _ _ _ T2 (mkF m 21 #[.val (.ref a1), .val (.int p2), .val (.int (5 : Int32)), .val (.int (1 : Int32))] [(.long (if (3 : Int32) = (0 : Int32) then (1 : Int64) else (if (3 : Int32) = (1 : Int32) then (31 : Int64) else (if (3 : Int32) = (2 : Int32) then (961 : Int64) else (if (3 : Int32) = (3 : Int32) then (29791 : Int64) else (923521 : Int64)))))), (.long (x.toInt64))])
  rw [if_neg (show ¬ ((3 : Int32) = (0 : Int32)) from (by decide : ¬ ((3 : Int32) = (0 : Int32))))]
  show OE _ p e below s _ _ _ T2 (mkF m 21 #[.val (.ref a1), .val (.int p2), .val (.int (5 : Int32)), .val (.int (1 : Int32))] [(.long (if (3 : Int32) = (1 : Int32) then (31 : Int64) else (if (3 : Int32) = (2 : Int32) then (961 : Int64) else (if (3 : Int32) = (3 : Int32) then (29791 : Int64) else (923521 : Int64))))), (.long (x.toInt64))])
  rw [if_neg (show ¬ ((3 : Int32) = (1 : Int32)) from (by decide : ¬ ((3 : Int32) = (1 : Int32))))]
  show OE _ p e below s _ _ _ T2 (mkF m 21 #[.val (.ref a1), .val (.int p2), .val (.int (5 : Int32)), .val (.int (1 : Int32))] [(.long (if (3 : Int32) = (2 : Int32) then (961 : Int64) else (if (3 : Int32) = (3 : Int32) then (29791 : Int64) else (923521 : Int64)))), (.long (x.toInt64))])
  rw [if_neg (show ¬ ((3 : Int32) = (2 : Int32)) from (by decide : ¬ ((3 : Int32) = (2 : Int32))))]
  show OE _ p e below s _ _ _ T2 (mkF m 21 #[.val (.ref a1), .val (.int p2), .val (.int (5 : Int32)), .val (.int (1 : Int32))] [(.long (if (3 : Int32) = (3 : Int32) then (29791 : Int64) else (923521 : Int64))), (.long (x.toInt64))])
  rw [if_pos (show (3 : Int32) = (3 : Int32) from (by decide : (3 : Int32) = (3 : Int32)))]
  show OE _ p e below s _ _ _ T2 (mkF m 21 #[.val (.ref a1), .val (.int p2), .val (.int (5 : Int32)), .val (.int (1 : Int32))] [(.long (29791 : Int64)), (.long (x.toInt64))])
  refine OE.lmul X2 hx hby own_d1_21 ?_
  refine OE.retJ X2 hx Bd.returns Bd.notSynchronized (hb hby own_d1_22) (by decide) (by decide) ?_
  rw [eq2]
  exact ⟨rfl, N2, rfl⟩
def own_Q1_5_2 (Z : State) (a1 : Addr) (p2 : Int32) (x : Int32) (k_a1 : ClassId) (vs_a1 : List Value) (h0 : Heap) (n0 : Nat) (v : Option Value) (h : Heap) (L : List Loc) : Prop := v = some (.long ((x.toInt64) * (961 : Int64))) ∧ Fr n0 L ∧ h = h0
theorem own_ef_own_rm1_5_2 (m : MethodId) (a1 : Addr) (p2 : Int32) : entryFrame m #[(.ref a1), (.int p2), (.int (5 : Int32)), (.int (2 : Int32))] 4 = mkF m 0 #[.val (.ref a1), .val (.int p2), .val (.int (5 : Int32)), .val (.int (2 : Int32))] [] := by first | (simp [entryFrame, mkF, argsToLocals, Value.category]; done) | rfl
set_option maxRecDepth 65536 in
set_option maxHeartbeats 40000000 in
theorem own_rm1_5_2 (l : Launch) (Z : State) (a0 : Array Value) (hw : ∀ d ∈ tables_1, d.before a0 Z = true) (ws : List Jvm.Cond) (a1 : Addr) (p2 : Int32) (x : Int32) (k_a1 : ClassId) (vs_a1 : List Value) (h0 : Heap) (n0 : Nat) (Z0 : n0 ≤ h0.size) (V_a1 : Arv Z h0 a1 k_a1 .char (5 : Int32) vs_a1 (.int (0 : Int32))) (hin : ¬ (p2 + (2 : Int32)) < 0 ∧ (p2 + (2 : Int32)) < (5 : Int32)) (hat : vs_a1.getD (p2 + (2 : Int32)).toNatClampNeg (.int (0 : Int32)) = (.int x)) :
    MetFree l (⟨"com/example/archerfish/archerfish/index/TokenTableHashPinLaw", "term", "([CIII)J"⟩ : MethodName) (head1 (Jvm.Cond.code (⟨"com/example/archerfish/archerfish/index/TokenTableHashPinLaw", "term", "([CIII)J"⟩ : MethodName) method_3_code 4 (some .long) :: ws) ({ frames := 1, cells := 0, slots := 0, locals := 14 } : Room)) (fun a U => a = #[(.ref a1), (.int p2), (.int (5 : Int32)), (.int (2 : Int32))] ∧ Z.Warmed39 U.vm ∧ U.heap = h0) (fun _ _ _ _ _ => True) (fun _ U o U' => ∃ v L, o = .returned v ∧ own_Q1_5_2 Z a1 p2 x k_a1 vs_a1 h0 n0 v U'.heap L ∧ FrameEnd U o U' L ({ frames := 1, cells := 0, slots := 0, locals := 14 } : Room).cells ({ frames := 1, cells := 0, slots := 0, locals := 14 } : Room).slots) := by
  refine MetFree.of_bodySF (plainFor_of_name own_pn0) hisR ?_
  intro p e s m args below meth c s₁ Bd hml0 hP hK
  obtain ⟨rfl, hZ, hh⟩ := hP
  have hx := Bd.exec
  have hby := Bd.bytes
  have hml : c.maxLocals = 4 := hml0
  have hown : s.vm.findClass "com/example/archerfish/archerfish/index/TokenTableHashPinLaw" = some m.cls := findClass_of_methodNamed Bd.named
  have hnm := (name_of_methodNamed Bd.named Bd.method).1
  have X0 : Stand p l e ({ frames := 1, cells := 0, slots := 0, locals := 14 } : Room) s m #[(.ref a1), (.int p2), (.int (5 : Int32)), (.int (2 : Int32))] below meth c s₁ [] 0 0 := Stand.of_body Bd
  have e0 : s₁.heap = h0 := by rw [← hh, Bd.state]; rfl
  have N0 := Fr.nil n0
  show OE FrameEnd p e below s (own_Q1_5_2 Z a1 p2 x k_a1 vs_a1 h0 n0) ({ frames := 1, cells := 0, slots := 0, locals := 14 } : Room).cells ({ frames := 1, cells := 0, slots := 0, locals := 14 } : Room).slots s₁ (entryFrame m #[(.ref a1), (.int p2), (.int (5 : Int32)), (.int (2 : Int32))] 4)
  rw [own_ef_own_rm1_5_2]
  show OE _ p e below s _ _ _ s₁ (mkF m 0 #[.val (.ref a1), .val (.int p2), .val (.int (5 : Int32)), .val (.int (2 : Int32))] [])
  refine OE.iloadN X0 hx hby own_d1_0 rfl ?_
  refine OE.iloadN X0 hx hby own_d1_1 rfl ?_
  refine OE.icmpYes X0 hx hby (pc' := 7) own_d1_2 (tlt (by decide : (2 : Int32) < (5 : Int32))).1 (h := ?_)
  refine OE.aloadN X0 hx hby own_d1_7 rfl rfl ?_
  refine OE.iloadN X0 hx hby own_d1_8 rfl ?_
  refine OE.iloadN X0 hx hby own_d1_9 rfl ?_
  refine OE.iadd X0 hx hby own_d1_10 ?_
  have Vo1 := V_a1
  obtain ⟨cl1, Ar1, -, Sz1, Nz1, Hz1, Gz1⟩ := Vo1
  have hin1 : ¬ ((p2 + (2 : Int32)) < 0 ∨ cl1.slots.size ≤ ((p2 + (2 : Int32))).toNatClampNeg) := inb_of Sz1 hin
  have hat1 : cl1.slots[((p2 + (2 : Int32))).toNatClampNeg]? = some (.int x) := Has.at Hz1 hin1 hat
  refine OE.of (X0.caload hx (j := (p2 + (2 : Int32))) (v := (.int x)) (by rw [e0]; exact Ar1.1) (State.isArrayOf_alike hZ.alike Ar1.2.1) Ar1.2.2 hin1 hat1 (g := (mkF m 11 #[.val (.ref a1), .val (.int p2), .val (.int (5 : Int32)), .val (.int (2 : Int32))] [(.int (p2 + (2 : Int32))), (.ref a1)])) rfl rfl (hb hby own_d1_11)) ?_
  show OE _ p e below s _ _ _ s₁ (mkF m 12 #[.val (.ref a1), .val (.int p2), .val (.int (5 : Int32)), .val (.int (2 : Int32))] [(.int x)])
  refine OE.i2l X0 hx hby own_d1_12 ?_
  refine OE.iloadN X0 hx hby own_d1_13 rfl ?_
  refine OE.iconst X0 hx hby own_d1_14 (1 : Int32) rfl ?_
  refine OE.isub X0 hx hby own_d1_15 ?_
  rw [(by decide : ((5 : Int32) - (1 : Int32)) = (4 : Int32))]
  refine OE.iloadN X0 hx hby own_d1_16 rfl ?_
  refine OE.isub X0 hx hby own_d1_17 ?_
  rw [(by decide : ((4 : Int32) - (2 : Int32)) = (2 : Int32))]
  obtain ⟨_, _, ⟨T2, L2, k2, n2⟩, -, X2, ⟨Lc2, hQ2, l2, y2, z2⟩, st2⟩ := Jvm.LawKit.callS X0 hx (y := (⟨"com/example/archerfish/archerfish/index/TokenTableHashPinLaw", "pow31", "(I)J"⟩ : MethodName)) hown (mvT hZ (hw _ (List.mem_of_getElem? (i := 13) rfl))) (mvT hZ (hw _ (List.mem_of_getElem? (i := 14) rfl))) (mvT hZ (hw _ (List.mem_of_getElem? (i := 5) rfl))) (mvT hZ (hw _ (List.mem_of_getElem? (i := 15) rfl))) (by decide) (backOf (W := 2) (own_rm3 l Z a0 hw [] (2 : Int32) h0 n0 Z0 ) hZ (hw _ (List.mem_of_getElem? (i := 15) rfl)) (hw _ (List.mem_of_getElem? (i := 5) rfl)) (by decide) (by decide)) (g := (mkF m 18 #[.val (.ref a1), .val (.int p2), .val (.int (5 : Int32)), .val (.int (2 : Int32))] [(.int (2 : Int32)), (.long (x.toInt64))])) rfl (by rw [hml]; rfl) (argsL := [(.int (2 : Int32))]) (rest := [(.long (x.toInt64))]) (lenOf own_pd0 rfl) rfl (by show 2 * 0 + _ ≤ _; exact Nat.le_of_eq rfl) (hb hby own_d1_18) (fun _ _ => ⟨rfl, e0, (by decide : 0 + 0 ≤ _), (by decide : 0 + 0 ≤ _)⟩)
  dsimp only [Pt.U, Pt.locs, Pt.cells, Pt.slots] at X2 l2 y2 z2 st2 hQ2
  subst l2 y2 z2
  obtain ⟨rfl, Nq2, eq2⟩ := hQ2
  refine OE.of (fun _ k => st2 _ k) ?_
  have N2 := Fr.app N0 Nq2
  show OE _ p e below s _ _ _ T2 (mkF m 21 #[.val (.ref a1), .val (.int p2), .val (.int (5 : Int32)), .val (.int (2 : Int32))] [(.long (if (2 : Int32) = (0 : Int32) then (1 : Int64) else (if (2 : Int32) = (1 : Int32) then (31 : Int64) else (if (2 : Int32) = (2 : Int32) then (961 : Int64) else (if (2 : Int32) = (3 : Int32) then (29791 : Int64) else (923521 : Int64)))))), (.long (x.toInt64))])
  rw [if_neg (show ¬ ((2 : Int32) = (0 : Int32)) from (by decide : ¬ ((2 : Int32) = (0 : Int32))))]
  show OE _ p e below s _ _ _ T2 (mkF m 21 #[.val (.ref a1), .val (.int p2), .val (.int (5 : Int32)), .val (.int (2 : Int32))] [(.long (if (2 : Int32) = (1 : Int32) then (31 : Int64) else (if (2 : Int32) = (2 : Int32) then (961 : Int64) else (if (2 : Int32) = (3 : Int32) then (29791 : Int64) else (923521 : Int64))))), (.long (x.toInt64))])
  rw [if_neg (show ¬ ((2 : Int32) = (1 : Int32)) from (by decide : ¬ ((2 : Int32) = (1 : Int32))))]
  show OE _ p e below s _ _ _ T2 (mkF m 21 #[.val (.ref a1), .val (.int p2), .val (.int (5 : Int32)), .val (.int (2 : Int32))] [(.long (if (2 : Int32) = (2 : Int32) then (961 : Int64) else (if (2 : Int32) = (3 : Int32) then (29791 : Int64) else (923521 : Int64)))), (.long (x.toInt64))])
  rw [if_pos (show (2 : Int32) = (2 : Int32) from (by decide : (2 : Int32) = (2 : Int32)))]
  show OE _ p e below s _ _ _ T2 (mkF m 21 #[.val (.ref a1), .val (.int p2), .val (.int (5 : Int32)), .val (.int (2 : Int32))] [(.long (961 : Int64)), (.long (x.toInt64))])
  refine OE.lmul X2 hx hby own_d1_21 ?_
  refine OE.retJ X2 hx Bd.returns Bd.notSynchronized (hb hby own_d1_22) (by decide) (by decide) ?_
  rw [eq2]
  exact ⟨rfl, N2, rfl⟩
def own_Q1_5_3 (Z : State) (a1 : Addr) (p2 : Int32) (x : Int32) (k_a1 : ClassId) (vs_a1 : List Value) (h0 : Heap) (n0 : Nat) (v : Option Value) (h : Heap) (L : List Loc) : Prop := v = some (.long ((x.toInt64) * (31 : Int64))) ∧ Fr n0 L ∧ h = h0
theorem own_ef_own_rm1_5_3 (m : MethodId) (a1 : Addr) (p2 : Int32) : entryFrame m #[(.ref a1), (.int p2), (.int (5 : Int32)), (.int (3 : Int32))] 4 = mkF m 0 #[.val (.ref a1), .val (.int p2), .val (.int (5 : Int32)), .val (.int (3 : Int32))] [] := by first | (simp [entryFrame, mkF, argsToLocals, Value.category]; done) | rfl
set_option maxRecDepth 65536 in
set_option maxHeartbeats 40000000 in
theorem own_rm1_5_3 (l : Launch) (Z : State) (a0 : Array Value) (hw : ∀ d ∈ tables_1, d.before a0 Z = true) (ws : List Jvm.Cond) (a1 : Addr) (p2 : Int32) (x : Int32) (k_a1 : ClassId) (vs_a1 : List Value) (h0 : Heap) (n0 : Nat) (Z0 : n0 ≤ h0.size) (V_a1 : Arv Z h0 a1 k_a1 .char (5 : Int32) vs_a1 (.int (0 : Int32))) (hin : ¬ (p2 + (3 : Int32)) < 0 ∧ (p2 + (3 : Int32)) < (5 : Int32)) (hat : vs_a1.getD (p2 + (3 : Int32)).toNatClampNeg (.int (0 : Int32)) = (.int x)) :
    MetFree l (⟨"com/example/archerfish/archerfish/index/TokenTableHashPinLaw", "term", "([CIII)J"⟩ : MethodName) (head1 (Jvm.Cond.code (⟨"com/example/archerfish/archerfish/index/TokenTableHashPinLaw", "term", "([CIII)J"⟩ : MethodName) method_3_code 4 (some .long) :: ws) ({ frames := 1, cells := 0, slots := 0, locals := 14 } : Room)) (fun a U => a = #[(.ref a1), (.int p2), (.int (5 : Int32)), (.int (3 : Int32))] ∧ Z.Warmed39 U.vm ∧ U.heap = h0) (fun _ _ _ _ _ => True) (fun _ U o U' => ∃ v L, o = .returned v ∧ own_Q1_5_3 Z a1 p2 x k_a1 vs_a1 h0 n0 v U'.heap L ∧ FrameEnd U o U' L ({ frames := 1, cells := 0, slots := 0, locals := 14 } : Room).cells ({ frames := 1, cells := 0, slots := 0, locals := 14 } : Room).slots) := by
  refine MetFree.of_bodySF (plainFor_of_name own_pn0) hisR ?_
  intro p e s m args below meth c s₁ Bd hml0 hP hK
  obtain ⟨rfl, hZ, hh⟩ := hP
  have hx := Bd.exec
  have hby := Bd.bytes
  have hml : c.maxLocals = 4 := hml0
  have hown : s.vm.findClass "com/example/archerfish/archerfish/index/TokenTableHashPinLaw" = some m.cls := findClass_of_methodNamed Bd.named
  have hnm := (name_of_methodNamed Bd.named Bd.method).1
  have X0 : Stand p l e ({ frames := 1, cells := 0, slots := 0, locals := 14 } : Room) s m #[(.ref a1), (.int p2), (.int (5 : Int32)), (.int (3 : Int32))] below meth c s₁ [] 0 0 := Stand.of_body Bd
  have e0 : s₁.heap = h0 := by rw [← hh, Bd.state]; rfl
  have N0 := Fr.nil n0
  show OE FrameEnd p e below s (own_Q1_5_3 Z a1 p2 x k_a1 vs_a1 h0 n0) ({ frames := 1, cells := 0, slots := 0, locals := 14 } : Room).cells ({ frames := 1, cells := 0, slots := 0, locals := 14 } : Room).slots s₁ (entryFrame m #[(.ref a1), (.int p2), (.int (5 : Int32)), (.int (3 : Int32))] 4)
  rw [own_ef_own_rm1_5_3]
  show OE _ p e below s _ _ _ s₁ (mkF m 0 #[.val (.ref a1), .val (.int p2), .val (.int (5 : Int32)), .val (.int (3 : Int32))] [])
  refine OE.iloadN X0 hx hby own_d1_0 rfl ?_
  refine OE.iloadN X0 hx hby own_d1_1 rfl ?_
  refine OE.icmpYes X0 hx hby (pc' := 7) own_d1_2 (tlt (by decide : (3 : Int32) < (5 : Int32))).1 (h := ?_)
  refine OE.aloadN X0 hx hby own_d1_7 rfl rfl ?_
  refine OE.iloadN X0 hx hby own_d1_8 rfl ?_
  refine OE.iloadN X0 hx hby own_d1_9 rfl ?_
  refine OE.iadd X0 hx hby own_d1_10 ?_
  have Vo1 := V_a1
  obtain ⟨cl1, Ar1, -, Sz1, Nz1, Hz1, Gz1⟩ := Vo1
  have hin1 : ¬ ((p2 + (3 : Int32)) < 0 ∨ cl1.slots.size ≤ ((p2 + (3 : Int32))).toNatClampNeg) := inb_of Sz1 hin
  have hat1 : cl1.slots[((p2 + (3 : Int32))).toNatClampNeg]? = some (.int x) := Has.at Hz1 hin1 hat
  refine OE.of (X0.caload hx (j := (p2 + (3 : Int32))) (v := (.int x)) (by rw [e0]; exact Ar1.1) (State.isArrayOf_alike hZ.alike Ar1.2.1) Ar1.2.2 hin1 hat1 (g := (mkF m 11 #[.val (.ref a1), .val (.int p2), .val (.int (5 : Int32)), .val (.int (3 : Int32))] [(.int (p2 + (3 : Int32))), (.ref a1)])) rfl rfl (hb hby own_d1_11)) ?_
  show OE _ p e below s _ _ _ s₁ (mkF m 12 #[.val (.ref a1), .val (.int p2), .val (.int (5 : Int32)), .val (.int (3 : Int32))] [(.int x)])
  refine OE.i2l X0 hx hby own_d1_12 ?_
  refine OE.iloadN X0 hx hby own_d1_13 rfl ?_
  refine OE.iconst X0 hx hby own_d1_14 (1 : Int32) rfl ?_
  refine OE.isub X0 hx hby own_d1_15 ?_
  rw [(by decide : ((5 : Int32) - (1 : Int32)) = (4 : Int32))]
  refine OE.iloadN X0 hx hby own_d1_16 rfl ?_
  refine OE.isub X0 hx hby own_d1_17 ?_
  rw [(by decide : ((4 : Int32) - (3 : Int32)) = (1 : Int32))]
  obtain ⟨_, _, ⟨T2, L2, k2, n2⟩, -, X2, ⟨Lc2, hQ2, l2, y2, z2⟩, st2⟩ := Jvm.LawKit.callS X0 hx (y := (⟨"com/example/archerfish/archerfish/index/TokenTableHashPinLaw", "pow31", "(I)J"⟩ : MethodName)) hown (mvT hZ (hw _ (List.mem_of_getElem? (i := 13) rfl))) (mvT hZ (hw _ (List.mem_of_getElem? (i := 14) rfl))) (mvT hZ (hw _ (List.mem_of_getElem? (i := 5) rfl))) (mvT hZ (hw _ (List.mem_of_getElem? (i := 15) rfl))) (by decide) (backOf (W := 2) (own_rm3 l Z a0 hw [] (1 : Int32) h0 n0 Z0 ) hZ (hw _ (List.mem_of_getElem? (i := 15) rfl)) (hw _ (List.mem_of_getElem? (i := 5) rfl)) (by decide) (by decide)) (g := (mkF m 18 #[.val (.ref a1), .val (.int p2), .val (.int (5 : Int32)), .val (.int (3 : Int32))] [(.int (1 : Int32)), (.long (x.toInt64))])) rfl (by rw [hml]; rfl) (argsL := [(.int (1 : Int32))]) (rest := [(.long (x.toInt64))]) (lenOf own_pd0 rfl) rfl (by show 2 * 0 + _ ≤ _; exact Nat.le_of_eq rfl) (hb hby own_d1_18) (fun _ _ => ⟨rfl, e0, (by decide : 0 + 0 ≤ _), (by decide : 0 + 0 ≤ _)⟩)
  dsimp only [Pt.U, Pt.locs, Pt.cells, Pt.slots] at X2 l2 y2 z2 st2 hQ2
  subst l2 y2 z2
  obtain ⟨rfl, Nq2, eq2⟩ := hQ2
  refine OE.of (fun _ k => st2 _ k) ?_
  have N2 := Fr.app N0 Nq2
  show OE _ p e below s _ _ _ T2 (mkF m 21 #[.val (.ref a1), .val (.int p2), .val (.int (5 : Int32)), .val (.int (3 : Int32))] [(.long (if (1 : Int32) = (0 : Int32) then (1 : Int64) else (if (1 : Int32) = (1 : Int32) then (31 : Int64) else (if (1 : Int32) = (2 : Int32) then (961 : Int64) else (if (1 : Int32) = (3 : Int32) then (29791 : Int64) else (923521 : Int64)))))), (.long (x.toInt64))])
  rw [if_neg (show ¬ ((1 : Int32) = (0 : Int32)) from (by decide : ¬ ((1 : Int32) = (0 : Int32))))]
  show OE _ p e below s _ _ _ T2 (mkF m 21 #[.val (.ref a1), .val (.int p2), .val (.int (5 : Int32)), .val (.int (3 : Int32))] [(.long (if (1 : Int32) = (1 : Int32) then (31 : Int64) else (if (1 : Int32) = (2 : Int32) then (961 : Int64) else (if (1 : Int32) = (3 : Int32) then (29791 : Int64) else (923521 : Int64))))), (.long (x.toInt64))])
  rw [if_pos (show (1 : Int32) = (1 : Int32) from (by decide : (1 : Int32) = (1 : Int32)))]
  show OE _ p e below s _ _ _ T2 (mkF m 21 #[.val (.ref a1), .val (.int p2), .val (.int (5 : Int32)), .val (.int (3 : Int32))] [(.long (31 : Int64)), (.long (x.toInt64))])
  refine OE.lmul X2 hx hby own_d1_21 ?_
  refine OE.retJ X2 hx Bd.returns Bd.notSynchronized (hb hby own_d1_22) (by decide) (by decide) ?_
  rw [eq2]
  exact ⟨rfl, N2, rfl⟩
def own_Q1_5_4 (Z : State) (a1 : Addr) (p2 : Int32) (x : Int32) (k_a1 : ClassId) (vs_a1 : List Value) (h0 : Heap) (n0 : Nat) (v : Option Value) (h : Heap) (L : List Loc) : Prop := v = some (.long ((x.toInt64) * (1 : Int64))) ∧ Fr n0 L ∧ h = h0
theorem own_ef_own_rm1_5_4 (m : MethodId) (a1 : Addr) (p2 : Int32) : entryFrame m #[(.ref a1), (.int p2), (.int (5 : Int32)), (.int (4 : Int32))] 4 = mkF m 0 #[.val (.ref a1), .val (.int p2), .val (.int (5 : Int32)), .val (.int (4 : Int32))] [] := by first | (simp [entryFrame, mkF, argsToLocals, Value.category]; done) | rfl
set_option maxRecDepth 65536 in
set_option maxHeartbeats 40000000 in
theorem own_rm1_5_4 (l : Launch) (Z : State) (a0 : Array Value) (hw : ∀ d ∈ tables_1, d.before a0 Z = true) (ws : List Jvm.Cond) (a1 : Addr) (p2 : Int32) (x : Int32) (k_a1 : ClassId) (vs_a1 : List Value) (h0 : Heap) (n0 : Nat) (Z0 : n0 ≤ h0.size) (V_a1 : Arv Z h0 a1 k_a1 .char (5 : Int32) vs_a1 (.int (0 : Int32))) (hin : ¬ (p2 + (4 : Int32)) < 0 ∧ (p2 + (4 : Int32)) < (5 : Int32)) (hat : vs_a1.getD (p2 + (4 : Int32)).toNatClampNeg (.int (0 : Int32)) = (.int x)) :
    MetFree l (⟨"com/example/archerfish/archerfish/index/TokenTableHashPinLaw", "term", "([CIII)J"⟩ : MethodName) (head1 (Jvm.Cond.code (⟨"com/example/archerfish/archerfish/index/TokenTableHashPinLaw", "term", "([CIII)J"⟩ : MethodName) method_3_code 4 (some .long) :: ws) ({ frames := 1, cells := 0, slots := 0, locals := 14 } : Room)) (fun a U => a = #[(.ref a1), (.int p2), (.int (5 : Int32)), (.int (4 : Int32))] ∧ Z.Warmed39 U.vm ∧ U.heap = h0) (fun _ _ _ _ _ => True) (fun _ U o U' => ∃ v L, o = .returned v ∧ own_Q1_5_4 Z a1 p2 x k_a1 vs_a1 h0 n0 v U'.heap L ∧ FrameEnd U o U' L ({ frames := 1, cells := 0, slots := 0, locals := 14 } : Room).cells ({ frames := 1, cells := 0, slots := 0, locals := 14 } : Room).slots) := by
  refine MetFree.of_bodySF (plainFor_of_name own_pn0) hisR ?_
  intro p e s m args below meth c s₁ Bd hml0 hP hK
  obtain ⟨rfl, hZ, hh⟩ := hP
  have hx := Bd.exec
  have hby := Bd.bytes
  have hml : c.maxLocals = 4 := hml0
  have hown : s.vm.findClass "com/example/archerfish/archerfish/index/TokenTableHashPinLaw" = some m.cls := findClass_of_methodNamed Bd.named
  have hnm := (name_of_methodNamed Bd.named Bd.method).1
  have X0 : Stand p l e ({ frames := 1, cells := 0, slots := 0, locals := 14 } : Room) s m #[(.ref a1), (.int p2), (.int (5 : Int32)), (.int (4 : Int32))] below meth c s₁ [] 0 0 := Stand.of_body Bd
  have e0 : s₁.heap = h0 := by rw [← hh, Bd.state]; rfl
  have N0 := Fr.nil n0
  show OE FrameEnd p e below s (own_Q1_5_4 Z a1 p2 x k_a1 vs_a1 h0 n0) ({ frames := 1, cells := 0, slots := 0, locals := 14 } : Room).cells ({ frames := 1, cells := 0, slots := 0, locals := 14 } : Room).slots s₁ (entryFrame m #[(.ref a1), (.int p2), (.int (5 : Int32)), (.int (4 : Int32))] 4)
  rw [own_ef_own_rm1_5_4]
  show OE _ p e below s _ _ _ s₁ (mkF m 0 #[.val (.ref a1), .val (.int p2), .val (.int (5 : Int32)), .val (.int (4 : Int32))] [])
  refine OE.iloadN X0 hx hby own_d1_0 rfl ?_
  refine OE.iloadN X0 hx hby own_d1_1 rfl ?_
  refine OE.icmpYes X0 hx hby (pc' := 7) own_d1_2 (tlt (by decide : (4 : Int32) < (5 : Int32))).1 (h := ?_)
  refine OE.aloadN X0 hx hby own_d1_7 rfl rfl ?_
  refine OE.iloadN X0 hx hby own_d1_8 rfl ?_
  refine OE.iloadN X0 hx hby own_d1_9 rfl ?_
  refine OE.iadd X0 hx hby own_d1_10 ?_
  have Vo1 := V_a1
  obtain ⟨cl1, Ar1, -, Sz1, Nz1, Hz1, Gz1⟩ := Vo1
  have hin1 : ¬ ((p2 + (4 : Int32)) < 0 ∨ cl1.slots.size ≤ ((p2 + (4 : Int32))).toNatClampNeg) := inb_of Sz1 hin
  have hat1 : cl1.slots[((p2 + (4 : Int32))).toNatClampNeg]? = some (.int x) := Has.at Hz1 hin1 hat
  refine OE.of (X0.caload hx (j := (p2 + (4 : Int32))) (v := (.int x)) (by rw [e0]; exact Ar1.1) (State.isArrayOf_alike hZ.alike Ar1.2.1) Ar1.2.2 hin1 hat1 (g := (mkF m 11 #[.val (.ref a1), .val (.int p2), .val (.int (5 : Int32)), .val (.int (4 : Int32))] [(.int (p2 + (4 : Int32))), (.ref a1)])) rfl rfl (hb hby own_d1_11)) ?_
  show OE _ p e below s _ _ _ s₁ (mkF m 12 #[.val (.ref a1), .val (.int p2), .val (.int (5 : Int32)), .val (.int (4 : Int32))] [(.int x)])
  refine OE.i2l X0 hx hby own_d1_12 ?_
  refine OE.iloadN X0 hx hby own_d1_13 rfl ?_
  refine OE.iconst X0 hx hby own_d1_14 (1 : Int32) rfl ?_
  refine OE.isub X0 hx hby own_d1_15 ?_
  rw [(by decide : ((5 : Int32) - (1 : Int32)) = (4 : Int32))]
  refine OE.iloadN X0 hx hby own_d1_16 rfl ?_
  refine OE.isub X0 hx hby own_d1_17 ?_
  rw [(by decide : ((4 : Int32) - (4 : Int32)) = (0 : Int32))]
  obtain ⟨_, _, ⟨T2, L2, k2, n2⟩, -, X2, ⟨Lc2, hQ2, l2, y2, z2⟩, st2⟩ := Jvm.LawKit.callS X0 hx (y := (⟨"com/example/archerfish/archerfish/index/TokenTableHashPinLaw", "pow31", "(I)J"⟩ : MethodName)) hown (mvT hZ (hw _ (List.mem_of_getElem? (i := 13) rfl))) (mvT hZ (hw _ (List.mem_of_getElem? (i := 14) rfl))) (mvT hZ (hw _ (List.mem_of_getElem? (i := 5) rfl))) (mvT hZ (hw _ (List.mem_of_getElem? (i := 15) rfl))) (by decide) (backOf (W := 2) (own_rm3 l Z a0 hw [] (0 : Int32) h0 n0 Z0 ) hZ (hw _ (List.mem_of_getElem? (i := 15) rfl)) (hw _ (List.mem_of_getElem? (i := 5) rfl)) (by decide) (by decide)) (g := (mkF m 18 #[.val (.ref a1), .val (.int p2), .val (.int (5 : Int32)), .val (.int (4 : Int32))] [(.int (0 : Int32)), (.long (x.toInt64))])) rfl (by rw [hml]; rfl) (argsL := [(.int (0 : Int32))]) (rest := [(.long (x.toInt64))]) (lenOf own_pd0 rfl) rfl (by show 2 * 0 + _ ≤ _; exact Nat.le_of_eq rfl) (hb hby own_d1_18) (fun _ _ => ⟨rfl, e0, (by decide : 0 + 0 ≤ _), (by decide : 0 + 0 ≤ _)⟩)
  dsimp only [Pt.U, Pt.locs, Pt.cells, Pt.slots] at X2 l2 y2 z2 st2 hQ2
  subst l2 y2 z2
  obtain ⟨rfl, Nq2, eq2⟩ := hQ2
  refine OE.of (fun _ k => st2 _ k) ?_
  have N2 := Fr.app N0 Nq2
  show OE _ p e below s _ _ _ T2 (mkF m 21 #[.val (.ref a1), .val (.int p2), .val (.int (5 : Int32)), .val (.int (4 : Int32))] [(.long (if (0 : Int32) = (0 : Int32) then (1 : Int64) else (if (0 : Int32) = (1 : Int32) then (31 : Int64) else (if (0 : Int32) = (2 : Int32) then (961 : Int64) else (if (0 : Int32) = (3 : Int32) then (29791 : Int64) else (923521 : Int64)))))), (.long (x.toInt64))])
  rw [if_pos (show (0 : Int32) = (0 : Int32) from (by decide : (0 : Int32) = (0 : Int32)))]
  show OE _ p e below s _ _ _ T2 (mkF m 21 #[.val (.ref a1), .val (.int p2), .val (.int (5 : Int32)), .val (.int (4 : Int32))] [(.long (1 : Int64)), (.long (x.toInt64))])
  refine OE.lmul X2 hx hby own_d1_21 ?_
  refine OE.retJ X2 hx Bd.returns Bd.notSynchronized (hb hby own_d1_22) (by decide) (by decide) ?_
  rw [eq2]
  exact ⟨rfl, N2, rfl⟩
theorem own_d1_5 : decode method_3_code 5 = .ok (.lconst 0, 1) := by decide +kernel
theorem own_d1_6 : decode method_3_code 6 = .ok (.lreturn, 1) := by decide +kernel
def own_Q1_o (Z : State) (a1 : Addr) (p2 : Int32) (p3 : Int32) (p4 : Int32) (h0 : Heap) (n0 : Nat) (v : Option Value) (h : Heap) (L : List Loc) : Prop := v = some (.long (0 : Int64)) ∧ Fr n0 L ∧ h = h0
theorem own_ef_own_rm1_o (m : MethodId) (a1 : Addr) (p2 : Int32) (p3 : Int32) (p4 : Int32) : entryFrame m #[(.ref a1), (.int p2), (.int p3), (.int p4)] 4 = mkF m 0 #[.val (.ref a1), .val (.int p2), .val (.int p3), .val (.int p4)] [] := by first | (simp [entryFrame, mkF, argsToLocals, Value.category]; done) | rfl
set_option maxRecDepth 65536 in
set_option maxHeartbeats 40000000 in
theorem own_rm1_o (l : Launch) (Z : State) (a0 : Array Value) (hw : ∀ d ∈ tables_1, d.before a0 Z = true) (ws : List Jvm.Cond) (a1 : Addr) (p2 : Int32) (p3 : Int32) (p4 : Int32) (h0 : Heap) (n0 : Nat) (Z0 : n0 ≤ h0.size) (hlt : ¬ p4 < p3) :
    MetFree l (⟨"com/example/archerfish/archerfish/index/TokenTableHashPinLaw", "term", "([CIII)J"⟩ : MethodName) (head1 (Jvm.Cond.code (⟨"com/example/archerfish/archerfish/index/TokenTableHashPinLaw", "term", "([CIII)J"⟩ : MethodName) method_3_code 4 (some .long) :: ws) ({ frames := 0, cells := 0, slots := 0, locals := 0 } : Room)) (fun a U => a = #[(.ref a1), (.int p2), (.int p3), (.int p4)] ∧ Z.Warmed39 U.vm ∧ U.heap = h0) (fun _ _ _ _ _ => True) (fun _ U o U' => ∃ v L, o = .returned v ∧ own_Q1_o Z a1 p2 p3 p4 h0 n0 v U'.heap L ∧ FrameEnd U o U' L ({ frames := 0, cells := 0, slots := 0, locals := 0 } : Room).cells ({ frames := 0, cells := 0, slots := 0, locals := 0 } : Room).slots) := by
  refine MetFree.of_bodySF (plainFor_of_name own_pn0) hisR ?_
  intro p e s m args below meth c s₁ Bd hml0 hP hK
  obtain ⟨rfl, hZ, hh⟩ := hP
  have hx := Bd.exec
  have hby := Bd.bytes
  have hml : c.maxLocals = 4 := hml0
  have hown : s.vm.findClass "com/example/archerfish/archerfish/index/TokenTableHashPinLaw" = some m.cls := findClass_of_methodNamed Bd.named
  have hnm := (name_of_methodNamed Bd.named Bd.method).1
  have X0 : Stand p l e ({ frames := 0, cells := 0, slots := 0, locals := 0 } : Room) s m #[(.ref a1), (.int p2), (.int p3), (.int p4)] below meth c s₁ [] 0 0 := Stand.of_body Bd
  have e0 : s₁.heap = h0 := by rw [← hh, Bd.state]; rfl
  have N0 := Fr.nil n0
  show OE FrameEnd p e below s (own_Q1_o Z a1 p2 p3 p4 h0 n0) ({ frames := 0, cells := 0, slots := 0, locals := 0 } : Room).cells ({ frames := 0, cells := 0, slots := 0, locals := 0 } : Room).slots s₁ (entryFrame m #[(.ref a1), (.int p2), (.int p3), (.int p4)] 4)
  rw [own_ef_own_rm1_o]
  show OE _ p e below s _ _ _ s₁ (mkF m 0 #[.val (.ref a1), .val (.int p2), .val (.int p3), .val (.int p4)] [])
  refine OE.iloadN X0 hx hby own_d1_0 rfl ?_
  refine OE.iloadN X0 hx hby own_d1_1 rfl ?_
  refine OE.icmpNo X0 hx hby own_d1_2 (flt (hlt : ¬ (p4 < p3))).1 ?_
  refine OE.lconst X0 hx hby own_d1_5 (0 : Int64) rfl ?_
  refine OE.retJ X0 hx Bd.returns Bd.notSynchronized (hb hby own_d1_6) (by decide) (by decide) ?_
  rw [e0]
  exact ⟨rfl, N0, rfl⟩
theorem own_d2_0 : decode prog_66_method_8_code 0 = .ok (.iconst 0, 1) := by decide +kernel
theorem own_d2_1 : decode prog_66_method_8_code 1 = .ok (.istore_n 3, 1) := by decide +kernel
theorem own_d2_2 : decode prog_66_method_8_code 2 = .ok (.iload_n 1, 1) := by decide +kernel
theorem own_d2_3 : decode prog_66_method_8_code 3 = .ok (.istore 4, 2) := by decide +kernel
theorem own_d2_5 : decode prog_66_method_8_code 5 = .ok (.iload 4, 2) := by decide +kernel
theorem own_d2_7 : decode prog_66_method_8_code 7 = .ok (.iload_n 2, 1) := by decide +kernel
theorem own_d2_8 : decode prog_66_method_8_code 8 = .ok (.if_icmp .ge 19, 3) := by decide +kernel
theorem own_d2_27 : decode prog_66_method_8_code 27 = .ok (.iload_n 3, 1) := by decide +kernel
theorem own_d2_28 : decode prog_66_method_8_code 28 = .ok (.ldc 81, 2) := by decide +kernel
theorem own_d2_30 : decode prog_66_method_8_code 30 = .ok (.imul, 1) := by decide +kernel
theorem own_d2_31 : decode prog_66_method_8_code 31 = .ok (.istore_n 3, 1) := by decide +kernel
theorem own_d2_32 : decode prog_66_method_8_code 32 = .ok (.iload_n 3, 1) := by decide +kernel
theorem own_d2_33 : decode prog_66_method_8_code 33 = .ok (.iload_n 3, 1) := by decide +kernel
theorem own_d2_34 : decode prog_66_method_8_code 34 = .ok (.bipush 16, 2) := by decide +kernel
theorem own_d2_36 : decode prog_66_method_8_code 36 = .ok (.iushr, 1) := by decide +kernel
theorem own_d2_37 : decode prog_66_method_8_code 37 = .ok (.ixor, 1) := by decide +kernel
theorem own_d2_38 : decode prog_66_method_8_code 38 = .ok (.ireturn, 1) := by decide +kernel
def own_Q2_0_0 (Z : State) (a1 : Addr) (x0 : Int32) (x1 : Int32) (x2 : Int32) (x3 : Int32) (x4 : Int32) (k_a1 : ClassId) (h0 : Heap) (n0 : Nat) (v : Option Value) (h : Heap) (L : List Loc) : Prop := v = some (.int ((0 : Int32) ^^^ (((0 : Int32).toUInt32 >>> ((16 : Int32) &&& 31).toUInt32).toInt32))) ∧ Fr n0 L ∧ h = h0
theorem own_pn1 : plainName "com/example/archerfish/archerfish/index/TokenTable" = true := by first | (simp [plainName, overriddenIn]; done) | decide +kernel
theorem own_ef_own_rm2_0_0 (m : MethodId) (a1 : Addr) : entryFrame m #[(.ref a1), (.int (0 : Int32)), (.int (0 : Int32))] 5 = mkF m 0 #[.val (.ref a1), .val (.int (0 : Int32)), .val (.int (0 : Int32)), .unset, .unset] [] := by first | (simp [entryFrame, mkF, argsToLocals, Value.category]; done) | rfl
set_option maxRecDepth 65536 in
set_option maxHeartbeats 40000000 in
theorem own_rm2_0_0 (l : Launch) (Z : State) (a0 : Array Value) (hw : ∀ d ∈ tables_1, d.before a0 Z = true) (ws : List Jvm.Cond) (a1 : Addr) (x0 : Int32) (x1 : Int32) (x2 : Int32) (x3 : Int32) (x4 : Int32) (k_a1 : ClassId) (h0 : Heap) (n0 : Nat) (Z0 : n0 ≤ h0.size) (V_a1 : Arv Z h0 a1 k_a1 .char (5 : Int32) [(.int x0), (.int x1), (.int x2), (.int x3), (.int x4)] (.int (0 : Int32))) :
    MetFree l (⟨"com/example/archerfish/archerfish/index/TokenTable", "hash", "([CII)I"⟩ : MethodName) (head1 (Jvm.Cond.code (⟨"com/example/archerfish/archerfish/index/TokenTable", "hash", "([CII)I"⟩ : MethodName) prog_66_method_8_code 5 (some .int) :: ws) ({ frames := 0, cells := 0, slots := 0, locals := 0 } : Room)) (fun a U => a = #[(.ref a1), (.int (0 : Int32)), (.int (0 : Int32))] ∧ Z.Warmed39 U.vm ∧ U.heap = h0) (fun _ _ _ _ _ => True) (fun _ U o U' => ∃ v L, o = .returned v ∧ own_Q2_0_0 Z a1 x0 x1 x2 x3 x4 k_a1 h0 n0 v U'.heap L ∧ FrameEnd U o U' L ({ frames := 0, cells := 0, slots := 0, locals := 0 } : Room).cells ({ frames := 0, cells := 0, slots := 0, locals := 0 } : Room).slots) := by
  refine MetFree.of_bodySF (plainFor_of_name own_pn1) hisR ?_
  intro p e s m args below meth c s₁ Bd hml0 hP hK
  obtain ⟨rfl, hZ, hh⟩ := hP
  have hx := Bd.exec
  have hby := Bd.bytes
  have hml : c.maxLocals = 5 := hml0
  have hown : s.vm.findClass "com/example/archerfish/archerfish/index/TokenTable" = some m.cls := findClass_of_methodNamed Bd.named
  have hnm := (name_of_methodNamed Bd.named Bd.method).1
  have X0 : Stand p l e ({ frames := 0, cells := 0, slots := 0, locals := 0 } : Room) s m #[(.ref a1), (.int (0 : Int32)), (.int (0 : Int32))] below meth c s₁ [] 0 0 := Stand.of_body Bd
  have e0 : s₁.heap = h0 := by rw [← hh, Bd.state]; rfl
  have N0 := Fr.nil n0
  show OE FrameEnd p e below s (own_Q2_0_0 Z a1 x0 x1 x2 x3 x4 k_a1 h0 n0) ({ frames := 0, cells := 0, slots := 0, locals := 0 } : Room).cells ({ frames := 0, cells := 0, slots := 0, locals := 0 } : Room).slots s₁ (entryFrame m #[(.ref a1), (.int (0 : Int32)), (.int (0 : Int32))] 5)
  rw [own_ef_own_rm2_0_0]
  show OE _ p e below s _ _ _ s₁ (mkF m 0 #[.val (.ref a1), .val (.int (0 : Int32)), .val (.int (0 : Int32)), .unset, .unset] [])
  refine OE.iconst X0 hx hby own_d2_0 (0 : Int32) rfl ?_
  refine OE.istoreN X0 hx hby own_d2_1 (l' := #[.val (.ref a1), .val (.int (0 : Int32)), .val (.int (0 : Int32)), .val (.int (0 : Int32)), .unset]) rfl ?_
  refine OE.iloadN X0 hx hby own_d2_2 rfl ?_
  refine OE.istore X0 hx hby own_d2_3 (l' := #[.val (.ref a1), .val (.int (0 : Int32)), .val (.int (0 : Int32)), .val (.int (0 : Int32)), .val (.int (0 : Int32))]) rfl ?_
  refine OE.iload X0 hx hby own_d2_5 rfl ?_
  refine OE.iloadN X0 hx hby own_d2_7 rfl ?_
  refine OE.icmpYes X0 hx hby (pc' := 27) own_d2_8 (flt (by decide : ¬ ((0 : Int32) < (0 : Int32)))).2.1 (h := ?_)
  refine OE.iloadN X0 hx hby own_d2_27 rfl ?_
  refine OE.of (X0.ldcInt hx hown (mvT hZ (hw _ (List.mem_of_getElem? (i := 12) rfl))) (g := (mkF m 28 #[.val (.ref a1), .val (.int (0 : Int32)), .val (.int (0 : Int32)), .val (.int (0 : Int32)), .val (.int (0 : Int32))] [(.int (0 : Int32))])) rfl (hb hby own_d2_28)) ?_
  show OE _ p e below s _ _ _ s₁ (mkF m 30 #[.val (.ref a1), .val (.int (0 : Int32)), .val (.int (0 : Int32)), .val (.int (0 : Int32)), .val (.int (0 : Int32))] [(.int (-1640531527 : Int32)), (.int (0 : Int32))])
  refine OE.imul X0 hx hby own_d2_30 ?_
  rw [(by decide : ((0 : Int32) * (-1640531527 : Int32)) = (0 : Int32))]
  refine OE.istoreN X0 hx hby own_d2_31 (l' := #[.val (.ref a1), .val (.int (0 : Int32)), .val (.int (0 : Int32)), .val (.int (0 : Int32)), .val (.int (0 : Int32))]) rfl ?_
  refine OE.iloadN X0 hx hby own_d2_32 rfl ?_
  refine OE.iloadN X0 hx hby own_d2_33 rfl ?_
  refine OE.bipush X0 hx hby own_d2_34 (16 : Int32) rfl ?_
  refine OE.iushr X0 hx hby own_d2_36 ?_
  refine OE.ixor X0 hx hby own_d2_37 ?_
  refine OE.retI X0 hx Bd.returns Bd.notSynchronized (hb hby own_d2_38) (by decide) (by decide) ?_
  rw [e0]
  exact ⟨rfl, N0, rfl⟩
theorem own_d2_11 : decode prog_66_method_8_code 11 = .ok (.bipush 31, 2) := by decide +kernel
theorem own_d2_13 : decode prog_66_method_8_code 13 = .ok (.iload_n 3, 1) := by decide +kernel
theorem own_d2_14 : decode prog_66_method_8_code 14 = .ok (.imul, 1) := by decide +kernel
theorem own_d2_15 : decode prog_66_method_8_code 15 = .ok (.aload_n 0, 1) := by decide +kernel
theorem own_d2_16 : decode prog_66_method_8_code 16 = .ok (.iload 4, 2) := by decide +kernel
theorem own_d2_18 : decode prog_66_method_8_code 18 = .ok (.caload, 1) := by decide +kernel
theorem own_d2_19 : decode prog_66_method_8_code 19 = .ok (.iadd, 1) := by decide +kernel
theorem own_d2_20 : decode prog_66_method_8_code 20 = .ok (.istore_n 3, 1) := by decide +kernel
theorem own_d2_21 : decode prog_66_method_8_code 21 = .ok (.iinc 4 1, 3) := by decide +kernel
theorem own_d2_24 : decode prog_66_method_8_code 24 = .ok (.goto (-19), 3) := by decide +kernel
def own_Q2_0_1 (Z : State) (a1 : Addr) (x0 : Int32) (x1 : Int32) (x2 : Int32) (x3 : Int32) (x4 : Int32) (k_a1 : ClassId) (h0 : Heap) (n0 : Nat) (v : Option Value) (h : Heap) (L : List Loc) : Prop := v = some (.int ((((0 : Int32) + x0) * (-1640531527 : Int32)) ^^^ (((((0 : Int32) + x0) * (-1640531527 : Int32)).toUInt32 >>> ((16 : Int32) &&& 31).toUInt32).toInt32))) ∧ Fr n0 L ∧ h = h0
theorem own_ef_own_rm2_0_1 (m : MethodId) (a1 : Addr) : entryFrame m #[(.ref a1), (.int (0 : Int32)), (.int (1 : Int32))] 5 = mkF m 0 #[.val (.ref a1), .val (.int (0 : Int32)), .val (.int (1 : Int32)), .unset, .unset] [] := by first | (simp [entryFrame, mkF, argsToLocals, Value.category]; done) | rfl
set_option maxRecDepth 65536 in
set_option maxHeartbeats 40000000 in
theorem own_rm2_0_1 (l : Launch) (Z : State) (a0 : Array Value) (hw : ∀ d ∈ tables_1, d.before a0 Z = true) (ws : List Jvm.Cond) (a1 : Addr) (x0 : Int32) (x1 : Int32) (x2 : Int32) (x3 : Int32) (x4 : Int32) (k_a1 : ClassId) (h0 : Heap) (n0 : Nat) (Z0 : n0 ≤ h0.size) (V_a1 : Arv Z h0 a1 k_a1 .char (5 : Int32) [(.int x0), (.int x1), (.int x2), (.int x3), (.int x4)] (.int (0 : Int32))) :
    MetFree l (⟨"com/example/archerfish/archerfish/index/TokenTable", "hash", "([CII)I"⟩ : MethodName) (head1 (Jvm.Cond.code (⟨"com/example/archerfish/archerfish/index/TokenTable", "hash", "([CII)I"⟩ : MethodName) prog_66_method_8_code 5 (some .int) :: ws) ({ frames := 0, cells := 0, slots := 0, locals := 0 } : Room)) (fun a U => a = #[(.ref a1), (.int (0 : Int32)), (.int (1 : Int32))] ∧ Z.Warmed39 U.vm ∧ U.heap = h0) (fun _ _ _ _ _ => True) (fun _ U o U' => ∃ v L, o = .returned v ∧ own_Q2_0_1 Z a1 x0 x1 x2 x3 x4 k_a1 h0 n0 v U'.heap L ∧ FrameEnd U o U' L ({ frames := 0, cells := 0, slots := 0, locals := 0 } : Room).cells ({ frames := 0, cells := 0, slots := 0, locals := 0 } : Room).slots) := by
  refine MetFree.of_bodySF (plainFor_of_name own_pn1) hisR ?_
  intro p e s m args below meth c s₁ Bd hml0 hP hK
  obtain ⟨rfl, hZ, hh⟩ := hP
  have hx := Bd.exec
  have hby := Bd.bytes
  have hml : c.maxLocals = 5 := hml0
  have hown : s.vm.findClass "com/example/archerfish/archerfish/index/TokenTable" = some m.cls := findClass_of_methodNamed Bd.named
  have hnm := (name_of_methodNamed Bd.named Bd.method).1
  have X0 : Stand p l e ({ frames := 0, cells := 0, slots := 0, locals := 0 } : Room) s m #[(.ref a1), (.int (0 : Int32)), (.int (1 : Int32))] below meth c s₁ [] 0 0 := Stand.of_body Bd
  have e0 : s₁.heap = h0 := by rw [← hh, Bd.state]; rfl
  have N0 := Fr.nil n0
  show OE FrameEnd p e below s (own_Q2_0_1 Z a1 x0 x1 x2 x3 x4 k_a1 h0 n0) ({ frames := 0, cells := 0, slots := 0, locals := 0 } : Room).cells ({ frames := 0, cells := 0, slots := 0, locals := 0 } : Room).slots s₁ (entryFrame m #[(.ref a1), (.int (0 : Int32)), (.int (1 : Int32))] 5)
  rw [own_ef_own_rm2_0_1]
  show OE _ p e below s _ _ _ s₁ (mkF m 0 #[.val (.ref a1), .val (.int (0 : Int32)), .val (.int (1 : Int32)), .unset, .unset] [])
  refine OE.iconst X0 hx hby own_d2_0 (0 : Int32) rfl ?_
  refine OE.istoreN X0 hx hby own_d2_1 (l' := #[.val (.ref a1), .val (.int (0 : Int32)), .val (.int (1 : Int32)), .val (.int (0 : Int32)), .unset]) rfl ?_
  refine OE.iloadN X0 hx hby own_d2_2 rfl ?_
  refine OE.istore X0 hx hby own_d2_3 (l' := #[.val (.ref a1), .val (.int (0 : Int32)), .val (.int (1 : Int32)), .val (.int (0 : Int32)), .val (.int (0 : Int32))]) rfl ?_
  refine OE.iload X0 hx hby own_d2_5 rfl ?_
  refine OE.iloadN X0 hx hby own_d2_7 rfl ?_
  refine OE.icmpNo X0 hx hby own_d2_8 (tlt (by decide : (0 : Int32) < (1 : Int32))).2.1 ?_
  refine OE.bipush X0 hx hby own_d2_11 (31 : Int32) rfl ?_
  refine OE.iloadN X0 hx hby own_d2_13 rfl ?_
  refine OE.imul X0 hx hby own_d2_14 ?_
  rw [(by decide : ((31 : Int32) * (0 : Int32)) = (0 : Int32))]
  refine OE.aloadN X0 hx hby own_d2_15 rfl rfl ?_
  refine OE.iload X0 hx hby own_d2_16 rfl ?_
  have Vo1 := V_a1
  obtain ⟨cl1, Ar1, -, Sz1, Nz1, Hz1, Gz1⟩ := Vo1
  have hin1 : ¬ ((0 : Int32) < 0 ∨ cl1.slots.size ≤ ((0 : Int32)).toNatClampNeg) := inb_of Sz1 ⟨by decide, by decide⟩
  have hat1 : cl1.slots[((0 : Int32)).toNatClampNeg]? = some (.int x0) := Has.at Hz1 hin1 rfl
  refine OE.of (X0.caload hx (j := (0 : Int32)) (v := (.int x0)) (by rw [e0]; exact Ar1.1) (State.isArrayOf_alike hZ.alike Ar1.2.1) Ar1.2.2 hin1 hat1 (g := (mkF m 18 #[.val (.ref a1), .val (.int (0 : Int32)), .val (.int (1 : Int32)), .val (.int (0 : Int32)), .val (.int (0 : Int32))] [(.int (0 : Int32)), (.ref a1), (.int (0 : Int32))])) rfl rfl (hb hby own_d2_18)) ?_
  show OE _ p e below s _ _ _ s₁ (mkF m 19 #[.val (.ref a1), .val (.int (0 : Int32)), .val (.int (1 : Int32)), .val (.int (0 : Int32)), .val (.int (0 : Int32))] [(.int x0), (.int (0 : Int32))])
  refine OE.iadd X0 hx hby own_d2_19 ?_
  refine OE.istoreN X0 hx hby own_d2_20 (l' := #[.val (.ref a1), .val (.int (0 : Int32)), .val (.int (1 : Int32)), .val (.int ((0 : Int32) + x0)), .val (.int (0 : Int32))]) rfl ?_
  refine OE.iinc X0 hx hby own_d2_21 rfl (l' := #[.val (.ref a1), .val (.int (0 : Int32)), .val (.int (1 : Int32)), .val (.int ((0 : Int32) + x0)), .val (.int ((0 : Int32) + (1 : Int32)))]) rfl ?_
  rw [(by decide : ((0 : Int32) + (1 : Int32)) = (1 : Int32))]
  refine OE.goto X0 hx hby (pc' := 5) own_d2_24 (h := ?_)
  refine OE.iload X0 hx hby own_d2_5 rfl ?_
  refine OE.iloadN X0 hx hby own_d2_7 rfl ?_
  refine OE.icmpYes X0 hx hby (pc' := 27) own_d2_8 (flt (by decide : ¬ ((1 : Int32) < (1 : Int32)))).2.1 (h := ?_)
  refine OE.iloadN X0 hx hby own_d2_27 rfl ?_
  refine OE.of (X0.ldcInt hx hown (mvT hZ (hw _ (List.mem_of_getElem? (i := 12) rfl))) (g := (mkF m 28 #[.val (.ref a1), .val (.int (0 : Int32)), .val (.int (1 : Int32)), .val (.int ((0 : Int32) + x0)), .val (.int (1 : Int32))] [(.int ((0 : Int32) + x0))])) rfl (hb hby own_d2_28)) ?_
  show OE _ p e below s _ _ _ s₁ (mkF m 30 #[.val (.ref a1), .val (.int (0 : Int32)), .val (.int (1 : Int32)), .val (.int ((0 : Int32) + x0)), .val (.int (1 : Int32))] [(.int (-1640531527 : Int32)), (.int ((0 : Int32) + x0))])
  refine OE.imul X0 hx hby own_d2_30 ?_
  refine OE.istoreN X0 hx hby own_d2_31 (l' := #[.val (.ref a1), .val (.int (0 : Int32)), .val (.int (1 : Int32)), .val (.int (((0 : Int32) + x0) * (-1640531527 : Int32))), .val (.int (1 : Int32))]) rfl ?_
  refine OE.iloadN X0 hx hby own_d2_32 rfl ?_
  refine OE.iloadN X0 hx hby own_d2_33 rfl ?_
  refine OE.bipush X0 hx hby own_d2_34 (16 : Int32) rfl ?_
  refine OE.iushr X0 hx hby own_d2_36 ?_
  refine OE.ixor X0 hx hby own_d2_37 ?_
  refine OE.retI X0 hx Bd.returns Bd.notSynchronized (hb hby own_d2_38) (by decide) (by decide) ?_
  rw [e0]
  exact ⟨rfl, N0, rfl⟩
def own_Q2_0_2 (Z : State) (a1 : Addr) (x0 : Int32) (x1 : Int32) (x2 : Int32) (x3 : Int32) (x4 : Int32) (k_a1 : ClassId) (h0 : Heap) (n0 : Nat) (v : Option Value) (h : Heap) (L : List Loc) : Prop := v = some (.int (((((31 : Int32) * ((0 : Int32) + x0)) + x1) * (-1640531527 : Int32)) ^^^ ((((((31 : Int32) * ((0 : Int32) + x0)) + x1) * (-1640531527 : Int32)).toUInt32 >>> ((16 : Int32) &&& 31).toUInt32).toInt32))) ∧ Fr n0 L ∧ h = h0
theorem own_ef_own_rm2_0_2 (m : MethodId) (a1 : Addr) : entryFrame m #[(.ref a1), (.int (0 : Int32)), (.int (2 : Int32))] 5 = mkF m 0 #[.val (.ref a1), .val (.int (0 : Int32)), .val (.int (2 : Int32)), .unset, .unset] [] := by first | (simp [entryFrame, mkF, argsToLocals, Value.category]; done) | rfl
set_option maxRecDepth 65536 in
set_option maxHeartbeats 40000000 in
theorem own_rm2_0_2 (l : Launch) (Z : State) (a0 : Array Value) (hw : ∀ d ∈ tables_1, d.before a0 Z = true) (ws : List Jvm.Cond) (a1 : Addr) (x0 : Int32) (x1 : Int32) (x2 : Int32) (x3 : Int32) (x4 : Int32) (k_a1 : ClassId) (h0 : Heap) (n0 : Nat) (Z0 : n0 ≤ h0.size) (V_a1 : Arv Z h0 a1 k_a1 .char (5 : Int32) [(.int x0), (.int x1), (.int x2), (.int x3), (.int x4)] (.int (0 : Int32))) :
    MetFree l (⟨"com/example/archerfish/archerfish/index/TokenTable", "hash", "([CII)I"⟩ : MethodName) (head1 (Jvm.Cond.code (⟨"com/example/archerfish/archerfish/index/TokenTable", "hash", "([CII)I"⟩ : MethodName) prog_66_method_8_code 5 (some .int) :: ws) ({ frames := 0, cells := 0, slots := 0, locals := 0 } : Room)) (fun a U => a = #[(.ref a1), (.int (0 : Int32)), (.int (2 : Int32))] ∧ Z.Warmed39 U.vm ∧ U.heap = h0) (fun _ _ _ _ _ => True) (fun _ U o U' => ∃ v L, o = .returned v ∧ own_Q2_0_2 Z a1 x0 x1 x2 x3 x4 k_a1 h0 n0 v U'.heap L ∧ FrameEnd U o U' L ({ frames := 0, cells := 0, slots := 0, locals := 0 } : Room).cells ({ frames := 0, cells := 0, slots := 0, locals := 0 } : Room).slots) := by
  refine MetFree.of_bodySF (plainFor_of_name own_pn1) hisR ?_
  intro p e s m args below meth c s₁ Bd hml0 hP hK
  obtain ⟨rfl, hZ, hh⟩ := hP
  have hx := Bd.exec
  have hby := Bd.bytes
  have hml : c.maxLocals = 5 := hml0
  have hown : s.vm.findClass "com/example/archerfish/archerfish/index/TokenTable" = some m.cls := findClass_of_methodNamed Bd.named
  have hnm := (name_of_methodNamed Bd.named Bd.method).1
  have X0 : Stand p l e ({ frames := 0, cells := 0, slots := 0, locals := 0 } : Room) s m #[(.ref a1), (.int (0 : Int32)), (.int (2 : Int32))] below meth c s₁ [] 0 0 := Stand.of_body Bd
  have e0 : s₁.heap = h0 := by rw [← hh, Bd.state]; rfl
  have N0 := Fr.nil n0
  show OE FrameEnd p e below s (own_Q2_0_2 Z a1 x0 x1 x2 x3 x4 k_a1 h0 n0) ({ frames := 0, cells := 0, slots := 0, locals := 0 } : Room).cells ({ frames := 0, cells := 0, slots := 0, locals := 0 } : Room).slots s₁ (entryFrame m #[(.ref a1), (.int (0 : Int32)), (.int (2 : Int32))] 5)
  rw [own_ef_own_rm2_0_2]
  show OE _ p e below s _ _ _ s₁ (mkF m 0 #[.val (.ref a1), .val (.int (0 : Int32)), .val (.int (2 : Int32)), .unset, .unset] [])
  refine OE.iconst X0 hx hby own_d2_0 (0 : Int32) rfl ?_
  refine OE.istoreN X0 hx hby own_d2_1 (l' := #[.val (.ref a1), .val (.int (0 : Int32)), .val (.int (2 : Int32)), .val (.int (0 : Int32)), .unset]) rfl ?_
  refine OE.iloadN X0 hx hby own_d2_2 rfl ?_
  refine OE.istore X0 hx hby own_d2_3 (l' := #[.val (.ref a1), .val (.int (0 : Int32)), .val (.int (2 : Int32)), .val (.int (0 : Int32)), .val (.int (0 : Int32))]) rfl ?_
  refine OE.iload X0 hx hby own_d2_5 rfl ?_
  refine OE.iloadN X0 hx hby own_d2_7 rfl ?_
  refine OE.icmpNo X0 hx hby own_d2_8 (tlt (by decide : (0 : Int32) < (2 : Int32))).2.1 ?_
  refine OE.bipush X0 hx hby own_d2_11 (31 : Int32) rfl ?_
  refine OE.iloadN X0 hx hby own_d2_13 rfl ?_
  refine OE.imul X0 hx hby own_d2_14 ?_
  rw [(by decide : ((31 : Int32) * (0 : Int32)) = (0 : Int32))]
  refine OE.aloadN X0 hx hby own_d2_15 rfl rfl ?_
  refine OE.iload X0 hx hby own_d2_16 rfl ?_
  have Vo1 := V_a1
  obtain ⟨cl1, Ar1, -, Sz1, Nz1, Hz1, Gz1⟩ := Vo1
  have hin1 : ¬ ((0 : Int32) < 0 ∨ cl1.slots.size ≤ ((0 : Int32)).toNatClampNeg) := inb_of Sz1 ⟨by decide, by decide⟩
  have hat1 : cl1.slots[((0 : Int32)).toNatClampNeg]? = some (.int x0) := Has.at Hz1 hin1 rfl
  refine OE.of (X0.caload hx (j := (0 : Int32)) (v := (.int x0)) (by rw [e0]; exact Ar1.1) (State.isArrayOf_alike hZ.alike Ar1.2.1) Ar1.2.2 hin1 hat1 (g := (mkF m 18 #[.val (.ref a1), .val (.int (0 : Int32)), .val (.int (2 : Int32)), .val (.int (0 : Int32)), .val (.int (0 : Int32))] [(.int (0 : Int32)), (.ref a1), (.int (0 : Int32))])) rfl rfl (hb hby own_d2_18)) ?_
  show OE _ p e below s _ _ _ s₁ (mkF m 19 #[.val (.ref a1), .val (.int (0 : Int32)), .val (.int (2 : Int32)), .val (.int (0 : Int32)), .val (.int (0 : Int32))] [(.int x0), (.int (0 : Int32))])
  refine OE.iadd X0 hx hby own_d2_19 ?_
  refine OE.istoreN X0 hx hby own_d2_20 (l' := #[.val (.ref a1), .val (.int (0 : Int32)), .val (.int (2 : Int32)), .val (.int ((0 : Int32) + x0)), .val (.int (0 : Int32))]) rfl ?_
  refine OE.iinc X0 hx hby own_d2_21 rfl (l' := #[.val (.ref a1), .val (.int (0 : Int32)), .val (.int (2 : Int32)), .val (.int ((0 : Int32) + x0)), .val (.int ((0 : Int32) + (1 : Int32)))]) rfl ?_
  rw [(by decide : ((0 : Int32) + (1 : Int32)) = (1 : Int32))]
  refine OE.goto X0 hx hby (pc' := 5) own_d2_24 (h := ?_)
  refine OE.iload X0 hx hby own_d2_5 rfl ?_
  refine OE.iloadN X0 hx hby own_d2_7 rfl ?_
  refine OE.icmpNo X0 hx hby own_d2_8 (tlt (by decide : (1 : Int32) < (2 : Int32))).2.1 ?_
  refine OE.bipush X0 hx hby own_d2_11 (31 : Int32) rfl ?_
  refine OE.iloadN X0 hx hby own_d2_13 rfl ?_
  refine OE.imul X0 hx hby own_d2_14 ?_
  refine OE.aloadN X0 hx hby own_d2_15 rfl rfl ?_
  refine OE.iload X0 hx hby own_d2_16 rfl ?_
  have Vo2 := V_a1
  obtain ⟨cl2, Ar2, -, Sz2, Nz2, Hz2, Gz2⟩ := Vo2
  have hin2 : ¬ ((1 : Int32) < 0 ∨ cl2.slots.size ≤ ((1 : Int32)).toNatClampNeg) := inb_of Sz2 ⟨by decide, by decide⟩
  have hat2 : cl2.slots[((1 : Int32)).toNatClampNeg]? = some (.int x1) := Has.at Hz2 hin2 rfl
  refine OE.of (X0.caload hx (j := (1 : Int32)) (v := (.int x1)) (by rw [e0]; exact Ar2.1) (State.isArrayOf_alike hZ.alike Ar2.2.1) Ar2.2.2 hin2 hat2 (g := (mkF m 18 #[.val (.ref a1), .val (.int (0 : Int32)), .val (.int (2 : Int32)), .val (.int ((0 : Int32) + x0)), .val (.int (1 : Int32))] [(.int (1 : Int32)), (.ref a1), (.int ((31 : Int32) * ((0 : Int32) + x0)))])) rfl rfl (hb hby own_d2_18)) ?_
  show OE _ p e below s _ _ _ s₁ (mkF m 19 #[.val (.ref a1), .val (.int (0 : Int32)), .val (.int (2 : Int32)), .val (.int ((0 : Int32) + x0)), .val (.int (1 : Int32))] [(.int x1), (.int ((31 : Int32) * ((0 : Int32) + x0)))])
  refine OE.iadd X0 hx hby own_d2_19 ?_
  refine OE.istoreN X0 hx hby own_d2_20 (l' := #[.val (.ref a1), .val (.int (0 : Int32)), .val (.int (2 : Int32)), .val (.int (((31 : Int32) * ((0 : Int32) + x0)) + x1)), .val (.int (1 : Int32))]) rfl ?_
  refine OE.iinc X0 hx hby own_d2_21 rfl (l' := #[.val (.ref a1), .val (.int (0 : Int32)), .val (.int (2 : Int32)), .val (.int (((31 : Int32) * ((0 : Int32) + x0)) + x1)), .val (.int ((1 : Int32) + (1 : Int32)))]) rfl ?_
  rw [(by decide : ((1 : Int32) + (1 : Int32)) = (2 : Int32))]
  refine OE.goto X0 hx hby (pc' := 5) own_d2_24 (h := ?_)
  refine OE.iload X0 hx hby own_d2_5 rfl ?_
  refine OE.iloadN X0 hx hby own_d2_7 rfl ?_
  refine OE.icmpYes X0 hx hby (pc' := 27) own_d2_8 (flt (by decide : ¬ ((2 : Int32) < (2 : Int32)))).2.1 (h := ?_)
  refine OE.iloadN X0 hx hby own_d2_27 rfl ?_
  refine OE.of (X0.ldcInt hx hown (mvT hZ (hw _ (List.mem_of_getElem? (i := 12) rfl))) (g := (mkF m 28 #[.val (.ref a1), .val (.int (0 : Int32)), .val (.int (2 : Int32)), .val (.int (((31 : Int32) * ((0 : Int32) + x0)) + x1)), .val (.int (2 : Int32))] [(.int (((31 : Int32) * ((0 : Int32) + x0)) + x1))])) rfl (hb hby own_d2_28)) ?_
  show OE _ p e below s _ _ _ s₁ (mkF m 30 #[.val (.ref a1), .val (.int (0 : Int32)), .val (.int (2 : Int32)), .val (.int (((31 : Int32) * ((0 : Int32) + x0)) + x1)), .val (.int (2 : Int32))] [(.int (-1640531527 : Int32)), (.int (((31 : Int32) * ((0 : Int32) + x0)) + x1))])
  refine OE.imul X0 hx hby own_d2_30 ?_
  refine OE.istoreN X0 hx hby own_d2_31 (l' := #[.val (.ref a1), .val (.int (0 : Int32)), .val (.int (2 : Int32)), .val (.int ((((31 : Int32) * ((0 : Int32) + x0)) + x1) * (-1640531527 : Int32))), .val (.int (2 : Int32))]) rfl ?_
  refine OE.iloadN X0 hx hby own_d2_32 rfl ?_
  refine OE.iloadN X0 hx hby own_d2_33 rfl ?_
  refine OE.bipush X0 hx hby own_d2_34 (16 : Int32) rfl ?_
  refine OE.iushr X0 hx hby own_d2_36 ?_
  refine OE.ixor X0 hx hby own_d2_37 ?_
  refine OE.retI X0 hx Bd.returns Bd.notSynchronized (hb hby own_d2_38) (by decide) (by decide) ?_
  rw [e0]
  exact ⟨rfl, N0, rfl⟩
def own_Q2_0_3 (Z : State) (a1 : Addr) (x0 : Int32) (x1 : Int32) (x2 : Int32) (x3 : Int32) (x4 : Int32) (k_a1 : ClassId) (h0 : Heap) (n0 : Nat) (v : Option Value) (h : Heap) (L : List Loc) : Prop := v = some (.int (((((31 : Int32) * (((31 : Int32) * ((0 : Int32) + x0)) + x1)) + x2) * (-1640531527 : Int32)) ^^^ ((((((31 : Int32) * (((31 : Int32) * ((0 : Int32) + x0)) + x1)) + x2) * (-1640531527 : Int32)).toUInt32 >>> ((16 : Int32) &&& 31).toUInt32).toInt32))) ∧ Fr n0 L ∧ h = h0
theorem own_ef_own_rm2_0_3 (m : MethodId) (a1 : Addr) : entryFrame m #[(.ref a1), (.int (0 : Int32)), (.int (3 : Int32))] 5 = mkF m 0 #[.val (.ref a1), .val (.int (0 : Int32)), .val (.int (3 : Int32)), .unset, .unset] [] := by first | (simp [entryFrame, mkF, argsToLocals, Value.category]; done) | rfl
set_option maxRecDepth 65536 in
set_option maxHeartbeats 40000000 in
theorem own_rm2_0_3 (l : Launch) (Z : State) (a0 : Array Value) (hw : ∀ d ∈ tables_1, d.before a0 Z = true) (ws : List Jvm.Cond) (a1 : Addr) (x0 : Int32) (x1 : Int32) (x2 : Int32) (x3 : Int32) (x4 : Int32) (k_a1 : ClassId) (h0 : Heap) (n0 : Nat) (Z0 : n0 ≤ h0.size) (V_a1 : Arv Z h0 a1 k_a1 .char (5 : Int32) [(.int x0), (.int x1), (.int x2), (.int x3), (.int x4)] (.int (0 : Int32))) :
    MetFree l (⟨"com/example/archerfish/archerfish/index/TokenTable", "hash", "([CII)I"⟩ : MethodName) (head1 (Jvm.Cond.code (⟨"com/example/archerfish/archerfish/index/TokenTable", "hash", "([CII)I"⟩ : MethodName) prog_66_method_8_code 5 (some .int) :: ws) ({ frames := 0, cells := 0, slots := 0, locals := 0 } : Room)) (fun a U => a = #[(.ref a1), (.int (0 : Int32)), (.int (3 : Int32))] ∧ Z.Warmed39 U.vm ∧ U.heap = h0) (fun _ _ _ _ _ => True) (fun _ U o U' => ∃ v L, o = .returned v ∧ own_Q2_0_3 Z a1 x0 x1 x2 x3 x4 k_a1 h0 n0 v U'.heap L ∧ FrameEnd U o U' L ({ frames := 0, cells := 0, slots := 0, locals := 0 } : Room).cells ({ frames := 0, cells := 0, slots := 0, locals := 0 } : Room).slots) := by
  refine MetFree.of_bodySF (plainFor_of_name own_pn1) hisR ?_
  intro p e s m args below meth c s₁ Bd hml0 hP hK
  obtain ⟨rfl, hZ, hh⟩ := hP
  have hx := Bd.exec
  have hby := Bd.bytes
  have hml : c.maxLocals = 5 := hml0
  have hown : s.vm.findClass "com/example/archerfish/archerfish/index/TokenTable" = some m.cls := findClass_of_methodNamed Bd.named
  have hnm := (name_of_methodNamed Bd.named Bd.method).1
  have X0 : Stand p l e ({ frames := 0, cells := 0, slots := 0, locals := 0 } : Room) s m #[(.ref a1), (.int (0 : Int32)), (.int (3 : Int32))] below meth c s₁ [] 0 0 := Stand.of_body Bd
  have e0 : s₁.heap = h0 := by rw [← hh, Bd.state]; rfl
  have N0 := Fr.nil n0
  show OE FrameEnd p e below s (own_Q2_0_3 Z a1 x0 x1 x2 x3 x4 k_a1 h0 n0) ({ frames := 0, cells := 0, slots := 0, locals := 0 } : Room).cells ({ frames := 0, cells := 0, slots := 0, locals := 0 } : Room).slots s₁ (entryFrame m #[(.ref a1), (.int (0 : Int32)), (.int (3 : Int32))] 5)
  rw [own_ef_own_rm2_0_3]
  show OE _ p e below s _ _ _ s₁ (mkF m 0 #[.val (.ref a1), .val (.int (0 : Int32)), .val (.int (3 : Int32)), .unset, .unset] [])
  refine OE.iconst X0 hx hby own_d2_0 (0 : Int32) rfl ?_
  refine OE.istoreN X0 hx hby own_d2_1 (l' := #[.val (.ref a1), .val (.int (0 : Int32)), .val (.int (3 : Int32)), .val (.int (0 : Int32)), .unset]) rfl ?_
  refine OE.iloadN X0 hx hby own_d2_2 rfl ?_
  refine OE.istore X0 hx hby own_d2_3 (l' := #[.val (.ref a1), .val (.int (0 : Int32)), .val (.int (3 : Int32)), .val (.int (0 : Int32)), .val (.int (0 : Int32))]) rfl ?_
  refine OE.iload X0 hx hby own_d2_5 rfl ?_
  refine OE.iloadN X0 hx hby own_d2_7 rfl ?_
  refine OE.icmpNo X0 hx hby own_d2_8 (tlt (by decide : (0 : Int32) < (3 : Int32))).2.1 ?_
  refine OE.bipush X0 hx hby own_d2_11 (31 : Int32) rfl ?_
  refine OE.iloadN X0 hx hby own_d2_13 rfl ?_
  refine OE.imul X0 hx hby own_d2_14 ?_
  rw [(by decide : ((31 : Int32) * (0 : Int32)) = (0 : Int32))]
  refine OE.aloadN X0 hx hby own_d2_15 rfl rfl ?_
  refine OE.iload X0 hx hby own_d2_16 rfl ?_
  have Vo1 := V_a1
  obtain ⟨cl1, Ar1, -, Sz1, Nz1, Hz1, Gz1⟩ := Vo1
  have hin1 : ¬ ((0 : Int32) < 0 ∨ cl1.slots.size ≤ ((0 : Int32)).toNatClampNeg) := inb_of Sz1 ⟨by decide, by decide⟩
  have hat1 : cl1.slots[((0 : Int32)).toNatClampNeg]? = some (.int x0) := Has.at Hz1 hin1 rfl
  refine OE.of (X0.caload hx (j := (0 : Int32)) (v := (.int x0)) (by rw [e0]; exact Ar1.1) (State.isArrayOf_alike hZ.alike Ar1.2.1) Ar1.2.2 hin1 hat1 (g := (mkF m 18 #[.val (.ref a1), .val (.int (0 : Int32)), .val (.int (3 : Int32)), .val (.int (0 : Int32)), .val (.int (0 : Int32))] [(.int (0 : Int32)), (.ref a1), (.int (0 : Int32))])) rfl rfl (hb hby own_d2_18)) ?_
  show OE _ p e below s _ _ _ s₁ (mkF m 19 #[.val (.ref a1), .val (.int (0 : Int32)), .val (.int (3 : Int32)), .val (.int (0 : Int32)), .val (.int (0 : Int32))] [(.int x0), (.int (0 : Int32))])
  refine OE.iadd X0 hx hby own_d2_19 ?_
  refine OE.istoreN X0 hx hby own_d2_20 (l' := #[.val (.ref a1), .val (.int (0 : Int32)), .val (.int (3 : Int32)), .val (.int ((0 : Int32) + x0)), .val (.int (0 : Int32))]) rfl ?_
  refine OE.iinc X0 hx hby own_d2_21 rfl (l' := #[.val (.ref a1), .val (.int (0 : Int32)), .val (.int (3 : Int32)), .val (.int ((0 : Int32) + x0)), .val (.int ((0 : Int32) + (1 : Int32)))]) rfl ?_
  rw [(by decide : ((0 : Int32) + (1 : Int32)) = (1 : Int32))]
  refine OE.goto X0 hx hby (pc' := 5) own_d2_24 (h := ?_)
  refine OE.iload X0 hx hby own_d2_5 rfl ?_
  refine OE.iloadN X0 hx hby own_d2_7 rfl ?_
  refine OE.icmpNo X0 hx hby own_d2_8 (tlt (by decide : (1 : Int32) < (3 : Int32))).2.1 ?_
  refine OE.bipush X0 hx hby own_d2_11 (31 : Int32) rfl ?_
  refine OE.iloadN X0 hx hby own_d2_13 rfl ?_
  refine OE.imul X0 hx hby own_d2_14 ?_
  refine OE.aloadN X0 hx hby own_d2_15 rfl rfl ?_
  refine OE.iload X0 hx hby own_d2_16 rfl ?_
  have Vo2 := V_a1
  obtain ⟨cl2, Ar2, -, Sz2, Nz2, Hz2, Gz2⟩ := Vo2
  have hin2 : ¬ ((1 : Int32) < 0 ∨ cl2.slots.size ≤ ((1 : Int32)).toNatClampNeg) := inb_of Sz2 ⟨by decide, by decide⟩
  have hat2 : cl2.slots[((1 : Int32)).toNatClampNeg]? = some (.int x1) := Has.at Hz2 hin2 rfl
  refine OE.of (X0.caload hx (j := (1 : Int32)) (v := (.int x1)) (by rw [e0]; exact Ar2.1) (State.isArrayOf_alike hZ.alike Ar2.2.1) Ar2.2.2 hin2 hat2 (g := (mkF m 18 #[.val (.ref a1), .val (.int (0 : Int32)), .val (.int (3 : Int32)), .val (.int ((0 : Int32) + x0)), .val (.int (1 : Int32))] [(.int (1 : Int32)), (.ref a1), (.int ((31 : Int32) * ((0 : Int32) + x0)))])) rfl rfl (hb hby own_d2_18)) ?_
  show OE _ p e below s _ _ _ s₁ (mkF m 19 #[.val (.ref a1), .val (.int (0 : Int32)), .val (.int (3 : Int32)), .val (.int ((0 : Int32) + x0)), .val (.int (1 : Int32))] [(.int x1), (.int ((31 : Int32) * ((0 : Int32) + x0)))])
  refine OE.iadd X0 hx hby own_d2_19 ?_
  refine OE.istoreN X0 hx hby own_d2_20 (l' := #[.val (.ref a1), .val (.int (0 : Int32)), .val (.int (3 : Int32)), .val (.int (((31 : Int32) * ((0 : Int32) + x0)) + x1)), .val (.int (1 : Int32))]) rfl ?_
  refine OE.iinc X0 hx hby own_d2_21 rfl (l' := #[.val (.ref a1), .val (.int (0 : Int32)), .val (.int (3 : Int32)), .val (.int (((31 : Int32) * ((0 : Int32) + x0)) + x1)), .val (.int ((1 : Int32) + (1 : Int32)))]) rfl ?_
  rw [(by decide : ((1 : Int32) + (1 : Int32)) = (2 : Int32))]
  refine OE.goto X0 hx hby (pc' := 5) own_d2_24 (h := ?_)
  refine OE.iload X0 hx hby own_d2_5 rfl ?_
  refine OE.iloadN X0 hx hby own_d2_7 rfl ?_
  refine OE.icmpNo X0 hx hby own_d2_8 (tlt (by decide : (2 : Int32) < (3 : Int32))).2.1 ?_
  refine OE.bipush X0 hx hby own_d2_11 (31 : Int32) rfl ?_
  refine OE.iloadN X0 hx hby own_d2_13 rfl ?_
  refine OE.imul X0 hx hby own_d2_14 ?_
  refine OE.aloadN X0 hx hby own_d2_15 rfl rfl ?_
  refine OE.iload X0 hx hby own_d2_16 rfl ?_
  have Vo3 := V_a1
  obtain ⟨cl3, Ar3, -, Sz3, Nz3, Hz3, Gz3⟩ := Vo3
  have hin3 : ¬ ((2 : Int32) < 0 ∨ cl3.slots.size ≤ ((2 : Int32)).toNatClampNeg) := inb_of Sz3 ⟨by decide, by decide⟩
  have hat3 : cl3.slots[((2 : Int32)).toNatClampNeg]? = some (.int x2) := Has.at Hz3 hin3 rfl
  refine OE.of (X0.caload hx (j := (2 : Int32)) (v := (.int x2)) (by rw [e0]; exact Ar3.1) (State.isArrayOf_alike hZ.alike Ar3.2.1) Ar3.2.2 hin3 hat3 (g := (mkF m 18 #[.val (.ref a1), .val (.int (0 : Int32)), .val (.int (3 : Int32)), .val (.int (((31 : Int32) * ((0 : Int32) + x0)) + x1)), .val (.int (2 : Int32))] [(.int (2 : Int32)), (.ref a1), (.int ((31 : Int32) * (((31 : Int32) * ((0 : Int32) + x0)) + x1)))])) rfl rfl (hb hby own_d2_18)) ?_
  show OE _ p e below s _ _ _ s₁ (mkF m 19 #[.val (.ref a1), .val (.int (0 : Int32)), .val (.int (3 : Int32)), .val (.int (((31 : Int32) * ((0 : Int32) + x0)) + x1)), .val (.int (2 : Int32))] [(.int x2), (.int ((31 : Int32) * (((31 : Int32) * ((0 : Int32) + x0)) + x1)))])
  refine OE.iadd X0 hx hby own_d2_19 ?_
  refine OE.istoreN X0 hx hby own_d2_20 (l' := #[.val (.ref a1), .val (.int (0 : Int32)), .val (.int (3 : Int32)), .val (.int (((31 : Int32) * (((31 : Int32) * ((0 : Int32) + x0)) + x1)) + x2)), .val (.int (2 : Int32))]) rfl ?_
  refine OE.iinc X0 hx hby own_d2_21 rfl (l' := #[.val (.ref a1), .val (.int (0 : Int32)), .val (.int (3 : Int32)), .val (.int (((31 : Int32) * (((31 : Int32) * ((0 : Int32) + x0)) + x1)) + x2)), .val (.int ((2 : Int32) + (1 : Int32)))]) rfl ?_
  rw [(by decide : ((2 : Int32) + (1 : Int32)) = (3 : Int32))]
  refine OE.goto X0 hx hby (pc' := 5) own_d2_24 (h := ?_)
  refine OE.iload X0 hx hby own_d2_5 rfl ?_
  refine OE.iloadN X0 hx hby own_d2_7 rfl ?_
  refine OE.icmpYes X0 hx hby (pc' := 27) own_d2_8 (flt (by decide : ¬ ((3 : Int32) < (3 : Int32)))).2.1 (h := ?_)
  refine OE.iloadN X0 hx hby own_d2_27 rfl ?_
  refine OE.of (X0.ldcInt hx hown (mvT hZ (hw _ (List.mem_of_getElem? (i := 12) rfl))) (g := (mkF m 28 #[.val (.ref a1), .val (.int (0 : Int32)), .val (.int (3 : Int32)), .val (.int (((31 : Int32) * (((31 : Int32) * ((0 : Int32) + x0)) + x1)) + x2)), .val (.int (3 : Int32))] [(.int (((31 : Int32) * (((31 : Int32) * ((0 : Int32) + x0)) + x1)) + x2))])) rfl (hb hby own_d2_28)) ?_
  show OE _ p e below s _ _ _ s₁ (mkF m 30 #[.val (.ref a1), .val (.int (0 : Int32)), .val (.int (3 : Int32)), .val (.int (((31 : Int32) * (((31 : Int32) * ((0 : Int32) + x0)) + x1)) + x2)), .val (.int (3 : Int32))] [(.int (-1640531527 : Int32)), (.int (((31 : Int32) * (((31 : Int32) * ((0 : Int32) + x0)) + x1)) + x2))])
  refine OE.imul X0 hx hby own_d2_30 ?_
  refine OE.istoreN X0 hx hby own_d2_31 (l' := #[.val (.ref a1), .val (.int (0 : Int32)), .val (.int (3 : Int32)), .val (.int ((((31 : Int32) * (((31 : Int32) * ((0 : Int32) + x0)) + x1)) + x2) * (-1640531527 : Int32))), .val (.int (3 : Int32))]) rfl ?_
  refine OE.iloadN X0 hx hby own_d2_32 rfl ?_
  refine OE.iloadN X0 hx hby own_d2_33 rfl ?_
  refine OE.bipush X0 hx hby own_d2_34 (16 : Int32) rfl ?_
  refine OE.iushr X0 hx hby own_d2_36 ?_
  refine OE.ixor X0 hx hby own_d2_37 ?_
  refine OE.retI X0 hx Bd.returns Bd.notSynchronized (hb hby own_d2_38) (by decide) (by decide) ?_
  rw [e0]
  exact ⟨rfl, N0, rfl⟩
def own_Q2_0_4 (Z : State) (a1 : Addr) (x0 : Int32) (x1 : Int32) (x2 : Int32) (x3 : Int32) (x4 : Int32) (k_a1 : ClassId) (h0 : Heap) (n0 : Nat) (v : Option Value) (h : Heap) (L : List Loc) : Prop := v = some (.int (((((31 : Int32) * (((31 : Int32) * (((31 : Int32) * ((0 : Int32) + x0)) + x1)) + x2)) + x3) * (-1640531527 : Int32)) ^^^ ((((((31 : Int32) * (((31 : Int32) * (((31 : Int32) * ((0 : Int32) + x0)) + x1)) + x2)) + x3) * (-1640531527 : Int32)).toUInt32 >>> ((16 : Int32) &&& 31).toUInt32).toInt32))) ∧ Fr n0 L ∧ h = h0
theorem own_ef_own_rm2_0_4 (m : MethodId) (a1 : Addr) : entryFrame m #[(.ref a1), (.int (0 : Int32)), (.int (4 : Int32))] 5 = mkF m 0 #[.val (.ref a1), .val (.int (0 : Int32)), .val (.int (4 : Int32)), .unset, .unset] [] := by first | (simp [entryFrame, mkF, argsToLocals, Value.category]; done) | rfl
set_option maxRecDepth 65536 in
set_option maxHeartbeats 40000000 in
theorem own_rm2_0_4 (l : Launch) (Z : State) (a0 : Array Value) (hw : ∀ d ∈ tables_1, d.before a0 Z = true) (ws : List Jvm.Cond) (a1 : Addr) (x0 : Int32) (x1 : Int32) (x2 : Int32) (x3 : Int32) (x4 : Int32) (k_a1 : ClassId) (h0 : Heap) (n0 : Nat) (Z0 : n0 ≤ h0.size) (V_a1 : Arv Z h0 a1 k_a1 .char (5 : Int32) [(.int x0), (.int x1), (.int x2), (.int x3), (.int x4)] (.int (0 : Int32))) :
    MetFree l (⟨"com/example/archerfish/archerfish/index/TokenTable", "hash", "([CII)I"⟩ : MethodName) (head1 (Jvm.Cond.code (⟨"com/example/archerfish/archerfish/index/TokenTable", "hash", "([CII)I"⟩ : MethodName) prog_66_method_8_code 5 (some .int) :: ws) ({ frames := 0, cells := 0, slots := 0, locals := 0 } : Room)) (fun a U => a = #[(.ref a1), (.int (0 : Int32)), (.int (4 : Int32))] ∧ Z.Warmed39 U.vm ∧ U.heap = h0) (fun _ _ _ _ _ => True) (fun _ U o U' => ∃ v L, o = .returned v ∧ own_Q2_0_4 Z a1 x0 x1 x2 x3 x4 k_a1 h0 n0 v U'.heap L ∧ FrameEnd U o U' L ({ frames := 0, cells := 0, slots := 0, locals := 0 } : Room).cells ({ frames := 0, cells := 0, slots := 0, locals := 0 } : Room).slots) := by
  refine MetFree.of_bodySF (plainFor_of_name own_pn1) hisR ?_
  intro p e s m args below meth c s₁ Bd hml0 hP hK
  obtain ⟨rfl, hZ, hh⟩ := hP
  have hx := Bd.exec
  have hby := Bd.bytes
  have hml : c.maxLocals = 5 := hml0
  have hown : s.vm.findClass "com/example/archerfish/archerfish/index/TokenTable" = some m.cls := findClass_of_methodNamed Bd.named
  have hnm := (name_of_methodNamed Bd.named Bd.method).1
  have X0 : Stand p l e ({ frames := 0, cells := 0, slots := 0, locals := 0 } : Room) s m #[(.ref a1), (.int (0 : Int32)), (.int (4 : Int32))] below meth c s₁ [] 0 0 := Stand.of_body Bd
  have e0 : s₁.heap = h0 := by rw [← hh, Bd.state]; rfl
  have N0 := Fr.nil n0
  show OE FrameEnd p e below s (own_Q2_0_4 Z a1 x0 x1 x2 x3 x4 k_a1 h0 n0) ({ frames := 0, cells := 0, slots := 0, locals := 0 } : Room).cells ({ frames := 0, cells := 0, slots := 0, locals := 0 } : Room).slots s₁ (entryFrame m #[(.ref a1), (.int (0 : Int32)), (.int (4 : Int32))] 5)
  rw [own_ef_own_rm2_0_4]
  show OE _ p e below s _ _ _ s₁ (mkF m 0 #[.val (.ref a1), .val (.int (0 : Int32)), .val (.int (4 : Int32)), .unset, .unset] [])
  refine OE.iconst X0 hx hby own_d2_0 (0 : Int32) rfl ?_
  refine OE.istoreN X0 hx hby own_d2_1 (l' := #[.val (.ref a1), .val (.int (0 : Int32)), .val (.int (4 : Int32)), .val (.int (0 : Int32)), .unset]) rfl ?_
  refine OE.iloadN X0 hx hby own_d2_2 rfl ?_
  refine OE.istore X0 hx hby own_d2_3 (l' := #[.val (.ref a1), .val (.int (0 : Int32)), .val (.int (4 : Int32)), .val (.int (0 : Int32)), .val (.int (0 : Int32))]) rfl ?_
  refine OE.iload X0 hx hby own_d2_5 rfl ?_
  refine OE.iloadN X0 hx hby own_d2_7 rfl ?_
  refine OE.icmpNo X0 hx hby own_d2_8 (tlt (by decide : (0 : Int32) < (4 : Int32))).2.1 ?_
  refine OE.bipush X0 hx hby own_d2_11 (31 : Int32) rfl ?_
  refine OE.iloadN X0 hx hby own_d2_13 rfl ?_
  refine OE.imul X0 hx hby own_d2_14 ?_
  rw [(by decide : ((31 : Int32) * (0 : Int32)) = (0 : Int32))]
  refine OE.aloadN X0 hx hby own_d2_15 rfl rfl ?_
  refine OE.iload X0 hx hby own_d2_16 rfl ?_
  have Vo1 := V_a1
  obtain ⟨cl1, Ar1, -, Sz1, Nz1, Hz1, Gz1⟩ := Vo1
  have hin1 : ¬ ((0 : Int32) < 0 ∨ cl1.slots.size ≤ ((0 : Int32)).toNatClampNeg) := inb_of Sz1 ⟨by decide, by decide⟩
  have hat1 : cl1.slots[((0 : Int32)).toNatClampNeg]? = some (.int x0) := Has.at Hz1 hin1 rfl
  refine OE.of (X0.caload hx (j := (0 : Int32)) (v := (.int x0)) (by rw [e0]; exact Ar1.1) (State.isArrayOf_alike hZ.alike Ar1.2.1) Ar1.2.2 hin1 hat1 (g := (mkF m 18 #[.val (.ref a1), .val (.int (0 : Int32)), .val (.int (4 : Int32)), .val (.int (0 : Int32)), .val (.int (0 : Int32))] [(.int (0 : Int32)), (.ref a1), (.int (0 : Int32))])) rfl rfl (hb hby own_d2_18)) ?_
  show OE _ p e below s _ _ _ s₁ (mkF m 19 #[.val (.ref a1), .val (.int (0 : Int32)), .val (.int (4 : Int32)), .val (.int (0 : Int32)), .val (.int (0 : Int32))] [(.int x0), (.int (0 : Int32))])
  refine OE.iadd X0 hx hby own_d2_19 ?_
  refine OE.istoreN X0 hx hby own_d2_20 (l' := #[.val (.ref a1), .val (.int (0 : Int32)), .val (.int (4 : Int32)), .val (.int ((0 : Int32) + x0)), .val (.int (0 : Int32))]) rfl ?_
  refine OE.iinc X0 hx hby own_d2_21 rfl (l' := #[.val (.ref a1), .val (.int (0 : Int32)), .val (.int (4 : Int32)), .val (.int ((0 : Int32) + x0)), .val (.int ((0 : Int32) + (1 : Int32)))]) rfl ?_
  rw [(by decide : ((0 : Int32) + (1 : Int32)) = (1 : Int32))]
  refine OE.goto X0 hx hby (pc' := 5) own_d2_24 (h := ?_)
  refine OE.iload X0 hx hby own_d2_5 rfl ?_
  refine OE.iloadN X0 hx hby own_d2_7 rfl ?_
  refine OE.icmpNo X0 hx hby own_d2_8 (tlt (by decide : (1 : Int32) < (4 : Int32))).2.1 ?_
  refine OE.bipush X0 hx hby own_d2_11 (31 : Int32) rfl ?_
  refine OE.iloadN X0 hx hby own_d2_13 rfl ?_
  refine OE.imul X0 hx hby own_d2_14 ?_
  refine OE.aloadN X0 hx hby own_d2_15 rfl rfl ?_
  refine OE.iload X0 hx hby own_d2_16 rfl ?_
  have Vo2 := V_a1
  obtain ⟨cl2, Ar2, -, Sz2, Nz2, Hz2, Gz2⟩ := Vo2
  have hin2 : ¬ ((1 : Int32) < 0 ∨ cl2.slots.size ≤ ((1 : Int32)).toNatClampNeg) := inb_of Sz2 ⟨by decide, by decide⟩
  have hat2 : cl2.slots[((1 : Int32)).toNatClampNeg]? = some (.int x1) := Has.at Hz2 hin2 rfl
  refine OE.of (X0.caload hx (j := (1 : Int32)) (v := (.int x1)) (by rw [e0]; exact Ar2.1) (State.isArrayOf_alike hZ.alike Ar2.2.1) Ar2.2.2 hin2 hat2 (g := (mkF m 18 #[.val (.ref a1), .val (.int (0 : Int32)), .val (.int (4 : Int32)), .val (.int ((0 : Int32) + x0)), .val (.int (1 : Int32))] [(.int (1 : Int32)), (.ref a1), (.int ((31 : Int32) * ((0 : Int32) + x0)))])) rfl rfl (hb hby own_d2_18)) ?_
  show OE _ p e below s _ _ _ s₁ (mkF m 19 #[.val (.ref a1), .val (.int (0 : Int32)), .val (.int (4 : Int32)), .val (.int ((0 : Int32) + x0)), .val (.int (1 : Int32))] [(.int x1), (.int ((31 : Int32) * ((0 : Int32) + x0)))])
  refine OE.iadd X0 hx hby own_d2_19 ?_
  refine OE.istoreN X0 hx hby own_d2_20 (l' := #[.val (.ref a1), .val (.int (0 : Int32)), .val (.int (4 : Int32)), .val (.int (((31 : Int32) * ((0 : Int32) + x0)) + x1)), .val (.int (1 : Int32))]) rfl ?_
  refine OE.iinc X0 hx hby own_d2_21 rfl (l' := #[.val (.ref a1), .val (.int (0 : Int32)), .val (.int (4 : Int32)), .val (.int (((31 : Int32) * ((0 : Int32) + x0)) + x1)), .val (.int ((1 : Int32) + (1 : Int32)))]) rfl ?_
  rw [(by decide : ((1 : Int32) + (1 : Int32)) = (2 : Int32))]
  refine OE.goto X0 hx hby (pc' := 5) own_d2_24 (h := ?_)
  refine OE.iload X0 hx hby own_d2_5 rfl ?_
  refine OE.iloadN X0 hx hby own_d2_7 rfl ?_
  refine OE.icmpNo X0 hx hby own_d2_8 (tlt (by decide : (2 : Int32) < (4 : Int32))).2.1 ?_
  refine OE.bipush X0 hx hby own_d2_11 (31 : Int32) rfl ?_
  refine OE.iloadN X0 hx hby own_d2_13 rfl ?_
  refine OE.imul X0 hx hby own_d2_14 ?_
  refine OE.aloadN X0 hx hby own_d2_15 rfl rfl ?_
  refine OE.iload X0 hx hby own_d2_16 rfl ?_
  have Vo3 := V_a1
  obtain ⟨cl3, Ar3, -, Sz3, Nz3, Hz3, Gz3⟩ := Vo3
  have hin3 : ¬ ((2 : Int32) < 0 ∨ cl3.slots.size ≤ ((2 : Int32)).toNatClampNeg) := inb_of Sz3 ⟨by decide, by decide⟩
  have hat3 : cl3.slots[((2 : Int32)).toNatClampNeg]? = some (.int x2) := Has.at Hz3 hin3 rfl
  refine OE.of (X0.caload hx (j := (2 : Int32)) (v := (.int x2)) (by rw [e0]; exact Ar3.1) (State.isArrayOf_alike hZ.alike Ar3.2.1) Ar3.2.2 hin3 hat3 (g := (mkF m 18 #[.val (.ref a1), .val (.int (0 : Int32)), .val (.int (4 : Int32)), .val (.int (((31 : Int32) * ((0 : Int32) + x0)) + x1)), .val (.int (2 : Int32))] [(.int (2 : Int32)), (.ref a1), (.int ((31 : Int32) * (((31 : Int32) * ((0 : Int32) + x0)) + x1)))])) rfl rfl (hb hby own_d2_18)) ?_
  show OE _ p e below s _ _ _ s₁ (mkF m 19 #[.val (.ref a1), .val (.int (0 : Int32)), .val (.int (4 : Int32)), .val (.int (((31 : Int32) * ((0 : Int32) + x0)) + x1)), .val (.int (2 : Int32))] [(.int x2), (.int ((31 : Int32) * (((31 : Int32) * ((0 : Int32) + x0)) + x1)))])
  refine OE.iadd X0 hx hby own_d2_19 ?_
  refine OE.istoreN X0 hx hby own_d2_20 (l' := #[.val (.ref a1), .val (.int (0 : Int32)), .val (.int (4 : Int32)), .val (.int (((31 : Int32) * (((31 : Int32) * ((0 : Int32) + x0)) + x1)) + x2)), .val (.int (2 : Int32))]) rfl ?_
  refine OE.iinc X0 hx hby own_d2_21 rfl (l' := #[.val (.ref a1), .val (.int (0 : Int32)), .val (.int (4 : Int32)), .val (.int (((31 : Int32) * (((31 : Int32) * ((0 : Int32) + x0)) + x1)) + x2)), .val (.int ((2 : Int32) + (1 : Int32)))]) rfl ?_
  rw [(by decide : ((2 : Int32) + (1 : Int32)) = (3 : Int32))]
  refine OE.goto X0 hx hby (pc' := 5) own_d2_24 (h := ?_)
  refine OE.iload X0 hx hby own_d2_5 rfl ?_
  refine OE.iloadN X0 hx hby own_d2_7 rfl ?_
  refine OE.icmpNo X0 hx hby own_d2_8 (tlt (by decide : (3 : Int32) < (4 : Int32))).2.1 ?_
  refine OE.bipush X0 hx hby own_d2_11 (31 : Int32) rfl ?_
  refine OE.iloadN X0 hx hby own_d2_13 rfl ?_
  refine OE.imul X0 hx hby own_d2_14 ?_
  refine OE.aloadN X0 hx hby own_d2_15 rfl rfl ?_
  refine OE.iload X0 hx hby own_d2_16 rfl ?_
  have Vo4 := V_a1
  obtain ⟨cl4, Ar4, -, Sz4, Nz4, Hz4, Gz4⟩ := Vo4
  have hin4 : ¬ ((3 : Int32) < 0 ∨ cl4.slots.size ≤ ((3 : Int32)).toNatClampNeg) := inb_of Sz4 ⟨by decide, by decide⟩
  have hat4 : cl4.slots[((3 : Int32)).toNatClampNeg]? = some (.int x3) := Has.at Hz4 hin4 rfl
  refine OE.of (X0.caload hx (j := (3 : Int32)) (v := (.int x3)) (by rw [e0]; exact Ar4.1) (State.isArrayOf_alike hZ.alike Ar4.2.1) Ar4.2.2 hin4 hat4 (g := (mkF m 18 #[.val (.ref a1), .val (.int (0 : Int32)), .val (.int (4 : Int32)), .val (.int (((31 : Int32) * (((31 : Int32) * ((0 : Int32) + x0)) + x1)) + x2)), .val (.int (3 : Int32))] [(.int (3 : Int32)), (.ref a1), (.int ((31 : Int32) * (((31 : Int32) * (((31 : Int32) * ((0 : Int32) + x0)) + x1)) + x2)))])) rfl rfl (hb hby own_d2_18)) ?_
  show OE _ p e below s _ _ _ s₁ (mkF m 19 #[.val (.ref a1), .val (.int (0 : Int32)), .val (.int (4 : Int32)), .val (.int (((31 : Int32) * (((31 : Int32) * ((0 : Int32) + x0)) + x1)) + x2)), .val (.int (3 : Int32))] [(.int x3), (.int ((31 : Int32) * (((31 : Int32) * (((31 : Int32) * ((0 : Int32) + x0)) + x1)) + x2)))])
  refine OE.iadd X0 hx hby own_d2_19 ?_
  refine OE.istoreN X0 hx hby own_d2_20 (l' := #[.val (.ref a1), .val (.int (0 : Int32)), .val (.int (4 : Int32)), .val (.int (((31 : Int32) * (((31 : Int32) * (((31 : Int32) * ((0 : Int32) + x0)) + x1)) + x2)) + x3)), .val (.int (3 : Int32))]) rfl ?_
  refine OE.iinc X0 hx hby own_d2_21 rfl (l' := #[.val (.ref a1), .val (.int (0 : Int32)), .val (.int (4 : Int32)), .val (.int (((31 : Int32) * (((31 : Int32) * (((31 : Int32) * ((0 : Int32) + x0)) + x1)) + x2)) + x3)), .val (.int ((3 : Int32) + (1 : Int32)))]) rfl ?_
  rw [(by decide : ((3 : Int32) + (1 : Int32)) = (4 : Int32))]
  refine OE.goto X0 hx hby (pc' := 5) own_d2_24 (h := ?_)
  refine OE.iload X0 hx hby own_d2_5 rfl ?_
  refine OE.iloadN X0 hx hby own_d2_7 rfl ?_
  refine OE.icmpYes X0 hx hby (pc' := 27) own_d2_8 (flt (by decide : ¬ ((4 : Int32) < (4 : Int32)))).2.1 (h := ?_)
  refine OE.iloadN X0 hx hby own_d2_27 rfl ?_
  refine OE.of (X0.ldcInt hx hown (mvT hZ (hw _ (List.mem_of_getElem? (i := 12) rfl))) (g := (mkF m 28 #[.val (.ref a1), .val (.int (0 : Int32)), .val (.int (4 : Int32)), .val (.int (((31 : Int32) * (((31 : Int32) * (((31 : Int32) * ((0 : Int32) + x0)) + x1)) + x2)) + x3)), .val (.int (4 : Int32))] [(.int (((31 : Int32) * (((31 : Int32) * (((31 : Int32) * ((0 : Int32) + x0)) + x1)) + x2)) + x3))])) rfl (hb hby own_d2_28)) ?_
  show OE _ p e below s _ _ _ s₁ (mkF m 30 #[.val (.ref a1), .val (.int (0 : Int32)), .val (.int (4 : Int32)), .val (.int (((31 : Int32) * (((31 : Int32) * (((31 : Int32) * ((0 : Int32) + x0)) + x1)) + x2)) + x3)), .val (.int (4 : Int32))] [(.int (-1640531527 : Int32)), (.int (((31 : Int32) * (((31 : Int32) * (((31 : Int32) * ((0 : Int32) + x0)) + x1)) + x2)) + x3))])
  refine OE.imul X0 hx hby own_d2_30 ?_
  refine OE.istoreN X0 hx hby own_d2_31 (l' := #[.val (.ref a1), .val (.int (0 : Int32)), .val (.int (4 : Int32)), .val (.int ((((31 : Int32) * (((31 : Int32) * (((31 : Int32) * ((0 : Int32) + x0)) + x1)) + x2)) + x3) * (-1640531527 : Int32))), .val (.int (4 : Int32))]) rfl ?_
  refine OE.iloadN X0 hx hby own_d2_32 rfl ?_
  refine OE.iloadN X0 hx hby own_d2_33 rfl ?_
  refine OE.bipush X0 hx hby own_d2_34 (16 : Int32) rfl ?_
  refine OE.iushr X0 hx hby own_d2_36 ?_
  refine OE.ixor X0 hx hby own_d2_37 ?_
  refine OE.retI X0 hx Bd.returns Bd.notSynchronized (hb hby own_d2_38) (by decide) (by decide) ?_
  rw [e0]
  exact ⟨rfl, N0, rfl⟩
def own_Q2_0_5 (Z : State) (a1 : Addr) (x0 : Int32) (x1 : Int32) (x2 : Int32) (x3 : Int32) (x4 : Int32) (k_a1 : ClassId) (h0 : Heap) (n0 : Nat) (v : Option Value) (h : Heap) (L : List Loc) : Prop := v = some (.int (((((31 : Int32) * (((31 : Int32) * (((31 : Int32) * (((31 : Int32) * ((0 : Int32) + x0)) + x1)) + x2)) + x3)) + x4) * (-1640531527 : Int32)) ^^^ ((((((31 : Int32) * (((31 : Int32) * (((31 : Int32) * (((31 : Int32) * ((0 : Int32) + x0)) + x1)) + x2)) + x3)) + x4) * (-1640531527 : Int32)).toUInt32 >>> ((16 : Int32) &&& 31).toUInt32).toInt32))) ∧ Fr n0 L ∧ h = h0
theorem own_ef_own_rm2_0_5 (m : MethodId) (a1 : Addr) : entryFrame m #[(.ref a1), (.int (0 : Int32)), (.int (5 : Int32))] 5 = mkF m 0 #[.val (.ref a1), .val (.int (0 : Int32)), .val (.int (5 : Int32)), .unset, .unset] [] := by first | (simp [entryFrame, mkF, argsToLocals, Value.category]; done) | rfl
set_option maxRecDepth 65536 in
set_option maxHeartbeats 40000000 in
theorem own_rm2_0_5 (l : Launch) (Z : State) (a0 : Array Value) (hw : ∀ d ∈ tables_1, d.before a0 Z = true) (ws : List Jvm.Cond) (a1 : Addr) (x0 : Int32) (x1 : Int32) (x2 : Int32) (x3 : Int32) (x4 : Int32) (k_a1 : ClassId) (h0 : Heap) (n0 : Nat) (Z0 : n0 ≤ h0.size) (V_a1 : Arv Z h0 a1 k_a1 .char (5 : Int32) [(.int x0), (.int x1), (.int x2), (.int x3), (.int x4)] (.int (0 : Int32))) :
    MetFree l (⟨"com/example/archerfish/archerfish/index/TokenTable", "hash", "([CII)I"⟩ : MethodName) (head1 (Jvm.Cond.code (⟨"com/example/archerfish/archerfish/index/TokenTable", "hash", "([CII)I"⟩ : MethodName) prog_66_method_8_code 5 (some .int) :: ws) ({ frames := 0, cells := 0, slots := 0, locals := 0 } : Room)) (fun a U => a = #[(.ref a1), (.int (0 : Int32)), (.int (5 : Int32))] ∧ Z.Warmed39 U.vm ∧ U.heap = h0) (fun _ _ _ _ _ => True) (fun _ U o U' => ∃ v L, o = .returned v ∧ own_Q2_0_5 Z a1 x0 x1 x2 x3 x4 k_a1 h0 n0 v U'.heap L ∧ FrameEnd U o U' L ({ frames := 0, cells := 0, slots := 0, locals := 0 } : Room).cells ({ frames := 0, cells := 0, slots := 0, locals := 0 } : Room).slots) := by
  refine MetFree.of_bodySF (plainFor_of_name own_pn1) hisR ?_
  intro p e s m args below meth c s₁ Bd hml0 hP hK
  obtain ⟨rfl, hZ, hh⟩ := hP
  have hx := Bd.exec
  have hby := Bd.bytes
  have hml : c.maxLocals = 5 := hml0
  have hown : s.vm.findClass "com/example/archerfish/archerfish/index/TokenTable" = some m.cls := findClass_of_methodNamed Bd.named
  have hnm := (name_of_methodNamed Bd.named Bd.method).1
  have X0 : Stand p l e ({ frames := 0, cells := 0, slots := 0, locals := 0 } : Room) s m #[(.ref a1), (.int (0 : Int32)), (.int (5 : Int32))] below meth c s₁ [] 0 0 := Stand.of_body Bd
  have e0 : s₁.heap = h0 := by rw [← hh, Bd.state]; rfl
  have N0 := Fr.nil n0
  show OE FrameEnd p e below s (own_Q2_0_5 Z a1 x0 x1 x2 x3 x4 k_a1 h0 n0) ({ frames := 0, cells := 0, slots := 0, locals := 0 } : Room).cells ({ frames := 0, cells := 0, slots := 0, locals := 0 } : Room).slots s₁ (entryFrame m #[(.ref a1), (.int (0 : Int32)), (.int (5 : Int32))] 5)
  rw [own_ef_own_rm2_0_5]
  show OE _ p e below s _ _ _ s₁ (mkF m 0 #[.val (.ref a1), .val (.int (0 : Int32)), .val (.int (5 : Int32)), .unset, .unset] [])
  refine OE.iconst X0 hx hby own_d2_0 (0 : Int32) rfl ?_
  refine OE.istoreN X0 hx hby own_d2_1 (l' := #[.val (.ref a1), .val (.int (0 : Int32)), .val (.int (5 : Int32)), .val (.int (0 : Int32)), .unset]) rfl ?_
  refine OE.iloadN X0 hx hby own_d2_2 rfl ?_
  refine OE.istore X0 hx hby own_d2_3 (l' := #[.val (.ref a1), .val (.int (0 : Int32)), .val (.int (5 : Int32)), .val (.int (0 : Int32)), .val (.int (0 : Int32))]) rfl ?_
  refine OE.iload X0 hx hby own_d2_5 rfl ?_
  refine OE.iloadN X0 hx hby own_d2_7 rfl ?_
  refine OE.icmpNo X0 hx hby own_d2_8 (tlt (by decide : (0 : Int32) < (5 : Int32))).2.1 ?_
  refine OE.bipush X0 hx hby own_d2_11 (31 : Int32) rfl ?_
  refine OE.iloadN X0 hx hby own_d2_13 rfl ?_
  refine OE.imul X0 hx hby own_d2_14 ?_
  rw [(by decide : ((31 : Int32) * (0 : Int32)) = (0 : Int32))]
  refine OE.aloadN X0 hx hby own_d2_15 rfl rfl ?_
  refine OE.iload X0 hx hby own_d2_16 rfl ?_
  have Vo1 := V_a1
  obtain ⟨cl1, Ar1, -, Sz1, Nz1, Hz1, Gz1⟩ := Vo1
  have hin1 : ¬ ((0 : Int32) < 0 ∨ cl1.slots.size ≤ ((0 : Int32)).toNatClampNeg) := inb_of Sz1 ⟨by decide, by decide⟩
  have hat1 : cl1.slots[((0 : Int32)).toNatClampNeg]? = some (.int x0) := Has.at Hz1 hin1 rfl
  refine OE.of (X0.caload hx (j := (0 : Int32)) (v := (.int x0)) (by rw [e0]; exact Ar1.1) (State.isArrayOf_alike hZ.alike Ar1.2.1) Ar1.2.2 hin1 hat1 (g := (mkF m 18 #[.val (.ref a1), .val (.int (0 : Int32)), .val (.int (5 : Int32)), .val (.int (0 : Int32)), .val (.int (0 : Int32))] [(.int (0 : Int32)), (.ref a1), (.int (0 : Int32))])) rfl rfl (hb hby own_d2_18)) ?_
  show OE _ p e below s _ _ _ s₁ (mkF m 19 #[.val (.ref a1), .val (.int (0 : Int32)), .val (.int (5 : Int32)), .val (.int (0 : Int32)), .val (.int (0 : Int32))] [(.int x0), (.int (0 : Int32))])
  refine OE.iadd X0 hx hby own_d2_19 ?_
  refine OE.istoreN X0 hx hby own_d2_20 (l' := #[.val (.ref a1), .val (.int (0 : Int32)), .val (.int (5 : Int32)), .val (.int ((0 : Int32) + x0)), .val (.int (0 : Int32))]) rfl ?_
  refine OE.iinc X0 hx hby own_d2_21 rfl (l' := #[.val (.ref a1), .val (.int (0 : Int32)), .val (.int (5 : Int32)), .val (.int ((0 : Int32) + x0)), .val (.int ((0 : Int32) + (1 : Int32)))]) rfl ?_
  rw [(by decide : ((0 : Int32) + (1 : Int32)) = (1 : Int32))]
  refine OE.goto X0 hx hby (pc' := 5) own_d2_24 (h := ?_)
  refine OE.iload X0 hx hby own_d2_5 rfl ?_
  refine OE.iloadN X0 hx hby own_d2_7 rfl ?_
  refine OE.icmpNo X0 hx hby own_d2_8 (tlt (by decide : (1 : Int32) < (5 : Int32))).2.1 ?_
  refine OE.bipush X0 hx hby own_d2_11 (31 : Int32) rfl ?_
  refine OE.iloadN X0 hx hby own_d2_13 rfl ?_
  refine OE.imul X0 hx hby own_d2_14 ?_
  refine OE.aloadN X0 hx hby own_d2_15 rfl rfl ?_
  refine OE.iload X0 hx hby own_d2_16 rfl ?_
  have Vo2 := V_a1
  obtain ⟨cl2, Ar2, -, Sz2, Nz2, Hz2, Gz2⟩ := Vo2
  have hin2 : ¬ ((1 : Int32) < 0 ∨ cl2.slots.size ≤ ((1 : Int32)).toNatClampNeg) := inb_of Sz2 ⟨by decide, by decide⟩
  have hat2 : cl2.slots[((1 : Int32)).toNatClampNeg]? = some (.int x1) := Has.at Hz2 hin2 rfl
  refine OE.of (X0.caload hx (j := (1 : Int32)) (v := (.int x1)) (by rw [e0]; exact Ar2.1) (State.isArrayOf_alike hZ.alike Ar2.2.1) Ar2.2.2 hin2 hat2 (g := (mkF m 18 #[.val (.ref a1), .val (.int (0 : Int32)), .val (.int (5 : Int32)), .val (.int ((0 : Int32) + x0)), .val (.int (1 : Int32))] [(.int (1 : Int32)), (.ref a1), (.int ((31 : Int32) * ((0 : Int32) + x0)))])) rfl rfl (hb hby own_d2_18)) ?_
  show OE _ p e below s _ _ _ s₁ (mkF m 19 #[.val (.ref a1), .val (.int (0 : Int32)), .val (.int (5 : Int32)), .val (.int ((0 : Int32) + x0)), .val (.int (1 : Int32))] [(.int x1), (.int ((31 : Int32) * ((0 : Int32) + x0)))])
  refine OE.iadd X0 hx hby own_d2_19 ?_
  refine OE.istoreN X0 hx hby own_d2_20 (l' := #[.val (.ref a1), .val (.int (0 : Int32)), .val (.int (5 : Int32)), .val (.int (((31 : Int32) * ((0 : Int32) + x0)) + x1)), .val (.int (1 : Int32))]) rfl ?_
  refine OE.iinc X0 hx hby own_d2_21 rfl (l' := #[.val (.ref a1), .val (.int (0 : Int32)), .val (.int (5 : Int32)), .val (.int (((31 : Int32) * ((0 : Int32) + x0)) + x1)), .val (.int ((1 : Int32) + (1 : Int32)))]) rfl ?_
  rw [(by decide : ((1 : Int32) + (1 : Int32)) = (2 : Int32))]
  refine OE.goto X0 hx hby (pc' := 5) own_d2_24 (h := ?_)
  refine OE.iload X0 hx hby own_d2_5 rfl ?_
  refine OE.iloadN X0 hx hby own_d2_7 rfl ?_
  refine OE.icmpNo X0 hx hby own_d2_8 (tlt (by decide : (2 : Int32) < (5 : Int32))).2.1 ?_
  refine OE.bipush X0 hx hby own_d2_11 (31 : Int32) rfl ?_
  refine OE.iloadN X0 hx hby own_d2_13 rfl ?_
  refine OE.imul X0 hx hby own_d2_14 ?_
  refine OE.aloadN X0 hx hby own_d2_15 rfl rfl ?_
  refine OE.iload X0 hx hby own_d2_16 rfl ?_
  have Vo3 := V_a1
  obtain ⟨cl3, Ar3, -, Sz3, Nz3, Hz3, Gz3⟩ := Vo3
  have hin3 : ¬ ((2 : Int32) < 0 ∨ cl3.slots.size ≤ ((2 : Int32)).toNatClampNeg) := inb_of Sz3 ⟨by decide, by decide⟩
  have hat3 : cl3.slots[((2 : Int32)).toNatClampNeg]? = some (.int x2) := Has.at Hz3 hin3 rfl
  refine OE.of (X0.caload hx (j := (2 : Int32)) (v := (.int x2)) (by rw [e0]; exact Ar3.1) (State.isArrayOf_alike hZ.alike Ar3.2.1) Ar3.2.2 hin3 hat3 (g := (mkF m 18 #[.val (.ref a1), .val (.int (0 : Int32)), .val (.int (5 : Int32)), .val (.int (((31 : Int32) * ((0 : Int32) + x0)) + x1)), .val (.int (2 : Int32))] [(.int (2 : Int32)), (.ref a1), (.int ((31 : Int32) * (((31 : Int32) * ((0 : Int32) + x0)) + x1)))])) rfl rfl (hb hby own_d2_18)) ?_
  show OE _ p e below s _ _ _ s₁ (mkF m 19 #[.val (.ref a1), .val (.int (0 : Int32)), .val (.int (5 : Int32)), .val (.int (((31 : Int32) * ((0 : Int32) + x0)) + x1)), .val (.int (2 : Int32))] [(.int x2), (.int ((31 : Int32) * (((31 : Int32) * ((0 : Int32) + x0)) + x1)))])
  refine OE.iadd X0 hx hby own_d2_19 ?_
  refine OE.istoreN X0 hx hby own_d2_20 (l' := #[.val (.ref a1), .val (.int (0 : Int32)), .val (.int (5 : Int32)), .val (.int (((31 : Int32) * (((31 : Int32) * ((0 : Int32) + x0)) + x1)) + x2)), .val (.int (2 : Int32))]) rfl ?_
  refine OE.iinc X0 hx hby own_d2_21 rfl (l' := #[.val (.ref a1), .val (.int (0 : Int32)), .val (.int (5 : Int32)), .val (.int (((31 : Int32) * (((31 : Int32) * ((0 : Int32) + x0)) + x1)) + x2)), .val (.int ((2 : Int32) + (1 : Int32)))]) rfl ?_
  rw [(by decide : ((2 : Int32) + (1 : Int32)) = (3 : Int32))]
  refine OE.goto X0 hx hby (pc' := 5) own_d2_24 (h := ?_)
  refine OE.iload X0 hx hby own_d2_5 rfl ?_
  refine OE.iloadN X0 hx hby own_d2_7 rfl ?_
  refine OE.icmpNo X0 hx hby own_d2_8 (tlt (by decide : (3 : Int32) < (5 : Int32))).2.1 ?_
  refine OE.bipush X0 hx hby own_d2_11 (31 : Int32) rfl ?_
  refine OE.iloadN X0 hx hby own_d2_13 rfl ?_
  refine OE.imul X0 hx hby own_d2_14 ?_
  refine OE.aloadN X0 hx hby own_d2_15 rfl rfl ?_
  refine OE.iload X0 hx hby own_d2_16 rfl ?_
  have Vo4 := V_a1
  obtain ⟨cl4, Ar4, -, Sz4, Nz4, Hz4, Gz4⟩ := Vo4
  have hin4 : ¬ ((3 : Int32) < 0 ∨ cl4.slots.size ≤ ((3 : Int32)).toNatClampNeg) := inb_of Sz4 ⟨by decide, by decide⟩
  have hat4 : cl4.slots[((3 : Int32)).toNatClampNeg]? = some (.int x3) := Has.at Hz4 hin4 rfl
  refine OE.of (X0.caload hx (j := (3 : Int32)) (v := (.int x3)) (by rw [e0]; exact Ar4.1) (State.isArrayOf_alike hZ.alike Ar4.2.1) Ar4.2.2 hin4 hat4 (g := (mkF m 18 #[.val (.ref a1), .val (.int (0 : Int32)), .val (.int (5 : Int32)), .val (.int (((31 : Int32) * (((31 : Int32) * ((0 : Int32) + x0)) + x1)) + x2)), .val (.int (3 : Int32))] [(.int (3 : Int32)), (.ref a1), (.int ((31 : Int32) * (((31 : Int32) * (((31 : Int32) * ((0 : Int32) + x0)) + x1)) + x2)))])) rfl rfl (hb hby own_d2_18)) ?_
  show OE _ p e below s _ _ _ s₁ (mkF m 19 #[.val (.ref a1), .val (.int (0 : Int32)), .val (.int (5 : Int32)), .val (.int (((31 : Int32) * (((31 : Int32) * ((0 : Int32) + x0)) + x1)) + x2)), .val (.int (3 : Int32))] [(.int x3), (.int ((31 : Int32) * (((31 : Int32) * (((31 : Int32) * ((0 : Int32) + x0)) + x1)) + x2)))])
  refine OE.iadd X0 hx hby own_d2_19 ?_
  refine OE.istoreN X0 hx hby own_d2_20 (l' := #[.val (.ref a1), .val (.int (0 : Int32)), .val (.int (5 : Int32)), .val (.int (((31 : Int32) * (((31 : Int32) * (((31 : Int32) * ((0 : Int32) + x0)) + x1)) + x2)) + x3)), .val (.int (3 : Int32))]) rfl ?_
  refine OE.iinc X0 hx hby own_d2_21 rfl (l' := #[.val (.ref a1), .val (.int (0 : Int32)), .val (.int (5 : Int32)), .val (.int (((31 : Int32) * (((31 : Int32) * (((31 : Int32) * ((0 : Int32) + x0)) + x1)) + x2)) + x3)), .val (.int ((3 : Int32) + (1 : Int32)))]) rfl ?_
  rw [(by decide : ((3 : Int32) + (1 : Int32)) = (4 : Int32))]
  refine OE.goto X0 hx hby (pc' := 5) own_d2_24 (h := ?_)
  refine OE.iload X0 hx hby own_d2_5 rfl ?_
  refine OE.iloadN X0 hx hby own_d2_7 rfl ?_
  refine OE.icmpNo X0 hx hby own_d2_8 (tlt (by decide : (4 : Int32) < (5 : Int32))).2.1 ?_
  refine OE.bipush X0 hx hby own_d2_11 (31 : Int32) rfl ?_
  refine OE.iloadN X0 hx hby own_d2_13 rfl ?_
  refine OE.imul X0 hx hby own_d2_14 ?_
  refine OE.aloadN X0 hx hby own_d2_15 rfl rfl ?_
  refine OE.iload X0 hx hby own_d2_16 rfl ?_
  have Vo5 := V_a1
  obtain ⟨cl5, Ar5, -, Sz5, Nz5, Hz5, Gz5⟩ := Vo5
  have hin5 : ¬ ((4 : Int32) < 0 ∨ cl5.slots.size ≤ ((4 : Int32)).toNatClampNeg) := inb_of Sz5 ⟨by decide, by decide⟩
  have hat5 : cl5.slots[((4 : Int32)).toNatClampNeg]? = some (.int x4) := Has.at Hz5 hin5 rfl
  refine OE.of (X0.caload hx (j := (4 : Int32)) (v := (.int x4)) (by rw [e0]; exact Ar5.1) (State.isArrayOf_alike hZ.alike Ar5.2.1) Ar5.2.2 hin5 hat5 (g := (mkF m 18 #[.val (.ref a1), .val (.int (0 : Int32)), .val (.int (5 : Int32)), .val (.int (((31 : Int32) * (((31 : Int32) * (((31 : Int32) * ((0 : Int32) + x0)) + x1)) + x2)) + x3)), .val (.int (4 : Int32))] [(.int (4 : Int32)), (.ref a1), (.int ((31 : Int32) * (((31 : Int32) * (((31 : Int32) * (((31 : Int32) * ((0 : Int32) + x0)) + x1)) + x2)) + x3)))])) rfl rfl (hb hby own_d2_18)) ?_
  show OE _ p e below s _ _ _ s₁ (mkF m 19 #[.val (.ref a1), .val (.int (0 : Int32)), .val (.int (5 : Int32)), .val (.int (((31 : Int32) * (((31 : Int32) * (((31 : Int32) * ((0 : Int32) + x0)) + x1)) + x2)) + x3)), .val (.int (4 : Int32))] [(.int x4), (.int ((31 : Int32) * (((31 : Int32) * (((31 : Int32) * (((31 : Int32) * ((0 : Int32) + x0)) + x1)) + x2)) + x3)))])
  refine OE.iadd X0 hx hby own_d2_19 ?_
  refine OE.istoreN X0 hx hby own_d2_20 (l' := #[.val (.ref a1), .val (.int (0 : Int32)), .val (.int (5 : Int32)), .val (.int (((31 : Int32) * (((31 : Int32) * (((31 : Int32) * (((31 : Int32) * ((0 : Int32) + x0)) + x1)) + x2)) + x3)) + x4)), .val (.int (4 : Int32))]) rfl ?_
  refine OE.iinc X0 hx hby own_d2_21 rfl (l' := #[.val (.ref a1), .val (.int (0 : Int32)), .val (.int (5 : Int32)), .val (.int (((31 : Int32) * (((31 : Int32) * (((31 : Int32) * (((31 : Int32) * ((0 : Int32) + x0)) + x1)) + x2)) + x3)) + x4)), .val (.int ((4 : Int32) + (1 : Int32)))]) rfl ?_
  rw [(by decide : ((4 : Int32) + (1 : Int32)) = (5 : Int32))]
  refine OE.goto X0 hx hby (pc' := 5) own_d2_24 (h := ?_)
  refine OE.iload X0 hx hby own_d2_5 rfl ?_
  refine OE.iloadN X0 hx hby own_d2_7 rfl ?_
  refine OE.icmpYes X0 hx hby (pc' := 27) own_d2_8 (flt (by decide : ¬ ((5 : Int32) < (5 : Int32)))).2.1 (h := ?_)
  refine OE.iloadN X0 hx hby own_d2_27 rfl ?_
  refine OE.of (X0.ldcInt hx hown (mvT hZ (hw _ (List.mem_of_getElem? (i := 12) rfl))) (g := (mkF m 28 #[.val (.ref a1), .val (.int (0 : Int32)), .val (.int (5 : Int32)), .val (.int (((31 : Int32) * (((31 : Int32) * (((31 : Int32) * (((31 : Int32) * ((0 : Int32) + x0)) + x1)) + x2)) + x3)) + x4)), .val (.int (5 : Int32))] [(.int (((31 : Int32) * (((31 : Int32) * (((31 : Int32) * (((31 : Int32) * ((0 : Int32) + x0)) + x1)) + x2)) + x3)) + x4))])) rfl (hb hby own_d2_28)) ?_
  show OE _ p e below s _ _ _ s₁ (mkF m 30 #[.val (.ref a1), .val (.int (0 : Int32)), .val (.int (5 : Int32)), .val (.int (((31 : Int32) * (((31 : Int32) * (((31 : Int32) * (((31 : Int32) * ((0 : Int32) + x0)) + x1)) + x2)) + x3)) + x4)), .val (.int (5 : Int32))] [(.int (-1640531527 : Int32)), (.int (((31 : Int32) * (((31 : Int32) * (((31 : Int32) * (((31 : Int32) * ((0 : Int32) + x0)) + x1)) + x2)) + x3)) + x4))])
  refine OE.imul X0 hx hby own_d2_30 ?_
  refine OE.istoreN X0 hx hby own_d2_31 (l' := #[.val (.ref a1), .val (.int (0 : Int32)), .val (.int (5 : Int32)), .val (.int ((((31 : Int32) * (((31 : Int32) * (((31 : Int32) * (((31 : Int32) * ((0 : Int32) + x0)) + x1)) + x2)) + x3)) + x4) * (-1640531527 : Int32))), .val (.int (5 : Int32))]) rfl ?_
  refine OE.iloadN X0 hx hby own_d2_32 rfl ?_
  refine OE.iloadN X0 hx hby own_d2_33 rfl ?_
  refine OE.bipush X0 hx hby own_d2_34 (16 : Int32) rfl ?_
  refine OE.iushr X0 hx hby own_d2_36 ?_
  refine OE.ixor X0 hx hby own_d2_37 ?_
  refine OE.retI X0 hx Bd.returns Bd.notSynchronized (hb hby own_d2_38) (by decide) (by decide) ?_
  rw [e0]
  exact ⟨rfl, N0, rfl⟩
def own_Q2_1_0 (Z : State) (a1 : Addr) (x0 : Int32) (x1 : Int32) (x2 : Int32) (x3 : Int32) (x4 : Int32) (k_a1 : ClassId) (h0 : Heap) (n0 : Nat) (v : Option Value) (h : Heap) (L : List Loc) : Prop := v = some (.int ((0 : Int32) ^^^ (((0 : Int32).toUInt32 >>> ((16 : Int32) &&& 31).toUInt32).toInt32))) ∧ Fr n0 L ∧ h = h0
theorem own_ef_own_rm2_1_0 (m : MethodId) (a1 : Addr) : entryFrame m #[(.ref a1), (.int (1 : Int32)), (.int (1 : Int32))] 5 = mkF m 0 #[.val (.ref a1), .val (.int (1 : Int32)), .val (.int (1 : Int32)), .unset, .unset] [] := by first | (simp [entryFrame, mkF, argsToLocals, Value.category]; done) | rfl
set_option maxRecDepth 65536 in
set_option maxHeartbeats 40000000 in
theorem own_rm2_1_0 (l : Launch) (Z : State) (a0 : Array Value) (hw : ∀ d ∈ tables_1, d.before a0 Z = true) (ws : List Jvm.Cond) (a1 : Addr) (x0 : Int32) (x1 : Int32) (x2 : Int32) (x3 : Int32) (x4 : Int32) (k_a1 : ClassId) (h0 : Heap) (n0 : Nat) (Z0 : n0 ≤ h0.size) (V_a1 : Arv Z h0 a1 k_a1 .char (5 : Int32) [(.int x0), (.int x1), (.int x2), (.int x3), (.int x4)] (.int (0 : Int32))) :
    MetFree l (⟨"com/example/archerfish/archerfish/index/TokenTable", "hash", "([CII)I"⟩ : MethodName) (head1 (Jvm.Cond.code (⟨"com/example/archerfish/archerfish/index/TokenTable", "hash", "([CII)I"⟩ : MethodName) prog_66_method_8_code 5 (some .int) :: ws) ({ frames := 0, cells := 0, slots := 0, locals := 0 } : Room)) (fun a U => a = #[(.ref a1), (.int (1 : Int32)), (.int (1 : Int32))] ∧ Z.Warmed39 U.vm ∧ U.heap = h0) (fun _ _ _ _ _ => True) (fun _ U o U' => ∃ v L, o = .returned v ∧ own_Q2_1_0 Z a1 x0 x1 x2 x3 x4 k_a1 h0 n0 v U'.heap L ∧ FrameEnd U o U' L ({ frames := 0, cells := 0, slots := 0, locals := 0 } : Room).cells ({ frames := 0, cells := 0, slots := 0, locals := 0 } : Room).slots) := by
  refine MetFree.of_bodySF (plainFor_of_name own_pn1) hisR ?_
  intro p e s m args below meth c s₁ Bd hml0 hP hK
  obtain ⟨rfl, hZ, hh⟩ := hP
  have hx := Bd.exec
  have hby := Bd.bytes
  have hml : c.maxLocals = 5 := hml0
  have hown : s.vm.findClass "com/example/archerfish/archerfish/index/TokenTable" = some m.cls := findClass_of_methodNamed Bd.named
  have hnm := (name_of_methodNamed Bd.named Bd.method).1
  have X0 : Stand p l e ({ frames := 0, cells := 0, slots := 0, locals := 0 } : Room) s m #[(.ref a1), (.int (1 : Int32)), (.int (1 : Int32))] below meth c s₁ [] 0 0 := Stand.of_body Bd
  have e0 : s₁.heap = h0 := by rw [← hh, Bd.state]; rfl
  have N0 := Fr.nil n0
  show OE FrameEnd p e below s (own_Q2_1_0 Z a1 x0 x1 x2 x3 x4 k_a1 h0 n0) ({ frames := 0, cells := 0, slots := 0, locals := 0 } : Room).cells ({ frames := 0, cells := 0, slots := 0, locals := 0 } : Room).slots s₁ (entryFrame m #[(.ref a1), (.int (1 : Int32)), (.int (1 : Int32))] 5)
  rw [own_ef_own_rm2_1_0]
  show OE _ p e below s _ _ _ s₁ (mkF m 0 #[.val (.ref a1), .val (.int (1 : Int32)), .val (.int (1 : Int32)), .unset, .unset] [])
  refine OE.iconst X0 hx hby own_d2_0 (0 : Int32) rfl ?_
  refine OE.istoreN X0 hx hby own_d2_1 (l' := #[.val (.ref a1), .val (.int (1 : Int32)), .val (.int (1 : Int32)), .val (.int (0 : Int32)), .unset]) rfl ?_
  refine OE.iloadN X0 hx hby own_d2_2 rfl ?_
  refine OE.istore X0 hx hby own_d2_3 (l' := #[.val (.ref a1), .val (.int (1 : Int32)), .val (.int (1 : Int32)), .val (.int (0 : Int32)), .val (.int (1 : Int32))]) rfl ?_
  refine OE.iload X0 hx hby own_d2_5 rfl ?_
  refine OE.iloadN X0 hx hby own_d2_7 rfl ?_
  refine OE.icmpYes X0 hx hby (pc' := 27) own_d2_8 (flt (by decide : ¬ ((1 : Int32) < (1 : Int32)))).2.1 (h := ?_)
  refine OE.iloadN X0 hx hby own_d2_27 rfl ?_
  refine OE.of (X0.ldcInt hx hown (mvT hZ (hw _ (List.mem_of_getElem? (i := 12) rfl))) (g := (mkF m 28 #[.val (.ref a1), .val (.int (1 : Int32)), .val (.int (1 : Int32)), .val (.int (0 : Int32)), .val (.int (1 : Int32))] [(.int (0 : Int32))])) rfl (hb hby own_d2_28)) ?_
  show OE _ p e below s _ _ _ s₁ (mkF m 30 #[.val (.ref a1), .val (.int (1 : Int32)), .val (.int (1 : Int32)), .val (.int (0 : Int32)), .val (.int (1 : Int32))] [(.int (-1640531527 : Int32)), (.int (0 : Int32))])
  refine OE.imul X0 hx hby own_d2_30 ?_
  rw [(by decide : ((0 : Int32) * (-1640531527 : Int32)) = (0 : Int32))]
  refine OE.istoreN X0 hx hby own_d2_31 (l' := #[.val (.ref a1), .val (.int (1 : Int32)), .val (.int (1 : Int32)), .val (.int (0 : Int32)), .val (.int (1 : Int32))]) rfl ?_
  refine OE.iloadN X0 hx hby own_d2_32 rfl ?_
  refine OE.iloadN X0 hx hby own_d2_33 rfl ?_
  refine OE.bipush X0 hx hby own_d2_34 (16 : Int32) rfl ?_
  refine OE.iushr X0 hx hby own_d2_36 ?_
  refine OE.ixor X0 hx hby own_d2_37 ?_
  refine OE.retI X0 hx Bd.returns Bd.notSynchronized (hb hby own_d2_38) (by decide) (by decide) ?_
  rw [e0]
  exact ⟨rfl, N0, rfl⟩
def own_Q2_1_1 (Z : State) (a1 : Addr) (x0 : Int32) (x1 : Int32) (x2 : Int32) (x3 : Int32) (x4 : Int32) (k_a1 : ClassId) (h0 : Heap) (n0 : Nat) (v : Option Value) (h : Heap) (L : List Loc) : Prop := v = some (.int ((((0 : Int32) + x1) * (-1640531527 : Int32)) ^^^ (((((0 : Int32) + x1) * (-1640531527 : Int32)).toUInt32 >>> ((16 : Int32) &&& 31).toUInt32).toInt32))) ∧ Fr n0 L ∧ h = h0
theorem own_ef_own_rm2_1_1 (m : MethodId) (a1 : Addr) : entryFrame m #[(.ref a1), (.int (1 : Int32)), (.int (2 : Int32))] 5 = mkF m 0 #[.val (.ref a1), .val (.int (1 : Int32)), .val (.int (2 : Int32)), .unset, .unset] [] := by first | (simp [entryFrame, mkF, argsToLocals, Value.category]; done) | rfl
set_option maxRecDepth 65536 in
set_option maxHeartbeats 40000000 in
theorem own_rm2_1_1 (l : Launch) (Z : State) (a0 : Array Value) (hw : ∀ d ∈ tables_1, d.before a0 Z = true) (ws : List Jvm.Cond) (a1 : Addr) (x0 : Int32) (x1 : Int32) (x2 : Int32) (x3 : Int32) (x4 : Int32) (k_a1 : ClassId) (h0 : Heap) (n0 : Nat) (Z0 : n0 ≤ h0.size) (V_a1 : Arv Z h0 a1 k_a1 .char (5 : Int32) [(.int x0), (.int x1), (.int x2), (.int x3), (.int x4)] (.int (0 : Int32))) :
    MetFree l (⟨"com/example/archerfish/archerfish/index/TokenTable", "hash", "([CII)I"⟩ : MethodName) (head1 (Jvm.Cond.code (⟨"com/example/archerfish/archerfish/index/TokenTable", "hash", "([CII)I"⟩ : MethodName) prog_66_method_8_code 5 (some .int) :: ws) ({ frames := 0, cells := 0, slots := 0, locals := 0 } : Room)) (fun a U => a = #[(.ref a1), (.int (1 : Int32)), (.int (2 : Int32))] ∧ Z.Warmed39 U.vm ∧ U.heap = h0) (fun _ _ _ _ _ => True) (fun _ U o U' => ∃ v L, o = .returned v ∧ own_Q2_1_1 Z a1 x0 x1 x2 x3 x4 k_a1 h0 n0 v U'.heap L ∧ FrameEnd U o U' L ({ frames := 0, cells := 0, slots := 0, locals := 0 } : Room).cells ({ frames := 0, cells := 0, slots := 0, locals := 0 } : Room).slots) := by
  refine MetFree.of_bodySF (plainFor_of_name own_pn1) hisR ?_
  intro p e s m args below meth c s₁ Bd hml0 hP hK
  obtain ⟨rfl, hZ, hh⟩ := hP
  have hx := Bd.exec
  have hby := Bd.bytes
  have hml : c.maxLocals = 5 := hml0
  have hown : s.vm.findClass "com/example/archerfish/archerfish/index/TokenTable" = some m.cls := findClass_of_methodNamed Bd.named
  have hnm := (name_of_methodNamed Bd.named Bd.method).1
  have X0 : Stand p l e ({ frames := 0, cells := 0, slots := 0, locals := 0 } : Room) s m #[(.ref a1), (.int (1 : Int32)), (.int (2 : Int32))] below meth c s₁ [] 0 0 := Stand.of_body Bd
  have e0 : s₁.heap = h0 := by rw [← hh, Bd.state]; rfl
  have N0 := Fr.nil n0
  show OE FrameEnd p e below s (own_Q2_1_1 Z a1 x0 x1 x2 x3 x4 k_a1 h0 n0) ({ frames := 0, cells := 0, slots := 0, locals := 0 } : Room).cells ({ frames := 0, cells := 0, slots := 0, locals := 0 } : Room).slots s₁ (entryFrame m #[(.ref a1), (.int (1 : Int32)), (.int (2 : Int32))] 5)
  rw [own_ef_own_rm2_1_1]
  show OE _ p e below s _ _ _ s₁ (mkF m 0 #[.val (.ref a1), .val (.int (1 : Int32)), .val (.int (2 : Int32)), .unset, .unset] [])
  refine OE.iconst X0 hx hby own_d2_0 (0 : Int32) rfl ?_
  refine OE.istoreN X0 hx hby own_d2_1 (l' := #[.val (.ref a1), .val (.int (1 : Int32)), .val (.int (2 : Int32)), .val (.int (0 : Int32)), .unset]) rfl ?_
  refine OE.iloadN X0 hx hby own_d2_2 rfl ?_
  refine OE.istore X0 hx hby own_d2_3 (l' := #[.val (.ref a1), .val (.int (1 : Int32)), .val (.int (2 : Int32)), .val (.int (0 : Int32)), .val (.int (1 : Int32))]) rfl ?_
  refine OE.iload X0 hx hby own_d2_5 rfl ?_
  refine OE.iloadN X0 hx hby own_d2_7 rfl ?_
  refine OE.icmpNo X0 hx hby own_d2_8 (tlt (by decide : (1 : Int32) < (2 : Int32))).2.1 ?_
  refine OE.bipush X0 hx hby own_d2_11 (31 : Int32) rfl ?_
  refine OE.iloadN X0 hx hby own_d2_13 rfl ?_
  refine OE.imul X0 hx hby own_d2_14 ?_
  rw [(by decide : ((31 : Int32) * (0 : Int32)) = (0 : Int32))]
  refine OE.aloadN X0 hx hby own_d2_15 rfl rfl ?_
  refine OE.iload X0 hx hby own_d2_16 rfl ?_
  have Vo1 := V_a1
  obtain ⟨cl1, Ar1, -, Sz1, Nz1, Hz1, Gz1⟩ := Vo1
  have hin1 : ¬ ((1 : Int32) < 0 ∨ cl1.slots.size ≤ ((1 : Int32)).toNatClampNeg) := inb_of Sz1 ⟨by decide, by decide⟩
  have hat1 : cl1.slots[((1 : Int32)).toNatClampNeg]? = some (.int x1) := Has.at Hz1 hin1 rfl
  refine OE.of (X0.caload hx (j := (1 : Int32)) (v := (.int x1)) (by rw [e0]; exact Ar1.1) (State.isArrayOf_alike hZ.alike Ar1.2.1) Ar1.2.2 hin1 hat1 (g := (mkF m 18 #[.val (.ref a1), .val (.int (1 : Int32)), .val (.int (2 : Int32)), .val (.int (0 : Int32)), .val (.int (1 : Int32))] [(.int (1 : Int32)), (.ref a1), (.int (0 : Int32))])) rfl rfl (hb hby own_d2_18)) ?_
  show OE _ p e below s _ _ _ s₁ (mkF m 19 #[.val (.ref a1), .val (.int (1 : Int32)), .val (.int (2 : Int32)), .val (.int (0 : Int32)), .val (.int (1 : Int32))] [(.int x1), (.int (0 : Int32))])
  refine OE.iadd X0 hx hby own_d2_19 ?_
  refine OE.istoreN X0 hx hby own_d2_20 (l' := #[.val (.ref a1), .val (.int (1 : Int32)), .val (.int (2 : Int32)), .val (.int ((0 : Int32) + x1)), .val (.int (1 : Int32))]) rfl ?_
  refine OE.iinc X0 hx hby own_d2_21 rfl (l' := #[.val (.ref a1), .val (.int (1 : Int32)), .val (.int (2 : Int32)), .val (.int ((0 : Int32) + x1)), .val (.int ((1 : Int32) + (1 : Int32)))]) rfl ?_
  rw [(by decide : ((1 : Int32) + (1 : Int32)) = (2 : Int32))]
  refine OE.goto X0 hx hby (pc' := 5) own_d2_24 (h := ?_)
  refine OE.iload X0 hx hby own_d2_5 rfl ?_
  refine OE.iloadN X0 hx hby own_d2_7 rfl ?_
  refine OE.icmpYes X0 hx hby (pc' := 27) own_d2_8 (flt (by decide : ¬ ((2 : Int32) < (2 : Int32)))).2.1 (h := ?_)
  refine OE.iloadN X0 hx hby own_d2_27 rfl ?_
  refine OE.of (X0.ldcInt hx hown (mvT hZ (hw _ (List.mem_of_getElem? (i := 12) rfl))) (g := (mkF m 28 #[.val (.ref a1), .val (.int (1 : Int32)), .val (.int (2 : Int32)), .val (.int ((0 : Int32) + x1)), .val (.int (2 : Int32))] [(.int ((0 : Int32) + x1))])) rfl (hb hby own_d2_28)) ?_
  show OE _ p e below s _ _ _ s₁ (mkF m 30 #[.val (.ref a1), .val (.int (1 : Int32)), .val (.int (2 : Int32)), .val (.int ((0 : Int32) + x1)), .val (.int (2 : Int32))] [(.int (-1640531527 : Int32)), (.int ((0 : Int32) + x1))])
  refine OE.imul X0 hx hby own_d2_30 ?_
  refine OE.istoreN X0 hx hby own_d2_31 (l' := #[.val (.ref a1), .val (.int (1 : Int32)), .val (.int (2 : Int32)), .val (.int (((0 : Int32) + x1) * (-1640531527 : Int32))), .val (.int (2 : Int32))]) rfl ?_
  refine OE.iloadN X0 hx hby own_d2_32 rfl ?_
  refine OE.iloadN X0 hx hby own_d2_33 rfl ?_
  refine OE.bipush X0 hx hby own_d2_34 (16 : Int32) rfl ?_
  refine OE.iushr X0 hx hby own_d2_36 ?_
  refine OE.ixor X0 hx hby own_d2_37 ?_
  refine OE.retI X0 hx Bd.returns Bd.notSynchronized (hb hby own_d2_38) (by decide) (by decide) ?_
  rw [e0]
  exact ⟨rfl, N0, rfl⟩
def own_Q2_1_2 (Z : State) (a1 : Addr) (x0 : Int32) (x1 : Int32) (x2 : Int32) (x3 : Int32) (x4 : Int32) (k_a1 : ClassId) (h0 : Heap) (n0 : Nat) (v : Option Value) (h : Heap) (L : List Loc) : Prop := v = some (.int (((((31 : Int32) * ((0 : Int32) + x1)) + x2) * (-1640531527 : Int32)) ^^^ ((((((31 : Int32) * ((0 : Int32) + x1)) + x2) * (-1640531527 : Int32)).toUInt32 >>> ((16 : Int32) &&& 31).toUInt32).toInt32))) ∧ Fr n0 L ∧ h = h0
theorem own_ef_own_rm2_1_2 (m : MethodId) (a1 : Addr) : entryFrame m #[(.ref a1), (.int (1 : Int32)), (.int (3 : Int32))] 5 = mkF m 0 #[.val (.ref a1), .val (.int (1 : Int32)), .val (.int (3 : Int32)), .unset, .unset] [] := by first | (simp [entryFrame, mkF, argsToLocals, Value.category]; done) | rfl
set_option maxRecDepth 65536 in
set_option maxHeartbeats 40000000 in
theorem own_rm2_1_2 (l : Launch) (Z : State) (a0 : Array Value) (hw : ∀ d ∈ tables_1, d.before a0 Z = true) (ws : List Jvm.Cond) (a1 : Addr) (x0 : Int32) (x1 : Int32) (x2 : Int32) (x3 : Int32) (x4 : Int32) (k_a1 : ClassId) (h0 : Heap) (n0 : Nat) (Z0 : n0 ≤ h0.size) (V_a1 : Arv Z h0 a1 k_a1 .char (5 : Int32) [(.int x0), (.int x1), (.int x2), (.int x3), (.int x4)] (.int (0 : Int32))) :
    MetFree l (⟨"com/example/archerfish/archerfish/index/TokenTable", "hash", "([CII)I"⟩ : MethodName) (head1 (Jvm.Cond.code (⟨"com/example/archerfish/archerfish/index/TokenTable", "hash", "([CII)I"⟩ : MethodName) prog_66_method_8_code 5 (some .int) :: ws) ({ frames := 0, cells := 0, slots := 0, locals := 0 } : Room)) (fun a U => a = #[(.ref a1), (.int (1 : Int32)), (.int (3 : Int32))] ∧ Z.Warmed39 U.vm ∧ U.heap = h0) (fun _ _ _ _ _ => True) (fun _ U o U' => ∃ v L, o = .returned v ∧ own_Q2_1_2 Z a1 x0 x1 x2 x3 x4 k_a1 h0 n0 v U'.heap L ∧ FrameEnd U o U' L ({ frames := 0, cells := 0, slots := 0, locals := 0 } : Room).cells ({ frames := 0, cells := 0, slots := 0, locals := 0 } : Room).slots) := by
  refine MetFree.of_bodySF (plainFor_of_name own_pn1) hisR ?_
  intro p e s m args below meth c s₁ Bd hml0 hP hK
  obtain ⟨rfl, hZ, hh⟩ := hP
  have hx := Bd.exec
  have hby := Bd.bytes
  have hml : c.maxLocals = 5 := hml0
  have hown : s.vm.findClass "com/example/archerfish/archerfish/index/TokenTable" = some m.cls := findClass_of_methodNamed Bd.named
  have hnm := (name_of_methodNamed Bd.named Bd.method).1
  have X0 : Stand p l e ({ frames := 0, cells := 0, slots := 0, locals := 0 } : Room) s m #[(.ref a1), (.int (1 : Int32)), (.int (3 : Int32))] below meth c s₁ [] 0 0 := Stand.of_body Bd
  have e0 : s₁.heap = h0 := by rw [← hh, Bd.state]; rfl
  have N0 := Fr.nil n0
  show OE FrameEnd p e below s (own_Q2_1_2 Z a1 x0 x1 x2 x3 x4 k_a1 h0 n0) ({ frames := 0, cells := 0, slots := 0, locals := 0 } : Room).cells ({ frames := 0, cells := 0, slots := 0, locals := 0 } : Room).slots s₁ (entryFrame m #[(.ref a1), (.int (1 : Int32)), (.int (3 : Int32))] 5)
  rw [own_ef_own_rm2_1_2]
  show OE _ p e below s _ _ _ s₁ (mkF m 0 #[.val (.ref a1), .val (.int (1 : Int32)), .val (.int (3 : Int32)), .unset, .unset] [])
  refine OE.iconst X0 hx hby own_d2_0 (0 : Int32) rfl ?_
  refine OE.istoreN X0 hx hby own_d2_1 (l' := #[.val (.ref a1), .val (.int (1 : Int32)), .val (.int (3 : Int32)), .val (.int (0 : Int32)), .unset]) rfl ?_
  refine OE.iloadN X0 hx hby own_d2_2 rfl ?_
  refine OE.istore X0 hx hby own_d2_3 (l' := #[.val (.ref a1), .val (.int (1 : Int32)), .val (.int (3 : Int32)), .val (.int (0 : Int32)), .val (.int (1 : Int32))]) rfl ?_
  refine OE.iload X0 hx hby own_d2_5 rfl ?_
  refine OE.iloadN X0 hx hby own_d2_7 rfl ?_
  refine OE.icmpNo X0 hx hby own_d2_8 (tlt (by decide : (1 : Int32) < (3 : Int32))).2.1 ?_
  refine OE.bipush X0 hx hby own_d2_11 (31 : Int32) rfl ?_
  refine OE.iloadN X0 hx hby own_d2_13 rfl ?_
  refine OE.imul X0 hx hby own_d2_14 ?_
  rw [(by decide : ((31 : Int32) * (0 : Int32)) = (0 : Int32))]
  refine OE.aloadN X0 hx hby own_d2_15 rfl rfl ?_
  refine OE.iload X0 hx hby own_d2_16 rfl ?_
  have Vo1 := V_a1
  obtain ⟨cl1, Ar1, -, Sz1, Nz1, Hz1, Gz1⟩ := Vo1
  have hin1 : ¬ ((1 : Int32) < 0 ∨ cl1.slots.size ≤ ((1 : Int32)).toNatClampNeg) := inb_of Sz1 ⟨by decide, by decide⟩
  have hat1 : cl1.slots[((1 : Int32)).toNatClampNeg]? = some (.int x1) := Has.at Hz1 hin1 rfl
  refine OE.of (X0.caload hx (j := (1 : Int32)) (v := (.int x1)) (by rw [e0]; exact Ar1.1) (State.isArrayOf_alike hZ.alike Ar1.2.1) Ar1.2.2 hin1 hat1 (g := (mkF m 18 #[.val (.ref a1), .val (.int (1 : Int32)), .val (.int (3 : Int32)), .val (.int (0 : Int32)), .val (.int (1 : Int32))] [(.int (1 : Int32)), (.ref a1), (.int (0 : Int32))])) rfl rfl (hb hby own_d2_18)) ?_
  show OE _ p e below s _ _ _ s₁ (mkF m 19 #[.val (.ref a1), .val (.int (1 : Int32)), .val (.int (3 : Int32)), .val (.int (0 : Int32)), .val (.int (1 : Int32))] [(.int x1), (.int (0 : Int32))])
  refine OE.iadd X0 hx hby own_d2_19 ?_
  refine OE.istoreN X0 hx hby own_d2_20 (l' := #[.val (.ref a1), .val (.int (1 : Int32)), .val (.int (3 : Int32)), .val (.int ((0 : Int32) + x1)), .val (.int (1 : Int32))]) rfl ?_
  refine OE.iinc X0 hx hby own_d2_21 rfl (l' := #[.val (.ref a1), .val (.int (1 : Int32)), .val (.int (3 : Int32)), .val (.int ((0 : Int32) + x1)), .val (.int ((1 : Int32) + (1 : Int32)))]) rfl ?_
  rw [(by decide : ((1 : Int32) + (1 : Int32)) = (2 : Int32))]
  refine OE.goto X0 hx hby (pc' := 5) own_d2_24 (h := ?_)
  refine OE.iload X0 hx hby own_d2_5 rfl ?_
  refine OE.iloadN X0 hx hby own_d2_7 rfl ?_
  refine OE.icmpNo X0 hx hby own_d2_8 (tlt (by decide : (2 : Int32) < (3 : Int32))).2.1 ?_
  refine OE.bipush X0 hx hby own_d2_11 (31 : Int32) rfl ?_
  refine OE.iloadN X0 hx hby own_d2_13 rfl ?_
  refine OE.imul X0 hx hby own_d2_14 ?_
  refine OE.aloadN X0 hx hby own_d2_15 rfl rfl ?_
  refine OE.iload X0 hx hby own_d2_16 rfl ?_
  have Vo2 := V_a1
  obtain ⟨cl2, Ar2, -, Sz2, Nz2, Hz2, Gz2⟩ := Vo2
  have hin2 : ¬ ((2 : Int32) < 0 ∨ cl2.slots.size ≤ ((2 : Int32)).toNatClampNeg) := inb_of Sz2 ⟨by decide, by decide⟩
  have hat2 : cl2.slots[((2 : Int32)).toNatClampNeg]? = some (.int x2) := Has.at Hz2 hin2 rfl
  refine OE.of (X0.caload hx (j := (2 : Int32)) (v := (.int x2)) (by rw [e0]; exact Ar2.1) (State.isArrayOf_alike hZ.alike Ar2.2.1) Ar2.2.2 hin2 hat2 (g := (mkF m 18 #[.val (.ref a1), .val (.int (1 : Int32)), .val (.int (3 : Int32)), .val (.int ((0 : Int32) + x1)), .val (.int (2 : Int32))] [(.int (2 : Int32)), (.ref a1), (.int ((31 : Int32) * ((0 : Int32) + x1)))])) rfl rfl (hb hby own_d2_18)) ?_
  show OE _ p e below s _ _ _ s₁ (mkF m 19 #[.val (.ref a1), .val (.int (1 : Int32)), .val (.int (3 : Int32)), .val (.int ((0 : Int32) + x1)), .val (.int (2 : Int32))] [(.int x2), (.int ((31 : Int32) * ((0 : Int32) + x1)))])
  refine OE.iadd X0 hx hby own_d2_19 ?_
  refine OE.istoreN X0 hx hby own_d2_20 (l' := #[.val (.ref a1), .val (.int (1 : Int32)), .val (.int (3 : Int32)), .val (.int (((31 : Int32) * ((0 : Int32) + x1)) + x2)), .val (.int (2 : Int32))]) rfl ?_
  refine OE.iinc X0 hx hby own_d2_21 rfl (l' := #[.val (.ref a1), .val (.int (1 : Int32)), .val (.int (3 : Int32)), .val (.int (((31 : Int32) * ((0 : Int32) + x1)) + x2)), .val (.int ((2 : Int32) + (1 : Int32)))]) rfl ?_
  rw [(by decide : ((2 : Int32) + (1 : Int32)) = (3 : Int32))]
  refine OE.goto X0 hx hby (pc' := 5) own_d2_24 (h := ?_)
  refine OE.iload X0 hx hby own_d2_5 rfl ?_
  refine OE.iloadN X0 hx hby own_d2_7 rfl ?_
  refine OE.icmpYes X0 hx hby (pc' := 27) own_d2_8 (flt (by decide : ¬ ((3 : Int32) < (3 : Int32)))).2.1 (h := ?_)
  refine OE.iloadN X0 hx hby own_d2_27 rfl ?_
  refine OE.of (X0.ldcInt hx hown (mvT hZ (hw _ (List.mem_of_getElem? (i := 12) rfl))) (g := (mkF m 28 #[.val (.ref a1), .val (.int (1 : Int32)), .val (.int (3 : Int32)), .val (.int (((31 : Int32) * ((0 : Int32) + x1)) + x2)), .val (.int (3 : Int32))] [(.int (((31 : Int32) * ((0 : Int32) + x1)) + x2))])) rfl (hb hby own_d2_28)) ?_
  show OE _ p e below s _ _ _ s₁ (mkF m 30 #[.val (.ref a1), .val (.int (1 : Int32)), .val (.int (3 : Int32)), .val (.int (((31 : Int32) * ((0 : Int32) + x1)) + x2)), .val (.int (3 : Int32))] [(.int (-1640531527 : Int32)), (.int (((31 : Int32) * ((0 : Int32) + x1)) + x2))])
  refine OE.imul X0 hx hby own_d2_30 ?_
  refine OE.istoreN X0 hx hby own_d2_31 (l' := #[.val (.ref a1), .val (.int (1 : Int32)), .val (.int (3 : Int32)), .val (.int ((((31 : Int32) * ((0 : Int32) + x1)) + x2) * (-1640531527 : Int32))), .val (.int (3 : Int32))]) rfl ?_
  refine OE.iloadN X0 hx hby own_d2_32 rfl ?_
  refine OE.iloadN X0 hx hby own_d2_33 rfl ?_
  refine OE.bipush X0 hx hby own_d2_34 (16 : Int32) rfl ?_
  refine OE.iushr X0 hx hby own_d2_36 ?_
  refine OE.ixor X0 hx hby own_d2_37 ?_
  refine OE.retI X0 hx Bd.returns Bd.notSynchronized (hb hby own_d2_38) (by decide) (by decide) ?_
  rw [e0]
  exact ⟨rfl, N0, rfl⟩
def own_Q2_1_3 (Z : State) (a1 : Addr) (x0 : Int32) (x1 : Int32) (x2 : Int32) (x3 : Int32) (x4 : Int32) (k_a1 : ClassId) (h0 : Heap) (n0 : Nat) (v : Option Value) (h : Heap) (L : List Loc) : Prop := v = some (.int (((((31 : Int32) * (((31 : Int32) * ((0 : Int32) + x1)) + x2)) + x3) * (-1640531527 : Int32)) ^^^ ((((((31 : Int32) * (((31 : Int32) * ((0 : Int32) + x1)) + x2)) + x3) * (-1640531527 : Int32)).toUInt32 >>> ((16 : Int32) &&& 31).toUInt32).toInt32))) ∧ Fr n0 L ∧ h = h0
theorem own_ef_own_rm2_1_3 (m : MethodId) (a1 : Addr) : entryFrame m #[(.ref a1), (.int (1 : Int32)), (.int (4 : Int32))] 5 = mkF m 0 #[.val (.ref a1), .val (.int (1 : Int32)), .val (.int (4 : Int32)), .unset, .unset] [] := by first | (simp [entryFrame, mkF, argsToLocals, Value.category]; done) | rfl
set_option maxRecDepth 65536 in
set_option maxHeartbeats 40000000 in
theorem own_rm2_1_3 (l : Launch) (Z : State) (a0 : Array Value) (hw : ∀ d ∈ tables_1, d.before a0 Z = true) (ws : List Jvm.Cond) (a1 : Addr) (x0 : Int32) (x1 : Int32) (x2 : Int32) (x3 : Int32) (x4 : Int32) (k_a1 : ClassId) (h0 : Heap) (n0 : Nat) (Z0 : n0 ≤ h0.size) (V_a1 : Arv Z h0 a1 k_a1 .char (5 : Int32) [(.int x0), (.int x1), (.int x2), (.int x3), (.int x4)] (.int (0 : Int32))) :
    MetFree l (⟨"com/example/archerfish/archerfish/index/TokenTable", "hash", "([CII)I"⟩ : MethodName) (head1 (Jvm.Cond.code (⟨"com/example/archerfish/archerfish/index/TokenTable", "hash", "([CII)I"⟩ : MethodName) prog_66_method_8_code 5 (some .int) :: ws) ({ frames := 0, cells := 0, slots := 0, locals := 0 } : Room)) (fun a U => a = #[(.ref a1), (.int (1 : Int32)), (.int (4 : Int32))] ∧ Z.Warmed39 U.vm ∧ U.heap = h0) (fun _ _ _ _ _ => True) (fun _ U o U' => ∃ v L, o = .returned v ∧ own_Q2_1_3 Z a1 x0 x1 x2 x3 x4 k_a1 h0 n0 v U'.heap L ∧ FrameEnd U o U' L ({ frames := 0, cells := 0, slots := 0, locals := 0 } : Room).cells ({ frames := 0, cells := 0, slots := 0, locals := 0 } : Room).slots) := by
  refine MetFree.of_bodySF (plainFor_of_name own_pn1) hisR ?_
  intro p e s m args below meth c s₁ Bd hml0 hP hK
  obtain ⟨rfl, hZ, hh⟩ := hP
  have hx := Bd.exec
  have hby := Bd.bytes
  have hml : c.maxLocals = 5 := hml0
  have hown : s.vm.findClass "com/example/archerfish/archerfish/index/TokenTable" = some m.cls := findClass_of_methodNamed Bd.named
  have hnm := (name_of_methodNamed Bd.named Bd.method).1
  have X0 : Stand p l e ({ frames := 0, cells := 0, slots := 0, locals := 0 } : Room) s m #[(.ref a1), (.int (1 : Int32)), (.int (4 : Int32))] below meth c s₁ [] 0 0 := Stand.of_body Bd
  have e0 : s₁.heap = h0 := by rw [← hh, Bd.state]; rfl
  have N0 := Fr.nil n0
  show OE FrameEnd p e below s (own_Q2_1_3 Z a1 x0 x1 x2 x3 x4 k_a1 h0 n0) ({ frames := 0, cells := 0, slots := 0, locals := 0 } : Room).cells ({ frames := 0, cells := 0, slots := 0, locals := 0 } : Room).slots s₁ (entryFrame m #[(.ref a1), (.int (1 : Int32)), (.int (4 : Int32))] 5)
  rw [own_ef_own_rm2_1_3]
  show OE _ p e below s _ _ _ s₁ (mkF m 0 #[.val (.ref a1), .val (.int (1 : Int32)), .val (.int (4 : Int32)), .unset, .unset] [])
  refine OE.iconst X0 hx hby own_d2_0 (0 : Int32) rfl ?_
  refine OE.istoreN X0 hx hby own_d2_1 (l' := #[.val (.ref a1), .val (.int (1 : Int32)), .val (.int (4 : Int32)), .val (.int (0 : Int32)), .unset]) rfl ?_
  refine OE.iloadN X0 hx hby own_d2_2 rfl ?_
  refine OE.istore X0 hx hby own_d2_3 (l' := #[.val (.ref a1), .val (.int (1 : Int32)), .val (.int (4 : Int32)), .val (.int (0 : Int32)), .val (.int (1 : Int32))]) rfl ?_
  refine OE.iload X0 hx hby own_d2_5 rfl ?_
  refine OE.iloadN X0 hx hby own_d2_7 rfl ?_
  refine OE.icmpNo X0 hx hby own_d2_8 (tlt (by decide : (1 : Int32) < (4 : Int32))).2.1 ?_
  refine OE.bipush X0 hx hby own_d2_11 (31 : Int32) rfl ?_
  refine OE.iloadN X0 hx hby own_d2_13 rfl ?_
  refine OE.imul X0 hx hby own_d2_14 ?_
  rw [(by decide : ((31 : Int32) * (0 : Int32)) = (0 : Int32))]
  refine OE.aloadN X0 hx hby own_d2_15 rfl rfl ?_
  refine OE.iload X0 hx hby own_d2_16 rfl ?_
  have Vo1 := V_a1
  obtain ⟨cl1, Ar1, -, Sz1, Nz1, Hz1, Gz1⟩ := Vo1
  have hin1 : ¬ ((1 : Int32) < 0 ∨ cl1.slots.size ≤ ((1 : Int32)).toNatClampNeg) := inb_of Sz1 ⟨by decide, by decide⟩
  have hat1 : cl1.slots[((1 : Int32)).toNatClampNeg]? = some (.int x1) := Has.at Hz1 hin1 rfl
  refine OE.of (X0.caload hx (j := (1 : Int32)) (v := (.int x1)) (by rw [e0]; exact Ar1.1) (State.isArrayOf_alike hZ.alike Ar1.2.1) Ar1.2.2 hin1 hat1 (g := (mkF m 18 #[.val (.ref a1), .val (.int (1 : Int32)), .val (.int (4 : Int32)), .val (.int (0 : Int32)), .val (.int (1 : Int32))] [(.int (1 : Int32)), (.ref a1), (.int (0 : Int32))])) rfl rfl (hb hby own_d2_18)) ?_
  show OE _ p e below s _ _ _ s₁ (mkF m 19 #[.val (.ref a1), .val (.int (1 : Int32)), .val (.int (4 : Int32)), .val (.int (0 : Int32)), .val (.int (1 : Int32))] [(.int x1), (.int (0 : Int32))])
  refine OE.iadd X0 hx hby own_d2_19 ?_
  refine OE.istoreN X0 hx hby own_d2_20 (l' := #[.val (.ref a1), .val (.int (1 : Int32)), .val (.int (4 : Int32)), .val (.int ((0 : Int32) + x1)), .val (.int (1 : Int32))]) rfl ?_
  refine OE.iinc X0 hx hby own_d2_21 rfl (l' := #[.val (.ref a1), .val (.int (1 : Int32)), .val (.int (4 : Int32)), .val (.int ((0 : Int32) + x1)), .val (.int ((1 : Int32) + (1 : Int32)))]) rfl ?_
  rw [(by decide : ((1 : Int32) + (1 : Int32)) = (2 : Int32))]
  refine OE.goto X0 hx hby (pc' := 5) own_d2_24 (h := ?_)
  refine OE.iload X0 hx hby own_d2_5 rfl ?_
  refine OE.iloadN X0 hx hby own_d2_7 rfl ?_
  refine OE.icmpNo X0 hx hby own_d2_8 (tlt (by decide : (2 : Int32) < (4 : Int32))).2.1 ?_
  refine OE.bipush X0 hx hby own_d2_11 (31 : Int32) rfl ?_
  refine OE.iloadN X0 hx hby own_d2_13 rfl ?_
  refine OE.imul X0 hx hby own_d2_14 ?_
  refine OE.aloadN X0 hx hby own_d2_15 rfl rfl ?_
  refine OE.iload X0 hx hby own_d2_16 rfl ?_
  have Vo2 := V_a1
  obtain ⟨cl2, Ar2, -, Sz2, Nz2, Hz2, Gz2⟩ := Vo2
  have hin2 : ¬ ((2 : Int32) < 0 ∨ cl2.slots.size ≤ ((2 : Int32)).toNatClampNeg) := inb_of Sz2 ⟨by decide, by decide⟩
  have hat2 : cl2.slots[((2 : Int32)).toNatClampNeg]? = some (.int x2) := Has.at Hz2 hin2 rfl
  refine OE.of (X0.caload hx (j := (2 : Int32)) (v := (.int x2)) (by rw [e0]; exact Ar2.1) (State.isArrayOf_alike hZ.alike Ar2.2.1) Ar2.2.2 hin2 hat2 (g := (mkF m 18 #[.val (.ref a1), .val (.int (1 : Int32)), .val (.int (4 : Int32)), .val (.int ((0 : Int32) + x1)), .val (.int (2 : Int32))] [(.int (2 : Int32)), (.ref a1), (.int ((31 : Int32) * ((0 : Int32) + x1)))])) rfl rfl (hb hby own_d2_18)) ?_
  show OE _ p e below s _ _ _ s₁ (mkF m 19 #[.val (.ref a1), .val (.int (1 : Int32)), .val (.int (4 : Int32)), .val (.int ((0 : Int32) + x1)), .val (.int (2 : Int32))] [(.int x2), (.int ((31 : Int32) * ((0 : Int32) + x1)))])
  refine OE.iadd X0 hx hby own_d2_19 ?_
  refine OE.istoreN X0 hx hby own_d2_20 (l' := #[.val (.ref a1), .val (.int (1 : Int32)), .val (.int (4 : Int32)), .val (.int (((31 : Int32) * ((0 : Int32) + x1)) + x2)), .val (.int (2 : Int32))]) rfl ?_
  refine OE.iinc X0 hx hby own_d2_21 rfl (l' := #[.val (.ref a1), .val (.int (1 : Int32)), .val (.int (4 : Int32)), .val (.int (((31 : Int32) * ((0 : Int32) + x1)) + x2)), .val (.int ((2 : Int32) + (1 : Int32)))]) rfl ?_
  rw [(by decide : ((2 : Int32) + (1 : Int32)) = (3 : Int32))]
  refine OE.goto X0 hx hby (pc' := 5) own_d2_24 (h := ?_)
  refine OE.iload X0 hx hby own_d2_5 rfl ?_
  refine OE.iloadN X0 hx hby own_d2_7 rfl ?_
  refine OE.icmpNo X0 hx hby own_d2_8 (tlt (by decide : (3 : Int32) < (4 : Int32))).2.1 ?_
  refine OE.bipush X0 hx hby own_d2_11 (31 : Int32) rfl ?_
  refine OE.iloadN X0 hx hby own_d2_13 rfl ?_
  refine OE.imul X0 hx hby own_d2_14 ?_
  refine OE.aloadN X0 hx hby own_d2_15 rfl rfl ?_
  refine OE.iload X0 hx hby own_d2_16 rfl ?_
  have Vo3 := V_a1
  obtain ⟨cl3, Ar3, -, Sz3, Nz3, Hz3, Gz3⟩ := Vo3
  have hin3 : ¬ ((3 : Int32) < 0 ∨ cl3.slots.size ≤ ((3 : Int32)).toNatClampNeg) := inb_of Sz3 ⟨by decide, by decide⟩
  have hat3 : cl3.slots[((3 : Int32)).toNatClampNeg]? = some (.int x3) := Has.at Hz3 hin3 rfl
  refine OE.of (X0.caload hx (j := (3 : Int32)) (v := (.int x3)) (by rw [e0]; exact Ar3.1) (State.isArrayOf_alike hZ.alike Ar3.2.1) Ar3.2.2 hin3 hat3 (g := (mkF m 18 #[.val (.ref a1), .val (.int (1 : Int32)), .val (.int (4 : Int32)), .val (.int (((31 : Int32) * ((0 : Int32) + x1)) + x2)), .val (.int (3 : Int32))] [(.int (3 : Int32)), (.ref a1), (.int ((31 : Int32) * (((31 : Int32) * ((0 : Int32) + x1)) + x2)))])) rfl rfl (hb hby own_d2_18)) ?_
  show OE _ p e below s _ _ _ s₁ (mkF m 19 #[.val (.ref a1), .val (.int (1 : Int32)), .val (.int (4 : Int32)), .val (.int (((31 : Int32) * ((0 : Int32) + x1)) + x2)), .val (.int (3 : Int32))] [(.int x3), (.int ((31 : Int32) * (((31 : Int32) * ((0 : Int32) + x1)) + x2)))])
  refine OE.iadd X0 hx hby own_d2_19 ?_
  refine OE.istoreN X0 hx hby own_d2_20 (l' := #[.val (.ref a1), .val (.int (1 : Int32)), .val (.int (4 : Int32)), .val (.int (((31 : Int32) * (((31 : Int32) * ((0 : Int32) + x1)) + x2)) + x3)), .val (.int (3 : Int32))]) rfl ?_
  refine OE.iinc X0 hx hby own_d2_21 rfl (l' := #[.val (.ref a1), .val (.int (1 : Int32)), .val (.int (4 : Int32)), .val (.int (((31 : Int32) * (((31 : Int32) * ((0 : Int32) + x1)) + x2)) + x3)), .val (.int ((3 : Int32) + (1 : Int32)))]) rfl ?_
  rw [(by decide : ((3 : Int32) + (1 : Int32)) = (4 : Int32))]
  refine OE.goto X0 hx hby (pc' := 5) own_d2_24 (h := ?_)
  refine OE.iload X0 hx hby own_d2_5 rfl ?_
  refine OE.iloadN X0 hx hby own_d2_7 rfl ?_
  refine OE.icmpYes X0 hx hby (pc' := 27) own_d2_8 (flt (by decide : ¬ ((4 : Int32) < (4 : Int32)))).2.1 (h := ?_)
  refine OE.iloadN X0 hx hby own_d2_27 rfl ?_
  refine OE.of (X0.ldcInt hx hown (mvT hZ (hw _ (List.mem_of_getElem? (i := 12) rfl))) (g := (mkF m 28 #[.val (.ref a1), .val (.int (1 : Int32)), .val (.int (4 : Int32)), .val (.int (((31 : Int32) * (((31 : Int32) * ((0 : Int32) + x1)) + x2)) + x3)), .val (.int (4 : Int32))] [(.int (((31 : Int32) * (((31 : Int32) * ((0 : Int32) + x1)) + x2)) + x3))])) rfl (hb hby own_d2_28)) ?_
  show OE _ p e below s _ _ _ s₁ (mkF m 30 #[.val (.ref a1), .val (.int (1 : Int32)), .val (.int (4 : Int32)), .val (.int (((31 : Int32) * (((31 : Int32) * ((0 : Int32) + x1)) + x2)) + x3)), .val (.int (4 : Int32))] [(.int (-1640531527 : Int32)), (.int (((31 : Int32) * (((31 : Int32) * ((0 : Int32) + x1)) + x2)) + x3))])
  refine OE.imul X0 hx hby own_d2_30 ?_
  refine OE.istoreN X0 hx hby own_d2_31 (l' := #[.val (.ref a1), .val (.int (1 : Int32)), .val (.int (4 : Int32)), .val (.int ((((31 : Int32) * (((31 : Int32) * ((0 : Int32) + x1)) + x2)) + x3) * (-1640531527 : Int32))), .val (.int (4 : Int32))]) rfl ?_
  refine OE.iloadN X0 hx hby own_d2_32 rfl ?_
  refine OE.iloadN X0 hx hby own_d2_33 rfl ?_
  refine OE.bipush X0 hx hby own_d2_34 (16 : Int32) rfl ?_
  refine OE.iushr X0 hx hby own_d2_36 ?_
  refine OE.ixor X0 hx hby own_d2_37 ?_
  refine OE.retI X0 hx Bd.returns Bd.notSynchronized (hb hby own_d2_38) (by decide) (by decide) ?_
  rw [e0]
  exact ⟨rfl, N0, rfl⟩
def own_Q2_1_4 (Z : State) (a1 : Addr) (x0 : Int32) (x1 : Int32) (x2 : Int32) (x3 : Int32) (x4 : Int32) (k_a1 : ClassId) (h0 : Heap) (n0 : Nat) (v : Option Value) (h : Heap) (L : List Loc) : Prop := v = some (.int (((((31 : Int32) * (((31 : Int32) * (((31 : Int32) * ((0 : Int32) + x1)) + x2)) + x3)) + x4) * (-1640531527 : Int32)) ^^^ ((((((31 : Int32) * (((31 : Int32) * (((31 : Int32) * ((0 : Int32) + x1)) + x2)) + x3)) + x4) * (-1640531527 : Int32)).toUInt32 >>> ((16 : Int32) &&& 31).toUInt32).toInt32))) ∧ Fr n0 L ∧ h = h0
theorem own_ef_own_rm2_1_4 (m : MethodId) (a1 : Addr) : entryFrame m #[(.ref a1), (.int (1 : Int32)), (.int (5 : Int32))] 5 = mkF m 0 #[.val (.ref a1), .val (.int (1 : Int32)), .val (.int (5 : Int32)), .unset, .unset] [] := by first | (simp [entryFrame, mkF, argsToLocals, Value.category]; done) | rfl
set_option maxRecDepth 65536 in
set_option maxHeartbeats 40000000 in
theorem own_rm2_1_4 (l : Launch) (Z : State) (a0 : Array Value) (hw : ∀ d ∈ tables_1, d.before a0 Z = true) (ws : List Jvm.Cond) (a1 : Addr) (x0 : Int32) (x1 : Int32) (x2 : Int32) (x3 : Int32) (x4 : Int32) (k_a1 : ClassId) (h0 : Heap) (n0 : Nat) (Z0 : n0 ≤ h0.size) (V_a1 : Arv Z h0 a1 k_a1 .char (5 : Int32) [(.int x0), (.int x1), (.int x2), (.int x3), (.int x4)] (.int (0 : Int32))) :
    MetFree l (⟨"com/example/archerfish/archerfish/index/TokenTable", "hash", "([CII)I"⟩ : MethodName) (head1 (Jvm.Cond.code (⟨"com/example/archerfish/archerfish/index/TokenTable", "hash", "([CII)I"⟩ : MethodName) prog_66_method_8_code 5 (some .int) :: ws) ({ frames := 0, cells := 0, slots := 0, locals := 0 } : Room)) (fun a U => a = #[(.ref a1), (.int (1 : Int32)), (.int (5 : Int32))] ∧ Z.Warmed39 U.vm ∧ U.heap = h0) (fun _ _ _ _ _ => True) (fun _ U o U' => ∃ v L, o = .returned v ∧ own_Q2_1_4 Z a1 x0 x1 x2 x3 x4 k_a1 h0 n0 v U'.heap L ∧ FrameEnd U o U' L ({ frames := 0, cells := 0, slots := 0, locals := 0 } : Room).cells ({ frames := 0, cells := 0, slots := 0, locals := 0 } : Room).slots) := by
  refine MetFree.of_bodySF (plainFor_of_name own_pn1) hisR ?_
  intro p e s m args below meth c s₁ Bd hml0 hP hK
  obtain ⟨rfl, hZ, hh⟩ := hP
  have hx := Bd.exec
  have hby := Bd.bytes
  have hml : c.maxLocals = 5 := hml0
  have hown : s.vm.findClass "com/example/archerfish/archerfish/index/TokenTable" = some m.cls := findClass_of_methodNamed Bd.named
  have hnm := (name_of_methodNamed Bd.named Bd.method).1
  have X0 : Stand p l e ({ frames := 0, cells := 0, slots := 0, locals := 0 } : Room) s m #[(.ref a1), (.int (1 : Int32)), (.int (5 : Int32))] below meth c s₁ [] 0 0 := Stand.of_body Bd
  have e0 : s₁.heap = h0 := by rw [← hh, Bd.state]; rfl
  have N0 := Fr.nil n0
  show OE FrameEnd p e below s (own_Q2_1_4 Z a1 x0 x1 x2 x3 x4 k_a1 h0 n0) ({ frames := 0, cells := 0, slots := 0, locals := 0 } : Room).cells ({ frames := 0, cells := 0, slots := 0, locals := 0 } : Room).slots s₁ (entryFrame m #[(.ref a1), (.int (1 : Int32)), (.int (5 : Int32))] 5)
  rw [own_ef_own_rm2_1_4]
  show OE _ p e below s _ _ _ s₁ (mkF m 0 #[.val (.ref a1), .val (.int (1 : Int32)), .val (.int (5 : Int32)), .unset, .unset] [])
  refine OE.iconst X0 hx hby own_d2_0 (0 : Int32) rfl ?_
  refine OE.istoreN X0 hx hby own_d2_1 (l' := #[.val (.ref a1), .val (.int (1 : Int32)), .val (.int (5 : Int32)), .val (.int (0 : Int32)), .unset]) rfl ?_
  refine OE.iloadN X0 hx hby own_d2_2 rfl ?_
  refine OE.istore X0 hx hby own_d2_3 (l' := #[.val (.ref a1), .val (.int (1 : Int32)), .val (.int (5 : Int32)), .val (.int (0 : Int32)), .val (.int (1 : Int32))]) rfl ?_
  refine OE.iload X0 hx hby own_d2_5 rfl ?_
  refine OE.iloadN X0 hx hby own_d2_7 rfl ?_
  refine OE.icmpNo X0 hx hby own_d2_8 (tlt (by decide : (1 : Int32) < (5 : Int32))).2.1 ?_
  refine OE.bipush X0 hx hby own_d2_11 (31 : Int32) rfl ?_
  refine OE.iloadN X0 hx hby own_d2_13 rfl ?_
  refine OE.imul X0 hx hby own_d2_14 ?_
  rw [(by decide : ((31 : Int32) * (0 : Int32)) = (0 : Int32))]
  refine OE.aloadN X0 hx hby own_d2_15 rfl rfl ?_
  refine OE.iload X0 hx hby own_d2_16 rfl ?_
  have Vo1 := V_a1
  obtain ⟨cl1, Ar1, -, Sz1, Nz1, Hz1, Gz1⟩ := Vo1
  have hin1 : ¬ ((1 : Int32) < 0 ∨ cl1.slots.size ≤ ((1 : Int32)).toNatClampNeg) := inb_of Sz1 ⟨by decide, by decide⟩
  have hat1 : cl1.slots[((1 : Int32)).toNatClampNeg]? = some (.int x1) := Has.at Hz1 hin1 rfl
  refine OE.of (X0.caload hx (j := (1 : Int32)) (v := (.int x1)) (by rw [e0]; exact Ar1.1) (State.isArrayOf_alike hZ.alike Ar1.2.1) Ar1.2.2 hin1 hat1 (g := (mkF m 18 #[.val (.ref a1), .val (.int (1 : Int32)), .val (.int (5 : Int32)), .val (.int (0 : Int32)), .val (.int (1 : Int32))] [(.int (1 : Int32)), (.ref a1), (.int (0 : Int32))])) rfl rfl (hb hby own_d2_18)) ?_
  show OE _ p e below s _ _ _ s₁ (mkF m 19 #[.val (.ref a1), .val (.int (1 : Int32)), .val (.int (5 : Int32)), .val (.int (0 : Int32)), .val (.int (1 : Int32))] [(.int x1), (.int (0 : Int32))])
  refine OE.iadd X0 hx hby own_d2_19 ?_
  refine OE.istoreN X0 hx hby own_d2_20 (l' := #[.val (.ref a1), .val (.int (1 : Int32)), .val (.int (5 : Int32)), .val (.int ((0 : Int32) + x1)), .val (.int (1 : Int32))]) rfl ?_
  refine OE.iinc X0 hx hby own_d2_21 rfl (l' := #[.val (.ref a1), .val (.int (1 : Int32)), .val (.int (5 : Int32)), .val (.int ((0 : Int32) + x1)), .val (.int ((1 : Int32) + (1 : Int32)))]) rfl ?_
  rw [(by decide : ((1 : Int32) + (1 : Int32)) = (2 : Int32))]
  refine OE.goto X0 hx hby (pc' := 5) own_d2_24 (h := ?_)
  refine OE.iload X0 hx hby own_d2_5 rfl ?_
  refine OE.iloadN X0 hx hby own_d2_7 rfl ?_
  refine OE.icmpNo X0 hx hby own_d2_8 (tlt (by decide : (2 : Int32) < (5 : Int32))).2.1 ?_
  refine OE.bipush X0 hx hby own_d2_11 (31 : Int32) rfl ?_
  refine OE.iloadN X0 hx hby own_d2_13 rfl ?_
  refine OE.imul X0 hx hby own_d2_14 ?_
  refine OE.aloadN X0 hx hby own_d2_15 rfl rfl ?_
  refine OE.iload X0 hx hby own_d2_16 rfl ?_
  have Vo2 := V_a1
  obtain ⟨cl2, Ar2, -, Sz2, Nz2, Hz2, Gz2⟩ := Vo2
  have hin2 : ¬ ((2 : Int32) < 0 ∨ cl2.slots.size ≤ ((2 : Int32)).toNatClampNeg) := inb_of Sz2 ⟨by decide, by decide⟩
  have hat2 : cl2.slots[((2 : Int32)).toNatClampNeg]? = some (.int x2) := Has.at Hz2 hin2 rfl
  refine OE.of (X0.caload hx (j := (2 : Int32)) (v := (.int x2)) (by rw [e0]; exact Ar2.1) (State.isArrayOf_alike hZ.alike Ar2.2.1) Ar2.2.2 hin2 hat2 (g := (mkF m 18 #[.val (.ref a1), .val (.int (1 : Int32)), .val (.int (5 : Int32)), .val (.int ((0 : Int32) + x1)), .val (.int (2 : Int32))] [(.int (2 : Int32)), (.ref a1), (.int ((31 : Int32) * ((0 : Int32) + x1)))])) rfl rfl (hb hby own_d2_18)) ?_
  show OE _ p e below s _ _ _ s₁ (mkF m 19 #[.val (.ref a1), .val (.int (1 : Int32)), .val (.int (5 : Int32)), .val (.int ((0 : Int32) + x1)), .val (.int (2 : Int32))] [(.int x2), (.int ((31 : Int32) * ((0 : Int32) + x1)))])
  refine OE.iadd X0 hx hby own_d2_19 ?_
  refine OE.istoreN X0 hx hby own_d2_20 (l' := #[.val (.ref a1), .val (.int (1 : Int32)), .val (.int (5 : Int32)), .val (.int (((31 : Int32) * ((0 : Int32) + x1)) + x2)), .val (.int (2 : Int32))]) rfl ?_
  refine OE.iinc X0 hx hby own_d2_21 rfl (l' := #[.val (.ref a1), .val (.int (1 : Int32)), .val (.int (5 : Int32)), .val (.int (((31 : Int32) * ((0 : Int32) + x1)) + x2)), .val (.int ((2 : Int32) + (1 : Int32)))]) rfl ?_
  rw [(by decide : ((2 : Int32) + (1 : Int32)) = (3 : Int32))]
  refine OE.goto X0 hx hby (pc' := 5) own_d2_24 (h := ?_)
  refine OE.iload X0 hx hby own_d2_5 rfl ?_
  refine OE.iloadN X0 hx hby own_d2_7 rfl ?_
  refine OE.icmpNo X0 hx hby own_d2_8 (tlt (by decide : (3 : Int32) < (5 : Int32))).2.1 ?_
  refine OE.bipush X0 hx hby own_d2_11 (31 : Int32) rfl ?_
  refine OE.iloadN X0 hx hby own_d2_13 rfl ?_
  refine OE.imul X0 hx hby own_d2_14 ?_
  refine OE.aloadN X0 hx hby own_d2_15 rfl rfl ?_
  refine OE.iload X0 hx hby own_d2_16 rfl ?_
  have Vo3 := V_a1
  obtain ⟨cl3, Ar3, -, Sz3, Nz3, Hz3, Gz3⟩ := Vo3
  have hin3 : ¬ ((3 : Int32) < 0 ∨ cl3.slots.size ≤ ((3 : Int32)).toNatClampNeg) := inb_of Sz3 ⟨by decide, by decide⟩
  have hat3 : cl3.slots[((3 : Int32)).toNatClampNeg]? = some (.int x3) := Has.at Hz3 hin3 rfl
  refine OE.of (X0.caload hx (j := (3 : Int32)) (v := (.int x3)) (by rw [e0]; exact Ar3.1) (State.isArrayOf_alike hZ.alike Ar3.2.1) Ar3.2.2 hin3 hat3 (g := (mkF m 18 #[.val (.ref a1), .val (.int (1 : Int32)), .val (.int (5 : Int32)), .val (.int (((31 : Int32) * ((0 : Int32) + x1)) + x2)), .val (.int (3 : Int32))] [(.int (3 : Int32)), (.ref a1), (.int ((31 : Int32) * (((31 : Int32) * ((0 : Int32) + x1)) + x2)))])) rfl rfl (hb hby own_d2_18)) ?_
  show OE _ p e below s _ _ _ s₁ (mkF m 19 #[.val (.ref a1), .val (.int (1 : Int32)), .val (.int (5 : Int32)), .val (.int (((31 : Int32) * ((0 : Int32) + x1)) + x2)), .val (.int (3 : Int32))] [(.int x3), (.int ((31 : Int32) * (((31 : Int32) * ((0 : Int32) + x1)) + x2)))])
  refine OE.iadd X0 hx hby own_d2_19 ?_
  refine OE.istoreN X0 hx hby own_d2_20 (l' := #[.val (.ref a1), .val (.int (1 : Int32)), .val (.int (5 : Int32)), .val (.int (((31 : Int32) * (((31 : Int32) * ((0 : Int32) + x1)) + x2)) + x3)), .val (.int (3 : Int32))]) rfl ?_
  refine OE.iinc X0 hx hby own_d2_21 rfl (l' := #[.val (.ref a1), .val (.int (1 : Int32)), .val (.int (5 : Int32)), .val (.int (((31 : Int32) * (((31 : Int32) * ((0 : Int32) + x1)) + x2)) + x3)), .val (.int ((3 : Int32) + (1 : Int32)))]) rfl ?_
  rw [(by decide : ((3 : Int32) + (1 : Int32)) = (4 : Int32))]
  refine OE.goto X0 hx hby (pc' := 5) own_d2_24 (h := ?_)
  refine OE.iload X0 hx hby own_d2_5 rfl ?_
  refine OE.iloadN X0 hx hby own_d2_7 rfl ?_
  refine OE.icmpNo X0 hx hby own_d2_8 (tlt (by decide : (4 : Int32) < (5 : Int32))).2.1 ?_
  refine OE.bipush X0 hx hby own_d2_11 (31 : Int32) rfl ?_
  refine OE.iloadN X0 hx hby own_d2_13 rfl ?_
  refine OE.imul X0 hx hby own_d2_14 ?_
  refine OE.aloadN X0 hx hby own_d2_15 rfl rfl ?_
  refine OE.iload X0 hx hby own_d2_16 rfl ?_
  have Vo4 := V_a1
  obtain ⟨cl4, Ar4, -, Sz4, Nz4, Hz4, Gz4⟩ := Vo4
  have hin4 : ¬ ((4 : Int32) < 0 ∨ cl4.slots.size ≤ ((4 : Int32)).toNatClampNeg) := inb_of Sz4 ⟨by decide, by decide⟩
  have hat4 : cl4.slots[((4 : Int32)).toNatClampNeg]? = some (.int x4) := Has.at Hz4 hin4 rfl
  refine OE.of (X0.caload hx (j := (4 : Int32)) (v := (.int x4)) (by rw [e0]; exact Ar4.1) (State.isArrayOf_alike hZ.alike Ar4.2.1) Ar4.2.2 hin4 hat4 (g := (mkF m 18 #[.val (.ref a1), .val (.int (1 : Int32)), .val (.int (5 : Int32)), .val (.int (((31 : Int32) * (((31 : Int32) * ((0 : Int32) + x1)) + x2)) + x3)), .val (.int (4 : Int32))] [(.int (4 : Int32)), (.ref a1), (.int ((31 : Int32) * (((31 : Int32) * (((31 : Int32) * ((0 : Int32) + x1)) + x2)) + x3)))])) rfl rfl (hb hby own_d2_18)) ?_
  show OE _ p e below s _ _ _ s₁ (mkF m 19 #[.val (.ref a1), .val (.int (1 : Int32)), .val (.int (5 : Int32)), .val (.int (((31 : Int32) * (((31 : Int32) * ((0 : Int32) + x1)) + x2)) + x3)), .val (.int (4 : Int32))] [(.int x4), (.int ((31 : Int32) * (((31 : Int32) * (((31 : Int32) * ((0 : Int32) + x1)) + x2)) + x3)))])
  refine OE.iadd X0 hx hby own_d2_19 ?_
  refine OE.istoreN X0 hx hby own_d2_20 (l' := #[.val (.ref a1), .val (.int (1 : Int32)), .val (.int (5 : Int32)), .val (.int (((31 : Int32) * (((31 : Int32) * (((31 : Int32) * ((0 : Int32) + x1)) + x2)) + x3)) + x4)), .val (.int (4 : Int32))]) rfl ?_
  refine OE.iinc X0 hx hby own_d2_21 rfl (l' := #[.val (.ref a1), .val (.int (1 : Int32)), .val (.int (5 : Int32)), .val (.int (((31 : Int32) * (((31 : Int32) * (((31 : Int32) * ((0 : Int32) + x1)) + x2)) + x3)) + x4)), .val (.int ((4 : Int32) + (1 : Int32)))]) rfl ?_
  rw [(by decide : ((4 : Int32) + (1 : Int32)) = (5 : Int32))]
  refine OE.goto X0 hx hby (pc' := 5) own_d2_24 (h := ?_)
  refine OE.iload X0 hx hby own_d2_5 rfl ?_
  refine OE.iloadN X0 hx hby own_d2_7 rfl ?_
  refine OE.icmpYes X0 hx hby (pc' := 27) own_d2_8 (flt (by decide : ¬ ((5 : Int32) < (5 : Int32)))).2.1 (h := ?_)
  refine OE.iloadN X0 hx hby own_d2_27 rfl ?_
  refine OE.of (X0.ldcInt hx hown (mvT hZ (hw _ (List.mem_of_getElem? (i := 12) rfl))) (g := (mkF m 28 #[.val (.ref a1), .val (.int (1 : Int32)), .val (.int (5 : Int32)), .val (.int (((31 : Int32) * (((31 : Int32) * (((31 : Int32) * ((0 : Int32) + x1)) + x2)) + x3)) + x4)), .val (.int (5 : Int32))] [(.int (((31 : Int32) * (((31 : Int32) * (((31 : Int32) * ((0 : Int32) + x1)) + x2)) + x3)) + x4))])) rfl (hb hby own_d2_28)) ?_
  show OE _ p e below s _ _ _ s₁ (mkF m 30 #[.val (.ref a1), .val (.int (1 : Int32)), .val (.int (5 : Int32)), .val (.int (((31 : Int32) * (((31 : Int32) * (((31 : Int32) * ((0 : Int32) + x1)) + x2)) + x3)) + x4)), .val (.int (5 : Int32))] [(.int (-1640531527 : Int32)), (.int (((31 : Int32) * (((31 : Int32) * (((31 : Int32) * ((0 : Int32) + x1)) + x2)) + x3)) + x4))])
  refine OE.imul X0 hx hby own_d2_30 ?_
  refine OE.istoreN X0 hx hby own_d2_31 (l' := #[.val (.ref a1), .val (.int (1 : Int32)), .val (.int (5 : Int32)), .val (.int ((((31 : Int32) * (((31 : Int32) * (((31 : Int32) * ((0 : Int32) + x1)) + x2)) + x3)) + x4) * (-1640531527 : Int32))), .val (.int (5 : Int32))]) rfl ?_
  refine OE.iloadN X0 hx hby own_d2_32 rfl ?_
  refine OE.iloadN X0 hx hby own_d2_33 rfl ?_
  refine OE.bipush X0 hx hby own_d2_34 (16 : Int32) rfl ?_
  refine OE.iushr X0 hx hby own_d2_36 ?_
  refine OE.ixor X0 hx hby own_d2_37 ?_
  refine OE.retI X0 hx Bd.returns Bd.notSynchronized (hb hby own_d2_38) (by decide) (by decide) ?_
  rw [e0]
  exact ⟨rfl, N0, rfl⟩
def own_Q2_2_0 (Z : State) (a1 : Addr) (x0 : Int32) (x1 : Int32) (x2 : Int32) (x3 : Int32) (x4 : Int32) (k_a1 : ClassId) (h0 : Heap) (n0 : Nat) (v : Option Value) (h : Heap) (L : List Loc) : Prop := v = some (.int ((0 : Int32) ^^^ (((0 : Int32).toUInt32 >>> ((16 : Int32) &&& 31).toUInt32).toInt32))) ∧ Fr n0 L ∧ h = h0
theorem own_ef_own_rm2_2_0 (m : MethodId) (a1 : Addr) : entryFrame m #[(.ref a1), (.int (2 : Int32)), (.int (2 : Int32))] 5 = mkF m 0 #[.val (.ref a1), .val (.int (2 : Int32)), .val (.int (2 : Int32)), .unset, .unset] [] := by first | (simp [entryFrame, mkF, argsToLocals, Value.category]; done) | rfl
set_option maxRecDepth 65536 in
set_option maxHeartbeats 40000000 in
theorem own_rm2_2_0 (l : Launch) (Z : State) (a0 : Array Value) (hw : ∀ d ∈ tables_1, d.before a0 Z = true) (ws : List Jvm.Cond) (a1 : Addr) (x0 : Int32) (x1 : Int32) (x2 : Int32) (x3 : Int32) (x4 : Int32) (k_a1 : ClassId) (h0 : Heap) (n0 : Nat) (Z0 : n0 ≤ h0.size) (V_a1 : Arv Z h0 a1 k_a1 .char (5 : Int32) [(.int x0), (.int x1), (.int x2), (.int x3), (.int x4)] (.int (0 : Int32))) :
    MetFree l (⟨"com/example/archerfish/archerfish/index/TokenTable", "hash", "([CII)I"⟩ : MethodName) (head1 (Jvm.Cond.code (⟨"com/example/archerfish/archerfish/index/TokenTable", "hash", "([CII)I"⟩ : MethodName) prog_66_method_8_code 5 (some .int) :: ws) ({ frames := 0, cells := 0, slots := 0, locals := 0 } : Room)) (fun a U => a = #[(.ref a1), (.int (2 : Int32)), (.int (2 : Int32))] ∧ Z.Warmed39 U.vm ∧ U.heap = h0) (fun _ _ _ _ _ => True) (fun _ U o U' => ∃ v L, o = .returned v ∧ own_Q2_2_0 Z a1 x0 x1 x2 x3 x4 k_a1 h0 n0 v U'.heap L ∧ FrameEnd U o U' L ({ frames := 0, cells := 0, slots := 0, locals := 0 } : Room).cells ({ frames := 0, cells := 0, slots := 0, locals := 0 } : Room).slots) := by
  refine MetFree.of_bodySF (plainFor_of_name own_pn1) hisR ?_
  intro p e s m args below meth c s₁ Bd hml0 hP hK
  obtain ⟨rfl, hZ, hh⟩ := hP
  have hx := Bd.exec
  have hby := Bd.bytes
  have hml : c.maxLocals = 5 := hml0
  have hown : s.vm.findClass "com/example/archerfish/archerfish/index/TokenTable" = some m.cls := findClass_of_methodNamed Bd.named
  have hnm := (name_of_methodNamed Bd.named Bd.method).1
  have X0 : Stand p l e ({ frames := 0, cells := 0, slots := 0, locals := 0 } : Room) s m #[(.ref a1), (.int (2 : Int32)), (.int (2 : Int32))] below meth c s₁ [] 0 0 := Stand.of_body Bd
  have e0 : s₁.heap = h0 := by rw [← hh, Bd.state]; rfl
  have N0 := Fr.nil n0
  show OE FrameEnd p e below s (own_Q2_2_0 Z a1 x0 x1 x2 x3 x4 k_a1 h0 n0) ({ frames := 0, cells := 0, slots := 0, locals := 0 } : Room).cells ({ frames := 0, cells := 0, slots := 0, locals := 0 } : Room).slots s₁ (entryFrame m #[(.ref a1), (.int (2 : Int32)), (.int (2 : Int32))] 5)
  rw [own_ef_own_rm2_2_0]
  show OE _ p e below s _ _ _ s₁ (mkF m 0 #[.val (.ref a1), .val (.int (2 : Int32)), .val (.int (2 : Int32)), .unset, .unset] [])
  refine OE.iconst X0 hx hby own_d2_0 (0 : Int32) rfl ?_
  refine OE.istoreN X0 hx hby own_d2_1 (l' := #[.val (.ref a1), .val (.int (2 : Int32)), .val (.int (2 : Int32)), .val (.int (0 : Int32)), .unset]) rfl ?_
  refine OE.iloadN X0 hx hby own_d2_2 rfl ?_
  refine OE.istore X0 hx hby own_d2_3 (l' := #[.val (.ref a1), .val (.int (2 : Int32)), .val (.int (2 : Int32)), .val (.int (0 : Int32)), .val (.int (2 : Int32))]) rfl ?_
  refine OE.iload X0 hx hby own_d2_5 rfl ?_
  refine OE.iloadN X0 hx hby own_d2_7 rfl ?_
  refine OE.icmpYes X0 hx hby (pc' := 27) own_d2_8 (flt (by decide : ¬ ((2 : Int32) < (2 : Int32)))).2.1 (h := ?_)
  refine OE.iloadN X0 hx hby own_d2_27 rfl ?_
  refine OE.of (X0.ldcInt hx hown (mvT hZ (hw _ (List.mem_of_getElem? (i := 12) rfl))) (g := (mkF m 28 #[.val (.ref a1), .val (.int (2 : Int32)), .val (.int (2 : Int32)), .val (.int (0 : Int32)), .val (.int (2 : Int32))] [(.int (0 : Int32))])) rfl (hb hby own_d2_28)) ?_
  show OE _ p e below s _ _ _ s₁ (mkF m 30 #[.val (.ref a1), .val (.int (2 : Int32)), .val (.int (2 : Int32)), .val (.int (0 : Int32)), .val (.int (2 : Int32))] [(.int (-1640531527 : Int32)), (.int (0 : Int32))])
  refine OE.imul X0 hx hby own_d2_30 ?_
  rw [(by decide : ((0 : Int32) * (-1640531527 : Int32)) = (0 : Int32))]
  refine OE.istoreN X0 hx hby own_d2_31 (l' := #[.val (.ref a1), .val (.int (2 : Int32)), .val (.int (2 : Int32)), .val (.int (0 : Int32)), .val (.int (2 : Int32))]) rfl ?_
  refine OE.iloadN X0 hx hby own_d2_32 rfl ?_
  refine OE.iloadN X0 hx hby own_d2_33 rfl ?_
  refine OE.bipush X0 hx hby own_d2_34 (16 : Int32) rfl ?_
  refine OE.iushr X0 hx hby own_d2_36 ?_
  refine OE.ixor X0 hx hby own_d2_37 ?_
  refine OE.retI X0 hx Bd.returns Bd.notSynchronized (hb hby own_d2_38) (by decide) (by decide) ?_
  rw [e0]
  exact ⟨rfl, N0, rfl⟩
def own_Q2_2_1 (Z : State) (a1 : Addr) (x0 : Int32) (x1 : Int32) (x2 : Int32) (x3 : Int32) (x4 : Int32) (k_a1 : ClassId) (h0 : Heap) (n0 : Nat) (v : Option Value) (h : Heap) (L : List Loc) : Prop := v = some (.int ((((0 : Int32) + x2) * (-1640531527 : Int32)) ^^^ (((((0 : Int32) + x2) * (-1640531527 : Int32)).toUInt32 >>> ((16 : Int32) &&& 31).toUInt32).toInt32))) ∧ Fr n0 L ∧ h = h0
theorem own_ef_own_rm2_2_1 (m : MethodId) (a1 : Addr) : entryFrame m #[(.ref a1), (.int (2 : Int32)), (.int (3 : Int32))] 5 = mkF m 0 #[.val (.ref a1), .val (.int (2 : Int32)), .val (.int (3 : Int32)), .unset, .unset] [] := by first | (simp [entryFrame, mkF, argsToLocals, Value.category]; done) | rfl
set_option maxRecDepth 65536 in
set_option maxHeartbeats 40000000 in
theorem own_rm2_2_1 (l : Launch) (Z : State) (a0 : Array Value) (hw : ∀ d ∈ tables_1, d.before a0 Z = true) (ws : List Jvm.Cond) (a1 : Addr) (x0 : Int32) (x1 : Int32) (x2 : Int32) (x3 : Int32) (x4 : Int32) (k_a1 : ClassId) (h0 : Heap) (n0 : Nat) (Z0 : n0 ≤ h0.size) (V_a1 : Arv Z h0 a1 k_a1 .char (5 : Int32) [(.int x0), (.int x1), (.int x2), (.int x3), (.int x4)] (.int (0 : Int32))) :
    MetFree l (⟨"com/example/archerfish/archerfish/index/TokenTable", "hash", "([CII)I"⟩ : MethodName) (head1 (Jvm.Cond.code (⟨"com/example/archerfish/archerfish/index/TokenTable", "hash", "([CII)I"⟩ : MethodName) prog_66_method_8_code 5 (some .int) :: ws) ({ frames := 0, cells := 0, slots := 0, locals := 0 } : Room)) (fun a U => a = #[(.ref a1), (.int (2 : Int32)), (.int (3 : Int32))] ∧ Z.Warmed39 U.vm ∧ U.heap = h0) (fun _ _ _ _ _ => True) (fun _ U o U' => ∃ v L, o = .returned v ∧ own_Q2_2_1 Z a1 x0 x1 x2 x3 x4 k_a1 h0 n0 v U'.heap L ∧ FrameEnd U o U' L ({ frames := 0, cells := 0, slots := 0, locals := 0 } : Room).cells ({ frames := 0, cells := 0, slots := 0, locals := 0 } : Room).slots) := by
  refine MetFree.of_bodySF (plainFor_of_name own_pn1) hisR ?_
  intro p e s m args below meth c s₁ Bd hml0 hP hK
  obtain ⟨rfl, hZ, hh⟩ := hP
  have hx := Bd.exec
  have hby := Bd.bytes
  have hml : c.maxLocals = 5 := hml0
  have hown : s.vm.findClass "com/example/archerfish/archerfish/index/TokenTable" = some m.cls := findClass_of_methodNamed Bd.named
  have hnm := (name_of_methodNamed Bd.named Bd.method).1
  have X0 : Stand p l e ({ frames := 0, cells := 0, slots := 0, locals := 0 } : Room) s m #[(.ref a1), (.int (2 : Int32)), (.int (3 : Int32))] below meth c s₁ [] 0 0 := Stand.of_body Bd
  have e0 : s₁.heap = h0 := by rw [← hh, Bd.state]; rfl
  have N0 := Fr.nil n0
  show OE FrameEnd p e below s (own_Q2_2_1 Z a1 x0 x1 x2 x3 x4 k_a1 h0 n0) ({ frames := 0, cells := 0, slots := 0, locals := 0 } : Room).cells ({ frames := 0, cells := 0, slots := 0, locals := 0 } : Room).slots s₁ (entryFrame m #[(.ref a1), (.int (2 : Int32)), (.int (3 : Int32))] 5)
  rw [own_ef_own_rm2_2_1]
  show OE _ p e below s _ _ _ s₁ (mkF m 0 #[.val (.ref a1), .val (.int (2 : Int32)), .val (.int (3 : Int32)), .unset, .unset] [])
  refine OE.iconst X0 hx hby own_d2_0 (0 : Int32) rfl ?_
  refine OE.istoreN X0 hx hby own_d2_1 (l' := #[.val (.ref a1), .val (.int (2 : Int32)), .val (.int (3 : Int32)), .val (.int (0 : Int32)), .unset]) rfl ?_
  refine OE.iloadN X0 hx hby own_d2_2 rfl ?_
  refine OE.istore X0 hx hby own_d2_3 (l' := #[.val (.ref a1), .val (.int (2 : Int32)), .val (.int (3 : Int32)), .val (.int (0 : Int32)), .val (.int (2 : Int32))]) rfl ?_
  refine OE.iload X0 hx hby own_d2_5 rfl ?_
  refine OE.iloadN X0 hx hby own_d2_7 rfl ?_
  refine OE.icmpNo X0 hx hby own_d2_8 (tlt (by decide : (2 : Int32) < (3 : Int32))).2.1 ?_
  refine OE.bipush X0 hx hby own_d2_11 (31 : Int32) rfl ?_
  refine OE.iloadN X0 hx hby own_d2_13 rfl ?_
  refine OE.imul X0 hx hby own_d2_14 ?_
  rw [(by decide : ((31 : Int32) * (0 : Int32)) = (0 : Int32))]
  refine OE.aloadN X0 hx hby own_d2_15 rfl rfl ?_
  refine OE.iload X0 hx hby own_d2_16 rfl ?_
  have Vo1 := V_a1
  obtain ⟨cl1, Ar1, -, Sz1, Nz1, Hz1, Gz1⟩ := Vo1
  have hin1 : ¬ ((2 : Int32) < 0 ∨ cl1.slots.size ≤ ((2 : Int32)).toNatClampNeg) := inb_of Sz1 ⟨by decide, by decide⟩
  have hat1 : cl1.slots[((2 : Int32)).toNatClampNeg]? = some (.int x2) := Has.at Hz1 hin1 rfl
  refine OE.of (X0.caload hx (j := (2 : Int32)) (v := (.int x2)) (by rw [e0]; exact Ar1.1) (State.isArrayOf_alike hZ.alike Ar1.2.1) Ar1.2.2 hin1 hat1 (g := (mkF m 18 #[.val (.ref a1), .val (.int (2 : Int32)), .val (.int (3 : Int32)), .val (.int (0 : Int32)), .val (.int (2 : Int32))] [(.int (2 : Int32)), (.ref a1), (.int (0 : Int32))])) rfl rfl (hb hby own_d2_18)) ?_
  show OE _ p e below s _ _ _ s₁ (mkF m 19 #[.val (.ref a1), .val (.int (2 : Int32)), .val (.int (3 : Int32)), .val (.int (0 : Int32)), .val (.int (2 : Int32))] [(.int x2), (.int (0 : Int32))])
  refine OE.iadd X0 hx hby own_d2_19 ?_
  refine OE.istoreN X0 hx hby own_d2_20 (l' := #[.val (.ref a1), .val (.int (2 : Int32)), .val (.int (3 : Int32)), .val (.int ((0 : Int32) + x2)), .val (.int (2 : Int32))]) rfl ?_
  refine OE.iinc X0 hx hby own_d2_21 rfl (l' := #[.val (.ref a1), .val (.int (2 : Int32)), .val (.int (3 : Int32)), .val (.int ((0 : Int32) + x2)), .val (.int ((2 : Int32) + (1 : Int32)))]) rfl ?_
  rw [(by decide : ((2 : Int32) + (1 : Int32)) = (3 : Int32))]
  refine OE.goto X0 hx hby (pc' := 5) own_d2_24 (h := ?_)
  refine OE.iload X0 hx hby own_d2_5 rfl ?_
  refine OE.iloadN X0 hx hby own_d2_7 rfl ?_
  refine OE.icmpYes X0 hx hby (pc' := 27) own_d2_8 (flt (by decide : ¬ ((3 : Int32) < (3 : Int32)))).2.1 (h := ?_)
  refine OE.iloadN X0 hx hby own_d2_27 rfl ?_
  refine OE.of (X0.ldcInt hx hown (mvT hZ (hw _ (List.mem_of_getElem? (i := 12) rfl))) (g := (mkF m 28 #[.val (.ref a1), .val (.int (2 : Int32)), .val (.int (3 : Int32)), .val (.int ((0 : Int32) + x2)), .val (.int (3 : Int32))] [(.int ((0 : Int32) + x2))])) rfl (hb hby own_d2_28)) ?_
  show OE _ p e below s _ _ _ s₁ (mkF m 30 #[.val (.ref a1), .val (.int (2 : Int32)), .val (.int (3 : Int32)), .val (.int ((0 : Int32) + x2)), .val (.int (3 : Int32))] [(.int (-1640531527 : Int32)), (.int ((0 : Int32) + x2))])
  refine OE.imul X0 hx hby own_d2_30 ?_
  refine OE.istoreN X0 hx hby own_d2_31 (l' := #[.val (.ref a1), .val (.int (2 : Int32)), .val (.int (3 : Int32)), .val (.int (((0 : Int32) + x2) * (-1640531527 : Int32))), .val (.int (3 : Int32))]) rfl ?_
  refine OE.iloadN X0 hx hby own_d2_32 rfl ?_
  refine OE.iloadN X0 hx hby own_d2_33 rfl ?_
  refine OE.bipush X0 hx hby own_d2_34 (16 : Int32) rfl ?_
  refine OE.iushr X0 hx hby own_d2_36 ?_
  refine OE.ixor X0 hx hby own_d2_37 ?_
  refine OE.retI X0 hx Bd.returns Bd.notSynchronized (hb hby own_d2_38) (by decide) (by decide) ?_
  rw [e0]
  exact ⟨rfl, N0, rfl⟩
def own_Q2_2_2 (Z : State) (a1 : Addr) (x0 : Int32) (x1 : Int32) (x2 : Int32) (x3 : Int32) (x4 : Int32) (k_a1 : ClassId) (h0 : Heap) (n0 : Nat) (v : Option Value) (h : Heap) (L : List Loc) : Prop := v = some (.int (((((31 : Int32) * ((0 : Int32) + x2)) + x3) * (-1640531527 : Int32)) ^^^ ((((((31 : Int32) * ((0 : Int32) + x2)) + x3) * (-1640531527 : Int32)).toUInt32 >>> ((16 : Int32) &&& 31).toUInt32).toInt32))) ∧ Fr n0 L ∧ h = h0
theorem own_ef_own_rm2_2_2 (m : MethodId) (a1 : Addr) : entryFrame m #[(.ref a1), (.int (2 : Int32)), (.int (4 : Int32))] 5 = mkF m 0 #[.val (.ref a1), .val (.int (2 : Int32)), .val (.int (4 : Int32)), .unset, .unset] [] := by first | (simp [entryFrame, mkF, argsToLocals, Value.category]; done) | rfl
set_option maxRecDepth 65536 in
set_option maxHeartbeats 40000000 in
theorem own_rm2_2_2 (l : Launch) (Z : State) (a0 : Array Value) (hw : ∀ d ∈ tables_1, d.before a0 Z = true) (ws : List Jvm.Cond) (a1 : Addr) (x0 : Int32) (x1 : Int32) (x2 : Int32) (x3 : Int32) (x4 : Int32) (k_a1 : ClassId) (h0 : Heap) (n0 : Nat) (Z0 : n0 ≤ h0.size) (V_a1 : Arv Z h0 a1 k_a1 .char (5 : Int32) [(.int x0), (.int x1), (.int x2), (.int x3), (.int x4)] (.int (0 : Int32))) :
    MetFree l (⟨"com/example/archerfish/archerfish/index/TokenTable", "hash", "([CII)I"⟩ : MethodName) (head1 (Jvm.Cond.code (⟨"com/example/archerfish/archerfish/index/TokenTable", "hash", "([CII)I"⟩ : MethodName) prog_66_method_8_code 5 (some .int) :: ws) ({ frames := 0, cells := 0, slots := 0, locals := 0 } : Room)) (fun a U => a = #[(.ref a1), (.int (2 : Int32)), (.int (4 : Int32))] ∧ Z.Warmed39 U.vm ∧ U.heap = h0) (fun _ _ _ _ _ => True) (fun _ U o U' => ∃ v L, o = .returned v ∧ own_Q2_2_2 Z a1 x0 x1 x2 x3 x4 k_a1 h0 n0 v U'.heap L ∧ FrameEnd U o U' L ({ frames := 0, cells := 0, slots := 0, locals := 0 } : Room).cells ({ frames := 0, cells := 0, slots := 0, locals := 0 } : Room).slots) := by
  refine MetFree.of_bodySF (plainFor_of_name own_pn1) hisR ?_
  intro p e s m args below meth c s₁ Bd hml0 hP hK
  obtain ⟨rfl, hZ, hh⟩ := hP
  have hx := Bd.exec
  have hby := Bd.bytes
  have hml : c.maxLocals = 5 := hml0
  have hown : s.vm.findClass "com/example/archerfish/archerfish/index/TokenTable" = some m.cls := findClass_of_methodNamed Bd.named
  have hnm := (name_of_methodNamed Bd.named Bd.method).1
  have X0 : Stand p l e ({ frames := 0, cells := 0, slots := 0, locals := 0 } : Room) s m #[(.ref a1), (.int (2 : Int32)), (.int (4 : Int32))] below meth c s₁ [] 0 0 := Stand.of_body Bd
  have e0 : s₁.heap = h0 := by rw [← hh, Bd.state]; rfl
  have N0 := Fr.nil n0
  show OE FrameEnd p e below s (own_Q2_2_2 Z a1 x0 x1 x2 x3 x4 k_a1 h0 n0) ({ frames := 0, cells := 0, slots := 0, locals := 0 } : Room).cells ({ frames := 0, cells := 0, slots := 0, locals := 0 } : Room).slots s₁ (entryFrame m #[(.ref a1), (.int (2 : Int32)), (.int (4 : Int32))] 5)
  rw [own_ef_own_rm2_2_2]
  show OE _ p e below s _ _ _ s₁ (mkF m 0 #[.val (.ref a1), .val (.int (2 : Int32)), .val (.int (4 : Int32)), .unset, .unset] [])
  refine OE.iconst X0 hx hby own_d2_0 (0 : Int32) rfl ?_
  refine OE.istoreN X0 hx hby own_d2_1 (l' := #[.val (.ref a1), .val (.int (2 : Int32)), .val (.int (4 : Int32)), .val (.int (0 : Int32)), .unset]) rfl ?_
  refine OE.iloadN X0 hx hby own_d2_2 rfl ?_
  refine OE.istore X0 hx hby own_d2_3 (l' := #[.val (.ref a1), .val (.int (2 : Int32)), .val (.int (4 : Int32)), .val (.int (0 : Int32)), .val (.int (2 : Int32))]) rfl ?_
  refine OE.iload X0 hx hby own_d2_5 rfl ?_
  refine OE.iloadN X0 hx hby own_d2_7 rfl ?_
  refine OE.icmpNo X0 hx hby own_d2_8 (tlt (by decide : (2 : Int32) < (4 : Int32))).2.1 ?_
  refine OE.bipush X0 hx hby own_d2_11 (31 : Int32) rfl ?_
  refine OE.iloadN X0 hx hby own_d2_13 rfl ?_
  refine OE.imul X0 hx hby own_d2_14 ?_
  rw [(by decide : ((31 : Int32) * (0 : Int32)) = (0 : Int32))]
  refine OE.aloadN X0 hx hby own_d2_15 rfl rfl ?_
  refine OE.iload X0 hx hby own_d2_16 rfl ?_
  have Vo1 := V_a1
  obtain ⟨cl1, Ar1, -, Sz1, Nz1, Hz1, Gz1⟩ := Vo1
  have hin1 : ¬ ((2 : Int32) < 0 ∨ cl1.slots.size ≤ ((2 : Int32)).toNatClampNeg) := inb_of Sz1 ⟨by decide, by decide⟩
  have hat1 : cl1.slots[((2 : Int32)).toNatClampNeg]? = some (.int x2) := Has.at Hz1 hin1 rfl
  refine OE.of (X0.caload hx (j := (2 : Int32)) (v := (.int x2)) (by rw [e0]; exact Ar1.1) (State.isArrayOf_alike hZ.alike Ar1.2.1) Ar1.2.2 hin1 hat1 (g := (mkF m 18 #[.val (.ref a1), .val (.int (2 : Int32)), .val (.int (4 : Int32)), .val (.int (0 : Int32)), .val (.int (2 : Int32))] [(.int (2 : Int32)), (.ref a1), (.int (0 : Int32))])) rfl rfl (hb hby own_d2_18)) ?_
  show OE _ p e below s _ _ _ s₁ (mkF m 19 #[.val (.ref a1), .val (.int (2 : Int32)), .val (.int (4 : Int32)), .val (.int (0 : Int32)), .val (.int (2 : Int32))] [(.int x2), (.int (0 : Int32))])
  refine OE.iadd X0 hx hby own_d2_19 ?_
  refine OE.istoreN X0 hx hby own_d2_20 (l' := #[.val (.ref a1), .val (.int (2 : Int32)), .val (.int (4 : Int32)), .val (.int ((0 : Int32) + x2)), .val (.int (2 : Int32))]) rfl ?_
  refine OE.iinc X0 hx hby own_d2_21 rfl (l' := #[.val (.ref a1), .val (.int (2 : Int32)), .val (.int (4 : Int32)), .val (.int ((0 : Int32) + x2)), .val (.int ((2 : Int32) + (1 : Int32)))]) rfl ?_
  rw [(by decide : ((2 : Int32) + (1 : Int32)) = (3 : Int32))]
  refine OE.goto X0 hx hby (pc' := 5) own_d2_24 (h := ?_)
  refine OE.iload X0 hx hby own_d2_5 rfl ?_
  refine OE.iloadN X0 hx hby own_d2_7 rfl ?_
  refine OE.icmpNo X0 hx hby own_d2_8 (tlt (by decide : (3 : Int32) < (4 : Int32))).2.1 ?_
  refine OE.bipush X0 hx hby own_d2_11 (31 : Int32) rfl ?_
  refine OE.iloadN X0 hx hby own_d2_13 rfl ?_
  refine OE.imul X0 hx hby own_d2_14 ?_
  refine OE.aloadN X0 hx hby own_d2_15 rfl rfl ?_
  refine OE.iload X0 hx hby own_d2_16 rfl ?_
  have Vo2 := V_a1
  obtain ⟨cl2, Ar2, -, Sz2, Nz2, Hz2, Gz2⟩ := Vo2
  have hin2 : ¬ ((3 : Int32) < 0 ∨ cl2.slots.size ≤ ((3 : Int32)).toNatClampNeg) := inb_of Sz2 ⟨by decide, by decide⟩
  have hat2 : cl2.slots[((3 : Int32)).toNatClampNeg]? = some (.int x3) := Has.at Hz2 hin2 rfl
  refine OE.of (X0.caload hx (j := (3 : Int32)) (v := (.int x3)) (by rw [e0]; exact Ar2.1) (State.isArrayOf_alike hZ.alike Ar2.2.1) Ar2.2.2 hin2 hat2 (g := (mkF m 18 #[.val (.ref a1), .val (.int (2 : Int32)), .val (.int (4 : Int32)), .val (.int ((0 : Int32) + x2)), .val (.int (3 : Int32))] [(.int (3 : Int32)), (.ref a1), (.int ((31 : Int32) * ((0 : Int32) + x2)))])) rfl rfl (hb hby own_d2_18)) ?_
  show OE _ p e below s _ _ _ s₁ (mkF m 19 #[.val (.ref a1), .val (.int (2 : Int32)), .val (.int (4 : Int32)), .val (.int ((0 : Int32) + x2)), .val (.int (3 : Int32))] [(.int x3), (.int ((31 : Int32) * ((0 : Int32) + x2)))])
  refine OE.iadd X0 hx hby own_d2_19 ?_
  refine OE.istoreN X0 hx hby own_d2_20 (l' := #[.val (.ref a1), .val (.int (2 : Int32)), .val (.int (4 : Int32)), .val (.int (((31 : Int32) * ((0 : Int32) + x2)) + x3)), .val (.int (3 : Int32))]) rfl ?_
  refine OE.iinc X0 hx hby own_d2_21 rfl (l' := #[.val (.ref a1), .val (.int (2 : Int32)), .val (.int (4 : Int32)), .val (.int (((31 : Int32) * ((0 : Int32) + x2)) + x3)), .val (.int ((3 : Int32) + (1 : Int32)))]) rfl ?_
  rw [(by decide : ((3 : Int32) + (1 : Int32)) = (4 : Int32))]
  refine OE.goto X0 hx hby (pc' := 5) own_d2_24 (h := ?_)
  refine OE.iload X0 hx hby own_d2_5 rfl ?_
  refine OE.iloadN X0 hx hby own_d2_7 rfl ?_
  refine OE.icmpYes X0 hx hby (pc' := 27) own_d2_8 (flt (by decide : ¬ ((4 : Int32) < (4 : Int32)))).2.1 (h := ?_)
  refine OE.iloadN X0 hx hby own_d2_27 rfl ?_
  refine OE.of (X0.ldcInt hx hown (mvT hZ (hw _ (List.mem_of_getElem? (i := 12) rfl))) (g := (mkF m 28 #[.val (.ref a1), .val (.int (2 : Int32)), .val (.int (4 : Int32)), .val (.int (((31 : Int32) * ((0 : Int32) + x2)) + x3)), .val (.int (4 : Int32))] [(.int (((31 : Int32) * ((0 : Int32) + x2)) + x3))])) rfl (hb hby own_d2_28)) ?_
  show OE _ p e below s _ _ _ s₁ (mkF m 30 #[.val (.ref a1), .val (.int (2 : Int32)), .val (.int (4 : Int32)), .val (.int (((31 : Int32) * ((0 : Int32) + x2)) + x3)), .val (.int (4 : Int32))] [(.int (-1640531527 : Int32)), (.int (((31 : Int32) * ((0 : Int32) + x2)) + x3))])
  refine OE.imul X0 hx hby own_d2_30 ?_
  refine OE.istoreN X0 hx hby own_d2_31 (l' := #[.val (.ref a1), .val (.int (2 : Int32)), .val (.int (4 : Int32)), .val (.int ((((31 : Int32) * ((0 : Int32) + x2)) + x3) * (-1640531527 : Int32))), .val (.int (4 : Int32))]) rfl ?_
  refine OE.iloadN X0 hx hby own_d2_32 rfl ?_
  refine OE.iloadN X0 hx hby own_d2_33 rfl ?_
  refine OE.bipush X0 hx hby own_d2_34 (16 : Int32) rfl ?_
  refine OE.iushr X0 hx hby own_d2_36 ?_
  refine OE.ixor X0 hx hby own_d2_37 ?_
  refine OE.retI X0 hx Bd.returns Bd.notSynchronized (hb hby own_d2_38) (by decide) (by decide) ?_
  rw [e0]
  exact ⟨rfl, N0, rfl⟩
def own_Q2_2_3 (Z : State) (a1 : Addr) (x0 : Int32) (x1 : Int32) (x2 : Int32) (x3 : Int32) (x4 : Int32) (k_a1 : ClassId) (h0 : Heap) (n0 : Nat) (v : Option Value) (h : Heap) (L : List Loc) : Prop := v = some (.int (((((31 : Int32) * (((31 : Int32) * ((0 : Int32) + x2)) + x3)) + x4) * (-1640531527 : Int32)) ^^^ ((((((31 : Int32) * (((31 : Int32) * ((0 : Int32) + x2)) + x3)) + x4) * (-1640531527 : Int32)).toUInt32 >>> ((16 : Int32) &&& 31).toUInt32).toInt32))) ∧ Fr n0 L ∧ h = h0
theorem own_ef_own_rm2_2_3 (m : MethodId) (a1 : Addr) : entryFrame m #[(.ref a1), (.int (2 : Int32)), (.int (5 : Int32))] 5 = mkF m 0 #[.val (.ref a1), .val (.int (2 : Int32)), .val (.int (5 : Int32)), .unset, .unset] [] := by first | (simp [entryFrame, mkF, argsToLocals, Value.category]; done) | rfl
set_option maxRecDepth 65536 in
set_option maxHeartbeats 40000000 in
theorem own_rm2_2_3 (l : Launch) (Z : State) (a0 : Array Value) (hw : ∀ d ∈ tables_1, d.before a0 Z = true) (ws : List Jvm.Cond) (a1 : Addr) (x0 : Int32) (x1 : Int32) (x2 : Int32) (x3 : Int32) (x4 : Int32) (k_a1 : ClassId) (h0 : Heap) (n0 : Nat) (Z0 : n0 ≤ h0.size) (V_a1 : Arv Z h0 a1 k_a1 .char (5 : Int32) [(.int x0), (.int x1), (.int x2), (.int x3), (.int x4)] (.int (0 : Int32))) :
    MetFree l (⟨"com/example/archerfish/archerfish/index/TokenTable", "hash", "([CII)I"⟩ : MethodName) (head1 (Jvm.Cond.code (⟨"com/example/archerfish/archerfish/index/TokenTable", "hash", "([CII)I"⟩ : MethodName) prog_66_method_8_code 5 (some .int) :: ws) ({ frames := 0, cells := 0, slots := 0, locals := 0 } : Room)) (fun a U => a = #[(.ref a1), (.int (2 : Int32)), (.int (5 : Int32))] ∧ Z.Warmed39 U.vm ∧ U.heap = h0) (fun _ _ _ _ _ => True) (fun _ U o U' => ∃ v L, o = .returned v ∧ own_Q2_2_3 Z a1 x0 x1 x2 x3 x4 k_a1 h0 n0 v U'.heap L ∧ FrameEnd U o U' L ({ frames := 0, cells := 0, slots := 0, locals := 0 } : Room).cells ({ frames := 0, cells := 0, slots := 0, locals := 0 } : Room).slots) := by
  refine MetFree.of_bodySF (plainFor_of_name own_pn1) hisR ?_
  intro p e s m args below meth c s₁ Bd hml0 hP hK
  obtain ⟨rfl, hZ, hh⟩ := hP
  have hx := Bd.exec
  have hby := Bd.bytes
  have hml : c.maxLocals = 5 := hml0
  have hown : s.vm.findClass "com/example/archerfish/archerfish/index/TokenTable" = some m.cls := findClass_of_methodNamed Bd.named
  have hnm := (name_of_methodNamed Bd.named Bd.method).1
  have X0 : Stand p l e ({ frames := 0, cells := 0, slots := 0, locals := 0 } : Room) s m #[(.ref a1), (.int (2 : Int32)), (.int (5 : Int32))] below meth c s₁ [] 0 0 := Stand.of_body Bd
  have e0 : s₁.heap = h0 := by rw [← hh, Bd.state]; rfl
  have N0 := Fr.nil n0
  show OE FrameEnd p e below s (own_Q2_2_3 Z a1 x0 x1 x2 x3 x4 k_a1 h0 n0) ({ frames := 0, cells := 0, slots := 0, locals := 0 } : Room).cells ({ frames := 0, cells := 0, slots := 0, locals := 0 } : Room).slots s₁ (entryFrame m #[(.ref a1), (.int (2 : Int32)), (.int (5 : Int32))] 5)
  rw [own_ef_own_rm2_2_3]
  show OE _ p e below s _ _ _ s₁ (mkF m 0 #[.val (.ref a1), .val (.int (2 : Int32)), .val (.int (5 : Int32)), .unset, .unset] [])
  refine OE.iconst X0 hx hby own_d2_0 (0 : Int32) rfl ?_
  refine OE.istoreN X0 hx hby own_d2_1 (l' := #[.val (.ref a1), .val (.int (2 : Int32)), .val (.int (5 : Int32)), .val (.int (0 : Int32)), .unset]) rfl ?_
  refine OE.iloadN X0 hx hby own_d2_2 rfl ?_
  refine OE.istore X0 hx hby own_d2_3 (l' := #[.val (.ref a1), .val (.int (2 : Int32)), .val (.int (5 : Int32)), .val (.int (0 : Int32)), .val (.int (2 : Int32))]) rfl ?_
  refine OE.iload X0 hx hby own_d2_5 rfl ?_
  refine OE.iloadN X0 hx hby own_d2_7 rfl ?_
  refine OE.icmpNo X0 hx hby own_d2_8 (tlt (by decide : (2 : Int32) < (5 : Int32))).2.1 ?_
  refine OE.bipush X0 hx hby own_d2_11 (31 : Int32) rfl ?_
  refine OE.iloadN X0 hx hby own_d2_13 rfl ?_
  refine OE.imul X0 hx hby own_d2_14 ?_
  rw [(by decide : ((31 : Int32) * (0 : Int32)) = (0 : Int32))]
  refine OE.aloadN X0 hx hby own_d2_15 rfl rfl ?_
  refine OE.iload X0 hx hby own_d2_16 rfl ?_
  have Vo1 := V_a1
  obtain ⟨cl1, Ar1, -, Sz1, Nz1, Hz1, Gz1⟩ := Vo1
  have hin1 : ¬ ((2 : Int32) < 0 ∨ cl1.slots.size ≤ ((2 : Int32)).toNatClampNeg) := inb_of Sz1 ⟨by decide, by decide⟩
  have hat1 : cl1.slots[((2 : Int32)).toNatClampNeg]? = some (.int x2) := Has.at Hz1 hin1 rfl
  refine OE.of (X0.caload hx (j := (2 : Int32)) (v := (.int x2)) (by rw [e0]; exact Ar1.1) (State.isArrayOf_alike hZ.alike Ar1.2.1) Ar1.2.2 hin1 hat1 (g := (mkF m 18 #[.val (.ref a1), .val (.int (2 : Int32)), .val (.int (5 : Int32)), .val (.int (0 : Int32)), .val (.int (2 : Int32))] [(.int (2 : Int32)), (.ref a1), (.int (0 : Int32))])) rfl rfl (hb hby own_d2_18)) ?_
  show OE _ p e below s _ _ _ s₁ (mkF m 19 #[.val (.ref a1), .val (.int (2 : Int32)), .val (.int (5 : Int32)), .val (.int (0 : Int32)), .val (.int (2 : Int32))] [(.int x2), (.int (0 : Int32))])
  refine OE.iadd X0 hx hby own_d2_19 ?_
  refine OE.istoreN X0 hx hby own_d2_20 (l' := #[.val (.ref a1), .val (.int (2 : Int32)), .val (.int (5 : Int32)), .val (.int ((0 : Int32) + x2)), .val (.int (2 : Int32))]) rfl ?_
  refine OE.iinc X0 hx hby own_d2_21 rfl (l' := #[.val (.ref a1), .val (.int (2 : Int32)), .val (.int (5 : Int32)), .val (.int ((0 : Int32) + x2)), .val (.int ((2 : Int32) + (1 : Int32)))]) rfl ?_
  rw [(by decide : ((2 : Int32) + (1 : Int32)) = (3 : Int32))]
  refine OE.goto X0 hx hby (pc' := 5) own_d2_24 (h := ?_)
  refine OE.iload X0 hx hby own_d2_5 rfl ?_
  refine OE.iloadN X0 hx hby own_d2_7 rfl ?_
  refine OE.icmpNo X0 hx hby own_d2_8 (tlt (by decide : (3 : Int32) < (5 : Int32))).2.1 ?_
  refine OE.bipush X0 hx hby own_d2_11 (31 : Int32) rfl ?_
  refine OE.iloadN X0 hx hby own_d2_13 rfl ?_
  refine OE.imul X0 hx hby own_d2_14 ?_
  refine OE.aloadN X0 hx hby own_d2_15 rfl rfl ?_
  refine OE.iload X0 hx hby own_d2_16 rfl ?_
  have Vo2 := V_a1
  obtain ⟨cl2, Ar2, -, Sz2, Nz2, Hz2, Gz2⟩ := Vo2
  have hin2 : ¬ ((3 : Int32) < 0 ∨ cl2.slots.size ≤ ((3 : Int32)).toNatClampNeg) := inb_of Sz2 ⟨by decide, by decide⟩
  have hat2 : cl2.slots[((3 : Int32)).toNatClampNeg]? = some (.int x3) := Has.at Hz2 hin2 rfl
  refine OE.of (X0.caload hx (j := (3 : Int32)) (v := (.int x3)) (by rw [e0]; exact Ar2.1) (State.isArrayOf_alike hZ.alike Ar2.2.1) Ar2.2.2 hin2 hat2 (g := (mkF m 18 #[.val (.ref a1), .val (.int (2 : Int32)), .val (.int (5 : Int32)), .val (.int ((0 : Int32) + x2)), .val (.int (3 : Int32))] [(.int (3 : Int32)), (.ref a1), (.int ((31 : Int32) * ((0 : Int32) + x2)))])) rfl rfl (hb hby own_d2_18)) ?_
  show OE _ p e below s _ _ _ s₁ (mkF m 19 #[.val (.ref a1), .val (.int (2 : Int32)), .val (.int (5 : Int32)), .val (.int ((0 : Int32) + x2)), .val (.int (3 : Int32))] [(.int x3), (.int ((31 : Int32) * ((0 : Int32) + x2)))])
  refine OE.iadd X0 hx hby own_d2_19 ?_
  refine OE.istoreN X0 hx hby own_d2_20 (l' := #[.val (.ref a1), .val (.int (2 : Int32)), .val (.int (5 : Int32)), .val (.int (((31 : Int32) * ((0 : Int32) + x2)) + x3)), .val (.int (3 : Int32))]) rfl ?_
  refine OE.iinc X0 hx hby own_d2_21 rfl (l' := #[.val (.ref a1), .val (.int (2 : Int32)), .val (.int (5 : Int32)), .val (.int (((31 : Int32) * ((0 : Int32) + x2)) + x3)), .val (.int ((3 : Int32) + (1 : Int32)))]) rfl ?_
  rw [(by decide : ((3 : Int32) + (1 : Int32)) = (4 : Int32))]
  refine OE.goto X0 hx hby (pc' := 5) own_d2_24 (h := ?_)
  refine OE.iload X0 hx hby own_d2_5 rfl ?_
  refine OE.iloadN X0 hx hby own_d2_7 rfl ?_
  refine OE.icmpNo X0 hx hby own_d2_8 (tlt (by decide : (4 : Int32) < (5 : Int32))).2.1 ?_
  refine OE.bipush X0 hx hby own_d2_11 (31 : Int32) rfl ?_
  refine OE.iloadN X0 hx hby own_d2_13 rfl ?_
  refine OE.imul X0 hx hby own_d2_14 ?_
  refine OE.aloadN X0 hx hby own_d2_15 rfl rfl ?_
  refine OE.iload X0 hx hby own_d2_16 rfl ?_
  have Vo3 := V_a1
  obtain ⟨cl3, Ar3, -, Sz3, Nz3, Hz3, Gz3⟩ := Vo3
  have hin3 : ¬ ((4 : Int32) < 0 ∨ cl3.slots.size ≤ ((4 : Int32)).toNatClampNeg) := inb_of Sz3 ⟨by decide, by decide⟩
  have hat3 : cl3.slots[((4 : Int32)).toNatClampNeg]? = some (.int x4) := Has.at Hz3 hin3 rfl
  refine OE.of (X0.caload hx (j := (4 : Int32)) (v := (.int x4)) (by rw [e0]; exact Ar3.1) (State.isArrayOf_alike hZ.alike Ar3.2.1) Ar3.2.2 hin3 hat3 (g := (mkF m 18 #[.val (.ref a1), .val (.int (2 : Int32)), .val (.int (5 : Int32)), .val (.int (((31 : Int32) * ((0 : Int32) + x2)) + x3)), .val (.int (4 : Int32))] [(.int (4 : Int32)), (.ref a1), (.int ((31 : Int32) * (((31 : Int32) * ((0 : Int32) + x2)) + x3)))])) rfl rfl (hb hby own_d2_18)) ?_
  show OE _ p e below s _ _ _ s₁ (mkF m 19 #[.val (.ref a1), .val (.int (2 : Int32)), .val (.int (5 : Int32)), .val (.int (((31 : Int32) * ((0 : Int32) + x2)) + x3)), .val (.int (4 : Int32))] [(.int x4), (.int ((31 : Int32) * (((31 : Int32) * ((0 : Int32) + x2)) + x3)))])
  refine OE.iadd X0 hx hby own_d2_19 ?_
  refine OE.istoreN X0 hx hby own_d2_20 (l' := #[.val (.ref a1), .val (.int (2 : Int32)), .val (.int (5 : Int32)), .val (.int (((31 : Int32) * (((31 : Int32) * ((0 : Int32) + x2)) + x3)) + x4)), .val (.int (4 : Int32))]) rfl ?_
  refine OE.iinc X0 hx hby own_d2_21 rfl (l' := #[.val (.ref a1), .val (.int (2 : Int32)), .val (.int (5 : Int32)), .val (.int (((31 : Int32) * (((31 : Int32) * ((0 : Int32) + x2)) + x3)) + x4)), .val (.int ((4 : Int32) + (1 : Int32)))]) rfl ?_
  rw [(by decide : ((4 : Int32) + (1 : Int32)) = (5 : Int32))]
  refine OE.goto X0 hx hby (pc' := 5) own_d2_24 (h := ?_)
  refine OE.iload X0 hx hby own_d2_5 rfl ?_
  refine OE.iloadN X0 hx hby own_d2_7 rfl ?_
  refine OE.icmpYes X0 hx hby (pc' := 27) own_d2_8 (flt (by decide : ¬ ((5 : Int32) < (5 : Int32)))).2.1 (h := ?_)
  refine OE.iloadN X0 hx hby own_d2_27 rfl ?_
  refine OE.of (X0.ldcInt hx hown (mvT hZ (hw _ (List.mem_of_getElem? (i := 12) rfl))) (g := (mkF m 28 #[.val (.ref a1), .val (.int (2 : Int32)), .val (.int (5 : Int32)), .val (.int (((31 : Int32) * (((31 : Int32) * ((0 : Int32) + x2)) + x3)) + x4)), .val (.int (5 : Int32))] [(.int (((31 : Int32) * (((31 : Int32) * ((0 : Int32) + x2)) + x3)) + x4))])) rfl (hb hby own_d2_28)) ?_
  show OE _ p e below s _ _ _ s₁ (mkF m 30 #[.val (.ref a1), .val (.int (2 : Int32)), .val (.int (5 : Int32)), .val (.int (((31 : Int32) * (((31 : Int32) * ((0 : Int32) + x2)) + x3)) + x4)), .val (.int (5 : Int32))] [(.int (-1640531527 : Int32)), (.int (((31 : Int32) * (((31 : Int32) * ((0 : Int32) + x2)) + x3)) + x4))])
  refine OE.imul X0 hx hby own_d2_30 ?_
  refine OE.istoreN X0 hx hby own_d2_31 (l' := #[.val (.ref a1), .val (.int (2 : Int32)), .val (.int (5 : Int32)), .val (.int ((((31 : Int32) * (((31 : Int32) * ((0 : Int32) + x2)) + x3)) + x4) * (-1640531527 : Int32))), .val (.int (5 : Int32))]) rfl ?_
  refine OE.iloadN X0 hx hby own_d2_32 rfl ?_
  refine OE.iloadN X0 hx hby own_d2_33 rfl ?_
  refine OE.bipush X0 hx hby own_d2_34 (16 : Int32) rfl ?_
  refine OE.iushr X0 hx hby own_d2_36 ?_
  refine OE.ixor X0 hx hby own_d2_37 ?_
  refine OE.retI X0 hx Bd.returns Bd.notSynchronized (hb hby own_d2_38) (by decide) (by decide) ?_
  rw [e0]
  exact ⟨rfl, N0, rfl⟩
def own_Q2_3_0 (Z : State) (a1 : Addr) (x0 : Int32) (x1 : Int32) (x2 : Int32) (x3 : Int32) (x4 : Int32) (k_a1 : ClassId) (h0 : Heap) (n0 : Nat) (v : Option Value) (h : Heap) (L : List Loc) : Prop := v = some (.int ((0 : Int32) ^^^ (((0 : Int32).toUInt32 >>> ((16 : Int32) &&& 31).toUInt32).toInt32))) ∧ Fr n0 L ∧ h = h0
theorem own_ef_own_rm2_3_0 (m : MethodId) (a1 : Addr) : entryFrame m #[(.ref a1), (.int (3 : Int32)), (.int (3 : Int32))] 5 = mkF m 0 #[.val (.ref a1), .val (.int (3 : Int32)), .val (.int (3 : Int32)), .unset, .unset] [] := by first | (simp [entryFrame, mkF, argsToLocals, Value.category]; done) | rfl
set_option maxRecDepth 65536 in
set_option maxHeartbeats 40000000 in
theorem own_rm2_3_0 (l : Launch) (Z : State) (a0 : Array Value) (hw : ∀ d ∈ tables_1, d.before a0 Z = true) (ws : List Jvm.Cond) (a1 : Addr) (x0 : Int32) (x1 : Int32) (x2 : Int32) (x3 : Int32) (x4 : Int32) (k_a1 : ClassId) (h0 : Heap) (n0 : Nat) (Z0 : n0 ≤ h0.size) (V_a1 : Arv Z h0 a1 k_a1 .char (5 : Int32) [(.int x0), (.int x1), (.int x2), (.int x3), (.int x4)] (.int (0 : Int32))) :
    MetFree l (⟨"com/example/archerfish/archerfish/index/TokenTable", "hash", "([CII)I"⟩ : MethodName) (head1 (Jvm.Cond.code (⟨"com/example/archerfish/archerfish/index/TokenTable", "hash", "([CII)I"⟩ : MethodName) prog_66_method_8_code 5 (some .int) :: ws) ({ frames := 0, cells := 0, slots := 0, locals := 0 } : Room)) (fun a U => a = #[(.ref a1), (.int (3 : Int32)), (.int (3 : Int32))] ∧ Z.Warmed39 U.vm ∧ U.heap = h0) (fun _ _ _ _ _ => True) (fun _ U o U' => ∃ v L, o = .returned v ∧ own_Q2_3_0 Z a1 x0 x1 x2 x3 x4 k_a1 h0 n0 v U'.heap L ∧ FrameEnd U o U' L ({ frames := 0, cells := 0, slots := 0, locals := 0 } : Room).cells ({ frames := 0, cells := 0, slots := 0, locals := 0 } : Room).slots) := by
  refine MetFree.of_bodySF (plainFor_of_name own_pn1) hisR ?_
  intro p e s m args below meth c s₁ Bd hml0 hP hK
  obtain ⟨rfl, hZ, hh⟩ := hP
  have hx := Bd.exec
  have hby := Bd.bytes
  have hml : c.maxLocals = 5 := hml0
  have hown : s.vm.findClass "com/example/archerfish/archerfish/index/TokenTable" = some m.cls := findClass_of_methodNamed Bd.named
  have hnm := (name_of_methodNamed Bd.named Bd.method).1
  have X0 : Stand p l e ({ frames := 0, cells := 0, slots := 0, locals := 0 } : Room) s m #[(.ref a1), (.int (3 : Int32)), (.int (3 : Int32))] below meth c s₁ [] 0 0 := Stand.of_body Bd
  have e0 : s₁.heap = h0 := by rw [← hh, Bd.state]; rfl
  have N0 := Fr.nil n0
  show OE FrameEnd p e below s (own_Q2_3_0 Z a1 x0 x1 x2 x3 x4 k_a1 h0 n0) ({ frames := 0, cells := 0, slots := 0, locals := 0 } : Room).cells ({ frames := 0, cells := 0, slots := 0, locals := 0 } : Room).slots s₁ (entryFrame m #[(.ref a1), (.int (3 : Int32)), (.int (3 : Int32))] 5)
  rw [own_ef_own_rm2_3_0]
  show OE _ p e below s _ _ _ s₁ (mkF m 0 #[.val (.ref a1), .val (.int (3 : Int32)), .val (.int (3 : Int32)), .unset, .unset] [])
  refine OE.iconst X0 hx hby own_d2_0 (0 : Int32) rfl ?_
  refine OE.istoreN X0 hx hby own_d2_1 (l' := #[.val (.ref a1), .val (.int (3 : Int32)), .val (.int (3 : Int32)), .val (.int (0 : Int32)), .unset]) rfl ?_
  refine OE.iloadN X0 hx hby own_d2_2 rfl ?_
  refine OE.istore X0 hx hby own_d2_3 (l' := #[.val (.ref a1), .val (.int (3 : Int32)), .val (.int (3 : Int32)), .val (.int (0 : Int32)), .val (.int (3 : Int32))]) rfl ?_
  refine OE.iload X0 hx hby own_d2_5 rfl ?_
  refine OE.iloadN X0 hx hby own_d2_7 rfl ?_
  refine OE.icmpYes X0 hx hby (pc' := 27) own_d2_8 (flt (by decide : ¬ ((3 : Int32) < (3 : Int32)))).2.1 (h := ?_)
  refine OE.iloadN X0 hx hby own_d2_27 rfl ?_
  refine OE.of (X0.ldcInt hx hown (mvT hZ (hw _ (List.mem_of_getElem? (i := 12) rfl))) (g := (mkF m 28 #[.val (.ref a1), .val (.int (3 : Int32)), .val (.int (3 : Int32)), .val (.int (0 : Int32)), .val (.int (3 : Int32))] [(.int (0 : Int32))])) rfl (hb hby own_d2_28)) ?_
  show OE _ p e below s _ _ _ s₁ (mkF m 30 #[.val (.ref a1), .val (.int (3 : Int32)), .val (.int (3 : Int32)), .val (.int (0 : Int32)), .val (.int (3 : Int32))] [(.int (-1640531527 : Int32)), (.int (0 : Int32))])
  refine OE.imul X0 hx hby own_d2_30 ?_
  rw [(by decide : ((0 : Int32) * (-1640531527 : Int32)) = (0 : Int32))]
  refine OE.istoreN X0 hx hby own_d2_31 (l' := #[.val (.ref a1), .val (.int (3 : Int32)), .val (.int (3 : Int32)), .val (.int (0 : Int32)), .val (.int (3 : Int32))]) rfl ?_
  refine OE.iloadN X0 hx hby own_d2_32 rfl ?_
  refine OE.iloadN X0 hx hby own_d2_33 rfl ?_
  refine OE.bipush X0 hx hby own_d2_34 (16 : Int32) rfl ?_
  refine OE.iushr X0 hx hby own_d2_36 ?_
  refine OE.ixor X0 hx hby own_d2_37 ?_
  refine OE.retI X0 hx Bd.returns Bd.notSynchronized (hb hby own_d2_38) (by decide) (by decide) ?_
  rw [e0]
  exact ⟨rfl, N0, rfl⟩
def own_Q2_3_1 (Z : State) (a1 : Addr) (x0 : Int32) (x1 : Int32) (x2 : Int32) (x3 : Int32) (x4 : Int32) (k_a1 : ClassId) (h0 : Heap) (n0 : Nat) (v : Option Value) (h : Heap) (L : List Loc) : Prop := v = some (.int ((((0 : Int32) + x3) * (-1640531527 : Int32)) ^^^ (((((0 : Int32) + x3) * (-1640531527 : Int32)).toUInt32 >>> ((16 : Int32) &&& 31).toUInt32).toInt32))) ∧ Fr n0 L ∧ h = h0
theorem own_ef_own_rm2_3_1 (m : MethodId) (a1 : Addr) : entryFrame m #[(.ref a1), (.int (3 : Int32)), (.int (4 : Int32))] 5 = mkF m 0 #[.val (.ref a1), .val (.int (3 : Int32)), .val (.int (4 : Int32)), .unset, .unset] [] := by first | (simp [entryFrame, mkF, argsToLocals, Value.category]; done) | rfl
set_option maxRecDepth 65536 in
set_option maxHeartbeats 40000000 in
theorem own_rm2_3_1 (l : Launch) (Z : State) (a0 : Array Value) (hw : ∀ d ∈ tables_1, d.before a0 Z = true) (ws : List Jvm.Cond) (a1 : Addr) (x0 : Int32) (x1 : Int32) (x2 : Int32) (x3 : Int32) (x4 : Int32) (k_a1 : ClassId) (h0 : Heap) (n0 : Nat) (Z0 : n0 ≤ h0.size) (V_a1 : Arv Z h0 a1 k_a1 .char (5 : Int32) [(.int x0), (.int x1), (.int x2), (.int x3), (.int x4)] (.int (0 : Int32))) :
    MetFree l (⟨"com/example/archerfish/archerfish/index/TokenTable", "hash", "([CII)I"⟩ : MethodName) (head1 (Jvm.Cond.code (⟨"com/example/archerfish/archerfish/index/TokenTable", "hash", "([CII)I"⟩ : MethodName) prog_66_method_8_code 5 (some .int) :: ws) ({ frames := 0, cells := 0, slots := 0, locals := 0 } : Room)) (fun a U => a = #[(.ref a1), (.int (3 : Int32)), (.int (4 : Int32))] ∧ Z.Warmed39 U.vm ∧ U.heap = h0) (fun _ _ _ _ _ => True) (fun _ U o U' => ∃ v L, o = .returned v ∧ own_Q2_3_1 Z a1 x0 x1 x2 x3 x4 k_a1 h0 n0 v U'.heap L ∧ FrameEnd U o U' L ({ frames := 0, cells := 0, slots := 0, locals := 0 } : Room).cells ({ frames := 0, cells := 0, slots := 0, locals := 0 } : Room).slots) := by
  refine MetFree.of_bodySF (plainFor_of_name own_pn1) hisR ?_
  intro p e s m args below meth c s₁ Bd hml0 hP hK
  obtain ⟨rfl, hZ, hh⟩ := hP
  have hx := Bd.exec
  have hby := Bd.bytes
  have hml : c.maxLocals = 5 := hml0
  have hown : s.vm.findClass "com/example/archerfish/archerfish/index/TokenTable" = some m.cls := findClass_of_methodNamed Bd.named
  have hnm := (name_of_methodNamed Bd.named Bd.method).1
  have X0 : Stand p l e ({ frames := 0, cells := 0, slots := 0, locals := 0 } : Room) s m #[(.ref a1), (.int (3 : Int32)), (.int (4 : Int32))] below meth c s₁ [] 0 0 := Stand.of_body Bd
  have e0 : s₁.heap = h0 := by rw [← hh, Bd.state]; rfl
  have N0 := Fr.nil n0
  show OE FrameEnd p e below s (own_Q2_3_1 Z a1 x0 x1 x2 x3 x4 k_a1 h0 n0) ({ frames := 0, cells := 0, slots := 0, locals := 0 } : Room).cells ({ frames := 0, cells := 0, slots := 0, locals := 0 } : Room).slots s₁ (entryFrame m #[(.ref a1), (.int (3 : Int32)), (.int (4 : Int32))] 5)
  rw [own_ef_own_rm2_3_1]
  show OE _ p e below s _ _ _ s₁ (mkF m 0 #[.val (.ref a1), .val (.int (3 : Int32)), .val (.int (4 : Int32)), .unset, .unset] [])
  refine OE.iconst X0 hx hby own_d2_0 (0 : Int32) rfl ?_
  refine OE.istoreN X0 hx hby own_d2_1 (l' := #[.val (.ref a1), .val (.int (3 : Int32)), .val (.int (4 : Int32)), .val (.int (0 : Int32)), .unset]) rfl ?_
  refine OE.iloadN X0 hx hby own_d2_2 rfl ?_
  refine OE.istore X0 hx hby own_d2_3 (l' := #[.val (.ref a1), .val (.int (3 : Int32)), .val (.int (4 : Int32)), .val (.int (0 : Int32)), .val (.int (3 : Int32))]) rfl ?_
  refine OE.iload X0 hx hby own_d2_5 rfl ?_
  refine OE.iloadN X0 hx hby own_d2_7 rfl ?_
  refine OE.icmpNo X0 hx hby own_d2_8 (tlt (by decide : (3 : Int32) < (4 : Int32))).2.1 ?_
  refine OE.bipush X0 hx hby own_d2_11 (31 : Int32) rfl ?_
  refine OE.iloadN X0 hx hby own_d2_13 rfl ?_
  refine OE.imul X0 hx hby own_d2_14 ?_
  rw [(by decide : ((31 : Int32) * (0 : Int32)) = (0 : Int32))]
  refine OE.aloadN X0 hx hby own_d2_15 rfl rfl ?_
  refine OE.iload X0 hx hby own_d2_16 rfl ?_
  have Vo1 := V_a1
  obtain ⟨cl1, Ar1, -, Sz1, Nz1, Hz1, Gz1⟩ := Vo1
  have hin1 : ¬ ((3 : Int32) < 0 ∨ cl1.slots.size ≤ ((3 : Int32)).toNatClampNeg) := inb_of Sz1 ⟨by decide, by decide⟩
  have hat1 : cl1.slots[((3 : Int32)).toNatClampNeg]? = some (.int x3) := Has.at Hz1 hin1 rfl
  refine OE.of (X0.caload hx (j := (3 : Int32)) (v := (.int x3)) (by rw [e0]; exact Ar1.1) (State.isArrayOf_alike hZ.alike Ar1.2.1) Ar1.2.2 hin1 hat1 (g := (mkF m 18 #[.val (.ref a1), .val (.int (3 : Int32)), .val (.int (4 : Int32)), .val (.int (0 : Int32)), .val (.int (3 : Int32))] [(.int (3 : Int32)), (.ref a1), (.int (0 : Int32))])) rfl rfl (hb hby own_d2_18)) ?_
  show OE _ p e below s _ _ _ s₁ (mkF m 19 #[.val (.ref a1), .val (.int (3 : Int32)), .val (.int (4 : Int32)), .val (.int (0 : Int32)), .val (.int (3 : Int32))] [(.int x3), (.int (0 : Int32))])
  refine OE.iadd X0 hx hby own_d2_19 ?_
  refine OE.istoreN X0 hx hby own_d2_20 (l' := #[.val (.ref a1), .val (.int (3 : Int32)), .val (.int (4 : Int32)), .val (.int ((0 : Int32) + x3)), .val (.int (3 : Int32))]) rfl ?_
  refine OE.iinc X0 hx hby own_d2_21 rfl (l' := #[.val (.ref a1), .val (.int (3 : Int32)), .val (.int (4 : Int32)), .val (.int ((0 : Int32) + x3)), .val (.int ((3 : Int32) + (1 : Int32)))]) rfl ?_
  rw [(by decide : ((3 : Int32) + (1 : Int32)) = (4 : Int32))]
  refine OE.goto X0 hx hby (pc' := 5) own_d2_24 (h := ?_)
  refine OE.iload X0 hx hby own_d2_5 rfl ?_
  refine OE.iloadN X0 hx hby own_d2_7 rfl ?_
  refine OE.icmpYes X0 hx hby (pc' := 27) own_d2_8 (flt (by decide : ¬ ((4 : Int32) < (4 : Int32)))).2.1 (h := ?_)
  refine OE.iloadN X0 hx hby own_d2_27 rfl ?_
  refine OE.of (X0.ldcInt hx hown (mvT hZ (hw _ (List.mem_of_getElem? (i := 12) rfl))) (g := (mkF m 28 #[.val (.ref a1), .val (.int (3 : Int32)), .val (.int (4 : Int32)), .val (.int ((0 : Int32) + x3)), .val (.int (4 : Int32))] [(.int ((0 : Int32) + x3))])) rfl (hb hby own_d2_28)) ?_
  show OE _ p e below s _ _ _ s₁ (mkF m 30 #[.val (.ref a1), .val (.int (3 : Int32)), .val (.int (4 : Int32)), .val (.int ((0 : Int32) + x3)), .val (.int (4 : Int32))] [(.int (-1640531527 : Int32)), (.int ((0 : Int32) + x3))])
  refine OE.imul X0 hx hby own_d2_30 ?_
  refine OE.istoreN X0 hx hby own_d2_31 (l' := #[.val (.ref a1), .val (.int (3 : Int32)), .val (.int (4 : Int32)), .val (.int (((0 : Int32) + x3) * (-1640531527 : Int32))), .val (.int (4 : Int32))]) rfl ?_
  refine OE.iloadN X0 hx hby own_d2_32 rfl ?_
  refine OE.iloadN X0 hx hby own_d2_33 rfl ?_
  refine OE.bipush X0 hx hby own_d2_34 (16 : Int32) rfl ?_
  refine OE.iushr X0 hx hby own_d2_36 ?_
  refine OE.ixor X0 hx hby own_d2_37 ?_
  refine OE.retI X0 hx Bd.returns Bd.notSynchronized (hb hby own_d2_38) (by decide) (by decide) ?_
  rw [e0]
  exact ⟨rfl, N0, rfl⟩
def own_Q2_3_2 (Z : State) (a1 : Addr) (x0 : Int32) (x1 : Int32) (x2 : Int32) (x3 : Int32) (x4 : Int32) (k_a1 : ClassId) (h0 : Heap) (n0 : Nat) (v : Option Value) (h : Heap) (L : List Loc) : Prop := v = some (.int (((((31 : Int32) * ((0 : Int32) + x3)) + x4) * (-1640531527 : Int32)) ^^^ ((((((31 : Int32) * ((0 : Int32) + x3)) + x4) * (-1640531527 : Int32)).toUInt32 >>> ((16 : Int32) &&& 31).toUInt32).toInt32))) ∧ Fr n0 L ∧ h = h0
theorem own_ef_own_rm2_3_2 (m : MethodId) (a1 : Addr) : entryFrame m #[(.ref a1), (.int (3 : Int32)), (.int (5 : Int32))] 5 = mkF m 0 #[.val (.ref a1), .val (.int (3 : Int32)), .val (.int (5 : Int32)), .unset, .unset] [] := by first | (simp [entryFrame, mkF, argsToLocals, Value.category]; done) | rfl
set_option maxRecDepth 65536 in
set_option maxHeartbeats 40000000 in
theorem own_rm2_3_2 (l : Launch) (Z : State) (a0 : Array Value) (hw : ∀ d ∈ tables_1, d.before a0 Z = true) (ws : List Jvm.Cond) (a1 : Addr) (x0 : Int32) (x1 : Int32) (x2 : Int32) (x3 : Int32) (x4 : Int32) (k_a1 : ClassId) (h0 : Heap) (n0 : Nat) (Z0 : n0 ≤ h0.size) (V_a1 : Arv Z h0 a1 k_a1 .char (5 : Int32) [(.int x0), (.int x1), (.int x2), (.int x3), (.int x4)] (.int (0 : Int32))) :
    MetFree l (⟨"com/example/archerfish/archerfish/index/TokenTable", "hash", "([CII)I"⟩ : MethodName) (head1 (Jvm.Cond.code (⟨"com/example/archerfish/archerfish/index/TokenTable", "hash", "([CII)I"⟩ : MethodName) prog_66_method_8_code 5 (some .int) :: ws) ({ frames := 0, cells := 0, slots := 0, locals := 0 } : Room)) (fun a U => a = #[(.ref a1), (.int (3 : Int32)), (.int (5 : Int32))] ∧ Z.Warmed39 U.vm ∧ U.heap = h0) (fun _ _ _ _ _ => True) (fun _ U o U' => ∃ v L, o = .returned v ∧ own_Q2_3_2 Z a1 x0 x1 x2 x3 x4 k_a1 h0 n0 v U'.heap L ∧ FrameEnd U o U' L ({ frames := 0, cells := 0, slots := 0, locals := 0 } : Room).cells ({ frames := 0, cells := 0, slots := 0, locals := 0 } : Room).slots) := by
  refine MetFree.of_bodySF (plainFor_of_name own_pn1) hisR ?_
  intro p e s m args below meth c s₁ Bd hml0 hP hK
  obtain ⟨rfl, hZ, hh⟩ := hP
  have hx := Bd.exec
  have hby := Bd.bytes
  have hml : c.maxLocals = 5 := hml0
  have hown : s.vm.findClass "com/example/archerfish/archerfish/index/TokenTable" = some m.cls := findClass_of_methodNamed Bd.named
  have hnm := (name_of_methodNamed Bd.named Bd.method).1
  have X0 : Stand p l e ({ frames := 0, cells := 0, slots := 0, locals := 0 } : Room) s m #[(.ref a1), (.int (3 : Int32)), (.int (5 : Int32))] below meth c s₁ [] 0 0 := Stand.of_body Bd
  have e0 : s₁.heap = h0 := by rw [← hh, Bd.state]; rfl
  have N0 := Fr.nil n0
  show OE FrameEnd p e below s (own_Q2_3_2 Z a1 x0 x1 x2 x3 x4 k_a1 h0 n0) ({ frames := 0, cells := 0, slots := 0, locals := 0 } : Room).cells ({ frames := 0, cells := 0, slots := 0, locals := 0 } : Room).slots s₁ (entryFrame m #[(.ref a1), (.int (3 : Int32)), (.int (5 : Int32))] 5)
  rw [own_ef_own_rm2_3_2]
  show OE _ p e below s _ _ _ s₁ (mkF m 0 #[.val (.ref a1), .val (.int (3 : Int32)), .val (.int (5 : Int32)), .unset, .unset] [])
  refine OE.iconst X0 hx hby own_d2_0 (0 : Int32) rfl ?_
  refine OE.istoreN X0 hx hby own_d2_1 (l' := #[.val (.ref a1), .val (.int (3 : Int32)), .val (.int (5 : Int32)), .val (.int (0 : Int32)), .unset]) rfl ?_
  refine OE.iloadN X0 hx hby own_d2_2 rfl ?_
  refine OE.istore X0 hx hby own_d2_3 (l' := #[.val (.ref a1), .val (.int (3 : Int32)), .val (.int (5 : Int32)), .val (.int (0 : Int32)), .val (.int (3 : Int32))]) rfl ?_
  refine OE.iload X0 hx hby own_d2_5 rfl ?_
  refine OE.iloadN X0 hx hby own_d2_7 rfl ?_
  refine OE.icmpNo X0 hx hby own_d2_8 (tlt (by decide : (3 : Int32) < (5 : Int32))).2.1 ?_
  refine OE.bipush X0 hx hby own_d2_11 (31 : Int32) rfl ?_
  refine OE.iloadN X0 hx hby own_d2_13 rfl ?_
  refine OE.imul X0 hx hby own_d2_14 ?_
  rw [(by decide : ((31 : Int32) * (0 : Int32)) = (0 : Int32))]
  refine OE.aloadN X0 hx hby own_d2_15 rfl rfl ?_
  refine OE.iload X0 hx hby own_d2_16 rfl ?_
  have Vo1 := V_a1
  obtain ⟨cl1, Ar1, -, Sz1, Nz1, Hz1, Gz1⟩ := Vo1
  have hin1 : ¬ ((3 : Int32) < 0 ∨ cl1.slots.size ≤ ((3 : Int32)).toNatClampNeg) := inb_of Sz1 ⟨by decide, by decide⟩
  have hat1 : cl1.slots[((3 : Int32)).toNatClampNeg]? = some (.int x3) := Has.at Hz1 hin1 rfl
  refine OE.of (X0.caload hx (j := (3 : Int32)) (v := (.int x3)) (by rw [e0]; exact Ar1.1) (State.isArrayOf_alike hZ.alike Ar1.2.1) Ar1.2.2 hin1 hat1 (g := (mkF m 18 #[.val (.ref a1), .val (.int (3 : Int32)), .val (.int (5 : Int32)), .val (.int (0 : Int32)), .val (.int (3 : Int32))] [(.int (3 : Int32)), (.ref a1), (.int (0 : Int32))])) rfl rfl (hb hby own_d2_18)) ?_
  show OE _ p e below s _ _ _ s₁ (mkF m 19 #[.val (.ref a1), .val (.int (3 : Int32)), .val (.int (5 : Int32)), .val (.int (0 : Int32)), .val (.int (3 : Int32))] [(.int x3), (.int (0 : Int32))])
  refine OE.iadd X0 hx hby own_d2_19 ?_
  refine OE.istoreN X0 hx hby own_d2_20 (l' := #[.val (.ref a1), .val (.int (3 : Int32)), .val (.int (5 : Int32)), .val (.int ((0 : Int32) + x3)), .val (.int (3 : Int32))]) rfl ?_
  refine OE.iinc X0 hx hby own_d2_21 rfl (l' := #[.val (.ref a1), .val (.int (3 : Int32)), .val (.int (5 : Int32)), .val (.int ((0 : Int32) + x3)), .val (.int ((3 : Int32) + (1 : Int32)))]) rfl ?_
  rw [(by decide : ((3 : Int32) + (1 : Int32)) = (4 : Int32))]
  refine OE.goto X0 hx hby (pc' := 5) own_d2_24 (h := ?_)
  refine OE.iload X0 hx hby own_d2_5 rfl ?_
  refine OE.iloadN X0 hx hby own_d2_7 rfl ?_
  refine OE.icmpNo X0 hx hby own_d2_8 (tlt (by decide : (4 : Int32) < (5 : Int32))).2.1 ?_
  refine OE.bipush X0 hx hby own_d2_11 (31 : Int32) rfl ?_
  refine OE.iloadN X0 hx hby own_d2_13 rfl ?_
  refine OE.imul X0 hx hby own_d2_14 ?_
  refine OE.aloadN X0 hx hby own_d2_15 rfl rfl ?_
  refine OE.iload X0 hx hby own_d2_16 rfl ?_
  have Vo2 := V_a1
  obtain ⟨cl2, Ar2, -, Sz2, Nz2, Hz2, Gz2⟩ := Vo2
  have hin2 : ¬ ((4 : Int32) < 0 ∨ cl2.slots.size ≤ ((4 : Int32)).toNatClampNeg) := inb_of Sz2 ⟨by decide, by decide⟩
  have hat2 : cl2.slots[((4 : Int32)).toNatClampNeg]? = some (.int x4) := Has.at Hz2 hin2 rfl
  refine OE.of (X0.caload hx (j := (4 : Int32)) (v := (.int x4)) (by rw [e0]; exact Ar2.1) (State.isArrayOf_alike hZ.alike Ar2.2.1) Ar2.2.2 hin2 hat2 (g := (mkF m 18 #[.val (.ref a1), .val (.int (3 : Int32)), .val (.int (5 : Int32)), .val (.int ((0 : Int32) + x3)), .val (.int (4 : Int32))] [(.int (4 : Int32)), (.ref a1), (.int ((31 : Int32) * ((0 : Int32) + x3)))])) rfl rfl (hb hby own_d2_18)) ?_
  show OE _ p e below s _ _ _ s₁ (mkF m 19 #[.val (.ref a1), .val (.int (3 : Int32)), .val (.int (5 : Int32)), .val (.int ((0 : Int32) + x3)), .val (.int (4 : Int32))] [(.int x4), (.int ((31 : Int32) * ((0 : Int32) + x3)))])
  refine OE.iadd X0 hx hby own_d2_19 ?_
  refine OE.istoreN X0 hx hby own_d2_20 (l' := #[.val (.ref a1), .val (.int (3 : Int32)), .val (.int (5 : Int32)), .val (.int (((31 : Int32) * ((0 : Int32) + x3)) + x4)), .val (.int (4 : Int32))]) rfl ?_
  refine OE.iinc X0 hx hby own_d2_21 rfl (l' := #[.val (.ref a1), .val (.int (3 : Int32)), .val (.int (5 : Int32)), .val (.int (((31 : Int32) * ((0 : Int32) + x3)) + x4)), .val (.int ((4 : Int32) + (1 : Int32)))]) rfl ?_
  rw [(by decide : ((4 : Int32) + (1 : Int32)) = (5 : Int32))]
  refine OE.goto X0 hx hby (pc' := 5) own_d2_24 (h := ?_)
  refine OE.iload X0 hx hby own_d2_5 rfl ?_
  refine OE.iloadN X0 hx hby own_d2_7 rfl ?_
  refine OE.icmpYes X0 hx hby (pc' := 27) own_d2_8 (flt (by decide : ¬ ((5 : Int32) < (5 : Int32)))).2.1 (h := ?_)
  refine OE.iloadN X0 hx hby own_d2_27 rfl ?_
  refine OE.of (X0.ldcInt hx hown (mvT hZ (hw _ (List.mem_of_getElem? (i := 12) rfl))) (g := (mkF m 28 #[.val (.ref a1), .val (.int (3 : Int32)), .val (.int (5 : Int32)), .val (.int (((31 : Int32) * ((0 : Int32) + x3)) + x4)), .val (.int (5 : Int32))] [(.int (((31 : Int32) * ((0 : Int32) + x3)) + x4))])) rfl (hb hby own_d2_28)) ?_
  show OE _ p e below s _ _ _ s₁ (mkF m 30 #[.val (.ref a1), .val (.int (3 : Int32)), .val (.int (5 : Int32)), .val (.int (((31 : Int32) * ((0 : Int32) + x3)) + x4)), .val (.int (5 : Int32))] [(.int (-1640531527 : Int32)), (.int (((31 : Int32) * ((0 : Int32) + x3)) + x4))])
  refine OE.imul X0 hx hby own_d2_30 ?_
  refine OE.istoreN X0 hx hby own_d2_31 (l' := #[.val (.ref a1), .val (.int (3 : Int32)), .val (.int (5 : Int32)), .val (.int ((((31 : Int32) * ((0 : Int32) + x3)) + x4) * (-1640531527 : Int32))), .val (.int (5 : Int32))]) rfl ?_
  refine OE.iloadN X0 hx hby own_d2_32 rfl ?_
  refine OE.iloadN X0 hx hby own_d2_33 rfl ?_
  refine OE.bipush X0 hx hby own_d2_34 (16 : Int32) rfl ?_
  refine OE.iushr X0 hx hby own_d2_36 ?_
  refine OE.ixor X0 hx hby own_d2_37 ?_
  refine OE.retI X0 hx Bd.returns Bd.notSynchronized (hb hby own_d2_38) (by decide) (by decide) ?_
  rw [e0]
  exact ⟨rfl, N0, rfl⟩
def own_Q2_4_0 (Z : State) (a1 : Addr) (x0 : Int32) (x1 : Int32) (x2 : Int32) (x3 : Int32) (x4 : Int32) (k_a1 : ClassId) (h0 : Heap) (n0 : Nat) (v : Option Value) (h : Heap) (L : List Loc) : Prop := v = some (.int ((0 : Int32) ^^^ (((0 : Int32).toUInt32 >>> ((16 : Int32) &&& 31).toUInt32).toInt32))) ∧ Fr n0 L ∧ h = h0
theorem own_ef_own_rm2_4_0 (m : MethodId) (a1 : Addr) : entryFrame m #[(.ref a1), (.int (4 : Int32)), (.int (4 : Int32))] 5 = mkF m 0 #[.val (.ref a1), .val (.int (4 : Int32)), .val (.int (4 : Int32)), .unset, .unset] [] := by first | (simp [entryFrame, mkF, argsToLocals, Value.category]; done) | rfl
set_option maxRecDepth 65536 in
set_option maxHeartbeats 40000000 in
theorem own_rm2_4_0 (l : Launch) (Z : State) (a0 : Array Value) (hw : ∀ d ∈ tables_1, d.before a0 Z = true) (ws : List Jvm.Cond) (a1 : Addr) (x0 : Int32) (x1 : Int32) (x2 : Int32) (x3 : Int32) (x4 : Int32) (k_a1 : ClassId) (h0 : Heap) (n0 : Nat) (Z0 : n0 ≤ h0.size) (V_a1 : Arv Z h0 a1 k_a1 .char (5 : Int32) [(.int x0), (.int x1), (.int x2), (.int x3), (.int x4)] (.int (0 : Int32))) :
    MetFree l (⟨"com/example/archerfish/archerfish/index/TokenTable", "hash", "([CII)I"⟩ : MethodName) (head1 (Jvm.Cond.code (⟨"com/example/archerfish/archerfish/index/TokenTable", "hash", "([CII)I"⟩ : MethodName) prog_66_method_8_code 5 (some .int) :: ws) ({ frames := 0, cells := 0, slots := 0, locals := 0 } : Room)) (fun a U => a = #[(.ref a1), (.int (4 : Int32)), (.int (4 : Int32))] ∧ Z.Warmed39 U.vm ∧ U.heap = h0) (fun _ _ _ _ _ => True) (fun _ U o U' => ∃ v L, o = .returned v ∧ own_Q2_4_0 Z a1 x0 x1 x2 x3 x4 k_a1 h0 n0 v U'.heap L ∧ FrameEnd U o U' L ({ frames := 0, cells := 0, slots := 0, locals := 0 } : Room).cells ({ frames := 0, cells := 0, slots := 0, locals := 0 } : Room).slots) := by
  refine MetFree.of_bodySF (plainFor_of_name own_pn1) hisR ?_
  intro p e s m args below meth c s₁ Bd hml0 hP hK
  obtain ⟨rfl, hZ, hh⟩ := hP
  have hx := Bd.exec
  have hby := Bd.bytes
  have hml : c.maxLocals = 5 := hml0
  have hown : s.vm.findClass "com/example/archerfish/archerfish/index/TokenTable" = some m.cls := findClass_of_methodNamed Bd.named
  have hnm := (name_of_methodNamed Bd.named Bd.method).1
  have X0 : Stand p l e ({ frames := 0, cells := 0, slots := 0, locals := 0 } : Room) s m #[(.ref a1), (.int (4 : Int32)), (.int (4 : Int32))] below meth c s₁ [] 0 0 := Stand.of_body Bd
  have e0 : s₁.heap = h0 := by rw [← hh, Bd.state]; rfl
  have N0 := Fr.nil n0
  show OE FrameEnd p e below s (own_Q2_4_0 Z a1 x0 x1 x2 x3 x4 k_a1 h0 n0) ({ frames := 0, cells := 0, slots := 0, locals := 0 } : Room).cells ({ frames := 0, cells := 0, slots := 0, locals := 0 } : Room).slots s₁ (entryFrame m #[(.ref a1), (.int (4 : Int32)), (.int (4 : Int32))] 5)
  rw [own_ef_own_rm2_4_0]
  show OE _ p e below s _ _ _ s₁ (mkF m 0 #[.val (.ref a1), .val (.int (4 : Int32)), .val (.int (4 : Int32)), .unset, .unset] [])
  refine OE.iconst X0 hx hby own_d2_0 (0 : Int32) rfl ?_
  refine OE.istoreN X0 hx hby own_d2_1 (l' := #[.val (.ref a1), .val (.int (4 : Int32)), .val (.int (4 : Int32)), .val (.int (0 : Int32)), .unset]) rfl ?_
  refine OE.iloadN X0 hx hby own_d2_2 rfl ?_
  refine OE.istore X0 hx hby own_d2_3 (l' := #[.val (.ref a1), .val (.int (4 : Int32)), .val (.int (4 : Int32)), .val (.int (0 : Int32)), .val (.int (4 : Int32))]) rfl ?_
  refine OE.iload X0 hx hby own_d2_5 rfl ?_
  refine OE.iloadN X0 hx hby own_d2_7 rfl ?_
  refine OE.icmpYes X0 hx hby (pc' := 27) own_d2_8 (flt (by decide : ¬ ((4 : Int32) < (4 : Int32)))).2.1 (h := ?_)
  refine OE.iloadN X0 hx hby own_d2_27 rfl ?_
  refine OE.of (X0.ldcInt hx hown (mvT hZ (hw _ (List.mem_of_getElem? (i := 12) rfl))) (g := (mkF m 28 #[.val (.ref a1), .val (.int (4 : Int32)), .val (.int (4 : Int32)), .val (.int (0 : Int32)), .val (.int (4 : Int32))] [(.int (0 : Int32))])) rfl (hb hby own_d2_28)) ?_
  show OE _ p e below s _ _ _ s₁ (mkF m 30 #[.val (.ref a1), .val (.int (4 : Int32)), .val (.int (4 : Int32)), .val (.int (0 : Int32)), .val (.int (4 : Int32))] [(.int (-1640531527 : Int32)), (.int (0 : Int32))])
  refine OE.imul X0 hx hby own_d2_30 ?_
  rw [(by decide : ((0 : Int32) * (-1640531527 : Int32)) = (0 : Int32))]
  refine OE.istoreN X0 hx hby own_d2_31 (l' := #[.val (.ref a1), .val (.int (4 : Int32)), .val (.int (4 : Int32)), .val (.int (0 : Int32)), .val (.int (4 : Int32))]) rfl ?_
  refine OE.iloadN X0 hx hby own_d2_32 rfl ?_
  refine OE.iloadN X0 hx hby own_d2_33 rfl ?_
  refine OE.bipush X0 hx hby own_d2_34 (16 : Int32) rfl ?_
  refine OE.iushr X0 hx hby own_d2_36 ?_
  refine OE.ixor X0 hx hby own_d2_37 ?_
  refine OE.retI X0 hx Bd.returns Bd.notSynchronized (hb hby own_d2_38) (by decide) (by decide) ?_
  rw [e0]
  exact ⟨rfl, N0, rfl⟩
def own_Q2_4_1 (Z : State) (a1 : Addr) (x0 : Int32) (x1 : Int32) (x2 : Int32) (x3 : Int32) (x4 : Int32) (k_a1 : ClassId) (h0 : Heap) (n0 : Nat) (v : Option Value) (h : Heap) (L : List Loc) : Prop := v = some (.int ((((0 : Int32) + x4) * (-1640531527 : Int32)) ^^^ (((((0 : Int32) + x4) * (-1640531527 : Int32)).toUInt32 >>> ((16 : Int32) &&& 31).toUInt32).toInt32))) ∧ Fr n0 L ∧ h = h0
theorem own_ef_own_rm2_4_1 (m : MethodId) (a1 : Addr) : entryFrame m #[(.ref a1), (.int (4 : Int32)), (.int (5 : Int32))] 5 = mkF m 0 #[.val (.ref a1), .val (.int (4 : Int32)), .val (.int (5 : Int32)), .unset, .unset] [] := by first | (simp [entryFrame, mkF, argsToLocals, Value.category]; done) | rfl
set_option maxRecDepth 65536 in
set_option maxHeartbeats 40000000 in
theorem own_rm2_4_1 (l : Launch) (Z : State) (a0 : Array Value) (hw : ∀ d ∈ tables_1, d.before a0 Z = true) (ws : List Jvm.Cond) (a1 : Addr) (x0 : Int32) (x1 : Int32) (x2 : Int32) (x3 : Int32) (x4 : Int32) (k_a1 : ClassId) (h0 : Heap) (n0 : Nat) (Z0 : n0 ≤ h0.size) (V_a1 : Arv Z h0 a1 k_a1 .char (5 : Int32) [(.int x0), (.int x1), (.int x2), (.int x3), (.int x4)] (.int (0 : Int32))) :
    MetFree l (⟨"com/example/archerfish/archerfish/index/TokenTable", "hash", "([CII)I"⟩ : MethodName) (head1 (Jvm.Cond.code (⟨"com/example/archerfish/archerfish/index/TokenTable", "hash", "([CII)I"⟩ : MethodName) prog_66_method_8_code 5 (some .int) :: ws) ({ frames := 0, cells := 0, slots := 0, locals := 0 } : Room)) (fun a U => a = #[(.ref a1), (.int (4 : Int32)), (.int (5 : Int32))] ∧ Z.Warmed39 U.vm ∧ U.heap = h0) (fun _ _ _ _ _ => True) (fun _ U o U' => ∃ v L, o = .returned v ∧ own_Q2_4_1 Z a1 x0 x1 x2 x3 x4 k_a1 h0 n0 v U'.heap L ∧ FrameEnd U o U' L ({ frames := 0, cells := 0, slots := 0, locals := 0 } : Room).cells ({ frames := 0, cells := 0, slots := 0, locals := 0 } : Room).slots) := by
  refine MetFree.of_bodySF (plainFor_of_name own_pn1) hisR ?_
  intro p e s m args below meth c s₁ Bd hml0 hP hK
  obtain ⟨rfl, hZ, hh⟩ := hP
  have hx := Bd.exec
  have hby := Bd.bytes
  have hml : c.maxLocals = 5 := hml0
  have hown : s.vm.findClass "com/example/archerfish/archerfish/index/TokenTable" = some m.cls := findClass_of_methodNamed Bd.named
  have hnm := (name_of_methodNamed Bd.named Bd.method).1
  have X0 : Stand p l e ({ frames := 0, cells := 0, slots := 0, locals := 0 } : Room) s m #[(.ref a1), (.int (4 : Int32)), (.int (5 : Int32))] below meth c s₁ [] 0 0 := Stand.of_body Bd
  have e0 : s₁.heap = h0 := by rw [← hh, Bd.state]; rfl
  have N0 := Fr.nil n0
  show OE FrameEnd p e below s (own_Q2_4_1 Z a1 x0 x1 x2 x3 x4 k_a1 h0 n0) ({ frames := 0, cells := 0, slots := 0, locals := 0 } : Room).cells ({ frames := 0, cells := 0, slots := 0, locals := 0 } : Room).slots s₁ (entryFrame m #[(.ref a1), (.int (4 : Int32)), (.int (5 : Int32))] 5)
  rw [own_ef_own_rm2_4_1]
  show OE _ p e below s _ _ _ s₁ (mkF m 0 #[.val (.ref a1), .val (.int (4 : Int32)), .val (.int (5 : Int32)), .unset, .unset] [])
  refine OE.iconst X0 hx hby own_d2_0 (0 : Int32) rfl ?_
  refine OE.istoreN X0 hx hby own_d2_1 (l' := #[.val (.ref a1), .val (.int (4 : Int32)), .val (.int (5 : Int32)), .val (.int (0 : Int32)), .unset]) rfl ?_
  refine OE.iloadN X0 hx hby own_d2_2 rfl ?_
  refine OE.istore X0 hx hby own_d2_3 (l' := #[.val (.ref a1), .val (.int (4 : Int32)), .val (.int (5 : Int32)), .val (.int (0 : Int32)), .val (.int (4 : Int32))]) rfl ?_
  refine OE.iload X0 hx hby own_d2_5 rfl ?_
  refine OE.iloadN X0 hx hby own_d2_7 rfl ?_
  refine OE.icmpNo X0 hx hby own_d2_8 (tlt (by decide : (4 : Int32) < (5 : Int32))).2.1 ?_
  refine OE.bipush X0 hx hby own_d2_11 (31 : Int32) rfl ?_
  refine OE.iloadN X0 hx hby own_d2_13 rfl ?_
  refine OE.imul X0 hx hby own_d2_14 ?_
  rw [(by decide : ((31 : Int32) * (0 : Int32)) = (0 : Int32))]
  refine OE.aloadN X0 hx hby own_d2_15 rfl rfl ?_
  refine OE.iload X0 hx hby own_d2_16 rfl ?_
  have Vo1 := V_a1
  obtain ⟨cl1, Ar1, -, Sz1, Nz1, Hz1, Gz1⟩ := Vo1
  have hin1 : ¬ ((4 : Int32) < 0 ∨ cl1.slots.size ≤ ((4 : Int32)).toNatClampNeg) := inb_of Sz1 ⟨by decide, by decide⟩
  have hat1 : cl1.slots[((4 : Int32)).toNatClampNeg]? = some (.int x4) := Has.at Hz1 hin1 rfl
  refine OE.of (X0.caload hx (j := (4 : Int32)) (v := (.int x4)) (by rw [e0]; exact Ar1.1) (State.isArrayOf_alike hZ.alike Ar1.2.1) Ar1.2.2 hin1 hat1 (g := (mkF m 18 #[.val (.ref a1), .val (.int (4 : Int32)), .val (.int (5 : Int32)), .val (.int (0 : Int32)), .val (.int (4 : Int32))] [(.int (4 : Int32)), (.ref a1), (.int (0 : Int32))])) rfl rfl (hb hby own_d2_18)) ?_
  show OE _ p e below s _ _ _ s₁ (mkF m 19 #[.val (.ref a1), .val (.int (4 : Int32)), .val (.int (5 : Int32)), .val (.int (0 : Int32)), .val (.int (4 : Int32))] [(.int x4), (.int (0 : Int32))])
  refine OE.iadd X0 hx hby own_d2_19 ?_
  refine OE.istoreN X0 hx hby own_d2_20 (l' := #[.val (.ref a1), .val (.int (4 : Int32)), .val (.int (5 : Int32)), .val (.int ((0 : Int32) + x4)), .val (.int (4 : Int32))]) rfl ?_
  refine OE.iinc X0 hx hby own_d2_21 rfl (l' := #[.val (.ref a1), .val (.int (4 : Int32)), .val (.int (5 : Int32)), .val (.int ((0 : Int32) + x4)), .val (.int ((4 : Int32) + (1 : Int32)))]) rfl ?_
  rw [(by decide : ((4 : Int32) + (1 : Int32)) = (5 : Int32))]
  refine OE.goto X0 hx hby (pc' := 5) own_d2_24 (h := ?_)
  refine OE.iload X0 hx hby own_d2_5 rfl ?_
  refine OE.iloadN X0 hx hby own_d2_7 rfl ?_
  refine OE.icmpYes X0 hx hby (pc' := 27) own_d2_8 (flt (by decide : ¬ ((5 : Int32) < (5 : Int32)))).2.1 (h := ?_)
  refine OE.iloadN X0 hx hby own_d2_27 rfl ?_
  refine OE.of (X0.ldcInt hx hown (mvT hZ (hw _ (List.mem_of_getElem? (i := 12) rfl))) (g := (mkF m 28 #[.val (.ref a1), .val (.int (4 : Int32)), .val (.int (5 : Int32)), .val (.int ((0 : Int32) + x4)), .val (.int (5 : Int32))] [(.int ((0 : Int32) + x4))])) rfl (hb hby own_d2_28)) ?_
  show OE _ p e below s _ _ _ s₁ (mkF m 30 #[.val (.ref a1), .val (.int (4 : Int32)), .val (.int (5 : Int32)), .val (.int ((0 : Int32) + x4)), .val (.int (5 : Int32))] [(.int (-1640531527 : Int32)), (.int ((0 : Int32) + x4))])
  refine OE.imul X0 hx hby own_d2_30 ?_
  refine OE.istoreN X0 hx hby own_d2_31 (l' := #[.val (.ref a1), .val (.int (4 : Int32)), .val (.int (5 : Int32)), .val (.int (((0 : Int32) + x4) * (-1640531527 : Int32))), .val (.int (5 : Int32))]) rfl ?_
  refine OE.iloadN X0 hx hby own_d2_32 rfl ?_
  refine OE.iloadN X0 hx hby own_d2_33 rfl ?_
  refine OE.bipush X0 hx hby own_d2_34 (16 : Int32) rfl ?_
  refine OE.iushr X0 hx hby own_d2_36 ?_
  refine OE.ixor X0 hx hby own_d2_37 ?_
  refine OE.retI X0 hx Bd.returns Bd.notSynchronized (hb hby own_d2_38) (by decide) (by decide) ?_
  rw [e0]
  exact ⟨rfl, N0, rfl⟩
def own_Q2_5_0 (Z : State) (a1 : Addr) (x0 : Int32) (x1 : Int32) (x2 : Int32) (x3 : Int32) (x4 : Int32) (k_a1 : ClassId) (h0 : Heap) (n0 : Nat) (v : Option Value) (h : Heap) (L : List Loc) : Prop := v = some (.int ((0 : Int32) ^^^ (((0 : Int32).toUInt32 >>> ((16 : Int32) &&& 31).toUInt32).toInt32))) ∧ Fr n0 L ∧ h = h0
theorem own_ef_own_rm2_5_0 (m : MethodId) (a1 : Addr) : entryFrame m #[(.ref a1), (.int (5 : Int32)), (.int (5 : Int32))] 5 = mkF m 0 #[.val (.ref a1), .val (.int (5 : Int32)), .val (.int (5 : Int32)), .unset, .unset] [] := by first | (simp [entryFrame, mkF, argsToLocals, Value.category]; done) | rfl
set_option maxRecDepth 65536 in
set_option maxHeartbeats 40000000 in
theorem own_rm2_5_0 (l : Launch) (Z : State) (a0 : Array Value) (hw : ∀ d ∈ tables_1, d.before a0 Z = true) (ws : List Jvm.Cond) (a1 : Addr) (x0 : Int32) (x1 : Int32) (x2 : Int32) (x3 : Int32) (x4 : Int32) (k_a1 : ClassId) (h0 : Heap) (n0 : Nat) (Z0 : n0 ≤ h0.size) (V_a1 : Arv Z h0 a1 k_a1 .char (5 : Int32) [(.int x0), (.int x1), (.int x2), (.int x3), (.int x4)] (.int (0 : Int32))) :
    MetFree l (⟨"com/example/archerfish/archerfish/index/TokenTable", "hash", "([CII)I"⟩ : MethodName) (head1 (Jvm.Cond.code (⟨"com/example/archerfish/archerfish/index/TokenTable", "hash", "([CII)I"⟩ : MethodName) prog_66_method_8_code 5 (some .int) :: ws) ({ frames := 0, cells := 0, slots := 0, locals := 0 } : Room)) (fun a U => a = #[(.ref a1), (.int (5 : Int32)), (.int (5 : Int32))] ∧ Z.Warmed39 U.vm ∧ U.heap = h0) (fun _ _ _ _ _ => True) (fun _ U o U' => ∃ v L, o = .returned v ∧ own_Q2_5_0 Z a1 x0 x1 x2 x3 x4 k_a1 h0 n0 v U'.heap L ∧ FrameEnd U o U' L ({ frames := 0, cells := 0, slots := 0, locals := 0 } : Room).cells ({ frames := 0, cells := 0, slots := 0, locals := 0 } : Room).slots) := by
  refine MetFree.of_bodySF (plainFor_of_name own_pn1) hisR ?_
  intro p e s m args below meth c s₁ Bd hml0 hP hK
  obtain ⟨rfl, hZ, hh⟩ := hP
  have hx := Bd.exec
  have hby := Bd.bytes
  have hml : c.maxLocals = 5 := hml0
  have hown : s.vm.findClass "com/example/archerfish/archerfish/index/TokenTable" = some m.cls := findClass_of_methodNamed Bd.named
  have hnm := (name_of_methodNamed Bd.named Bd.method).1
  have X0 : Stand p l e ({ frames := 0, cells := 0, slots := 0, locals := 0 } : Room) s m #[(.ref a1), (.int (5 : Int32)), (.int (5 : Int32))] below meth c s₁ [] 0 0 := Stand.of_body Bd
  have e0 : s₁.heap = h0 := by rw [← hh, Bd.state]; rfl
  have N0 := Fr.nil n0
  show OE FrameEnd p e below s (own_Q2_5_0 Z a1 x0 x1 x2 x3 x4 k_a1 h0 n0) ({ frames := 0, cells := 0, slots := 0, locals := 0 } : Room).cells ({ frames := 0, cells := 0, slots := 0, locals := 0 } : Room).slots s₁ (entryFrame m #[(.ref a1), (.int (5 : Int32)), (.int (5 : Int32))] 5)
  rw [own_ef_own_rm2_5_0]
  show OE _ p e below s _ _ _ s₁ (mkF m 0 #[.val (.ref a1), .val (.int (5 : Int32)), .val (.int (5 : Int32)), .unset, .unset] [])
  refine OE.iconst X0 hx hby own_d2_0 (0 : Int32) rfl ?_
  refine OE.istoreN X0 hx hby own_d2_1 (l' := #[.val (.ref a1), .val (.int (5 : Int32)), .val (.int (5 : Int32)), .val (.int (0 : Int32)), .unset]) rfl ?_
  refine OE.iloadN X0 hx hby own_d2_2 rfl ?_
  refine OE.istore X0 hx hby own_d2_3 (l' := #[.val (.ref a1), .val (.int (5 : Int32)), .val (.int (5 : Int32)), .val (.int (0 : Int32)), .val (.int (5 : Int32))]) rfl ?_
  refine OE.iload X0 hx hby own_d2_5 rfl ?_
  refine OE.iloadN X0 hx hby own_d2_7 rfl ?_
  refine OE.icmpYes X0 hx hby (pc' := 27) own_d2_8 (flt (by decide : ¬ ((5 : Int32) < (5 : Int32)))).2.1 (h := ?_)
  refine OE.iloadN X0 hx hby own_d2_27 rfl ?_
  refine OE.of (X0.ldcInt hx hown (mvT hZ (hw _ (List.mem_of_getElem? (i := 12) rfl))) (g := (mkF m 28 #[.val (.ref a1), .val (.int (5 : Int32)), .val (.int (5 : Int32)), .val (.int (0 : Int32)), .val (.int (5 : Int32))] [(.int (0 : Int32))])) rfl (hb hby own_d2_28)) ?_
  show OE _ p e below s _ _ _ s₁ (mkF m 30 #[.val (.ref a1), .val (.int (5 : Int32)), .val (.int (5 : Int32)), .val (.int (0 : Int32)), .val (.int (5 : Int32))] [(.int (-1640531527 : Int32)), (.int (0 : Int32))])
  refine OE.imul X0 hx hby own_d2_30 ?_
  rw [(by decide : ((0 : Int32) * (-1640531527 : Int32)) = (0 : Int32))]
  refine OE.istoreN X0 hx hby own_d2_31 (l' := #[.val (.ref a1), .val (.int (5 : Int32)), .val (.int (5 : Int32)), .val (.int (0 : Int32)), .val (.int (5 : Int32))]) rfl ?_
  refine OE.iloadN X0 hx hby own_d2_32 rfl ?_
  refine OE.iloadN X0 hx hby own_d2_33 rfl ?_
  refine OE.bipush X0 hx hby own_d2_34 (16 : Int32) rfl ?_
  refine OE.iushr X0 hx hby own_d2_36 ?_
  refine OE.ixor X0 hx hby own_d2_37 ?_
  refine OE.retI X0 hx Bd.returns Bd.notSynchronized (hb hby own_d2_38) (by decide) (by decide) ?_
  rw [e0]
  exact ⟨rfl, N0, rfl⟩
theorem own_poly0  : (((((0 : Int64) + (0 : Int64)) + (0 : Int64)) + (0 : Int64)) + (0 : Int64)).toInt32 = (0 : Int32) := by
  decide
theorem own_poly1 (y0 : Int32) : (((((y0.toInt64 * (1 : Int64)) + (0 : Int64)) + (0 : Int64)) + (0 : Int64)) + (0 : Int64)).toInt32 = ((0 : Int32) + y0) := by
  have p0 := c_lmul y0.toInt64 1
  have q0 := c_i2l y0
  have s1 := c_ladd (y0.toInt64 * (1 : Int64)) (0 : Int64)
  have s2 := c_ladd ((y0.toInt64 * (1 : Int64)) + (0 : Int64)) (0 : Int64)
  have s3 := c_ladd (((y0.toInt64 * (1 : Int64)) + (0 : Int64)) + (0 : Int64)) (0 : Int64)
  have s4 := c_ladd ((((y0.toInt64 * (1 : Int64)) + (0 : Int64)) + (0 : Int64)) + (0 : Int64)) (0 : Int64)
  have l := c_l2i (((((y0.toInt64 * (1 : Int64)) + (0 : Int64)) + (0 : Int64)) + (0 : Int64)) + (0 : Int64))
  have u0 := c_iadd (0 : Int32) y0
  have r1 := rng32 ((0 : Int32) + y0)
  have r2 := rng32 (((((y0.toInt64 * (1 : Int64)) + (0 : Int64)) + (0 : Int64)) + (0 : Int64)) + (0 : Int64)).toInt32
  have z0 : (0 : Int32).toInt = 0 := by decide
  have z1 : (31 : Int32).toInt = 31 := by decide
  have w0 : (0 : Int64).toInt = 0 := by decide
  have w_1 : (1 : Int64).toInt = 1 := by decide
  have w_31 : (31 : Int64).toInt = 31 := by decide
  have w_961 : (961 : Int64).toInt = 961 := by decide
  have w_29791 : (29791 : Int64).toInt = 29791 := by decide
  have w_923521 : (923521 : Int64).toInt = 923521 := by decide
  apply Int32.toInt_inj.mp
  simp only [z0, z1, w0, w_1, w_31, w_961, w_29791, w_923521, q0] at *
  omega
theorem own_poly2 (y0 y1 : Int32) : (((((y0.toInt64 * (31 : Int64)) + (y1.toInt64 * (1 : Int64))) + (0 : Int64)) + (0 : Int64)) + (0 : Int64)).toInt32 = (((31 : Int32) * ((0 : Int32) + y0)) + y1) := by
  have p0 := c_lmul y0.toInt64 31
  have p1 := c_lmul y1.toInt64 1
  have q0 := c_i2l y0
  have q1 := c_i2l y1
  have s1 := c_ladd (y0.toInt64 * (31 : Int64)) (y1.toInt64 * (1 : Int64))
  have s2 := c_ladd ((y0.toInt64 * (31 : Int64)) + (y1.toInt64 * (1 : Int64))) (0 : Int64)
  have s3 := c_ladd (((y0.toInt64 * (31 : Int64)) + (y1.toInt64 * (1 : Int64))) + (0 : Int64)) (0 : Int64)
  have s4 := c_ladd ((((y0.toInt64 * (31 : Int64)) + (y1.toInt64 * (1 : Int64))) + (0 : Int64)) + (0 : Int64)) (0 : Int64)
  have l := c_l2i (((((y0.toInt64 * (31 : Int64)) + (y1.toInt64 * (1 : Int64))) + (0 : Int64)) + (0 : Int64)) + (0 : Int64))
  have u0 := c_iadd (0 : Int32) y0
  have v1 := c_imul (31 : Int32) ((0 : Int32) + y0)
  have u1 := c_iadd ((31 : Int32) * ((0 : Int32) + y0)) y1
  have r1 := rng32 (((31 : Int32) * ((0 : Int32) + y0)) + y1)
  have r2 := rng32 (((((y0.toInt64 * (31 : Int64)) + (y1.toInt64 * (1 : Int64))) + (0 : Int64)) + (0 : Int64)) + (0 : Int64)).toInt32
  have z0 : (0 : Int32).toInt = 0 := by decide
  have z1 : (31 : Int32).toInt = 31 := by decide
  have w0 : (0 : Int64).toInt = 0 := by decide
  have w_1 : (1 : Int64).toInt = 1 := by decide
  have w_31 : (31 : Int64).toInt = 31 := by decide
  have w_961 : (961 : Int64).toInt = 961 := by decide
  have w_29791 : (29791 : Int64).toInt = 29791 := by decide
  have w_923521 : (923521 : Int64).toInt = 923521 := by decide
  apply Int32.toInt_inj.mp
  simp only [z0, z1, w0, w_1, w_31, w_961, w_29791, w_923521, q0, q1] at *
  omega
theorem own_poly3 (y0 y1 y2 : Int32) : (((((y0.toInt64 * (961 : Int64)) + (y1.toInt64 * (31 : Int64))) + (y2.toInt64 * (1 : Int64))) + (0 : Int64)) + (0 : Int64)).toInt32 = (((31 : Int32) * (((31 : Int32) * ((0 : Int32) + y0)) + y1)) + y2) := by
  have p0 := c_lmul y0.toInt64 961
  have p1 := c_lmul y1.toInt64 31
  have p2 := c_lmul y2.toInt64 1
  have q0 := c_i2l y0
  have q1 := c_i2l y1
  have q2 := c_i2l y2
  have s1 := c_ladd (y0.toInt64 * (961 : Int64)) (y1.toInt64 * (31 : Int64))
  have s2 := c_ladd ((y0.toInt64 * (961 : Int64)) + (y1.toInt64 * (31 : Int64))) (y2.toInt64 * (1 : Int64))
  have s3 := c_ladd (((y0.toInt64 * (961 : Int64)) + (y1.toInt64 * (31 : Int64))) + (y2.toInt64 * (1 : Int64))) (0 : Int64)
  have s4 := c_ladd ((((y0.toInt64 * (961 : Int64)) + (y1.toInt64 * (31 : Int64))) + (y2.toInt64 * (1 : Int64))) + (0 : Int64)) (0 : Int64)
  have l := c_l2i (((((y0.toInt64 * (961 : Int64)) + (y1.toInt64 * (31 : Int64))) + (y2.toInt64 * (1 : Int64))) + (0 : Int64)) + (0 : Int64))
  have u0 := c_iadd (0 : Int32) y0
  have v1 := c_imul (31 : Int32) ((0 : Int32) + y0)
  have u1 := c_iadd ((31 : Int32) * ((0 : Int32) + y0)) y1
  have v2 := c_imul (31 : Int32) (((31 : Int32) * ((0 : Int32) + y0)) + y1)
  have u2 := c_iadd ((31 : Int32) * (((31 : Int32) * ((0 : Int32) + y0)) + y1)) y2
  have r1 := rng32 (((31 : Int32) * (((31 : Int32) * ((0 : Int32) + y0)) + y1)) + y2)
  have r2 := rng32 (((((y0.toInt64 * (961 : Int64)) + (y1.toInt64 * (31 : Int64))) + (y2.toInt64 * (1 : Int64))) + (0 : Int64)) + (0 : Int64)).toInt32
  have z0 : (0 : Int32).toInt = 0 := by decide
  have z1 : (31 : Int32).toInt = 31 := by decide
  have w0 : (0 : Int64).toInt = 0 := by decide
  have w_1 : (1 : Int64).toInt = 1 := by decide
  have w_31 : (31 : Int64).toInt = 31 := by decide
  have w_961 : (961 : Int64).toInt = 961 := by decide
  have w_29791 : (29791 : Int64).toInt = 29791 := by decide
  have w_923521 : (923521 : Int64).toInt = 923521 := by decide
  apply Int32.toInt_inj.mp
  simp only [z0, z1, w0, w_1, w_31, w_961, w_29791, w_923521, q0, q1, q2] at *
  omega
theorem own_poly4 (y0 y1 y2 y3 : Int32) : (((((y0.toInt64 * (29791 : Int64)) + (y1.toInt64 * (961 : Int64))) + (y2.toInt64 * (31 : Int64))) + (y3.toInt64 * (1 : Int64))) + (0 : Int64)).toInt32 = (((31 : Int32) * (((31 : Int32) * (((31 : Int32) * ((0 : Int32) + y0)) + y1)) + y2)) + y3) := by
  have p0 := c_lmul y0.toInt64 29791
  have p1 := c_lmul y1.toInt64 961
  have p2 := c_lmul y2.toInt64 31
  have p3 := c_lmul y3.toInt64 1
  have q0 := c_i2l y0
  have q1 := c_i2l y1
  have q2 := c_i2l y2
  have q3 := c_i2l y3
  have s1 := c_ladd (y0.toInt64 * (29791 : Int64)) (y1.toInt64 * (961 : Int64))
  have s2 := c_ladd ((y0.toInt64 * (29791 : Int64)) + (y1.toInt64 * (961 : Int64))) (y2.toInt64 * (31 : Int64))
  have s3 := c_ladd (((y0.toInt64 * (29791 : Int64)) + (y1.toInt64 * (961 : Int64))) + (y2.toInt64 * (31 : Int64))) (y3.toInt64 * (1 : Int64))
  have s4 := c_ladd ((((y0.toInt64 * (29791 : Int64)) + (y1.toInt64 * (961 : Int64))) + (y2.toInt64 * (31 : Int64))) + (y3.toInt64 * (1 : Int64))) (0 : Int64)
  have l := c_l2i (((((y0.toInt64 * (29791 : Int64)) + (y1.toInt64 * (961 : Int64))) + (y2.toInt64 * (31 : Int64))) + (y3.toInt64 * (1 : Int64))) + (0 : Int64))
  have u0 := c_iadd (0 : Int32) y0
  have v1 := c_imul (31 : Int32) ((0 : Int32) + y0)
  have u1 := c_iadd ((31 : Int32) * ((0 : Int32) + y0)) y1
  have v2 := c_imul (31 : Int32) (((31 : Int32) * ((0 : Int32) + y0)) + y1)
  have u2 := c_iadd ((31 : Int32) * (((31 : Int32) * ((0 : Int32) + y0)) + y1)) y2
  have v3 := c_imul (31 : Int32) (((31 : Int32) * (((31 : Int32) * ((0 : Int32) + y0)) + y1)) + y2)
  have u3 := c_iadd ((31 : Int32) * (((31 : Int32) * (((31 : Int32) * ((0 : Int32) + y0)) + y1)) + y2)) y3
  have r1 := rng32 (((31 : Int32) * (((31 : Int32) * (((31 : Int32) * ((0 : Int32) + y0)) + y1)) + y2)) + y3)
  have r2 := rng32 (((((y0.toInt64 * (29791 : Int64)) + (y1.toInt64 * (961 : Int64))) + (y2.toInt64 * (31 : Int64))) + (y3.toInt64 * (1 : Int64))) + (0 : Int64)).toInt32
  have z0 : (0 : Int32).toInt = 0 := by decide
  have z1 : (31 : Int32).toInt = 31 := by decide
  have w0 : (0 : Int64).toInt = 0 := by decide
  have w_1 : (1 : Int64).toInt = 1 := by decide
  have w_31 : (31 : Int64).toInt = 31 := by decide
  have w_961 : (961 : Int64).toInt = 961 := by decide
  have w_29791 : (29791 : Int64).toInt = 29791 := by decide
  have w_923521 : (923521 : Int64).toInt = 923521 := by decide
  apply Int32.toInt_inj.mp
  simp only [z0, z1, w0, w_1, w_31, w_961, w_29791, w_923521, q0, q1, q2, q3] at *
  omega
theorem own_poly5 (y0 y1 y2 y3 y4 : Int32) : (((((y0.toInt64 * (923521 : Int64)) + (y1.toInt64 * (29791 : Int64))) + (y2.toInt64 * (961 : Int64))) + (y3.toInt64 * (31 : Int64))) + (y4.toInt64 * (1 : Int64))).toInt32 = (((31 : Int32) * (((31 : Int32) * (((31 : Int32) * (((31 : Int32) * ((0 : Int32) + y0)) + y1)) + y2)) + y3)) + y4) := by
  have p0 := c_lmul y0.toInt64 923521
  have p1 := c_lmul y1.toInt64 29791
  have p2 := c_lmul y2.toInt64 961
  have p3 := c_lmul y3.toInt64 31
  have p4 := c_lmul y4.toInt64 1
  have q0 := c_i2l y0
  have q1 := c_i2l y1
  have q2 := c_i2l y2
  have q3 := c_i2l y3
  have q4 := c_i2l y4
  have s1 := c_ladd (y0.toInt64 * (923521 : Int64)) (y1.toInt64 * (29791 : Int64))
  have s2 := c_ladd ((y0.toInt64 * (923521 : Int64)) + (y1.toInt64 * (29791 : Int64))) (y2.toInt64 * (961 : Int64))
  have s3 := c_ladd (((y0.toInt64 * (923521 : Int64)) + (y1.toInt64 * (29791 : Int64))) + (y2.toInt64 * (961 : Int64))) (y3.toInt64 * (31 : Int64))
  have s4 := c_ladd ((((y0.toInt64 * (923521 : Int64)) + (y1.toInt64 * (29791 : Int64))) + (y2.toInt64 * (961 : Int64))) + (y3.toInt64 * (31 : Int64))) (y4.toInt64 * (1 : Int64))
  have l := c_l2i (((((y0.toInt64 * (923521 : Int64)) + (y1.toInt64 * (29791 : Int64))) + (y2.toInt64 * (961 : Int64))) + (y3.toInt64 * (31 : Int64))) + (y4.toInt64 * (1 : Int64)))
  have u0 := c_iadd (0 : Int32) y0
  have v1 := c_imul (31 : Int32) ((0 : Int32) + y0)
  have u1 := c_iadd ((31 : Int32) * ((0 : Int32) + y0)) y1
  have v2 := c_imul (31 : Int32) (((31 : Int32) * ((0 : Int32) + y0)) + y1)
  have u2 := c_iadd ((31 : Int32) * (((31 : Int32) * ((0 : Int32) + y0)) + y1)) y2
  have v3 := c_imul (31 : Int32) (((31 : Int32) * (((31 : Int32) * ((0 : Int32) + y0)) + y1)) + y2)
  have u3 := c_iadd ((31 : Int32) * (((31 : Int32) * (((31 : Int32) * ((0 : Int32) + y0)) + y1)) + y2)) y3
  have v4 := c_imul (31 : Int32) (((31 : Int32) * (((31 : Int32) * (((31 : Int32) * ((0 : Int32) + y0)) + y1)) + y2)) + y3)
  have u4 := c_iadd ((31 : Int32) * (((31 : Int32) * (((31 : Int32) * (((31 : Int32) * ((0 : Int32) + y0)) + y1)) + y2)) + y3)) y4
  have r1 := rng32 (((31 : Int32) * (((31 : Int32) * (((31 : Int32) * (((31 : Int32) * ((0 : Int32) + y0)) + y1)) + y2)) + y3)) + y4)
  have r2 := rng32 (((((y0.toInt64 * (923521 : Int64)) + (y1.toInt64 * (29791 : Int64))) + (y2.toInt64 * (961 : Int64))) + (y3.toInt64 * (31 : Int64))) + (y4.toInt64 * (1 : Int64))).toInt32
  have z0 : (0 : Int32).toInt = 0 := by decide
  have z1 : (31 : Int32).toInt = 31 := by decide
  have w0 : (0 : Int64).toInt = 0 := by decide
  have w_1 : (1 : Int64).toInt = 1 := by decide
  have w_31 : (31 : Int64).toInt = 31 := by decide
  have w_961 : (961 : Int64).toInt = 961 := by decide
  have w_29791 : (29791 : Int64).toInt = 29791 := by decide
  have w_923521 : (923521 : Int64).toInt = 923521 := by decide
  apply Int32.toInt_inj.mp
  simp only [z0, z1, w0, w_1, w_31, w_961, w_29791, w_923521, q0, q1, q2, q3, q4] at *
  omega
theorem own_mul (h : Int32) : (h.toInt64 * (2654435769 : Int64)).toInt32 = h * (-1640531527 : Int32) := by
  apply Int32.toInt_inj.mp
  have a := c_lmul h.toInt64 2654435769
  have b := c_l2i (h.toInt64 * (2654435769 : Int64))
  have d := c_imul h (-1640531527)
  have e := c_i2l h
  have r1 := rng32 (h * (-1640531527 : Int32))
  have r2 := rng32 (h.toInt64 * (2654435769 : Int64)).toInt32
  have w0 : (2654435769 : Int64).toInt = 2654435769 := by decide
  have w1 : (-1640531527 : Int32).toInt = -1640531527 := by decide
  rw [w0, e] at a
  rw [w1] at d
  omega
theorem own_top (X : Int32) : (((X ^^^ ((X.toUInt32 >>> ((16 : Int32) &&& 31).toUInt32).toInt32)).toUInt32 >>> ((16 : Int32) &&& 31).toUInt32).toInt32) = ((X.toUInt32 >>> ((16 : Int32) &&& 31).toUInt32).toInt32) := by
  apply Int32.toBitVec_inj.mp
  show (X.toBitVec ^^^ (X.toBitVec >>> (16 : Nat))) >>> (16 : Nat) = X.toBitVec >>> (16 : Nat)
  apply BitVec.eq_of_getLsbD_eq
  intro i hi
  simp only [BitVec.getLsbD_ushiftRight, BitVec.getLsbD_xor]
  have : (X.toBitVec).getLsbD (16 + (16 + i)) = false := BitVec.getLsbD_of_ge _ _ (by omega)
  rw [this]; simp
theorem own_st (x : Int32) : (x &&& (2147483647 : Int32)) % (6 : Int32) = 0 ∨ (x &&& (2147483647 : Int32)) % (6 : Int32) = 1 ∨ (x &&& (2147483647 : Int32)) % (6 : Int32) = 2 ∨ (x &&& (2147483647 : Int32)) % (6 : Int32) = 3 ∨ (x &&& (2147483647 : Int32)) % (6 : Int32) = 4 ∨ (x &&& (2147483647 : Int32)) % (6 : Int32) = 5 := by
  have hv := c_and x 2147483647 (by decide)
  generalize (x &&& (2147483647 : Int32)) = v at *
  have h2 := (c_irem v 6 6 (by decide)).1 hv.1
  generalize v % (6 : Int32) = z at *
  have e : ∀ k : Int32, z.toInt = k.toInt → z = k := fun k q => Int32.toInt_inj.mp q
  have q : z.toInt = 0 ∨ z.toInt = 1 ∨ z.toInt = 2 ∨ z.toInt = 3 ∨ z.toInt = 4 ∨ z.toInt = 5 := by omega
  rcases q with q | q | q | q | q | q
  · exact Or.inl (e 0 q)
  · exact Or.inr (Or.inl (e 1 q))
  · exact Or.inr (Or.inr (Or.inl (e 2 q)))
  · exact Or.inr (Or.inr (Or.inr (Or.inl (e 3 q))))
  · exact Or.inr (Or.inr (Or.inr (Or.inr (Or.inl (e 4 q)))))
  · exact Or.inr (Or.inr (Or.inr (Or.inr (Or.inr (e 5 q)))))
theorem own_md1 (x : Int32) : (x &&& (2147483647 : Int32)) % (1 : Int32) = 0 := by
  have hv := c_and x 2147483647 (by decide)
  generalize (x &&& (2147483647 : Int32)) = v at *
  have h2 := (c_irem v 1 1 (by decide)).1 hv.1
  generalize v % (1 : Int32) = z at *
  have e : ∀ k : Int32, z.toInt = k.toInt → z = k := fun k q => Int32.toInt_inj.mp q
  have q : z.toInt = 0 := by omega
  exact e 0 q
theorem own_md2 (x : Int32) : (x &&& (2147483647 : Int32)) % (2 : Int32) = 0 ∨ (x &&& (2147483647 : Int32)) % (2 : Int32) = 1 := by
  have hv := c_and x 2147483647 (by decide)
  generalize (x &&& (2147483647 : Int32)) = v at *
  have h2 := (c_irem v 2 2 (by decide)).1 hv.1
  generalize v % (2 : Int32) = z at *
  have e : ∀ k : Int32, z.toInt = k.toInt → z = k := fun k q => Int32.toInt_inj.mp q
  have q : z.toInt = 0 ∨ z.toInt = 1 := by omega
  rcases q with q | q
  · exact Or.inl (e 0 q)
  · exact Or.inr (e 1 q)
theorem own_md3 (x : Int32) : (x &&& (2147483647 : Int32)) % (3 : Int32) = 0 ∨ (x &&& (2147483647 : Int32)) % (3 : Int32) = 1 ∨ (x &&& (2147483647 : Int32)) % (3 : Int32) = 2 := by
  have hv := c_and x 2147483647 (by decide)
  generalize (x &&& (2147483647 : Int32)) = v at *
  have h2 := (c_irem v 3 3 (by decide)).1 hv.1
  generalize v % (3 : Int32) = z at *
  have e : ∀ k : Int32, z.toInt = k.toInt → z = k := fun k q => Int32.toInt_inj.mp q
  have q : z.toInt = 0 ∨ z.toInt = 1 ∨ z.toInt = 2 := by omega
  rcases q with q | q | q
  · exact Or.inl (e 0 q)
  · exact Or.inr (Or.inl (e 1 q))
  · exact Or.inr (Or.inr (e 2 q))
theorem own_md4 (x : Int32) : (x &&& (2147483647 : Int32)) % (4 : Int32) = 0 ∨ (x &&& (2147483647 : Int32)) % (4 : Int32) = 1 ∨ (x &&& (2147483647 : Int32)) % (4 : Int32) = 2 ∨ (x &&& (2147483647 : Int32)) % (4 : Int32) = 3 := by
  have hv := c_and x 2147483647 (by decide)
  generalize (x &&& (2147483647 : Int32)) = v at *
  have h2 := (c_irem v 4 4 (by decide)).1 hv.1
  generalize v % (4 : Int32) = z at *
  have e : ∀ k : Int32, z.toInt = k.toInt → z = k := fun k q => Int32.toInt_inj.mp q
  have q : z.toInt = 0 ∨ z.toInt = 1 ∨ z.toInt = 2 ∨ z.toInt = 3 := by omega
  rcases q with q | q | q | q
  · exact Or.inl (e 0 q)
  · exact Or.inr (Or.inl (e 1 q))
  · exact Or.inr (Or.inr (Or.inl (e 2 q)))
  · exact Or.inr (Or.inr (Or.inr (e 3 q)))
theorem own_md5 (x : Int32) : (x &&& (2147483647 : Int32)) % (5 : Int32) = 0 ∨ (x &&& (2147483647 : Int32)) % (5 : Int32) = 1 ∨ (x &&& (2147483647 : Int32)) % (5 : Int32) = 2 ∨ (x &&& (2147483647 : Int32)) % (5 : Int32) = 3 ∨ (x &&& (2147483647 : Int32)) % (5 : Int32) = 4 := by
  have hv := c_and x 2147483647 (by decide)
  generalize (x &&& (2147483647 : Int32)) = v at *
  have h2 := (c_irem v 5 5 (by decide)).1 hv.1
  generalize v % (5 : Int32) = z at *
  have e : ∀ k : Int32, z.toInt = k.toInt → z = k := fun k q => Int32.toInt_inj.mp q
  have q : z.toInt = 0 ∨ z.toInt = 1 ∨ z.toInt = 2 ∨ z.toInt = 3 ∨ z.toInt = 4 := by omega
  rcases q with q | q | q | q | q
  · exact Or.inl (e 0 q)
  · exact Or.inr (Or.inl (e 1 q))
  · exact Or.inr (Or.inr (Or.inl (e 2 q)))
  · exact Or.inr (Or.inr (Or.inr (Or.inl (e 3 q))))
  · exact Or.inr (Or.inr (Or.inr (Or.inr (e 4 q))))
theorem own_pd1 : parseMethodDescriptor "([CIII)J" = some ⟨[(.array .char), .int, .int, .int], some .long⟩ := by decide +kernel
theorem own_pd2 : parseMethodDescriptor "([CII)I" = some ⟨[(.array .char), .int, .int], some .int⟩ := by decide +kernel
def own_Q0 (Z : State) (p1 : Int32) (p2 : Int32) (p3 : Int32) (p4 : Int32) (p5 : Int32) (h0 : Heap) (n0 : Nat) (v : Option Value) (h : Heap) (L : List Loc) : Prop := v = some (.int (1 : Int32)) ∧ Fr n0 L
theorem own_ef_own_rm0 (m : MethodId) (p1 : Int32) (p2 : Int32) (p3 : Int32) (p4 : Int32) (p5 : Int32) : entryFrame m #[(.int p1), (.int p2), (.int p3), (.int p4), (.int p5)] maxLocals = mkF m 0 #[.val (.int p1), .val (.int p2), .val (.int p3), .val (.int p4), .val (.int p5), .unset, .unset, .unset, .unset, .unset, .unset, .unset, .unset, .unset] [] := by first | (simp [entryFrame, mkF, argsToLocals, Value.category, maxLocals]; done) | rfl
set_option maxRecDepth 65536 in
set_option maxHeartbeats 40000000 in
theorem own_rm0 (l : Launch) (Z : State) (a0 : Array Value) (hw : ∀ d ∈ tables_1, d.before a0 Z = true) (ws : List Jvm.Cond) (p1 : Int32) (p2 : Int32) (p3 : Int32) (p4 : Int32) (p5 : Int32) (h0 : Heap) (n0 : Nat) (Z0 : n0 ≤ h0.size) :
    MetFree l x (head1 (Jvm.Cond.code x code maxLocals ret :: ws) room_1) (fun a U => a = #[(.int p1), (.int p2), (.int p3), (.int p4), (.int p5)] ∧ Z.Warmed39 U.vm ∧ U.heap = h0) (fun _ _ _ _ _ => True) (fun _ U o U' => ∃ v L, o = .returned v ∧ own_Q0 Z p1 p2 p3 p4 p5 h0 n0 v U'.heap L ∧ FrameEnd U o U' L room_1.cells room_1.slots) := by
  refine MetFree.of_bodySF (plainFor_of_name own_pn0) hisR ?_
  intro p e s m args below meth c s₁ Bd hml0 hP hK
  obtain ⟨rfl, hZ, hh⟩ := hP
  have hx := Bd.exec
  have hby := Bd.bytes
  have hml : c.maxLocals = 14 := hml0
  have hown : s.vm.findClass "com/example/archerfish/archerfish/index/TokenTableHashPinLaw" = some m.cls := findClass_of_methodNamed Bd.named
  have hnm := (name_of_methodNamed Bd.named Bd.method).1
  have X0 : Stand p l e room_1 s m #[(.int p1), (.int p2), (.int p3), (.int p4), (.int p5)] below meth c s₁ [] 0 0 := Stand.of_body Bd
  have e0 : s₁.heap = h0 := by rw [← hh, Bd.state]; rfl
  have N0 := Fr.nil n0
  show OE FrameEnd p e below s (own_Q0 Z p1 p2 p3 p4 p5 h0 n0) room_1.cells room_1.slots s₁ (entryFrame m #[(.int p1), (.int p2), (.int p3), (.int p4), (.int p5)] maxLocals)
  rw [own_ef_own_rm0]
  show OE _ p e below s _ _ _ s₁ (mkF m 0 #[.val (.int p1), .val (.int p2), .val (.int p3), .val (.int p4), .val (.int p5), .unset, .unset, .unset, .unset, .unset, .unset, .unset, .unset, .unset] [])
  refine OE.iconst X0 hx hby at_0 (5 : Int32) rfl ?_
  obtain ⟨T1, h1, k1, X1, e1, E1, A1, B1, st1⟩ := newPE X0 hx hZ (hw _ (List.mem_of_getElem? (i := 0) rfl)) e0 (g := (mkF m 1 #[.val (.int p1), .val (.int p2), .val (.int p3), .val (.int p4), .val (.int p5), .unset, .unset, .unset, .unset, .unset, .unset, .unset, .unset, .unset] [(.int (5 : Int32))])) rfl (hb hby at_1) rfl (by decide) (cap := 5) (by decide) (by decide) (by decide) (by decide) (ad := "[C") (by decide)
  refine OE.of st1 ?_
  obtain ⟨b1, g1⟩ : ∃ z, z = h0.size := ⟨_, rfl⟩
  rw [← g1] at A1 B1 ⊢
  have g_b1 : n0 ≤ b1 := Nat.le_trans Z0 (Nat.le_of_eq g1.symm)
  have sz_b1 : h0.size ≤ b1 := Nat.le_trans (Keep.refl h0 []).1 (Nat.le_of_eq g1.symm)
  have V1 : Arv Z h1 b1 k1 .char (5 : Int32) [(.int (0 : Int32)), (.int (0 : Int32)), (.int (0 : Int32)), (.int (0 : Int32)), (.int (0 : Int32))] (.int (0 : Int32)) := (Arv.new A1 (by decide)).pad (pad_rep [] (.int (0 : Int32)) 5)
  show OE _ p e below s _ _ _ T1 (mkF m 3 #[.val (.int p1), .val (.int p2), .val (.int p3), .val (.int p4), .val (.int p5), .unset, .unset, .unset, .unset, .unset, .unset, .unset, .unset, .unset] [(.ref b1)])
  refine OE.astore X1 hx hby at_3 rfl (l' := #[.val (.int p1), .val (.int p2), .val (.int p3), .val (.int p4), .val (.int p5), .val (.ref b1), .unset, .unset, .unset, .unset, .unset, .unset, .unset, .unset]) rfl ?_
  refine OE.aload X1 hx hby at_5 rfl rfl ?_
  refine OE.iconst X1 hx hby at_7 (0 : Int32) rfl ?_
  refine OE.iloadN X1 hx hby at_8 rfl ?_
  refine OE.of (X1.ldcInt hx hown (mvT hZ (hw _ (List.mem_of_getElem? (i := 1) rfl))) (g := (mkF m 9 #[.val (.int p1), .val (.int p2), .val (.int p3), .val (.int p4), .val (.int p5), .val (.ref b1), .unset, .unset, .unset, .unset, .unset, .unset, .unset, .unset] [(.int p1), (.int (0 : Int32)), (.ref b1)])) rfl (hb hby at_9)) ?_
  show OE _ p e below s _ _ _ T1 (mkF m 11 #[.val (.int p1), .val (.int p2), .val (.int p3), .val (.int p4), .val (.int p5), .val (.ref b1), .unset, .unset, .unset, .unset, .unset, .unset, .unset, .unset] [(.int (65535 : Int32)), (.int p1), (.int (0 : Int32)), (.ref b1)])
  refine OE.iand X1 hx hby at_11 ?_
  refine OE.i2c X1 hx hby at_12 ?_
  have Vo2 := V1
  obtain ⟨cl2, Ar2, qz2, Sz2, Nz2, Hz2, Gz2⟩ := Vo2
  have hin2 : ¬ ((0 : Int32) < 0 ∨ cl2.slots.size ≤ ((0 : Int32)).toNatClampNeg) := inb_of Sz2 ⟨by decide, by decide⟩
  obtain ⟨T2, h2, X2, e2, W2, st2⟩ := stC X1 hx hZ e1 Ar2 (j := (0 : Int32)) hin2 (g := (mkF m 13 #[.val (.int p1), .val (.int p2), .val (.int p3), .val (.int p4), .val (.int p5), .val (.ref b1), .unset, .unset, .unset, .unset, .unset, .unset, .unset, .unset] [(.int ((p1 &&& (65535 : Int32)).toUInt32.toUInt16.toUInt32.toInt32)), (.int (0 : Int32)), (.ref b1)])) rfl rfl (hb hby at_13)
  refine OE.of st2 ?_
  have V2 : Arv Z h2 b1 k1 .char (5 : Int32) [(.int (nar .char ((p1 &&& (65535 : Int32)).toUInt32.toUInt16.toUInt32.toInt32))), (.int (0 : Int32)), (.int (0 : Int32)), (.int (0 : Int32)), (.int (0 : Int32))] (.int (0 : Int32)) := Arv.set Ar2 qz2 Sz2 Nz2 Hz2 Gz2 (fits_nar_char _) W2 0 rfl (Nat.le_of_ble_eq_true rfl)
  have N2 := Fr.snoc X2 N0 g_b1
  show OE _ p e below s _ _ _ T2 (mkF m 14 #[.val (.int p1), .val (.int p2), .val (.int p3), .val (.int p4), .val (.int p5), .val (.ref b1), .unset, .unset, .unset, .unset, .unset, .unset, .unset, .unset] [])
  refine OE.aload X2 hx hby at_14 rfl rfl ?_
  refine OE.iconst X2 hx hby at_16 (1 : Int32) rfl ?_
  refine OE.iloadN X2 hx hby at_17 rfl ?_
  refine OE.bipush X2 hx hby at_18 (16 : Int32) rfl ?_
  refine OE.iushr X2 hx hby at_20 ?_
  refine OE.i2c X2 hx hby at_21 ?_
  have Vo3 := V2
  obtain ⟨cl3, Ar3, qz3, Sz3, Nz3, Hz3, Gz3⟩ := Vo3
  have hin3 : ¬ ((1 : Int32) < 0 ∨ cl3.slots.size ≤ ((1 : Int32)).toNatClampNeg) := inb_of Sz3 ⟨by decide, by decide⟩
  obtain ⟨T3, h3, X3, e3, W3, st3⟩ := stC X2 hx hZ e2 Ar3 (j := (1 : Int32)) hin3 (g := (mkF m 22 #[.val (.int p1), .val (.int p2), .val (.int p3), .val (.int p4), .val (.int p5), .val (.ref b1), .unset, .unset, .unset, .unset, .unset, .unset, .unset, .unset] [(.int (((p1.toUInt32 >>> ((16 : Int32) &&& 31).toUInt32).toInt32).toUInt32.toUInt16.toUInt32.toInt32)), (.int (1 : Int32)), (.ref b1)])) rfl rfl (hb hby at_22)
  refine OE.of st3 ?_
  have V3 : Arv Z h3 b1 k1 .char (5 : Int32) [(.int (nar .char ((p1 &&& (65535 : Int32)).toUInt32.toUInt16.toUInt32.toInt32))), (.int (nar .char (((p1.toUInt32 >>> ((16 : Int32) &&& 31).toUInt32).toInt32).toUInt32.toUInt16.toUInt32.toInt32))), (.int (0 : Int32)), (.int (0 : Int32)), (.int (0 : Int32))] (.int (0 : Int32)) := Arv.set Ar3 qz3 Sz3 Nz3 Hz3 Gz3 (fits_nar_char _) W3 1 rfl (Nat.le_of_ble_eq_true rfl)
  have N3 := Fr.snoc X3 N2 g_b1
  show OE _ p e below s _ _ _ T3 (mkF m 23 #[.val (.int p1), .val (.int p2), .val (.int p3), .val (.int p4), .val (.int p5), .val (.ref b1), .unset, .unset, .unset, .unset, .unset, .unset, .unset, .unset] [])
  refine OE.aload X3 hx hby at_23 rfl rfl ?_
  refine OE.iconst X3 hx hby at_25 (2 : Int32) rfl ?_
  refine OE.iloadN X3 hx hby at_26 rfl ?_
  refine OE.of (X3.ldcInt hx hown (mvT hZ (hw _ (List.mem_of_getElem? (i := 1) rfl))) (g := (mkF m 27 #[.val (.int p1), .val (.int p2), .val (.int p3), .val (.int p4), .val (.int p5), .val (.ref b1), .unset, .unset, .unset, .unset, .unset, .unset, .unset, .unset] [(.int p2), (.int (2 : Int32)), (.ref b1)])) rfl (hb hby at_27)) ?_
  show OE _ p e below s _ _ _ T3 (mkF m 29 #[.val (.int p1), .val (.int p2), .val (.int p3), .val (.int p4), .val (.int p5), .val (.ref b1), .unset, .unset, .unset, .unset, .unset, .unset, .unset, .unset] [(.int (65535 : Int32)), (.int p2), (.int (2 : Int32)), (.ref b1)])
  refine OE.iand X3 hx hby at_29 ?_
  refine OE.i2c X3 hx hby at_30 ?_
  have Vo4 := V3
  obtain ⟨cl4, Ar4, qz4, Sz4, Nz4, Hz4, Gz4⟩ := Vo4
  have hin4 : ¬ ((2 : Int32) < 0 ∨ cl4.slots.size ≤ ((2 : Int32)).toNatClampNeg) := inb_of Sz4 ⟨by decide, by decide⟩
  obtain ⟨T4, h4, X4, e4, W4, st4⟩ := stC X3 hx hZ e3 Ar4 (j := (2 : Int32)) hin4 (g := (mkF m 31 #[.val (.int p1), .val (.int p2), .val (.int p3), .val (.int p4), .val (.int p5), .val (.ref b1), .unset, .unset, .unset, .unset, .unset, .unset, .unset, .unset] [(.int ((p2 &&& (65535 : Int32)).toUInt32.toUInt16.toUInt32.toInt32)), (.int (2 : Int32)), (.ref b1)])) rfl rfl (hb hby at_31)
  refine OE.of st4 ?_
  have V4 : Arv Z h4 b1 k1 .char (5 : Int32) [(.int (nar .char ((p1 &&& (65535 : Int32)).toUInt32.toUInt16.toUInt32.toInt32))), (.int (nar .char (((p1.toUInt32 >>> ((16 : Int32) &&& 31).toUInt32).toInt32).toUInt32.toUInt16.toUInt32.toInt32))), (.int (nar .char ((p2 &&& (65535 : Int32)).toUInt32.toUInt16.toUInt32.toInt32))), (.int (0 : Int32)), (.int (0 : Int32))] (.int (0 : Int32)) := Arv.set Ar4 qz4 Sz4 Nz4 Hz4 Gz4 (fits_nar_char _) W4 2 rfl (Nat.le_of_ble_eq_true rfl)
  have N4 := Fr.snoc X4 N3 g_b1
  show OE _ p e below s _ _ _ T4 (mkF m 32 #[.val (.int p1), .val (.int p2), .val (.int p3), .val (.int p4), .val (.int p5), .val (.ref b1), .unset, .unset, .unset, .unset, .unset, .unset, .unset, .unset] [])
  refine OE.aload X4 hx hby at_32 rfl rfl ?_
  refine OE.iconst X4 hx hby at_34 (3 : Int32) rfl ?_
  refine OE.iloadN X4 hx hby at_35 rfl ?_
  refine OE.bipush X4 hx hby at_36 (16 : Int32) rfl ?_
  refine OE.iushr X4 hx hby at_38 ?_
  refine OE.i2c X4 hx hby at_39 ?_
  have Vo5 := V4
  obtain ⟨cl5, Ar5, qz5, Sz5, Nz5, Hz5, Gz5⟩ := Vo5
  have hin5 : ¬ ((3 : Int32) < 0 ∨ cl5.slots.size ≤ ((3 : Int32)).toNatClampNeg) := inb_of Sz5 ⟨by decide, by decide⟩
  obtain ⟨T5, h5, X5, e5, W5, st5⟩ := stC X4 hx hZ e4 Ar5 (j := (3 : Int32)) hin5 (g := (mkF m 40 #[.val (.int p1), .val (.int p2), .val (.int p3), .val (.int p4), .val (.int p5), .val (.ref b1), .unset, .unset, .unset, .unset, .unset, .unset, .unset, .unset] [(.int (((p2.toUInt32 >>> ((16 : Int32) &&& 31).toUInt32).toInt32).toUInt32.toUInt16.toUInt32.toInt32)), (.int (3 : Int32)), (.ref b1)])) rfl rfl (hb hby at_40)
  refine OE.of st5 ?_
  have V5 : Arv Z h5 b1 k1 .char (5 : Int32) [(.int (nar .char ((p1 &&& (65535 : Int32)).toUInt32.toUInt16.toUInt32.toInt32))), (.int (nar .char (((p1.toUInt32 >>> ((16 : Int32) &&& 31).toUInt32).toInt32).toUInt32.toUInt16.toUInt32.toInt32))), (.int (nar .char ((p2 &&& (65535 : Int32)).toUInt32.toUInt16.toUInt32.toInt32))), (.int (nar .char (((p2.toUInt32 >>> ((16 : Int32) &&& 31).toUInt32).toInt32).toUInt32.toUInt16.toUInt32.toInt32))), (.int (0 : Int32))] (.int (0 : Int32)) := Arv.set Ar5 qz5 Sz5 Nz5 Hz5 Gz5 (fits_nar_char _) W5 3 rfl (Nat.le_of_ble_eq_true rfl)
  have N5 := Fr.snoc X5 N4 g_b1
  show OE _ p e below s _ _ _ T5 (mkF m 41 #[.val (.int p1), .val (.int p2), .val (.int p3), .val (.int p4), .val (.int p5), .val (.ref b1), .unset, .unset, .unset, .unset, .unset, .unset, .unset, .unset] [])
  refine OE.aload X5 hx hby at_41 rfl rfl ?_
  refine OE.iconst X5 hx hby at_43 (4 : Int32) rfl ?_
  refine OE.iloadN X5 hx hby at_44 rfl ?_
  refine OE.of (X5.ldcInt hx hown (mvT hZ (hw _ (List.mem_of_getElem? (i := 1) rfl))) (g := (mkF m 45 #[.val (.int p1), .val (.int p2), .val (.int p3), .val (.int p4), .val (.int p5), .val (.ref b1), .unset, .unset, .unset, .unset, .unset, .unset, .unset, .unset] [(.int p3), (.int (4 : Int32)), (.ref b1)])) rfl (hb hby at_45)) ?_
  show OE _ p e below s _ _ _ T5 (mkF m 47 #[.val (.int p1), .val (.int p2), .val (.int p3), .val (.int p4), .val (.int p5), .val (.ref b1), .unset, .unset, .unset, .unset, .unset, .unset, .unset, .unset] [(.int (65535 : Int32)), (.int p3), (.int (4 : Int32)), (.ref b1)])
  refine OE.iand X5 hx hby at_47 ?_
  refine OE.i2c X5 hx hby at_48 ?_
  have Vo6 := V5
  obtain ⟨cl6, Ar6, qz6, Sz6, Nz6, Hz6, Gz6⟩ := Vo6
  have hin6 : ¬ ((4 : Int32) < 0 ∨ cl6.slots.size ≤ ((4 : Int32)).toNatClampNeg) := inb_of Sz6 ⟨by decide, by decide⟩
  obtain ⟨T6, h6, X6, e6, W6, st6⟩ := stC X5 hx hZ e5 Ar6 (j := (4 : Int32)) hin6 (g := (mkF m 49 #[.val (.int p1), .val (.int p2), .val (.int p3), .val (.int p4), .val (.int p5), .val (.ref b1), .unset, .unset, .unset, .unset, .unset, .unset, .unset, .unset] [(.int ((p3 &&& (65535 : Int32)).toUInt32.toUInt16.toUInt32.toInt32)), (.int (4 : Int32)), (.ref b1)])) rfl rfl (hb hby at_49)
  refine OE.of st6 ?_
  have V6 : Arv Z h6 b1 k1 .char (5 : Int32) [(.int (nar .char ((p1 &&& (65535 : Int32)).toUInt32.toUInt16.toUInt32.toInt32))), (.int (nar .char (((p1.toUInt32 >>> ((16 : Int32) &&& 31).toUInt32).toInt32).toUInt32.toUInt16.toUInt32.toInt32))), (.int (nar .char ((p2 &&& (65535 : Int32)).toUInt32.toUInt16.toUInt32.toInt32))), (.int (nar .char (((p2.toUInt32 >>> ((16 : Int32) &&& 31).toUInt32).toInt32).toUInt32.toUInt16.toUInt32.toInt32))), (.int (nar .char ((p3 &&& (65535 : Int32)).toUInt32.toUInt16.toUInt32.toInt32)))] (.int (0 : Int32)) := Arv.set Ar6 qz6 Sz6 Nz6 Hz6 Gz6 (fits_nar_char _) W6 4 rfl (Nat.le_of_ble_eq_true rfl)
  have N6 := Fr.snoc X6 N5 g_b1
  show OE _ p e below s _ _ _ T6 (mkF m 50 #[.val (.int p1), .val (.int p2), .val (.int p3), .val (.int p4), .val (.int p5), .val (.ref b1), .unset, .unset, .unset, .unset, .unset, .unset, .unset, .unset] [])
  obtain ⟨c0, ec0⟩ : ∃ z, z = (nar .char ((p1 &&& (65535 : Int32)).toUInt32.toUInt16.toUInt32.toInt32)) := ⟨_, rfl⟩
  obtain ⟨c1, ec1⟩ : ∃ z, z = (nar .char (((p1.toUInt32 >>> ((16 : Int32) &&& 31).toUInt32).toInt32).toUInt32.toUInt16.toUInt32.toInt32)) := ⟨_, rfl⟩
  obtain ⟨c2, ec2⟩ : ∃ z, z = (nar .char ((p2 &&& (65535 : Int32)).toUInt32.toUInt16.toUInt32.toInt32)) := ⟨_, rfl⟩
  obtain ⟨c3, ec3⟩ : ∃ z, z = (nar .char (((p2.toUInt32 >>> ((16 : Int32) &&& 31).toUInt32).toInt32).toUInt32.toUInt16.toUInt32.toInt32)) := ⟨_, rfl⟩
  obtain ⟨c4, ec4⟩ : ∃ z, z = (nar .char ((p3 &&& (65535 : Int32)).toUInt32.toUInt16.toUInt32.toInt32)) := ⟨_, rfl⟩
  have Vc : Arv Z h6 b1 k1 .char (5 : Int32) [(.int c0), (.int c1), (.int c2), (.int c3), (.int c4)] (.int (0 : Int32)) := by rw [ec0, ec1, ec2, ec3, ec4]; exact V6
  refine OE.iloadN X6 hx hby at_50 rfl ?_
  refine OE.of (X6.ldcInt hx hown (mvT hZ (hw _ (List.mem_of_getElem? (i := 2) rfl))) (g := (mkF m 51 #[.val (.int p1), .val (.int p2), .val (.int p3), .val (.int p4), .val (.int p5), .val (.ref b1), .unset, .unset, .unset, .unset, .unset, .unset, .unset, .unset] [(.int p4)])) rfl (hb hby at_51)) ?_
  show OE _ p e below s _ _ _ T6 (mkF m 53 #[.val (.int p1), .val (.int p2), .val (.int p3), .val (.int p4), .val (.int p5), .val (.ref b1), .unset, .unset, .unset, .unset, .unset, .unset, .unset, .unset] [(.int (2147483647 : Int32)), (.int p4)])
  refine OE.iand X6 hx hby at_53 ?_
  refine OE.bipush X6 hx hby at_54 (6 : Int32) rfl ?_
  refine OE.irem X6 hx hby at_56 (by decide) ?_
  rcases own_st p4 with hs | hs | hs | hs | hs | hs
  · rw [hs]
    show OE _ p e below s _ _ _ T6 (mkF m 57 #[.val (.int p1), .val (.int p2), .val (.int p3), .val (.int p4), .val (.int p5), .val (.ref b1), .unset, .unset, .unset, .unset, .unset, .unset, .unset, .unset] [(.int (0 : Int32))])
    refine OE.istore X6 hx hby at_57 (l' := #[.val (.int p1), .val (.int p2), .val (.int p3), .val (.int p4), .val (.int p5), .val (.ref b1), .val (.int (0 : Int32)), .unset, .unset, .unset, .unset, .unset, .unset, .unset]) rfl ?_
    refine OE.iload X6 hx hby at_59 rfl ?_
    refine OE.iload X6 hx hby at_61 rfl ?_
    refine OE.of (X6.ldcInt hx hown (mvT hZ (hw _ (List.mem_of_getElem? (i := 2) rfl))) (g := (mkF m 63 #[.val (.int p1), .val (.int p2), .val (.int p3), .val (.int p4), .val (.int p5), .val (.ref b1), .val (.int (0 : Int32)), .unset, .unset, .unset, .unset, .unset, .unset, .unset] [(.int p5), (.int (0 : Int32))])) rfl (hb hby at_63)) ?_
    show OE _ p e below s _ _ _ T6 (mkF m 65 #[.val (.int p1), .val (.int p2), .val (.int p3), .val (.int p4), .val (.int p5), .val (.ref b1), .val (.int (0 : Int32)), .unset, .unset, .unset, .unset, .unset, .unset, .unset] [(.int (2147483647 : Int32)), (.int p5), (.int (0 : Int32))])
    refine OE.iand X6 hx hby at_65 ?_
    refine OE.bipush X6 hx hby at_66 (6 : Int32) rfl ?_
    refine OE.iload X6 hx hby at_68 rfl ?_
    refine OE.isub X6 hx hby at_70 ?_
    rw [(by decide : ((6 : Int32) - (0 : Int32)) = (6 : Int32))]
    refine OE.irem X6 hx hby at_71 (by decide) ?_
    rcases own_st p5 with hm | hm | hm | hm | hm | hm
    · rw [hm]
      show OE _ p e below s _ _ _ T6 (mkF m 72 #[.val (.int p1), .val (.int p2), .val (.int p3), .val (.int p4), .val (.int p5), .val (.ref b1), .val (.int (0 : Int32)), .unset, .unset, .unset, .unset, .unset, .unset, .unset] [(.int (0 : Int32)), (.int (0 : Int32))])
      refine OE.iadd X6 hx hby at_72 ?_
      rw [(by decide : ((0 : Int32) + (0 : Int32)) = (0 : Int32))]
      refine OE.istore X6 hx hby at_73 (l' := #[.val (.int p1), .val (.int p2), .val (.int p3), .val (.int p4), .val (.int p5), .val (.ref b1), .val (.int (0 : Int32)), .val (.int (0 : Int32)), .unset, .unset, .unset, .unset, .unset, .unset]) rfl ?_
      refine OE.iload X6 hx hby at_75 rfl ?_
      refine OE.iload X6 hx hby at_77 rfl ?_
      refine OE.isub X6 hx hby at_79 ?_
      rw [(by decide : ((0 : Int32) - (0 : Int32)) = (0 : Int32))]
      refine OE.istore X6 hx hby at_80 (l' := #[.val (.int p1), .val (.int p2), .val (.int p3), .val (.int p4), .val (.int p5), .val (.ref b1), .val (.int (0 : Int32)), .val (.int (0 : Int32)), .val (.int (0 : Int32)), .unset, .unset, .unset, .unset, .unset]) rfl ?_
      refine OE.aload X6 hx hby at_82 rfl rfl ?_
      refine OE.iload X6 hx hby at_84 rfl ?_
      refine OE.iload X6 hx hby at_86 rfl ?_
      refine OE.iconst X6 hx hby at_88 (0 : Int32) rfl ?_
      have z7 : n0 ≤ h6.size := (Nat.le_trans (Nat.le_trans (Nat.le_trans (Nat.le_trans (Nat.le_trans (Nat.le_trans Z0 E1.1) (Nat.le_of_eq W2.size.symm)) (Nat.le_of_eq W3.size.symm)) (Nat.le_of_eq W4.size.symm)) (Nat.le_of_eq W5.size.symm)) (Nat.le_of_eq W6.size.symm))
      obtain ⟨_, _, ⟨T8, L8, k8, n8⟩, -, X8, ⟨Lc8, hQ8, l8, y8, z8⟩, st8⟩ := Jvm.LawKit.callS X6 hx (y := (⟨"com/example/archerfish/archerfish/index/TokenTableHashPinLaw", "term", "([CIII)J"⟩ : MethodName)) hown (mvT hZ (hw _ (List.mem_of_getElem? (i := 3) rfl))) (mvT hZ (hw _ (List.mem_of_getElem? (i := 4) rfl))) (mvT hZ (hw _ (List.mem_of_getElem? (i := 5) rfl))) (mvT hZ (hw _ (List.mem_of_getElem? (i := 6) rfl))) (by decide) (backOf (W := 0) (own_rm1_o l Z a0 hw [] b1 (0 : Int32) (0 : Int32) (0 : Int32) h6 n0 z7 (by decide)) hZ (hw _ (List.mem_of_getElem? (i := 6) rfl)) (hw _ (List.mem_of_getElem? (i := 5) rfl)) (by decide) (by decide)) (g := (mkF m 89 #[.val (.int p1), .val (.int p2), .val (.int p3), .val (.int p4), .val (.int p5), .val (.ref b1), .val (.int (0 : Int32)), .val (.int (0 : Int32)), .val (.int (0 : Int32)), .unset, .unset, .unset, .unset, .unset] [(.int (0 : Int32)), (.int (0 : Int32)), (.int (0 : Int32)), (.ref b1)])) rfl (by rw [hml]; rfl) (argsL := [(.ref b1), (.int (0 : Int32)), (.int (0 : Int32)), (.int (0 : Int32))]) (rest := []) (lenOf own_pd1 rfl) rfl (by show 2 * 0 + _ ≤ _; exact Nat.le_of_eq rfl) (hb hby at_89) (fun _ _ => ⟨rfl, e6, (by decide : 1 + 0 ≤ _), (by decide : 5 + 0 ≤ _)⟩)
      dsimp only [Pt.U, Pt.locs, Pt.cells, Pt.slots] at X8 l8 y8 z8 st8 hQ8
      subst l8 y8 z8
      obtain ⟨rfl, Nq8, eq8⟩ := hQ8
      refine OE.of (fun _ k => st8 _ k) ?_
      have N8 := Fr.app N6 Nq8
      show OE _ p e below s _ _ _ T8 (mkF m 92 #[.val (.int p1), .val (.int p2), .val (.int p3), .val (.int p4), .val (.int p5), .val (.ref b1), .val (.int (0 : Int32)), .val (.int (0 : Int32)), .val (.int (0 : Int32)), .unset, .unset, .unset, .unset, .unset] [(.long (0 : Int64))])
      refine OE.aload X8 hx hby at_92 rfl rfl ?_
      refine OE.iload X8 hx hby at_94 rfl ?_
      refine OE.iload X8 hx hby at_96 rfl ?_
      refine OE.iconst X8 hx hby at_98 (1 : Int32) rfl ?_
      obtain ⟨_, _, ⟨T9, L9, k9, n9⟩, -, X9, ⟨Lc9, hQ9, l9, y9, z9⟩, st9⟩ := Jvm.LawKit.callS X8 hx (y := (⟨"com/example/archerfish/archerfish/index/TokenTableHashPinLaw", "term", "([CIII)J"⟩ : MethodName)) hown (mvT hZ (hw _ (List.mem_of_getElem? (i := 3) rfl))) (mvT hZ (hw _ (List.mem_of_getElem? (i := 4) rfl))) (mvT hZ (hw _ (List.mem_of_getElem? (i := 5) rfl))) (mvT hZ (hw _ (List.mem_of_getElem? (i := 6) rfl))) (by decide) (backOf (W := 2) (own_rm1_o l Z a0 hw [] b1 (0 : Int32) (0 : Int32) (1 : Int32) h6 n0 z7 (by decide)) hZ (hw _ (List.mem_of_getElem? (i := 6) rfl)) (hw _ (List.mem_of_getElem? (i := 5) rfl)) (by decide) (by decide)) (g := (mkF m 99 #[.val (.int p1), .val (.int p2), .val (.int p3), .val (.int p4), .val (.int p5), .val (.ref b1), .val (.int (0 : Int32)), .val (.int (0 : Int32)), .val (.int (0 : Int32)), .unset, .unset, .unset, .unset, .unset] [(.int (1 : Int32)), (.int (0 : Int32)), (.int (0 : Int32)), (.ref b1), (.long (0 : Int64))])) rfl (by rw [hml]; rfl) (argsL := [(.ref b1), (.int (0 : Int32)), (.int (0 : Int32)), (.int (1 : Int32))]) (rest := [(.long (0 : Int64))]) (lenOf own_pd1 rfl) rfl (by show 2 * 0 + _ ≤ _; exact Nat.le_of_eq rfl) (hb hby at_99) (fun _ _ => ⟨rfl, eq8, (by decide : 1 + 0 ≤ _), (by decide : 5 + 0 ≤ _)⟩)
      dsimp only [Pt.U, Pt.locs, Pt.cells, Pt.slots] at X9 l9 y9 z9 st9 hQ9
      subst l9 y9 z9
      obtain ⟨rfl, Nq9, eq9⟩ := hQ9
      refine OE.of (fun _ k => st9 _ k) ?_
      have N9 := Fr.app N8 Nq9
      show OE _ p e below s _ _ _ T9 (mkF m 102 #[.val (.int p1), .val (.int p2), .val (.int p3), .val (.int p4), .val (.int p5), .val (.ref b1), .val (.int (0 : Int32)), .val (.int (0 : Int32)), .val (.int (0 : Int32)), .unset, .unset, .unset, .unset, .unset] [(.long (0 : Int64)), (.long (0 : Int64))])
      refine OE.ladd X9 hx hby at_102 ?_
      rw [(by decide : ((0 : Int64) + (0 : Int64)) = (0 : Int64))]
      refine OE.aload X9 hx hby at_103 rfl rfl ?_
      refine OE.iload X9 hx hby at_105 rfl ?_
      refine OE.iload X9 hx hby at_107 rfl ?_
      refine OE.iconst X9 hx hby at_109 (2 : Int32) rfl ?_
      obtain ⟨_, _, ⟨T10, L10, k10, n10⟩, -, X10, ⟨Lc10, hQ10, l10, y10, z10⟩, st10⟩ := Jvm.LawKit.callS X9 hx (y := (⟨"com/example/archerfish/archerfish/index/TokenTableHashPinLaw", "term", "([CIII)J"⟩ : MethodName)) hown (mvT hZ (hw _ (List.mem_of_getElem? (i := 3) rfl))) (mvT hZ (hw _ (List.mem_of_getElem? (i := 4) rfl))) (mvT hZ (hw _ (List.mem_of_getElem? (i := 5) rfl))) (mvT hZ (hw _ (List.mem_of_getElem? (i := 6) rfl))) (by decide) (backOf (W := 2) (own_rm1_o l Z a0 hw [] b1 (0 : Int32) (0 : Int32) (2 : Int32) h6 n0 z7 (by decide)) hZ (hw _ (List.mem_of_getElem? (i := 6) rfl)) (hw _ (List.mem_of_getElem? (i := 5) rfl)) (by decide) (by decide)) (g := (mkF m 110 #[.val (.int p1), .val (.int p2), .val (.int p3), .val (.int p4), .val (.int p5), .val (.ref b1), .val (.int (0 : Int32)), .val (.int (0 : Int32)), .val (.int (0 : Int32)), .unset, .unset, .unset, .unset, .unset] [(.int (2 : Int32)), (.int (0 : Int32)), (.int (0 : Int32)), (.ref b1), (.long (0 : Int64))])) rfl (by rw [hml]; rfl) (argsL := [(.ref b1), (.int (0 : Int32)), (.int (0 : Int32)), (.int (2 : Int32))]) (rest := [(.long (0 : Int64))]) (lenOf own_pd1 rfl) rfl (by show 2 * 0 + _ ≤ _; exact Nat.le_of_eq rfl) (hb hby at_110) (fun _ _ => ⟨rfl, eq9, (by decide : 1 + 0 ≤ _), (by decide : 5 + 0 ≤ _)⟩)
      dsimp only [Pt.U, Pt.locs, Pt.cells, Pt.slots] at X10 l10 y10 z10 st10 hQ10
      subst l10 y10 z10
      obtain ⟨rfl, Nq10, eq10⟩ := hQ10
      refine OE.of (fun _ k => st10 _ k) ?_
      have N10 := Fr.app N9 Nq10
      show OE _ p e below s _ _ _ T10 (mkF m 113 #[.val (.int p1), .val (.int p2), .val (.int p3), .val (.int p4), .val (.int p5), .val (.ref b1), .val (.int (0 : Int32)), .val (.int (0 : Int32)), .val (.int (0 : Int32)), .unset, .unset, .unset, .unset, .unset] [(.long (0 : Int64)), (.long (0 : Int64))])
      refine OE.ladd X10 hx hby at_113 ?_
      rw [(by decide : ((0 : Int64) + (0 : Int64)) = (0 : Int64))]
      refine OE.aload X10 hx hby at_114 rfl rfl ?_
      refine OE.iload X10 hx hby at_116 rfl ?_
      refine OE.iload X10 hx hby at_118 rfl ?_
      refine OE.iconst X10 hx hby at_120 (3 : Int32) rfl ?_
      obtain ⟨_, _, ⟨T11, L11, k11, n11⟩, -, X11, ⟨Lc11, hQ11, l11, y11, z11⟩, st11⟩ := Jvm.LawKit.callS X10 hx (y := (⟨"com/example/archerfish/archerfish/index/TokenTableHashPinLaw", "term", "([CIII)J"⟩ : MethodName)) hown (mvT hZ (hw _ (List.mem_of_getElem? (i := 3) rfl))) (mvT hZ (hw _ (List.mem_of_getElem? (i := 4) rfl))) (mvT hZ (hw _ (List.mem_of_getElem? (i := 5) rfl))) (mvT hZ (hw _ (List.mem_of_getElem? (i := 6) rfl))) (by decide) (backOf (W := 2) (own_rm1_o l Z a0 hw [] b1 (0 : Int32) (0 : Int32) (3 : Int32) h6 n0 z7 (by decide)) hZ (hw _ (List.mem_of_getElem? (i := 6) rfl)) (hw _ (List.mem_of_getElem? (i := 5) rfl)) (by decide) (by decide)) (g := (mkF m 121 #[.val (.int p1), .val (.int p2), .val (.int p3), .val (.int p4), .val (.int p5), .val (.ref b1), .val (.int (0 : Int32)), .val (.int (0 : Int32)), .val (.int (0 : Int32)), .unset, .unset, .unset, .unset, .unset] [(.int (3 : Int32)), (.int (0 : Int32)), (.int (0 : Int32)), (.ref b1), (.long (0 : Int64))])) rfl (by rw [hml]; rfl) (argsL := [(.ref b1), (.int (0 : Int32)), (.int (0 : Int32)), (.int (3 : Int32))]) (rest := [(.long (0 : Int64))]) (lenOf own_pd1 rfl) rfl (by show 2 * 0 + _ ≤ _; exact Nat.le_of_eq rfl) (hb hby at_121) (fun _ _ => ⟨rfl, eq10, (by decide : 1 + 0 ≤ _), (by decide : 5 + 0 ≤ _)⟩)
      dsimp only [Pt.U, Pt.locs, Pt.cells, Pt.slots] at X11 l11 y11 z11 st11 hQ11
      subst l11 y11 z11
      obtain ⟨rfl, Nq11, eq11⟩ := hQ11
      refine OE.of (fun _ k => st11 _ k) ?_
      have N11 := Fr.app N10 Nq11
      show OE _ p e below s _ _ _ T11 (mkF m 124 #[.val (.int p1), .val (.int p2), .val (.int p3), .val (.int p4), .val (.int p5), .val (.ref b1), .val (.int (0 : Int32)), .val (.int (0 : Int32)), .val (.int (0 : Int32)), .unset, .unset, .unset, .unset, .unset] [(.long (0 : Int64)), (.long (0 : Int64))])
      refine OE.ladd X11 hx hby at_124 ?_
      rw [(by decide : ((0 : Int64) + (0 : Int64)) = (0 : Int64))]
      refine OE.aload X11 hx hby at_125 rfl rfl ?_
      refine OE.iload X11 hx hby at_127 rfl ?_
      refine OE.iload X11 hx hby at_129 rfl ?_
      refine OE.iconst X11 hx hby at_131 (4 : Int32) rfl ?_
      obtain ⟨_, _, ⟨T12, L12, k12, n12⟩, -, X12, ⟨Lc12, hQ12, l12, y12, z12⟩, st12⟩ := Jvm.LawKit.callS X11 hx (y := (⟨"com/example/archerfish/archerfish/index/TokenTableHashPinLaw", "term", "([CIII)J"⟩ : MethodName)) hown (mvT hZ (hw _ (List.mem_of_getElem? (i := 3) rfl))) (mvT hZ (hw _ (List.mem_of_getElem? (i := 4) rfl))) (mvT hZ (hw _ (List.mem_of_getElem? (i := 5) rfl))) (mvT hZ (hw _ (List.mem_of_getElem? (i := 6) rfl))) (by decide) (backOf (W := 2) (own_rm1_o l Z a0 hw [] b1 (0 : Int32) (0 : Int32) (4 : Int32) h6 n0 z7 (by decide)) hZ (hw _ (List.mem_of_getElem? (i := 6) rfl)) (hw _ (List.mem_of_getElem? (i := 5) rfl)) (by decide) (by decide)) (g := (mkF m 132 #[.val (.int p1), .val (.int p2), .val (.int p3), .val (.int p4), .val (.int p5), .val (.ref b1), .val (.int (0 : Int32)), .val (.int (0 : Int32)), .val (.int (0 : Int32)), .unset, .unset, .unset, .unset, .unset] [(.int (4 : Int32)), (.int (0 : Int32)), (.int (0 : Int32)), (.ref b1), (.long (0 : Int64))])) rfl (by rw [hml]; rfl) (argsL := [(.ref b1), (.int (0 : Int32)), (.int (0 : Int32)), (.int (4 : Int32))]) (rest := [(.long (0 : Int64))]) (lenOf own_pd1 rfl) rfl (by show 2 * 0 + _ ≤ _; exact Nat.le_of_eq rfl) (hb hby at_132) (fun _ _ => ⟨rfl, eq11, (by decide : 1 + 0 ≤ _), (by decide : 5 + 0 ≤ _)⟩)
      dsimp only [Pt.U, Pt.locs, Pt.cells, Pt.slots] at X12 l12 y12 z12 st12 hQ12
      subst l12 y12 z12
      obtain ⟨rfl, Nq12, eq12⟩ := hQ12
      refine OE.of (fun _ k => st12 _ k) ?_
      have N12 := Fr.app N11 Nq12
      show OE _ p e below s _ _ _ T12 (mkF m 135 #[.val (.int p1), .val (.int p2), .val (.int p3), .val (.int p4), .val (.int p5), .val (.ref b1), .val (.int (0 : Int32)), .val (.int (0 : Int32)), .val (.int (0 : Int32)), .unset, .unset, .unset, .unset, .unset] [(.long (0 : Int64)), (.long (0 : Int64))])
      refine OE.ladd X12 hx hby at_135 ?_
      rw [(by decide : ((0 : Int64) + (0 : Int64)) = (0 : Int64))]
      refine OE.lstore X12 hx hby at_136 (l' := #[.val (.int p1), .val (.int p2), .val (.int p3), .val (.int p4), .val (.int p5), .val (.ref b1), .val (.int (0 : Int32)), .val (.int (0 : Int32)), .val (.int (0 : Int32)), .val (.long (0 : Int64)), .second, .unset, .unset, .unset]) rfl ?_
      refine OE.lload X12 hx hby at_138 rfl ?_
      refine OE.l2i X12 hx hby at_140 ?_
      rw [((by decide) : ((0 : Int64).toInt32) = (0 : Int32))]
      show OE _ p e below s _ _ _ T12 (mkF m 141 #[.val (.int p1), .val (.int p2), .val (.int p3), .val (.int p4), .val (.int p5), .val (.ref b1), .val (.int (0 : Int32)), .val (.int (0 : Int32)), .val (.int (0 : Int32)), .val (.long (0 : Int64)), .second, .unset, .unset, .unset] [(.int (0 : Int32))])
      refine OE.istore X12 hx hby at_141 (l' := #[.val (.int p1), .val (.int p2), .val (.int p3), .val (.int p4), .val (.int p5), .val (.ref b1), .val (.int (0 : Int32)), .val (.int (0 : Int32)), .val (.int (0 : Int32)), .val (.long (0 : Int64)), .second, .val (.int (0 : Int32)), .unset, .unset]) rfl ?_
      refine OE.iload X12 hx hby at_143 rfl ?_
      refine OE.i2l X12 hx hby at_145 ?_
      refine OE.of (X12.ldc2Long hx hown (mvT hZ (hw _ (List.mem_of_getElem? (i := 7) rfl))) (g := (mkF m 146 #[.val (.int p1), .val (.int p2), .val (.int p3), .val (.int p4), .val (.int p5), .val (.ref b1), .val (.int (0 : Int32)), .val (.int (0 : Int32)), .val (.int (0 : Int32)), .val (.long (0 : Int64)), .second, .val (.int (0 : Int32)), .unset, .unset] [(.long ((0 : Int32).toInt64))])) rfl (hb hby at_146)) ?_
      show OE _ p e below s _ _ _ T12 (mkF m 149 #[.val (.int p1), .val (.int p2), .val (.int p3), .val (.int p4), .val (.int p5), .val (.ref b1), .val (.int (0 : Int32)), .val (.int (0 : Int32)), .val (.int (0 : Int32)), .val (.long (0 : Int64)), .second, .val (.int (0 : Int32)), .unset, .unset] [(.long (2654435769 : Int64)), (.long ((0 : Int32).toInt64))])
      refine OE.lmul X12 hx hby at_149 ?_
      refine OE.l2i X12 hx hby at_150 ?_
      rw [((by decide) : ((((0 : Int32).toInt64) * (2654435769 : Int64)).toInt32) = (0 : Int32))]
      show OE _ p e below s _ _ _ T12 (mkF m 151 #[.val (.int p1), .val (.int p2), .val (.int p3), .val (.int p4), .val (.int p5), .val (.ref b1), .val (.int (0 : Int32)), .val (.int (0 : Int32)), .val (.int (0 : Int32)), .val (.long (0 : Int64)), .second, .val (.int (0 : Int32)), .unset, .unset] [(.int (0 : Int32))])
      refine OE.istore X12 hx hby at_151 (l' := #[.val (.int p1), .val (.int p2), .val (.int p3), .val (.int p4), .val (.int p5), .val (.ref b1), .val (.int (0 : Int32)), .val (.int (0 : Int32)), .val (.int (0 : Int32)), .val (.long (0 : Int64)), .second, .val (.int (0 : Int32)), .val (.int (0 : Int32)), .unset]) rfl ?_
      refine OE.aload X12 hx hby at_153 rfl rfl ?_
      refine OE.iload X12 hx hby at_155 rfl ?_
      refine OE.iload X12 hx hby at_157 rfl ?_
      obtain ⟨_, _, ⟨T13, L13, k13, n13⟩, -, X13, ⟨Lc13, hQ13, l13, y13, z13⟩, st13⟩ := Jvm.LawKit.callS X12 hx (y := (⟨"com/example/archerfish/archerfish/index/TokenTable", "hash", "([CII)I"⟩ : MethodName)) hown (mvT hZ (hw _ (List.mem_of_getElem? (i := 8) rfl))) (mvT hZ (hw _ (List.mem_of_getElem? (i := 9) rfl))) (mvT hZ (hw _ (List.mem_of_getElem? (i := 10) rfl))) (mvT hZ (hw _ (List.mem_of_getElem? (i := 11) rfl))) (by decide) (backOf (W := 0) (own_rm2_0_0 l Z a0 hw [] b1 c0 c1 c2 c3 c4 k1 h6 n0 z7 Vc) hZ (hw _ (List.mem_of_getElem? (i := 11) rfl)) (hw _ (List.mem_of_getElem? (i := 10) rfl)) (by decide) (by decide)) (g := (mkF m 159 #[.val (.int p1), .val (.int p2), .val (.int p3), .val (.int p4), .val (.int p5), .val (.ref b1), .val (.int (0 : Int32)), .val (.int (0 : Int32)), .val (.int (0 : Int32)), .val (.long (0 : Int64)), .second, .val (.int (0 : Int32)), .val (.int (0 : Int32)), .unset] [(.int (0 : Int32)), (.int (0 : Int32)), (.ref b1)])) rfl (by rw [hml]; rfl) (argsL := [(.ref b1), (.int (0 : Int32)), (.int (0 : Int32))]) (rest := []) (lenOf own_pd2 rfl) rfl (by show 2 * 0 + _ ≤ _; exact Nat.le_of_eq rfl) (hb hby at_159) (fun _ _ => ⟨rfl, eq12, (by decide : 1 + 0 ≤ _), (by decide : 5 + 0 ≤ _)⟩)
      dsimp only [Pt.U, Pt.locs, Pt.cells, Pt.slots] at X13 l13 y13 z13 st13 hQ13
      subst l13 y13 z13
      obtain ⟨rfl, Nq13, eq13⟩ := hQ13
      refine OE.of (fun _ k => st13 _ k) ?_
      have N13 := Fr.app N12 Nq13
      show OE _ p e below s _ _ _ T13 (mkF m 162 #[.val (.int p1), .val (.int p2), .val (.int p3), .val (.int p4), .val (.int p5), .val (.ref b1), .val (.int (0 : Int32)), .val (.int (0 : Int32)), .val (.int (0 : Int32)), .val (.long (0 : Int64)), .second, .val (.int (0 : Int32)), .val (.int (0 : Int32)), .unset] [(.int ((0 : Int32) ^^^ (((0 : Int32).toUInt32 >>> ((16 : Int32) &&& 31).toUInt32).toInt32)))])
      refine OE.istore X13 hx hby at_162 (l' := #[.val (.int p1), .val (.int p2), .val (.int p3), .val (.int p4), .val (.int p5), .val (.ref b1), .val (.int (0 : Int32)), .val (.int (0 : Int32)), .val (.int (0 : Int32)), .val (.long (0 : Int64)), .second, .val (.int (0 : Int32)), .val (.int (0 : Int32)), .val (.int ((0 : Int32) ^^^ (((0 : Int32).toUInt32 >>> ((16 : Int32) &&& 31).toUInt32).toInt32)))]) rfl ?_
      refine OE.iload X13 hx hby at_164 rfl ?_
      refine OE.bipush X13 hx hby at_166 (16 : Int32) rfl ?_
      refine OE.iushr X13 hx hby at_168 ?_
      refine OE.iload X13 hx hby at_169 rfl ?_
      refine OE.bipush X13 hx hby at_171 (16 : Int32) rfl ?_
      refine OE.iushr X13 hx hby at_173 ?_
      refine OE.icmpNo X13 hx hby at_174 (teq (own_top _ : ((((0 : Int32) ^^^ (((0 : Int32).toUInt32 >>> ((16 : Int32) &&& 31).toUInt32).toInt32)).toUInt32 >>> ((16 : Int32) &&& 31).toUInt32).toInt32) = (((0 : Int32).toUInt32 >>> ((16 : Int32) &&& 31).toUInt32).toInt32))).2 ?_
      refine OE.iload X13 hx hby at_177 rfl ?_
      refine OE.of (X13.ldcInt hx hown (mvT hZ (hw _ (List.mem_of_getElem? (i := 1) rfl))) (g := (mkF m 179 #[.val (.int p1), .val (.int p2), .val (.int p3), .val (.int p4), .val (.int p5), .val (.ref b1), .val (.int (0 : Int32)), .val (.int (0 : Int32)), .val (.int (0 : Int32)), .val (.long (0 : Int64)), .second, .val (.int (0 : Int32)), .val (.int (0 : Int32)), .val (.int ((0 : Int32) ^^^ (((0 : Int32).toUInt32 >>> ((16 : Int32) &&& 31).toUInt32).toInt32)))] [(.int ((0 : Int32) ^^^ (((0 : Int32).toUInt32 >>> ((16 : Int32) &&& 31).toUInt32).toInt32)))])) rfl (hb hby at_179)) ?_
      show OE _ p e below s _ _ _ T13 (mkF m 181 #[.val (.int p1), .val (.int p2), .val (.int p3), .val (.int p4), .val (.int p5), .val (.ref b1), .val (.int (0 : Int32)), .val (.int (0 : Int32)), .val (.int (0 : Int32)), .val (.long (0 : Int64)), .second, .val (.int (0 : Int32)), .val (.int (0 : Int32)), .val (.int ((0 : Int32) ^^^ (((0 : Int32).toUInt32 >>> ((16 : Int32) &&& 31).toUInt32).toInt32)))] [(.int (65535 : Int32)), (.int ((0 : Int32) ^^^ (((0 : Int32).toUInt32 >>> ((16 : Int32) &&& 31).toUInt32).toInt32)))])
      refine OE.iand X13 hx hby at_181 ?_
      refine OE.iload X13 hx hby at_182 rfl ?_
      refine OE.iload X13 hx hby at_184 rfl ?_
      refine OE.bipush X13 hx hby at_186 (16 : Int32) rfl ?_
      refine OE.iushr X13 hx hby at_188 ?_
      refine OE.ixor X13 hx hby at_189 ?_
      refine OE.of (X13.ldcInt hx hown (mvT hZ (hw _ (List.mem_of_getElem? (i := 1) rfl))) (g := (mkF m 190 #[.val (.int p1), .val (.int p2), .val (.int p3), .val (.int p4), .val (.int p5), .val (.ref b1), .val (.int (0 : Int32)), .val (.int (0 : Int32)), .val (.int (0 : Int32)), .val (.long (0 : Int64)), .second, .val (.int (0 : Int32)), .val (.int (0 : Int32)), .val (.int ((0 : Int32) ^^^ (((0 : Int32).toUInt32 >>> ((16 : Int32) &&& 31).toUInt32).toInt32)))] [(.int ((0 : Int32) ^^^ (((0 : Int32).toUInt32 >>> ((16 : Int32) &&& 31).toUInt32).toInt32))), (.int (((0 : Int32) ^^^ (((0 : Int32).toUInt32 >>> ((16 : Int32) &&& 31).toUInt32).toInt32)) &&& (65535 : Int32)))])) rfl (hb hby at_190)) ?_
      show OE _ p e below s _ _ _ T13 (mkF m 192 #[.val (.int p1), .val (.int p2), .val (.int p3), .val (.int p4), .val (.int p5), .val (.ref b1), .val (.int (0 : Int32)), .val (.int (0 : Int32)), .val (.int (0 : Int32)), .val (.long (0 : Int64)), .second, .val (.int (0 : Int32)), .val (.int (0 : Int32)), .val (.int ((0 : Int32) ^^^ (((0 : Int32).toUInt32 >>> ((16 : Int32) &&& 31).toUInt32).toInt32)))] [(.int (65535 : Int32)), (.int ((0 : Int32) ^^^ (((0 : Int32).toUInt32 >>> ((16 : Int32) &&& 31).toUInt32).toInt32))), (.int (((0 : Int32) ^^^ (((0 : Int32).toUInt32 >>> ((16 : Int32) &&& 31).toUInt32).toInt32)) &&& (65535 : Int32)))])
      refine OE.iand X13 hx hby at_192 ?_
      refine OE.icmpNo X13 hx hby at_193 (teq (rfl : (((0 : Int32) ^^^ (((0 : Int32).toUInt32 >>> ((16 : Int32) &&& 31).toUInt32).toInt32)) &&& (65535 : Int32)) = (((0 : Int32) ^^^ (((0 : Int32).toUInt32 >>> ((16 : Int32) &&& 31).toUInt32).toInt32)) &&& (65535 : Int32)))).2 ?_
      refine OE.iconst X13 hx hby at_196 (1 : Int32) rfl ?_
      refine OE.goto X13 hx hby (pc' := 201) at_197 (h := ?_)
      refine OE.retN X13 hx (t := .boolean) Bd.returns (by simp) Bd.notSynchronized (hb hby at_201) (by decide) (by decide) ?_
      rw [eq13]
      exact ⟨rfl, N13⟩
    · rw [hm]
      show OE _ p e below s _ _ _ T6 (mkF m 72 #[.val (.int p1), .val (.int p2), .val (.int p3), .val (.int p4), .val (.int p5), .val (.ref b1), .val (.int (0 : Int32)), .unset, .unset, .unset, .unset, .unset, .unset, .unset] [(.int (1 : Int32)), (.int (0 : Int32))])
      refine OE.iadd X6 hx hby at_72 ?_
      rw [(by decide : ((0 : Int32) + (1 : Int32)) = (1 : Int32))]
      refine OE.istore X6 hx hby at_73 (l' := #[.val (.int p1), .val (.int p2), .val (.int p3), .val (.int p4), .val (.int p5), .val (.ref b1), .val (.int (0 : Int32)), .val (.int (1 : Int32)), .unset, .unset, .unset, .unset, .unset, .unset]) rfl ?_
      refine OE.iload X6 hx hby at_75 rfl ?_
      refine OE.iload X6 hx hby at_77 rfl ?_
      refine OE.isub X6 hx hby at_79 ?_
      rw [(by decide : ((1 : Int32) - (0 : Int32)) = (1 : Int32))]
      refine OE.istore X6 hx hby at_80 (l' := #[.val (.int p1), .val (.int p2), .val (.int p3), .val (.int p4), .val (.int p5), .val (.ref b1), .val (.int (0 : Int32)), .val (.int (1 : Int32)), .val (.int (1 : Int32)), .unset, .unset, .unset, .unset, .unset]) rfl ?_
      refine OE.aload X6 hx hby at_82 rfl rfl ?_
      refine OE.iload X6 hx hby at_84 rfl ?_
      refine OE.iload X6 hx hby at_86 rfl ?_
      refine OE.iconst X6 hx hby at_88 (0 : Int32) rfl ?_
      have z14 : n0 ≤ h6.size := (Nat.le_trans (Nat.le_trans (Nat.le_trans (Nat.le_trans (Nat.le_trans (Nat.le_trans Z0 E1.1) (Nat.le_of_eq W2.size.symm)) (Nat.le_of_eq W3.size.symm)) (Nat.le_of_eq W4.size.symm)) (Nat.le_of_eq W5.size.symm)) (Nat.le_of_eq W6.size.symm))
      obtain ⟨_, _, ⟨T15, L15, k15, n15⟩, -, X15, ⟨Lc15, hQ15, l15, y15, z15⟩, st15⟩ := Jvm.LawKit.callS X6 hx (y := (⟨"com/example/archerfish/archerfish/index/TokenTableHashPinLaw", "term", "([CIII)J"⟩ : MethodName)) hown (mvT hZ (hw _ (List.mem_of_getElem? (i := 3) rfl))) (mvT hZ (hw _ (List.mem_of_getElem? (i := 4) rfl))) (mvT hZ (hw _ (List.mem_of_getElem? (i := 5) rfl))) (mvT hZ (hw _ (List.mem_of_getElem? (i := 6) rfl))) (by decide) (backOf (W := 0) (own_rm1_1_0 l Z a0 hw [] b1 (0 : Int32) c0 k1 [(.int c0), (.int c1), (.int c2), (.int c3), (.int c4)] h6 n0 z14 Vc ⟨by decide, by decide⟩ rfl) hZ (hw _ (List.mem_of_getElem? (i := 6) rfl)) (hw _ (List.mem_of_getElem? (i := 5) rfl)) (by decide) (by decide)) (g := (mkF m 89 #[.val (.int p1), .val (.int p2), .val (.int p3), .val (.int p4), .val (.int p5), .val (.ref b1), .val (.int (0 : Int32)), .val (.int (1 : Int32)), .val (.int (1 : Int32)), .unset, .unset, .unset, .unset, .unset] [(.int (0 : Int32)), (.int (1 : Int32)), (.int (0 : Int32)), (.ref b1)])) rfl (by rw [hml]; rfl) (argsL := [(.ref b1), (.int (0 : Int32)), (.int (1 : Int32)), (.int (0 : Int32))]) (rest := []) (lenOf own_pd1 rfl) rfl (by show 2 * 0 + _ ≤ _; exact Nat.le_of_eq rfl) (hb hby at_89) (fun _ _ => ⟨rfl, e6, (by decide : 1 + 0 ≤ _), (by decide : 5 + 0 ≤ _)⟩)
      dsimp only [Pt.U, Pt.locs, Pt.cells, Pt.slots] at X15 l15 y15 z15 st15 hQ15
      subst l15 y15 z15
      obtain ⟨rfl, Nq15, eq15⟩ := hQ15
      refine OE.of (fun _ k => st15 _ k) ?_
      have N15 := Fr.app N6 Nq15
      show OE _ p e below s _ _ _ T15 (mkF m 92 #[.val (.int p1), .val (.int p2), .val (.int p3), .val (.int p4), .val (.int p5), .val (.ref b1), .val (.int (0 : Int32)), .val (.int (1 : Int32)), .val (.int (1 : Int32)), .unset, .unset, .unset, .unset, .unset] [(.long ((c0.toInt64) * (1 : Int64)))])
      refine OE.aload X15 hx hby at_92 rfl rfl ?_
      refine OE.iload X15 hx hby at_94 rfl ?_
      refine OE.iload X15 hx hby at_96 rfl ?_
      refine OE.iconst X15 hx hby at_98 (1 : Int32) rfl ?_
      obtain ⟨_, _, ⟨T16, L16, k16, n16⟩, -, X16, ⟨Lc16, hQ16, l16, y16, z16⟩, st16⟩ := Jvm.LawKit.callS X15 hx (y := (⟨"com/example/archerfish/archerfish/index/TokenTableHashPinLaw", "term", "([CIII)J"⟩ : MethodName)) hown (mvT hZ (hw _ (List.mem_of_getElem? (i := 3) rfl))) (mvT hZ (hw _ (List.mem_of_getElem? (i := 4) rfl))) (mvT hZ (hw _ (List.mem_of_getElem? (i := 5) rfl))) (mvT hZ (hw _ (List.mem_of_getElem? (i := 6) rfl))) (by decide) (backOf (W := 2) (own_rm1_o l Z a0 hw [] b1 (0 : Int32) (1 : Int32) (1 : Int32) h6 n0 z14 (by decide)) hZ (hw _ (List.mem_of_getElem? (i := 6) rfl)) (hw _ (List.mem_of_getElem? (i := 5) rfl)) (by decide) (by decide)) (g := (mkF m 99 #[.val (.int p1), .val (.int p2), .val (.int p3), .val (.int p4), .val (.int p5), .val (.ref b1), .val (.int (0 : Int32)), .val (.int (1 : Int32)), .val (.int (1 : Int32)), .unset, .unset, .unset, .unset, .unset] [(.int (1 : Int32)), (.int (1 : Int32)), (.int (0 : Int32)), (.ref b1), (.long ((c0.toInt64) * (1 : Int64)))])) rfl (by rw [hml]; rfl) (argsL := [(.ref b1), (.int (0 : Int32)), (.int (1 : Int32)), (.int (1 : Int32))]) (rest := [(.long ((c0.toInt64) * (1 : Int64)))]) (lenOf own_pd1 rfl) rfl (by show 2 * 0 + _ ≤ _; exact Nat.le_of_eq rfl) (hb hby at_99) (fun _ _ => ⟨rfl, eq15, (by decide : 1 + 0 ≤ _), (by decide : 5 + 0 ≤ _)⟩)
      dsimp only [Pt.U, Pt.locs, Pt.cells, Pt.slots] at X16 l16 y16 z16 st16 hQ16
      subst l16 y16 z16
      obtain ⟨rfl, Nq16, eq16⟩ := hQ16
      refine OE.of (fun _ k => st16 _ k) ?_
      have N16 := Fr.app N15 Nq16
      show OE _ p e below s _ _ _ T16 (mkF m 102 #[.val (.int p1), .val (.int p2), .val (.int p3), .val (.int p4), .val (.int p5), .val (.ref b1), .val (.int (0 : Int32)), .val (.int (1 : Int32)), .val (.int (1 : Int32)), .unset, .unset, .unset, .unset, .unset] [(.long (0 : Int64)), (.long ((c0.toInt64) * (1 : Int64)))])
      refine OE.ladd X16 hx hby at_102 ?_
      refine OE.aload X16 hx hby at_103 rfl rfl ?_
      refine OE.iload X16 hx hby at_105 rfl ?_
      refine OE.iload X16 hx hby at_107 rfl ?_
      refine OE.iconst X16 hx hby at_109 (2 : Int32) rfl ?_
      obtain ⟨_, _, ⟨T17, L17, k17, n17⟩, -, X17, ⟨Lc17, hQ17, l17, y17, z17⟩, st17⟩ := Jvm.LawKit.callS X16 hx (y := (⟨"com/example/archerfish/archerfish/index/TokenTableHashPinLaw", "term", "([CIII)J"⟩ : MethodName)) hown (mvT hZ (hw _ (List.mem_of_getElem? (i := 3) rfl))) (mvT hZ (hw _ (List.mem_of_getElem? (i := 4) rfl))) (mvT hZ (hw _ (List.mem_of_getElem? (i := 5) rfl))) (mvT hZ (hw _ (List.mem_of_getElem? (i := 6) rfl))) (by decide) (backOf (W := 2) (own_rm1_o l Z a0 hw [] b1 (0 : Int32) (1 : Int32) (2 : Int32) h6 n0 z14 (by decide)) hZ (hw _ (List.mem_of_getElem? (i := 6) rfl)) (hw _ (List.mem_of_getElem? (i := 5) rfl)) (by decide) (by decide)) (g := (mkF m 110 #[.val (.int p1), .val (.int p2), .val (.int p3), .val (.int p4), .val (.int p5), .val (.ref b1), .val (.int (0 : Int32)), .val (.int (1 : Int32)), .val (.int (1 : Int32)), .unset, .unset, .unset, .unset, .unset] [(.int (2 : Int32)), (.int (1 : Int32)), (.int (0 : Int32)), (.ref b1), (.long (((c0.toInt64) * (1 : Int64)) + (0 : Int64)))])) rfl (by rw [hml]; rfl) (argsL := [(.ref b1), (.int (0 : Int32)), (.int (1 : Int32)), (.int (2 : Int32))]) (rest := [(.long (((c0.toInt64) * (1 : Int64)) + (0 : Int64)))]) (lenOf own_pd1 rfl) rfl (by show 2 * 0 + _ ≤ _; exact Nat.le_of_eq rfl) (hb hby at_110) (fun _ _ => ⟨rfl, eq16, (by decide : 1 + 0 ≤ _), (by decide : 5 + 0 ≤ _)⟩)
      dsimp only [Pt.U, Pt.locs, Pt.cells, Pt.slots] at X17 l17 y17 z17 st17 hQ17
      subst l17 y17 z17
      obtain ⟨rfl, Nq17, eq17⟩ := hQ17
      refine OE.of (fun _ k => st17 _ k) ?_
      have N17 := Fr.app N16 Nq17
      show OE _ p e below s _ _ _ T17 (mkF m 113 #[.val (.int p1), .val (.int p2), .val (.int p3), .val (.int p4), .val (.int p5), .val (.ref b1), .val (.int (0 : Int32)), .val (.int (1 : Int32)), .val (.int (1 : Int32)), .unset, .unset, .unset, .unset, .unset] [(.long (0 : Int64)), (.long (((c0.toInt64) * (1 : Int64)) + (0 : Int64)))])
      refine OE.ladd X17 hx hby at_113 ?_
      refine OE.aload X17 hx hby at_114 rfl rfl ?_
      refine OE.iload X17 hx hby at_116 rfl ?_
      refine OE.iload X17 hx hby at_118 rfl ?_
      refine OE.iconst X17 hx hby at_120 (3 : Int32) rfl ?_
      obtain ⟨_, _, ⟨T18, L18, k18, n18⟩, -, X18, ⟨Lc18, hQ18, l18, y18, z18⟩, st18⟩ := Jvm.LawKit.callS X17 hx (y := (⟨"com/example/archerfish/archerfish/index/TokenTableHashPinLaw", "term", "([CIII)J"⟩ : MethodName)) hown (mvT hZ (hw _ (List.mem_of_getElem? (i := 3) rfl))) (mvT hZ (hw _ (List.mem_of_getElem? (i := 4) rfl))) (mvT hZ (hw _ (List.mem_of_getElem? (i := 5) rfl))) (mvT hZ (hw _ (List.mem_of_getElem? (i := 6) rfl))) (by decide) (backOf (W := 2) (own_rm1_o l Z a0 hw [] b1 (0 : Int32) (1 : Int32) (3 : Int32) h6 n0 z14 (by decide)) hZ (hw _ (List.mem_of_getElem? (i := 6) rfl)) (hw _ (List.mem_of_getElem? (i := 5) rfl)) (by decide) (by decide)) (g := (mkF m 121 #[.val (.int p1), .val (.int p2), .val (.int p3), .val (.int p4), .val (.int p5), .val (.ref b1), .val (.int (0 : Int32)), .val (.int (1 : Int32)), .val (.int (1 : Int32)), .unset, .unset, .unset, .unset, .unset] [(.int (3 : Int32)), (.int (1 : Int32)), (.int (0 : Int32)), (.ref b1), (.long ((((c0.toInt64) * (1 : Int64)) + (0 : Int64)) + (0 : Int64)))])) rfl (by rw [hml]; rfl) (argsL := [(.ref b1), (.int (0 : Int32)), (.int (1 : Int32)), (.int (3 : Int32))]) (rest := [(.long ((((c0.toInt64) * (1 : Int64)) + (0 : Int64)) + (0 : Int64)))]) (lenOf own_pd1 rfl) rfl (by show 2 * 0 + _ ≤ _; exact Nat.le_of_eq rfl) (hb hby at_121) (fun _ _ => ⟨rfl, eq17, (by decide : 1 + 0 ≤ _), (by decide : 5 + 0 ≤ _)⟩)
      dsimp only [Pt.U, Pt.locs, Pt.cells, Pt.slots] at X18 l18 y18 z18 st18 hQ18
      subst l18 y18 z18
      obtain ⟨rfl, Nq18, eq18⟩ := hQ18
      refine OE.of (fun _ k => st18 _ k) ?_
      have N18 := Fr.app N17 Nq18
      show OE _ p e below s _ _ _ T18 (mkF m 124 #[.val (.int p1), .val (.int p2), .val (.int p3), .val (.int p4), .val (.int p5), .val (.ref b1), .val (.int (0 : Int32)), .val (.int (1 : Int32)), .val (.int (1 : Int32)), .unset, .unset, .unset, .unset, .unset] [(.long (0 : Int64)), (.long ((((c0.toInt64) * (1 : Int64)) + (0 : Int64)) + (0 : Int64)))])
      refine OE.ladd X18 hx hby at_124 ?_
      refine OE.aload X18 hx hby at_125 rfl rfl ?_
      refine OE.iload X18 hx hby at_127 rfl ?_
      refine OE.iload X18 hx hby at_129 rfl ?_
      refine OE.iconst X18 hx hby at_131 (4 : Int32) rfl ?_
      obtain ⟨_, _, ⟨T19, L19, k19, n19⟩, -, X19, ⟨Lc19, hQ19, l19, y19, z19⟩, st19⟩ := Jvm.LawKit.callS X18 hx (y := (⟨"com/example/archerfish/archerfish/index/TokenTableHashPinLaw", "term", "([CIII)J"⟩ : MethodName)) hown (mvT hZ (hw _ (List.mem_of_getElem? (i := 3) rfl))) (mvT hZ (hw _ (List.mem_of_getElem? (i := 4) rfl))) (mvT hZ (hw _ (List.mem_of_getElem? (i := 5) rfl))) (mvT hZ (hw _ (List.mem_of_getElem? (i := 6) rfl))) (by decide) (backOf (W := 2) (own_rm1_o l Z a0 hw [] b1 (0 : Int32) (1 : Int32) (4 : Int32) h6 n0 z14 (by decide)) hZ (hw _ (List.mem_of_getElem? (i := 6) rfl)) (hw _ (List.mem_of_getElem? (i := 5) rfl)) (by decide) (by decide)) (g := (mkF m 132 #[.val (.int p1), .val (.int p2), .val (.int p3), .val (.int p4), .val (.int p5), .val (.ref b1), .val (.int (0 : Int32)), .val (.int (1 : Int32)), .val (.int (1 : Int32)), .unset, .unset, .unset, .unset, .unset] [(.int (4 : Int32)), (.int (1 : Int32)), (.int (0 : Int32)), (.ref b1), (.long (((((c0.toInt64) * (1 : Int64)) + (0 : Int64)) + (0 : Int64)) + (0 : Int64)))])) rfl (by rw [hml]; rfl) (argsL := [(.ref b1), (.int (0 : Int32)), (.int (1 : Int32)), (.int (4 : Int32))]) (rest := [(.long (((((c0.toInt64) * (1 : Int64)) + (0 : Int64)) + (0 : Int64)) + (0 : Int64)))]) (lenOf own_pd1 rfl) rfl (by show 2 * 0 + _ ≤ _; exact Nat.le_of_eq rfl) (hb hby at_132) (fun _ _ => ⟨rfl, eq18, (by decide : 1 + 0 ≤ _), (by decide : 5 + 0 ≤ _)⟩)
      dsimp only [Pt.U, Pt.locs, Pt.cells, Pt.slots] at X19 l19 y19 z19 st19 hQ19
      subst l19 y19 z19
      obtain ⟨rfl, Nq19, eq19⟩ := hQ19
      refine OE.of (fun _ k => st19 _ k) ?_
      have N19 := Fr.app N18 Nq19
      show OE _ p e below s _ _ _ T19 (mkF m 135 #[.val (.int p1), .val (.int p2), .val (.int p3), .val (.int p4), .val (.int p5), .val (.ref b1), .val (.int (0 : Int32)), .val (.int (1 : Int32)), .val (.int (1 : Int32)), .unset, .unset, .unset, .unset, .unset] [(.long (0 : Int64)), (.long (((((c0.toInt64) * (1 : Int64)) + (0 : Int64)) + (0 : Int64)) + (0 : Int64)))])
      refine OE.ladd X19 hx hby at_135 ?_
      refine OE.lstore X19 hx hby at_136 (l' := #[.val (.int p1), .val (.int p2), .val (.int p3), .val (.int p4), .val (.int p5), .val (.ref b1), .val (.int (0 : Int32)), .val (.int (1 : Int32)), .val (.int (1 : Int32)), .val (.long ((((((c0.toInt64) * (1 : Int64)) + (0 : Int64)) + (0 : Int64)) + (0 : Int64)) + (0 : Int64))), .second, .unset, .unset, .unset]) rfl ?_
      refine OE.lload X19 hx hby at_138 rfl ?_
      refine OE.l2i X19 hx hby at_140 ?_
      rw [(own_poly1 c0 : (((((((c0.toInt64) * (1 : Int64)) + (0 : Int64)) + (0 : Int64)) + (0 : Int64)) + (0 : Int64)).toInt32) = ((0 : Int32) + c0))]
      show OE _ p e below s _ _ _ T19 (mkF m 141 #[.val (.int p1), .val (.int p2), .val (.int p3), .val (.int p4), .val (.int p5), .val (.ref b1), .val (.int (0 : Int32)), .val (.int (1 : Int32)), .val (.int (1 : Int32)), .val (.long ((((((c0.toInt64) * (1 : Int64)) + (0 : Int64)) + (0 : Int64)) + (0 : Int64)) + (0 : Int64))), .second, .unset, .unset, .unset] [(.int ((0 : Int32) + c0))])
      refine OE.istore X19 hx hby at_141 (l' := #[.val (.int p1), .val (.int p2), .val (.int p3), .val (.int p4), .val (.int p5), .val (.ref b1), .val (.int (0 : Int32)), .val (.int (1 : Int32)), .val (.int (1 : Int32)), .val (.long ((((((c0.toInt64) * (1 : Int64)) + (0 : Int64)) + (0 : Int64)) + (0 : Int64)) + (0 : Int64))), .second, .val (.int ((0 : Int32) + c0)), .unset, .unset]) rfl ?_
      refine OE.iload X19 hx hby at_143 rfl ?_
      refine OE.i2l X19 hx hby at_145 ?_
      refine OE.of (X19.ldc2Long hx hown (mvT hZ (hw _ (List.mem_of_getElem? (i := 7) rfl))) (g := (mkF m 146 #[.val (.int p1), .val (.int p2), .val (.int p3), .val (.int p4), .val (.int p5), .val (.ref b1), .val (.int (0 : Int32)), .val (.int (1 : Int32)), .val (.int (1 : Int32)), .val (.long ((((((c0.toInt64) * (1 : Int64)) + (0 : Int64)) + (0 : Int64)) + (0 : Int64)) + (0 : Int64))), .second, .val (.int ((0 : Int32) + c0)), .unset, .unset] [(.long (((0 : Int32) + c0).toInt64))])) rfl (hb hby at_146)) ?_
      show OE _ p e below s _ _ _ T19 (mkF m 149 #[.val (.int p1), .val (.int p2), .val (.int p3), .val (.int p4), .val (.int p5), .val (.ref b1), .val (.int (0 : Int32)), .val (.int (1 : Int32)), .val (.int (1 : Int32)), .val (.long ((((((c0.toInt64) * (1 : Int64)) + (0 : Int64)) + (0 : Int64)) + (0 : Int64)) + (0 : Int64))), .second, .val (.int ((0 : Int32) + c0)), .unset, .unset] [(.long (2654435769 : Int64)), (.long (((0 : Int32) + c0).toInt64))])
      refine OE.lmul X19 hx hby at_149 ?_
      refine OE.l2i X19 hx hby at_150 ?_
      rw [(own_mul _ : (((((0 : Int32) + c0).toInt64) * (2654435769 : Int64)).toInt32) = (((0 : Int32) + c0) * (-1640531527 : Int32)))]
      show OE _ p e below s _ _ _ T19 (mkF m 151 #[.val (.int p1), .val (.int p2), .val (.int p3), .val (.int p4), .val (.int p5), .val (.ref b1), .val (.int (0 : Int32)), .val (.int (1 : Int32)), .val (.int (1 : Int32)), .val (.long ((((((c0.toInt64) * (1 : Int64)) + (0 : Int64)) + (0 : Int64)) + (0 : Int64)) + (0 : Int64))), .second, .val (.int ((0 : Int32) + c0)), .unset, .unset] [(.int (((0 : Int32) + c0) * (-1640531527 : Int32)))])
      refine OE.istore X19 hx hby at_151 (l' := #[.val (.int p1), .val (.int p2), .val (.int p3), .val (.int p4), .val (.int p5), .val (.ref b1), .val (.int (0 : Int32)), .val (.int (1 : Int32)), .val (.int (1 : Int32)), .val (.long ((((((c0.toInt64) * (1 : Int64)) + (0 : Int64)) + (0 : Int64)) + (0 : Int64)) + (0 : Int64))), .second, .val (.int ((0 : Int32) + c0)), .val (.int (((0 : Int32) + c0) * (-1640531527 : Int32))), .unset]) rfl ?_
      refine OE.aload X19 hx hby at_153 rfl rfl ?_
      refine OE.iload X19 hx hby at_155 rfl ?_
      refine OE.iload X19 hx hby at_157 rfl ?_
      obtain ⟨_, _, ⟨T20, L20, k20, n20⟩, -, X20, ⟨Lc20, hQ20, l20, y20, z20⟩, st20⟩ := Jvm.LawKit.callS X19 hx (y := (⟨"com/example/archerfish/archerfish/index/TokenTable", "hash", "([CII)I"⟩ : MethodName)) hown (mvT hZ (hw _ (List.mem_of_getElem? (i := 8) rfl))) (mvT hZ (hw _ (List.mem_of_getElem? (i := 9) rfl))) (mvT hZ (hw _ (List.mem_of_getElem? (i := 10) rfl))) (mvT hZ (hw _ (List.mem_of_getElem? (i := 11) rfl))) (by decide) (backOf (W := 0) (own_rm2_0_1 l Z a0 hw [] b1 c0 c1 c2 c3 c4 k1 h6 n0 z14 Vc) hZ (hw _ (List.mem_of_getElem? (i := 11) rfl)) (hw _ (List.mem_of_getElem? (i := 10) rfl)) (by decide) (by decide)) (g := (mkF m 159 #[.val (.int p1), .val (.int p2), .val (.int p3), .val (.int p4), .val (.int p5), .val (.ref b1), .val (.int (0 : Int32)), .val (.int (1 : Int32)), .val (.int (1 : Int32)), .val (.long ((((((c0.toInt64) * (1 : Int64)) + (0 : Int64)) + (0 : Int64)) + (0 : Int64)) + (0 : Int64))), .second, .val (.int ((0 : Int32) + c0)), .val (.int (((0 : Int32) + c0) * (-1640531527 : Int32))), .unset] [(.int (1 : Int32)), (.int (0 : Int32)), (.ref b1)])) rfl (by rw [hml]; rfl) (argsL := [(.ref b1), (.int (0 : Int32)), (.int (1 : Int32))]) (rest := []) (lenOf own_pd2 rfl) rfl (by show 2 * 0 + _ ≤ _; exact Nat.le_of_eq rfl) (hb hby at_159) (fun _ _ => ⟨rfl, eq19, (by decide : 1 + 0 ≤ _), (by decide : 5 + 0 ≤ _)⟩)
      dsimp only [Pt.U, Pt.locs, Pt.cells, Pt.slots] at X20 l20 y20 z20 st20 hQ20
      subst l20 y20 z20
      obtain ⟨rfl, Nq20, eq20⟩ := hQ20
      refine OE.of (fun _ k => st20 _ k) ?_
      have N20 := Fr.app N19 Nq20
      show OE _ p e below s _ _ _ T20 (mkF m 162 #[.val (.int p1), .val (.int p2), .val (.int p3), .val (.int p4), .val (.int p5), .val (.ref b1), .val (.int (0 : Int32)), .val (.int (1 : Int32)), .val (.int (1 : Int32)), .val (.long ((((((c0.toInt64) * (1 : Int64)) + (0 : Int64)) + (0 : Int64)) + (0 : Int64)) + (0 : Int64))), .second, .val (.int ((0 : Int32) + c0)), .val (.int (((0 : Int32) + c0) * (-1640531527 : Int32))), .unset] [(.int ((((0 : Int32) + c0) * (-1640531527 : Int32)) ^^^ (((((0 : Int32) + c0) * (-1640531527 : Int32)).toUInt32 >>> ((16 : Int32) &&& 31).toUInt32).toInt32)))])
      refine OE.istore X20 hx hby at_162 (l' := #[.val (.int p1), .val (.int p2), .val (.int p3), .val (.int p4), .val (.int p5), .val (.ref b1), .val (.int (0 : Int32)), .val (.int (1 : Int32)), .val (.int (1 : Int32)), .val (.long ((((((c0.toInt64) * (1 : Int64)) + (0 : Int64)) + (0 : Int64)) + (0 : Int64)) + (0 : Int64))), .second, .val (.int ((0 : Int32) + c0)), .val (.int (((0 : Int32) + c0) * (-1640531527 : Int32))), .val (.int ((((0 : Int32) + c0) * (-1640531527 : Int32)) ^^^ (((((0 : Int32) + c0) * (-1640531527 : Int32)).toUInt32 >>> ((16 : Int32) &&& 31).toUInt32).toInt32)))]) rfl ?_
      refine OE.iload X20 hx hby at_164 rfl ?_
      refine OE.bipush X20 hx hby at_166 (16 : Int32) rfl ?_
      refine OE.iushr X20 hx hby at_168 ?_
      refine OE.iload X20 hx hby at_169 rfl ?_
      refine OE.bipush X20 hx hby at_171 (16 : Int32) rfl ?_
      refine OE.iushr X20 hx hby at_173 ?_
      refine OE.icmpNo X20 hx hby at_174 (teq (own_top _ : ((((((0 : Int32) + c0) * (-1640531527 : Int32)) ^^^ (((((0 : Int32) + c0) * (-1640531527 : Int32)).toUInt32 >>> ((16 : Int32) &&& 31).toUInt32).toInt32)).toUInt32 >>> ((16 : Int32) &&& 31).toUInt32).toInt32) = (((((0 : Int32) + c0) * (-1640531527 : Int32)).toUInt32 >>> ((16 : Int32) &&& 31).toUInt32).toInt32))).2 ?_
      refine OE.iload X20 hx hby at_177 rfl ?_
      refine OE.of (X20.ldcInt hx hown (mvT hZ (hw _ (List.mem_of_getElem? (i := 1) rfl))) (g := (mkF m 179 #[.val (.int p1), .val (.int p2), .val (.int p3), .val (.int p4), .val (.int p5), .val (.ref b1), .val (.int (0 : Int32)), .val (.int (1 : Int32)), .val (.int (1 : Int32)), .val (.long ((((((c0.toInt64) * (1 : Int64)) + (0 : Int64)) + (0 : Int64)) + (0 : Int64)) + (0 : Int64))), .second, .val (.int ((0 : Int32) + c0)), .val (.int (((0 : Int32) + c0) * (-1640531527 : Int32))), .val (.int ((((0 : Int32) + c0) * (-1640531527 : Int32)) ^^^ (((((0 : Int32) + c0) * (-1640531527 : Int32)).toUInt32 >>> ((16 : Int32) &&& 31).toUInt32).toInt32)))] [(.int ((((0 : Int32) + c0) * (-1640531527 : Int32)) ^^^ (((((0 : Int32) + c0) * (-1640531527 : Int32)).toUInt32 >>> ((16 : Int32) &&& 31).toUInt32).toInt32)))])) rfl (hb hby at_179)) ?_
      show OE _ p e below s _ _ _ T20 (mkF m 181 #[.val (.int p1), .val (.int p2), .val (.int p3), .val (.int p4), .val (.int p5), .val (.ref b1), .val (.int (0 : Int32)), .val (.int (1 : Int32)), .val (.int (1 : Int32)), .val (.long ((((((c0.toInt64) * (1 : Int64)) + (0 : Int64)) + (0 : Int64)) + (0 : Int64)) + (0 : Int64))), .second, .val (.int ((0 : Int32) + c0)), .val (.int (((0 : Int32) + c0) * (-1640531527 : Int32))), .val (.int ((((0 : Int32) + c0) * (-1640531527 : Int32)) ^^^ (((((0 : Int32) + c0) * (-1640531527 : Int32)).toUInt32 >>> ((16 : Int32) &&& 31).toUInt32).toInt32)))] [(.int (65535 : Int32)), (.int ((((0 : Int32) + c0) * (-1640531527 : Int32)) ^^^ (((((0 : Int32) + c0) * (-1640531527 : Int32)).toUInt32 >>> ((16 : Int32) &&& 31).toUInt32).toInt32)))])
      refine OE.iand X20 hx hby at_181 ?_
      refine OE.iload X20 hx hby at_182 rfl ?_
      refine OE.iload X20 hx hby at_184 rfl ?_
      refine OE.bipush X20 hx hby at_186 (16 : Int32) rfl ?_
      refine OE.iushr X20 hx hby at_188 ?_
      refine OE.ixor X20 hx hby at_189 ?_
      refine OE.of (X20.ldcInt hx hown (mvT hZ (hw _ (List.mem_of_getElem? (i := 1) rfl))) (g := (mkF m 190 #[.val (.int p1), .val (.int p2), .val (.int p3), .val (.int p4), .val (.int p5), .val (.ref b1), .val (.int (0 : Int32)), .val (.int (1 : Int32)), .val (.int (1 : Int32)), .val (.long ((((((c0.toInt64) * (1 : Int64)) + (0 : Int64)) + (0 : Int64)) + (0 : Int64)) + (0 : Int64))), .second, .val (.int ((0 : Int32) + c0)), .val (.int (((0 : Int32) + c0) * (-1640531527 : Int32))), .val (.int ((((0 : Int32) + c0) * (-1640531527 : Int32)) ^^^ (((((0 : Int32) + c0) * (-1640531527 : Int32)).toUInt32 >>> ((16 : Int32) &&& 31).toUInt32).toInt32)))] [(.int ((((0 : Int32) + c0) * (-1640531527 : Int32)) ^^^ (((((0 : Int32) + c0) * (-1640531527 : Int32)).toUInt32 >>> ((16 : Int32) &&& 31).toUInt32).toInt32))), (.int (((((0 : Int32) + c0) * (-1640531527 : Int32)) ^^^ (((((0 : Int32) + c0) * (-1640531527 : Int32)).toUInt32 >>> ((16 : Int32) &&& 31).toUInt32).toInt32)) &&& (65535 : Int32)))])) rfl (hb hby at_190)) ?_
      show OE _ p e below s _ _ _ T20 (mkF m 192 #[.val (.int p1), .val (.int p2), .val (.int p3), .val (.int p4), .val (.int p5), .val (.ref b1), .val (.int (0 : Int32)), .val (.int (1 : Int32)), .val (.int (1 : Int32)), .val (.long ((((((c0.toInt64) * (1 : Int64)) + (0 : Int64)) + (0 : Int64)) + (0 : Int64)) + (0 : Int64))), .second, .val (.int ((0 : Int32) + c0)), .val (.int (((0 : Int32) + c0) * (-1640531527 : Int32))), .val (.int ((((0 : Int32) + c0) * (-1640531527 : Int32)) ^^^ (((((0 : Int32) + c0) * (-1640531527 : Int32)).toUInt32 >>> ((16 : Int32) &&& 31).toUInt32).toInt32)))] [(.int (65535 : Int32)), (.int ((((0 : Int32) + c0) * (-1640531527 : Int32)) ^^^ (((((0 : Int32) + c0) * (-1640531527 : Int32)).toUInt32 >>> ((16 : Int32) &&& 31).toUInt32).toInt32))), (.int (((((0 : Int32) + c0) * (-1640531527 : Int32)) ^^^ (((((0 : Int32) + c0) * (-1640531527 : Int32)).toUInt32 >>> ((16 : Int32) &&& 31).toUInt32).toInt32)) &&& (65535 : Int32)))])
      refine OE.iand X20 hx hby at_192 ?_
      refine OE.icmpNo X20 hx hby at_193 (teq (rfl : (((((0 : Int32) + c0) * (-1640531527 : Int32)) ^^^ (((((0 : Int32) + c0) * (-1640531527 : Int32)).toUInt32 >>> ((16 : Int32) &&& 31).toUInt32).toInt32)) &&& (65535 : Int32)) = (((((0 : Int32) + c0) * (-1640531527 : Int32)) ^^^ (((((0 : Int32) + c0) * (-1640531527 : Int32)).toUInt32 >>> ((16 : Int32) &&& 31).toUInt32).toInt32)) &&& (65535 : Int32)))).2 ?_
      refine OE.iconst X20 hx hby at_196 (1 : Int32) rfl ?_
      refine OE.goto X20 hx hby (pc' := 201) at_197 (h := ?_)
      refine OE.retN X20 hx (t := .boolean) Bd.returns (by simp) Bd.notSynchronized (hb hby at_201) (by decide) (by decide) ?_
      rw [eq20]
      exact ⟨rfl, N20⟩
    · rw [hm]
      show OE _ p e below s _ _ _ T6 (mkF m 72 #[.val (.int p1), .val (.int p2), .val (.int p3), .val (.int p4), .val (.int p5), .val (.ref b1), .val (.int (0 : Int32)), .unset, .unset, .unset, .unset, .unset, .unset, .unset] [(.int (2 : Int32)), (.int (0 : Int32))])
      refine OE.iadd X6 hx hby at_72 ?_
      rw [(by decide : ((0 : Int32) + (2 : Int32)) = (2 : Int32))]
      refine OE.istore X6 hx hby at_73 (l' := #[.val (.int p1), .val (.int p2), .val (.int p3), .val (.int p4), .val (.int p5), .val (.ref b1), .val (.int (0 : Int32)), .val (.int (2 : Int32)), .unset, .unset, .unset, .unset, .unset, .unset]) rfl ?_
      refine OE.iload X6 hx hby at_75 rfl ?_
      refine OE.iload X6 hx hby at_77 rfl ?_
      refine OE.isub X6 hx hby at_79 ?_
      rw [(by decide : ((2 : Int32) - (0 : Int32)) = (2 : Int32))]
      refine OE.istore X6 hx hby at_80 (l' := #[.val (.int p1), .val (.int p2), .val (.int p3), .val (.int p4), .val (.int p5), .val (.ref b1), .val (.int (0 : Int32)), .val (.int (2 : Int32)), .val (.int (2 : Int32)), .unset, .unset, .unset, .unset, .unset]) rfl ?_
      refine OE.aload X6 hx hby at_82 rfl rfl ?_
      refine OE.iload X6 hx hby at_84 rfl ?_
      refine OE.iload X6 hx hby at_86 rfl ?_
      refine OE.iconst X6 hx hby at_88 (0 : Int32) rfl ?_
      have z21 : n0 ≤ h6.size := (Nat.le_trans (Nat.le_trans (Nat.le_trans (Nat.le_trans (Nat.le_trans (Nat.le_trans Z0 E1.1) (Nat.le_of_eq W2.size.symm)) (Nat.le_of_eq W3.size.symm)) (Nat.le_of_eq W4.size.symm)) (Nat.le_of_eq W5.size.symm)) (Nat.le_of_eq W6.size.symm))
      obtain ⟨_, _, ⟨T22, L22, k22, n22⟩, -, X22, ⟨Lc22, hQ22, l22, y22, z22⟩, st22⟩ := Jvm.LawKit.callS X6 hx (y := (⟨"com/example/archerfish/archerfish/index/TokenTableHashPinLaw", "term", "([CIII)J"⟩ : MethodName)) hown (mvT hZ (hw _ (List.mem_of_getElem? (i := 3) rfl))) (mvT hZ (hw _ (List.mem_of_getElem? (i := 4) rfl))) (mvT hZ (hw _ (List.mem_of_getElem? (i := 5) rfl))) (mvT hZ (hw _ (List.mem_of_getElem? (i := 6) rfl))) (by decide) (backOf (W := 0) (own_rm1_2_0 l Z a0 hw [] b1 (0 : Int32) c0 k1 [(.int c0), (.int c1), (.int c2), (.int c3), (.int c4)] h6 n0 z21 Vc ⟨by decide, by decide⟩ rfl) hZ (hw _ (List.mem_of_getElem? (i := 6) rfl)) (hw _ (List.mem_of_getElem? (i := 5) rfl)) (by decide) (by decide)) (g := (mkF m 89 #[.val (.int p1), .val (.int p2), .val (.int p3), .val (.int p4), .val (.int p5), .val (.ref b1), .val (.int (0 : Int32)), .val (.int (2 : Int32)), .val (.int (2 : Int32)), .unset, .unset, .unset, .unset, .unset] [(.int (0 : Int32)), (.int (2 : Int32)), (.int (0 : Int32)), (.ref b1)])) rfl (by rw [hml]; rfl) (argsL := [(.ref b1), (.int (0 : Int32)), (.int (2 : Int32)), (.int (0 : Int32))]) (rest := []) (lenOf own_pd1 rfl) rfl (by show 2 * 0 + _ ≤ _; exact Nat.le_of_eq rfl) (hb hby at_89) (fun _ _ => ⟨rfl, e6, (by decide : 1 + 0 ≤ _), (by decide : 5 + 0 ≤ _)⟩)
      dsimp only [Pt.U, Pt.locs, Pt.cells, Pt.slots] at X22 l22 y22 z22 st22 hQ22
      subst l22 y22 z22
      obtain ⟨rfl, Nq22, eq22⟩ := hQ22
      refine OE.of (fun _ k => st22 _ k) ?_
      have N22 := Fr.app N6 Nq22
      show OE _ p e below s _ _ _ T22 (mkF m 92 #[.val (.int p1), .val (.int p2), .val (.int p3), .val (.int p4), .val (.int p5), .val (.ref b1), .val (.int (0 : Int32)), .val (.int (2 : Int32)), .val (.int (2 : Int32)), .unset, .unset, .unset, .unset, .unset] [(.long ((c0.toInt64) * (31 : Int64)))])
      refine OE.aload X22 hx hby at_92 rfl rfl ?_
      refine OE.iload X22 hx hby at_94 rfl ?_
      refine OE.iload X22 hx hby at_96 rfl ?_
      refine OE.iconst X22 hx hby at_98 (1 : Int32) rfl ?_
      obtain ⟨_, _, ⟨T23, L23, k23, n23⟩, -, X23, ⟨Lc23, hQ23, l23, y23, z23⟩, st23⟩ := Jvm.LawKit.callS X22 hx (y := (⟨"com/example/archerfish/archerfish/index/TokenTableHashPinLaw", "term", "([CIII)J"⟩ : MethodName)) hown (mvT hZ (hw _ (List.mem_of_getElem? (i := 3) rfl))) (mvT hZ (hw _ (List.mem_of_getElem? (i := 4) rfl))) (mvT hZ (hw _ (List.mem_of_getElem? (i := 5) rfl))) (mvT hZ (hw _ (List.mem_of_getElem? (i := 6) rfl))) (by decide) (backOf (W := 2) (own_rm1_2_1 l Z a0 hw [] b1 (0 : Int32) c1 k1 [(.int c0), (.int c1), (.int c2), (.int c3), (.int c4)] h6 n0 z21 Vc ⟨by decide, by decide⟩ rfl) hZ (hw _ (List.mem_of_getElem? (i := 6) rfl)) (hw _ (List.mem_of_getElem? (i := 5) rfl)) (by decide) (by decide)) (g := (mkF m 99 #[.val (.int p1), .val (.int p2), .val (.int p3), .val (.int p4), .val (.int p5), .val (.ref b1), .val (.int (0 : Int32)), .val (.int (2 : Int32)), .val (.int (2 : Int32)), .unset, .unset, .unset, .unset, .unset] [(.int (1 : Int32)), (.int (2 : Int32)), (.int (0 : Int32)), (.ref b1), (.long ((c0.toInt64) * (31 : Int64)))])) rfl (by rw [hml]; rfl) (argsL := [(.ref b1), (.int (0 : Int32)), (.int (2 : Int32)), (.int (1 : Int32))]) (rest := [(.long ((c0.toInt64) * (31 : Int64)))]) (lenOf own_pd1 rfl) rfl (by show 2 * 0 + _ ≤ _; exact Nat.le_of_eq rfl) (hb hby at_99) (fun _ _ => ⟨rfl, eq22, (by decide : 1 + 0 ≤ _), (by decide : 5 + 0 ≤ _)⟩)
      dsimp only [Pt.U, Pt.locs, Pt.cells, Pt.slots] at X23 l23 y23 z23 st23 hQ23
      subst l23 y23 z23
      obtain ⟨rfl, Nq23, eq23⟩ := hQ23
      refine OE.of (fun _ k => st23 _ k) ?_
      have N23 := Fr.app N22 Nq23
      show OE _ p e below s _ _ _ T23 (mkF m 102 #[.val (.int p1), .val (.int p2), .val (.int p3), .val (.int p4), .val (.int p5), .val (.ref b1), .val (.int (0 : Int32)), .val (.int (2 : Int32)), .val (.int (2 : Int32)), .unset, .unset, .unset, .unset, .unset] [(.long ((c1.toInt64) * (1 : Int64))), (.long ((c0.toInt64) * (31 : Int64)))])
      refine OE.ladd X23 hx hby at_102 ?_
      refine OE.aload X23 hx hby at_103 rfl rfl ?_
      refine OE.iload X23 hx hby at_105 rfl ?_
      refine OE.iload X23 hx hby at_107 rfl ?_
      refine OE.iconst X23 hx hby at_109 (2 : Int32) rfl ?_
      obtain ⟨_, _, ⟨T24, L24, k24, n24⟩, -, X24, ⟨Lc24, hQ24, l24, y24, z24⟩, st24⟩ := Jvm.LawKit.callS X23 hx (y := (⟨"com/example/archerfish/archerfish/index/TokenTableHashPinLaw", "term", "([CIII)J"⟩ : MethodName)) hown (mvT hZ (hw _ (List.mem_of_getElem? (i := 3) rfl))) (mvT hZ (hw _ (List.mem_of_getElem? (i := 4) rfl))) (mvT hZ (hw _ (List.mem_of_getElem? (i := 5) rfl))) (mvT hZ (hw _ (List.mem_of_getElem? (i := 6) rfl))) (by decide) (backOf (W := 2) (own_rm1_o l Z a0 hw [] b1 (0 : Int32) (2 : Int32) (2 : Int32) h6 n0 z21 (by decide)) hZ (hw _ (List.mem_of_getElem? (i := 6) rfl)) (hw _ (List.mem_of_getElem? (i := 5) rfl)) (by decide) (by decide)) (g := (mkF m 110 #[.val (.int p1), .val (.int p2), .val (.int p3), .val (.int p4), .val (.int p5), .val (.ref b1), .val (.int (0 : Int32)), .val (.int (2 : Int32)), .val (.int (2 : Int32)), .unset, .unset, .unset, .unset, .unset] [(.int (2 : Int32)), (.int (2 : Int32)), (.int (0 : Int32)), (.ref b1), (.long (((c0.toInt64) * (31 : Int64)) + ((c1.toInt64) * (1 : Int64))))])) rfl (by rw [hml]; rfl) (argsL := [(.ref b1), (.int (0 : Int32)), (.int (2 : Int32)), (.int (2 : Int32))]) (rest := [(.long (((c0.toInt64) * (31 : Int64)) + ((c1.toInt64) * (1 : Int64))))]) (lenOf own_pd1 rfl) rfl (by show 2 * 0 + _ ≤ _; exact Nat.le_of_eq rfl) (hb hby at_110) (fun _ _ => ⟨rfl, eq23, (by decide : 1 + 0 ≤ _), (by decide : 5 + 0 ≤ _)⟩)
      dsimp only [Pt.U, Pt.locs, Pt.cells, Pt.slots] at X24 l24 y24 z24 st24 hQ24
      subst l24 y24 z24
      obtain ⟨rfl, Nq24, eq24⟩ := hQ24
      refine OE.of (fun _ k => st24 _ k) ?_
      have N24 := Fr.app N23 Nq24
      show OE _ p e below s _ _ _ T24 (mkF m 113 #[.val (.int p1), .val (.int p2), .val (.int p3), .val (.int p4), .val (.int p5), .val (.ref b1), .val (.int (0 : Int32)), .val (.int (2 : Int32)), .val (.int (2 : Int32)), .unset, .unset, .unset, .unset, .unset] [(.long (0 : Int64)), (.long (((c0.toInt64) * (31 : Int64)) + ((c1.toInt64) * (1 : Int64))))])
      refine OE.ladd X24 hx hby at_113 ?_
      refine OE.aload X24 hx hby at_114 rfl rfl ?_
      refine OE.iload X24 hx hby at_116 rfl ?_
      refine OE.iload X24 hx hby at_118 rfl ?_
      refine OE.iconst X24 hx hby at_120 (3 : Int32) rfl ?_
      obtain ⟨_, _, ⟨T25, L25, k25, n25⟩, -, X25, ⟨Lc25, hQ25, l25, y25, z25⟩, st25⟩ := Jvm.LawKit.callS X24 hx (y := (⟨"com/example/archerfish/archerfish/index/TokenTableHashPinLaw", "term", "([CIII)J"⟩ : MethodName)) hown (mvT hZ (hw _ (List.mem_of_getElem? (i := 3) rfl))) (mvT hZ (hw _ (List.mem_of_getElem? (i := 4) rfl))) (mvT hZ (hw _ (List.mem_of_getElem? (i := 5) rfl))) (mvT hZ (hw _ (List.mem_of_getElem? (i := 6) rfl))) (by decide) (backOf (W := 2) (own_rm1_o l Z a0 hw [] b1 (0 : Int32) (2 : Int32) (3 : Int32) h6 n0 z21 (by decide)) hZ (hw _ (List.mem_of_getElem? (i := 6) rfl)) (hw _ (List.mem_of_getElem? (i := 5) rfl)) (by decide) (by decide)) (g := (mkF m 121 #[.val (.int p1), .val (.int p2), .val (.int p3), .val (.int p4), .val (.int p5), .val (.ref b1), .val (.int (0 : Int32)), .val (.int (2 : Int32)), .val (.int (2 : Int32)), .unset, .unset, .unset, .unset, .unset] [(.int (3 : Int32)), (.int (2 : Int32)), (.int (0 : Int32)), (.ref b1), (.long ((((c0.toInt64) * (31 : Int64)) + ((c1.toInt64) * (1 : Int64))) + (0 : Int64)))])) rfl (by rw [hml]; rfl) (argsL := [(.ref b1), (.int (0 : Int32)), (.int (2 : Int32)), (.int (3 : Int32))]) (rest := [(.long ((((c0.toInt64) * (31 : Int64)) + ((c1.toInt64) * (1 : Int64))) + (0 : Int64)))]) (lenOf own_pd1 rfl) rfl (by show 2 * 0 + _ ≤ _; exact Nat.le_of_eq rfl) (hb hby at_121) (fun _ _ => ⟨rfl, eq24, (by decide : 1 + 0 ≤ _), (by decide : 5 + 0 ≤ _)⟩)
      dsimp only [Pt.U, Pt.locs, Pt.cells, Pt.slots] at X25 l25 y25 z25 st25 hQ25
      subst l25 y25 z25
      obtain ⟨rfl, Nq25, eq25⟩ := hQ25
      refine OE.of (fun _ k => st25 _ k) ?_
      have N25 := Fr.app N24 Nq25
      show OE _ p e below s _ _ _ T25 (mkF m 124 #[.val (.int p1), .val (.int p2), .val (.int p3), .val (.int p4), .val (.int p5), .val (.ref b1), .val (.int (0 : Int32)), .val (.int (2 : Int32)), .val (.int (2 : Int32)), .unset, .unset, .unset, .unset, .unset] [(.long (0 : Int64)), (.long ((((c0.toInt64) * (31 : Int64)) + ((c1.toInt64) * (1 : Int64))) + (0 : Int64)))])
      refine OE.ladd X25 hx hby at_124 ?_
      refine OE.aload X25 hx hby at_125 rfl rfl ?_
      refine OE.iload X25 hx hby at_127 rfl ?_
      refine OE.iload X25 hx hby at_129 rfl ?_
      refine OE.iconst X25 hx hby at_131 (4 : Int32) rfl ?_
      obtain ⟨_, _, ⟨T26, L26, k26, n26⟩, -, X26, ⟨Lc26, hQ26, l26, y26, z26⟩, st26⟩ := Jvm.LawKit.callS X25 hx (y := (⟨"com/example/archerfish/archerfish/index/TokenTableHashPinLaw", "term", "([CIII)J"⟩ : MethodName)) hown (mvT hZ (hw _ (List.mem_of_getElem? (i := 3) rfl))) (mvT hZ (hw _ (List.mem_of_getElem? (i := 4) rfl))) (mvT hZ (hw _ (List.mem_of_getElem? (i := 5) rfl))) (mvT hZ (hw _ (List.mem_of_getElem? (i := 6) rfl))) (by decide) (backOf (W := 2) (own_rm1_o l Z a0 hw [] b1 (0 : Int32) (2 : Int32) (4 : Int32) h6 n0 z21 (by decide)) hZ (hw _ (List.mem_of_getElem? (i := 6) rfl)) (hw _ (List.mem_of_getElem? (i := 5) rfl)) (by decide) (by decide)) (g := (mkF m 132 #[.val (.int p1), .val (.int p2), .val (.int p3), .val (.int p4), .val (.int p5), .val (.ref b1), .val (.int (0 : Int32)), .val (.int (2 : Int32)), .val (.int (2 : Int32)), .unset, .unset, .unset, .unset, .unset] [(.int (4 : Int32)), (.int (2 : Int32)), (.int (0 : Int32)), (.ref b1), (.long (((((c0.toInt64) * (31 : Int64)) + ((c1.toInt64) * (1 : Int64))) + (0 : Int64)) + (0 : Int64)))])) rfl (by rw [hml]; rfl) (argsL := [(.ref b1), (.int (0 : Int32)), (.int (2 : Int32)), (.int (4 : Int32))]) (rest := [(.long (((((c0.toInt64) * (31 : Int64)) + ((c1.toInt64) * (1 : Int64))) + (0 : Int64)) + (0 : Int64)))]) (lenOf own_pd1 rfl) rfl (by show 2 * 0 + _ ≤ _; exact Nat.le_of_eq rfl) (hb hby at_132) (fun _ _ => ⟨rfl, eq25, (by decide : 1 + 0 ≤ _), (by decide : 5 + 0 ≤ _)⟩)
      dsimp only [Pt.U, Pt.locs, Pt.cells, Pt.slots] at X26 l26 y26 z26 st26 hQ26
      subst l26 y26 z26
      obtain ⟨rfl, Nq26, eq26⟩ := hQ26
      refine OE.of (fun _ k => st26 _ k) ?_
      have N26 := Fr.app N25 Nq26
      show OE _ p e below s _ _ _ T26 (mkF m 135 #[.val (.int p1), .val (.int p2), .val (.int p3), .val (.int p4), .val (.int p5), .val (.ref b1), .val (.int (0 : Int32)), .val (.int (2 : Int32)), .val (.int (2 : Int32)), .unset, .unset, .unset, .unset, .unset] [(.long (0 : Int64)), (.long (((((c0.toInt64) * (31 : Int64)) + ((c1.toInt64) * (1 : Int64))) + (0 : Int64)) + (0 : Int64)))])
      refine OE.ladd X26 hx hby at_135 ?_
      refine OE.lstore X26 hx hby at_136 (l' := #[.val (.int p1), .val (.int p2), .val (.int p3), .val (.int p4), .val (.int p5), .val (.ref b1), .val (.int (0 : Int32)), .val (.int (2 : Int32)), .val (.int (2 : Int32)), .val (.long ((((((c0.toInt64) * (31 : Int64)) + ((c1.toInt64) * (1 : Int64))) + (0 : Int64)) + (0 : Int64)) + (0 : Int64))), .second, .unset, .unset, .unset]) rfl ?_
      refine OE.lload X26 hx hby at_138 rfl ?_
      refine OE.l2i X26 hx hby at_140 ?_
      rw [(own_poly2 c0 c1 : (((((((c0.toInt64) * (31 : Int64)) + ((c1.toInt64) * (1 : Int64))) + (0 : Int64)) + (0 : Int64)) + (0 : Int64)).toInt32) = (((31 : Int32) * ((0 : Int32) + c0)) + c1))]
      show OE _ p e below s _ _ _ T26 (mkF m 141 #[.val (.int p1), .val (.int p2), .val (.int p3), .val (.int p4), .val (.int p5), .val (.ref b1), .val (.int (0 : Int32)), .val (.int (2 : Int32)), .val (.int (2 : Int32)), .val (.long ((((((c0.toInt64) * (31 : Int64)) + ((c1.toInt64) * (1 : Int64))) + (0 : Int64)) + (0 : Int64)) + (0 : Int64))), .second, .unset, .unset, .unset] [(.int (((31 : Int32) * ((0 : Int32) + c0)) + c1))])
      refine OE.istore X26 hx hby at_141 (l' := #[.val (.int p1), .val (.int p2), .val (.int p3), .val (.int p4), .val (.int p5), .val (.ref b1), .val (.int (0 : Int32)), .val (.int (2 : Int32)), .val (.int (2 : Int32)), .val (.long ((((((c0.toInt64) * (31 : Int64)) + ((c1.toInt64) * (1 : Int64))) + (0 : Int64)) + (0 : Int64)) + (0 : Int64))), .second, .val (.int (((31 : Int32) * ((0 : Int32) + c0)) + c1)), .unset, .unset]) rfl ?_
      refine OE.iload X26 hx hby at_143 rfl ?_
      refine OE.i2l X26 hx hby at_145 ?_
      refine OE.of (X26.ldc2Long hx hown (mvT hZ (hw _ (List.mem_of_getElem? (i := 7) rfl))) (g := (mkF m 146 #[.val (.int p1), .val (.int p2), .val (.int p3), .val (.int p4), .val (.int p5), .val (.ref b1), .val (.int (0 : Int32)), .val (.int (2 : Int32)), .val (.int (2 : Int32)), .val (.long ((((((c0.toInt64) * (31 : Int64)) + ((c1.toInt64) * (1 : Int64))) + (0 : Int64)) + (0 : Int64)) + (0 : Int64))), .second, .val (.int (((31 : Int32) * ((0 : Int32) + c0)) + c1)), .unset, .unset] [(.long ((((31 : Int32) * ((0 : Int32) + c0)) + c1).toInt64))])) rfl (hb hby at_146)) ?_
      show OE _ p e below s _ _ _ T26 (mkF m 149 #[.val (.int p1), .val (.int p2), .val (.int p3), .val (.int p4), .val (.int p5), .val (.ref b1), .val (.int (0 : Int32)), .val (.int (2 : Int32)), .val (.int (2 : Int32)), .val (.long ((((((c0.toInt64) * (31 : Int64)) + ((c1.toInt64) * (1 : Int64))) + (0 : Int64)) + (0 : Int64)) + (0 : Int64))), .second, .val (.int (((31 : Int32) * ((0 : Int32) + c0)) + c1)), .unset, .unset] [(.long (2654435769 : Int64)), (.long ((((31 : Int32) * ((0 : Int32) + c0)) + c1).toInt64))])
      refine OE.lmul X26 hx hby at_149 ?_
      refine OE.l2i X26 hx hby at_150 ?_
      rw [(own_mul _ : ((((((31 : Int32) * ((0 : Int32) + c0)) + c1).toInt64) * (2654435769 : Int64)).toInt32) = ((((31 : Int32) * ((0 : Int32) + c0)) + c1) * (-1640531527 : Int32)))]
      show OE _ p e below s _ _ _ T26 (mkF m 151 #[.val (.int p1), .val (.int p2), .val (.int p3), .val (.int p4), .val (.int p5), .val (.ref b1), .val (.int (0 : Int32)), .val (.int (2 : Int32)), .val (.int (2 : Int32)), .val (.long ((((((c0.toInt64) * (31 : Int64)) + ((c1.toInt64) * (1 : Int64))) + (0 : Int64)) + (0 : Int64)) + (0 : Int64))), .second, .val (.int (((31 : Int32) * ((0 : Int32) + c0)) + c1)), .unset, .unset] [(.int ((((31 : Int32) * ((0 : Int32) + c0)) + c1) * (-1640531527 : Int32)))])
      refine OE.istore X26 hx hby at_151 (l' := #[.val (.int p1), .val (.int p2), .val (.int p3), .val (.int p4), .val (.int p5), .val (.ref b1), .val (.int (0 : Int32)), .val (.int (2 : Int32)), .val (.int (2 : Int32)), .val (.long ((((((c0.toInt64) * (31 : Int64)) + ((c1.toInt64) * (1 : Int64))) + (0 : Int64)) + (0 : Int64)) + (0 : Int64))), .second, .val (.int (((31 : Int32) * ((0 : Int32) + c0)) + c1)), .val (.int ((((31 : Int32) * ((0 : Int32) + c0)) + c1) * (-1640531527 : Int32))), .unset]) rfl ?_
      refine OE.aload X26 hx hby at_153 rfl rfl ?_
      refine OE.iload X26 hx hby at_155 rfl ?_
      refine OE.iload X26 hx hby at_157 rfl ?_
      obtain ⟨_, _, ⟨T27, L27, k27, n27⟩, -, X27, ⟨Lc27, hQ27, l27, y27, z27⟩, st27⟩ := Jvm.LawKit.callS X26 hx (y := (⟨"com/example/archerfish/archerfish/index/TokenTable", "hash", "([CII)I"⟩ : MethodName)) hown (mvT hZ (hw _ (List.mem_of_getElem? (i := 8) rfl))) (mvT hZ (hw _ (List.mem_of_getElem? (i := 9) rfl))) (mvT hZ (hw _ (List.mem_of_getElem? (i := 10) rfl))) (mvT hZ (hw _ (List.mem_of_getElem? (i := 11) rfl))) (by decide) (backOf (W := 0) (own_rm2_0_2 l Z a0 hw [] b1 c0 c1 c2 c3 c4 k1 h6 n0 z21 Vc) hZ (hw _ (List.mem_of_getElem? (i := 11) rfl)) (hw _ (List.mem_of_getElem? (i := 10) rfl)) (by decide) (by decide)) (g := (mkF m 159 #[.val (.int p1), .val (.int p2), .val (.int p3), .val (.int p4), .val (.int p5), .val (.ref b1), .val (.int (0 : Int32)), .val (.int (2 : Int32)), .val (.int (2 : Int32)), .val (.long ((((((c0.toInt64) * (31 : Int64)) + ((c1.toInt64) * (1 : Int64))) + (0 : Int64)) + (0 : Int64)) + (0 : Int64))), .second, .val (.int (((31 : Int32) * ((0 : Int32) + c0)) + c1)), .val (.int ((((31 : Int32) * ((0 : Int32) + c0)) + c1) * (-1640531527 : Int32))), .unset] [(.int (2 : Int32)), (.int (0 : Int32)), (.ref b1)])) rfl (by rw [hml]; rfl) (argsL := [(.ref b1), (.int (0 : Int32)), (.int (2 : Int32))]) (rest := []) (lenOf own_pd2 rfl) rfl (by show 2 * 0 + _ ≤ _; exact Nat.le_of_eq rfl) (hb hby at_159) (fun _ _ => ⟨rfl, eq26, (by decide : 1 + 0 ≤ _), (by decide : 5 + 0 ≤ _)⟩)
      dsimp only [Pt.U, Pt.locs, Pt.cells, Pt.slots] at X27 l27 y27 z27 st27 hQ27
      subst l27 y27 z27
      obtain ⟨rfl, Nq27, eq27⟩ := hQ27
      refine OE.of (fun _ k => st27 _ k) ?_
      have N27 := Fr.app N26 Nq27
      show OE _ p e below s _ _ _ T27 (mkF m 162 #[.val (.int p1), .val (.int p2), .val (.int p3), .val (.int p4), .val (.int p5), .val (.ref b1), .val (.int (0 : Int32)), .val (.int (2 : Int32)), .val (.int (2 : Int32)), .val (.long ((((((c0.toInt64) * (31 : Int64)) + ((c1.toInt64) * (1 : Int64))) + (0 : Int64)) + (0 : Int64)) + (0 : Int64))), .second, .val (.int (((31 : Int32) * ((0 : Int32) + c0)) + c1)), .val (.int ((((31 : Int32) * ((0 : Int32) + c0)) + c1) * (-1640531527 : Int32))), .unset] [(.int (((((31 : Int32) * ((0 : Int32) + c0)) + c1) * (-1640531527 : Int32)) ^^^ ((((((31 : Int32) * ((0 : Int32) + c0)) + c1) * (-1640531527 : Int32)).toUInt32 >>> ((16 : Int32) &&& 31).toUInt32).toInt32)))])
      refine OE.istore X27 hx hby at_162 (l' := #[.val (.int p1), .val (.int p2), .val (.int p3), .val (.int p4), .val (.int p5), .val (.ref b1), .val (.int (0 : Int32)), .val (.int (2 : Int32)), .val (.int (2 : Int32)), .val (.long ((((((c0.toInt64) * (31 : Int64)) + ((c1.toInt64) * (1 : Int64))) + (0 : Int64)) + (0 : Int64)) + (0 : Int64))), .second, .val (.int (((31 : Int32) * ((0 : Int32) + c0)) + c1)), .val (.int ((((31 : Int32) * ((0 : Int32) + c0)) + c1) * (-1640531527 : Int32))), .val (.int (((((31 : Int32) * ((0 : Int32) + c0)) + c1) * (-1640531527 : Int32)) ^^^ ((((((31 : Int32) * ((0 : Int32) + c0)) + c1) * (-1640531527 : Int32)).toUInt32 >>> ((16 : Int32) &&& 31).toUInt32).toInt32)))]) rfl ?_
      refine OE.iload X27 hx hby at_164 rfl ?_
      refine OE.bipush X27 hx hby at_166 (16 : Int32) rfl ?_
      refine OE.iushr X27 hx hby at_168 ?_
      refine OE.iload X27 hx hby at_169 rfl ?_
      refine OE.bipush X27 hx hby at_171 (16 : Int32) rfl ?_
      refine OE.iushr X27 hx hby at_173 ?_
      refine OE.icmpNo X27 hx hby at_174 (teq (own_top _ : (((((((31 : Int32) * ((0 : Int32) + c0)) + c1) * (-1640531527 : Int32)) ^^^ ((((((31 : Int32) * ((0 : Int32) + c0)) + c1) * (-1640531527 : Int32)).toUInt32 >>> ((16 : Int32) &&& 31).toUInt32).toInt32)).toUInt32 >>> ((16 : Int32) &&& 31).toUInt32).toInt32) = ((((((31 : Int32) * ((0 : Int32) + c0)) + c1) * (-1640531527 : Int32)).toUInt32 >>> ((16 : Int32) &&& 31).toUInt32).toInt32))).2 ?_
      refine OE.iload X27 hx hby at_177 rfl ?_
      refine OE.of (X27.ldcInt hx hown (mvT hZ (hw _ (List.mem_of_getElem? (i := 1) rfl))) (g := (mkF m 179 #[.val (.int p1), .val (.int p2), .val (.int p3), .val (.int p4), .val (.int p5), .val (.ref b1), .val (.int (0 : Int32)), .val (.int (2 : Int32)), .val (.int (2 : Int32)), .val (.long ((((((c0.toInt64) * (31 : Int64)) + ((c1.toInt64) * (1 : Int64))) + (0 : Int64)) + (0 : Int64)) + (0 : Int64))), .second, .val (.int (((31 : Int32) * ((0 : Int32) + c0)) + c1)), .val (.int ((((31 : Int32) * ((0 : Int32) + c0)) + c1) * (-1640531527 : Int32))), .val (.int (((((31 : Int32) * ((0 : Int32) + c0)) + c1) * (-1640531527 : Int32)) ^^^ ((((((31 : Int32) * ((0 : Int32) + c0)) + c1) * (-1640531527 : Int32)).toUInt32 >>> ((16 : Int32) &&& 31).toUInt32).toInt32)))] [(.int (((((31 : Int32) * ((0 : Int32) + c0)) + c1) * (-1640531527 : Int32)) ^^^ ((((((31 : Int32) * ((0 : Int32) + c0)) + c1) * (-1640531527 : Int32)).toUInt32 >>> ((16 : Int32) &&& 31).toUInt32).toInt32)))])) rfl (hb hby at_179)) ?_
      show OE _ p e below s _ _ _ T27 (mkF m 181 #[.val (.int p1), .val (.int p2), .val (.int p3), .val (.int p4), .val (.int p5), .val (.ref b1), .val (.int (0 : Int32)), .val (.int (2 : Int32)), .val (.int (2 : Int32)), .val (.long ((((((c0.toInt64) * (31 : Int64)) + ((c1.toInt64) * (1 : Int64))) + (0 : Int64)) + (0 : Int64)) + (0 : Int64))), .second, .val (.int (((31 : Int32) * ((0 : Int32) + c0)) + c1)), .val (.int ((((31 : Int32) * ((0 : Int32) + c0)) + c1) * (-1640531527 : Int32))), .val (.int (((((31 : Int32) * ((0 : Int32) + c0)) + c1) * (-1640531527 : Int32)) ^^^ ((((((31 : Int32) * ((0 : Int32) + c0)) + c1) * (-1640531527 : Int32)).toUInt32 >>> ((16 : Int32) &&& 31).toUInt32).toInt32)))] [(.int (65535 : Int32)), (.int (((((31 : Int32) * ((0 : Int32) + c0)) + c1) * (-1640531527 : Int32)) ^^^ ((((((31 : Int32) * ((0 : Int32) + c0)) + c1) * (-1640531527 : Int32)).toUInt32 >>> ((16 : Int32) &&& 31).toUInt32).toInt32)))])
      refine OE.iand X27 hx hby at_181 ?_
      refine OE.iload X27 hx hby at_182 rfl ?_
      refine OE.iload X27 hx hby at_184 rfl ?_
      refine OE.bipush X27 hx hby at_186 (16 : Int32) rfl ?_
      refine OE.iushr X27 hx hby at_188 ?_
      refine OE.ixor X27 hx hby at_189 ?_
      refine OE.of (X27.ldcInt hx hown (mvT hZ (hw _ (List.mem_of_getElem? (i := 1) rfl))) (g := (mkF m 190 #[.val (.int p1), .val (.int p2), .val (.int p3), .val (.int p4), .val (.int p5), .val (.ref b1), .val (.int (0 : Int32)), .val (.int (2 : Int32)), .val (.int (2 : Int32)), .val (.long ((((((c0.toInt64) * (31 : Int64)) + ((c1.toInt64) * (1 : Int64))) + (0 : Int64)) + (0 : Int64)) + (0 : Int64))), .second, .val (.int (((31 : Int32) * ((0 : Int32) + c0)) + c1)), .val (.int ((((31 : Int32) * ((0 : Int32) + c0)) + c1) * (-1640531527 : Int32))), .val (.int (((((31 : Int32) * ((0 : Int32) + c0)) + c1) * (-1640531527 : Int32)) ^^^ ((((((31 : Int32) * ((0 : Int32) + c0)) + c1) * (-1640531527 : Int32)).toUInt32 >>> ((16 : Int32) &&& 31).toUInt32).toInt32)))] [(.int (((((31 : Int32) * ((0 : Int32) + c0)) + c1) * (-1640531527 : Int32)) ^^^ ((((((31 : Int32) * ((0 : Int32) + c0)) + c1) * (-1640531527 : Int32)).toUInt32 >>> ((16 : Int32) &&& 31).toUInt32).toInt32))), (.int ((((((31 : Int32) * ((0 : Int32) + c0)) + c1) * (-1640531527 : Int32)) ^^^ ((((((31 : Int32) * ((0 : Int32) + c0)) + c1) * (-1640531527 : Int32)).toUInt32 >>> ((16 : Int32) &&& 31).toUInt32).toInt32)) &&& (65535 : Int32)))])) rfl (hb hby at_190)) ?_
      show OE _ p e below s _ _ _ T27 (mkF m 192 #[.val (.int p1), .val (.int p2), .val (.int p3), .val (.int p4), .val (.int p5), .val (.ref b1), .val (.int (0 : Int32)), .val (.int (2 : Int32)), .val (.int (2 : Int32)), .val (.long ((((((c0.toInt64) * (31 : Int64)) + ((c1.toInt64) * (1 : Int64))) + (0 : Int64)) + (0 : Int64)) + (0 : Int64))), .second, .val (.int (((31 : Int32) * ((0 : Int32) + c0)) + c1)), .val (.int ((((31 : Int32) * ((0 : Int32) + c0)) + c1) * (-1640531527 : Int32))), .val (.int (((((31 : Int32) * ((0 : Int32) + c0)) + c1) * (-1640531527 : Int32)) ^^^ ((((((31 : Int32) * ((0 : Int32) + c0)) + c1) * (-1640531527 : Int32)).toUInt32 >>> ((16 : Int32) &&& 31).toUInt32).toInt32)))] [(.int (65535 : Int32)), (.int (((((31 : Int32) * ((0 : Int32) + c0)) + c1) * (-1640531527 : Int32)) ^^^ ((((((31 : Int32) * ((0 : Int32) + c0)) + c1) * (-1640531527 : Int32)).toUInt32 >>> ((16 : Int32) &&& 31).toUInt32).toInt32))), (.int ((((((31 : Int32) * ((0 : Int32) + c0)) + c1) * (-1640531527 : Int32)) ^^^ ((((((31 : Int32) * ((0 : Int32) + c0)) + c1) * (-1640531527 : Int32)).toUInt32 >>> ((16 : Int32) &&& 31).toUInt32).toInt32)) &&& (65535 : Int32)))])
      refine OE.iand X27 hx hby at_192 ?_
      refine OE.icmpNo X27 hx hby at_193 (teq (rfl : ((((((31 : Int32) * ((0 : Int32) + c0)) + c1) * (-1640531527 : Int32)) ^^^ ((((((31 : Int32) * ((0 : Int32) + c0)) + c1) * (-1640531527 : Int32)).toUInt32 >>> ((16 : Int32) &&& 31).toUInt32).toInt32)) &&& (65535 : Int32)) = ((((((31 : Int32) * ((0 : Int32) + c0)) + c1) * (-1640531527 : Int32)) ^^^ ((((((31 : Int32) * ((0 : Int32) + c0)) + c1) * (-1640531527 : Int32)).toUInt32 >>> ((16 : Int32) &&& 31).toUInt32).toInt32)) &&& (65535 : Int32)))).2 ?_
      refine OE.iconst X27 hx hby at_196 (1 : Int32) rfl ?_
      refine OE.goto X27 hx hby (pc' := 201) at_197 (h := ?_)
      refine OE.retN X27 hx (t := .boolean) Bd.returns (by simp) Bd.notSynchronized (hb hby at_201) (by decide) (by decide) ?_
      rw [eq27]
      exact ⟨rfl, N27⟩
    · rw [hm]
      show OE _ p e below s _ _ _ T6 (mkF m 72 #[.val (.int p1), .val (.int p2), .val (.int p3), .val (.int p4), .val (.int p5), .val (.ref b1), .val (.int (0 : Int32)), .unset, .unset, .unset, .unset, .unset, .unset, .unset] [(.int (3 : Int32)), (.int (0 : Int32))])
      refine OE.iadd X6 hx hby at_72 ?_
      rw [(by decide : ((0 : Int32) + (3 : Int32)) = (3 : Int32))]
      refine OE.istore X6 hx hby at_73 (l' := #[.val (.int p1), .val (.int p2), .val (.int p3), .val (.int p4), .val (.int p5), .val (.ref b1), .val (.int (0 : Int32)), .val (.int (3 : Int32)), .unset, .unset, .unset, .unset, .unset, .unset]) rfl ?_
      refine OE.iload X6 hx hby at_75 rfl ?_
      refine OE.iload X6 hx hby at_77 rfl ?_
      refine OE.isub X6 hx hby at_79 ?_
      rw [(by decide : ((3 : Int32) - (0 : Int32)) = (3 : Int32))]
      refine OE.istore X6 hx hby at_80 (l' := #[.val (.int p1), .val (.int p2), .val (.int p3), .val (.int p4), .val (.int p5), .val (.ref b1), .val (.int (0 : Int32)), .val (.int (3 : Int32)), .val (.int (3 : Int32)), .unset, .unset, .unset, .unset, .unset]) rfl ?_
      refine OE.aload X6 hx hby at_82 rfl rfl ?_
      refine OE.iload X6 hx hby at_84 rfl ?_
      refine OE.iload X6 hx hby at_86 rfl ?_
      refine OE.iconst X6 hx hby at_88 (0 : Int32) rfl ?_
      have z28 : n0 ≤ h6.size := (Nat.le_trans (Nat.le_trans (Nat.le_trans (Nat.le_trans (Nat.le_trans (Nat.le_trans Z0 E1.1) (Nat.le_of_eq W2.size.symm)) (Nat.le_of_eq W3.size.symm)) (Nat.le_of_eq W4.size.symm)) (Nat.le_of_eq W5.size.symm)) (Nat.le_of_eq W6.size.symm))
      obtain ⟨_, _, ⟨T29, L29, k29, n29⟩, -, X29, ⟨Lc29, hQ29, l29, y29, z29⟩, st29⟩ := Jvm.LawKit.callS X6 hx (y := (⟨"com/example/archerfish/archerfish/index/TokenTableHashPinLaw", "term", "([CIII)J"⟩ : MethodName)) hown (mvT hZ (hw _ (List.mem_of_getElem? (i := 3) rfl))) (mvT hZ (hw _ (List.mem_of_getElem? (i := 4) rfl))) (mvT hZ (hw _ (List.mem_of_getElem? (i := 5) rfl))) (mvT hZ (hw _ (List.mem_of_getElem? (i := 6) rfl))) (by decide) (backOf (W := 0) (own_rm1_3_0 l Z a0 hw [] b1 (0 : Int32) c0 k1 [(.int c0), (.int c1), (.int c2), (.int c3), (.int c4)] h6 n0 z28 Vc ⟨by decide, by decide⟩ rfl) hZ (hw _ (List.mem_of_getElem? (i := 6) rfl)) (hw _ (List.mem_of_getElem? (i := 5) rfl)) (by decide) (by decide)) (g := (mkF m 89 #[.val (.int p1), .val (.int p2), .val (.int p3), .val (.int p4), .val (.int p5), .val (.ref b1), .val (.int (0 : Int32)), .val (.int (3 : Int32)), .val (.int (3 : Int32)), .unset, .unset, .unset, .unset, .unset] [(.int (0 : Int32)), (.int (3 : Int32)), (.int (0 : Int32)), (.ref b1)])) rfl (by rw [hml]; rfl) (argsL := [(.ref b1), (.int (0 : Int32)), (.int (3 : Int32)), (.int (0 : Int32))]) (rest := []) (lenOf own_pd1 rfl) rfl (by show 2 * 0 + _ ≤ _; exact Nat.le_of_eq rfl) (hb hby at_89) (fun _ _ => ⟨rfl, e6, (by decide : 1 + 0 ≤ _), (by decide : 5 + 0 ≤ _)⟩)
      dsimp only [Pt.U, Pt.locs, Pt.cells, Pt.slots] at X29 l29 y29 z29 st29 hQ29
      subst l29 y29 z29
      obtain ⟨rfl, Nq29, eq29⟩ := hQ29
      refine OE.of (fun _ k => st29 _ k) ?_
      have N29 := Fr.app N6 Nq29
      show OE _ p e below s _ _ _ T29 (mkF m 92 #[.val (.int p1), .val (.int p2), .val (.int p3), .val (.int p4), .val (.int p5), .val (.ref b1), .val (.int (0 : Int32)), .val (.int (3 : Int32)), .val (.int (3 : Int32)), .unset, .unset, .unset, .unset, .unset] [(.long ((c0.toInt64) * (961 : Int64)))])
      refine OE.aload X29 hx hby at_92 rfl rfl ?_
      refine OE.iload X29 hx hby at_94 rfl ?_
      refine OE.iload X29 hx hby at_96 rfl ?_
      refine OE.iconst X29 hx hby at_98 (1 : Int32) rfl ?_
      obtain ⟨_, _, ⟨T30, L30, k30, n30⟩, -, X30, ⟨Lc30, hQ30, l30, y30, z30⟩, st30⟩ := Jvm.LawKit.callS X29 hx (y := (⟨"com/example/archerfish/archerfish/index/TokenTableHashPinLaw", "term", "([CIII)J"⟩ : MethodName)) hown (mvT hZ (hw _ (List.mem_of_getElem? (i := 3) rfl))) (mvT hZ (hw _ (List.mem_of_getElem? (i := 4) rfl))) (mvT hZ (hw _ (List.mem_of_getElem? (i := 5) rfl))) (mvT hZ (hw _ (List.mem_of_getElem? (i := 6) rfl))) (by decide) (backOf (W := 2) (own_rm1_3_1 l Z a0 hw [] b1 (0 : Int32) c1 k1 [(.int c0), (.int c1), (.int c2), (.int c3), (.int c4)] h6 n0 z28 Vc ⟨by decide, by decide⟩ rfl) hZ (hw _ (List.mem_of_getElem? (i := 6) rfl)) (hw _ (List.mem_of_getElem? (i := 5) rfl)) (by decide) (by decide)) (g := (mkF m 99 #[.val (.int p1), .val (.int p2), .val (.int p3), .val (.int p4), .val (.int p5), .val (.ref b1), .val (.int (0 : Int32)), .val (.int (3 : Int32)), .val (.int (3 : Int32)), .unset, .unset, .unset, .unset, .unset] [(.int (1 : Int32)), (.int (3 : Int32)), (.int (0 : Int32)), (.ref b1), (.long ((c0.toInt64) * (961 : Int64)))])) rfl (by rw [hml]; rfl) (argsL := [(.ref b1), (.int (0 : Int32)), (.int (3 : Int32)), (.int (1 : Int32))]) (rest := [(.long ((c0.toInt64) * (961 : Int64)))]) (lenOf own_pd1 rfl) rfl (by show 2 * 0 + _ ≤ _; exact Nat.le_of_eq rfl) (hb hby at_99) (fun _ _ => ⟨rfl, eq29, (by decide : 1 + 0 ≤ _), (by decide : 5 + 0 ≤ _)⟩)
      dsimp only [Pt.U, Pt.locs, Pt.cells, Pt.slots] at X30 l30 y30 z30 st30 hQ30
      subst l30 y30 z30
      obtain ⟨rfl, Nq30, eq30⟩ := hQ30
      refine OE.of (fun _ k => st30 _ k) ?_
      have N30 := Fr.app N29 Nq30
      show OE _ p e below s _ _ _ T30 (mkF m 102 #[.val (.int p1), .val (.int p2), .val (.int p3), .val (.int p4), .val (.int p5), .val (.ref b1), .val (.int (0 : Int32)), .val (.int (3 : Int32)), .val (.int (3 : Int32)), .unset, .unset, .unset, .unset, .unset] [(.long ((c1.toInt64) * (31 : Int64))), (.long ((c0.toInt64) * (961 : Int64)))])
      refine OE.ladd X30 hx hby at_102 ?_
      refine OE.aload X30 hx hby at_103 rfl rfl ?_
      refine OE.iload X30 hx hby at_105 rfl ?_
      refine OE.iload X30 hx hby at_107 rfl ?_
      refine OE.iconst X30 hx hby at_109 (2 : Int32) rfl ?_
      obtain ⟨_, _, ⟨T31, L31, k31, n31⟩, -, X31, ⟨Lc31, hQ31, l31, y31, z31⟩, st31⟩ := Jvm.LawKit.callS X30 hx (y := (⟨"com/example/archerfish/archerfish/index/TokenTableHashPinLaw", "term", "([CIII)J"⟩ : MethodName)) hown (mvT hZ (hw _ (List.mem_of_getElem? (i := 3) rfl))) (mvT hZ (hw _ (List.mem_of_getElem? (i := 4) rfl))) (mvT hZ (hw _ (List.mem_of_getElem? (i := 5) rfl))) (mvT hZ (hw _ (List.mem_of_getElem? (i := 6) rfl))) (by decide) (backOf (W := 2) (own_rm1_3_2 l Z a0 hw [] b1 (0 : Int32) c2 k1 [(.int c0), (.int c1), (.int c2), (.int c3), (.int c4)] h6 n0 z28 Vc ⟨by decide, by decide⟩ rfl) hZ (hw _ (List.mem_of_getElem? (i := 6) rfl)) (hw _ (List.mem_of_getElem? (i := 5) rfl)) (by decide) (by decide)) (g := (mkF m 110 #[.val (.int p1), .val (.int p2), .val (.int p3), .val (.int p4), .val (.int p5), .val (.ref b1), .val (.int (0 : Int32)), .val (.int (3 : Int32)), .val (.int (3 : Int32)), .unset, .unset, .unset, .unset, .unset] [(.int (2 : Int32)), (.int (3 : Int32)), (.int (0 : Int32)), (.ref b1), (.long (((c0.toInt64) * (961 : Int64)) + ((c1.toInt64) * (31 : Int64))))])) rfl (by rw [hml]; rfl) (argsL := [(.ref b1), (.int (0 : Int32)), (.int (3 : Int32)), (.int (2 : Int32))]) (rest := [(.long (((c0.toInt64) * (961 : Int64)) + ((c1.toInt64) * (31 : Int64))))]) (lenOf own_pd1 rfl) rfl (by show 2 * 0 + _ ≤ _; exact Nat.le_of_eq rfl) (hb hby at_110) (fun _ _ => ⟨rfl, eq30, (by decide : 1 + 0 ≤ _), (by decide : 5 + 0 ≤ _)⟩)
      dsimp only [Pt.U, Pt.locs, Pt.cells, Pt.slots] at X31 l31 y31 z31 st31 hQ31
      subst l31 y31 z31
      obtain ⟨rfl, Nq31, eq31⟩ := hQ31
      refine OE.of (fun _ k => st31 _ k) ?_
      have N31 := Fr.app N30 Nq31
      show OE _ p e below s _ _ _ T31 (mkF m 113 #[.val (.int p1), .val (.int p2), .val (.int p3), .val (.int p4), .val (.int p5), .val (.ref b1), .val (.int (0 : Int32)), .val (.int (3 : Int32)), .val (.int (3 : Int32)), .unset, .unset, .unset, .unset, .unset] [(.long ((c2.toInt64) * (1 : Int64))), (.long (((c0.toInt64) * (961 : Int64)) + ((c1.toInt64) * (31 : Int64))))])
      refine OE.ladd X31 hx hby at_113 ?_
      refine OE.aload X31 hx hby at_114 rfl rfl ?_
      refine OE.iload X31 hx hby at_116 rfl ?_
      refine OE.iload X31 hx hby at_118 rfl ?_
      refine OE.iconst X31 hx hby at_120 (3 : Int32) rfl ?_
      obtain ⟨_, _, ⟨T32, L32, k32, n32⟩, -, X32, ⟨Lc32, hQ32, l32, y32, z32⟩, st32⟩ := Jvm.LawKit.callS X31 hx (y := (⟨"com/example/archerfish/archerfish/index/TokenTableHashPinLaw", "term", "([CIII)J"⟩ : MethodName)) hown (mvT hZ (hw _ (List.mem_of_getElem? (i := 3) rfl))) (mvT hZ (hw _ (List.mem_of_getElem? (i := 4) rfl))) (mvT hZ (hw _ (List.mem_of_getElem? (i := 5) rfl))) (mvT hZ (hw _ (List.mem_of_getElem? (i := 6) rfl))) (by decide) (backOf (W := 2) (own_rm1_o l Z a0 hw [] b1 (0 : Int32) (3 : Int32) (3 : Int32) h6 n0 z28 (by decide)) hZ (hw _ (List.mem_of_getElem? (i := 6) rfl)) (hw _ (List.mem_of_getElem? (i := 5) rfl)) (by decide) (by decide)) (g := (mkF m 121 #[.val (.int p1), .val (.int p2), .val (.int p3), .val (.int p4), .val (.int p5), .val (.ref b1), .val (.int (0 : Int32)), .val (.int (3 : Int32)), .val (.int (3 : Int32)), .unset, .unset, .unset, .unset, .unset] [(.int (3 : Int32)), (.int (3 : Int32)), (.int (0 : Int32)), (.ref b1), (.long ((((c0.toInt64) * (961 : Int64)) + ((c1.toInt64) * (31 : Int64))) + ((c2.toInt64) * (1 : Int64))))])) rfl (by rw [hml]; rfl) (argsL := [(.ref b1), (.int (0 : Int32)), (.int (3 : Int32)), (.int (3 : Int32))]) (rest := [(.long ((((c0.toInt64) * (961 : Int64)) + ((c1.toInt64) * (31 : Int64))) + ((c2.toInt64) * (1 : Int64))))]) (lenOf own_pd1 rfl) rfl (by show 2 * 0 + _ ≤ _; exact Nat.le_of_eq rfl) (hb hby at_121) (fun _ _ => ⟨rfl, eq31, (by decide : 1 + 0 ≤ _), (by decide : 5 + 0 ≤ _)⟩)
      dsimp only [Pt.U, Pt.locs, Pt.cells, Pt.slots] at X32 l32 y32 z32 st32 hQ32
      subst l32 y32 z32
      obtain ⟨rfl, Nq32, eq32⟩ := hQ32
      refine OE.of (fun _ k => st32 _ k) ?_
      have N32 := Fr.app N31 Nq32
      show OE _ p e below s _ _ _ T32 (mkF m 124 #[.val (.int p1), .val (.int p2), .val (.int p3), .val (.int p4), .val (.int p5), .val (.ref b1), .val (.int (0 : Int32)), .val (.int (3 : Int32)), .val (.int (3 : Int32)), .unset, .unset, .unset, .unset, .unset] [(.long (0 : Int64)), (.long ((((c0.toInt64) * (961 : Int64)) + ((c1.toInt64) * (31 : Int64))) + ((c2.toInt64) * (1 : Int64))))])
      refine OE.ladd X32 hx hby at_124 ?_
      refine OE.aload X32 hx hby at_125 rfl rfl ?_
      refine OE.iload X32 hx hby at_127 rfl ?_
      refine OE.iload X32 hx hby at_129 rfl ?_
      refine OE.iconst X32 hx hby at_131 (4 : Int32) rfl ?_
      obtain ⟨_, _, ⟨T33, L33, k33, n33⟩, -, X33, ⟨Lc33, hQ33, l33, y33, z33⟩, st33⟩ := Jvm.LawKit.callS X32 hx (y := (⟨"com/example/archerfish/archerfish/index/TokenTableHashPinLaw", "term", "([CIII)J"⟩ : MethodName)) hown (mvT hZ (hw _ (List.mem_of_getElem? (i := 3) rfl))) (mvT hZ (hw _ (List.mem_of_getElem? (i := 4) rfl))) (mvT hZ (hw _ (List.mem_of_getElem? (i := 5) rfl))) (mvT hZ (hw _ (List.mem_of_getElem? (i := 6) rfl))) (by decide) (backOf (W := 2) (own_rm1_o l Z a0 hw [] b1 (0 : Int32) (3 : Int32) (4 : Int32) h6 n0 z28 (by decide)) hZ (hw _ (List.mem_of_getElem? (i := 6) rfl)) (hw _ (List.mem_of_getElem? (i := 5) rfl)) (by decide) (by decide)) (g := (mkF m 132 #[.val (.int p1), .val (.int p2), .val (.int p3), .val (.int p4), .val (.int p5), .val (.ref b1), .val (.int (0 : Int32)), .val (.int (3 : Int32)), .val (.int (3 : Int32)), .unset, .unset, .unset, .unset, .unset] [(.int (4 : Int32)), (.int (3 : Int32)), (.int (0 : Int32)), (.ref b1), (.long (((((c0.toInt64) * (961 : Int64)) + ((c1.toInt64) * (31 : Int64))) + ((c2.toInt64) * (1 : Int64))) + (0 : Int64)))])) rfl (by rw [hml]; rfl) (argsL := [(.ref b1), (.int (0 : Int32)), (.int (3 : Int32)), (.int (4 : Int32))]) (rest := [(.long (((((c0.toInt64) * (961 : Int64)) + ((c1.toInt64) * (31 : Int64))) + ((c2.toInt64) * (1 : Int64))) + (0 : Int64)))]) (lenOf own_pd1 rfl) rfl (by show 2 * 0 + _ ≤ _; exact Nat.le_of_eq rfl) (hb hby at_132) (fun _ _ => ⟨rfl, eq32, (by decide : 1 + 0 ≤ _), (by decide : 5 + 0 ≤ _)⟩)
      dsimp only [Pt.U, Pt.locs, Pt.cells, Pt.slots] at X33 l33 y33 z33 st33 hQ33
      subst l33 y33 z33
      obtain ⟨rfl, Nq33, eq33⟩ := hQ33
      refine OE.of (fun _ k => st33 _ k) ?_
      have N33 := Fr.app N32 Nq33
      show OE _ p e below s _ _ _ T33 (mkF m 135 #[.val (.int p1), .val (.int p2), .val (.int p3), .val (.int p4), .val (.int p5), .val (.ref b1), .val (.int (0 : Int32)), .val (.int (3 : Int32)), .val (.int (3 : Int32)), .unset, .unset, .unset, .unset, .unset] [(.long (0 : Int64)), (.long (((((c0.toInt64) * (961 : Int64)) + ((c1.toInt64) * (31 : Int64))) + ((c2.toInt64) * (1 : Int64))) + (0 : Int64)))])
      refine OE.ladd X33 hx hby at_135 ?_
      refine OE.lstore X33 hx hby at_136 (l' := #[.val (.int p1), .val (.int p2), .val (.int p3), .val (.int p4), .val (.int p5), .val (.ref b1), .val (.int (0 : Int32)), .val (.int (3 : Int32)), .val (.int (3 : Int32)), .val (.long ((((((c0.toInt64) * (961 : Int64)) + ((c1.toInt64) * (31 : Int64))) + ((c2.toInt64) * (1 : Int64))) + (0 : Int64)) + (0 : Int64))), .second, .unset, .unset, .unset]) rfl ?_
      refine OE.lload X33 hx hby at_138 rfl ?_
      refine OE.l2i X33 hx hby at_140 ?_
      rw [(own_poly3 c0 c1 c2 : (((((((c0.toInt64) * (961 : Int64)) + ((c1.toInt64) * (31 : Int64))) + ((c2.toInt64) * (1 : Int64))) + (0 : Int64)) + (0 : Int64)).toInt32) = (((31 : Int32) * (((31 : Int32) * ((0 : Int32) + c0)) + c1)) + c2))]
      show OE _ p e below s _ _ _ T33 (mkF m 141 #[.val (.int p1), .val (.int p2), .val (.int p3), .val (.int p4), .val (.int p5), .val (.ref b1), .val (.int (0 : Int32)), .val (.int (3 : Int32)), .val (.int (3 : Int32)), .val (.long ((((((c0.toInt64) * (961 : Int64)) + ((c1.toInt64) * (31 : Int64))) + ((c2.toInt64) * (1 : Int64))) + (0 : Int64)) + (0 : Int64))), .second, .unset, .unset, .unset] [(.int (((31 : Int32) * (((31 : Int32) * ((0 : Int32) + c0)) + c1)) + c2))])
      refine OE.istore X33 hx hby at_141 (l' := #[.val (.int p1), .val (.int p2), .val (.int p3), .val (.int p4), .val (.int p5), .val (.ref b1), .val (.int (0 : Int32)), .val (.int (3 : Int32)), .val (.int (3 : Int32)), .val (.long ((((((c0.toInt64) * (961 : Int64)) + ((c1.toInt64) * (31 : Int64))) + ((c2.toInt64) * (1 : Int64))) + (0 : Int64)) + (0 : Int64))), .second, .val (.int (((31 : Int32) * (((31 : Int32) * ((0 : Int32) + c0)) + c1)) + c2)), .unset, .unset]) rfl ?_
      refine OE.iload X33 hx hby at_143 rfl ?_
      refine OE.i2l X33 hx hby at_145 ?_
      refine OE.of (X33.ldc2Long hx hown (mvT hZ (hw _ (List.mem_of_getElem? (i := 7) rfl))) (g := (mkF m 146 #[.val (.int p1), .val (.int p2), .val (.int p3), .val (.int p4), .val (.int p5), .val (.ref b1), .val (.int (0 : Int32)), .val (.int (3 : Int32)), .val (.int (3 : Int32)), .val (.long ((((((c0.toInt64) * (961 : Int64)) + ((c1.toInt64) * (31 : Int64))) + ((c2.toInt64) * (1 : Int64))) + (0 : Int64)) + (0 : Int64))), .second, .val (.int (((31 : Int32) * (((31 : Int32) * ((0 : Int32) + c0)) + c1)) + c2)), .unset, .unset] [(.long ((((31 : Int32) * (((31 : Int32) * ((0 : Int32) + c0)) + c1)) + c2).toInt64))])) rfl (hb hby at_146)) ?_
      show OE _ p e below s _ _ _ T33 (mkF m 149 #[.val (.int p1), .val (.int p2), .val (.int p3), .val (.int p4), .val (.int p5), .val (.ref b1), .val (.int (0 : Int32)), .val (.int (3 : Int32)), .val (.int (3 : Int32)), .val (.long ((((((c0.toInt64) * (961 : Int64)) + ((c1.toInt64) * (31 : Int64))) + ((c2.toInt64) * (1 : Int64))) + (0 : Int64)) + (0 : Int64))), .second, .val (.int (((31 : Int32) * (((31 : Int32) * ((0 : Int32) + c0)) + c1)) + c2)), .unset, .unset] [(.long (2654435769 : Int64)), (.long ((((31 : Int32) * (((31 : Int32) * ((0 : Int32) + c0)) + c1)) + c2).toInt64))])
      refine OE.lmul X33 hx hby at_149 ?_
      refine OE.l2i X33 hx hby at_150 ?_
      rw [(own_mul _ : ((((((31 : Int32) * (((31 : Int32) * ((0 : Int32) + c0)) + c1)) + c2).toInt64) * (2654435769 : Int64)).toInt32) = ((((31 : Int32) * (((31 : Int32) * ((0 : Int32) + c0)) + c1)) + c2) * (-1640531527 : Int32)))]
      show OE _ p e below s _ _ _ T33 (mkF m 151 #[.val (.int p1), .val (.int p2), .val (.int p3), .val (.int p4), .val (.int p5), .val (.ref b1), .val (.int (0 : Int32)), .val (.int (3 : Int32)), .val (.int (3 : Int32)), .val (.long ((((((c0.toInt64) * (961 : Int64)) + ((c1.toInt64) * (31 : Int64))) + ((c2.toInt64) * (1 : Int64))) + (0 : Int64)) + (0 : Int64))), .second, .val (.int (((31 : Int32) * (((31 : Int32) * ((0 : Int32) + c0)) + c1)) + c2)), .unset, .unset] [(.int ((((31 : Int32) * (((31 : Int32) * ((0 : Int32) + c0)) + c1)) + c2) * (-1640531527 : Int32)))])
      refine OE.istore X33 hx hby at_151 (l' := #[.val (.int p1), .val (.int p2), .val (.int p3), .val (.int p4), .val (.int p5), .val (.ref b1), .val (.int (0 : Int32)), .val (.int (3 : Int32)), .val (.int (3 : Int32)), .val (.long ((((((c0.toInt64) * (961 : Int64)) + ((c1.toInt64) * (31 : Int64))) + ((c2.toInt64) * (1 : Int64))) + (0 : Int64)) + (0 : Int64))), .second, .val (.int (((31 : Int32) * (((31 : Int32) * ((0 : Int32) + c0)) + c1)) + c2)), .val (.int ((((31 : Int32) * (((31 : Int32) * ((0 : Int32) + c0)) + c1)) + c2) * (-1640531527 : Int32))), .unset]) rfl ?_
      refine OE.aload X33 hx hby at_153 rfl rfl ?_
      refine OE.iload X33 hx hby at_155 rfl ?_
      refine OE.iload X33 hx hby at_157 rfl ?_
      obtain ⟨_, _, ⟨T34, L34, k34, n34⟩, -, X34, ⟨Lc34, hQ34, l34, y34, z34⟩, st34⟩ := Jvm.LawKit.callS X33 hx (y := (⟨"com/example/archerfish/archerfish/index/TokenTable", "hash", "([CII)I"⟩ : MethodName)) hown (mvT hZ (hw _ (List.mem_of_getElem? (i := 8) rfl))) (mvT hZ (hw _ (List.mem_of_getElem? (i := 9) rfl))) (mvT hZ (hw _ (List.mem_of_getElem? (i := 10) rfl))) (mvT hZ (hw _ (List.mem_of_getElem? (i := 11) rfl))) (by decide) (backOf (W := 0) (own_rm2_0_3 l Z a0 hw [] b1 c0 c1 c2 c3 c4 k1 h6 n0 z28 Vc) hZ (hw _ (List.mem_of_getElem? (i := 11) rfl)) (hw _ (List.mem_of_getElem? (i := 10) rfl)) (by decide) (by decide)) (g := (mkF m 159 #[.val (.int p1), .val (.int p2), .val (.int p3), .val (.int p4), .val (.int p5), .val (.ref b1), .val (.int (0 : Int32)), .val (.int (3 : Int32)), .val (.int (3 : Int32)), .val (.long ((((((c0.toInt64) * (961 : Int64)) + ((c1.toInt64) * (31 : Int64))) + ((c2.toInt64) * (1 : Int64))) + (0 : Int64)) + (0 : Int64))), .second, .val (.int (((31 : Int32) * (((31 : Int32) * ((0 : Int32) + c0)) + c1)) + c2)), .val (.int ((((31 : Int32) * (((31 : Int32) * ((0 : Int32) + c0)) + c1)) + c2) * (-1640531527 : Int32))), .unset] [(.int (3 : Int32)), (.int (0 : Int32)), (.ref b1)])) rfl (by rw [hml]; rfl) (argsL := [(.ref b1), (.int (0 : Int32)), (.int (3 : Int32))]) (rest := []) (lenOf own_pd2 rfl) rfl (by show 2 * 0 + _ ≤ _; exact Nat.le_of_eq rfl) (hb hby at_159) (fun _ _ => ⟨rfl, eq33, (by decide : 1 + 0 ≤ _), (by decide : 5 + 0 ≤ _)⟩)
      dsimp only [Pt.U, Pt.locs, Pt.cells, Pt.slots] at X34 l34 y34 z34 st34 hQ34
      subst l34 y34 z34
      obtain ⟨rfl, Nq34, eq34⟩ := hQ34
      refine OE.of (fun _ k => st34 _ k) ?_
      have N34 := Fr.app N33 Nq34
      show OE _ p e below s _ _ _ T34 (mkF m 162 #[.val (.int p1), .val (.int p2), .val (.int p3), .val (.int p4), .val (.int p5), .val (.ref b1), .val (.int (0 : Int32)), .val (.int (3 : Int32)), .val (.int (3 : Int32)), .val (.long ((((((c0.toInt64) * (961 : Int64)) + ((c1.toInt64) * (31 : Int64))) + ((c2.toInt64) * (1 : Int64))) + (0 : Int64)) + (0 : Int64))), .second, .val (.int (((31 : Int32) * (((31 : Int32) * ((0 : Int32) + c0)) + c1)) + c2)), .val (.int ((((31 : Int32) * (((31 : Int32) * ((0 : Int32) + c0)) + c1)) + c2) * (-1640531527 : Int32))), .unset] [(.int (((((31 : Int32) * (((31 : Int32) * ((0 : Int32) + c0)) + c1)) + c2) * (-1640531527 : Int32)) ^^^ ((((((31 : Int32) * (((31 : Int32) * ((0 : Int32) + c0)) + c1)) + c2) * (-1640531527 : Int32)).toUInt32 >>> ((16 : Int32) &&& 31).toUInt32).toInt32)))])
      refine OE.istore X34 hx hby at_162 (l' := #[.val (.int p1), .val (.int p2), .val (.int p3), .val (.int p4), .val (.int p5), .val (.ref b1), .val (.int (0 : Int32)), .val (.int (3 : Int32)), .val (.int (3 : Int32)), .val (.long ((((((c0.toInt64) * (961 : Int64)) + ((c1.toInt64) * (31 : Int64))) + ((c2.toInt64) * (1 : Int64))) + (0 : Int64)) + (0 : Int64))), .second, .val (.int (((31 : Int32) * (((31 : Int32) * ((0 : Int32) + c0)) + c1)) + c2)), .val (.int ((((31 : Int32) * (((31 : Int32) * ((0 : Int32) + c0)) + c1)) + c2) * (-1640531527 : Int32))), .val (.int (((((31 : Int32) * (((31 : Int32) * ((0 : Int32) + c0)) + c1)) + c2) * (-1640531527 : Int32)) ^^^ ((((((31 : Int32) * (((31 : Int32) * ((0 : Int32) + c0)) + c1)) + c2) * (-1640531527 : Int32)).toUInt32 >>> ((16 : Int32) &&& 31).toUInt32).toInt32)))]) rfl ?_
      refine OE.iload X34 hx hby at_164 rfl ?_
      refine OE.bipush X34 hx hby at_166 (16 : Int32) rfl ?_
      refine OE.iushr X34 hx hby at_168 ?_
      refine OE.iload X34 hx hby at_169 rfl ?_
      refine OE.bipush X34 hx hby at_171 (16 : Int32) rfl ?_
      refine OE.iushr X34 hx hby at_173 ?_
      refine OE.icmpNo X34 hx hby at_174 (teq (own_top _ : (((((((31 : Int32) * (((31 : Int32) * ((0 : Int32) + c0)) + c1)) + c2) * (-1640531527 : Int32)) ^^^ ((((((31 : Int32) * (((31 : Int32) * ((0 : Int32) + c0)) + c1)) + c2) * (-1640531527 : Int32)).toUInt32 >>> ((16 : Int32) &&& 31).toUInt32).toInt32)).toUInt32 >>> ((16 : Int32) &&& 31).toUInt32).toInt32) = ((((((31 : Int32) * (((31 : Int32) * ((0 : Int32) + c0)) + c1)) + c2) * (-1640531527 : Int32)).toUInt32 >>> ((16 : Int32) &&& 31).toUInt32).toInt32))).2 ?_
      refine OE.iload X34 hx hby at_177 rfl ?_
      refine OE.of (X34.ldcInt hx hown (mvT hZ (hw _ (List.mem_of_getElem? (i := 1) rfl))) (g := (mkF m 179 #[.val (.int p1), .val (.int p2), .val (.int p3), .val (.int p4), .val (.int p5), .val (.ref b1), .val (.int (0 : Int32)), .val (.int (3 : Int32)), .val (.int (3 : Int32)), .val (.long ((((((c0.toInt64) * (961 : Int64)) + ((c1.toInt64) * (31 : Int64))) + ((c2.toInt64) * (1 : Int64))) + (0 : Int64)) + (0 : Int64))), .second, .val (.int (((31 : Int32) * (((31 : Int32) * ((0 : Int32) + c0)) + c1)) + c2)), .val (.int ((((31 : Int32) * (((31 : Int32) * ((0 : Int32) + c0)) + c1)) + c2) * (-1640531527 : Int32))), .val (.int (((((31 : Int32) * (((31 : Int32) * ((0 : Int32) + c0)) + c1)) + c2) * (-1640531527 : Int32)) ^^^ ((((((31 : Int32) * (((31 : Int32) * ((0 : Int32) + c0)) + c1)) + c2) * (-1640531527 : Int32)).toUInt32 >>> ((16 : Int32) &&& 31).toUInt32).toInt32)))] [(.int (((((31 : Int32) * (((31 : Int32) * ((0 : Int32) + c0)) + c1)) + c2) * (-1640531527 : Int32)) ^^^ ((((((31 : Int32) * (((31 : Int32) * ((0 : Int32) + c0)) + c1)) + c2) * (-1640531527 : Int32)).toUInt32 >>> ((16 : Int32) &&& 31).toUInt32).toInt32)))])) rfl (hb hby at_179)) ?_
      show OE _ p e below s _ _ _ T34 (mkF m 181 #[.val (.int p1), .val (.int p2), .val (.int p3), .val (.int p4), .val (.int p5), .val (.ref b1), .val (.int (0 : Int32)), .val (.int (3 : Int32)), .val (.int (3 : Int32)), .val (.long ((((((c0.toInt64) * (961 : Int64)) + ((c1.toInt64) * (31 : Int64))) + ((c2.toInt64) * (1 : Int64))) + (0 : Int64)) + (0 : Int64))), .second, .val (.int (((31 : Int32) * (((31 : Int32) * ((0 : Int32) + c0)) + c1)) + c2)), .val (.int ((((31 : Int32) * (((31 : Int32) * ((0 : Int32) + c0)) + c1)) + c2) * (-1640531527 : Int32))), .val (.int (((((31 : Int32) * (((31 : Int32) * ((0 : Int32) + c0)) + c1)) + c2) * (-1640531527 : Int32)) ^^^ ((((((31 : Int32) * (((31 : Int32) * ((0 : Int32) + c0)) + c1)) + c2) * (-1640531527 : Int32)).toUInt32 >>> ((16 : Int32) &&& 31).toUInt32).toInt32)))] [(.int (65535 : Int32)), (.int (((((31 : Int32) * (((31 : Int32) * ((0 : Int32) + c0)) + c1)) + c2) * (-1640531527 : Int32)) ^^^ ((((((31 : Int32) * (((31 : Int32) * ((0 : Int32) + c0)) + c1)) + c2) * (-1640531527 : Int32)).toUInt32 >>> ((16 : Int32) &&& 31).toUInt32).toInt32)))])
      refine OE.iand X34 hx hby at_181 ?_
      refine OE.iload X34 hx hby at_182 rfl ?_
      refine OE.iload X34 hx hby at_184 rfl ?_
      refine OE.bipush X34 hx hby at_186 (16 : Int32) rfl ?_
      refine OE.iushr X34 hx hby at_188 ?_
      refine OE.ixor X34 hx hby at_189 ?_
      refine OE.of (X34.ldcInt hx hown (mvT hZ (hw _ (List.mem_of_getElem? (i := 1) rfl))) (g := (mkF m 190 #[.val (.int p1), .val (.int p2), .val (.int p3), .val (.int p4), .val (.int p5), .val (.ref b1), .val (.int (0 : Int32)), .val (.int (3 : Int32)), .val (.int (3 : Int32)), .val (.long ((((((c0.toInt64) * (961 : Int64)) + ((c1.toInt64) * (31 : Int64))) + ((c2.toInt64) * (1 : Int64))) + (0 : Int64)) + (0 : Int64))), .second, .val (.int (((31 : Int32) * (((31 : Int32) * ((0 : Int32) + c0)) + c1)) + c2)), .val (.int ((((31 : Int32) * (((31 : Int32) * ((0 : Int32) + c0)) + c1)) + c2) * (-1640531527 : Int32))), .val (.int (((((31 : Int32) * (((31 : Int32) * ((0 : Int32) + c0)) + c1)) + c2) * (-1640531527 : Int32)) ^^^ ((((((31 : Int32) * (((31 : Int32) * ((0 : Int32) + c0)) + c1)) + c2) * (-1640531527 : Int32)).toUInt32 >>> ((16 : Int32) &&& 31).toUInt32).toInt32)))] [(.int (((((31 : Int32) * (((31 : Int32) * ((0 : Int32) + c0)) + c1)) + c2) * (-1640531527 : Int32)) ^^^ ((((((31 : Int32) * (((31 : Int32) * ((0 : Int32) + c0)) + c1)) + c2) * (-1640531527 : Int32)).toUInt32 >>> ((16 : Int32) &&& 31).toUInt32).toInt32))), (.int ((((((31 : Int32) * (((31 : Int32) * ((0 : Int32) + c0)) + c1)) + c2) * (-1640531527 : Int32)) ^^^ ((((((31 : Int32) * (((31 : Int32) * ((0 : Int32) + c0)) + c1)) + c2) * (-1640531527 : Int32)).toUInt32 >>> ((16 : Int32) &&& 31).toUInt32).toInt32)) &&& (65535 : Int32)))])) rfl (hb hby at_190)) ?_
      show OE _ p e below s _ _ _ T34 (mkF m 192 #[.val (.int p1), .val (.int p2), .val (.int p3), .val (.int p4), .val (.int p5), .val (.ref b1), .val (.int (0 : Int32)), .val (.int (3 : Int32)), .val (.int (3 : Int32)), .val (.long ((((((c0.toInt64) * (961 : Int64)) + ((c1.toInt64) * (31 : Int64))) + ((c2.toInt64) * (1 : Int64))) + (0 : Int64)) + (0 : Int64))), .second, .val (.int (((31 : Int32) * (((31 : Int32) * ((0 : Int32) + c0)) + c1)) + c2)), .val (.int ((((31 : Int32) * (((31 : Int32) * ((0 : Int32) + c0)) + c1)) + c2) * (-1640531527 : Int32))), .val (.int (((((31 : Int32) * (((31 : Int32) * ((0 : Int32) + c0)) + c1)) + c2) * (-1640531527 : Int32)) ^^^ ((((((31 : Int32) * (((31 : Int32) * ((0 : Int32) + c0)) + c1)) + c2) * (-1640531527 : Int32)).toUInt32 >>> ((16 : Int32) &&& 31).toUInt32).toInt32)))] [(.int (65535 : Int32)), (.int (((((31 : Int32) * (((31 : Int32) * ((0 : Int32) + c0)) + c1)) + c2) * (-1640531527 : Int32)) ^^^ ((((((31 : Int32) * (((31 : Int32) * ((0 : Int32) + c0)) + c1)) + c2) * (-1640531527 : Int32)).toUInt32 >>> ((16 : Int32) &&& 31).toUInt32).toInt32))), (.int ((((((31 : Int32) * (((31 : Int32) * ((0 : Int32) + c0)) + c1)) + c2) * (-1640531527 : Int32)) ^^^ ((((((31 : Int32) * (((31 : Int32) * ((0 : Int32) + c0)) + c1)) + c2) * (-1640531527 : Int32)).toUInt32 >>> ((16 : Int32) &&& 31).toUInt32).toInt32)) &&& (65535 : Int32)))])
      refine OE.iand X34 hx hby at_192 ?_
      refine OE.icmpNo X34 hx hby at_193 (teq (rfl : ((((((31 : Int32) * (((31 : Int32) * ((0 : Int32) + c0)) + c1)) + c2) * (-1640531527 : Int32)) ^^^ ((((((31 : Int32) * (((31 : Int32) * ((0 : Int32) + c0)) + c1)) + c2) * (-1640531527 : Int32)).toUInt32 >>> ((16 : Int32) &&& 31).toUInt32).toInt32)) &&& (65535 : Int32)) = ((((((31 : Int32) * (((31 : Int32) * ((0 : Int32) + c0)) + c1)) + c2) * (-1640531527 : Int32)) ^^^ ((((((31 : Int32) * (((31 : Int32) * ((0 : Int32) + c0)) + c1)) + c2) * (-1640531527 : Int32)).toUInt32 >>> ((16 : Int32) &&& 31).toUInt32).toInt32)) &&& (65535 : Int32)))).2 ?_
      refine OE.iconst X34 hx hby at_196 (1 : Int32) rfl ?_
      refine OE.goto X34 hx hby (pc' := 201) at_197 (h := ?_)
      refine OE.retN X34 hx (t := .boolean) Bd.returns (by simp) Bd.notSynchronized (hb hby at_201) (by decide) (by decide) ?_
      rw [eq34]
      exact ⟨rfl, N34⟩
    · rw [hm]
      show OE _ p e below s _ _ _ T6 (mkF m 72 #[.val (.int p1), .val (.int p2), .val (.int p3), .val (.int p4), .val (.int p5), .val (.ref b1), .val (.int (0 : Int32)), .unset, .unset, .unset, .unset, .unset, .unset, .unset] [(.int (4 : Int32)), (.int (0 : Int32))])
      refine OE.iadd X6 hx hby at_72 ?_
      rw [(by decide : ((0 : Int32) + (4 : Int32)) = (4 : Int32))]
      refine OE.istore X6 hx hby at_73 (l' := #[.val (.int p1), .val (.int p2), .val (.int p3), .val (.int p4), .val (.int p5), .val (.ref b1), .val (.int (0 : Int32)), .val (.int (4 : Int32)), .unset, .unset, .unset, .unset, .unset, .unset]) rfl ?_
      refine OE.iload X6 hx hby at_75 rfl ?_
      refine OE.iload X6 hx hby at_77 rfl ?_
      refine OE.isub X6 hx hby at_79 ?_
      rw [(by decide : ((4 : Int32) - (0 : Int32)) = (4 : Int32))]
      refine OE.istore X6 hx hby at_80 (l' := #[.val (.int p1), .val (.int p2), .val (.int p3), .val (.int p4), .val (.int p5), .val (.ref b1), .val (.int (0 : Int32)), .val (.int (4 : Int32)), .val (.int (4 : Int32)), .unset, .unset, .unset, .unset, .unset]) rfl ?_
      refine OE.aload X6 hx hby at_82 rfl rfl ?_
      refine OE.iload X6 hx hby at_84 rfl ?_
      refine OE.iload X6 hx hby at_86 rfl ?_
      refine OE.iconst X6 hx hby at_88 (0 : Int32) rfl ?_
      have z35 : n0 ≤ h6.size := (Nat.le_trans (Nat.le_trans (Nat.le_trans (Nat.le_trans (Nat.le_trans (Nat.le_trans Z0 E1.1) (Nat.le_of_eq W2.size.symm)) (Nat.le_of_eq W3.size.symm)) (Nat.le_of_eq W4.size.symm)) (Nat.le_of_eq W5.size.symm)) (Nat.le_of_eq W6.size.symm))
      obtain ⟨_, _, ⟨T36, L36, k36, n36⟩, -, X36, ⟨Lc36, hQ36, l36, y36, z36⟩, st36⟩ := Jvm.LawKit.callS X6 hx (y := (⟨"com/example/archerfish/archerfish/index/TokenTableHashPinLaw", "term", "([CIII)J"⟩ : MethodName)) hown (mvT hZ (hw _ (List.mem_of_getElem? (i := 3) rfl))) (mvT hZ (hw _ (List.mem_of_getElem? (i := 4) rfl))) (mvT hZ (hw _ (List.mem_of_getElem? (i := 5) rfl))) (mvT hZ (hw _ (List.mem_of_getElem? (i := 6) rfl))) (by decide) (backOf (W := 0) (own_rm1_4_0 l Z a0 hw [] b1 (0 : Int32) c0 k1 [(.int c0), (.int c1), (.int c2), (.int c3), (.int c4)] h6 n0 z35 Vc ⟨by decide, by decide⟩ rfl) hZ (hw _ (List.mem_of_getElem? (i := 6) rfl)) (hw _ (List.mem_of_getElem? (i := 5) rfl)) (by decide) (by decide)) (g := (mkF m 89 #[.val (.int p1), .val (.int p2), .val (.int p3), .val (.int p4), .val (.int p5), .val (.ref b1), .val (.int (0 : Int32)), .val (.int (4 : Int32)), .val (.int (4 : Int32)), .unset, .unset, .unset, .unset, .unset] [(.int (0 : Int32)), (.int (4 : Int32)), (.int (0 : Int32)), (.ref b1)])) rfl (by rw [hml]; rfl) (argsL := [(.ref b1), (.int (0 : Int32)), (.int (4 : Int32)), (.int (0 : Int32))]) (rest := []) (lenOf own_pd1 rfl) rfl (by show 2 * 0 + _ ≤ _; exact Nat.le_of_eq rfl) (hb hby at_89) (fun _ _ => ⟨rfl, e6, (by decide : 1 + 0 ≤ _), (by decide : 5 + 0 ≤ _)⟩)
      dsimp only [Pt.U, Pt.locs, Pt.cells, Pt.slots] at X36 l36 y36 z36 st36 hQ36
      subst l36 y36 z36
      obtain ⟨rfl, Nq36, eq36⟩ := hQ36
      refine OE.of (fun _ k => st36 _ k) ?_
      have N36 := Fr.app N6 Nq36
      show OE _ p e below s _ _ _ T36 (mkF m 92 #[.val (.int p1), .val (.int p2), .val (.int p3), .val (.int p4), .val (.int p5), .val (.ref b1), .val (.int (0 : Int32)), .val (.int (4 : Int32)), .val (.int (4 : Int32)), .unset, .unset, .unset, .unset, .unset] [(.long ((c0.toInt64) * (29791 : Int64)))])
      refine OE.aload X36 hx hby at_92 rfl rfl ?_
      refine OE.iload X36 hx hby at_94 rfl ?_
      refine OE.iload X36 hx hby at_96 rfl ?_
      refine OE.iconst X36 hx hby at_98 (1 : Int32) rfl ?_
      obtain ⟨_, _, ⟨T37, L37, k37, n37⟩, -, X37, ⟨Lc37, hQ37, l37, y37, z37⟩, st37⟩ := Jvm.LawKit.callS X36 hx (y := (⟨"com/example/archerfish/archerfish/index/TokenTableHashPinLaw", "term", "([CIII)J"⟩ : MethodName)) hown (mvT hZ (hw _ (List.mem_of_getElem? (i := 3) rfl))) (mvT hZ (hw _ (List.mem_of_getElem? (i := 4) rfl))) (mvT hZ (hw _ (List.mem_of_getElem? (i := 5) rfl))) (mvT hZ (hw _ (List.mem_of_getElem? (i := 6) rfl))) (by decide) (backOf (W := 2) (own_rm1_4_1 l Z a0 hw [] b1 (0 : Int32) c1 k1 [(.int c0), (.int c1), (.int c2), (.int c3), (.int c4)] h6 n0 z35 Vc ⟨by decide, by decide⟩ rfl) hZ (hw _ (List.mem_of_getElem? (i := 6) rfl)) (hw _ (List.mem_of_getElem? (i := 5) rfl)) (by decide) (by decide)) (g := (mkF m 99 #[.val (.int p1), .val (.int p2), .val (.int p3), .val (.int p4), .val (.int p5), .val (.ref b1), .val (.int (0 : Int32)), .val (.int (4 : Int32)), .val (.int (4 : Int32)), .unset, .unset, .unset, .unset, .unset] [(.int (1 : Int32)), (.int (4 : Int32)), (.int (0 : Int32)), (.ref b1), (.long ((c0.toInt64) * (29791 : Int64)))])) rfl (by rw [hml]; rfl) (argsL := [(.ref b1), (.int (0 : Int32)), (.int (4 : Int32)), (.int (1 : Int32))]) (rest := [(.long ((c0.toInt64) * (29791 : Int64)))]) (lenOf own_pd1 rfl) rfl (by show 2 * 0 + _ ≤ _; exact Nat.le_of_eq rfl) (hb hby at_99) (fun _ _ => ⟨rfl, eq36, (by decide : 1 + 0 ≤ _), (by decide : 5 + 0 ≤ _)⟩)
      dsimp only [Pt.U, Pt.locs, Pt.cells, Pt.slots] at X37 l37 y37 z37 st37 hQ37
      subst l37 y37 z37
      obtain ⟨rfl, Nq37, eq37⟩ := hQ37
      refine OE.of (fun _ k => st37 _ k) ?_
      have N37 := Fr.app N36 Nq37
      show OE _ p e below s _ _ _ T37 (mkF m 102 #[.val (.int p1), .val (.int p2), .val (.int p3), .val (.int p4), .val (.int p5), .val (.ref b1), .val (.int (0 : Int32)), .val (.int (4 : Int32)), .val (.int (4 : Int32)), .unset, .unset, .unset, .unset, .unset] [(.long ((c1.toInt64) * (961 : Int64))), (.long ((c0.toInt64) * (29791 : Int64)))])
      refine OE.ladd X37 hx hby at_102 ?_
      refine OE.aload X37 hx hby at_103 rfl rfl ?_
      refine OE.iload X37 hx hby at_105 rfl ?_
      refine OE.iload X37 hx hby at_107 rfl ?_
      refine OE.iconst X37 hx hby at_109 (2 : Int32) rfl ?_
      obtain ⟨_, _, ⟨T38, L38, k38, n38⟩, -, X38, ⟨Lc38, hQ38, l38, y38, z38⟩, st38⟩ := Jvm.LawKit.callS X37 hx (y := (⟨"com/example/archerfish/archerfish/index/TokenTableHashPinLaw", "term", "([CIII)J"⟩ : MethodName)) hown (mvT hZ (hw _ (List.mem_of_getElem? (i := 3) rfl))) (mvT hZ (hw _ (List.mem_of_getElem? (i := 4) rfl))) (mvT hZ (hw _ (List.mem_of_getElem? (i := 5) rfl))) (mvT hZ (hw _ (List.mem_of_getElem? (i := 6) rfl))) (by decide) (backOf (W := 2) (own_rm1_4_2 l Z a0 hw [] b1 (0 : Int32) c2 k1 [(.int c0), (.int c1), (.int c2), (.int c3), (.int c4)] h6 n0 z35 Vc ⟨by decide, by decide⟩ rfl) hZ (hw _ (List.mem_of_getElem? (i := 6) rfl)) (hw _ (List.mem_of_getElem? (i := 5) rfl)) (by decide) (by decide)) (g := (mkF m 110 #[.val (.int p1), .val (.int p2), .val (.int p3), .val (.int p4), .val (.int p5), .val (.ref b1), .val (.int (0 : Int32)), .val (.int (4 : Int32)), .val (.int (4 : Int32)), .unset, .unset, .unset, .unset, .unset] [(.int (2 : Int32)), (.int (4 : Int32)), (.int (0 : Int32)), (.ref b1), (.long (((c0.toInt64) * (29791 : Int64)) + ((c1.toInt64) * (961 : Int64))))])) rfl (by rw [hml]; rfl) (argsL := [(.ref b1), (.int (0 : Int32)), (.int (4 : Int32)), (.int (2 : Int32))]) (rest := [(.long (((c0.toInt64) * (29791 : Int64)) + ((c1.toInt64) * (961 : Int64))))]) (lenOf own_pd1 rfl) rfl (by show 2 * 0 + _ ≤ _; exact Nat.le_of_eq rfl) (hb hby at_110) (fun _ _ => ⟨rfl, eq37, (by decide : 1 + 0 ≤ _), (by decide : 5 + 0 ≤ _)⟩)
      dsimp only [Pt.U, Pt.locs, Pt.cells, Pt.slots] at X38 l38 y38 z38 st38 hQ38
      subst l38 y38 z38
      obtain ⟨rfl, Nq38, eq38⟩ := hQ38
      refine OE.of (fun _ k => st38 _ k) ?_
      have N38 := Fr.app N37 Nq38
      show OE _ p e below s _ _ _ T38 (mkF m 113 #[.val (.int p1), .val (.int p2), .val (.int p3), .val (.int p4), .val (.int p5), .val (.ref b1), .val (.int (0 : Int32)), .val (.int (4 : Int32)), .val (.int (4 : Int32)), .unset, .unset, .unset, .unset, .unset] [(.long ((c2.toInt64) * (31 : Int64))), (.long (((c0.toInt64) * (29791 : Int64)) + ((c1.toInt64) * (961 : Int64))))])
      refine OE.ladd X38 hx hby at_113 ?_
      refine OE.aload X38 hx hby at_114 rfl rfl ?_
      refine OE.iload X38 hx hby at_116 rfl ?_
      refine OE.iload X38 hx hby at_118 rfl ?_
      refine OE.iconst X38 hx hby at_120 (3 : Int32) rfl ?_
      obtain ⟨_, _, ⟨T39, L39, k39, n39⟩, -, X39, ⟨Lc39, hQ39, l39, y39, z39⟩, st39⟩ := Jvm.LawKit.callS X38 hx (y := (⟨"com/example/archerfish/archerfish/index/TokenTableHashPinLaw", "term", "([CIII)J"⟩ : MethodName)) hown (mvT hZ (hw _ (List.mem_of_getElem? (i := 3) rfl))) (mvT hZ (hw _ (List.mem_of_getElem? (i := 4) rfl))) (mvT hZ (hw _ (List.mem_of_getElem? (i := 5) rfl))) (mvT hZ (hw _ (List.mem_of_getElem? (i := 6) rfl))) (by decide) (backOf (W := 2) (own_rm1_4_3 l Z a0 hw [] b1 (0 : Int32) c3 k1 [(.int c0), (.int c1), (.int c2), (.int c3), (.int c4)] h6 n0 z35 Vc ⟨by decide, by decide⟩ rfl) hZ (hw _ (List.mem_of_getElem? (i := 6) rfl)) (hw _ (List.mem_of_getElem? (i := 5) rfl)) (by decide) (by decide)) (g := (mkF m 121 #[.val (.int p1), .val (.int p2), .val (.int p3), .val (.int p4), .val (.int p5), .val (.ref b1), .val (.int (0 : Int32)), .val (.int (4 : Int32)), .val (.int (4 : Int32)), .unset, .unset, .unset, .unset, .unset] [(.int (3 : Int32)), (.int (4 : Int32)), (.int (0 : Int32)), (.ref b1), (.long ((((c0.toInt64) * (29791 : Int64)) + ((c1.toInt64) * (961 : Int64))) + ((c2.toInt64) * (31 : Int64))))])) rfl (by rw [hml]; rfl) (argsL := [(.ref b1), (.int (0 : Int32)), (.int (4 : Int32)), (.int (3 : Int32))]) (rest := [(.long ((((c0.toInt64) * (29791 : Int64)) + ((c1.toInt64) * (961 : Int64))) + ((c2.toInt64) * (31 : Int64))))]) (lenOf own_pd1 rfl) rfl (by show 2 * 0 + _ ≤ _; exact Nat.le_of_eq rfl) (hb hby at_121) (fun _ _ => ⟨rfl, eq38, (by decide : 1 + 0 ≤ _), (by decide : 5 + 0 ≤ _)⟩)
      dsimp only [Pt.U, Pt.locs, Pt.cells, Pt.slots] at X39 l39 y39 z39 st39 hQ39
      subst l39 y39 z39
      obtain ⟨rfl, Nq39, eq39⟩ := hQ39
      refine OE.of (fun _ k => st39 _ k) ?_
      have N39 := Fr.app N38 Nq39
      show OE _ p e below s _ _ _ T39 (mkF m 124 #[.val (.int p1), .val (.int p2), .val (.int p3), .val (.int p4), .val (.int p5), .val (.ref b1), .val (.int (0 : Int32)), .val (.int (4 : Int32)), .val (.int (4 : Int32)), .unset, .unset, .unset, .unset, .unset] [(.long ((c3.toInt64) * (1 : Int64))), (.long ((((c0.toInt64) * (29791 : Int64)) + ((c1.toInt64) * (961 : Int64))) + ((c2.toInt64) * (31 : Int64))))])
      refine OE.ladd X39 hx hby at_124 ?_
      refine OE.aload X39 hx hby at_125 rfl rfl ?_
      refine OE.iload X39 hx hby at_127 rfl ?_
      refine OE.iload X39 hx hby at_129 rfl ?_
      refine OE.iconst X39 hx hby at_131 (4 : Int32) rfl ?_
      obtain ⟨_, _, ⟨T40, L40, k40, n40⟩, -, X40, ⟨Lc40, hQ40, l40, y40, z40⟩, st40⟩ := Jvm.LawKit.callS X39 hx (y := (⟨"com/example/archerfish/archerfish/index/TokenTableHashPinLaw", "term", "([CIII)J"⟩ : MethodName)) hown (mvT hZ (hw _ (List.mem_of_getElem? (i := 3) rfl))) (mvT hZ (hw _ (List.mem_of_getElem? (i := 4) rfl))) (mvT hZ (hw _ (List.mem_of_getElem? (i := 5) rfl))) (mvT hZ (hw _ (List.mem_of_getElem? (i := 6) rfl))) (by decide) (backOf (W := 2) (own_rm1_o l Z a0 hw [] b1 (0 : Int32) (4 : Int32) (4 : Int32) h6 n0 z35 (by decide)) hZ (hw _ (List.mem_of_getElem? (i := 6) rfl)) (hw _ (List.mem_of_getElem? (i := 5) rfl)) (by decide) (by decide)) (g := (mkF m 132 #[.val (.int p1), .val (.int p2), .val (.int p3), .val (.int p4), .val (.int p5), .val (.ref b1), .val (.int (0 : Int32)), .val (.int (4 : Int32)), .val (.int (4 : Int32)), .unset, .unset, .unset, .unset, .unset] [(.int (4 : Int32)), (.int (4 : Int32)), (.int (0 : Int32)), (.ref b1), (.long (((((c0.toInt64) * (29791 : Int64)) + ((c1.toInt64) * (961 : Int64))) + ((c2.toInt64) * (31 : Int64))) + ((c3.toInt64) * (1 : Int64))))])) rfl (by rw [hml]; rfl) (argsL := [(.ref b1), (.int (0 : Int32)), (.int (4 : Int32)), (.int (4 : Int32))]) (rest := [(.long (((((c0.toInt64) * (29791 : Int64)) + ((c1.toInt64) * (961 : Int64))) + ((c2.toInt64) * (31 : Int64))) + ((c3.toInt64) * (1 : Int64))))]) (lenOf own_pd1 rfl) rfl (by show 2 * 0 + _ ≤ _; exact Nat.le_of_eq rfl) (hb hby at_132) (fun _ _ => ⟨rfl, eq39, (by decide : 1 + 0 ≤ _), (by decide : 5 + 0 ≤ _)⟩)
      dsimp only [Pt.U, Pt.locs, Pt.cells, Pt.slots] at X40 l40 y40 z40 st40 hQ40
      subst l40 y40 z40
      obtain ⟨rfl, Nq40, eq40⟩ := hQ40
      refine OE.of (fun _ k => st40 _ k) ?_
      have N40 := Fr.app N39 Nq40
      show OE _ p e below s _ _ _ T40 (mkF m 135 #[.val (.int p1), .val (.int p2), .val (.int p3), .val (.int p4), .val (.int p5), .val (.ref b1), .val (.int (0 : Int32)), .val (.int (4 : Int32)), .val (.int (4 : Int32)), .unset, .unset, .unset, .unset, .unset] [(.long (0 : Int64)), (.long (((((c0.toInt64) * (29791 : Int64)) + ((c1.toInt64) * (961 : Int64))) + ((c2.toInt64) * (31 : Int64))) + ((c3.toInt64) * (1 : Int64))))])
      refine OE.ladd X40 hx hby at_135 ?_
      refine OE.lstore X40 hx hby at_136 (l' := #[.val (.int p1), .val (.int p2), .val (.int p3), .val (.int p4), .val (.int p5), .val (.ref b1), .val (.int (0 : Int32)), .val (.int (4 : Int32)), .val (.int (4 : Int32)), .val (.long ((((((c0.toInt64) * (29791 : Int64)) + ((c1.toInt64) * (961 : Int64))) + ((c2.toInt64) * (31 : Int64))) + ((c3.toInt64) * (1 : Int64))) + (0 : Int64))), .second, .unset, .unset, .unset]) rfl ?_
      refine OE.lload X40 hx hby at_138 rfl ?_
      refine OE.l2i X40 hx hby at_140 ?_
      rw [(own_poly4 c0 c1 c2 c3 : (((((((c0.toInt64) * (29791 : Int64)) + ((c1.toInt64) * (961 : Int64))) + ((c2.toInt64) * (31 : Int64))) + ((c3.toInt64) * (1 : Int64))) + (0 : Int64)).toInt32) = (((31 : Int32) * (((31 : Int32) * (((31 : Int32) * ((0 : Int32) + c0)) + c1)) + c2)) + c3))]
      show OE _ p e below s _ _ _ T40 (mkF m 141 #[.val (.int p1), .val (.int p2), .val (.int p3), .val (.int p4), .val (.int p5), .val (.ref b1), .val (.int (0 : Int32)), .val (.int (4 : Int32)), .val (.int (4 : Int32)), .val (.long ((((((c0.toInt64) * (29791 : Int64)) + ((c1.toInt64) * (961 : Int64))) + ((c2.toInt64) * (31 : Int64))) + ((c3.toInt64) * (1 : Int64))) + (0 : Int64))), .second, .unset, .unset, .unset] [(.int (((31 : Int32) * (((31 : Int32) * (((31 : Int32) * ((0 : Int32) + c0)) + c1)) + c2)) + c3))])
      refine OE.istore X40 hx hby at_141 (l' := #[.val (.int p1), .val (.int p2), .val (.int p3), .val (.int p4), .val (.int p5), .val (.ref b1), .val (.int (0 : Int32)), .val (.int (4 : Int32)), .val (.int (4 : Int32)), .val (.long ((((((c0.toInt64) * (29791 : Int64)) + ((c1.toInt64) * (961 : Int64))) + ((c2.toInt64) * (31 : Int64))) + ((c3.toInt64) * (1 : Int64))) + (0 : Int64))), .second, .val (.int (((31 : Int32) * (((31 : Int32) * (((31 : Int32) * ((0 : Int32) + c0)) + c1)) + c2)) + c3)), .unset, .unset]) rfl ?_
      refine OE.iload X40 hx hby at_143 rfl ?_
      refine OE.i2l X40 hx hby at_145 ?_
      refine OE.of (X40.ldc2Long hx hown (mvT hZ (hw _ (List.mem_of_getElem? (i := 7) rfl))) (g := (mkF m 146 #[.val (.int p1), .val (.int p2), .val (.int p3), .val (.int p4), .val (.int p5), .val (.ref b1), .val (.int (0 : Int32)), .val (.int (4 : Int32)), .val (.int (4 : Int32)), .val (.long ((((((c0.toInt64) * (29791 : Int64)) + ((c1.toInt64) * (961 : Int64))) + ((c2.toInt64) * (31 : Int64))) + ((c3.toInt64) * (1 : Int64))) + (0 : Int64))), .second, .val (.int (((31 : Int32) * (((31 : Int32) * (((31 : Int32) * ((0 : Int32) + c0)) + c1)) + c2)) + c3)), .unset, .unset] [(.long ((((31 : Int32) * (((31 : Int32) * (((31 : Int32) * ((0 : Int32) + c0)) + c1)) + c2)) + c3).toInt64))])) rfl (hb hby at_146)) ?_
      show OE _ p e below s _ _ _ T40 (mkF m 149 #[.val (.int p1), .val (.int p2), .val (.int p3), .val (.int p4), .val (.int p5), .val (.ref b1), .val (.int (0 : Int32)), .val (.int (4 : Int32)), .val (.int (4 : Int32)), .val (.long ((((((c0.toInt64) * (29791 : Int64)) + ((c1.toInt64) * (961 : Int64))) + ((c2.toInt64) * (31 : Int64))) + ((c3.toInt64) * (1 : Int64))) + (0 : Int64))), .second, .val (.int (((31 : Int32) * (((31 : Int32) * (((31 : Int32) * ((0 : Int32) + c0)) + c1)) + c2)) + c3)), .unset, .unset] [(.long (2654435769 : Int64)), (.long ((((31 : Int32) * (((31 : Int32) * (((31 : Int32) * ((0 : Int32) + c0)) + c1)) + c2)) + c3).toInt64))])
      refine OE.lmul X40 hx hby at_149 ?_
      refine OE.l2i X40 hx hby at_150 ?_
      rw [(own_mul _ : ((((((31 : Int32) * (((31 : Int32) * (((31 : Int32) * ((0 : Int32) + c0)) + c1)) + c2)) + c3).toInt64) * (2654435769 : Int64)).toInt32) = ((((31 : Int32) * (((31 : Int32) * (((31 : Int32) * ((0 : Int32) + c0)) + c1)) + c2)) + c3) * (-1640531527 : Int32)))]
      show OE _ p e below s _ _ _ T40 (mkF m 151 #[.val (.int p1), .val (.int p2), .val (.int p3), .val (.int p4), .val (.int p5), .val (.ref b1), .val (.int (0 : Int32)), .val (.int (4 : Int32)), .val (.int (4 : Int32)), .val (.long ((((((c0.toInt64) * (29791 : Int64)) + ((c1.toInt64) * (961 : Int64))) + ((c2.toInt64) * (31 : Int64))) + ((c3.toInt64) * (1 : Int64))) + (0 : Int64))), .second, .val (.int (((31 : Int32) * (((31 : Int32) * (((31 : Int32) * ((0 : Int32) + c0)) + c1)) + c2)) + c3)), .unset, .unset] [(.int ((((31 : Int32) * (((31 : Int32) * (((31 : Int32) * ((0 : Int32) + c0)) + c1)) + c2)) + c3) * (-1640531527 : Int32)))])
      refine OE.istore X40 hx hby at_151 (l' := #[.val (.int p1), .val (.int p2), .val (.int p3), .val (.int p4), .val (.int p5), .val (.ref b1), .val (.int (0 : Int32)), .val (.int (4 : Int32)), .val (.int (4 : Int32)), .val (.long ((((((c0.toInt64) * (29791 : Int64)) + ((c1.toInt64) * (961 : Int64))) + ((c2.toInt64) * (31 : Int64))) + ((c3.toInt64) * (1 : Int64))) + (0 : Int64))), .second, .val (.int (((31 : Int32) * (((31 : Int32) * (((31 : Int32) * ((0 : Int32) + c0)) + c1)) + c2)) + c3)), .val (.int ((((31 : Int32) * (((31 : Int32) * (((31 : Int32) * ((0 : Int32) + c0)) + c1)) + c2)) + c3) * (-1640531527 : Int32))), .unset]) rfl ?_
      refine OE.aload X40 hx hby at_153 rfl rfl ?_
      refine OE.iload X40 hx hby at_155 rfl ?_
      refine OE.iload X40 hx hby at_157 rfl ?_
      obtain ⟨_, _, ⟨T41, L41, k41, n41⟩, -, X41, ⟨Lc41, hQ41, l41, y41, z41⟩, st41⟩ := Jvm.LawKit.callS X40 hx (y := (⟨"com/example/archerfish/archerfish/index/TokenTable", "hash", "([CII)I"⟩ : MethodName)) hown (mvT hZ (hw _ (List.mem_of_getElem? (i := 8) rfl))) (mvT hZ (hw _ (List.mem_of_getElem? (i := 9) rfl))) (mvT hZ (hw _ (List.mem_of_getElem? (i := 10) rfl))) (mvT hZ (hw _ (List.mem_of_getElem? (i := 11) rfl))) (by decide) (backOf (W := 0) (own_rm2_0_4 l Z a0 hw [] b1 c0 c1 c2 c3 c4 k1 h6 n0 z35 Vc) hZ (hw _ (List.mem_of_getElem? (i := 11) rfl)) (hw _ (List.mem_of_getElem? (i := 10) rfl)) (by decide) (by decide)) (g := (mkF m 159 #[.val (.int p1), .val (.int p2), .val (.int p3), .val (.int p4), .val (.int p5), .val (.ref b1), .val (.int (0 : Int32)), .val (.int (4 : Int32)), .val (.int (4 : Int32)), .val (.long ((((((c0.toInt64) * (29791 : Int64)) + ((c1.toInt64) * (961 : Int64))) + ((c2.toInt64) * (31 : Int64))) + ((c3.toInt64) * (1 : Int64))) + (0 : Int64))), .second, .val (.int (((31 : Int32) * (((31 : Int32) * (((31 : Int32) * ((0 : Int32) + c0)) + c1)) + c2)) + c3)), .val (.int ((((31 : Int32) * (((31 : Int32) * (((31 : Int32) * ((0 : Int32) + c0)) + c1)) + c2)) + c3) * (-1640531527 : Int32))), .unset] [(.int (4 : Int32)), (.int (0 : Int32)), (.ref b1)])) rfl (by rw [hml]; rfl) (argsL := [(.ref b1), (.int (0 : Int32)), (.int (4 : Int32))]) (rest := []) (lenOf own_pd2 rfl) rfl (by show 2 * 0 + _ ≤ _; exact Nat.le_of_eq rfl) (hb hby at_159) (fun _ _ => ⟨rfl, eq40, (by decide : 1 + 0 ≤ _), (by decide : 5 + 0 ≤ _)⟩)
      dsimp only [Pt.U, Pt.locs, Pt.cells, Pt.slots] at X41 l41 y41 z41 st41 hQ41
      subst l41 y41 z41
      obtain ⟨rfl, Nq41, eq41⟩ := hQ41
      refine OE.of (fun _ k => st41 _ k) ?_
      have N41 := Fr.app N40 Nq41
      show OE _ p e below s _ _ _ T41 (mkF m 162 #[.val (.int p1), .val (.int p2), .val (.int p3), .val (.int p4), .val (.int p5), .val (.ref b1), .val (.int (0 : Int32)), .val (.int (4 : Int32)), .val (.int (4 : Int32)), .val (.long ((((((c0.toInt64) * (29791 : Int64)) + ((c1.toInt64) * (961 : Int64))) + ((c2.toInt64) * (31 : Int64))) + ((c3.toInt64) * (1 : Int64))) + (0 : Int64))), .second, .val (.int (((31 : Int32) * (((31 : Int32) * (((31 : Int32) * ((0 : Int32) + c0)) + c1)) + c2)) + c3)), .val (.int ((((31 : Int32) * (((31 : Int32) * (((31 : Int32) * ((0 : Int32) + c0)) + c1)) + c2)) + c3) * (-1640531527 : Int32))), .unset] [(.int (((((31 : Int32) * (((31 : Int32) * (((31 : Int32) * ((0 : Int32) + c0)) + c1)) + c2)) + c3) * (-1640531527 : Int32)) ^^^ ((((((31 : Int32) * (((31 : Int32) * (((31 : Int32) * ((0 : Int32) + c0)) + c1)) + c2)) + c3) * (-1640531527 : Int32)).toUInt32 >>> ((16 : Int32) &&& 31).toUInt32).toInt32)))])
      refine OE.istore X41 hx hby at_162 (l' := #[.val (.int p1), .val (.int p2), .val (.int p3), .val (.int p4), .val (.int p5), .val (.ref b1), .val (.int (0 : Int32)), .val (.int (4 : Int32)), .val (.int (4 : Int32)), .val (.long ((((((c0.toInt64) * (29791 : Int64)) + ((c1.toInt64) * (961 : Int64))) + ((c2.toInt64) * (31 : Int64))) + ((c3.toInt64) * (1 : Int64))) + (0 : Int64))), .second, .val (.int (((31 : Int32) * (((31 : Int32) * (((31 : Int32) * ((0 : Int32) + c0)) + c1)) + c2)) + c3)), .val (.int ((((31 : Int32) * (((31 : Int32) * (((31 : Int32) * ((0 : Int32) + c0)) + c1)) + c2)) + c3) * (-1640531527 : Int32))), .val (.int (((((31 : Int32) * (((31 : Int32) * (((31 : Int32) * ((0 : Int32) + c0)) + c1)) + c2)) + c3) * (-1640531527 : Int32)) ^^^ ((((((31 : Int32) * (((31 : Int32) * (((31 : Int32) * ((0 : Int32) + c0)) + c1)) + c2)) + c3) * (-1640531527 : Int32)).toUInt32 >>> ((16 : Int32) &&& 31).toUInt32).toInt32)))]) rfl ?_
      refine OE.iload X41 hx hby at_164 rfl ?_
      refine OE.bipush X41 hx hby at_166 (16 : Int32) rfl ?_
      refine OE.iushr X41 hx hby at_168 ?_
      refine OE.iload X41 hx hby at_169 rfl ?_
      refine OE.bipush X41 hx hby at_171 (16 : Int32) rfl ?_
      refine OE.iushr X41 hx hby at_173 ?_
      refine OE.icmpNo X41 hx hby at_174 (teq (own_top _ : (((((((31 : Int32) * (((31 : Int32) * (((31 : Int32) * ((0 : Int32) + c0)) + c1)) + c2)) + c3) * (-1640531527 : Int32)) ^^^ ((((((31 : Int32) * (((31 : Int32) * (((31 : Int32) * ((0 : Int32) + c0)) + c1)) + c2)) + c3) * (-1640531527 : Int32)).toUInt32 >>> ((16 : Int32) &&& 31).toUInt32).toInt32)).toUInt32 >>> ((16 : Int32) &&& 31).toUInt32).toInt32) = ((((((31 : Int32) * (((31 : Int32) * (((31 : Int32) * ((0 : Int32) + c0)) + c1)) + c2)) + c3) * (-1640531527 : Int32)).toUInt32 >>> ((16 : Int32) &&& 31).toUInt32).toInt32))).2 ?_
      refine OE.iload X41 hx hby at_177 rfl ?_
      refine OE.of (X41.ldcInt hx hown (mvT hZ (hw _ (List.mem_of_getElem? (i := 1) rfl))) (g := (mkF m 179 #[.val (.int p1), .val (.int p2), .val (.int p3), .val (.int p4), .val (.int p5), .val (.ref b1), .val (.int (0 : Int32)), .val (.int (4 : Int32)), .val (.int (4 : Int32)), .val (.long ((((((c0.toInt64) * (29791 : Int64)) + ((c1.toInt64) * (961 : Int64))) + ((c2.toInt64) * (31 : Int64))) + ((c3.toInt64) * (1 : Int64))) + (0 : Int64))), .second, .val (.int (((31 : Int32) * (((31 : Int32) * (((31 : Int32) * ((0 : Int32) + c0)) + c1)) + c2)) + c3)), .val (.int ((((31 : Int32) * (((31 : Int32) * (((31 : Int32) * ((0 : Int32) + c0)) + c1)) + c2)) + c3) * (-1640531527 : Int32))), .val (.int (((((31 : Int32) * (((31 : Int32) * (((31 : Int32) * ((0 : Int32) + c0)) + c1)) + c2)) + c3) * (-1640531527 : Int32)) ^^^ ((((((31 : Int32) * (((31 : Int32) * (((31 : Int32) * ((0 : Int32) + c0)) + c1)) + c2)) + c3) * (-1640531527 : Int32)).toUInt32 >>> ((16 : Int32) &&& 31).toUInt32).toInt32)))] [(.int (((((31 : Int32) * (((31 : Int32) * (((31 : Int32) * ((0 : Int32) + c0)) + c1)) + c2)) + c3) * (-1640531527 : Int32)) ^^^ ((((((31 : Int32) * (((31 : Int32) * (((31 : Int32) * ((0 : Int32) + c0)) + c1)) + c2)) + c3) * (-1640531527 : Int32)).toUInt32 >>> ((16 : Int32) &&& 31).toUInt32).toInt32)))])) rfl (hb hby at_179)) ?_
      show OE _ p e below s _ _ _ T41 (mkF m 181 #[.val (.int p1), .val (.int p2), .val (.int p3), .val (.int p4), .val (.int p5), .val (.ref b1), .val (.int (0 : Int32)), .val (.int (4 : Int32)), .val (.int (4 : Int32)), .val (.long ((((((c0.toInt64) * (29791 : Int64)) + ((c1.toInt64) * (961 : Int64))) + ((c2.toInt64) * (31 : Int64))) + ((c3.toInt64) * (1 : Int64))) + (0 : Int64))), .second, .val (.int (((31 : Int32) * (((31 : Int32) * (((31 : Int32) * ((0 : Int32) + c0)) + c1)) + c2)) + c3)), .val (.int ((((31 : Int32) * (((31 : Int32) * (((31 : Int32) * ((0 : Int32) + c0)) + c1)) + c2)) + c3) * (-1640531527 : Int32))), .val (.int (((((31 : Int32) * (((31 : Int32) * (((31 : Int32) * ((0 : Int32) + c0)) + c1)) + c2)) + c3) * (-1640531527 : Int32)) ^^^ ((((((31 : Int32) * (((31 : Int32) * (((31 : Int32) * ((0 : Int32) + c0)) + c1)) + c2)) + c3) * (-1640531527 : Int32)).toUInt32 >>> ((16 : Int32) &&& 31).toUInt32).toInt32)))] [(.int (65535 : Int32)), (.int (((((31 : Int32) * (((31 : Int32) * (((31 : Int32) * ((0 : Int32) + c0)) + c1)) + c2)) + c3) * (-1640531527 : Int32)) ^^^ ((((((31 : Int32) * (((31 : Int32) * (((31 : Int32) * ((0 : Int32) + c0)) + c1)) + c2)) + c3) * (-1640531527 : Int32)).toUInt32 >>> ((16 : Int32) &&& 31).toUInt32).toInt32)))])
      refine OE.iand X41 hx hby at_181 ?_
      refine OE.iload X41 hx hby at_182 rfl ?_
      refine OE.iload X41 hx hby at_184 rfl ?_
      refine OE.bipush X41 hx hby at_186 (16 : Int32) rfl ?_
      refine OE.iushr X41 hx hby at_188 ?_
      refine OE.ixor X41 hx hby at_189 ?_
      refine OE.of (X41.ldcInt hx hown (mvT hZ (hw _ (List.mem_of_getElem? (i := 1) rfl))) (g := (mkF m 190 #[.val (.int p1), .val (.int p2), .val (.int p3), .val (.int p4), .val (.int p5), .val (.ref b1), .val (.int (0 : Int32)), .val (.int (4 : Int32)), .val (.int (4 : Int32)), .val (.long ((((((c0.toInt64) * (29791 : Int64)) + ((c1.toInt64) * (961 : Int64))) + ((c2.toInt64) * (31 : Int64))) + ((c3.toInt64) * (1 : Int64))) + (0 : Int64))), .second, .val (.int (((31 : Int32) * (((31 : Int32) * (((31 : Int32) * ((0 : Int32) + c0)) + c1)) + c2)) + c3)), .val (.int ((((31 : Int32) * (((31 : Int32) * (((31 : Int32) * ((0 : Int32) + c0)) + c1)) + c2)) + c3) * (-1640531527 : Int32))), .val (.int (((((31 : Int32) * (((31 : Int32) * (((31 : Int32) * ((0 : Int32) + c0)) + c1)) + c2)) + c3) * (-1640531527 : Int32)) ^^^ ((((((31 : Int32) * (((31 : Int32) * (((31 : Int32) * ((0 : Int32) + c0)) + c1)) + c2)) + c3) * (-1640531527 : Int32)).toUInt32 >>> ((16 : Int32) &&& 31).toUInt32).toInt32)))] [(.int (((((31 : Int32) * (((31 : Int32) * (((31 : Int32) * ((0 : Int32) + c0)) + c1)) + c2)) + c3) * (-1640531527 : Int32)) ^^^ ((((((31 : Int32) * (((31 : Int32) * (((31 : Int32) * ((0 : Int32) + c0)) + c1)) + c2)) + c3) * (-1640531527 : Int32)).toUInt32 >>> ((16 : Int32) &&& 31).toUInt32).toInt32))), (.int ((((((31 : Int32) * (((31 : Int32) * (((31 : Int32) * ((0 : Int32) + c0)) + c1)) + c2)) + c3) * (-1640531527 : Int32)) ^^^ ((((((31 : Int32) * (((31 : Int32) * (((31 : Int32) * ((0 : Int32) + c0)) + c1)) + c2)) + c3) * (-1640531527 : Int32)).toUInt32 >>> ((16 : Int32) &&& 31).toUInt32).toInt32)) &&& (65535 : Int32)))])) rfl (hb hby at_190)) ?_
      show OE _ p e below s _ _ _ T41 (mkF m 192 #[.val (.int p1), .val (.int p2), .val (.int p3), .val (.int p4), .val (.int p5), .val (.ref b1), .val (.int (0 : Int32)), .val (.int (4 : Int32)), .val (.int (4 : Int32)), .val (.long ((((((c0.toInt64) * (29791 : Int64)) + ((c1.toInt64) * (961 : Int64))) + ((c2.toInt64) * (31 : Int64))) + ((c3.toInt64) * (1 : Int64))) + (0 : Int64))), .second, .val (.int (((31 : Int32) * (((31 : Int32) * (((31 : Int32) * ((0 : Int32) + c0)) + c1)) + c2)) + c3)), .val (.int ((((31 : Int32) * (((31 : Int32) * (((31 : Int32) * ((0 : Int32) + c0)) + c1)) + c2)) + c3) * (-1640531527 : Int32))), .val (.int (((((31 : Int32) * (((31 : Int32) * (((31 : Int32) * ((0 : Int32) + c0)) + c1)) + c2)) + c3) * (-1640531527 : Int32)) ^^^ ((((((31 : Int32) * (((31 : Int32) * (((31 : Int32) * ((0 : Int32) + c0)) + c1)) + c2)) + c3) * (-1640531527 : Int32)).toUInt32 >>> ((16 : Int32) &&& 31).toUInt32).toInt32)))] [(.int (65535 : Int32)), (.int (((((31 : Int32) * (((31 : Int32) * (((31 : Int32) * ((0 : Int32) + c0)) + c1)) + c2)) + c3) * (-1640531527 : Int32)) ^^^ ((((((31 : Int32) * (((31 : Int32) * (((31 : Int32) * ((0 : Int32) + c0)) + c1)) + c2)) + c3) * (-1640531527 : Int32)).toUInt32 >>> ((16 : Int32) &&& 31).toUInt32).toInt32))), (.int ((((((31 : Int32) * (((31 : Int32) * (((31 : Int32) * ((0 : Int32) + c0)) + c1)) + c2)) + c3) * (-1640531527 : Int32)) ^^^ ((((((31 : Int32) * (((31 : Int32) * (((31 : Int32) * ((0 : Int32) + c0)) + c1)) + c2)) + c3) * (-1640531527 : Int32)).toUInt32 >>> ((16 : Int32) &&& 31).toUInt32).toInt32)) &&& (65535 : Int32)))])
      refine OE.iand X41 hx hby at_192 ?_
      refine OE.icmpNo X41 hx hby at_193 (teq (rfl : ((((((31 : Int32) * (((31 : Int32) * (((31 : Int32) * ((0 : Int32) + c0)) + c1)) + c2)) + c3) * (-1640531527 : Int32)) ^^^ ((((((31 : Int32) * (((31 : Int32) * (((31 : Int32) * ((0 : Int32) + c0)) + c1)) + c2)) + c3) * (-1640531527 : Int32)).toUInt32 >>> ((16 : Int32) &&& 31).toUInt32).toInt32)) &&& (65535 : Int32)) = ((((((31 : Int32) * (((31 : Int32) * (((31 : Int32) * ((0 : Int32) + c0)) + c1)) + c2)) + c3) * (-1640531527 : Int32)) ^^^ ((((((31 : Int32) * (((31 : Int32) * (((31 : Int32) * ((0 : Int32) + c0)) + c1)) + c2)) + c3) * (-1640531527 : Int32)).toUInt32 >>> ((16 : Int32) &&& 31).toUInt32).toInt32)) &&& (65535 : Int32)))).2 ?_
      refine OE.iconst X41 hx hby at_196 (1 : Int32) rfl ?_
      refine OE.goto X41 hx hby (pc' := 201) at_197 (h := ?_)
      refine OE.retN X41 hx (t := .boolean) Bd.returns (by simp) Bd.notSynchronized (hb hby at_201) (by decide) (by decide) ?_
      rw [eq41]
      exact ⟨rfl, N41⟩
    · rw [hm]
      show OE _ p e below s _ _ _ T6 (mkF m 72 #[.val (.int p1), .val (.int p2), .val (.int p3), .val (.int p4), .val (.int p5), .val (.ref b1), .val (.int (0 : Int32)), .unset, .unset, .unset, .unset, .unset, .unset, .unset] [(.int (5 : Int32)), (.int (0 : Int32))])
      refine OE.iadd X6 hx hby at_72 ?_
      rw [(by decide : ((0 : Int32) + (5 : Int32)) = (5 : Int32))]
      refine OE.istore X6 hx hby at_73 (l' := #[.val (.int p1), .val (.int p2), .val (.int p3), .val (.int p4), .val (.int p5), .val (.ref b1), .val (.int (0 : Int32)), .val (.int (5 : Int32)), .unset, .unset, .unset, .unset, .unset, .unset]) rfl ?_
      refine OE.iload X6 hx hby at_75 rfl ?_
      refine OE.iload X6 hx hby at_77 rfl ?_
      refine OE.isub X6 hx hby at_79 ?_
      rw [(by decide : ((5 : Int32) - (0 : Int32)) = (5 : Int32))]
      refine OE.istore X6 hx hby at_80 (l' := #[.val (.int p1), .val (.int p2), .val (.int p3), .val (.int p4), .val (.int p5), .val (.ref b1), .val (.int (0 : Int32)), .val (.int (5 : Int32)), .val (.int (5 : Int32)), .unset, .unset, .unset, .unset, .unset]) rfl ?_
      refine OE.aload X6 hx hby at_82 rfl rfl ?_
      refine OE.iload X6 hx hby at_84 rfl ?_
      refine OE.iload X6 hx hby at_86 rfl ?_
      refine OE.iconst X6 hx hby at_88 (0 : Int32) rfl ?_
      have z42 : n0 ≤ h6.size := (Nat.le_trans (Nat.le_trans (Nat.le_trans (Nat.le_trans (Nat.le_trans (Nat.le_trans Z0 E1.1) (Nat.le_of_eq W2.size.symm)) (Nat.le_of_eq W3.size.symm)) (Nat.le_of_eq W4.size.symm)) (Nat.le_of_eq W5.size.symm)) (Nat.le_of_eq W6.size.symm))
      obtain ⟨_, _, ⟨T43, L43, k43, n43⟩, -, X43, ⟨Lc43, hQ43, l43, y43, z43⟩, st43⟩ := Jvm.LawKit.callS X6 hx (y := (⟨"com/example/archerfish/archerfish/index/TokenTableHashPinLaw", "term", "([CIII)J"⟩ : MethodName)) hown (mvT hZ (hw _ (List.mem_of_getElem? (i := 3) rfl))) (mvT hZ (hw _ (List.mem_of_getElem? (i := 4) rfl))) (mvT hZ (hw _ (List.mem_of_getElem? (i := 5) rfl))) (mvT hZ (hw _ (List.mem_of_getElem? (i := 6) rfl))) (by decide) (backOf (W := 0) (own_rm1_5_0 l Z a0 hw [] b1 (0 : Int32) c0 k1 [(.int c0), (.int c1), (.int c2), (.int c3), (.int c4)] h6 n0 z42 Vc ⟨by decide, by decide⟩ rfl) hZ (hw _ (List.mem_of_getElem? (i := 6) rfl)) (hw _ (List.mem_of_getElem? (i := 5) rfl)) (by decide) (by decide)) (g := (mkF m 89 #[.val (.int p1), .val (.int p2), .val (.int p3), .val (.int p4), .val (.int p5), .val (.ref b1), .val (.int (0 : Int32)), .val (.int (5 : Int32)), .val (.int (5 : Int32)), .unset, .unset, .unset, .unset, .unset] [(.int (0 : Int32)), (.int (5 : Int32)), (.int (0 : Int32)), (.ref b1)])) rfl (by rw [hml]; rfl) (argsL := [(.ref b1), (.int (0 : Int32)), (.int (5 : Int32)), (.int (0 : Int32))]) (rest := []) (lenOf own_pd1 rfl) rfl (by show 2 * 0 + _ ≤ _; exact Nat.le_of_eq rfl) (hb hby at_89) (fun _ _ => ⟨rfl, e6, (by decide : 1 + 0 ≤ _), (by decide : 5 + 0 ≤ _)⟩)
      dsimp only [Pt.U, Pt.locs, Pt.cells, Pt.slots] at X43 l43 y43 z43 st43 hQ43
      subst l43 y43 z43
      obtain ⟨rfl, Nq43, eq43⟩ := hQ43
      refine OE.of (fun _ k => st43 _ k) ?_
      have N43 := Fr.app N6 Nq43
      show OE _ p e below s _ _ _ T43 (mkF m 92 #[.val (.int p1), .val (.int p2), .val (.int p3), .val (.int p4), .val (.int p5), .val (.ref b1), .val (.int (0 : Int32)), .val (.int (5 : Int32)), .val (.int (5 : Int32)), .unset, .unset, .unset, .unset, .unset] [(.long ((c0.toInt64) * (923521 : Int64)))])
      refine OE.aload X43 hx hby at_92 rfl rfl ?_
      refine OE.iload X43 hx hby at_94 rfl ?_
      refine OE.iload X43 hx hby at_96 rfl ?_
      refine OE.iconst X43 hx hby at_98 (1 : Int32) rfl ?_
      obtain ⟨_, _, ⟨T44, L44, k44, n44⟩, -, X44, ⟨Lc44, hQ44, l44, y44, z44⟩, st44⟩ := Jvm.LawKit.callS X43 hx (y := (⟨"com/example/archerfish/archerfish/index/TokenTableHashPinLaw", "term", "([CIII)J"⟩ : MethodName)) hown (mvT hZ (hw _ (List.mem_of_getElem? (i := 3) rfl))) (mvT hZ (hw _ (List.mem_of_getElem? (i := 4) rfl))) (mvT hZ (hw _ (List.mem_of_getElem? (i := 5) rfl))) (mvT hZ (hw _ (List.mem_of_getElem? (i := 6) rfl))) (by decide) (backOf (W := 2) (own_rm1_5_1 l Z a0 hw [] b1 (0 : Int32) c1 k1 [(.int c0), (.int c1), (.int c2), (.int c3), (.int c4)] h6 n0 z42 Vc ⟨by decide, by decide⟩ rfl) hZ (hw _ (List.mem_of_getElem? (i := 6) rfl)) (hw _ (List.mem_of_getElem? (i := 5) rfl)) (by decide) (by decide)) (g := (mkF m 99 #[.val (.int p1), .val (.int p2), .val (.int p3), .val (.int p4), .val (.int p5), .val (.ref b1), .val (.int (0 : Int32)), .val (.int (5 : Int32)), .val (.int (5 : Int32)), .unset, .unset, .unset, .unset, .unset] [(.int (1 : Int32)), (.int (5 : Int32)), (.int (0 : Int32)), (.ref b1), (.long ((c0.toInt64) * (923521 : Int64)))])) rfl (by rw [hml]; rfl) (argsL := [(.ref b1), (.int (0 : Int32)), (.int (5 : Int32)), (.int (1 : Int32))]) (rest := [(.long ((c0.toInt64) * (923521 : Int64)))]) (lenOf own_pd1 rfl) rfl (by show 2 * 0 + _ ≤ _; exact Nat.le_of_eq rfl) (hb hby at_99) (fun _ _ => ⟨rfl, eq43, (by decide : 1 + 0 ≤ _), (by decide : 5 + 0 ≤ _)⟩)
      dsimp only [Pt.U, Pt.locs, Pt.cells, Pt.slots] at X44 l44 y44 z44 st44 hQ44
      subst l44 y44 z44
      obtain ⟨rfl, Nq44, eq44⟩ := hQ44
      refine OE.of (fun _ k => st44 _ k) ?_
      have N44 := Fr.app N43 Nq44
      show OE _ p e below s _ _ _ T44 (mkF m 102 #[.val (.int p1), .val (.int p2), .val (.int p3), .val (.int p4), .val (.int p5), .val (.ref b1), .val (.int (0 : Int32)), .val (.int (5 : Int32)), .val (.int (5 : Int32)), .unset, .unset, .unset, .unset, .unset] [(.long ((c1.toInt64) * (29791 : Int64))), (.long ((c0.toInt64) * (923521 : Int64)))])
      refine OE.ladd X44 hx hby at_102 ?_
      refine OE.aload X44 hx hby at_103 rfl rfl ?_
      refine OE.iload X44 hx hby at_105 rfl ?_
      refine OE.iload X44 hx hby at_107 rfl ?_
      refine OE.iconst X44 hx hby at_109 (2 : Int32) rfl ?_
      obtain ⟨_, _, ⟨T45, L45, k45, n45⟩, -, X45, ⟨Lc45, hQ45, l45, y45, z45⟩, st45⟩ := Jvm.LawKit.callS X44 hx (y := (⟨"com/example/archerfish/archerfish/index/TokenTableHashPinLaw", "term", "([CIII)J"⟩ : MethodName)) hown (mvT hZ (hw _ (List.mem_of_getElem? (i := 3) rfl))) (mvT hZ (hw _ (List.mem_of_getElem? (i := 4) rfl))) (mvT hZ (hw _ (List.mem_of_getElem? (i := 5) rfl))) (mvT hZ (hw _ (List.mem_of_getElem? (i := 6) rfl))) (by decide) (backOf (W := 2) (own_rm1_5_2 l Z a0 hw [] b1 (0 : Int32) c2 k1 [(.int c0), (.int c1), (.int c2), (.int c3), (.int c4)] h6 n0 z42 Vc ⟨by decide, by decide⟩ rfl) hZ (hw _ (List.mem_of_getElem? (i := 6) rfl)) (hw _ (List.mem_of_getElem? (i := 5) rfl)) (by decide) (by decide)) (g := (mkF m 110 #[.val (.int p1), .val (.int p2), .val (.int p3), .val (.int p4), .val (.int p5), .val (.ref b1), .val (.int (0 : Int32)), .val (.int (5 : Int32)), .val (.int (5 : Int32)), .unset, .unset, .unset, .unset, .unset] [(.int (2 : Int32)), (.int (5 : Int32)), (.int (0 : Int32)), (.ref b1), (.long (((c0.toInt64) * (923521 : Int64)) + ((c1.toInt64) * (29791 : Int64))))])) rfl (by rw [hml]; rfl) (argsL := [(.ref b1), (.int (0 : Int32)), (.int (5 : Int32)), (.int (2 : Int32))]) (rest := [(.long (((c0.toInt64) * (923521 : Int64)) + ((c1.toInt64) * (29791 : Int64))))]) (lenOf own_pd1 rfl) rfl (by show 2 * 0 + _ ≤ _; exact Nat.le_of_eq rfl) (hb hby at_110) (fun _ _ => ⟨rfl, eq44, (by decide : 1 + 0 ≤ _), (by decide : 5 + 0 ≤ _)⟩)
      dsimp only [Pt.U, Pt.locs, Pt.cells, Pt.slots] at X45 l45 y45 z45 st45 hQ45
      subst l45 y45 z45
      obtain ⟨rfl, Nq45, eq45⟩ := hQ45
      refine OE.of (fun _ k => st45 _ k) ?_
      have N45 := Fr.app N44 Nq45
      show OE _ p e below s _ _ _ T45 (mkF m 113 #[.val (.int p1), .val (.int p2), .val (.int p3), .val (.int p4), .val (.int p5), .val (.ref b1), .val (.int (0 : Int32)), .val (.int (5 : Int32)), .val (.int (5 : Int32)), .unset, .unset, .unset, .unset, .unset] [(.long ((c2.toInt64) * (961 : Int64))), (.long (((c0.toInt64) * (923521 : Int64)) + ((c1.toInt64) * (29791 : Int64))))])
      refine OE.ladd X45 hx hby at_113 ?_
      refine OE.aload X45 hx hby at_114 rfl rfl ?_
      refine OE.iload X45 hx hby at_116 rfl ?_
      refine OE.iload X45 hx hby at_118 rfl ?_
      refine OE.iconst X45 hx hby at_120 (3 : Int32) rfl ?_
      obtain ⟨_, _, ⟨T46, L46, k46, n46⟩, -, X46, ⟨Lc46, hQ46, l46, y46, z46⟩, st46⟩ := Jvm.LawKit.callS X45 hx (y := (⟨"com/example/archerfish/archerfish/index/TokenTableHashPinLaw", "term", "([CIII)J"⟩ : MethodName)) hown (mvT hZ (hw _ (List.mem_of_getElem? (i := 3) rfl))) (mvT hZ (hw _ (List.mem_of_getElem? (i := 4) rfl))) (mvT hZ (hw _ (List.mem_of_getElem? (i := 5) rfl))) (mvT hZ (hw _ (List.mem_of_getElem? (i := 6) rfl))) (by decide) (backOf (W := 2) (own_rm1_5_3 l Z a0 hw [] b1 (0 : Int32) c3 k1 [(.int c0), (.int c1), (.int c2), (.int c3), (.int c4)] h6 n0 z42 Vc ⟨by decide, by decide⟩ rfl) hZ (hw _ (List.mem_of_getElem? (i := 6) rfl)) (hw _ (List.mem_of_getElem? (i := 5) rfl)) (by decide) (by decide)) (g := (mkF m 121 #[.val (.int p1), .val (.int p2), .val (.int p3), .val (.int p4), .val (.int p5), .val (.ref b1), .val (.int (0 : Int32)), .val (.int (5 : Int32)), .val (.int (5 : Int32)), .unset, .unset, .unset, .unset, .unset] [(.int (3 : Int32)), (.int (5 : Int32)), (.int (0 : Int32)), (.ref b1), (.long ((((c0.toInt64) * (923521 : Int64)) + ((c1.toInt64) * (29791 : Int64))) + ((c2.toInt64) * (961 : Int64))))])) rfl (by rw [hml]; rfl) (argsL := [(.ref b1), (.int (0 : Int32)), (.int (5 : Int32)), (.int (3 : Int32))]) (rest := [(.long ((((c0.toInt64) * (923521 : Int64)) + ((c1.toInt64) * (29791 : Int64))) + ((c2.toInt64) * (961 : Int64))))]) (lenOf own_pd1 rfl) rfl (by show 2 * 0 + _ ≤ _; exact Nat.le_of_eq rfl) (hb hby at_121) (fun _ _ => ⟨rfl, eq45, (by decide : 1 + 0 ≤ _), (by decide : 5 + 0 ≤ _)⟩)
      dsimp only [Pt.U, Pt.locs, Pt.cells, Pt.slots] at X46 l46 y46 z46 st46 hQ46
      subst l46 y46 z46
      obtain ⟨rfl, Nq46, eq46⟩ := hQ46
      refine OE.of (fun _ k => st46 _ k) ?_
      have N46 := Fr.app N45 Nq46
      show OE _ p e below s _ _ _ T46 (mkF m 124 #[.val (.int p1), .val (.int p2), .val (.int p3), .val (.int p4), .val (.int p5), .val (.ref b1), .val (.int (0 : Int32)), .val (.int (5 : Int32)), .val (.int (5 : Int32)), .unset, .unset, .unset, .unset, .unset] [(.long ((c3.toInt64) * (31 : Int64))), (.long ((((c0.toInt64) * (923521 : Int64)) + ((c1.toInt64) * (29791 : Int64))) + ((c2.toInt64) * (961 : Int64))))])
      refine OE.ladd X46 hx hby at_124 ?_
      refine OE.aload X46 hx hby at_125 rfl rfl ?_
      refine OE.iload X46 hx hby at_127 rfl ?_
      refine OE.iload X46 hx hby at_129 rfl ?_
      refine OE.iconst X46 hx hby at_131 (4 : Int32) rfl ?_
      obtain ⟨_, _, ⟨T47, L47, k47, n47⟩, -, X47, ⟨Lc47, hQ47, l47, y47, z47⟩, st47⟩ := Jvm.LawKit.callS X46 hx (y := (⟨"com/example/archerfish/archerfish/index/TokenTableHashPinLaw", "term", "([CIII)J"⟩ : MethodName)) hown (mvT hZ (hw _ (List.mem_of_getElem? (i := 3) rfl))) (mvT hZ (hw _ (List.mem_of_getElem? (i := 4) rfl))) (mvT hZ (hw _ (List.mem_of_getElem? (i := 5) rfl))) (mvT hZ (hw _ (List.mem_of_getElem? (i := 6) rfl))) (by decide) (backOf (W := 2) (own_rm1_5_4 l Z a0 hw [] b1 (0 : Int32) c4 k1 [(.int c0), (.int c1), (.int c2), (.int c3), (.int c4)] h6 n0 z42 Vc ⟨by decide, by decide⟩ rfl) hZ (hw _ (List.mem_of_getElem? (i := 6) rfl)) (hw _ (List.mem_of_getElem? (i := 5) rfl)) (by decide) (by decide)) (g := (mkF m 132 #[.val (.int p1), .val (.int p2), .val (.int p3), .val (.int p4), .val (.int p5), .val (.ref b1), .val (.int (0 : Int32)), .val (.int (5 : Int32)), .val (.int (5 : Int32)), .unset, .unset, .unset, .unset, .unset] [(.int (4 : Int32)), (.int (5 : Int32)), (.int (0 : Int32)), (.ref b1), (.long (((((c0.toInt64) * (923521 : Int64)) + ((c1.toInt64) * (29791 : Int64))) + ((c2.toInt64) * (961 : Int64))) + ((c3.toInt64) * (31 : Int64))))])) rfl (by rw [hml]; rfl) (argsL := [(.ref b1), (.int (0 : Int32)), (.int (5 : Int32)), (.int (4 : Int32))]) (rest := [(.long (((((c0.toInt64) * (923521 : Int64)) + ((c1.toInt64) * (29791 : Int64))) + ((c2.toInt64) * (961 : Int64))) + ((c3.toInt64) * (31 : Int64))))]) (lenOf own_pd1 rfl) rfl (by show 2 * 0 + _ ≤ _; exact Nat.le_of_eq rfl) (hb hby at_132) (fun _ _ => ⟨rfl, eq46, (by decide : 1 + 0 ≤ _), (by decide : 5 + 0 ≤ _)⟩)
      dsimp only [Pt.U, Pt.locs, Pt.cells, Pt.slots] at X47 l47 y47 z47 st47 hQ47
      subst l47 y47 z47
      obtain ⟨rfl, Nq47, eq47⟩ := hQ47
      refine OE.of (fun _ k => st47 _ k) ?_
      have N47 := Fr.app N46 Nq47
      show OE _ p e below s _ _ _ T47 (mkF m 135 #[.val (.int p1), .val (.int p2), .val (.int p3), .val (.int p4), .val (.int p5), .val (.ref b1), .val (.int (0 : Int32)), .val (.int (5 : Int32)), .val (.int (5 : Int32)), .unset, .unset, .unset, .unset, .unset] [(.long ((c4.toInt64) * (1 : Int64))), (.long (((((c0.toInt64) * (923521 : Int64)) + ((c1.toInt64) * (29791 : Int64))) + ((c2.toInt64) * (961 : Int64))) + ((c3.toInt64) * (31 : Int64))))])
      refine OE.ladd X47 hx hby at_135 ?_
      refine OE.lstore X47 hx hby at_136 (l' := #[.val (.int p1), .val (.int p2), .val (.int p3), .val (.int p4), .val (.int p5), .val (.ref b1), .val (.int (0 : Int32)), .val (.int (5 : Int32)), .val (.int (5 : Int32)), .val (.long ((((((c0.toInt64) * (923521 : Int64)) + ((c1.toInt64) * (29791 : Int64))) + ((c2.toInt64) * (961 : Int64))) + ((c3.toInt64) * (31 : Int64))) + ((c4.toInt64) * (1 : Int64)))), .second, .unset, .unset, .unset]) rfl ?_
      refine OE.lload X47 hx hby at_138 rfl ?_
      refine OE.l2i X47 hx hby at_140 ?_
      rw [(own_poly5 c0 c1 c2 c3 c4 : (((((((c0.toInt64) * (923521 : Int64)) + ((c1.toInt64) * (29791 : Int64))) + ((c2.toInt64) * (961 : Int64))) + ((c3.toInt64) * (31 : Int64))) + ((c4.toInt64) * (1 : Int64))).toInt32) = (((31 : Int32) * (((31 : Int32) * (((31 : Int32) * (((31 : Int32) * ((0 : Int32) + c0)) + c1)) + c2)) + c3)) + c4))]
      show OE _ p e below s _ _ _ T47 (mkF m 141 #[.val (.int p1), .val (.int p2), .val (.int p3), .val (.int p4), .val (.int p5), .val (.ref b1), .val (.int (0 : Int32)), .val (.int (5 : Int32)), .val (.int (5 : Int32)), .val (.long ((((((c0.toInt64) * (923521 : Int64)) + ((c1.toInt64) * (29791 : Int64))) + ((c2.toInt64) * (961 : Int64))) + ((c3.toInt64) * (31 : Int64))) + ((c4.toInt64) * (1 : Int64)))), .second, .unset, .unset, .unset] [(.int (((31 : Int32) * (((31 : Int32) * (((31 : Int32) * (((31 : Int32) * ((0 : Int32) + c0)) + c1)) + c2)) + c3)) + c4))])
      refine OE.istore X47 hx hby at_141 (l' := #[.val (.int p1), .val (.int p2), .val (.int p3), .val (.int p4), .val (.int p5), .val (.ref b1), .val (.int (0 : Int32)), .val (.int (5 : Int32)), .val (.int (5 : Int32)), .val (.long ((((((c0.toInt64) * (923521 : Int64)) + ((c1.toInt64) * (29791 : Int64))) + ((c2.toInt64) * (961 : Int64))) + ((c3.toInt64) * (31 : Int64))) + ((c4.toInt64) * (1 : Int64)))), .second, .val (.int (((31 : Int32) * (((31 : Int32) * (((31 : Int32) * (((31 : Int32) * ((0 : Int32) + c0)) + c1)) + c2)) + c3)) + c4)), .unset, .unset]) rfl ?_
      refine OE.iload X47 hx hby at_143 rfl ?_
      refine OE.i2l X47 hx hby at_145 ?_
      refine OE.of (X47.ldc2Long hx hown (mvT hZ (hw _ (List.mem_of_getElem? (i := 7) rfl))) (g := (mkF m 146 #[.val (.int p1), .val (.int p2), .val (.int p3), .val (.int p4), .val (.int p5), .val (.ref b1), .val (.int (0 : Int32)), .val (.int (5 : Int32)), .val (.int (5 : Int32)), .val (.long ((((((c0.toInt64) * (923521 : Int64)) + ((c1.toInt64) * (29791 : Int64))) + ((c2.toInt64) * (961 : Int64))) + ((c3.toInt64) * (31 : Int64))) + ((c4.toInt64) * (1 : Int64)))), .second, .val (.int (((31 : Int32) * (((31 : Int32) * (((31 : Int32) * (((31 : Int32) * ((0 : Int32) + c0)) + c1)) + c2)) + c3)) + c4)), .unset, .unset] [(.long ((((31 : Int32) * (((31 : Int32) * (((31 : Int32) * (((31 : Int32) * ((0 : Int32) + c0)) + c1)) + c2)) + c3)) + c4).toInt64))])) rfl (hb hby at_146)) ?_
      show OE _ p e below s _ _ _ T47 (mkF m 149 #[.val (.int p1), .val (.int p2), .val (.int p3), .val (.int p4), .val (.int p5), .val (.ref b1), .val (.int (0 : Int32)), .val (.int (5 : Int32)), .val (.int (5 : Int32)), .val (.long ((((((c0.toInt64) * (923521 : Int64)) + ((c1.toInt64) * (29791 : Int64))) + ((c2.toInt64) * (961 : Int64))) + ((c3.toInt64) * (31 : Int64))) + ((c4.toInt64) * (1 : Int64)))), .second, .val (.int (((31 : Int32) * (((31 : Int32) * (((31 : Int32) * (((31 : Int32) * ((0 : Int32) + c0)) + c1)) + c2)) + c3)) + c4)), .unset, .unset] [(.long (2654435769 : Int64)), (.long ((((31 : Int32) * (((31 : Int32) * (((31 : Int32) * (((31 : Int32) * ((0 : Int32) + c0)) + c1)) + c2)) + c3)) + c4).toInt64))])
      refine OE.lmul X47 hx hby at_149 ?_
      refine OE.l2i X47 hx hby at_150 ?_
      rw [(own_mul _ : ((((((31 : Int32) * (((31 : Int32) * (((31 : Int32) * (((31 : Int32) * ((0 : Int32) + c0)) + c1)) + c2)) + c3)) + c4).toInt64) * (2654435769 : Int64)).toInt32) = ((((31 : Int32) * (((31 : Int32) * (((31 : Int32) * (((31 : Int32) * ((0 : Int32) + c0)) + c1)) + c2)) + c3)) + c4) * (-1640531527 : Int32)))]
      show OE _ p e below s _ _ _ T47 (mkF m 151 #[.val (.int p1), .val (.int p2), .val (.int p3), .val (.int p4), .val (.int p5), .val (.ref b1), .val (.int (0 : Int32)), .val (.int (5 : Int32)), .val (.int (5 : Int32)), .val (.long ((((((c0.toInt64) * (923521 : Int64)) + ((c1.toInt64) * (29791 : Int64))) + ((c2.toInt64) * (961 : Int64))) + ((c3.toInt64) * (31 : Int64))) + ((c4.toInt64) * (1 : Int64)))), .second, .val (.int (((31 : Int32) * (((31 : Int32) * (((31 : Int32) * (((31 : Int32) * ((0 : Int32) + c0)) + c1)) + c2)) + c3)) + c4)), .unset, .unset] [(.int ((((31 : Int32) * (((31 : Int32) * (((31 : Int32) * (((31 : Int32) * ((0 : Int32) + c0)) + c1)) + c2)) + c3)) + c4) * (-1640531527 : Int32)))])
      refine OE.istore X47 hx hby at_151 (l' := #[.val (.int p1), .val (.int p2), .val (.int p3), .val (.int p4), .val (.int p5), .val (.ref b1), .val (.int (0 : Int32)), .val (.int (5 : Int32)), .val (.int (5 : Int32)), .val (.long ((((((c0.toInt64) * (923521 : Int64)) + ((c1.toInt64) * (29791 : Int64))) + ((c2.toInt64) * (961 : Int64))) + ((c3.toInt64) * (31 : Int64))) + ((c4.toInt64) * (1 : Int64)))), .second, .val (.int (((31 : Int32) * (((31 : Int32) * (((31 : Int32) * (((31 : Int32) * ((0 : Int32) + c0)) + c1)) + c2)) + c3)) + c4)), .val (.int ((((31 : Int32) * (((31 : Int32) * (((31 : Int32) * (((31 : Int32) * ((0 : Int32) + c0)) + c1)) + c2)) + c3)) + c4) * (-1640531527 : Int32))), .unset]) rfl ?_
      refine OE.aload X47 hx hby at_153 rfl rfl ?_
      refine OE.iload X47 hx hby at_155 rfl ?_
      refine OE.iload X47 hx hby at_157 rfl ?_
      obtain ⟨_, _, ⟨T48, L48, k48, n48⟩, -, X48, ⟨Lc48, hQ48, l48, y48, z48⟩, st48⟩ := Jvm.LawKit.callS X47 hx (y := (⟨"com/example/archerfish/archerfish/index/TokenTable", "hash", "([CII)I"⟩ : MethodName)) hown (mvT hZ (hw _ (List.mem_of_getElem? (i := 8) rfl))) (mvT hZ (hw _ (List.mem_of_getElem? (i := 9) rfl))) (mvT hZ (hw _ (List.mem_of_getElem? (i := 10) rfl))) (mvT hZ (hw _ (List.mem_of_getElem? (i := 11) rfl))) (by decide) (backOf (W := 0) (own_rm2_0_5 l Z a0 hw [] b1 c0 c1 c2 c3 c4 k1 h6 n0 z42 Vc) hZ (hw _ (List.mem_of_getElem? (i := 11) rfl)) (hw _ (List.mem_of_getElem? (i := 10) rfl)) (by decide) (by decide)) (g := (mkF m 159 #[.val (.int p1), .val (.int p2), .val (.int p3), .val (.int p4), .val (.int p5), .val (.ref b1), .val (.int (0 : Int32)), .val (.int (5 : Int32)), .val (.int (5 : Int32)), .val (.long ((((((c0.toInt64) * (923521 : Int64)) + ((c1.toInt64) * (29791 : Int64))) + ((c2.toInt64) * (961 : Int64))) + ((c3.toInt64) * (31 : Int64))) + ((c4.toInt64) * (1 : Int64)))), .second, .val (.int (((31 : Int32) * (((31 : Int32) * (((31 : Int32) * (((31 : Int32) * ((0 : Int32) + c0)) + c1)) + c2)) + c3)) + c4)), .val (.int ((((31 : Int32) * (((31 : Int32) * (((31 : Int32) * (((31 : Int32) * ((0 : Int32) + c0)) + c1)) + c2)) + c3)) + c4) * (-1640531527 : Int32))), .unset] [(.int (5 : Int32)), (.int (0 : Int32)), (.ref b1)])) rfl (by rw [hml]; rfl) (argsL := [(.ref b1), (.int (0 : Int32)), (.int (5 : Int32))]) (rest := []) (lenOf own_pd2 rfl) rfl (by show 2 * 0 + _ ≤ _; exact Nat.le_of_eq rfl) (hb hby at_159) (fun _ _ => ⟨rfl, eq47, (by decide : 1 + 0 ≤ _), (by decide : 5 + 0 ≤ _)⟩)
      dsimp only [Pt.U, Pt.locs, Pt.cells, Pt.slots] at X48 l48 y48 z48 st48 hQ48
      subst l48 y48 z48
      obtain ⟨rfl, Nq48, eq48⟩ := hQ48
      refine OE.of (fun _ k => st48 _ k) ?_
      have N48 := Fr.app N47 Nq48
      show OE _ p e below s _ _ _ T48 (mkF m 162 #[.val (.int p1), .val (.int p2), .val (.int p3), .val (.int p4), .val (.int p5), .val (.ref b1), .val (.int (0 : Int32)), .val (.int (5 : Int32)), .val (.int (5 : Int32)), .val (.long ((((((c0.toInt64) * (923521 : Int64)) + ((c1.toInt64) * (29791 : Int64))) + ((c2.toInt64) * (961 : Int64))) + ((c3.toInt64) * (31 : Int64))) + ((c4.toInt64) * (1 : Int64)))), .second, .val (.int (((31 : Int32) * (((31 : Int32) * (((31 : Int32) * (((31 : Int32) * ((0 : Int32) + c0)) + c1)) + c2)) + c3)) + c4)), .val (.int ((((31 : Int32) * (((31 : Int32) * (((31 : Int32) * (((31 : Int32) * ((0 : Int32) + c0)) + c1)) + c2)) + c3)) + c4) * (-1640531527 : Int32))), .unset] [(.int (((((31 : Int32) * (((31 : Int32) * (((31 : Int32) * (((31 : Int32) * ((0 : Int32) + c0)) + c1)) + c2)) + c3)) + c4) * (-1640531527 : Int32)) ^^^ ((((((31 : Int32) * (((31 : Int32) * (((31 : Int32) * (((31 : Int32) * ((0 : Int32) + c0)) + c1)) + c2)) + c3)) + c4) * (-1640531527 : Int32)).toUInt32 >>> ((16 : Int32) &&& 31).toUInt32).toInt32)))])
      refine OE.istore X48 hx hby at_162 (l' := #[.val (.int p1), .val (.int p2), .val (.int p3), .val (.int p4), .val (.int p5), .val (.ref b1), .val (.int (0 : Int32)), .val (.int (5 : Int32)), .val (.int (5 : Int32)), .val (.long ((((((c0.toInt64) * (923521 : Int64)) + ((c1.toInt64) * (29791 : Int64))) + ((c2.toInt64) * (961 : Int64))) + ((c3.toInt64) * (31 : Int64))) + ((c4.toInt64) * (1 : Int64)))), .second, .val (.int (((31 : Int32) * (((31 : Int32) * (((31 : Int32) * (((31 : Int32) * ((0 : Int32) + c0)) + c1)) + c2)) + c3)) + c4)), .val (.int ((((31 : Int32) * (((31 : Int32) * (((31 : Int32) * (((31 : Int32) * ((0 : Int32) + c0)) + c1)) + c2)) + c3)) + c4) * (-1640531527 : Int32))), .val (.int (((((31 : Int32) * (((31 : Int32) * (((31 : Int32) * (((31 : Int32) * ((0 : Int32) + c0)) + c1)) + c2)) + c3)) + c4) * (-1640531527 : Int32)) ^^^ ((((((31 : Int32) * (((31 : Int32) * (((31 : Int32) * (((31 : Int32) * ((0 : Int32) + c0)) + c1)) + c2)) + c3)) + c4) * (-1640531527 : Int32)).toUInt32 >>> ((16 : Int32) &&& 31).toUInt32).toInt32)))]) rfl ?_
      refine OE.iload X48 hx hby at_164 rfl ?_
      refine OE.bipush X48 hx hby at_166 (16 : Int32) rfl ?_
      refine OE.iushr X48 hx hby at_168 ?_
      refine OE.iload X48 hx hby at_169 rfl ?_
      refine OE.bipush X48 hx hby at_171 (16 : Int32) rfl ?_
      refine OE.iushr X48 hx hby at_173 ?_
      refine OE.icmpNo X48 hx hby at_174 (teq (own_top _ : (((((((31 : Int32) * (((31 : Int32) * (((31 : Int32) * (((31 : Int32) * ((0 : Int32) + c0)) + c1)) + c2)) + c3)) + c4) * (-1640531527 : Int32)) ^^^ ((((((31 : Int32) * (((31 : Int32) * (((31 : Int32) * (((31 : Int32) * ((0 : Int32) + c0)) + c1)) + c2)) + c3)) + c4) * (-1640531527 : Int32)).toUInt32 >>> ((16 : Int32) &&& 31).toUInt32).toInt32)).toUInt32 >>> ((16 : Int32) &&& 31).toUInt32).toInt32) = ((((((31 : Int32) * (((31 : Int32) * (((31 : Int32) * (((31 : Int32) * ((0 : Int32) + c0)) + c1)) + c2)) + c3)) + c4) * (-1640531527 : Int32)).toUInt32 >>> ((16 : Int32) &&& 31).toUInt32).toInt32))).2 ?_
      refine OE.iload X48 hx hby at_177 rfl ?_
      refine OE.of (X48.ldcInt hx hown (mvT hZ (hw _ (List.mem_of_getElem? (i := 1) rfl))) (g := (mkF m 179 #[.val (.int p1), .val (.int p2), .val (.int p3), .val (.int p4), .val (.int p5), .val (.ref b1), .val (.int (0 : Int32)), .val (.int (5 : Int32)), .val (.int (5 : Int32)), .val (.long ((((((c0.toInt64) * (923521 : Int64)) + ((c1.toInt64) * (29791 : Int64))) + ((c2.toInt64) * (961 : Int64))) + ((c3.toInt64) * (31 : Int64))) + ((c4.toInt64) * (1 : Int64)))), .second, .val (.int (((31 : Int32) * (((31 : Int32) * (((31 : Int32) * (((31 : Int32) * ((0 : Int32) + c0)) + c1)) + c2)) + c3)) + c4)), .val (.int ((((31 : Int32) * (((31 : Int32) * (((31 : Int32) * (((31 : Int32) * ((0 : Int32) + c0)) + c1)) + c2)) + c3)) + c4) * (-1640531527 : Int32))), .val (.int (((((31 : Int32) * (((31 : Int32) * (((31 : Int32) * (((31 : Int32) * ((0 : Int32) + c0)) + c1)) + c2)) + c3)) + c4) * (-1640531527 : Int32)) ^^^ ((((((31 : Int32) * (((31 : Int32) * (((31 : Int32) * (((31 : Int32) * ((0 : Int32) + c0)) + c1)) + c2)) + c3)) + c4) * (-1640531527 : Int32)).toUInt32 >>> ((16 : Int32) &&& 31).toUInt32).toInt32)))] [(.int (((((31 : Int32) * (((31 : Int32) * (((31 : Int32) * (((31 : Int32) * ((0 : Int32) + c0)) + c1)) + c2)) + c3)) + c4) * (-1640531527 : Int32)) ^^^ ((((((31 : Int32) * (((31 : Int32) * (((31 : Int32) * (((31 : Int32) * ((0 : Int32) + c0)) + c1)) + c2)) + c3)) + c4) * (-1640531527 : Int32)).toUInt32 >>> ((16 : Int32) &&& 31).toUInt32).toInt32)))])) rfl (hb hby at_179)) ?_
      show OE _ p e below s _ _ _ T48 (mkF m 181 #[.val (.int p1), .val (.int p2), .val (.int p3), .val (.int p4), .val (.int p5), .val (.ref b1), .val (.int (0 : Int32)), .val (.int (5 : Int32)), .val (.int (5 : Int32)), .val (.long ((((((c0.toInt64) * (923521 : Int64)) + ((c1.toInt64) * (29791 : Int64))) + ((c2.toInt64) * (961 : Int64))) + ((c3.toInt64) * (31 : Int64))) + ((c4.toInt64) * (1 : Int64)))), .second, .val (.int (((31 : Int32) * (((31 : Int32) * (((31 : Int32) * (((31 : Int32) * ((0 : Int32) + c0)) + c1)) + c2)) + c3)) + c4)), .val (.int ((((31 : Int32) * (((31 : Int32) * (((31 : Int32) * (((31 : Int32) * ((0 : Int32) + c0)) + c1)) + c2)) + c3)) + c4) * (-1640531527 : Int32))), .val (.int (((((31 : Int32) * (((31 : Int32) * (((31 : Int32) * (((31 : Int32) * ((0 : Int32) + c0)) + c1)) + c2)) + c3)) + c4) * (-1640531527 : Int32)) ^^^ ((((((31 : Int32) * (((31 : Int32) * (((31 : Int32) * (((31 : Int32) * ((0 : Int32) + c0)) + c1)) + c2)) + c3)) + c4) * (-1640531527 : Int32)).toUInt32 >>> ((16 : Int32) &&& 31).toUInt32).toInt32)))] [(.int (65535 : Int32)), (.int (((((31 : Int32) * (((31 : Int32) * (((31 : Int32) * (((31 : Int32) * ((0 : Int32) + c0)) + c1)) + c2)) + c3)) + c4) * (-1640531527 : Int32)) ^^^ ((((((31 : Int32) * (((31 : Int32) * (((31 : Int32) * (((31 : Int32) * ((0 : Int32) + c0)) + c1)) + c2)) + c3)) + c4) * (-1640531527 : Int32)).toUInt32 >>> ((16 : Int32) &&& 31).toUInt32).toInt32)))])
      refine OE.iand X48 hx hby at_181 ?_
      refine OE.iload X48 hx hby at_182 rfl ?_
      refine OE.iload X48 hx hby at_184 rfl ?_
      refine OE.bipush X48 hx hby at_186 (16 : Int32) rfl ?_
      refine OE.iushr X48 hx hby at_188 ?_
      refine OE.ixor X48 hx hby at_189 ?_
      refine OE.of (X48.ldcInt hx hown (mvT hZ (hw _ (List.mem_of_getElem? (i := 1) rfl))) (g := (mkF m 190 #[.val (.int p1), .val (.int p2), .val (.int p3), .val (.int p4), .val (.int p5), .val (.ref b1), .val (.int (0 : Int32)), .val (.int (5 : Int32)), .val (.int (5 : Int32)), .val (.long ((((((c0.toInt64) * (923521 : Int64)) + ((c1.toInt64) * (29791 : Int64))) + ((c2.toInt64) * (961 : Int64))) + ((c3.toInt64) * (31 : Int64))) + ((c4.toInt64) * (1 : Int64)))), .second, .val (.int (((31 : Int32) * (((31 : Int32) * (((31 : Int32) * (((31 : Int32) * ((0 : Int32) + c0)) + c1)) + c2)) + c3)) + c4)), .val (.int ((((31 : Int32) * (((31 : Int32) * (((31 : Int32) * (((31 : Int32) * ((0 : Int32) + c0)) + c1)) + c2)) + c3)) + c4) * (-1640531527 : Int32))), .val (.int (((((31 : Int32) * (((31 : Int32) * (((31 : Int32) * (((31 : Int32) * ((0 : Int32) + c0)) + c1)) + c2)) + c3)) + c4) * (-1640531527 : Int32)) ^^^ ((((((31 : Int32) * (((31 : Int32) * (((31 : Int32) * (((31 : Int32) * ((0 : Int32) + c0)) + c1)) + c2)) + c3)) + c4) * (-1640531527 : Int32)).toUInt32 >>> ((16 : Int32) &&& 31).toUInt32).toInt32)))] [(.int (((((31 : Int32) * (((31 : Int32) * (((31 : Int32) * (((31 : Int32) * ((0 : Int32) + c0)) + c1)) + c2)) + c3)) + c4) * (-1640531527 : Int32)) ^^^ ((((((31 : Int32) * (((31 : Int32) * (((31 : Int32) * (((31 : Int32) * ((0 : Int32) + c0)) + c1)) + c2)) + c3)) + c4) * (-1640531527 : Int32)).toUInt32 >>> ((16 : Int32) &&& 31).toUInt32).toInt32))), (.int ((((((31 : Int32) * (((31 : Int32) * (((31 : Int32) * (((31 : Int32) * ((0 : Int32) + c0)) + c1)) + c2)) + c3)) + c4) * (-1640531527 : Int32)) ^^^ ((((((31 : Int32) * (((31 : Int32) * (((31 : Int32) * (((31 : Int32) * ((0 : Int32) + c0)) + c1)) + c2)) + c3)) + c4) * (-1640531527 : Int32)).toUInt32 >>> ((16 : Int32) &&& 31).toUInt32).toInt32)) &&& (65535 : Int32)))])) rfl (hb hby at_190)) ?_
      show OE _ p e below s _ _ _ T48 (mkF m 192 #[.val (.int p1), .val (.int p2), .val (.int p3), .val (.int p4), .val (.int p5), .val (.ref b1), .val (.int (0 : Int32)), .val (.int (5 : Int32)), .val (.int (5 : Int32)), .val (.long ((((((c0.toInt64) * (923521 : Int64)) + ((c1.toInt64) * (29791 : Int64))) + ((c2.toInt64) * (961 : Int64))) + ((c3.toInt64) * (31 : Int64))) + ((c4.toInt64) * (1 : Int64)))), .second, .val (.int (((31 : Int32) * (((31 : Int32) * (((31 : Int32) * (((31 : Int32) * ((0 : Int32) + c0)) + c1)) + c2)) + c3)) + c4)), .val (.int ((((31 : Int32) * (((31 : Int32) * (((31 : Int32) * (((31 : Int32) * ((0 : Int32) + c0)) + c1)) + c2)) + c3)) + c4) * (-1640531527 : Int32))), .val (.int (((((31 : Int32) * (((31 : Int32) * (((31 : Int32) * (((31 : Int32) * ((0 : Int32) + c0)) + c1)) + c2)) + c3)) + c4) * (-1640531527 : Int32)) ^^^ ((((((31 : Int32) * (((31 : Int32) * (((31 : Int32) * (((31 : Int32) * ((0 : Int32) + c0)) + c1)) + c2)) + c3)) + c4) * (-1640531527 : Int32)).toUInt32 >>> ((16 : Int32) &&& 31).toUInt32).toInt32)))] [(.int (65535 : Int32)), (.int (((((31 : Int32) * (((31 : Int32) * (((31 : Int32) * (((31 : Int32) * ((0 : Int32) + c0)) + c1)) + c2)) + c3)) + c4) * (-1640531527 : Int32)) ^^^ ((((((31 : Int32) * (((31 : Int32) * (((31 : Int32) * (((31 : Int32) * ((0 : Int32) + c0)) + c1)) + c2)) + c3)) + c4) * (-1640531527 : Int32)).toUInt32 >>> ((16 : Int32) &&& 31).toUInt32).toInt32))), (.int ((((((31 : Int32) * (((31 : Int32) * (((31 : Int32) * (((31 : Int32) * ((0 : Int32) + c0)) + c1)) + c2)) + c3)) + c4) * (-1640531527 : Int32)) ^^^ ((((((31 : Int32) * (((31 : Int32) * (((31 : Int32) * (((31 : Int32) * ((0 : Int32) + c0)) + c1)) + c2)) + c3)) + c4) * (-1640531527 : Int32)).toUInt32 >>> ((16 : Int32) &&& 31).toUInt32).toInt32)) &&& (65535 : Int32)))])
      refine OE.iand X48 hx hby at_192 ?_
      refine OE.icmpNo X48 hx hby at_193 (teq (rfl : ((((((31 : Int32) * (((31 : Int32) * (((31 : Int32) * (((31 : Int32) * ((0 : Int32) + c0)) + c1)) + c2)) + c3)) + c4) * (-1640531527 : Int32)) ^^^ ((((((31 : Int32) * (((31 : Int32) * (((31 : Int32) * (((31 : Int32) * ((0 : Int32) + c0)) + c1)) + c2)) + c3)) + c4) * (-1640531527 : Int32)).toUInt32 >>> ((16 : Int32) &&& 31).toUInt32).toInt32)) &&& (65535 : Int32)) = ((((((31 : Int32) * (((31 : Int32) * (((31 : Int32) * (((31 : Int32) * ((0 : Int32) + c0)) + c1)) + c2)) + c3)) + c4) * (-1640531527 : Int32)) ^^^ ((((((31 : Int32) * (((31 : Int32) * (((31 : Int32) * (((31 : Int32) * ((0 : Int32) + c0)) + c1)) + c2)) + c3)) + c4) * (-1640531527 : Int32)).toUInt32 >>> ((16 : Int32) &&& 31).toUInt32).toInt32)) &&& (65535 : Int32)))).2 ?_
      refine OE.iconst X48 hx hby at_196 (1 : Int32) rfl ?_
      refine OE.goto X48 hx hby (pc' := 201) at_197 (h := ?_)
      refine OE.retN X48 hx (t := .boolean) Bd.returns (by simp) Bd.notSynchronized (hb hby at_201) (by decide) (by decide) ?_
      rw [eq48]
      exact ⟨rfl, N48⟩
  · rw [hs]
    show OE _ p e below s _ _ _ T6 (mkF m 57 #[.val (.int p1), .val (.int p2), .val (.int p3), .val (.int p4), .val (.int p5), .val (.ref b1), .unset, .unset, .unset, .unset, .unset, .unset, .unset, .unset] [(.int (1 : Int32))])
    refine OE.istore X6 hx hby at_57 (l' := #[.val (.int p1), .val (.int p2), .val (.int p3), .val (.int p4), .val (.int p5), .val (.ref b1), .val (.int (1 : Int32)), .unset, .unset, .unset, .unset, .unset, .unset, .unset]) rfl ?_
    refine OE.iload X6 hx hby at_59 rfl ?_
    refine OE.iload X6 hx hby at_61 rfl ?_
    refine OE.of (X6.ldcInt hx hown (mvT hZ (hw _ (List.mem_of_getElem? (i := 2) rfl))) (g := (mkF m 63 #[.val (.int p1), .val (.int p2), .val (.int p3), .val (.int p4), .val (.int p5), .val (.ref b1), .val (.int (1 : Int32)), .unset, .unset, .unset, .unset, .unset, .unset, .unset] [(.int p5), (.int (1 : Int32))])) rfl (hb hby at_63)) ?_
    show OE _ p e below s _ _ _ T6 (mkF m 65 #[.val (.int p1), .val (.int p2), .val (.int p3), .val (.int p4), .val (.int p5), .val (.ref b1), .val (.int (1 : Int32)), .unset, .unset, .unset, .unset, .unset, .unset, .unset] [(.int (2147483647 : Int32)), (.int p5), (.int (1 : Int32))])
    refine OE.iand X6 hx hby at_65 ?_
    refine OE.bipush X6 hx hby at_66 (6 : Int32) rfl ?_
    refine OE.iload X6 hx hby at_68 rfl ?_
    refine OE.isub X6 hx hby at_70 ?_
    rw [(by decide : ((6 : Int32) - (1 : Int32)) = (5 : Int32))]
    refine OE.irem X6 hx hby at_71 (by decide) ?_
    rcases own_md5 p5 with hm | hm | hm | hm | hm
    · rw [hm]
      show OE _ p e below s _ _ _ T6 (mkF m 72 #[.val (.int p1), .val (.int p2), .val (.int p3), .val (.int p4), .val (.int p5), .val (.ref b1), .val (.int (1 : Int32)), .unset, .unset, .unset, .unset, .unset, .unset, .unset] [(.int (0 : Int32)), (.int (1 : Int32))])
      refine OE.iadd X6 hx hby at_72 ?_
      rw [(by decide : ((1 : Int32) + (0 : Int32)) = (1 : Int32))]
      refine OE.istore X6 hx hby at_73 (l' := #[.val (.int p1), .val (.int p2), .val (.int p3), .val (.int p4), .val (.int p5), .val (.ref b1), .val (.int (1 : Int32)), .val (.int (1 : Int32)), .unset, .unset, .unset, .unset, .unset, .unset]) rfl ?_
      refine OE.iload X6 hx hby at_75 rfl ?_
      refine OE.iload X6 hx hby at_77 rfl ?_
      refine OE.isub X6 hx hby at_79 ?_
      rw [(by decide : ((1 : Int32) - (1 : Int32)) = (0 : Int32))]
      refine OE.istore X6 hx hby at_80 (l' := #[.val (.int p1), .val (.int p2), .val (.int p3), .val (.int p4), .val (.int p5), .val (.ref b1), .val (.int (1 : Int32)), .val (.int (1 : Int32)), .val (.int (0 : Int32)), .unset, .unset, .unset, .unset, .unset]) rfl ?_
      refine OE.aload X6 hx hby at_82 rfl rfl ?_
      refine OE.iload X6 hx hby at_84 rfl ?_
      refine OE.iload X6 hx hby at_86 rfl ?_
      refine OE.iconst X6 hx hby at_88 (0 : Int32) rfl ?_
      have z49 : n0 ≤ h6.size := (Nat.le_trans (Nat.le_trans (Nat.le_trans (Nat.le_trans (Nat.le_trans (Nat.le_trans Z0 E1.1) (Nat.le_of_eq W2.size.symm)) (Nat.le_of_eq W3.size.symm)) (Nat.le_of_eq W4.size.symm)) (Nat.le_of_eq W5.size.symm)) (Nat.le_of_eq W6.size.symm))
      obtain ⟨_, _, ⟨T50, L50, k50, n50⟩, -, X50, ⟨Lc50, hQ50, l50, y50, z50⟩, st50⟩ := Jvm.LawKit.callS X6 hx (y := (⟨"com/example/archerfish/archerfish/index/TokenTableHashPinLaw", "term", "([CIII)J"⟩ : MethodName)) hown (mvT hZ (hw _ (List.mem_of_getElem? (i := 3) rfl))) (mvT hZ (hw _ (List.mem_of_getElem? (i := 4) rfl))) (mvT hZ (hw _ (List.mem_of_getElem? (i := 5) rfl))) (mvT hZ (hw _ (List.mem_of_getElem? (i := 6) rfl))) (by decide) (backOf (W := 0) (own_rm1_o l Z a0 hw [] b1 (1 : Int32) (0 : Int32) (0 : Int32) h6 n0 z49 (by decide)) hZ (hw _ (List.mem_of_getElem? (i := 6) rfl)) (hw _ (List.mem_of_getElem? (i := 5) rfl)) (by decide) (by decide)) (g := (mkF m 89 #[.val (.int p1), .val (.int p2), .val (.int p3), .val (.int p4), .val (.int p5), .val (.ref b1), .val (.int (1 : Int32)), .val (.int (1 : Int32)), .val (.int (0 : Int32)), .unset, .unset, .unset, .unset, .unset] [(.int (0 : Int32)), (.int (0 : Int32)), (.int (1 : Int32)), (.ref b1)])) rfl (by rw [hml]; rfl) (argsL := [(.ref b1), (.int (1 : Int32)), (.int (0 : Int32)), (.int (0 : Int32))]) (rest := []) (lenOf own_pd1 rfl) rfl (by show 2 * 0 + _ ≤ _; exact Nat.le_of_eq rfl) (hb hby at_89) (fun _ _ => ⟨rfl, e6, (by decide : 1 + 0 ≤ _), (by decide : 5 + 0 ≤ _)⟩)
      dsimp only [Pt.U, Pt.locs, Pt.cells, Pt.slots] at X50 l50 y50 z50 st50 hQ50
      subst l50 y50 z50
      obtain ⟨rfl, Nq50, eq50⟩ := hQ50
      refine OE.of (fun _ k => st50 _ k) ?_
      have N50 := Fr.app N6 Nq50
      show OE _ p e below s _ _ _ T50 (mkF m 92 #[.val (.int p1), .val (.int p2), .val (.int p3), .val (.int p4), .val (.int p5), .val (.ref b1), .val (.int (1 : Int32)), .val (.int (1 : Int32)), .val (.int (0 : Int32)), .unset, .unset, .unset, .unset, .unset] [(.long (0 : Int64))])
      refine OE.aload X50 hx hby at_92 rfl rfl ?_
      refine OE.iload X50 hx hby at_94 rfl ?_
      refine OE.iload X50 hx hby at_96 rfl ?_
      refine OE.iconst X50 hx hby at_98 (1 : Int32) rfl ?_
      obtain ⟨_, _, ⟨T51, L51, k51, n51⟩, -, X51, ⟨Lc51, hQ51, l51, y51, z51⟩, st51⟩ := Jvm.LawKit.callS X50 hx (y := (⟨"com/example/archerfish/archerfish/index/TokenTableHashPinLaw", "term", "([CIII)J"⟩ : MethodName)) hown (mvT hZ (hw _ (List.mem_of_getElem? (i := 3) rfl))) (mvT hZ (hw _ (List.mem_of_getElem? (i := 4) rfl))) (mvT hZ (hw _ (List.mem_of_getElem? (i := 5) rfl))) (mvT hZ (hw _ (List.mem_of_getElem? (i := 6) rfl))) (by decide) (backOf (W := 2) (own_rm1_o l Z a0 hw [] b1 (1 : Int32) (0 : Int32) (1 : Int32) h6 n0 z49 (by decide)) hZ (hw _ (List.mem_of_getElem? (i := 6) rfl)) (hw _ (List.mem_of_getElem? (i := 5) rfl)) (by decide) (by decide)) (g := (mkF m 99 #[.val (.int p1), .val (.int p2), .val (.int p3), .val (.int p4), .val (.int p5), .val (.ref b1), .val (.int (1 : Int32)), .val (.int (1 : Int32)), .val (.int (0 : Int32)), .unset, .unset, .unset, .unset, .unset] [(.int (1 : Int32)), (.int (0 : Int32)), (.int (1 : Int32)), (.ref b1), (.long (0 : Int64))])) rfl (by rw [hml]; rfl) (argsL := [(.ref b1), (.int (1 : Int32)), (.int (0 : Int32)), (.int (1 : Int32))]) (rest := [(.long (0 : Int64))]) (lenOf own_pd1 rfl) rfl (by show 2 * 0 + _ ≤ _; exact Nat.le_of_eq rfl) (hb hby at_99) (fun _ _ => ⟨rfl, eq50, (by decide : 1 + 0 ≤ _), (by decide : 5 + 0 ≤ _)⟩)
      dsimp only [Pt.U, Pt.locs, Pt.cells, Pt.slots] at X51 l51 y51 z51 st51 hQ51
      subst l51 y51 z51
      obtain ⟨rfl, Nq51, eq51⟩ := hQ51
      refine OE.of (fun _ k => st51 _ k) ?_
      have N51 := Fr.app N50 Nq51
      show OE _ p e below s _ _ _ T51 (mkF m 102 #[.val (.int p1), .val (.int p2), .val (.int p3), .val (.int p4), .val (.int p5), .val (.ref b1), .val (.int (1 : Int32)), .val (.int (1 : Int32)), .val (.int (0 : Int32)), .unset, .unset, .unset, .unset, .unset] [(.long (0 : Int64)), (.long (0 : Int64))])
      refine OE.ladd X51 hx hby at_102 ?_
      rw [(by decide : ((0 : Int64) + (0 : Int64)) = (0 : Int64))]
      refine OE.aload X51 hx hby at_103 rfl rfl ?_
      refine OE.iload X51 hx hby at_105 rfl ?_
      refine OE.iload X51 hx hby at_107 rfl ?_
      refine OE.iconst X51 hx hby at_109 (2 : Int32) rfl ?_
      obtain ⟨_, _, ⟨T52, L52, k52, n52⟩, -, X52, ⟨Lc52, hQ52, l52, y52, z52⟩, st52⟩ := Jvm.LawKit.callS X51 hx (y := (⟨"com/example/archerfish/archerfish/index/TokenTableHashPinLaw", "term", "([CIII)J"⟩ : MethodName)) hown (mvT hZ (hw _ (List.mem_of_getElem? (i := 3) rfl))) (mvT hZ (hw _ (List.mem_of_getElem? (i := 4) rfl))) (mvT hZ (hw _ (List.mem_of_getElem? (i := 5) rfl))) (mvT hZ (hw _ (List.mem_of_getElem? (i := 6) rfl))) (by decide) (backOf (W := 2) (own_rm1_o l Z a0 hw [] b1 (1 : Int32) (0 : Int32) (2 : Int32) h6 n0 z49 (by decide)) hZ (hw _ (List.mem_of_getElem? (i := 6) rfl)) (hw _ (List.mem_of_getElem? (i := 5) rfl)) (by decide) (by decide)) (g := (mkF m 110 #[.val (.int p1), .val (.int p2), .val (.int p3), .val (.int p4), .val (.int p5), .val (.ref b1), .val (.int (1 : Int32)), .val (.int (1 : Int32)), .val (.int (0 : Int32)), .unset, .unset, .unset, .unset, .unset] [(.int (2 : Int32)), (.int (0 : Int32)), (.int (1 : Int32)), (.ref b1), (.long (0 : Int64))])) rfl (by rw [hml]; rfl) (argsL := [(.ref b1), (.int (1 : Int32)), (.int (0 : Int32)), (.int (2 : Int32))]) (rest := [(.long (0 : Int64))]) (lenOf own_pd1 rfl) rfl (by show 2 * 0 + _ ≤ _; exact Nat.le_of_eq rfl) (hb hby at_110) (fun _ _ => ⟨rfl, eq51, (by decide : 1 + 0 ≤ _), (by decide : 5 + 0 ≤ _)⟩)
      dsimp only [Pt.U, Pt.locs, Pt.cells, Pt.slots] at X52 l52 y52 z52 st52 hQ52
      subst l52 y52 z52
      obtain ⟨rfl, Nq52, eq52⟩ := hQ52
      refine OE.of (fun _ k => st52 _ k) ?_
      have N52 := Fr.app N51 Nq52
      show OE _ p e below s _ _ _ T52 (mkF m 113 #[.val (.int p1), .val (.int p2), .val (.int p3), .val (.int p4), .val (.int p5), .val (.ref b1), .val (.int (1 : Int32)), .val (.int (1 : Int32)), .val (.int (0 : Int32)), .unset, .unset, .unset, .unset, .unset] [(.long (0 : Int64)), (.long (0 : Int64))])
      refine OE.ladd X52 hx hby at_113 ?_
      rw [(by decide : ((0 : Int64) + (0 : Int64)) = (0 : Int64))]
      refine OE.aload X52 hx hby at_114 rfl rfl ?_
      refine OE.iload X52 hx hby at_116 rfl ?_
      refine OE.iload X52 hx hby at_118 rfl ?_
      refine OE.iconst X52 hx hby at_120 (3 : Int32) rfl ?_
      obtain ⟨_, _, ⟨T53, L53, k53, n53⟩, -, X53, ⟨Lc53, hQ53, l53, y53, z53⟩, st53⟩ := Jvm.LawKit.callS X52 hx (y := (⟨"com/example/archerfish/archerfish/index/TokenTableHashPinLaw", "term", "([CIII)J"⟩ : MethodName)) hown (mvT hZ (hw _ (List.mem_of_getElem? (i := 3) rfl))) (mvT hZ (hw _ (List.mem_of_getElem? (i := 4) rfl))) (mvT hZ (hw _ (List.mem_of_getElem? (i := 5) rfl))) (mvT hZ (hw _ (List.mem_of_getElem? (i := 6) rfl))) (by decide) (backOf (W := 2) (own_rm1_o l Z a0 hw [] b1 (1 : Int32) (0 : Int32) (3 : Int32) h6 n0 z49 (by decide)) hZ (hw _ (List.mem_of_getElem? (i := 6) rfl)) (hw _ (List.mem_of_getElem? (i := 5) rfl)) (by decide) (by decide)) (g := (mkF m 121 #[.val (.int p1), .val (.int p2), .val (.int p3), .val (.int p4), .val (.int p5), .val (.ref b1), .val (.int (1 : Int32)), .val (.int (1 : Int32)), .val (.int (0 : Int32)), .unset, .unset, .unset, .unset, .unset] [(.int (3 : Int32)), (.int (0 : Int32)), (.int (1 : Int32)), (.ref b1), (.long (0 : Int64))])) rfl (by rw [hml]; rfl) (argsL := [(.ref b1), (.int (1 : Int32)), (.int (0 : Int32)), (.int (3 : Int32))]) (rest := [(.long (0 : Int64))]) (lenOf own_pd1 rfl) rfl (by show 2 * 0 + _ ≤ _; exact Nat.le_of_eq rfl) (hb hby at_121) (fun _ _ => ⟨rfl, eq52, (by decide : 1 + 0 ≤ _), (by decide : 5 + 0 ≤ _)⟩)
      dsimp only [Pt.U, Pt.locs, Pt.cells, Pt.slots] at X53 l53 y53 z53 st53 hQ53
      subst l53 y53 z53
      obtain ⟨rfl, Nq53, eq53⟩ := hQ53
      refine OE.of (fun _ k => st53 _ k) ?_
      have N53 := Fr.app N52 Nq53
      show OE _ p e below s _ _ _ T53 (mkF m 124 #[.val (.int p1), .val (.int p2), .val (.int p3), .val (.int p4), .val (.int p5), .val (.ref b1), .val (.int (1 : Int32)), .val (.int (1 : Int32)), .val (.int (0 : Int32)), .unset, .unset, .unset, .unset, .unset] [(.long (0 : Int64)), (.long (0 : Int64))])
      refine OE.ladd X53 hx hby at_124 ?_
      rw [(by decide : ((0 : Int64) + (0 : Int64)) = (0 : Int64))]
      refine OE.aload X53 hx hby at_125 rfl rfl ?_
      refine OE.iload X53 hx hby at_127 rfl ?_
      refine OE.iload X53 hx hby at_129 rfl ?_
      refine OE.iconst X53 hx hby at_131 (4 : Int32) rfl ?_
      obtain ⟨_, _, ⟨T54, L54, k54, n54⟩, -, X54, ⟨Lc54, hQ54, l54, y54, z54⟩, st54⟩ := Jvm.LawKit.callS X53 hx (y := (⟨"com/example/archerfish/archerfish/index/TokenTableHashPinLaw", "term", "([CIII)J"⟩ : MethodName)) hown (mvT hZ (hw _ (List.mem_of_getElem? (i := 3) rfl))) (mvT hZ (hw _ (List.mem_of_getElem? (i := 4) rfl))) (mvT hZ (hw _ (List.mem_of_getElem? (i := 5) rfl))) (mvT hZ (hw _ (List.mem_of_getElem? (i := 6) rfl))) (by decide) (backOf (W := 2) (own_rm1_o l Z a0 hw [] b1 (1 : Int32) (0 : Int32) (4 : Int32) h6 n0 z49 (by decide)) hZ (hw _ (List.mem_of_getElem? (i := 6) rfl)) (hw _ (List.mem_of_getElem? (i := 5) rfl)) (by decide) (by decide)) (g := (mkF m 132 #[.val (.int p1), .val (.int p2), .val (.int p3), .val (.int p4), .val (.int p5), .val (.ref b1), .val (.int (1 : Int32)), .val (.int (1 : Int32)), .val (.int (0 : Int32)), .unset, .unset, .unset, .unset, .unset] [(.int (4 : Int32)), (.int (0 : Int32)), (.int (1 : Int32)), (.ref b1), (.long (0 : Int64))])) rfl (by rw [hml]; rfl) (argsL := [(.ref b1), (.int (1 : Int32)), (.int (0 : Int32)), (.int (4 : Int32))]) (rest := [(.long (0 : Int64))]) (lenOf own_pd1 rfl) rfl (by show 2 * 0 + _ ≤ _; exact Nat.le_of_eq rfl) (hb hby at_132) (fun _ _ => ⟨rfl, eq53, (by decide : 1 + 0 ≤ _), (by decide : 5 + 0 ≤ _)⟩)
      dsimp only [Pt.U, Pt.locs, Pt.cells, Pt.slots] at X54 l54 y54 z54 st54 hQ54
      subst l54 y54 z54
      obtain ⟨rfl, Nq54, eq54⟩ := hQ54
      refine OE.of (fun _ k => st54 _ k) ?_
      have N54 := Fr.app N53 Nq54
      show OE _ p e below s _ _ _ T54 (mkF m 135 #[.val (.int p1), .val (.int p2), .val (.int p3), .val (.int p4), .val (.int p5), .val (.ref b1), .val (.int (1 : Int32)), .val (.int (1 : Int32)), .val (.int (0 : Int32)), .unset, .unset, .unset, .unset, .unset] [(.long (0 : Int64)), (.long (0 : Int64))])
      refine OE.ladd X54 hx hby at_135 ?_
      rw [(by decide : ((0 : Int64) + (0 : Int64)) = (0 : Int64))]
      refine OE.lstore X54 hx hby at_136 (l' := #[.val (.int p1), .val (.int p2), .val (.int p3), .val (.int p4), .val (.int p5), .val (.ref b1), .val (.int (1 : Int32)), .val (.int (1 : Int32)), .val (.int (0 : Int32)), .val (.long (0 : Int64)), .second, .unset, .unset, .unset]) rfl ?_
      refine OE.lload X54 hx hby at_138 rfl ?_
      refine OE.l2i X54 hx hby at_140 ?_
      rw [((by decide) : ((0 : Int64).toInt32) = (0 : Int32))]
      show OE _ p e below s _ _ _ T54 (mkF m 141 #[.val (.int p1), .val (.int p2), .val (.int p3), .val (.int p4), .val (.int p5), .val (.ref b1), .val (.int (1 : Int32)), .val (.int (1 : Int32)), .val (.int (0 : Int32)), .val (.long (0 : Int64)), .second, .unset, .unset, .unset] [(.int (0 : Int32))])
      refine OE.istore X54 hx hby at_141 (l' := #[.val (.int p1), .val (.int p2), .val (.int p3), .val (.int p4), .val (.int p5), .val (.ref b1), .val (.int (1 : Int32)), .val (.int (1 : Int32)), .val (.int (0 : Int32)), .val (.long (0 : Int64)), .second, .val (.int (0 : Int32)), .unset, .unset]) rfl ?_
      refine OE.iload X54 hx hby at_143 rfl ?_
      refine OE.i2l X54 hx hby at_145 ?_
      refine OE.of (X54.ldc2Long hx hown (mvT hZ (hw _ (List.mem_of_getElem? (i := 7) rfl))) (g := (mkF m 146 #[.val (.int p1), .val (.int p2), .val (.int p3), .val (.int p4), .val (.int p5), .val (.ref b1), .val (.int (1 : Int32)), .val (.int (1 : Int32)), .val (.int (0 : Int32)), .val (.long (0 : Int64)), .second, .val (.int (0 : Int32)), .unset, .unset] [(.long ((0 : Int32).toInt64))])) rfl (hb hby at_146)) ?_
      show OE _ p e below s _ _ _ T54 (mkF m 149 #[.val (.int p1), .val (.int p2), .val (.int p3), .val (.int p4), .val (.int p5), .val (.ref b1), .val (.int (1 : Int32)), .val (.int (1 : Int32)), .val (.int (0 : Int32)), .val (.long (0 : Int64)), .second, .val (.int (0 : Int32)), .unset, .unset] [(.long (2654435769 : Int64)), (.long ((0 : Int32).toInt64))])
      refine OE.lmul X54 hx hby at_149 ?_
      refine OE.l2i X54 hx hby at_150 ?_
      rw [((by decide) : ((((0 : Int32).toInt64) * (2654435769 : Int64)).toInt32) = (0 : Int32))]
      show OE _ p e below s _ _ _ T54 (mkF m 151 #[.val (.int p1), .val (.int p2), .val (.int p3), .val (.int p4), .val (.int p5), .val (.ref b1), .val (.int (1 : Int32)), .val (.int (1 : Int32)), .val (.int (0 : Int32)), .val (.long (0 : Int64)), .second, .val (.int (0 : Int32)), .unset, .unset] [(.int (0 : Int32))])
      refine OE.istore X54 hx hby at_151 (l' := #[.val (.int p1), .val (.int p2), .val (.int p3), .val (.int p4), .val (.int p5), .val (.ref b1), .val (.int (1 : Int32)), .val (.int (1 : Int32)), .val (.int (0 : Int32)), .val (.long (0 : Int64)), .second, .val (.int (0 : Int32)), .val (.int (0 : Int32)), .unset]) rfl ?_
      refine OE.aload X54 hx hby at_153 rfl rfl ?_
      refine OE.iload X54 hx hby at_155 rfl ?_
      refine OE.iload X54 hx hby at_157 rfl ?_
      obtain ⟨_, _, ⟨T55, L55, k55, n55⟩, -, X55, ⟨Lc55, hQ55, l55, y55, z55⟩, st55⟩ := Jvm.LawKit.callS X54 hx (y := (⟨"com/example/archerfish/archerfish/index/TokenTable", "hash", "([CII)I"⟩ : MethodName)) hown (mvT hZ (hw _ (List.mem_of_getElem? (i := 8) rfl))) (mvT hZ (hw _ (List.mem_of_getElem? (i := 9) rfl))) (mvT hZ (hw _ (List.mem_of_getElem? (i := 10) rfl))) (mvT hZ (hw _ (List.mem_of_getElem? (i := 11) rfl))) (by decide) (backOf (W := 0) (own_rm2_1_0 l Z a0 hw [] b1 c0 c1 c2 c3 c4 k1 h6 n0 z49 Vc) hZ (hw _ (List.mem_of_getElem? (i := 11) rfl)) (hw _ (List.mem_of_getElem? (i := 10) rfl)) (by decide) (by decide)) (g := (mkF m 159 #[.val (.int p1), .val (.int p2), .val (.int p3), .val (.int p4), .val (.int p5), .val (.ref b1), .val (.int (1 : Int32)), .val (.int (1 : Int32)), .val (.int (0 : Int32)), .val (.long (0 : Int64)), .second, .val (.int (0 : Int32)), .val (.int (0 : Int32)), .unset] [(.int (1 : Int32)), (.int (1 : Int32)), (.ref b1)])) rfl (by rw [hml]; rfl) (argsL := [(.ref b1), (.int (1 : Int32)), (.int (1 : Int32))]) (rest := []) (lenOf own_pd2 rfl) rfl (by show 2 * 0 + _ ≤ _; exact Nat.le_of_eq rfl) (hb hby at_159) (fun _ _ => ⟨rfl, eq54, (by decide : 1 + 0 ≤ _), (by decide : 5 + 0 ≤ _)⟩)
      dsimp only [Pt.U, Pt.locs, Pt.cells, Pt.slots] at X55 l55 y55 z55 st55 hQ55
      subst l55 y55 z55
      obtain ⟨rfl, Nq55, eq55⟩ := hQ55
      refine OE.of (fun _ k => st55 _ k) ?_
      have N55 := Fr.app N54 Nq55
      show OE _ p e below s _ _ _ T55 (mkF m 162 #[.val (.int p1), .val (.int p2), .val (.int p3), .val (.int p4), .val (.int p5), .val (.ref b1), .val (.int (1 : Int32)), .val (.int (1 : Int32)), .val (.int (0 : Int32)), .val (.long (0 : Int64)), .second, .val (.int (0 : Int32)), .val (.int (0 : Int32)), .unset] [(.int ((0 : Int32) ^^^ (((0 : Int32).toUInt32 >>> ((16 : Int32) &&& 31).toUInt32).toInt32)))])
      refine OE.istore X55 hx hby at_162 (l' := #[.val (.int p1), .val (.int p2), .val (.int p3), .val (.int p4), .val (.int p5), .val (.ref b1), .val (.int (1 : Int32)), .val (.int (1 : Int32)), .val (.int (0 : Int32)), .val (.long (0 : Int64)), .second, .val (.int (0 : Int32)), .val (.int (0 : Int32)), .val (.int ((0 : Int32) ^^^ (((0 : Int32).toUInt32 >>> ((16 : Int32) &&& 31).toUInt32).toInt32)))]) rfl ?_
      refine OE.iload X55 hx hby at_164 rfl ?_
      refine OE.bipush X55 hx hby at_166 (16 : Int32) rfl ?_
      refine OE.iushr X55 hx hby at_168 ?_
      refine OE.iload X55 hx hby at_169 rfl ?_
      refine OE.bipush X55 hx hby at_171 (16 : Int32) rfl ?_
      refine OE.iushr X55 hx hby at_173 ?_
      refine OE.icmpNo X55 hx hby at_174 (teq (own_top _ : ((((0 : Int32) ^^^ (((0 : Int32).toUInt32 >>> ((16 : Int32) &&& 31).toUInt32).toInt32)).toUInt32 >>> ((16 : Int32) &&& 31).toUInt32).toInt32) = (((0 : Int32).toUInt32 >>> ((16 : Int32) &&& 31).toUInt32).toInt32))).2 ?_
      refine OE.iload X55 hx hby at_177 rfl ?_
      refine OE.of (X55.ldcInt hx hown (mvT hZ (hw _ (List.mem_of_getElem? (i := 1) rfl))) (g := (mkF m 179 #[.val (.int p1), .val (.int p2), .val (.int p3), .val (.int p4), .val (.int p5), .val (.ref b1), .val (.int (1 : Int32)), .val (.int (1 : Int32)), .val (.int (0 : Int32)), .val (.long (0 : Int64)), .second, .val (.int (0 : Int32)), .val (.int (0 : Int32)), .val (.int ((0 : Int32) ^^^ (((0 : Int32).toUInt32 >>> ((16 : Int32) &&& 31).toUInt32).toInt32)))] [(.int ((0 : Int32) ^^^ (((0 : Int32).toUInt32 >>> ((16 : Int32) &&& 31).toUInt32).toInt32)))])) rfl (hb hby at_179)) ?_
      show OE _ p e below s _ _ _ T55 (mkF m 181 #[.val (.int p1), .val (.int p2), .val (.int p3), .val (.int p4), .val (.int p5), .val (.ref b1), .val (.int (1 : Int32)), .val (.int (1 : Int32)), .val (.int (0 : Int32)), .val (.long (0 : Int64)), .second, .val (.int (0 : Int32)), .val (.int (0 : Int32)), .val (.int ((0 : Int32) ^^^ (((0 : Int32).toUInt32 >>> ((16 : Int32) &&& 31).toUInt32).toInt32)))] [(.int (65535 : Int32)), (.int ((0 : Int32) ^^^ (((0 : Int32).toUInt32 >>> ((16 : Int32) &&& 31).toUInt32).toInt32)))])
      refine OE.iand X55 hx hby at_181 ?_
      refine OE.iload X55 hx hby at_182 rfl ?_
      refine OE.iload X55 hx hby at_184 rfl ?_
      refine OE.bipush X55 hx hby at_186 (16 : Int32) rfl ?_
      refine OE.iushr X55 hx hby at_188 ?_
      refine OE.ixor X55 hx hby at_189 ?_
      refine OE.of (X55.ldcInt hx hown (mvT hZ (hw _ (List.mem_of_getElem? (i := 1) rfl))) (g := (mkF m 190 #[.val (.int p1), .val (.int p2), .val (.int p3), .val (.int p4), .val (.int p5), .val (.ref b1), .val (.int (1 : Int32)), .val (.int (1 : Int32)), .val (.int (0 : Int32)), .val (.long (0 : Int64)), .second, .val (.int (0 : Int32)), .val (.int (0 : Int32)), .val (.int ((0 : Int32) ^^^ (((0 : Int32).toUInt32 >>> ((16 : Int32) &&& 31).toUInt32).toInt32)))] [(.int ((0 : Int32) ^^^ (((0 : Int32).toUInt32 >>> ((16 : Int32) &&& 31).toUInt32).toInt32))), (.int (((0 : Int32) ^^^ (((0 : Int32).toUInt32 >>> ((16 : Int32) &&& 31).toUInt32).toInt32)) &&& (65535 : Int32)))])) rfl (hb hby at_190)) ?_
      show OE _ p e below s _ _ _ T55 (mkF m 192 #[.val (.int p1), .val (.int p2), .val (.int p3), .val (.int p4), .val (.int p5), .val (.ref b1), .val (.int (1 : Int32)), .val (.int (1 : Int32)), .val (.int (0 : Int32)), .val (.long (0 : Int64)), .second, .val (.int (0 : Int32)), .val (.int (0 : Int32)), .val (.int ((0 : Int32) ^^^ (((0 : Int32).toUInt32 >>> ((16 : Int32) &&& 31).toUInt32).toInt32)))] [(.int (65535 : Int32)), (.int ((0 : Int32) ^^^ (((0 : Int32).toUInt32 >>> ((16 : Int32) &&& 31).toUInt32).toInt32))), (.int (((0 : Int32) ^^^ (((0 : Int32).toUInt32 >>> ((16 : Int32) &&& 31).toUInt32).toInt32)) &&& (65535 : Int32)))])
      refine OE.iand X55 hx hby at_192 ?_
      refine OE.icmpNo X55 hx hby at_193 (teq (rfl : (((0 : Int32) ^^^ (((0 : Int32).toUInt32 >>> ((16 : Int32) &&& 31).toUInt32).toInt32)) &&& (65535 : Int32)) = (((0 : Int32) ^^^ (((0 : Int32).toUInt32 >>> ((16 : Int32) &&& 31).toUInt32).toInt32)) &&& (65535 : Int32)))).2 ?_
      refine OE.iconst X55 hx hby at_196 (1 : Int32) rfl ?_
      refine OE.goto X55 hx hby (pc' := 201) at_197 (h := ?_)
      refine OE.retN X55 hx (t := .boolean) Bd.returns (by simp) Bd.notSynchronized (hb hby at_201) (by decide) (by decide) ?_
      rw [eq55]
      exact ⟨rfl, N55⟩
    · rw [hm]
      show OE _ p e below s _ _ _ T6 (mkF m 72 #[.val (.int p1), .val (.int p2), .val (.int p3), .val (.int p4), .val (.int p5), .val (.ref b1), .val (.int (1 : Int32)), .unset, .unset, .unset, .unset, .unset, .unset, .unset] [(.int (1 : Int32)), (.int (1 : Int32))])
      refine OE.iadd X6 hx hby at_72 ?_
      rw [(by decide : ((1 : Int32) + (1 : Int32)) = (2 : Int32))]
      refine OE.istore X6 hx hby at_73 (l' := #[.val (.int p1), .val (.int p2), .val (.int p3), .val (.int p4), .val (.int p5), .val (.ref b1), .val (.int (1 : Int32)), .val (.int (2 : Int32)), .unset, .unset, .unset, .unset, .unset, .unset]) rfl ?_
      refine OE.iload X6 hx hby at_75 rfl ?_
      refine OE.iload X6 hx hby at_77 rfl ?_
      refine OE.isub X6 hx hby at_79 ?_
      rw [(by decide : ((2 : Int32) - (1 : Int32)) = (1 : Int32))]
      refine OE.istore X6 hx hby at_80 (l' := #[.val (.int p1), .val (.int p2), .val (.int p3), .val (.int p4), .val (.int p5), .val (.ref b1), .val (.int (1 : Int32)), .val (.int (2 : Int32)), .val (.int (1 : Int32)), .unset, .unset, .unset, .unset, .unset]) rfl ?_
      refine OE.aload X6 hx hby at_82 rfl rfl ?_
      refine OE.iload X6 hx hby at_84 rfl ?_
      refine OE.iload X6 hx hby at_86 rfl ?_
      refine OE.iconst X6 hx hby at_88 (0 : Int32) rfl ?_
      have z56 : n0 ≤ h6.size := (Nat.le_trans (Nat.le_trans (Nat.le_trans (Nat.le_trans (Nat.le_trans (Nat.le_trans Z0 E1.1) (Nat.le_of_eq W2.size.symm)) (Nat.le_of_eq W3.size.symm)) (Nat.le_of_eq W4.size.symm)) (Nat.le_of_eq W5.size.symm)) (Nat.le_of_eq W6.size.symm))
      obtain ⟨_, _, ⟨T57, L57, k57, n57⟩, -, X57, ⟨Lc57, hQ57, l57, y57, z57⟩, st57⟩ := Jvm.LawKit.callS X6 hx (y := (⟨"com/example/archerfish/archerfish/index/TokenTableHashPinLaw", "term", "([CIII)J"⟩ : MethodName)) hown (mvT hZ (hw _ (List.mem_of_getElem? (i := 3) rfl))) (mvT hZ (hw _ (List.mem_of_getElem? (i := 4) rfl))) (mvT hZ (hw _ (List.mem_of_getElem? (i := 5) rfl))) (mvT hZ (hw _ (List.mem_of_getElem? (i := 6) rfl))) (by decide) (backOf (W := 0) (own_rm1_1_0 l Z a0 hw [] b1 (1 : Int32) c1 k1 [(.int c0), (.int c1), (.int c2), (.int c3), (.int c4)] h6 n0 z56 Vc ⟨by decide, by decide⟩ rfl) hZ (hw _ (List.mem_of_getElem? (i := 6) rfl)) (hw _ (List.mem_of_getElem? (i := 5) rfl)) (by decide) (by decide)) (g := (mkF m 89 #[.val (.int p1), .val (.int p2), .val (.int p3), .val (.int p4), .val (.int p5), .val (.ref b1), .val (.int (1 : Int32)), .val (.int (2 : Int32)), .val (.int (1 : Int32)), .unset, .unset, .unset, .unset, .unset] [(.int (0 : Int32)), (.int (1 : Int32)), (.int (1 : Int32)), (.ref b1)])) rfl (by rw [hml]; rfl) (argsL := [(.ref b1), (.int (1 : Int32)), (.int (1 : Int32)), (.int (0 : Int32))]) (rest := []) (lenOf own_pd1 rfl) rfl (by show 2 * 0 + _ ≤ _; exact Nat.le_of_eq rfl) (hb hby at_89) (fun _ _ => ⟨rfl, e6, (by decide : 1 + 0 ≤ _), (by decide : 5 + 0 ≤ _)⟩)
      dsimp only [Pt.U, Pt.locs, Pt.cells, Pt.slots] at X57 l57 y57 z57 st57 hQ57
      subst l57 y57 z57
      obtain ⟨rfl, Nq57, eq57⟩ := hQ57
      refine OE.of (fun _ k => st57 _ k) ?_
      have N57 := Fr.app N6 Nq57
      show OE _ p e below s _ _ _ T57 (mkF m 92 #[.val (.int p1), .val (.int p2), .val (.int p3), .val (.int p4), .val (.int p5), .val (.ref b1), .val (.int (1 : Int32)), .val (.int (2 : Int32)), .val (.int (1 : Int32)), .unset, .unset, .unset, .unset, .unset] [(.long ((c1.toInt64) * (1 : Int64)))])
      refine OE.aload X57 hx hby at_92 rfl rfl ?_
      refine OE.iload X57 hx hby at_94 rfl ?_
      refine OE.iload X57 hx hby at_96 rfl ?_
      refine OE.iconst X57 hx hby at_98 (1 : Int32) rfl ?_
      obtain ⟨_, _, ⟨T58, L58, k58, n58⟩, -, X58, ⟨Lc58, hQ58, l58, y58, z58⟩, st58⟩ := Jvm.LawKit.callS X57 hx (y := (⟨"com/example/archerfish/archerfish/index/TokenTableHashPinLaw", "term", "([CIII)J"⟩ : MethodName)) hown (mvT hZ (hw _ (List.mem_of_getElem? (i := 3) rfl))) (mvT hZ (hw _ (List.mem_of_getElem? (i := 4) rfl))) (mvT hZ (hw _ (List.mem_of_getElem? (i := 5) rfl))) (mvT hZ (hw _ (List.mem_of_getElem? (i := 6) rfl))) (by decide) (backOf (W := 2) (own_rm1_o l Z a0 hw [] b1 (1 : Int32) (1 : Int32) (1 : Int32) h6 n0 z56 (by decide)) hZ (hw _ (List.mem_of_getElem? (i := 6) rfl)) (hw _ (List.mem_of_getElem? (i := 5) rfl)) (by decide) (by decide)) (g := (mkF m 99 #[.val (.int p1), .val (.int p2), .val (.int p3), .val (.int p4), .val (.int p5), .val (.ref b1), .val (.int (1 : Int32)), .val (.int (2 : Int32)), .val (.int (1 : Int32)), .unset, .unset, .unset, .unset, .unset] [(.int (1 : Int32)), (.int (1 : Int32)), (.int (1 : Int32)), (.ref b1), (.long ((c1.toInt64) * (1 : Int64)))])) rfl (by rw [hml]; rfl) (argsL := [(.ref b1), (.int (1 : Int32)), (.int (1 : Int32)), (.int (1 : Int32))]) (rest := [(.long ((c1.toInt64) * (1 : Int64)))]) (lenOf own_pd1 rfl) rfl (by show 2 * 0 + _ ≤ _; exact Nat.le_of_eq rfl) (hb hby at_99) (fun _ _ => ⟨rfl, eq57, (by decide : 1 + 0 ≤ _), (by decide : 5 + 0 ≤ _)⟩)
      dsimp only [Pt.U, Pt.locs, Pt.cells, Pt.slots] at X58 l58 y58 z58 st58 hQ58
      subst l58 y58 z58
      obtain ⟨rfl, Nq58, eq58⟩ := hQ58
      refine OE.of (fun _ k => st58 _ k) ?_
      have N58 := Fr.app N57 Nq58
      show OE _ p e below s _ _ _ T58 (mkF m 102 #[.val (.int p1), .val (.int p2), .val (.int p3), .val (.int p4), .val (.int p5), .val (.ref b1), .val (.int (1 : Int32)), .val (.int (2 : Int32)), .val (.int (1 : Int32)), .unset, .unset, .unset, .unset, .unset] [(.long (0 : Int64)), (.long ((c1.toInt64) * (1 : Int64)))])
      refine OE.ladd X58 hx hby at_102 ?_
      refine OE.aload X58 hx hby at_103 rfl rfl ?_
      refine OE.iload X58 hx hby at_105 rfl ?_
      refine OE.iload X58 hx hby at_107 rfl ?_
      refine OE.iconst X58 hx hby at_109 (2 : Int32) rfl ?_
      obtain ⟨_, _, ⟨T59, L59, k59, n59⟩, -, X59, ⟨Lc59, hQ59, l59, y59, z59⟩, st59⟩ := Jvm.LawKit.callS X58 hx (y := (⟨"com/example/archerfish/archerfish/index/TokenTableHashPinLaw", "term", "([CIII)J"⟩ : MethodName)) hown (mvT hZ (hw _ (List.mem_of_getElem? (i := 3) rfl))) (mvT hZ (hw _ (List.mem_of_getElem? (i := 4) rfl))) (mvT hZ (hw _ (List.mem_of_getElem? (i := 5) rfl))) (mvT hZ (hw _ (List.mem_of_getElem? (i := 6) rfl))) (by decide) (backOf (W := 2) (own_rm1_o l Z a0 hw [] b1 (1 : Int32) (1 : Int32) (2 : Int32) h6 n0 z56 (by decide)) hZ (hw _ (List.mem_of_getElem? (i := 6) rfl)) (hw _ (List.mem_of_getElem? (i := 5) rfl)) (by decide) (by decide)) (g := (mkF m 110 #[.val (.int p1), .val (.int p2), .val (.int p3), .val (.int p4), .val (.int p5), .val (.ref b1), .val (.int (1 : Int32)), .val (.int (2 : Int32)), .val (.int (1 : Int32)), .unset, .unset, .unset, .unset, .unset] [(.int (2 : Int32)), (.int (1 : Int32)), (.int (1 : Int32)), (.ref b1), (.long (((c1.toInt64) * (1 : Int64)) + (0 : Int64)))])) rfl (by rw [hml]; rfl) (argsL := [(.ref b1), (.int (1 : Int32)), (.int (1 : Int32)), (.int (2 : Int32))]) (rest := [(.long (((c1.toInt64) * (1 : Int64)) + (0 : Int64)))]) (lenOf own_pd1 rfl) rfl (by show 2 * 0 + _ ≤ _; exact Nat.le_of_eq rfl) (hb hby at_110) (fun _ _ => ⟨rfl, eq58, (by decide : 1 + 0 ≤ _), (by decide : 5 + 0 ≤ _)⟩)
      dsimp only [Pt.U, Pt.locs, Pt.cells, Pt.slots] at X59 l59 y59 z59 st59 hQ59
      subst l59 y59 z59
      obtain ⟨rfl, Nq59, eq59⟩ := hQ59
      refine OE.of (fun _ k => st59 _ k) ?_
      have N59 := Fr.app N58 Nq59
      show OE _ p e below s _ _ _ T59 (mkF m 113 #[.val (.int p1), .val (.int p2), .val (.int p3), .val (.int p4), .val (.int p5), .val (.ref b1), .val (.int (1 : Int32)), .val (.int (2 : Int32)), .val (.int (1 : Int32)), .unset, .unset, .unset, .unset, .unset] [(.long (0 : Int64)), (.long (((c1.toInt64) * (1 : Int64)) + (0 : Int64)))])
      refine OE.ladd X59 hx hby at_113 ?_
      refine OE.aload X59 hx hby at_114 rfl rfl ?_
      refine OE.iload X59 hx hby at_116 rfl ?_
      refine OE.iload X59 hx hby at_118 rfl ?_
      refine OE.iconst X59 hx hby at_120 (3 : Int32) rfl ?_
      obtain ⟨_, _, ⟨T60, L60, k60, n60⟩, -, X60, ⟨Lc60, hQ60, l60, y60, z60⟩, st60⟩ := Jvm.LawKit.callS X59 hx (y := (⟨"com/example/archerfish/archerfish/index/TokenTableHashPinLaw", "term", "([CIII)J"⟩ : MethodName)) hown (mvT hZ (hw _ (List.mem_of_getElem? (i := 3) rfl))) (mvT hZ (hw _ (List.mem_of_getElem? (i := 4) rfl))) (mvT hZ (hw _ (List.mem_of_getElem? (i := 5) rfl))) (mvT hZ (hw _ (List.mem_of_getElem? (i := 6) rfl))) (by decide) (backOf (W := 2) (own_rm1_o l Z a0 hw [] b1 (1 : Int32) (1 : Int32) (3 : Int32) h6 n0 z56 (by decide)) hZ (hw _ (List.mem_of_getElem? (i := 6) rfl)) (hw _ (List.mem_of_getElem? (i := 5) rfl)) (by decide) (by decide)) (g := (mkF m 121 #[.val (.int p1), .val (.int p2), .val (.int p3), .val (.int p4), .val (.int p5), .val (.ref b1), .val (.int (1 : Int32)), .val (.int (2 : Int32)), .val (.int (1 : Int32)), .unset, .unset, .unset, .unset, .unset] [(.int (3 : Int32)), (.int (1 : Int32)), (.int (1 : Int32)), (.ref b1), (.long ((((c1.toInt64) * (1 : Int64)) + (0 : Int64)) + (0 : Int64)))])) rfl (by rw [hml]; rfl) (argsL := [(.ref b1), (.int (1 : Int32)), (.int (1 : Int32)), (.int (3 : Int32))]) (rest := [(.long ((((c1.toInt64) * (1 : Int64)) + (0 : Int64)) + (0 : Int64)))]) (lenOf own_pd1 rfl) rfl (by show 2 * 0 + _ ≤ _; exact Nat.le_of_eq rfl) (hb hby at_121) (fun _ _ => ⟨rfl, eq59, (by decide : 1 + 0 ≤ _), (by decide : 5 + 0 ≤ _)⟩)
      dsimp only [Pt.U, Pt.locs, Pt.cells, Pt.slots] at X60 l60 y60 z60 st60 hQ60
      subst l60 y60 z60
      obtain ⟨rfl, Nq60, eq60⟩ := hQ60
      refine OE.of (fun _ k => st60 _ k) ?_
      have N60 := Fr.app N59 Nq60
      show OE _ p e below s _ _ _ T60 (mkF m 124 #[.val (.int p1), .val (.int p2), .val (.int p3), .val (.int p4), .val (.int p5), .val (.ref b1), .val (.int (1 : Int32)), .val (.int (2 : Int32)), .val (.int (1 : Int32)), .unset, .unset, .unset, .unset, .unset] [(.long (0 : Int64)), (.long ((((c1.toInt64) * (1 : Int64)) + (0 : Int64)) + (0 : Int64)))])
      refine OE.ladd X60 hx hby at_124 ?_
      refine OE.aload X60 hx hby at_125 rfl rfl ?_
      refine OE.iload X60 hx hby at_127 rfl ?_
      refine OE.iload X60 hx hby at_129 rfl ?_
      refine OE.iconst X60 hx hby at_131 (4 : Int32) rfl ?_
      obtain ⟨_, _, ⟨T61, L61, k61, n61⟩, -, X61, ⟨Lc61, hQ61, l61, y61, z61⟩, st61⟩ := Jvm.LawKit.callS X60 hx (y := (⟨"com/example/archerfish/archerfish/index/TokenTableHashPinLaw", "term", "([CIII)J"⟩ : MethodName)) hown (mvT hZ (hw _ (List.mem_of_getElem? (i := 3) rfl))) (mvT hZ (hw _ (List.mem_of_getElem? (i := 4) rfl))) (mvT hZ (hw _ (List.mem_of_getElem? (i := 5) rfl))) (mvT hZ (hw _ (List.mem_of_getElem? (i := 6) rfl))) (by decide) (backOf (W := 2) (own_rm1_o l Z a0 hw [] b1 (1 : Int32) (1 : Int32) (4 : Int32) h6 n0 z56 (by decide)) hZ (hw _ (List.mem_of_getElem? (i := 6) rfl)) (hw _ (List.mem_of_getElem? (i := 5) rfl)) (by decide) (by decide)) (g := (mkF m 132 #[.val (.int p1), .val (.int p2), .val (.int p3), .val (.int p4), .val (.int p5), .val (.ref b1), .val (.int (1 : Int32)), .val (.int (2 : Int32)), .val (.int (1 : Int32)), .unset, .unset, .unset, .unset, .unset] [(.int (4 : Int32)), (.int (1 : Int32)), (.int (1 : Int32)), (.ref b1), (.long (((((c1.toInt64) * (1 : Int64)) + (0 : Int64)) + (0 : Int64)) + (0 : Int64)))])) rfl (by rw [hml]; rfl) (argsL := [(.ref b1), (.int (1 : Int32)), (.int (1 : Int32)), (.int (4 : Int32))]) (rest := [(.long (((((c1.toInt64) * (1 : Int64)) + (0 : Int64)) + (0 : Int64)) + (0 : Int64)))]) (lenOf own_pd1 rfl) rfl (by show 2 * 0 + _ ≤ _; exact Nat.le_of_eq rfl) (hb hby at_132) (fun _ _ => ⟨rfl, eq60, (by decide : 1 + 0 ≤ _), (by decide : 5 + 0 ≤ _)⟩)
      dsimp only [Pt.U, Pt.locs, Pt.cells, Pt.slots] at X61 l61 y61 z61 st61 hQ61
      subst l61 y61 z61
      obtain ⟨rfl, Nq61, eq61⟩ := hQ61
      refine OE.of (fun _ k => st61 _ k) ?_
      have N61 := Fr.app N60 Nq61
      show OE _ p e below s _ _ _ T61 (mkF m 135 #[.val (.int p1), .val (.int p2), .val (.int p3), .val (.int p4), .val (.int p5), .val (.ref b1), .val (.int (1 : Int32)), .val (.int (2 : Int32)), .val (.int (1 : Int32)), .unset, .unset, .unset, .unset, .unset] [(.long (0 : Int64)), (.long (((((c1.toInt64) * (1 : Int64)) + (0 : Int64)) + (0 : Int64)) + (0 : Int64)))])
      refine OE.ladd X61 hx hby at_135 ?_
      refine OE.lstore X61 hx hby at_136 (l' := #[.val (.int p1), .val (.int p2), .val (.int p3), .val (.int p4), .val (.int p5), .val (.ref b1), .val (.int (1 : Int32)), .val (.int (2 : Int32)), .val (.int (1 : Int32)), .val (.long ((((((c1.toInt64) * (1 : Int64)) + (0 : Int64)) + (0 : Int64)) + (0 : Int64)) + (0 : Int64))), .second, .unset, .unset, .unset]) rfl ?_
      refine OE.lload X61 hx hby at_138 rfl ?_
      refine OE.l2i X61 hx hby at_140 ?_
      rw [(own_poly1 c1 : (((((((c1.toInt64) * (1 : Int64)) + (0 : Int64)) + (0 : Int64)) + (0 : Int64)) + (0 : Int64)).toInt32) = ((0 : Int32) + c1))]
      show OE _ p e below s _ _ _ T61 (mkF m 141 #[.val (.int p1), .val (.int p2), .val (.int p3), .val (.int p4), .val (.int p5), .val (.ref b1), .val (.int (1 : Int32)), .val (.int (2 : Int32)), .val (.int (1 : Int32)), .val (.long ((((((c1.toInt64) * (1 : Int64)) + (0 : Int64)) + (0 : Int64)) + (0 : Int64)) + (0 : Int64))), .second, .unset, .unset, .unset] [(.int ((0 : Int32) + c1))])
      refine OE.istore X61 hx hby at_141 (l' := #[.val (.int p1), .val (.int p2), .val (.int p3), .val (.int p4), .val (.int p5), .val (.ref b1), .val (.int (1 : Int32)), .val (.int (2 : Int32)), .val (.int (1 : Int32)), .val (.long ((((((c1.toInt64) * (1 : Int64)) + (0 : Int64)) + (0 : Int64)) + (0 : Int64)) + (0 : Int64))), .second, .val (.int ((0 : Int32) + c1)), .unset, .unset]) rfl ?_
      refine OE.iload X61 hx hby at_143 rfl ?_
      refine OE.i2l X61 hx hby at_145 ?_
      refine OE.of (X61.ldc2Long hx hown (mvT hZ (hw _ (List.mem_of_getElem? (i := 7) rfl))) (g := (mkF m 146 #[.val (.int p1), .val (.int p2), .val (.int p3), .val (.int p4), .val (.int p5), .val (.ref b1), .val (.int (1 : Int32)), .val (.int (2 : Int32)), .val (.int (1 : Int32)), .val (.long ((((((c1.toInt64) * (1 : Int64)) + (0 : Int64)) + (0 : Int64)) + (0 : Int64)) + (0 : Int64))), .second, .val (.int ((0 : Int32) + c1)), .unset, .unset] [(.long (((0 : Int32) + c1).toInt64))])) rfl (hb hby at_146)) ?_
      show OE _ p e below s _ _ _ T61 (mkF m 149 #[.val (.int p1), .val (.int p2), .val (.int p3), .val (.int p4), .val (.int p5), .val (.ref b1), .val (.int (1 : Int32)), .val (.int (2 : Int32)), .val (.int (1 : Int32)), .val (.long ((((((c1.toInt64) * (1 : Int64)) + (0 : Int64)) + (0 : Int64)) + (0 : Int64)) + (0 : Int64))), .second, .val (.int ((0 : Int32) + c1)), .unset, .unset] [(.long (2654435769 : Int64)), (.long (((0 : Int32) + c1).toInt64))])
      refine OE.lmul X61 hx hby at_149 ?_
      refine OE.l2i X61 hx hby at_150 ?_
      rw [(own_mul _ : (((((0 : Int32) + c1).toInt64) * (2654435769 : Int64)).toInt32) = (((0 : Int32) + c1) * (-1640531527 : Int32)))]
      show OE _ p e below s _ _ _ T61 (mkF m 151 #[.val (.int p1), .val (.int p2), .val (.int p3), .val (.int p4), .val (.int p5), .val (.ref b1), .val (.int (1 : Int32)), .val (.int (2 : Int32)), .val (.int (1 : Int32)), .val (.long ((((((c1.toInt64) * (1 : Int64)) + (0 : Int64)) + (0 : Int64)) + (0 : Int64)) + (0 : Int64))), .second, .val (.int ((0 : Int32) + c1)), .unset, .unset] [(.int (((0 : Int32) + c1) * (-1640531527 : Int32)))])
      refine OE.istore X61 hx hby at_151 (l' := #[.val (.int p1), .val (.int p2), .val (.int p3), .val (.int p4), .val (.int p5), .val (.ref b1), .val (.int (1 : Int32)), .val (.int (2 : Int32)), .val (.int (1 : Int32)), .val (.long ((((((c1.toInt64) * (1 : Int64)) + (0 : Int64)) + (0 : Int64)) + (0 : Int64)) + (0 : Int64))), .second, .val (.int ((0 : Int32) + c1)), .val (.int (((0 : Int32) + c1) * (-1640531527 : Int32))), .unset]) rfl ?_
      refine OE.aload X61 hx hby at_153 rfl rfl ?_
      refine OE.iload X61 hx hby at_155 rfl ?_
      refine OE.iload X61 hx hby at_157 rfl ?_
      obtain ⟨_, _, ⟨T62, L62, k62, n62⟩, -, X62, ⟨Lc62, hQ62, l62, y62, z62⟩, st62⟩ := Jvm.LawKit.callS X61 hx (y := (⟨"com/example/archerfish/archerfish/index/TokenTable", "hash", "([CII)I"⟩ : MethodName)) hown (mvT hZ (hw _ (List.mem_of_getElem? (i := 8) rfl))) (mvT hZ (hw _ (List.mem_of_getElem? (i := 9) rfl))) (mvT hZ (hw _ (List.mem_of_getElem? (i := 10) rfl))) (mvT hZ (hw _ (List.mem_of_getElem? (i := 11) rfl))) (by decide) (backOf (W := 0) (own_rm2_1_1 l Z a0 hw [] b1 c0 c1 c2 c3 c4 k1 h6 n0 z56 Vc) hZ (hw _ (List.mem_of_getElem? (i := 11) rfl)) (hw _ (List.mem_of_getElem? (i := 10) rfl)) (by decide) (by decide)) (g := (mkF m 159 #[.val (.int p1), .val (.int p2), .val (.int p3), .val (.int p4), .val (.int p5), .val (.ref b1), .val (.int (1 : Int32)), .val (.int (2 : Int32)), .val (.int (1 : Int32)), .val (.long ((((((c1.toInt64) * (1 : Int64)) + (0 : Int64)) + (0 : Int64)) + (0 : Int64)) + (0 : Int64))), .second, .val (.int ((0 : Int32) + c1)), .val (.int (((0 : Int32) + c1) * (-1640531527 : Int32))), .unset] [(.int (2 : Int32)), (.int (1 : Int32)), (.ref b1)])) rfl (by rw [hml]; rfl) (argsL := [(.ref b1), (.int (1 : Int32)), (.int (2 : Int32))]) (rest := []) (lenOf own_pd2 rfl) rfl (by show 2 * 0 + _ ≤ _; exact Nat.le_of_eq rfl) (hb hby at_159) (fun _ _ => ⟨rfl, eq61, (by decide : 1 + 0 ≤ _), (by decide : 5 + 0 ≤ _)⟩)
      dsimp only [Pt.U, Pt.locs, Pt.cells, Pt.slots] at X62 l62 y62 z62 st62 hQ62
      subst l62 y62 z62
      obtain ⟨rfl, Nq62, eq62⟩ := hQ62
      refine OE.of (fun _ k => st62 _ k) ?_
      have N62 := Fr.app N61 Nq62
      show OE _ p e below s _ _ _ T62 (mkF m 162 #[.val (.int p1), .val (.int p2), .val (.int p3), .val (.int p4), .val (.int p5), .val (.ref b1), .val (.int (1 : Int32)), .val (.int (2 : Int32)), .val (.int (1 : Int32)), .val (.long ((((((c1.toInt64) * (1 : Int64)) + (0 : Int64)) + (0 : Int64)) + (0 : Int64)) + (0 : Int64))), .second, .val (.int ((0 : Int32) + c1)), .val (.int (((0 : Int32) + c1) * (-1640531527 : Int32))), .unset] [(.int ((((0 : Int32) + c1) * (-1640531527 : Int32)) ^^^ (((((0 : Int32) + c1) * (-1640531527 : Int32)).toUInt32 >>> ((16 : Int32) &&& 31).toUInt32).toInt32)))])
      refine OE.istore X62 hx hby at_162 (l' := #[.val (.int p1), .val (.int p2), .val (.int p3), .val (.int p4), .val (.int p5), .val (.ref b1), .val (.int (1 : Int32)), .val (.int (2 : Int32)), .val (.int (1 : Int32)), .val (.long ((((((c1.toInt64) * (1 : Int64)) + (0 : Int64)) + (0 : Int64)) + (0 : Int64)) + (0 : Int64))), .second, .val (.int ((0 : Int32) + c1)), .val (.int (((0 : Int32) + c1) * (-1640531527 : Int32))), .val (.int ((((0 : Int32) + c1) * (-1640531527 : Int32)) ^^^ (((((0 : Int32) + c1) * (-1640531527 : Int32)).toUInt32 >>> ((16 : Int32) &&& 31).toUInt32).toInt32)))]) rfl ?_
      refine OE.iload X62 hx hby at_164 rfl ?_
      refine OE.bipush X62 hx hby at_166 (16 : Int32) rfl ?_
      refine OE.iushr X62 hx hby at_168 ?_
      refine OE.iload X62 hx hby at_169 rfl ?_
      refine OE.bipush X62 hx hby at_171 (16 : Int32) rfl ?_
      refine OE.iushr X62 hx hby at_173 ?_
      refine OE.icmpNo X62 hx hby at_174 (teq (own_top _ : ((((((0 : Int32) + c1) * (-1640531527 : Int32)) ^^^ (((((0 : Int32) + c1) * (-1640531527 : Int32)).toUInt32 >>> ((16 : Int32) &&& 31).toUInt32).toInt32)).toUInt32 >>> ((16 : Int32) &&& 31).toUInt32).toInt32) = (((((0 : Int32) + c1) * (-1640531527 : Int32)).toUInt32 >>> ((16 : Int32) &&& 31).toUInt32).toInt32))).2 ?_
      refine OE.iload X62 hx hby at_177 rfl ?_
      refine OE.of (X62.ldcInt hx hown (mvT hZ (hw _ (List.mem_of_getElem? (i := 1) rfl))) (g := (mkF m 179 #[.val (.int p1), .val (.int p2), .val (.int p3), .val (.int p4), .val (.int p5), .val (.ref b1), .val (.int (1 : Int32)), .val (.int (2 : Int32)), .val (.int (1 : Int32)), .val (.long ((((((c1.toInt64) * (1 : Int64)) + (0 : Int64)) + (0 : Int64)) + (0 : Int64)) + (0 : Int64))), .second, .val (.int ((0 : Int32) + c1)), .val (.int (((0 : Int32) + c1) * (-1640531527 : Int32))), .val (.int ((((0 : Int32) + c1) * (-1640531527 : Int32)) ^^^ (((((0 : Int32) + c1) * (-1640531527 : Int32)).toUInt32 >>> ((16 : Int32) &&& 31).toUInt32).toInt32)))] [(.int ((((0 : Int32) + c1) * (-1640531527 : Int32)) ^^^ (((((0 : Int32) + c1) * (-1640531527 : Int32)).toUInt32 >>> ((16 : Int32) &&& 31).toUInt32).toInt32)))])) rfl (hb hby at_179)) ?_
      show OE _ p e below s _ _ _ T62 (mkF m 181 #[.val (.int p1), .val (.int p2), .val (.int p3), .val (.int p4), .val (.int p5), .val (.ref b1), .val (.int (1 : Int32)), .val (.int (2 : Int32)), .val (.int (1 : Int32)), .val (.long ((((((c1.toInt64) * (1 : Int64)) + (0 : Int64)) + (0 : Int64)) + (0 : Int64)) + (0 : Int64))), .second, .val (.int ((0 : Int32) + c1)), .val (.int (((0 : Int32) + c1) * (-1640531527 : Int32))), .val (.int ((((0 : Int32) + c1) * (-1640531527 : Int32)) ^^^ (((((0 : Int32) + c1) * (-1640531527 : Int32)).toUInt32 >>> ((16 : Int32) &&& 31).toUInt32).toInt32)))] [(.int (65535 : Int32)), (.int ((((0 : Int32) + c1) * (-1640531527 : Int32)) ^^^ (((((0 : Int32) + c1) * (-1640531527 : Int32)).toUInt32 >>> ((16 : Int32) &&& 31).toUInt32).toInt32)))])
      refine OE.iand X62 hx hby at_181 ?_
      refine OE.iload X62 hx hby at_182 rfl ?_
      refine OE.iload X62 hx hby at_184 rfl ?_
      refine OE.bipush X62 hx hby at_186 (16 : Int32) rfl ?_
      refine OE.iushr X62 hx hby at_188 ?_
      refine OE.ixor X62 hx hby at_189 ?_
      refine OE.of (X62.ldcInt hx hown (mvT hZ (hw _ (List.mem_of_getElem? (i := 1) rfl))) (g := (mkF m 190 #[.val (.int p1), .val (.int p2), .val (.int p3), .val (.int p4), .val (.int p5), .val (.ref b1), .val (.int (1 : Int32)), .val (.int (2 : Int32)), .val (.int (1 : Int32)), .val (.long ((((((c1.toInt64) * (1 : Int64)) + (0 : Int64)) + (0 : Int64)) + (0 : Int64)) + (0 : Int64))), .second, .val (.int ((0 : Int32) + c1)), .val (.int (((0 : Int32) + c1) * (-1640531527 : Int32))), .val (.int ((((0 : Int32) + c1) * (-1640531527 : Int32)) ^^^ (((((0 : Int32) + c1) * (-1640531527 : Int32)).toUInt32 >>> ((16 : Int32) &&& 31).toUInt32).toInt32)))] [(.int ((((0 : Int32) + c1) * (-1640531527 : Int32)) ^^^ (((((0 : Int32) + c1) * (-1640531527 : Int32)).toUInt32 >>> ((16 : Int32) &&& 31).toUInt32).toInt32))), (.int (((((0 : Int32) + c1) * (-1640531527 : Int32)) ^^^ (((((0 : Int32) + c1) * (-1640531527 : Int32)).toUInt32 >>> ((16 : Int32) &&& 31).toUInt32).toInt32)) &&& (65535 : Int32)))])) rfl (hb hby at_190)) ?_
      show OE _ p e below s _ _ _ T62 (mkF m 192 #[.val (.int p1), .val (.int p2), .val (.int p3), .val (.int p4), .val (.int p5), .val (.ref b1), .val (.int (1 : Int32)), .val (.int (2 : Int32)), .val (.int (1 : Int32)), .val (.long ((((((c1.toInt64) * (1 : Int64)) + (0 : Int64)) + (0 : Int64)) + (0 : Int64)) + (0 : Int64))), .second, .val (.int ((0 : Int32) + c1)), .val (.int (((0 : Int32) + c1) * (-1640531527 : Int32))), .val (.int ((((0 : Int32) + c1) * (-1640531527 : Int32)) ^^^ (((((0 : Int32) + c1) * (-1640531527 : Int32)).toUInt32 >>> ((16 : Int32) &&& 31).toUInt32).toInt32)))] [(.int (65535 : Int32)), (.int ((((0 : Int32) + c1) * (-1640531527 : Int32)) ^^^ (((((0 : Int32) + c1) * (-1640531527 : Int32)).toUInt32 >>> ((16 : Int32) &&& 31).toUInt32).toInt32))), (.int (((((0 : Int32) + c1) * (-1640531527 : Int32)) ^^^ (((((0 : Int32) + c1) * (-1640531527 : Int32)).toUInt32 >>> ((16 : Int32) &&& 31).toUInt32).toInt32)) &&& (65535 : Int32)))])
      refine OE.iand X62 hx hby at_192 ?_
      refine OE.icmpNo X62 hx hby at_193 (teq (rfl : (((((0 : Int32) + c1) * (-1640531527 : Int32)) ^^^ (((((0 : Int32) + c1) * (-1640531527 : Int32)).toUInt32 >>> ((16 : Int32) &&& 31).toUInt32).toInt32)) &&& (65535 : Int32)) = (((((0 : Int32) + c1) * (-1640531527 : Int32)) ^^^ (((((0 : Int32) + c1) * (-1640531527 : Int32)).toUInt32 >>> ((16 : Int32) &&& 31).toUInt32).toInt32)) &&& (65535 : Int32)))).2 ?_
      refine OE.iconst X62 hx hby at_196 (1 : Int32) rfl ?_
      refine OE.goto X62 hx hby (pc' := 201) at_197 (h := ?_)
      refine OE.retN X62 hx (t := .boolean) Bd.returns (by simp) Bd.notSynchronized (hb hby at_201) (by decide) (by decide) ?_
      rw [eq62]
      exact ⟨rfl, N62⟩
    · rw [hm]
      show OE _ p e below s _ _ _ T6 (mkF m 72 #[.val (.int p1), .val (.int p2), .val (.int p3), .val (.int p4), .val (.int p5), .val (.ref b1), .val (.int (1 : Int32)), .unset, .unset, .unset, .unset, .unset, .unset, .unset] [(.int (2 : Int32)), (.int (1 : Int32))])
      refine OE.iadd X6 hx hby at_72 ?_
      rw [(by decide : ((1 : Int32) + (2 : Int32)) = (3 : Int32))]
      refine OE.istore X6 hx hby at_73 (l' := #[.val (.int p1), .val (.int p2), .val (.int p3), .val (.int p4), .val (.int p5), .val (.ref b1), .val (.int (1 : Int32)), .val (.int (3 : Int32)), .unset, .unset, .unset, .unset, .unset, .unset]) rfl ?_
      refine OE.iload X6 hx hby at_75 rfl ?_
      refine OE.iload X6 hx hby at_77 rfl ?_
      refine OE.isub X6 hx hby at_79 ?_
      rw [(by decide : ((3 : Int32) - (1 : Int32)) = (2 : Int32))]
      refine OE.istore X6 hx hby at_80 (l' := #[.val (.int p1), .val (.int p2), .val (.int p3), .val (.int p4), .val (.int p5), .val (.ref b1), .val (.int (1 : Int32)), .val (.int (3 : Int32)), .val (.int (2 : Int32)), .unset, .unset, .unset, .unset, .unset]) rfl ?_
      refine OE.aload X6 hx hby at_82 rfl rfl ?_
      refine OE.iload X6 hx hby at_84 rfl ?_
      refine OE.iload X6 hx hby at_86 rfl ?_
      refine OE.iconst X6 hx hby at_88 (0 : Int32) rfl ?_
      have z63 : n0 ≤ h6.size := (Nat.le_trans (Nat.le_trans (Nat.le_trans (Nat.le_trans (Nat.le_trans (Nat.le_trans Z0 E1.1) (Nat.le_of_eq W2.size.symm)) (Nat.le_of_eq W3.size.symm)) (Nat.le_of_eq W4.size.symm)) (Nat.le_of_eq W5.size.symm)) (Nat.le_of_eq W6.size.symm))
      obtain ⟨_, _, ⟨T64, L64, k64, n64⟩, -, X64, ⟨Lc64, hQ64, l64, y64, z64⟩, st64⟩ := Jvm.LawKit.callS X6 hx (y := (⟨"com/example/archerfish/archerfish/index/TokenTableHashPinLaw", "term", "([CIII)J"⟩ : MethodName)) hown (mvT hZ (hw _ (List.mem_of_getElem? (i := 3) rfl))) (mvT hZ (hw _ (List.mem_of_getElem? (i := 4) rfl))) (mvT hZ (hw _ (List.mem_of_getElem? (i := 5) rfl))) (mvT hZ (hw _ (List.mem_of_getElem? (i := 6) rfl))) (by decide) (backOf (W := 0) (own_rm1_2_0 l Z a0 hw [] b1 (1 : Int32) c1 k1 [(.int c0), (.int c1), (.int c2), (.int c3), (.int c4)] h6 n0 z63 Vc ⟨by decide, by decide⟩ rfl) hZ (hw _ (List.mem_of_getElem? (i := 6) rfl)) (hw _ (List.mem_of_getElem? (i := 5) rfl)) (by decide) (by decide)) (g := (mkF m 89 #[.val (.int p1), .val (.int p2), .val (.int p3), .val (.int p4), .val (.int p5), .val (.ref b1), .val (.int (1 : Int32)), .val (.int (3 : Int32)), .val (.int (2 : Int32)), .unset, .unset, .unset, .unset, .unset] [(.int (0 : Int32)), (.int (2 : Int32)), (.int (1 : Int32)), (.ref b1)])) rfl (by rw [hml]; rfl) (argsL := [(.ref b1), (.int (1 : Int32)), (.int (2 : Int32)), (.int (0 : Int32))]) (rest := []) (lenOf own_pd1 rfl) rfl (by show 2 * 0 + _ ≤ _; exact Nat.le_of_eq rfl) (hb hby at_89) (fun _ _ => ⟨rfl, e6, (by decide : 1 + 0 ≤ _), (by decide : 5 + 0 ≤ _)⟩)
      dsimp only [Pt.U, Pt.locs, Pt.cells, Pt.slots] at X64 l64 y64 z64 st64 hQ64
      subst l64 y64 z64
      obtain ⟨rfl, Nq64, eq64⟩ := hQ64
      refine OE.of (fun _ k => st64 _ k) ?_
      have N64 := Fr.app N6 Nq64
      show OE _ p e below s _ _ _ T64 (mkF m 92 #[.val (.int p1), .val (.int p2), .val (.int p3), .val (.int p4), .val (.int p5), .val (.ref b1), .val (.int (1 : Int32)), .val (.int (3 : Int32)), .val (.int (2 : Int32)), .unset, .unset, .unset, .unset, .unset] [(.long ((c1.toInt64) * (31 : Int64)))])
      refine OE.aload X64 hx hby at_92 rfl rfl ?_
      refine OE.iload X64 hx hby at_94 rfl ?_
      refine OE.iload X64 hx hby at_96 rfl ?_
      refine OE.iconst X64 hx hby at_98 (1 : Int32) rfl ?_
      obtain ⟨_, _, ⟨T65, L65, k65, n65⟩, -, X65, ⟨Lc65, hQ65, l65, y65, z65⟩, st65⟩ := Jvm.LawKit.callS X64 hx (y := (⟨"com/example/archerfish/archerfish/index/TokenTableHashPinLaw", "term", "([CIII)J"⟩ : MethodName)) hown (mvT hZ (hw _ (List.mem_of_getElem? (i := 3) rfl))) (mvT hZ (hw _ (List.mem_of_getElem? (i := 4) rfl))) (mvT hZ (hw _ (List.mem_of_getElem? (i := 5) rfl))) (mvT hZ (hw _ (List.mem_of_getElem? (i := 6) rfl))) (by decide) (backOf (W := 2) (own_rm1_2_1 l Z a0 hw [] b1 (1 : Int32) c2 k1 [(.int c0), (.int c1), (.int c2), (.int c3), (.int c4)] h6 n0 z63 Vc ⟨by decide, by decide⟩ rfl) hZ (hw _ (List.mem_of_getElem? (i := 6) rfl)) (hw _ (List.mem_of_getElem? (i := 5) rfl)) (by decide) (by decide)) (g := (mkF m 99 #[.val (.int p1), .val (.int p2), .val (.int p3), .val (.int p4), .val (.int p5), .val (.ref b1), .val (.int (1 : Int32)), .val (.int (3 : Int32)), .val (.int (2 : Int32)), .unset, .unset, .unset, .unset, .unset] [(.int (1 : Int32)), (.int (2 : Int32)), (.int (1 : Int32)), (.ref b1), (.long ((c1.toInt64) * (31 : Int64)))])) rfl (by rw [hml]; rfl) (argsL := [(.ref b1), (.int (1 : Int32)), (.int (2 : Int32)), (.int (1 : Int32))]) (rest := [(.long ((c1.toInt64) * (31 : Int64)))]) (lenOf own_pd1 rfl) rfl (by show 2 * 0 + _ ≤ _; exact Nat.le_of_eq rfl) (hb hby at_99) (fun _ _ => ⟨rfl, eq64, (by decide : 1 + 0 ≤ _), (by decide : 5 + 0 ≤ _)⟩)
      dsimp only [Pt.U, Pt.locs, Pt.cells, Pt.slots] at X65 l65 y65 z65 st65 hQ65
      subst l65 y65 z65
      obtain ⟨rfl, Nq65, eq65⟩ := hQ65
      refine OE.of (fun _ k => st65 _ k) ?_
      have N65 := Fr.app N64 Nq65
      show OE _ p e below s _ _ _ T65 (mkF m 102 #[.val (.int p1), .val (.int p2), .val (.int p3), .val (.int p4), .val (.int p5), .val (.ref b1), .val (.int (1 : Int32)), .val (.int (3 : Int32)), .val (.int (2 : Int32)), .unset, .unset, .unset, .unset, .unset] [(.long ((c2.toInt64) * (1 : Int64))), (.long ((c1.toInt64) * (31 : Int64)))])
      refine OE.ladd X65 hx hby at_102 ?_
      refine OE.aload X65 hx hby at_103 rfl rfl ?_
      refine OE.iload X65 hx hby at_105 rfl ?_
      refine OE.iload X65 hx hby at_107 rfl ?_
      refine OE.iconst X65 hx hby at_109 (2 : Int32) rfl ?_
      obtain ⟨_, _, ⟨T66, L66, k66, n66⟩, -, X66, ⟨Lc66, hQ66, l66, y66, z66⟩, st66⟩ := Jvm.LawKit.callS X65 hx (y := (⟨"com/example/archerfish/archerfish/index/TokenTableHashPinLaw", "term", "([CIII)J"⟩ : MethodName)) hown (mvT hZ (hw _ (List.mem_of_getElem? (i := 3) rfl))) (mvT hZ (hw _ (List.mem_of_getElem? (i := 4) rfl))) (mvT hZ (hw _ (List.mem_of_getElem? (i := 5) rfl))) (mvT hZ (hw _ (List.mem_of_getElem? (i := 6) rfl))) (by decide) (backOf (W := 2) (own_rm1_o l Z a0 hw [] b1 (1 : Int32) (2 : Int32) (2 : Int32) h6 n0 z63 (by decide)) hZ (hw _ (List.mem_of_getElem? (i := 6) rfl)) (hw _ (List.mem_of_getElem? (i := 5) rfl)) (by decide) (by decide)) (g := (mkF m 110 #[.val (.int p1), .val (.int p2), .val (.int p3), .val (.int p4), .val (.int p5), .val (.ref b1), .val (.int (1 : Int32)), .val (.int (3 : Int32)), .val (.int (2 : Int32)), .unset, .unset, .unset, .unset, .unset] [(.int (2 : Int32)), (.int (2 : Int32)), (.int (1 : Int32)), (.ref b1), (.long (((c1.toInt64) * (31 : Int64)) + ((c2.toInt64) * (1 : Int64))))])) rfl (by rw [hml]; rfl) (argsL := [(.ref b1), (.int (1 : Int32)), (.int (2 : Int32)), (.int (2 : Int32))]) (rest := [(.long (((c1.toInt64) * (31 : Int64)) + ((c2.toInt64) * (1 : Int64))))]) (lenOf own_pd1 rfl) rfl (by show 2 * 0 + _ ≤ _; exact Nat.le_of_eq rfl) (hb hby at_110) (fun _ _ => ⟨rfl, eq65, (by decide : 1 + 0 ≤ _), (by decide : 5 + 0 ≤ _)⟩)
      dsimp only [Pt.U, Pt.locs, Pt.cells, Pt.slots] at X66 l66 y66 z66 st66 hQ66
      subst l66 y66 z66
      obtain ⟨rfl, Nq66, eq66⟩ := hQ66
      refine OE.of (fun _ k => st66 _ k) ?_
      have N66 := Fr.app N65 Nq66
      show OE _ p e below s _ _ _ T66 (mkF m 113 #[.val (.int p1), .val (.int p2), .val (.int p3), .val (.int p4), .val (.int p5), .val (.ref b1), .val (.int (1 : Int32)), .val (.int (3 : Int32)), .val (.int (2 : Int32)), .unset, .unset, .unset, .unset, .unset] [(.long (0 : Int64)), (.long (((c1.toInt64) * (31 : Int64)) + ((c2.toInt64) * (1 : Int64))))])
      refine OE.ladd X66 hx hby at_113 ?_
      refine OE.aload X66 hx hby at_114 rfl rfl ?_
      refine OE.iload X66 hx hby at_116 rfl ?_
      refine OE.iload X66 hx hby at_118 rfl ?_
      refine OE.iconst X66 hx hby at_120 (3 : Int32) rfl ?_
      obtain ⟨_, _, ⟨T67, L67, k67, n67⟩, -, X67, ⟨Lc67, hQ67, l67, y67, z67⟩, st67⟩ := Jvm.LawKit.callS X66 hx (y := (⟨"com/example/archerfish/archerfish/index/TokenTableHashPinLaw", "term", "([CIII)J"⟩ : MethodName)) hown (mvT hZ (hw _ (List.mem_of_getElem? (i := 3) rfl))) (mvT hZ (hw _ (List.mem_of_getElem? (i := 4) rfl))) (mvT hZ (hw _ (List.mem_of_getElem? (i := 5) rfl))) (mvT hZ (hw _ (List.mem_of_getElem? (i := 6) rfl))) (by decide) (backOf (W := 2) (own_rm1_o l Z a0 hw [] b1 (1 : Int32) (2 : Int32) (3 : Int32) h6 n0 z63 (by decide)) hZ (hw _ (List.mem_of_getElem? (i := 6) rfl)) (hw _ (List.mem_of_getElem? (i := 5) rfl)) (by decide) (by decide)) (g := (mkF m 121 #[.val (.int p1), .val (.int p2), .val (.int p3), .val (.int p4), .val (.int p5), .val (.ref b1), .val (.int (1 : Int32)), .val (.int (3 : Int32)), .val (.int (2 : Int32)), .unset, .unset, .unset, .unset, .unset] [(.int (3 : Int32)), (.int (2 : Int32)), (.int (1 : Int32)), (.ref b1), (.long ((((c1.toInt64) * (31 : Int64)) + ((c2.toInt64) * (1 : Int64))) + (0 : Int64)))])) rfl (by rw [hml]; rfl) (argsL := [(.ref b1), (.int (1 : Int32)), (.int (2 : Int32)), (.int (3 : Int32))]) (rest := [(.long ((((c1.toInt64) * (31 : Int64)) + ((c2.toInt64) * (1 : Int64))) + (0 : Int64)))]) (lenOf own_pd1 rfl) rfl (by show 2 * 0 + _ ≤ _; exact Nat.le_of_eq rfl) (hb hby at_121) (fun _ _ => ⟨rfl, eq66, (by decide : 1 + 0 ≤ _), (by decide : 5 + 0 ≤ _)⟩)
      dsimp only [Pt.U, Pt.locs, Pt.cells, Pt.slots] at X67 l67 y67 z67 st67 hQ67
      subst l67 y67 z67
      obtain ⟨rfl, Nq67, eq67⟩ := hQ67
      refine OE.of (fun _ k => st67 _ k) ?_
      have N67 := Fr.app N66 Nq67
      show OE _ p e below s _ _ _ T67 (mkF m 124 #[.val (.int p1), .val (.int p2), .val (.int p3), .val (.int p4), .val (.int p5), .val (.ref b1), .val (.int (1 : Int32)), .val (.int (3 : Int32)), .val (.int (2 : Int32)), .unset, .unset, .unset, .unset, .unset] [(.long (0 : Int64)), (.long ((((c1.toInt64) * (31 : Int64)) + ((c2.toInt64) * (1 : Int64))) + (0 : Int64)))])
      refine OE.ladd X67 hx hby at_124 ?_
      refine OE.aload X67 hx hby at_125 rfl rfl ?_
      refine OE.iload X67 hx hby at_127 rfl ?_
      refine OE.iload X67 hx hby at_129 rfl ?_
      refine OE.iconst X67 hx hby at_131 (4 : Int32) rfl ?_
      obtain ⟨_, _, ⟨T68, L68, k68, n68⟩, -, X68, ⟨Lc68, hQ68, l68, y68, z68⟩, st68⟩ := Jvm.LawKit.callS X67 hx (y := (⟨"com/example/archerfish/archerfish/index/TokenTableHashPinLaw", "term", "([CIII)J"⟩ : MethodName)) hown (mvT hZ (hw _ (List.mem_of_getElem? (i := 3) rfl))) (mvT hZ (hw _ (List.mem_of_getElem? (i := 4) rfl))) (mvT hZ (hw _ (List.mem_of_getElem? (i := 5) rfl))) (mvT hZ (hw _ (List.mem_of_getElem? (i := 6) rfl))) (by decide) (backOf (W := 2) (own_rm1_o l Z a0 hw [] b1 (1 : Int32) (2 : Int32) (4 : Int32) h6 n0 z63 (by decide)) hZ (hw _ (List.mem_of_getElem? (i := 6) rfl)) (hw _ (List.mem_of_getElem? (i := 5) rfl)) (by decide) (by decide)) (g := (mkF m 132 #[.val (.int p1), .val (.int p2), .val (.int p3), .val (.int p4), .val (.int p5), .val (.ref b1), .val (.int (1 : Int32)), .val (.int (3 : Int32)), .val (.int (2 : Int32)), .unset, .unset, .unset, .unset, .unset] [(.int (4 : Int32)), (.int (2 : Int32)), (.int (1 : Int32)), (.ref b1), (.long (((((c1.toInt64) * (31 : Int64)) + ((c2.toInt64) * (1 : Int64))) + (0 : Int64)) + (0 : Int64)))])) rfl (by rw [hml]; rfl) (argsL := [(.ref b1), (.int (1 : Int32)), (.int (2 : Int32)), (.int (4 : Int32))]) (rest := [(.long (((((c1.toInt64) * (31 : Int64)) + ((c2.toInt64) * (1 : Int64))) + (0 : Int64)) + (0 : Int64)))]) (lenOf own_pd1 rfl) rfl (by show 2 * 0 + _ ≤ _; exact Nat.le_of_eq rfl) (hb hby at_132) (fun _ _ => ⟨rfl, eq67, (by decide : 1 + 0 ≤ _), (by decide : 5 + 0 ≤ _)⟩)
      dsimp only [Pt.U, Pt.locs, Pt.cells, Pt.slots] at X68 l68 y68 z68 st68 hQ68
      subst l68 y68 z68
      obtain ⟨rfl, Nq68, eq68⟩ := hQ68
      refine OE.of (fun _ k => st68 _ k) ?_
      have N68 := Fr.app N67 Nq68
      show OE _ p e below s _ _ _ T68 (mkF m 135 #[.val (.int p1), .val (.int p2), .val (.int p3), .val (.int p4), .val (.int p5), .val (.ref b1), .val (.int (1 : Int32)), .val (.int (3 : Int32)), .val (.int (2 : Int32)), .unset, .unset, .unset, .unset, .unset] [(.long (0 : Int64)), (.long (((((c1.toInt64) * (31 : Int64)) + ((c2.toInt64) * (1 : Int64))) + (0 : Int64)) + (0 : Int64)))])
      refine OE.ladd X68 hx hby at_135 ?_
      refine OE.lstore X68 hx hby at_136 (l' := #[.val (.int p1), .val (.int p2), .val (.int p3), .val (.int p4), .val (.int p5), .val (.ref b1), .val (.int (1 : Int32)), .val (.int (3 : Int32)), .val (.int (2 : Int32)), .val (.long ((((((c1.toInt64) * (31 : Int64)) + ((c2.toInt64) * (1 : Int64))) + (0 : Int64)) + (0 : Int64)) + (0 : Int64))), .second, .unset, .unset, .unset]) rfl ?_
      refine OE.lload X68 hx hby at_138 rfl ?_
      refine OE.l2i X68 hx hby at_140 ?_
      rw [(own_poly2 c1 c2 : (((((((c1.toInt64) * (31 : Int64)) + ((c2.toInt64) * (1 : Int64))) + (0 : Int64)) + (0 : Int64)) + (0 : Int64)).toInt32) = (((31 : Int32) * ((0 : Int32) + c1)) + c2))]
      show OE _ p e below s _ _ _ T68 (mkF m 141 #[.val (.int p1), .val (.int p2), .val (.int p3), .val (.int p4), .val (.int p5), .val (.ref b1), .val (.int (1 : Int32)), .val (.int (3 : Int32)), .val (.int (2 : Int32)), .val (.long ((((((c1.toInt64) * (31 : Int64)) + ((c2.toInt64) * (1 : Int64))) + (0 : Int64)) + (0 : Int64)) + (0 : Int64))), .second, .unset, .unset, .unset] [(.int (((31 : Int32) * ((0 : Int32) + c1)) + c2))])
      refine OE.istore X68 hx hby at_141 (l' := #[.val (.int p1), .val (.int p2), .val (.int p3), .val (.int p4), .val (.int p5), .val (.ref b1), .val (.int (1 : Int32)), .val (.int (3 : Int32)), .val (.int (2 : Int32)), .val (.long ((((((c1.toInt64) * (31 : Int64)) + ((c2.toInt64) * (1 : Int64))) + (0 : Int64)) + (0 : Int64)) + (0 : Int64))), .second, .val (.int (((31 : Int32) * ((0 : Int32) + c1)) + c2)), .unset, .unset]) rfl ?_
      refine OE.iload X68 hx hby at_143 rfl ?_
      refine OE.i2l X68 hx hby at_145 ?_
      refine OE.of (X68.ldc2Long hx hown (mvT hZ (hw _ (List.mem_of_getElem? (i := 7) rfl))) (g := (mkF m 146 #[.val (.int p1), .val (.int p2), .val (.int p3), .val (.int p4), .val (.int p5), .val (.ref b1), .val (.int (1 : Int32)), .val (.int (3 : Int32)), .val (.int (2 : Int32)), .val (.long ((((((c1.toInt64) * (31 : Int64)) + ((c2.toInt64) * (1 : Int64))) + (0 : Int64)) + (0 : Int64)) + (0 : Int64))), .second, .val (.int (((31 : Int32) * ((0 : Int32) + c1)) + c2)), .unset, .unset] [(.long ((((31 : Int32) * ((0 : Int32) + c1)) + c2).toInt64))])) rfl (hb hby at_146)) ?_
      show OE _ p e below s _ _ _ T68 (mkF m 149 #[.val (.int p1), .val (.int p2), .val (.int p3), .val (.int p4), .val (.int p5), .val (.ref b1), .val (.int (1 : Int32)), .val (.int (3 : Int32)), .val (.int (2 : Int32)), .val (.long ((((((c1.toInt64) * (31 : Int64)) + ((c2.toInt64) * (1 : Int64))) + (0 : Int64)) + (0 : Int64)) + (0 : Int64))), .second, .val (.int (((31 : Int32) * ((0 : Int32) + c1)) + c2)), .unset, .unset] [(.long (2654435769 : Int64)), (.long ((((31 : Int32) * ((0 : Int32) + c1)) + c2).toInt64))])
      refine OE.lmul X68 hx hby at_149 ?_
      refine OE.l2i X68 hx hby at_150 ?_
      rw [(own_mul _ : ((((((31 : Int32) * ((0 : Int32) + c1)) + c2).toInt64) * (2654435769 : Int64)).toInt32) = ((((31 : Int32) * ((0 : Int32) + c1)) + c2) * (-1640531527 : Int32)))]
      show OE _ p e below s _ _ _ T68 (mkF m 151 #[.val (.int p1), .val (.int p2), .val (.int p3), .val (.int p4), .val (.int p5), .val (.ref b1), .val (.int (1 : Int32)), .val (.int (3 : Int32)), .val (.int (2 : Int32)), .val (.long ((((((c1.toInt64) * (31 : Int64)) + ((c2.toInt64) * (1 : Int64))) + (0 : Int64)) + (0 : Int64)) + (0 : Int64))), .second, .val (.int (((31 : Int32) * ((0 : Int32) + c1)) + c2)), .unset, .unset] [(.int ((((31 : Int32) * ((0 : Int32) + c1)) + c2) * (-1640531527 : Int32)))])
      refine OE.istore X68 hx hby at_151 (l' := #[.val (.int p1), .val (.int p2), .val (.int p3), .val (.int p4), .val (.int p5), .val (.ref b1), .val (.int (1 : Int32)), .val (.int (3 : Int32)), .val (.int (2 : Int32)), .val (.long ((((((c1.toInt64) * (31 : Int64)) + ((c2.toInt64) * (1 : Int64))) + (0 : Int64)) + (0 : Int64)) + (0 : Int64))), .second, .val (.int (((31 : Int32) * ((0 : Int32) + c1)) + c2)), .val (.int ((((31 : Int32) * ((0 : Int32) + c1)) + c2) * (-1640531527 : Int32))), .unset]) rfl ?_
      refine OE.aload X68 hx hby at_153 rfl rfl ?_
      refine OE.iload X68 hx hby at_155 rfl ?_
      refine OE.iload X68 hx hby at_157 rfl ?_
      obtain ⟨_, _, ⟨T69, L69, k69, n69⟩, -, X69, ⟨Lc69, hQ69, l69, y69, z69⟩, st69⟩ := Jvm.LawKit.callS X68 hx (y := (⟨"com/example/archerfish/archerfish/index/TokenTable", "hash", "([CII)I"⟩ : MethodName)) hown (mvT hZ (hw _ (List.mem_of_getElem? (i := 8) rfl))) (mvT hZ (hw _ (List.mem_of_getElem? (i := 9) rfl))) (mvT hZ (hw _ (List.mem_of_getElem? (i := 10) rfl))) (mvT hZ (hw _ (List.mem_of_getElem? (i := 11) rfl))) (by decide) (backOf (W := 0) (own_rm2_1_2 l Z a0 hw [] b1 c0 c1 c2 c3 c4 k1 h6 n0 z63 Vc) hZ (hw _ (List.mem_of_getElem? (i := 11) rfl)) (hw _ (List.mem_of_getElem? (i := 10) rfl)) (by decide) (by decide)) (g := (mkF m 159 #[.val (.int p1), .val (.int p2), .val (.int p3), .val (.int p4), .val (.int p5), .val (.ref b1), .val (.int (1 : Int32)), .val (.int (3 : Int32)), .val (.int (2 : Int32)), .val (.long ((((((c1.toInt64) * (31 : Int64)) + ((c2.toInt64) * (1 : Int64))) + (0 : Int64)) + (0 : Int64)) + (0 : Int64))), .second, .val (.int (((31 : Int32) * ((0 : Int32) + c1)) + c2)), .val (.int ((((31 : Int32) * ((0 : Int32) + c1)) + c2) * (-1640531527 : Int32))), .unset] [(.int (3 : Int32)), (.int (1 : Int32)), (.ref b1)])) rfl (by rw [hml]; rfl) (argsL := [(.ref b1), (.int (1 : Int32)), (.int (3 : Int32))]) (rest := []) (lenOf own_pd2 rfl) rfl (by show 2 * 0 + _ ≤ _; exact Nat.le_of_eq rfl) (hb hby at_159) (fun _ _ => ⟨rfl, eq68, (by decide : 1 + 0 ≤ _), (by decide : 5 + 0 ≤ _)⟩)
      dsimp only [Pt.U, Pt.locs, Pt.cells, Pt.slots] at X69 l69 y69 z69 st69 hQ69
      subst l69 y69 z69
      obtain ⟨rfl, Nq69, eq69⟩ := hQ69
      refine OE.of (fun _ k => st69 _ k) ?_
      have N69 := Fr.app N68 Nq69
      show OE _ p e below s _ _ _ T69 (mkF m 162 #[.val (.int p1), .val (.int p2), .val (.int p3), .val (.int p4), .val (.int p5), .val (.ref b1), .val (.int (1 : Int32)), .val (.int (3 : Int32)), .val (.int (2 : Int32)), .val (.long ((((((c1.toInt64) * (31 : Int64)) + ((c2.toInt64) * (1 : Int64))) + (0 : Int64)) + (0 : Int64)) + (0 : Int64))), .second, .val (.int (((31 : Int32) * ((0 : Int32) + c1)) + c2)), .val (.int ((((31 : Int32) * ((0 : Int32) + c1)) + c2) * (-1640531527 : Int32))), .unset] [(.int (((((31 : Int32) * ((0 : Int32) + c1)) + c2) * (-1640531527 : Int32)) ^^^ ((((((31 : Int32) * ((0 : Int32) + c1)) + c2) * (-1640531527 : Int32)).toUInt32 >>> ((16 : Int32) &&& 31).toUInt32).toInt32)))])
      refine OE.istore X69 hx hby at_162 (l' := #[.val (.int p1), .val (.int p2), .val (.int p3), .val (.int p4), .val (.int p5), .val (.ref b1), .val (.int (1 : Int32)), .val (.int (3 : Int32)), .val (.int (2 : Int32)), .val (.long ((((((c1.toInt64) * (31 : Int64)) + ((c2.toInt64) * (1 : Int64))) + (0 : Int64)) + (0 : Int64)) + (0 : Int64))), .second, .val (.int (((31 : Int32) * ((0 : Int32) + c1)) + c2)), .val (.int ((((31 : Int32) * ((0 : Int32) + c1)) + c2) * (-1640531527 : Int32))), .val (.int (((((31 : Int32) * ((0 : Int32) + c1)) + c2) * (-1640531527 : Int32)) ^^^ ((((((31 : Int32) * ((0 : Int32) + c1)) + c2) * (-1640531527 : Int32)).toUInt32 >>> ((16 : Int32) &&& 31).toUInt32).toInt32)))]) rfl ?_
      refine OE.iload X69 hx hby at_164 rfl ?_
      refine OE.bipush X69 hx hby at_166 (16 : Int32) rfl ?_
      refine OE.iushr X69 hx hby at_168 ?_
      refine OE.iload X69 hx hby at_169 rfl ?_
      refine OE.bipush X69 hx hby at_171 (16 : Int32) rfl ?_
      refine OE.iushr X69 hx hby at_173 ?_
      refine OE.icmpNo X69 hx hby at_174 (teq (own_top _ : (((((((31 : Int32) * ((0 : Int32) + c1)) + c2) * (-1640531527 : Int32)) ^^^ ((((((31 : Int32) * ((0 : Int32) + c1)) + c2) * (-1640531527 : Int32)).toUInt32 >>> ((16 : Int32) &&& 31).toUInt32).toInt32)).toUInt32 >>> ((16 : Int32) &&& 31).toUInt32).toInt32) = ((((((31 : Int32) * ((0 : Int32) + c1)) + c2) * (-1640531527 : Int32)).toUInt32 >>> ((16 : Int32) &&& 31).toUInt32).toInt32))).2 ?_
      refine OE.iload X69 hx hby at_177 rfl ?_
      refine OE.of (X69.ldcInt hx hown (mvT hZ (hw _ (List.mem_of_getElem? (i := 1) rfl))) (g := (mkF m 179 #[.val (.int p1), .val (.int p2), .val (.int p3), .val (.int p4), .val (.int p5), .val (.ref b1), .val (.int (1 : Int32)), .val (.int (3 : Int32)), .val (.int (2 : Int32)), .val (.long ((((((c1.toInt64) * (31 : Int64)) + ((c2.toInt64) * (1 : Int64))) + (0 : Int64)) + (0 : Int64)) + (0 : Int64))), .second, .val (.int (((31 : Int32) * ((0 : Int32) + c1)) + c2)), .val (.int ((((31 : Int32) * ((0 : Int32) + c1)) + c2) * (-1640531527 : Int32))), .val (.int (((((31 : Int32) * ((0 : Int32) + c1)) + c2) * (-1640531527 : Int32)) ^^^ ((((((31 : Int32) * ((0 : Int32) + c1)) + c2) * (-1640531527 : Int32)).toUInt32 >>> ((16 : Int32) &&& 31).toUInt32).toInt32)))] [(.int (((((31 : Int32) * ((0 : Int32) + c1)) + c2) * (-1640531527 : Int32)) ^^^ ((((((31 : Int32) * ((0 : Int32) + c1)) + c2) * (-1640531527 : Int32)).toUInt32 >>> ((16 : Int32) &&& 31).toUInt32).toInt32)))])) rfl (hb hby at_179)) ?_
      show OE _ p e below s _ _ _ T69 (mkF m 181 #[.val (.int p1), .val (.int p2), .val (.int p3), .val (.int p4), .val (.int p5), .val (.ref b1), .val (.int (1 : Int32)), .val (.int (3 : Int32)), .val (.int (2 : Int32)), .val (.long ((((((c1.toInt64) * (31 : Int64)) + ((c2.toInt64) * (1 : Int64))) + (0 : Int64)) + (0 : Int64)) + (0 : Int64))), .second, .val (.int (((31 : Int32) * ((0 : Int32) + c1)) + c2)), .val (.int ((((31 : Int32) * ((0 : Int32) + c1)) + c2) * (-1640531527 : Int32))), .val (.int (((((31 : Int32) * ((0 : Int32) + c1)) + c2) * (-1640531527 : Int32)) ^^^ ((((((31 : Int32) * ((0 : Int32) + c1)) + c2) * (-1640531527 : Int32)).toUInt32 >>> ((16 : Int32) &&& 31).toUInt32).toInt32)))] [(.int (65535 : Int32)), (.int (((((31 : Int32) * ((0 : Int32) + c1)) + c2) * (-1640531527 : Int32)) ^^^ ((((((31 : Int32) * ((0 : Int32) + c1)) + c2) * (-1640531527 : Int32)).toUInt32 >>> ((16 : Int32) &&& 31).toUInt32).toInt32)))])
      refine OE.iand X69 hx hby at_181 ?_
      refine OE.iload X69 hx hby at_182 rfl ?_
      refine OE.iload X69 hx hby at_184 rfl ?_
      refine OE.bipush X69 hx hby at_186 (16 : Int32) rfl ?_
      refine OE.iushr X69 hx hby at_188 ?_
      refine OE.ixor X69 hx hby at_189 ?_
      refine OE.of (X69.ldcInt hx hown (mvT hZ (hw _ (List.mem_of_getElem? (i := 1) rfl))) (g := (mkF m 190 #[.val (.int p1), .val (.int p2), .val (.int p3), .val (.int p4), .val (.int p5), .val (.ref b1), .val (.int (1 : Int32)), .val (.int (3 : Int32)), .val (.int (2 : Int32)), .val (.long ((((((c1.toInt64) * (31 : Int64)) + ((c2.toInt64) * (1 : Int64))) + (0 : Int64)) + (0 : Int64)) + (0 : Int64))), .second, .val (.int (((31 : Int32) * ((0 : Int32) + c1)) + c2)), .val (.int ((((31 : Int32) * ((0 : Int32) + c1)) + c2) * (-1640531527 : Int32))), .val (.int (((((31 : Int32) * ((0 : Int32) + c1)) + c2) * (-1640531527 : Int32)) ^^^ ((((((31 : Int32) * ((0 : Int32) + c1)) + c2) * (-1640531527 : Int32)).toUInt32 >>> ((16 : Int32) &&& 31).toUInt32).toInt32)))] [(.int (((((31 : Int32) * ((0 : Int32) + c1)) + c2) * (-1640531527 : Int32)) ^^^ ((((((31 : Int32) * ((0 : Int32) + c1)) + c2) * (-1640531527 : Int32)).toUInt32 >>> ((16 : Int32) &&& 31).toUInt32).toInt32))), (.int ((((((31 : Int32) * ((0 : Int32) + c1)) + c2) * (-1640531527 : Int32)) ^^^ ((((((31 : Int32) * ((0 : Int32) + c1)) + c2) * (-1640531527 : Int32)).toUInt32 >>> ((16 : Int32) &&& 31).toUInt32).toInt32)) &&& (65535 : Int32)))])) rfl (hb hby at_190)) ?_
      show OE _ p e below s _ _ _ T69 (mkF m 192 #[.val (.int p1), .val (.int p2), .val (.int p3), .val (.int p4), .val (.int p5), .val (.ref b1), .val (.int (1 : Int32)), .val (.int (3 : Int32)), .val (.int (2 : Int32)), .val (.long ((((((c1.toInt64) * (31 : Int64)) + ((c2.toInt64) * (1 : Int64))) + (0 : Int64)) + (0 : Int64)) + (0 : Int64))), .second, .val (.int (((31 : Int32) * ((0 : Int32) + c1)) + c2)), .val (.int ((((31 : Int32) * ((0 : Int32) + c1)) + c2) * (-1640531527 : Int32))), .val (.int (((((31 : Int32) * ((0 : Int32) + c1)) + c2) * (-1640531527 : Int32)) ^^^ ((((((31 : Int32) * ((0 : Int32) + c1)) + c2) * (-1640531527 : Int32)).toUInt32 >>> ((16 : Int32) &&& 31).toUInt32).toInt32)))] [(.int (65535 : Int32)), (.int (((((31 : Int32) * ((0 : Int32) + c1)) + c2) * (-1640531527 : Int32)) ^^^ ((((((31 : Int32) * ((0 : Int32) + c1)) + c2) * (-1640531527 : Int32)).toUInt32 >>> ((16 : Int32) &&& 31).toUInt32).toInt32))), (.int ((((((31 : Int32) * ((0 : Int32) + c1)) + c2) * (-1640531527 : Int32)) ^^^ ((((((31 : Int32) * ((0 : Int32) + c1)) + c2) * (-1640531527 : Int32)).toUInt32 >>> ((16 : Int32) &&& 31).toUInt32).toInt32)) &&& (65535 : Int32)))])
      refine OE.iand X69 hx hby at_192 ?_
      refine OE.icmpNo X69 hx hby at_193 (teq (rfl : ((((((31 : Int32) * ((0 : Int32) + c1)) + c2) * (-1640531527 : Int32)) ^^^ ((((((31 : Int32) * ((0 : Int32) + c1)) + c2) * (-1640531527 : Int32)).toUInt32 >>> ((16 : Int32) &&& 31).toUInt32).toInt32)) &&& (65535 : Int32)) = ((((((31 : Int32) * ((0 : Int32) + c1)) + c2) * (-1640531527 : Int32)) ^^^ ((((((31 : Int32) * ((0 : Int32) + c1)) + c2) * (-1640531527 : Int32)).toUInt32 >>> ((16 : Int32) &&& 31).toUInt32).toInt32)) &&& (65535 : Int32)))).2 ?_
      refine OE.iconst X69 hx hby at_196 (1 : Int32) rfl ?_
      refine OE.goto X69 hx hby (pc' := 201) at_197 (h := ?_)
      refine OE.retN X69 hx (t := .boolean) Bd.returns (by simp) Bd.notSynchronized (hb hby at_201) (by decide) (by decide) ?_
      rw [eq69]
      exact ⟨rfl, N69⟩
    · rw [hm]
      show OE _ p e below s _ _ _ T6 (mkF m 72 #[.val (.int p1), .val (.int p2), .val (.int p3), .val (.int p4), .val (.int p5), .val (.ref b1), .val (.int (1 : Int32)), .unset, .unset, .unset, .unset, .unset, .unset, .unset] [(.int (3 : Int32)), (.int (1 : Int32))])
      refine OE.iadd X6 hx hby at_72 ?_
      rw [(by decide : ((1 : Int32) + (3 : Int32)) = (4 : Int32))]
      refine OE.istore X6 hx hby at_73 (l' := #[.val (.int p1), .val (.int p2), .val (.int p3), .val (.int p4), .val (.int p5), .val (.ref b1), .val (.int (1 : Int32)), .val (.int (4 : Int32)), .unset, .unset, .unset, .unset, .unset, .unset]) rfl ?_
      refine OE.iload X6 hx hby at_75 rfl ?_
      refine OE.iload X6 hx hby at_77 rfl ?_
      refine OE.isub X6 hx hby at_79 ?_
      rw [(by decide : ((4 : Int32) - (1 : Int32)) = (3 : Int32))]
      refine OE.istore X6 hx hby at_80 (l' := #[.val (.int p1), .val (.int p2), .val (.int p3), .val (.int p4), .val (.int p5), .val (.ref b1), .val (.int (1 : Int32)), .val (.int (4 : Int32)), .val (.int (3 : Int32)), .unset, .unset, .unset, .unset, .unset]) rfl ?_
      refine OE.aload X6 hx hby at_82 rfl rfl ?_
      refine OE.iload X6 hx hby at_84 rfl ?_
      refine OE.iload X6 hx hby at_86 rfl ?_
      refine OE.iconst X6 hx hby at_88 (0 : Int32) rfl ?_
      have z70 : n0 ≤ h6.size := (Nat.le_trans (Nat.le_trans (Nat.le_trans (Nat.le_trans (Nat.le_trans (Nat.le_trans Z0 E1.1) (Nat.le_of_eq W2.size.symm)) (Nat.le_of_eq W3.size.symm)) (Nat.le_of_eq W4.size.symm)) (Nat.le_of_eq W5.size.symm)) (Nat.le_of_eq W6.size.symm))
      obtain ⟨_, _, ⟨T71, L71, k71, n71⟩, -, X71, ⟨Lc71, hQ71, l71, y71, z71⟩, st71⟩ := Jvm.LawKit.callS X6 hx (y := (⟨"com/example/archerfish/archerfish/index/TokenTableHashPinLaw", "term", "([CIII)J"⟩ : MethodName)) hown (mvT hZ (hw _ (List.mem_of_getElem? (i := 3) rfl))) (mvT hZ (hw _ (List.mem_of_getElem? (i := 4) rfl))) (mvT hZ (hw _ (List.mem_of_getElem? (i := 5) rfl))) (mvT hZ (hw _ (List.mem_of_getElem? (i := 6) rfl))) (by decide) (backOf (W := 0) (own_rm1_3_0 l Z a0 hw [] b1 (1 : Int32) c1 k1 [(.int c0), (.int c1), (.int c2), (.int c3), (.int c4)] h6 n0 z70 Vc ⟨by decide, by decide⟩ rfl) hZ (hw _ (List.mem_of_getElem? (i := 6) rfl)) (hw _ (List.mem_of_getElem? (i := 5) rfl)) (by decide) (by decide)) (g := (mkF m 89 #[.val (.int p1), .val (.int p2), .val (.int p3), .val (.int p4), .val (.int p5), .val (.ref b1), .val (.int (1 : Int32)), .val (.int (4 : Int32)), .val (.int (3 : Int32)), .unset, .unset, .unset, .unset, .unset] [(.int (0 : Int32)), (.int (3 : Int32)), (.int (1 : Int32)), (.ref b1)])) rfl (by rw [hml]; rfl) (argsL := [(.ref b1), (.int (1 : Int32)), (.int (3 : Int32)), (.int (0 : Int32))]) (rest := []) (lenOf own_pd1 rfl) rfl (by show 2 * 0 + _ ≤ _; exact Nat.le_of_eq rfl) (hb hby at_89) (fun _ _ => ⟨rfl, e6, (by decide : 1 + 0 ≤ _), (by decide : 5 + 0 ≤ _)⟩)
      dsimp only [Pt.U, Pt.locs, Pt.cells, Pt.slots] at X71 l71 y71 z71 st71 hQ71
      subst l71 y71 z71
      obtain ⟨rfl, Nq71, eq71⟩ := hQ71
      refine OE.of (fun _ k => st71 _ k) ?_
      have N71 := Fr.app N6 Nq71
      show OE _ p e below s _ _ _ T71 (mkF m 92 #[.val (.int p1), .val (.int p2), .val (.int p3), .val (.int p4), .val (.int p5), .val (.ref b1), .val (.int (1 : Int32)), .val (.int (4 : Int32)), .val (.int (3 : Int32)), .unset, .unset, .unset, .unset, .unset] [(.long ((c1.toInt64) * (961 : Int64)))])
      refine OE.aload X71 hx hby at_92 rfl rfl ?_
      refine OE.iload X71 hx hby at_94 rfl ?_
      refine OE.iload X71 hx hby at_96 rfl ?_
      refine OE.iconst X71 hx hby at_98 (1 : Int32) rfl ?_
      obtain ⟨_, _, ⟨T72, L72, k72, n72⟩, -, X72, ⟨Lc72, hQ72, l72, y72, z72⟩, st72⟩ := Jvm.LawKit.callS X71 hx (y := (⟨"com/example/archerfish/archerfish/index/TokenTableHashPinLaw", "term", "([CIII)J"⟩ : MethodName)) hown (mvT hZ (hw _ (List.mem_of_getElem? (i := 3) rfl))) (mvT hZ (hw _ (List.mem_of_getElem? (i := 4) rfl))) (mvT hZ (hw _ (List.mem_of_getElem? (i := 5) rfl))) (mvT hZ (hw _ (List.mem_of_getElem? (i := 6) rfl))) (by decide) (backOf (W := 2) (own_rm1_3_1 l Z a0 hw [] b1 (1 : Int32) c2 k1 [(.int c0), (.int c1), (.int c2), (.int c3), (.int c4)] h6 n0 z70 Vc ⟨by decide, by decide⟩ rfl) hZ (hw _ (List.mem_of_getElem? (i := 6) rfl)) (hw _ (List.mem_of_getElem? (i := 5) rfl)) (by decide) (by decide)) (g := (mkF m 99 #[.val (.int p1), .val (.int p2), .val (.int p3), .val (.int p4), .val (.int p5), .val (.ref b1), .val (.int (1 : Int32)), .val (.int (4 : Int32)), .val (.int (3 : Int32)), .unset, .unset, .unset, .unset, .unset] [(.int (1 : Int32)), (.int (3 : Int32)), (.int (1 : Int32)), (.ref b1), (.long ((c1.toInt64) * (961 : Int64)))])) rfl (by rw [hml]; rfl) (argsL := [(.ref b1), (.int (1 : Int32)), (.int (3 : Int32)), (.int (1 : Int32))]) (rest := [(.long ((c1.toInt64) * (961 : Int64)))]) (lenOf own_pd1 rfl) rfl (by show 2 * 0 + _ ≤ _; exact Nat.le_of_eq rfl) (hb hby at_99) (fun _ _ => ⟨rfl, eq71, (by decide : 1 + 0 ≤ _), (by decide : 5 + 0 ≤ _)⟩)
      dsimp only [Pt.U, Pt.locs, Pt.cells, Pt.slots] at X72 l72 y72 z72 st72 hQ72
      subst l72 y72 z72
      obtain ⟨rfl, Nq72, eq72⟩ := hQ72
      refine OE.of (fun _ k => st72 _ k) ?_
      have N72 := Fr.app N71 Nq72
      show OE _ p e below s _ _ _ T72 (mkF m 102 #[.val (.int p1), .val (.int p2), .val (.int p3), .val (.int p4), .val (.int p5), .val (.ref b1), .val (.int (1 : Int32)), .val (.int (4 : Int32)), .val (.int (3 : Int32)), .unset, .unset, .unset, .unset, .unset] [(.long ((c2.toInt64) * (31 : Int64))), (.long ((c1.toInt64) * (961 : Int64)))])
      refine OE.ladd X72 hx hby at_102 ?_
      refine OE.aload X72 hx hby at_103 rfl rfl ?_
      refine OE.iload X72 hx hby at_105 rfl ?_
      refine OE.iload X72 hx hby at_107 rfl ?_
      refine OE.iconst X72 hx hby at_109 (2 : Int32) rfl ?_
      obtain ⟨_, _, ⟨T73, L73, k73, n73⟩, -, X73, ⟨Lc73, hQ73, l73, y73, z73⟩, st73⟩ := Jvm.LawKit.callS X72 hx (y := (⟨"com/example/archerfish/archerfish/index/TokenTableHashPinLaw", "term", "([CIII)J"⟩ : MethodName)) hown (mvT hZ (hw _ (List.mem_of_getElem? (i := 3) rfl))) (mvT hZ (hw _ (List.mem_of_getElem? (i := 4) rfl))) (mvT hZ (hw _ (List.mem_of_getElem? (i := 5) rfl))) (mvT hZ (hw _ (List.mem_of_getElem? (i := 6) rfl))) (by decide) (backOf (W := 2) (own_rm1_3_2 l Z a0 hw [] b1 (1 : Int32) c3 k1 [(.int c0), (.int c1), (.int c2), (.int c3), (.int c4)] h6 n0 z70 Vc ⟨by decide, by decide⟩ rfl) hZ (hw _ (List.mem_of_getElem? (i := 6) rfl)) (hw _ (List.mem_of_getElem? (i := 5) rfl)) (by decide) (by decide)) (g := (mkF m 110 #[.val (.int p1), .val (.int p2), .val (.int p3), .val (.int p4), .val (.int p5), .val (.ref b1), .val (.int (1 : Int32)), .val (.int (4 : Int32)), .val (.int (3 : Int32)), .unset, .unset, .unset, .unset, .unset] [(.int (2 : Int32)), (.int (3 : Int32)), (.int (1 : Int32)), (.ref b1), (.long (((c1.toInt64) * (961 : Int64)) + ((c2.toInt64) * (31 : Int64))))])) rfl (by rw [hml]; rfl) (argsL := [(.ref b1), (.int (1 : Int32)), (.int (3 : Int32)), (.int (2 : Int32))]) (rest := [(.long (((c1.toInt64) * (961 : Int64)) + ((c2.toInt64) * (31 : Int64))))]) (lenOf own_pd1 rfl) rfl (by show 2 * 0 + _ ≤ _; exact Nat.le_of_eq rfl) (hb hby at_110) (fun _ _ => ⟨rfl, eq72, (by decide : 1 + 0 ≤ _), (by decide : 5 + 0 ≤ _)⟩)
      dsimp only [Pt.U, Pt.locs, Pt.cells, Pt.slots] at X73 l73 y73 z73 st73 hQ73
      subst l73 y73 z73
      obtain ⟨rfl, Nq73, eq73⟩ := hQ73
      refine OE.of (fun _ k => st73 _ k) ?_
      have N73 := Fr.app N72 Nq73
      show OE _ p e below s _ _ _ T73 (mkF m 113 #[.val (.int p1), .val (.int p2), .val (.int p3), .val (.int p4), .val (.int p5), .val (.ref b1), .val (.int (1 : Int32)), .val (.int (4 : Int32)), .val (.int (3 : Int32)), .unset, .unset, .unset, .unset, .unset] [(.long ((c3.toInt64) * (1 : Int64))), (.long (((c1.toInt64) * (961 : Int64)) + ((c2.toInt64) * (31 : Int64))))])
      refine OE.ladd X73 hx hby at_113 ?_
      refine OE.aload X73 hx hby at_114 rfl rfl ?_
      refine OE.iload X73 hx hby at_116 rfl ?_
      refine OE.iload X73 hx hby at_118 rfl ?_
      refine OE.iconst X73 hx hby at_120 (3 : Int32) rfl ?_
      obtain ⟨_, _, ⟨T74, L74, k74, n74⟩, -, X74, ⟨Lc74, hQ74, l74, y74, z74⟩, st74⟩ := Jvm.LawKit.callS X73 hx (y := (⟨"com/example/archerfish/archerfish/index/TokenTableHashPinLaw", "term", "([CIII)J"⟩ : MethodName)) hown (mvT hZ (hw _ (List.mem_of_getElem? (i := 3) rfl))) (mvT hZ (hw _ (List.mem_of_getElem? (i := 4) rfl))) (mvT hZ (hw _ (List.mem_of_getElem? (i := 5) rfl))) (mvT hZ (hw _ (List.mem_of_getElem? (i := 6) rfl))) (by decide) (backOf (W := 2) (own_rm1_o l Z a0 hw [] b1 (1 : Int32) (3 : Int32) (3 : Int32) h6 n0 z70 (by decide)) hZ (hw _ (List.mem_of_getElem? (i := 6) rfl)) (hw _ (List.mem_of_getElem? (i := 5) rfl)) (by decide) (by decide)) (g := (mkF m 121 #[.val (.int p1), .val (.int p2), .val (.int p3), .val (.int p4), .val (.int p5), .val (.ref b1), .val (.int (1 : Int32)), .val (.int (4 : Int32)), .val (.int (3 : Int32)), .unset, .unset, .unset, .unset, .unset] [(.int (3 : Int32)), (.int (3 : Int32)), (.int (1 : Int32)), (.ref b1), (.long ((((c1.toInt64) * (961 : Int64)) + ((c2.toInt64) * (31 : Int64))) + ((c3.toInt64) * (1 : Int64))))])) rfl (by rw [hml]; rfl) (argsL := [(.ref b1), (.int (1 : Int32)), (.int (3 : Int32)), (.int (3 : Int32))]) (rest := [(.long ((((c1.toInt64) * (961 : Int64)) + ((c2.toInt64) * (31 : Int64))) + ((c3.toInt64) * (1 : Int64))))]) (lenOf own_pd1 rfl) rfl (by show 2 * 0 + _ ≤ _; exact Nat.le_of_eq rfl) (hb hby at_121) (fun _ _ => ⟨rfl, eq73, (by decide : 1 + 0 ≤ _), (by decide : 5 + 0 ≤ _)⟩)
      dsimp only [Pt.U, Pt.locs, Pt.cells, Pt.slots] at X74 l74 y74 z74 st74 hQ74
      subst l74 y74 z74
      obtain ⟨rfl, Nq74, eq74⟩ := hQ74
      refine OE.of (fun _ k => st74 _ k) ?_
      have N74 := Fr.app N73 Nq74
      show OE _ p e below s _ _ _ T74 (mkF m 124 #[.val (.int p1), .val (.int p2), .val (.int p3), .val (.int p4), .val (.int p5), .val (.ref b1), .val (.int (1 : Int32)), .val (.int (4 : Int32)), .val (.int (3 : Int32)), .unset, .unset, .unset, .unset, .unset] [(.long (0 : Int64)), (.long ((((c1.toInt64) * (961 : Int64)) + ((c2.toInt64) * (31 : Int64))) + ((c3.toInt64) * (1 : Int64))))])
      refine OE.ladd X74 hx hby at_124 ?_
      refine OE.aload X74 hx hby at_125 rfl rfl ?_
      refine OE.iload X74 hx hby at_127 rfl ?_
      refine OE.iload X74 hx hby at_129 rfl ?_
      refine OE.iconst X74 hx hby at_131 (4 : Int32) rfl ?_
      obtain ⟨_, _, ⟨T75, L75, k75, n75⟩, -, X75, ⟨Lc75, hQ75, l75, y75, z75⟩, st75⟩ := Jvm.LawKit.callS X74 hx (y := (⟨"com/example/archerfish/archerfish/index/TokenTableHashPinLaw", "term", "([CIII)J"⟩ : MethodName)) hown (mvT hZ (hw _ (List.mem_of_getElem? (i := 3) rfl))) (mvT hZ (hw _ (List.mem_of_getElem? (i := 4) rfl))) (mvT hZ (hw _ (List.mem_of_getElem? (i := 5) rfl))) (mvT hZ (hw _ (List.mem_of_getElem? (i := 6) rfl))) (by decide) (backOf (W := 2) (own_rm1_o l Z a0 hw [] b1 (1 : Int32) (3 : Int32) (4 : Int32) h6 n0 z70 (by decide)) hZ (hw _ (List.mem_of_getElem? (i := 6) rfl)) (hw _ (List.mem_of_getElem? (i := 5) rfl)) (by decide) (by decide)) (g := (mkF m 132 #[.val (.int p1), .val (.int p2), .val (.int p3), .val (.int p4), .val (.int p5), .val (.ref b1), .val (.int (1 : Int32)), .val (.int (4 : Int32)), .val (.int (3 : Int32)), .unset, .unset, .unset, .unset, .unset] [(.int (4 : Int32)), (.int (3 : Int32)), (.int (1 : Int32)), (.ref b1), (.long (((((c1.toInt64) * (961 : Int64)) + ((c2.toInt64) * (31 : Int64))) + ((c3.toInt64) * (1 : Int64))) + (0 : Int64)))])) rfl (by rw [hml]; rfl) (argsL := [(.ref b1), (.int (1 : Int32)), (.int (3 : Int32)), (.int (4 : Int32))]) (rest := [(.long (((((c1.toInt64) * (961 : Int64)) + ((c2.toInt64) * (31 : Int64))) + ((c3.toInt64) * (1 : Int64))) + (0 : Int64)))]) (lenOf own_pd1 rfl) rfl (by show 2 * 0 + _ ≤ _; exact Nat.le_of_eq rfl) (hb hby at_132) (fun _ _ => ⟨rfl, eq74, (by decide : 1 + 0 ≤ _), (by decide : 5 + 0 ≤ _)⟩)
      dsimp only [Pt.U, Pt.locs, Pt.cells, Pt.slots] at X75 l75 y75 z75 st75 hQ75
      subst l75 y75 z75
      obtain ⟨rfl, Nq75, eq75⟩ := hQ75
      refine OE.of (fun _ k => st75 _ k) ?_
      have N75 := Fr.app N74 Nq75
      show OE _ p e below s _ _ _ T75 (mkF m 135 #[.val (.int p1), .val (.int p2), .val (.int p3), .val (.int p4), .val (.int p5), .val (.ref b1), .val (.int (1 : Int32)), .val (.int (4 : Int32)), .val (.int (3 : Int32)), .unset, .unset, .unset, .unset, .unset] [(.long (0 : Int64)), (.long (((((c1.toInt64) * (961 : Int64)) + ((c2.toInt64) * (31 : Int64))) + ((c3.toInt64) * (1 : Int64))) + (0 : Int64)))])
      refine OE.ladd X75 hx hby at_135 ?_
      refine OE.lstore X75 hx hby at_136 (l' := #[.val (.int p1), .val (.int p2), .val (.int p3), .val (.int p4), .val (.int p5), .val (.ref b1), .val (.int (1 : Int32)), .val (.int (4 : Int32)), .val (.int (3 : Int32)), .val (.long ((((((c1.toInt64) * (961 : Int64)) + ((c2.toInt64) * (31 : Int64))) + ((c3.toInt64) * (1 : Int64))) + (0 : Int64)) + (0 : Int64))), .second, .unset, .unset, .unset]) rfl ?_
      refine OE.lload X75 hx hby at_138 rfl ?_
      refine OE.l2i X75 hx hby at_140 ?_
      rw [(own_poly3 c1 c2 c3 : (((((((c1.toInt64) * (961 : Int64)) + ((c2.toInt64) * (31 : Int64))) + ((c3.toInt64) * (1 : Int64))) + (0 : Int64)) + (0 : Int64)).toInt32) = (((31 : Int32) * (((31 : Int32) * ((0 : Int32) + c1)) + c2)) + c3))]
      show OE _ p e below s _ _ _ T75 (mkF m 141 #[.val (.int p1), .val (.int p2), .val (.int p3), .val (.int p4), .val (.int p5), .val (.ref b1), .val (.int (1 : Int32)), .val (.int (4 : Int32)), .val (.int (3 : Int32)), .val (.long ((((((c1.toInt64) * (961 : Int64)) + ((c2.toInt64) * (31 : Int64))) + ((c3.toInt64) * (1 : Int64))) + (0 : Int64)) + (0 : Int64))), .second, .unset, .unset, .unset] [(.int (((31 : Int32) * (((31 : Int32) * ((0 : Int32) + c1)) + c2)) + c3))])
      refine OE.istore X75 hx hby at_141 (l' := #[.val (.int p1), .val (.int p2), .val (.int p3), .val (.int p4), .val (.int p5), .val (.ref b1), .val (.int (1 : Int32)), .val (.int (4 : Int32)), .val (.int (3 : Int32)), .val (.long ((((((c1.toInt64) * (961 : Int64)) + ((c2.toInt64) * (31 : Int64))) + ((c3.toInt64) * (1 : Int64))) + (0 : Int64)) + (0 : Int64))), .second, .val (.int (((31 : Int32) * (((31 : Int32) * ((0 : Int32) + c1)) + c2)) + c3)), .unset, .unset]) rfl ?_
      refine OE.iload X75 hx hby at_143 rfl ?_
      refine OE.i2l X75 hx hby at_145 ?_
      refine OE.of (X75.ldc2Long hx hown (mvT hZ (hw _ (List.mem_of_getElem? (i := 7) rfl))) (g := (mkF m 146 #[.val (.int p1), .val (.int p2), .val (.int p3), .val (.int p4), .val (.int p5), .val (.ref b1), .val (.int (1 : Int32)), .val (.int (4 : Int32)), .val (.int (3 : Int32)), .val (.long ((((((c1.toInt64) * (961 : Int64)) + ((c2.toInt64) * (31 : Int64))) + ((c3.toInt64) * (1 : Int64))) + (0 : Int64)) + (0 : Int64))), .second, .val (.int (((31 : Int32) * (((31 : Int32) * ((0 : Int32) + c1)) + c2)) + c3)), .unset, .unset] [(.long ((((31 : Int32) * (((31 : Int32) * ((0 : Int32) + c1)) + c2)) + c3).toInt64))])) rfl (hb hby at_146)) ?_
      show OE _ p e below s _ _ _ T75 (mkF m 149 #[.val (.int p1), .val (.int p2), .val (.int p3), .val (.int p4), .val (.int p5), .val (.ref b1), .val (.int (1 : Int32)), .val (.int (4 : Int32)), .val (.int (3 : Int32)), .val (.long ((((((c1.toInt64) * (961 : Int64)) + ((c2.toInt64) * (31 : Int64))) + ((c3.toInt64) * (1 : Int64))) + (0 : Int64)) + (0 : Int64))), .second, .val (.int (((31 : Int32) * (((31 : Int32) * ((0 : Int32) + c1)) + c2)) + c3)), .unset, .unset] [(.long (2654435769 : Int64)), (.long ((((31 : Int32) * (((31 : Int32) * ((0 : Int32) + c1)) + c2)) + c3).toInt64))])
      refine OE.lmul X75 hx hby at_149 ?_
      refine OE.l2i X75 hx hby at_150 ?_
      rw [(own_mul _ : ((((((31 : Int32) * (((31 : Int32) * ((0 : Int32) + c1)) + c2)) + c3).toInt64) * (2654435769 : Int64)).toInt32) = ((((31 : Int32) * (((31 : Int32) * ((0 : Int32) + c1)) + c2)) + c3) * (-1640531527 : Int32)))]
      show OE _ p e below s _ _ _ T75 (mkF m 151 #[.val (.int p1), .val (.int p2), .val (.int p3), .val (.int p4), .val (.int p5), .val (.ref b1), .val (.int (1 : Int32)), .val (.int (4 : Int32)), .val (.int (3 : Int32)), .val (.long ((((((c1.toInt64) * (961 : Int64)) + ((c2.toInt64) * (31 : Int64))) + ((c3.toInt64) * (1 : Int64))) + (0 : Int64)) + (0 : Int64))), .second, .val (.int (((31 : Int32) * (((31 : Int32) * ((0 : Int32) + c1)) + c2)) + c3)), .unset, .unset] [(.int ((((31 : Int32) * (((31 : Int32) * ((0 : Int32) + c1)) + c2)) + c3) * (-1640531527 : Int32)))])
      refine OE.istore X75 hx hby at_151 (l' := #[.val (.int p1), .val (.int p2), .val (.int p3), .val (.int p4), .val (.int p5), .val (.ref b1), .val (.int (1 : Int32)), .val (.int (4 : Int32)), .val (.int (3 : Int32)), .val (.long ((((((c1.toInt64) * (961 : Int64)) + ((c2.toInt64) * (31 : Int64))) + ((c3.toInt64) * (1 : Int64))) + (0 : Int64)) + (0 : Int64))), .second, .val (.int (((31 : Int32) * (((31 : Int32) * ((0 : Int32) + c1)) + c2)) + c3)), .val (.int ((((31 : Int32) * (((31 : Int32) * ((0 : Int32) + c1)) + c2)) + c3) * (-1640531527 : Int32))), .unset]) rfl ?_
      refine OE.aload X75 hx hby at_153 rfl rfl ?_
      refine OE.iload X75 hx hby at_155 rfl ?_
      refine OE.iload X75 hx hby at_157 rfl ?_
      obtain ⟨_, _, ⟨T76, L76, k76, n76⟩, -, X76, ⟨Lc76, hQ76, l76, y76, z76⟩, st76⟩ := Jvm.LawKit.callS X75 hx (y := (⟨"com/example/archerfish/archerfish/index/TokenTable", "hash", "([CII)I"⟩ : MethodName)) hown (mvT hZ (hw _ (List.mem_of_getElem? (i := 8) rfl))) (mvT hZ (hw _ (List.mem_of_getElem? (i := 9) rfl))) (mvT hZ (hw _ (List.mem_of_getElem? (i := 10) rfl))) (mvT hZ (hw _ (List.mem_of_getElem? (i := 11) rfl))) (by decide) (backOf (W := 0) (own_rm2_1_3 l Z a0 hw [] b1 c0 c1 c2 c3 c4 k1 h6 n0 z70 Vc) hZ (hw _ (List.mem_of_getElem? (i := 11) rfl)) (hw _ (List.mem_of_getElem? (i := 10) rfl)) (by decide) (by decide)) (g := (mkF m 159 #[.val (.int p1), .val (.int p2), .val (.int p3), .val (.int p4), .val (.int p5), .val (.ref b1), .val (.int (1 : Int32)), .val (.int (4 : Int32)), .val (.int (3 : Int32)), .val (.long ((((((c1.toInt64) * (961 : Int64)) + ((c2.toInt64) * (31 : Int64))) + ((c3.toInt64) * (1 : Int64))) + (0 : Int64)) + (0 : Int64))), .second, .val (.int (((31 : Int32) * (((31 : Int32) * ((0 : Int32) + c1)) + c2)) + c3)), .val (.int ((((31 : Int32) * (((31 : Int32) * ((0 : Int32) + c1)) + c2)) + c3) * (-1640531527 : Int32))), .unset] [(.int (4 : Int32)), (.int (1 : Int32)), (.ref b1)])) rfl (by rw [hml]; rfl) (argsL := [(.ref b1), (.int (1 : Int32)), (.int (4 : Int32))]) (rest := []) (lenOf own_pd2 rfl) rfl (by show 2 * 0 + _ ≤ _; exact Nat.le_of_eq rfl) (hb hby at_159) (fun _ _ => ⟨rfl, eq75, (by decide : 1 + 0 ≤ _), (by decide : 5 + 0 ≤ _)⟩)
      dsimp only [Pt.U, Pt.locs, Pt.cells, Pt.slots] at X76 l76 y76 z76 st76 hQ76
      subst l76 y76 z76
      obtain ⟨rfl, Nq76, eq76⟩ := hQ76
      refine OE.of (fun _ k => st76 _ k) ?_
      have N76 := Fr.app N75 Nq76
      show OE _ p e below s _ _ _ T76 (mkF m 162 #[.val (.int p1), .val (.int p2), .val (.int p3), .val (.int p4), .val (.int p5), .val (.ref b1), .val (.int (1 : Int32)), .val (.int (4 : Int32)), .val (.int (3 : Int32)), .val (.long ((((((c1.toInt64) * (961 : Int64)) + ((c2.toInt64) * (31 : Int64))) + ((c3.toInt64) * (1 : Int64))) + (0 : Int64)) + (0 : Int64))), .second, .val (.int (((31 : Int32) * (((31 : Int32) * ((0 : Int32) + c1)) + c2)) + c3)), .val (.int ((((31 : Int32) * (((31 : Int32) * ((0 : Int32) + c1)) + c2)) + c3) * (-1640531527 : Int32))), .unset] [(.int (((((31 : Int32) * (((31 : Int32) * ((0 : Int32) + c1)) + c2)) + c3) * (-1640531527 : Int32)) ^^^ ((((((31 : Int32) * (((31 : Int32) * ((0 : Int32) + c1)) + c2)) + c3) * (-1640531527 : Int32)).toUInt32 >>> ((16 : Int32) &&& 31).toUInt32).toInt32)))])
      refine OE.istore X76 hx hby at_162 (l' := #[.val (.int p1), .val (.int p2), .val (.int p3), .val (.int p4), .val (.int p5), .val (.ref b1), .val (.int (1 : Int32)), .val (.int (4 : Int32)), .val (.int (3 : Int32)), .val (.long ((((((c1.toInt64) * (961 : Int64)) + ((c2.toInt64) * (31 : Int64))) + ((c3.toInt64) * (1 : Int64))) + (0 : Int64)) + (0 : Int64))), .second, .val (.int (((31 : Int32) * (((31 : Int32) * ((0 : Int32) + c1)) + c2)) + c3)), .val (.int ((((31 : Int32) * (((31 : Int32) * ((0 : Int32) + c1)) + c2)) + c3) * (-1640531527 : Int32))), .val (.int (((((31 : Int32) * (((31 : Int32) * ((0 : Int32) + c1)) + c2)) + c3) * (-1640531527 : Int32)) ^^^ ((((((31 : Int32) * (((31 : Int32) * ((0 : Int32) + c1)) + c2)) + c3) * (-1640531527 : Int32)).toUInt32 >>> ((16 : Int32) &&& 31).toUInt32).toInt32)))]) rfl ?_
      refine OE.iload X76 hx hby at_164 rfl ?_
      refine OE.bipush X76 hx hby at_166 (16 : Int32) rfl ?_
      refine OE.iushr X76 hx hby at_168 ?_
      refine OE.iload X76 hx hby at_169 rfl ?_
      refine OE.bipush X76 hx hby at_171 (16 : Int32) rfl ?_
      refine OE.iushr X76 hx hby at_173 ?_
      refine OE.icmpNo X76 hx hby at_174 (teq (own_top _ : (((((((31 : Int32) * (((31 : Int32) * ((0 : Int32) + c1)) + c2)) + c3) * (-1640531527 : Int32)) ^^^ ((((((31 : Int32) * (((31 : Int32) * ((0 : Int32) + c1)) + c2)) + c3) * (-1640531527 : Int32)).toUInt32 >>> ((16 : Int32) &&& 31).toUInt32).toInt32)).toUInt32 >>> ((16 : Int32) &&& 31).toUInt32).toInt32) = ((((((31 : Int32) * (((31 : Int32) * ((0 : Int32) + c1)) + c2)) + c3) * (-1640531527 : Int32)).toUInt32 >>> ((16 : Int32) &&& 31).toUInt32).toInt32))).2 ?_
      refine OE.iload X76 hx hby at_177 rfl ?_
      refine OE.of (X76.ldcInt hx hown (mvT hZ (hw _ (List.mem_of_getElem? (i := 1) rfl))) (g := (mkF m 179 #[.val (.int p1), .val (.int p2), .val (.int p3), .val (.int p4), .val (.int p5), .val (.ref b1), .val (.int (1 : Int32)), .val (.int (4 : Int32)), .val (.int (3 : Int32)), .val (.long ((((((c1.toInt64) * (961 : Int64)) + ((c2.toInt64) * (31 : Int64))) + ((c3.toInt64) * (1 : Int64))) + (0 : Int64)) + (0 : Int64))), .second, .val (.int (((31 : Int32) * (((31 : Int32) * ((0 : Int32) + c1)) + c2)) + c3)), .val (.int ((((31 : Int32) * (((31 : Int32) * ((0 : Int32) + c1)) + c2)) + c3) * (-1640531527 : Int32))), .val (.int (((((31 : Int32) * (((31 : Int32) * ((0 : Int32) + c1)) + c2)) + c3) * (-1640531527 : Int32)) ^^^ ((((((31 : Int32) * (((31 : Int32) * ((0 : Int32) + c1)) + c2)) + c3) * (-1640531527 : Int32)).toUInt32 >>> ((16 : Int32) &&& 31).toUInt32).toInt32)))] [(.int (((((31 : Int32) * (((31 : Int32) * ((0 : Int32) + c1)) + c2)) + c3) * (-1640531527 : Int32)) ^^^ ((((((31 : Int32) * (((31 : Int32) * ((0 : Int32) + c1)) + c2)) + c3) * (-1640531527 : Int32)).toUInt32 >>> ((16 : Int32) &&& 31).toUInt32).toInt32)))])) rfl (hb hby at_179)) ?_
      show OE _ p e below s _ _ _ T76 (mkF m 181 #[.val (.int p1), .val (.int p2), .val (.int p3), .val (.int p4), .val (.int p5), .val (.ref b1), .val (.int (1 : Int32)), .val (.int (4 : Int32)), .val (.int (3 : Int32)), .val (.long ((((((c1.toInt64) * (961 : Int64)) + ((c2.toInt64) * (31 : Int64))) + ((c3.toInt64) * (1 : Int64))) + (0 : Int64)) + (0 : Int64))), .second, .val (.int (((31 : Int32) * (((31 : Int32) * ((0 : Int32) + c1)) + c2)) + c3)), .val (.int ((((31 : Int32) * (((31 : Int32) * ((0 : Int32) + c1)) + c2)) + c3) * (-1640531527 : Int32))), .val (.int (((((31 : Int32) * (((31 : Int32) * ((0 : Int32) + c1)) + c2)) + c3) * (-1640531527 : Int32)) ^^^ ((((((31 : Int32) * (((31 : Int32) * ((0 : Int32) + c1)) + c2)) + c3) * (-1640531527 : Int32)).toUInt32 >>> ((16 : Int32) &&& 31).toUInt32).toInt32)))] [(.int (65535 : Int32)), (.int (((((31 : Int32) * (((31 : Int32) * ((0 : Int32) + c1)) + c2)) + c3) * (-1640531527 : Int32)) ^^^ ((((((31 : Int32) * (((31 : Int32) * ((0 : Int32) + c1)) + c2)) + c3) * (-1640531527 : Int32)).toUInt32 >>> ((16 : Int32) &&& 31).toUInt32).toInt32)))])
      refine OE.iand X76 hx hby at_181 ?_
      refine OE.iload X76 hx hby at_182 rfl ?_
      refine OE.iload X76 hx hby at_184 rfl ?_
      refine OE.bipush X76 hx hby at_186 (16 : Int32) rfl ?_
      refine OE.iushr X76 hx hby at_188 ?_
      refine OE.ixor X76 hx hby at_189 ?_
      refine OE.of (X76.ldcInt hx hown (mvT hZ (hw _ (List.mem_of_getElem? (i := 1) rfl))) (g := (mkF m 190 #[.val (.int p1), .val (.int p2), .val (.int p3), .val (.int p4), .val (.int p5), .val (.ref b1), .val (.int (1 : Int32)), .val (.int (4 : Int32)), .val (.int (3 : Int32)), .val (.long ((((((c1.toInt64) * (961 : Int64)) + ((c2.toInt64) * (31 : Int64))) + ((c3.toInt64) * (1 : Int64))) + (0 : Int64)) + (0 : Int64))), .second, .val (.int (((31 : Int32) * (((31 : Int32) * ((0 : Int32) + c1)) + c2)) + c3)), .val (.int ((((31 : Int32) * (((31 : Int32) * ((0 : Int32) + c1)) + c2)) + c3) * (-1640531527 : Int32))), .val (.int (((((31 : Int32) * (((31 : Int32) * ((0 : Int32) + c1)) + c2)) + c3) * (-1640531527 : Int32)) ^^^ ((((((31 : Int32) * (((31 : Int32) * ((0 : Int32) + c1)) + c2)) + c3) * (-1640531527 : Int32)).toUInt32 >>> ((16 : Int32) &&& 31).toUInt32).toInt32)))] [(.int (((((31 : Int32) * (((31 : Int32) * ((0 : Int32) + c1)) + c2)) + c3) * (-1640531527 : Int32)) ^^^ ((((((31 : Int32) * (((31 : Int32) * ((0 : Int32) + c1)) + c2)) + c3) * (-1640531527 : Int32)).toUInt32 >>> ((16 : Int32) &&& 31).toUInt32).toInt32))), (.int ((((((31 : Int32) * (((31 : Int32) * ((0 : Int32) + c1)) + c2)) + c3) * (-1640531527 : Int32)) ^^^ ((((((31 : Int32) * (((31 : Int32) * ((0 : Int32) + c1)) + c2)) + c3) * (-1640531527 : Int32)).toUInt32 >>> ((16 : Int32) &&& 31).toUInt32).toInt32)) &&& (65535 : Int32)))])) rfl (hb hby at_190)) ?_
      show OE _ p e below s _ _ _ T76 (mkF m 192 #[.val (.int p1), .val (.int p2), .val (.int p3), .val (.int p4), .val (.int p5), .val (.ref b1), .val (.int (1 : Int32)), .val (.int (4 : Int32)), .val (.int (3 : Int32)), .val (.long ((((((c1.toInt64) * (961 : Int64)) + ((c2.toInt64) * (31 : Int64))) + ((c3.toInt64) * (1 : Int64))) + (0 : Int64)) + (0 : Int64))), .second, .val (.int (((31 : Int32) * (((31 : Int32) * ((0 : Int32) + c1)) + c2)) + c3)), .val (.int ((((31 : Int32) * (((31 : Int32) * ((0 : Int32) + c1)) + c2)) + c3) * (-1640531527 : Int32))), .val (.int (((((31 : Int32) * (((31 : Int32) * ((0 : Int32) + c1)) + c2)) + c3) * (-1640531527 : Int32)) ^^^ ((((((31 : Int32) * (((31 : Int32) * ((0 : Int32) + c1)) + c2)) + c3) * (-1640531527 : Int32)).toUInt32 >>> ((16 : Int32) &&& 31).toUInt32).toInt32)))] [(.int (65535 : Int32)), (.int (((((31 : Int32) * (((31 : Int32) * ((0 : Int32) + c1)) + c2)) + c3) * (-1640531527 : Int32)) ^^^ ((((((31 : Int32) * (((31 : Int32) * ((0 : Int32) + c1)) + c2)) + c3) * (-1640531527 : Int32)).toUInt32 >>> ((16 : Int32) &&& 31).toUInt32).toInt32))), (.int ((((((31 : Int32) * (((31 : Int32) * ((0 : Int32) + c1)) + c2)) + c3) * (-1640531527 : Int32)) ^^^ ((((((31 : Int32) * (((31 : Int32) * ((0 : Int32) + c1)) + c2)) + c3) * (-1640531527 : Int32)).toUInt32 >>> ((16 : Int32) &&& 31).toUInt32).toInt32)) &&& (65535 : Int32)))])
      refine OE.iand X76 hx hby at_192 ?_
      refine OE.icmpNo X76 hx hby at_193 (teq (rfl : ((((((31 : Int32) * (((31 : Int32) * ((0 : Int32) + c1)) + c2)) + c3) * (-1640531527 : Int32)) ^^^ ((((((31 : Int32) * (((31 : Int32) * ((0 : Int32) + c1)) + c2)) + c3) * (-1640531527 : Int32)).toUInt32 >>> ((16 : Int32) &&& 31).toUInt32).toInt32)) &&& (65535 : Int32)) = ((((((31 : Int32) * (((31 : Int32) * ((0 : Int32) + c1)) + c2)) + c3) * (-1640531527 : Int32)) ^^^ ((((((31 : Int32) * (((31 : Int32) * ((0 : Int32) + c1)) + c2)) + c3) * (-1640531527 : Int32)).toUInt32 >>> ((16 : Int32) &&& 31).toUInt32).toInt32)) &&& (65535 : Int32)))).2 ?_
      refine OE.iconst X76 hx hby at_196 (1 : Int32) rfl ?_
      refine OE.goto X76 hx hby (pc' := 201) at_197 (h := ?_)
      refine OE.retN X76 hx (t := .boolean) Bd.returns (by simp) Bd.notSynchronized (hb hby at_201) (by decide) (by decide) ?_
      rw [eq76]
      exact ⟨rfl, N76⟩
    · rw [hm]
      show OE _ p e below s _ _ _ T6 (mkF m 72 #[.val (.int p1), .val (.int p2), .val (.int p3), .val (.int p4), .val (.int p5), .val (.ref b1), .val (.int (1 : Int32)), .unset, .unset, .unset, .unset, .unset, .unset, .unset] [(.int (4 : Int32)), (.int (1 : Int32))])
      refine OE.iadd X6 hx hby at_72 ?_
      rw [(by decide : ((1 : Int32) + (4 : Int32)) = (5 : Int32))]
      refine OE.istore X6 hx hby at_73 (l' := #[.val (.int p1), .val (.int p2), .val (.int p3), .val (.int p4), .val (.int p5), .val (.ref b1), .val (.int (1 : Int32)), .val (.int (5 : Int32)), .unset, .unset, .unset, .unset, .unset, .unset]) rfl ?_
      refine OE.iload X6 hx hby at_75 rfl ?_
      refine OE.iload X6 hx hby at_77 rfl ?_
      refine OE.isub X6 hx hby at_79 ?_
      rw [(by decide : ((5 : Int32) - (1 : Int32)) = (4 : Int32))]
      refine OE.istore X6 hx hby at_80 (l' := #[.val (.int p1), .val (.int p2), .val (.int p3), .val (.int p4), .val (.int p5), .val (.ref b1), .val (.int (1 : Int32)), .val (.int (5 : Int32)), .val (.int (4 : Int32)), .unset, .unset, .unset, .unset, .unset]) rfl ?_
      refine OE.aload X6 hx hby at_82 rfl rfl ?_
      refine OE.iload X6 hx hby at_84 rfl ?_
      refine OE.iload X6 hx hby at_86 rfl ?_
      refine OE.iconst X6 hx hby at_88 (0 : Int32) rfl ?_
      have z77 : n0 ≤ h6.size := (Nat.le_trans (Nat.le_trans (Nat.le_trans (Nat.le_trans (Nat.le_trans (Nat.le_trans Z0 E1.1) (Nat.le_of_eq W2.size.symm)) (Nat.le_of_eq W3.size.symm)) (Nat.le_of_eq W4.size.symm)) (Nat.le_of_eq W5.size.symm)) (Nat.le_of_eq W6.size.symm))
      obtain ⟨_, _, ⟨T78, L78, k78, n78⟩, -, X78, ⟨Lc78, hQ78, l78, y78, z78⟩, st78⟩ := Jvm.LawKit.callS X6 hx (y := (⟨"com/example/archerfish/archerfish/index/TokenTableHashPinLaw", "term", "([CIII)J"⟩ : MethodName)) hown (mvT hZ (hw _ (List.mem_of_getElem? (i := 3) rfl))) (mvT hZ (hw _ (List.mem_of_getElem? (i := 4) rfl))) (mvT hZ (hw _ (List.mem_of_getElem? (i := 5) rfl))) (mvT hZ (hw _ (List.mem_of_getElem? (i := 6) rfl))) (by decide) (backOf (W := 0) (own_rm1_4_0 l Z a0 hw [] b1 (1 : Int32) c1 k1 [(.int c0), (.int c1), (.int c2), (.int c3), (.int c4)] h6 n0 z77 Vc ⟨by decide, by decide⟩ rfl) hZ (hw _ (List.mem_of_getElem? (i := 6) rfl)) (hw _ (List.mem_of_getElem? (i := 5) rfl)) (by decide) (by decide)) (g := (mkF m 89 #[.val (.int p1), .val (.int p2), .val (.int p3), .val (.int p4), .val (.int p5), .val (.ref b1), .val (.int (1 : Int32)), .val (.int (5 : Int32)), .val (.int (4 : Int32)), .unset, .unset, .unset, .unset, .unset] [(.int (0 : Int32)), (.int (4 : Int32)), (.int (1 : Int32)), (.ref b1)])) rfl (by rw [hml]; rfl) (argsL := [(.ref b1), (.int (1 : Int32)), (.int (4 : Int32)), (.int (0 : Int32))]) (rest := []) (lenOf own_pd1 rfl) rfl (by show 2 * 0 + _ ≤ _; exact Nat.le_of_eq rfl) (hb hby at_89) (fun _ _ => ⟨rfl, e6, (by decide : 1 + 0 ≤ _), (by decide : 5 + 0 ≤ _)⟩)
      dsimp only [Pt.U, Pt.locs, Pt.cells, Pt.slots] at X78 l78 y78 z78 st78 hQ78
      subst l78 y78 z78
      obtain ⟨rfl, Nq78, eq78⟩ := hQ78
      refine OE.of (fun _ k => st78 _ k) ?_
      have N78 := Fr.app N6 Nq78
      show OE _ p e below s _ _ _ T78 (mkF m 92 #[.val (.int p1), .val (.int p2), .val (.int p3), .val (.int p4), .val (.int p5), .val (.ref b1), .val (.int (1 : Int32)), .val (.int (5 : Int32)), .val (.int (4 : Int32)), .unset, .unset, .unset, .unset, .unset] [(.long ((c1.toInt64) * (29791 : Int64)))])
      refine OE.aload X78 hx hby at_92 rfl rfl ?_
      refine OE.iload X78 hx hby at_94 rfl ?_
      refine OE.iload X78 hx hby at_96 rfl ?_
      refine OE.iconst X78 hx hby at_98 (1 : Int32) rfl ?_
      obtain ⟨_, _, ⟨T79, L79, k79, n79⟩, -, X79, ⟨Lc79, hQ79, l79, y79, z79⟩, st79⟩ := Jvm.LawKit.callS X78 hx (y := (⟨"com/example/archerfish/archerfish/index/TokenTableHashPinLaw", "term", "([CIII)J"⟩ : MethodName)) hown (mvT hZ (hw _ (List.mem_of_getElem? (i := 3) rfl))) (mvT hZ (hw _ (List.mem_of_getElem? (i := 4) rfl))) (mvT hZ (hw _ (List.mem_of_getElem? (i := 5) rfl))) (mvT hZ (hw _ (List.mem_of_getElem? (i := 6) rfl))) (by decide) (backOf (W := 2) (own_rm1_4_1 l Z a0 hw [] b1 (1 : Int32) c2 k1 [(.int c0), (.int c1), (.int c2), (.int c3), (.int c4)] h6 n0 z77 Vc ⟨by decide, by decide⟩ rfl) hZ (hw _ (List.mem_of_getElem? (i := 6) rfl)) (hw _ (List.mem_of_getElem? (i := 5) rfl)) (by decide) (by decide)) (g := (mkF m 99 #[.val (.int p1), .val (.int p2), .val (.int p3), .val (.int p4), .val (.int p5), .val (.ref b1), .val (.int (1 : Int32)), .val (.int (5 : Int32)), .val (.int (4 : Int32)), .unset, .unset, .unset, .unset, .unset] [(.int (1 : Int32)), (.int (4 : Int32)), (.int (1 : Int32)), (.ref b1), (.long ((c1.toInt64) * (29791 : Int64)))])) rfl (by rw [hml]; rfl) (argsL := [(.ref b1), (.int (1 : Int32)), (.int (4 : Int32)), (.int (1 : Int32))]) (rest := [(.long ((c1.toInt64) * (29791 : Int64)))]) (lenOf own_pd1 rfl) rfl (by show 2 * 0 + _ ≤ _; exact Nat.le_of_eq rfl) (hb hby at_99) (fun _ _ => ⟨rfl, eq78, (by decide : 1 + 0 ≤ _), (by decide : 5 + 0 ≤ _)⟩)
      dsimp only [Pt.U, Pt.locs, Pt.cells, Pt.slots] at X79 l79 y79 z79 st79 hQ79
      subst l79 y79 z79
      obtain ⟨rfl, Nq79, eq79⟩ := hQ79
      refine OE.of (fun _ k => st79 _ k) ?_
      have N79 := Fr.app N78 Nq79
      show OE _ p e below s _ _ _ T79 (mkF m 102 #[.val (.int p1), .val (.int p2), .val (.int p3), .val (.int p4), .val (.int p5), .val (.ref b1), .val (.int (1 : Int32)), .val (.int (5 : Int32)), .val (.int (4 : Int32)), .unset, .unset, .unset, .unset, .unset] [(.long ((c2.toInt64) * (961 : Int64))), (.long ((c1.toInt64) * (29791 : Int64)))])
      refine OE.ladd X79 hx hby at_102 ?_
      refine OE.aload X79 hx hby at_103 rfl rfl ?_
      refine OE.iload X79 hx hby at_105 rfl ?_
      refine OE.iload X79 hx hby at_107 rfl ?_
      refine OE.iconst X79 hx hby at_109 (2 : Int32) rfl ?_
      obtain ⟨_, _, ⟨T80, L80, k80, n80⟩, -, X80, ⟨Lc80, hQ80, l80, y80, z80⟩, st80⟩ := Jvm.LawKit.callS X79 hx (y := (⟨"com/example/archerfish/archerfish/index/TokenTableHashPinLaw", "term", "([CIII)J"⟩ : MethodName)) hown (mvT hZ (hw _ (List.mem_of_getElem? (i := 3) rfl))) (mvT hZ (hw _ (List.mem_of_getElem? (i := 4) rfl))) (mvT hZ (hw _ (List.mem_of_getElem? (i := 5) rfl))) (mvT hZ (hw _ (List.mem_of_getElem? (i := 6) rfl))) (by decide) (backOf (W := 2) (own_rm1_4_2 l Z a0 hw [] b1 (1 : Int32) c3 k1 [(.int c0), (.int c1), (.int c2), (.int c3), (.int c4)] h6 n0 z77 Vc ⟨by decide, by decide⟩ rfl) hZ (hw _ (List.mem_of_getElem? (i := 6) rfl)) (hw _ (List.mem_of_getElem? (i := 5) rfl)) (by decide) (by decide)) (g := (mkF m 110 #[.val (.int p1), .val (.int p2), .val (.int p3), .val (.int p4), .val (.int p5), .val (.ref b1), .val (.int (1 : Int32)), .val (.int (5 : Int32)), .val (.int (4 : Int32)), .unset, .unset, .unset, .unset, .unset] [(.int (2 : Int32)), (.int (4 : Int32)), (.int (1 : Int32)), (.ref b1), (.long (((c1.toInt64) * (29791 : Int64)) + ((c2.toInt64) * (961 : Int64))))])) rfl (by rw [hml]; rfl) (argsL := [(.ref b1), (.int (1 : Int32)), (.int (4 : Int32)), (.int (2 : Int32))]) (rest := [(.long (((c1.toInt64) * (29791 : Int64)) + ((c2.toInt64) * (961 : Int64))))]) (lenOf own_pd1 rfl) rfl (by show 2 * 0 + _ ≤ _; exact Nat.le_of_eq rfl) (hb hby at_110) (fun _ _ => ⟨rfl, eq79, (by decide : 1 + 0 ≤ _), (by decide : 5 + 0 ≤ _)⟩)
      dsimp only [Pt.U, Pt.locs, Pt.cells, Pt.slots] at X80 l80 y80 z80 st80 hQ80
      subst l80 y80 z80
      obtain ⟨rfl, Nq80, eq80⟩ := hQ80
      refine OE.of (fun _ k => st80 _ k) ?_
      have N80 := Fr.app N79 Nq80
      show OE _ p e below s _ _ _ T80 (mkF m 113 #[.val (.int p1), .val (.int p2), .val (.int p3), .val (.int p4), .val (.int p5), .val (.ref b1), .val (.int (1 : Int32)), .val (.int (5 : Int32)), .val (.int (4 : Int32)), .unset, .unset, .unset, .unset, .unset] [(.long ((c3.toInt64) * (31 : Int64))), (.long (((c1.toInt64) * (29791 : Int64)) + ((c2.toInt64) * (961 : Int64))))])
      refine OE.ladd X80 hx hby at_113 ?_
      refine OE.aload X80 hx hby at_114 rfl rfl ?_
      refine OE.iload X80 hx hby at_116 rfl ?_
      refine OE.iload X80 hx hby at_118 rfl ?_
      refine OE.iconst X80 hx hby at_120 (3 : Int32) rfl ?_
      obtain ⟨_, _, ⟨T81, L81, k81, n81⟩, -, X81, ⟨Lc81, hQ81, l81, y81, z81⟩, st81⟩ := Jvm.LawKit.callS X80 hx (y := (⟨"com/example/archerfish/archerfish/index/TokenTableHashPinLaw", "term", "([CIII)J"⟩ : MethodName)) hown (mvT hZ (hw _ (List.mem_of_getElem? (i := 3) rfl))) (mvT hZ (hw _ (List.mem_of_getElem? (i := 4) rfl))) (mvT hZ (hw _ (List.mem_of_getElem? (i := 5) rfl))) (mvT hZ (hw _ (List.mem_of_getElem? (i := 6) rfl))) (by decide) (backOf (W := 2) (own_rm1_4_3 l Z a0 hw [] b1 (1 : Int32) c4 k1 [(.int c0), (.int c1), (.int c2), (.int c3), (.int c4)] h6 n0 z77 Vc ⟨by decide, by decide⟩ rfl) hZ (hw _ (List.mem_of_getElem? (i := 6) rfl)) (hw _ (List.mem_of_getElem? (i := 5) rfl)) (by decide) (by decide)) (g := (mkF m 121 #[.val (.int p1), .val (.int p2), .val (.int p3), .val (.int p4), .val (.int p5), .val (.ref b1), .val (.int (1 : Int32)), .val (.int (5 : Int32)), .val (.int (4 : Int32)), .unset, .unset, .unset, .unset, .unset] [(.int (3 : Int32)), (.int (4 : Int32)), (.int (1 : Int32)), (.ref b1), (.long ((((c1.toInt64) * (29791 : Int64)) + ((c2.toInt64) * (961 : Int64))) + ((c3.toInt64) * (31 : Int64))))])) rfl (by rw [hml]; rfl) (argsL := [(.ref b1), (.int (1 : Int32)), (.int (4 : Int32)), (.int (3 : Int32))]) (rest := [(.long ((((c1.toInt64) * (29791 : Int64)) + ((c2.toInt64) * (961 : Int64))) + ((c3.toInt64) * (31 : Int64))))]) (lenOf own_pd1 rfl) rfl (by show 2 * 0 + _ ≤ _; exact Nat.le_of_eq rfl) (hb hby at_121) (fun _ _ => ⟨rfl, eq80, (by decide : 1 + 0 ≤ _), (by decide : 5 + 0 ≤ _)⟩)
      dsimp only [Pt.U, Pt.locs, Pt.cells, Pt.slots] at X81 l81 y81 z81 st81 hQ81
      subst l81 y81 z81
      obtain ⟨rfl, Nq81, eq81⟩ := hQ81
      refine OE.of (fun _ k => st81 _ k) ?_
      have N81 := Fr.app N80 Nq81
      show OE _ p e below s _ _ _ T81 (mkF m 124 #[.val (.int p1), .val (.int p2), .val (.int p3), .val (.int p4), .val (.int p5), .val (.ref b1), .val (.int (1 : Int32)), .val (.int (5 : Int32)), .val (.int (4 : Int32)), .unset, .unset, .unset, .unset, .unset] [(.long ((c4.toInt64) * (1 : Int64))), (.long ((((c1.toInt64) * (29791 : Int64)) + ((c2.toInt64) * (961 : Int64))) + ((c3.toInt64) * (31 : Int64))))])
      refine OE.ladd X81 hx hby at_124 ?_
      refine OE.aload X81 hx hby at_125 rfl rfl ?_
      refine OE.iload X81 hx hby at_127 rfl ?_
      refine OE.iload X81 hx hby at_129 rfl ?_
      refine OE.iconst X81 hx hby at_131 (4 : Int32) rfl ?_
      obtain ⟨_, _, ⟨T82, L82, k82, n82⟩, -, X82, ⟨Lc82, hQ82, l82, y82, z82⟩, st82⟩ := Jvm.LawKit.callS X81 hx (y := (⟨"com/example/archerfish/archerfish/index/TokenTableHashPinLaw", "term", "([CIII)J"⟩ : MethodName)) hown (mvT hZ (hw _ (List.mem_of_getElem? (i := 3) rfl))) (mvT hZ (hw _ (List.mem_of_getElem? (i := 4) rfl))) (mvT hZ (hw _ (List.mem_of_getElem? (i := 5) rfl))) (mvT hZ (hw _ (List.mem_of_getElem? (i := 6) rfl))) (by decide) (backOf (W := 2) (own_rm1_o l Z a0 hw [] b1 (1 : Int32) (4 : Int32) (4 : Int32) h6 n0 z77 (by decide)) hZ (hw _ (List.mem_of_getElem? (i := 6) rfl)) (hw _ (List.mem_of_getElem? (i := 5) rfl)) (by decide) (by decide)) (g := (mkF m 132 #[.val (.int p1), .val (.int p2), .val (.int p3), .val (.int p4), .val (.int p5), .val (.ref b1), .val (.int (1 : Int32)), .val (.int (5 : Int32)), .val (.int (4 : Int32)), .unset, .unset, .unset, .unset, .unset] [(.int (4 : Int32)), (.int (4 : Int32)), (.int (1 : Int32)), (.ref b1), (.long (((((c1.toInt64) * (29791 : Int64)) + ((c2.toInt64) * (961 : Int64))) + ((c3.toInt64) * (31 : Int64))) + ((c4.toInt64) * (1 : Int64))))])) rfl (by rw [hml]; rfl) (argsL := [(.ref b1), (.int (1 : Int32)), (.int (4 : Int32)), (.int (4 : Int32))]) (rest := [(.long (((((c1.toInt64) * (29791 : Int64)) + ((c2.toInt64) * (961 : Int64))) + ((c3.toInt64) * (31 : Int64))) + ((c4.toInt64) * (1 : Int64))))]) (lenOf own_pd1 rfl) rfl (by show 2 * 0 + _ ≤ _; exact Nat.le_of_eq rfl) (hb hby at_132) (fun _ _ => ⟨rfl, eq81, (by decide : 1 + 0 ≤ _), (by decide : 5 + 0 ≤ _)⟩)
      dsimp only [Pt.U, Pt.locs, Pt.cells, Pt.slots] at X82 l82 y82 z82 st82 hQ82
      subst l82 y82 z82
      obtain ⟨rfl, Nq82, eq82⟩ := hQ82
      refine OE.of (fun _ k => st82 _ k) ?_
      have N82 := Fr.app N81 Nq82
      show OE _ p e below s _ _ _ T82 (mkF m 135 #[.val (.int p1), .val (.int p2), .val (.int p3), .val (.int p4), .val (.int p5), .val (.ref b1), .val (.int (1 : Int32)), .val (.int (5 : Int32)), .val (.int (4 : Int32)), .unset, .unset, .unset, .unset, .unset] [(.long (0 : Int64)), (.long (((((c1.toInt64) * (29791 : Int64)) + ((c2.toInt64) * (961 : Int64))) + ((c3.toInt64) * (31 : Int64))) + ((c4.toInt64) * (1 : Int64))))])
      refine OE.ladd X82 hx hby at_135 ?_
      refine OE.lstore X82 hx hby at_136 (l' := #[.val (.int p1), .val (.int p2), .val (.int p3), .val (.int p4), .val (.int p5), .val (.ref b1), .val (.int (1 : Int32)), .val (.int (5 : Int32)), .val (.int (4 : Int32)), .val (.long ((((((c1.toInt64) * (29791 : Int64)) + ((c2.toInt64) * (961 : Int64))) + ((c3.toInt64) * (31 : Int64))) + ((c4.toInt64) * (1 : Int64))) + (0 : Int64))), .second, .unset, .unset, .unset]) rfl ?_
      refine OE.lload X82 hx hby at_138 rfl ?_
      refine OE.l2i X82 hx hby at_140 ?_
      rw [(own_poly4 c1 c2 c3 c4 : (((((((c1.toInt64) * (29791 : Int64)) + ((c2.toInt64) * (961 : Int64))) + ((c3.toInt64) * (31 : Int64))) + ((c4.toInt64) * (1 : Int64))) + (0 : Int64)).toInt32) = (((31 : Int32) * (((31 : Int32) * (((31 : Int32) * ((0 : Int32) + c1)) + c2)) + c3)) + c4))]
      show OE _ p e below s _ _ _ T82 (mkF m 141 #[.val (.int p1), .val (.int p2), .val (.int p3), .val (.int p4), .val (.int p5), .val (.ref b1), .val (.int (1 : Int32)), .val (.int (5 : Int32)), .val (.int (4 : Int32)), .val (.long ((((((c1.toInt64) * (29791 : Int64)) + ((c2.toInt64) * (961 : Int64))) + ((c3.toInt64) * (31 : Int64))) + ((c4.toInt64) * (1 : Int64))) + (0 : Int64))), .second, .unset, .unset, .unset] [(.int (((31 : Int32) * (((31 : Int32) * (((31 : Int32) * ((0 : Int32) + c1)) + c2)) + c3)) + c4))])
      refine OE.istore X82 hx hby at_141 (l' := #[.val (.int p1), .val (.int p2), .val (.int p3), .val (.int p4), .val (.int p5), .val (.ref b1), .val (.int (1 : Int32)), .val (.int (5 : Int32)), .val (.int (4 : Int32)), .val (.long ((((((c1.toInt64) * (29791 : Int64)) + ((c2.toInt64) * (961 : Int64))) + ((c3.toInt64) * (31 : Int64))) + ((c4.toInt64) * (1 : Int64))) + (0 : Int64))), .second, .val (.int (((31 : Int32) * (((31 : Int32) * (((31 : Int32) * ((0 : Int32) + c1)) + c2)) + c3)) + c4)), .unset, .unset]) rfl ?_
      refine OE.iload X82 hx hby at_143 rfl ?_
      refine OE.i2l X82 hx hby at_145 ?_
      refine OE.of (X82.ldc2Long hx hown (mvT hZ (hw _ (List.mem_of_getElem? (i := 7) rfl))) (g := (mkF m 146 #[.val (.int p1), .val (.int p2), .val (.int p3), .val (.int p4), .val (.int p5), .val (.ref b1), .val (.int (1 : Int32)), .val (.int (5 : Int32)), .val (.int (4 : Int32)), .val (.long ((((((c1.toInt64) * (29791 : Int64)) + ((c2.toInt64) * (961 : Int64))) + ((c3.toInt64) * (31 : Int64))) + ((c4.toInt64) * (1 : Int64))) + (0 : Int64))), .second, .val (.int (((31 : Int32) * (((31 : Int32) * (((31 : Int32) * ((0 : Int32) + c1)) + c2)) + c3)) + c4)), .unset, .unset] [(.long ((((31 : Int32) * (((31 : Int32) * (((31 : Int32) * ((0 : Int32) + c1)) + c2)) + c3)) + c4).toInt64))])) rfl (hb hby at_146)) ?_
      show OE _ p e below s _ _ _ T82 (mkF m 149 #[.val (.int p1), .val (.int p2), .val (.int p3), .val (.int p4), .val (.int p5), .val (.ref b1), .val (.int (1 : Int32)), .val (.int (5 : Int32)), .val (.int (4 : Int32)), .val (.long ((((((c1.toInt64) * (29791 : Int64)) + ((c2.toInt64) * (961 : Int64))) + ((c3.toInt64) * (31 : Int64))) + ((c4.toInt64) * (1 : Int64))) + (0 : Int64))), .second, .val (.int (((31 : Int32) * (((31 : Int32) * (((31 : Int32) * ((0 : Int32) + c1)) + c2)) + c3)) + c4)), .unset, .unset] [(.long (2654435769 : Int64)), (.long ((((31 : Int32) * (((31 : Int32) * (((31 : Int32) * ((0 : Int32) + c1)) + c2)) + c3)) + c4).toInt64))])
      refine OE.lmul X82 hx hby at_149 ?_
      refine OE.l2i X82 hx hby at_150 ?_
      rw [(own_mul _ : ((((((31 : Int32) * (((31 : Int32) * (((31 : Int32) * ((0 : Int32) + c1)) + c2)) + c3)) + c4).toInt64) * (2654435769 : Int64)).toInt32) = ((((31 : Int32) * (((31 : Int32) * (((31 : Int32) * ((0 : Int32) + c1)) + c2)) + c3)) + c4) * (-1640531527 : Int32)))]
      show OE _ p e below s _ _ _ T82 (mkF m 151 #[.val (.int p1), .val (.int p2), .val (.int p3), .val (.int p4), .val (.int p5), .val (.ref b1), .val (.int (1 : Int32)), .val (.int (5 : Int32)), .val (.int (4 : Int32)), .val (.long ((((((c1.toInt64) * (29791 : Int64)) + ((c2.toInt64) * (961 : Int64))) + ((c3.toInt64) * (31 : Int64))) + ((c4.toInt64) * (1 : Int64))) + (0 : Int64))), .second, .val (.int (((31 : Int32) * (((31 : Int32) * (((31 : Int32) * ((0 : Int32) + c1)) + c2)) + c3)) + c4)), .unset, .unset] [(.int ((((31 : Int32) * (((31 : Int32) * (((31 : Int32) * ((0 : Int32) + c1)) + c2)) + c3)) + c4) * (-1640531527 : Int32)))])
      refine OE.istore X82 hx hby at_151 (l' := #[.val (.int p1), .val (.int p2), .val (.int p3), .val (.int p4), .val (.int p5), .val (.ref b1), .val (.int (1 : Int32)), .val (.int (5 : Int32)), .val (.int (4 : Int32)), .val (.long ((((((c1.toInt64) * (29791 : Int64)) + ((c2.toInt64) * (961 : Int64))) + ((c3.toInt64) * (31 : Int64))) + ((c4.toInt64) * (1 : Int64))) + (0 : Int64))), .second, .val (.int (((31 : Int32) * (((31 : Int32) * (((31 : Int32) * ((0 : Int32) + c1)) + c2)) + c3)) + c4)), .val (.int ((((31 : Int32) * (((31 : Int32) * (((31 : Int32) * ((0 : Int32) + c1)) + c2)) + c3)) + c4) * (-1640531527 : Int32))), .unset]) rfl ?_
      refine OE.aload X82 hx hby at_153 rfl rfl ?_
      refine OE.iload X82 hx hby at_155 rfl ?_
      refine OE.iload X82 hx hby at_157 rfl ?_
      obtain ⟨_, _, ⟨T83, L83, k83, n83⟩, -, X83, ⟨Lc83, hQ83, l83, y83, z83⟩, st83⟩ := Jvm.LawKit.callS X82 hx (y := (⟨"com/example/archerfish/archerfish/index/TokenTable", "hash", "([CII)I"⟩ : MethodName)) hown (mvT hZ (hw _ (List.mem_of_getElem? (i := 8) rfl))) (mvT hZ (hw _ (List.mem_of_getElem? (i := 9) rfl))) (mvT hZ (hw _ (List.mem_of_getElem? (i := 10) rfl))) (mvT hZ (hw _ (List.mem_of_getElem? (i := 11) rfl))) (by decide) (backOf (W := 0) (own_rm2_1_4 l Z a0 hw [] b1 c0 c1 c2 c3 c4 k1 h6 n0 z77 Vc) hZ (hw _ (List.mem_of_getElem? (i := 11) rfl)) (hw _ (List.mem_of_getElem? (i := 10) rfl)) (by decide) (by decide)) (g := (mkF m 159 #[.val (.int p1), .val (.int p2), .val (.int p3), .val (.int p4), .val (.int p5), .val (.ref b1), .val (.int (1 : Int32)), .val (.int (5 : Int32)), .val (.int (4 : Int32)), .val (.long ((((((c1.toInt64) * (29791 : Int64)) + ((c2.toInt64) * (961 : Int64))) + ((c3.toInt64) * (31 : Int64))) + ((c4.toInt64) * (1 : Int64))) + (0 : Int64))), .second, .val (.int (((31 : Int32) * (((31 : Int32) * (((31 : Int32) * ((0 : Int32) + c1)) + c2)) + c3)) + c4)), .val (.int ((((31 : Int32) * (((31 : Int32) * (((31 : Int32) * ((0 : Int32) + c1)) + c2)) + c3)) + c4) * (-1640531527 : Int32))), .unset] [(.int (5 : Int32)), (.int (1 : Int32)), (.ref b1)])) rfl (by rw [hml]; rfl) (argsL := [(.ref b1), (.int (1 : Int32)), (.int (5 : Int32))]) (rest := []) (lenOf own_pd2 rfl) rfl (by show 2 * 0 + _ ≤ _; exact Nat.le_of_eq rfl) (hb hby at_159) (fun _ _ => ⟨rfl, eq82, (by decide : 1 + 0 ≤ _), (by decide : 5 + 0 ≤ _)⟩)
      dsimp only [Pt.U, Pt.locs, Pt.cells, Pt.slots] at X83 l83 y83 z83 st83 hQ83
      subst l83 y83 z83
      obtain ⟨rfl, Nq83, eq83⟩ := hQ83
      refine OE.of (fun _ k => st83 _ k) ?_
      have N83 := Fr.app N82 Nq83
      show OE _ p e below s _ _ _ T83 (mkF m 162 #[.val (.int p1), .val (.int p2), .val (.int p3), .val (.int p4), .val (.int p5), .val (.ref b1), .val (.int (1 : Int32)), .val (.int (5 : Int32)), .val (.int (4 : Int32)), .val (.long ((((((c1.toInt64) * (29791 : Int64)) + ((c2.toInt64) * (961 : Int64))) + ((c3.toInt64) * (31 : Int64))) + ((c4.toInt64) * (1 : Int64))) + (0 : Int64))), .second, .val (.int (((31 : Int32) * (((31 : Int32) * (((31 : Int32) * ((0 : Int32) + c1)) + c2)) + c3)) + c4)), .val (.int ((((31 : Int32) * (((31 : Int32) * (((31 : Int32) * ((0 : Int32) + c1)) + c2)) + c3)) + c4) * (-1640531527 : Int32))), .unset] [(.int (((((31 : Int32) * (((31 : Int32) * (((31 : Int32) * ((0 : Int32) + c1)) + c2)) + c3)) + c4) * (-1640531527 : Int32)) ^^^ ((((((31 : Int32) * (((31 : Int32) * (((31 : Int32) * ((0 : Int32) + c1)) + c2)) + c3)) + c4) * (-1640531527 : Int32)).toUInt32 >>> ((16 : Int32) &&& 31).toUInt32).toInt32)))])
      refine OE.istore X83 hx hby at_162 (l' := #[.val (.int p1), .val (.int p2), .val (.int p3), .val (.int p4), .val (.int p5), .val (.ref b1), .val (.int (1 : Int32)), .val (.int (5 : Int32)), .val (.int (4 : Int32)), .val (.long ((((((c1.toInt64) * (29791 : Int64)) + ((c2.toInt64) * (961 : Int64))) + ((c3.toInt64) * (31 : Int64))) + ((c4.toInt64) * (1 : Int64))) + (0 : Int64))), .second, .val (.int (((31 : Int32) * (((31 : Int32) * (((31 : Int32) * ((0 : Int32) + c1)) + c2)) + c3)) + c4)), .val (.int ((((31 : Int32) * (((31 : Int32) * (((31 : Int32) * ((0 : Int32) + c1)) + c2)) + c3)) + c4) * (-1640531527 : Int32))), .val (.int (((((31 : Int32) * (((31 : Int32) * (((31 : Int32) * ((0 : Int32) + c1)) + c2)) + c3)) + c4) * (-1640531527 : Int32)) ^^^ ((((((31 : Int32) * (((31 : Int32) * (((31 : Int32) * ((0 : Int32) + c1)) + c2)) + c3)) + c4) * (-1640531527 : Int32)).toUInt32 >>> ((16 : Int32) &&& 31).toUInt32).toInt32)))]) rfl ?_
      refine OE.iload X83 hx hby at_164 rfl ?_
      refine OE.bipush X83 hx hby at_166 (16 : Int32) rfl ?_
      refine OE.iushr X83 hx hby at_168 ?_
      refine OE.iload X83 hx hby at_169 rfl ?_
      refine OE.bipush X83 hx hby at_171 (16 : Int32) rfl ?_
      refine OE.iushr X83 hx hby at_173 ?_
      refine OE.icmpNo X83 hx hby at_174 (teq (own_top _ : (((((((31 : Int32) * (((31 : Int32) * (((31 : Int32) * ((0 : Int32) + c1)) + c2)) + c3)) + c4) * (-1640531527 : Int32)) ^^^ ((((((31 : Int32) * (((31 : Int32) * (((31 : Int32) * ((0 : Int32) + c1)) + c2)) + c3)) + c4) * (-1640531527 : Int32)).toUInt32 >>> ((16 : Int32) &&& 31).toUInt32).toInt32)).toUInt32 >>> ((16 : Int32) &&& 31).toUInt32).toInt32) = ((((((31 : Int32) * (((31 : Int32) * (((31 : Int32) * ((0 : Int32) + c1)) + c2)) + c3)) + c4) * (-1640531527 : Int32)).toUInt32 >>> ((16 : Int32) &&& 31).toUInt32).toInt32))).2 ?_
      refine OE.iload X83 hx hby at_177 rfl ?_
      refine OE.of (X83.ldcInt hx hown (mvT hZ (hw _ (List.mem_of_getElem? (i := 1) rfl))) (g := (mkF m 179 #[.val (.int p1), .val (.int p2), .val (.int p3), .val (.int p4), .val (.int p5), .val (.ref b1), .val (.int (1 : Int32)), .val (.int (5 : Int32)), .val (.int (4 : Int32)), .val (.long ((((((c1.toInt64) * (29791 : Int64)) + ((c2.toInt64) * (961 : Int64))) + ((c3.toInt64) * (31 : Int64))) + ((c4.toInt64) * (1 : Int64))) + (0 : Int64))), .second, .val (.int (((31 : Int32) * (((31 : Int32) * (((31 : Int32) * ((0 : Int32) + c1)) + c2)) + c3)) + c4)), .val (.int ((((31 : Int32) * (((31 : Int32) * (((31 : Int32) * ((0 : Int32) + c1)) + c2)) + c3)) + c4) * (-1640531527 : Int32))), .val (.int (((((31 : Int32) * (((31 : Int32) * (((31 : Int32) * ((0 : Int32) + c1)) + c2)) + c3)) + c4) * (-1640531527 : Int32)) ^^^ ((((((31 : Int32) * (((31 : Int32) * (((31 : Int32) * ((0 : Int32) + c1)) + c2)) + c3)) + c4) * (-1640531527 : Int32)).toUInt32 >>> ((16 : Int32) &&& 31).toUInt32).toInt32)))] [(.int (((((31 : Int32) * (((31 : Int32) * (((31 : Int32) * ((0 : Int32) + c1)) + c2)) + c3)) + c4) * (-1640531527 : Int32)) ^^^ ((((((31 : Int32) * (((31 : Int32) * (((31 : Int32) * ((0 : Int32) + c1)) + c2)) + c3)) + c4) * (-1640531527 : Int32)).toUInt32 >>> ((16 : Int32) &&& 31).toUInt32).toInt32)))])) rfl (hb hby at_179)) ?_
      show OE _ p e below s _ _ _ T83 (mkF m 181 #[.val (.int p1), .val (.int p2), .val (.int p3), .val (.int p4), .val (.int p5), .val (.ref b1), .val (.int (1 : Int32)), .val (.int (5 : Int32)), .val (.int (4 : Int32)), .val (.long ((((((c1.toInt64) * (29791 : Int64)) + ((c2.toInt64) * (961 : Int64))) + ((c3.toInt64) * (31 : Int64))) + ((c4.toInt64) * (1 : Int64))) + (0 : Int64))), .second, .val (.int (((31 : Int32) * (((31 : Int32) * (((31 : Int32) * ((0 : Int32) + c1)) + c2)) + c3)) + c4)), .val (.int ((((31 : Int32) * (((31 : Int32) * (((31 : Int32) * ((0 : Int32) + c1)) + c2)) + c3)) + c4) * (-1640531527 : Int32))), .val (.int (((((31 : Int32) * (((31 : Int32) * (((31 : Int32) * ((0 : Int32) + c1)) + c2)) + c3)) + c4) * (-1640531527 : Int32)) ^^^ ((((((31 : Int32) * (((31 : Int32) * (((31 : Int32) * ((0 : Int32) + c1)) + c2)) + c3)) + c4) * (-1640531527 : Int32)).toUInt32 >>> ((16 : Int32) &&& 31).toUInt32).toInt32)))] [(.int (65535 : Int32)), (.int (((((31 : Int32) * (((31 : Int32) * (((31 : Int32) * ((0 : Int32) + c1)) + c2)) + c3)) + c4) * (-1640531527 : Int32)) ^^^ ((((((31 : Int32) * (((31 : Int32) * (((31 : Int32) * ((0 : Int32) + c1)) + c2)) + c3)) + c4) * (-1640531527 : Int32)).toUInt32 >>> ((16 : Int32) &&& 31).toUInt32).toInt32)))])
      refine OE.iand X83 hx hby at_181 ?_
      refine OE.iload X83 hx hby at_182 rfl ?_
      refine OE.iload X83 hx hby at_184 rfl ?_
      refine OE.bipush X83 hx hby at_186 (16 : Int32) rfl ?_
      refine OE.iushr X83 hx hby at_188 ?_
      refine OE.ixor X83 hx hby at_189 ?_
      refine OE.of (X83.ldcInt hx hown (mvT hZ (hw _ (List.mem_of_getElem? (i := 1) rfl))) (g := (mkF m 190 #[.val (.int p1), .val (.int p2), .val (.int p3), .val (.int p4), .val (.int p5), .val (.ref b1), .val (.int (1 : Int32)), .val (.int (5 : Int32)), .val (.int (4 : Int32)), .val (.long ((((((c1.toInt64) * (29791 : Int64)) + ((c2.toInt64) * (961 : Int64))) + ((c3.toInt64) * (31 : Int64))) + ((c4.toInt64) * (1 : Int64))) + (0 : Int64))), .second, .val (.int (((31 : Int32) * (((31 : Int32) * (((31 : Int32) * ((0 : Int32) + c1)) + c2)) + c3)) + c4)), .val (.int ((((31 : Int32) * (((31 : Int32) * (((31 : Int32) * ((0 : Int32) + c1)) + c2)) + c3)) + c4) * (-1640531527 : Int32))), .val (.int (((((31 : Int32) * (((31 : Int32) * (((31 : Int32) * ((0 : Int32) + c1)) + c2)) + c3)) + c4) * (-1640531527 : Int32)) ^^^ ((((((31 : Int32) * (((31 : Int32) * (((31 : Int32) * ((0 : Int32) + c1)) + c2)) + c3)) + c4) * (-1640531527 : Int32)).toUInt32 >>> ((16 : Int32) &&& 31).toUInt32).toInt32)))] [(.int (((((31 : Int32) * (((31 : Int32) * (((31 : Int32) * ((0 : Int32) + c1)) + c2)) + c3)) + c4) * (-1640531527 : Int32)) ^^^ ((((((31 : Int32) * (((31 : Int32) * (((31 : Int32) * ((0 : Int32) + c1)) + c2)) + c3)) + c4) * (-1640531527 : Int32)).toUInt32 >>> ((16 : Int32) &&& 31).toUInt32).toInt32))), (.int ((((((31 : Int32) * (((31 : Int32) * (((31 : Int32) * ((0 : Int32) + c1)) + c2)) + c3)) + c4) * (-1640531527 : Int32)) ^^^ ((((((31 : Int32) * (((31 : Int32) * (((31 : Int32) * ((0 : Int32) + c1)) + c2)) + c3)) + c4) * (-1640531527 : Int32)).toUInt32 >>> ((16 : Int32) &&& 31).toUInt32).toInt32)) &&& (65535 : Int32)))])) rfl (hb hby at_190)) ?_
      show OE _ p e below s _ _ _ T83 (mkF m 192 #[.val (.int p1), .val (.int p2), .val (.int p3), .val (.int p4), .val (.int p5), .val (.ref b1), .val (.int (1 : Int32)), .val (.int (5 : Int32)), .val (.int (4 : Int32)), .val (.long ((((((c1.toInt64) * (29791 : Int64)) + ((c2.toInt64) * (961 : Int64))) + ((c3.toInt64) * (31 : Int64))) + ((c4.toInt64) * (1 : Int64))) + (0 : Int64))), .second, .val (.int (((31 : Int32) * (((31 : Int32) * (((31 : Int32) * ((0 : Int32) + c1)) + c2)) + c3)) + c4)), .val (.int ((((31 : Int32) * (((31 : Int32) * (((31 : Int32) * ((0 : Int32) + c1)) + c2)) + c3)) + c4) * (-1640531527 : Int32))), .val (.int (((((31 : Int32) * (((31 : Int32) * (((31 : Int32) * ((0 : Int32) + c1)) + c2)) + c3)) + c4) * (-1640531527 : Int32)) ^^^ ((((((31 : Int32) * (((31 : Int32) * (((31 : Int32) * ((0 : Int32) + c1)) + c2)) + c3)) + c4) * (-1640531527 : Int32)).toUInt32 >>> ((16 : Int32) &&& 31).toUInt32).toInt32)))] [(.int (65535 : Int32)), (.int (((((31 : Int32) * (((31 : Int32) * (((31 : Int32) * ((0 : Int32) + c1)) + c2)) + c3)) + c4) * (-1640531527 : Int32)) ^^^ ((((((31 : Int32) * (((31 : Int32) * (((31 : Int32) * ((0 : Int32) + c1)) + c2)) + c3)) + c4) * (-1640531527 : Int32)).toUInt32 >>> ((16 : Int32) &&& 31).toUInt32).toInt32))), (.int ((((((31 : Int32) * (((31 : Int32) * (((31 : Int32) * ((0 : Int32) + c1)) + c2)) + c3)) + c4) * (-1640531527 : Int32)) ^^^ ((((((31 : Int32) * (((31 : Int32) * (((31 : Int32) * ((0 : Int32) + c1)) + c2)) + c3)) + c4) * (-1640531527 : Int32)).toUInt32 >>> ((16 : Int32) &&& 31).toUInt32).toInt32)) &&& (65535 : Int32)))])
      refine OE.iand X83 hx hby at_192 ?_
      refine OE.icmpNo X83 hx hby at_193 (teq (rfl : ((((((31 : Int32) * (((31 : Int32) * (((31 : Int32) * ((0 : Int32) + c1)) + c2)) + c3)) + c4) * (-1640531527 : Int32)) ^^^ ((((((31 : Int32) * (((31 : Int32) * (((31 : Int32) * ((0 : Int32) + c1)) + c2)) + c3)) + c4) * (-1640531527 : Int32)).toUInt32 >>> ((16 : Int32) &&& 31).toUInt32).toInt32)) &&& (65535 : Int32)) = ((((((31 : Int32) * (((31 : Int32) * (((31 : Int32) * ((0 : Int32) + c1)) + c2)) + c3)) + c4) * (-1640531527 : Int32)) ^^^ ((((((31 : Int32) * (((31 : Int32) * (((31 : Int32) * ((0 : Int32) + c1)) + c2)) + c3)) + c4) * (-1640531527 : Int32)).toUInt32 >>> ((16 : Int32) &&& 31).toUInt32).toInt32)) &&& (65535 : Int32)))).2 ?_
      refine OE.iconst X83 hx hby at_196 (1 : Int32) rfl ?_
      refine OE.goto X83 hx hby (pc' := 201) at_197 (h := ?_)
      refine OE.retN X83 hx (t := .boolean) Bd.returns (by simp) Bd.notSynchronized (hb hby at_201) (by decide) (by decide) ?_
      rw [eq83]
      exact ⟨rfl, N83⟩
  · rw [hs]
    show OE _ p e below s _ _ _ T6 (mkF m 57 #[.val (.int p1), .val (.int p2), .val (.int p3), .val (.int p4), .val (.int p5), .val (.ref b1), .unset, .unset, .unset, .unset, .unset, .unset, .unset, .unset] [(.int (2 : Int32))])
    refine OE.istore X6 hx hby at_57 (l' := #[.val (.int p1), .val (.int p2), .val (.int p3), .val (.int p4), .val (.int p5), .val (.ref b1), .val (.int (2 : Int32)), .unset, .unset, .unset, .unset, .unset, .unset, .unset]) rfl ?_
    refine OE.iload X6 hx hby at_59 rfl ?_
    refine OE.iload X6 hx hby at_61 rfl ?_
    refine OE.of (X6.ldcInt hx hown (mvT hZ (hw _ (List.mem_of_getElem? (i := 2) rfl))) (g := (mkF m 63 #[.val (.int p1), .val (.int p2), .val (.int p3), .val (.int p4), .val (.int p5), .val (.ref b1), .val (.int (2 : Int32)), .unset, .unset, .unset, .unset, .unset, .unset, .unset] [(.int p5), (.int (2 : Int32))])) rfl (hb hby at_63)) ?_
    show OE _ p e below s _ _ _ T6 (mkF m 65 #[.val (.int p1), .val (.int p2), .val (.int p3), .val (.int p4), .val (.int p5), .val (.ref b1), .val (.int (2 : Int32)), .unset, .unset, .unset, .unset, .unset, .unset, .unset] [(.int (2147483647 : Int32)), (.int p5), (.int (2 : Int32))])
    refine OE.iand X6 hx hby at_65 ?_
    refine OE.bipush X6 hx hby at_66 (6 : Int32) rfl ?_
    refine OE.iload X6 hx hby at_68 rfl ?_
    refine OE.isub X6 hx hby at_70 ?_
    rw [(by decide : ((6 : Int32) - (2 : Int32)) = (4 : Int32))]
    refine OE.irem X6 hx hby at_71 (by decide) ?_
    rcases own_md4 p5 with hm | hm | hm | hm
    · rw [hm]
      show OE _ p e below s _ _ _ T6 (mkF m 72 #[.val (.int p1), .val (.int p2), .val (.int p3), .val (.int p4), .val (.int p5), .val (.ref b1), .val (.int (2 : Int32)), .unset, .unset, .unset, .unset, .unset, .unset, .unset] [(.int (0 : Int32)), (.int (2 : Int32))])
      refine OE.iadd X6 hx hby at_72 ?_
      rw [(by decide : ((2 : Int32) + (0 : Int32)) = (2 : Int32))]
      refine OE.istore X6 hx hby at_73 (l' := #[.val (.int p1), .val (.int p2), .val (.int p3), .val (.int p4), .val (.int p5), .val (.ref b1), .val (.int (2 : Int32)), .val (.int (2 : Int32)), .unset, .unset, .unset, .unset, .unset, .unset]) rfl ?_
      refine OE.iload X6 hx hby at_75 rfl ?_
      refine OE.iload X6 hx hby at_77 rfl ?_
      refine OE.isub X6 hx hby at_79 ?_
      rw [(by decide : ((2 : Int32) - (2 : Int32)) = (0 : Int32))]
      refine OE.istore X6 hx hby at_80 (l' := #[.val (.int p1), .val (.int p2), .val (.int p3), .val (.int p4), .val (.int p5), .val (.ref b1), .val (.int (2 : Int32)), .val (.int (2 : Int32)), .val (.int (0 : Int32)), .unset, .unset, .unset, .unset, .unset]) rfl ?_
      refine OE.aload X6 hx hby at_82 rfl rfl ?_
      refine OE.iload X6 hx hby at_84 rfl ?_
      refine OE.iload X6 hx hby at_86 rfl ?_
      refine OE.iconst X6 hx hby at_88 (0 : Int32) rfl ?_
      have z84 : n0 ≤ h6.size := (Nat.le_trans (Nat.le_trans (Nat.le_trans (Nat.le_trans (Nat.le_trans (Nat.le_trans Z0 E1.1) (Nat.le_of_eq W2.size.symm)) (Nat.le_of_eq W3.size.symm)) (Nat.le_of_eq W4.size.symm)) (Nat.le_of_eq W5.size.symm)) (Nat.le_of_eq W6.size.symm))
      obtain ⟨_, _, ⟨T85, L85, k85, n85⟩, -, X85, ⟨Lc85, hQ85, l85, y85, z85⟩, st85⟩ := Jvm.LawKit.callS X6 hx (y := (⟨"com/example/archerfish/archerfish/index/TokenTableHashPinLaw", "term", "([CIII)J"⟩ : MethodName)) hown (mvT hZ (hw _ (List.mem_of_getElem? (i := 3) rfl))) (mvT hZ (hw _ (List.mem_of_getElem? (i := 4) rfl))) (mvT hZ (hw _ (List.mem_of_getElem? (i := 5) rfl))) (mvT hZ (hw _ (List.mem_of_getElem? (i := 6) rfl))) (by decide) (backOf (W := 0) (own_rm1_o l Z a0 hw [] b1 (2 : Int32) (0 : Int32) (0 : Int32) h6 n0 z84 (by decide)) hZ (hw _ (List.mem_of_getElem? (i := 6) rfl)) (hw _ (List.mem_of_getElem? (i := 5) rfl)) (by decide) (by decide)) (g := (mkF m 89 #[.val (.int p1), .val (.int p2), .val (.int p3), .val (.int p4), .val (.int p5), .val (.ref b1), .val (.int (2 : Int32)), .val (.int (2 : Int32)), .val (.int (0 : Int32)), .unset, .unset, .unset, .unset, .unset] [(.int (0 : Int32)), (.int (0 : Int32)), (.int (2 : Int32)), (.ref b1)])) rfl (by rw [hml]; rfl) (argsL := [(.ref b1), (.int (2 : Int32)), (.int (0 : Int32)), (.int (0 : Int32))]) (rest := []) (lenOf own_pd1 rfl) rfl (by show 2 * 0 + _ ≤ _; exact Nat.le_of_eq rfl) (hb hby at_89) (fun _ _ => ⟨rfl, e6, (by decide : 1 + 0 ≤ _), (by decide : 5 + 0 ≤ _)⟩)
      dsimp only [Pt.U, Pt.locs, Pt.cells, Pt.slots] at X85 l85 y85 z85 st85 hQ85
      subst l85 y85 z85
      obtain ⟨rfl, Nq85, eq85⟩ := hQ85
      refine OE.of (fun _ k => st85 _ k) ?_
      have N85 := Fr.app N6 Nq85
      show OE _ p e below s _ _ _ T85 (mkF m 92 #[.val (.int p1), .val (.int p2), .val (.int p3), .val (.int p4), .val (.int p5), .val (.ref b1), .val (.int (2 : Int32)), .val (.int (2 : Int32)), .val (.int (0 : Int32)), .unset, .unset, .unset, .unset, .unset] [(.long (0 : Int64))])
      refine OE.aload X85 hx hby at_92 rfl rfl ?_
      refine OE.iload X85 hx hby at_94 rfl ?_
      refine OE.iload X85 hx hby at_96 rfl ?_
      refine OE.iconst X85 hx hby at_98 (1 : Int32) rfl ?_
      obtain ⟨_, _, ⟨T86, L86, k86, n86⟩, -, X86, ⟨Lc86, hQ86, l86, y86, z86⟩, st86⟩ := Jvm.LawKit.callS X85 hx (y := (⟨"com/example/archerfish/archerfish/index/TokenTableHashPinLaw", "term", "([CIII)J"⟩ : MethodName)) hown (mvT hZ (hw _ (List.mem_of_getElem? (i := 3) rfl))) (mvT hZ (hw _ (List.mem_of_getElem? (i := 4) rfl))) (mvT hZ (hw _ (List.mem_of_getElem? (i := 5) rfl))) (mvT hZ (hw _ (List.mem_of_getElem? (i := 6) rfl))) (by decide) (backOf (W := 2) (own_rm1_o l Z a0 hw [] b1 (2 : Int32) (0 : Int32) (1 : Int32) h6 n0 z84 (by decide)) hZ (hw _ (List.mem_of_getElem? (i := 6) rfl)) (hw _ (List.mem_of_getElem? (i := 5) rfl)) (by decide) (by decide)) (g := (mkF m 99 #[.val (.int p1), .val (.int p2), .val (.int p3), .val (.int p4), .val (.int p5), .val (.ref b1), .val (.int (2 : Int32)), .val (.int (2 : Int32)), .val (.int (0 : Int32)), .unset, .unset, .unset, .unset, .unset] [(.int (1 : Int32)), (.int (0 : Int32)), (.int (2 : Int32)), (.ref b1), (.long (0 : Int64))])) rfl (by rw [hml]; rfl) (argsL := [(.ref b1), (.int (2 : Int32)), (.int (0 : Int32)), (.int (1 : Int32))]) (rest := [(.long (0 : Int64))]) (lenOf own_pd1 rfl) rfl (by show 2 * 0 + _ ≤ _; exact Nat.le_of_eq rfl) (hb hby at_99) (fun _ _ => ⟨rfl, eq85, (by decide : 1 + 0 ≤ _), (by decide : 5 + 0 ≤ _)⟩)
      dsimp only [Pt.U, Pt.locs, Pt.cells, Pt.slots] at X86 l86 y86 z86 st86 hQ86
      subst l86 y86 z86
      obtain ⟨rfl, Nq86, eq86⟩ := hQ86
      refine OE.of (fun _ k => st86 _ k) ?_
      have N86 := Fr.app N85 Nq86
      show OE _ p e below s _ _ _ T86 (mkF m 102 #[.val (.int p1), .val (.int p2), .val (.int p3), .val (.int p4), .val (.int p5), .val (.ref b1), .val (.int (2 : Int32)), .val (.int (2 : Int32)), .val (.int (0 : Int32)), .unset, .unset, .unset, .unset, .unset] [(.long (0 : Int64)), (.long (0 : Int64))])
      refine OE.ladd X86 hx hby at_102 ?_
      rw [(by decide : ((0 : Int64) + (0 : Int64)) = (0 : Int64))]
      refine OE.aload X86 hx hby at_103 rfl rfl ?_
      refine OE.iload X86 hx hby at_105 rfl ?_
      refine OE.iload X86 hx hby at_107 rfl ?_
      refine OE.iconst X86 hx hby at_109 (2 : Int32) rfl ?_
      obtain ⟨_, _, ⟨T87, L87, k87, n87⟩, -, X87, ⟨Lc87, hQ87, l87, y87, z87⟩, st87⟩ := Jvm.LawKit.callS X86 hx (y := (⟨"com/example/archerfish/archerfish/index/TokenTableHashPinLaw", "term", "([CIII)J"⟩ : MethodName)) hown (mvT hZ (hw _ (List.mem_of_getElem? (i := 3) rfl))) (mvT hZ (hw _ (List.mem_of_getElem? (i := 4) rfl))) (mvT hZ (hw _ (List.mem_of_getElem? (i := 5) rfl))) (mvT hZ (hw _ (List.mem_of_getElem? (i := 6) rfl))) (by decide) (backOf (W := 2) (own_rm1_o l Z a0 hw [] b1 (2 : Int32) (0 : Int32) (2 : Int32) h6 n0 z84 (by decide)) hZ (hw _ (List.mem_of_getElem? (i := 6) rfl)) (hw _ (List.mem_of_getElem? (i := 5) rfl)) (by decide) (by decide)) (g := (mkF m 110 #[.val (.int p1), .val (.int p2), .val (.int p3), .val (.int p4), .val (.int p5), .val (.ref b1), .val (.int (2 : Int32)), .val (.int (2 : Int32)), .val (.int (0 : Int32)), .unset, .unset, .unset, .unset, .unset] [(.int (2 : Int32)), (.int (0 : Int32)), (.int (2 : Int32)), (.ref b1), (.long (0 : Int64))])) rfl (by rw [hml]; rfl) (argsL := [(.ref b1), (.int (2 : Int32)), (.int (0 : Int32)), (.int (2 : Int32))]) (rest := [(.long (0 : Int64))]) (lenOf own_pd1 rfl) rfl (by show 2 * 0 + _ ≤ _; exact Nat.le_of_eq rfl) (hb hby at_110) (fun _ _ => ⟨rfl, eq86, (by decide : 1 + 0 ≤ _), (by decide : 5 + 0 ≤ _)⟩)
      dsimp only [Pt.U, Pt.locs, Pt.cells, Pt.slots] at X87 l87 y87 z87 st87 hQ87
      subst l87 y87 z87
      obtain ⟨rfl, Nq87, eq87⟩ := hQ87
      refine OE.of (fun _ k => st87 _ k) ?_
      have N87 := Fr.app N86 Nq87
      show OE _ p e below s _ _ _ T87 (mkF m 113 #[.val (.int p1), .val (.int p2), .val (.int p3), .val (.int p4), .val (.int p5), .val (.ref b1), .val (.int (2 : Int32)), .val (.int (2 : Int32)), .val (.int (0 : Int32)), .unset, .unset, .unset, .unset, .unset] [(.long (0 : Int64)), (.long (0 : Int64))])
      refine OE.ladd X87 hx hby at_113 ?_
      rw [(by decide : ((0 : Int64) + (0 : Int64)) = (0 : Int64))]
      refine OE.aload X87 hx hby at_114 rfl rfl ?_
      refine OE.iload X87 hx hby at_116 rfl ?_
      refine OE.iload X87 hx hby at_118 rfl ?_
      refine OE.iconst X87 hx hby at_120 (3 : Int32) rfl ?_
      obtain ⟨_, _, ⟨T88, L88, k88, n88⟩, -, X88, ⟨Lc88, hQ88, l88, y88, z88⟩, st88⟩ := Jvm.LawKit.callS X87 hx (y := (⟨"com/example/archerfish/archerfish/index/TokenTableHashPinLaw", "term", "([CIII)J"⟩ : MethodName)) hown (mvT hZ (hw _ (List.mem_of_getElem? (i := 3) rfl))) (mvT hZ (hw _ (List.mem_of_getElem? (i := 4) rfl))) (mvT hZ (hw _ (List.mem_of_getElem? (i := 5) rfl))) (mvT hZ (hw _ (List.mem_of_getElem? (i := 6) rfl))) (by decide) (backOf (W := 2) (own_rm1_o l Z a0 hw [] b1 (2 : Int32) (0 : Int32) (3 : Int32) h6 n0 z84 (by decide)) hZ (hw _ (List.mem_of_getElem? (i := 6) rfl)) (hw _ (List.mem_of_getElem? (i := 5) rfl)) (by decide) (by decide)) (g := (mkF m 121 #[.val (.int p1), .val (.int p2), .val (.int p3), .val (.int p4), .val (.int p5), .val (.ref b1), .val (.int (2 : Int32)), .val (.int (2 : Int32)), .val (.int (0 : Int32)), .unset, .unset, .unset, .unset, .unset] [(.int (3 : Int32)), (.int (0 : Int32)), (.int (2 : Int32)), (.ref b1), (.long (0 : Int64))])) rfl (by rw [hml]; rfl) (argsL := [(.ref b1), (.int (2 : Int32)), (.int (0 : Int32)), (.int (3 : Int32))]) (rest := [(.long (0 : Int64))]) (lenOf own_pd1 rfl) rfl (by show 2 * 0 + _ ≤ _; exact Nat.le_of_eq rfl) (hb hby at_121) (fun _ _ => ⟨rfl, eq87, (by decide : 1 + 0 ≤ _), (by decide : 5 + 0 ≤ _)⟩)
      dsimp only [Pt.U, Pt.locs, Pt.cells, Pt.slots] at X88 l88 y88 z88 st88 hQ88
      subst l88 y88 z88
      obtain ⟨rfl, Nq88, eq88⟩ := hQ88
      refine OE.of (fun _ k => st88 _ k) ?_
      have N88 := Fr.app N87 Nq88
      show OE _ p e below s _ _ _ T88 (mkF m 124 #[.val (.int p1), .val (.int p2), .val (.int p3), .val (.int p4), .val (.int p5), .val (.ref b1), .val (.int (2 : Int32)), .val (.int (2 : Int32)), .val (.int (0 : Int32)), .unset, .unset, .unset, .unset, .unset] [(.long (0 : Int64)), (.long (0 : Int64))])
      refine OE.ladd X88 hx hby at_124 ?_
      rw [(by decide : ((0 : Int64) + (0 : Int64)) = (0 : Int64))]
      refine OE.aload X88 hx hby at_125 rfl rfl ?_
      refine OE.iload X88 hx hby at_127 rfl ?_
      refine OE.iload X88 hx hby at_129 rfl ?_
      refine OE.iconst X88 hx hby at_131 (4 : Int32) rfl ?_
      obtain ⟨_, _, ⟨T89, L89, k89, n89⟩, -, X89, ⟨Lc89, hQ89, l89, y89, z89⟩, st89⟩ := Jvm.LawKit.callS X88 hx (y := (⟨"com/example/archerfish/archerfish/index/TokenTableHashPinLaw", "term", "([CIII)J"⟩ : MethodName)) hown (mvT hZ (hw _ (List.mem_of_getElem? (i := 3) rfl))) (mvT hZ (hw _ (List.mem_of_getElem? (i := 4) rfl))) (mvT hZ (hw _ (List.mem_of_getElem? (i := 5) rfl))) (mvT hZ (hw _ (List.mem_of_getElem? (i := 6) rfl))) (by decide) (backOf (W := 2) (own_rm1_o l Z a0 hw [] b1 (2 : Int32) (0 : Int32) (4 : Int32) h6 n0 z84 (by decide)) hZ (hw _ (List.mem_of_getElem? (i := 6) rfl)) (hw _ (List.mem_of_getElem? (i := 5) rfl)) (by decide) (by decide)) (g := (mkF m 132 #[.val (.int p1), .val (.int p2), .val (.int p3), .val (.int p4), .val (.int p5), .val (.ref b1), .val (.int (2 : Int32)), .val (.int (2 : Int32)), .val (.int (0 : Int32)), .unset, .unset, .unset, .unset, .unset] [(.int (4 : Int32)), (.int (0 : Int32)), (.int (2 : Int32)), (.ref b1), (.long (0 : Int64))])) rfl (by rw [hml]; rfl) (argsL := [(.ref b1), (.int (2 : Int32)), (.int (0 : Int32)), (.int (4 : Int32))]) (rest := [(.long (0 : Int64))]) (lenOf own_pd1 rfl) rfl (by show 2 * 0 + _ ≤ _; exact Nat.le_of_eq rfl) (hb hby at_132) (fun _ _ => ⟨rfl, eq88, (by decide : 1 + 0 ≤ _), (by decide : 5 + 0 ≤ _)⟩)
      dsimp only [Pt.U, Pt.locs, Pt.cells, Pt.slots] at X89 l89 y89 z89 st89 hQ89
      subst l89 y89 z89
      obtain ⟨rfl, Nq89, eq89⟩ := hQ89
      refine OE.of (fun _ k => st89 _ k) ?_
      have N89 := Fr.app N88 Nq89
      show OE _ p e below s _ _ _ T89 (mkF m 135 #[.val (.int p1), .val (.int p2), .val (.int p3), .val (.int p4), .val (.int p5), .val (.ref b1), .val (.int (2 : Int32)), .val (.int (2 : Int32)), .val (.int (0 : Int32)), .unset, .unset, .unset, .unset, .unset] [(.long (0 : Int64)), (.long (0 : Int64))])
      refine OE.ladd X89 hx hby at_135 ?_
      rw [(by decide : ((0 : Int64) + (0 : Int64)) = (0 : Int64))]
      refine OE.lstore X89 hx hby at_136 (l' := #[.val (.int p1), .val (.int p2), .val (.int p3), .val (.int p4), .val (.int p5), .val (.ref b1), .val (.int (2 : Int32)), .val (.int (2 : Int32)), .val (.int (0 : Int32)), .val (.long (0 : Int64)), .second, .unset, .unset, .unset]) rfl ?_
      refine OE.lload X89 hx hby at_138 rfl ?_
      refine OE.l2i X89 hx hby at_140 ?_
      rw [((by decide) : ((0 : Int64).toInt32) = (0 : Int32))]
      show OE _ p e below s _ _ _ T89 (mkF m 141 #[.val (.int p1), .val (.int p2), .val (.int p3), .val (.int p4), .val (.int p5), .val (.ref b1), .val (.int (2 : Int32)), .val (.int (2 : Int32)), .val (.int (0 : Int32)), .val (.long (0 : Int64)), .second, .unset, .unset, .unset] [(.int (0 : Int32))])
      refine OE.istore X89 hx hby at_141 (l' := #[.val (.int p1), .val (.int p2), .val (.int p3), .val (.int p4), .val (.int p5), .val (.ref b1), .val (.int (2 : Int32)), .val (.int (2 : Int32)), .val (.int (0 : Int32)), .val (.long (0 : Int64)), .second, .val (.int (0 : Int32)), .unset, .unset]) rfl ?_
      refine OE.iload X89 hx hby at_143 rfl ?_
      refine OE.i2l X89 hx hby at_145 ?_
      refine OE.of (X89.ldc2Long hx hown (mvT hZ (hw _ (List.mem_of_getElem? (i := 7) rfl))) (g := (mkF m 146 #[.val (.int p1), .val (.int p2), .val (.int p3), .val (.int p4), .val (.int p5), .val (.ref b1), .val (.int (2 : Int32)), .val (.int (2 : Int32)), .val (.int (0 : Int32)), .val (.long (0 : Int64)), .second, .val (.int (0 : Int32)), .unset, .unset] [(.long ((0 : Int32).toInt64))])) rfl (hb hby at_146)) ?_
      show OE _ p e below s _ _ _ T89 (mkF m 149 #[.val (.int p1), .val (.int p2), .val (.int p3), .val (.int p4), .val (.int p5), .val (.ref b1), .val (.int (2 : Int32)), .val (.int (2 : Int32)), .val (.int (0 : Int32)), .val (.long (0 : Int64)), .second, .val (.int (0 : Int32)), .unset, .unset] [(.long (2654435769 : Int64)), (.long ((0 : Int32).toInt64))])
      refine OE.lmul X89 hx hby at_149 ?_
      refine OE.l2i X89 hx hby at_150 ?_
      rw [((by decide) : ((((0 : Int32).toInt64) * (2654435769 : Int64)).toInt32) = (0 : Int32))]
      show OE _ p e below s _ _ _ T89 (mkF m 151 #[.val (.int p1), .val (.int p2), .val (.int p3), .val (.int p4), .val (.int p5), .val (.ref b1), .val (.int (2 : Int32)), .val (.int (2 : Int32)), .val (.int (0 : Int32)), .val (.long (0 : Int64)), .second, .val (.int (0 : Int32)), .unset, .unset] [(.int (0 : Int32))])
      refine OE.istore X89 hx hby at_151 (l' := #[.val (.int p1), .val (.int p2), .val (.int p3), .val (.int p4), .val (.int p5), .val (.ref b1), .val (.int (2 : Int32)), .val (.int (2 : Int32)), .val (.int (0 : Int32)), .val (.long (0 : Int64)), .second, .val (.int (0 : Int32)), .val (.int (0 : Int32)), .unset]) rfl ?_
      refine OE.aload X89 hx hby at_153 rfl rfl ?_
      refine OE.iload X89 hx hby at_155 rfl ?_
      refine OE.iload X89 hx hby at_157 rfl ?_
      obtain ⟨_, _, ⟨T90, L90, k90, n90⟩, -, X90, ⟨Lc90, hQ90, l90, y90, z90⟩, st90⟩ := Jvm.LawKit.callS X89 hx (y := (⟨"com/example/archerfish/archerfish/index/TokenTable", "hash", "([CII)I"⟩ : MethodName)) hown (mvT hZ (hw _ (List.mem_of_getElem? (i := 8) rfl))) (mvT hZ (hw _ (List.mem_of_getElem? (i := 9) rfl))) (mvT hZ (hw _ (List.mem_of_getElem? (i := 10) rfl))) (mvT hZ (hw _ (List.mem_of_getElem? (i := 11) rfl))) (by decide) (backOf (W := 0) (own_rm2_2_0 l Z a0 hw [] b1 c0 c1 c2 c3 c4 k1 h6 n0 z84 Vc) hZ (hw _ (List.mem_of_getElem? (i := 11) rfl)) (hw _ (List.mem_of_getElem? (i := 10) rfl)) (by decide) (by decide)) (g := (mkF m 159 #[.val (.int p1), .val (.int p2), .val (.int p3), .val (.int p4), .val (.int p5), .val (.ref b1), .val (.int (2 : Int32)), .val (.int (2 : Int32)), .val (.int (0 : Int32)), .val (.long (0 : Int64)), .second, .val (.int (0 : Int32)), .val (.int (0 : Int32)), .unset] [(.int (2 : Int32)), (.int (2 : Int32)), (.ref b1)])) rfl (by rw [hml]; rfl) (argsL := [(.ref b1), (.int (2 : Int32)), (.int (2 : Int32))]) (rest := []) (lenOf own_pd2 rfl) rfl (by show 2 * 0 + _ ≤ _; exact Nat.le_of_eq rfl) (hb hby at_159) (fun _ _ => ⟨rfl, eq89, (by decide : 1 + 0 ≤ _), (by decide : 5 + 0 ≤ _)⟩)
      dsimp only [Pt.U, Pt.locs, Pt.cells, Pt.slots] at X90 l90 y90 z90 st90 hQ90
      subst l90 y90 z90
      obtain ⟨rfl, Nq90, eq90⟩ := hQ90
      refine OE.of (fun _ k => st90 _ k) ?_
      have N90 := Fr.app N89 Nq90
      show OE _ p e below s _ _ _ T90 (mkF m 162 #[.val (.int p1), .val (.int p2), .val (.int p3), .val (.int p4), .val (.int p5), .val (.ref b1), .val (.int (2 : Int32)), .val (.int (2 : Int32)), .val (.int (0 : Int32)), .val (.long (0 : Int64)), .second, .val (.int (0 : Int32)), .val (.int (0 : Int32)), .unset] [(.int ((0 : Int32) ^^^ (((0 : Int32).toUInt32 >>> ((16 : Int32) &&& 31).toUInt32).toInt32)))])
      refine OE.istore X90 hx hby at_162 (l' := #[.val (.int p1), .val (.int p2), .val (.int p3), .val (.int p4), .val (.int p5), .val (.ref b1), .val (.int (2 : Int32)), .val (.int (2 : Int32)), .val (.int (0 : Int32)), .val (.long (0 : Int64)), .second, .val (.int (0 : Int32)), .val (.int (0 : Int32)), .val (.int ((0 : Int32) ^^^ (((0 : Int32).toUInt32 >>> ((16 : Int32) &&& 31).toUInt32).toInt32)))]) rfl ?_
      refine OE.iload X90 hx hby at_164 rfl ?_
      refine OE.bipush X90 hx hby at_166 (16 : Int32) rfl ?_
      refine OE.iushr X90 hx hby at_168 ?_
      refine OE.iload X90 hx hby at_169 rfl ?_
      refine OE.bipush X90 hx hby at_171 (16 : Int32) rfl ?_
      refine OE.iushr X90 hx hby at_173 ?_
      refine OE.icmpNo X90 hx hby at_174 (teq (own_top _ : ((((0 : Int32) ^^^ (((0 : Int32).toUInt32 >>> ((16 : Int32) &&& 31).toUInt32).toInt32)).toUInt32 >>> ((16 : Int32) &&& 31).toUInt32).toInt32) = (((0 : Int32).toUInt32 >>> ((16 : Int32) &&& 31).toUInt32).toInt32))).2 ?_
      refine OE.iload X90 hx hby at_177 rfl ?_
      refine OE.of (X90.ldcInt hx hown (mvT hZ (hw _ (List.mem_of_getElem? (i := 1) rfl))) (g := (mkF m 179 #[.val (.int p1), .val (.int p2), .val (.int p3), .val (.int p4), .val (.int p5), .val (.ref b1), .val (.int (2 : Int32)), .val (.int (2 : Int32)), .val (.int (0 : Int32)), .val (.long (0 : Int64)), .second, .val (.int (0 : Int32)), .val (.int (0 : Int32)), .val (.int ((0 : Int32) ^^^ (((0 : Int32).toUInt32 >>> ((16 : Int32) &&& 31).toUInt32).toInt32)))] [(.int ((0 : Int32) ^^^ (((0 : Int32).toUInt32 >>> ((16 : Int32) &&& 31).toUInt32).toInt32)))])) rfl (hb hby at_179)) ?_
      show OE _ p e below s _ _ _ T90 (mkF m 181 #[.val (.int p1), .val (.int p2), .val (.int p3), .val (.int p4), .val (.int p5), .val (.ref b1), .val (.int (2 : Int32)), .val (.int (2 : Int32)), .val (.int (0 : Int32)), .val (.long (0 : Int64)), .second, .val (.int (0 : Int32)), .val (.int (0 : Int32)), .val (.int ((0 : Int32) ^^^ (((0 : Int32).toUInt32 >>> ((16 : Int32) &&& 31).toUInt32).toInt32)))] [(.int (65535 : Int32)), (.int ((0 : Int32) ^^^ (((0 : Int32).toUInt32 >>> ((16 : Int32) &&& 31).toUInt32).toInt32)))])
      refine OE.iand X90 hx hby at_181 ?_
      refine OE.iload X90 hx hby at_182 rfl ?_
      refine OE.iload X90 hx hby at_184 rfl ?_
      refine OE.bipush X90 hx hby at_186 (16 : Int32) rfl ?_
      refine OE.iushr X90 hx hby at_188 ?_
      refine OE.ixor X90 hx hby at_189 ?_
      refine OE.of (X90.ldcInt hx hown (mvT hZ (hw _ (List.mem_of_getElem? (i := 1) rfl))) (g := (mkF m 190 #[.val (.int p1), .val (.int p2), .val (.int p3), .val (.int p4), .val (.int p5), .val (.ref b1), .val (.int (2 : Int32)), .val (.int (2 : Int32)), .val (.int (0 : Int32)), .val (.long (0 : Int64)), .second, .val (.int (0 : Int32)), .val (.int (0 : Int32)), .val (.int ((0 : Int32) ^^^ (((0 : Int32).toUInt32 >>> ((16 : Int32) &&& 31).toUInt32).toInt32)))] [(.int ((0 : Int32) ^^^ (((0 : Int32).toUInt32 >>> ((16 : Int32) &&& 31).toUInt32).toInt32))), (.int (((0 : Int32) ^^^ (((0 : Int32).toUInt32 >>> ((16 : Int32) &&& 31).toUInt32).toInt32)) &&& (65535 : Int32)))])) rfl (hb hby at_190)) ?_
      show OE _ p e below s _ _ _ T90 (mkF m 192 #[.val (.int p1), .val (.int p2), .val (.int p3), .val (.int p4), .val (.int p5), .val (.ref b1), .val (.int (2 : Int32)), .val (.int (2 : Int32)), .val (.int (0 : Int32)), .val (.long (0 : Int64)), .second, .val (.int (0 : Int32)), .val (.int (0 : Int32)), .val (.int ((0 : Int32) ^^^ (((0 : Int32).toUInt32 >>> ((16 : Int32) &&& 31).toUInt32).toInt32)))] [(.int (65535 : Int32)), (.int ((0 : Int32) ^^^ (((0 : Int32).toUInt32 >>> ((16 : Int32) &&& 31).toUInt32).toInt32))), (.int (((0 : Int32) ^^^ (((0 : Int32).toUInt32 >>> ((16 : Int32) &&& 31).toUInt32).toInt32)) &&& (65535 : Int32)))])
      refine OE.iand X90 hx hby at_192 ?_
      refine OE.icmpNo X90 hx hby at_193 (teq (rfl : (((0 : Int32) ^^^ (((0 : Int32).toUInt32 >>> ((16 : Int32) &&& 31).toUInt32).toInt32)) &&& (65535 : Int32)) = (((0 : Int32) ^^^ (((0 : Int32).toUInt32 >>> ((16 : Int32) &&& 31).toUInt32).toInt32)) &&& (65535 : Int32)))).2 ?_
      refine OE.iconst X90 hx hby at_196 (1 : Int32) rfl ?_
      refine OE.goto X90 hx hby (pc' := 201) at_197 (h := ?_)
      refine OE.retN X90 hx (t := .boolean) Bd.returns (by simp) Bd.notSynchronized (hb hby at_201) (by decide) (by decide) ?_
      rw [eq90]
      exact ⟨rfl, N90⟩
    · rw [hm]
      show OE _ p e below s _ _ _ T6 (mkF m 72 #[.val (.int p1), .val (.int p2), .val (.int p3), .val (.int p4), .val (.int p5), .val (.ref b1), .val (.int (2 : Int32)), .unset, .unset, .unset, .unset, .unset, .unset, .unset] [(.int (1 : Int32)), (.int (2 : Int32))])
      refine OE.iadd X6 hx hby at_72 ?_
      rw [(by decide : ((2 : Int32) + (1 : Int32)) = (3 : Int32))]
      refine OE.istore X6 hx hby at_73 (l' := #[.val (.int p1), .val (.int p2), .val (.int p3), .val (.int p4), .val (.int p5), .val (.ref b1), .val (.int (2 : Int32)), .val (.int (3 : Int32)), .unset, .unset, .unset, .unset, .unset, .unset]) rfl ?_
      refine OE.iload X6 hx hby at_75 rfl ?_
      refine OE.iload X6 hx hby at_77 rfl ?_
      refine OE.isub X6 hx hby at_79 ?_
      rw [(by decide : ((3 : Int32) - (2 : Int32)) = (1 : Int32))]
      refine OE.istore X6 hx hby at_80 (l' := #[.val (.int p1), .val (.int p2), .val (.int p3), .val (.int p4), .val (.int p5), .val (.ref b1), .val (.int (2 : Int32)), .val (.int (3 : Int32)), .val (.int (1 : Int32)), .unset, .unset, .unset, .unset, .unset]) rfl ?_
      refine OE.aload X6 hx hby at_82 rfl rfl ?_
      refine OE.iload X6 hx hby at_84 rfl ?_
      refine OE.iload X6 hx hby at_86 rfl ?_
      refine OE.iconst X6 hx hby at_88 (0 : Int32) rfl ?_
      have z91 : n0 ≤ h6.size := (Nat.le_trans (Nat.le_trans (Nat.le_trans (Nat.le_trans (Nat.le_trans (Nat.le_trans Z0 E1.1) (Nat.le_of_eq W2.size.symm)) (Nat.le_of_eq W3.size.symm)) (Nat.le_of_eq W4.size.symm)) (Nat.le_of_eq W5.size.symm)) (Nat.le_of_eq W6.size.symm))
      obtain ⟨_, _, ⟨T92, L92, k92, n92⟩, -, X92, ⟨Lc92, hQ92, l92, y92, z92⟩, st92⟩ := Jvm.LawKit.callS X6 hx (y := (⟨"com/example/archerfish/archerfish/index/TokenTableHashPinLaw", "term", "([CIII)J"⟩ : MethodName)) hown (mvT hZ (hw _ (List.mem_of_getElem? (i := 3) rfl))) (mvT hZ (hw _ (List.mem_of_getElem? (i := 4) rfl))) (mvT hZ (hw _ (List.mem_of_getElem? (i := 5) rfl))) (mvT hZ (hw _ (List.mem_of_getElem? (i := 6) rfl))) (by decide) (backOf (W := 0) (own_rm1_1_0 l Z a0 hw [] b1 (2 : Int32) c2 k1 [(.int c0), (.int c1), (.int c2), (.int c3), (.int c4)] h6 n0 z91 Vc ⟨by decide, by decide⟩ rfl) hZ (hw _ (List.mem_of_getElem? (i := 6) rfl)) (hw _ (List.mem_of_getElem? (i := 5) rfl)) (by decide) (by decide)) (g := (mkF m 89 #[.val (.int p1), .val (.int p2), .val (.int p3), .val (.int p4), .val (.int p5), .val (.ref b1), .val (.int (2 : Int32)), .val (.int (3 : Int32)), .val (.int (1 : Int32)), .unset, .unset, .unset, .unset, .unset] [(.int (0 : Int32)), (.int (1 : Int32)), (.int (2 : Int32)), (.ref b1)])) rfl (by rw [hml]; rfl) (argsL := [(.ref b1), (.int (2 : Int32)), (.int (1 : Int32)), (.int (0 : Int32))]) (rest := []) (lenOf own_pd1 rfl) rfl (by show 2 * 0 + _ ≤ _; exact Nat.le_of_eq rfl) (hb hby at_89) (fun _ _ => ⟨rfl, e6, (by decide : 1 + 0 ≤ _), (by decide : 5 + 0 ≤ _)⟩)
      dsimp only [Pt.U, Pt.locs, Pt.cells, Pt.slots] at X92 l92 y92 z92 st92 hQ92
      subst l92 y92 z92
      obtain ⟨rfl, Nq92, eq92⟩ := hQ92
      refine OE.of (fun _ k => st92 _ k) ?_
      have N92 := Fr.app N6 Nq92
      show OE _ p e below s _ _ _ T92 (mkF m 92 #[.val (.int p1), .val (.int p2), .val (.int p3), .val (.int p4), .val (.int p5), .val (.ref b1), .val (.int (2 : Int32)), .val (.int (3 : Int32)), .val (.int (1 : Int32)), .unset, .unset, .unset, .unset, .unset] [(.long ((c2.toInt64) * (1 : Int64)))])
      refine OE.aload X92 hx hby at_92 rfl rfl ?_
      refine OE.iload X92 hx hby at_94 rfl ?_
      refine OE.iload X92 hx hby at_96 rfl ?_
      refine OE.iconst X92 hx hby at_98 (1 : Int32) rfl ?_
      obtain ⟨_, _, ⟨T93, L93, k93, n93⟩, -, X93, ⟨Lc93, hQ93, l93, y93, z93⟩, st93⟩ := Jvm.LawKit.callS X92 hx (y := (⟨"com/example/archerfish/archerfish/index/TokenTableHashPinLaw", "term", "([CIII)J"⟩ : MethodName)) hown (mvT hZ (hw _ (List.mem_of_getElem? (i := 3) rfl))) (mvT hZ (hw _ (List.mem_of_getElem? (i := 4) rfl))) (mvT hZ (hw _ (List.mem_of_getElem? (i := 5) rfl))) (mvT hZ (hw _ (List.mem_of_getElem? (i := 6) rfl))) (by decide) (backOf (W := 2) (own_rm1_o l Z a0 hw [] b1 (2 : Int32) (1 : Int32) (1 : Int32) h6 n0 z91 (by decide)) hZ (hw _ (List.mem_of_getElem? (i := 6) rfl)) (hw _ (List.mem_of_getElem? (i := 5) rfl)) (by decide) (by decide)) (g := (mkF m 99 #[.val (.int p1), .val (.int p2), .val (.int p3), .val (.int p4), .val (.int p5), .val (.ref b1), .val (.int (2 : Int32)), .val (.int (3 : Int32)), .val (.int (1 : Int32)), .unset, .unset, .unset, .unset, .unset] [(.int (1 : Int32)), (.int (1 : Int32)), (.int (2 : Int32)), (.ref b1), (.long ((c2.toInt64) * (1 : Int64)))])) rfl (by rw [hml]; rfl) (argsL := [(.ref b1), (.int (2 : Int32)), (.int (1 : Int32)), (.int (1 : Int32))]) (rest := [(.long ((c2.toInt64) * (1 : Int64)))]) (lenOf own_pd1 rfl) rfl (by show 2 * 0 + _ ≤ _; exact Nat.le_of_eq rfl) (hb hby at_99) (fun _ _ => ⟨rfl, eq92, (by decide : 1 + 0 ≤ _), (by decide : 5 + 0 ≤ _)⟩)
      dsimp only [Pt.U, Pt.locs, Pt.cells, Pt.slots] at X93 l93 y93 z93 st93 hQ93
      subst l93 y93 z93
      obtain ⟨rfl, Nq93, eq93⟩ := hQ93
      refine OE.of (fun _ k => st93 _ k) ?_
      have N93 := Fr.app N92 Nq93
      show OE _ p e below s _ _ _ T93 (mkF m 102 #[.val (.int p1), .val (.int p2), .val (.int p3), .val (.int p4), .val (.int p5), .val (.ref b1), .val (.int (2 : Int32)), .val (.int (3 : Int32)), .val (.int (1 : Int32)), .unset, .unset, .unset, .unset, .unset] [(.long (0 : Int64)), (.long ((c2.toInt64) * (1 : Int64)))])
      refine OE.ladd X93 hx hby at_102 ?_
      refine OE.aload X93 hx hby at_103 rfl rfl ?_
      refine OE.iload X93 hx hby at_105 rfl ?_
      refine OE.iload X93 hx hby at_107 rfl ?_
      refine OE.iconst X93 hx hby at_109 (2 : Int32) rfl ?_
      obtain ⟨_, _, ⟨T94, L94, k94, n94⟩, -, X94, ⟨Lc94, hQ94, l94, y94, z94⟩, st94⟩ := Jvm.LawKit.callS X93 hx (y := (⟨"com/example/archerfish/archerfish/index/TokenTableHashPinLaw", "term", "([CIII)J"⟩ : MethodName)) hown (mvT hZ (hw _ (List.mem_of_getElem? (i := 3) rfl))) (mvT hZ (hw _ (List.mem_of_getElem? (i := 4) rfl))) (mvT hZ (hw _ (List.mem_of_getElem? (i := 5) rfl))) (mvT hZ (hw _ (List.mem_of_getElem? (i := 6) rfl))) (by decide) (backOf (W := 2) (own_rm1_o l Z a0 hw [] b1 (2 : Int32) (1 : Int32) (2 : Int32) h6 n0 z91 (by decide)) hZ (hw _ (List.mem_of_getElem? (i := 6) rfl)) (hw _ (List.mem_of_getElem? (i := 5) rfl)) (by decide) (by decide)) (g := (mkF m 110 #[.val (.int p1), .val (.int p2), .val (.int p3), .val (.int p4), .val (.int p5), .val (.ref b1), .val (.int (2 : Int32)), .val (.int (3 : Int32)), .val (.int (1 : Int32)), .unset, .unset, .unset, .unset, .unset] [(.int (2 : Int32)), (.int (1 : Int32)), (.int (2 : Int32)), (.ref b1), (.long (((c2.toInt64) * (1 : Int64)) + (0 : Int64)))])) rfl (by rw [hml]; rfl) (argsL := [(.ref b1), (.int (2 : Int32)), (.int (1 : Int32)), (.int (2 : Int32))]) (rest := [(.long (((c2.toInt64) * (1 : Int64)) + (0 : Int64)))]) (lenOf own_pd1 rfl) rfl (by show 2 * 0 + _ ≤ _; exact Nat.le_of_eq rfl) (hb hby at_110) (fun _ _ => ⟨rfl, eq93, (by decide : 1 + 0 ≤ _), (by decide : 5 + 0 ≤ _)⟩)
      dsimp only [Pt.U, Pt.locs, Pt.cells, Pt.slots] at X94 l94 y94 z94 st94 hQ94
      subst l94 y94 z94
      obtain ⟨rfl, Nq94, eq94⟩ := hQ94
      refine OE.of (fun _ k => st94 _ k) ?_
      have N94 := Fr.app N93 Nq94
      show OE _ p e below s _ _ _ T94 (mkF m 113 #[.val (.int p1), .val (.int p2), .val (.int p3), .val (.int p4), .val (.int p5), .val (.ref b1), .val (.int (2 : Int32)), .val (.int (3 : Int32)), .val (.int (1 : Int32)), .unset, .unset, .unset, .unset, .unset] [(.long (0 : Int64)), (.long (((c2.toInt64) * (1 : Int64)) + (0 : Int64)))])
      refine OE.ladd X94 hx hby at_113 ?_
      refine OE.aload X94 hx hby at_114 rfl rfl ?_
      refine OE.iload X94 hx hby at_116 rfl ?_
      refine OE.iload X94 hx hby at_118 rfl ?_
      refine OE.iconst X94 hx hby at_120 (3 : Int32) rfl ?_
      obtain ⟨_, _, ⟨T95, L95, k95, n95⟩, -, X95, ⟨Lc95, hQ95, l95, y95, z95⟩, st95⟩ := Jvm.LawKit.callS X94 hx (y := (⟨"com/example/archerfish/archerfish/index/TokenTableHashPinLaw", "term", "([CIII)J"⟩ : MethodName)) hown (mvT hZ (hw _ (List.mem_of_getElem? (i := 3) rfl))) (mvT hZ (hw _ (List.mem_of_getElem? (i := 4) rfl))) (mvT hZ (hw _ (List.mem_of_getElem? (i := 5) rfl))) (mvT hZ (hw _ (List.mem_of_getElem? (i := 6) rfl))) (by decide) (backOf (W := 2) (own_rm1_o l Z a0 hw [] b1 (2 : Int32) (1 : Int32) (3 : Int32) h6 n0 z91 (by decide)) hZ (hw _ (List.mem_of_getElem? (i := 6) rfl)) (hw _ (List.mem_of_getElem? (i := 5) rfl)) (by decide) (by decide)) (g := (mkF m 121 #[.val (.int p1), .val (.int p2), .val (.int p3), .val (.int p4), .val (.int p5), .val (.ref b1), .val (.int (2 : Int32)), .val (.int (3 : Int32)), .val (.int (1 : Int32)), .unset, .unset, .unset, .unset, .unset] [(.int (3 : Int32)), (.int (1 : Int32)), (.int (2 : Int32)), (.ref b1), (.long ((((c2.toInt64) * (1 : Int64)) + (0 : Int64)) + (0 : Int64)))])) rfl (by rw [hml]; rfl) (argsL := [(.ref b1), (.int (2 : Int32)), (.int (1 : Int32)), (.int (3 : Int32))]) (rest := [(.long ((((c2.toInt64) * (1 : Int64)) + (0 : Int64)) + (0 : Int64)))]) (lenOf own_pd1 rfl) rfl (by show 2 * 0 + _ ≤ _; exact Nat.le_of_eq rfl) (hb hby at_121) (fun _ _ => ⟨rfl, eq94, (by decide : 1 + 0 ≤ _), (by decide : 5 + 0 ≤ _)⟩)
      dsimp only [Pt.U, Pt.locs, Pt.cells, Pt.slots] at X95 l95 y95 z95 st95 hQ95
      subst l95 y95 z95
      obtain ⟨rfl, Nq95, eq95⟩ := hQ95
      refine OE.of (fun _ k => st95 _ k) ?_
      have N95 := Fr.app N94 Nq95
      show OE _ p e below s _ _ _ T95 (mkF m 124 #[.val (.int p1), .val (.int p2), .val (.int p3), .val (.int p4), .val (.int p5), .val (.ref b1), .val (.int (2 : Int32)), .val (.int (3 : Int32)), .val (.int (1 : Int32)), .unset, .unset, .unset, .unset, .unset] [(.long (0 : Int64)), (.long ((((c2.toInt64) * (1 : Int64)) + (0 : Int64)) + (0 : Int64)))])
      refine OE.ladd X95 hx hby at_124 ?_
      refine OE.aload X95 hx hby at_125 rfl rfl ?_
      refine OE.iload X95 hx hby at_127 rfl ?_
      refine OE.iload X95 hx hby at_129 rfl ?_
      refine OE.iconst X95 hx hby at_131 (4 : Int32) rfl ?_
      obtain ⟨_, _, ⟨T96, L96, k96, n96⟩, -, X96, ⟨Lc96, hQ96, l96, y96, z96⟩, st96⟩ := Jvm.LawKit.callS X95 hx (y := (⟨"com/example/archerfish/archerfish/index/TokenTableHashPinLaw", "term", "([CIII)J"⟩ : MethodName)) hown (mvT hZ (hw _ (List.mem_of_getElem? (i := 3) rfl))) (mvT hZ (hw _ (List.mem_of_getElem? (i := 4) rfl))) (mvT hZ (hw _ (List.mem_of_getElem? (i := 5) rfl))) (mvT hZ (hw _ (List.mem_of_getElem? (i := 6) rfl))) (by decide) (backOf (W := 2) (own_rm1_o l Z a0 hw [] b1 (2 : Int32) (1 : Int32) (4 : Int32) h6 n0 z91 (by decide)) hZ (hw _ (List.mem_of_getElem? (i := 6) rfl)) (hw _ (List.mem_of_getElem? (i := 5) rfl)) (by decide) (by decide)) (g := (mkF m 132 #[.val (.int p1), .val (.int p2), .val (.int p3), .val (.int p4), .val (.int p5), .val (.ref b1), .val (.int (2 : Int32)), .val (.int (3 : Int32)), .val (.int (1 : Int32)), .unset, .unset, .unset, .unset, .unset] [(.int (4 : Int32)), (.int (1 : Int32)), (.int (2 : Int32)), (.ref b1), (.long (((((c2.toInt64) * (1 : Int64)) + (0 : Int64)) + (0 : Int64)) + (0 : Int64)))])) rfl (by rw [hml]; rfl) (argsL := [(.ref b1), (.int (2 : Int32)), (.int (1 : Int32)), (.int (4 : Int32))]) (rest := [(.long (((((c2.toInt64) * (1 : Int64)) + (0 : Int64)) + (0 : Int64)) + (0 : Int64)))]) (lenOf own_pd1 rfl) rfl (by show 2 * 0 + _ ≤ _; exact Nat.le_of_eq rfl) (hb hby at_132) (fun _ _ => ⟨rfl, eq95, (by decide : 1 + 0 ≤ _), (by decide : 5 + 0 ≤ _)⟩)
      dsimp only [Pt.U, Pt.locs, Pt.cells, Pt.slots] at X96 l96 y96 z96 st96 hQ96
      subst l96 y96 z96
      obtain ⟨rfl, Nq96, eq96⟩ := hQ96
      refine OE.of (fun _ k => st96 _ k) ?_
      have N96 := Fr.app N95 Nq96
      show OE _ p e below s _ _ _ T96 (mkF m 135 #[.val (.int p1), .val (.int p2), .val (.int p3), .val (.int p4), .val (.int p5), .val (.ref b1), .val (.int (2 : Int32)), .val (.int (3 : Int32)), .val (.int (1 : Int32)), .unset, .unset, .unset, .unset, .unset] [(.long (0 : Int64)), (.long (((((c2.toInt64) * (1 : Int64)) + (0 : Int64)) + (0 : Int64)) + (0 : Int64)))])
      refine OE.ladd X96 hx hby at_135 ?_
      refine OE.lstore X96 hx hby at_136 (l' := #[.val (.int p1), .val (.int p2), .val (.int p3), .val (.int p4), .val (.int p5), .val (.ref b1), .val (.int (2 : Int32)), .val (.int (3 : Int32)), .val (.int (1 : Int32)), .val (.long ((((((c2.toInt64) * (1 : Int64)) + (0 : Int64)) + (0 : Int64)) + (0 : Int64)) + (0 : Int64))), .second, .unset, .unset, .unset]) rfl ?_
      refine OE.lload X96 hx hby at_138 rfl ?_
      refine OE.l2i X96 hx hby at_140 ?_
      rw [(own_poly1 c2 : (((((((c2.toInt64) * (1 : Int64)) + (0 : Int64)) + (0 : Int64)) + (0 : Int64)) + (0 : Int64)).toInt32) = ((0 : Int32) + c2))]
      show OE _ p e below s _ _ _ T96 (mkF m 141 #[.val (.int p1), .val (.int p2), .val (.int p3), .val (.int p4), .val (.int p5), .val (.ref b1), .val (.int (2 : Int32)), .val (.int (3 : Int32)), .val (.int (1 : Int32)), .val (.long ((((((c2.toInt64) * (1 : Int64)) + (0 : Int64)) + (0 : Int64)) + (0 : Int64)) + (0 : Int64))), .second, .unset, .unset, .unset] [(.int ((0 : Int32) + c2))])
      refine OE.istore X96 hx hby at_141 (l' := #[.val (.int p1), .val (.int p2), .val (.int p3), .val (.int p4), .val (.int p5), .val (.ref b1), .val (.int (2 : Int32)), .val (.int (3 : Int32)), .val (.int (1 : Int32)), .val (.long ((((((c2.toInt64) * (1 : Int64)) + (0 : Int64)) + (0 : Int64)) + (0 : Int64)) + (0 : Int64))), .second, .val (.int ((0 : Int32) + c2)), .unset, .unset]) rfl ?_
      refine OE.iload X96 hx hby at_143 rfl ?_
      refine OE.i2l X96 hx hby at_145 ?_
      refine OE.of (X96.ldc2Long hx hown (mvT hZ (hw _ (List.mem_of_getElem? (i := 7) rfl))) (g := (mkF m 146 #[.val (.int p1), .val (.int p2), .val (.int p3), .val (.int p4), .val (.int p5), .val (.ref b1), .val (.int (2 : Int32)), .val (.int (3 : Int32)), .val (.int (1 : Int32)), .val (.long ((((((c2.toInt64) * (1 : Int64)) + (0 : Int64)) + (0 : Int64)) + (0 : Int64)) + (0 : Int64))), .second, .val (.int ((0 : Int32) + c2)), .unset, .unset] [(.long (((0 : Int32) + c2).toInt64))])) rfl (hb hby at_146)) ?_
      show OE _ p e below s _ _ _ T96 (mkF m 149 #[.val (.int p1), .val (.int p2), .val (.int p3), .val (.int p4), .val (.int p5), .val (.ref b1), .val (.int (2 : Int32)), .val (.int (3 : Int32)), .val (.int (1 : Int32)), .val (.long ((((((c2.toInt64) * (1 : Int64)) + (0 : Int64)) + (0 : Int64)) + (0 : Int64)) + (0 : Int64))), .second, .val (.int ((0 : Int32) + c2)), .unset, .unset] [(.long (2654435769 : Int64)), (.long (((0 : Int32) + c2).toInt64))])
      refine OE.lmul X96 hx hby at_149 ?_
      refine OE.l2i X96 hx hby at_150 ?_
      rw [(own_mul _ : (((((0 : Int32) + c2).toInt64) * (2654435769 : Int64)).toInt32) = (((0 : Int32) + c2) * (-1640531527 : Int32)))]
      show OE _ p e below s _ _ _ T96 (mkF m 151 #[.val (.int p1), .val (.int p2), .val (.int p3), .val (.int p4), .val (.int p5), .val (.ref b1), .val (.int (2 : Int32)), .val (.int (3 : Int32)), .val (.int (1 : Int32)), .val (.long ((((((c2.toInt64) * (1 : Int64)) + (0 : Int64)) + (0 : Int64)) + (0 : Int64)) + (0 : Int64))), .second, .val (.int ((0 : Int32) + c2)), .unset, .unset] [(.int (((0 : Int32) + c2) * (-1640531527 : Int32)))])
      refine OE.istore X96 hx hby at_151 (l' := #[.val (.int p1), .val (.int p2), .val (.int p3), .val (.int p4), .val (.int p5), .val (.ref b1), .val (.int (2 : Int32)), .val (.int (3 : Int32)), .val (.int (1 : Int32)), .val (.long ((((((c2.toInt64) * (1 : Int64)) + (0 : Int64)) + (0 : Int64)) + (0 : Int64)) + (0 : Int64))), .second, .val (.int ((0 : Int32) + c2)), .val (.int (((0 : Int32) + c2) * (-1640531527 : Int32))), .unset]) rfl ?_
      refine OE.aload X96 hx hby at_153 rfl rfl ?_
      refine OE.iload X96 hx hby at_155 rfl ?_
      refine OE.iload X96 hx hby at_157 rfl ?_
      obtain ⟨_, _, ⟨T97, L97, k97, n97⟩, -, X97, ⟨Lc97, hQ97, l97, y97, z97⟩, st97⟩ := Jvm.LawKit.callS X96 hx (y := (⟨"com/example/archerfish/archerfish/index/TokenTable", "hash", "([CII)I"⟩ : MethodName)) hown (mvT hZ (hw _ (List.mem_of_getElem? (i := 8) rfl))) (mvT hZ (hw _ (List.mem_of_getElem? (i := 9) rfl))) (mvT hZ (hw _ (List.mem_of_getElem? (i := 10) rfl))) (mvT hZ (hw _ (List.mem_of_getElem? (i := 11) rfl))) (by decide) (backOf (W := 0) (own_rm2_2_1 l Z a0 hw [] b1 c0 c1 c2 c3 c4 k1 h6 n0 z91 Vc) hZ (hw _ (List.mem_of_getElem? (i := 11) rfl)) (hw _ (List.mem_of_getElem? (i := 10) rfl)) (by decide) (by decide)) (g := (mkF m 159 #[.val (.int p1), .val (.int p2), .val (.int p3), .val (.int p4), .val (.int p5), .val (.ref b1), .val (.int (2 : Int32)), .val (.int (3 : Int32)), .val (.int (1 : Int32)), .val (.long ((((((c2.toInt64) * (1 : Int64)) + (0 : Int64)) + (0 : Int64)) + (0 : Int64)) + (0 : Int64))), .second, .val (.int ((0 : Int32) + c2)), .val (.int (((0 : Int32) + c2) * (-1640531527 : Int32))), .unset] [(.int (3 : Int32)), (.int (2 : Int32)), (.ref b1)])) rfl (by rw [hml]; rfl) (argsL := [(.ref b1), (.int (2 : Int32)), (.int (3 : Int32))]) (rest := []) (lenOf own_pd2 rfl) rfl (by show 2 * 0 + _ ≤ _; exact Nat.le_of_eq rfl) (hb hby at_159) (fun _ _ => ⟨rfl, eq96, (by decide : 1 + 0 ≤ _), (by decide : 5 + 0 ≤ _)⟩)
      dsimp only [Pt.U, Pt.locs, Pt.cells, Pt.slots] at X97 l97 y97 z97 st97 hQ97
      subst l97 y97 z97
      obtain ⟨rfl, Nq97, eq97⟩ := hQ97
      refine OE.of (fun _ k => st97 _ k) ?_
      have N97 := Fr.app N96 Nq97
      show OE _ p e below s _ _ _ T97 (mkF m 162 #[.val (.int p1), .val (.int p2), .val (.int p3), .val (.int p4), .val (.int p5), .val (.ref b1), .val (.int (2 : Int32)), .val (.int (3 : Int32)), .val (.int (1 : Int32)), .val (.long ((((((c2.toInt64) * (1 : Int64)) + (0 : Int64)) + (0 : Int64)) + (0 : Int64)) + (0 : Int64))), .second, .val (.int ((0 : Int32) + c2)), .val (.int (((0 : Int32) + c2) * (-1640531527 : Int32))), .unset] [(.int ((((0 : Int32) + c2) * (-1640531527 : Int32)) ^^^ (((((0 : Int32) + c2) * (-1640531527 : Int32)).toUInt32 >>> ((16 : Int32) &&& 31).toUInt32).toInt32)))])
      refine OE.istore X97 hx hby at_162 (l' := #[.val (.int p1), .val (.int p2), .val (.int p3), .val (.int p4), .val (.int p5), .val (.ref b1), .val (.int (2 : Int32)), .val (.int (3 : Int32)), .val (.int (1 : Int32)), .val (.long ((((((c2.toInt64) * (1 : Int64)) + (0 : Int64)) + (0 : Int64)) + (0 : Int64)) + (0 : Int64))), .second, .val (.int ((0 : Int32) + c2)), .val (.int (((0 : Int32) + c2) * (-1640531527 : Int32))), .val (.int ((((0 : Int32) + c2) * (-1640531527 : Int32)) ^^^ (((((0 : Int32) + c2) * (-1640531527 : Int32)).toUInt32 >>> ((16 : Int32) &&& 31).toUInt32).toInt32)))]) rfl ?_
      refine OE.iload X97 hx hby at_164 rfl ?_
      refine OE.bipush X97 hx hby at_166 (16 : Int32) rfl ?_
      refine OE.iushr X97 hx hby at_168 ?_
      refine OE.iload X97 hx hby at_169 rfl ?_
      refine OE.bipush X97 hx hby at_171 (16 : Int32) rfl ?_
      refine OE.iushr X97 hx hby at_173 ?_
      refine OE.icmpNo X97 hx hby at_174 (teq (own_top _ : ((((((0 : Int32) + c2) * (-1640531527 : Int32)) ^^^ (((((0 : Int32) + c2) * (-1640531527 : Int32)).toUInt32 >>> ((16 : Int32) &&& 31).toUInt32).toInt32)).toUInt32 >>> ((16 : Int32) &&& 31).toUInt32).toInt32) = (((((0 : Int32) + c2) * (-1640531527 : Int32)).toUInt32 >>> ((16 : Int32) &&& 31).toUInt32).toInt32))).2 ?_
      refine OE.iload X97 hx hby at_177 rfl ?_
      refine OE.of (X97.ldcInt hx hown (mvT hZ (hw _ (List.mem_of_getElem? (i := 1) rfl))) (g := (mkF m 179 #[.val (.int p1), .val (.int p2), .val (.int p3), .val (.int p4), .val (.int p5), .val (.ref b1), .val (.int (2 : Int32)), .val (.int (3 : Int32)), .val (.int (1 : Int32)), .val (.long ((((((c2.toInt64) * (1 : Int64)) + (0 : Int64)) + (0 : Int64)) + (0 : Int64)) + (0 : Int64))), .second, .val (.int ((0 : Int32) + c2)), .val (.int (((0 : Int32) + c2) * (-1640531527 : Int32))), .val (.int ((((0 : Int32) + c2) * (-1640531527 : Int32)) ^^^ (((((0 : Int32) + c2) * (-1640531527 : Int32)).toUInt32 >>> ((16 : Int32) &&& 31).toUInt32).toInt32)))] [(.int ((((0 : Int32) + c2) * (-1640531527 : Int32)) ^^^ (((((0 : Int32) + c2) * (-1640531527 : Int32)).toUInt32 >>> ((16 : Int32) &&& 31).toUInt32).toInt32)))])) rfl (hb hby at_179)) ?_
      show OE _ p e below s _ _ _ T97 (mkF m 181 #[.val (.int p1), .val (.int p2), .val (.int p3), .val (.int p4), .val (.int p5), .val (.ref b1), .val (.int (2 : Int32)), .val (.int (3 : Int32)), .val (.int (1 : Int32)), .val (.long ((((((c2.toInt64) * (1 : Int64)) + (0 : Int64)) + (0 : Int64)) + (0 : Int64)) + (0 : Int64))), .second, .val (.int ((0 : Int32) + c2)), .val (.int (((0 : Int32) + c2) * (-1640531527 : Int32))), .val (.int ((((0 : Int32) + c2) * (-1640531527 : Int32)) ^^^ (((((0 : Int32) + c2) * (-1640531527 : Int32)).toUInt32 >>> ((16 : Int32) &&& 31).toUInt32).toInt32)))] [(.int (65535 : Int32)), (.int ((((0 : Int32) + c2) * (-1640531527 : Int32)) ^^^ (((((0 : Int32) + c2) * (-1640531527 : Int32)).toUInt32 >>> ((16 : Int32) &&& 31).toUInt32).toInt32)))])
      refine OE.iand X97 hx hby at_181 ?_
      refine OE.iload X97 hx hby at_182 rfl ?_
      refine OE.iload X97 hx hby at_184 rfl ?_
      refine OE.bipush X97 hx hby at_186 (16 : Int32) rfl ?_
      refine OE.iushr X97 hx hby at_188 ?_
      refine OE.ixor X97 hx hby at_189 ?_
      refine OE.of (X97.ldcInt hx hown (mvT hZ (hw _ (List.mem_of_getElem? (i := 1) rfl))) (g := (mkF m 190 #[.val (.int p1), .val (.int p2), .val (.int p3), .val (.int p4), .val (.int p5), .val (.ref b1), .val (.int (2 : Int32)), .val (.int (3 : Int32)), .val (.int (1 : Int32)), .val (.long ((((((c2.toInt64) * (1 : Int64)) + (0 : Int64)) + (0 : Int64)) + (0 : Int64)) + (0 : Int64))), .second, .val (.int ((0 : Int32) + c2)), .val (.int (((0 : Int32) + c2) * (-1640531527 : Int32))), .val (.int ((((0 : Int32) + c2) * (-1640531527 : Int32)) ^^^ (((((0 : Int32) + c2) * (-1640531527 : Int32)).toUInt32 >>> ((16 : Int32) &&& 31).toUInt32).toInt32)))] [(.int ((((0 : Int32) + c2) * (-1640531527 : Int32)) ^^^ (((((0 : Int32) + c2) * (-1640531527 : Int32)).toUInt32 >>> ((16 : Int32) &&& 31).toUInt32).toInt32))), (.int (((((0 : Int32) + c2) * (-1640531527 : Int32)) ^^^ (((((0 : Int32) + c2) * (-1640531527 : Int32)).toUInt32 >>> ((16 : Int32) &&& 31).toUInt32).toInt32)) &&& (65535 : Int32)))])) rfl (hb hby at_190)) ?_
      show OE _ p e below s _ _ _ T97 (mkF m 192 #[.val (.int p1), .val (.int p2), .val (.int p3), .val (.int p4), .val (.int p5), .val (.ref b1), .val (.int (2 : Int32)), .val (.int (3 : Int32)), .val (.int (1 : Int32)), .val (.long ((((((c2.toInt64) * (1 : Int64)) + (0 : Int64)) + (0 : Int64)) + (0 : Int64)) + (0 : Int64))), .second, .val (.int ((0 : Int32) + c2)), .val (.int (((0 : Int32) + c2) * (-1640531527 : Int32))), .val (.int ((((0 : Int32) + c2) * (-1640531527 : Int32)) ^^^ (((((0 : Int32) + c2) * (-1640531527 : Int32)).toUInt32 >>> ((16 : Int32) &&& 31).toUInt32).toInt32)))] [(.int (65535 : Int32)), (.int ((((0 : Int32) + c2) * (-1640531527 : Int32)) ^^^ (((((0 : Int32) + c2) * (-1640531527 : Int32)).toUInt32 >>> ((16 : Int32) &&& 31).toUInt32).toInt32))), (.int (((((0 : Int32) + c2) * (-1640531527 : Int32)) ^^^ (((((0 : Int32) + c2) * (-1640531527 : Int32)).toUInt32 >>> ((16 : Int32) &&& 31).toUInt32).toInt32)) &&& (65535 : Int32)))])
      refine OE.iand X97 hx hby at_192 ?_
      refine OE.icmpNo X97 hx hby at_193 (teq (rfl : (((((0 : Int32) + c2) * (-1640531527 : Int32)) ^^^ (((((0 : Int32) + c2) * (-1640531527 : Int32)).toUInt32 >>> ((16 : Int32) &&& 31).toUInt32).toInt32)) &&& (65535 : Int32)) = (((((0 : Int32) + c2) * (-1640531527 : Int32)) ^^^ (((((0 : Int32) + c2) * (-1640531527 : Int32)).toUInt32 >>> ((16 : Int32) &&& 31).toUInt32).toInt32)) &&& (65535 : Int32)))).2 ?_
      refine OE.iconst X97 hx hby at_196 (1 : Int32) rfl ?_
      refine OE.goto X97 hx hby (pc' := 201) at_197 (h := ?_)
      refine OE.retN X97 hx (t := .boolean) Bd.returns (by simp) Bd.notSynchronized (hb hby at_201) (by decide) (by decide) ?_
      rw [eq97]
      exact ⟨rfl, N97⟩
    · rw [hm]
      show OE _ p e below s _ _ _ T6 (mkF m 72 #[.val (.int p1), .val (.int p2), .val (.int p3), .val (.int p4), .val (.int p5), .val (.ref b1), .val (.int (2 : Int32)), .unset, .unset, .unset, .unset, .unset, .unset, .unset] [(.int (2 : Int32)), (.int (2 : Int32))])
      refine OE.iadd X6 hx hby at_72 ?_
      rw [(by decide : ((2 : Int32) + (2 : Int32)) = (4 : Int32))]
      refine OE.istore X6 hx hby at_73 (l' := #[.val (.int p1), .val (.int p2), .val (.int p3), .val (.int p4), .val (.int p5), .val (.ref b1), .val (.int (2 : Int32)), .val (.int (4 : Int32)), .unset, .unset, .unset, .unset, .unset, .unset]) rfl ?_
      refine OE.iload X6 hx hby at_75 rfl ?_
      refine OE.iload X6 hx hby at_77 rfl ?_
      refine OE.isub X6 hx hby at_79 ?_
      rw [(by decide : ((4 : Int32) - (2 : Int32)) = (2 : Int32))]
      refine OE.istore X6 hx hby at_80 (l' := #[.val (.int p1), .val (.int p2), .val (.int p3), .val (.int p4), .val (.int p5), .val (.ref b1), .val (.int (2 : Int32)), .val (.int (4 : Int32)), .val (.int (2 : Int32)), .unset, .unset, .unset, .unset, .unset]) rfl ?_
      refine OE.aload X6 hx hby at_82 rfl rfl ?_
      refine OE.iload X6 hx hby at_84 rfl ?_
      refine OE.iload X6 hx hby at_86 rfl ?_
      refine OE.iconst X6 hx hby at_88 (0 : Int32) rfl ?_
      have z98 : n0 ≤ h6.size := (Nat.le_trans (Nat.le_trans (Nat.le_trans (Nat.le_trans (Nat.le_trans (Nat.le_trans Z0 E1.1) (Nat.le_of_eq W2.size.symm)) (Nat.le_of_eq W3.size.symm)) (Nat.le_of_eq W4.size.symm)) (Nat.le_of_eq W5.size.symm)) (Nat.le_of_eq W6.size.symm))
      obtain ⟨_, _, ⟨T99, L99, k99, n99⟩, -, X99, ⟨Lc99, hQ99, l99, y99, z99⟩, st99⟩ := Jvm.LawKit.callS X6 hx (y := (⟨"com/example/archerfish/archerfish/index/TokenTableHashPinLaw", "term", "([CIII)J"⟩ : MethodName)) hown (mvT hZ (hw _ (List.mem_of_getElem? (i := 3) rfl))) (mvT hZ (hw _ (List.mem_of_getElem? (i := 4) rfl))) (mvT hZ (hw _ (List.mem_of_getElem? (i := 5) rfl))) (mvT hZ (hw _ (List.mem_of_getElem? (i := 6) rfl))) (by decide) (backOf (W := 0) (own_rm1_2_0 l Z a0 hw [] b1 (2 : Int32) c2 k1 [(.int c0), (.int c1), (.int c2), (.int c3), (.int c4)] h6 n0 z98 Vc ⟨by decide, by decide⟩ rfl) hZ (hw _ (List.mem_of_getElem? (i := 6) rfl)) (hw _ (List.mem_of_getElem? (i := 5) rfl)) (by decide) (by decide)) (g := (mkF m 89 #[.val (.int p1), .val (.int p2), .val (.int p3), .val (.int p4), .val (.int p5), .val (.ref b1), .val (.int (2 : Int32)), .val (.int (4 : Int32)), .val (.int (2 : Int32)), .unset, .unset, .unset, .unset, .unset] [(.int (0 : Int32)), (.int (2 : Int32)), (.int (2 : Int32)), (.ref b1)])) rfl (by rw [hml]; rfl) (argsL := [(.ref b1), (.int (2 : Int32)), (.int (2 : Int32)), (.int (0 : Int32))]) (rest := []) (lenOf own_pd1 rfl) rfl (by show 2 * 0 + _ ≤ _; exact Nat.le_of_eq rfl) (hb hby at_89) (fun _ _ => ⟨rfl, e6, (by decide : 1 + 0 ≤ _), (by decide : 5 + 0 ≤ _)⟩)
      dsimp only [Pt.U, Pt.locs, Pt.cells, Pt.slots] at X99 l99 y99 z99 st99 hQ99
      subst l99 y99 z99
      obtain ⟨rfl, Nq99, eq99⟩ := hQ99
      refine OE.of (fun _ k => st99 _ k) ?_
      have N99 := Fr.app N6 Nq99
      show OE _ p e below s _ _ _ T99 (mkF m 92 #[.val (.int p1), .val (.int p2), .val (.int p3), .val (.int p4), .val (.int p5), .val (.ref b1), .val (.int (2 : Int32)), .val (.int (4 : Int32)), .val (.int (2 : Int32)), .unset, .unset, .unset, .unset, .unset] [(.long ((c2.toInt64) * (31 : Int64)))])
      refine OE.aload X99 hx hby at_92 rfl rfl ?_
      refine OE.iload X99 hx hby at_94 rfl ?_
      refine OE.iload X99 hx hby at_96 rfl ?_
      refine OE.iconst X99 hx hby at_98 (1 : Int32) rfl ?_
      obtain ⟨_, _, ⟨T100, L100, k100, n100⟩, -, X100, ⟨Lc100, hQ100, l100, y100, z100⟩, st100⟩ := Jvm.LawKit.callS X99 hx (y := (⟨"com/example/archerfish/archerfish/index/TokenTableHashPinLaw", "term", "([CIII)J"⟩ : MethodName)) hown (mvT hZ (hw _ (List.mem_of_getElem? (i := 3) rfl))) (mvT hZ (hw _ (List.mem_of_getElem? (i := 4) rfl))) (mvT hZ (hw _ (List.mem_of_getElem? (i := 5) rfl))) (mvT hZ (hw _ (List.mem_of_getElem? (i := 6) rfl))) (by decide) (backOf (W := 2) (own_rm1_2_1 l Z a0 hw [] b1 (2 : Int32) c3 k1 [(.int c0), (.int c1), (.int c2), (.int c3), (.int c4)] h6 n0 z98 Vc ⟨by decide, by decide⟩ rfl) hZ (hw _ (List.mem_of_getElem? (i := 6) rfl)) (hw _ (List.mem_of_getElem? (i := 5) rfl)) (by decide) (by decide)) (g := (mkF m 99 #[.val (.int p1), .val (.int p2), .val (.int p3), .val (.int p4), .val (.int p5), .val (.ref b1), .val (.int (2 : Int32)), .val (.int (4 : Int32)), .val (.int (2 : Int32)), .unset, .unset, .unset, .unset, .unset] [(.int (1 : Int32)), (.int (2 : Int32)), (.int (2 : Int32)), (.ref b1), (.long ((c2.toInt64) * (31 : Int64)))])) rfl (by rw [hml]; rfl) (argsL := [(.ref b1), (.int (2 : Int32)), (.int (2 : Int32)), (.int (1 : Int32))]) (rest := [(.long ((c2.toInt64) * (31 : Int64)))]) (lenOf own_pd1 rfl) rfl (by show 2 * 0 + _ ≤ _; exact Nat.le_of_eq rfl) (hb hby at_99) (fun _ _ => ⟨rfl, eq99, (by decide : 1 + 0 ≤ _), (by decide : 5 + 0 ≤ _)⟩)
      dsimp only [Pt.U, Pt.locs, Pt.cells, Pt.slots] at X100 l100 y100 z100 st100 hQ100
      subst l100 y100 z100
      obtain ⟨rfl, Nq100, eq100⟩ := hQ100
      refine OE.of (fun _ k => st100 _ k) ?_
      have N100 := Fr.app N99 Nq100
      show OE _ p e below s _ _ _ T100 (mkF m 102 #[.val (.int p1), .val (.int p2), .val (.int p3), .val (.int p4), .val (.int p5), .val (.ref b1), .val (.int (2 : Int32)), .val (.int (4 : Int32)), .val (.int (2 : Int32)), .unset, .unset, .unset, .unset, .unset] [(.long ((c3.toInt64) * (1 : Int64))), (.long ((c2.toInt64) * (31 : Int64)))])
      refine OE.ladd X100 hx hby at_102 ?_
      refine OE.aload X100 hx hby at_103 rfl rfl ?_
      refine OE.iload X100 hx hby at_105 rfl ?_
      refine OE.iload X100 hx hby at_107 rfl ?_
      refine OE.iconst X100 hx hby at_109 (2 : Int32) rfl ?_
      obtain ⟨_, _, ⟨T101, L101, k101, n101⟩, -, X101, ⟨Lc101, hQ101, l101, y101, z101⟩, st101⟩ := Jvm.LawKit.callS X100 hx (y := (⟨"com/example/archerfish/archerfish/index/TokenTableHashPinLaw", "term", "([CIII)J"⟩ : MethodName)) hown (mvT hZ (hw _ (List.mem_of_getElem? (i := 3) rfl))) (mvT hZ (hw _ (List.mem_of_getElem? (i := 4) rfl))) (mvT hZ (hw _ (List.mem_of_getElem? (i := 5) rfl))) (mvT hZ (hw _ (List.mem_of_getElem? (i := 6) rfl))) (by decide) (backOf (W := 2) (own_rm1_o l Z a0 hw [] b1 (2 : Int32) (2 : Int32) (2 : Int32) h6 n0 z98 (by decide)) hZ (hw _ (List.mem_of_getElem? (i := 6) rfl)) (hw _ (List.mem_of_getElem? (i := 5) rfl)) (by decide) (by decide)) (g := (mkF m 110 #[.val (.int p1), .val (.int p2), .val (.int p3), .val (.int p4), .val (.int p5), .val (.ref b1), .val (.int (2 : Int32)), .val (.int (4 : Int32)), .val (.int (2 : Int32)), .unset, .unset, .unset, .unset, .unset] [(.int (2 : Int32)), (.int (2 : Int32)), (.int (2 : Int32)), (.ref b1), (.long (((c2.toInt64) * (31 : Int64)) + ((c3.toInt64) * (1 : Int64))))])) rfl (by rw [hml]; rfl) (argsL := [(.ref b1), (.int (2 : Int32)), (.int (2 : Int32)), (.int (2 : Int32))]) (rest := [(.long (((c2.toInt64) * (31 : Int64)) + ((c3.toInt64) * (1 : Int64))))]) (lenOf own_pd1 rfl) rfl (by show 2 * 0 + _ ≤ _; exact Nat.le_of_eq rfl) (hb hby at_110) (fun _ _ => ⟨rfl, eq100, (by decide : 1 + 0 ≤ _), (by decide : 5 + 0 ≤ _)⟩)
      dsimp only [Pt.U, Pt.locs, Pt.cells, Pt.slots] at X101 l101 y101 z101 st101 hQ101
      subst l101 y101 z101
      obtain ⟨rfl, Nq101, eq101⟩ := hQ101
      refine OE.of (fun _ k => st101 _ k) ?_
      have N101 := Fr.app N100 Nq101
      show OE _ p e below s _ _ _ T101 (mkF m 113 #[.val (.int p1), .val (.int p2), .val (.int p3), .val (.int p4), .val (.int p5), .val (.ref b1), .val (.int (2 : Int32)), .val (.int (4 : Int32)), .val (.int (2 : Int32)), .unset, .unset, .unset, .unset, .unset] [(.long (0 : Int64)), (.long (((c2.toInt64) * (31 : Int64)) + ((c3.toInt64) * (1 : Int64))))])
      refine OE.ladd X101 hx hby at_113 ?_
      refine OE.aload X101 hx hby at_114 rfl rfl ?_
      refine OE.iload X101 hx hby at_116 rfl ?_
      refine OE.iload X101 hx hby at_118 rfl ?_
      refine OE.iconst X101 hx hby at_120 (3 : Int32) rfl ?_
      obtain ⟨_, _, ⟨T102, L102, k102, n102⟩, -, X102, ⟨Lc102, hQ102, l102, y102, z102⟩, st102⟩ := Jvm.LawKit.callS X101 hx (y := (⟨"com/example/archerfish/archerfish/index/TokenTableHashPinLaw", "term", "([CIII)J"⟩ : MethodName)) hown (mvT hZ (hw _ (List.mem_of_getElem? (i := 3) rfl))) (mvT hZ (hw _ (List.mem_of_getElem? (i := 4) rfl))) (mvT hZ (hw _ (List.mem_of_getElem? (i := 5) rfl))) (mvT hZ (hw _ (List.mem_of_getElem? (i := 6) rfl))) (by decide) (backOf (W := 2) (own_rm1_o l Z a0 hw [] b1 (2 : Int32) (2 : Int32) (3 : Int32) h6 n0 z98 (by decide)) hZ (hw _ (List.mem_of_getElem? (i := 6) rfl)) (hw _ (List.mem_of_getElem? (i := 5) rfl)) (by decide) (by decide)) (g := (mkF m 121 #[.val (.int p1), .val (.int p2), .val (.int p3), .val (.int p4), .val (.int p5), .val (.ref b1), .val (.int (2 : Int32)), .val (.int (4 : Int32)), .val (.int (2 : Int32)), .unset, .unset, .unset, .unset, .unset] [(.int (3 : Int32)), (.int (2 : Int32)), (.int (2 : Int32)), (.ref b1), (.long ((((c2.toInt64) * (31 : Int64)) + ((c3.toInt64) * (1 : Int64))) + (0 : Int64)))])) rfl (by rw [hml]; rfl) (argsL := [(.ref b1), (.int (2 : Int32)), (.int (2 : Int32)), (.int (3 : Int32))]) (rest := [(.long ((((c2.toInt64) * (31 : Int64)) + ((c3.toInt64) * (1 : Int64))) + (0 : Int64)))]) (lenOf own_pd1 rfl) rfl (by show 2 * 0 + _ ≤ _; exact Nat.le_of_eq rfl) (hb hby at_121) (fun _ _ => ⟨rfl, eq101, (by decide : 1 + 0 ≤ _), (by decide : 5 + 0 ≤ _)⟩)
      dsimp only [Pt.U, Pt.locs, Pt.cells, Pt.slots] at X102 l102 y102 z102 st102 hQ102
      subst l102 y102 z102
      obtain ⟨rfl, Nq102, eq102⟩ := hQ102
      refine OE.of (fun _ k => st102 _ k) ?_
      have N102 := Fr.app N101 Nq102
      show OE _ p e below s _ _ _ T102 (mkF m 124 #[.val (.int p1), .val (.int p2), .val (.int p3), .val (.int p4), .val (.int p5), .val (.ref b1), .val (.int (2 : Int32)), .val (.int (4 : Int32)), .val (.int (2 : Int32)), .unset, .unset, .unset, .unset, .unset] [(.long (0 : Int64)), (.long ((((c2.toInt64) * (31 : Int64)) + ((c3.toInt64) * (1 : Int64))) + (0 : Int64)))])
      refine OE.ladd X102 hx hby at_124 ?_
      refine OE.aload X102 hx hby at_125 rfl rfl ?_
      refine OE.iload X102 hx hby at_127 rfl ?_
      refine OE.iload X102 hx hby at_129 rfl ?_
      refine OE.iconst X102 hx hby at_131 (4 : Int32) rfl ?_
      obtain ⟨_, _, ⟨T103, L103, k103, n103⟩, -, X103, ⟨Lc103, hQ103, l103, y103, z103⟩, st103⟩ := Jvm.LawKit.callS X102 hx (y := (⟨"com/example/archerfish/archerfish/index/TokenTableHashPinLaw", "term", "([CIII)J"⟩ : MethodName)) hown (mvT hZ (hw _ (List.mem_of_getElem? (i := 3) rfl))) (mvT hZ (hw _ (List.mem_of_getElem? (i := 4) rfl))) (mvT hZ (hw _ (List.mem_of_getElem? (i := 5) rfl))) (mvT hZ (hw _ (List.mem_of_getElem? (i := 6) rfl))) (by decide) (backOf (W := 2) (own_rm1_o l Z a0 hw [] b1 (2 : Int32) (2 : Int32) (4 : Int32) h6 n0 z98 (by decide)) hZ (hw _ (List.mem_of_getElem? (i := 6) rfl)) (hw _ (List.mem_of_getElem? (i := 5) rfl)) (by decide) (by decide)) (g := (mkF m 132 #[.val (.int p1), .val (.int p2), .val (.int p3), .val (.int p4), .val (.int p5), .val (.ref b1), .val (.int (2 : Int32)), .val (.int (4 : Int32)), .val (.int (2 : Int32)), .unset, .unset, .unset, .unset, .unset] [(.int (4 : Int32)), (.int (2 : Int32)), (.int (2 : Int32)), (.ref b1), (.long (((((c2.toInt64) * (31 : Int64)) + ((c3.toInt64) * (1 : Int64))) + (0 : Int64)) + (0 : Int64)))])) rfl (by rw [hml]; rfl) (argsL := [(.ref b1), (.int (2 : Int32)), (.int (2 : Int32)), (.int (4 : Int32))]) (rest := [(.long (((((c2.toInt64) * (31 : Int64)) + ((c3.toInt64) * (1 : Int64))) + (0 : Int64)) + (0 : Int64)))]) (lenOf own_pd1 rfl) rfl (by show 2 * 0 + _ ≤ _; exact Nat.le_of_eq rfl) (hb hby at_132) (fun _ _ => ⟨rfl, eq102, (by decide : 1 + 0 ≤ _), (by decide : 5 + 0 ≤ _)⟩)
      dsimp only [Pt.U, Pt.locs, Pt.cells, Pt.slots] at X103 l103 y103 z103 st103 hQ103
      subst l103 y103 z103
      obtain ⟨rfl, Nq103, eq103⟩ := hQ103
      refine OE.of (fun _ k => st103 _ k) ?_
      have N103 := Fr.app N102 Nq103
      show OE _ p e below s _ _ _ T103 (mkF m 135 #[.val (.int p1), .val (.int p2), .val (.int p3), .val (.int p4), .val (.int p5), .val (.ref b1), .val (.int (2 : Int32)), .val (.int (4 : Int32)), .val (.int (2 : Int32)), .unset, .unset, .unset, .unset, .unset] [(.long (0 : Int64)), (.long (((((c2.toInt64) * (31 : Int64)) + ((c3.toInt64) * (1 : Int64))) + (0 : Int64)) + (0 : Int64)))])
      refine OE.ladd X103 hx hby at_135 ?_
      refine OE.lstore X103 hx hby at_136 (l' := #[.val (.int p1), .val (.int p2), .val (.int p3), .val (.int p4), .val (.int p5), .val (.ref b1), .val (.int (2 : Int32)), .val (.int (4 : Int32)), .val (.int (2 : Int32)), .val (.long ((((((c2.toInt64) * (31 : Int64)) + ((c3.toInt64) * (1 : Int64))) + (0 : Int64)) + (0 : Int64)) + (0 : Int64))), .second, .unset, .unset, .unset]) rfl ?_
      refine OE.lload X103 hx hby at_138 rfl ?_
      refine OE.l2i X103 hx hby at_140 ?_
      rw [(own_poly2 c2 c3 : (((((((c2.toInt64) * (31 : Int64)) + ((c3.toInt64) * (1 : Int64))) + (0 : Int64)) + (0 : Int64)) + (0 : Int64)).toInt32) = (((31 : Int32) * ((0 : Int32) + c2)) + c3))]
      show OE _ p e below s _ _ _ T103 (mkF m 141 #[.val (.int p1), .val (.int p2), .val (.int p3), .val (.int p4), .val (.int p5), .val (.ref b1), .val (.int (2 : Int32)), .val (.int (4 : Int32)), .val (.int (2 : Int32)), .val (.long ((((((c2.toInt64) * (31 : Int64)) + ((c3.toInt64) * (1 : Int64))) + (0 : Int64)) + (0 : Int64)) + (0 : Int64))), .second, .unset, .unset, .unset] [(.int (((31 : Int32) * ((0 : Int32) + c2)) + c3))])
      refine OE.istore X103 hx hby at_141 (l' := #[.val (.int p1), .val (.int p2), .val (.int p3), .val (.int p4), .val (.int p5), .val (.ref b1), .val (.int (2 : Int32)), .val (.int (4 : Int32)), .val (.int (2 : Int32)), .val (.long ((((((c2.toInt64) * (31 : Int64)) + ((c3.toInt64) * (1 : Int64))) + (0 : Int64)) + (0 : Int64)) + (0 : Int64))), .second, .val (.int (((31 : Int32) * ((0 : Int32) + c2)) + c3)), .unset, .unset]) rfl ?_
      refine OE.iload X103 hx hby at_143 rfl ?_
      refine OE.i2l X103 hx hby at_145 ?_
      refine OE.of (X103.ldc2Long hx hown (mvT hZ (hw _ (List.mem_of_getElem? (i := 7) rfl))) (g := (mkF m 146 #[.val (.int p1), .val (.int p2), .val (.int p3), .val (.int p4), .val (.int p5), .val (.ref b1), .val (.int (2 : Int32)), .val (.int (4 : Int32)), .val (.int (2 : Int32)), .val (.long ((((((c2.toInt64) * (31 : Int64)) + ((c3.toInt64) * (1 : Int64))) + (0 : Int64)) + (0 : Int64)) + (0 : Int64))), .second, .val (.int (((31 : Int32) * ((0 : Int32) + c2)) + c3)), .unset, .unset] [(.long ((((31 : Int32) * ((0 : Int32) + c2)) + c3).toInt64))])) rfl (hb hby at_146)) ?_
      show OE _ p e below s _ _ _ T103 (mkF m 149 #[.val (.int p1), .val (.int p2), .val (.int p3), .val (.int p4), .val (.int p5), .val (.ref b1), .val (.int (2 : Int32)), .val (.int (4 : Int32)), .val (.int (2 : Int32)), .val (.long ((((((c2.toInt64) * (31 : Int64)) + ((c3.toInt64) * (1 : Int64))) + (0 : Int64)) + (0 : Int64)) + (0 : Int64))), .second, .val (.int (((31 : Int32) * ((0 : Int32) + c2)) + c3)), .unset, .unset] [(.long (2654435769 : Int64)), (.long ((((31 : Int32) * ((0 : Int32) + c2)) + c3).toInt64))])
      refine OE.lmul X103 hx hby at_149 ?_
      refine OE.l2i X103 hx hby at_150 ?_
      rw [(own_mul _ : ((((((31 : Int32) * ((0 : Int32) + c2)) + c3).toInt64) * (2654435769 : Int64)).toInt32) = ((((31 : Int32) * ((0 : Int32) + c2)) + c3) * (-1640531527 : Int32)))]
      show OE _ p e below s _ _ _ T103 (mkF m 151 #[.val (.int p1), .val (.int p2), .val (.int p3), .val (.int p4), .val (.int p5), .val (.ref b1), .val (.int (2 : Int32)), .val (.int (4 : Int32)), .val (.int (2 : Int32)), .val (.long ((((((c2.toInt64) * (31 : Int64)) + ((c3.toInt64) * (1 : Int64))) + (0 : Int64)) + (0 : Int64)) + (0 : Int64))), .second, .val (.int (((31 : Int32) * ((0 : Int32) + c2)) + c3)), .unset, .unset] [(.int ((((31 : Int32) * ((0 : Int32) + c2)) + c3) * (-1640531527 : Int32)))])
      refine OE.istore X103 hx hby at_151 (l' := #[.val (.int p1), .val (.int p2), .val (.int p3), .val (.int p4), .val (.int p5), .val (.ref b1), .val (.int (2 : Int32)), .val (.int (4 : Int32)), .val (.int (2 : Int32)), .val (.long ((((((c2.toInt64) * (31 : Int64)) + ((c3.toInt64) * (1 : Int64))) + (0 : Int64)) + (0 : Int64)) + (0 : Int64))), .second, .val (.int (((31 : Int32) * ((0 : Int32) + c2)) + c3)), .val (.int ((((31 : Int32) * ((0 : Int32) + c2)) + c3) * (-1640531527 : Int32))), .unset]) rfl ?_
      refine OE.aload X103 hx hby at_153 rfl rfl ?_
      refine OE.iload X103 hx hby at_155 rfl ?_
      refine OE.iload X103 hx hby at_157 rfl ?_
      obtain ⟨_, _, ⟨T104, L104, k104, n104⟩, -, X104, ⟨Lc104, hQ104, l104, y104, z104⟩, st104⟩ := Jvm.LawKit.callS X103 hx (y := (⟨"com/example/archerfish/archerfish/index/TokenTable", "hash", "([CII)I"⟩ : MethodName)) hown (mvT hZ (hw _ (List.mem_of_getElem? (i := 8) rfl))) (mvT hZ (hw _ (List.mem_of_getElem? (i := 9) rfl))) (mvT hZ (hw _ (List.mem_of_getElem? (i := 10) rfl))) (mvT hZ (hw _ (List.mem_of_getElem? (i := 11) rfl))) (by decide) (backOf (W := 0) (own_rm2_2_2 l Z a0 hw [] b1 c0 c1 c2 c3 c4 k1 h6 n0 z98 Vc) hZ (hw _ (List.mem_of_getElem? (i := 11) rfl)) (hw _ (List.mem_of_getElem? (i := 10) rfl)) (by decide) (by decide)) (g := (mkF m 159 #[.val (.int p1), .val (.int p2), .val (.int p3), .val (.int p4), .val (.int p5), .val (.ref b1), .val (.int (2 : Int32)), .val (.int (4 : Int32)), .val (.int (2 : Int32)), .val (.long ((((((c2.toInt64) * (31 : Int64)) + ((c3.toInt64) * (1 : Int64))) + (0 : Int64)) + (0 : Int64)) + (0 : Int64))), .second, .val (.int (((31 : Int32) * ((0 : Int32) + c2)) + c3)), .val (.int ((((31 : Int32) * ((0 : Int32) + c2)) + c3) * (-1640531527 : Int32))), .unset] [(.int (4 : Int32)), (.int (2 : Int32)), (.ref b1)])) rfl (by rw [hml]; rfl) (argsL := [(.ref b1), (.int (2 : Int32)), (.int (4 : Int32))]) (rest := []) (lenOf own_pd2 rfl) rfl (by show 2 * 0 + _ ≤ _; exact Nat.le_of_eq rfl) (hb hby at_159) (fun _ _ => ⟨rfl, eq103, (by decide : 1 + 0 ≤ _), (by decide : 5 + 0 ≤ _)⟩)
      dsimp only [Pt.U, Pt.locs, Pt.cells, Pt.slots] at X104 l104 y104 z104 st104 hQ104
      subst l104 y104 z104
      obtain ⟨rfl, Nq104, eq104⟩ := hQ104
      refine OE.of (fun _ k => st104 _ k) ?_
      have N104 := Fr.app N103 Nq104
      show OE _ p e below s _ _ _ T104 (mkF m 162 #[.val (.int p1), .val (.int p2), .val (.int p3), .val (.int p4), .val (.int p5), .val (.ref b1), .val (.int (2 : Int32)), .val (.int (4 : Int32)), .val (.int (2 : Int32)), .val (.long ((((((c2.toInt64) * (31 : Int64)) + ((c3.toInt64) * (1 : Int64))) + (0 : Int64)) + (0 : Int64)) + (0 : Int64))), .second, .val (.int (((31 : Int32) * ((0 : Int32) + c2)) + c3)), .val (.int ((((31 : Int32) * ((0 : Int32) + c2)) + c3) * (-1640531527 : Int32))), .unset] [(.int (((((31 : Int32) * ((0 : Int32) + c2)) + c3) * (-1640531527 : Int32)) ^^^ ((((((31 : Int32) * ((0 : Int32) + c2)) + c3) * (-1640531527 : Int32)).toUInt32 >>> ((16 : Int32) &&& 31).toUInt32).toInt32)))])
      refine OE.istore X104 hx hby at_162 (l' := #[.val (.int p1), .val (.int p2), .val (.int p3), .val (.int p4), .val (.int p5), .val (.ref b1), .val (.int (2 : Int32)), .val (.int (4 : Int32)), .val (.int (2 : Int32)), .val (.long ((((((c2.toInt64) * (31 : Int64)) + ((c3.toInt64) * (1 : Int64))) + (0 : Int64)) + (0 : Int64)) + (0 : Int64))), .second, .val (.int (((31 : Int32) * ((0 : Int32) + c2)) + c3)), .val (.int ((((31 : Int32) * ((0 : Int32) + c2)) + c3) * (-1640531527 : Int32))), .val (.int (((((31 : Int32) * ((0 : Int32) + c2)) + c3) * (-1640531527 : Int32)) ^^^ ((((((31 : Int32) * ((0 : Int32) + c2)) + c3) * (-1640531527 : Int32)).toUInt32 >>> ((16 : Int32) &&& 31).toUInt32).toInt32)))]) rfl ?_
      refine OE.iload X104 hx hby at_164 rfl ?_
      refine OE.bipush X104 hx hby at_166 (16 : Int32) rfl ?_
      refine OE.iushr X104 hx hby at_168 ?_
      refine OE.iload X104 hx hby at_169 rfl ?_
      refine OE.bipush X104 hx hby at_171 (16 : Int32) rfl ?_
      refine OE.iushr X104 hx hby at_173 ?_
      refine OE.icmpNo X104 hx hby at_174 (teq (own_top _ : (((((((31 : Int32) * ((0 : Int32) + c2)) + c3) * (-1640531527 : Int32)) ^^^ ((((((31 : Int32) * ((0 : Int32) + c2)) + c3) * (-1640531527 : Int32)).toUInt32 >>> ((16 : Int32) &&& 31).toUInt32).toInt32)).toUInt32 >>> ((16 : Int32) &&& 31).toUInt32).toInt32) = ((((((31 : Int32) * ((0 : Int32) + c2)) + c3) * (-1640531527 : Int32)).toUInt32 >>> ((16 : Int32) &&& 31).toUInt32).toInt32))).2 ?_
      refine OE.iload X104 hx hby at_177 rfl ?_
      refine OE.of (X104.ldcInt hx hown (mvT hZ (hw _ (List.mem_of_getElem? (i := 1) rfl))) (g := (mkF m 179 #[.val (.int p1), .val (.int p2), .val (.int p3), .val (.int p4), .val (.int p5), .val (.ref b1), .val (.int (2 : Int32)), .val (.int (4 : Int32)), .val (.int (2 : Int32)), .val (.long ((((((c2.toInt64) * (31 : Int64)) + ((c3.toInt64) * (1 : Int64))) + (0 : Int64)) + (0 : Int64)) + (0 : Int64))), .second, .val (.int (((31 : Int32) * ((0 : Int32) + c2)) + c3)), .val (.int ((((31 : Int32) * ((0 : Int32) + c2)) + c3) * (-1640531527 : Int32))), .val (.int (((((31 : Int32) * ((0 : Int32) + c2)) + c3) * (-1640531527 : Int32)) ^^^ ((((((31 : Int32) * ((0 : Int32) + c2)) + c3) * (-1640531527 : Int32)).toUInt32 >>> ((16 : Int32) &&& 31).toUInt32).toInt32)))] [(.int (((((31 : Int32) * ((0 : Int32) + c2)) + c3) * (-1640531527 : Int32)) ^^^ ((((((31 : Int32) * ((0 : Int32) + c2)) + c3) * (-1640531527 : Int32)).toUInt32 >>> ((16 : Int32) &&& 31).toUInt32).toInt32)))])) rfl (hb hby at_179)) ?_
      show OE _ p e below s _ _ _ T104 (mkF m 181 #[.val (.int p1), .val (.int p2), .val (.int p3), .val (.int p4), .val (.int p5), .val (.ref b1), .val (.int (2 : Int32)), .val (.int (4 : Int32)), .val (.int (2 : Int32)), .val (.long ((((((c2.toInt64) * (31 : Int64)) + ((c3.toInt64) * (1 : Int64))) + (0 : Int64)) + (0 : Int64)) + (0 : Int64))), .second, .val (.int (((31 : Int32) * ((0 : Int32) + c2)) + c3)), .val (.int ((((31 : Int32) * ((0 : Int32) + c2)) + c3) * (-1640531527 : Int32))), .val (.int (((((31 : Int32) * ((0 : Int32) + c2)) + c3) * (-1640531527 : Int32)) ^^^ ((((((31 : Int32) * ((0 : Int32) + c2)) + c3) * (-1640531527 : Int32)).toUInt32 >>> ((16 : Int32) &&& 31).toUInt32).toInt32)))] [(.int (65535 : Int32)), (.int (((((31 : Int32) * ((0 : Int32) + c2)) + c3) * (-1640531527 : Int32)) ^^^ ((((((31 : Int32) * ((0 : Int32) + c2)) + c3) * (-1640531527 : Int32)).toUInt32 >>> ((16 : Int32) &&& 31).toUInt32).toInt32)))])
      refine OE.iand X104 hx hby at_181 ?_
      refine OE.iload X104 hx hby at_182 rfl ?_
      refine OE.iload X104 hx hby at_184 rfl ?_
      refine OE.bipush X104 hx hby at_186 (16 : Int32) rfl ?_
      refine OE.iushr X104 hx hby at_188 ?_
      refine OE.ixor X104 hx hby at_189 ?_
      refine OE.of (X104.ldcInt hx hown (mvT hZ (hw _ (List.mem_of_getElem? (i := 1) rfl))) (g := (mkF m 190 #[.val (.int p1), .val (.int p2), .val (.int p3), .val (.int p4), .val (.int p5), .val (.ref b1), .val (.int (2 : Int32)), .val (.int (4 : Int32)), .val (.int (2 : Int32)), .val (.long ((((((c2.toInt64) * (31 : Int64)) + ((c3.toInt64) * (1 : Int64))) + (0 : Int64)) + (0 : Int64)) + (0 : Int64))), .second, .val (.int (((31 : Int32) * ((0 : Int32) + c2)) + c3)), .val (.int ((((31 : Int32) * ((0 : Int32) + c2)) + c3) * (-1640531527 : Int32))), .val (.int (((((31 : Int32) * ((0 : Int32) + c2)) + c3) * (-1640531527 : Int32)) ^^^ ((((((31 : Int32) * ((0 : Int32) + c2)) + c3) * (-1640531527 : Int32)).toUInt32 >>> ((16 : Int32) &&& 31).toUInt32).toInt32)))] [(.int (((((31 : Int32) * ((0 : Int32) + c2)) + c3) * (-1640531527 : Int32)) ^^^ ((((((31 : Int32) * ((0 : Int32) + c2)) + c3) * (-1640531527 : Int32)).toUInt32 >>> ((16 : Int32) &&& 31).toUInt32).toInt32))), (.int ((((((31 : Int32) * ((0 : Int32) + c2)) + c3) * (-1640531527 : Int32)) ^^^ ((((((31 : Int32) * ((0 : Int32) + c2)) + c3) * (-1640531527 : Int32)).toUInt32 >>> ((16 : Int32) &&& 31).toUInt32).toInt32)) &&& (65535 : Int32)))])) rfl (hb hby at_190)) ?_
      show OE _ p e below s _ _ _ T104 (mkF m 192 #[.val (.int p1), .val (.int p2), .val (.int p3), .val (.int p4), .val (.int p5), .val (.ref b1), .val (.int (2 : Int32)), .val (.int (4 : Int32)), .val (.int (2 : Int32)), .val (.long ((((((c2.toInt64) * (31 : Int64)) + ((c3.toInt64) * (1 : Int64))) + (0 : Int64)) + (0 : Int64)) + (0 : Int64))), .second, .val (.int (((31 : Int32) * ((0 : Int32) + c2)) + c3)), .val (.int ((((31 : Int32) * ((0 : Int32) + c2)) + c3) * (-1640531527 : Int32))), .val (.int (((((31 : Int32) * ((0 : Int32) + c2)) + c3) * (-1640531527 : Int32)) ^^^ ((((((31 : Int32) * ((0 : Int32) + c2)) + c3) * (-1640531527 : Int32)).toUInt32 >>> ((16 : Int32) &&& 31).toUInt32).toInt32)))] [(.int (65535 : Int32)), (.int (((((31 : Int32) * ((0 : Int32) + c2)) + c3) * (-1640531527 : Int32)) ^^^ ((((((31 : Int32) * ((0 : Int32) + c2)) + c3) * (-1640531527 : Int32)).toUInt32 >>> ((16 : Int32) &&& 31).toUInt32).toInt32))), (.int ((((((31 : Int32) * ((0 : Int32) + c2)) + c3) * (-1640531527 : Int32)) ^^^ ((((((31 : Int32) * ((0 : Int32) + c2)) + c3) * (-1640531527 : Int32)).toUInt32 >>> ((16 : Int32) &&& 31).toUInt32).toInt32)) &&& (65535 : Int32)))])
      refine OE.iand X104 hx hby at_192 ?_
      refine OE.icmpNo X104 hx hby at_193 (teq (rfl : ((((((31 : Int32) * ((0 : Int32) + c2)) + c3) * (-1640531527 : Int32)) ^^^ ((((((31 : Int32) * ((0 : Int32) + c2)) + c3) * (-1640531527 : Int32)).toUInt32 >>> ((16 : Int32) &&& 31).toUInt32).toInt32)) &&& (65535 : Int32)) = ((((((31 : Int32) * ((0 : Int32) + c2)) + c3) * (-1640531527 : Int32)) ^^^ ((((((31 : Int32) * ((0 : Int32) + c2)) + c3) * (-1640531527 : Int32)).toUInt32 >>> ((16 : Int32) &&& 31).toUInt32).toInt32)) &&& (65535 : Int32)))).2 ?_
      refine OE.iconst X104 hx hby at_196 (1 : Int32) rfl ?_
      refine OE.goto X104 hx hby (pc' := 201) at_197 (h := ?_)
      refine OE.retN X104 hx (t := .boolean) Bd.returns (by simp) Bd.notSynchronized (hb hby at_201) (by decide) (by decide) ?_
      rw [eq104]
      exact ⟨rfl, N104⟩
    · rw [hm]
      show OE _ p e below s _ _ _ T6 (mkF m 72 #[.val (.int p1), .val (.int p2), .val (.int p3), .val (.int p4), .val (.int p5), .val (.ref b1), .val (.int (2 : Int32)), .unset, .unset, .unset, .unset, .unset, .unset, .unset] [(.int (3 : Int32)), (.int (2 : Int32))])
      refine OE.iadd X6 hx hby at_72 ?_
      rw [(by decide : ((2 : Int32) + (3 : Int32)) = (5 : Int32))]
      refine OE.istore X6 hx hby at_73 (l' := #[.val (.int p1), .val (.int p2), .val (.int p3), .val (.int p4), .val (.int p5), .val (.ref b1), .val (.int (2 : Int32)), .val (.int (5 : Int32)), .unset, .unset, .unset, .unset, .unset, .unset]) rfl ?_
      refine OE.iload X6 hx hby at_75 rfl ?_
      refine OE.iload X6 hx hby at_77 rfl ?_
      refine OE.isub X6 hx hby at_79 ?_
      rw [(by decide : ((5 : Int32) - (2 : Int32)) = (3 : Int32))]
      refine OE.istore X6 hx hby at_80 (l' := #[.val (.int p1), .val (.int p2), .val (.int p3), .val (.int p4), .val (.int p5), .val (.ref b1), .val (.int (2 : Int32)), .val (.int (5 : Int32)), .val (.int (3 : Int32)), .unset, .unset, .unset, .unset, .unset]) rfl ?_
      refine OE.aload X6 hx hby at_82 rfl rfl ?_
      refine OE.iload X6 hx hby at_84 rfl ?_
      refine OE.iload X6 hx hby at_86 rfl ?_
      refine OE.iconst X6 hx hby at_88 (0 : Int32) rfl ?_
      have z105 : n0 ≤ h6.size := (Nat.le_trans (Nat.le_trans (Nat.le_trans (Nat.le_trans (Nat.le_trans (Nat.le_trans Z0 E1.1) (Nat.le_of_eq W2.size.symm)) (Nat.le_of_eq W3.size.symm)) (Nat.le_of_eq W4.size.symm)) (Nat.le_of_eq W5.size.symm)) (Nat.le_of_eq W6.size.symm))
      obtain ⟨_, _, ⟨T106, L106, k106, n106⟩, -, X106, ⟨Lc106, hQ106, l106, y106, z106⟩, st106⟩ := Jvm.LawKit.callS X6 hx (y := (⟨"com/example/archerfish/archerfish/index/TokenTableHashPinLaw", "term", "([CIII)J"⟩ : MethodName)) hown (mvT hZ (hw _ (List.mem_of_getElem? (i := 3) rfl))) (mvT hZ (hw _ (List.mem_of_getElem? (i := 4) rfl))) (mvT hZ (hw _ (List.mem_of_getElem? (i := 5) rfl))) (mvT hZ (hw _ (List.mem_of_getElem? (i := 6) rfl))) (by decide) (backOf (W := 0) (own_rm1_3_0 l Z a0 hw [] b1 (2 : Int32) c2 k1 [(.int c0), (.int c1), (.int c2), (.int c3), (.int c4)] h6 n0 z105 Vc ⟨by decide, by decide⟩ rfl) hZ (hw _ (List.mem_of_getElem? (i := 6) rfl)) (hw _ (List.mem_of_getElem? (i := 5) rfl)) (by decide) (by decide)) (g := (mkF m 89 #[.val (.int p1), .val (.int p2), .val (.int p3), .val (.int p4), .val (.int p5), .val (.ref b1), .val (.int (2 : Int32)), .val (.int (5 : Int32)), .val (.int (3 : Int32)), .unset, .unset, .unset, .unset, .unset] [(.int (0 : Int32)), (.int (3 : Int32)), (.int (2 : Int32)), (.ref b1)])) rfl (by rw [hml]; rfl) (argsL := [(.ref b1), (.int (2 : Int32)), (.int (3 : Int32)), (.int (0 : Int32))]) (rest := []) (lenOf own_pd1 rfl) rfl (by show 2 * 0 + _ ≤ _; exact Nat.le_of_eq rfl) (hb hby at_89) (fun _ _ => ⟨rfl, e6, (by decide : 1 + 0 ≤ _), (by decide : 5 + 0 ≤ _)⟩)
      dsimp only [Pt.U, Pt.locs, Pt.cells, Pt.slots] at X106 l106 y106 z106 st106 hQ106
      subst l106 y106 z106
      obtain ⟨rfl, Nq106, eq106⟩ := hQ106
      refine OE.of (fun _ k => st106 _ k) ?_
      have N106 := Fr.app N6 Nq106
      show OE _ p e below s _ _ _ T106 (mkF m 92 #[.val (.int p1), .val (.int p2), .val (.int p3), .val (.int p4), .val (.int p5), .val (.ref b1), .val (.int (2 : Int32)), .val (.int (5 : Int32)), .val (.int (3 : Int32)), .unset, .unset, .unset, .unset, .unset] [(.long ((c2.toInt64) * (961 : Int64)))])
      refine OE.aload X106 hx hby at_92 rfl rfl ?_
      refine OE.iload X106 hx hby at_94 rfl ?_
      refine OE.iload X106 hx hby at_96 rfl ?_
      refine OE.iconst X106 hx hby at_98 (1 : Int32) rfl ?_
      obtain ⟨_, _, ⟨T107, L107, k107, n107⟩, -, X107, ⟨Lc107, hQ107, l107, y107, z107⟩, st107⟩ := Jvm.LawKit.callS X106 hx (y := (⟨"com/example/archerfish/archerfish/index/TokenTableHashPinLaw", "term", "([CIII)J"⟩ : MethodName)) hown (mvT hZ (hw _ (List.mem_of_getElem? (i := 3) rfl))) (mvT hZ (hw _ (List.mem_of_getElem? (i := 4) rfl))) (mvT hZ (hw _ (List.mem_of_getElem? (i := 5) rfl))) (mvT hZ (hw _ (List.mem_of_getElem? (i := 6) rfl))) (by decide) (backOf (W := 2) (own_rm1_3_1 l Z a0 hw [] b1 (2 : Int32) c3 k1 [(.int c0), (.int c1), (.int c2), (.int c3), (.int c4)] h6 n0 z105 Vc ⟨by decide, by decide⟩ rfl) hZ (hw _ (List.mem_of_getElem? (i := 6) rfl)) (hw _ (List.mem_of_getElem? (i := 5) rfl)) (by decide) (by decide)) (g := (mkF m 99 #[.val (.int p1), .val (.int p2), .val (.int p3), .val (.int p4), .val (.int p5), .val (.ref b1), .val (.int (2 : Int32)), .val (.int (5 : Int32)), .val (.int (3 : Int32)), .unset, .unset, .unset, .unset, .unset] [(.int (1 : Int32)), (.int (3 : Int32)), (.int (2 : Int32)), (.ref b1), (.long ((c2.toInt64) * (961 : Int64)))])) rfl (by rw [hml]; rfl) (argsL := [(.ref b1), (.int (2 : Int32)), (.int (3 : Int32)), (.int (1 : Int32))]) (rest := [(.long ((c2.toInt64) * (961 : Int64)))]) (lenOf own_pd1 rfl) rfl (by show 2 * 0 + _ ≤ _; exact Nat.le_of_eq rfl) (hb hby at_99) (fun _ _ => ⟨rfl, eq106, (by decide : 1 + 0 ≤ _), (by decide : 5 + 0 ≤ _)⟩)
      dsimp only [Pt.U, Pt.locs, Pt.cells, Pt.slots] at X107 l107 y107 z107 st107 hQ107
      subst l107 y107 z107
      obtain ⟨rfl, Nq107, eq107⟩ := hQ107
      refine OE.of (fun _ k => st107 _ k) ?_
      have N107 := Fr.app N106 Nq107
      show OE _ p e below s _ _ _ T107 (mkF m 102 #[.val (.int p1), .val (.int p2), .val (.int p3), .val (.int p4), .val (.int p5), .val (.ref b1), .val (.int (2 : Int32)), .val (.int (5 : Int32)), .val (.int (3 : Int32)), .unset, .unset, .unset, .unset, .unset] [(.long ((c3.toInt64) * (31 : Int64))), (.long ((c2.toInt64) * (961 : Int64)))])
      refine OE.ladd X107 hx hby at_102 ?_
      refine OE.aload X107 hx hby at_103 rfl rfl ?_
      refine OE.iload X107 hx hby at_105 rfl ?_
      refine OE.iload X107 hx hby at_107 rfl ?_
      refine OE.iconst X107 hx hby at_109 (2 : Int32) rfl ?_
      obtain ⟨_, _, ⟨T108, L108, k108, n108⟩, -, X108, ⟨Lc108, hQ108, l108, y108, z108⟩, st108⟩ := Jvm.LawKit.callS X107 hx (y := (⟨"com/example/archerfish/archerfish/index/TokenTableHashPinLaw", "term", "([CIII)J"⟩ : MethodName)) hown (mvT hZ (hw _ (List.mem_of_getElem? (i := 3) rfl))) (mvT hZ (hw _ (List.mem_of_getElem? (i := 4) rfl))) (mvT hZ (hw _ (List.mem_of_getElem? (i := 5) rfl))) (mvT hZ (hw _ (List.mem_of_getElem? (i := 6) rfl))) (by decide) (backOf (W := 2) (own_rm1_3_2 l Z a0 hw [] b1 (2 : Int32) c4 k1 [(.int c0), (.int c1), (.int c2), (.int c3), (.int c4)] h6 n0 z105 Vc ⟨by decide, by decide⟩ rfl) hZ (hw _ (List.mem_of_getElem? (i := 6) rfl)) (hw _ (List.mem_of_getElem? (i := 5) rfl)) (by decide) (by decide)) (g := (mkF m 110 #[.val (.int p1), .val (.int p2), .val (.int p3), .val (.int p4), .val (.int p5), .val (.ref b1), .val (.int (2 : Int32)), .val (.int (5 : Int32)), .val (.int (3 : Int32)), .unset, .unset, .unset, .unset, .unset] [(.int (2 : Int32)), (.int (3 : Int32)), (.int (2 : Int32)), (.ref b1), (.long (((c2.toInt64) * (961 : Int64)) + ((c3.toInt64) * (31 : Int64))))])) rfl (by rw [hml]; rfl) (argsL := [(.ref b1), (.int (2 : Int32)), (.int (3 : Int32)), (.int (2 : Int32))]) (rest := [(.long (((c2.toInt64) * (961 : Int64)) + ((c3.toInt64) * (31 : Int64))))]) (lenOf own_pd1 rfl) rfl (by show 2 * 0 + _ ≤ _; exact Nat.le_of_eq rfl) (hb hby at_110) (fun _ _ => ⟨rfl, eq107, (by decide : 1 + 0 ≤ _), (by decide : 5 + 0 ≤ _)⟩)
      dsimp only [Pt.U, Pt.locs, Pt.cells, Pt.slots] at X108 l108 y108 z108 st108 hQ108
      subst l108 y108 z108
      obtain ⟨rfl, Nq108, eq108⟩ := hQ108
      refine OE.of (fun _ k => st108 _ k) ?_
      have N108 := Fr.app N107 Nq108
      show OE _ p e below s _ _ _ T108 (mkF m 113 #[.val (.int p1), .val (.int p2), .val (.int p3), .val (.int p4), .val (.int p5), .val (.ref b1), .val (.int (2 : Int32)), .val (.int (5 : Int32)), .val (.int (3 : Int32)), .unset, .unset, .unset, .unset, .unset] [(.long ((c4.toInt64) * (1 : Int64))), (.long (((c2.toInt64) * (961 : Int64)) + ((c3.toInt64) * (31 : Int64))))])
      refine OE.ladd X108 hx hby at_113 ?_
      refine OE.aload X108 hx hby at_114 rfl rfl ?_
      refine OE.iload X108 hx hby at_116 rfl ?_
      refine OE.iload X108 hx hby at_118 rfl ?_
      refine OE.iconst X108 hx hby at_120 (3 : Int32) rfl ?_
      obtain ⟨_, _, ⟨T109, L109, k109, n109⟩, -, X109, ⟨Lc109, hQ109, l109, y109, z109⟩, st109⟩ := Jvm.LawKit.callS X108 hx (y := (⟨"com/example/archerfish/archerfish/index/TokenTableHashPinLaw", "term", "([CIII)J"⟩ : MethodName)) hown (mvT hZ (hw _ (List.mem_of_getElem? (i := 3) rfl))) (mvT hZ (hw _ (List.mem_of_getElem? (i := 4) rfl))) (mvT hZ (hw _ (List.mem_of_getElem? (i := 5) rfl))) (mvT hZ (hw _ (List.mem_of_getElem? (i := 6) rfl))) (by decide) (backOf (W := 2) (own_rm1_o l Z a0 hw [] b1 (2 : Int32) (3 : Int32) (3 : Int32) h6 n0 z105 (by decide)) hZ (hw _ (List.mem_of_getElem? (i := 6) rfl)) (hw _ (List.mem_of_getElem? (i := 5) rfl)) (by decide) (by decide)) (g := (mkF m 121 #[.val (.int p1), .val (.int p2), .val (.int p3), .val (.int p4), .val (.int p5), .val (.ref b1), .val (.int (2 : Int32)), .val (.int (5 : Int32)), .val (.int (3 : Int32)), .unset, .unset, .unset, .unset, .unset] [(.int (3 : Int32)), (.int (3 : Int32)), (.int (2 : Int32)), (.ref b1), (.long ((((c2.toInt64) * (961 : Int64)) + ((c3.toInt64) * (31 : Int64))) + ((c4.toInt64) * (1 : Int64))))])) rfl (by rw [hml]; rfl) (argsL := [(.ref b1), (.int (2 : Int32)), (.int (3 : Int32)), (.int (3 : Int32))]) (rest := [(.long ((((c2.toInt64) * (961 : Int64)) + ((c3.toInt64) * (31 : Int64))) + ((c4.toInt64) * (1 : Int64))))]) (lenOf own_pd1 rfl) rfl (by show 2 * 0 + _ ≤ _; exact Nat.le_of_eq rfl) (hb hby at_121) (fun _ _ => ⟨rfl, eq108, (by decide : 1 + 0 ≤ _), (by decide : 5 + 0 ≤ _)⟩)
      dsimp only [Pt.U, Pt.locs, Pt.cells, Pt.slots] at X109 l109 y109 z109 st109 hQ109
      subst l109 y109 z109
      obtain ⟨rfl, Nq109, eq109⟩ := hQ109
      refine OE.of (fun _ k => st109 _ k) ?_
      have N109 := Fr.app N108 Nq109
      show OE _ p e below s _ _ _ T109 (mkF m 124 #[.val (.int p1), .val (.int p2), .val (.int p3), .val (.int p4), .val (.int p5), .val (.ref b1), .val (.int (2 : Int32)), .val (.int (5 : Int32)), .val (.int (3 : Int32)), .unset, .unset, .unset, .unset, .unset] [(.long (0 : Int64)), (.long ((((c2.toInt64) * (961 : Int64)) + ((c3.toInt64) * (31 : Int64))) + ((c4.toInt64) * (1 : Int64))))])
      refine OE.ladd X109 hx hby at_124 ?_
      refine OE.aload X109 hx hby at_125 rfl rfl ?_
      refine OE.iload X109 hx hby at_127 rfl ?_
      refine OE.iload X109 hx hby at_129 rfl ?_
      refine OE.iconst X109 hx hby at_131 (4 : Int32) rfl ?_
      obtain ⟨_, _, ⟨T110, L110, k110, n110⟩, -, X110, ⟨Lc110, hQ110, l110, y110, z110⟩, st110⟩ := Jvm.LawKit.callS X109 hx (y := (⟨"com/example/archerfish/archerfish/index/TokenTableHashPinLaw", "term", "([CIII)J"⟩ : MethodName)) hown (mvT hZ (hw _ (List.mem_of_getElem? (i := 3) rfl))) (mvT hZ (hw _ (List.mem_of_getElem? (i := 4) rfl))) (mvT hZ (hw _ (List.mem_of_getElem? (i := 5) rfl))) (mvT hZ (hw _ (List.mem_of_getElem? (i := 6) rfl))) (by decide) (backOf (W := 2) (own_rm1_o l Z a0 hw [] b1 (2 : Int32) (3 : Int32) (4 : Int32) h6 n0 z105 (by decide)) hZ (hw _ (List.mem_of_getElem? (i := 6) rfl)) (hw _ (List.mem_of_getElem? (i := 5) rfl)) (by decide) (by decide)) (g := (mkF m 132 #[.val (.int p1), .val (.int p2), .val (.int p3), .val (.int p4), .val (.int p5), .val (.ref b1), .val (.int (2 : Int32)), .val (.int (5 : Int32)), .val (.int (3 : Int32)), .unset, .unset, .unset, .unset, .unset] [(.int (4 : Int32)), (.int (3 : Int32)), (.int (2 : Int32)), (.ref b1), (.long (((((c2.toInt64) * (961 : Int64)) + ((c3.toInt64) * (31 : Int64))) + ((c4.toInt64) * (1 : Int64))) + (0 : Int64)))])) rfl (by rw [hml]; rfl) (argsL := [(.ref b1), (.int (2 : Int32)), (.int (3 : Int32)), (.int (4 : Int32))]) (rest := [(.long (((((c2.toInt64) * (961 : Int64)) + ((c3.toInt64) * (31 : Int64))) + ((c4.toInt64) * (1 : Int64))) + (0 : Int64)))]) (lenOf own_pd1 rfl) rfl (by show 2 * 0 + _ ≤ _; exact Nat.le_of_eq rfl) (hb hby at_132) (fun _ _ => ⟨rfl, eq109, (by decide : 1 + 0 ≤ _), (by decide : 5 + 0 ≤ _)⟩)
      dsimp only [Pt.U, Pt.locs, Pt.cells, Pt.slots] at X110 l110 y110 z110 st110 hQ110
      subst l110 y110 z110
      obtain ⟨rfl, Nq110, eq110⟩ := hQ110
      refine OE.of (fun _ k => st110 _ k) ?_
      have N110 := Fr.app N109 Nq110
      show OE _ p e below s _ _ _ T110 (mkF m 135 #[.val (.int p1), .val (.int p2), .val (.int p3), .val (.int p4), .val (.int p5), .val (.ref b1), .val (.int (2 : Int32)), .val (.int (5 : Int32)), .val (.int (3 : Int32)), .unset, .unset, .unset, .unset, .unset] [(.long (0 : Int64)), (.long (((((c2.toInt64) * (961 : Int64)) + ((c3.toInt64) * (31 : Int64))) + ((c4.toInt64) * (1 : Int64))) + (0 : Int64)))])
      refine OE.ladd X110 hx hby at_135 ?_
      refine OE.lstore X110 hx hby at_136 (l' := #[.val (.int p1), .val (.int p2), .val (.int p3), .val (.int p4), .val (.int p5), .val (.ref b1), .val (.int (2 : Int32)), .val (.int (5 : Int32)), .val (.int (3 : Int32)), .val (.long ((((((c2.toInt64) * (961 : Int64)) + ((c3.toInt64) * (31 : Int64))) + ((c4.toInt64) * (1 : Int64))) + (0 : Int64)) + (0 : Int64))), .second, .unset, .unset, .unset]) rfl ?_
      refine OE.lload X110 hx hby at_138 rfl ?_
      refine OE.l2i X110 hx hby at_140 ?_
      rw [(own_poly3 c2 c3 c4 : (((((((c2.toInt64) * (961 : Int64)) + ((c3.toInt64) * (31 : Int64))) + ((c4.toInt64) * (1 : Int64))) + (0 : Int64)) + (0 : Int64)).toInt32) = (((31 : Int32) * (((31 : Int32) * ((0 : Int32) + c2)) + c3)) + c4))]
      show OE _ p e below s _ _ _ T110 (mkF m 141 #[.val (.int p1), .val (.int p2), .val (.int p3), .val (.int p4), .val (.int p5), .val (.ref b1), .val (.int (2 : Int32)), .val (.int (5 : Int32)), .val (.int (3 : Int32)), .val (.long ((((((c2.toInt64) * (961 : Int64)) + ((c3.toInt64) * (31 : Int64))) + ((c4.toInt64) * (1 : Int64))) + (0 : Int64)) + (0 : Int64))), .second, .unset, .unset, .unset] [(.int (((31 : Int32) * (((31 : Int32) * ((0 : Int32) + c2)) + c3)) + c4))])
      refine OE.istore X110 hx hby at_141 (l' := #[.val (.int p1), .val (.int p2), .val (.int p3), .val (.int p4), .val (.int p5), .val (.ref b1), .val (.int (2 : Int32)), .val (.int (5 : Int32)), .val (.int (3 : Int32)), .val (.long ((((((c2.toInt64) * (961 : Int64)) + ((c3.toInt64) * (31 : Int64))) + ((c4.toInt64) * (1 : Int64))) + (0 : Int64)) + (0 : Int64))), .second, .val (.int (((31 : Int32) * (((31 : Int32) * ((0 : Int32) + c2)) + c3)) + c4)), .unset, .unset]) rfl ?_
      refine OE.iload X110 hx hby at_143 rfl ?_
      refine OE.i2l X110 hx hby at_145 ?_
      refine OE.of (X110.ldc2Long hx hown (mvT hZ (hw _ (List.mem_of_getElem? (i := 7) rfl))) (g := (mkF m 146 #[.val (.int p1), .val (.int p2), .val (.int p3), .val (.int p4), .val (.int p5), .val (.ref b1), .val (.int (2 : Int32)), .val (.int (5 : Int32)), .val (.int (3 : Int32)), .val (.long ((((((c2.toInt64) * (961 : Int64)) + ((c3.toInt64) * (31 : Int64))) + ((c4.toInt64) * (1 : Int64))) + (0 : Int64)) + (0 : Int64))), .second, .val (.int (((31 : Int32) * (((31 : Int32) * ((0 : Int32) + c2)) + c3)) + c4)), .unset, .unset] [(.long ((((31 : Int32) * (((31 : Int32) * ((0 : Int32) + c2)) + c3)) + c4).toInt64))])) rfl (hb hby at_146)) ?_
      show OE _ p e below s _ _ _ T110 (mkF m 149 #[.val (.int p1), .val (.int p2), .val (.int p3), .val (.int p4), .val (.int p5), .val (.ref b1), .val (.int (2 : Int32)), .val (.int (5 : Int32)), .val (.int (3 : Int32)), .val (.long ((((((c2.toInt64) * (961 : Int64)) + ((c3.toInt64) * (31 : Int64))) + ((c4.toInt64) * (1 : Int64))) + (0 : Int64)) + (0 : Int64))), .second, .val (.int (((31 : Int32) * (((31 : Int32) * ((0 : Int32) + c2)) + c3)) + c4)), .unset, .unset] [(.long (2654435769 : Int64)), (.long ((((31 : Int32) * (((31 : Int32) * ((0 : Int32) + c2)) + c3)) + c4).toInt64))])
      refine OE.lmul X110 hx hby at_149 ?_
      refine OE.l2i X110 hx hby at_150 ?_
      rw [(own_mul _ : ((((((31 : Int32) * (((31 : Int32) * ((0 : Int32) + c2)) + c3)) + c4).toInt64) * (2654435769 : Int64)).toInt32) = ((((31 : Int32) * (((31 : Int32) * ((0 : Int32) + c2)) + c3)) + c4) * (-1640531527 : Int32)))]
      show OE _ p e below s _ _ _ T110 (mkF m 151 #[.val (.int p1), .val (.int p2), .val (.int p3), .val (.int p4), .val (.int p5), .val (.ref b1), .val (.int (2 : Int32)), .val (.int (5 : Int32)), .val (.int (3 : Int32)), .val (.long ((((((c2.toInt64) * (961 : Int64)) + ((c3.toInt64) * (31 : Int64))) + ((c4.toInt64) * (1 : Int64))) + (0 : Int64)) + (0 : Int64))), .second, .val (.int (((31 : Int32) * (((31 : Int32) * ((0 : Int32) + c2)) + c3)) + c4)), .unset, .unset] [(.int ((((31 : Int32) * (((31 : Int32) * ((0 : Int32) + c2)) + c3)) + c4) * (-1640531527 : Int32)))])
      refine OE.istore X110 hx hby at_151 (l' := #[.val (.int p1), .val (.int p2), .val (.int p3), .val (.int p4), .val (.int p5), .val (.ref b1), .val (.int (2 : Int32)), .val (.int (5 : Int32)), .val (.int (3 : Int32)), .val (.long ((((((c2.toInt64) * (961 : Int64)) + ((c3.toInt64) * (31 : Int64))) + ((c4.toInt64) * (1 : Int64))) + (0 : Int64)) + (0 : Int64))), .second, .val (.int (((31 : Int32) * (((31 : Int32) * ((0 : Int32) + c2)) + c3)) + c4)), .val (.int ((((31 : Int32) * (((31 : Int32) * ((0 : Int32) + c2)) + c3)) + c4) * (-1640531527 : Int32))), .unset]) rfl ?_
      refine OE.aload X110 hx hby at_153 rfl rfl ?_
      refine OE.iload X110 hx hby at_155 rfl ?_
      refine OE.iload X110 hx hby at_157 rfl ?_
      obtain ⟨_, _, ⟨T111, L111, k111, n111⟩, -, X111, ⟨Lc111, hQ111, l111, y111, z111⟩, st111⟩ := Jvm.LawKit.callS X110 hx (y := (⟨"com/example/archerfish/archerfish/index/TokenTable", "hash", "([CII)I"⟩ : MethodName)) hown (mvT hZ (hw _ (List.mem_of_getElem? (i := 8) rfl))) (mvT hZ (hw _ (List.mem_of_getElem? (i := 9) rfl))) (mvT hZ (hw _ (List.mem_of_getElem? (i := 10) rfl))) (mvT hZ (hw _ (List.mem_of_getElem? (i := 11) rfl))) (by decide) (backOf (W := 0) (own_rm2_2_3 l Z a0 hw [] b1 c0 c1 c2 c3 c4 k1 h6 n0 z105 Vc) hZ (hw _ (List.mem_of_getElem? (i := 11) rfl)) (hw _ (List.mem_of_getElem? (i := 10) rfl)) (by decide) (by decide)) (g := (mkF m 159 #[.val (.int p1), .val (.int p2), .val (.int p3), .val (.int p4), .val (.int p5), .val (.ref b1), .val (.int (2 : Int32)), .val (.int (5 : Int32)), .val (.int (3 : Int32)), .val (.long ((((((c2.toInt64) * (961 : Int64)) + ((c3.toInt64) * (31 : Int64))) + ((c4.toInt64) * (1 : Int64))) + (0 : Int64)) + (0 : Int64))), .second, .val (.int (((31 : Int32) * (((31 : Int32) * ((0 : Int32) + c2)) + c3)) + c4)), .val (.int ((((31 : Int32) * (((31 : Int32) * ((0 : Int32) + c2)) + c3)) + c4) * (-1640531527 : Int32))), .unset] [(.int (5 : Int32)), (.int (2 : Int32)), (.ref b1)])) rfl (by rw [hml]; rfl) (argsL := [(.ref b1), (.int (2 : Int32)), (.int (5 : Int32))]) (rest := []) (lenOf own_pd2 rfl) rfl (by show 2 * 0 + _ ≤ _; exact Nat.le_of_eq rfl) (hb hby at_159) (fun _ _ => ⟨rfl, eq110, (by decide : 1 + 0 ≤ _), (by decide : 5 + 0 ≤ _)⟩)
      dsimp only [Pt.U, Pt.locs, Pt.cells, Pt.slots] at X111 l111 y111 z111 st111 hQ111
      subst l111 y111 z111
      obtain ⟨rfl, Nq111, eq111⟩ := hQ111
      refine OE.of (fun _ k => st111 _ k) ?_
      have N111 := Fr.app N110 Nq111
      show OE _ p e below s _ _ _ T111 (mkF m 162 #[.val (.int p1), .val (.int p2), .val (.int p3), .val (.int p4), .val (.int p5), .val (.ref b1), .val (.int (2 : Int32)), .val (.int (5 : Int32)), .val (.int (3 : Int32)), .val (.long ((((((c2.toInt64) * (961 : Int64)) + ((c3.toInt64) * (31 : Int64))) + ((c4.toInt64) * (1 : Int64))) + (0 : Int64)) + (0 : Int64))), .second, .val (.int (((31 : Int32) * (((31 : Int32) * ((0 : Int32) + c2)) + c3)) + c4)), .val (.int ((((31 : Int32) * (((31 : Int32) * ((0 : Int32) + c2)) + c3)) + c4) * (-1640531527 : Int32))), .unset] [(.int (((((31 : Int32) * (((31 : Int32) * ((0 : Int32) + c2)) + c3)) + c4) * (-1640531527 : Int32)) ^^^ ((((((31 : Int32) * (((31 : Int32) * ((0 : Int32) + c2)) + c3)) + c4) * (-1640531527 : Int32)).toUInt32 >>> ((16 : Int32) &&& 31).toUInt32).toInt32)))])
      refine OE.istore X111 hx hby at_162 (l' := #[.val (.int p1), .val (.int p2), .val (.int p3), .val (.int p4), .val (.int p5), .val (.ref b1), .val (.int (2 : Int32)), .val (.int (5 : Int32)), .val (.int (3 : Int32)), .val (.long ((((((c2.toInt64) * (961 : Int64)) + ((c3.toInt64) * (31 : Int64))) + ((c4.toInt64) * (1 : Int64))) + (0 : Int64)) + (0 : Int64))), .second, .val (.int (((31 : Int32) * (((31 : Int32) * ((0 : Int32) + c2)) + c3)) + c4)), .val (.int ((((31 : Int32) * (((31 : Int32) * ((0 : Int32) + c2)) + c3)) + c4) * (-1640531527 : Int32))), .val (.int (((((31 : Int32) * (((31 : Int32) * ((0 : Int32) + c2)) + c3)) + c4) * (-1640531527 : Int32)) ^^^ ((((((31 : Int32) * (((31 : Int32) * ((0 : Int32) + c2)) + c3)) + c4) * (-1640531527 : Int32)).toUInt32 >>> ((16 : Int32) &&& 31).toUInt32).toInt32)))]) rfl ?_
      refine OE.iload X111 hx hby at_164 rfl ?_
      refine OE.bipush X111 hx hby at_166 (16 : Int32) rfl ?_
      refine OE.iushr X111 hx hby at_168 ?_
      refine OE.iload X111 hx hby at_169 rfl ?_
      refine OE.bipush X111 hx hby at_171 (16 : Int32) rfl ?_
      refine OE.iushr X111 hx hby at_173 ?_
      refine OE.icmpNo X111 hx hby at_174 (teq (own_top _ : (((((((31 : Int32) * (((31 : Int32) * ((0 : Int32) + c2)) + c3)) + c4) * (-1640531527 : Int32)) ^^^ ((((((31 : Int32) * (((31 : Int32) * ((0 : Int32) + c2)) + c3)) + c4) * (-1640531527 : Int32)).toUInt32 >>> ((16 : Int32) &&& 31).toUInt32).toInt32)).toUInt32 >>> ((16 : Int32) &&& 31).toUInt32).toInt32) = ((((((31 : Int32) * (((31 : Int32) * ((0 : Int32) + c2)) + c3)) + c4) * (-1640531527 : Int32)).toUInt32 >>> ((16 : Int32) &&& 31).toUInt32).toInt32))).2 ?_
      refine OE.iload X111 hx hby at_177 rfl ?_
      refine OE.of (X111.ldcInt hx hown (mvT hZ (hw _ (List.mem_of_getElem? (i := 1) rfl))) (g := (mkF m 179 #[.val (.int p1), .val (.int p2), .val (.int p3), .val (.int p4), .val (.int p5), .val (.ref b1), .val (.int (2 : Int32)), .val (.int (5 : Int32)), .val (.int (3 : Int32)), .val (.long ((((((c2.toInt64) * (961 : Int64)) + ((c3.toInt64) * (31 : Int64))) + ((c4.toInt64) * (1 : Int64))) + (0 : Int64)) + (0 : Int64))), .second, .val (.int (((31 : Int32) * (((31 : Int32) * ((0 : Int32) + c2)) + c3)) + c4)), .val (.int ((((31 : Int32) * (((31 : Int32) * ((0 : Int32) + c2)) + c3)) + c4) * (-1640531527 : Int32))), .val (.int (((((31 : Int32) * (((31 : Int32) * ((0 : Int32) + c2)) + c3)) + c4) * (-1640531527 : Int32)) ^^^ ((((((31 : Int32) * (((31 : Int32) * ((0 : Int32) + c2)) + c3)) + c4) * (-1640531527 : Int32)).toUInt32 >>> ((16 : Int32) &&& 31).toUInt32).toInt32)))] [(.int (((((31 : Int32) * (((31 : Int32) * ((0 : Int32) + c2)) + c3)) + c4) * (-1640531527 : Int32)) ^^^ ((((((31 : Int32) * (((31 : Int32) * ((0 : Int32) + c2)) + c3)) + c4) * (-1640531527 : Int32)).toUInt32 >>> ((16 : Int32) &&& 31).toUInt32).toInt32)))])) rfl (hb hby at_179)) ?_
      show OE _ p e below s _ _ _ T111 (mkF m 181 #[.val (.int p1), .val (.int p2), .val (.int p3), .val (.int p4), .val (.int p5), .val (.ref b1), .val (.int (2 : Int32)), .val (.int (5 : Int32)), .val (.int (3 : Int32)), .val (.long ((((((c2.toInt64) * (961 : Int64)) + ((c3.toInt64) * (31 : Int64))) + ((c4.toInt64) * (1 : Int64))) + (0 : Int64)) + (0 : Int64))), .second, .val (.int (((31 : Int32) * (((31 : Int32) * ((0 : Int32) + c2)) + c3)) + c4)), .val (.int ((((31 : Int32) * (((31 : Int32) * ((0 : Int32) + c2)) + c3)) + c4) * (-1640531527 : Int32))), .val (.int (((((31 : Int32) * (((31 : Int32) * ((0 : Int32) + c2)) + c3)) + c4) * (-1640531527 : Int32)) ^^^ ((((((31 : Int32) * (((31 : Int32) * ((0 : Int32) + c2)) + c3)) + c4) * (-1640531527 : Int32)).toUInt32 >>> ((16 : Int32) &&& 31).toUInt32).toInt32)))] [(.int (65535 : Int32)), (.int (((((31 : Int32) * (((31 : Int32) * ((0 : Int32) + c2)) + c3)) + c4) * (-1640531527 : Int32)) ^^^ ((((((31 : Int32) * (((31 : Int32) * ((0 : Int32) + c2)) + c3)) + c4) * (-1640531527 : Int32)).toUInt32 >>> ((16 : Int32) &&& 31).toUInt32).toInt32)))])
      refine OE.iand X111 hx hby at_181 ?_
      refine OE.iload X111 hx hby at_182 rfl ?_
      refine OE.iload X111 hx hby at_184 rfl ?_
      refine OE.bipush X111 hx hby at_186 (16 : Int32) rfl ?_
      refine OE.iushr X111 hx hby at_188 ?_
      refine OE.ixor X111 hx hby at_189 ?_
      refine OE.of (X111.ldcInt hx hown (mvT hZ (hw _ (List.mem_of_getElem? (i := 1) rfl))) (g := (mkF m 190 #[.val (.int p1), .val (.int p2), .val (.int p3), .val (.int p4), .val (.int p5), .val (.ref b1), .val (.int (2 : Int32)), .val (.int (5 : Int32)), .val (.int (3 : Int32)), .val (.long ((((((c2.toInt64) * (961 : Int64)) + ((c3.toInt64) * (31 : Int64))) + ((c4.toInt64) * (1 : Int64))) + (0 : Int64)) + (0 : Int64))), .second, .val (.int (((31 : Int32) * (((31 : Int32) * ((0 : Int32) + c2)) + c3)) + c4)), .val (.int ((((31 : Int32) * (((31 : Int32) * ((0 : Int32) + c2)) + c3)) + c4) * (-1640531527 : Int32))), .val (.int (((((31 : Int32) * (((31 : Int32) * ((0 : Int32) + c2)) + c3)) + c4) * (-1640531527 : Int32)) ^^^ ((((((31 : Int32) * (((31 : Int32) * ((0 : Int32) + c2)) + c3)) + c4) * (-1640531527 : Int32)).toUInt32 >>> ((16 : Int32) &&& 31).toUInt32).toInt32)))] [(.int (((((31 : Int32) * (((31 : Int32) * ((0 : Int32) + c2)) + c3)) + c4) * (-1640531527 : Int32)) ^^^ ((((((31 : Int32) * (((31 : Int32) * ((0 : Int32) + c2)) + c3)) + c4) * (-1640531527 : Int32)).toUInt32 >>> ((16 : Int32) &&& 31).toUInt32).toInt32))), (.int ((((((31 : Int32) * (((31 : Int32) * ((0 : Int32) + c2)) + c3)) + c4) * (-1640531527 : Int32)) ^^^ ((((((31 : Int32) * (((31 : Int32) * ((0 : Int32) + c2)) + c3)) + c4) * (-1640531527 : Int32)).toUInt32 >>> ((16 : Int32) &&& 31).toUInt32).toInt32)) &&& (65535 : Int32)))])) rfl (hb hby at_190)) ?_
      show OE _ p e below s _ _ _ T111 (mkF m 192 #[.val (.int p1), .val (.int p2), .val (.int p3), .val (.int p4), .val (.int p5), .val (.ref b1), .val (.int (2 : Int32)), .val (.int (5 : Int32)), .val (.int (3 : Int32)), .val (.long ((((((c2.toInt64) * (961 : Int64)) + ((c3.toInt64) * (31 : Int64))) + ((c4.toInt64) * (1 : Int64))) + (0 : Int64)) + (0 : Int64))), .second, .val (.int (((31 : Int32) * (((31 : Int32) * ((0 : Int32) + c2)) + c3)) + c4)), .val (.int ((((31 : Int32) * (((31 : Int32) * ((0 : Int32) + c2)) + c3)) + c4) * (-1640531527 : Int32))), .val (.int (((((31 : Int32) * (((31 : Int32) * ((0 : Int32) + c2)) + c3)) + c4) * (-1640531527 : Int32)) ^^^ ((((((31 : Int32) * (((31 : Int32) * ((0 : Int32) + c2)) + c3)) + c4) * (-1640531527 : Int32)).toUInt32 >>> ((16 : Int32) &&& 31).toUInt32).toInt32)))] [(.int (65535 : Int32)), (.int (((((31 : Int32) * (((31 : Int32) * ((0 : Int32) + c2)) + c3)) + c4) * (-1640531527 : Int32)) ^^^ ((((((31 : Int32) * (((31 : Int32) * ((0 : Int32) + c2)) + c3)) + c4) * (-1640531527 : Int32)).toUInt32 >>> ((16 : Int32) &&& 31).toUInt32).toInt32))), (.int ((((((31 : Int32) * (((31 : Int32) * ((0 : Int32) + c2)) + c3)) + c4) * (-1640531527 : Int32)) ^^^ ((((((31 : Int32) * (((31 : Int32) * ((0 : Int32) + c2)) + c3)) + c4) * (-1640531527 : Int32)).toUInt32 >>> ((16 : Int32) &&& 31).toUInt32).toInt32)) &&& (65535 : Int32)))])
      refine OE.iand X111 hx hby at_192 ?_
      refine OE.icmpNo X111 hx hby at_193 (teq (rfl : ((((((31 : Int32) * (((31 : Int32) * ((0 : Int32) + c2)) + c3)) + c4) * (-1640531527 : Int32)) ^^^ ((((((31 : Int32) * (((31 : Int32) * ((0 : Int32) + c2)) + c3)) + c4) * (-1640531527 : Int32)).toUInt32 >>> ((16 : Int32) &&& 31).toUInt32).toInt32)) &&& (65535 : Int32)) = ((((((31 : Int32) * (((31 : Int32) * ((0 : Int32) + c2)) + c3)) + c4) * (-1640531527 : Int32)) ^^^ ((((((31 : Int32) * (((31 : Int32) * ((0 : Int32) + c2)) + c3)) + c4) * (-1640531527 : Int32)).toUInt32 >>> ((16 : Int32) &&& 31).toUInt32).toInt32)) &&& (65535 : Int32)))).2 ?_
      refine OE.iconst X111 hx hby at_196 (1 : Int32) rfl ?_
      refine OE.goto X111 hx hby (pc' := 201) at_197 (h := ?_)
      refine OE.retN X111 hx (t := .boolean) Bd.returns (by simp) Bd.notSynchronized (hb hby at_201) (by decide) (by decide) ?_
      rw [eq111]
      exact ⟨rfl, N111⟩
  · rw [hs]
    show OE _ p e below s _ _ _ T6 (mkF m 57 #[.val (.int p1), .val (.int p2), .val (.int p3), .val (.int p4), .val (.int p5), .val (.ref b1), .unset, .unset, .unset, .unset, .unset, .unset, .unset, .unset] [(.int (3 : Int32))])
    refine OE.istore X6 hx hby at_57 (l' := #[.val (.int p1), .val (.int p2), .val (.int p3), .val (.int p4), .val (.int p5), .val (.ref b1), .val (.int (3 : Int32)), .unset, .unset, .unset, .unset, .unset, .unset, .unset]) rfl ?_
    refine OE.iload X6 hx hby at_59 rfl ?_
    refine OE.iload X6 hx hby at_61 rfl ?_
    refine OE.of (X6.ldcInt hx hown (mvT hZ (hw _ (List.mem_of_getElem? (i := 2) rfl))) (g := (mkF m 63 #[.val (.int p1), .val (.int p2), .val (.int p3), .val (.int p4), .val (.int p5), .val (.ref b1), .val (.int (3 : Int32)), .unset, .unset, .unset, .unset, .unset, .unset, .unset] [(.int p5), (.int (3 : Int32))])) rfl (hb hby at_63)) ?_
    show OE _ p e below s _ _ _ T6 (mkF m 65 #[.val (.int p1), .val (.int p2), .val (.int p3), .val (.int p4), .val (.int p5), .val (.ref b1), .val (.int (3 : Int32)), .unset, .unset, .unset, .unset, .unset, .unset, .unset] [(.int (2147483647 : Int32)), (.int p5), (.int (3 : Int32))])
    refine OE.iand X6 hx hby at_65 ?_
    refine OE.bipush X6 hx hby at_66 (6 : Int32) rfl ?_
    refine OE.iload X6 hx hby at_68 rfl ?_
    refine OE.isub X6 hx hby at_70 ?_
    rw [(by decide : ((6 : Int32) - (3 : Int32)) = (3 : Int32))]
    refine OE.irem X6 hx hby at_71 (by decide) ?_
    rcases own_md3 p5 with hm | hm | hm
    · rw [hm]
      show OE _ p e below s _ _ _ T6 (mkF m 72 #[.val (.int p1), .val (.int p2), .val (.int p3), .val (.int p4), .val (.int p5), .val (.ref b1), .val (.int (3 : Int32)), .unset, .unset, .unset, .unset, .unset, .unset, .unset] [(.int (0 : Int32)), (.int (3 : Int32))])
      refine OE.iadd X6 hx hby at_72 ?_
      rw [(by decide : ((3 : Int32) + (0 : Int32)) = (3 : Int32))]
      refine OE.istore X6 hx hby at_73 (l' := #[.val (.int p1), .val (.int p2), .val (.int p3), .val (.int p4), .val (.int p5), .val (.ref b1), .val (.int (3 : Int32)), .val (.int (3 : Int32)), .unset, .unset, .unset, .unset, .unset, .unset]) rfl ?_
      refine OE.iload X6 hx hby at_75 rfl ?_
      refine OE.iload X6 hx hby at_77 rfl ?_
      refine OE.isub X6 hx hby at_79 ?_
      rw [(by decide : ((3 : Int32) - (3 : Int32)) = (0 : Int32))]
      refine OE.istore X6 hx hby at_80 (l' := #[.val (.int p1), .val (.int p2), .val (.int p3), .val (.int p4), .val (.int p5), .val (.ref b1), .val (.int (3 : Int32)), .val (.int (3 : Int32)), .val (.int (0 : Int32)), .unset, .unset, .unset, .unset, .unset]) rfl ?_
      refine OE.aload X6 hx hby at_82 rfl rfl ?_
      refine OE.iload X6 hx hby at_84 rfl ?_
      refine OE.iload X6 hx hby at_86 rfl ?_
      refine OE.iconst X6 hx hby at_88 (0 : Int32) rfl ?_
      have z112 : n0 ≤ h6.size := (Nat.le_trans (Nat.le_trans (Nat.le_trans (Nat.le_trans (Nat.le_trans (Nat.le_trans Z0 E1.1) (Nat.le_of_eq W2.size.symm)) (Nat.le_of_eq W3.size.symm)) (Nat.le_of_eq W4.size.symm)) (Nat.le_of_eq W5.size.symm)) (Nat.le_of_eq W6.size.symm))
      obtain ⟨_, _, ⟨T113, L113, k113, n113⟩, -, X113, ⟨Lc113, hQ113, l113, y113, z113⟩, st113⟩ := Jvm.LawKit.callS X6 hx (y := (⟨"com/example/archerfish/archerfish/index/TokenTableHashPinLaw", "term", "([CIII)J"⟩ : MethodName)) hown (mvT hZ (hw _ (List.mem_of_getElem? (i := 3) rfl))) (mvT hZ (hw _ (List.mem_of_getElem? (i := 4) rfl))) (mvT hZ (hw _ (List.mem_of_getElem? (i := 5) rfl))) (mvT hZ (hw _ (List.mem_of_getElem? (i := 6) rfl))) (by decide) (backOf (W := 0) (own_rm1_o l Z a0 hw [] b1 (3 : Int32) (0 : Int32) (0 : Int32) h6 n0 z112 (by decide)) hZ (hw _ (List.mem_of_getElem? (i := 6) rfl)) (hw _ (List.mem_of_getElem? (i := 5) rfl)) (by decide) (by decide)) (g := (mkF m 89 #[.val (.int p1), .val (.int p2), .val (.int p3), .val (.int p4), .val (.int p5), .val (.ref b1), .val (.int (3 : Int32)), .val (.int (3 : Int32)), .val (.int (0 : Int32)), .unset, .unset, .unset, .unset, .unset] [(.int (0 : Int32)), (.int (0 : Int32)), (.int (3 : Int32)), (.ref b1)])) rfl (by rw [hml]; rfl) (argsL := [(.ref b1), (.int (3 : Int32)), (.int (0 : Int32)), (.int (0 : Int32))]) (rest := []) (lenOf own_pd1 rfl) rfl (by show 2 * 0 + _ ≤ _; exact Nat.le_of_eq rfl) (hb hby at_89) (fun _ _ => ⟨rfl, e6, (by decide : 1 + 0 ≤ _), (by decide : 5 + 0 ≤ _)⟩)
      dsimp only [Pt.U, Pt.locs, Pt.cells, Pt.slots] at X113 l113 y113 z113 st113 hQ113
      subst l113 y113 z113
      obtain ⟨rfl, Nq113, eq113⟩ := hQ113
      refine OE.of (fun _ k => st113 _ k) ?_
      have N113 := Fr.app N6 Nq113
      show OE _ p e below s _ _ _ T113 (mkF m 92 #[.val (.int p1), .val (.int p2), .val (.int p3), .val (.int p4), .val (.int p5), .val (.ref b1), .val (.int (3 : Int32)), .val (.int (3 : Int32)), .val (.int (0 : Int32)), .unset, .unset, .unset, .unset, .unset] [(.long (0 : Int64))])
      refine OE.aload X113 hx hby at_92 rfl rfl ?_
      refine OE.iload X113 hx hby at_94 rfl ?_
      refine OE.iload X113 hx hby at_96 rfl ?_
      refine OE.iconst X113 hx hby at_98 (1 : Int32) rfl ?_
      obtain ⟨_, _, ⟨T114, L114, k114, n114⟩, -, X114, ⟨Lc114, hQ114, l114, y114, z114⟩, st114⟩ := Jvm.LawKit.callS X113 hx (y := (⟨"com/example/archerfish/archerfish/index/TokenTableHashPinLaw", "term", "([CIII)J"⟩ : MethodName)) hown (mvT hZ (hw _ (List.mem_of_getElem? (i := 3) rfl))) (mvT hZ (hw _ (List.mem_of_getElem? (i := 4) rfl))) (mvT hZ (hw _ (List.mem_of_getElem? (i := 5) rfl))) (mvT hZ (hw _ (List.mem_of_getElem? (i := 6) rfl))) (by decide) (backOf (W := 2) (own_rm1_o l Z a0 hw [] b1 (3 : Int32) (0 : Int32) (1 : Int32) h6 n0 z112 (by decide)) hZ (hw _ (List.mem_of_getElem? (i := 6) rfl)) (hw _ (List.mem_of_getElem? (i := 5) rfl)) (by decide) (by decide)) (g := (mkF m 99 #[.val (.int p1), .val (.int p2), .val (.int p3), .val (.int p4), .val (.int p5), .val (.ref b1), .val (.int (3 : Int32)), .val (.int (3 : Int32)), .val (.int (0 : Int32)), .unset, .unset, .unset, .unset, .unset] [(.int (1 : Int32)), (.int (0 : Int32)), (.int (3 : Int32)), (.ref b1), (.long (0 : Int64))])) rfl (by rw [hml]; rfl) (argsL := [(.ref b1), (.int (3 : Int32)), (.int (0 : Int32)), (.int (1 : Int32))]) (rest := [(.long (0 : Int64))]) (lenOf own_pd1 rfl) rfl (by show 2 * 0 + _ ≤ _; exact Nat.le_of_eq rfl) (hb hby at_99) (fun _ _ => ⟨rfl, eq113, (by decide : 1 + 0 ≤ _), (by decide : 5 + 0 ≤ _)⟩)
      dsimp only [Pt.U, Pt.locs, Pt.cells, Pt.slots] at X114 l114 y114 z114 st114 hQ114
      subst l114 y114 z114
      obtain ⟨rfl, Nq114, eq114⟩ := hQ114
      refine OE.of (fun _ k => st114 _ k) ?_
      have N114 := Fr.app N113 Nq114
      show OE _ p e below s _ _ _ T114 (mkF m 102 #[.val (.int p1), .val (.int p2), .val (.int p3), .val (.int p4), .val (.int p5), .val (.ref b1), .val (.int (3 : Int32)), .val (.int (3 : Int32)), .val (.int (0 : Int32)), .unset, .unset, .unset, .unset, .unset] [(.long (0 : Int64)), (.long (0 : Int64))])
      refine OE.ladd X114 hx hby at_102 ?_
      rw [(by decide : ((0 : Int64) + (0 : Int64)) = (0 : Int64))]
      refine OE.aload X114 hx hby at_103 rfl rfl ?_
      refine OE.iload X114 hx hby at_105 rfl ?_
      refine OE.iload X114 hx hby at_107 rfl ?_
      refine OE.iconst X114 hx hby at_109 (2 : Int32) rfl ?_
      obtain ⟨_, _, ⟨T115, L115, k115, n115⟩, -, X115, ⟨Lc115, hQ115, l115, y115, z115⟩, st115⟩ := Jvm.LawKit.callS X114 hx (y := (⟨"com/example/archerfish/archerfish/index/TokenTableHashPinLaw", "term", "([CIII)J"⟩ : MethodName)) hown (mvT hZ (hw _ (List.mem_of_getElem? (i := 3) rfl))) (mvT hZ (hw _ (List.mem_of_getElem? (i := 4) rfl))) (mvT hZ (hw _ (List.mem_of_getElem? (i := 5) rfl))) (mvT hZ (hw _ (List.mem_of_getElem? (i := 6) rfl))) (by decide) (backOf (W := 2) (own_rm1_o l Z a0 hw [] b1 (3 : Int32) (0 : Int32) (2 : Int32) h6 n0 z112 (by decide)) hZ (hw _ (List.mem_of_getElem? (i := 6) rfl)) (hw _ (List.mem_of_getElem? (i := 5) rfl)) (by decide) (by decide)) (g := (mkF m 110 #[.val (.int p1), .val (.int p2), .val (.int p3), .val (.int p4), .val (.int p5), .val (.ref b1), .val (.int (3 : Int32)), .val (.int (3 : Int32)), .val (.int (0 : Int32)), .unset, .unset, .unset, .unset, .unset] [(.int (2 : Int32)), (.int (0 : Int32)), (.int (3 : Int32)), (.ref b1), (.long (0 : Int64))])) rfl (by rw [hml]; rfl) (argsL := [(.ref b1), (.int (3 : Int32)), (.int (0 : Int32)), (.int (2 : Int32))]) (rest := [(.long (0 : Int64))]) (lenOf own_pd1 rfl) rfl (by show 2 * 0 + _ ≤ _; exact Nat.le_of_eq rfl) (hb hby at_110) (fun _ _ => ⟨rfl, eq114, (by decide : 1 + 0 ≤ _), (by decide : 5 + 0 ≤ _)⟩)
      dsimp only [Pt.U, Pt.locs, Pt.cells, Pt.slots] at X115 l115 y115 z115 st115 hQ115
      subst l115 y115 z115
      obtain ⟨rfl, Nq115, eq115⟩ := hQ115
      refine OE.of (fun _ k => st115 _ k) ?_
      have N115 := Fr.app N114 Nq115
      show OE _ p e below s _ _ _ T115 (mkF m 113 #[.val (.int p1), .val (.int p2), .val (.int p3), .val (.int p4), .val (.int p5), .val (.ref b1), .val (.int (3 : Int32)), .val (.int (3 : Int32)), .val (.int (0 : Int32)), .unset, .unset, .unset, .unset, .unset] [(.long (0 : Int64)), (.long (0 : Int64))])
      refine OE.ladd X115 hx hby at_113 ?_
      rw [(by decide : ((0 : Int64) + (0 : Int64)) = (0 : Int64))]
      refine OE.aload X115 hx hby at_114 rfl rfl ?_
      refine OE.iload X115 hx hby at_116 rfl ?_
      refine OE.iload X115 hx hby at_118 rfl ?_
      refine OE.iconst X115 hx hby at_120 (3 : Int32) rfl ?_
      obtain ⟨_, _, ⟨T116, L116, k116, n116⟩, -, X116, ⟨Lc116, hQ116, l116, y116, z116⟩, st116⟩ := Jvm.LawKit.callS X115 hx (y := (⟨"com/example/archerfish/archerfish/index/TokenTableHashPinLaw", "term", "([CIII)J"⟩ : MethodName)) hown (mvT hZ (hw _ (List.mem_of_getElem? (i := 3) rfl))) (mvT hZ (hw _ (List.mem_of_getElem? (i := 4) rfl))) (mvT hZ (hw _ (List.mem_of_getElem? (i := 5) rfl))) (mvT hZ (hw _ (List.mem_of_getElem? (i := 6) rfl))) (by decide) (backOf (W := 2) (own_rm1_o l Z a0 hw [] b1 (3 : Int32) (0 : Int32) (3 : Int32) h6 n0 z112 (by decide)) hZ (hw _ (List.mem_of_getElem? (i := 6) rfl)) (hw _ (List.mem_of_getElem? (i := 5) rfl)) (by decide) (by decide)) (g := (mkF m 121 #[.val (.int p1), .val (.int p2), .val (.int p3), .val (.int p4), .val (.int p5), .val (.ref b1), .val (.int (3 : Int32)), .val (.int (3 : Int32)), .val (.int (0 : Int32)), .unset, .unset, .unset, .unset, .unset] [(.int (3 : Int32)), (.int (0 : Int32)), (.int (3 : Int32)), (.ref b1), (.long (0 : Int64))])) rfl (by rw [hml]; rfl) (argsL := [(.ref b1), (.int (3 : Int32)), (.int (0 : Int32)), (.int (3 : Int32))]) (rest := [(.long (0 : Int64))]) (lenOf own_pd1 rfl) rfl (by show 2 * 0 + _ ≤ _; exact Nat.le_of_eq rfl) (hb hby at_121) (fun _ _ => ⟨rfl, eq115, (by decide : 1 + 0 ≤ _), (by decide : 5 + 0 ≤ _)⟩)
      dsimp only [Pt.U, Pt.locs, Pt.cells, Pt.slots] at X116 l116 y116 z116 st116 hQ116
      subst l116 y116 z116
      obtain ⟨rfl, Nq116, eq116⟩ := hQ116
      refine OE.of (fun _ k => st116 _ k) ?_
      have N116 := Fr.app N115 Nq116
      show OE _ p e below s _ _ _ T116 (mkF m 124 #[.val (.int p1), .val (.int p2), .val (.int p3), .val (.int p4), .val (.int p5), .val (.ref b1), .val (.int (3 : Int32)), .val (.int (3 : Int32)), .val (.int (0 : Int32)), .unset, .unset, .unset, .unset, .unset] [(.long (0 : Int64)), (.long (0 : Int64))])
      refine OE.ladd X116 hx hby at_124 ?_
      rw [(by decide : ((0 : Int64) + (0 : Int64)) = (0 : Int64))]
      refine OE.aload X116 hx hby at_125 rfl rfl ?_
      refine OE.iload X116 hx hby at_127 rfl ?_
      refine OE.iload X116 hx hby at_129 rfl ?_
      refine OE.iconst X116 hx hby at_131 (4 : Int32) rfl ?_
      obtain ⟨_, _, ⟨T117, L117, k117, n117⟩, -, X117, ⟨Lc117, hQ117, l117, y117, z117⟩, st117⟩ := Jvm.LawKit.callS X116 hx (y := (⟨"com/example/archerfish/archerfish/index/TokenTableHashPinLaw", "term", "([CIII)J"⟩ : MethodName)) hown (mvT hZ (hw _ (List.mem_of_getElem? (i := 3) rfl))) (mvT hZ (hw _ (List.mem_of_getElem? (i := 4) rfl))) (mvT hZ (hw _ (List.mem_of_getElem? (i := 5) rfl))) (mvT hZ (hw _ (List.mem_of_getElem? (i := 6) rfl))) (by decide) (backOf (W := 2) (own_rm1_o l Z a0 hw [] b1 (3 : Int32) (0 : Int32) (4 : Int32) h6 n0 z112 (by decide)) hZ (hw _ (List.mem_of_getElem? (i := 6) rfl)) (hw _ (List.mem_of_getElem? (i := 5) rfl)) (by decide) (by decide)) (g := (mkF m 132 #[.val (.int p1), .val (.int p2), .val (.int p3), .val (.int p4), .val (.int p5), .val (.ref b1), .val (.int (3 : Int32)), .val (.int (3 : Int32)), .val (.int (0 : Int32)), .unset, .unset, .unset, .unset, .unset] [(.int (4 : Int32)), (.int (0 : Int32)), (.int (3 : Int32)), (.ref b1), (.long (0 : Int64))])) rfl (by rw [hml]; rfl) (argsL := [(.ref b1), (.int (3 : Int32)), (.int (0 : Int32)), (.int (4 : Int32))]) (rest := [(.long (0 : Int64))]) (lenOf own_pd1 rfl) rfl (by show 2 * 0 + _ ≤ _; exact Nat.le_of_eq rfl) (hb hby at_132) (fun _ _ => ⟨rfl, eq116, (by decide : 1 + 0 ≤ _), (by decide : 5 + 0 ≤ _)⟩)
      dsimp only [Pt.U, Pt.locs, Pt.cells, Pt.slots] at X117 l117 y117 z117 st117 hQ117
      subst l117 y117 z117
      obtain ⟨rfl, Nq117, eq117⟩ := hQ117
      refine OE.of (fun _ k => st117 _ k) ?_
      have N117 := Fr.app N116 Nq117
      show OE _ p e below s _ _ _ T117 (mkF m 135 #[.val (.int p1), .val (.int p2), .val (.int p3), .val (.int p4), .val (.int p5), .val (.ref b1), .val (.int (3 : Int32)), .val (.int (3 : Int32)), .val (.int (0 : Int32)), .unset, .unset, .unset, .unset, .unset] [(.long (0 : Int64)), (.long (0 : Int64))])
      refine OE.ladd X117 hx hby at_135 ?_
      rw [(by decide : ((0 : Int64) + (0 : Int64)) = (0 : Int64))]
      refine OE.lstore X117 hx hby at_136 (l' := #[.val (.int p1), .val (.int p2), .val (.int p3), .val (.int p4), .val (.int p5), .val (.ref b1), .val (.int (3 : Int32)), .val (.int (3 : Int32)), .val (.int (0 : Int32)), .val (.long (0 : Int64)), .second, .unset, .unset, .unset]) rfl ?_
      refine OE.lload X117 hx hby at_138 rfl ?_
      refine OE.l2i X117 hx hby at_140 ?_
      rw [((by decide) : ((0 : Int64).toInt32) = (0 : Int32))]
      show OE _ p e below s _ _ _ T117 (mkF m 141 #[.val (.int p1), .val (.int p2), .val (.int p3), .val (.int p4), .val (.int p5), .val (.ref b1), .val (.int (3 : Int32)), .val (.int (3 : Int32)), .val (.int (0 : Int32)), .val (.long (0 : Int64)), .second, .unset, .unset, .unset] [(.int (0 : Int32))])
      refine OE.istore X117 hx hby at_141 (l' := #[.val (.int p1), .val (.int p2), .val (.int p3), .val (.int p4), .val (.int p5), .val (.ref b1), .val (.int (3 : Int32)), .val (.int (3 : Int32)), .val (.int (0 : Int32)), .val (.long (0 : Int64)), .second, .val (.int (0 : Int32)), .unset, .unset]) rfl ?_
      refine OE.iload X117 hx hby at_143 rfl ?_
      refine OE.i2l X117 hx hby at_145 ?_
      refine OE.of (X117.ldc2Long hx hown (mvT hZ (hw _ (List.mem_of_getElem? (i := 7) rfl))) (g := (mkF m 146 #[.val (.int p1), .val (.int p2), .val (.int p3), .val (.int p4), .val (.int p5), .val (.ref b1), .val (.int (3 : Int32)), .val (.int (3 : Int32)), .val (.int (0 : Int32)), .val (.long (0 : Int64)), .second, .val (.int (0 : Int32)), .unset, .unset] [(.long ((0 : Int32).toInt64))])) rfl (hb hby at_146)) ?_
      show OE _ p e below s _ _ _ T117 (mkF m 149 #[.val (.int p1), .val (.int p2), .val (.int p3), .val (.int p4), .val (.int p5), .val (.ref b1), .val (.int (3 : Int32)), .val (.int (3 : Int32)), .val (.int (0 : Int32)), .val (.long (0 : Int64)), .second, .val (.int (0 : Int32)), .unset, .unset] [(.long (2654435769 : Int64)), (.long ((0 : Int32).toInt64))])
      refine OE.lmul X117 hx hby at_149 ?_
      refine OE.l2i X117 hx hby at_150 ?_
      rw [((by decide) : ((((0 : Int32).toInt64) * (2654435769 : Int64)).toInt32) = (0 : Int32))]
      show OE _ p e below s _ _ _ T117 (mkF m 151 #[.val (.int p1), .val (.int p2), .val (.int p3), .val (.int p4), .val (.int p5), .val (.ref b1), .val (.int (3 : Int32)), .val (.int (3 : Int32)), .val (.int (0 : Int32)), .val (.long (0 : Int64)), .second, .val (.int (0 : Int32)), .unset, .unset] [(.int (0 : Int32))])
      refine OE.istore X117 hx hby at_151 (l' := #[.val (.int p1), .val (.int p2), .val (.int p3), .val (.int p4), .val (.int p5), .val (.ref b1), .val (.int (3 : Int32)), .val (.int (3 : Int32)), .val (.int (0 : Int32)), .val (.long (0 : Int64)), .second, .val (.int (0 : Int32)), .val (.int (0 : Int32)), .unset]) rfl ?_
      refine OE.aload X117 hx hby at_153 rfl rfl ?_
      refine OE.iload X117 hx hby at_155 rfl ?_
      refine OE.iload X117 hx hby at_157 rfl ?_
      obtain ⟨_, _, ⟨T118, L118, k118, n118⟩, -, X118, ⟨Lc118, hQ118, l118, y118, z118⟩, st118⟩ := Jvm.LawKit.callS X117 hx (y := (⟨"com/example/archerfish/archerfish/index/TokenTable", "hash", "([CII)I"⟩ : MethodName)) hown (mvT hZ (hw _ (List.mem_of_getElem? (i := 8) rfl))) (mvT hZ (hw _ (List.mem_of_getElem? (i := 9) rfl))) (mvT hZ (hw _ (List.mem_of_getElem? (i := 10) rfl))) (mvT hZ (hw _ (List.mem_of_getElem? (i := 11) rfl))) (by decide) (backOf (W := 0) (own_rm2_3_0 l Z a0 hw [] b1 c0 c1 c2 c3 c4 k1 h6 n0 z112 Vc) hZ (hw _ (List.mem_of_getElem? (i := 11) rfl)) (hw _ (List.mem_of_getElem? (i := 10) rfl)) (by decide) (by decide)) (g := (mkF m 159 #[.val (.int p1), .val (.int p2), .val (.int p3), .val (.int p4), .val (.int p5), .val (.ref b1), .val (.int (3 : Int32)), .val (.int (3 : Int32)), .val (.int (0 : Int32)), .val (.long (0 : Int64)), .second, .val (.int (0 : Int32)), .val (.int (0 : Int32)), .unset] [(.int (3 : Int32)), (.int (3 : Int32)), (.ref b1)])) rfl (by rw [hml]; rfl) (argsL := [(.ref b1), (.int (3 : Int32)), (.int (3 : Int32))]) (rest := []) (lenOf own_pd2 rfl) rfl (by show 2 * 0 + _ ≤ _; exact Nat.le_of_eq rfl) (hb hby at_159) (fun _ _ => ⟨rfl, eq117, (by decide : 1 + 0 ≤ _), (by decide : 5 + 0 ≤ _)⟩)
      dsimp only [Pt.U, Pt.locs, Pt.cells, Pt.slots] at X118 l118 y118 z118 st118 hQ118
      subst l118 y118 z118
      obtain ⟨rfl, Nq118, eq118⟩ := hQ118
      refine OE.of (fun _ k => st118 _ k) ?_
      have N118 := Fr.app N117 Nq118
      show OE _ p e below s _ _ _ T118 (mkF m 162 #[.val (.int p1), .val (.int p2), .val (.int p3), .val (.int p4), .val (.int p5), .val (.ref b1), .val (.int (3 : Int32)), .val (.int (3 : Int32)), .val (.int (0 : Int32)), .val (.long (0 : Int64)), .second, .val (.int (0 : Int32)), .val (.int (0 : Int32)), .unset] [(.int ((0 : Int32) ^^^ (((0 : Int32).toUInt32 >>> ((16 : Int32) &&& 31).toUInt32).toInt32)))])
      refine OE.istore X118 hx hby at_162 (l' := #[.val (.int p1), .val (.int p2), .val (.int p3), .val (.int p4), .val (.int p5), .val (.ref b1), .val (.int (3 : Int32)), .val (.int (3 : Int32)), .val (.int (0 : Int32)), .val (.long (0 : Int64)), .second, .val (.int (0 : Int32)), .val (.int (0 : Int32)), .val (.int ((0 : Int32) ^^^ (((0 : Int32).toUInt32 >>> ((16 : Int32) &&& 31).toUInt32).toInt32)))]) rfl ?_
      refine OE.iload X118 hx hby at_164 rfl ?_
      refine OE.bipush X118 hx hby at_166 (16 : Int32) rfl ?_
      refine OE.iushr X118 hx hby at_168 ?_
      refine OE.iload X118 hx hby at_169 rfl ?_
      refine OE.bipush X118 hx hby at_171 (16 : Int32) rfl ?_
      refine OE.iushr X118 hx hby at_173 ?_
      refine OE.icmpNo X118 hx hby at_174 (teq (own_top _ : ((((0 : Int32) ^^^ (((0 : Int32).toUInt32 >>> ((16 : Int32) &&& 31).toUInt32).toInt32)).toUInt32 >>> ((16 : Int32) &&& 31).toUInt32).toInt32) = (((0 : Int32).toUInt32 >>> ((16 : Int32) &&& 31).toUInt32).toInt32))).2 ?_
      refine OE.iload X118 hx hby at_177 rfl ?_
      refine OE.of (X118.ldcInt hx hown (mvT hZ (hw _ (List.mem_of_getElem? (i := 1) rfl))) (g := (mkF m 179 #[.val (.int p1), .val (.int p2), .val (.int p3), .val (.int p4), .val (.int p5), .val (.ref b1), .val (.int (3 : Int32)), .val (.int (3 : Int32)), .val (.int (0 : Int32)), .val (.long (0 : Int64)), .second, .val (.int (0 : Int32)), .val (.int (0 : Int32)), .val (.int ((0 : Int32) ^^^ (((0 : Int32).toUInt32 >>> ((16 : Int32) &&& 31).toUInt32).toInt32)))] [(.int ((0 : Int32) ^^^ (((0 : Int32).toUInt32 >>> ((16 : Int32) &&& 31).toUInt32).toInt32)))])) rfl (hb hby at_179)) ?_
      show OE _ p e below s _ _ _ T118 (mkF m 181 #[.val (.int p1), .val (.int p2), .val (.int p3), .val (.int p4), .val (.int p5), .val (.ref b1), .val (.int (3 : Int32)), .val (.int (3 : Int32)), .val (.int (0 : Int32)), .val (.long (0 : Int64)), .second, .val (.int (0 : Int32)), .val (.int (0 : Int32)), .val (.int ((0 : Int32) ^^^ (((0 : Int32).toUInt32 >>> ((16 : Int32) &&& 31).toUInt32).toInt32)))] [(.int (65535 : Int32)), (.int ((0 : Int32) ^^^ (((0 : Int32).toUInt32 >>> ((16 : Int32) &&& 31).toUInt32).toInt32)))])
      refine OE.iand X118 hx hby at_181 ?_
      refine OE.iload X118 hx hby at_182 rfl ?_
      refine OE.iload X118 hx hby at_184 rfl ?_
      refine OE.bipush X118 hx hby at_186 (16 : Int32) rfl ?_
      refine OE.iushr X118 hx hby at_188 ?_
      refine OE.ixor X118 hx hby at_189 ?_
      refine OE.of (X118.ldcInt hx hown (mvT hZ (hw _ (List.mem_of_getElem? (i := 1) rfl))) (g := (mkF m 190 #[.val (.int p1), .val (.int p2), .val (.int p3), .val (.int p4), .val (.int p5), .val (.ref b1), .val (.int (3 : Int32)), .val (.int (3 : Int32)), .val (.int (0 : Int32)), .val (.long (0 : Int64)), .second, .val (.int (0 : Int32)), .val (.int (0 : Int32)), .val (.int ((0 : Int32) ^^^ (((0 : Int32).toUInt32 >>> ((16 : Int32) &&& 31).toUInt32).toInt32)))] [(.int ((0 : Int32) ^^^ (((0 : Int32).toUInt32 >>> ((16 : Int32) &&& 31).toUInt32).toInt32))), (.int (((0 : Int32) ^^^ (((0 : Int32).toUInt32 >>> ((16 : Int32) &&& 31).toUInt32).toInt32)) &&& (65535 : Int32)))])) rfl (hb hby at_190)) ?_
      show OE _ p e below s _ _ _ T118 (mkF m 192 #[.val (.int p1), .val (.int p2), .val (.int p3), .val (.int p4), .val (.int p5), .val (.ref b1), .val (.int (3 : Int32)), .val (.int (3 : Int32)), .val (.int (0 : Int32)), .val (.long (0 : Int64)), .second, .val (.int (0 : Int32)), .val (.int (0 : Int32)), .val (.int ((0 : Int32) ^^^ (((0 : Int32).toUInt32 >>> ((16 : Int32) &&& 31).toUInt32).toInt32)))] [(.int (65535 : Int32)), (.int ((0 : Int32) ^^^ (((0 : Int32).toUInt32 >>> ((16 : Int32) &&& 31).toUInt32).toInt32))), (.int (((0 : Int32) ^^^ (((0 : Int32).toUInt32 >>> ((16 : Int32) &&& 31).toUInt32).toInt32)) &&& (65535 : Int32)))])
      refine OE.iand X118 hx hby at_192 ?_
      refine OE.icmpNo X118 hx hby at_193 (teq (rfl : (((0 : Int32) ^^^ (((0 : Int32).toUInt32 >>> ((16 : Int32) &&& 31).toUInt32).toInt32)) &&& (65535 : Int32)) = (((0 : Int32) ^^^ (((0 : Int32).toUInt32 >>> ((16 : Int32) &&& 31).toUInt32).toInt32)) &&& (65535 : Int32)))).2 ?_
      refine OE.iconst X118 hx hby at_196 (1 : Int32) rfl ?_
      refine OE.goto X118 hx hby (pc' := 201) at_197 (h := ?_)
      refine OE.retN X118 hx (t := .boolean) Bd.returns (by simp) Bd.notSynchronized (hb hby at_201) (by decide) (by decide) ?_
      rw [eq118]
      exact ⟨rfl, N118⟩
    · rw [hm]
      show OE _ p e below s _ _ _ T6 (mkF m 72 #[.val (.int p1), .val (.int p2), .val (.int p3), .val (.int p4), .val (.int p5), .val (.ref b1), .val (.int (3 : Int32)), .unset, .unset, .unset, .unset, .unset, .unset, .unset] [(.int (1 : Int32)), (.int (3 : Int32))])
      refine OE.iadd X6 hx hby at_72 ?_
      rw [(by decide : ((3 : Int32) + (1 : Int32)) = (4 : Int32))]
      refine OE.istore X6 hx hby at_73 (l' := #[.val (.int p1), .val (.int p2), .val (.int p3), .val (.int p4), .val (.int p5), .val (.ref b1), .val (.int (3 : Int32)), .val (.int (4 : Int32)), .unset, .unset, .unset, .unset, .unset, .unset]) rfl ?_
      refine OE.iload X6 hx hby at_75 rfl ?_
      refine OE.iload X6 hx hby at_77 rfl ?_
      refine OE.isub X6 hx hby at_79 ?_
      rw [(by decide : ((4 : Int32) - (3 : Int32)) = (1 : Int32))]
      refine OE.istore X6 hx hby at_80 (l' := #[.val (.int p1), .val (.int p2), .val (.int p3), .val (.int p4), .val (.int p5), .val (.ref b1), .val (.int (3 : Int32)), .val (.int (4 : Int32)), .val (.int (1 : Int32)), .unset, .unset, .unset, .unset, .unset]) rfl ?_
      refine OE.aload X6 hx hby at_82 rfl rfl ?_
      refine OE.iload X6 hx hby at_84 rfl ?_
      refine OE.iload X6 hx hby at_86 rfl ?_
      refine OE.iconst X6 hx hby at_88 (0 : Int32) rfl ?_
      have z119 : n0 ≤ h6.size := (Nat.le_trans (Nat.le_trans (Nat.le_trans (Nat.le_trans (Nat.le_trans (Nat.le_trans Z0 E1.1) (Nat.le_of_eq W2.size.symm)) (Nat.le_of_eq W3.size.symm)) (Nat.le_of_eq W4.size.symm)) (Nat.le_of_eq W5.size.symm)) (Nat.le_of_eq W6.size.symm))
      obtain ⟨_, _, ⟨T120, L120, k120, n120⟩, -, X120, ⟨Lc120, hQ120, l120, y120, z120⟩, st120⟩ := Jvm.LawKit.callS X6 hx (y := (⟨"com/example/archerfish/archerfish/index/TokenTableHashPinLaw", "term", "([CIII)J"⟩ : MethodName)) hown (mvT hZ (hw _ (List.mem_of_getElem? (i := 3) rfl))) (mvT hZ (hw _ (List.mem_of_getElem? (i := 4) rfl))) (mvT hZ (hw _ (List.mem_of_getElem? (i := 5) rfl))) (mvT hZ (hw _ (List.mem_of_getElem? (i := 6) rfl))) (by decide) (backOf (W := 0) (own_rm1_1_0 l Z a0 hw [] b1 (3 : Int32) c3 k1 [(.int c0), (.int c1), (.int c2), (.int c3), (.int c4)] h6 n0 z119 Vc ⟨by decide, by decide⟩ rfl) hZ (hw _ (List.mem_of_getElem? (i := 6) rfl)) (hw _ (List.mem_of_getElem? (i := 5) rfl)) (by decide) (by decide)) (g := (mkF m 89 #[.val (.int p1), .val (.int p2), .val (.int p3), .val (.int p4), .val (.int p5), .val (.ref b1), .val (.int (3 : Int32)), .val (.int (4 : Int32)), .val (.int (1 : Int32)), .unset, .unset, .unset, .unset, .unset] [(.int (0 : Int32)), (.int (1 : Int32)), (.int (3 : Int32)), (.ref b1)])) rfl (by rw [hml]; rfl) (argsL := [(.ref b1), (.int (3 : Int32)), (.int (1 : Int32)), (.int (0 : Int32))]) (rest := []) (lenOf own_pd1 rfl) rfl (by show 2 * 0 + _ ≤ _; exact Nat.le_of_eq rfl) (hb hby at_89) (fun _ _ => ⟨rfl, e6, (by decide : 1 + 0 ≤ _), (by decide : 5 + 0 ≤ _)⟩)
      dsimp only [Pt.U, Pt.locs, Pt.cells, Pt.slots] at X120 l120 y120 z120 st120 hQ120
      subst l120 y120 z120
      obtain ⟨rfl, Nq120, eq120⟩ := hQ120
      refine OE.of (fun _ k => st120 _ k) ?_
      have N120 := Fr.app N6 Nq120
      show OE _ p e below s _ _ _ T120 (mkF m 92 #[.val (.int p1), .val (.int p2), .val (.int p3), .val (.int p4), .val (.int p5), .val (.ref b1), .val (.int (3 : Int32)), .val (.int (4 : Int32)), .val (.int (1 : Int32)), .unset, .unset, .unset, .unset, .unset] [(.long ((c3.toInt64) * (1 : Int64)))])
      refine OE.aload X120 hx hby at_92 rfl rfl ?_
      refine OE.iload X120 hx hby at_94 rfl ?_
      refine OE.iload X120 hx hby at_96 rfl ?_
      refine OE.iconst X120 hx hby at_98 (1 : Int32) rfl ?_
      obtain ⟨_, _, ⟨T121, L121, k121, n121⟩, -, X121, ⟨Lc121, hQ121, l121, y121, z121⟩, st121⟩ := Jvm.LawKit.callS X120 hx (y := (⟨"com/example/archerfish/archerfish/index/TokenTableHashPinLaw", "term", "([CIII)J"⟩ : MethodName)) hown (mvT hZ (hw _ (List.mem_of_getElem? (i := 3) rfl))) (mvT hZ (hw _ (List.mem_of_getElem? (i := 4) rfl))) (mvT hZ (hw _ (List.mem_of_getElem? (i := 5) rfl))) (mvT hZ (hw _ (List.mem_of_getElem? (i := 6) rfl))) (by decide) (backOf (W := 2) (own_rm1_o l Z a0 hw [] b1 (3 : Int32) (1 : Int32) (1 : Int32) h6 n0 z119 (by decide)) hZ (hw _ (List.mem_of_getElem? (i := 6) rfl)) (hw _ (List.mem_of_getElem? (i := 5) rfl)) (by decide) (by decide)) (g := (mkF m 99 #[.val (.int p1), .val (.int p2), .val (.int p3), .val (.int p4), .val (.int p5), .val (.ref b1), .val (.int (3 : Int32)), .val (.int (4 : Int32)), .val (.int (1 : Int32)), .unset, .unset, .unset, .unset, .unset] [(.int (1 : Int32)), (.int (1 : Int32)), (.int (3 : Int32)), (.ref b1), (.long ((c3.toInt64) * (1 : Int64)))])) rfl (by rw [hml]; rfl) (argsL := [(.ref b1), (.int (3 : Int32)), (.int (1 : Int32)), (.int (1 : Int32))]) (rest := [(.long ((c3.toInt64) * (1 : Int64)))]) (lenOf own_pd1 rfl) rfl (by show 2 * 0 + _ ≤ _; exact Nat.le_of_eq rfl) (hb hby at_99) (fun _ _ => ⟨rfl, eq120, (by decide : 1 + 0 ≤ _), (by decide : 5 + 0 ≤ _)⟩)
      dsimp only [Pt.U, Pt.locs, Pt.cells, Pt.slots] at X121 l121 y121 z121 st121 hQ121
      subst l121 y121 z121
      obtain ⟨rfl, Nq121, eq121⟩ := hQ121
      refine OE.of (fun _ k => st121 _ k) ?_
      have N121 := Fr.app N120 Nq121
      show OE _ p e below s _ _ _ T121 (mkF m 102 #[.val (.int p1), .val (.int p2), .val (.int p3), .val (.int p4), .val (.int p5), .val (.ref b1), .val (.int (3 : Int32)), .val (.int (4 : Int32)), .val (.int (1 : Int32)), .unset, .unset, .unset, .unset, .unset] [(.long (0 : Int64)), (.long ((c3.toInt64) * (1 : Int64)))])
      refine OE.ladd X121 hx hby at_102 ?_
      refine OE.aload X121 hx hby at_103 rfl rfl ?_
      refine OE.iload X121 hx hby at_105 rfl ?_
      refine OE.iload X121 hx hby at_107 rfl ?_
      refine OE.iconst X121 hx hby at_109 (2 : Int32) rfl ?_
      obtain ⟨_, _, ⟨T122, L122, k122, n122⟩, -, X122, ⟨Lc122, hQ122, l122, y122, z122⟩, st122⟩ := Jvm.LawKit.callS X121 hx (y := (⟨"com/example/archerfish/archerfish/index/TokenTableHashPinLaw", "term", "([CIII)J"⟩ : MethodName)) hown (mvT hZ (hw _ (List.mem_of_getElem? (i := 3) rfl))) (mvT hZ (hw _ (List.mem_of_getElem? (i := 4) rfl))) (mvT hZ (hw _ (List.mem_of_getElem? (i := 5) rfl))) (mvT hZ (hw _ (List.mem_of_getElem? (i := 6) rfl))) (by decide) (backOf (W := 2) (own_rm1_o l Z a0 hw [] b1 (3 : Int32) (1 : Int32) (2 : Int32) h6 n0 z119 (by decide)) hZ (hw _ (List.mem_of_getElem? (i := 6) rfl)) (hw _ (List.mem_of_getElem? (i := 5) rfl)) (by decide) (by decide)) (g := (mkF m 110 #[.val (.int p1), .val (.int p2), .val (.int p3), .val (.int p4), .val (.int p5), .val (.ref b1), .val (.int (3 : Int32)), .val (.int (4 : Int32)), .val (.int (1 : Int32)), .unset, .unset, .unset, .unset, .unset] [(.int (2 : Int32)), (.int (1 : Int32)), (.int (3 : Int32)), (.ref b1), (.long (((c3.toInt64) * (1 : Int64)) + (0 : Int64)))])) rfl (by rw [hml]; rfl) (argsL := [(.ref b1), (.int (3 : Int32)), (.int (1 : Int32)), (.int (2 : Int32))]) (rest := [(.long (((c3.toInt64) * (1 : Int64)) + (0 : Int64)))]) (lenOf own_pd1 rfl) rfl (by show 2 * 0 + _ ≤ _; exact Nat.le_of_eq rfl) (hb hby at_110) (fun _ _ => ⟨rfl, eq121, (by decide : 1 + 0 ≤ _), (by decide : 5 + 0 ≤ _)⟩)
      dsimp only [Pt.U, Pt.locs, Pt.cells, Pt.slots] at X122 l122 y122 z122 st122 hQ122
      subst l122 y122 z122
      obtain ⟨rfl, Nq122, eq122⟩ := hQ122
      refine OE.of (fun _ k => st122 _ k) ?_
      have N122 := Fr.app N121 Nq122
      show OE _ p e below s _ _ _ T122 (mkF m 113 #[.val (.int p1), .val (.int p2), .val (.int p3), .val (.int p4), .val (.int p5), .val (.ref b1), .val (.int (3 : Int32)), .val (.int (4 : Int32)), .val (.int (1 : Int32)), .unset, .unset, .unset, .unset, .unset] [(.long (0 : Int64)), (.long (((c3.toInt64) * (1 : Int64)) + (0 : Int64)))])
      refine OE.ladd X122 hx hby at_113 ?_
      refine OE.aload X122 hx hby at_114 rfl rfl ?_
      refine OE.iload X122 hx hby at_116 rfl ?_
      refine OE.iload X122 hx hby at_118 rfl ?_
      refine OE.iconst X122 hx hby at_120 (3 : Int32) rfl ?_
      obtain ⟨_, _, ⟨T123, L123, k123, n123⟩, -, X123, ⟨Lc123, hQ123, l123, y123, z123⟩, st123⟩ := Jvm.LawKit.callS X122 hx (y := (⟨"com/example/archerfish/archerfish/index/TokenTableHashPinLaw", "term", "([CIII)J"⟩ : MethodName)) hown (mvT hZ (hw _ (List.mem_of_getElem? (i := 3) rfl))) (mvT hZ (hw _ (List.mem_of_getElem? (i := 4) rfl))) (mvT hZ (hw _ (List.mem_of_getElem? (i := 5) rfl))) (mvT hZ (hw _ (List.mem_of_getElem? (i := 6) rfl))) (by decide) (backOf (W := 2) (own_rm1_o l Z a0 hw [] b1 (3 : Int32) (1 : Int32) (3 : Int32) h6 n0 z119 (by decide)) hZ (hw _ (List.mem_of_getElem? (i := 6) rfl)) (hw _ (List.mem_of_getElem? (i := 5) rfl)) (by decide) (by decide)) (g := (mkF m 121 #[.val (.int p1), .val (.int p2), .val (.int p3), .val (.int p4), .val (.int p5), .val (.ref b1), .val (.int (3 : Int32)), .val (.int (4 : Int32)), .val (.int (1 : Int32)), .unset, .unset, .unset, .unset, .unset] [(.int (3 : Int32)), (.int (1 : Int32)), (.int (3 : Int32)), (.ref b1), (.long ((((c3.toInt64) * (1 : Int64)) + (0 : Int64)) + (0 : Int64)))])) rfl (by rw [hml]; rfl) (argsL := [(.ref b1), (.int (3 : Int32)), (.int (1 : Int32)), (.int (3 : Int32))]) (rest := [(.long ((((c3.toInt64) * (1 : Int64)) + (0 : Int64)) + (0 : Int64)))]) (lenOf own_pd1 rfl) rfl (by show 2 * 0 + _ ≤ _; exact Nat.le_of_eq rfl) (hb hby at_121) (fun _ _ => ⟨rfl, eq122, (by decide : 1 + 0 ≤ _), (by decide : 5 + 0 ≤ _)⟩)
      dsimp only [Pt.U, Pt.locs, Pt.cells, Pt.slots] at X123 l123 y123 z123 st123 hQ123
      subst l123 y123 z123
      obtain ⟨rfl, Nq123, eq123⟩ := hQ123
      refine OE.of (fun _ k => st123 _ k) ?_
      have N123 := Fr.app N122 Nq123
      show OE _ p e below s _ _ _ T123 (mkF m 124 #[.val (.int p1), .val (.int p2), .val (.int p3), .val (.int p4), .val (.int p5), .val (.ref b1), .val (.int (3 : Int32)), .val (.int (4 : Int32)), .val (.int (1 : Int32)), .unset, .unset, .unset, .unset, .unset] [(.long (0 : Int64)), (.long ((((c3.toInt64) * (1 : Int64)) + (0 : Int64)) + (0 : Int64)))])
      refine OE.ladd X123 hx hby at_124 ?_
      refine OE.aload X123 hx hby at_125 rfl rfl ?_
      refine OE.iload X123 hx hby at_127 rfl ?_
      refine OE.iload X123 hx hby at_129 rfl ?_
      refine OE.iconst X123 hx hby at_131 (4 : Int32) rfl ?_
      obtain ⟨_, _, ⟨T124, L124, k124, n124⟩, -, X124, ⟨Lc124, hQ124, l124, y124, z124⟩, st124⟩ := Jvm.LawKit.callS X123 hx (y := (⟨"com/example/archerfish/archerfish/index/TokenTableHashPinLaw", "term", "([CIII)J"⟩ : MethodName)) hown (mvT hZ (hw _ (List.mem_of_getElem? (i := 3) rfl))) (mvT hZ (hw _ (List.mem_of_getElem? (i := 4) rfl))) (mvT hZ (hw _ (List.mem_of_getElem? (i := 5) rfl))) (mvT hZ (hw _ (List.mem_of_getElem? (i := 6) rfl))) (by decide) (backOf (W := 2) (own_rm1_o l Z a0 hw [] b1 (3 : Int32) (1 : Int32) (4 : Int32) h6 n0 z119 (by decide)) hZ (hw _ (List.mem_of_getElem? (i := 6) rfl)) (hw _ (List.mem_of_getElem? (i := 5) rfl)) (by decide) (by decide)) (g := (mkF m 132 #[.val (.int p1), .val (.int p2), .val (.int p3), .val (.int p4), .val (.int p5), .val (.ref b1), .val (.int (3 : Int32)), .val (.int (4 : Int32)), .val (.int (1 : Int32)), .unset, .unset, .unset, .unset, .unset] [(.int (4 : Int32)), (.int (1 : Int32)), (.int (3 : Int32)), (.ref b1), (.long (((((c3.toInt64) * (1 : Int64)) + (0 : Int64)) + (0 : Int64)) + (0 : Int64)))])) rfl (by rw [hml]; rfl) (argsL := [(.ref b1), (.int (3 : Int32)), (.int (1 : Int32)), (.int (4 : Int32))]) (rest := [(.long (((((c3.toInt64) * (1 : Int64)) + (0 : Int64)) + (0 : Int64)) + (0 : Int64)))]) (lenOf own_pd1 rfl) rfl (by show 2 * 0 + _ ≤ _; exact Nat.le_of_eq rfl) (hb hby at_132) (fun _ _ => ⟨rfl, eq123, (by decide : 1 + 0 ≤ _), (by decide : 5 + 0 ≤ _)⟩)
      dsimp only [Pt.U, Pt.locs, Pt.cells, Pt.slots] at X124 l124 y124 z124 st124 hQ124
      subst l124 y124 z124
      obtain ⟨rfl, Nq124, eq124⟩ := hQ124
      refine OE.of (fun _ k => st124 _ k) ?_
      have N124 := Fr.app N123 Nq124
      show OE _ p e below s _ _ _ T124 (mkF m 135 #[.val (.int p1), .val (.int p2), .val (.int p3), .val (.int p4), .val (.int p5), .val (.ref b1), .val (.int (3 : Int32)), .val (.int (4 : Int32)), .val (.int (1 : Int32)), .unset, .unset, .unset, .unset, .unset] [(.long (0 : Int64)), (.long (((((c3.toInt64) * (1 : Int64)) + (0 : Int64)) + (0 : Int64)) + (0 : Int64)))])
      refine OE.ladd X124 hx hby at_135 ?_
      refine OE.lstore X124 hx hby at_136 (l' := #[.val (.int p1), .val (.int p2), .val (.int p3), .val (.int p4), .val (.int p5), .val (.ref b1), .val (.int (3 : Int32)), .val (.int (4 : Int32)), .val (.int (1 : Int32)), .val (.long ((((((c3.toInt64) * (1 : Int64)) + (0 : Int64)) + (0 : Int64)) + (0 : Int64)) + (0 : Int64))), .second, .unset, .unset, .unset]) rfl ?_
      refine OE.lload X124 hx hby at_138 rfl ?_
      refine OE.l2i X124 hx hby at_140 ?_
      rw [(own_poly1 c3 : (((((((c3.toInt64) * (1 : Int64)) + (0 : Int64)) + (0 : Int64)) + (0 : Int64)) + (0 : Int64)).toInt32) = ((0 : Int32) + c3))]
      show OE _ p e below s _ _ _ T124 (mkF m 141 #[.val (.int p1), .val (.int p2), .val (.int p3), .val (.int p4), .val (.int p5), .val (.ref b1), .val (.int (3 : Int32)), .val (.int (4 : Int32)), .val (.int (1 : Int32)), .val (.long ((((((c3.toInt64) * (1 : Int64)) + (0 : Int64)) + (0 : Int64)) + (0 : Int64)) + (0 : Int64))), .second, .unset, .unset, .unset] [(.int ((0 : Int32) + c3))])
      refine OE.istore X124 hx hby at_141 (l' := #[.val (.int p1), .val (.int p2), .val (.int p3), .val (.int p4), .val (.int p5), .val (.ref b1), .val (.int (3 : Int32)), .val (.int (4 : Int32)), .val (.int (1 : Int32)), .val (.long ((((((c3.toInt64) * (1 : Int64)) + (0 : Int64)) + (0 : Int64)) + (0 : Int64)) + (0 : Int64))), .second, .val (.int ((0 : Int32) + c3)), .unset, .unset]) rfl ?_
      refine OE.iload X124 hx hby at_143 rfl ?_
      refine OE.i2l X124 hx hby at_145 ?_
      refine OE.of (X124.ldc2Long hx hown (mvT hZ (hw _ (List.mem_of_getElem? (i := 7) rfl))) (g := (mkF m 146 #[.val (.int p1), .val (.int p2), .val (.int p3), .val (.int p4), .val (.int p5), .val (.ref b1), .val (.int (3 : Int32)), .val (.int (4 : Int32)), .val (.int (1 : Int32)), .val (.long ((((((c3.toInt64) * (1 : Int64)) + (0 : Int64)) + (0 : Int64)) + (0 : Int64)) + (0 : Int64))), .second, .val (.int ((0 : Int32) + c3)), .unset, .unset] [(.long (((0 : Int32) + c3).toInt64))])) rfl (hb hby at_146)) ?_
      show OE _ p e below s _ _ _ T124 (mkF m 149 #[.val (.int p1), .val (.int p2), .val (.int p3), .val (.int p4), .val (.int p5), .val (.ref b1), .val (.int (3 : Int32)), .val (.int (4 : Int32)), .val (.int (1 : Int32)), .val (.long ((((((c3.toInt64) * (1 : Int64)) + (0 : Int64)) + (0 : Int64)) + (0 : Int64)) + (0 : Int64))), .second, .val (.int ((0 : Int32) + c3)), .unset, .unset] [(.long (2654435769 : Int64)), (.long (((0 : Int32) + c3).toInt64))])
      refine OE.lmul X124 hx hby at_149 ?_
      refine OE.l2i X124 hx hby at_150 ?_
      rw [(own_mul _ : (((((0 : Int32) + c3).toInt64) * (2654435769 : Int64)).toInt32) = (((0 : Int32) + c3) * (-1640531527 : Int32)))]
      show OE _ p e below s _ _ _ T124 (mkF m 151 #[.val (.int p1), .val (.int p2), .val (.int p3), .val (.int p4), .val (.int p5), .val (.ref b1), .val (.int (3 : Int32)), .val (.int (4 : Int32)), .val (.int (1 : Int32)), .val (.long ((((((c3.toInt64) * (1 : Int64)) + (0 : Int64)) + (0 : Int64)) + (0 : Int64)) + (0 : Int64))), .second, .val (.int ((0 : Int32) + c3)), .unset, .unset] [(.int (((0 : Int32) + c3) * (-1640531527 : Int32)))])
      refine OE.istore X124 hx hby at_151 (l' := #[.val (.int p1), .val (.int p2), .val (.int p3), .val (.int p4), .val (.int p5), .val (.ref b1), .val (.int (3 : Int32)), .val (.int (4 : Int32)), .val (.int (1 : Int32)), .val (.long ((((((c3.toInt64) * (1 : Int64)) + (0 : Int64)) + (0 : Int64)) + (0 : Int64)) + (0 : Int64))), .second, .val (.int ((0 : Int32) + c3)), .val (.int (((0 : Int32) + c3) * (-1640531527 : Int32))), .unset]) rfl ?_
      refine OE.aload X124 hx hby at_153 rfl rfl ?_
      refine OE.iload X124 hx hby at_155 rfl ?_
      refine OE.iload X124 hx hby at_157 rfl ?_
      obtain ⟨_, _, ⟨T125, L125, k125, n125⟩, -, X125, ⟨Lc125, hQ125, l125, y125, z125⟩, st125⟩ := Jvm.LawKit.callS X124 hx (y := (⟨"com/example/archerfish/archerfish/index/TokenTable", "hash", "([CII)I"⟩ : MethodName)) hown (mvT hZ (hw _ (List.mem_of_getElem? (i := 8) rfl))) (mvT hZ (hw _ (List.mem_of_getElem? (i := 9) rfl))) (mvT hZ (hw _ (List.mem_of_getElem? (i := 10) rfl))) (mvT hZ (hw _ (List.mem_of_getElem? (i := 11) rfl))) (by decide) (backOf (W := 0) (own_rm2_3_1 l Z a0 hw [] b1 c0 c1 c2 c3 c4 k1 h6 n0 z119 Vc) hZ (hw _ (List.mem_of_getElem? (i := 11) rfl)) (hw _ (List.mem_of_getElem? (i := 10) rfl)) (by decide) (by decide)) (g := (mkF m 159 #[.val (.int p1), .val (.int p2), .val (.int p3), .val (.int p4), .val (.int p5), .val (.ref b1), .val (.int (3 : Int32)), .val (.int (4 : Int32)), .val (.int (1 : Int32)), .val (.long ((((((c3.toInt64) * (1 : Int64)) + (0 : Int64)) + (0 : Int64)) + (0 : Int64)) + (0 : Int64))), .second, .val (.int ((0 : Int32) + c3)), .val (.int (((0 : Int32) + c3) * (-1640531527 : Int32))), .unset] [(.int (4 : Int32)), (.int (3 : Int32)), (.ref b1)])) rfl (by rw [hml]; rfl) (argsL := [(.ref b1), (.int (3 : Int32)), (.int (4 : Int32))]) (rest := []) (lenOf own_pd2 rfl) rfl (by show 2 * 0 + _ ≤ _; exact Nat.le_of_eq rfl) (hb hby at_159) (fun _ _ => ⟨rfl, eq124, (by decide : 1 + 0 ≤ _), (by decide : 5 + 0 ≤ _)⟩)
      dsimp only [Pt.U, Pt.locs, Pt.cells, Pt.slots] at X125 l125 y125 z125 st125 hQ125
      subst l125 y125 z125
      obtain ⟨rfl, Nq125, eq125⟩ := hQ125
      refine OE.of (fun _ k => st125 _ k) ?_
      have N125 := Fr.app N124 Nq125
      show OE _ p e below s _ _ _ T125 (mkF m 162 #[.val (.int p1), .val (.int p2), .val (.int p3), .val (.int p4), .val (.int p5), .val (.ref b1), .val (.int (3 : Int32)), .val (.int (4 : Int32)), .val (.int (1 : Int32)), .val (.long ((((((c3.toInt64) * (1 : Int64)) + (0 : Int64)) + (0 : Int64)) + (0 : Int64)) + (0 : Int64))), .second, .val (.int ((0 : Int32) + c3)), .val (.int (((0 : Int32) + c3) * (-1640531527 : Int32))), .unset] [(.int ((((0 : Int32) + c3) * (-1640531527 : Int32)) ^^^ (((((0 : Int32) + c3) * (-1640531527 : Int32)).toUInt32 >>> ((16 : Int32) &&& 31).toUInt32).toInt32)))])
      refine OE.istore X125 hx hby at_162 (l' := #[.val (.int p1), .val (.int p2), .val (.int p3), .val (.int p4), .val (.int p5), .val (.ref b1), .val (.int (3 : Int32)), .val (.int (4 : Int32)), .val (.int (1 : Int32)), .val (.long ((((((c3.toInt64) * (1 : Int64)) + (0 : Int64)) + (0 : Int64)) + (0 : Int64)) + (0 : Int64))), .second, .val (.int ((0 : Int32) + c3)), .val (.int (((0 : Int32) + c3) * (-1640531527 : Int32))), .val (.int ((((0 : Int32) + c3) * (-1640531527 : Int32)) ^^^ (((((0 : Int32) + c3) * (-1640531527 : Int32)).toUInt32 >>> ((16 : Int32) &&& 31).toUInt32).toInt32)))]) rfl ?_
      refine OE.iload X125 hx hby at_164 rfl ?_
      refine OE.bipush X125 hx hby at_166 (16 : Int32) rfl ?_
      refine OE.iushr X125 hx hby at_168 ?_
      refine OE.iload X125 hx hby at_169 rfl ?_
      refine OE.bipush X125 hx hby at_171 (16 : Int32) rfl ?_
      refine OE.iushr X125 hx hby at_173 ?_
      refine OE.icmpNo X125 hx hby at_174 (teq (own_top _ : ((((((0 : Int32) + c3) * (-1640531527 : Int32)) ^^^ (((((0 : Int32) + c3) * (-1640531527 : Int32)).toUInt32 >>> ((16 : Int32) &&& 31).toUInt32).toInt32)).toUInt32 >>> ((16 : Int32) &&& 31).toUInt32).toInt32) = (((((0 : Int32) + c3) * (-1640531527 : Int32)).toUInt32 >>> ((16 : Int32) &&& 31).toUInt32).toInt32))).2 ?_
      refine OE.iload X125 hx hby at_177 rfl ?_
      refine OE.of (X125.ldcInt hx hown (mvT hZ (hw _ (List.mem_of_getElem? (i := 1) rfl))) (g := (mkF m 179 #[.val (.int p1), .val (.int p2), .val (.int p3), .val (.int p4), .val (.int p5), .val (.ref b1), .val (.int (3 : Int32)), .val (.int (4 : Int32)), .val (.int (1 : Int32)), .val (.long ((((((c3.toInt64) * (1 : Int64)) + (0 : Int64)) + (0 : Int64)) + (0 : Int64)) + (0 : Int64))), .second, .val (.int ((0 : Int32) + c3)), .val (.int (((0 : Int32) + c3) * (-1640531527 : Int32))), .val (.int ((((0 : Int32) + c3) * (-1640531527 : Int32)) ^^^ (((((0 : Int32) + c3) * (-1640531527 : Int32)).toUInt32 >>> ((16 : Int32) &&& 31).toUInt32).toInt32)))] [(.int ((((0 : Int32) + c3) * (-1640531527 : Int32)) ^^^ (((((0 : Int32) + c3) * (-1640531527 : Int32)).toUInt32 >>> ((16 : Int32) &&& 31).toUInt32).toInt32)))])) rfl (hb hby at_179)) ?_
      show OE _ p e below s _ _ _ T125 (mkF m 181 #[.val (.int p1), .val (.int p2), .val (.int p3), .val (.int p4), .val (.int p5), .val (.ref b1), .val (.int (3 : Int32)), .val (.int (4 : Int32)), .val (.int (1 : Int32)), .val (.long ((((((c3.toInt64) * (1 : Int64)) + (0 : Int64)) + (0 : Int64)) + (0 : Int64)) + (0 : Int64))), .second, .val (.int ((0 : Int32) + c3)), .val (.int (((0 : Int32) + c3) * (-1640531527 : Int32))), .val (.int ((((0 : Int32) + c3) * (-1640531527 : Int32)) ^^^ (((((0 : Int32) + c3) * (-1640531527 : Int32)).toUInt32 >>> ((16 : Int32) &&& 31).toUInt32).toInt32)))] [(.int (65535 : Int32)), (.int ((((0 : Int32) + c3) * (-1640531527 : Int32)) ^^^ (((((0 : Int32) + c3) * (-1640531527 : Int32)).toUInt32 >>> ((16 : Int32) &&& 31).toUInt32).toInt32)))])
      refine OE.iand X125 hx hby at_181 ?_
      refine OE.iload X125 hx hby at_182 rfl ?_
      refine OE.iload X125 hx hby at_184 rfl ?_
      refine OE.bipush X125 hx hby at_186 (16 : Int32) rfl ?_
      refine OE.iushr X125 hx hby at_188 ?_
      refine OE.ixor X125 hx hby at_189 ?_
      refine OE.of (X125.ldcInt hx hown (mvT hZ (hw _ (List.mem_of_getElem? (i := 1) rfl))) (g := (mkF m 190 #[.val (.int p1), .val (.int p2), .val (.int p3), .val (.int p4), .val (.int p5), .val (.ref b1), .val (.int (3 : Int32)), .val (.int (4 : Int32)), .val (.int (1 : Int32)), .val (.long ((((((c3.toInt64) * (1 : Int64)) + (0 : Int64)) + (0 : Int64)) + (0 : Int64)) + (0 : Int64))), .second, .val (.int ((0 : Int32) + c3)), .val (.int (((0 : Int32) + c3) * (-1640531527 : Int32))), .val (.int ((((0 : Int32) + c3) * (-1640531527 : Int32)) ^^^ (((((0 : Int32) + c3) * (-1640531527 : Int32)).toUInt32 >>> ((16 : Int32) &&& 31).toUInt32).toInt32)))] [(.int ((((0 : Int32) + c3) * (-1640531527 : Int32)) ^^^ (((((0 : Int32) + c3) * (-1640531527 : Int32)).toUInt32 >>> ((16 : Int32) &&& 31).toUInt32).toInt32))), (.int (((((0 : Int32) + c3) * (-1640531527 : Int32)) ^^^ (((((0 : Int32) + c3) * (-1640531527 : Int32)).toUInt32 >>> ((16 : Int32) &&& 31).toUInt32).toInt32)) &&& (65535 : Int32)))])) rfl (hb hby at_190)) ?_
      show OE _ p e below s _ _ _ T125 (mkF m 192 #[.val (.int p1), .val (.int p2), .val (.int p3), .val (.int p4), .val (.int p5), .val (.ref b1), .val (.int (3 : Int32)), .val (.int (4 : Int32)), .val (.int (1 : Int32)), .val (.long ((((((c3.toInt64) * (1 : Int64)) + (0 : Int64)) + (0 : Int64)) + (0 : Int64)) + (0 : Int64))), .second, .val (.int ((0 : Int32) + c3)), .val (.int (((0 : Int32) + c3) * (-1640531527 : Int32))), .val (.int ((((0 : Int32) + c3) * (-1640531527 : Int32)) ^^^ (((((0 : Int32) + c3) * (-1640531527 : Int32)).toUInt32 >>> ((16 : Int32) &&& 31).toUInt32).toInt32)))] [(.int (65535 : Int32)), (.int ((((0 : Int32) + c3) * (-1640531527 : Int32)) ^^^ (((((0 : Int32) + c3) * (-1640531527 : Int32)).toUInt32 >>> ((16 : Int32) &&& 31).toUInt32).toInt32))), (.int (((((0 : Int32) + c3) * (-1640531527 : Int32)) ^^^ (((((0 : Int32) + c3) * (-1640531527 : Int32)).toUInt32 >>> ((16 : Int32) &&& 31).toUInt32).toInt32)) &&& (65535 : Int32)))])
      refine OE.iand X125 hx hby at_192 ?_
      refine OE.icmpNo X125 hx hby at_193 (teq (rfl : (((((0 : Int32) + c3) * (-1640531527 : Int32)) ^^^ (((((0 : Int32) + c3) * (-1640531527 : Int32)).toUInt32 >>> ((16 : Int32) &&& 31).toUInt32).toInt32)) &&& (65535 : Int32)) = (((((0 : Int32) + c3) * (-1640531527 : Int32)) ^^^ (((((0 : Int32) + c3) * (-1640531527 : Int32)).toUInt32 >>> ((16 : Int32) &&& 31).toUInt32).toInt32)) &&& (65535 : Int32)))).2 ?_
      refine OE.iconst X125 hx hby at_196 (1 : Int32) rfl ?_
      refine OE.goto X125 hx hby (pc' := 201) at_197 (h := ?_)
      refine OE.retN X125 hx (t := .boolean) Bd.returns (by simp) Bd.notSynchronized (hb hby at_201) (by decide) (by decide) ?_
      rw [eq125]
      exact ⟨rfl, N125⟩
    · rw [hm]
      show OE _ p e below s _ _ _ T6 (mkF m 72 #[.val (.int p1), .val (.int p2), .val (.int p3), .val (.int p4), .val (.int p5), .val (.ref b1), .val (.int (3 : Int32)), .unset, .unset, .unset, .unset, .unset, .unset, .unset] [(.int (2 : Int32)), (.int (3 : Int32))])
      refine OE.iadd X6 hx hby at_72 ?_
      rw [(by decide : ((3 : Int32) + (2 : Int32)) = (5 : Int32))]
      refine OE.istore X6 hx hby at_73 (l' := #[.val (.int p1), .val (.int p2), .val (.int p3), .val (.int p4), .val (.int p5), .val (.ref b1), .val (.int (3 : Int32)), .val (.int (5 : Int32)), .unset, .unset, .unset, .unset, .unset, .unset]) rfl ?_
      refine OE.iload X6 hx hby at_75 rfl ?_
      refine OE.iload X6 hx hby at_77 rfl ?_
      refine OE.isub X6 hx hby at_79 ?_
      rw [(by decide : ((5 : Int32) - (3 : Int32)) = (2 : Int32))]
      refine OE.istore X6 hx hby at_80 (l' := #[.val (.int p1), .val (.int p2), .val (.int p3), .val (.int p4), .val (.int p5), .val (.ref b1), .val (.int (3 : Int32)), .val (.int (5 : Int32)), .val (.int (2 : Int32)), .unset, .unset, .unset, .unset, .unset]) rfl ?_
      refine OE.aload X6 hx hby at_82 rfl rfl ?_
      refine OE.iload X6 hx hby at_84 rfl ?_
      refine OE.iload X6 hx hby at_86 rfl ?_
      refine OE.iconst X6 hx hby at_88 (0 : Int32) rfl ?_
      have z126 : n0 ≤ h6.size := (Nat.le_trans (Nat.le_trans (Nat.le_trans (Nat.le_trans (Nat.le_trans (Nat.le_trans Z0 E1.1) (Nat.le_of_eq W2.size.symm)) (Nat.le_of_eq W3.size.symm)) (Nat.le_of_eq W4.size.symm)) (Nat.le_of_eq W5.size.symm)) (Nat.le_of_eq W6.size.symm))
      obtain ⟨_, _, ⟨T127, L127, k127, n127⟩, -, X127, ⟨Lc127, hQ127, l127, y127, z127⟩, st127⟩ := Jvm.LawKit.callS X6 hx (y := (⟨"com/example/archerfish/archerfish/index/TokenTableHashPinLaw", "term", "([CIII)J"⟩ : MethodName)) hown (mvT hZ (hw _ (List.mem_of_getElem? (i := 3) rfl))) (mvT hZ (hw _ (List.mem_of_getElem? (i := 4) rfl))) (mvT hZ (hw _ (List.mem_of_getElem? (i := 5) rfl))) (mvT hZ (hw _ (List.mem_of_getElem? (i := 6) rfl))) (by decide) (backOf (W := 0) (own_rm1_2_0 l Z a0 hw [] b1 (3 : Int32) c3 k1 [(.int c0), (.int c1), (.int c2), (.int c3), (.int c4)] h6 n0 z126 Vc ⟨by decide, by decide⟩ rfl) hZ (hw _ (List.mem_of_getElem? (i := 6) rfl)) (hw _ (List.mem_of_getElem? (i := 5) rfl)) (by decide) (by decide)) (g := (mkF m 89 #[.val (.int p1), .val (.int p2), .val (.int p3), .val (.int p4), .val (.int p5), .val (.ref b1), .val (.int (3 : Int32)), .val (.int (5 : Int32)), .val (.int (2 : Int32)), .unset, .unset, .unset, .unset, .unset] [(.int (0 : Int32)), (.int (2 : Int32)), (.int (3 : Int32)), (.ref b1)])) rfl (by rw [hml]; rfl) (argsL := [(.ref b1), (.int (3 : Int32)), (.int (2 : Int32)), (.int (0 : Int32))]) (rest := []) (lenOf own_pd1 rfl) rfl (by show 2 * 0 + _ ≤ _; exact Nat.le_of_eq rfl) (hb hby at_89) (fun _ _ => ⟨rfl, e6, (by decide : 1 + 0 ≤ _), (by decide : 5 + 0 ≤ _)⟩)
      dsimp only [Pt.U, Pt.locs, Pt.cells, Pt.slots] at X127 l127 y127 z127 st127 hQ127
      subst l127 y127 z127
      obtain ⟨rfl, Nq127, eq127⟩ := hQ127
      refine OE.of (fun _ k => st127 _ k) ?_
      have N127 := Fr.app N6 Nq127
      show OE _ p e below s _ _ _ T127 (mkF m 92 #[.val (.int p1), .val (.int p2), .val (.int p3), .val (.int p4), .val (.int p5), .val (.ref b1), .val (.int (3 : Int32)), .val (.int (5 : Int32)), .val (.int (2 : Int32)), .unset, .unset, .unset, .unset, .unset] [(.long ((c3.toInt64) * (31 : Int64)))])
      refine OE.aload X127 hx hby at_92 rfl rfl ?_
      refine OE.iload X127 hx hby at_94 rfl ?_
      refine OE.iload X127 hx hby at_96 rfl ?_
      refine OE.iconst X127 hx hby at_98 (1 : Int32) rfl ?_
      obtain ⟨_, _, ⟨T128, L128, k128, n128⟩, -, X128, ⟨Lc128, hQ128, l128, y128, z128⟩, st128⟩ := Jvm.LawKit.callS X127 hx (y := (⟨"com/example/archerfish/archerfish/index/TokenTableHashPinLaw", "term", "([CIII)J"⟩ : MethodName)) hown (mvT hZ (hw _ (List.mem_of_getElem? (i := 3) rfl))) (mvT hZ (hw _ (List.mem_of_getElem? (i := 4) rfl))) (mvT hZ (hw _ (List.mem_of_getElem? (i := 5) rfl))) (mvT hZ (hw _ (List.mem_of_getElem? (i := 6) rfl))) (by decide) (backOf (W := 2) (own_rm1_2_1 l Z a0 hw [] b1 (3 : Int32) c4 k1 [(.int c0), (.int c1), (.int c2), (.int c3), (.int c4)] h6 n0 z126 Vc ⟨by decide, by decide⟩ rfl) hZ (hw _ (List.mem_of_getElem? (i := 6) rfl)) (hw _ (List.mem_of_getElem? (i := 5) rfl)) (by decide) (by decide)) (g := (mkF m 99 #[.val (.int p1), .val (.int p2), .val (.int p3), .val (.int p4), .val (.int p5), .val (.ref b1), .val (.int (3 : Int32)), .val (.int (5 : Int32)), .val (.int (2 : Int32)), .unset, .unset, .unset, .unset, .unset] [(.int (1 : Int32)), (.int (2 : Int32)), (.int (3 : Int32)), (.ref b1), (.long ((c3.toInt64) * (31 : Int64)))])) rfl (by rw [hml]; rfl) (argsL := [(.ref b1), (.int (3 : Int32)), (.int (2 : Int32)), (.int (1 : Int32))]) (rest := [(.long ((c3.toInt64) * (31 : Int64)))]) (lenOf own_pd1 rfl) rfl (by show 2 * 0 + _ ≤ _; exact Nat.le_of_eq rfl) (hb hby at_99) (fun _ _ => ⟨rfl, eq127, (by decide : 1 + 0 ≤ _), (by decide : 5 + 0 ≤ _)⟩)
      dsimp only [Pt.U, Pt.locs, Pt.cells, Pt.slots] at X128 l128 y128 z128 st128 hQ128
      subst l128 y128 z128
      obtain ⟨rfl, Nq128, eq128⟩ := hQ128
      refine OE.of (fun _ k => st128 _ k) ?_
      have N128 := Fr.app N127 Nq128
      show OE _ p e below s _ _ _ T128 (mkF m 102 #[.val (.int p1), .val (.int p2), .val (.int p3), .val (.int p4), .val (.int p5), .val (.ref b1), .val (.int (3 : Int32)), .val (.int (5 : Int32)), .val (.int (2 : Int32)), .unset, .unset, .unset, .unset, .unset] [(.long ((c4.toInt64) * (1 : Int64))), (.long ((c3.toInt64) * (31 : Int64)))])
      refine OE.ladd X128 hx hby at_102 ?_
      refine OE.aload X128 hx hby at_103 rfl rfl ?_
      refine OE.iload X128 hx hby at_105 rfl ?_
      refine OE.iload X128 hx hby at_107 rfl ?_
      refine OE.iconst X128 hx hby at_109 (2 : Int32) rfl ?_
      obtain ⟨_, _, ⟨T129, L129, k129, n129⟩, -, X129, ⟨Lc129, hQ129, l129, y129, z129⟩, st129⟩ := Jvm.LawKit.callS X128 hx (y := (⟨"com/example/archerfish/archerfish/index/TokenTableHashPinLaw", "term", "([CIII)J"⟩ : MethodName)) hown (mvT hZ (hw _ (List.mem_of_getElem? (i := 3) rfl))) (mvT hZ (hw _ (List.mem_of_getElem? (i := 4) rfl))) (mvT hZ (hw _ (List.mem_of_getElem? (i := 5) rfl))) (mvT hZ (hw _ (List.mem_of_getElem? (i := 6) rfl))) (by decide) (backOf (W := 2) (own_rm1_o l Z a0 hw [] b1 (3 : Int32) (2 : Int32) (2 : Int32) h6 n0 z126 (by decide)) hZ (hw _ (List.mem_of_getElem? (i := 6) rfl)) (hw _ (List.mem_of_getElem? (i := 5) rfl)) (by decide) (by decide)) (g := (mkF m 110 #[.val (.int p1), .val (.int p2), .val (.int p3), .val (.int p4), .val (.int p5), .val (.ref b1), .val (.int (3 : Int32)), .val (.int (5 : Int32)), .val (.int (2 : Int32)), .unset, .unset, .unset, .unset, .unset] [(.int (2 : Int32)), (.int (2 : Int32)), (.int (3 : Int32)), (.ref b1), (.long (((c3.toInt64) * (31 : Int64)) + ((c4.toInt64) * (1 : Int64))))])) rfl (by rw [hml]; rfl) (argsL := [(.ref b1), (.int (3 : Int32)), (.int (2 : Int32)), (.int (2 : Int32))]) (rest := [(.long (((c3.toInt64) * (31 : Int64)) + ((c4.toInt64) * (1 : Int64))))]) (lenOf own_pd1 rfl) rfl (by show 2 * 0 + _ ≤ _; exact Nat.le_of_eq rfl) (hb hby at_110) (fun _ _ => ⟨rfl, eq128, (by decide : 1 + 0 ≤ _), (by decide : 5 + 0 ≤ _)⟩)
      dsimp only [Pt.U, Pt.locs, Pt.cells, Pt.slots] at X129 l129 y129 z129 st129 hQ129
      subst l129 y129 z129
      obtain ⟨rfl, Nq129, eq129⟩ := hQ129
      refine OE.of (fun _ k => st129 _ k) ?_
      have N129 := Fr.app N128 Nq129
      show OE _ p e below s _ _ _ T129 (mkF m 113 #[.val (.int p1), .val (.int p2), .val (.int p3), .val (.int p4), .val (.int p5), .val (.ref b1), .val (.int (3 : Int32)), .val (.int (5 : Int32)), .val (.int (2 : Int32)), .unset, .unset, .unset, .unset, .unset] [(.long (0 : Int64)), (.long (((c3.toInt64) * (31 : Int64)) + ((c4.toInt64) * (1 : Int64))))])
      refine OE.ladd X129 hx hby at_113 ?_
      refine OE.aload X129 hx hby at_114 rfl rfl ?_
      refine OE.iload X129 hx hby at_116 rfl ?_
      refine OE.iload X129 hx hby at_118 rfl ?_
      refine OE.iconst X129 hx hby at_120 (3 : Int32) rfl ?_
      obtain ⟨_, _, ⟨T130, L130, k130, n130⟩, -, X130, ⟨Lc130, hQ130, l130, y130, z130⟩, st130⟩ := Jvm.LawKit.callS X129 hx (y := (⟨"com/example/archerfish/archerfish/index/TokenTableHashPinLaw", "term", "([CIII)J"⟩ : MethodName)) hown (mvT hZ (hw _ (List.mem_of_getElem? (i := 3) rfl))) (mvT hZ (hw _ (List.mem_of_getElem? (i := 4) rfl))) (mvT hZ (hw _ (List.mem_of_getElem? (i := 5) rfl))) (mvT hZ (hw _ (List.mem_of_getElem? (i := 6) rfl))) (by decide) (backOf (W := 2) (own_rm1_o l Z a0 hw [] b1 (3 : Int32) (2 : Int32) (3 : Int32) h6 n0 z126 (by decide)) hZ (hw _ (List.mem_of_getElem? (i := 6) rfl)) (hw _ (List.mem_of_getElem? (i := 5) rfl)) (by decide) (by decide)) (g := (mkF m 121 #[.val (.int p1), .val (.int p2), .val (.int p3), .val (.int p4), .val (.int p5), .val (.ref b1), .val (.int (3 : Int32)), .val (.int (5 : Int32)), .val (.int (2 : Int32)), .unset, .unset, .unset, .unset, .unset] [(.int (3 : Int32)), (.int (2 : Int32)), (.int (3 : Int32)), (.ref b1), (.long ((((c3.toInt64) * (31 : Int64)) + ((c4.toInt64) * (1 : Int64))) + (0 : Int64)))])) rfl (by rw [hml]; rfl) (argsL := [(.ref b1), (.int (3 : Int32)), (.int (2 : Int32)), (.int (3 : Int32))]) (rest := [(.long ((((c3.toInt64) * (31 : Int64)) + ((c4.toInt64) * (1 : Int64))) + (0 : Int64)))]) (lenOf own_pd1 rfl) rfl (by show 2 * 0 + _ ≤ _; exact Nat.le_of_eq rfl) (hb hby at_121) (fun _ _ => ⟨rfl, eq129, (by decide : 1 + 0 ≤ _), (by decide : 5 + 0 ≤ _)⟩)
      dsimp only [Pt.U, Pt.locs, Pt.cells, Pt.slots] at X130 l130 y130 z130 st130 hQ130
      subst l130 y130 z130
      obtain ⟨rfl, Nq130, eq130⟩ := hQ130
      refine OE.of (fun _ k => st130 _ k) ?_
      have N130 := Fr.app N129 Nq130
      show OE _ p e below s _ _ _ T130 (mkF m 124 #[.val (.int p1), .val (.int p2), .val (.int p3), .val (.int p4), .val (.int p5), .val (.ref b1), .val (.int (3 : Int32)), .val (.int (5 : Int32)), .val (.int (2 : Int32)), .unset, .unset, .unset, .unset, .unset] [(.long (0 : Int64)), (.long ((((c3.toInt64) * (31 : Int64)) + ((c4.toInt64) * (1 : Int64))) + (0 : Int64)))])
      refine OE.ladd X130 hx hby at_124 ?_
      refine OE.aload X130 hx hby at_125 rfl rfl ?_
      refine OE.iload X130 hx hby at_127 rfl ?_
      refine OE.iload X130 hx hby at_129 rfl ?_
      refine OE.iconst X130 hx hby at_131 (4 : Int32) rfl ?_
      obtain ⟨_, _, ⟨T131, L131, k131, n131⟩, -, X131, ⟨Lc131, hQ131, l131, y131, z131⟩, st131⟩ := Jvm.LawKit.callS X130 hx (y := (⟨"com/example/archerfish/archerfish/index/TokenTableHashPinLaw", "term", "([CIII)J"⟩ : MethodName)) hown (mvT hZ (hw _ (List.mem_of_getElem? (i := 3) rfl))) (mvT hZ (hw _ (List.mem_of_getElem? (i := 4) rfl))) (mvT hZ (hw _ (List.mem_of_getElem? (i := 5) rfl))) (mvT hZ (hw _ (List.mem_of_getElem? (i := 6) rfl))) (by decide) (backOf (W := 2) (own_rm1_o l Z a0 hw [] b1 (3 : Int32) (2 : Int32) (4 : Int32) h6 n0 z126 (by decide)) hZ (hw _ (List.mem_of_getElem? (i := 6) rfl)) (hw _ (List.mem_of_getElem? (i := 5) rfl)) (by decide) (by decide)) (g := (mkF m 132 #[.val (.int p1), .val (.int p2), .val (.int p3), .val (.int p4), .val (.int p5), .val (.ref b1), .val (.int (3 : Int32)), .val (.int (5 : Int32)), .val (.int (2 : Int32)), .unset, .unset, .unset, .unset, .unset] [(.int (4 : Int32)), (.int (2 : Int32)), (.int (3 : Int32)), (.ref b1), (.long (((((c3.toInt64) * (31 : Int64)) + ((c4.toInt64) * (1 : Int64))) + (0 : Int64)) + (0 : Int64)))])) rfl (by rw [hml]; rfl) (argsL := [(.ref b1), (.int (3 : Int32)), (.int (2 : Int32)), (.int (4 : Int32))]) (rest := [(.long (((((c3.toInt64) * (31 : Int64)) + ((c4.toInt64) * (1 : Int64))) + (0 : Int64)) + (0 : Int64)))]) (lenOf own_pd1 rfl) rfl (by show 2 * 0 + _ ≤ _; exact Nat.le_of_eq rfl) (hb hby at_132) (fun _ _ => ⟨rfl, eq130, (by decide : 1 + 0 ≤ _), (by decide : 5 + 0 ≤ _)⟩)
      dsimp only [Pt.U, Pt.locs, Pt.cells, Pt.slots] at X131 l131 y131 z131 st131 hQ131
      subst l131 y131 z131
      obtain ⟨rfl, Nq131, eq131⟩ := hQ131
      refine OE.of (fun _ k => st131 _ k) ?_
      have N131 := Fr.app N130 Nq131
      show OE _ p e below s _ _ _ T131 (mkF m 135 #[.val (.int p1), .val (.int p2), .val (.int p3), .val (.int p4), .val (.int p5), .val (.ref b1), .val (.int (3 : Int32)), .val (.int (5 : Int32)), .val (.int (2 : Int32)), .unset, .unset, .unset, .unset, .unset] [(.long (0 : Int64)), (.long (((((c3.toInt64) * (31 : Int64)) + ((c4.toInt64) * (1 : Int64))) + (0 : Int64)) + (0 : Int64)))])
      refine OE.ladd X131 hx hby at_135 ?_
      refine OE.lstore X131 hx hby at_136 (l' := #[.val (.int p1), .val (.int p2), .val (.int p3), .val (.int p4), .val (.int p5), .val (.ref b1), .val (.int (3 : Int32)), .val (.int (5 : Int32)), .val (.int (2 : Int32)), .val (.long ((((((c3.toInt64) * (31 : Int64)) + ((c4.toInt64) * (1 : Int64))) + (0 : Int64)) + (0 : Int64)) + (0 : Int64))), .second, .unset, .unset, .unset]) rfl ?_
      refine OE.lload X131 hx hby at_138 rfl ?_
      refine OE.l2i X131 hx hby at_140 ?_
      rw [(own_poly2 c3 c4 : (((((((c3.toInt64) * (31 : Int64)) + ((c4.toInt64) * (1 : Int64))) + (0 : Int64)) + (0 : Int64)) + (0 : Int64)).toInt32) = (((31 : Int32) * ((0 : Int32) + c3)) + c4))]
      show OE _ p e below s _ _ _ T131 (mkF m 141 #[.val (.int p1), .val (.int p2), .val (.int p3), .val (.int p4), .val (.int p5), .val (.ref b1), .val (.int (3 : Int32)), .val (.int (5 : Int32)), .val (.int (2 : Int32)), .val (.long ((((((c3.toInt64) * (31 : Int64)) + ((c4.toInt64) * (1 : Int64))) + (0 : Int64)) + (0 : Int64)) + (0 : Int64))), .second, .unset, .unset, .unset] [(.int (((31 : Int32) * ((0 : Int32) + c3)) + c4))])
      refine OE.istore X131 hx hby at_141 (l' := #[.val (.int p1), .val (.int p2), .val (.int p3), .val (.int p4), .val (.int p5), .val (.ref b1), .val (.int (3 : Int32)), .val (.int (5 : Int32)), .val (.int (2 : Int32)), .val (.long ((((((c3.toInt64) * (31 : Int64)) + ((c4.toInt64) * (1 : Int64))) + (0 : Int64)) + (0 : Int64)) + (0 : Int64))), .second, .val (.int (((31 : Int32) * ((0 : Int32) + c3)) + c4)), .unset, .unset]) rfl ?_
      refine OE.iload X131 hx hby at_143 rfl ?_
      refine OE.i2l X131 hx hby at_145 ?_
      refine OE.of (X131.ldc2Long hx hown (mvT hZ (hw _ (List.mem_of_getElem? (i := 7) rfl))) (g := (mkF m 146 #[.val (.int p1), .val (.int p2), .val (.int p3), .val (.int p4), .val (.int p5), .val (.ref b1), .val (.int (3 : Int32)), .val (.int (5 : Int32)), .val (.int (2 : Int32)), .val (.long ((((((c3.toInt64) * (31 : Int64)) + ((c4.toInt64) * (1 : Int64))) + (0 : Int64)) + (0 : Int64)) + (0 : Int64))), .second, .val (.int (((31 : Int32) * ((0 : Int32) + c3)) + c4)), .unset, .unset] [(.long ((((31 : Int32) * ((0 : Int32) + c3)) + c4).toInt64))])) rfl (hb hby at_146)) ?_
      show OE _ p e below s _ _ _ T131 (mkF m 149 #[.val (.int p1), .val (.int p2), .val (.int p3), .val (.int p4), .val (.int p5), .val (.ref b1), .val (.int (3 : Int32)), .val (.int (5 : Int32)), .val (.int (2 : Int32)), .val (.long ((((((c3.toInt64) * (31 : Int64)) + ((c4.toInt64) * (1 : Int64))) + (0 : Int64)) + (0 : Int64)) + (0 : Int64))), .second, .val (.int (((31 : Int32) * ((0 : Int32) + c3)) + c4)), .unset, .unset] [(.long (2654435769 : Int64)), (.long ((((31 : Int32) * ((0 : Int32) + c3)) + c4).toInt64))])
      refine OE.lmul X131 hx hby at_149 ?_
      refine OE.l2i X131 hx hby at_150 ?_
      rw [(own_mul _ : ((((((31 : Int32) * ((0 : Int32) + c3)) + c4).toInt64) * (2654435769 : Int64)).toInt32) = ((((31 : Int32) * ((0 : Int32) + c3)) + c4) * (-1640531527 : Int32)))]
      show OE _ p e below s _ _ _ T131 (mkF m 151 #[.val (.int p1), .val (.int p2), .val (.int p3), .val (.int p4), .val (.int p5), .val (.ref b1), .val (.int (3 : Int32)), .val (.int (5 : Int32)), .val (.int (2 : Int32)), .val (.long ((((((c3.toInt64) * (31 : Int64)) + ((c4.toInt64) * (1 : Int64))) + (0 : Int64)) + (0 : Int64)) + (0 : Int64))), .second, .val (.int (((31 : Int32) * ((0 : Int32) + c3)) + c4)), .unset, .unset] [(.int ((((31 : Int32) * ((0 : Int32) + c3)) + c4) * (-1640531527 : Int32)))])
      refine OE.istore X131 hx hby at_151 (l' := #[.val (.int p1), .val (.int p2), .val (.int p3), .val (.int p4), .val (.int p5), .val (.ref b1), .val (.int (3 : Int32)), .val (.int (5 : Int32)), .val (.int (2 : Int32)), .val (.long ((((((c3.toInt64) * (31 : Int64)) + ((c4.toInt64) * (1 : Int64))) + (0 : Int64)) + (0 : Int64)) + (0 : Int64))), .second, .val (.int (((31 : Int32) * ((0 : Int32) + c3)) + c4)), .val (.int ((((31 : Int32) * ((0 : Int32) + c3)) + c4) * (-1640531527 : Int32))), .unset]) rfl ?_
      refine OE.aload X131 hx hby at_153 rfl rfl ?_
      refine OE.iload X131 hx hby at_155 rfl ?_
      refine OE.iload X131 hx hby at_157 rfl ?_
      obtain ⟨_, _, ⟨T132, L132, k132, n132⟩, -, X132, ⟨Lc132, hQ132, l132, y132, z132⟩, st132⟩ := Jvm.LawKit.callS X131 hx (y := (⟨"com/example/archerfish/archerfish/index/TokenTable", "hash", "([CII)I"⟩ : MethodName)) hown (mvT hZ (hw _ (List.mem_of_getElem? (i := 8) rfl))) (mvT hZ (hw _ (List.mem_of_getElem? (i := 9) rfl))) (mvT hZ (hw _ (List.mem_of_getElem? (i := 10) rfl))) (mvT hZ (hw _ (List.mem_of_getElem? (i := 11) rfl))) (by decide) (backOf (W := 0) (own_rm2_3_2 l Z a0 hw [] b1 c0 c1 c2 c3 c4 k1 h6 n0 z126 Vc) hZ (hw _ (List.mem_of_getElem? (i := 11) rfl)) (hw _ (List.mem_of_getElem? (i := 10) rfl)) (by decide) (by decide)) (g := (mkF m 159 #[.val (.int p1), .val (.int p2), .val (.int p3), .val (.int p4), .val (.int p5), .val (.ref b1), .val (.int (3 : Int32)), .val (.int (5 : Int32)), .val (.int (2 : Int32)), .val (.long ((((((c3.toInt64) * (31 : Int64)) + ((c4.toInt64) * (1 : Int64))) + (0 : Int64)) + (0 : Int64)) + (0 : Int64))), .second, .val (.int (((31 : Int32) * ((0 : Int32) + c3)) + c4)), .val (.int ((((31 : Int32) * ((0 : Int32) + c3)) + c4) * (-1640531527 : Int32))), .unset] [(.int (5 : Int32)), (.int (3 : Int32)), (.ref b1)])) rfl (by rw [hml]; rfl) (argsL := [(.ref b1), (.int (3 : Int32)), (.int (5 : Int32))]) (rest := []) (lenOf own_pd2 rfl) rfl (by show 2 * 0 + _ ≤ _; exact Nat.le_of_eq rfl) (hb hby at_159) (fun _ _ => ⟨rfl, eq131, (by decide : 1 + 0 ≤ _), (by decide : 5 + 0 ≤ _)⟩)
      dsimp only [Pt.U, Pt.locs, Pt.cells, Pt.slots] at X132 l132 y132 z132 st132 hQ132
      subst l132 y132 z132
      obtain ⟨rfl, Nq132, eq132⟩ := hQ132
      refine OE.of (fun _ k => st132 _ k) ?_
      have N132 := Fr.app N131 Nq132
      show OE _ p e below s _ _ _ T132 (mkF m 162 #[.val (.int p1), .val (.int p2), .val (.int p3), .val (.int p4), .val (.int p5), .val (.ref b1), .val (.int (3 : Int32)), .val (.int (5 : Int32)), .val (.int (2 : Int32)), .val (.long ((((((c3.toInt64) * (31 : Int64)) + ((c4.toInt64) * (1 : Int64))) + (0 : Int64)) + (0 : Int64)) + (0 : Int64))), .second, .val (.int (((31 : Int32) * ((0 : Int32) + c3)) + c4)), .val (.int ((((31 : Int32) * ((0 : Int32) + c3)) + c4) * (-1640531527 : Int32))), .unset] [(.int (((((31 : Int32) * ((0 : Int32) + c3)) + c4) * (-1640531527 : Int32)) ^^^ ((((((31 : Int32) * ((0 : Int32) + c3)) + c4) * (-1640531527 : Int32)).toUInt32 >>> ((16 : Int32) &&& 31).toUInt32).toInt32)))])
      refine OE.istore X132 hx hby at_162 (l' := #[.val (.int p1), .val (.int p2), .val (.int p3), .val (.int p4), .val (.int p5), .val (.ref b1), .val (.int (3 : Int32)), .val (.int (5 : Int32)), .val (.int (2 : Int32)), .val (.long ((((((c3.toInt64) * (31 : Int64)) + ((c4.toInt64) * (1 : Int64))) + (0 : Int64)) + (0 : Int64)) + (0 : Int64))), .second, .val (.int (((31 : Int32) * ((0 : Int32) + c3)) + c4)), .val (.int ((((31 : Int32) * ((0 : Int32) + c3)) + c4) * (-1640531527 : Int32))), .val (.int (((((31 : Int32) * ((0 : Int32) + c3)) + c4) * (-1640531527 : Int32)) ^^^ ((((((31 : Int32) * ((0 : Int32) + c3)) + c4) * (-1640531527 : Int32)).toUInt32 >>> ((16 : Int32) &&& 31).toUInt32).toInt32)))]) rfl ?_
      refine OE.iload X132 hx hby at_164 rfl ?_
      refine OE.bipush X132 hx hby at_166 (16 : Int32) rfl ?_
      refine OE.iushr X132 hx hby at_168 ?_
      refine OE.iload X132 hx hby at_169 rfl ?_
      refine OE.bipush X132 hx hby at_171 (16 : Int32) rfl ?_
      refine OE.iushr X132 hx hby at_173 ?_
      refine OE.icmpNo X132 hx hby at_174 (teq (own_top _ : (((((((31 : Int32) * ((0 : Int32) + c3)) + c4) * (-1640531527 : Int32)) ^^^ ((((((31 : Int32) * ((0 : Int32) + c3)) + c4) * (-1640531527 : Int32)).toUInt32 >>> ((16 : Int32) &&& 31).toUInt32).toInt32)).toUInt32 >>> ((16 : Int32) &&& 31).toUInt32).toInt32) = ((((((31 : Int32) * ((0 : Int32) + c3)) + c4) * (-1640531527 : Int32)).toUInt32 >>> ((16 : Int32) &&& 31).toUInt32).toInt32))).2 ?_
      refine OE.iload X132 hx hby at_177 rfl ?_
      refine OE.of (X132.ldcInt hx hown (mvT hZ (hw _ (List.mem_of_getElem? (i := 1) rfl))) (g := (mkF m 179 #[.val (.int p1), .val (.int p2), .val (.int p3), .val (.int p4), .val (.int p5), .val (.ref b1), .val (.int (3 : Int32)), .val (.int (5 : Int32)), .val (.int (2 : Int32)), .val (.long ((((((c3.toInt64) * (31 : Int64)) + ((c4.toInt64) * (1 : Int64))) + (0 : Int64)) + (0 : Int64)) + (0 : Int64))), .second, .val (.int (((31 : Int32) * ((0 : Int32) + c3)) + c4)), .val (.int ((((31 : Int32) * ((0 : Int32) + c3)) + c4) * (-1640531527 : Int32))), .val (.int (((((31 : Int32) * ((0 : Int32) + c3)) + c4) * (-1640531527 : Int32)) ^^^ ((((((31 : Int32) * ((0 : Int32) + c3)) + c4) * (-1640531527 : Int32)).toUInt32 >>> ((16 : Int32) &&& 31).toUInt32).toInt32)))] [(.int (((((31 : Int32) * ((0 : Int32) + c3)) + c4) * (-1640531527 : Int32)) ^^^ ((((((31 : Int32) * ((0 : Int32) + c3)) + c4) * (-1640531527 : Int32)).toUInt32 >>> ((16 : Int32) &&& 31).toUInt32).toInt32)))])) rfl (hb hby at_179)) ?_
      show OE _ p e below s _ _ _ T132 (mkF m 181 #[.val (.int p1), .val (.int p2), .val (.int p3), .val (.int p4), .val (.int p5), .val (.ref b1), .val (.int (3 : Int32)), .val (.int (5 : Int32)), .val (.int (2 : Int32)), .val (.long ((((((c3.toInt64) * (31 : Int64)) + ((c4.toInt64) * (1 : Int64))) + (0 : Int64)) + (0 : Int64)) + (0 : Int64))), .second, .val (.int (((31 : Int32) * ((0 : Int32) + c3)) + c4)), .val (.int ((((31 : Int32) * ((0 : Int32) + c3)) + c4) * (-1640531527 : Int32))), .val (.int (((((31 : Int32) * ((0 : Int32) + c3)) + c4) * (-1640531527 : Int32)) ^^^ ((((((31 : Int32) * ((0 : Int32) + c3)) + c4) * (-1640531527 : Int32)).toUInt32 >>> ((16 : Int32) &&& 31).toUInt32).toInt32)))] [(.int (65535 : Int32)), (.int (((((31 : Int32) * ((0 : Int32) + c3)) + c4) * (-1640531527 : Int32)) ^^^ ((((((31 : Int32) * ((0 : Int32) + c3)) + c4) * (-1640531527 : Int32)).toUInt32 >>> ((16 : Int32) &&& 31).toUInt32).toInt32)))])
      refine OE.iand X132 hx hby at_181 ?_
      refine OE.iload X132 hx hby at_182 rfl ?_
      refine OE.iload X132 hx hby at_184 rfl ?_
      refine OE.bipush X132 hx hby at_186 (16 : Int32) rfl ?_
      refine OE.iushr X132 hx hby at_188 ?_
      refine OE.ixor X132 hx hby at_189 ?_
      refine OE.of (X132.ldcInt hx hown (mvT hZ (hw _ (List.mem_of_getElem? (i := 1) rfl))) (g := (mkF m 190 #[.val (.int p1), .val (.int p2), .val (.int p3), .val (.int p4), .val (.int p5), .val (.ref b1), .val (.int (3 : Int32)), .val (.int (5 : Int32)), .val (.int (2 : Int32)), .val (.long ((((((c3.toInt64) * (31 : Int64)) + ((c4.toInt64) * (1 : Int64))) + (0 : Int64)) + (0 : Int64)) + (0 : Int64))), .second, .val (.int (((31 : Int32) * ((0 : Int32) + c3)) + c4)), .val (.int ((((31 : Int32) * ((0 : Int32) + c3)) + c4) * (-1640531527 : Int32))), .val (.int (((((31 : Int32) * ((0 : Int32) + c3)) + c4) * (-1640531527 : Int32)) ^^^ ((((((31 : Int32) * ((0 : Int32) + c3)) + c4) * (-1640531527 : Int32)).toUInt32 >>> ((16 : Int32) &&& 31).toUInt32).toInt32)))] [(.int (((((31 : Int32) * ((0 : Int32) + c3)) + c4) * (-1640531527 : Int32)) ^^^ ((((((31 : Int32) * ((0 : Int32) + c3)) + c4) * (-1640531527 : Int32)).toUInt32 >>> ((16 : Int32) &&& 31).toUInt32).toInt32))), (.int ((((((31 : Int32) * ((0 : Int32) + c3)) + c4) * (-1640531527 : Int32)) ^^^ ((((((31 : Int32) * ((0 : Int32) + c3)) + c4) * (-1640531527 : Int32)).toUInt32 >>> ((16 : Int32) &&& 31).toUInt32).toInt32)) &&& (65535 : Int32)))])) rfl (hb hby at_190)) ?_
      show OE _ p e below s _ _ _ T132 (mkF m 192 #[.val (.int p1), .val (.int p2), .val (.int p3), .val (.int p4), .val (.int p5), .val (.ref b1), .val (.int (3 : Int32)), .val (.int (5 : Int32)), .val (.int (2 : Int32)), .val (.long ((((((c3.toInt64) * (31 : Int64)) + ((c4.toInt64) * (1 : Int64))) + (0 : Int64)) + (0 : Int64)) + (0 : Int64))), .second, .val (.int (((31 : Int32) * ((0 : Int32) + c3)) + c4)), .val (.int ((((31 : Int32) * ((0 : Int32) + c3)) + c4) * (-1640531527 : Int32))), .val (.int (((((31 : Int32) * ((0 : Int32) + c3)) + c4) * (-1640531527 : Int32)) ^^^ ((((((31 : Int32) * ((0 : Int32) + c3)) + c4) * (-1640531527 : Int32)).toUInt32 >>> ((16 : Int32) &&& 31).toUInt32).toInt32)))] [(.int (65535 : Int32)), (.int (((((31 : Int32) * ((0 : Int32) + c3)) + c4) * (-1640531527 : Int32)) ^^^ ((((((31 : Int32) * ((0 : Int32) + c3)) + c4) * (-1640531527 : Int32)).toUInt32 >>> ((16 : Int32) &&& 31).toUInt32).toInt32))), (.int ((((((31 : Int32) * ((0 : Int32) + c3)) + c4) * (-1640531527 : Int32)) ^^^ ((((((31 : Int32) * ((0 : Int32) + c3)) + c4) * (-1640531527 : Int32)).toUInt32 >>> ((16 : Int32) &&& 31).toUInt32).toInt32)) &&& (65535 : Int32)))])
      refine OE.iand X132 hx hby at_192 ?_
      refine OE.icmpNo X132 hx hby at_193 (teq (rfl : ((((((31 : Int32) * ((0 : Int32) + c3)) + c4) * (-1640531527 : Int32)) ^^^ ((((((31 : Int32) * ((0 : Int32) + c3)) + c4) * (-1640531527 : Int32)).toUInt32 >>> ((16 : Int32) &&& 31).toUInt32).toInt32)) &&& (65535 : Int32)) = ((((((31 : Int32) * ((0 : Int32) + c3)) + c4) * (-1640531527 : Int32)) ^^^ ((((((31 : Int32) * ((0 : Int32) + c3)) + c4) * (-1640531527 : Int32)).toUInt32 >>> ((16 : Int32) &&& 31).toUInt32).toInt32)) &&& (65535 : Int32)))).2 ?_
      refine OE.iconst X132 hx hby at_196 (1 : Int32) rfl ?_
      refine OE.goto X132 hx hby (pc' := 201) at_197 (h := ?_)
      refine OE.retN X132 hx (t := .boolean) Bd.returns (by simp) Bd.notSynchronized (hb hby at_201) (by decide) (by decide) ?_
      rw [eq132]
      exact ⟨rfl, N132⟩
  · rw [hs]
    show OE _ p e below s _ _ _ T6 (mkF m 57 #[.val (.int p1), .val (.int p2), .val (.int p3), .val (.int p4), .val (.int p5), .val (.ref b1), .unset, .unset, .unset, .unset, .unset, .unset, .unset, .unset] [(.int (4 : Int32))])
    refine OE.istore X6 hx hby at_57 (l' := #[.val (.int p1), .val (.int p2), .val (.int p3), .val (.int p4), .val (.int p5), .val (.ref b1), .val (.int (4 : Int32)), .unset, .unset, .unset, .unset, .unset, .unset, .unset]) rfl ?_
    refine OE.iload X6 hx hby at_59 rfl ?_
    refine OE.iload X6 hx hby at_61 rfl ?_
    refine OE.of (X6.ldcInt hx hown (mvT hZ (hw _ (List.mem_of_getElem? (i := 2) rfl))) (g := (mkF m 63 #[.val (.int p1), .val (.int p2), .val (.int p3), .val (.int p4), .val (.int p5), .val (.ref b1), .val (.int (4 : Int32)), .unset, .unset, .unset, .unset, .unset, .unset, .unset] [(.int p5), (.int (4 : Int32))])) rfl (hb hby at_63)) ?_
    show OE _ p e below s _ _ _ T6 (mkF m 65 #[.val (.int p1), .val (.int p2), .val (.int p3), .val (.int p4), .val (.int p5), .val (.ref b1), .val (.int (4 : Int32)), .unset, .unset, .unset, .unset, .unset, .unset, .unset] [(.int (2147483647 : Int32)), (.int p5), (.int (4 : Int32))])
    refine OE.iand X6 hx hby at_65 ?_
    refine OE.bipush X6 hx hby at_66 (6 : Int32) rfl ?_
    refine OE.iload X6 hx hby at_68 rfl ?_
    refine OE.isub X6 hx hby at_70 ?_
    rw [(by decide : ((6 : Int32) - (4 : Int32)) = (2 : Int32))]
    refine OE.irem X6 hx hby at_71 (by decide) ?_
    rcases own_md2 p5 with hm | hm
    · rw [hm]
      show OE _ p e below s _ _ _ T6 (mkF m 72 #[.val (.int p1), .val (.int p2), .val (.int p3), .val (.int p4), .val (.int p5), .val (.ref b1), .val (.int (4 : Int32)), .unset, .unset, .unset, .unset, .unset, .unset, .unset] [(.int (0 : Int32)), (.int (4 : Int32))])
      refine OE.iadd X6 hx hby at_72 ?_
      rw [(by decide : ((4 : Int32) + (0 : Int32)) = (4 : Int32))]
      refine OE.istore X6 hx hby at_73 (l' := #[.val (.int p1), .val (.int p2), .val (.int p3), .val (.int p4), .val (.int p5), .val (.ref b1), .val (.int (4 : Int32)), .val (.int (4 : Int32)), .unset, .unset, .unset, .unset, .unset, .unset]) rfl ?_
      refine OE.iload X6 hx hby at_75 rfl ?_
      refine OE.iload X6 hx hby at_77 rfl ?_
      refine OE.isub X6 hx hby at_79 ?_
      rw [(by decide : ((4 : Int32) - (4 : Int32)) = (0 : Int32))]
      refine OE.istore X6 hx hby at_80 (l' := #[.val (.int p1), .val (.int p2), .val (.int p3), .val (.int p4), .val (.int p5), .val (.ref b1), .val (.int (4 : Int32)), .val (.int (4 : Int32)), .val (.int (0 : Int32)), .unset, .unset, .unset, .unset, .unset]) rfl ?_
      refine OE.aload X6 hx hby at_82 rfl rfl ?_
      refine OE.iload X6 hx hby at_84 rfl ?_
      refine OE.iload X6 hx hby at_86 rfl ?_
      refine OE.iconst X6 hx hby at_88 (0 : Int32) rfl ?_
      have z133 : n0 ≤ h6.size := (Nat.le_trans (Nat.le_trans (Nat.le_trans (Nat.le_trans (Nat.le_trans (Nat.le_trans Z0 E1.1) (Nat.le_of_eq W2.size.symm)) (Nat.le_of_eq W3.size.symm)) (Nat.le_of_eq W4.size.symm)) (Nat.le_of_eq W5.size.symm)) (Nat.le_of_eq W6.size.symm))
      obtain ⟨_, _, ⟨T134, L134, k134, n134⟩, -, X134, ⟨Lc134, hQ134, l134, y134, z134⟩, st134⟩ := Jvm.LawKit.callS X6 hx (y := (⟨"com/example/archerfish/archerfish/index/TokenTableHashPinLaw", "term", "([CIII)J"⟩ : MethodName)) hown (mvT hZ (hw _ (List.mem_of_getElem? (i := 3) rfl))) (mvT hZ (hw _ (List.mem_of_getElem? (i := 4) rfl))) (mvT hZ (hw _ (List.mem_of_getElem? (i := 5) rfl))) (mvT hZ (hw _ (List.mem_of_getElem? (i := 6) rfl))) (by decide) (backOf (W := 0) (own_rm1_o l Z a0 hw [] b1 (4 : Int32) (0 : Int32) (0 : Int32) h6 n0 z133 (by decide)) hZ (hw _ (List.mem_of_getElem? (i := 6) rfl)) (hw _ (List.mem_of_getElem? (i := 5) rfl)) (by decide) (by decide)) (g := (mkF m 89 #[.val (.int p1), .val (.int p2), .val (.int p3), .val (.int p4), .val (.int p5), .val (.ref b1), .val (.int (4 : Int32)), .val (.int (4 : Int32)), .val (.int (0 : Int32)), .unset, .unset, .unset, .unset, .unset] [(.int (0 : Int32)), (.int (0 : Int32)), (.int (4 : Int32)), (.ref b1)])) rfl (by rw [hml]; rfl) (argsL := [(.ref b1), (.int (4 : Int32)), (.int (0 : Int32)), (.int (0 : Int32))]) (rest := []) (lenOf own_pd1 rfl) rfl (by show 2 * 0 + _ ≤ _; exact Nat.le_of_eq rfl) (hb hby at_89) (fun _ _ => ⟨rfl, e6, (by decide : 1 + 0 ≤ _), (by decide : 5 + 0 ≤ _)⟩)
      dsimp only [Pt.U, Pt.locs, Pt.cells, Pt.slots] at X134 l134 y134 z134 st134 hQ134
      subst l134 y134 z134
      obtain ⟨rfl, Nq134, eq134⟩ := hQ134
      refine OE.of (fun _ k => st134 _ k) ?_
      have N134 := Fr.app N6 Nq134
      show OE _ p e below s _ _ _ T134 (mkF m 92 #[.val (.int p1), .val (.int p2), .val (.int p3), .val (.int p4), .val (.int p5), .val (.ref b1), .val (.int (4 : Int32)), .val (.int (4 : Int32)), .val (.int (0 : Int32)), .unset, .unset, .unset, .unset, .unset] [(.long (0 : Int64))])
      refine OE.aload X134 hx hby at_92 rfl rfl ?_
      refine OE.iload X134 hx hby at_94 rfl ?_
      refine OE.iload X134 hx hby at_96 rfl ?_
      refine OE.iconst X134 hx hby at_98 (1 : Int32) rfl ?_
      obtain ⟨_, _, ⟨T135, L135, k135, n135⟩, -, X135, ⟨Lc135, hQ135, l135, y135, z135⟩, st135⟩ := Jvm.LawKit.callS X134 hx (y := (⟨"com/example/archerfish/archerfish/index/TokenTableHashPinLaw", "term", "([CIII)J"⟩ : MethodName)) hown (mvT hZ (hw _ (List.mem_of_getElem? (i := 3) rfl))) (mvT hZ (hw _ (List.mem_of_getElem? (i := 4) rfl))) (mvT hZ (hw _ (List.mem_of_getElem? (i := 5) rfl))) (mvT hZ (hw _ (List.mem_of_getElem? (i := 6) rfl))) (by decide) (backOf (W := 2) (own_rm1_o l Z a0 hw [] b1 (4 : Int32) (0 : Int32) (1 : Int32) h6 n0 z133 (by decide)) hZ (hw _ (List.mem_of_getElem? (i := 6) rfl)) (hw _ (List.mem_of_getElem? (i := 5) rfl)) (by decide) (by decide)) (g := (mkF m 99 #[.val (.int p1), .val (.int p2), .val (.int p3), .val (.int p4), .val (.int p5), .val (.ref b1), .val (.int (4 : Int32)), .val (.int (4 : Int32)), .val (.int (0 : Int32)), .unset, .unset, .unset, .unset, .unset] [(.int (1 : Int32)), (.int (0 : Int32)), (.int (4 : Int32)), (.ref b1), (.long (0 : Int64))])) rfl (by rw [hml]; rfl) (argsL := [(.ref b1), (.int (4 : Int32)), (.int (0 : Int32)), (.int (1 : Int32))]) (rest := [(.long (0 : Int64))]) (lenOf own_pd1 rfl) rfl (by show 2 * 0 + _ ≤ _; exact Nat.le_of_eq rfl) (hb hby at_99) (fun _ _ => ⟨rfl, eq134, (by decide : 1 + 0 ≤ _), (by decide : 5 + 0 ≤ _)⟩)
      dsimp only [Pt.U, Pt.locs, Pt.cells, Pt.slots] at X135 l135 y135 z135 st135 hQ135
      subst l135 y135 z135
      obtain ⟨rfl, Nq135, eq135⟩ := hQ135
      refine OE.of (fun _ k => st135 _ k) ?_
      have N135 := Fr.app N134 Nq135
      show OE _ p e below s _ _ _ T135 (mkF m 102 #[.val (.int p1), .val (.int p2), .val (.int p3), .val (.int p4), .val (.int p5), .val (.ref b1), .val (.int (4 : Int32)), .val (.int (4 : Int32)), .val (.int (0 : Int32)), .unset, .unset, .unset, .unset, .unset] [(.long (0 : Int64)), (.long (0 : Int64))])
      refine OE.ladd X135 hx hby at_102 ?_
      rw [(by decide : ((0 : Int64) + (0 : Int64)) = (0 : Int64))]
      refine OE.aload X135 hx hby at_103 rfl rfl ?_
      refine OE.iload X135 hx hby at_105 rfl ?_
      refine OE.iload X135 hx hby at_107 rfl ?_
      refine OE.iconst X135 hx hby at_109 (2 : Int32) rfl ?_
      obtain ⟨_, _, ⟨T136, L136, k136, n136⟩, -, X136, ⟨Lc136, hQ136, l136, y136, z136⟩, st136⟩ := Jvm.LawKit.callS X135 hx (y := (⟨"com/example/archerfish/archerfish/index/TokenTableHashPinLaw", "term", "([CIII)J"⟩ : MethodName)) hown (mvT hZ (hw _ (List.mem_of_getElem? (i := 3) rfl))) (mvT hZ (hw _ (List.mem_of_getElem? (i := 4) rfl))) (mvT hZ (hw _ (List.mem_of_getElem? (i := 5) rfl))) (mvT hZ (hw _ (List.mem_of_getElem? (i := 6) rfl))) (by decide) (backOf (W := 2) (own_rm1_o l Z a0 hw [] b1 (4 : Int32) (0 : Int32) (2 : Int32) h6 n0 z133 (by decide)) hZ (hw _ (List.mem_of_getElem? (i := 6) rfl)) (hw _ (List.mem_of_getElem? (i := 5) rfl)) (by decide) (by decide)) (g := (mkF m 110 #[.val (.int p1), .val (.int p2), .val (.int p3), .val (.int p4), .val (.int p5), .val (.ref b1), .val (.int (4 : Int32)), .val (.int (4 : Int32)), .val (.int (0 : Int32)), .unset, .unset, .unset, .unset, .unset] [(.int (2 : Int32)), (.int (0 : Int32)), (.int (4 : Int32)), (.ref b1), (.long (0 : Int64))])) rfl (by rw [hml]; rfl) (argsL := [(.ref b1), (.int (4 : Int32)), (.int (0 : Int32)), (.int (2 : Int32))]) (rest := [(.long (0 : Int64))]) (lenOf own_pd1 rfl) rfl (by show 2 * 0 + _ ≤ _; exact Nat.le_of_eq rfl) (hb hby at_110) (fun _ _ => ⟨rfl, eq135, (by decide : 1 + 0 ≤ _), (by decide : 5 + 0 ≤ _)⟩)
      dsimp only [Pt.U, Pt.locs, Pt.cells, Pt.slots] at X136 l136 y136 z136 st136 hQ136
      subst l136 y136 z136
      obtain ⟨rfl, Nq136, eq136⟩ := hQ136
      refine OE.of (fun _ k => st136 _ k) ?_
      have N136 := Fr.app N135 Nq136
      show OE _ p e below s _ _ _ T136 (mkF m 113 #[.val (.int p1), .val (.int p2), .val (.int p3), .val (.int p4), .val (.int p5), .val (.ref b1), .val (.int (4 : Int32)), .val (.int (4 : Int32)), .val (.int (0 : Int32)), .unset, .unset, .unset, .unset, .unset] [(.long (0 : Int64)), (.long (0 : Int64))])
      refine OE.ladd X136 hx hby at_113 ?_
      rw [(by decide : ((0 : Int64) + (0 : Int64)) = (0 : Int64))]
      refine OE.aload X136 hx hby at_114 rfl rfl ?_
      refine OE.iload X136 hx hby at_116 rfl ?_
      refine OE.iload X136 hx hby at_118 rfl ?_
      refine OE.iconst X136 hx hby at_120 (3 : Int32) rfl ?_
      obtain ⟨_, _, ⟨T137, L137, k137, n137⟩, -, X137, ⟨Lc137, hQ137, l137, y137, z137⟩, st137⟩ := Jvm.LawKit.callS X136 hx (y := (⟨"com/example/archerfish/archerfish/index/TokenTableHashPinLaw", "term", "([CIII)J"⟩ : MethodName)) hown (mvT hZ (hw _ (List.mem_of_getElem? (i := 3) rfl))) (mvT hZ (hw _ (List.mem_of_getElem? (i := 4) rfl))) (mvT hZ (hw _ (List.mem_of_getElem? (i := 5) rfl))) (mvT hZ (hw _ (List.mem_of_getElem? (i := 6) rfl))) (by decide) (backOf (W := 2) (own_rm1_o l Z a0 hw [] b1 (4 : Int32) (0 : Int32) (3 : Int32) h6 n0 z133 (by decide)) hZ (hw _ (List.mem_of_getElem? (i := 6) rfl)) (hw _ (List.mem_of_getElem? (i := 5) rfl)) (by decide) (by decide)) (g := (mkF m 121 #[.val (.int p1), .val (.int p2), .val (.int p3), .val (.int p4), .val (.int p5), .val (.ref b1), .val (.int (4 : Int32)), .val (.int (4 : Int32)), .val (.int (0 : Int32)), .unset, .unset, .unset, .unset, .unset] [(.int (3 : Int32)), (.int (0 : Int32)), (.int (4 : Int32)), (.ref b1), (.long (0 : Int64))])) rfl (by rw [hml]; rfl) (argsL := [(.ref b1), (.int (4 : Int32)), (.int (0 : Int32)), (.int (3 : Int32))]) (rest := [(.long (0 : Int64))]) (lenOf own_pd1 rfl) rfl (by show 2 * 0 + _ ≤ _; exact Nat.le_of_eq rfl) (hb hby at_121) (fun _ _ => ⟨rfl, eq136, (by decide : 1 + 0 ≤ _), (by decide : 5 + 0 ≤ _)⟩)
      dsimp only [Pt.U, Pt.locs, Pt.cells, Pt.slots] at X137 l137 y137 z137 st137 hQ137
      subst l137 y137 z137
      obtain ⟨rfl, Nq137, eq137⟩ := hQ137
      refine OE.of (fun _ k => st137 _ k) ?_
      have N137 := Fr.app N136 Nq137
      show OE _ p e below s _ _ _ T137 (mkF m 124 #[.val (.int p1), .val (.int p2), .val (.int p3), .val (.int p4), .val (.int p5), .val (.ref b1), .val (.int (4 : Int32)), .val (.int (4 : Int32)), .val (.int (0 : Int32)), .unset, .unset, .unset, .unset, .unset] [(.long (0 : Int64)), (.long (0 : Int64))])
      refine OE.ladd X137 hx hby at_124 ?_
      rw [(by decide : ((0 : Int64) + (0 : Int64)) = (0 : Int64))]
      refine OE.aload X137 hx hby at_125 rfl rfl ?_
      refine OE.iload X137 hx hby at_127 rfl ?_
      refine OE.iload X137 hx hby at_129 rfl ?_
      refine OE.iconst X137 hx hby at_131 (4 : Int32) rfl ?_
      obtain ⟨_, _, ⟨T138, L138, k138, n138⟩, -, X138, ⟨Lc138, hQ138, l138, y138, z138⟩, st138⟩ := Jvm.LawKit.callS X137 hx (y := (⟨"com/example/archerfish/archerfish/index/TokenTableHashPinLaw", "term", "([CIII)J"⟩ : MethodName)) hown (mvT hZ (hw _ (List.mem_of_getElem? (i := 3) rfl))) (mvT hZ (hw _ (List.mem_of_getElem? (i := 4) rfl))) (mvT hZ (hw _ (List.mem_of_getElem? (i := 5) rfl))) (mvT hZ (hw _ (List.mem_of_getElem? (i := 6) rfl))) (by decide) (backOf (W := 2) (own_rm1_o l Z a0 hw [] b1 (4 : Int32) (0 : Int32) (4 : Int32) h6 n0 z133 (by decide)) hZ (hw _ (List.mem_of_getElem? (i := 6) rfl)) (hw _ (List.mem_of_getElem? (i := 5) rfl)) (by decide) (by decide)) (g := (mkF m 132 #[.val (.int p1), .val (.int p2), .val (.int p3), .val (.int p4), .val (.int p5), .val (.ref b1), .val (.int (4 : Int32)), .val (.int (4 : Int32)), .val (.int (0 : Int32)), .unset, .unset, .unset, .unset, .unset] [(.int (4 : Int32)), (.int (0 : Int32)), (.int (4 : Int32)), (.ref b1), (.long (0 : Int64))])) rfl (by rw [hml]; rfl) (argsL := [(.ref b1), (.int (4 : Int32)), (.int (0 : Int32)), (.int (4 : Int32))]) (rest := [(.long (0 : Int64))]) (lenOf own_pd1 rfl) rfl (by show 2 * 0 + _ ≤ _; exact Nat.le_of_eq rfl) (hb hby at_132) (fun _ _ => ⟨rfl, eq137, (by decide : 1 + 0 ≤ _), (by decide : 5 + 0 ≤ _)⟩)
      dsimp only [Pt.U, Pt.locs, Pt.cells, Pt.slots] at X138 l138 y138 z138 st138 hQ138
      subst l138 y138 z138
      obtain ⟨rfl, Nq138, eq138⟩ := hQ138
      refine OE.of (fun _ k => st138 _ k) ?_
      have N138 := Fr.app N137 Nq138
      show OE _ p e below s _ _ _ T138 (mkF m 135 #[.val (.int p1), .val (.int p2), .val (.int p3), .val (.int p4), .val (.int p5), .val (.ref b1), .val (.int (4 : Int32)), .val (.int (4 : Int32)), .val (.int (0 : Int32)), .unset, .unset, .unset, .unset, .unset] [(.long (0 : Int64)), (.long (0 : Int64))])
      refine OE.ladd X138 hx hby at_135 ?_
      rw [(by decide : ((0 : Int64) + (0 : Int64)) = (0 : Int64))]
      refine OE.lstore X138 hx hby at_136 (l' := #[.val (.int p1), .val (.int p2), .val (.int p3), .val (.int p4), .val (.int p5), .val (.ref b1), .val (.int (4 : Int32)), .val (.int (4 : Int32)), .val (.int (0 : Int32)), .val (.long (0 : Int64)), .second, .unset, .unset, .unset]) rfl ?_
      refine OE.lload X138 hx hby at_138 rfl ?_
      refine OE.l2i X138 hx hby at_140 ?_
      rw [((by decide) : ((0 : Int64).toInt32) = (0 : Int32))]
      show OE _ p e below s _ _ _ T138 (mkF m 141 #[.val (.int p1), .val (.int p2), .val (.int p3), .val (.int p4), .val (.int p5), .val (.ref b1), .val (.int (4 : Int32)), .val (.int (4 : Int32)), .val (.int (0 : Int32)), .val (.long (0 : Int64)), .second, .unset, .unset, .unset] [(.int (0 : Int32))])
      refine OE.istore X138 hx hby at_141 (l' := #[.val (.int p1), .val (.int p2), .val (.int p3), .val (.int p4), .val (.int p5), .val (.ref b1), .val (.int (4 : Int32)), .val (.int (4 : Int32)), .val (.int (0 : Int32)), .val (.long (0 : Int64)), .second, .val (.int (0 : Int32)), .unset, .unset]) rfl ?_
      refine OE.iload X138 hx hby at_143 rfl ?_
      refine OE.i2l X138 hx hby at_145 ?_
      refine OE.of (X138.ldc2Long hx hown (mvT hZ (hw _ (List.mem_of_getElem? (i := 7) rfl))) (g := (mkF m 146 #[.val (.int p1), .val (.int p2), .val (.int p3), .val (.int p4), .val (.int p5), .val (.ref b1), .val (.int (4 : Int32)), .val (.int (4 : Int32)), .val (.int (0 : Int32)), .val (.long (0 : Int64)), .second, .val (.int (0 : Int32)), .unset, .unset] [(.long ((0 : Int32).toInt64))])) rfl (hb hby at_146)) ?_
      show OE _ p e below s _ _ _ T138 (mkF m 149 #[.val (.int p1), .val (.int p2), .val (.int p3), .val (.int p4), .val (.int p5), .val (.ref b1), .val (.int (4 : Int32)), .val (.int (4 : Int32)), .val (.int (0 : Int32)), .val (.long (0 : Int64)), .second, .val (.int (0 : Int32)), .unset, .unset] [(.long (2654435769 : Int64)), (.long ((0 : Int32).toInt64))])
      refine OE.lmul X138 hx hby at_149 ?_
      refine OE.l2i X138 hx hby at_150 ?_
      rw [((by decide) : ((((0 : Int32).toInt64) * (2654435769 : Int64)).toInt32) = (0 : Int32))]
      show OE _ p e below s _ _ _ T138 (mkF m 151 #[.val (.int p1), .val (.int p2), .val (.int p3), .val (.int p4), .val (.int p5), .val (.ref b1), .val (.int (4 : Int32)), .val (.int (4 : Int32)), .val (.int (0 : Int32)), .val (.long (0 : Int64)), .second, .val (.int (0 : Int32)), .unset, .unset] [(.int (0 : Int32))])
      refine OE.istore X138 hx hby at_151 (l' := #[.val (.int p1), .val (.int p2), .val (.int p3), .val (.int p4), .val (.int p5), .val (.ref b1), .val (.int (4 : Int32)), .val (.int (4 : Int32)), .val (.int (0 : Int32)), .val (.long (0 : Int64)), .second, .val (.int (0 : Int32)), .val (.int (0 : Int32)), .unset]) rfl ?_
      refine OE.aload X138 hx hby at_153 rfl rfl ?_
      refine OE.iload X138 hx hby at_155 rfl ?_
      refine OE.iload X138 hx hby at_157 rfl ?_
      obtain ⟨_, _, ⟨T139, L139, k139, n139⟩, -, X139, ⟨Lc139, hQ139, l139, y139, z139⟩, st139⟩ := Jvm.LawKit.callS X138 hx (y := (⟨"com/example/archerfish/archerfish/index/TokenTable", "hash", "([CII)I"⟩ : MethodName)) hown (mvT hZ (hw _ (List.mem_of_getElem? (i := 8) rfl))) (mvT hZ (hw _ (List.mem_of_getElem? (i := 9) rfl))) (mvT hZ (hw _ (List.mem_of_getElem? (i := 10) rfl))) (mvT hZ (hw _ (List.mem_of_getElem? (i := 11) rfl))) (by decide) (backOf (W := 0) (own_rm2_4_0 l Z a0 hw [] b1 c0 c1 c2 c3 c4 k1 h6 n0 z133 Vc) hZ (hw _ (List.mem_of_getElem? (i := 11) rfl)) (hw _ (List.mem_of_getElem? (i := 10) rfl)) (by decide) (by decide)) (g := (mkF m 159 #[.val (.int p1), .val (.int p2), .val (.int p3), .val (.int p4), .val (.int p5), .val (.ref b1), .val (.int (4 : Int32)), .val (.int (4 : Int32)), .val (.int (0 : Int32)), .val (.long (0 : Int64)), .second, .val (.int (0 : Int32)), .val (.int (0 : Int32)), .unset] [(.int (4 : Int32)), (.int (4 : Int32)), (.ref b1)])) rfl (by rw [hml]; rfl) (argsL := [(.ref b1), (.int (4 : Int32)), (.int (4 : Int32))]) (rest := []) (lenOf own_pd2 rfl) rfl (by show 2 * 0 + _ ≤ _; exact Nat.le_of_eq rfl) (hb hby at_159) (fun _ _ => ⟨rfl, eq138, (by decide : 1 + 0 ≤ _), (by decide : 5 + 0 ≤ _)⟩)
      dsimp only [Pt.U, Pt.locs, Pt.cells, Pt.slots] at X139 l139 y139 z139 st139 hQ139
      subst l139 y139 z139
      obtain ⟨rfl, Nq139, eq139⟩ := hQ139
      refine OE.of (fun _ k => st139 _ k) ?_
      have N139 := Fr.app N138 Nq139
      show OE _ p e below s _ _ _ T139 (mkF m 162 #[.val (.int p1), .val (.int p2), .val (.int p3), .val (.int p4), .val (.int p5), .val (.ref b1), .val (.int (4 : Int32)), .val (.int (4 : Int32)), .val (.int (0 : Int32)), .val (.long (0 : Int64)), .second, .val (.int (0 : Int32)), .val (.int (0 : Int32)), .unset] [(.int ((0 : Int32) ^^^ (((0 : Int32).toUInt32 >>> ((16 : Int32) &&& 31).toUInt32).toInt32)))])
      refine OE.istore X139 hx hby at_162 (l' := #[.val (.int p1), .val (.int p2), .val (.int p3), .val (.int p4), .val (.int p5), .val (.ref b1), .val (.int (4 : Int32)), .val (.int (4 : Int32)), .val (.int (0 : Int32)), .val (.long (0 : Int64)), .second, .val (.int (0 : Int32)), .val (.int (0 : Int32)), .val (.int ((0 : Int32) ^^^ (((0 : Int32).toUInt32 >>> ((16 : Int32) &&& 31).toUInt32).toInt32)))]) rfl ?_
      refine OE.iload X139 hx hby at_164 rfl ?_
      refine OE.bipush X139 hx hby at_166 (16 : Int32) rfl ?_
      refine OE.iushr X139 hx hby at_168 ?_
      refine OE.iload X139 hx hby at_169 rfl ?_
      refine OE.bipush X139 hx hby at_171 (16 : Int32) rfl ?_
      refine OE.iushr X139 hx hby at_173 ?_
      refine OE.icmpNo X139 hx hby at_174 (teq (own_top _ : ((((0 : Int32) ^^^ (((0 : Int32).toUInt32 >>> ((16 : Int32) &&& 31).toUInt32).toInt32)).toUInt32 >>> ((16 : Int32) &&& 31).toUInt32).toInt32) = (((0 : Int32).toUInt32 >>> ((16 : Int32) &&& 31).toUInt32).toInt32))).2 ?_
      refine OE.iload X139 hx hby at_177 rfl ?_
      refine OE.of (X139.ldcInt hx hown (mvT hZ (hw _ (List.mem_of_getElem? (i := 1) rfl))) (g := (mkF m 179 #[.val (.int p1), .val (.int p2), .val (.int p3), .val (.int p4), .val (.int p5), .val (.ref b1), .val (.int (4 : Int32)), .val (.int (4 : Int32)), .val (.int (0 : Int32)), .val (.long (0 : Int64)), .second, .val (.int (0 : Int32)), .val (.int (0 : Int32)), .val (.int ((0 : Int32) ^^^ (((0 : Int32).toUInt32 >>> ((16 : Int32) &&& 31).toUInt32).toInt32)))] [(.int ((0 : Int32) ^^^ (((0 : Int32).toUInt32 >>> ((16 : Int32) &&& 31).toUInt32).toInt32)))])) rfl (hb hby at_179)) ?_
      show OE _ p e below s _ _ _ T139 (mkF m 181 #[.val (.int p1), .val (.int p2), .val (.int p3), .val (.int p4), .val (.int p5), .val (.ref b1), .val (.int (4 : Int32)), .val (.int (4 : Int32)), .val (.int (0 : Int32)), .val (.long (0 : Int64)), .second, .val (.int (0 : Int32)), .val (.int (0 : Int32)), .val (.int ((0 : Int32) ^^^ (((0 : Int32).toUInt32 >>> ((16 : Int32) &&& 31).toUInt32).toInt32)))] [(.int (65535 : Int32)), (.int ((0 : Int32) ^^^ (((0 : Int32).toUInt32 >>> ((16 : Int32) &&& 31).toUInt32).toInt32)))])
      refine OE.iand X139 hx hby at_181 ?_
      refine OE.iload X139 hx hby at_182 rfl ?_
      refine OE.iload X139 hx hby at_184 rfl ?_
      refine OE.bipush X139 hx hby at_186 (16 : Int32) rfl ?_
      refine OE.iushr X139 hx hby at_188 ?_
      refine OE.ixor X139 hx hby at_189 ?_
      refine OE.of (X139.ldcInt hx hown (mvT hZ (hw _ (List.mem_of_getElem? (i := 1) rfl))) (g := (mkF m 190 #[.val (.int p1), .val (.int p2), .val (.int p3), .val (.int p4), .val (.int p5), .val (.ref b1), .val (.int (4 : Int32)), .val (.int (4 : Int32)), .val (.int (0 : Int32)), .val (.long (0 : Int64)), .second, .val (.int (0 : Int32)), .val (.int (0 : Int32)), .val (.int ((0 : Int32) ^^^ (((0 : Int32).toUInt32 >>> ((16 : Int32) &&& 31).toUInt32).toInt32)))] [(.int ((0 : Int32) ^^^ (((0 : Int32).toUInt32 >>> ((16 : Int32) &&& 31).toUInt32).toInt32))), (.int (((0 : Int32) ^^^ (((0 : Int32).toUInt32 >>> ((16 : Int32) &&& 31).toUInt32).toInt32)) &&& (65535 : Int32)))])) rfl (hb hby at_190)) ?_
      show OE _ p e below s _ _ _ T139 (mkF m 192 #[.val (.int p1), .val (.int p2), .val (.int p3), .val (.int p4), .val (.int p5), .val (.ref b1), .val (.int (4 : Int32)), .val (.int (4 : Int32)), .val (.int (0 : Int32)), .val (.long (0 : Int64)), .second, .val (.int (0 : Int32)), .val (.int (0 : Int32)), .val (.int ((0 : Int32) ^^^ (((0 : Int32).toUInt32 >>> ((16 : Int32) &&& 31).toUInt32).toInt32)))] [(.int (65535 : Int32)), (.int ((0 : Int32) ^^^ (((0 : Int32).toUInt32 >>> ((16 : Int32) &&& 31).toUInt32).toInt32))), (.int (((0 : Int32) ^^^ (((0 : Int32).toUInt32 >>> ((16 : Int32) &&& 31).toUInt32).toInt32)) &&& (65535 : Int32)))])
      refine OE.iand X139 hx hby at_192 ?_
      refine OE.icmpNo X139 hx hby at_193 (teq (rfl : (((0 : Int32) ^^^ (((0 : Int32).toUInt32 >>> ((16 : Int32) &&& 31).toUInt32).toInt32)) &&& (65535 : Int32)) = (((0 : Int32) ^^^ (((0 : Int32).toUInt32 >>> ((16 : Int32) &&& 31).toUInt32).toInt32)) &&& (65535 : Int32)))).2 ?_
      refine OE.iconst X139 hx hby at_196 (1 : Int32) rfl ?_
      refine OE.goto X139 hx hby (pc' := 201) at_197 (h := ?_)
      refine OE.retN X139 hx (t := .boolean) Bd.returns (by simp) Bd.notSynchronized (hb hby at_201) (by decide) (by decide) ?_
      rw [eq139]
      exact ⟨rfl, N139⟩
    · rw [hm]
      show OE _ p e below s _ _ _ T6 (mkF m 72 #[.val (.int p1), .val (.int p2), .val (.int p3), .val (.int p4), .val (.int p5), .val (.ref b1), .val (.int (4 : Int32)), .unset, .unset, .unset, .unset, .unset, .unset, .unset] [(.int (1 : Int32)), (.int (4 : Int32))])
      refine OE.iadd X6 hx hby at_72 ?_
      rw [(by decide : ((4 : Int32) + (1 : Int32)) = (5 : Int32))]
      refine OE.istore X6 hx hby at_73 (l' := #[.val (.int p1), .val (.int p2), .val (.int p3), .val (.int p4), .val (.int p5), .val (.ref b1), .val (.int (4 : Int32)), .val (.int (5 : Int32)), .unset, .unset, .unset, .unset, .unset, .unset]) rfl ?_
      refine OE.iload X6 hx hby at_75 rfl ?_
      refine OE.iload X6 hx hby at_77 rfl ?_
      refine OE.isub X6 hx hby at_79 ?_
      rw [(by decide : ((5 : Int32) - (4 : Int32)) = (1 : Int32))]
      refine OE.istore X6 hx hby at_80 (l' := #[.val (.int p1), .val (.int p2), .val (.int p3), .val (.int p4), .val (.int p5), .val (.ref b1), .val (.int (4 : Int32)), .val (.int (5 : Int32)), .val (.int (1 : Int32)), .unset, .unset, .unset, .unset, .unset]) rfl ?_
      refine OE.aload X6 hx hby at_82 rfl rfl ?_
      refine OE.iload X6 hx hby at_84 rfl ?_
      refine OE.iload X6 hx hby at_86 rfl ?_
      refine OE.iconst X6 hx hby at_88 (0 : Int32) rfl ?_
      have z140 : n0 ≤ h6.size := (Nat.le_trans (Nat.le_trans (Nat.le_trans (Nat.le_trans (Nat.le_trans (Nat.le_trans Z0 E1.1) (Nat.le_of_eq W2.size.symm)) (Nat.le_of_eq W3.size.symm)) (Nat.le_of_eq W4.size.symm)) (Nat.le_of_eq W5.size.symm)) (Nat.le_of_eq W6.size.symm))
      obtain ⟨_, _, ⟨T141, L141, k141, n141⟩, -, X141, ⟨Lc141, hQ141, l141, y141, z141⟩, st141⟩ := Jvm.LawKit.callS X6 hx (y := (⟨"com/example/archerfish/archerfish/index/TokenTableHashPinLaw", "term", "([CIII)J"⟩ : MethodName)) hown (mvT hZ (hw _ (List.mem_of_getElem? (i := 3) rfl))) (mvT hZ (hw _ (List.mem_of_getElem? (i := 4) rfl))) (mvT hZ (hw _ (List.mem_of_getElem? (i := 5) rfl))) (mvT hZ (hw _ (List.mem_of_getElem? (i := 6) rfl))) (by decide) (backOf (W := 0) (own_rm1_1_0 l Z a0 hw [] b1 (4 : Int32) c4 k1 [(.int c0), (.int c1), (.int c2), (.int c3), (.int c4)] h6 n0 z140 Vc ⟨by decide, by decide⟩ rfl) hZ (hw _ (List.mem_of_getElem? (i := 6) rfl)) (hw _ (List.mem_of_getElem? (i := 5) rfl)) (by decide) (by decide)) (g := (mkF m 89 #[.val (.int p1), .val (.int p2), .val (.int p3), .val (.int p4), .val (.int p5), .val (.ref b1), .val (.int (4 : Int32)), .val (.int (5 : Int32)), .val (.int (1 : Int32)), .unset, .unset, .unset, .unset, .unset] [(.int (0 : Int32)), (.int (1 : Int32)), (.int (4 : Int32)), (.ref b1)])) rfl (by rw [hml]; rfl) (argsL := [(.ref b1), (.int (4 : Int32)), (.int (1 : Int32)), (.int (0 : Int32))]) (rest := []) (lenOf own_pd1 rfl) rfl (by show 2 * 0 + _ ≤ _; exact Nat.le_of_eq rfl) (hb hby at_89) (fun _ _ => ⟨rfl, e6, (by decide : 1 + 0 ≤ _), (by decide : 5 + 0 ≤ _)⟩)
      dsimp only [Pt.U, Pt.locs, Pt.cells, Pt.slots] at X141 l141 y141 z141 st141 hQ141
      subst l141 y141 z141
      obtain ⟨rfl, Nq141, eq141⟩ := hQ141
      refine OE.of (fun _ k => st141 _ k) ?_
      have N141 := Fr.app N6 Nq141
      show OE _ p e below s _ _ _ T141 (mkF m 92 #[.val (.int p1), .val (.int p2), .val (.int p3), .val (.int p4), .val (.int p5), .val (.ref b1), .val (.int (4 : Int32)), .val (.int (5 : Int32)), .val (.int (1 : Int32)), .unset, .unset, .unset, .unset, .unset] [(.long ((c4.toInt64) * (1 : Int64)))])
      refine OE.aload X141 hx hby at_92 rfl rfl ?_
      refine OE.iload X141 hx hby at_94 rfl ?_
      refine OE.iload X141 hx hby at_96 rfl ?_
      refine OE.iconst X141 hx hby at_98 (1 : Int32) rfl ?_
      obtain ⟨_, _, ⟨T142, L142, k142, n142⟩, -, X142, ⟨Lc142, hQ142, l142, y142, z142⟩, st142⟩ := Jvm.LawKit.callS X141 hx (y := (⟨"com/example/archerfish/archerfish/index/TokenTableHashPinLaw", "term", "([CIII)J"⟩ : MethodName)) hown (mvT hZ (hw _ (List.mem_of_getElem? (i := 3) rfl))) (mvT hZ (hw _ (List.mem_of_getElem? (i := 4) rfl))) (mvT hZ (hw _ (List.mem_of_getElem? (i := 5) rfl))) (mvT hZ (hw _ (List.mem_of_getElem? (i := 6) rfl))) (by decide) (backOf (W := 2) (own_rm1_o l Z a0 hw [] b1 (4 : Int32) (1 : Int32) (1 : Int32) h6 n0 z140 (by decide)) hZ (hw _ (List.mem_of_getElem? (i := 6) rfl)) (hw _ (List.mem_of_getElem? (i := 5) rfl)) (by decide) (by decide)) (g := (mkF m 99 #[.val (.int p1), .val (.int p2), .val (.int p3), .val (.int p4), .val (.int p5), .val (.ref b1), .val (.int (4 : Int32)), .val (.int (5 : Int32)), .val (.int (1 : Int32)), .unset, .unset, .unset, .unset, .unset] [(.int (1 : Int32)), (.int (1 : Int32)), (.int (4 : Int32)), (.ref b1), (.long ((c4.toInt64) * (1 : Int64)))])) rfl (by rw [hml]; rfl) (argsL := [(.ref b1), (.int (4 : Int32)), (.int (1 : Int32)), (.int (1 : Int32))]) (rest := [(.long ((c4.toInt64) * (1 : Int64)))]) (lenOf own_pd1 rfl) rfl (by show 2 * 0 + _ ≤ _; exact Nat.le_of_eq rfl) (hb hby at_99) (fun _ _ => ⟨rfl, eq141, (by decide : 1 + 0 ≤ _), (by decide : 5 + 0 ≤ _)⟩)
      dsimp only [Pt.U, Pt.locs, Pt.cells, Pt.slots] at X142 l142 y142 z142 st142 hQ142
      subst l142 y142 z142
      obtain ⟨rfl, Nq142, eq142⟩ := hQ142
      refine OE.of (fun _ k => st142 _ k) ?_
      have N142 := Fr.app N141 Nq142
      show OE _ p e below s _ _ _ T142 (mkF m 102 #[.val (.int p1), .val (.int p2), .val (.int p3), .val (.int p4), .val (.int p5), .val (.ref b1), .val (.int (4 : Int32)), .val (.int (5 : Int32)), .val (.int (1 : Int32)), .unset, .unset, .unset, .unset, .unset] [(.long (0 : Int64)), (.long ((c4.toInt64) * (1 : Int64)))])
      refine OE.ladd X142 hx hby at_102 ?_
      refine OE.aload X142 hx hby at_103 rfl rfl ?_
      refine OE.iload X142 hx hby at_105 rfl ?_
      refine OE.iload X142 hx hby at_107 rfl ?_
      refine OE.iconst X142 hx hby at_109 (2 : Int32) rfl ?_
      obtain ⟨_, _, ⟨T143, L143, k143, n143⟩, -, X143, ⟨Lc143, hQ143, l143, y143, z143⟩, st143⟩ := Jvm.LawKit.callS X142 hx (y := (⟨"com/example/archerfish/archerfish/index/TokenTableHashPinLaw", "term", "([CIII)J"⟩ : MethodName)) hown (mvT hZ (hw _ (List.mem_of_getElem? (i := 3) rfl))) (mvT hZ (hw _ (List.mem_of_getElem? (i := 4) rfl))) (mvT hZ (hw _ (List.mem_of_getElem? (i := 5) rfl))) (mvT hZ (hw _ (List.mem_of_getElem? (i := 6) rfl))) (by decide) (backOf (W := 2) (own_rm1_o l Z a0 hw [] b1 (4 : Int32) (1 : Int32) (2 : Int32) h6 n0 z140 (by decide)) hZ (hw _ (List.mem_of_getElem? (i := 6) rfl)) (hw _ (List.mem_of_getElem? (i := 5) rfl)) (by decide) (by decide)) (g := (mkF m 110 #[.val (.int p1), .val (.int p2), .val (.int p3), .val (.int p4), .val (.int p5), .val (.ref b1), .val (.int (4 : Int32)), .val (.int (5 : Int32)), .val (.int (1 : Int32)), .unset, .unset, .unset, .unset, .unset] [(.int (2 : Int32)), (.int (1 : Int32)), (.int (4 : Int32)), (.ref b1), (.long (((c4.toInt64) * (1 : Int64)) + (0 : Int64)))])) rfl (by rw [hml]; rfl) (argsL := [(.ref b1), (.int (4 : Int32)), (.int (1 : Int32)), (.int (2 : Int32))]) (rest := [(.long (((c4.toInt64) * (1 : Int64)) + (0 : Int64)))]) (lenOf own_pd1 rfl) rfl (by show 2 * 0 + _ ≤ _; exact Nat.le_of_eq rfl) (hb hby at_110) (fun _ _ => ⟨rfl, eq142, (by decide : 1 + 0 ≤ _), (by decide : 5 + 0 ≤ _)⟩)
      dsimp only [Pt.U, Pt.locs, Pt.cells, Pt.slots] at X143 l143 y143 z143 st143 hQ143
      subst l143 y143 z143
      obtain ⟨rfl, Nq143, eq143⟩ := hQ143
      refine OE.of (fun _ k => st143 _ k) ?_
      have N143 := Fr.app N142 Nq143
      show OE _ p e below s _ _ _ T143 (mkF m 113 #[.val (.int p1), .val (.int p2), .val (.int p3), .val (.int p4), .val (.int p5), .val (.ref b1), .val (.int (4 : Int32)), .val (.int (5 : Int32)), .val (.int (1 : Int32)), .unset, .unset, .unset, .unset, .unset] [(.long (0 : Int64)), (.long (((c4.toInt64) * (1 : Int64)) + (0 : Int64)))])
      refine OE.ladd X143 hx hby at_113 ?_
      refine OE.aload X143 hx hby at_114 rfl rfl ?_
      refine OE.iload X143 hx hby at_116 rfl ?_
      refine OE.iload X143 hx hby at_118 rfl ?_
      refine OE.iconst X143 hx hby at_120 (3 : Int32) rfl ?_
      obtain ⟨_, _, ⟨T144, L144, k144, n144⟩, -, X144, ⟨Lc144, hQ144, l144, y144, z144⟩, st144⟩ := Jvm.LawKit.callS X143 hx (y := (⟨"com/example/archerfish/archerfish/index/TokenTableHashPinLaw", "term", "([CIII)J"⟩ : MethodName)) hown (mvT hZ (hw _ (List.mem_of_getElem? (i := 3) rfl))) (mvT hZ (hw _ (List.mem_of_getElem? (i := 4) rfl))) (mvT hZ (hw _ (List.mem_of_getElem? (i := 5) rfl))) (mvT hZ (hw _ (List.mem_of_getElem? (i := 6) rfl))) (by decide) (backOf (W := 2) (own_rm1_o l Z a0 hw [] b1 (4 : Int32) (1 : Int32) (3 : Int32) h6 n0 z140 (by decide)) hZ (hw _ (List.mem_of_getElem? (i := 6) rfl)) (hw _ (List.mem_of_getElem? (i := 5) rfl)) (by decide) (by decide)) (g := (mkF m 121 #[.val (.int p1), .val (.int p2), .val (.int p3), .val (.int p4), .val (.int p5), .val (.ref b1), .val (.int (4 : Int32)), .val (.int (5 : Int32)), .val (.int (1 : Int32)), .unset, .unset, .unset, .unset, .unset] [(.int (3 : Int32)), (.int (1 : Int32)), (.int (4 : Int32)), (.ref b1), (.long ((((c4.toInt64) * (1 : Int64)) + (0 : Int64)) + (0 : Int64)))])) rfl (by rw [hml]; rfl) (argsL := [(.ref b1), (.int (4 : Int32)), (.int (1 : Int32)), (.int (3 : Int32))]) (rest := [(.long ((((c4.toInt64) * (1 : Int64)) + (0 : Int64)) + (0 : Int64)))]) (lenOf own_pd1 rfl) rfl (by show 2 * 0 + _ ≤ _; exact Nat.le_of_eq rfl) (hb hby at_121) (fun _ _ => ⟨rfl, eq143, (by decide : 1 + 0 ≤ _), (by decide : 5 + 0 ≤ _)⟩)
      dsimp only [Pt.U, Pt.locs, Pt.cells, Pt.slots] at X144 l144 y144 z144 st144 hQ144
      subst l144 y144 z144
      obtain ⟨rfl, Nq144, eq144⟩ := hQ144
      refine OE.of (fun _ k => st144 _ k) ?_
      have N144 := Fr.app N143 Nq144
      show OE _ p e below s _ _ _ T144 (mkF m 124 #[.val (.int p1), .val (.int p2), .val (.int p3), .val (.int p4), .val (.int p5), .val (.ref b1), .val (.int (4 : Int32)), .val (.int (5 : Int32)), .val (.int (1 : Int32)), .unset, .unset, .unset, .unset, .unset] [(.long (0 : Int64)), (.long ((((c4.toInt64) * (1 : Int64)) + (0 : Int64)) + (0 : Int64)))])
      refine OE.ladd X144 hx hby at_124 ?_
      refine OE.aload X144 hx hby at_125 rfl rfl ?_
      refine OE.iload X144 hx hby at_127 rfl ?_
      refine OE.iload X144 hx hby at_129 rfl ?_
      refine OE.iconst X144 hx hby at_131 (4 : Int32) rfl ?_
      obtain ⟨_, _, ⟨T145, L145, k145, n145⟩, -, X145, ⟨Lc145, hQ145, l145, y145, z145⟩, st145⟩ := Jvm.LawKit.callS X144 hx (y := (⟨"com/example/archerfish/archerfish/index/TokenTableHashPinLaw", "term", "([CIII)J"⟩ : MethodName)) hown (mvT hZ (hw _ (List.mem_of_getElem? (i := 3) rfl))) (mvT hZ (hw _ (List.mem_of_getElem? (i := 4) rfl))) (mvT hZ (hw _ (List.mem_of_getElem? (i := 5) rfl))) (mvT hZ (hw _ (List.mem_of_getElem? (i := 6) rfl))) (by decide) (backOf (W := 2) (own_rm1_o l Z a0 hw [] b1 (4 : Int32) (1 : Int32) (4 : Int32) h6 n0 z140 (by decide)) hZ (hw _ (List.mem_of_getElem? (i := 6) rfl)) (hw _ (List.mem_of_getElem? (i := 5) rfl)) (by decide) (by decide)) (g := (mkF m 132 #[.val (.int p1), .val (.int p2), .val (.int p3), .val (.int p4), .val (.int p5), .val (.ref b1), .val (.int (4 : Int32)), .val (.int (5 : Int32)), .val (.int (1 : Int32)), .unset, .unset, .unset, .unset, .unset] [(.int (4 : Int32)), (.int (1 : Int32)), (.int (4 : Int32)), (.ref b1), (.long (((((c4.toInt64) * (1 : Int64)) + (0 : Int64)) + (0 : Int64)) + (0 : Int64)))])) rfl (by rw [hml]; rfl) (argsL := [(.ref b1), (.int (4 : Int32)), (.int (1 : Int32)), (.int (4 : Int32))]) (rest := [(.long (((((c4.toInt64) * (1 : Int64)) + (0 : Int64)) + (0 : Int64)) + (0 : Int64)))]) (lenOf own_pd1 rfl) rfl (by show 2 * 0 + _ ≤ _; exact Nat.le_of_eq rfl) (hb hby at_132) (fun _ _ => ⟨rfl, eq144, (by decide : 1 + 0 ≤ _), (by decide : 5 + 0 ≤ _)⟩)
      dsimp only [Pt.U, Pt.locs, Pt.cells, Pt.slots] at X145 l145 y145 z145 st145 hQ145
      subst l145 y145 z145
      obtain ⟨rfl, Nq145, eq145⟩ := hQ145
      refine OE.of (fun _ k => st145 _ k) ?_
      have N145 := Fr.app N144 Nq145
      show OE _ p e below s _ _ _ T145 (mkF m 135 #[.val (.int p1), .val (.int p2), .val (.int p3), .val (.int p4), .val (.int p5), .val (.ref b1), .val (.int (4 : Int32)), .val (.int (5 : Int32)), .val (.int (1 : Int32)), .unset, .unset, .unset, .unset, .unset] [(.long (0 : Int64)), (.long (((((c4.toInt64) * (1 : Int64)) + (0 : Int64)) + (0 : Int64)) + (0 : Int64)))])
      refine OE.ladd X145 hx hby at_135 ?_
      refine OE.lstore X145 hx hby at_136 (l' := #[.val (.int p1), .val (.int p2), .val (.int p3), .val (.int p4), .val (.int p5), .val (.ref b1), .val (.int (4 : Int32)), .val (.int (5 : Int32)), .val (.int (1 : Int32)), .val (.long ((((((c4.toInt64) * (1 : Int64)) + (0 : Int64)) + (0 : Int64)) + (0 : Int64)) + (0 : Int64))), .second, .unset, .unset, .unset]) rfl ?_
      refine OE.lload X145 hx hby at_138 rfl ?_
      refine OE.l2i X145 hx hby at_140 ?_
      rw [(own_poly1 c4 : (((((((c4.toInt64) * (1 : Int64)) + (0 : Int64)) + (0 : Int64)) + (0 : Int64)) + (0 : Int64)).toInt32) = ((0 : Int32) + c4))]
      show OE _ p e below s _ _ _ T145 (mkF m 141 #[.val (.int p1), .val (.int p2), .val (.int p3), .val (.int p4), .val (.int p5), .val (.ref b1), .val (.int (4 : Int32)), .val (.int (5 : Int32)), .val (.int (1 : Int32)), .val (.long ((((((c4.toInt64) * (1 : Int64)) + (0 : Int64)) + (0 : Int64)) + (0 : Int64)) + (0 : Int64))), .second, .unset, .unset, .unset] [(.int ((0 : Int32) + c4))])
      refine OE.istore X145 hx hby at_141 (l' := #[.val (.int p1), .val (.int p2), .val (.int p3), .val (.int p4), .val (.int p5), .val (.ref b1), .val (.int (4 : Int32)), .val (.int (5 : Int32)), .val (.int (1 : Int32)), .val (.long ((((((c4.toInt64) * (1 : Int64)) + (0 : Int64)) + (0 : Int64)) + (0 : Int64)) + (0 : Int64))), .second, .val (.int ((0 : Int32) + c4)), .unset, .unset]) rfl ?_
      refine OE.iload X145 hx hby at_143 rfl ?_
      refine OE.i2l X145 hx hby at_145 ?_
      refine OE.of (X145.ldc2Long hx hown (mvT hZ (hw _ (List.mem_of_getElem? (i := 7) rfl))) (g := (mkF m 146 #[.val (.int p1), .val (.int p2), .val (.int p3), .val (.int p4), .val (.int p5), .val (.ref b1), .val (.int (4 : Int32)), .val (.int (5 : Int32)), .val (.int (1 : Int32)), .val (.long ((((((c4.toInt64) * (1 : Int64)) + (0 : Int64)) + (0 : Int64)) + (0 : Int64)) + (0 : Int64))), .second, .val (.int ((0 : Int32) + c4)), .unset, .unset] [(.long (((0 : Int32) + c4).toInt64))])) rfl (hb hby at_146)) ?_
      show OE _ p e below s _ _ _ T145 (mkF m 149 #[.val (.int p1), .val (.int p2), .val (.int p3), .val (.int p4), .val (.int p5), .val (.ref b1), .val (.int (4 : Int32)), .val (.int (5 : Int32)), .val (.int (1 : Int32)), .val (.long ((((((c4.toInt64) * (1 : Int64)) + (0 : Int64)) + (0 : Int64)) + (0 : Int64)) + (0 : Int64))), .second, .val (.int ((0 : Int32) + c4)), .unset, .unset] [(.long (2654435769 : Int64)), (.long (((0 : Int32) + c4).toInt64))])
      refine OE.lmul X145 hx hby at_149 ?_
      refine OE.l2i X145 hx hby at_150 ?_
      rw [(own_mul _ : (((((0 : Int32) + c4).toInt64) * (2654435769 : Int64)).toInt32) = (((0 : Int32) + c4) * (-1640531527 : Int32)))]
      show OE _ p e below s _ _ _ T145 (mkF m 151 #[.val (.int p1), .val (.int p2), .val (.int p3), .val (.int p4), .val (.int p5), .val (.ref b1), .val (.int (4 : Int32)), .val (.int (5 : Int32)), .val (.int (1 : Int32)), .val (.long ((((((c4.toInt64) * (1 : Int64)) + (0 : Int64)) + (0 : Int64)) + (0 : Int64)) + (0 : Int64))), .second, .val (.int ((0 : Int32) + c4)), .unset, .unset] [(.int (((0 : Int32) + c4) * (-1640531527 : Int32)))])
      refine OE.istore X145 hx hby at_151 (l' := #[.val (.int p1), .val (.int p2), .val (.int p3), .val (.int p4), .val (.int p5), .val (.ref b1), .val (.int (4 : Int32)), .val (.int (5 : Int32)), .val (.int (1 : Int32)), .val (.long ((((((c4.toInt64) * (1 : Int64)) + (0 : Int64)) + (0 : Int64)) + (0 : Int64)) + (0 : Int64))), .second, .val (.int ((0 : Int32) + c4)), .val (.int (((0 : Int32) + c4) * (-1640531527 : Int32))), .unset]) rfl ?_
      refine OE.aload X145 hx hby at_153 rfl rfl ?_
      refine OE.iload X145 hx hby at_155 rfl ?_
      refine OE.iload X145 hx hby at_157 rfl ?_
      obtain ⟨_, _, ⟨T146, L146, k146, n146⟩, -, X146, ⟨Lc146, hQ146, l146, y146, z146⟩, st146⟩ := Jvm.LawKit.callS X145 hx (y := (⟨"com/example/archerfish/archerfish/index/TokenTable", "hash", "([CII)I"⟩ : MethodName)) hown (mvT hZ (hw _ (List.mem_of_getElem? (i := 8) rfl))) (mvT hZ (hw _ (List.mem_of_getElem? (i := 9) rfl))) (mvT hZ (hw _ (List.mem_of_getElem? (i := 10) rfl))) (mvT hZ (hw _ (List.mem_of_getElem? (i := 11) rfl))) (by decide) (backOf (W := 0) (own_rm2_4_1 l Z a0 hw [] b1 c0 c1 c2 c3 c4 k1 h6 n0 z140 Vc) hZ (hw _ (List.mem_of_getElem? (i := 11) rfl)) (hw _ (List.mem_of_getElem? (i := 10) rfl)) (by decide) (by decide)) (g := (mkF m 159 #[.val (.int p1), .val (.int p2), .val (.int p3), .val (.int p4), .val (.int p5), .val (.ref b1), .val (.int (4 : Int32)), .val (.int (5 : Int32)), .val (.int (1 : Int32)), .val (.long ((((((c4.toInt64) * (1 : Int64)) + (0 : Int64)) + (0 : Int64)) + (0 : Int64)) + (0 : Int64))), .second, .val (.int ((0 : Int32) + c4)), .val (.int (((0 : Int32) + c4) * (-1640531527 : Int32))), .unset] [(.int (5 : Int32)), (.int (4 : Int32)), (.ref b1)])) rfl (by rw [hml]; rfl) (argsL := [(.ref b1), (.int (4 : Int32)), (.int (5 : Int32))]) (rest := []) (lenOf own_pd2 rfl) rfl (by show 2 * 0 + _ ≤ _; exact Nat.le_of_eq rfl) (hb hby at_159) (fun _ _ => ⟨rfl, eq145, (by decide : 1 + 0 ≤ _), (by decide : 5 + 0 ≤ _)⟩)
      dsimp only [Pt.U, Pt.locs, Pt.cells, Pt.slots] at X146 l146 y146 z146 st146 hQ146
      subst l146 y146 z146
      obtain ⟨rfl, Nq146, eq146⟩ := hQ146
      refine OE.of (fun _ k => st146 _ k) ?_
      have N146 := Fr.app N145 Nq146
      show OE _ p e below s _ _ _ T146 (mkF m 162 #[.val (.int p1), .val (.int p2), .val (.int p3), .val (.int p4), .val (.int p5), .val (.ref b1), .val (.int (4 : Int32)), .val (.int (5 : Int32)), .val (.int (1 : Int32)), .val (.long ((((((c4.toInt64) * (1 : Int64)) + (0 : Int64)) + (0 : Int64)) + (0 : Int64)) + (0 : Int64))), .second, .val (.int ((0 : Int32) + c4)), .val (.int (((0 : Int32) + c4) * (-1640531527 : Int32))), .unset] [(.int ((((0 : Int32) + c4) * (-1640531527 : Int32)) ^^^ (((((0 : Int32) + c4) * (-1640531527 : Int32)).toUInt32 >>> ((16 : Int32) &&& 31).toUInt32).toInt32)))])
      refine OE.istore X146 hx hby at_162 (l' := #[.val (.int p1), .val (.int p2), .val (.int p3), .val (.int p4), .val (.int p5), .val (.ref b1), .val (.int (4 : Int32)), .val (.int (5 : Int32)), .val (.int (1 : Int32)), .val (.long ((((((c4.toInt64) * (1 : Int64)) + (0 : Int64)) + (0 : Int64)) + (0 : Int64)) + (0 : Int64))), .second, .val (.int ((0 : Int32) + c4)), .val (.int (((0 : Int32) + c4) * (-1640531527 : Int32))), .val (.int ((((0 : Int32) + c4) * (-1640531527 : Int32)) ^^^ (((((0 : Int32) + c4) * (-1640531527 : Int32)).toUInt32 >>> ((16 : Int32) &&& 31).toUInt32).toInt32)))]) rfl ?_
      refine OE.iload X146 hx hby at_164 rfl ?_
      refine OE.bipush X146 hx hby at_166 (16 : Int32) rfl ?_
      refine OE.iushr X146 hx hby at_168 ?_
      refine OE.iload X146 hx hby at_169 rfl ?_
      refine OE.bipush X146 hx hby at_171 (16 : Int32) rfl ?_
      refine OE.iushr X146 hx hby at_173 ?_
      refine OE.icmpNo X146 hx hby at_174 (teq (own_top _ : ((((((0 : Int32) + c4) * (-1640531527 : Int32)) ^^^ (((((0 : Int32) + c4) * (-1640531527 : Int32)).toUInt32 >>> ((16 : Int32) &&& 31).toUInt32).toInt32)).toUInt32 >>> ((16 : Int32) &&& 31).toUInt32).toInt32) = (((((0 : Int32) + c4) * (-1640531527 : Int32)).toUInt32 >>> ((16 : Int32) &&& 31).toUInt32).toInt32))).2 ?_
      refine OE.iload X146 hx hby at_177 rfl ?_
      refine OE.of (X146.ldcInt hx hown (mvT hZ (hw _ (List.mem_of_getElem? (i := 1) rfl))) (g := (mkF m 179 #[.val (.int p1), .val (.int p2), .val (.int p3), .val (.int p4), .val (.int p5), .val (.ref b1), .val (.int (4 : Int32)), .val (.int (5 : Int32)), .val (.int (1 : Int32)), .val (.long ((((((c4.toInt64) * (1 : Int64)) + (0 : Int64)) + (0 : Int64)) + (0 : Int64)) + (0 : Int64))), .second, .val (.int ((0 : Int32) + c4)), .val (.int (((0 : Int32) + c4) * (-1640531527 : Int32))), .val (.int ((((0 : Int32) + c4) * (-1640531527 : Int32)) ^^^ (((((0 : Int32) + c4) * (-1640531527 : Int32)).toUInt32 >>> ((16 : Int32) &&& 31).toUInt32).toInt32)))] [(.int ((((0 : Int32) + c4) * (-1640531527 : Int32)) ^^^ (((((0 : Int32) + c4) * (-1640531527 : Int32)).toUInt32 >>> ((16 : Int32) &&& 31).toUInt32).toInt32)))])) rfl (hb hby at_179)) ?_
      show OE _ p e below s _ _ _ T146 (mkF m 181 #[.val (.int p1), .val (.int p2), .val (.int p3), .val (.int p4), .val (.int p5), .val (.ref b1), .val (.int (4 : Int32)), .val (.int (5 : Int32)), .val (.int (1 : Int32)), .val (.long ((((((c4.toInt64) * (1 : Int64)) + (0 : Int64)) + (0 : Int64)) + (0 : Int64)) + (0 : Int64))), .second, .val (.int ((0 : Int32) + c4)), .val (.int (((0 : Int32) + c4) * (-1640531527 : Int32))), .val (.int ((((0 : Int32) + c4) * (-1640531527 : Int32)) ^^^ (((((0 : Int32) + c4) * (-1640531527 : Int32)).toUInt32 >>> ((16 : Int32) &&& 31).toUInt32).toInt32)))] [(.int (65535 : Int32)), (.int ((((0 : Int32) + c4) * (-1640531527 : Int32)) ^^^ (((((0 : Int32) + c4) * (-1640531527 : Int32)).toUInt32 >>> ((16 : Int32) &&& 31).toUInt32).toInt32)))])
      refine OE.iand X146 hx hby at_181 ?_
      refine OE.iload X146 hx hby at_182 rfl ?_
      refine OE.iload X146 hx hby at_184 rfl ?_
      refine OE.bipush X146 hx hby at_186 (16 : Int32) rfl ?_
      refine OE.iushr X146 hx hby at_188 ?_
      refine OE.ixor X146 hx hby at_189 ?_
      refine OE.of (X146.ldcInt hx hown (mvT hZ (hw _ (List.mem_of_getElem? (i := 1) rfl))) (g := (mkF m 190 #[.val (.int p1), .val (.int p2), .val (.int p3), .val (.int p4), .val (.int p5), .val (.ref b1), .val (.int (4 : Int32)), .val (.int (5 : Int32)), .val (.int (1 : Int32)), .val (.long ((((((c4.toInt64) * (1 : Int64)) + (0 : Int64)) + (0 : Int64)) + (0 : Int64)) + (0 : Int64))), .second, .val (.int ((0 : Int32) + c4)), .val (.int (((0 : Int32) + c4) * (-1640531527 : Int32))), .val (.int ((((0 : Int32) + c4) * (-1640531527 : Int32)) ^^^ (((((0 : Int32) + c4) * (-1640531527 : Int32)).toUInt32 >>> ((16 : Int32) &&& 31).toUInt32).toInt32)))] [(.int ((((0 : Int32) + c4) * (-1640531527 : Int32)) ^^^ (((((0 : Int32) + c4) * (-1640531527 : Int32)).toUInt32 >>> ((16 : Int32) &&& 31).toUInt32).toInt32))), (.int (((((0 : Int32) + c4) * (-1640531527 : Int32)) ^^^ (((((0 : Int32) + c4) * (-1640531527 : Int32)).toUInt32 >>> ((16 : Int32) &&& 31).toUInt32).toInt32)) &&& (65535 : Int32)))])) rfl (hb hby at_190)) ?_
      show OE _ p e below s _ _ _ T146 (mkF m 192 #[.val (.int p1), .val (.int p2), .val (.int p3), .val (.int p4), .val (.int p5), .val (.ref b1), .val (.int (4 : Int32)), .val (.int (5 : Int32)), .val (.int (1 : Int32)), .val (.long ((((((c4.toInt64) * (1 : Int64)) + (0 : Int64)) + (0 : Int64)) + (0 : Int64)) + (0 : Int64))), .second, .val (.int ((0 : Int32) + c4)), .val (.int (((0 : Int32) + c4) * (-1640531527 : Int32))), .val (.int ((((0 : Int32) + c4) * (-1640531527 : Int32)) ^^^ (((((0 : Int32) + c4) * (-1640531527 : Int32)).toUInt32 >>> ((16 : Int32) &&& 31).toUInt32).toInt32)))] [(.int (65535 : Int32)), (.int ((((0 : Int32) + c4) * (-1640531527 : Int32)) ^^^ (((((0 : Int32) + c4) * (-1640531527 : Int32)).toUInt32 >>> ((16 : Int32) &&& 31).toUInt32).toInt32))), (.int (((((0 : Int32) + c4) * (-1640531527 : Int32)) ^^^ (((((0 : Int32) + c4) * (-1640531527 : Int32)).toUInt32 >>> ((16 : Int32) &&& 31).toUInt32).toInt32)) &&& (65535 : Int32)))])
      refine OE.iand X146 hx hby at_192 ?_
      refine OE.icmpNo X146 hx hby at_193 (teq (rfl : (((((0 : Int32) + c4) * (-1640531527 : Int32)) ^^^ (((((0 : Int32) + c4) * (-1640531527 : Int32)).toUInt32 >>> ((16 : Int32) &&& 31).toUInt32).toInt32)) &&& (65535 : Int32)) = (((((0 : Int32) + c4) * (-1640531527 : Int32)) ^^^ (((((0 : Int32) + c4) * (-1640531527 : Int32)).toUInt32 >>> ((16 : Int32) &&& 31).toUInt32).toInt32)) &&& (65535 : Int32)))).2 ?_
      refine OE.iconst X146 hx hby at_196 (1 : Int32) rfl ?_
      refine OE.goto X146 hx hby (pc' := 201) at_197 (h := ?_)
      refine OE.retN X146 hx (t := .boolean) Bd.returns (by simp) Bd.notSynchronized (hb hby at_201) (by decide) (by decide) ?_
      rw [eq146]
      exact ⟨rfl, N146⟩
  · rw [hs]
    show OE _ p e below s _ _ _ T6 (mkF m 57 #[.val (.int p1), .val (.int p2), .val (.int p3), .val (.int p4), .val (.int p5), .val (.ref b1), .unset, .unset, .unset, .unset, .unset, .unset, .unset, .unset] [(.int (5 : Int32))])
    refine OE.istore X6 hx hby at_57 (l' := #[.val (.int p1), .val (.int p2), .val (.int p3), .val (.int p4), .val (.int p5), .val (.ref b1), .val (.int (5 : Int32)), .unset, .unset, .unset, .unset, .unset, .unset, .unset]) rfl ?_
    refine OE.iload X6 hx hby at_59 rfl ?_
    refine OE.iload X6 hx hby at_61 rfl ?_
    refine OE.of (X6.ldcInt hx hown (mvT hZ (hw _ (List.mem_of_getElem? (i := 2) rfl))) (g := (mkF m 63 #[.val (.int p1), .val (.int p2), .val (.int p3), .val (.int p4), .val (.int p5), .val (.ref b1), .val (.int (5 : Int32)), .unset, .unset, .unset, .unset, .unset, .unset, .unset] [(.int p5), (.int (5 : Int32))])) rfl (hb hby at_63)) ?_
    show OE _ p e below s _ _ _ T6 (mkF m 65 #[.val (.int p1), .val (.int p2), .val (.int p3), .val (.int p4), .val (.int p5), .val (.ref b1), .val (.int (5 : Int32)), .unset, .unset, .unset, .unset, .unset, .unset, .unset] [(.int (2147483647 : Int32)), (.int p5), (.int (5 : Int32))])
    refine OE.iand X6 hx hby at_65 ?_
    refine OE.bipush X6 hx hby at_66 (6 : Int32) rfl ?_
    refine OE.iload X6 hx hby at_68 rfl ?_
    refine OE.isub X6 hx hby at_70 ?_
    rw [(by decide : ((6 : Int32) - (5 : Int32)) = (1 : Int32))]
    refine OE.irem X6 hx hby at_71 (by decide) ?_
    have hm := own_md1 p5
    · rw [hm]
      show OE _ p e below s _ _ _ T6 (mkF m 72 #[.val (.int p1), .val (.int p2), .val (.int p3), .val (.int p4), .val (.int p5), .val (.ref b1), .val (.int (5 : Int32)), .unset, .unset, .unset, .unset, .unset, .unset, .unset] [(.int (0 : Int32)), (.int (5 : Int32))])
      refine OE.iadd X6 hx hby at_72 ?_
      rw [(by decide : ((5 : Int32) + (0 : Int32)) = (5 : Int32))]
      refine OE.istore X6 hx hby at_73 (l' := #[.val (.int p1), .val (.int p2), .val (.int p3), .val (.int p4), .val (.int p5), .val (.ref b1), .val (.int (5 : Int32)), .val (.int (5 : Int32)), .unset, .unset, .unset, .unset, .unset, .unset]) rfl ?_
      refine OE.iload X6 hx hby at_75 rfl ?_
      refine OE.iload X6 hx hby at_77 rfl ?_
      refine OE.isub X6 hx hby at_79 ?_
      rw [(by decide : ((5 : Int32) - (5 : Int32)) = (0 : Int32))]
      refine OE.istore X6 hx hby at_80 (l' := #[.val (.int p1), .val (.int p2), .val (.int p3), .val (.int p4), .val (.int p5), .val (.ref b1), .val (.int (5 : Int32)), .val (.int (5 : Int32)), .val (.int (0 : Int32)), .unset, .unset, .unset, .unset, .unset]) rfl ?_
      refine OE.aload X6 hx hby at_82 rfl rfl ?_
      refine OE.iload X6 hx hby at_84 rfl ?_
      refine OE.iload X6 hx hby at_86 rfl ?_
      refine OE.iconst X6 hx hby at_88 (0 : Int32) rfl ?_
      have z147 : n0 ≤ h6.size := (Nat.le_trans (Nat.le_trans (Nat.le_trans (Nat.le_trans (Nat.le_trans (Nat.le_trans Z0 E1.1) (Nat.le_of_eq W2.size.symm)) (Nat.le_of_eq W3.size.symm)) (Nat.le_of_eq W4.size.symm)) (Nat.le_of_eq W5.size.symm)) (Nat.le_of_eq W6.size.symm))
      obtain ⟨_, _, ⟨T148, L148, k148, n148⟩, -, X148, ⟨Lc148, hQ148, l148, y148, z148⟩, st148⟩ := Jvm.LawKit.callS X6 hx (y := (⟨"com/example/archerfish/archerfish/index/TokenTableHashPinLaw", "term", "([CIII)J"⟩ : MethodName)) hown (mvT hZ (hw _ (List.mem_of_getElem? (i := 3) rfl))) (mvT hZ (hw _ (List.mem_of_getElem? (i := 4) rfl))) (mvT hZ (hw _ (List.mem_of_getElem? (i := 5) rfl))) (mvT hZ (hw _ (List.mem_of_getElem? (i := 6) rfl))) (by decide) (backOf (W := 0) (own_rm1_o l Z a0 hw [] b1 (5 : Int32) (0 : Int32) (0 : Int32) h6 n0 z147 (by decide)) hZ (hw _ (List.mem_of_getElem? (i := 6) rfl)) (hw _ (List.mem_of_getElem? (i := 5) rfl)) (by decide) (by decide)) (g := (mkF m 89 #[.val (.int p1), .val (.int p2), .val (.int p3), .val (.int p4), .val (.int p5), .val (.ref b1), .val (.int (5 : Int32)), .val (.int (5 : Int32)), .val (.int (0 : Int32)), .unset, .unset, .unset, .unset, .unset] [(.int (0 : Int32)), (.int (0 : Int32)), (.int (5 : Int32)), (.ref b1)])) rfl (by rw [hml]; rfl) (argsL := [(.ref b1), (.int (5 : Int32)), (.int (0 : Int32)), (.int (0 : Int32))]) (rest := []) (lenOf own_pd1 rfl) rfl (by show 2 * 0 + _ ≤ _; exact Nat.le_of_eq rfl) (hb hby at_89) (fun _ _ => ⟨rfl, e6, (by decide : 1 + 0 ≤ _), (by decide : 5 + 0 ≤ _)⟩)
      dsimp only [Pt.U, Pt.locs, Pt.cells, Pt.slots] at X148 l148 y148 z148 st148 hQ148
      subst l148 y148 z148
      obtain ⟨rfl, Nq148, eq148⟩ := hQ148
      refine OE.of (fun _ k => st148 _ k) ?_
      have N148 := Fr.app N6 Nq148
      show OE _ p e below s _ _ _ T148 (mkF m 92 #[.val (.int p1), .val (.int p2), .val (.int p3), .val (.int p4), .val (.int p5), .val (.ref b1), .val (.int (5 : Int32)), .val (.int (5 : Int32)), .val (.int (0 : Int32)), .unset, .unset, .unset, .unset, .unset] [(.long (0 : Int64))])
      refine OE.aload X148 hx hby at_92 rfl rfl ?_
      refine OE.iload X148 hx hby at_94 rfl ?_
      refine OE.iload X148 hx hby at_96 rfl ?_
      refine OE.iconst X148 hx hby at_98 (1 : Int32) rfl ?_
      obtain ⟨_, _, ⟨T149, L149, k149, n149⟩, -, X149, ⟨Lc149, hQ149, l149, y149, z149⟩, st149⟩ := Jvm.LawKit.callS X148 hx (y := (⟨"com/example/archerfish/archerfish/index/TokenTableHashPinLaw", "term", "([CIII)J"⟩ : MethodName)) hown (mvT hZ (hw _ (List.mem_of_getElem? (i := 3) rfl))) (mvT hZ (hw _ (List.mem_of_getElem? (i := 4) rfl))) (mvT hZ (hw _ (List.mem_of_getElem? (i := 5) rfl))) (mvT hZ (hw _ (List.mem_of_getElem? (i := 6) rfl))) (by decide) (backOf (W := 2) (own_rm1_o l Z a0 hw [] b1 (5 : Int32) (0 : Int32) (1 : Int32) h6 n0 z147 (by decide)) hZ (hw _ (List.mem_of_getElem? (i := 6) rfl)) (hw _ (List.mem_of_getElem? (i := 5) rfl)) (by decide) (by decide)) (g := (mkF m 99 #[.val (.int p1), .val (.int p2), .val (.int p3), .val (.int p4), .val (.int p5), .val (.ref b1), .val (.int (5 : Int32)), .val (.int (5 : Int32)), .val (.int (0 : Int32)), .unset, .unset, .unset, .unset, .unset] [(.int (1 : Int32)), (.int (0 : Int32)), (.int (5 : Int32)), (.ref b1), (.long (0 : Int64))])) rfl (by rw [hml]; rfl) (argsL := [(.ref b1), (.int (5 : Int32)), (.int (0 : Int32)), (.int (1 : Int32))]) (rest := [(.long (0 : Int64))]) (lenOf own_pd1 rfl) rfl (by show 2 * 0 + _ ≤ _; exact Nat.le_of_eq rfl) (hb hby at_99) (fun _ _ => ⟨rfl, eq148, (by decide : 1 + 0 ≤ _), (by decide : 5 + 0 ≤ _)⟩)
      dsimp only [Pt.U, Pt.locs, Pt.cells, Pt.slots] at X149 l149 y149 z149 st149 hQ149
      subst l149 y149 z149
      obtain ⟨rfl, Nq149, eq149⟩ := hQ149
      refine OE.of (fun _ k => st149 _ k) ?_
      have N149 := Fr.app N148 Nq149
      show OE _ p e below s _ _ _ T149 (mkF m 102 #[.val (.int p1), .val (.int p2), .val (.int p3), .val (.int p4), .val (.int p5), .val (.ref b1), .val (.int (5 : Int32)), .val (.int (5 : Int32)), .val (.int (0 : Int32)), .unset, .unset, .unset, .unset, .unset] [(.long (0 : Int64)), (.long (0 : Int64))])
      refine OE.ladd X149 hx hby at_102 ?_
      rw [(by decide : ((0 : Int64) + (0 : Int64)) = (0 : Int64))]
      refine OE.aload X149 hx hby at_103 rfl rfl ?_
      refine OE.iload X149 hx hby at_105 rfl ?_
      refine OE.iload X149 hx hby at_107 rfl ?_
      refine OE.iconst X149 hx hby at_109 (2 : Int32) rfl ?_
      obtain ⟨_, _, ⟨T150, L150, k150, n150⟩, -, X150, ⟨Lc150, hQ150, l150, y150, z150⟩, st150⟩ := Jvm.LawKit.callS X149 hx (y := (⟨"com/example/archerfish/archerfish/index/TokenTableHashPinLaw", "term", "([CIII)J"⟩ : MethodName)) hown (mvT hZ (hw _ (List.mem_of_getElem? (i := 3) rfl))) (mvT hZ (hw _ (List.mem_of_getElem? (i := 4) rfl))) (mvT hZ (hw _ (List.mem_of_getElem? (i := 5) rfl))) (mvT hZ (hw _ (List.mem_of_getElem? (i := 6) rfl))) (by decide) (backOf (W := 2) (own_rm1_o l Z a0 hw [] b1 (5 : Int32) (0 : Int32) (2 : Int32) h6 n0 z147 (by decide)) hZ (hw _ (List.mem_of_getElem? (i := 6) rfl)) (hw _ (List.mem_of_getElem? (i := 5) rfl)) (by decide) (by decide)) (g := (mkF m 110 #[.val (.int p1), .val (.int p2), .val (.int p3), .val (.int p4), .val (.int p5), .val (.ref b1), .val (.int (5 : Int32)), .val (.int (5 : Int32)), .val (.int (0 : Int32)), .unset, .unset, .unset, .unset, .unset] [(.int (2 : Int32)), (.int (0 : Int32)), (.int (5 : Int32)), (.ref b1), (.long (0 : Int64))])) rfl (by rw [hml]; rfl) (argsL := [(.ref b1), (.int (5 : Int32)), (.int (0 : Int32)), (.int (2 : Int32))]) (rest := [(.long (0 : Int64))]) (lenOf own_pd1 rfl) rfl (by show 2 * 0 + _ ≤ _; exact Nat.le_of_eq rfl) (hb hby at_110) (fun _ _ => ⟨rfl, eq149, (by decide : 1 + 0 ≤ _), (by decide : 5 + 0 ≤ _)⟩)
      dsimp only [Pt.U, Pt.locs, Pt.cells, Pt.slots] at X150 l150 y150 z150 st150 hQ150
      subst l150 y150 z150
      obtain ⟨rfl, Nq150, eq150⟩ := hQ150
      refine OE.of (fun _ k => st150 _ k) ?_
      have N150 := Fr.app N149 Nq150
      show OE _ p e below s _ _ _ T150 (mkF m 113 #[.val (.int p1), .val (.int p2), .val (.int p3), .val (.int p4), .val (.int p5), .val (.ref b1), .val (.int (5 : Int32)), .val (.int (5 : Int32)), .val (.int (0 : Int32)), .unset, .unset, .unset, .unset, .unset] [(.long (0 : Int64)), (.long (0 : Int64))])
      refine OE.ladd X150 hx hby at_113 ?_
      rw [(by decide : ((0 : Int64) + (0 : Int64)) = (0 : Int64))]
      refine OE.aload X150 hx hby at_114 rfl rfl ?_
      refine OE.iload X150 hx hby at_116 rfl ?_
      refine OE.iload X150 hx hby at_118 rfl ?_
      refine OE.iconst X150 hx hby at_120 (3 : Int32) rfl ?_
      obtain ⟨_, _, ⟨T151, L151, k151, n151⟩, -, X151, ⟨Lc151, hQ151, l151, y151, z151⟩, st151⟩ := Jvm.LawKit.callS X150 hx (y := (⟨"com/example/archerfish/archerfish/index/TokenTableHashPinLaw", "term", "([CIII)J"⟩ : MethodName)) hown (mvT hZ (hw _ (List.mem_of_getElem? (i := 3) rfl))) (mvT hZ (hw _ (List.mem_of_getElem? (i := 4) rfl))) (mvT hZ (hw _ (List.mem_of_getElem? (i := 5) rfl))) (mvT hZ (hw _ (List.mem_of_getElem? (i := 6) rfl))) (by decide) (backOf (W := 2) (own_rm1_o l Z a0 hw [] b1 (5 : Int32) (0 : Int32) (3 : Int32) h6 n0 z147 (by decide)) hZ (hw _ (List.mem_of_getElem? (i := 6) rfl)) (hw _ (List.mem_of_getElem? (i := 5) rfl)) (by decide) (by decide)) (g := (mkF m 121 #[.val (.int p1), .val (.int p2), .val (.int p3), .val (.int p4), .val (.int p5), .val (.ref b1), .val (.int (5 : Int32)), .val (.int (5 : Int32)), .val (.int (0 : Int32)), .unset, .unset, .unset, .unset, .unset] [(.int (3 : Int32)), (.int (0 : Int32)), (.int (5 : Int32)), (.ref b1), (.long (0 : Int64))])) rfl (by rw [hml]; rfl) (argsL := [(.ref b1), (.int (5 : Int32)), (.int (0 : Int32)), (.int (3 : Int32))]) (rest := [(.long (0 : Int64))]) (lenOf own_pd1 rfl) rfl (by show 2 * 0 + _ ≤ _; exact Nat.le_of_eq rfl) (hb hby at_121) (fun _ _ => ⟨rfl, eq150, (by decide : 1 + 0 ≤ _), (by decide : 5 + 0 ≤ _)⟩)
      dsimp only [Pt.U, Pt.locs, Pt.cells, Pt.slots] at X151 l151 y151 z151 st151 hQ151
      subst l151 y151 z151
      obtain ⟨rfl, Nq151, eq151⟩ := hQ151
      refine OE.of (fun _ k => st151 _ k) ?_
      have N151 := Fr.app N150 Nq151
      show OE _ p e below s _ _ _ T151 (mkF m 124 #[.val (.int p1), .val (.int p2), .val (.int p3), .val (.int p4), .val (.int p5), .val (.ref b1), .val (.int (5 : Int32)), .val (.int (5 : Int32)), .val (.int (0 : Int32)), .unset, .unset, .unset, .unset, .unset] [(.long (0 : Int64)), (.long (0 : Int64))])
      refine OE.ladd X151 hx hby at_124 ?_
      rw [(by decide : ((0 : Int64) + (0 : Int64)) = (0 : Int64))]
      refine OE.aload X151 hx hby at_125 rfl rfl ?_
      refine OE.iload X151 hx hby at_127 rfl ?_
      refine OE.iload X151 hx hby at_129 rfl ?_
      refine OE.iconst X151 hx hby at_131 (4 : Int32) rfl ?_
      obtain ⟨_, _, ⟨T152, L152, k152, n152⟩, -, X152, ⟨Lc152, hQ152, l152, y152, z152⟩, st152⟩ := Jvm.LawKit.callS X151 hx (y := (⟨"com/example/archerfish/archerfish/index/TokenTableHashPinLaw", "term", "([CIII)J"⟩ : MethodName)) hown (mvT hZ (hw _ (List.mem_of_getElem? (i := 3) rfl))) (mvT hZ (hw _ (List.mem_of_getElem? (i := 4) rfl))) (mvT hZ (hw _ (List.mem_of_getElem? (i := 5) rfl))) (mvT hZ (hw _ (List.mem_of_getElem? (i := 6) rfl))) (by decide) (backOf (W := 2) (own_rm1_o l Z a0 hw [] b1 (5 : Int32) (0 : Int32) (4 : Int32) h6 n0 z147 (by decide)) hZ (hw _ (List.mem_of_getElem? (i := 6) rfl)) (hw _ (List.mem_of_getElem? (i := 5) rfl)) (by decide) (by decide)) (g := (mkF m 132 #[.val (.int p1), .val (.int p2), .val (.int p3), .val (.int p4), .val (.int p5), .val (.ref b1), .val (.int (5 : Int32)), .val (.int (5 : Int32)), .val (.int (0 : Int32)), .unset, .unset, .unset, .unset, .unset] [(.int (4 : Int32)), (.int (0 : Int32)), (.int (5 : Int32)), (.ref b1), (.long (0 : Int64))])) rfl (by rw [hml]; rfl) (argsL := [(.ref b1), (.int (5 : Int32)), (.int (0 : Int32)), (.int (4 : Int32))]) (rest := [(.long (0 : Int64))]) (lenOf own_pd1 rfl) rfl (by show 2 * 0 + _ ≤ _; exact Nat.le_of_eq rfl) (hb hby at_132) (fun _ _ => ⟨rfl, eq151, (by decide : 1 + 0 ≤ _), (by decide : 5 + 0 ≤ _)⟩)
      dsimp only [Pt.U, Pt.locs, Pt.cells, Pt.slots] at X152 l152 y152 z152 st152 hQ152
      subst l152 y152 z152
      obtain ⟨rfl, Nq152, eq152⟩ := hQ152
      refine OE.of (fun _ k => st152 _ k) ?_
      have N152 := Fr.app N151 Nq152
      show OE _ p e below s _ _ _ T152 (mkF m 135 #[.val (.int p1), .val (.int p2), .val (.int p3), .val (.int p4), .val (.int p5), .val (.ref b1), .val (.int (5 : Int32)), .val (.int (5 : Int32)), .val (.int (0 : Int32)), .unset, .unset, .unset, .unset, .unset] [(.long (0 : Int64)), (.long (0 : Int64))])
      refine OE.ladd X152 hx hby at_135 ?_
      rw [(by decide : ((0 : Int64) + (0 : Int64)) = (0 : Int64))]
      refine OE.lstore X152 hx hby at_136 (l' := #[.val (.int p1), .val (.int p2), .val (.int p3), .val (.int p4), .val (.int p5), .val (.ref b1), .val (.int (5 : Int32)), .val (.int (5 : Int32)), .val (.int (0 : Int32)), .val (.long (0 : Int64)), .second, .unset, .unset, .unset]) rfl ?_
      refine OE.lload X152 hx hby at_138 rfl ?_
      refine OE.l2i X152 hx hby at_140 ?_
      rw [((by decide) : ((0 : Int64).toInt32) = (0 : Int32))]
      show OE _ p e below s _ _ _ T152 (mkF m 141 #[.val (.int p1), .val (.int p2), .val (.int p3), .val (.int p4), .val (.int p5), .val (.ref b1), .val (.int (5 : Int32)), .val (.int (5 : Int32)), .val (.int (0 : Int32)), .val (.long (0 : Int64)), .second, .unset, .unset, .unset] [(.int (0 : Int32))])
      refine OE.istore X152 hx hby at_141 (l' := #[.val (.int p1), .val (.int p2), .val (.int p3), .val (.int p4), .val (.int p5), .val (.ref b1), .val (.int (5 : Int32)), .val (.int (5 : Int32)), .val (.int (0 : Int32)), .val (.long (0 : Int64)), .second, .val (.int (0 : Int32)), .unset, .unset]) rfl ?_
      refine OE.iload X152 hx hby at_143 rfl ?_
      refine OE.i2l X152 hx hby at_145 ?_
      refine OE.of (X152.ldc2Long hx hown (mvT hZ (hw _ (List.mem_of_getElem? (i := 7) rfl))) (g := (mkF m 146 #[.val (.int p1), .val (.int p2), .val (.int p3), .val (.int p4), .val (.int p5), .val (.ref b1), .val (.int (5 : Int32)), .val (.int (5 : Int32)), .val (.int (0 : Int32)), .val (.long (0 : Int64)), .second, .val (.int (0 : Int32)), .unset, .unset] [(.long ((0 : Int32).toInt64))])) rfl (hb hby at_146)) ?_
      show OE _ p e below s _ _ _ T152 (mkF m 149 #[.val (.int p1), .val (.int p2), .val (.int p3), .val (.int p4), .val (.int p5), .val (.ref b1), .val (.int (5 : Int32)), .val (.int (5 : Int32)), .val (.int (0 : Int32)), .val (.long (0 : Int64)), .second, .val (.int (0 : Int32)), .unset, .unset] [(.long (2654435769 : Int64)), (.long ((0 : Int32).toInt64))])
      refine OE.lmul X152 hx hby at_149 ?_
      refine OE.l2i X152 hx hby at_150 ?_
      rw [((by decide) : ((((0 : Int32).toInt64) * (2654435769 : Int64)).toInt32) = (0 : Int32))]
      show OE _ p e below s _ _ _ T152 (mkF m 151 #[.val (.int p1), .val (.int p2), .val (.int p3), .val (.int p4), .val (.int p5), .val (.ref b1), .val (.int (5 : Int32)), .val (.int (5 : Int32)), .val (.int (0 : Int32)), .val (.long (0 : Int64)), .second, .val (.int (0 : Int32)), .unset, .unset] [(.int (0 : Int32))])
      refine OE.istore X152 hx hby at_151 (l' := #[.val (.int p1), .val (.int p2), .val (.int p3), .val (.int p4), .val (.int p5), .val (.ref b1), .val (.int (5 : Int32)), .val (.int (5 : Int32)), .val (.int (0 : Int32)), .val (.long (0 : Int64)), .second, .val (.int (0 : Int32)), .val (.int (0 : Int32)), .unset]) rfl ?_
      refine OE.aload X152 hx hby at_153 rfl rfl ?_
      refine OE.iload X152 hx hby at_155 rfl ?_
      refine OE.iload X152 hx hby at_157 rfl ?_
      obtain ⟨_, _, ⟨T153, L153, k153, n153⟩, -, X153, ⟨Lc153, hQ153, l153, y153, z153⟩, st153⟩ := Jvm.LawKit.callS X152 hx (y := (⟨"com/example/archerfish/archerfish/index/TokenTable", "hash", "([CII)I"⟩ : MethodName)) hown (mvT hZ (hw _ (List.mem_of_getElem? (i := 8) rfl))) (mvT hZ (hw _ (List.mem_of_getElem? (i := 9) rfl))) (mvT hZ (hw _ (List.mem_of_getElem? (i := 10) rfl))) (mvT hZ (hw _ (List.mem_of_getElem? (i := 11) rfl))) (by decide) (backOf (W := 0) (own_rm2_5_0 l Z a0 hw [] b1 c0 c1 c2 c3 c4 k1 h6 n0 z147 Vc) hZ (hw _ (List.mem_of_getElem? (i := 11) rfl)) (hw _ (List.mem_of_getElem? (i := 10) rfl)) (by decide) (by decide)) (g := (mkF m 159 #[.val (.int p1), .val (.int p2), .val (.int p3), .val (.int p4), .val (.int p5), .val (.ref b1), .val (.int (5 : Int32)), .val (.int (5 : Int32)), .val (.int (0 : Int32)), .val (.long (0 : Int64)), .second, .val (.int (0 : Int32)), .val (.int (0 : Int32)), .unset] [(.int (5 : Int32)), (.int (5 : Int32)), (.ref b1)])) rfl (by rw [hml]; rfl) (argsL := [(.ref b1), (.int (5 : Int32)), (.int (5 : Int32))]) (rest := []) (lenOf own_pd2 rfl) rfl (by show 2 * 0 + _ ≤ _; exact Nat.le_of_eq rfl) (hb hby at_159) (fun _ _ => ⟨rfl, eq152, (by decide : 1 + 0 ≤ _), (by decide : 5 + 0 ≤ _)⟩)
      dsimp only [Pt.U, Pt.locs, Pt.cells, Pt.slots] at X153 l153 y153 z153 st153 hQ153
      subst l153 y153 z153
      obtain ⟨rfl, Nq153, eq153⟩ := hQ153
      refine OE.of (fun _ k => st153 _ k) ?_
      have N153 := Fr.app N152 Nq153
      show OE _ p e below s _ _ _ T153 (mkF m 162 #[.val (.int p1), .val (.int p2), .val (.int p3), .val (.int p4), .val (.int p5), .val (.ref b1), .val (.int (5 : Int32)), .val (.int (5 : Int32)), .val (.int (0 : Int32)), .val (.long (0 : Int64)), .second, .val (.int (0 : Int32)), .val (.int (0 : Int32)), .unset] [(.int ((0 : Int32) ^^^ (((0 : Int32).toUInt32 >>> ((16 : Int32) &&& 31).toUInt32).toInt32)))])
      refine OE.istore X153 hx hby at_162 (l' := #[.val (.int p1), .val (.int p2), .val (.int p3), .val (.int p4), .val (.int p5), .val (.ref b1), .val (.int (5 : Int32)), .val (.int (5 : Int32)), .val (.int (0 : Int32)), .val (.long (0 : Int64)), .second, .val (.int (0 : Int32)), .val (.int (0 : Int32)), .val (.int ((0 : Int32) ^^^ (((0 : Int32).toUInt32 >>> ((16 : Int32) &&& 31).toUInt32).toInt32)))]) rfl ?_
      refine OE.iload X153 hx hby at_164 rfl ?_
      refine OE.bipush X153 hx hby at_166 (16 : Int32) rfl ?_
      refine OE.iushr X153 hx hby at_168 ?_
      refine OE.iload X153 hx hby at_169 rfl ?_
      refine OE.bipush X153 hx hby at_171 (16 : Int32) rfl ?_
      refine OE.iushr X153 hx hby at_173 ?_
      refine OE.icmpNo X153 hx hby at_174 (teq (own_top _ : ((((0 : Int32) ^^^ (((0 : Int32).toUInt32 >>> ((16 : Int32) &&& 31).toUInt32).toInt32)).toUInt32 >>> ((16 : Int32) &&& 31).toUInt32).toInt32) = (((0 : Int32).toUInt32 >>> ((16 : Int32) &&& 31).toUInt32).toInt32))).2 ?_
      refine OE.iload X153 hx hby at_177 rfl ?_
      refine OE.of (X153.ldcInt hx hown (mvT hZ (hw _ (List.mem_of_getElem? (i := 1) rfl))) (g := (mkF m 179 #[.val (.int p1), .val (.int p2), .val (.int p3), .val (.int p4), .val (.int p5), .val (.ref b1), .val (.int (5 : Int32)), .val (.int (5 : Int32)), .val (.int (0 : Int32)), .val (.long (0 : Int64)), .second, .val (.int (0 : Int32)), .val (.int (0 : Int32)), .val (.int ((0 : Int32) ^^^ (((0 : Int32).toUInt32 >>> ((16 : Int32) &&& 31).toUInt32).toInt32)))] [(.int ((0 : Int32) ^^^ (((0 : Int32).toUInt32 >>> ((16 : Int32) &&& 31).toUInt32).toInt32)))])) rfl (hb hby at_179)) ?_
      show OE _ p e below s _ _ _ T153 (mkF m 181 #[.val (.int p1), .val (.int p2), .val (.int p3), .val (.int p4), .val (.int p5), .val (.ref b1), .val (.int (5 : Int32)), .val (.int (5 : Int32)), .val (.int (0 : Int32)), .val (.long (0 : Int64)), .second, .val (.int (0 : Int32)), .val (.int (0 : Int32)), .val (.int ((0 : Int32) ^^^ (((0 : Int32).toUInt32 >>> ((16 : Int32) &&& 31).toUInt32).toInt32)))] [(.int (65535 : Int32)), (.int ((0 : Int32) ^^^ (((0 : Int32).toUInt32 >>> ((16 : Int32) &&& 31).toUInt32).toInt32)))])
      refine OE.iand X153 hx hby at_181 ?_
      refine OE.iload X153 hx hby at_182 rfl ?_
      refine OE.iload X153 hx hby at_184 rfl ?_
      refine OE.bipush X153 hx hby at_186 (16 : Int32) rfl ?_
      refine OE.iushr X153 hx hby at_188 ?_
      refine OE.ixor X153 hx hby at_189 ?_
      refine OE.of (X153.ldcInt hx hown (mvT hZ (hw _ (List.mem_of_getElem? (i := 1) rfl))) (g := (mkF m 190 #[.val (.int p1), .val (.int p2), .val (.int p3), .val (.int p4), .val (.int p5), .val (.ref b1), .val (.int (5 : Int32)), .val (.int (5 : Int32)), .val (.int (0 : Int32)), .val (.long (0 : Int64)), .second, .val (.int (0 : Int32)), .val (.int (0 : Int32)), .val (.int ((0 : Int32) ^^^ (((0 : Int32).toUInt32 >>> ((16 : Int32) &&& 31).toUInt32).toInt32)))] [(.int ((0 : Int32) ^^^ (((0 : Int32).toUInt32 >>> ((16 : Int32) &&& 31).toUInt32).toInt32))), (.int (((0 : Int32) ^^^ (((0 : Int32).toUInt32 >>> ((16 : Int32) &&& 31).toUInt32).toInt32)) &&& (65535 : Int32)))])) rfl (hb hby at_190)) ?_
      show OE _ p e below s _ _ _ T153 (mkF m 192 #[.val (.int p1), .val (.int p2), .val (.int p3), .val (.int p4), .val (.int p5), .val (.ref b1), .val (.int (5 : Int32)), .val (.int (5 : Int32)), .val (.int (0 : Int32)), .val (.long (0 : Int64)), .second, .val (.int (0 : Int32)), .val (.int (0 : Int32)), .val (.int ((0 : Int32) ^^^ (((0 : Int32).toUInt32 >>> ((16 : Int32) &&& 31).toUInt32).toInt32)))] [(.int (65535 : Int32)), (.int ((0 : Int32) ^^^ (((0 : Int32).toUInt32 >>> ((16 : Int32) &&& 31).toUInt32).toInt32))), (.int (((0 : Int32) ^^^ (((0 : Int32).toUInt32 >>> ((16 : Int32) &&& 31).toUInt32).toInt32)) &&& (65535 : Int32)))])
      refine OE.iand X153 hx hby at_192 ?_
      refine OE.icmpNo X153 hx hby at_193 (teq (rfl : (((0 : Int32) ^^^ (((0 : Int32).toUInt32 >>> ((16 : Int32) &&& 31).toUInt32).toInt32)) &&& (65535 : Int32)) = (((0 : Int32) ^^^ (((0 : Int32).toUInt32 >>> ((16 : Int32) &&& 31).toUInt32).toInt32)) &&& (65535 : Int32)))).2 ?_
      refine OE.iconst X153 hx hby at_196 (1 : Int32) rfl ?_
      refine OE.goto X153 hx hby (pc' := 201) at_197 (h := ?_)
      refine OE.retN X153 hx (t := .boolean) Bd.returns (by simp) Bd.notSynchronized (hb hby at_201) (by decide) (by decide) ?_
      rw [eq153]
      exact ⟨rfl, N153⟩
set_option maxRecDepth 65536 in
set_option maxHeartbeats 40000000 in
theorem comes_1 {Post : Tables → Env → Array Value → State → Outcome → State → Prop} (hpost : ∀ tb e args s v u, (limb_1_1.after args s (.returned v) u = true ∧ limb_1_2.after args s (.returned v) u = true ∧ True) → FrameEnd s (.returned v) u (Jvm.fieldLocs frame_1_writes args s ++ Jvm.arrayLocs frame_1_arrays args s ++ Jvm.staticLocs frame_1_statics s) 16 128 → Post tb e args s (.returned v) u) :
    ArmFor flags0 classFile x code maxLocals ret World_1 tables_1 room_1 Calls_1 rest_1 Pre_1 Post := by
  intro l hfl _ _ p e ha hc hk s m args below hf hA hF happ hP
  obtain ⟨hcalls, hrest, hpre⟩ := hP
  obtain ⟨-, -, -, hnamed, -, -, -, hat⟩ := (Spec.applies_iff hf).mp happ
  obtain ⟨hg, hn⟩ := and_e (Cond.before_iff.mp (show (Jvm.Cond.and given_1 narrow_1).before args s = true from hpre))
  obtain ⟨g1, g2⟩ := and_e hg
  obtain ⟨g3, g4⟩ := and_e g2
  obtain ⟨g5, g6⟩ := and_e g4
  obtain ⟨g7, g8⟩ := and_e g6
  obtain ⟨g9, g10⟩ := and_e g8
  obtain ⟨w0, w1, w2, w3, w4, rfl⟩ : ∃ w0 w1 w2 w3 w4 : Value, args = #[w0, w1, w2, w3, w4] := by
    have hs : args.size = 5 := by simpa [Cond.value, given_1] using g1
    obtain ⟨L⟩ := args
    match L, hs with
    | [w0, w1, w2, w3, w4], _ => exact ⟨w0, w1, w2, w3, w4, rfl⟩
  have hw := fun d (hd : d ∈ tables_1) => atoms_spec (ws := Jvm.Cond.code x code maxLocals ret :: tables_1) hat d (List.mem_cons_of_mem _ hd)
  have hfit : Fit s := fun {y c} hc i hi => by
    obtain ⟨ha, rfl⟩ := Array.getElem?_eq_some_iff.mp hc
    have q := List.all_eq_true.mp ((Array.all_eq_true_iff_forall_mem.mp hF) _ (Array.getElem_mem ha)) i (List.mem_range.mpr hi)
    simpa [Array.getElem?_eq_getElem hi] using q
  obtain ⟨i0, ei0⟩ := is_v g3
  obtain rfl : w0 = (.int i0) := Option.some.inj ei0
  obtain ⟨i1, ei1⟩ := is_v g5
  obtain rfl : w1 = (.int i1) := Option.some.inj ei1
  obtain ⟨i2, ei2⟩ := is_v g7
  obtain rfl : w2 = (.int i2) := Option.some.inj ei2
  obtain ⟨i3, ei3⟩ := is_v g9
  obtain rfl : w3 = (.int i3) := Option.some.inj ei3
  obtain ⟨i4, ei4⟩ := is_v g10
  obtain rfl : w4 = (.int i4) := Option.some.inj ei4
  obtain ⟨n, o, h1, h2, h3, _, L, rfl, ⟨rfl, N⟩, hq⟩ := own_rm0 l s _ hw tables_1 i0 i1 i2 i3 i4 s.heap s.heap.size (Nat.le_refl _)  p e ha hc hk s m _ below hf ((Spec.applies_iff_loose hf).mp happ).1 ⟨rfl, State.Warmed39.refl s, rfl⟩ trivial
  refine ⟨n, _, h1, h2, h3, hpost _ _ _ _ _ _ ⟨Cond.after_iff.mpr rfl, Cond.after_iff.mpr (eq_i res_at (Term.int_eval (1)) rfl), trivial⟩ ⟨hq.1, hq.2.1, (hq.2.2.sift fun y hy => Or.inr (N y hy)).mono (by decide) (by decide)⟩⟩
theorem main_1_1 : Claimed_1_1 := comes_1 fun _ _ _ _ _ _ h hF => ⟨h.1, hF⟩
theorem main_1_2 : Claimed_1_2 := comes_1 fun _ _ _ _ _ _ h hF => ⟨h.2.1, hF⟩
end Jvm.Pilot.@@N@@
namespace Jvm.Pilot.@@N@@
open Jvm Jvm.ClassFile Sem Op Lib Jvm.Free Jvm.Stand Jvm.Pilot.@@N@@.Jvm.D
/-! MADE BY PROGRAM (witnessworld.py) out of the Statement's table words and the real class files: 11 classes; the members and pool entries that the words name. The judged class is class 1, her method 1. -/
namespace start1
open Jvm.ClassFile
def u (s : String) : CpInfo := .utf8 (stringToUtf16 s)
/-- a pool by its gaps: so many unusable entries, then the entry; so many at the end -/
def gap : Nat → List CpInfo → List CpInfo
  | 0, r => r
  | n + 1, r => .unusable :: gap n r
def poolList (es : List (Nat × CpInfo)) (last : Nat) : List CpInfo := es.foldr (fun e r => gap e.1 (e.2 :: r)) (gap last [])
def pool (es : List (Nat × CpInfo)) (last : Nat) : Array CpInfo := ⟨poolList es last⟩
def fileOf (pool : Array CpInfo) (this : Nat) (attrs : Array Attribute := #[]) (ms : Array MethodInfo := #[]) (fl : Nat := 33) (sup : Nat := 0) (ifs : Array Nat := #[]) (fds : Array FieldInfo := #[]) : ClassFile where
  minorVersion := 0
  majorVersion := 65
  constantPool := pool
  accessFlags := fl
  thisClass := this
  superClass := sup
  interfaces := ifs
  fields := fds
  methods := ms
  attributes := attrs
def plain (name : String) (sup : Option ClassId) : Class where
  name := name
  kind := .ordinary
  loader := none
  accessFlags := 33
  super := sup
  interfaces := #[]
  cf := none
  fields := #[]
  methods := #[]
  instanceTypes := #[]
  staticTypes := #[]
  resolved := #[]
  callSites := []
  init := .initialized
  statics := none
  mirror := none

def pool0 : Array CpInfo := pool [(5, u "<init>"), (0, u "()V"), (1, .class_ 10), (1, u "java/lang/Object")] 113

def k0m0 : Method := { name := "<init>", desc := "()V", sig := { parameters := [], returnType := none }, accessFlags := 1, code := none }
/-- java/lang/Object -/
def k0 : Class := { plain "java/lang/Object" none with
  accessFlags := 33
  interfaces := #[]
  cf := some (fileOf pool0 8 #[] #[{ accessFlags := 1, nameIndex := 5, descriptorIndex := 6, attributes := #[] }] 33 0 #[] #[])
  fields := #[]
  methods := #[k0m0]
  instanceTypes := #[]
  staticTypes := #[]
  resolved := Array.replicate 124 none
  statics := none }

def pool1 : Array CpInfo := pool [(2, .class_ 4), (1, u "java/lang/Object"), (0, u "<init>"), (0, u "()V"), (0, .integer 65535), (0, .integer 2147483647), (0, .methodref 10 11), (0, .class_ 12), (0, .nameAndType 13 14), (0, u "com/example/archerfish/archerfish/index/TokenTableHashPinLaw"), (0, u "term"), (0, u "([CIII)J"), (0, .long 2654435769), (1, .methodref 18 19), (0, .class_ 20), (0, .nameAndType 21 22), (0, u "com/example/archerfish/archerfish/index/TokenTable"), (0, u "hash"), (0, u "([CII)I"), (0, .methodref 10 24), (0, .nameAndType 25 26), (0, u "pow31"), (0, u "(I)J"), (0, .long 31), (1, .long 961), (1, .long 29791), (1, .long 923521), (3, u "law"), (0, u "(IIIII)Z")] 5

def k1m0 : Method := { name := "<init>", desc := "()V", sig := { parameters := [], returnType := none }, accessFlags := 1, code := none }
def k1c1 : Code := { maxStack := 6, maxLocals := 14, code := code, exceptionTable := #[], attributes := #[] }
def k1m1 : Method := { name := "law", desc := "(IIIII)Z", sig := { parameters := [.int, .int, .int, .int, .int], returnType := some .boolean }, accessFlags := 9, code := some k1c1 }
def k1c2 : Code := { maxStack := 4, maxLocals := 4, code := method_3_code, exceptionTable := #[], attributes := #[] }
def k1m2 : Method := { name := "term", desc := "([CIII)J", sig := { parameters := [(.array .char), .int, .int, .int], returnType := some .long }, accessFlags := 10, code := some k1c2 }
def k1c3 : Code := { maxStack := 2, maxLocals := 1, code := method_4_code, exceptionTable := #[], attributes := #[] }
def k1m3 : Method := { name := "pow31", desc := "(I)J", sig := { parameters := [.int], returnType := some .long }, accessFlags := 10, code := some k1c3 }
/-- com/example/archerfish/archerfish/index/TokenTableHashPinLaw -/
def k1 : Class := { plain "com/example/archerfish/archerfish/index/TokenTableHashPinLaw" (some 0) with
  accessFlags := 49
  interfaces := #[]
  cf := some (fileOf pool1 10 #[] #[{ accessFlags := 1, nameIndex := 5, descriptorIndex := 6, attributes := #[] }, { accessFlags := 9, nameIndex := 37, descriptorIndex := 38, attributes := #[] }, { accessFlags := 10, nameIndex := 13, descriptorIndex := 14, attributes := #[] }, { accessFlags := 10, nameIndex := 25, descriptorIndex := 26, attributes := #[] }] 49 2 #[] #[])
  fields := #[]
  methods := #[k1m0, k1m1, k1m2, k1m3]
  instanceTypes := #[]
  staticTypes := #[]
  resolved := Array.replicate 44 none
  statics := none }

def pool2 : Array CpInfo := pool [(4, .class_ 6), (1, u "java/lang/Object"), (0, u "<init>"), (0, u "()V"), (1, .class_ 12), (1, u "com/example/archerfish/archerfish/index/TokenTable"), (0, u "slots"), (0, u "[I"), (2, u "hashes"), (2, u "starts"), (2, u "chars"), (0, u "[C"), (2, u "size"), (0, u "I"), (2, u "hash"), (0, u "([CII)I"), (48, .integer 2654435769), (0, u "ABSENT"), (2, u "MAX_LENGTH")] 11

def k2m0 : Method := { name := "<init>", desc := "()V", sig := { parameters := [], returnType := none }, accessFlags := 0, code := none }
def k2c1 : Code := { maxStack := 3, maxLocals := 5, code := prog_66_method_8_code, exceptionTable := #[], attributes := #[] }
def k2m1 : Method := { name := "hash", desc := "([CII)I", sig := { parameters := [(.array .char), .int, .int], returnType := some .int }, accessFlags := 8, code := some k2c1 }
/-- com/example/archerfish/archerfish/index/TokenTable -/
def k2 : Class := { plain "com/example/archerfish/archerfish/index/TokenTable" (some 0) with
  accessFlags := 48
  interfaces := #[]
  cf := some (fileOf pool2 10 #[] #[{ accessFlags := 0, nameIndex := 7, descriptorIndex := 8, attributes := #[] }, { accessFlags := 8, nameIndex := 31, descriptorIndex := 32, attributes := #[] }] 48 4 #[] #[{ accessFlags := 24, nameIndex := 82, descriptorIndex := 28, attributes := #[] }, { accessFlags := 26, nameIndex := 85, descriptorIndex := 28, attributes := #[] }, { accessFlags := 2, nameIndex := 13, descriptorIndex := 14, attributes := #[] }, { accessFlags := 2, nameIndex := 27, descriptorIndex := 28, attributes := #[] }, { accessFlags := 2, nameIndex := 17, descriptorIndex := 14, attributes := #[] }, { accessFlags := 2, nameIndex := 20, descriptorIndex := 14, attributes := #[] }, { accessFlags := 2, nameIndex := 23, descriptorIndex := 24, attributes := #[] }])
  fields := #[{ name := "ABSENT", type := .int, accessFlags := 24, slot := 0, constantValue := 0 }, { name := "MAX_LENGTH", type := .int, accessFlags := 26, slot := 1, constantValue := 0 }, { name := "slots", type := (.array .int), accessFlags := 2, slot := 0, constantValue := 0 }, { name := "size", type := .int, accessFlags := 2, slot := 1, constantValue := 0 }, { name := "hashes", type := (.array .int), accessFlags := 2, slot := 2, constantValue := 0 }, { name := "starts", type := (.array .int), accessFlags := 2, slot := 3, constantValue := 0 }, { name := "chars", type := (.array .char), accessFlags := 2, slot := 4, constantValue := 0 }]
  methods := #[k2m0, k2m1]
  instanceTypes := #[(.array .int), .int, (.array .int), (.array .int), (.array .char)]
  staticTypes := #[.int, .int]
  resolved := Array.replicate 97 none
  statics := none }

def pool3 : Array CpInfo := pool [(1, u "java/lang/Cloneable"), (0, .class_ 1), (0, u "java/lang/Object"), (0, .class_ 3)] 3

/-- java/lang/Cloneable -/
def k3 : Class := { plain "java/lang/Cloneable" (some 0) with
  accessFlags := 1537
  interfaces := #[]
  cf := some (fileOf pool3 2 #[] #[] 1537 4 #[] #[])
  fields := #[]
  methods := #[]
  instanceTypes := #[]
  staticTypes := #[]
  resolved := Array.replicate 8 none
  statics := none }

def pool4 : Array CpInfo := pool [(1, u "java/io/Serializable"), (0, .class_ 1), (0, u "java/lang/Object"), (0, .class_ 3)] 3

/-- java/io/Serializable -/
def k4 : Class := { plain "java/io/Serializable" (some 0) with
  accessFlags := 1537
  interfaces := #[]
  cf := some (fileOf pool4 2 #[] #[] 1537 4 #[] #[])
  fields := #[]
  methods := #[]
  instanceTypes := #[]
  staticTypes := #[]
  resolved := Array.replicate 8 none
  statics := none }

/-- the primitive byte -/
def k5 : Class := { plain "byte" none with kind := .primitive 'B', accessFlags := 0x411 }
/-- [B -/
def k6 : Class := { plain "[B" (some 0) with kind := .array 5 .byte, interfaces := #[3, 4], accessFlags := 1041 }

/-- the primitive char -/
def k7 : Class := { plain "char" none with kind := .primitive 'C', accessFlags := 0x411 }
/-- [C -/
def k8 : Class := { plain "[C" (some 0) with kind := .array 7 .char, interfaces := #[3, 4], accessFlags := 1041 }

/-- the primitive int -/
def k9 : Class := { plain "int" none with kind := .primitive 'I', accessFlags := 0x411 }
/-- [I -/
def k10 : Class := { plain "[I" (some 0) with kind := .array 9 .int, interfaces := #[3, 4], accessFlags := 1041 }

def heap : Heap := #[]
def classes : Array Class := #[k0, k1, k2, k3, k4, k5, k6, k7, k8, k9, k10]
def interned : List (Array UInt16 × Addr) := []
def slotsUsed : Nat := 0
def theMethod : MethodId := ⟨1, 1⟩
def args0 : Array Value := #[.int 5, .int 7, .int 9, .int 2, .int 3]
def aboutOver (below : List Frame) : State where
  vm := { classes := classes, interned := interned.toArray }
  heap := heap
  slotsUsed := slotsUsed
  threads := #[{ frames := .invoking theMethod args0 :: below }]
def below0 : List Frame := [.native { method := ⟨0, 0⟩, args := #[] }]
def about1 : State := aboutOver below0
def p0 : Program := .bare "" "" ""
def e0 : Env := launch0.env 0 0 0
theorem w_frames : about1.frames = Frame.invoking theMethod args0 :: below0 := rfl
set_option maxRecDepth 65536 in
theorem w_args : argsFit about1.vm theMethod args0 = true := by decide +kernel
set_option maxRecDepth 65536 in
theorem w_heap : heapFits about1 = true := by decide +kernel
set_option maxRecDepth 65536 in
theorem w_runnable : about1.curStatus? = some .runnable := by decide +kernel
set_option maxRecDepth 65536 in
theorem w_alone : about1.alone = true := by decide +kernel
set_option maxRecDepth 65536 in
theorem w_named : about1.methodNamed? x = some theMethod := by decide +kernel
set_option maxRecDepth 65536 in
theorem w_hears : about1.hears theMethod below0 = true := by decide +kernel
set_option maxRecDepth 65536 in
theorem w_ripe : about1.ripe theMethod args0 below0 = true := by decide +kernel
theorem w_running : about1.status = .running := rfl
set_option maxRecDepth 65536 in
theorem w_room : about1.hasRoom e0.platform room_1 = true :=
  launch0.hasRoom_least _ room_1 (by decide +kernel) (by decide +kernel) (by decide +kernel) (by decide +kernel) (by decide +kernel) (by decide +kernel)
theorem allAtoms_all (ts : List Jvm.Cond) (a : Array Jvm.Value) (st : Jvm.State) : (allAtoms ts).before a st = ts.all (fun c => c.before a st) := by
  induction ts with
  | nil => rfl
  | cons c t ih =>
    show (Jvm.Cond.and c (allAtoms t)).before a st = _
    rw [Jvm.Cond.before_and, ih, List.all_cons]
def words1 : List Jvm.Cond := Jvm.Cond.code x code maxLocals ret :: tables_1
/-- a 'code' word, met by the world's own term for the bytes: nothing is compared byte by byte -/
theorem code_word {y : MethodName} {bytes : ByteArray} {mx : Nat} {rt : Option FieldType} {a : Array Value} {s : State} {m : MethodId} {meth : Method} {c : Code} (h1 : s.methodNamed? y = some m) (h2 : s.vm.method? m = some meth) (h3 : meth.code = some c) (h4 : c.code = bytes)
    (h5 : (c.maxLocals == mx && c.exceptionTable.isEmpty && decide (c.maxStack ≤ mostOperands) && decide (meth.sig.returnType = rt) && !meth.locks && decide (parseMethodDescriptor y.desc = some meth.sig)) = true) : (Jvm.Cond.code y bytes mx rt).before a s = true := by
  simp only [Bool.and_eq_true, beq_iff_eq, Bool.not_eq_true', decide_eq_true_eq] at h5
  obtain ⟨⟨⟨⟨⟨g1, g2⟩, g3⟩, g4⟩, g5⟩, g6⟩ := h5
  simp [Cond.before, Cond.holds, Cond.value, h1, h2, h3, h4, g1, g2, g3, g4, g5, g6]
def isCode : Jvm.Cond → Bool
  | .code _ _ _ _ => true
  | _ => false
theorem all_split {L : List Jvm.Cond} {P : Jvm.Cond → Bool} (h1 : L.all (fun c => isCode c || P c) = true) (h2 : ∀ c ∈ L.filter isCode, P c = true) : L.all P = true := by
  refine List.all_eq_true.mpr fun c hc => ?_
  have h := List.all_eq_true.mp h1 c hc
  rcases Bool.eq_false_or_eq_true (isCode c) with hi | hi
  · exact h2 c (List.mem_filter.mpr ⟨hc, hi⟩)
  · simpa [hi] using h
set_option maxRecDepth 65536 in
theorem w_c0 : (Jvm.Cond.code x code maxLocals ret).before args0 about1 = true := code_word (m := ⟨1, 1⟩) (meth := k1m1) (c := k1c1) (by decide +kernel) rfl rfl rfl (by decide +kernel)
set_option maxRecDepth 65536 in
theorem w_c1 : (Jvm.Cond.code ({ cls := "com/example/archerfish/archerfish/index/TokenTableHashPinLaw", name := "term", desc := "([CIII)J" } : Jvm.MethodName) method_3_code (4 : Nat) (Option.some Jvm.ClassFile.FieldType.long)).before args0 about1 = true := code_word (m := ⟨1, 2⟩) (meth := k1m2) (c := k1c2) (by decide +kernel) rfl rfl rfl (by decide +kernel)
set_option maxRecDepth 65536 in
theorem w_c2 : (Jvm.Cond.code ({ cls := "com/example/archerfish/archerfish/index/TokenTable", name := "hash", desc := "([CII)I" } : Jvm.MethodName) prog_66_method_8_code (5 : Nat) (Option.some Jvm.ClassFile.FieldType.int)).before args0 about1 = true := code_word (m := ⟨2, 1⟩) (meth := k2m1) (c := k2c1) (by decide +kernel) rfl rfl rfl (by decide +kernel)
set_option maxRecDepth 65536 in
theorem w_c3 : (Jvm.Cond.code ({ cls := "com/example/archerfish/archerfish/index/TokenTableHashPinLaw", name := "pow31", desc := "(I)J" } : Jvm.MethodName) method_4_code (1 : Nat) (Option.some Jvm.ClassFile.FieldType.long)).before args0 about1 = true := code_word (m := ⟨1, 3⟩) (meth := k1m3) (c := k1c3) (by decide +kernel) rfl rfl rfl (by decide +kernel)
def codes1 : List Jvm.Cond := [Jvm.Cond.code x code maxLocals ret, Jvm.Cond.code ({ cls := "com/example/archerfish/archerfish/index/TokenTableHashPinLaw", name := "term", desc := "([CIII)J" } : Jvm.MethodName) method_3_code (4 : Nat) (Option.some Jvm.ClassFile.FieldType.long), Jvm.Cond.code ({ cls := "com/example/archerfish/archerfish/index/TokenTable", name := "hash", desc := "([CII)I" } : Jvm.MethodName) prog_66_method_8_code (5 : Nat) (Option.some Jvm.ClassFile.FieldType.int), Jvm.Cond.code ({ cls := "com/example/archerfish/archerfish/index/TokenTableHashPinLaw", name := "pow31", desc := "(I)J" } : Jvm.MethodName) method_4_code (1 : Nat) (Option.some Jvm.ClassFile.FieldType.long)]
set_option maxRecDepth 65536 in
theorem codes_eq : words1.filter isCode = codes1 := rfl
theorem w_codes : ∀ c ∈ words1.filter isCode, c.before args0 about1 = true := by
  rw [codes_eq]
  intro c hc
  simp only [codes1, List.mem_cons, List.not_mem_nil, or_false] at hc
  rcases hc with rfl | rfl | rfl | rfl
  · exact w_c0
  · exact w_c1
  · exact w_c2
  · exact w_c3
set_option maxRecDepth 65536 in
theorem w_t1 : words1.all (fun c => isCode c || c.before args0 about1) = true := by decide +kernel
theorem w_tables : (allAtoms (Jvm.Cond.code x code maxLocals ret :: tables_1)).before args0 about1 = true := by
  rw [allAtoms_all]
  show words1.all (fun c => c.before args0 about1) = true
  refine all_split ?_ w_codes
  rw [w_t1]
set_option maxRecDepth 65536 in
theorem w_case : (Jvm.Cond.and given_1 narrow_1).before args0 about1 = true := by decide +kernel
theorem w_applies : (headSpec (Jvm.Cond.code x code maxLocals ret :: tables_1) room_1).applies x e0.platform about1 = true :=
  (Spec.applies_iff w_frames).mpr ⟨w_running, w_runnable, w_alone, w_named, w_hears, w_ripe, w_room, w_tables⟩
theorem atStart : AtStart classFile x code maxLocals ret World_1 tables_1 room_1 Calls_1 rest_1 Pre_1 launch0 p0 e0 about1 theMethod args0 below0 :=
  ⟨lists_1, trivial, launch0.admits_env _ _ _, launch0.least_env, fairChoices_fair.cas, fairChoices_fair.clock, w_frames, w_args, w_heap, w_applies, trivial, trivial, w_case⟩
end start1
theorem witness_1 : WitnessClaimed_1 := ⟨start1.p0, start1.e0, start1.about1, start1.theMethod, start1.args0, start1.below0, start1.atStart⟩
end Jvm.Pilot.@@N@@
