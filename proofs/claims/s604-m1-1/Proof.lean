import JvmDerived
import JvmDerived.Pilot.@@N@@Statement
import JvmDerived.Pilot.@@N@@Code
set_option linter.unusedVariables false
set_option linter.unusedSimpArgs false
namespace Jvm.RoadKit
open Sem ClassFile Op Lib Jvm.Stand Jvm.Free Jvm.LawKit
section New
variable {p : Program} {l : Launch} {e : Env} {R : Room} {s : State} {m : MethodId} {args : Array Value} {below : List Frame} {meth : Method} {c : Code} {T : State} {locs : List Loc} {cells slots : Nat}
theorem retI (X : Stand p l e R s m args below meth c T locs cells slots) (hx : p.tables.exec = Jvm.exec) {pc : Nat} {Ls : Array Slot} {z : Int32} {rest : List Value} (hret : meth.sig.returnType = some .int) (hd : decode c.code pc = .ok (.ireturn, 1)) {fs : List Frame}
    (hl : ∀ (f : JFrame) (acts : List Action), f.method = m → f.locked = none → f.entered = [] → (doReturn e (T.setTop f) acts (some (.int z))).1 = T.setFrames fs) : Steps p.tables e below (T.setTop (mkF m pc Ls (.int z :: rest))) (T.setFrames fs) := by
  have hm' : T.vm.method? m = some meth := X.method'
  have hn : narrow .int (.int z) = .int z := rfl
  show Steps p.tables e below (T.setTop { method := m, pc := pc, locals := Ls, stack := _ :: rest, locked := none }) _
  jvm_step X.here [X.here.top, hx, hd, hm', hret, hn]
  first | (intro acts; rw [hl _ acts rfl rfl rfl]) | rw [hl _ _ rfl rfl rfl]
  exact Steps.refl _
/-- the walk that stands at g in T comes to its end, with Q -/
def OE (FE : State → Outcome → State → List Loc → Nat → Nat → Prop) (p : Program) (e : Env) (below : List Frame) (s : State) (Q : Option Value → Heap → List Loc → Prop) (kc ks : Nat) (T : State) (g : JFrame) : Prop :=
  ∃ s₂ o, Steps p.tables e below (T.setTop g) s₂ ∧ s₂.status = .running ∧ Ended s₂ below o ∧ ∃ v L, o = .returned v ∧ Q v s₂.heap L ∧ FE s o s₂ L kc ks
variable {FE : State → Outcome → State → List Loc → Nat → Nat → Prop} {Q : Option Value → Heap → List Loc → Prop} {kc ks : Nat} {s' : State}
theorem OE.of {T' : State} {g g' : JFrame} (k : ∀ t, Steps p.tables e below (T'.setTop g') t → Steps p.tables e below (T.setTop g) t) (h : OE FE p e below s Q kc ks T' g') : OE FE p e below s Q kc ks T g := by
  obtain ⟨s₂, o, h1, h2⟩ := h
  exact ⟨s₂, o, k _ h1, h2⟩
theorem OE.retN (X : Stand p l e R s m args below meth c T locs cells slots) (hx : p.tables.exec = Jvm.exec) {pc : Nat} {Ls : Array Slot} {z : Int32} {t : FieldType} {rest : List Value} (hret : meth.sig.returnType = some t) (ht : t = .boolean ∨ t = .byte ∨ t = .char ∨ t = .short) (hlk : meth.locks = false)
    (hd : decode c.code pc = .ok (.ireturn, 1)) (hc : cells ≤ kc) (hs : slots ≤ ks) (hQ : Q (some (.int (nar t z))) T.heap locs) : OE FrameEnd p e below s Q kc ks T (mkF m pc Ls (.int z :: rest)) := by
  obtain ⟨fs, hr, hrun, hended, hW, hsame⟩ := X.leave (v := some (.int (nar t z))) (fun h => by rw [hret] at h; cases h) hlk
  exact ⟨_, _, Jvm.RoadKit.retN X hx hret ht hd hr, hrun, hended, _, _, rfl, hQ, ⟨_, rfl⟩, hW, hsame.mono hc hs⟩
theorem OE.retI (X : Stand p l e R s m args below meth c T locs cells slots) (hx : p.tables.exec = Jvm.exec) {pc : Nat} {Ls : Array Slot} {z : Int32} {rest : List Value} (hret : meth.sig.returnType = some .int) (hlk : meth.locks = false)
    (hd : decode c.code pc = .ok (.ireturn, 1)) (hc : cells ≤ kc) (hs : slots ≤ ks) (hQ : Q (some (.int z)) T.heap locs) : OE FrameEnd p e below s Q kc ks T (mkF m pc Ls (.int z :: rest)) := by
  obtain ⟨fs, hr, hrun, hended, hW, hsame⟩ := X.leave (v := some (.int z)) (fun h => by rw [hret] at h; cases h) hlk
  exact ⟨_, _, Jvm.RoadKit.retI X hx hret hd hr, hrun, hended, _, _, rfl, hQ, ⟨_, rfl⟩, hW, hsame.mono hc hs⟩
theorem OE.retJ (X : Stand p l e R s m args below meth c T locs cells slots) (hx : p.tables.exec = Jvm.exec) {pc : Nat} {Ls : Array Slot} {z : Int64} (hret : meth.sig.returnType = some .long) (hlk : meth.locks = false)
    (hd : decode c.code pc = .ok (.lreturn, 1)) (hc : cells ≤ kc) (hs : slots ≤ ks) (hQ : Q (some (.long z)) T.heap locs) : OE FrameEnd p e below s Q kc ks T (mkF m pc Ls [.long z]) := by
  obtain ⟨fs, hr, hrun, hended, hW, hsame⟩ := X.leave (v := some (.long z)) (fun h => by rw [hret] at h; cases h) hlk
  exact ⟨_, _, X.lreturnOut hx hret hd hr, hrun, hended, _, _, rfl, hQ, ⟨_, rfl⟩, hW, hsame.mono hc hs⟩
theorem OE.retA (X : Stand p l e R s m args below meth c T locs cells slots) (hx : p.tables.exec = Jvm.exec) {pc : Nat} {Ls : Array Slot} {w : Value} {t : FieldType} (hw : w.isRef = true) (hret : meth.sig.returnType = some t) (ht : t.isReference = true) (hlk : meth.locks = false)
    (hd : decode c.code pc = .ok (.areturn, 1)) (hc : cells ≤ kc) (hs : slots ≤ ks) (hQ : Q (some w) T.heap locs) : OE FrameEnd p e below s Q kc ks T (mkF m pc Ls [w]) := by
  obtain ⟨fs, hr, hrun, hended, hW, hsame⟩ := X.leave (v := some w) (fun h => by rw [hret] at h; cases h) hlk
  exact ⟨_, _, X.areturnOut hx hw hret ht hd hr, hrun, hended, _, _, rfl, hQ, ⟨_, rfl⟩, hW, hsame.mono hc hs⟩
theorem OE.ret0 (X : Stand p l e R s m args below meth c T locs cells slots) (hx : p.tables.exec = Jvm.exec) {pc : Nat} {Ls : Array Slot} (hret : meth.sig.returnType = none) (hlk : meth.locks = false)
    (hd : decode c.code pc = .ok (.return_, 1)) (hc : cells ≤ kc) (hs : slots ≤ ks) (hQ : Q none T.heap locs) : OE FrameEnd p e below s Q kc ks T (mkF m pc Ls []) := by
  obtain ⟨fs, hr, hrun, hended, hW, hsame⟩ := X.leave (v := none) (fun _ => rfl) hlk
  exact ⟨_, _, X.returnOut hx hret hd hr, hrun, hended, _, _, rfl, hQ, ⟨_, rfl⟩, hW, hsame.mono hc hs⟩
theorem OE.iload (X : Stand p l e R s' m args below meth c T locs cells slots) (hx : p.tables.exec = Jvm.exec) {code : ByteArray} (hby : c.code = code) {pc : Nat} {Ls : Array Slot} {k : Nat} {v : Int32} {st : List Value} (hd : decode code pc = .ok (.iload k, 2)) (hl : Ls[k]? = some (.val (.int v))) (h : OE FE p e below s Q kc ks T (mkF m (pc + 2) Ls (.int v :: st))) : OE FE p e below s Q kc ks T (mkF m pc Ls (st)) := OE.of (fun _ k' => XS.iload X.here hx rfl (hb hby hd) hl k') h
theorem OE.iloadN (X : Stand p l e R s' m args below meth c T locs cells slots) (hx : p.tables.exec = Jvm.exec) {code : ByteArray} (hby : c.code = code) {pc : Nat} {Ls : Array Slot} {k : Fin 4} {v : Int32} {st : List Value} (hd : decode code pc = .ok (.iload_n k, 1)) (hl : Ls[k.val]? = some (.val (.int v))) (h : OE FE p e below s Q kc ks T (mkF m (pc + 1) Ls (.int v :: st))) : OE FE p e below s Q kc ks T (mkF m pc Ls (st)) := OE.of (fun _ k' => XS.iloadN X.here hx rfl (hb hby hd) hl k') h
theorem OE.lload (X : Stand p l e R s' m args below meth c T locs cells slots) (hx : p.tables.exec = Jvm.exec) {code : ByteArray} (hby : c.code = code) {pc : Nat} {Ls : Array Slot} {k : Nat} {v : Int64} {st : List Value} (hd : decode code pc = .ok (.lload k, 2)) (hl : Ls[k]? = some (.val (.long v))) (h : OE FE p e below s Q kc ks T (mkF m (pc + 2) Ls (.long v :: st))) : OE FE p e below s Q kc ks T (mkF m pc Ls (st)) := OE.of (fun _ k' => XS.lload X.here hx rfl (hb hby hd) hl k') h
theorem OE.lloadN (X : Stand p l e R s' m args below meth c T locs cells slots) (hx : p.tables.exec = Jvm.exec) {code : ByteArray} (hby : c.code = code) {pc : Nat} {Ls : Array Slot} {k : Fin 4} {v : Int64} {st : List Value} (hd : decode code pc = .ok (.lload_n k, 1)) (hl : Ls[k.val]? = some (.val (.long v))) (h : OE FE p e below s Q kc ks T (mkF m (pc + 1) Ls (.long v :: st))) : OE FE p e below s Q kc ks T (mkF m pc Ls (st)) := OE.of (fun _ k' => XS.lloadN X.here hx rfl (hb hby hd) hl k') h
theorem OE.aload (X : Stand p l e R s' m args below meth c T locs cells slots) (hx : p.tables.exec = Jvm.exec) {code : ByteArray} (hby : c.code = code) {pc : Nat} {Ls : Array Slot} {k : Nat} {v : Value} {st : List Value} (hd : decode code pc = .ok (.aload k, 2)) (hl : Ls[k]? = some (.val v)) (hv : v.isRef = true) (h : OE FE p e below s Q kc ks T (mkF m (pc + 2) Ls (v :: st))) : OE FE p e below s Q kc ks T (mkF m pc Ls (st)) := OE.of (fun _ k' => XS.aload X.here hx rfl (hb hby hd) hl hv k') h
theorem OE.aloadN (X : Stand p l e R s' m args below meth c T locs cells slots) (hx : p.tables.exec = Jvm.exec) {code : ByteArray} (hby : c.code = code) {pc : Nat} {Ls : Array Slot} {k : Fin 4} {v : Value} {st : List Value} (hd : decode code pc = .ok (.aload_n k, 1)) (hl : Ls[k.val]? = some (.val v)) (hv : v.isRef = true) (h : OE FE p e below s Q kc ks T (mkF m (pc + 1) Ls (v :: st))) : OE FE p e below s Q kc ks T (mkF m pc Ls (st)) := OE.of (fun _ k' => XS.aloadN X.here hx rfl (hb hby hd) hl hv k') h
theorem OE.istore (X : Stand p l e R s' m args below meth c T locs cells slots) (hx : p.tables.exec = Jvm.exec) {code : ByteArray} (hby : c.code = code) {pc : Nat} {Ls : Array Slot} {k : Nat} {v : Int32} {st : List Value} {l' : Array Slot} (hd : decode code pc = .ok (.istore k, 2)) (hl : storeLocals Ls k (.int v) = some l') (h : OE FE p e below s Q kc ks T (mkF m (pc + 2) l' (st))) : OE FE p e below s Q kc ks T (mkF m pc Ls (.int v :: st)) := OE.of (fun _ k' => XS.istore X.here hx rfl (hb hby hd) rfl hl k') h
theorem OE.istoreN (X : Stand p l e R s' m args below meth c T locs cells slots) (hx : p.tables.exec = Jvm.exec) {code : ByteArray} (hby : c.code = code) {pc : Nat} {Ls : Array Slot} {k : Fin 4} {v : Int32} {st : List Value} {l' : Array Slot} (hd : decode code pc = .ok (.istore_n k, 1)) (hl : storeLocals Ls k.val (.int v) = some l') (h : OE FE p e below s Q kc ks T (mkF m (pc + 1) l' (st))) : OE FE p e below s Q kc ks T (mkF m pc Ls (.int v :: st)) := OE.of (fun _ k' => XS.istoreN X.here hx rfl (hb hby hd) rfl hl k') h
theorem OE.lstore (X : Stand p l e R s' m args below meth c T locs cells slots) (hx : p.tables.exec = Jvm.exec) {code : ByteArray} (hby : c.code = code) {pc : Nat} {Ls : Array Slot} {k : Nat} {v : Int64} {st : List Value} {l' : Array Slot} (hd : decode code pc = .ok (.lstore k, 2)) (hl : storeLocals Ls k (.long v) = some l') (h : OE FE p e below s Q kc ks T (mkF m (pc + 2) l' (st))) : OE FE p e below s Q kc ks T (mkF m pc Ls (.long v :: st)) := OE.of (fun _ k' => XS.lstore X.here hx rfl (hb hby hd) rfl hl k') h
theorem OE.lstoreN (X : Stand p l e R s' m args below meth c T locs cells slots) (hx : p.tables.exec = Jvm.exec) {code : ByteArray} (hby : c.code = code) {pc : Nat} {Ls : Array Slot} {k : Fin 4} {v : Int64} {st : List Value} {l' : Array Slot} (hd : decode code pc = .ok (.lstore_n k, 1)) (hl : storeLocals Ls k.val (.long v) = some l') (h : OE FE p e below s Q kc ks T (mkF m (pc + 1) l' (st))) : OE FE p e below s Q kc ks T (mkF m pc Ls (.long v :: st)) := OE.of (fun _ k' => XS.lstoreN X.here hx rfl (hb hby hd) rfl hl k') h
theorem OE.astore (X : Stand p l e R s' m args below meth c T locs cells slots) (hx : p.tables.exec = Jvm.exec) {code : ByteArray} (hby : c.code = code) {pc : Nat} {Ls : Array Slot} {k : Nat} {v : Value} {st : List Value} {l' : Array Slot} (hd : decode code pc = .ok (.astore k, 2)) (hv : v.isRef = true) (hl : storeLocals Ls k v = some l') (h : OE FE p e below s Q kc ks T (mkF m (pc + 2) l' (st))) : OE FE p e below s Q kc ks T (mkF m pc Ls (v :: st)) := OE.of (fun _ k' => XS.astore X.here hx rfl (hb hby hd) rfl hv hl k') h
theorem OE.astoreN (X : Stand p l e R s' m args below meth c T locs cells slots) (hx : p.tables.exec = Jvm.exec) {code : ByteArray} (hby : c.code = code) {pc : Nat} {Ls : Array Slot} {k : Fin 4} {v : Value} {st : List Value} {l' : Array Slot} (hd : decode code pc = .ok (.astore_n k, 1)) (hv : v.isRef = true) (hl : storeLocals Ls k.val v = some l') (h : OE FE p e below s Q kc ks T (mkF m (pc + 1) l' (st))) : OE FE p e below s Q kc ks T (mkF m pc Ls (v :: st)) := OE.of (fun _ k' => XS.astoreN X.here hx rfl (hb hby hd) rfl hv hl k') h
theorem OE.iconst (X : Stand p l e R s' m args below meth c T locs cells slots) (hx : p.tables.exec = Jvm.exec) {code : ByteArray} (hby : c.code = code) {pc : Nat} {Ls : Array Slot} {i : Int} {st : List Value} (hd : decode code pc = .ok (.iconst i, 1)) (z : Int32) (hz : Int32.ofInt i = z) (h : OE FE p e below s Q kc ks T (mkF m (pc + 1) Ls (.int z :: st))) : OE FE p e below s Q kc ks T (mkF m pc Ls (st)) := OE.of (fun _ k' => XS.iconst X.here hx rfl (hb hby hd) (by subst hz; exact k')) h
theorem OE.bipush (X : Stand p l e R s' m args below meth c T locs cells slots) (hx : p.tables.exec = Jvm.exec) {code : ByteArray} (hby : c.code = code) {pc : Nat} {Ls : Array Slot} {i : Int} {st : List Value} (hd : decode code pc = .ok (.bipush i, 2)) (z : Int32) (hz : (Int8.ofInt i).toInt32 = z) (h : OE FE p e below s Q kc ks T (mkF m (pc + 2) Ls (.int z :: st))) : OE FE p e below s Q kc ks T (mkF m pc Ls (st)) := OE.of (fun _ k' => XS.bipush X.here hx rfl (hb hby hd) (by subst hz; exact k')) h
theorem OE.sipush (X : Stand p l e R s' m args below meth c T locs cells slots) (hx : p.tables.exec = Jvm.exec) {code : ByteArray} (hby : c.code = code) {pc : Nat} {Ls : Array Slot} {i : Int} {st : List Value} (hd : decode code pc = .ok (.sipush i, 3)) (z : Int32) (hz : (Int16.ofInt i).toInt32 = z) (h : OE FE p e below s Q kc ks T (mkF m (pc + 3) Ls (.int z :: st))) : OE FE p e below s Q kc ks T (mkF m pc Ls (st)) := OE.of (fun _ k' => XS.sipush X.here hx rfl (hb hby hd) (by subst hz; exact k')) h
theorem OE.lconst (X : Stand p l e R s' m args below meth c T locs cells slots) (hx : p.tables.exec = Jvm.exec) {code : ByteArray} (hby : c.code = code) {pc : Nat} {Ls : Array Slot} {i : Fin 2} {st : List Value} (hd : decode code pc = .ok (.lconst i, 1)) (z : Int64) (hz : Int64.ofNat i = z) (h : OE FE p e below s Q kc ks T (mkF m (pc + 1) Ls (.long z :: st))) : OE FE p e below s Q kc ks T (mkF m pc Ls (st)) := OE.of (fun _ k' => XS.lconst X.here hx rfl (hb hby hd) (by subst hz; exact k')) h
theorem OE.aconstNull (X : Stand p l e R s' m args below meth c T locs cells slots) (hx : p.tables.exec = Jvm.exec) {code : ByteArray} (hby : c.code = code) {pc : Nat} {Ls : Array Slot} {st : List Value} (hd : decode code pc = .ok (.aconst_null, 1))  (h : OE FE p e below s Q kc ks T (mkF m (pc + 1) Ls (.null :: st))) : OE FE p e below s Q kc ks T (mkF m pc Ls (st)) := OE.of (fun _ k' => XS.aconstNull X.here hx rfl (hb hby hd) k') h
theorem OE.iadd (X : Stand p l e R s' m args below meth c T locs cells slots) (hx : p.tables.exec = Jvm.exec) {code : ByteArray} (hby : c.code = code) {pc : Nat} {Ls : Array Slot} {x y : Int32} {st : List Value} (hd : decode code pc = .ok (.iadd, 1))  (h : OE FE p e below s Q kc ks T (mkF m (pc + 1) Ls (.int (x + y) :: st))) : OE FE p e below s Q kc ks T (mkF m pc Ls (.int y :: .int x :: st)) := OE.of (fun _ k' => XS.iadd X.here hx rfl (hb hby hd) rfl k') h
theorem OE.ladd (X : Stand p l e R s' m args below meth c T locs cells slots) (hx : p.tables.exec = Jvm.exec) {code : ByteArray} (hby : c.code = code) {pc : Nat} {Ls : Array Slot} {x y : Int64} {st : List Value} (hd : decode code pc = .ok (.ladd, 1))  (h : OE FE p e below s Q kc ks T (mkF m (pc + 1) Ls (.long (x + y) :: st))) : OE FE p e below s Q kc ks T (mkF m pc Ls (.long y :: .long x :: st)) := OE.of (fun _ k' => XS.ladd X.here hx rfl (hb hby hd) rfl k') h
theorem OE.isub (X : Stand p l e R s' m args below meth c T locs cells slots) (hx : p.tables.exec = Jvm.exec) {code : ByteArray} (hby : c.code = code) {pc : Nat} {Ls : Array Slot} {x y : Int32} {st : List Value} (hd : decode code pc = .ok (.isub, 1))  (h : OE FE p e below s Q kc ks T (mkF m (pc + 1) Ls (.int (x - y) :: st))) : OE FE p e below s Q kc ks T (mkF m pc Ls (.int y :: .int x :: st)) := OE.of (fun _ k' => XS.isub X.here hx rfl (hb hby hd) rfl k') h
theorem OE.lsub (X : Stand p l e R s' m args below meth c T locs cells slots) (hx : p.tables.exec = Jvm.exec) {code : ByteArray} (hby : c.code = code) {pc : Nat} {Ls : Array Slot} {x y : Int64} {st : List Value} (hd : decode code pc = .ok (.lsub, 1))  (h : OE FE p e below s Q kc ks T (mkF m (pc + 1) Ls (.long (x - y) :: st))) : OE FE p e below s Q kc ks T (mkF m pc Ls (.long y :: .long x :: st)) := OE.of (fun _ k' => XS.lsub X.here hx rfl (hb hby hd) rfl k') h
theorem OE.imul (X : Stand p l e R s' m args below meth c T locs cells slots) (hx : p.tables.exec = Jvm.exec) {code : ByteArray} (hby : c.code = code) {pc : Nat} {Ls : Array Slot} {x y : Int32} {st : List Value} (hd : decode code pc = .ok (.imul, 1))  (h : OE FE p e below s Q kc ks T (mkF m (pc + 1) Ls (.int (x * y) :: st))) : OE FE p e below s Q kc ks T (mkF m pc Ls (.int y :: .int x :: st)) := OE.of (fun _ k' => XS.imul X.here hx rfl (hb hby hd) rfl k') h
theorem OE.lmul (X : Stand p l e R s' m args below meth c T locs cells slots) (hx : p.tables.exec = Jvm.exec) {code : ByteArray} (hby : c.code = code) {pc : Nat} {Ls : Array Slot} {x y : Int64} {st : List Value} (hd : decode code pc = .ok (.lmul, 1))  (h : OE FE p e below s Q kc ks T (mkF m (pc + 1) Ls (.long (x * y) :: st))) : OE FE p e below s Q kc ks T (mkF m pc Ls (.long y :: .long x :: st)) := OE.of (fun _ k' => XS.lmul X.here hx rfl (hb hby hd) rfl k') h
theorem OE.iand (X : Stand p l e R s' m args below meth c T locs cells slots) (hx : p.tables.exec = Jvm.exec) {code : ByteArray} (hby : c.code = code) {pc : Nat} {Ls : Array Slot} {x y : Int32} {st : List Value} (hd : decode code pc = .ok (.iand, 1))  (h : OE FE p e below s Q kc ks T (mkF m (pc + 1) Ls (.int (x &&& y) :: st))) : OE FE p e below s Q kc ks T (mkF m pc Ls (.int y :: .int x :: st)) := OE.of (fun _ k' => XS.iand X.here hx rfl (hb hby hd) rfl k') h
theorem OE.land (X : Stand p l e R s' m args below meth c T locs cells slots) (hx : p.tables.exec = Jvm.exec) {code : ByteArray} (hby : c.code = code) {pc : Nat} {Ls : Array Slot} {x y : Int64} {st : List Value} (hd : decode code pc = .ok (.land, 1))  (h : OE FE p e below s Q kc ks T (mkF m (pc + 1) Ls (.long (x &&& y) :: st))) : OE FE p e below s Q kc ks T (mkF m pc Ls (.long y :: .long x :: st)) := OE.of (fun _ k' => XS.land X.here hx rfl (hb hby hd) rfl k') h
theorem OE.ior (X : Stand p l e R s' m args below meth c T locs cells slots) (hx : p.tables.exec = Jvm.exec) {code : ByteArray} (hby : c.code = code) {pc : Nat} {Ls : Array Slot} {x y : Int32} {st : List Value} (hd : decode code pc = .ok (.ior, 1))  (h : OE FE p e below s Q kc ks T (mkF m (pc + 1) Ls (.int (x ||| y) :: st))) : OE FE p e below s Q kc ks T (mkF m pc Ls (.int y :: .int x :: st)) := OE.of (fun _ k' => XS.ior X.here hx rfl (hb hby hd) rfl k') h
theorem OE.lor (X : Stand p l e R s' m args below meth c T locs cells slots) (hx : p.tables.exec = Jvm.exec) {code : ByteArray} (hby : c.code = code) {pc : Nat} {Ls : Array Slot} {x y : Int64} {st : List Value} (hd : decode code pc = .ok (.lor, 1))  (h : OE FE p e below s Q kc ks T (mkF m (pc + 1) Ls (.long (x ||| y) :: st))) : OE FE p e below s Q kc ks T (mkF m pc Ls (.long y :: .long x :: st)) := OE.of (fun _ k' => XS.lor X.here hx rfl (hb hby hd) rfl k') h
theorem OE.ixor (X : Stand p l e R s' m args below meth c T locs cells slots) (hx : p.tables.exec = Jvm.exec) {code : ByteArray} (hby : c.code = code) {pc : Nat} {Ls : Array Slot} {x y : Int32} {st : List Value} (hd : decode code pc = .ok (.ixor, 1))  (h : OE FE p e below s Q kc ks T (mkF m (pc + 1) Ls (.int (x ^^^ y) :: st))) : OE FE p e below s Q kc ks T (mkF m pc Ls (.int y :: .int x :: st)) := OE.of (fun _ k' => XS.ixor X.here hx rfl (hb hby hd) rfl k') h
theorem OE.lxor (X : Stand p l e R s' m args below meth c T locs cells slots) (hx : p.tables.exec = Jvm.exec) {code : ByteArray} (hby : c.code = code) {pc : Nat} {Ls : Array Slot} {x y : Int64} {st : List Value} (hd : decode code pc = .ok (.lxor, 1))  (h : OE FE p e below s Q kc ks T (mkF m (pc + 1) Ls (.long (x ^^^ y) :: st))) : OE FE p e below s Q kc ks T (mkF m pc Ls (.long y :: .long x :: st)) := OE.of (fun _ k' => XS.lxor X.here hx rfl (hb hby hd) rfl k') h
theorem OE.ishl (X : Stand p l e R s' m args below meth c T locs cells slots) (hx : p.tables.exec = Jvm.exec) {code : ByteArray} (hby : c.code = code) {pc : Nat} {Ls : Array Slot} {x y : Int32} {st : List Value} (hd : decode code pc = .ok (.ishl, 1))  (h : OE FE p e below s Q kc ks T (mkF m (pc + 1) Ls (.int (x <<< (y &&& 31)) :: st))) : OE FE p e below s Q kc ks T (mkF m pc Ls (.int y :: .int x :: st)) := OE.of (fun _ k' => XS.ishl X.here hx rfl (hb hby hd) rfl k') h
theorem OE.ishr (X : Stand p l e R s' m args below meth c T locs cells slots) (hx : p.tables.exec = Jvm.exec) {code : ByteArray} (hby : c.code = code) {pc : Nat} {Ls : Array Slot} {x y : Int32} {st : List Value} (hd : decode code pc = .ok (.ishr, 1))  (h : OE FE p e below s Q kc ks T (mkF m (pc + 1) Ls (.int (x >>> (y &&& 31)) :: st))) : OE FE p e below s Q kc ks T (mkF m pc Ls (.int y :: .int x :: st)) := OE.of (fun _ k' => XS.ishr X.here hx rfl (hb hby hd) rfl k') h
theorem OE.iushr (X : Stand p l e R s' m args below meth c T locs cells slots) (hx : p.tables.exec = Jvm.exec) {code : ByteArray} (hby : c.code = code) {pc : Nat} {Ls : Array Slot} {x y : Int32} {st : List Value} (hd : decode code pc = .ok (.iushr, 1))  (h : OE FE p e below s Q kc ks T (mkF m (pc + 1) Ls (.int ((x.toUInt32 >>> (y &&& 31).toUInt32).toInt32) :: st))) : OE FE p e below s Q kc ks T (mkF m pc Ls (.int y :: .int x :: st)) := OE.of (fun _ k' => XS.iushr X.here hx rfl (hb hby hd) rfl k') h
theorem OE.lshl (X : Stand p l e R s' m args below meth c T locs cells slots) (hx : p.tables.exec = Jvm.exec) {code : ByteArray} (hby : c.code = code) {pc : Nat} {Ls : Array Slot} {x : Int64} {y : Int32} {st : List Value} (hd : decode code pc = .ok (.lshl, 1))  (h : OE FE p e below s Q kc ks T (mkF m (pc + 1) Ls (.long (x <<< (y &&& 0x3f).toInt64) :: st))) : OE FE p e below s Q kc ks T (mkF m pc Ls (.int y :: .long x :: st)) := OE.of (fun _ k' => XS.lshl X.here hx rfl (hb hby hd) rfl k') h
theorem OE.lshr (X : Stand p l e R s' m args below meth c T locs cells slots) (hx : p.tables.exec = Jvm.exec) {code : ByteArray} (hby : c.code = code) {pc : Nat} {Ls : Array Slot} {x : Int64} {y : Int32} {st : List Value} (hd : decode code pc = .ok (.lshr, 1))  (h : OE FE p e below s Q kc ks T (mkF m (pc + 1) Ls (.long (x >>> (y &&& 0x3f).toInt64) :: st))) : OE FE p e below s Q kc ks T (mkF m pc Ls (.int y :: .long x :: st)) := OE.of (fun _ k' => XS.lshr X.here hx rfl (hb hby hd) rfl k') h
theorem OE.lushr (X : Stand p l e R s' m args below meth c T locs cells slots) (hx : p.tables.exec = Jvm.exec) {code : ByteArray} (hby : c.code = code) {pc : Nat} {Ls : Array Slot} {x : Int64} {y : Int32} {st : List Value} (hd : decode code pc = .ok (.lushr, 1))  (h : OE FE p e below s Q kc ks T (mkF m (pc + 1) Ls (.long ((x.toUInt64 >>> (y &&& 0x3f).toInt64.toUInt64).toInt64) :: st))) : OE FE p e below s Q kc ks T (mkF m pc Ls (.int y :: .long x :: st)) := OE.of (fun _ k' => XS.lushr X.here hx rfl (hb hby hd) rfl k') h
theorem OE.ineg (X : Stand p l e R s' m args below meth c T locs cells slots) (hx : p.tables.exec = Jvm.exec) {code : ByteArray} (hby : c.code = code) {pc : Nat} {Ls : Array Slot} {x : Int32} {st : List Value} (hd : decode code pc = .ok (.ineg, 1))  (h : OE FE p e below s Q kc ks T (mkF m (pc + 1) Ls (.int (-x) :: st))) : OE FE p e below s Q kc ks T (mkF m pc Ls (.int x :: st)) := OE.of (fun _ k' => XS.ineg X.here hx rfl (hb hby hd) rfl k') h
theorem OE.lneg (X : Stand p l e R s' m args below meth c T locs cells slots) (hx : p.tables.exec = Jvm.exec) {code : ByteArray} (hby : c.code = code) {pc : Nat} {Ls : Array Slot} {x : Int64} {st : List Value} (hd : decode code pc = .ok (.lneg, 1))  (h : OE FE p e below s Q kc ks T (mkF m (pc + 1) Ls (.long (-x) :: st))) : OE FE p e below s Q kc ks T (mkF m pc Ls (.long x :: st)) := OE.of (fun _ k' => XS.lneg X.here hx rfl (hb hby hd) rfl k') h
theorem OE.i2l (X : Stand p l e R s' m args below meth c T locs cells slots) (hx : p.tables.exec = Jvm.exec) {code : ByteArray} (hby : c.code = code) {pc : Nat} {Ls : Array Slot} {x : Int32} {st : List Value} (hd : decode code pc = .ok (.i2l, 1))  (h : OE FE p e below s Q kc ks T (mkF m (pc + 1) Ls (.long x.toInt64 :: st))) : OE FE p e below s Q kc ks T (mkF m pc Ls (.int x :: st)) := OE.of (fun _ k' => XS.i2l X.here hx rfl (hb hby hd) rfl k') h
theorem OE.l2i (X : Stand p l e R s' m args below meth c T locs cells slots) (hx : p.tables.exec = Jvm.exec) {code : ByteArray} (hby : c.code = code) {pc : Nat} {Ls : Array Slot} {x : Int64} {st : List Value} (hd : decode code pc = .ok (.l2i, 1))  (h : OE FE p e below s Q kc ks T (mkF m (pc + 1) Ls (.int x.toInt32 :: st))) : OE FE p e below s Q kc ks T (mkF m pc Ls (.long x :: st)) := OE.of (fun _ k' => XS.l2i X.here hx rfl (hb hby hd) rfl k') h
theorem OE.i2b (X : Stand p l e R s' m args below meth c T locs cells slots) (hx : p.tables.exec = Jvm.exec) {code : ByteArray} (hby : c.code = code) {pc : Nat} {Ls : Array Slot} {x : Int32} {st : List Value} (hd : decode code pc = .ok (.i2b, 1))  (h : OE FE p e below s Q kc ks T (mkF m (pc + 1) Ls (.int x.toInt8.toInt32 :: st))) : OE FE p e below s Q kc ks T (mkF m pc Ls (.int x :: st)) := OE.of (fun _ k' => XS.i2b X.here hx rfl (hb hby hd) rfl k') h
theorem OE.i2s (X : Stand p l e R s' m args below meth c T locs cells slots) (hx : p.tables.exec = Jvm.exec) {code : ByteArray} (hby : c.code = code) {pc : Nat} {Ls : Array Slot} {x : Int32} {st : List Value} (hd : decode code pc = .ok (.i2s, 1))  (h : OE FE p e below s Q kc ks T (mkF m (pc + 1) Ls (.int x.toInt16.toInt32 :: st))) : OE FE p e below s Q kc ks T (mkF m pc Ls (.int x :: st)) := OE.of (fun _ k' => XS.i2s X.here hx rfl (hb hby hd) rfl k') h
theorem OE.i2c (X : Stand p l e R s' m args below meth c T locs cells slots) (hx : p.tables.exec = Jvm.exec) {code : ByteArray} (hby : c.code = code) {pc : Nat} {Ls : Array Slot} {x : Int32} {st : List Value} (hd : decode code pc = .ok (.i2c, 1))  (h : OE FE p e below s Q kc ks T (mkF m (pc + 1) Ls (.int x.toUInt32.toUInt16.toUInt32.toInt32 :: st))) : OE FE p e below s Q kc ks T (mkF m pc Ls (.int x :: st)) := OE.of (fun _ k' => XS.i2c X.here hx rfl (hb hby hd) rfl k') h
theorem OE.lcmp (X : Stand p l e R s' m args below meth c T locs cells slots) (hx : p.tables.exec = Jvm.exec) {code : ByteArray} (hby : c.code = code) {pc : Nat} {Ls : Array Slot} {x y : Int64} {st : List Value} (hd : decode code pc = .ok (.lcmp, 1))  (h : OE FE p e below s Q kc ks T (mkF m (pc + 1) Ls (.int (lcmpW x y) :: st))) : OE FE p e below s Q kc ks T (mkF m pc Ls (.long y :: .long x :: st)) := OE.of (fun _ k' => XS.lcmp X.here hx rfl (hb hby hd) rfl k') h
theorem OE.idiv (X : Stand p l e R s' m args below meth c T locs cells slots) (hx : p.tables.exec = Jvm.exec) {code : ByteArray} (hby : c.code = code) {pc : Nat} {Ls : Array Slot} {x y : Int32} {st : List Value} (hd : decode code pc = .ok (.idiv, 1)) (hy : y ≠ 0) (h : OE FE p e below s Q kc ks T (mkF m (pc + 1) Ls (.int (x / y) :: st))) : OE FE p e below s Q kc ks T (mkF m pc Ls (.int y :: .int x :: st)) := OE.of (fun _ k' => XS.idiv X.here hx rfl (hb hby hd) rfl hy k') h
theorem OE.irem (X : Stand p l e R s' m args below meth c T locs cells slots) (hx : p.tables.exec = Jvm.exec) {code : ByteArray} (hby : c.code = code) {pc : Nat} {Ls : Array Slot} {x y : Int32} {st : List Value} (hd : decode code pc = .ok (.irem, 1)) (hy : y ≠ 0) (h : OE FE p e below s Q kc ks T (mkF m (pc + 1) Ls (.int (x % y) :: st))) : OE FE p e below s Q kc ks T (mkF m pc Ls (.int y :: .int x :: st)) := OE.of (fun _ k' => XS.irem X.here hx rfl (hb hby hd) rfl hy (by rw [irem_eq_mod]; exact k')) h
theorem OE.ldiv (X : Stand p l e R s' m args below meth c T locs cells slots) (hx : p.tables.exec = Jvm.exec) {code : ByteArray} (hby : c.code = code) {pc : Nat} {Ls : Array Slot} {x y : Int64} {st : List Value} (hd : decode code pc = .ok (.ldiv, 1)) (hy : y ≠ 0) (h : OE FE p e below s Q kc ks T (mkF m (pc + 1) Ls (.long (x / y) :: st))) : OE FE p e below s Q kc ks T (mkF m pc Ls (.long y :: .long x :: st)) := OE.of (fun _ k' => XS.ldiv X.here hx rfl (hb hby hd) rfl hy k') h
theorem OE.lrem (X : Stand p l e R s' m args below meth c T locs cells slots) (hx : p.tables.exec = Jvm.exec) {code : ByteArray} (hby : c.code = code) {pc : Nat} {Ls : Array Slot} {x y : Int64} {st : List Value} (hd : decode code pc = .ok (.lrem, 1)) (hy : y ≠ 0) (h : OE FE p e below s Q kc ks T (mkF m (pc + 1) Ls (.long (x % y) :: st))) : OE FE p e below s Q kc ks T (mkF m pc Ls (.long y :: .long x :: st)) := OE.of (fun _ k' => XS.lrem X.here hx rfl (hb hby hd) rfl hy (by rw [lrem_mod]; exact k')) h
theorem OE.iinc (X : Stand p l e R s' m args below meth c T locs cells slots) (hx : p.tables.exec = Jvm.exec) {code : ByteArray} (hby : c.code = code) {pc : Nat} {Ls : Array Slot} {k : Nat} {cst : Int} {x : Int32} {l' : Array Slot} {st : List Value} (hd : decode code pc = .ok (.iinc k cst, 3)) (hl : Ls[k]? = some (.val (.int x))) (hl' : storeLocals Ls k (.int (x + Int32.ofInt cst)) = some l') (h : OE FE p e below s Q kc ks T (mkF m (pc + 3) l' (st))) : OE FE p e below s Q kc ks T (mkF m pc Ls (st)) := OE.of (fun _ k' => XS.iinc X.here hx rfl (hb hby hd) hl hl' k') h
theorem OE.dup (X : Stand p l e R s' m args below meth c T locs cells slots) (hx : p.tables.exec = Jvm.exec) {code : ByteArray} (hby : c.code = code) {pc : Nat} {Ls : Array Slot} {v : Value} {st : List Value} (hd : decode code pc = .ok (.dup, 1)) (hc : v.category = 1) (h : OE FE p e below s Q kc ks T (mkF m (pc + 1) Ls (v :: v :: st))) : OE FE p e below s Q kc ks T (mkF m pc Ls (v :: st)) := OE.of (fun _ k' => XS.dup X.here hx rfl (hb hby hd) rfl hc k') h
theorem OE.pop (X : Stand p l e R s' m args below meth c T locs cells slots) (hx : p.tables.exec = Jvm.exec) {code : ByteArray} (hby : c.code = code) {pc : Nat} {Ls : Array Slot} {v : Value} {st : List Value} (hd : decode code pc = .ok (.pop, 1)) (hc : v.category = 1) (h : OE FE p e below s Q kc ks T (mkF m (pc + 1) Ls (st))) : OE FE p e below s Q kc ks T (mkF m pc Ls (v :: st)) := OE.of (fun _ k' => XS.pop X.here hx rfl (hb hby hd) rfl hc k') h
theorem OE.dupX1 (X : Stand p l e R s' m args below meth c T locs cells slots) (hx : p.tables.exec = Jvm.exec) {code : ByteArray} (hby : c.code = code) {pc : Nat} {Ls : Array Slot} {v w : Value} {st : List Value} (hd : decode code pc = .ok (.dup_x1, 1)) (hc : v.category = 1) (hc' : w.category = 1) (h : OE FE p e below s Q kc ks T (mkF m (pc + 1) Ls (v :: w :: v :: st))) : OE FE p e below s Q kc ks T (mkF m pc Ls (v :: w :: st)) := OE.of (fun _ k' => XS.dupX1 X.here hx rfl (hb hby hd) rfl hc hc' k') h
theorem OE.dup2 (X : Stand p l e R s' m args below meth c T locs cells slots) (hx : p.tables.exec = Jvm.exec) {code : ByteArray} (hby : c.code = code) {pc : Nat} {Ls : Array Slot} {v w : Value} {st : List Value} (hd : decode code pc = .ok (.dup2, 1)) (hc : v.category = 1) (hc' : w.category = 1) (h : OE FE p e below s Q kc ks T (mkF m (pc + 1) Ls (v :: w :: v :: w :: st))) : OE FE p e below s Q kc ks T (mkF m pc Ls (v :: w :: st)) := OE.of (fun _ k' => Jvm.Free.XT.dup2 X.here hx rfl (hb hby hd) rfl hc hc' k') h
theorem OE.dup2L (X : Stand p l e R s' m args below meth c T locs cells slots) (hx : p.tables.exec = Jvm.exec) {code : ByteArray} (hby : c.code = code) {pc : Nat} {Ls : Array Slot} {v : Int64} {st : List Value} (hd : decode code pc = .ok (.dup2, 1))  (h : OE FE p e below s Q kc ks T (mkF m (pc + 1) Ls (.long v :: .long v :: st))) : OE FE p e below s Q kc ks T (mkF m pc Ls (.long v :: st)) := OE.of (fun _ k' => Jvm.Free.XT.dup2L X.here hx rfl (hb hby hd) rfl k') h
theorem OE.goto (X : Stand p l e R s' m args below meth c T locs cells slots) (hx : p.tables.exec = Jvm.exec) {code : ByteArray} (hby : c.code = code) {pc : Nat} {Ls : Array Slot} {o : Int} (pc' : Nat) {st : List Value} (hd : decode code pc = .ok (.goto o, 3)) (ho : 0 ≤ (pc : Int) + o := by decide) (hp : ((pc : Int) + o).toNat = pc' := by decide) (h : OE FE p e below s Q kc ks T (mkF m pc' Ls (st))) : OE FE p e below s Q kc ks T (mkF m pc Ls (st)) := OE.of (fun _ k' => XS.goto X.here hx rfl rfl (hb hby hd) ho hp k') h
theorem OE.ifYes (X : Stand p l e R s' m args below meth c T locs cells slots) (hx : p.tables.exec = Jvm.exec) {code : ByteArray} (hby : c.code = code) {pc : Nat} {Ls : Array Slot} {cd : ClassFile.Cond} {x : Int32} {o : Int} (pc' : Nat) {st : List Value} (hd : decode code pc = .ok (.ifCond cd o, 3)) (hc : if_icmp.holds cd x 0 = true) (ho : 0 ≤ (pc : Int) + o := by decide) (hp : ((pc : Int) + o).toNat = pc' := by decide) (h : OE FE p e below s Q kc ks T (mkF m pc' Ls (st))) : OE FE p e below s Q kc ks T (mkF m pc Ls (.int x :: st)) := OE.of (fun _ k' => XS.ifYes X.here hx rfl rfl (hb hby hd) rfl ((if0 _ _).trans hc) ho hp k') h
theorem OE.ifNo (X : Stand p l e R s' m args below meth c T locs cells slots) (hx : p.tables.exec = Jvm.exec) {code : ByteArray} (hby : c.code = code) {pc : Nat} {Ls : Array Slot} {cd : ClassFile.Cond} {x : Int32} {o : Int} {st : List Value} (hd : decode code pc = .ok (.ifCond cd o, 3)) (hc : if_icmp.holds cd x 0 = false) (h : OE FE p e below s Q kc ks T (mkF m (pc + 3) Ls (st))) : OE FE p e below s Q kc ks T (mkF m pc Ls (.int x :: st)) := OE.of (fun _ k' => XS.ifNo X.here hx rfl (hb hby hd) rfl ((if0 _ _).trans hc) k') h
theorem OE.icmpYes (X : Stand p l e R s' m args below meth c T locs cells slots) (hx : p.tables.exec = Jvm.exec) {code : ByteArray} (hby : c.code = code) {pc : Nat} {Ls : Array Slot} {cd : ClassFile.Cond} {x y : Int32} {o : Int} (pc' : Nat) {st : List Value} (hd : decode code pc = .ok (.if_icmp cd o, 3)) (hc : if_icmp.holds cd x y = true) (ho : 0 ≤ (pc : Int) + o := by decide) (hp : ((pc : Int) + o).toNat = pc' := by decide) (h : OE FE p e below s Q kc ks T (mkF m pc' Ls (st))) : OE FE p e below s Q kc ks T (mkF m pc Ls (.int y :: .int x :: st)) := OE.of (fun _ k' => XS.icmpYes X.here hx rfl rfl (hb hby hd) rfl hc ho hp k') h
theorem OE.icmpNo (X : Stand p l e R s' m args below meth c T locs cells slots) (hx : p.tables.exec = Jvm.exec) {code : ByteArray} (hby : c.code = code) {pc : Nat} {Ls : Array Slot} {cd : ClassFile.Cond} {x y : Int32} {o : Int} {st : List Value} (hd : decode code pc = .ok (.if_icmp cd o, 3)) (hc : if_icmp.holds cd x y = false) (h : OE FE p e below s Q kc ks T (mkF m (pc + 3) Ls (st))) : OE FE p e below s Q kc ks T (mkF m pc Ls (.int y :: .int x :: st)) := OE.of (fun _ k' => XS.icmpNo X.here hx rfl (hb hby hd) rfl hc k') h
theorem OE.ifnullYes (X : Stand p l e R s' m args below meth c T locs cells slots) (hx : p.tables.exec = Jvm.exec) {code : ByteArray} (hby : c.code = code) {pc : Nat} {Ls : Array Slot} {o : Int} (pc' : Nat) {st : List Value} (hd : decode code pc = .ok (.ifnull o, 3)) (ho : 0 ≤ (pc : Int) + o := by decide) (hp : ((pc : Int) + o).toNat = pc' := by decide) (h : OE FE p e below s Q kc ks T (mkF m pc' Ls (st))) : OE FE p e below s Q kc ks T (mkF m pc Ls (.null :: st)) := OE.of (fun _ k' => XS.ifnullYes X.here hx rfl rfl (hb hby hd) rfl ho hp k') h
theorem OE.ifnullNo (X : Stand p l e R s' m args below meth c T locs cells slots) (hx : p.tables.exec = Jvm.exec) {code : ByteArray} (hby : c.code = code) {pc : Nat} {Ls : Array Slot} {b : Addr} {o : Int} {st : List Value} (hd : decode code pc = .ok (.ifnull o, 3))  (h : OE FE p e below s Q kc ks T (mkF m (pc + 3) Ls (st))) : OE FE p e below s Q kc ks T (mkF m pc Ls (.ref b :: st)) := OE.of (fun _ k' => XS.ifnullNo X.here hx rfl (hb hby hd) rfl k') h
theorem OE.ifnonnullYes (X : Stand p l e R s' m args below meth c T locs cells slots) (hx : p.tables.exec = Jvm.exec) {code : ByteArray} (hby : c.code = code) {pc : Nat} {Ls : Array Slot} {b : Addr} {o : Int} (pc' : Nat) {st : List Value} (hd : decode code pc = .ok (.ifnonnull o, 3)) (ho : 0 ≤ (pc : Int) + o := by decide) (hp : ((pc : Int) + o).toNat = pc' := by decide) (h : OE FE p e below s Q kc ks T (mkF m pc' Ls (st))) : OE FE p e below s Q kc ks T (mkF m pc Ls (.ref b :: st)) := OE.of (fun _ k' => XS.ifnonnullYes X.here hx rfl rfl (hb hby hd) rfl ho hp k') h
theorem OE.ifnonnullNo (X : Stand p l e R s' m args below meth c T locs cells slots) (hx : p.tables.exec = Jvm.exec) {code : ByteArray} (hby : c.code = code) {pc : Nat} {Ls : Array Slot} {o : Int} {st : List Value} (hd : decode code pc = .ok (.ifnonnull o, 3))  (h : OE FE p e below s Q kc ks T (mkF m (pc + 3) Ls (st))) : OE FE p e below s Q kc ks T (mkF m pc Ls (.null :: st)) := OE.of (fun _ k' => XS.ifnonnullNo X.here hx rfl (hb hby hd) rfl k') h
end New
end Jvm.RoadKit
namespace Jvm.Pilot.@@N@@
open Jvm Jvm.ClassFile Sem Op Lib Jvm.Free Jvm.Stand Jvm.LawKit Jvm.RoadKit Bundle Jvm.Pilot.@@N@@.Jvm.D
theorem own_d2_0 : decode method_2_code 0 = .ok (.iload_n 0, 1) := by decide +kernel
theorem own_d2_1 : decode method_2_code 1 = .ok (.bipush 7, 2) := by decide +kernel
theorem own_d2_3 : decode method_2_code 3 = .ok (.iushr, 1) := by decide +kernel
theorem own_d2_4 : decode method_2_code 4 = .ok (.ifCond .ne 5, 3) := by decide +kernel
theorem own_d2_7 : decode method_2_code 7 = .ok (.iconst 1, 1) := by decide +kernel
theorem own_d2_8 : decode method_2_code 8 = .ok (.ireturn, 1) := by decide +kernel
theorem own_d2_9 : decode method_2_code 9 = .ok (.iload_n 0, 1) := by decide +kernel
theorem own_d2_10 : decode method_2_code 10 = .ok (.bipush 14, 2) := by decide +kernel
theorem own_d2_12 : decode method_2_code 12 = .ok (.iushr, 1) := by decide +kernel
theorem own_d2_13 : decode method_2_code 13 = .ok (.ifCond .ne 5, 3) := by decide +kernel
theorem own_d2_16 : decode method_2_code 16 = .ok (.iconst 2, 1) := by decide +kernel
theorem own_d2_17 : decode method_2_code 17 = .ok (.ireturn, 1) := by decide +kernel
theorem own_d2_18 : decode method_2_code 18 = .ok (.iload_n 0, 1) := by decide +kernel
theorem own_d2_19 : decode method_2_code 19 = .ok (.bipush 21, 2) := by decide +kernel
theorem own_d2_21 : decode method_2_code 21 = .ok (.iushr, 1) := by decide +kernel
theorem own_d2_22 : decode method_2_code 22 = .ok (.ifCond .ne 5, 3) := by decide +kernel
theorem own_d2_25 : decode method_2_code 25 = .ok (.iconst 3, 1) := by decide +kernel
theorem own_d2_26 : decode method_2_code 26 = .ok (.ireturn, 1) := by decide +kernel
theorem own_d2_27 : decode method_2_code 27 = .ok (.iload_n 0, 1) := by decide +kernel
theorem own_d2_28 : decode method_2_code 28 = .ok (.bipush 28, 2) := by decide +kernel
theorem own_d2_30 : decode method_2_code 30 = .ok (.iushr, 1) := by decide +kernel
theorem own_d2_31 : decode method_2_code 31 = .ok (.ifCond .ne 5, 3) := by decide +kernel
theorem own_d2_34 : decode method_2_code 34 = .ok (.iconst 4, 1) := by decide +kernel
theorem own_d2_35 : decode method_2_code 35 = .ok (.ireturn, 1) := by decide +kernel
theorem own_d2_36 : decode method_2_code 36 = .ok (.iconst 5, 1) := by decide +kernel
theorem own_d2_37 : decode method_2_code 37 = .ok (.ireturn, 1) := by decide +kernel
def own_len (p1 : Int32) : Int32 := (if ((p1.toUInt32 >>> ((7 : Int32) &&& 31).toUInt32).toInt32) = (0 : Int32) then (1 : Int32) else (if ((p1.toUInt32 >>> ((14 : Int32) &&& 31).toUInt32).toInt32) = (0 : Int32) then (2 : Int32) else (if ((p1.toUInt32 >>> ((21 : Int32) &&& 31).toUInt32).toInt32) = (0 : Int32) then (3 : Int32) else (if ((p1.toUInt32 >>> ((28 : Int32) &&& 31).toUInt32).toInt32) = (0 : Int32) then (4 : Int32) else (5 : Int32)))))
def own_Q2 (Z : State) (p1 : Int32) (h0 : Heap) (n0 : Nat) (v : Option Value) (h : Heap) (L : List Loc) : Prop := v = some (.int (own_len p1)) ∧ Fr n0 L ∧ h = h0
theorem own_pn0 : plainName "com/example/corbel/corbel/IndexOutputWriteVIntPinLaw" = true := by first | (simp [plainName, overriddenIn]; done) | decide +kernel
theorem own_ef_own_rm2 (m : MethodId) (p1 : Int32) : entryFrame m #[(.int p1)] 1 = mkF m 0 #[.val (.int p1)] [] := by first | (simp [entryFrame, mkF, argsToLocals, Value.category]; done) | rfl
set_option maxRecDepth 65536 in
set_option maxHeartbeats 40000000 in
theorem own_rm2 (l : Launch) (Z : State) (a0 : Array Value) (hw : ∀ d ∈ tables_1, d.before a0 Z = true) (ws : List Jvm.Cond) (p1 : Int32) (h0 : Heap) (n0 : Nat) (Z0 : n0 ≤ h0.size) :
    MetFree l (⟨"com/example/corbel/corbel/IndexOutputWriteVIntPinLaw", "len", "(I)I"⟩ : MethodName) (head1 (Jvm.Cond.code (⟨"com/example/corbel/corbel/IndexOutputWriteVIntPinLaw", "len", "(I)I"⟩ : MethodName) method_2_code 1 (some .int) :: ws) ({ frames := 0, cells := 0, slots := 0, locals := 0 } : Room)) (fun a U => a = #[(.int p1)] ∧ Z.Warmed39 U.vm ∧ U.heap = h0) (fun _ _ _ _ _ => True) (fun _ U o U' => ∃ v L, o = .returned v ∧ own_Q2 Z p1 h0 n0 v U'.heap L ∧ FrameEnd U o U' L ({ frames := 0, cells := 0, slots := 0, locals := 0 } : Room).cells ({ frames := 0, cells := 0, slots := 0, locals := 0 } : Room).slots) := by
  refine MetFree.of_bodySF (plainFor_of_name own_pn0) hisR ?_
  intro p e s m args below meth c s₁ Bd hml0 hP hK
  obtain ⟨rfl, hZ, hh⟩ := hP
  have hx := Bd.exec
  have hby := Bd.bytes
  have hml : c.maxLocals = 1 := hml0
  have hown : s.vm.findClass "com/example/corbel/corbel/IndexOutputWriteVIntPinLaw" = some m.cls := findClass_of_methodNamed Bd.named
  have hnm := (name_of_methodNamed Bd.named Bd.method).1
  have X0 : Stand p l e ({ frames := 0, cells := 0, slots := 0, locals := 0 } : Room) s m #[(.int p1)] below meth c s₁ [] 0 0 := Stand.of_body Bd
  have e0 : s₁.heap = h0 := by rw [← hh, Bd.state]; rfl
  have N0 := Fr.nil n0
  show OE FrameEnd p e below s (own_Q2 Z p1 h0 n0) ({ frames := 0, cells := 0, slots := 0, locals := 0 } : Room).cells ({ frames := 0, cells := 0, slots := 0, locals := 0 } : Room).slots s₁ (entryFrame m #[(.int p1)] 1)
  rw [own_ef_own_rm2]
  show OE _ p e below s _ _ _ s₁ (mkF m 0 #[.val (.int p1)] [])
  refine OE.iloadN X0 hx hby own_d2_0 rfl ?_
  refine OE.bipush X0 hx hby own_d2_1 (7 : Int32) rfl ?_
  refine OE.iushr X0 hx hby own_d2_3 ?_
  by_cases hc4 : ((p1.toUInt32 >>> ((7 : Int32) &&& 31).toUInt32).toInt32) = (0 : Int32)
  · skip
    refine OE.ifNo X0 hx hby own_d2_4 (teq hc4).2 ?_
    refine OE.iconst X0 hx hby own_d2_7 (1 : Int32) rfl ?_
    refine OE.retI X0 hx Bd.returns Bd.notSynchronized (hb hby own_d2_8) (by decide) (by decide) ?_
    rw [e0]
    exact ⟨(congrArg (fun z => some (Value.int z)) (show (1 : Int32) = (if ((p1.toUInt32 >>> ((7 : Int32) &&& 31).toUInt32).toInt32) = (0 : Int32) then (1 : Int32) else (if ((p1.toUInt32 >>> ((14 : Int32) &&& 31).toUInt32).toInt32) = (0 : Int32) then (2 : Int32) else (if ((p1.toUInt32 >>> ((21 : Int32) &&& 31).toUInt32).toInt32) = (0 : Int32) then (3 : Int32) else (if ((p1.toUInt32 >>> ((28 : Int32) &&& 31).toUInt32).toInt32) = (0 : Int32) then (4 : Int32) else (5 : Int32))))) from by rw [if_pos hc4])), N0, rfl⟩
  · skip
    refine OE.ifYes X0 hx hby (pc' := 9) own_d2_4 (feq hc4).2 (h := ?_)
    refine OE.iloadN X0 hx hby own_d2_9 rfl ?_
    refine OE.bipush X0 hx hby own_d2_10 (14 : Int32) rfl ?_
    refine OE.iushr X0 hx hby own_d2_12 ?_
    by_cases hc13 : ((p1.toUInt32 >>> ((14 : Int32) &&& 31).toUInt32).toInt32) = (0 : Int32)
    · skip
      refine OE.ifNo X0 hx hby own_d2_13 (teq hc13).2 ?_
      refine OE.iconst X0 hx hby own_d2_16 (2 : Int32) rfl ?_
      refine OE.retI X0 hx Bd.returns Bd.notSynchronized (hb hby own_d2_17) (by decide) (by decide) ?_
      rw [e0]
      exact ⟨(congrArg (fun z => some (Value.int z)) (show (2 : Int32) = (if ((p1.toUInt32 >>> ((7 : Int32) &&& 31).toUInt32).toInt32) = (0 : Int32) then (1 : Int32) else (if ((p1.toUInt32 >>> ((14 : Int32) &&& 31).toUInt32).toInt32) = (0 : Int32) then (2 : Int32) else (if ((p1.toUInt32 >>> ((21 : Int32) &&& 31).toUInt32).toInt32) = (0 : Int32) then (3 : Int32) else (if ((p1.toUInt32 >>> ((28 : Int32) &&& 31).toUInt32).toInt32) = (0 : Int32) then (4 : Int32) else (5 : Int32))))) from by rw [if_neg hc4, if_pos hc13])), N0, rfl⟩
    · skip
      refine OE.ifYes X0 hx hby (pc' := 18) own_d2_13 (feq hc13).2 (h := ?_)
      refine OE.iloadN X0 hx hby own_d2_18 rfl ?_
      refine OE.bipush X0 hx hby own_d2_19 (21 : Int32) rfl ?_
      refine OE.iushr X0 hx hby own_d2_21 ?_
      by_cases hc22 : ((p1.toUInt32 >>> ((21 : Int32) &&& 31).toUInt32).toInt32) = (0 : Int32)
      · skip
        refine OE.ifNo X0 hx hby own_d2_22 (teq hc22).2 ?_
        refine OE.iconst X0 hx hby own_d2_25 (3 : Int32) rfl ?_
        refine OE.retI X0 hx Bd.returns Bd.notSynchronized (hb hby own_d2_26) (by decide) (by decide) ?_
        rw [e0]
        exact ⟨(congrArg (fun z => some (Value.int z)) (show (3 : Int32) = (if ((p1.toUInt32 >>> ((7 : Int32) &&& 31).toUInt32).toInt32) = (0 : Int32) then (1 : Int32) else (if ((p1.toUInt32 >>> ((14 : Int32) &&& 31).toUInt32).toInt32) = (0 : Int32) then (2 : Int32) else (if ((p1.toUInt32 >>> ((21 : Int32) &&& 31).toUInt32).toInt32) = (0 : Int32) then (3 : Int32) else (if ((p1.toUInt32 >>> ((28 : Int32) &&& 31).toUInt32).toInt32) = (0 : Int32) then (4 : Int32) else (5 : Int32))))) from by rw [if_neg hc4, if_neg hc13, if_pos hc22])), N0, rfl⟩
      · skip
        refine OE.ifYes X0 hx hby (pc' := 27) own_d2_22 (feq hc22).2 (h := ?_)
        refine OE.iloadN X0 hx hby own_d2_27 rfl ?_
        refine OE.bipush X0 hx hby own_d2_28 (28 : Int32) rfl ?_
        refine OE.iushr X0 hx hby own_d2_30 ?_
        by_cases hc31 : ((p1.toUInt32 >>> ((28 : Int32) &&& 31).toUInt32).toInt32) = (0 : Int32)
        · skip
          refine OE.ifNo X0 hx hby own_d2_31 (teq hc31).2 ?_
          refine OE.iconst X0 hx hby own_d2_34 (4 : Int32) rfl ?_
          refine OE.retI X0 hx Bd.returns Bd.notSynchronized (hb hby own_d2_35) (by decide) (by decide) ?_
          rw [e0]
          exact ⟨(congrArg (fun z => some (Value.int z)) (show (4 : Int32) = (if ((p1.toUInt32 >>> ((7 : Int32) &&& 31).toUInt32).toInt32) = (0 : Int32) then (1 : Int32) else (if ((p1.toUInt32 >>> ((14 : Int32) &&& 31).toUInt32).toInt32) = (0 : Int32) then (2 : Int32) else (if ((p1.toUInt32 >>> ((21 : Int32) &&& 31).toUInt32).toInt32) = (0 : Int32) then (3 : Int32) else (if ((p1.toUInt32 >>> ((28 : Int32) &&& 31).toUInt32).toInt32) = (0 : Int32) then (4 : Int32) else (5 : Int32))))) from by rw [if_neg hc4, if_neg hc13, if_neg hc22, if_pos hc31])), N0, rfl⟩
        · skip
          refine OE.ifYes X0 hx hby (pc' := 36) own_d2_31 (feq hc31).2 (h := ?_)
          refine OE.iconst X0 hx hby own_d2_36 (5 : Int32) rfl ?_
          refine OE.retI X0 hx Bd.returns Bd.notSynchronized (hb hby own_d2_37) (by decide) (by decide) ?_
          rw [e0]
          exact ⟨(congrArg (fun z => some (Value.int z)) (show (5 : Int32) = (if ((p1.toUInt32 >>> ((7 : Int32) &&& 31).toUInt32).toInt32) = (0 : Int32) then (1 : Int32) else (if ((p1.toUInt32 >>> ((14 : Int32) &&& 31).toUInt32).toInt32) = (0 : Int32) then (2 : Int32) else (if ((p1.toUInt32 >>> ((21 : Int32) &&& 31).toUInt32).toInt32) = (0 : Int32) then (3 : Int32) else (if ((p1.toUInt32 >>> ((28 : Int32) &&& 31).toUInt32).toInt32) = (0 : Int32) then (4 : Int32) else (5 : Int32))))) from by rw [if_neg hc4, if_neg hc13, if_neg hc22, if_neg hc31])), N0, rfl⟩
theorem own_d3_0 : decode method_3_code 0 = .ok (.iload 4, 2) := by decide +kernel
theorem own_d3_2 : decode method_3_code 2 = .ok (.iload_n 2, 1) := by decide +kernel
theorem own_d3_3 : decode method_3_code 3 = .ok (.isub, 1) := by decide +kernel
theorem own_d3_4 : decode method_3_code 4 = .ok (.istore 5, 2) := by decide +kernel
theorem own_d3_6 : decode method_3_code 6 = .ok (.iload 5, 2) := by decide +kernel
theorem own_d3_8 : decode method_3_code 8 = .ok (.ifCond .lt 9, 3) := by decide +kernel
theorem own_d3_17 : decode method_3_code 17 = .ok (.iload_n 3, 1) := by decide +kernel
theorem own_d3_18 : decode method_3_code 18 = .ok (.ireturn, 1) := by decide +kernel
theorem own_d3_11 : decode method_3_code 11 = .ok (.iload 5, 2) := by decide +kernel
theorem own_d3_13 : decode method_3_code 13 = .ok (.iload_n 1, 1) := by decide +kernel
theorem own_d3_14 : decode method_3_code 14 = .ok (.if_icmp .lt 5, 3) := by decide +kernel
theorem own_d3_19 : decode method_3_code 19 = .ok (.iload_n 0, 1) := by decide +kernel
theorem own_d3_20 : decode method_3_code 20 = .ok (.bipush 7, 2) := by decide +kernel
theorem own_d3_22 : decode method_3_code 22 = .ok (.iload 5, 2) := by decide +kernel
theorem own_d3_24 : decode method_3_code 24 = .ok (.imul, 1) := by decide +kernel
theorem own_d3_25 : decode method_3_code 25 = .ok (.iushr, 1) := by decide +kernel
theorem own_d3_26 : decode method_3_code 26 = .ok (.bipush 127, 2) := by decide +kernel
theorem own_d3_28 : decode method_3_code 28 = .ok (.iand, 1) := by decide +kernel
theorem own_d3_29 : decode method_3_code 29 = .ok (.istore 6, 2) := by decide +kernel
theorem own_d3_31 : decode method_3_code 31 = .ok (.iload 5, 2) := by decide +kernel
theorem own_d3_33 : decode method_3_code 33 = .ok (.iload_n 1, 1) := by decide +kernel
theorem own_d3_34 : decode method_3_code 34 = .ok (.iconst 1, 1) := by decide +kernel
theorem own_d3_35 : decode method_3_code 35 = .ok (.isub, 1) := by decide +kernel
theorem own_d3_36 : decode method_3_code 36 = .ok (.if_icmp .ge 11, 3) := by decide +kernel
theorem own_d3_39 : decode method_3_code 39 = .ok (.iload 6, 2) := by decide +kernel
theorem own_d3_41 : decode method_3_code 41 = .ok (.sipush 128, 3) := by decide +kernel
theorem own_d3_44 : decode method_3_code 44 = .ok (.ior, 1) := by decide +kernel
theorem own_d3_45 : decode method_3_code 45 = .ok (.i2b, 1) := by decide +kernel
theorem own_d3_46 : decode method_3_code 46 = .ok (.ireturn, 1) := by decide +kernel
theorem own_d3_47 : decode method_3_code 47 = .ok (.iload_n 0, 1) := by decide +kernel
theorem own_d3_48 : decode method_3_code 48 = .ok (.bipush 7, 2) := by decide +kernel
theorem own_d3_50 : decode method_3_code 50 = .ok (.iload 5, 2) := by decide +kernel
theorem own_d3_52 : decode method_3_code 52 = .ok (.imul, 1) := by decide +kernel
theorem own_d3_53 : decode method_3_code 53 = .ok (.iushr, 1) := by decide +kernel
theorem own_d3_54 : decode method_3_code 54 = .ok (.iload 6, 2) := by decide +kernel
theorem own_d3_56 : decode method_3_code 56 = .ok (.if_icmp .eq 5, 3) := by decide +kernel
theorem own_d3_61 : decode method_3_code 61 = .ok (.iload 6, 2) := by decide +kernel
theorem own_d3_63 : decode method_3_code 63 = .ok (.i2b, 1) := by decide +kernel
theorem own_d3_64 : decode method_3_code 64 = .ok (.ireturn, 1) := by decide +kernel
theorem own_d3_59 : decode method_3_code 59 = .ok (.iconst 0, 1) := by decide +kernel
theorem own_d3_60 : decode method_3_code 60 = .ok (.ireturn, 1) := by decide +kernel
def own_exp (p1 : Int32) (p2 : Int32) (p3 : Int32) (p4 : Int32) (p5 : Int32) : Int32 := (if (p5 - p3) < (0 : Int32) then (nar .byte p4) else (if (p5 - p3) < p2 then (if (p5 - p3) < (p2 - (1 : Int32)) then (nar .byte (((((p1.toUInt32 >>> (((7 : Int32) * (p5 - p3)) &&& 31).toUInt32).toInt32) &&& (127 : Int32)) ||| (128 : Int32)).toInt8.toInt32)) else (if ((p1.toUInt32 >>> (((7 : Int32) * (p5 - p3)) &&& 31).toUInt32).toInt32) = (((p1.toUInt32 >>> (((7 : Int32) * (p5 - p3)) &&& 31).toUInt32).toInt32) &&& (127 : Int32)) then (nar .byte ((((p1.toUInt32 >>> (((7 : Int32) * (p5 - p3)) &&& 31).toUInt32).toInt32) &&& (127 : Int32)).toInt8.toInt32)) else (0 : Int32))) else (nar .byte p4)))
def own_Q3 (Z : State) (p1 : Int32) (p2 : Int32) (p3 : Int32) (p4 : Int32) (p5 : Int32) (h0 : Heap) (n0 : Nat) (v : Option Value) (h : Heap) (L : List Loc) : Prop := v = some (.int (own_exp p1 p2 p3 p4 p5)) ∧ Fr n0 L ∧ h = h0
theorem own_ef_own_rm3 (m : MethodId) (p1 : Int32) (p2 : Int32) (p3 : Int32) (p4 : Int32) (p5 : Int32) : entryFrame m #[(.int p1), (.int p2), (.int p3), (.int p4), (.int p5)] 7 = mkF m 0 #[.val (.int p1), .val (.int p2), .val (.int p3), .val (.int p4), .val (.int p5), .unset, .unset] [] := by first | (simp [entryFrame, mkF, argsToLocals, Value.category]; done) | rfl
set_option maxRecDepth 65536 in
set_option maxHeartbeats 40000000 in
theorem own_rm3 (l : Launch) (Z : State) (a0 : Array Value) (hw : ∀ d ∈ tables_1, d.before a0 Z = true) (ws : List Jvm.Cond) (p1 : Int32) (p2 : Int32) (p3 : Int32) (p4 : Int32) (p5 : Int32) (h0 : Heap) (n0 : Nat) (Z0 : n0 ≤ h0.size) :
    MetFree l (⟨"com/example/corbel/corbel/IndexOutputWriteVIntPinLaw", "exp", "(IIIBI)B"⟩ : MethodName) (head1 (Jvm.Cond.code (⟨"com/example/corbel/corbel/IndexOutputWriteVIntPinLaw", "exp", "(IIIBI)B"⟩ : MethodName) method_3_code 7 (some .byte) :: ws) ({ frames := 0, cells := 0, slots := 0, locals := 0 } : Room)) (fun a U => a = #[(.int p1), (.int p2), (.int p3), (.int p4), (.int p5)] ∧ Z.Warmed39 U.vm ∧ U.heap = h0) (fun _ _ _ _ _ => True) (fun _ U o U' => ∃ v L, o = .returned v ∧ own_Q3 Z p1 p2 p3 p4 p5 h0 n0 v U'.heap L ∧ FrameEnd U o U' L ({ frames := 0, cells := 0, slots := 0, locals := 0 } : Room).cells ({ frames := 0, cells := 0, slots := 0, locals := 0 } : Room).slots) := by
  refine MetFree.of_bodySF (plainFor_of_name own_pn0) hisR ?_
  intro p e s m args below meth c s₁ Bd hml0 hP hK
  obtain ⟨rfl, hZ, hh⟩ := hP
  have hx := Bd.exec
  have hby := Bd.bytes
  have hml : c.maxLocals = 7 := hml0
  have hown : s.vm.findClass "com/example/corbel/corbel/IndexOutputWriteVIntPinLaw" = some m.cls := findClass_of_methodNamed Bd.named
  have hnm := (name_of_methodNamed Bd.named Bd.method).1
  have X0 : Stand p l e ({ frames := 0, cells := 0, slots := 0, locals := 0 } : Room) s m #[(.int p1), (.int p2), (.int p3), (.int p4), (.int p5)] below meth c s₁ [] 0 0 := Stand.of_body Bd
  have e0 : s₁.heap = h0 := by rw [← hh, Bd.state]; rfl
  have N0 := Fr.nil n0
  show OE FrameEnd p e below s (own_Q3 Z p1 p2 p3 p4 p5 h0 n0) ({ frames := 0, cells := 0, slots := 0, locals := 0 } : Room).cells ({ frames := 0, cells := 0, slots := 0, locals := 0 } : Room).slots s₁ (entryFrame m #[(.int p1), (.int p2), (.int p3), (.int p4), (.int p5)] 7)
  rw [own_ef_own_rm3]
  show OE _ p e below s _ _ _ s₁ (mkF m 0 #[.val (.int p1), .val (.int p2), .val (.int p3), .val (.int p4), .val (.int p5), .unset, .unset] [])
  refine OE.iload X0 hx hby own_d3_0 rfl ?_
  refine OE.iloadN X0 hx hby own_d3_2 rfl ?_
  refine OE.isub X0 hx hby own_d3_3 ?_
  refine OE.istore X0 hx hby own_d3_4 (l' := #[.val (.int p1), .val (.int p2), .val (.int p3), .val (.int p4), .val (.int p5), .val (.int (p5 - p3)), .unset]) rfl ?_
  refine OE.iload X0 hx hby own_d3_6 rfl ?_
  by_cases hc8 : (p5 - p3) < (0 : Int32)
  · skip
    refine OE.ifYes X0 hx hby (pc' := 17) own_d3_8 (tlt hc8).1 (h := ?_)
    refine OE.iloadN X0 hx hby own_d3_17 rfl ?_
    refine OE.retN X0 hx (t := .byte) Bd.returns (by simp) Bd.notSynchronized (hb hby own_d3_18) (by decide) (by decide) ?_
    rw [e0]
    exact ⟨(congrArg (fun z => some (Value.int z)) (show (nar .byte p4) = (if (p5 - p3) < (0 : Int32) then (nar .byte p4) else (if (p5 - p3) < p2 then (if (p5 - p3) < (p2 - (1 : Int32)) then (nar .byte (((((p1.toUInt32 >>> (((7 : Int32) * (p5 - p3)) &&& 31).toUInt32).toInt32) &&& (127 : Int32)) ||| (128 : Int32)).toInt8.toInt32)) else (if ((p1.toUInt32 >>> (((7 : Int32) * (p5 - p3)) &&& 31).toUInt32).toInt32) = (((p1.toUInt32 >>> (((7 : Int32) * (p5 - p3)) &&& 31).toUInt32).toInt32) &&& (127 : Int32)) then (nar .byte ((((p1.toUInt32 >>> (((7 : Int32) * (p5 - p3)) &&& 31).toUInt32).toInt32) &&& (127 : Int32)).toInt8.toInt32)) else (0 : Int32))) else (nar .byte p4))) from by rw [if_pos hc8])), N0, rfl⟩
  · skip
    refine OE.ifNo X0 hx hby own_d3_8 (flt hc8).1 ?_
    refine OE.iload X0 hx hby own_d3_11 rfl ?_
    refine OE.iloadN X0 hx hby own_d3_13 rfl ?_
    by_cases hc14 : (p5 - p3) < p2
    · skip
      refine OE.icmpYes X0 hx hby (pc' := 19) own_d3_14 (tlt hc14).1 (h := ?_)
      refine OE.iloadN X0 hx hby own_d3_19 rfl ?_
      refine OE.bipush X0 hx hby own_d3_20 (7 : Int32) rfl ?_
      refine OE.iload X0 hx hby own_d3_22 rfl ?_
      refine OE.imul X0 hx hby own_d3_24 ?_
      refine OE.iushr X0 hx hby own_d3_25 ?_
      refine OE.bipush X0 hx hby own_d3_26 (127 : Int32) rfl ?_
      refine OE.iand X0 hx hby own_d3_28 ?_
      refine OE.istore X0 hx hby own_d3_29 (l' := #[.val (.int p1), .val (.int p2), .val (.int p3), .val (.int p4), .val (.int p5), .val (.int (p5 - p3)), .val (.int (((p1.toUInt32 >>> (((7 : Int32) * (p5 - p3)) &&& 31).toUInt32).toInt32) &&& (127 : Int32)))]) rfl ?_
      refine OE.iload X0 hx hby own_d3_31 rfl ?_
      refine OE.iloadN X0 hx hby own_d3_33 rfl ?_
      refine OE.iconst X0 hx hby own_d3_34 (1 : Int32) rfl ?_
      refine OE.isub X0 hx hby own_d3_35 ?_
      by_cases hc36 : (p5 - p3) < (p2 - (1 : Int32))
      · skip
        refine OE.icmpNo X0 hx hby own_d3_36 (tlt hc36).2.1 ?_
        refine OE.iload X0 hx hby own_d3_39 rfl ?_
        refine OE.sipush X0 hx hby own_d3_41 (128 : Int32) rfl ?_
        refine OE.ior X0 hx hby own_d3_44 ?_
        refine OE.i2b X0 hx hby own_d3_45 ?_
        refine OE.retN X0 hx (t := .byte) Bd.returns (by simp) Bd.notSynchronized (hb hby own_d3_46) (by decide) (by decide) ?_
        rw [e0]
        exact ⟨(congrArg (fun z => some (Value.int z)) (show (nar .byte (((((p1.toUInt32 >>> (((7 : Int32) * (p5 - p3)) &&& 31).toUInt32).toInt32) &&& (127 : Int32)) ||| (128 : Int32)).toInt8.toInt32)) = (if (p5 - p3) < (0 : Int32) then (nar .byte p4) else (if (p5 - p3) < p2 then (if (p5 - p3) < (p2 - (1 : Int32)) then (nar .byte (((((p1.toUInt32 >>> (((7 : Int32) * (p5 - p3)) &&& 31).toUInt32).toInt32) &&& (127 : Int32)) ||| (128 : Int32)).toInt8.toInt32)) else (if ((p1.toUInt32 >>> (((7 : Int32) * (p5 - p3)) &&& 31).toUInt32).toInt32) = (((p1.toUInt32 >>> (((7 : Int32) * (p5 - p3)) &&& 31).toUInt32).toInt32) &&& (127 : Int32)) then (nar .byte ((((p1.toUInt32 >>> (((7 : Int32) * (p5 - p3)) &&& 31).toUInt32).toInt32) &&& (127 : Int32)).toInt8.toInt32)) else (0 : Int32))) else (nar .byte p4))) from by rw [if_neg hc8, if_pos hc14, if_pos hc36])), N0, rfl⟩
      · skip
        refine OE.icmpYes X0 hx hby (pc' := 47) own_d3_36 (flt hc36).2.1 (h := ?_)
        refine OE.iloadN X0 hx hby own_d3_47 rfl ?_
        refine OE.bipush X0 hx hby own_d3_48 (7 : Int32) rfl ?_
        refine OE.iload X0 hx hby own_d3_50 rfl ?_
        refine OE.imul X0 hx hby own_d3_52 ?_
        refine OE.iushr X0 hx hby own_d3_53 ?_
        refine OE.iload X0 hx hby own_d3_54 rfl ?_
        by_cases hc56 : ((p1.toUInt32 >>> (((7 : Int32) * (p5 - p3)) &&& 31).toUInt32).toInt32) = (((p1.toUInt32 >>> (((7 : Int32) * (p5 - p3)) &&& 31).toUInt32).toInt32) &&& (127 : Int32))
        · skip
          refine OE.icmpYes X0 hx hby (pc' := 61) own_d3_56 (teq hc56).1 (h := ?_)
          refine OE.iload X0 hx hby own_d3_61 rfl ?_
          refine OE.i2b X0 hx hby own_d3_63 ?_
          refine OE.retN X0 hx (t := .byte) Bd.returns (by simp) Bd.notSynchronized (hb hby own_d3_64) (by decide) (by decide) ?_
          rw [e0]
          exact ⟨(congrArg (fun z => some (Value.int z)) (show (nar .byte ((((p1.toUInt32 >>> (((7 : Int32) * (p5 - p3)) &&& 31).toUInt32).toInt32) &&& (127 : Int32)).toInt8.toInt32)) = (if (p5 - p3) < (0 : Int32) then (nar .byte p4) else (if (p5 - p3) < p2 then (if (p5 - p3) < (p2 - (1 : Int32)) then (nar .byte (((((p1.toUInt32 >>> (((7 : Int32) * (p5 - p3)) &&& 31).toUInt32).toInt32) &&& (127 : Int32)) ||| (128 : Int32)).toInt8.toInt32)) else (if ((p1.toUInt32 >>> (((7 : Int32) * (p5 - p3)) &&& 31).toUInt32).toInt32) = (((p1.toUInt32 >>> (((7 : Int32) * (p5 - p3)) &&& 31).toUInt32).toInt32) &&& (127 : Int32)) then (nar .byte ((((p1.toUInt32 >>> (((7 : Int32) * (p5 - p3)) &&& 31).toUInt32).toInt32) &&& (127 : Int32)).toInt8.toInt32)) else (0 : Int32))) else (nar .byte p4))) from by rw [if_neg hc8, if_pos hc14, if_neg hc36, if_pos hc56])), N0, rfl⟩
        · skip
          refine OE.icmpNo X0 hx hby own_d3_56 (feq hc56).1 ?_
          refine OE.iconst X0 hx hby own_d3_59 (0 : Int32) rfl ?_
          refine OE.retN X0 hx (t := .byte) Bd.returns (by simp) Bd.notSynchronized (hb hby own_d3_60) (by decide) (by decide) ?_
          rw [e0]
          exact ⟨(congrArg (fun z => some (Value.int z)) (show (0 : Int32) = (if (p5 - p3) < (0 : Int32) then (nar .byte p4) else (if (p5 - p3) < p2 then (if (p5 - p3) < (p2 - (1 : Int32)) then (nar .byte (((((p1.toUInt32 >>> (((7 : Int32) * (p5 - p3)) &&& 31).toUInt32).toInt32) &&& (127 : Int32)) ||| (128 : Int32)).toInt8.toInt32)) else (if ((p1.toUInt32 >>> (((7 : Int32) * (p5 - p3)) &&& 31).toUInt32).toInt32) = (((p1.toUInt32 >>> (((7 : Int32) * (p5 - p3)) &&& 31).toUInt32).toInt32) &&& (127 : Int32)) then (nar .byte ((((p1.toUInt32 >>> (((7 : Int32) * (p5 - p3)) &&& 31).toUInt32).toInt32) &&& (127 : Int32)).toInt8.toInt32)) else (0 : Int32))) else (nar .byte p4))) from by rw [if_neg hc8, if_pos hc14, if_neg hc36, if_neg hc56])), N0, rfl⟩
    · skip
      refine OE.icmpNo X0 hx hby own_d3_14 (flt hc14).1 ?_
      refine OE.iloadN X0 hx hby own_d3_17 rfl ?_
      refine OE.retN X0 hx (t := .byte) Bd.returns (by simp) Bd.notSynchronized (hb hby own_d3_18) (by decide) (by decide) ?_
      rw [e0]
      exact ⟨(congrArg (fun z => some (Value.int z)) (show (nar .byte p4) = (if (p5 - p3) < (0 : Int32) then (nar .byte p4) else (if (p5 - p3) < p2 then (if (p5 - p3) < (p2 - (1 : Int32)) then (nar .byte (((((p1.toUInt32 >>> (((7 : Int32) * (p5 - p3)) &&& 31).toUInt32).toInt32) &&& (127 : Int32)) ||| (128 : Int32)).toInt8.toInt32)) else (if ((p1.toUInt32 >>> (((7 : Int32) * (p5 - p3)) &&& 31).toUInt32).toInt32) = (((p1.toUInt32 >>> (((7 : Int32) * (p5 - p3)) &&& 31).toUInt32).toInt32) &&& (127 : Int32)) then (nar .byte ((((p1.toUInt32 >>> (((7 : Int32) * (p5 - p3)) &&& 31).toUInt32).toInt32) &&& (127 : Int32)).toInt8.toInt32)) else (0 : Int32))) else (nar .byte p4))) from by rw [if_neg hc8, if_neg hc14])), N0, rfl⟩
theorem own_toNat (x : BitVec 32) : (x &&& 0xFFFFFF80#32 = 0#32) ↔ x.toNat < 128 := by
  have h : x &&& 0xFFFFFF80#32 = (x >>> 7) <<< 7 := by
    apply BitVec.eq_of_getLsbD_eq
    intro i hi
    have e : (0xFFFFFF80#32).getLsbD i = decide (7 ≤ i) := by
      revert i; decide
    simp only [BitVec.getLsbD_and, BitVec.getLsbD_shiftLeft, BitVec.getLsbD_ushiftRight, e]
    by_cases h7 : 7 ≤ i
    · have : ¬ i < 7 := by omega
      have e2 : 7 + (i - 7) = i := by omega
      simp [h7, this, e2, hi]
    · have : i < 7 := by omega
      simp [h7, this]
  rw [h, ← BitVec.toNat_inj]
  simp only [BitVec.toNat_shiftLeft, BitVec.toNat_ushiftRight, BitVec.toNat_ofNat, Nat.shiftRight_eq_div_pow, Nat.shiftLeft_eq]
  have := x.isLt
  omega
theorem own_un (x : Int32) : x.toInt % 4294967296 = (x.toBitVec.toNat : Int) := by
  have h := BitVec.toInt_eq_toNat_cond x.toBitVec
  have := x.toBitVec.isLt
  have e : x.toInt = x.toBitVec.toInt := rfl
  rw [e, h]; split <;> omega
theorem own_m (x : Int32) : (x &&& (-128 : Int32)) = 0 ↔ x.toInt % 4294967296 < 128 := by
  rw [own_un, ← Int32.toBitVec_inj]
  have e : (x &&& (-128 : Int32)).toBitVec = x.toBitVec &&& 0xFFFFFF80#32 := rfl
  rw [e]
  have := own_toNat x.toBitVec
  constructor
  · intro h; have := this.mp h; omega
  · intro h; exact this.mpr (by omega)
theorem own_0 (v : Int32) : ((v.toUInt32 >>> (((7 : Int32) * (0 : Int32)) &&& 31).toUInt32).toInt32) = v := by
  apply Int32.toBitVec_inj.mp
  first | (simp; done) | (simp; rfl)
theorem own_s1 (v : Int32) : ((((v.toUInt32 >>> (((7 : Int32) * (1 : Int32)) &&& 31).toUInt32).toInt32).toUInt32 >>> ((7 : Int32) &&& 31).toUInt32).toInt32) = ((v.toUInt32 >>> (((7 : Int32) * (2 : Int32)) &&& 31).toUInt32).toInt32) := by
  apply Int32.toInt_inj.mp
  have a := c_iushr v ((7 : Int32) * (1 : Int32)) 7 (by decide) (by decide)
  have b := c_iushr ((v.toUInt32 >>> (((7 : Int32) * (1 : Int32)) &&& 31).toUInt32).toInt32) 7 7 (by decide) (by decide)
  have d := c_iushr v ((7 : Int32) * (2 : Int32)) 14 (by decide) (by decide)
  rw [b, d, a]
  omega
theorem own_s2 (v : Int32) : ((((v.toUInt32 >>> (((7 : Int32) * (2 : Int32)) &&& 31).toUInt32).toInt32).toUInt32 >>> ((7 : Int32) &&& 31).toUInt32).toInt32) = ((v.toUInt32 >>> (((7 : Int32) * (3 : Int32)) &&& 31).toUInt32).toInt32) := by
  apply Int32.toInt_inj.mp
  have a := c_iushr v ((7 : Int32) * (2 : Int32)) 14 (by decide) (by decide)
  have b := c_iushr ((v.toUInt32 >>> (((7 : Int32) * (2 : Int32)) &&& 31).toUInt32).toInt32) 7 7 (by decide) (by decide)
  have d := c_iushr v ((7 : Int32) * (3 : Int32)) 21 (by decide) (by decide)
  rw [b, d, a]
  omega
theorem own_s3 (v : Int32) : ((((v.toUInt32 >>> (((7 : Int32) * (3 : Int32)) &&& 31).toUInt32).toInt32).toUInt32 >>> ((7 : Int32) &&& 31).toUInt32).toInt32) = ((v.toUInt32 >>> (((7 : Int32) * (4 : Int32)) &&& 31).toUInt32).toInt32) := by
  apply Int32.toInt_inj.mp
  have a := c_iushr v ((7 : Int32) * (3 : Int32)) 21 (by decide) (by decide)
  have b := c_iushr ((v.toUInt32 >>> (((7 : Int32) * (3 : Int32)) &&& 31).toUInt32).toInt32) 7 7 (by decide) (by decide)
  have d := c_iushr v ((7 : Int32) * (4 : Int32)) 28 (by decide) (by decide)
  rw [b, d, a]
  omega
theorem own_s0 (v : Int32) : ((v.toUInt32 >>> ((7 : Int32) &&& 31).toUInt32).toInt32) = ((v.toUInt32 >>> (((7 : Int32) * (1 : Int32)) &&& 31).toUInt32).toInt32) := rfl
theorem own_c1 (v : Int32) : (((v.toUInt32 >>> (((7 : Int32) * (1 : Int32)) &&& 31).toUInt32).toInt32) &&& (-128 : Int32)) = 0 ↔ ((v.toUInt32 >>> ((14 : Int32) &&& 31).toUInt32).toInt32) = 0 := by
  rw [own_m, ← Int32.toInt_inj]
  have a := c_iushr v ((7 : Int32) * (1 : Int32)) 7 (by decide) (by decide)
  have b := c_iushr v (14 : Int32) 14 (by decide) (by decide)
  have z : (0 : Int32).toInt = 0 := by decide
  rw [a, b, z]
  omega
theorem own_c2 (v : Int32) : (((v.toUInt32 >>> (((7 : Int32) * (2 : Int32)) &&& 31).toUInt32).toInt32) &&& (-128 : Int32)) = 0 ↔ ((v.toUInt32 >>> ((21 : Int32) &&& 31).toUInt32).toInt32) = 0 := by
  rw [own_m, ← Int32.toInt_inj]
  have a := c_iushr v ((7 : Int32) * (2 : Int32)) 14 (by decide) (by decide)
  have b := c_iushr v (21 : Int32) 21 (by decide) (by decide)
  have z : (0 : Int32).toInt = 0 := by decide
  rw [a, b, z]
  omega
theorem own_c3 (v : Int32) : (((v.toUInt32 >>> (((7 : Int32) * (3 : Int32)) &&& 31).toUInt32).toInt32) &&& (-128 : Int32)) = 0 ↔ ((v.toUInt32 >>> ((28 : Int32) &&& 31).toUInt32).toInt32) = 0 := by
  rw [own_m, ← Int32.toInt_inj]
  have a := c_iushr v ((7 : Int32) * (3 : Int32)) 21 (by decide) (by decide)
  have b := c_iushr v (28 : Int32) 28 (by decide) (by decide)
  have z : (0 : Int32).toInt = 0 := by decide
  rw [a, b, z]
  omega
theorem own_c0 (v : Int32) : (v &&& (-128 : Int32)) = 0 ↔ ((v.toUInt32 >>> ((7 : Int32) &&& 31).toUInt32).toInt32) = 0 := by
  rw [own_m, ← Int32.toInt_inj]
  have b := c_iushr v 7 7 (by decide) (by decide)
  have z : (0 : Int32).toInt = 0 := by decide
  rw [b, z]
  omega
theorem own_c4 (v : Int32) : (((v.toUInt32 >>> (((7 : Int32) * (4 : Int32)) &&& 31).toUInt32).toInt32) &&& (-128 : Int32)) = 0 := by
  rw [own_m]
  have a := c_iushr v ((7 : Int32) * 4) 28 (by decide) (by decide)
  rw [a]
  omega
theorem own_and127 {x : Int32} (h : (x &&& (-128 : Int32)) = 0) : x = x &&& (127 : Int32) := by
  rw [own_m] at h
  apply Int32.toInt_inj.mp
  have m1 := c_mask x 127 7 (by decide) (by decide)
  have := rng32 x
  rw [m1]
  omega
theorem own_l13 {x0 x1 x2 x3 x4 x5 x6 x7 x8 x9 x10 x11 x12 y0 y1 y2 y3 y4 y5 y6 y7 y8 y9 y10 y11 y12 : Int32} (h0 : y0 = x0) (h1 : y1 = x1) (h2 : y2 = x2) (h3 : y3 = x3) (h4 : y4 = x4) (h5 : y5 = x5) (h6 : y6 = x6) (h7 : y7 = x7) (h8 : y8 = x8) (h9 : y9 = x9) (h10 : y10 = x10) (h11 : y11 = x11) (h12 : y12 = x12) :
    [Value.int x0, .int x1, .int x2, .int x3, .int x4, .int x5, .int x6, .int x7, .int x8, .int x9, .int x10, .int x11, .int x12] = [Value.int y0, .int y1, .int y2, .int y3, .int y4, .int y5, .int y6, .int y7, .int y8, .int y9, .int y10, .int y11, .int y12] := by
  subst h0 h1 h2 h3 h4 h5 h6 h7 h8 h9 h10 h11 h12; rfl
theorem own_and7 (x : Int32) : (x &&& (7 : Int32)) = 0 ∨ (x &&& (7 : Int32)) = 1 ∨ (x &&& (7 : Int32)) = 2 ∨ (x &&& (7 : Int32)) = 3 ∨ (x &&& (7 : Int32)) = 4 ∨ (x &&& (7 : Int32)) = 5 ∨ (x &&& (7 : Int32)) = 6 ∨ (x &&& (7 : Int32)) = 7 := by
  have hv := c_and x 7 (by decide)
  have h3 : (7 : Int32).toInt = 7 := by decide
  rw [h3] at hv
  generalize (x &&& (7 : Int32)) = v at *
  have e : ∀ k : Int32, v.toInt = k.toInt → v = k := fun k q => Int32.toInt_inj.mp q
  have q : v.toInt = 0 ∨ v.toInt = 1 ∨ v.toInt = 2 ∨ v.toInt = 3 ∨ v.toInt = 4 ∨ v.toInt = 5 ∨ v.toInt = 6 ∨ v.toInt = 7 := by omega
  rcases q with q | q | q | q | q | q | q | q
  · exact Or.inl (e 0 q)
  · exact Or.inr (Or.inl (e 1 q))
  · exact Or.inr (Or.inr (Or.inl (e 2 q)))
  · exact Or.inr (Or.inr (Or.inr (Or.inl (e 3 q))))
  · exact Or.inr (Or.inr (Or.inr (Or.inr (Or.inl (e 4 q)))))
  · exact Or.inr (Or.inr (Or.inr (Or.inr (Or.inr (Or.inl (e 5 q))))))
  · exact Or.inr (Or.inr (Or.inr (Or.inr (Or.inr (Or.inr (Or.inl (e 6 q)))))))
  · exact Or.inr (Or.inr (Or.inr (Or.inr (Or.inr (Or.inr (Or.inr (e 7 q)))))))
set_option maxRecDepth 65536 in
set_option maxHeartbeats 40000000 in
theorem own_list1 (v f o : Int32) (ho : o = 0 ∨ o = 1 ∨ o = 2 ∨ o = 3 ∨ o = 4 ∨ o = 5 ∨ o = 6 ∨ o = 7) (h : (v &&& (-128 : Int32)) = 0) : ((List.replicate 13 (Value.int f.toInt8.toInt32)).set o.toNatClampNeg (Value.int (v.toInt8.toInt32).toInt8.toInt32)) = [(Value.int (own_exp v (1 : Int32) o f (0 : Int32))), (Value.int (own_exp v (1 : Int32) o f (1 : Int32))), (Value.int (own_exp v (1 : Int32) o f (2 : Int32))), (Value.int (own_exp v (1 : Int32) o f (3 : Int32))), (Value.int (own_exp v (1 : Int32) o f (4 : Int32))), (Value.int (own_exp v (1 : Int32) o f (5 : Int32))), (Value.int (own_exp v (1 : Int32) o f (6 : Int32))), (Value.int (own_exp v (1 : Int32) o f (7 : Int32))), (Value.int (own_exp v (1 : Int32) o f (8 : Int32))), (Value.int (own_exp v (1 : Int32) o f (9 : Int32))), (Value.int (own_exp v (1 : Int32) o f (10 : Int32))), (Value.int (own_exp v (1 : Int32) o f (11 : Int32))), (Value.int (own_exp v (1 : Int32) o f (12 : Int32)))] := by

  have hl : ((v.toUInt32 >>> (((7 : Int32) * (0 : Int32)) &&& 31).toUInt32).toInt32) = (((v.toUInt32 >>> (((7 : Int32) * (0 : Int32)) &&& 31).toUInt32).toInt32) &&& (127 : Int32)) := by rw [own_0]; exact own_and127 h
  have el : nar .byte (((v.toUInt32 >>> (((7 : Int32) * (0 : Int32)) &&& 31).toUInt32).toInt32) &&& (127 : Int32)).toInt8.toInt32 = (v.toInt8.toInt32).toInt8.toInt32 := by rw [← hl]; rw [own_0]; rfl
  rcases ho with rfl | rfl | rfl | rfl | rfl | rfl | rfl | rfl
  · exact own_l13 ((if_neg (by decide)).trans ((if_pos (by decide)).trans ((if_neg (by decide)).trans ((if_pos hl).trans el)))) ((if_neg (by decide)).trans (if_neg (by decide))) ((if_neg (by decide)).trans (if_neg (by decide))) ((if_neg (by decide)).trans (if_neg (by decide))) ((if_neg (by decide)).trans (if_neg (by decide))) ((if_neg (by decide)).trans (if_neg (by decide))) ((if_neg (by decide)).trans (if_neg (by decide))) ((if_neg (by decide)).trans (if_neg (by decide))) ((if_neg (by decide)).trans (if_neg (by decide))) ((if_neg (by decide)).trans (if_neg (by decide))) ((if_neg (by decide)).trans (if_neg (by decide))) ((if_neg (by decide)).trans (if_neg (by decide))) ((if_neg (by decide)).trans (if_neg (by decide)))
  · exact own_l13 (if_pos (by decide)) ((if_neg (by decide)).trans ((if_pos (by decide)).trans ((if_neg (by decide)).trans ((if_pos hl).trans el)))) ((if_neg (by decide)).trans (if_neg (by decide))) ((if_neg (by decide)).trans (if_neg (by decide))) ((if_neg (by decide)).trans (if_neg (by decide))) ((if_neg (by decide)).trans (if_neg (by decide))) ((if_neg (by decide)).trans (if_neg (by decide))) ((if_neg (by decide)).trans (if_neg (by decide))) ((if_neg (by decide)).trans (if_neg (by decide))) ((if_neg (by decide)).trans (if_neg (by decide))) ((if_neg (by decide)).trans (if_neg (by decide))) ((if_neg (by decide)).trans (if_neg (by decide))) ((if_neg (by decide)).trans (if_neg (by decide)))
  · exact own_l13 (if_pos (by decide)) (if_pos (by decide)) ((if_neg (by decide)).trans ((if_pos (by decide)).trans ((if_neg (by decide)).trans ((if_pos hl).trans el)))) ((if_neg (by decide)).trans (if_neg (by decide))) ((if_neg (by decide)).trans (if_neg (by decide))) ((if_neg (by decide)).trans (if_neg (by decide))) ((if_neg (by decide)).trans (if_neg (by decide))) ((if_neg (by decide)).trans (if_neg (by decide))) ((if_neg (by decide)).trans (if_neg (by decide))) ((if_neg (by decide)).trans (if_neg (by decide))) ((if_neg (by decide)).trans (if_neg (by decide))) ((if_neg (by decide)).trans (if_neg (by decide))) ((if_neg (by decide)).trans (if_neg (by decide)))
  · exact own_l13 (if_pos (by decide)) (if_pos (by decide)) (if_pos (by decide)) ((if_neg (by decide)).trans ((if_pos (by decide)).trans ((if_neg (by decide)).trans ((if_pos hl).trans el)))) ((if_neg (by decide)).trans (if_neg (by decide))) ((if_neg (by decide)).trans (if_neg (by decide))) ((if_neg (by decide)).trans (if_neg (by decide))) ((if_neg (by decide)).trans (if_neg (by decide))) ((if_neg (by decide)).trans (if_neg (by decide))) ((if_neg (by decide)).trans (if_neg (by decide))) ((if_neg (by decide)).trans (if_neg (by decide))) ((if_neg (by decide)).trans (if_neg (by decide))) ((if_neg (by decide)).trans (if_neg (by decide)))
  · exact own_l13 (if_pos (by decide)) (if_pos (by decide)) (if_pos (by decide)) (if_pos (by decide)) ((if_neg (by decide)).trans ((if_pos (by decide)).trans ((if_neg (by decide)).trans ((if_pos hl).trans el)))) ((if_neg (by decide)).trans (if_neg (by decide))) ((if_neg (by decide)).trans (if_neg (by decide))) ((if_neg (by decide)).trans (if_neg (by decide))) ((if_neg (by decide)).trans (if_neg (by decide))) ((if_neg (by decide)).trans (if_neg (by decide))) ((if_neg (by decide)).trans (if_neg (by decide))) ((if_neg (by decide)).trans (if_neg (by decide))) ((if_neg (by decide)).trans (if_neg (by decide)))
  · exact own_l13 (if_pos (by decide)) (if_pos (by decide)) (if_pos (by decide)) (if_pos (by decide)) (if_pos (by decide)) ((if_neg (by decide)).trans ((if_pos (by decide)).trans ((if_neg (by decide)).trans ((if_pos hl).trans el)))) ((if_neg (by decide)).trans (if_neg (by decide))) ((if_neg (by decide)).trans (if_neg (by decide))) ((if_neg (by decide)).trans (if_neg (by decide))) ((if_neg (by decide)).trans (if_neg (by decide))) ((if_neg (by decide)).trans (if_neg (by decide))) ((if_neg (by decide)).trans (if_neg (by decide))) ((if_neg (by decide)).trans (if_neg (by decide)))
  · exact own_l13 (if_pos (by decide)) (if_pos (by decide)) (if_pos (by decide)) (if_pos (by decide)) (if_pos (by decide)) (if_pos (by decide)) ((if_neg (by decide)).trans ((if_pos (by decide)).trans ((if_neg (by decide)).trans ((if_pos hl).trans el)))) ((if_neg (by decide)).trans (if_neg (by decide))) ((if_neg (by decide)).trans (if_neg (by decide))) ((if_neg (by decide)).trans (if_neg (by decide))) ((if_neg (by decide)).trans (if_neg (by decide))) ((if_neg (by decide)).trans (if_neg (by decide))) ((if_neg (by decide)).trans (if_neg (by decide)))
  · exact own_l13 (if_pos (by decide)) (if_pos (by decide)) (if_pos (by decide)) (if_pos (by decide)) (if_pos (by decide)) (if_pos (by decide)) (if_pos (by decide)) ((if_neg (by decide)).trans ((if_pos (by decide)).trans ((if_neg (by decide)).trans ((if_pos hl).trans el)))) ((if_neg (by decide)).trans (if_neg (by decide))) ((if_neg (by decide)).trans (if_neg (by decide))) ((if_neg (by decide)).trans (if_neg (by decide))) ((if_neg (by decide)).trans (if_neg (by decide))) ((if_neg (by decide)).trans (if_neg (by decide)))
set_option maxRecDepth 65536 in
set_option maxHeartbeats 40000000 in
theorem own_list2 (v f o : Int32) (ho : o = 0 ∨ o = 1 ∨ o = 2 ∨ o = 3 ∨ o = 4 ∨ o = 5 ∨ o = 6 ∨ o = 7) (h : (((v.toUInt32 >>> (((7 : Int32) * (1 : Int32)) &&& 31).toUInt32).toInt32) &&& (-128 : Int32)) = 0) : (((List.replicate 13 (Value.int f.toInt8.toInt32)).set o.toNatClampNeg (Value.int (((v &&& (127 : Int32)) ||| (128 : Int32)).toInt8.toInt32).toInt8.toInt32)).set (o + (1 : Int32)).toNatClampNeg (Value.int (((v.toUInt32 >>> (((7 : Int32) * (1 : Int32)) &&& 31).toUInt32).toInt32).toInt8.toInt32).toInt8.toInt32)) = [(Value.int (own_exp v (2 : Int32) o f (0 : Int32))), (Value.int (own_exp v (2 : Int32) o f (1 : Int32))), (Value.int (own_exp v (2 : Int32) o f (2 : Int32))), (Value.int (own_exp v (2 : Int32) o f (3 : Int32))), (Value.int (own_exp v (2 : Int32) o f (4 : Int32))), (Value.int (own_exp v (2 : Int32) o f (5 : Int32))), (Value.int (own_exp v (2 : Int32) o f (6 : Int32))), (Value.int (own_exp v (2 : Int32) o f (7 : Int32))), (Value.int (own_exp v (2 : Int32) o f (8 : Int32))), (Value.int (own_exp v (2 : Int32) o f (9 : Int32))), (Value.int (own_exp v (2 : Int32) o f (10 : Int32))), (Value.int (own_exp v (2 : Int32) o f (11 : Int32))), (Value.int (own_exp v (2 : Int32) o f (12 : Int32)))] := by
  have e0 : nar .byte ((((v.toUInt32 >>> (((7 : Int32) * (0 : Int32)) &&& 31).toUInt32).toInt32) &&& (127 : Int32)) ||| (128 : Int32)).toInt8.toInt32 = (((v &&& (127 : Int32)) ||| (128 : Int32)).toInt8.toInt32).toInt8.toInt32 := by rw [own_0]; rfl
  have hl : ((v.toUInt32 >>> (((7 : Int32) * (1 : Int32)) &&& 31).toUInt32).toInt32) = (((v.toUInt32 >>> (((7 : Int32) * (1 : Int32)) &&& 31).toUInt32).toInt32) &&& (127 : Int32)) := own_and127 h
  have el : nar .byte (((v.toUInt32 >>> (((7 : Int32) * (1 : Int32)) &&& 31).toUInt32).toInt32) &&& (127 : Int32)).toInt8.toInt32 = (((v.toUInt32 >>> (((7 : Int32) * (1 : Int32)) &&& 31).toUInt32).toInt32).toInt8.toInt32).toInt8.toInt32 := by rw [← hl]; rfl
  rcases ho with rfl | rfl | rfl | rfl | rfl | rfl | rfl | rfl
  · exact own_l13 ((if_neg (by decide)).trans ((if_pos (by decide)).trans ((if_pos (by decide)).trans e0))) ((if_neg (by decide)).trans ((if_pos (by decide)).trans ((if_neg (by decide)).trans ((if_pos hl).trans el)))) ((if_neg (by decide)).trans (if_neg (by decide))) ((if_neg (by decide)).trans (if_neg (by decide))) ((if_neg (by decide)).trans (if_neg (by decide))) ((if_neg (by decide)).trans (if_neg (by decide))) ((if_neg (by decide)).trans (if_neg (by decide))) ((if_neg (by decide)).trans (if_neg (by decide))) ((if_neg (by decide)).trans (if_neg (by decide))) ((if_neg (by decide)).trans (if_neg (by decide))) ((if_neg (by decide)).trans (if_neg (by decide))) ((if_neg (by decide)).trans (if_neg (by decide))) ((if_neg (by decide)).trans (if_neg (by decide)))
  · exact own_l13 (if_pos (by decide)) ((if_neg (by decide)).trans ((if_pos (by decide)).trans ((if_pos (by decide)).trans e0))) ((if_neg (by decide)).trans ((if_pos (by decide)).trans ((if_neg (by decide)).trans ((if_pos hl).trans el)))) ((if_neg (by decide)).trans (if_neg (by decide))) ((if_neg (by decide)).trans (if_neg (by decide))) ((if_neg (by decide)).trans (if_neg (by decide))) ((if_neg (by decide)).trans (if_neg (by decide))) ((if_neg (by decide)).trans (if_neg (by decide))) ((if_neg (by decide)).trans (if_neg (by decide))) ((if_neg (by decide)).trans (if_neg (by decide))) ((if_neg (by decide)).trans (if_neg (by decide))) ((if_neg (by decide)).trans (if_neg (by decide))) ((if_neg (by decide)).trans (if_neg (by decide)))
  · exact own_l13 (if_pos (by decide)) (if_pos (by decide)) ((if_neg (by decide)).trans ((if_pos (by decide)).trans ((if_pos (by decide)).trans e0))) ((if_neg (by decide)).trans ((if_pos (by decide)).trans ((if_neg (by decide)).trans ((if_pos hl).trans el)))) ((if_neg (by decide)).trans (if_neg (by decide))) ((if_neg (by decide)).trans (if_neg (by decide))) ((if_neg (by decide)).trans (if_neg (by decide))) ((if_neg (by decide)).trans (if_neg (by decide))) ((if_neg (by decide)).trans (if_neg (by decide))) ((if_neg (by decide)).trans (if_neg (by decide))) ((if_neg (by decide)).trans (if_neg (by decide))) ((if_neg (by decide)).trans (if_neg (by decide))) ((if_neg (by decide)).trans (if_neg (by decide)))
  · exact own_l13 (if_pos (by decide)) (if_pos (by decide)) (if_pos (by decide)) ((if_neg (by decide)).trans ((if_pos (by decide)).trans ((if_pos (by decide)).trans e0))) ((if_neg (by decide)).trans ((if_pos (by decide)).trans ((if_neg (by decide)).trans ((if_pos hl).trans el)))) ((if_neg (by decide)).trans (if_neg (by decide))) ((if_neg (by decide)).trans (if_neg (by decide))) ((if_neg (by decide)).trans (if_neg (by decide))) ((if_neg (by decide)).trans (if_neg (by decide))) ((if_neg (by decide)).trans (if_neg (by decide))) ((if_neg (by decide)).trans (if_neg (by decide))) ((if_neg (by decide)).trans (if_neg (by decide))) ((if_neg (by decide)).trans (if_neg (by decide)))
  · exact own_l13 (if_pos (by decide)) (if_pos (by decide)) (if_pos (by decide)) (if_pos (by decide)) ((if_neg (by decide)).trans ((if_pos (by decide)).trans ((if_pos (by decide)).trans e0))) ((if_neg (by decide)).trans ((if_pos (by decide)).trans ((if_neg (by decide)).trans ((if_pos hl).trans el)))) ((if_neg (by decide)).trans (if_neg (by decide))) ((if_neg (by decide)).trans (if_neg (by decide))) ((if_neg (by decide)).trans (if_neg (by decide))) ((if_neg (by decide)).trans (if_neg (by decide))) ((if_neg (by decide)).trans (if_neg (by decide))) ((if_neg (by decide)).trans (if_neg (by decide))) ((if_neg (by decide)).trans (if_neg (by decide)))
  · exact own_l13 (if_pos (by decide)) (if_pos (by decide)) (if_pos (by decide)) (if_pos (by decide)) (if_pos (by decide)) ((if_neg (by decide)).trans ((if_pos (by decide)).trans ((if_pos (by decide)).trans e0))) ((if_neg (by decide)).trans ((if_pos (by decide)).trans ((if_neg (by decide)).trans ((if_pos hl).trans el)))) ((if_neg (by decide)).trans (if_neg (by decide))) ((if_neg (by decide)).trans (if_neg (by decide))) ((if_neg (by decide)).trans (if_neg (by decide))) ((if_neg (by decide)).trans (if_neg (by decide))) ((if_neg (by decide)).trans (if_neg (by decide))) ((if_neg (by decide)).trans (if_neg (by decide)))
  · exact own_l13 (if_pos (by decide)) (if_pos (by decide)) (if_pos (by decide)) (if_pos (by decide)) (if_pos (by decide)) (if_pos (by decide)) ((if_neg (by decide)).trans ((if_pos (by decide)).trans ((if_pos (by decide)).trans e0))) ((if_neg (by decide)).trans ((if_pos (by decide)).trans ((if_neg (by decide)).trans ((if_pos hl).trans el)))) ((if_neg (by decide)).trans (if_neg (by decide))) ((if_neg (by decide)).trans (if_neg (by decide))) ((if_neg (by decide)).trans (if_neg (by decide))) ((if_neg (by decide)).trans (if_neg (by decide))) ((if_neg (by decide)).trans (if_neg (by decide)))
  · exact own_l13 (if_pos (by decide)) (if_pos (by decide)) (if_pos (by decide)) (if_pos (by decide)) (if_pos (by decide)) (if_pos (by decide)) (if_pos (by decide)) ((if_neg (by decide)).trans ((if_pos (by decide)).trans ((if_pos (by decide)).trans e0))) ((if_neg (by decide)).trans ((if_pos (by decide)).trans ((if_neg (by decide)).trans ((if_pos hl).trans el)))) ((if_neg (by decide)).trans (if_neg (by decide))) ((if_neg (by decide)).trans (if_neg (by decide))) ((if_neg (by decide)).trans (if_neg (by decide))) ((if_neg (by decide)).trans (if_neg (by decide)))
set_option maxRecDepth 65536 in
set_option maxHeartbeats 40000000 in
theorem own_list3 (v f o : Int32) (ho : o = 0 ∨ o = 1 ∨ o = 2 ∨ o = 3 ∨ o = 4 ∨ o = 5 ∨ o = 6 ∨ o = 7) (h : (((v.toUInt32 >>> (((7 : Int32) * (2 : Int32)) &&& 31).toUInt32).toInt32) &&& (-128 : Int32)) = 0) : ((((List.replicate 13 (Value.int f.toInt8.toInt32)).set o.toNatClampNeg (Value.int (((v &&& (127 : Int32)) ||| (128 : Int32)).toInt8.toInt32).toInt8.toInt32)).set (o + (1 : Int32)).toNatClampNeg (Value.int (((((v.toUInt32 >>> (((7 : Int32) * (1 : Int32)) &&& 31).toUInt32).toInt32) &&& (127 : Int32)) ||| (128 : Int32)).toInt8.toInt32).toInt8.toInt32)).set ((o + (1 : Int32)) + (1 : Int32)).toNatClampNeg (Value.int (((v.toUInt32 >>> (((7 : Int32) * (2 : Int32)) &&& 31).toUInt32).toInt32).toInt8.toInt32).toInt8.toInt32)) = [(Value.int (own_exp v (3 : Int32) o f (0 : Int32))), (Value.int (own_exp v (3 : Int32) o f (1 : Int32))), (Value.int (own_exp v (3 : Int32) o f (2 : Int32))), (Value.int (own_exp v (3 : Int32) o f (3 : Int32))), (Value.int (own_exp v (3 : Int32) o f (4 : Int32))), (Value.int (own_exp v (3 : Int32) o f (5 : Int32))), (Value.int (own_exp v (3 : Int32) o f (6 : Int32))), (Value.int (own_exp v (3 : Int32) o f (7 : Int32))), (Value.int (own_exp v (3 : Int32) o f (8 : Int32))), (Value.int (own_exp v (3 : Int32) o f (9 : Int32))), (Value.int (own_exp v (3 : Int32) o f (10 : Int32))), (Value.int (own_exp v (3 : Int32) o f (11 : Int32))), (Value.int (own_exp v (3 : Int32) o f (12 : Int32)))] := by
  have e0 : nar .byte ((((v.toUInt32 >>> (((7 : Int32) * (0 : Int32)) &&& 31).toUInt32).toInt32) &&& (127 : Int32)) ||| (128 : Int32)).toInt8.toInt32 = (((v &&& (127 : Int32)) ||| (128 : Int32)).toInt8.toInt32).toInt8.toInt32 := by rw [own_0]; rfl
  have e1 : nar .byte ((((v.toUInt32 >>> (((7 : Int32) * (1 : Int32)) &&& 31).toUInt32).toInt32) &&& (127 : Int32)) ||| (128 : Int32)).toInt8.toInt32 = (((((v.toUInt32 >>> (((7 : Int32) * (1 : Int32)) &&& 31).toUInt32).toInt32) &&& (127 : Int32)) ||| (128 : Int32)).toInt8.toInt32).toInt8.toInt32 := rfl
  have hl : ((v.toUInt32 >>> (((7 : Int32) * (2 : Int32)) &&& 31).toUInt32).toInt32) = (((v.toUInt32 >>> (((7 : Int32) * (2 : Int32)) &&& 31).toUInt32).toInt32) &&& (127 : Int32)) := own_and127 h
  have el : nar .byte (((v.toUInt32 >>> (((7 : Int32) * (2 : Int32)) &&& 31).toUInt32).toInt32) &&& (127 : Int32)).toInt8.toInt32 = (((v.toUInt32 >>> (((7 : Int32) * (2 : Int32)) &&& 31).toUInt32).toInt32).toInt8.toInt32).toInt8.toInt32 := by rw [← hl]; rfl
  rcases ho with rfl | rfl | rfl | rfl | rfl | rfl | rfl | rfl
  · exact own_l13 ((if_neg (by decide)).trans ((if_pos (by decide)).trans ((if_pos (by decide)).trans e0))) ((if_neg (by decide)).trans ((if_pos (by decide)).trans ((if_pos (by decide)).trans e1))) ((if_neg (by decide)).trans ((if_pos (by decide)).trans ((if_neg (by decide)).trans ((if_pos hl).trans el)))) ((if_neg (by decide)).trans (if_neg (by decide))) ((if_neg (by decide)).trans (if_neg (by decide))) ((if_neg (by decide)).trans (if_neg (by decide))) ((if_neg (by decide)).trans (if_neg (by decide))) ((if_neg (by decide)).trans (if_neg (by decide))) ((if_neg (by decide)).trans (if_neg (by decide))) ((if_neg (by decide)).trans (if_neg (by decide))) ((if_neg (by decide)).trans (if_neg (by decide))) ((if_neg (by decide)).trans (if_neg (by decide))) ((if_neg (by decide)).trans (if_neg (by decide)))
  · exact own_l13 (if_pos (by decide)) ((if_neg (by decide)).trans ((if_pos (by decide)).trans ((if_pos (by decide)).trans e0))) ((if_neg (by decide)).trans ((if_pos (by decide)).trans ((if_pos (by decide)).trans e1))) ((if_neg (by decide)).trans ((if_pos (by decide)).trans ((if_neg (by decide)).trans ((if_pos hl).trans el)))) ((if_neg (by decide)).trans (if_neg (by decide))) ((if_neg (by decide)).trans (if_neg (by decide))) ((if_neg (by decide)).trans (if_neg (by decide))) ((if_neg (by decide)).trans (if_neg (by decide))) ((if_neg (by decide)).trans (if_neg (by decide))) ((if_neg (by decide)).trans (if_neg (by decide))) ((if_neg (by decide)).trans (if_neg (by decide))) ((if_neg (by decide)).trans (if_neg (by decide))) ((if_neg (by decide)).trans (if_neg (by decide)))
  · exact own_l13 (if_pos (by decide)) (if_pos (by decide)) ((if_neg (by decide)).trans ((if_pos (by decide)).trans ((if_pos (by decide)).trans e0))) ((if_neg (by decide)).trans ((if_pos (by decide)).trans ((if_pos (by decide)).trans e1))) ((if_neg (by decide)).trans ((if_pos (by decide)).trans ((if_neg (by decide)).trans ((if_pos hl).trans el)))) ((if_neg (by decide)).trans (if_neg (by decide))) ((if_neg (by decide)).trans (if_neg (by decide))) ((if_neg (by decide)).trans (if_neg (by decide))) ((if_neg (by decide)).trans (if_neg (by decide))) ((if_neg (by decide)).trans (if_neg (by decide))) ((if_neg (by decide)).trans (if_neg (by decide))) ((if_neg (by decide)).trans (if_neg (by decide))) ((if_neg (by decide)).trans (if_neg (by decide)))
  · exact own_l13 (if_pos (by decide)) (if_pos (by decide)) (if_pos (by decide)) ((if_neg (by decide)).trans ((if_pos (by decide)).trans ((if_pos (by decide)).trans e0))) ((if_neg (by decide)).trans ((if_pos (by decide)).trans ((if_pos (by decide)).trans e1))) ((if_neg (by decide)).trans ((if_pos (by decide)).trans ((if_neg (by decide)).trans ((if_pos hl).trans el)))) ((if_neg (by decide)).trans (if_neg (by decide))) ((if_neg (by decide)).trans (if_neg (by decide))) ((if_neg (by decide)).trans (if_neg (by decide))) ((if_neg (by decide)).trans (if_neg (by decide))) ((if_neg (by decide)).trans (if_neg (by decide))) ((if_neg (by decide)).trans (if_neg (by decide))) ((if_neg (by decide)).trans (if_neg (by decide)))
  · exact own_l13 (if_pos (by decide)) (if_pos (by decide)) (if_pos (by decide)) (if_pos (by decide)) ((if_neg (by decide)).trans ((if_pos (by decide)).trans ((if_pos (by decide)).trans e0))) ((if_neg (by decide)).trans ((if_pos (by decide)).trans ((if_pos (by decide)).trans e1))) ((if_neg (by decide)).trans ((if_pos (by decide)).trans ((if_neg (by decide)).trans ((if_pos hl).trans el)))) ((if_neg (by decide)).trans (if_neg (by decide))) ((if_neg (by decide)).trans (if_neg (by decide))) ((if_neg (by decide)).trans (if_neg (by decide))) ((if_neg (by decide)).trans (if_neg (by decide))) ((if_neg (by decide)).trans (if_neg (by decide))) ((if_neg (by decide)).trans (if_neg (by decide)))
  · exact own_l13 (if_pos (by decide)) (if_pos (by decide)) (if_pos (by decide)) (if_pos (by decide)) (if_pos (by decide)) ((if_neg (by decide)).trans ((if_pos (by decide)).trans ((if_pos (by decide)).trans e0))) ((if_neg (by decide)).trans ((if_pos (by decide)).trans ((if_pos (by decide)).trans e1))) ((if_neg (by decide)).trans ((if_pos (by decide)).trans ((if_neg (by decide)).trans ((if_pos hl).trans el)))) ((if_neg (by decide)).trans (if_neg (by decide))) ((if_neg (by decide)).trans (if_neg (by decide))) ((if_neg (by decide)).trans (if_neg (by decide))) ((if_neg (by decide)).trans (if_neg (by decide))) ((if_neg (by decide)).trans (if_neg (by decide)))
  · exact own_l13 (if_pos (by decide)) (if_pos (by decide)) (if_pos (by decide)) (if_pos (by decide)) (if_pos (by decide)) (if_pos (by decide)) ((if_neg (by decide)).trans ((if_pos (by decide)).trans ((if_pos (by decide)).trans e0))) ((if_neg (by decide)).trans ((if_pos (by decide)).trans ((if_pos (by decide)).trans e1))) ((if_neg (by decide)).trans ((if_pos (by decide)).trans ((if_neg (by decide)).trans ((if_pos hl).trans el)))) ((if_neg (by decide)).trans (if_neg (by decide))) ((if_neg (by decide)).trans (if_neg (by decide))) ((if_neg (by decide)).trans (if_neg (by decide))) ((if_neg (by decide)).trans (if_neg (by decide)))
  · exact own_l13 (if_pos (by decide)) (if_pos (by decide)) (if_pos (by decide)) (if_pos (by decide)) (if_pos (by decide)) (if_pos (by decide)) (if_pos (by decide)) ((if_neg (by decide)).trans ((if_pos (by decide)).trans ((if_pos (by decide)).trans e0))) ((if_neg (by decide)).trans ((if_pos (by decide)).trans ((if_pos (by decide)).trans e1))) ((if_neg (by decide)).trans ((if_pos (by decide)).trans ((if_neg (by decide)).trans ((if_pos hl).trans el)))) ((if_neg (by decide)).trans (if_neg (by decide))) ((if_neg (by decide)).trans (if_neg (by decide))) ((if_neg (by decide)).trans (if_neg (by decide)))
set_option maxRecDepth 65536 in
set_option maxHeartbeats 40000000 in
theorem own_list4 (v f o : Int32) (ho : o = 0 ∨ o = 1 ∨ o = 2 ∨ o = 3 ∨ o = 4 ∨ o = 5 ∨ o = 6 ∨ o = 7) (h : (((v.toUInt32 >>> (((7 : Int32) * (3 : Int32)) &&& 31).toUInt32).toInt32) &&& (-128 : Int32)) = 0) : (((((List.replicate 13 (Value.int f.toInt8.toInt32)).set o.toNatClampNeg (Value.int (((v &&& (127 : Int32)) ||| (128 : Int32)).toInt8.toInt32).toInt8.toInt32)).set (o + (1 : Int32)).toNatClampNeg (Value.int (((((v.toUInt32 >>> (((7 : Int32) * (1 : Int32)) &&& 31).toUInt32).toInt32) &&& (127 : Int32)) ||| (128 : Int32)).toInt8.toInt32).toInt8.toInt32)).set ((o + (1 : Int32)) + (1 : Int32)).toNatClampNeg (Value.int (((((v.toUInt32 >>> (((7 : Int32) * (2 : Int32)) &&& 31).toUInt32).toInt32) &&& (127 : Int32)) ||| (128 : Int32)).toInt8.toInt32).toInt8.toInt32)).set (((o + (1 : Int32)) + (1 : Int32)) + (1 : Int32)).toNatClampNeg (Value.int (((v.toUInt32 >>> (((7 : Int32) * (3 : Int32)) &&& 31).toUInt32).toInt32).toInt8.toInt32).toInt8.toInt32)) = [(Value.int (own_exp v (4 : Int32) o f (0 : Int32))), (Value.int (own_exp v (4 : Int32) o f (1 : Int32))), (Value.int (own_exp v (4 : Int32) o f (2 : Int32))), (Value.int (own_exp v (4 : Int32) o f (3 : Int32))), (Value.int (own_exp v (4 : Int32) o f (4 : Int32))), (Value.int (own_exp v (4 : Int32) o f (5 : Int32))), (Value.int (own_exp v (4 : Int32) o f (6 : Int32))), (Value.int (own_exp v (4 : Int32) o f (7 : Int32))), (Value.int (own_exp v (4 : Int32) o f (8 : Int32))), (Value.int (own_exp v (4 : Int32) o f (9 : Int32))), (Value.int (own_exp v (4 : Int32) o f (10 : Int32))), (Value.int (own_exp v (4 : Int32) o f (11 : Int32))), (Value.int (own_exp v (4 : Int32) o f (12 : Int32)))] := by
  have e0 : nar .byte ((((v.toUInt32 >>> (((7 : Int32) * (0 : Int32)) &&& 31).toUInt32).toInt32) &&& (127 : Int32)) ||| (128 : Int32)).toInt8.toInt32 = (((v &&& (127 : Int32)) ||| (128 : Int32)).toInt8.toInt32).toInt8.toInt32 := by rw [own_0]; rfl
  have e1 : nar .byte ((((v.toUInt32 >>> (((7 : Int32) * (1 : Int32)) &&& 31).toUInt32).toInt32) &&& (127 : Int32)) ||| (128 : Int32)).toInt8.toInt32 = (((((v.toUInt32 >>> (((7 : Int32) * (1 : Int32)) &&& 31).toUInt32).toInt32) &&& (127 : Int32)) ||| (128 : Int32)).toInt8.toInt32).toInt8.toInt32 := rfl
  have e2 : nar .byte ((((v.toUInt32 >>> (((7 : Int32) * (2 : Int32)) &&& 31).toUInt32).toInt32) &&& (127 : Int32)) ||| (128 : Int32)).toInt8.toInt32 = (((((v.toUInt32 >>> (((7 : Int32) * (2 : Int32)) &&& 31).toUInt32).toInt32) &&& (127 : Int32)) ||| (128 : Int32)).toInt8.toInt32).toInt8.toInt32 := rfl
  have hl : ((v.toUInt32 >>> (((7 : Int32) * (3 : Int32)) &&& 31).toUInt32).toInt32) = (((v.toUInt32 >>> (((7 : Int32) * (3 : Int32)) &&& 31).toUInt32).toInt32) &&& (127 : Int32)) := own_and127 h
  have el : nar .byte (((v.toUInt32 >>> (((7 : Int32) * (3 : Int32)) &&& 31).toUInt32).toInt32) &&& (127 : Int32)).toInt8.toInt32 = (((v.toUInt32 >>> (((7 : Int32) * (3 : Int32)) &&& 31).toUInt32).toInt32).toInt8.toInt32).toInt8.toInt32 := by rw [← hl]; rfl
  rcases ho with rfl | rfl | rfl | rfl | rfl | rfl | rfl | rfl
  · exact own_l13 ((if_neg (by decide)).trans ((if_pos (by decide)).trans ((if_pos (by decide)).trans e0))) ((if_neg (by decide)).trans ((if_pos (by decide)).trans ((if_pos (by decide)).trans e1))) ((if_neg (by decide)).trans ((if_pos (by decide)).trans ((if_pos (by decide)).trans e2))) ((if_neg (by decide)).trans ((if_pos (by decide)).trans ((if_neg (by decide)).trans ((if_pos hl).trans el)))) ((if_neg (by decide)).trans (if_neg (by decide))) ((if_neg (by decide)).trans (if_neg (by decide))) ((if_neg (by decide)).trans (if_neg (by decide))) ((if_neg (by decide)).trans (if_neg (by decide))) ((if_neg (by decide)).trans (if_neg (by decide))) ((if_neg (by decide)).trans (if_neg (by decide))) ((if_neg (by decide)).trans (if_neg (by decide))) ((if_neg (by decide)).trans (if_neg (by decide))) ((if_neg (by decide)).trans (if_neg (by decide)))
  · exact own_l13 (if_pos (by decide)) ((if_neg (by decide)).trans ((if_pos (by decide)).trans ((if_pos (by decide)).trans e0))) ((if_neg (by decide)).trans ((if_pos (by decide)).trans ((if_pos (by decide)).trans e1))) ((if_neg (by decide)).trans ((if_pos (by decide)).trans ((if_pos (by decide)).trans e2))) ((if_neg (by decide)).trans ((if_pos (by decide)).trans ((if_neg (by decide)).trans ((if_pos hl).trans el)))) ((if_neg (by decide)).trans (if_neg (by decide))) ((if_neg (by decide)).trans (if_neg (by decide))) ((if_neg (by decide)).trans (if_neg (by decide))) ((if_neg (by decide)).trans (if_neg (by decide))) ((if_neg (by decide)).trans (if_neg (by decide))) ((if_neg (by decide)).trans (if_neg (by decide))) ((if_neg (by decide)).trans (if_neg (by decide))) ((if_neg (by decide)).trans (if_neg (by decide)))
  · exact own_l13 (if_pos (by decide)) (if_pos (by decide)) ((if_neg (by decide)).trans ((if_pos (by decide)).trans ((if_pos (by decide)).trans e0))) ((if_neg (by decide)).trans ((if_pos (by decide)).trans ((if_pos (by decide)).trans e1))) ((if_neg (by decide)).trans ((if_pos (by decide)).trans ((if_pos (by decide)).trans e2))) ((if_neg (by decide)).trans ((if_pos (by decide)).trans ((if_neg (by decide)).trans ((if_pos hl).trans el)))) ((if_neg (by decide)).trans (if_neg (by decide))) ((if_neg (by decide)).trans (if_neg (by decide))) ((if_neg (by decide)).trans (if_neg (by decide))) ((if_neg (by decide)).trans (if_neg (by decide))) ((if_neg (by decide)).trans (if_neg (by decide))) ((if_neg (by decide)).trans (if_neg (by decide))) ((if_neg (by decide)).trans (if_neg (by decide)))
  · exact own_l13 (if_pos (by decide)) (if_pos (by decide)) (if_pos (by decide)) ((if_neg (by decide)).trans ((if_pos (by decide)).trans ((if_pos (by decide)).trans e0))) ((if_neg (by decide)).trans ((if_pos (by decide)).trans ((if_pos (by decide)).trans e1))) ((if_neg (by decide)).trans ((if_pos (by decide)).trans ((if_pos (by decide)).trans e2))) ((if_neg (by decide)).trans ((if_pos (by decide)).trans ((if_neg (by decide)).trans ((if_pos hl).trans el)))) ((if_neg (by decide)).trans (if_neg (by decide))) ((if_neg (by decide)).trans (if_neg (by decide))) ((if_neg (by decide)).trans (if_neg (by decide))) ((if_neg (by decide)).trans (if_neg (by decide))) ((if_neg (by decide)).trans (if_neg (by decide))) ((if_neg (by decide)).trans (if_neg (by decide)))
  · exact own_l13 (if_pos (by decide)) (if_pos (by decide)) (if_pos (by decide)) (if_pos (by decide)) ((if_neg (by decide)).trans ((if_pos (by decide)).trans ((if_pos (by decide)).trans e0))) ((if_neg (by decide)).trans ((if_pos (by decide)).trans ((if_pos (by decide)).trans e1))) ((if_neg (by decide)).trans ((if_pos (by decide)).trans ((if_pos (by decide)).trans e2))) ((if_neg (by decide)).trans ((if_pos (by decide)).trans ((if_neg (by decide)).trans ((if_pos hl).trans el)))) ((if_neg (by decide)).trans (if_neg (by decide))) ((if_neg (by decide)).trans (if_neg (by decide))) ((if_neg (by decide)).trans (if_neg (by decide))) ((if_neg (by decide)).trans (if_neg (by decide))) ((if_neg (by decide)).trans (if_neg (by decide)))
  · exact own_l13 (if_pos (by decide)) (if_pos (by decide)) (if_pos (by decide)) (if_pos (by decide)) (if_pos (by decide)) ((if_neg (by decide)).trans ((if_pos (by decide)).trans ((if_pos (by decide)).trans e0))) ((if_neg (by decide)).trans ((if_pos (by decide)).trans ((if_pos (by decide)).trans e1))) ((if_neg (by decide)).trans ((if_pos (by decide)).trans ((if_pos (by decide)).trans e2))) ((if_neg (by decide)).trans ((if_pos (by decide)).trans ((if_neg (by decide)).trans ((if_pos hl).trans el)))) ((if_neg (by decide)).trans (if_neg (by decide))) ((if_neg (by decide)).trans (if_neg (by decide))) ((if_neg (by decide)).trans (if_neg (by decide))) ((if_neg (by decide)).trans (if_neg (by decide)))
  · exact own_l13 (if_pos (by decide)) (if_pos (by decide)) (if_pos (by decide)) (if_pos (by decide)) (if_pos (by decide)) (if_pos (by decide)) ((if_neg (by decide)).trans ((if_pos (by decide)).trans ((if_pos (by decide)).trans e0))) ((if_neg (by decide)).trans ((if_pos (by decide)).trans ((if_pos (by decide)).trans e1))) ((if_neg (by decide)).trans ((if_pos (by decide)).trans ((if_pos (by decide)).trans e2))) ((if_neg (by decide)).trans ((if_pos (by decide)).trans ((if_neg (by decide)).trans ((if_pos hl).trans el)))) ((if_neg (by decide)).trans (if_neg (by decide))) ((if_neg (by decide)).trans (if_neg (by decide))) ((if_neg (by decide)).trans (if_neg (by decide)))
  · exact own_l13 (if_pos (by decide)) (if_pos (by decide)) (if_pos (by decide)) (if_pos (by decide)) (if_pos (by decide)) (if_pos (by decide)) (if_pos (by decide)) ((if_neg (by decide)).trans ((if_pos (by decide)).trans ((if_pos (by decide)).trans e0))) ((if_neg (by decide)).trans ((if_pos (by decide)).trans ((if_pos (by decide)).trans e1))) ((if_neg (by decide)).trans ((if_pos (by decide)).trans ((if_pos (by decide)).trans e2))) ((if_neg (by decide)).trans ((if_pos (by decide)).trans ((if_neg (by decide)).trans ((if_pos hl).trans el)))) ((if_neg (by decide)).trans (if_neg (by decide))) ((if_neg (by decide)).trans (if_neg (by decide)))
set_option maxRecDepth 65536 in
set_option maxHeartbeats 40000000 in
theorem own_list5 (v f o : Int32) (ho : o = 0 ∨ o = 1 ∨ o = 2 ∨ o = 3 ∨ o = 4 ∨ o = 5 ∨ o = 6 ∨ o = 7) (h : (((v.toUInt32 >>> (((7 : Int32) * (4 : Int32)) &&& 31).toUInt32).toInt32) &&& (-128 : Int32)) = 0) : ((((((List.replicate 13 (Value.int f.toInt8.toInt32)).set o.toNatClampNeg (Value.int (((v &&& (127 : Int32)) ||| (128 : Int32)).toInt8.toInt32).toInt8.toInt32)).set (o + (1 : Int32)).toNatClampNeg (Value.int (((((v.toUInt32 >>> (((7 : Int32) * (1 : Int32)) &&& 31).toUInt32).toInt32) &&& (127 : Int32)) ||| (128 : Int32)).toInt8.toInt32).toInt8.toInt32)).set ((o + (1 : Int32)) + (1 : Int32)).toNatClampNeg (Value.int (((((v.toUInt32 >>> (((7 : Int32) * (2 : Int32)) &&& 31).toUInt32).toInt32) &&& (127 : Int32)) ||| (128 : Int32)).toInt8.toInt32).toInt8.toInt32)).set (((o + (1 : Int32)) + (1 : Int32)) + (1 : Int32)).toNatClampNeg (Value.int (((((v.toUInt32 >>> (((7 : Int32) * (3 : Int32)) &&& 31).toUInt32).toInt32) &&& (127 : Int32)) ||| (128 : Int32)).toInt8.toInt32).toInt8.toInt32)).set ((((o + (1 : Int32)) + (1 : Int32)) + (1 : Int32)) + (1 : Int32)).toNatClampNeg (Value.int (((v.toUInt32 >>> (((7 : Int32) * (4 : Int32)) &&& 31).toUInt32).toInt32).toInt8.toInt32).toInt8.toInt32)) = [(Value.int (own_exp v (5 : Int32) o f (0 : Int32))), (Value.int (own_exp v (5 : Int32) o f (1 : Int32))), (Value.int (own_exp v (5 : Int32) o f (2 : Int32))), (Value.int (own_exp v (5 : Int32) o f (3 : Int32))), (Value.int (own_exp v (5 : Int32) o f (4 : Int32))), (Value.int (own_exp v (5 : Int32) o f (5 : Int32))), (Value.int (own_exp v (5 : Int32) o f (6 : Int32))), (Value.int (own_exp v (5 : Int32) o f (7 : Int32))), (Value.int (own_exp v (5 : Int32) o f (8 : Int32))), (Value.int (own_exp v (5 : Int32) o f (9 : Int32))), (Value.int (own_exp v (5 : Int32) o f (10 : Int32))), (Value.int (own_exp v (5 : Int32) o f (11 : Int32))), (Value.int (own_exp v (5 : Int32) o f (12 : Int32)))] := by
  have e0 : nar .byte ((((v.toUInt32 >>> (((7 : Int32) * (0 : Int32)) &&& 31).toUInt32).toInt32) &&& (127 : Int32)) ||| (128 : Int32)).toInt8.toInt32 = (((v &&& (127 : Int32)) ||| (128 : Int32)).toInt8.toInt32).toInt8.toInt32 := by rw [own_0]; rfl
  have e1 : nar .byte ((((v.toUInt32 >>> (((7 : Int32) * (1 : Int32)) &&& 31).toUInt32).toInt32) &&& (127 : Int32)) ||| (128 : Int32)).toInt8.toInt32 = (((((v.toUInt32 >>> (((7 : Int32) * (1 : Int32)) &&& 31).toUInt32).toInt32) &&& (127 : Int32)) ||| (128 : Int32)).toInt8.toInt32).toInt8.toInt32 := rfl
  have e2 : nar .byte ((((v.toUInt32 >>> (((7 : Int32) * (2 : Int32)) &&& 31).toUInt32).toInt32) &&& (127 : Int32)) ||| (128 : Int32)).toInt8.toInt32 = (((((v.toUInt32 >>> (((7 : Int32) * (2 : Int32)) &&& 31).toUInt32).toInt32) &&& (127 : Int32)) ||| (128 : Int32)).toInt8.toInt32).toInt8.toInt32 := rfl
  have e3 : nar .byte ((((v.toUInt32 >>> (((7 : Int32) * (3 : Int32)) &&& 31).toUInt32).toInt32) &&& (127 : Int32)) ||| (128 : Int32)).toInt8.toInt32 = (((((v.toUInt32 >>> (((7 : Int32) * (3 : Int32)) &&& 31).toUInt32).toInt32) &&& (127 : Int32)) ||| (128 : Int32)).toInt8.toInt32).toInt8.toInt32 := rfl
  have hl : ((v.toUInt32 >>> (((7 : Int32) * (4 : Int32)) &&& 31).toUInt32).toInt32) = (((v.toUInt32 >>> (((7 : Int32) * (4 : Int32)) &&& 31).toUInt32).toInt32) &&& (127 : Int32)) := own_and127 h
  have el : nar .byte (((v.toUInt32 >>> (((7 : Int32) * (4 : Int32)) &&& 31).toUInt32).toInt32) &&& (127 : Int32)).toInt8.toInt32 = (((v.toUInt32 >>> (((7 : Int32) * (4 : Int32)) &&& 31).toUInt32).toInt32).toInt8.toInt32).toInt8.toInt32 := by rw [← hl]; rfl
  rcases ho with rfl | rfl | rfl | rfl | rfl | rfl | rfl | rfl
  · exact own_l13 ((if_neg (by decide)).trans ((if_pos (by decide)).trans ((if_pos (by decide)).trans e0))) ((if_neg (by decide)).trans ((if_pos (by decide)).trans ((if_pos (by decide)).trans e1))) ((if_neg (by decide)).trans ((if_pos (by decide)).trans ((if_pos (by decide)).trans e2))) ((if_neg (by decide)).trans ((if_pos (by decide)).trans ((if_pos (by decide)).trans e3))) ((if_neg (by decide)).trans ((if_pos (by decide)).trans ((if_neg (by decide)).trans ((if_pos hl).trans el)))) ((if_neg (by decide)).trans (if_neg (by decide))) ((if_neg (by decide)).trans (if_neg (by decide))) ((if_neg (by decide)).trans (if_neg (by decide))) ((if_neg (by decide)).trans (if_neg (by decide))) ((if_neg (by decide)).trans (if_neg (by decide))) ((if_neg (by decide)).trans (if_neg (by decide))) ((if_neg (by decide)).trans (if_neg (by decide))) ((if_neg (by decide)).trans (if_neg (by decide)))
  · exact own_l13 (if_pos (by decide)) ((if_neg (by decide)).trans ((if_pos (by decide)).trans ((if_pos (by decide)).trans e0))) ((if_neg (by decide)).trans ((if_pos (by decide)).trans ((if_pos (by decide)).trans e1))) ((if_neg (by decide)).trans ((if_pos (by decide)).trans ((if_pos (by decide)).trans e2))) ((if_neg (by decide)).trans ((if_pos (by decide)).trans ((if_pos (by decide)).trans e3))) ((if_neg (by decide)).trans ((if_pos (by decide)).trans ((if_neg (by decide)).trans ((if_pos hl).trans el)))) ((if_neg (by decide)).trans (if_neg (by decide))) ((if_neg (by decide)).trans (if_neg (by decide))) ((if_neg (by decide)).trans (if_neg (by decide))) ((if_neg (by decide)).trans (if_neg (by decide))) ((if_neg (by decide)).trans (if_neg (by decide))) ((if_neg (by decide)).trans (if_neg (by decide))) ((if_neg (by decide)).trans (if_neg (by decide)))
  · exact own_l13 (if_pos (by decide)) (if_pos (by decide)) ((if_neg (by decide)).trans ((if_pos (by decide)).trans ((if_pos (by decide)).trans e0))) ((if_neg (by decide)).trans ((if_pos (by decide)).trans ((if_pos (by decide)).trans e1))) ((if_neg (by decide)).trans ((if_pos (by decide)).trans ((if_pos (by decide)).trans e2))) ((if_neg (by decide)).trans ((if_pos (by decide)).trans ((if_pos (by decide)).trans e3))) ((if_neg (by decide)).trans ((if_pos (by decide)).trans ((if_neg (by decide)).trans ((if_pos hl).trans el)))) ((if_neg (by decide)).trans (if_neg (by decide))) ((if_neg (by decide)).trans (if_neg (by decide))) ((if_neg (by decide)).trans (if_neg (by decide))) ((if_neg (by decide)).trans (if_neg (by decide))) ((if_neg (by decide)).trans (if_neg (by decide))) ((if_neg (by decide)).trans (if_neg (by decide)))
  · exact own_l13 (if_pos (by decide)) (if_pos (by decide)) (if_pos (by decide)) ((if_neg (by decide)).trans ((if_pos (by decide)).trans ((if_pos (by decide)).trans e0))) ((if_neg (by decide)).trans ((if_pos (by decide)).trans ((if_pos (by decide)).trans e1))) ((if_neg (by decide)).trans ((if_pos (by decide)).trans ((if_pos (by decide)).trans e2))) ((if_neg (by decide)).trans ((if_pos (by decide)).trans ((if_pos (by decide)).trans e3))) ((if_neg (by decide)).trans ((if_pos (by decide)).trans ((if_neg (by decide)).trans ((if_pos hl).trans el)))) ((if_neg (by decide)).trans (if_neg (by decide))) ((if_neg (by decide)).trans (if_neg (by decide))) ((if_neg (by decide)).trans (if_neg (by decide))) ((if_neg (by decide)).trans (if_neg (by decide))) ((if_neg (by decide)).trans (if_neg (by decide)))
  · exact own_l13 (if_pos (by decide)) (if_pos (by decide)) (if_pos (by decide)) (if_pos (by decide)) ((if_neg (by decide)).trans ((if_pos (by decide)).trans ((if_pos (by decide)).trans e0))) ((if_neg (by decide)).trans ((if_pos (by decide)).trans ((if_pos (by decide)).trans e1))) ((if_neg (by decide)).trans ((if_pos (by decide)).trans ((if_pos (by decide)).trans e2))) ((if_neg (by decide)).trans ((if_pos (by decide)).trans ((if_pos (by decide)).trans e3))) ((if_neg (by decide)).trans ((if_pos (by decide)).trans ((if_neg (by decide)).trans ((if_pos hl).trans el)))) ((if_neg (by decide)).trans (if_neg (by decide))) ((if_neg (by decide)).trans (if_neg (by decide))) ((if_neg (by decide)).trans (if_neg (by decide))) ((if_neg (by decide)).trans (if_neg (by decide)))
  · exact own_l13 (if_pos (by decide)) (if_pos (by decide)) (if_pos (by decide)) (if_pos (by decide)) (if_pos (by decide)) ((if_neg (by decide)).trans ((if_pos (by decide)).trans ((if_pos (by decide)).trans e0))) ((if_neg (by decide)).trans ((if_pos (by decide)).trans ((if_pos (by decide)).trans e1))) ((if_neg (by decide)).trans ((if_pos (by decide)).trans ((if_pos (by decide)).trans e2))) ((if_neg (by decide)).trans ((if_pos (by decide)).trans ((if_pos (by decide)).trans e3))) ((if_neg (by decide)).trans ((if_pos (by decide)).trans ((if_neg (by decide)).trans ((if_pos hl).trans el)))) ((if_neg (by decide)).trans (if_neg (by decide))) ((if_neg (by decide)).trans (if_neg (by decide))) ((if_neg (by decide)).trans (if_neg (by decide)))
  · exact own_l13 (if_pos (by decide)) (if_pos (by decide)) (if_pos (by decide)) (if_pos (by decide)) (if_pos (by decide)) (if_pos (by decide)) ((if_neg (by decide)).trans ((if_pos (by decide)).trans ((if_pos (by decide)).trans e0))) ((if_neg (by decide)).trans ((if_pos (by decide)).trans ((if_pos (by decide)).trans e1))) ((if_neg (by decide)).trans ((if_pos (by decide)).trans ((if_pos (by decide)).trans e2))) ((if_neg (by decide)).trans ((if_pos (by decide)).trans ((if_pos (by decide)).trans e3))) ((if_neg (by decide)).trans ((if_pos (by decide)).trans ((if_neg (by decide)).trans ((if_pos hl).trans el)))) ((if_neg (by decide)).trans (if_neg (by decide))) ((if_neg (by decide)).trans (if_neg (by decide)))
  · exact own_l13 (if_pos (by decide)) (if_pos (by decide)) (if_pos (by decide)) (if_pos (by decide)) (if_pos (by decide)) (if_pos (by decide)) (if_pos (by decide)) ((if_neg (by decide)).trans ((if_pos (by decide)).trans ((if_pos (by decide)).trans e0))) ((if_neg (by decide)).trans ((if_pos (by decide)).trans ((if_pos (by decide)).trans e1))) ((if_neg (by decide)).trans ((if_pos (by decide)).trans ((if_pos (by decide)).trans e2))) ((if_neg (by decide)).trans ((if_pos (by decide)).trans ((if_pos (by decide)).trans e3))) ((if_neg (by decide)).trans ((if_pos (by decide)).trans ((if_neg (by decide)).trans ((if_pos hl).trans el)))) ((if_neg (by decide)).trans (if_neg (by decide)))
theorem own_off {o : Int32} (ho : o = 0 ∨ o = 1 ∨ o = 2 ∨ o = 3 ∨ o = 4 ∨ o = 5 ∨ o = 6 ∨ o = 7) : ((¬ o < 0 ∧ o < 13) ∧ o.toNatClampNeg < 13) ∧ ((¬ (o + (1 : Int32)) < 0 ∧ (o + (1 : Int32)) < 13) ∧ (o + (1 : Int32)).toNatClampNeg < 13) ∧ ((¬ ((o + (1 : Int32)) + (1 : Int32)) < 0 ∧ ((o + (1 : Int32)) + (1 : Int32)) < 13) ∧ ((o + (1 : Int32)) + (1 : Int32)).toNatClampNeg < 13) ∧ ((¬ (((o + (1 : Int32)) + (1 : Int32)) + (1 : Int32)) < 0 ∧ (((o + (1 : Int32)) + (1 : Int32)) + (1 : Int32)) < 13) ∧ (((o + (1 : Int32)) + (1 : Int32)) + (1 : Int32)).toNatClampNeg < 13) ∧ ((¬ ((((o + (1 : Int32)) + (1 : Int32)) + (1 : Int32)) + (1 : Int32)) < 0 ∧ ((((o + (1 : Int32)) + (1 : Int32)) + (1 : Int32)) + (1 : Int32)) < 13) ∧ ((((o + (1 : Int32)) + (1 : Int32)) + (1 : Int32)) + (1 : Int32)).toNatClampNeg < 13) := by
  rcases ho with rfl | rfl | rfl | rfl | rfl | rfl | rfl | rfl <;> decide
theorem own_end1 {o : Int32} (ho : o = 0 ∨ o = 1 ∨ o = 2 ∨ o = 3 ∨ o = 4 ∨ o = 5 ∨ o = 6 ∨ o = 7) : (o + (1 : Int32)) = o + (1 : Int32) := by rcases ho with rfl | rfl | rfl | rfl | rfl | rfl | rfl | rfl <;> decide
theorem own_end2 {o : Int32} (ho : o = 0 ∨ o = 1 ∨ o = 2 ∨ o = 3 ∨ o = 4 ∨ o = 5 ∨ o = 6 ∨ o = 7) : ((o + (1 : Int32)) + (1 : Int32)) = o + (2 : Int32) := by rcases ho with rfl | rfl | rfl | rfl | rfl | rfl | rfl | rfl <;> decide
theorem own_end3 {o : Int32} (ho : o = 0 ∨ o = 1 ∨ o = 2 ∨ o = 3 ∨ o = 4 ∨ o = 5 ∨ o = 6 ∨ o = 7) : (((o + (1 : Int32)) + (1 : Int32)) + (1 : Int32)) = o + (3 : Int32) := by rcases ho with rfl | rfl | rfl | rfl | rfl | rfl | rfl | rfl <;> decide
theorem own_end4 {o : Int32} (ho : o = 0 ∨ o = 1 ∨ o = 2 ∨ o = 3 ∨ o = 4 ∨ o = 5 ∨ o = 6 ∨ o = 7) : ((((o + (1 : Int32)) + (1 : Int32)) + (1 : Int32)) + (1 : Int32)) = o + (4 : Int32) := by rcases ho with rfl | rfl | rfl | rfl | rfl | rfl | rfl | rfl <;> decide
theorem own_end5 {o : Int32} (ho : o = 0 ∨ o = 1 ∨ o = 2 ∨ o = 3 ∨ o = 4 ∨ o = 5 ∨ o = 6 ∨ o = 7) : (((((o + (1 : Int32)) + (1 : Int32)) + (1 : Int32)) + (1 : Int32)) + (1 : Int32)) = o + (5 : Int32) := by rcases ho with rfl | rfl | rfl | rfl | rfl | rfl | rfl | rfl <;> decide
theorem own_cast {Z : State} {h : Heap} {a : Addr} {k : ClassId} {vs : List Value} {d : Value} {v f o L n : Int32} (hL : L = n) (hv : vs = [(Value.int (own_exp v n o f (0 : Int32))), (Value.int (own_exp v n o f (1 : Int32))), (Value.int (own_exp v n o f (2 : Int32))), (Value.int (own_exp v n o f (3 : Int32))), (Value.int (own_exp v n o f (4 : Int32))), (Value.int (own_exp v n o f (5 : Int32))), (Value.int (own_exp v n o f (6 : Int32))), (Value.int (own_exp v n o f (7 : Int32))), (Value.int (own_exp v n o f (8 : Int32))), (Value.int (own_exp v n o f (9 : Int32))), (Value.int (own_exp v n o f (10 : Int32))), (Value.int (own_exp v n o f (11 : Int32))), (Value.int (own_exp v n o f (12 : Int32)))]) (V : Arv Z h a k .byte (13 : Int32) vs d) : Arv Z h a k .byte (13 : Int32) [(Value.int (own_exp v L o f (0 : Int32))), (Value.int (own_exp v L o f (1 : Int32))), (Value.int (own_exp v L o f (2 : Int32))), (Value.int (own_exp v L o f (3 : Int32))), (Value.int (own_exp v L o f (4 : Int32))), (Value.int (own_exp v L o f (5 : Int32))), (Value.int (own_exp v L o f (6 : Int32))), (Value.int (own_exp v L o f (7 : Int32))), (Value.int (own_exp v L o f (8 : Int32))), (Value.int (own_exp v L o f (9 : Int32))), (Value.int (own_exp v L o f (10 : Int32))), (Value.int (own_exp v L o f (11 : Int32))), (Value.int (own_exp v L o f (12 : Int32)))] d := by
  subst hL
  rw [← hv]; exact V
theorem own_d1_0 : decode prog_111_method_16_code 0 = .ok (.iload_n 1, 1) := by decide +kernel
theorem own_d1_1 : decode prog_111_method_16_code 1 = .ok (.istore_n 3, 1) := by decide +kernel
theorem own_d1_2 : decode prog_111_method_16_code 2 = .ok (.iload_n 2, 1) := by decide +kernel
theorem own_d1_3 : decode prog_111_method_16_code 3 = .ok (.istore 4, 2) := by decide +kernel
theorem own_d1_5 : decode prog_111_method_16_code 5 = .ok (.iload 4, 2) := by decide +kernel
theorem own_d1_7 : decode prog_111_method_16_code 7 = .ok (.bipush (-128), 2) := by decide +kernel
theorem own_d1_9 : decode prog_111_method_16_code 9 = .ok (.iand, 1) := by decide +kernel
theorem own_d1_10 : decode prog_111_method_16_code 10 = .ok (.ifCond .eq 29, 3) := by decide +kernel
theorem own_d1_39 : decode prog_111_method_16_code 39 = .ok (.aload_n 0, 1) := by decide +kernel
theorem own_d1_40 : decode prog_111_method_16_code 40 = .ok (.iload_n 3, 1) := by decide +kernel
theorem own_d1_41 : decode prog_111_method_16_code 41 = .ok (.iinc 3 1, 3) := by decide +kernel
theorem own_d1_44 : decode prog_111_method_16_code 44 = .ok (.iload 4, 2) := by decide +kernel
theorem own_d1_46 : decode prog_111_method_16_code 46 = .ok (.i2b, 1) := by decide +kernel
theorem own_d1_47 : decode prog_111_method_16_code 47 = .ok (.bastore, 1) := by decide +kernel
theorem own_d1_48 : decode prog_111_method_16_code 48 = .ok (.iload_n 3, 1) := by decide +kernel
theorem own_d1_49 : decode prog_111_method_16_code 49 = .ok (.ireturn, 1) := by decide +kernel
theorem own_d1_13 : decode prog_111_method_16_code 13 = .ok (.aload_n 0, 1) := by decide +kernel
theorem own_d1_14 : decode prog_111_method_16_code 14 = .ok (.iload_n 3, 1) := by decide +kernel
theorem own_d1_15 : decode prog_111_method_16_code 15 = .ok (.iinc 3 1, 3) := by decide +kernel
theorem own_d1_18 : decode prog_111_method_16_code 18 = .ok (.iload 4, 2) := by decide +kernel
theorem own_d1_20 : decode prog_111_method_16_code 20 = .ok (.bipush 127, 2) := by decide +kernel
theorem own_d1_22 : decode prog_111_method_16_code 22 = .ok (.iand, 1) := by decide +kernel
theorem own_d1_23 : decode prog_111_method_16_code 23 = .ok (.sipush 128, 3) := by decide +kernel
theorem own_d1_26 : decode prog_111_method_16_code 26 = .ok (.ior, 1) := by decide +kernel
theorem own_d1_27 : decode prog_111_method_16_code 27 = .ok (.i2b, 1) := by decide +kernel
theorem own_d1_28 : decode prog_111_method_16_code 28 = .ok (.bastore, 1) := by decide +kernel
theorem own_d1_29 : decode prog_111_method_16_code 29 = .ok (.iload 4, 2) := by decide +kernel
theorem own_d1_31 : decode prog_111_method_16_code 31 = .ok (.bipush 7, 2) := by decide +kernel
theorem own_d1_33 : decode prog_111_method_16_code 33 = .ok (.iushr, 1) := by decide +kernel
theorem own_d1_34 : decode prog_111_method_16_code 34 = .ok (.istore 4, 2) := by decide +kernel
theorem own_d1_36 : decode prog_111_method_16_code 36 = .ok (.goto (-31), 3) := by decide +kernel
def own_Q1 (Z : State) (a1 : Addr) (p2 : Int32) (p3 : Int32) (f : Int32) (k_a1 : ClassId) (h0 : Heap) (n0 : Nat) (v : Option Value) (h : Heap) (L : List Loc) : Prop := v = some (.int (p2 + own_len p3)) ∧ Fr n0 L ∧ Keep h0 h [a1] ∧ Arv Z h a1 k_a1 .byte (13 : Int32) [(.int (own_exp p3 (own_len p3) p2 f (0 : Int32))), (.int (own_exp p3 (own_len p3) p2 f (1 : Int32))), (.int (own_exp p3 (own_len p3) p2 f (2 : Int32))), (.int (own_exp p3 (own_len p3) p2 f (3 : Int32))), (.int (own_exp p3 (own_len p3) p2 f (4 : Int32))), (.int (own_exp p3 (own_len p3) p2 f (5 : Int32))), (.int (own_exp p3 (own_len p3) p2 f (6 : Int32))), (.int (own_exp p3 (own_len p3) p2 f (7 : Int32))), (.int (own_exp p3 (own_len p3) p2 f (8 : Int32))), (.int (own_exp p3 (own_len p3) p2 f (9 : Int32))), (.int (own_exp p3 (own_len p3) p2 f (10 : Int32))), (.int (own_exp p3 (own_len p3) p2 f (11 : Int32))), (.int (own_exp p3 (own_len p3) p2 f (12 : Int32)))] (.int (0 : Int32))
theorem own_pn1 : plainName "com/example/corbel/corbel/IndexOutput" = true := by first | (simp [plainName, overriddenIn]; done) | decide +kernel
theorem own_ef_own_rm1 (m : MethodId) (a1 : Addr) (p2 : Int32) (p3 : Int32) : entryFrame m #[(.ref a1), (.int p2), (.int p3)] 5 = mkF m 0 #[.val (.ref a1), .val (.int p2), .val (.int p3), .unset, .unset] [] := by first | (simp [entryFrame, mkF, argsToLocals, Value.category]; done) | rfl
set_option maxRecDepth 65536 in
set_option maxHeartbeats 40000000 in
theorem own_rm1 (l : Launch) (Z : State) (a0 : Array Value) (hw : ∀ d ∈ tables_1, d.before a0 Z = true) (ws : List Jvm.Cond) (a1 : Addr) (p2 : Int32) (p3 : Int32) (f : Int32) (k_a1 : ClassId) (h0 : Heap) (n0 : Nat) (Z0 : n0 ≤ h0.size) (V_a1 : Arv Z h0 a1 k_a1 .byte (13 : Int32) (List.replicate 13 (.int f.toInt8.toInt32)) (.int (0 : Int32))) (g_a1 : n0 ≤ a1) (ho : p2 = 0 ∨ p2 = 1 ∨ p2 = 2 ∨ p2 = 3 ∨ p2 = 4 ∨ p2 = 5 ∨ p2 = 6 ∨ p2 = 7) :
    MetFree l (⟨"com/example/corbel/corbel/IndexOutput", "writeVInt", "([BII)I"⟩ : MethodName) (head1 (Jvm.Cond.code (⟨"com/example/corbel/corbel/IndexOutput", "writeVInt", "([BII)I"⟩ : MethodName) prog_111_method_16_code 5 (some .int) :: ws) ({ frames := 0, cells := 0, slots := 0, locals := 0 } : Room)) (fun a U => a = #[(.ref a1), (.int p2), (.int p3)] ∧ Z.Warmed39 U.vm ∧ U.heap = h0) (fun _ _ _ _ _ => True) (fun _ U o U' => ∃ v L, o = .returned v ∧ own_Q1 Z a1 p2 p3 f k_a1 h0 n0 v U'.heap L ∧ FrameEnd U o U' L ({ frames := 0, cells := 0, slots := 0, locals := 0 } : Room).cells ({ frames := 0, cells := 0, slots := 0, locals := 0 } : Room).slots) := by
  refine MetFree.of_bodySF (plainFor_of_name own_pn1) hisR ?_
  intro p e s m args below meth c s₁ Bd hml0 hP hK
  obtain ⟨rfl, hZ, hh⟩ := hP
  have hx := Bd.exec
  have hby := Bd.bytes
  have hml : c.maxLocals = 5 := hml0
  have hown : s.vm.findClass "com/example/corbel/corbel/IndexOutput" = some m.cls := findClass_of_methodNamed Bd.named
  have hnm := (name_of_methodNamed Bd.named Bd.method).1
  have X0 : Stand p l e ({ frames := 0, cells := 0, slots := 0, locals := 0 } : Room) s m #[(.ref a1), (.int p2), (.int p3)] below meth c s₁ [] 0 0 := Stand.of_body Bd
  have e0 : s₁.heap = h0 := by rw [← hh, Bd.state]; rfl
  have N0 := Fr.nil n0
  show OE FrameEnd p e below s (own_Q1 Z a1 p2 p3 f k_a1 h0 n0) ({ frames := 0, cells := 0, slots := 0, locals := 0 } : Room).cells ({ frames := 0, cells := 0, slots := 0, locals := 0 } : Room).slots s₁ (entryFrame m #[(.ref a1), (.int p2), (.int p3)] 5)
  rw [own_ef_own_rm1]
  have hoff := own_off ho
  show OE _ p e below s _ _ _ s₁ (mkF m 0 #[.val (.ref a1), .val (.int p2), .val (.int p3), .unset, .unset] [])
  refine OE.iloadN X0 hx hby own_d1_0 rfl ?_
  refine OE.istoreN X0 hx hby own_d1_1 (l' := #[.val (.ref a1), .val (.int p2), .val (.int p3), .val (.int p2), .unset]) rfl ?_
  refine OE.iloadN X0 hx hby own_d1_2 rfl ?_
  refine OE.istore X0 hx hby own_d1_3 (l' := #[.val (.ref a1), .val (.int p2), .val (.int p3), .val (.int p2), .val (.int p3)]) rfl ?_
  refine OE.iload X0 hx hby own_d1_5 rfl ?_
  refine OE.bipush X0 hx hby own_d1_7 (-128 : Int32) rfl ?_
  refine OE.iand X0 hx hby own_d1_9 ?_
  by_cases hc10 : (p3 &&& (-128 : Int32)) = (0 : Int32)
  · skip
    refine OE.ifYes X0 hx hby (pc' := 39) own_d1_10 (teq hc10).1 (h := ?_)
    refine OE.aloadN X0 hx hby own_d1_39 rfl rfl ?_
    refine OE.iloadN X0 hx hby own_d1_40 rfl ?_
    refine OE.iinc X0 hx hby own_d1_41 rfl (l' := #[.val (.ref a1), .val (.int p2), .val (.int p3), .val (.int (p2 + (1 : Int32))), .val (.int p3)]) rfl ?_
    refine OE.iload X0 hx hby own_d1_44 rfl ?_
    refine OE.i2b X0 hx hby own_d1_46 ?_
    have Vo1 := V_a1
    obtain ⟨cl1, Ar1, qz1, Sz1, Nz1, Hz1, Gz1⟩ := Vo1
    have hin1 : ¬ (p2 < 0 ∨ cl1.slots.size ≤ (p2).toNatClampNeg) := inb_of Sz1 hoff.1.1
    obtain ⟨T1, h1, X1, e1, W1, st1⟩ := stB X0 hx hZ e0 Ar1 (j := p2) hin1 (g := (mkF m 47 #[.val (.ref a1), .val (.int p2), .val (.int p3), .val (.int (p2 + (1 : Int32))), .val (.int p3)] [(.int (p3.toInt8.toInt32)), (.int p2), (.ref a1)])) rfl rfl (hb hby own_d1_47)
    refine OE.of st1 ?_
    have V1 : Arv Z h1 a1 k_a1 .byte (13 : Int32) ((List.replicate 13 (.int f.toInt8.toInt32)).set p2.toNatClampNeg (.int (p3.toInt8.toInt32).toInt8.toInt32)) (.int (0 : Int32)) := Arv.set Ar1 qz1 Sz1 Nz1 Hz1 Gz1 (fits_nar_byte _) W1 p2.toNatClampNeg rfl (by simpa using hoff.1.2)
    have N1 := Fr.snoc X1 N0 g_a1
    show OE _ p e below s _ _ _ T1 (mkF m 48 #[.val (.ref a1), .val (.int p2), .val (.int p3), .val (.int (p2 + (1 : Int32))), .val (.int p3)] [])
    refine OE.iloadN X1 hx hby own_d1_48 rfl ?_
    refine OE.retI X1 hx Bd.returns Bd.notSynchronized (hb hby own_d1_49) (by decide) (by decide) ?_
    rw [e1]
    have hlen : own_len p3 = (1 : Int32) := by
      show (if ((p3.toUInt32 >>> ((7 : Int32) &&& 31).toUInt32).toInt32) = (0 : Int32) then (1 : Int32) else (if ((p3.toUInt32 >>> ((14 : Int32) &&& 31).toUInt32).toInt32) = (0 : Int32) then (2 : Int32) else (if ((p3.toUInt32 >>> ((21 : Int32) &&& 31).toUInt32).toInt32) = (0 : Int32) then (3 : Int32) else (if ((p3.toUInt32 >>> ((28 : Int32) &&& 31).toUInt32).toInt32) = (0 : Int32) then (4 : Int32) else (5 : Int32))))) = _
      rw [if_pos ((own_c0 p3).mp hc10)]
    have hend : (p2 + (1 : Int32)) = p2 + own_len p3 := (own_end1 ho).trans (congrArg (fun z => p2 + z) hlen.symm)
    have K2 : Keep h0 h1 [a1] := (Keep.wr (Keep.refl h0 [a1]) W1 (Or.inl (List.mem_of_getElem? (i := 0) rfl)))
    exact ⟨congrArg (fun z => some (Value.int z)) hend, N1, K2, own_cast hlen (own_list1 p3 f p2 ho hc10) V1⟩
  · skip
    refine OE.ifNo X0 hx hby own_d1_10 (feq hc10).1 ?_
    refine OE.aloadN X0 hx hby own_d1_13 rfl rfl ?_
    refine OE.iloadN X0 hx hby own_d1_14 rfl ?_
    refine OE.iinc X0 hx hby own_d1_15 rfl (l' := #[.val (.ref a1), .val (.int p2), .val (.int p3), .val (.int (p2 + (1 : Int32))), .val (.int p3)]) rfl ?_
    refine OE.iload X0 hx hby own_d1_18 rfl ?_
    refine OE.bipush X0 hx hby own_d1_20 (127 : Int32) rfl ?_
    refine OE.iand X0 hx hby own_d1_22 ?_
    refine OE.sipush X0 hx hby own_d1_23 (128 : Int32) rfl ?_
    refine OE.ior X0 hx hby own_d1_26 ?_
    refine OE.i2b X0 hx hby own_d1_27 ?_
    have Vo3 := V_a1
    obtain ⟨cl3, Ar3, qz3, Sz3, Nz3, Hz3, Gz3⟩ := Vo3
    have hin3 : ¬ (p2 < 0 ∨ cl3.slots.size ≤ (p2).toNatClampNeg) := inb_of Sz3 hoff.1.1
    obtain ⟨T3, h3, X3, e3, W3, st3⟩ := stB X0 hx hZ e0 Ar3 (j := p2) hin3 (g := (mkF m 28 #[.val (.ref a1), .val (.int p2), .val (.int p3), .val (.int (p2 + (1 : Int32))), .val (.int p3)] [(.int (((p3 &&& (127 : Int32)) ||| (128 : Int32)).toInt8.toInt32)), (.int p2), (.ref a1)])) rfl rfl (hb hby own_d1_28)
    refine OE.of st3 ?_
    have V3 : Arv Z h3 a1 k_a1 .byte (13 : Int32) ((List.replicate 13 (.int f.toInt8.toInt32)).set p2.toNatClampNeg (.int (((p3 &&& (127 : Int32)) ||| (128 : Int32)).toInt8.toInt32).toInt8.toInt32)) (.int (0 : Int32)) := Arv.set Ar3 qz3 Sz3 Nz3 Hz3 Gz3 (fits_nar_byte _) W3 p2.toNatClampNeg rfl (by simpa using hoff.1.2)
    have N3 := Fr.snoc X3 N0 g_a1
    show OE _ p e below s _ _ _ T3 (mkF m 29 #[.val (.ref a1), .val (.int p2), .val (.int p3), .val (.int (p2 + (1 : Int32))), .val (.int p3)] [])
    refine OE.iload X3 hx hby own_d1_29 rfl ?_
    refine OE.bipush X3 hx hby own_d1_31 (7 : Int32) rfl ?_
    refine OE.iushr X3 hx hby own_d1_33 ?_
    rw [(own_s0 p3 : ((p3.toUInt32 >>> ((7 : Int32) &&& 31).toUInt32).toInt32) = ((p3.toUInt32 >>> (((7 : Int32) * (1 : Int32)) &&& 31).toUInt32).toInt32))]
    show OE _ p e below s _ _ _ T3 (mkF m 34 #[.val (.ref a1), .val (.int p2), .val (.int p3), .val (.int (p2 + (1 : Int32))), .val (.int p3)] [(.int ((p3.toUInt32 >>> (((7 : Int32) * (1 : Int32)) &&& 31).toUInt32).toInt32))])
    refine OE.istore X3 hx hby own_d1_34 (l' := #[.val (.ref a1), .val (.int p2), .val (.int p3), .val (.int (p2 + (1 : Int32))), .val (.int ((p3.toUInt32 >>> (((7 : Int32) * (1 : Int32)) &&& 31).toUInt32).toInt32))]) rfl ?_
    refine OE.goto X3 hx hby (pc' := 5) own_d1_36 (h := ?_)
    refine OE.iload X3 hx hby own_d1_5 rfl ?_
    refine OE.bipush X3 hx hby own_d1_7 (-128 : Int32) rfl ?_
    refine OE.iand X3 hx hby own_d1_9 ?_
    by_cases hc10_2 : (((p3.toUInt32 >>> (((7 : Int32) * (1 : Int32)) &&& 31).toUInt32).toInt32) &&& (-128 : Int32)) = (0 : Int32)
    · skip
      refine OE.ifYes X3 hx hby (pc' := 39) own_d1_10 (teq hc10_2).1 (h := ?_)
      refine OE.aloadN X3 hx hby own_d1_39 rfl rfl ?_
      refine OE.iloadN X3 hx hby own_d1_40 rfl ?_
      refine OE.iinc X3 hx hby own_d1_41 rfl (l' := #[.val (.ref a1), .val (.int p2), .val (.int p3), .val (.int ((p2 + (1 : Int32)) + (1 : Int32))), .val (.int ((p3.toUInt32 >>> (((7 : Int32) * (1 : Int32)) &&& 31).toUInt32).toInt32))]) rfl ?_
      refine OE.iload X3 hx hby own_d1_44 rfl ?_
      refine OE.i2b X3 hx hby own_d1_46 ?_
      have Vo4 := V3
      obtain ⟨cl4, Ar4, qz4, Sz4, Nz4, Hz4, Gz4⟩ := Vo4
      have hin4 : ¬ ((p2 + (1 : Int32)) < 0 ∨ cl4.slots.size ≤ ((p2 + (1 : Int32))).toNatClampNeg) := inb_of Sz4 hoff.2.1.1
      obtain ⟨T4, h4, X4, e4, W4, st4⟩ := stB X3 hx hZ e3 Ar4 (j := (p2 + (1 : Int32))) hin4 (g := (mkF m 47 #[.val (.ref a1), .val (.int p2), .val (.int p3), .val (.int ((p2 + (1 : Int32)) + (1 : Int32))), .val (.int ((p3.toUInt32 >>> (((7 : Int32) * (1 : Int32)) &&& 31).toUInt32).toInt32))] [(.int (((p3.toUInt32 >>> (((7 : Int32) * (1 : Int32)) &&& 31).toUInt32).toInt32).toInt8.toInt32)), (.int (p2 + (1 : Int32))), (.ref a1)])) rfl rfl (hb hby own_d1_47)
      refine OE.of st4 ?_
      have V4 : Arv Z h4 a1 k_a1 .byte (13 : Int32) (((List.replicate 13 (.int f.toInt8.toInt32)).set p2.toNatClampNeg (.int (((p3 &&& (127 : Int32)) ||| (128 : Int32)).toInt8.toInt32).toInt8.toInt32)).set (p2 + (1 : Int32)).toNatClampNeg (.int (((p3.toUInt32 >>> (((7 : Int32) * (1 : Int32)) &&& 31).toUInt32).toInt32).toInt8.toInt32).toInt8.toInt32)) (.int (0 : Int32)) := Arv.set Ar4 qz4 Sz4 Nz4 Hz4 Gz4 (fits_nar_byte _) W4 (p2 + (1 : Int32)).toNatClampNeg rfl (by simpa using hoff.2.1.2)
      have N4 := Fr.snoc X4 N3 g_a1
      show OE _ p e below s _ _ _ T4 (mkF m 48 #[.val (.ref a1), .val (.int p2), .val (.int p3), .val (.int ((p2 + (1 : Int32)) + (1 : Int32))), .val (.int ((p3.toUInt32 >>> (((7 : Int32) * (1 : Int32)) &&& 31).toUInt32).toInt32))] [])
      refine OE.iloadN X4 hx hby own_d1_48 rfl ?_
      refine OE.retI X4 hx Bd.returns Bd.notSynchronized (hb hby own_d1_49) (by decide) (by decide) ?_
      rw [e4]
      have hlen : own_len p3 = (2 : Int32) := by
        show (if ((p3.toUInt32 >>> ((7 : Int32) &&& 31).toUInt32).toInt32) = (0 : Int32) then (1 : Int32) else (if ((p3.toUInt32 >>> ((14 : Int32) &&& 31).toUInt32).toInt32) = (0 : Int32) then (2 : Int32) else (if ((p3.toUInt32 >>> ((21 : Int32) &&& 31).toUInt32).toInt32) = (0 : Int32) then (3 : Int32) else (if ((p3.toUInt32 >>> ((28 : Int32) &&& 31).toUInt32).toInt32) = (0 : Int32) then (4 : Int32) else (5 : Int32))))) = _
        rw [if_neg (fun q => hc10 ((own_c0 p3).mpr q)), if_pos ((own_c1 p3).mp hc10_2)]
      have hend : ((p2 + (1 : Int32)) + (1 : Int32)) = p2 + own_len p3 := (own_end2 ho).trans (congrArg (fun z => p2 + z) hlen.symm)
      have K5 : Keep h0 h4 [a1] := (Keep.wr (Keep.wr (Keep.refl h0 [a1]) W3 (Or.inl (List.mem_of_getElem? (i := 0) rfl))) W4 (Or.inl (List.mem_of_getElem? (i := 0) rfl)))
      exact ⟨congrArg (fun z => some (Value.int z)) hend, N4, K5, own_cast hlen (own_list2 p3 f p2 ho hc10_2) V4⟩
    · skip
      refine OE.ifNo X3 hx hby own_d1_10 (feq hc10_2).1 ?_
      refine OE.aloadN X3 hx hby own_d1_13 rfl rfl ?_
      refine OE.iloadN X3 hx hby own_d1_14 rfl ?_
      refine OE.iinc X3 hx hby own_d1_15 rfl (l' := #[.val (.ref a1), .val (.int p2), .val (.int p3), .val (.int ((p2 + (1 : Int32)) + (1 : Int32))), .val (.int ((p3.toUInt32 >>> (((7 : Int32) * (1 : Int32)) &&& 31).toUInt32).toInt32))]) rfl ?_
      refine OE.iload X3 hx hby own_d1_18 rfl ?_
      refine OE.bipush X3 hx hby own_d1_20 (127 : Int32) rfl ?_
      refine OE.iand X3 hx hby own_d1_22 ?_
      refine OE.sipush X3 hx hby own_d1_23 (128 : Int32) rfl ?_
      refine OE.ior X3 hx hby own_d1_26 ?_
      refine OE.i2b X3 hx hby own_d1_27 ?_
      have Vo6 := V3
      obtain ⟨cl6, Ar6, qz6, Sz6, Nz6, Hz6, Gz6⟩ := Vo6
      have hin6 : ¬ ((p2 + (1 : Int32)) < 0 ∨ cl6.slots.size ≤ ((p2 + (1 : Int32))).toNatClampNeg) := inb_of Sz6 hoff.2.1.1
      obtain ⟨T6, h6, X6, e6, W6, st6⟩ := stB X3 hx hZ e3 Ar6 (j := (p2 + (1 : Int32))) hin6 (g := (mkF m 28 #[.val (.ref a1), .val (.int p2), .val (.int p3), .val (.int ((p2 + (1 : Int32)) + (1 : Int32))), .val (.int ((p3.toUInt32 >>> (((7 : Int32) * (1 : Int32)) &&& 31).toUInt32).toInt32))] [(.int (((((p3.toUInt32 >>> (((7 : Int32) * (1 : Int32)) &&& 31).toUInt32).toInt32) &&& (127 : Int32)) ||| (128 : Int32)).toInt8.toInt32)), (.int (p2 + (1 : Int32))), (.ref a1)])) rfl rfl (hb hby own_d1_28)
      refine OE.of st6 ?_
      have V6 : Arv Z h6 a1 k_a1 .byte (13 : Int32) (((List.replicate 13 (.int f.toInt8.toInt32)).set p2.toNatClampNeg (.int (((p3 &&& (127 : Int32)) ||| (128 : Int32)).toInt8.toInt32).toInt8.toInt32)).set (p2 + (1 : Int32)).toNatClampNeg (.int (((((p3.toUInt32 >>> (((7 : Int32) * (1 : Int32)) &&& 31).toUInt32).toInt32) &&& (127 : Int32)) ||| (128 : Int32)).toInt8.toInt32).toInt8.toInt32)) (.int (0 : Int32)) := Arv.set Ar6 qz6 Sz6 Nz6 Hz6 Gz6 (fits_nar_byte _) W6 (p2 + (1 : Int32)).toNatClampNeg rfl (by simpa using hoff.2.1.2)
      have N6 := Fr.snoc X6 N3 g_a1
      show OE _ p e below s _ _ _ T6 (mkF m 29 #[.val (.ref a1), .val (.int p2), .val (.int p3), .val (.int ((p2 + (1 : Int32)) + (1 : Int32))), .val (.int ((p3.toUInt32 >>> (((7 : Int32) * (1 : Int32)) &&& 31).toUInt32).toInt32))] [])
      refine OE.iload X6 hx hby own_d1_29 rfl ?_
      refine OE.bipush X6 hx hby own_d1_31 (7 : Int32) rfl ?_
      refine OE.iushr X6 hx hby own_d1_33 ?_
      rw [(own_s1 p3 : ((((p3.toUInt32 >>> (((7 : Int32) * (1 : Int32)) &&& 31).toUInt32).toInt32).toUInt32 >>> ((7 : Int32) &&& 31).toUInt32).toInt32) = ((p3.toUInt32 >>> (((7 : Int32) * (2 : Int32)) &&& 31).toUInt32).toInt32))]
      show OE _ p e below s _ _ _ T6 (mkF m 34 #[.val (.ref a1), .val (.int p2), .val (.int p3), .val (.int ((p2 + (1 : Int32)) + (1 : Int32))), .val (.int ((p3.toUInt32 >>> (((7 : Int32) * (1 : Int32)) &&& 31).toUInt32).toInt32))] [(.int ((p3.toUInt32 >>> (((7 : Int32) * (2 : Int32)) &&& 31).toUInt32).toInt32))])
      refine OE.istore X6 hx hby own_d1_34 (l' := #[.val (.ref a1), .val (.int p2), .val (.int p3), .val (.int ((p2 + (1 : Int32)) + (1 : Int32))), .val (.int ((p3.toUInt32 >>> (((7 : Int32) * (2 : Int32)) &&& 31).toUInt32).toInt32))]) rfl ?_
      refine OE.goto X6 hx hby (pc' := 5) own_d1_36 (h := ?_)
      refine OE.iload X6 hx hby own_d1_5 rfl ?_
      refine OE.bipush X6 hx hby own_d1_7 (-128 : Int32) rfl ?_
      refine OE.iand X6 hx hby own_d1_9 ?_
      by_cases hc10_3 : (((p3.toUInt32 >>> (((7 : Int32) * (2 : Int32)) &&& 31).toUInt32).toInt32) &&& (-128 : Int32)) = (0 : Int32)
      · skip
        refine OE.ifYes X6 hx hby (pc' := 39) own_d1_10 (teq hc10_3).1 (h := ?_)
        refine OE.aloadN X6 hx hby own_d1_39 rfl rfl ?_
        refine OE.iloadN X6 hx hby own_d1_40 rfl ?_
        refine OE.iinc X6 hx hby own_d1_41 rfl (l' := #[.val (.ref a1), .val (.int p2), .val (.int p3), .val (.int (((p2 + (1 : Int32)) + (1 : Int32)) + (1 : Int32))), .val (.int ((p3.toUInt32 >>> (((7 : Int32) * (2 : Int32)) &&& 31).toUInt32).toInt32))]) rfl ?_
        refine OE.iload X6 hx hby own_d1_44 rfl ?_
        refine OE.i2b X6 hx hby own_d1_46 ?_
        have Vo7 := V6
        obtain ⟨cl7, Ar7, qz7, Sz7, Nz7, Hz7, Gz7⟩ := Vo7
        have hin7 : ¬ (((p2 + (1 : Int32)) + (1 : Int32)) < 0 ∨ cl7.slots.size ≤ (((p2 + (1 : Int32)) + (1 : Int32))).toNatClampNeg) := inb_of Sz7 hoff.2.2.1.1
        obtain ⟨T7, h7, X7, e7, W7, st7⟩ := stB X6 hx hZ e6 Ar7 (j := ((p2 + (1 : Int32)) + (1 : Int32))) hin7 (g := (mkF m 47 #[.val (.ref a1), .val (.int p2), .val (.int p3), .val (.int (((p2 + (1 : Int32)) + (1 : Int32)) + (1 : Int32))), .val (.int ((p3.toUInt32 >>> (((7 : Int32) * (2 : Int32)) &&& 31).toUInt32).toInt32))] [(.int (((p3.toUInt32 >>> (((7 : Int32) * (2 : Int32)) &&& 31).toUInt32).toInt32).toInt8.toInt32)), (.int ((p2 + (1 : Int32)) + (1 : Int32))), (.ref a1)])) rfl rfl (hb hby own_d1_47)
        refine OE.of st7 ?_
        have V7 : Arv Z h7 a1 k_a1 .byte (13 : Int32) ((((List.replicate 13 (.int f.toInt8.toInt32)).set p2.toNatClampNeg (.int (((p3 &&& (127 : Int32)) ||| (128 : Int32)).toInt8.toInt32).toInt8.toInt32)).set (p2 + (1 : Int32)).toNatClampNeg (.int (((((p3.toUInt32 >>> (((7 : Int32) * (1 : Int32)) &&& 31).toUInt32).toInt32) &&& (127 : Int32)) ||| (128 : Int32)).toInt8.toInt32).toInt8.toInt32)).set ((p2 + (1 : Int32)) + (1 : Int32)).toNatClampNeg (.int (((p3.toUInt32 >>> (((7 : Int32) * (2 : Int32)) &&& 31).toUInt32).toInt32).toInt8.toInt32).toInt8.toInt32)) (.int (0 : Int32)) := Arv.set Ar7 qz7 Sz7 Nz7 Hz7 Gz7 (fits_nar_byte _) W7 ((p2 + (1 : Int32)) + (1 : Int32)).toNatClampNeg rfl (by simpa using hoff.2.2.1.2)
        have N7 := Fr.snoc X7 N6 g_a1
        show OE _ p e below s _ _ _ T7 (mkF m 48 #[.val (.ref a1), .val (.int p2), .val (.int p3), .val (.int (((p2 + (1 : Int32)) + (1 : Int32)) + (1 : Int32))), .val (.int ((p3.toUInt32 >>> (((7 : Int32) * (2 : Int32)) &&& 31).toUInt32).toInt32))] [])
        refine OE.iloadN X7 hx hby own_d1_48 rfl ?_
        refine OE.retI X7 hx Bd.returns Bd.notSynchronized (hb hby own_d1_49) (by decide) (by decide) ?_
        rw [e7]
        have hlen : own_len p3 = (3 : Int32) := by
          show (if ((p3.toUInt32 >>> ((7 : Int32) &&& 31).toUInt32).toInt32) = (0 : Int32) then (1 : Int32) else (if ((p3.toUInt32 >>> ((14 : Int32) &&& 31).toUInt32).toInt32) = (0 : Int32) then (2 : Int32) else (if ((p3.toUInt32 >>> ((21 : Int32) &&& 31).toUInt32).toInt32) = (0 : Int32) then (3 : Int32) else (if ((p3.toUInt32 >>> ((28 : Int32) &&& 31).toUInt32).toInt32) = (0 : Int32) then (4 : Int32) else (5 : Int32))))) = _
          rw [if_neg (fun q => hc10 ((own_c0 p3).mpr q)), if_neg (fun q => hc10_2 ((own_c1 p3).mpr q)), if_pos ((own_c2 p3).mp hc10_3)]
        have hend : (((p2 + (1 : Int32)) + (1 : Int32)) + (1 : Int32)) = p2 + own_len p3 := (own_end3 ho).trans (congrArg (fun z => p2 + z) hlen.symm)
        have K8 : Keep h0 h7 [a1] := (Keep.wr (Keep.wr (Keep.wr (Keep.refl h0 [a1]) W3 (Or.inl (List.mem_of_getElem? (i := 0) rfl))) W6 (Or.inl (List.mem_of_getElem? (i := 0) rfl))) W7 (Or.inl (List.mem_of_getElem? (i := 0) rfl)))
        exact ⟨congrArg (fun z => some (Value.int z)) hend, N7, K8, own_cast hlen (own_list3 p3 f p2 ho hc10_3) V7⟩
      · skip
        refine OE.ifNo X6 hx hby own_d1_10 (feq hc10_3).1 ?_
        refine OE.aloadN X6 hx hby own_d1_13 rfl rfl ?_
        refine OE.iloadN X6 hx hby own_d1_14 rfl ?_
        refine OE.iinc X6 hx hby own_d1_15 rfl (l' := #[.val (.ref a1), .val (.int p2), .val (.int p3), .val (.int (((p2 + (1 : Int32)) + (1 : Int32)) + (1 : Int32))), .val (.int ((p3.toUInt32 >>> (((7 : Int32) * (2 : Int32)) &&& 31).toUInt32).toInt32))]) rfl ?_
        refine OE.iload X6 hx hby own_d1_18 rfl ?_
        refine OE.bipush X6 hx hby own_d1_20 (127 : Int32) rfl ?_
        refine OE.iand X6 hx hby own_d1_22 ?_
        refine OE.sipush X6 hx hby own_d1_23 (128 : Int32) rfl ?_
        refine OE.ior X6 hx hby own_d1_26 ?_
        refine OE.i2b X6 hx hby own_d1_27 ?_
        have Vo9 := V6
        obtain ⟨cl9, Ar9, qz9, Sz9, Nz9, Hz9, Gz9⟩ := Vo9
        have hin9 : ¬ (((p2 + (1 : Int32)) + (1 : Int32)) < 0 ∨ cl9.slots.size ≤ (((p2 + (1 : Int32)) + (1 : Int32))).toNatClampNeg) := inb_of Sz9 hoff.2.2.1.1
        obtain ⟨T9, h9, X9, e9, W9, st9⟩ := stB X6 hx hZ e6 Ar9 (j := ((p2 + (1 : Int32)) + (1 : Int32))) hin9 (g := (mkF m 28 #[.val (.ref a1), .val (.int p2), .val (.int p3), .val (.int (((p2 + (1 : Int32)) + (1 : Int32)) + (1 : Int32))), .val (.int ((p3.toUInt32 >>> (((7 : Int32) * (2 : Int32)) &&& 31).toUInt32).toInt32))] [(.int (((((p3.toUInt32 >>> (((7 : Int32) * (2 : Int32)) &&& 31).toUInt32).toInt32) &&& (127 : Int32)) ||| (128 : Int32)).toInt8.toInt32)), (.int ((p2 + (1 : Int32)) + (1 : Int32))), (.ref a1)])) rfl rfl (hb hby own_d1_28)
        refine OE.of st9 ?_
        have V9 : Arv Z h9 a1 k_a1 .byte (13 : Int32) ((((List.replicate 13 (.int f.toInt8.toInt32)).set p2.toNatClampNeg (.int (((p3 &&& (127 : Int32)) ||| (128 : Int32)).toInt8.toInt32).toInt8.toInt32)).set (p2 + (1 : Int32)).toNatClampNeg (.int (((((p3.toUInt32 >>> (((7 : Int32) * (1 : Int32)) &&& 31).toUInt32).toInt32) &&& (127 : Int32)) ||| (128 : Int32)).toInt8.toInt32).toInt8.toInt32)).set ((p2 + (1 : Int32)) + (1 : Int32)).toNatClampNeg (.int (((((p3.toUInt32 >>> (((7 : Int32) * (2 : Int32)) &&& 31).toUInt32).toInt32) &&& (127 : Int32)) ||| (128 : Int32)).toInt8.toInt32).toInt8.toInt32)) (.int (0 : Int32)) := Arv.set Ar9 qz9 Sz9 Nz9 Hz9 Gz9 (fits_nar_byte _) W9 ((p2 + (1 : Int32)) + (1 : Int32)).toNatClampNeg rfl (by simpa using hoff.2.2.1.2)
        have N9 := Fr.snoc X9 N6 g_a1
        show OE _ p e below s _ _ _ T9 (mkF m 29 #[.val (.ref a1), .val (.int p2), .val (.int p3), .val (.int (((p2 + (1 : Int32)) + (1 : Int32)) + (1 : Int32))), .val (.int ((p3.toUInt32 >>> (((7 : Int32) * (2 : Int32)) &&& 31).toUInt32).toInt32))] [])
        refine OE.iload X9 hx hby own_d1_29 rfl ?_
        refine OE.bipush X9 hx hby own_d1_31 (7 : Int32) rfl ?_
        refine OE.iushr X9 hx hby own_d1_33 ?_
        rw [(own_s2 p3 : ((((p3.toUInt32 >>> (((7 : Int32) * (2 : Int32)) &&& 31).toUInt32).toInt32).toUInt32 >>> ((7 : Int32) &&& 31).toUInt32).toInt32) = ((p3.toUInt32 >>> (((7 : Int32) * (3 : Int32)) &&& 31).toUInt32).toInt32))]
        show OE _ p e below s _ _ _ T9 (mkF m 34 #[.val (.ref a1), .val (.int p2), .val (.int p3), .val (.int (((p2 + (1 : Int32)) + (1 : Int32)) + (1 : Int32))), .val (.int ((p3.toUInt32 >>> (((7 : Int32) * (2 : Int32)) &&& 31).toUInt32).toInt32))] [(.int ((p3.toUInt32 >>> (((7 : Int32) * (3 : Int32)) &&& 31).toUInt32).toInt32))])
        refine OE.istore X9 hx hby own_d1_34 (l' := #[.val (.ref a1), .val (.int p2), .val (.int p3), .val (.int (((p2 + (1 : Int32)) + (1 : Int32)) + (1 : Int32))), .val (.int ((p3.toUInt32 >>> (((7 : Int32) * (3 : Int32)) &&& 31).toUInt32).toInt32))]) rfl ?_
        refine OE.goto X9 hx hby (pc' := 5) own_d1_36 (h := ?_)
        refine OE.iload X9 hx hby own_d1_5 rfl ?_
        refine OE.bipush X9 hx hby own_d1_7 (-128 : Int32) rfl ?_
        refine OE.iand X9 hx hby own_d1_9 ?_
        by_cases hc10_4 : (((p3.toUInt32 >>> (((7 : Int32) * (3 : Int32)) &&& 31).toUInt32).toInt32) &&& (-128 : Int32)) = (0 : Int32)
        · skip
          refine OE.ifYes X9 hx hby (pc' := 39) own_d1_10 (teq hc10_4).1 (h := ?_)
          refine OE.aloadN X9 hx hby own_d1_39 rfl rfl ?_
          refine OE.iloadN X9 hx hby own_d1_40 rfl ?_
          refine OE.iinc X9 hx hby own_d1_41 rfl (l' := #[.val (.ref a1), .val (.int p2), .val (.int p3), .val (.int ((((p2 + (1 : Int32)) + (1 : Int32)) + (1 : Int32)) + (1 : Int32))), .val (.int ((p3.toUInt32 >>> (((7 : Int32) * (3 : Int32)) &&& 31).toUInt32).toInt32))]) rfl ?_
          refine OE.iload X9 hx hby own_d1_44 rfl ?_
          refine OE.i2b X9 hx hby own_d1_46 ?_
          have Vo10 := V9
          obtain ⟨cl10, Ar10, qz10, Sz10, Nz10, Hz10, Gz10⟩ := Vo10
          have hin10 : ¬ ((((p2 + (1 : Int32)) + (1 : Int32)) + (1 : Int32)) < 0 ∨ cl10.slots.size ≤ ((((p2 + (1 : Int32)) + (1 : Int32)) + (1 : Int32))).toNatClampNeg) := inb_of Sz10 hoff.2.2.2.1.1
          obtain ⟨T10, h10, X10, e10, W10, st10⟩ := stB X9 hx hZ e9 Ar10 (j := (((p2 + (1 : Int32)) + (1 : Int32)) + (1 : Int32))) hin10 (g := (mkF m 47 #[.val (.ref a1), .val (.int p2), .val (.int p3), .val (.int ((((p2 + (1 : Int32)) + (1 : Int32)) + (1 : Int32)) + (1 : Int32))), .val (.int ((p3.toUInt32 >>> (((7 : Int32) * (3 : Int32)) &&& 31).toUInt32).toInt32))] [(.int (((p3.toUInt32 >>> (((7 : Int32) * (3 : Int32)) &&& 31).toUInt32).toInt32).toInt8.toInt32)), (.int (((p2 + (1 : Int32)) + (1 : Int32)) + (1 : Int32))), (.ref a1)])) rfl rfl (hb hby own_d1_47)
          refine OE.of st10 ?_
          have V10 : Arv Z h10 a1 k_a1 .byte (13 : Int32) (((((List.replicate 13 (.int f.toInt8.toInt32)).set p2.toNatClampNeg (.int (((p3 &&& (127 : Int32)) ||| (128 : Int32)).toInt8.toInt32).toInt8.toInt32)).set (p2 + (1 : Int32)).toNatClampNeg (.int (((((p3.toUInt32 >>> (((7 : Int32) * (1 : Int32)) &&& 31).toUInt32).toInt32) &&& (127 : Int32)) ||| (128 : Int32)).toInt8.toInt32).toInt8.toInt32)).set ((p2 + (1 : Int32)) + (1 : Int32)).toNatClampNeg (.int (((((p3.toUInt32 >>> (((7 : Int32) * (2 : Int32)) &&& 31).toUInt32).toInt32) &&& (127 : Int32)) ||| (128 : Int32)).toInt8.toInt32).toInt8.toInt32)).set (((p2 + (1 : Int32)) + (1 : Int32)) + (1 : Int32)).toNatClampNeg (.int (((p3.toUInt32 >>> (((7 : Int32) * (3 : Int32)) &&& 31).toUInt32).toInt32).toInt8.toInt32).toInt8.toInt32)) (.int (0 : Int32)) := Arv.set Ar10 qz10 Sz10 Nz10 Hz10 Gz10 (fits_nar_byte _) W10 (((p2 + (1 : Int32)) + (1 : Int32)) + (1 : Int32)).toNatClampNeg rfl (by simpa using hoff.2.2.2.1.2)
          have N10 := Fr.snoc X10 N9 g_a1
          show OE _ p e below s _ _ _ T10 (mkF m 48 #[.val (.ref a1), .val (.int p2), .val (.int p3), .val (.int ((((p2 + (1 : Int32)) + (1 : Int32)) + (1 : Int32)) + (1 : Int32))), .val (.int ((p3.toUInt32 >>> (((7 : Int32) * (3 : Int32)) &&& 31).toUInt32).toInt32))] [])
          refine OE.iloadN X10 hx hby own_d1_48 rfl ?_
          refine OE.retI X10 hx Bd.returns Bd.notSynchronized (hb hby own_d1_49) (by decide) (by decide) ?_
          rw [e10]
          have hlen : own_len p3 = (4 : Int32) := by
            show (if ((p3.toUInt32 >>> ((7 : Int32) &&& 31).toUInt32).toInt32) = (0 : Int32) then (1 : Int32) else (if ((p3.toUInt32 >>> ((14 : Int32) &&& 31).toUInt32).toInt32) = (0 : Int32) then (2 : Int32) else (if ((p3.toUInt32 >>> ((21 : Int32) &&& 31).toUInt32).toInt32) = (0 : Int32) then (3 : Int32) else (if ((p3.toUInt32 >>> ((28 : Int32) &&& 31).toUInt32).toInt32) = (0 : Int32) then (4 : Int32) else (5 : Int32))))) = _
            rw [if_neg (fun q => hc10 ((own_c0 p3).mpr q)), if_neg (fun q => hc10_2 ((own_c1 p3).mpr q)), if_neg (fun q => hc10_3 ((own_c2 p3).mpr q)), if_pos ((own_c3 p3).mp hc10_4)]
          have hend : ((((p2 + (1 : Int32)) + (1 : Int32)) + (1 : Int32)) + (1 : Int32)) = p2 + own_len p3 := (own_end4 ho).trans (congrArg (fun z => p2 + z) hlen.symm)
          have K11 : Keep h0 h10 [a1] := (Keep.wr (Keep.wr (Keep.wr (Keep.wr (Keep.refl h0 [a1]) W3 (Or.inl (List.mem_of_getElem? (i := 0) rfl))) W6 (Or.inl (List.mem_of_getElem? (i := 0) rfl))) W9 (Or.inl (List.mem_of_getElem? (i := 0) rfl))) W10 (Or.inl (List.mem_of_getElem? (i := 0) rfl)))
          exact ⟨congrArg (fun z => some (Value.int z)) hend, N10, K11, own_cast hlen (own_list4 p3 f p2 ho hc10_4) V10⟩
        · skip
          refine OE.ifNo X9 hx hby own_d1_10 (feq hc10_4).1 ?_
          refine OE.aloadN X9 hx hby own_d1_13 rfl rfl ?_
          refine OE.iloadN X9 hx hby own_d1_14 rfl ?_
          refine OE.iinc X9 hx hby own_d1_15 rfl (l' := #[.val (.ref a1), .val (.int p2), .val (.int p3), .val (.int ((((p2 + (1 : Int32)) + (1 : Int32)) + (1 : Int32)) + (1 : Int32))), .val (.int ((p3.toUInt32 >>> (((7 : Int32) * (3 : Int32)) &&& 31).toUInt32).toInt32))]) rfl ?_
          refine OE.iload X9 hx hby own_d1_18 rfl ?_
          refine OE.bipush X9 hx hby own_d1_20 (127 : Int32) rfl ?_
          refine OE.iand X9 hx hby own_d1_22 ?_
          refine OE.sipush X9 hx hby own_d1_23 (128 : Int32) rfl ?_
          refine OE.ior X9 hx hby own_d1_26 ?_
          refine OE.i2b X9 hx hby own_d1_27 ?_
          have Vo12 := V9
          obtain ⟨cl12, Ar12, qz12, Sz12, Nz12, Hz12, Gz12⟩ := Vo12
          have hin12 : ¬ ((((p2 + (1 : Int32)) + (1 : Int32)) + (1 : Int32)) < 0 ∨ cl12.slots.size ≤ ((((p2 + (1 : Int32)) + (1 : Int32)) + (1 : Int32))).toNatClampNeg) := inb_of Sz12 hoff.2.2.2.1.1
          obtain ⟨T12, h12, X12, e12, W12, st12⟩ := stB X9 hx hZ e9 Ar12 (j := (((p2 + (1 : Int32)) + (1 : Int32)) + (1 : Int32))) hin12 (g := (mkF m 28 #[.val (.ref a1), .val (.int p2), .val (.int p3), .val (.int ((((p2 + (1 : Int32)) + (1 : Int32)) + (1 : Int32)) + (1 : Int32))), .val (.int ((p3.toUInt32 >>> (((7 : Int32) * (3 : Int32)) &&& 31).toUInt32).toInt32))] [(.int (((((p3.toUInt32 >>> (((7 : Int32) * (3 : Int32)) &&& 31).toUInt32).toInt32) &&& (127 : Int32)) ||| (128 : Int32)).toInt8.toInt32)), (.int (((p2 + (1 : Int32)) + (1 : Int32)) + (1 : Int32))), (.ref a1)])) rfl rfl (hb hby own_d1_28)
          refine OE.of st12 ?_
          have V12 : Arv Z h12 a1 k_a1 .byte (13 : Int32) (((((List.replicate 13 (.int f.toInt8.toInt32)).set p2.toNatClampNeg (.int (((p3 &&& (127 : Int32)) ||| (128 : Int32)).toInt8.toInt32).toInt8.toInt32)).set (p2 + (1 : Int32)).toNatClampNeg (.int (((((p3.toUInt32 >>> (((7 : Int32) * (1 : Int32)) &&& 31).toUInt32).toInt32) &&& (127 : Int32)) ||| (128 : Int32)).toInt8.toInt32).toInt8.toInt32)).set ((p2 + (1 : Int32)) + (1 : Int32)).toNatClampNeg (.int (((((p3.toUInt32 >>> (((7 : Int32) * (2 : Int32)) &&& 31).toUInt32).toInt32) &&& (127 : Int32)) ||| (128 : Int32)).toInt8.toInt32).toInt8.toInt32)).set (((p2 + (1 : Int32)) + (1 : Int32)) + (1 : Int32)).toNatClampNeg (.int (((((p3.toUInt32 >>> (((7 : Int32) * (3 : Int32)) &&& 31).toUInt32).toInt32) &&& (127 : Int32)) ||| (128 : Int32)).toInt8.toInt32).toInt8.toInt32)) (.int (0 : Int32)) := Arv.set Ar12 qz12 Sz12 Nz12 Hz12 Gz12 (fits_nar_byte _) W12 (((p2 + (1 : Int32)) + (1 : Int32)) + (1 : Int32)).toNatClampNeg rfl (by simpa using hoff.2.2.2.1.2)
          have N12 := Fr.snoc X12 N9 g_a1
          show OE _ p e below s _ _ _ T12 (mkF m 29 #[.val (.ref a1), .val (.int p2), .val (.int p3), .val (.int ((((p2 + (1 : Int32)) + (1 : Int32)) + (1 : Int32)) + (1 : Int32))), .val (.int ((p3.toUInt32 >>> (((7 : Int32) * (3 : Int32)) &&& 31).toUInt32).toInt32))] [])
          refine OE.iload X12 hx hby own_d1_29 rfl ?_
          refine OE.bipush X12 hx hby own_d1_31 (7 : Int32) rfl ?_
          refine OE.iushr X12 hx hby own_d1_33 ?_
          rw [(own_s3 p3 : ((((p3.toUInt32 >>> (((7 : Int32) * (3 : Int32)) &&& 31).toUInt32).toInt32).toUInt32 >>> ((7 : Int32) &&& 31).toUInt32).toInt32) = ((p3.toUInt32 >>> (((7 : Int32) * (4 : Int32)) &&& 31).toUInt32).toInt32))]
          show OE _ p e below s _ _ _ T12 (mkF m 34 #[.val (.ref a1), .val (.int p2), .val (.int p3), .val (.int ((((p2 + (1 : Int32)) + (1 : Int32)) + (1 : Int32)) + (1 : Int32))), .val (.int ((p3.toUInt32 >>> (((7 : Int32) * (3 : Int32)) &&& 31).toUInt32).toInt32))] [(.int ((p3.toUInt32 >>> (((7 : Int32) * (4 : Int32)) &&& 31).toUInt32).toInt32))])
          refine OE.istore X12 hx hby own_d1_34 (l' := #[.val (.ref a1), .val (.int p2), .val (.int p3), .val (.int ((((p2 + (1 : Int32)) + (1 : Int32)) + (1 : Int32)) + (1 : Int32))), .val (.int ((p3.toUInt32 >>> (((7 : Int32) * (4 : Int32)) &&& 31).toUInt32).toInt32))]) rfl ?_
          refine OE.goto X12 hx hby (pc' := 5) own_d1_36 (h := ?_)
          refine OE.iload X12 hx hby own_d1_5 rfl ?_
          refine OE.bipush X12 hx hby own_d1_7 (-128 : Int32) rfl ?_
          refine OE.iand X12 hx hby own_d1_9 ?_
          refine OE.ifYes X12 hx hby (pc' := 39) own_d1_10 (teq ((own_c4 p3) : (((p3.toUInt32 >>> (((7 : Int32) * (4 : Int32)) &&& 31).toUInt32).toInt32) &&& (-128 : Int32)) = (0 : Int32))).1 (h := ?_)
          refine OE.aloadN X12 hx hby own_d1_39 rfl rfl ?_
          refine OE.iloadN X12 hx hby own_d1_40 rfl ?_
          refine OE.iinc X12 hx hby own_d1_41 rfl (l' := #[.val (.ref a1), .val (.int p2), .val (.int p3), .val (.int (((((p2 + (1 : Int32)) + (1 : Int32)) + (1 : Int32)) + (1 : Int32)) + (1 : Int32))), .val (.int ((p3.toUInt32 >>> (((7 : Int32) * (4 : Int32)) &&& 31).toUInt32).toInt32))]) rfl ?_
          refine OE.iload X12 hx hby own_d1_44 rfl ?_
          refine OE.i2b X12 hx hby own_d1_46 ?_
          have Vo13 := V12
          obtain ⟨cl13, Ar13, qz13, Sz13, Nz13, Hz13, Gz13⟩ := Vo13
          have hin13 : ¬ (((((p2 + (1 : Int32)) + (1 : Int32)) + (1 : Int32)) + (1 : Int32)) < 0 ∨ cl13.slots.size ≤ (((((p2 + (1 : Int32)) + (1 : Int32)) + (1 : Int32)) + (1 : Int32))).toNatClampNeg) := inb_of Sz13 hoff.2.2.2.2.1
          obtain ⟨T13, h13, X13, e13, W13, st13⟩ := stB X12 hx hZ e12 Ar13 (j := ((((p2 + (1 : Int32)) + (1 : Int32)) + (1 : Int32)) + (1 : Int32))) hin13 (g := (mkF m 47 #[.val (.ref a1), .val (.int p2), .val (.int p3), .val (.int (((((p2 + (1 : Int32)) + (1 : Int32)) + (1 : Int32)) + (1 : Int32)) + (1 : Int32))), .val (.int ((p3.toUInt32 >>> (((7 : Int32) * (4 : Int32)) &&& 31).toUInt32).toInt32))] [(.int (((p3.toUInt32 >>> (((7 : Int32) * (4 : Int32)) &&& 31).toUInt32).toInt32).toInt8.toInt32)), (.int ((((p2 + (1 : Int32)) + (1 : Int32)) + (1 : Int32)) + (1 : Int32))), (.ref a1)])) rfl rfl (hb hby own_d1_47)
          refine OE.of st13 ?_
          have V13 : Arv Z h13 a1 k_a1 .byte (13 : Int32) ((((((List.replicate 13 (.int f.toInt8.toInt32)).set p2.toNatClampNeg (.int (((p3 &&& (127 : Int32)) ||| (128 : Int32)).toInt8.toInt32).toInt8.toInt32)).set (p2 + (1 : Int32)).toNatClampNeg (.int (((((p3.toUInt32 >>> (((7 : Int32) * (1 : Int32)) &&& 31).toUInt32).toInt32) &&& (127 : Int32)) ||| (128 : Int32)).toInt8.toInt32).toInt8.toInt32)).set ((p2 + (1 : Int32)) + (1 : Int32)).toNatClampNeg (.int (((((p3.toUInt32 >>> (((7 : Int32) * (2 : Int32)) &&& 31).toUInt32).toInt32) &&& (127 : Int32)) ||| (128 : Int32)).toInt8.toInt32).toInt8.toInt32)).set (((p2 + (1 : Int32)) + (1 : Int32)) + (1 : Int32)).toNatClampNeg (.int (((((p3.toUInt32 >>> (((7 : Int32) * (3 : Int32)) &&& 31).toUInt32).toInt32) &&& (127 : Int32)) ||| (128 : Int32)).toInt8.toInt32).toInt8.toInt32)).set ((((p2 + (1 : Int32)) + (1 : Int32)) + (1 : Int32)) + (1 : Int32)).toNatClampNeg (.int (((p3.toUInt32 >>> (((7 : Int32) * (4 : Int32)) &&& 31).toUInt32).toInt32).toInt8.toInt32).toInt8.toInt32)) (.int (0 : Int32)) := Arv.set Ar13 qz13 Sz13 Nz13 Hz13 Gz13 (fits_nar_byte _) W13 ((((p2 + (1 : Int32)) + (1 : Int32)) + (1 : Int32)) + (1 : Int32)).toNatClampNeg rfl (by simpa using hoff.2.2.2.2.2)
          have N13 := Fr.snoc X13 N12 g_a1
          show OE _ p e below s _ _ _ T13 (mkF m 48 #[.val (.ref a1), .val (.int p2), .val (.int p3), .val (.int (((((p2 + (1 : Int32)) + (1 : Int32)) + (1 : Int32)) + (1 : Int32)) + (1 : Int32))), .val (.int ((p3.toUInt32 >>> (((7 : Int32) * (4 : Int32)) &&& 31).toUInt32).toInt32))] [])
          refine OE.iloadN X13 hx hby own_d1_48 rfl ?_
          refine OE.retI X13 hx Bd.returns Bd.notSynchronized (hb hby own_d1_49) (by decide) (by decide) ?_
          rw [e13]
          have hlen : own_len p3 = (5 : Int32) := by
            show (if ((p3.toUInt32 >>> ((7 : Int32) &&& 31).toUInt32).toInt32) = (0 : Int32) then (1 : Int32) else (if ((p3.toUInt32 >>> ((14 : Int32) &&& 31).toUInt32).toInt32) = (0 : Int32) then (2 : Int32) else (if ((p3.toUInt32 >>> ((21 : Int32) &&& 31).toUInt32).toInt32) = (0 : Int32) then (3 : Int32) else (if ((p3.toUInt32 >>> ((28 : Int32) &&& 31).toUInt32).toInt32) = (0 : Int32) then (4 : Int32) else (5 : Int32))))) = _
            rw [if_neg (fun q => hc10 ((own_c0 p3).mpr q)), if_neg (fun q => hc10_2 ((own_c1 p3).mpr q)), if_neg (fun q => hc10_3 ((own_c2 p3).mpr q)), if_neg (fun q => hc10_4 ((own_c3 p3).mpr q))]
          have hend : (((((p2 + (1 : Int32)) + (1 : Int32)) + (1 : Int32)) + (1 : Int32)) + (1 : Int32)) = p2 + own_len p3 := (own_end5 ho).trans (congrArg (fun z => p2 + z) hlen.symm)
          have K14 : Keep h0 h13 [a1] := (Keep.wr (Keep.wr (Keep.wr (Keep.wr (Keep.wr (Keep.refl h0 [a1]) W3 (Or.inl (List.mem_of_getElem? (i := 0) rfl))) W6 (Or.inl (List.mem_of_getElem? (i := 0) rfl))) W9 (Or.inl (List.mem_of_getElem? (i := 0) rfl))) W12 (Or.inl (List.mem_of_getElem? (i := 0) rfl))) W13 (Or.inl (List.mem_of_getElem? (i := 0) rfl)))
          exact ⟨congrArg (fun z => some (Value.int z)) hend, N13, K14, own_cast hlen (own_list5 p3 f p2 ho (own_c4 p3)) V13⟩
theorem own_pd0 : parseMethodDescriptor "([BII)I" = some ⟨[(.array .byte), .int, .int], some .int⟩ := by decide +kernel
theorem own_pd1 : parseMethodDescriptor "(I)I" = some ⟨[.int], some .int⟩ := by decide +kernel
theorem own_pd2 : parseMethodDescriptor "(IIIBI)B" = some ⟨[.int, .int, .int, .byte, .int], some .byte⟩ := by decide +kernel
def own_Q0 (Z : State) (p1 : Int32) (p2 : Int32) (p3 : Int32) (h0 : Heap) (n0 : Nat) (v : Option Value) (h : Heap) (L : List Loc) : Prop := v = some (.int (1 : Int32)) ∧ Fr n0 L
theorem own_ef_own_rm0 (m : MethodId) (p1 : Int32) (p2 : Int32) (p3 : Int32) : entryFrame m #[(.int p1), (.int p2), (.int p3)] maxLocals = mkF m 0 #[.val (.int p1), .val (.int p2), .val (.int p3), .unset, .unset, .unset, .unset, .unset] [] := by first | (simp [entryFrame, mkF, argsToLocals, Value.category, maxLocals]; done) | rfl
set_option maxRecDepth 65536 in
set_option maxHeartbeats 40000000 in
theorem own_rm0 (l : Launch) (Z : State) (a0 : Array Value) (hw : ∀ d ∈ tables_1, d.before a0 Z = true) (ws : List Jvm.Cond) (p1 : Int32) (p2 : Int32) (p3 : Int32) (h0 : Heap) (n0 : Nat) (Z0 : n0 ≤ h0.size) :
    MetFree l x (head1 (Jvm.Cond.code x code maxLocals ret :: ws) room_1) (fun a U => a = #[(.int p1), (.int p2), (.int p3)] ∧ Z.Warmed39 U.vm ∧ U.heap = h0) (fun _ _ _ _ _ => True) (fun _ U o U' => ∃ v L, o = .returned v ∧ own_Q0 Z p1 p2 p3 h0 n0 v U'.heap L ∧ FrameEnd U o U' L room_1.cells room_1.slots) := by
  refine MetFree.of_bodySF (plainFor_of_name own_pn0) hisR ?_
  intro p e s m args below meth c s₁ Bd hml0 hP hK
  obtain ⟨rfl, hZ, hh⟩ := hP
  have hx := Bd.exec
  have hby := Bd.bytes
  have hml : c.maxLocals = 8 := hml0
  have hown : s.vm.findClass "com/example/corbel/corbel/IndexOutputWriteVIntPinLaw" = some m.cls := findClass_of_methodNamed Bd.named
  have hnm := (name_of_methodNamed Bd.named Bd.method).1
  have X0 : Stand p l e room_1 s m #[(.int p1), (.int p2), (.int p3)] below meth c s₁ [] 0 0 := Stand.of_body Bd
  have e0 : s₁.heap = h0 := by rw [← hh, Bd.state]; rfl
  have N0 := Fr.nil n0
  show OE FrameEnd p e below s (own_Q0 Z p1 p2 p3 h0 n0) room_1.cells room_1.slots s₁ (entryFrame m #[(.int p1), (.int p2), (.int p3)] maxLocals)
  rw [own_ef_own_rm0]
  show OE _ p e below s _ _ _ s₁ (mkF m 0 #[.val (.int p1), .val (.int p2), .val (.int p3), .unset, .unset, .unset, .unset, .unset] [])
  refine OE.iloadN X0 hx hby at_0 rfl ?_
  refine OE.bipush X0 hx hby at_1 (7 : Int32) rfl ?_
  refine OE.iand X0 hx hby at_3 ?_
  have hoo := own_and7 p2
  obtain ⟨o, e_o⟩ : ∃ z, z = (p2 &&& (7 : Int32)) := ⟨_, rfl⟩
  rw [← e_o]
  rw [← e_o] at hoo
  refine OE.istoreN X0 hx hby at_4 (l' := #[.val (.int p1), .val (.int p2), .val (.int p3), .val (.int o), .unset, .unset, .unset, .unset]) rfl ?_
  refine OE.iloadN X0 hx hby at_5 rfl ?_
  refine OE.i2b X0 hx hby at_6 ?_
  obtain ⟨fb, e_fb⟩ : ∃ z, z = (p3.toInt8.toInt32) := ⟨_, rfl⟩
  rw [← e_fb]
  refine OE.istore X0 hx hby at_7 (l' := #[.val (.int p1), .val (.int p2), .val (.int p3), .val (.int o), .val (.int fb), .unset, .unset, .unset]) rfl ?_
  refine OE.bipush X0 hx hby at_9 (13 : Int32) rfl ?_
  obtain ⟨T1, h1, k1, X1, e1, E1, A1, B1, st1⟩ := newPE X0 hx hZ (hw _ (List.mem_of_getElem? (i := 0) rfl)) e0 (g := (mkF m 11 #[.val (.int p1), .val (.int p2), .val (.int p3), .val (.int o), .val (.int fb), .unset, .unset, .unset] [(.int (13 : Int32))])) rfl (hb hby at_11) rfl (by decide) (cap := 13) (by decide) (by decide) (by decide) (by decide) (ad := "[B") (by decide)
  refine OE.of st1 ?_
  obtain ⟨b1, g1⟩ : ∃ z, z = h0.size := ⟨_, rfl⟩
  rw [← g1] at A1 B1 ⊢
  have g_b1 : n0 ≤ b1 := Nat.le_trans Z0 (Nat.le_of_eq g1.symm)
  have sz_b1 : h0.size ≤ b1 := Nat.le_trans (Keep.refl h0 []).1 (Nat.le_of_eq g1.symm)
  have V1 : Arv Z h1 b1 k1 .byte (13 : Int32) [(.int (0 : Int32)), (.int (0 : Int32)), (.int (0 : Int32)), (.int (0 : Int32)), (.int (0 : Int32)), (.int (0 : Int32)), (.int (0 : Int32)), (.int (0 : Int32)), (.int (0 : Int32)), (.int (0 : Int32)), (.int (0 : Int32)), (.int (0 : Int32)), (.int (0 : Int32))] (.int (0 : Int32)) := (Arv.new A1 (by decide)).pad (pad_rep [] (.int (0 : Int32)) 13)
  show OE _ p e below s _ _ _ T1 (mkF m 13 #[.val (.int p1), .val (.int p2), .val (.int p3), .val (.int o), .val (.int fb), .unset, .unset, .unset] [(.ref b1)])
  refine OE.dup X1 hx hby at_13 rfl ?_
  refine OE.iconst X1 hx hby at_14 (0 : Int32) rfl ?_
  refine OE.iload X1 hx hby at_15 rfl ?_
  have Vo2 := V1
  obtain ⟨cl2, Ar2, qz2, Sz2, Nz2, Hz2, Gz2⟩ := Vo2
  have hin2 : ¬ ((0 : Int32) < 0 ∨ cl2.slots.size ≤ ((0 : Int32)).toNatClampNeg) := inb_of Sz2 ⟨by decide, by decide⟩
  obtain ⟨T2, h2, X2, e2, W2, st2⟩ := stB X1 hx hZ e1 Ar2 (j := (0 : Int32)) hin2 (g := (mkF m 17 #[.val (.int p1), .val (.int p2), .val (.int p3), .val (.int o), .val (.int fb), .unset, .unset, .unset] [(.int fb), (.int (0 : Int32)), (.ref b1), (.ref b1)])) rfl rfl (hb hby at_17)
  refine OE.of st2 ?_
  have V2 : Arv Z h2 b1 k1 .byte (13 : Int32) [(.int fb.toInt8.toInt32), (.int (0 : Int32)), (.int (0 : Int32)), (.int (0 : Int32)), (.int (0 : Int32)), (.int (0 : Int32)), (.int (0 : Int32)), (.int (0 : Int32)), (.int (0 : Int32)), (.int (0 : Int32)), (.int (0 : Int32)), (.int (0 : Int32)), (.int (0 : Int32))] (.int (0 : Int32)) := Arv.set Ar2 qz2 Sz2 Nz2 Hz2 Gz2 (fits_nar_byte _) W2 0 rfl (Nat.le_of_ble_eq_true rfl)
  have N2 := Fr.snoc X2 N0 g_b1
  show OE _ p e below s _ _ _ T2 (mkF m 18 #[.val (.int p1), .val (.int p2), .val (.int p3), .val (.int o), .val (.int fb), .unset, .unset, .unset] [(.ref b1)])
  refine OE.dup X2 hx hby at_18 rfl ?_
  refine OE.iconst X2 hx hby at_19 (1 : Int32) rfl ?_
  refine OE.iload X2 hx hby at_20 rfl ?_
  have Vo3 := V2
  obtain ⟨cl3, Ar3, qz3, Sz3, Nz3, Hz3, Gz3⟩ := Vo3
  have hin3 : ¬ ((1 : Int32) < 0 ∨ cl3.slots.size ≤ ((1 : Int32)).toNatClampNeg) := inb_of Sz3 ⟨by decide, by decide⟩
  obtain ⟨T3, h3, X3, e3, W3, st3⟩ := stB X2 hx hZ e2 Ar3 (j := (1 : Int32)) hin3 (g := (mkF m 22 #[.val (.int p1), .val (.int p2), .val (.int p3), .val (.int o), .val (.int fb), .unset, .unset, .unset] [(.int fb), (.int (1 : Int32)), (.ref b1), (.ref b1)])) rfl rfl (hb hby at_22)
  refine OE.of st3 ?_
  have V3 : Arv Z h3 b1 k1 .byte (13 : Int32) [(.int fb.toInt8.toInt32), (.int fb.toInt8.toInt32), (.int (0 : Int32)), (.int (0 : Int32)), (.int (0 : Int32)), (.int (0 : Int32)), (.int (0 : Int32)), (.int (0 : Int32)), (.int (0 : Int32)), (.int (0 : Int32)), (.int (0 : Int32)), (.int (0 : Int32)), (.int (0 : Int32))] (.int (0 : Int32)) := Arv.set Ar3 qz3 Sz3 Nz3 Hz3 Gz3 (fits_nar_byte _) W3 1 rfl (Nat.le_of_ble_eq_true rfl)
  have N3 := Fr.snoc X3 N2 g_b1
  show OE _ p e below s _ _ _ T3 (mkF m 23 #[.val (.int p1), .val (.int p2), .val (.int p3), .val (.int o), .val (.int fb), .unset, .unset, .unset] [(.ref b1)])
  refine OE.dup X3 hx hby at_23 rfl ?_
  refine OE.iconst X3 hx hby at_24 (2 : Int32) rfl ?_
  refine OE.iload X3 hx hby at_25 rfl ?_
  have Vo4 := V3
  obtain ⟨cl4, Ar4, qz4, Sz4, Nz4, Hz4, Gz4⟩ := Vo4
  have hin4 : ¬ ((2 : Int32) < 0 ∨ cl4.slots.size ≤ ((2 : Int32)).toNatClampNeg) := inb_of Sz4 ⟨by decide, by decide⟩
  obtain ⟨T4, h4, X4, e4, W4, st4⟩ := stB X3 hx hZ e3 Ar4 (j := (2 : Int32)) hin4 (g := (mkF m 27 #[.val (.int p1), .val (.int p2), .val (.int p3), .val (.int o), .val (.int fb), .unset, .unset, .unset] [(.int fb), (.int (2 : Int32)), (.ref b1), (.ref b1)])) rfl rfl (hb hby at_27)
  refine OE.of st4 ?_
  have V4 : Arv Z h4 b1 k1 .byte (13 : Int32) [(.int fb.toInt8.toInt32), (.int fb.toInt8.toInt32), (.int fb.toInt8.toInt32), (.int (0 : Int32)), (.int (0 : Int32)), (.int (0 : Int32)), (.int (0 : Int32)), (.int (0 : Int32)), (.int (0 : Int32)), (.int (0 : Int32)), (.int (0 : Int32)), (.int (0 : Int32)), (.int (0 : Int32))] (.int (0 : Int32)) := Arv.set Ar4 qz4 Sz4 Nz4 Hz4 Gz4 (fits_nar_byte _) W4 2 rfl (Nat.le_of_ble_eq_true rfl)
  have N4 := Fr.snoc X4 N3 g_b1
  show OE _ p e below s _ _ _ T4 (mkF m 28 #[.val (.int p1), .val (.int p2), .val (.int p3), .val (.int o), .val (.int fb), .unset, .unset, .unset] [(.ref b1)])
  refine OE.dup X4 hx hby at_28 rfl ?_
  refine OE.iconst X4 hx hby at_29 (3 : Int32) rfl ?_
  refine OE.iload X4 hx hby at_30 rfl ?_
  have Vo5 := V4
  obtain ⟨cl5, Ar5, qz5, Sz5, Nz5, Hz5, Gz5⟩ := Vo5
  have hin5 : ¬ ((3 : Int32) < 0 ∨ cl5.slots.size ≤ ((3 : Int32)).toNatClampNeg) := inb_of Sz5 ⟨by decide, by decide⟩
  obtain ⟨T5, h5, X5, e5, W5, st5⟩ := stB X4 hx hZ e4 Ar5 (j := (3 : Int32)) hin5 (g := (mkF m 32 #[.val (.int p1), .val (.int p2), .val (.int p3), .val (.int o), .val (.int fb), .unset, .unset, .unset] [(.int fb), (.int (3 : Int32)), (.ref b1), (.ref b1)])) rfl rfl (hb hby at_32)
  refine OE.of st5 ?_
  have V5 : Arv Z h5 b1 k1 .byte (13 : Int32) [(.int fb.toInt8.toInt32), (.int fb.toInt8.toInt32), (.int fb.toInt8.toInt32), (.int fb.toInt8.toInt32), (.int (0 : Int32)), (.int (0 : Int32)), (.int (0 : Int32)), (.int (0 : Int32)), (.int (0 : Int32)), (.int (0 : Int32)), (.int (0 : Int32)), (.int (0 : Int32)), (.int (0 : Int32))] (.int (0 : Int32)) := Arv.set Ar5 qz5 Sz5 Nz5 Hz5 Gz5 (fits_nar_byte _) W5 3 rfl (Nat.le_of_ble_eq_true rfl)
  have N5 := Fr.snoc X5 N4 g_b1
  show OE _ p e below s _ _ _ T5 (mkF m 33 #[.val (.int p1), .val (.int p2), .val (.int p3), .val (.int o), .val (.int fb), .unset, .unset, .unset] [(.ref b1)])
  refine OE.dup X5 hx hby at_33 rfl ?_
  refine OE.iconst X5 hx hby at_34 (4 : Int32) rfl ?_
  refine OE.iload X5 hx hby at_35 rfl ?_
  have Vo6 := V5
  obtain ⟨cl6, Ar6, qz6, Sz6, Nz6, Hz6, Gz6⟩ := Vo6
  have hin6 : ¬ ((4 : Int32) < 0 ∨ cl6.slots.size ≤ ((4 : Int32)).toNatClampNeg) := inb_of Sz6 ⟨by decide, by decide⟩
  obtain ⟨T6, h6, X6, e6, W6, st6⟩ := stB X5 hx hZ e5 Ar6 (j := (4 : Int32)) hin6 (g := (mkF m 37 #[.val (.int p1), .val (.int p2), .val (.int p3), .val (.int o), .val (.int fb), .unset, .unset, .unset] [(.int fb), (.int (4 : Int32)), (.ref b1), (.ref b1)])) rfl rfl (hb hby at_37)
  refine OE.of st6 ?_
  have V6 : Arv Z h6 b1 k1 .byte (13 : Int32) [(.int fb.toInt8.toInt32), (.int fb.toInt8.toInt32), (.int fb.toInt8.toInt32), (.int fb.toInt8.toInt32), (.int fb.toInt8.toInt32), (.int (0 : Int32)), (.int (0 : Int32)), (.int (0 : Int32)), (.int (0 : Int32)), (.int (0 : Int32)), (.int (0 : Int32)), (.int (0 : Int32)), (.int (0 : Int32))] (.int (0 : Int32)) := Arv.set Ar6 qz6 Sz6 Nz6 Hz6 Gz6 (fits_nar_byte _) W6 4 rfl (Nat.le_of_ble_eq_true rfl)
  have N6 := Fr.snoc X6 N5 g_b1
  show OE _ p e below s _ _ _ T6 (mkF m 38 #[.val (.int p1), .val (.int p2), .val (.int p3), .val (.int o), .val (.int fb), .unset, .unset, .unset] [(.ref b1)])
  refine OE.dup X6 hx hby at_38 rfl ?_
  refine OE.iconst X6 hx hby at_39 (5 : Int32) rfl ?_
  refine OE.iload X6 hx hby at_40 rfl ?_
  have Vo7 := V6
  obtain ⟨cl7, Ar7, qz7, Sz7, Nz7, Hz7, Gz7⟩ := Vo7
  have hin7 : ¬ ((5 : Int32) < 0 ∨ cl7.slots.size ≤ ((5 : Int32)).toNatClampNeg) := inb_of Sz7 ⟨by decide, by decide⟩
  obtain ⟨T7, h7, X7, e7, W7, st7⟩ := stB X6 hx hZ e6 Ar7 (j := (5 : Int32)) hin7 (g := (mkF m 42 #[.val (.int p1), .val (.int p2), .val (.int p3), .val (.int o), .val (.int fb), .unset, .unset, .unset] [(.int fb), (.int (5 : Int32)), (.ref b1), (.ref b1)])) rfl rfl (hb hby at_42)
  refine OE.of st7 ?_
  have V7 : Arv Z h7 b1 k1 .byte (13 : Int32) [(.int fb.toInt8.toInt32), (.int fb.toInt8.toInt32), (.int fb.toInt8.toInt32), (.int fb.toInt8.toInt32), (.int fb.toInt8.toInt32), (.int fb.toInt8.toInt32), (.int (0 : Int32)), (.int (0 : Int32)), (.int (0 : Int32)), (.int (0 : Int32)), (.int (0 : Int32)), (.int (0 : Int32)), (.int (0 : Int32))] (.int (0 : Int32)) := Arv.set Ar7 qz7 Sz7 Nz7 Hz7 Gz7 (fits_nar_byte _) W7 5 rfl (Nat.le_of_ble_eq_true rfl)
  have N7 := Fr.snoc X7 N6 g_b1
  show OE _ p e below s _ _ _ T7 (mkF m 43 #[.val (.int p1), .val (.int p2), .val (.int p3), .val (.int o), .val (.int fb), .unset, .unset, .unset] [(.ref b1)])
  refine OE.dup X7 hx hby at_43 rfl ?_
  refine OE.bipush X7 hx hby at_44 (6 : Int32) rfl ?_
  refine OE.iload X7 hx hby at_46 rfl ?_
  have Vo8 := V7
  obtain ⟨cl8, Ar8, qz8, Sz8, Nz8, Hz8, Gz8⟩ := Vo8
  have hin8 : ¬ ((6 : Int32) < 0 ∨ cl8.slots.size ≤ ((6 : Int32)).toNatClampNeg) := inb_of Sz8 ⟨by decide, by decide⟩
  obtain ⟨T8, h8, X8, e8, W8, st8⟩ := stB X7 hx hZ e7 Ar8 (j := (6 : Int32)) hin8 (g := (mkF m 48 #[.val (.int p1), .val (.int p2), .val (.int p3), .val (.int o), .val (.int fb), .unset, .unset, .unset] [(.int fb), (.int (6 : Int32)), (.ref b1), (.ref b1)])) rfl rfl (hb hby at_48)
  refine OE.of st8 ?_
  have V8 : Arv Z h8 b1 k1 .byte (13 : Int32) [(.int fb.toInt8.toInt32), (.int fb.toInt8.toInt32), (.int fb.toInt8.toInt32), (.int fb.toInt8.toInt32), (.int fb.toInt8.toInt32), (.int fb.toInt8.toInt32), (.int fb.toInt8.toInt32), (.int (0 : Int32)), (.int (0 : Int32)), (.int (0 : Int32)), (.int (0 : Int32)), (.int (0 : Int32)), (.int (0 : Int32))] (.int (0 : Int32)) := Arv.set Ar8 qz8 Sz8 Nz8 Hz8 Gz8 (fits_nar_byte _) W8 6 rfl (Nat.le_of_ble_eq_true rfl)
  have N8 := Fr.snoc X8 N7 g_b1
  show OE _ p e below s _ _ _ T8 (mkF m 49 #[.val (.int p1), .val (.int p2), .val (.int p3), .val (.int o), .val (.int fb), .unset, .unset, .unset] [(.ref b1)])
  refine OE.dup X8 hx hby at_49 rfl ?_
  refine OE.bipush X8 hx hby at_50 (7 : Int32) rfl ?_
  refine OE.iload X8 hx hby at_52 rfl ?_
  have Vo9 := V8
  obtain ⟨cl9, Ar9, qz9, Sz9, Nz9, Hz9, Gz9⟩ := Vo9
  have hin9 : ¬ ((7 : Int32) < 0 ∨ cl9.slots.size ≤ ((7 : Int32)).toNatClampNeg) := inb_of Sz9 ⟨by decide, by decide⟩
  obtain ⟨T9, h9, X9, e9, W9, st9⟩ := stB X8 hx hZ e8 Ar9 (j := (7 : Int32)) hin9 (g := (mkF m 54 #[.val (.int p1), .val (.int p2), .val (.int p3), .val (.int o), .val (.int fb), .unset, .unset, .unset] [(.int fb), (.int (7 : Int32)), (.ref b1), (.ref b1)])) rfl rfl (hb hby at_54)
  refine OE.of st9 ?_
  have V9 : Arv Z h9 b1 k1 .byte (13 : Int32) [(.int fb.toInt8.toInt32), (.int fb.toInt8.toInt32), (.int fb.toInt8.toInt32), (.int fb.toInt8.toInt32), (.int fb.toInt8.toInt32), (.int fb.toInt8.toInt32), (.int fb.toInt8.toInt32), (.int fb.toInt8.toInt32), (.int (0 : Int32)), (.int (0 : Int32)), (.int (0 : Int32)), (.int (0 : Int32)), (.int (0 : Int32))] (.int (0 : Int32)) := Arv.set Ar9 qz9 Sz9 Nz9 Hz9 Gz9 (fits_nar_byte _) W9 7 rfl (Nat.le_of_ble_eq_true rfl)
  have N9 := Fr.snoc X9 N8 g_b1
  show OE _ p e below s _ _ _ T9 (mkF m 55 #[.val (.int p1), .val (.int p2), .val (.int p3), .val (.int o), .val (.int fb), .unset, .unset, .unset] [(.ref b1)])
  refine OE.dup X9 hx hby at_55 rfl ?_
  refine OE.bipush X9 hx hby at_56 (8 : Int32) rfl ?_
  refine OE.iload X9 hx hby at_58 rfl ?_
  have Vo10 := V9
  obtain ⟨cl10, Ar10, qz10, Sz10, Nz10, Hz10, Gz10⟩ := Vo10
  have hin10 : ¬ ((8 : Int32) < 0 ∨ cl10.slots.size ≤ ((8 : Int32)).toNatClampNeg) := inb_of Sz10 ⟨by decide, by decide⟩
  obtain ⟨T10, h10, X10, e10, W10, st10⟩ := stB X9 hx hZ e9 Ar10 (j := (8 : Int32)) hin10 (g := (mkF m 60 #[.val (.int p1), .val (.int p2), .val (.int p3), .val (.int o), .val (.int fb), .unset, .unset, .unset] [(.int fb), (.int (8 : Int32)), (.ref b1), (.ref b1)])) rfl rfl (hb hby at_60)
  refine OE.of st10 ?_
  have V10 : Arv Z h10 b1 k1 .byte (13 : Int32) [(.int fb.toInt8.toInt32), (.int fb.toInt8.toInt32), (.int fb.toInt8.toInt32), (.int fb.toInt8.toInt32), (.int fb.toInt8.toInt32), (.int fb.toInt8.toInt32), (.int fb.toInt8.toInt32), (.int fb.toInt8.toInt32), (.int fb.toInt8.toInt32), (.int (0 : Int32)), (.int (0 : Int32)), (.int (0 : Int32)), (.int (0 : Int32))] (.int (0 : Int32)) := Arv.set Ar10 qz10 Sz10 Nz10 Hz10 Gz10 (fits_nar_byte _) W10 8 rfl (Nat.le_of_ble_eq_true rfl)
  have N10 := Fr.snoc X10 N9 g_b1
  show OE _ p e below s _ _ _ T10 (mkF m 61 #[.val (.int p1), .val (.int p2), .val (.int p3), .val (.int o), .val (.int fb), .unset, .unset, .unset] [(.ref b1)])
  refine OE.dup X10 hx hby at_61 rfl ?_
  refine OE.bipush X10 hx hby at_62 (9 : Int32) rfl ?_
  refine OE.iload X10 hx hby at_64 rfl ?_
  have Vo11 := V10
  obtain ⟨cl11, Ar11, qz11, Sz11, Nz11, Hz11, Gz11⟩ := Vo11
  have hin11 : ¬ ((9 : Int32) < 0 ∨ cl11.slots.size ≤ ((9 : Int32)).toNatClampNeg) := inb_of Sz11 ⟨by decide, by decide⟩
  obtain ⟨T11, h11, X11, e11, W11, st11⟩ := stB X10 hx hZ e10 Ar11 (j := (9 : Int32)) hin11 (g := (mkF m 66 #[.val (.int p1), .val (.int p2), .val (.int p3), .val (.int o), .val (.int fb), .unset, .unset, .unset] [(.int fb), (.int (9 : Int32)), (.ref b1), (.ref b1)])) rfl rfl (hb hby at_66)
  refine OE.of st11 ?_
  have V11 : Arv Z h11 b1 k1 .byte (13 : Int32) [(.int fb.toInt8.toInt32), (.int fb.toInt8.toInt32), (.int fb.toInt8.toInt32), (.int fb.toInt8.toInt32), (.int fb.toInt8.toInt32), (.int fb.toInt8.toInt32), (.int fb.toInt8.toInt32), (.int fb.toInt8.toInt32), (.int fb.toInt8.toInt32), (.int fb.toInt8.toInt32), (.int (0 : Int32)), (.int (0 : Int32)), (.int (0 : Int32))] (.int (0 : Int32)) := Arv.set Ar11 qz11 Sz11 Nz11 Hz11 Gz11 (fits_nar_byte _) W11 9 rfl (Nat.le_of_ble_eq_true rfl)
  have N11 := Fr.snoc X11 N10 g_b1
  show OE _ p e below s _ _ _ T11 (mkF m 67 #[.val (.int p1), .val (.int p2), .val (.int p3), .val (.int o), .val (.int fb), .unset, .unset, .unset] [(.ref b1)])
  refine OE.dup X11 hx hby at_67 rfl ?_
  refine OE.bipush X11 hx hby at_68 (10 : Int32) rfl ?_
  refine OE.iload X11 hx hby at_70 rfl ?_
  have Vo12 := V11
  obtain ⟨cl12, Ar12, qz12, Sz12, Nz12, Hz12, Gz12⟩ := Vo12
  have hin12 : ¬ ((10 : Int32) < 0 ∨ cl12.slots.size ≤ ((10 : Int32)).toNatClampNeg) := inb_of Sz12 ⟨by decide, by decide⟩
  obtain ⟨T12, h12, X12, e12, W12, st12⟩ := stB X11 hx hZ e11 Ar12 (j := (10 : Int32)) hin12 (g := (mkF m 72 #[.val (.int p1), .val (.int p2), .val (.int p3), .val (.int o), .val (.int fb), .unset, .unset, .unset] [(.int fb), (.int (10 : Int32)), (.ref b1), (.ref b1)])) rfl rfl (hb hby at_72)
  refine OE.of st12 ?_
  have V12 : Arv Z h12 b1 k1 .byte (13 : Int32) [(.int fb.toInt8.toInt32), (.int fb.toInt8.toInt32), (.int fb.toInt8.toInt32), (.int fb.toInt8.toInt32), (.int fb.toInt8.toInt32), (.int fb.toInt8.toInt32), (.int fb.toInt8.toInt32), (.int fb.toInt8.toInt32), (.int fb.toInt8.toInt32), (.int fb.toInt8.toInt32), (.int fb.toInt8.toInt32), (.int (0 : Int32)), (.int (0 : Int32))] (.int (0 : Int32)) := Arv.set Ar12 qz12 Sz12 Nz12 Hz12 Gz12 (fits_nar_byte _) W12 10 rfl (Nat.le_of_ble_eq_true rfl)
  have N12 := Fr.snoc X12 N11 g_b1
  show OE _ p e below s _ _ _ T12 (mkF m 73 #[.val (.int p1), .val (.int p2), .val (.int p3), .val (.int o), .val (.int fb), .unset, .unset, .unset] [(.ref b1)])
  refine OE.dup X12 hx hby at_73 rfl ?_
  refine OE.bipush X12 hx hby at_74 (11 : Int32) rfl ?_
  refine OE.iload X12 hx hby at_76 rfl ?_
  have Vo13 := V12
  obtain ⟨cl13, Ar13, qz13, Sz13, Nz13, Hz13, Gz13⟩ := Vo13
  have hin13 : ¬ ((11 : Int32) < 0 ∨ cl13.slots.size ≤ ((11 : Int32)).toNatClampNeg) := inb_of Sz13 ⟨by decide, by decide⟩
  obtain ⟨T13, h13, X13, e13, W13, st13⟩ := stB X12 hx hZ e12 Ar13 (j := (11 : Int32)) hin13 (g := (mkF m 78 #[.val (.int p1), .val (.int p2), .val (.int p3), .val (.int o), .val (.int fb), .unset, .unset, .unset] [(.int fb), (.int (11 : Int32)), (.ref b1), (.ref b1)])) rfl rfl (hb hby at_78)
  refine OE.of st13 ?_
  have V13 : Arv Z h13 b1 k1 .byte (13 : Int32) [(.int fb.toInt8.toInt32), (.int fb.toInt8.toInt32), (.int fb.toInt8.toInt32), (.int fb.toInt8.toInt32), (.int fb.toInt8.toInt32), (.int fb.toInt8.toInt32), (.int fb.toInt8.toInt32), (.int fb.toInt8.toInt32), (.int fb.toInt8.toInt32), (.int fb.toInt8.toInt32), (.int fb.toInt8.toInt32), (.int fb.toInt8.toInt32), (.int (0 : Int32))] (.int (0 : Int32)) := Arv.set Ar13 qz13 Sz13 Nz13 Hz13 Gz13 (fits_nar_byte _) W13 11 rfl (Nat.le_of_ble_eq_true rfl)
  have N13 := Fr.snoc X13 N12 g_b1
  show OE _ p e below s _ _ _ T13 (mkF m 79 #[.val (.int p1), .val (.int p2), .val (.int p3), .val (.int o), .val (.int fb), .unset, .unset, .unset] [(.ref b1)])
  refine OE.dup X13 hx hby at_79 rfl ?_
  refine OE.bipush X13 hx hby at_80 (12 : Int32) rfl ?_
  refine OE.iload X13 hx hby at_82 rfl ?_
  have Vo14 := V13
  obtain ⟨cl14, Ar14, qz14, Sz14, Nz14, Hz14, Gz14⟩ := Vo14
  have hin14 : ¬ ((12 : Int32) < 0 ∨ cl14.slots.size ≤ ((12 : Int32)).toNatClampNeg) := inb_of Sz14 ⟨by decide, by decide⟩
  obtain ⟨T14, h14, X14, e14, W14, st14⟩ := stB X13 hx hZ e13 Ar14 (j := (12 : Int32)) hin14 (g := (mkF m 84 #[.val (.int p1), .val (.int p2), .val (.int p3), .val (.int o), .val (.int fb), .unset, .unset, .unset] [(.int fb), (.int (12 : Int32)), (.ref b1), (.ref b1)])) rfl rfl (hb hby at_84)
  refine OE.of st14 ?_
  have V14 : Arv Z h14 b1 k1 .byte (13 : Int32) [(.int fb.toInt8.toInt32), (.int fb.toInt8.toInt32), (.int fb.toInt8.toInt32), (.int fb.toInt8.toInt32), (.int fb.toInt8.toInt32), (.int fb.toInt8.toInt32), (.int fb.toInt8.toInt32), (.int fb.toInt8.toInt32), (.int fb.toInt8.toInt32), (.int fb.toInt8.toInt32), (.int fb.toInt8.toInt32), (.int fb.toInt8.toInt32), (.int fb.toInt8.toInt32)] (.int (0 : Int32)) := Arv.set Ar14 qz14 Sz14 Nz14 Hz14 Gz14 (fits_nar_byte _) W14 12 rfl (Nat.le_of_ble_eq_true rfl)
  have N14 := Fr.snoc X14 N13 g_b1
  show OE _ p e below s _ _ _ T14 (mkF m 85 #[.val (.int p1), .val (.int p2), .val (.int p3), .val (.int o), .val (.int fb), .unset, .unset, .unset] [(.ref b1)])
  refine OE.astore X14 hx hby at_85 rfl (l' := #[.val (.int p1), .val (.int p2), .val (.int p3), .val (.int o), .val (.int fb), .val (.ref b1), .unset, .unset]) rfl ?_
  refine OE.aload X14 hx hby at_87 rfl rfl ?_
  refine OE.iloadN X14 hx hby at_89 rfl ?_
  refine OE.iloadN X14 hx hby at_90 rfl ?_
  have R15 : Arv Z h14 b1 k1 .byte (13 : Int32) (List.replicate 13 (.int fb.toInt8.toInt32)) (.int (0 : Int32)) := V14
  have z16 : n0 ≤ h14.size := (Nat.le_trans (Nat.le_trans (Nat.le_trans (Nat.le_trans (Nat.le_trans (Nat.le_trans (Nat.le_trans (Nat.le_trans (Nat.le_trans (Nat.le_trans (Nat.le_trans (Nat.le_trans (Nat.le_trans (Nat.le_trans Z0 E1.1) (Nat.le_of_eq W2.size.symm)) (Nat.le_of_eq W3.size.symm)) (Nat.le_of_eq W4.size.symm)) (Nat.le_of_eq W5.size.symm)) (Nat.le_of_eq W6.size.symm)) (Nat.le_of_eq W7.size.symm)) (Nat.le_of_eq W8.size.symm)) (Nat.le_of_eq W9.size.symm)) (Nat.le_of_eq W10.size.symm)) (Nat.le_of_eq W11.size.symm)) (Nat.le_of_eq W12.size.symm)) (Nat.le_of_eq W13.size.symm)) (Nat.le_of_eq W14.size.symm))
  obtain ⟨_, _, ⟨T17, L17, k17, n17⟩, -, X17, ⟨Lc17, hQ17, l17, y17, z17⟩, st17⟩ := Jvm.LawKit.callS X14 hx (y := (⟨"com/example/corbel/corbel/IndexOutput", "writeVInt", "([BII)I"⟩ : MethodName)) hown (mvT hZ (hw _ (List.mem_of_getElem? (i := 1) rfl))) (mvT hZ (hw _ (List.mem_of_getElem? (i := 2) rfl))) (mvT hZ (hw _ (List.mem_of_getElem? (i := 3) rfl))) (mvT hZ (hw _ (List.mem_of_getElem? (i := 4) rfl))) (by decide) (backOf (W := 0) (own_rm1 l Z a0 hw [] b1 o p1 fb k1 h14 n0 z16 R15 g_b1 hoo) hZ (hw _ (List.mem_of_getElem? (i := 4) rfl)) (hw _ (List.mem_of_getElem? (i := 3) rfl)) (by decide) (by decide)) (g := (mkF m 91 #[.val (.int p1), .val (.int p2), .val (.int p3), .val (.int o), .val (.int fb), .val (.ref b1), .unset, .unset] [(.int p1), (.int o), (.ref b1)])) rfl (by rw [hml]; rfl) (argsL := [(.ref b1), (.int o), (.int p1)]) (rest := []) (lenOf own_pd0 rfl) rfl (by show 2 * 0 + _ ≤ _; exact Nat.le_of_eq rfl) (hb hby at_91) (fun _ _ => ⟨rfl, e14, (by decide : 1 + 0 ≤ _), (by decide : 13 + 0 ≤ _)⟩)
  dsimp only [Pt.U, Pt.locs, Pt.cells, Pt.slots] at X17 l17 y17 z17 st17 hQ17
  have yc17 : k17 = 1 := y17
  have zc17 : n17 = 13 := z17
  have lc17 := l17.symm
  subst lc17 yc17 zc17
  obtain ⟨rfl, Nq17, K17, q17_0⟩ := hQ17
  refine OE.of (fun _ k => st17 _ k) ?_
  have N17 := Fr.app N14 Nq17
  show OE _ p e below s _ _ _ T17 (mkF m 94 #[.val (.int p1), .val (.int p2), .val (.int p3), .val (.int o), .val (.int fb), .val (.ref b1), .unset, .unset] [(.int (o + own_len p1))])
  obtain ⟨x0, ex0⟩ : ∃ z, z = own_exp p1 (own_len p1) o fb (0 : Int32) := ⟨_, rfl⟩
  obtain ⟨x1, ex1⟩ : ∃ z, z = own_exp p1 (own_len p1) o fb (1 : Int32) := ⟨_, rfl⟩
  obtain ⟨x2, ex2⟩ : ∃ z, z = own_exp p1 (own_len p1) o fb (2 : Int32) := ⟨_, rfl⟩
  obtain ⟨x3, ex3⟩ : ∃ z, z = own_exp p1 (own_len p1) o fb (3 : Int32) := ⟨_, rfl⟩
  obtain ⟨x4, ex4⟩ : ∃ z, z = own_exp p1 (own_len p1) o fb (4 : Int32) := ⟨_, rfl⟩
  obtain ⟨x5, ex5⟩ : ∃ z, z = own_exp p1 (own_len p1) o fb (5 : Int32) := ⟨_, rfl⟩
  obtain ⟨x6, ex6⟩ : ∃ z, z = own_exp p1 (own_len p1) o fb (6 : Int32) := ⟨_, rfl⟩
  obtain ⟨x7, ex7⟩ : ∃ z, z = own_exp p1 (own_len p1) o fb (7 : Int32) := ⟨_, rfl⟩
  obtain ⟨x8, ex8⟩ : ∃ z, z = own_exp p1 (own_len p1) o fb (8 : Int32) := ⟨_, rfl⟩
  obtain ⟨x9, ex9⟩ : ∃ z, z = own_exp p1 (own_len p1) o fb (9 : Int32) := ⟨_, rfl⟩
  obtain ⟨x10, ex10⟩ : ∃ z, z = own_exp p1 (own_len p1) o fb (10 : Int32) := ⟨_, rfl⟩
  obtain ⟨x11, ex11⟩ : ∃ z, z = own_exp p1 (own_len p1) o fb (11 : Int32) := ⟨_, rfl⟩
  obtain ⟨x12, ex12⟩ : ∃ z, z = own_exp p1 (own_len p1) o fb (12 : Int32) := ⟨_, rfl⟩
  have R18 : Arv Z T17.heap b1 k1 .byte (13 : Int32) [(.int x0), (.int x1), (.int x2), (.int x3), (.int x4), (.int x5), (.int x6), (.int x7), (.int x8), (.int x9), (.int x10), (.int x11), (.int x12)] (.int (0 : Int32)) := (by rw [ex0, ex1, ex2, ex3, ex4, ex5, ex6, ex7, ex8, ex9, ex10, ex11, ex12]; exact q17_0)
  refine OE.istore X17 hx hby at_94 (l' := #[.val (.int p1), .val (.int p2), .val (.int p3), .val (.int o), .val (.int fb), .val (.ref b1), .val (.int (o + own_len p1)), .unset]) rfl ?_
  refine OE.iloadN X17 hx hby at_96 rfl ?_
  have z19 : n0 ≤ T17.heap.size := (Nat.le_trans z16 K17.1)
  obtain ⟨_, _, ⟨T20, L20, k20, n20⟩, -, X20, ⟨Lc20, hQ20, l20, y20, z20⟩, st20⟩ := Jvm.LawKit.callS X17 hx (y := (⟨"com/example/corbel/corbel/IndexOutputWriteVIntPinLaw", "len", "(I)I"⟩ : MethodName)) hown (mvT hZ (hw _ (List.mem_of_getElem? (i := 5) rfl))) (mvT hZ (hw _ (List.mem_of_getElem? (i := 6) rfl))) (mvT hZ (hw _ (List.mem_of_getElem? (i := 7) rfl))) (mvT hZ (hw _ (List.mem_of_getElem? (i := 8) rfl))) (by decide) (backOf (W := 0) (own_rm2 l Z a0 hw [] p1 T17.heap n0 z19 ) hZ (hw _ (List.mem_of_getElem? (i := 8) rfl)) (hw _ (List.mem_of_getElem? (i := 7) rfl)) (by decide) (by decide)) (g := (mkF m 97 #[.val (.int p1), .val (.int p2), .val (.int p3), .val (.int o), .val (.int fb), .val (.ref b1), .val (.int (o + own_len p1)), .unset] [(.int p1)])) rfl (by rw [hml]; rfl) (argsL := [(.int p1)]) (rest := []) (lenOf own_pd1 rfl) rfl (by show 2 * 0 + _ ≤ _; exact Nat.le_of_eq rfl) (hb hby at_97) (fun _ _ => ⟨rfl, rfl, (by decide : 1 + 0 ≤ _), (by decide : 13 + 0 ≤ _)⟩)
  dsimp only [Pt.U, Pt.locs, Pt.cells, Pt.slots] at X20 l20 y20 z20 st20 hQ20
  have yc20 : k20 = 1 := y20
  have zc20 : n20 = 13 := z20
  have lc20 := l20.symm
  subst lc20 yc20 zc20
  obtain ⟨rfl, Nq20, eq20⟩ := hQ20
  refine OE.of (fun _ k => st20 _ k) ?_
  have N20 := Fr.app N17 Nq20
  show OE _ p e below s _ _ _ T20 (mkF m 100 #[.val (.int p1), .val (.int p2), .val (.int p3), .val (.int o), .val (.int fb), .val (.ref b1), .val (.int (o + own_len p1)), .unset] [(.int (own_len p1))])
  refine OE.istore X20 hx hby at_100 (l' := #[.val (.int p1), .val (.int p2), .val (.int p3), .val (.int o), .val (.int fb), .val (.ref b1), .val (.int (o + own_len p1)), .val (.int (own_len p1))]) rfl ?_
  refine OE.iload X20 hx hby at_102 rfl ?_
  refine OE.iloadN X20 hx hby at_104 rfl ?_
  refine OE.iload X20 hx hby at_105 rfl ?_
  refine OE.iadd X20 hx hby at_107 ?_
  refine OE.icmpYes X20 hx hby (pc' := 113) at_108 (teq (rfl : (o + own_len p1) = (o + (own_len p1)))).1 (h := ?_)
  refine OE.aload X20 hx hby at_113 rfl rfl ?_
  refine OE.iconst X20 hx hby at_115 (0 : Int32) rfl ?_
  have Vo21 := R18
  obtain ⟨cl21, Ar21, -, Sz21, Nz21, Hz21, Gz21⟩ := Vo21
  have hin21 : ¬ ((0 : Int32) < 0 ∨ cl21.slots.size ≤ ((0 : Int32)).toNatClampNeg) := inb_of Sz21 ⟨by decide, by decide⟩
  have hat21 : cl21.slots[((0 : Int32)).toNatClampNeg]? = some (.int x0) := Has.at Hz21 hin21 rfl
  refine OE.of (X20.baloadBytes hx (j := (0 : Int32)) (v := (.int x0)) (by rw [eq20]; exact Ar21.1) (State.isArrayOf_alike hZ.alike Ar21.2.1) Ar21.2.2 hin21 hat21 (g := (mkF m 116 #[.val (.int p1), .val (.int p2), .val (.int p3), .val (.int o), .val (.int fb), .val (.ref b1), .val (.int (o + own_len p1)), .val (.int (own_len p1))] [(.int (0 : Int32)), (.ref b1)])) rfl rfl (hb hby at_116)) ?_
  show OE _ p e below s _ _ _ T20 (mkF m 117 #[.val (.int p1), .val (.int p2), .val (.int p3), .val (.int o), .val (.int fb), .val (.ref b1), .val (.int (o + own_len p1)), .val (.int (own_len p1))] [(.int x0)])
  refine OE.iloadN X20 hx hby at_117 rfl ?_
  refine OE.iload X20 hx hby at_118 rfl ?_
  refine OE.iloadN X20 hx hby at_120 rfl ?_
  refine OE.iload X20 hx hby at_121 rfl ?_
  refine OE.iconst X20 hx hby at_123 (0 : Int32) rfl ?_
  obtain ⟨_, _, ⟨T22, L22, k22, n22⟩, -, X22, ⟨Lc22, hQ22, l22, y22, z22⟩, st22⟩ := Jvm.LawKit.callS X20 hx (y := (⟨"com/example/corbel/corbel/IndexOutputWriteVIntPinLaw", "exp", "(IIIBI)B"⟩ : MethodName)) hown (mvT hZ (hw _ (List.mem_of_getElem? (i := 9) rfl))) (mvT hZ (hw _ (List.mem_of_getElem? (i := 10) rfl))) (mvT hZ (hw _ (List.mem_of_getElem? (i := 7) rfl))) (mvT hZ (hw _ (List.mem_of_getElem? (i := 11) rfl))) (by decide) (backOf (W := 1) (own_rm3 l Z a0 hw [] p1 (own_len p1) o fb (0 : Int32) T17.heap n0 z19 ) hZ (hw _ (List.mem_of_getElem? (i := 11) rfl)) (hw _ (List.mem_of_getElem? (i := 7) rfl)) (by decide) (by decide)) (g := (mkF m 124 #[.val (.int p1), .val (.int p2), .val (.int p3), .val (.int o), .val (.int fb), .val (.ref b1), .val (.int (o + own_len p1)), .val (.int (own_len p1))] [(.int (0 : Int32)), (.int fb), (.int o), (.int (own_len p1)), (.int p1), (.int x0)])) rfl (by rw [hml]; rfl) (argsL := [(.int p1), (.int (own_len p1)), (.int o), (.int fb), (.int (0 : Int32))]) (rest := [(.int x0)]) (lenOf own_pd2 rfl) rfl (by show 2 * 0 + _ ≤ _; exact Nat.le_of_eq rfl) (hb hby at_124) (fun _ _ => ⟨rfl, eq20, (by decide : 1 + 0 ≤ _), (by decide : 13 + 0 ≤ _)⟩)
  dsimp only [Pt.U, Pt.locs, Pt.cells, Pt.slots] at X22 l22 y22 z22 st22 hQ22
  have yc22 : k22 = 1 := y22
  have zc22 : n22 = 13 := z22
  have lc22 := l22.symm
  subst lc22 yc22 zc22
  obtain ⟨rfl, Nq22, eq22⟩ := hQ22
  refine OE.of (fun _ k => st22 _ k) ?_
  have N22 := Fr.app N20 Nq22
  show OE _ p e below s _ _ _ T22 (mkF m 127 #[.val (.int p1), .val (.int p2), .val (.int p3), .val (.int o), .val (.int fb), .val (.ref b1), .val (.int (o + own_len p1)), .val (.int (own_len p1))] [(.int (own_exp p1 (own_len p1) o fb (0 : Int32))), (.int x0)])
  refine OE.icmpNo X22 hx hby at_127 (teq (ex0 : x0 = (own_exp p1 (own_len p1) o fb (0 : Int32)))).2 ?_
  refine OE.aload X22 hx hby at_130 rfl rfl ?_
  refine OE.iconst X22 hx hby at_132 (1 : Int32) rfl ?_
  have Vo23 := R18
  obtain ⟨cl23, Ar23, -, Sz23, Nz23, Hz23, Gz23⟩ := Vo23
  have hin23 : ¬ ((1 : Int32) < 0 ∨ cl23.slots.size ≤ ((1 : Int32)).toNatClampNeg) := inb_of Sz23 ⟨by decide, by decide⟩
  have hat23 : cl23.slots[((1 : Int32)).toNatClampNeg]? = some (.int x1) := Has.at Hz23 hin23 rfl
  refine OE.of (X22.baloadBytes hx (j := (1 : Int32)) (v := (.int x1)) (by rw [eq22]; exact Ar23.1) (State.isArrayOf_alike hZ.alike Ar23.2.1) Ar23.2.2 hin23 hat23 (g := (mkF m 133 #[.val (.int p1), .val (.int p2), .val (.int p3), .val (.int o), .val (.int fb), .val (.ref b1), .val (.int (o + own_len p1)), .val (.int (own_len p1))] [(.int (1 : Int32)), (.ref b1)])) rfl rfl (hb hby at_133)) ?_
  show OE _ p e below s _ _ _ T22 (mkF m 134 #[.val (.int p1), .val (.int p2), .val (.int p3), .val (.int o), .val (.int fb), .val (.ref b1), .val (.int (o + own_len p1)), .val (.int (own_len p1))] [(.int x1)])
  refine OE.iloadN X22 hx hby at_134 rfl ?_
  refine OE.iload X22 hx hby at_135 rfl ?_
  refine OE.iloadN X22 hx hby at_137 rfl ?_
  refine OE.iload X22 hx hby at_138 rfl ?_
  refine OE.iconst X22 hx hby at_140 (1 : Int32) rfl ?_
  obtain ⟨_, _, ⟨T24, L24, k24, n24⟩, -, X24, ⟨Lc24, hQ24, l24, y24, z24⟩, st24⟩ := Jvm.LawKit.callS X22 hx (y := (⟨"com/example/corbel/corbel/IndexOutputWriteVIntPinLaw", "exp", "(IIIBI)B"⟩ : MethodName)) hown (mvT hZ (hw _ (List.mem_of_getElem? (i := 9) rfl))) (mvT hZ (hw _ (List.mem_of_getElem? (i := 10) rfl))) (mvT hZ (hw _ (List.mem_of_getElem? (i := 7) rfl))) (mvT hZ (hw _ (List.mem_of_getElem? (i := 11) rfl))) (by decide) (backOf (W := 1) (own_rm3 l Z a0 hw [] p1 (own_len p1) o fb (1 : Int32) T17.heap n0 z19 ) hZ (hw _ (List.mem_of_getElem? (i := 11) rfl)) (hw _ (List.mem_of_getElem? (i := 7) rfl)) (by decide) (by decide)) (g := (mkF m 141 #[.val (.int p1), .val (.int p2), .val (.int p3), .val (.int o), .val (.int fb), .val (.ref b1), .val (.int (o + own_len p1)), .val (.int (own_len p1))] [(.int (1 : Int32)), (.int fb), (.int o), (.int (own_len p1)), (.int p1), (.int x1)])) rfl (by rw [hml]; rfl) (argsL := [(.int p1), (.int (own_len p1)), (.int o), (.int fb), (.int (1 : Int32))]) (rest := [(.int x1)]) (lenOf own_pd2 rfl) rfl (by show 2 * 0 + _ ≤ _; exact Nat.le_of_eq rfl) (hb hby at_141) (fun _ _ => ⟨rfl, eq22, (by decide : 1 + 0 ≤ _), (by decide : 13 + 0 ≤ _)⟩)
  dsimp only [Pt.U, Pt.locs, Pt.cells, Pt.slots] at X24 l24 y24 z24 st24 hQ24
  have yc24 : k24 = 1 := y24
  have zc24 : n24 = 13 := z24
  have lc24 := l24.symm
  subst lc24 yc24 zc24
  obtain ⟨rfl, Nq24, eq24⟩ := hQ24
  refine OE.of (fun _ k => st24 _ k) ?_
  have N24 := Fr.app N22 Nq24
  show OE _ p e below s _ _ _ T24 (mkF m 144 #[.val (.int p1), .val (.int p2), .val (.int p3), .val (.int o), .val (.int fb), .val (.ref b1), .val (.int (o + own_len p1)), .val (.int (own_len p1))] [(.int (own_exp p1 (own_len p1) o fb (1 : Int32))), (.int x1)])
  refine OE.icmpNo X24 hx hby at_144 (teq (ex1 : x1 = (own_exp p1 (own_len p1) o fb (1 : Int32)))).2 ?_
  refine OE.aload X24 hx hby at_147 rfl rfl ?_
  refine OE.iconst X24 hx hby at_149 (2 : Int32) rfl ?_
  have Vo25 := R18
  obtain ⟨cl25, Ar25, -, Sz25, Nz25, Hz25, Gz25⟩ := Vo25
  have hin25 : ¬ ((2 : Int32) < 0 ∨ cl25.slots.size ≤ ((2 : Int32)).toNatClampNeg) := inb_of Sz25 ⟨by decide, by decide⟩
  have hat25 : cl25.slots[((2 : Int32)).toNatClampNeg]? = some (.int x2) := Has.at Hz25 hin25 rfl
  refine OE.of (X24.baloadBytes hx (j := (2 : Int32)) (v := (.int x2)) (by rw [eq24]; exact Ar25.1) (State.isArrayOf_alike hZ.alike Ar25.2.1) Ar25.2.2 hin25 hat25 (g := (mkF m 150 #[.val (.int p1), .val (.int p2), .val (.int p3), .val (.int o), .val (.int fb), .val (.ref b1), .val (.int (o + own_len p1)), .val (.int (own_len p1))] [(.int (2 : Int32)), (.ref b1)])) rfl rfl (hb hby at_150)) ?_
  show OE _ p e below s _ _ _ T24 (mkF m 151 #[.val (.int p1), .val (.int p2), .val (.int p3), .val (.int o), .val (.int fb), .val (.ref b1), .val (.int (o + own_len p1)), .val (.int (own_len p1))] [(.int x2)])
  refine OE.iloadN X24 hx hby at_151 rfl ?_
  refine OE.iload X24 hx hby at_152 rfl ?_
  refine OE.iloadN X24 hx hby at_154 rfl ?_
  refine OE.iload X24 hx hby at_155 rfl ?_
  refine OE.iconst X24 hx hby at_157 (2 : Int32) rfl ?_
  obtain ⟨_, _, ⟨T26, L26, k26, n26⟩, -, X26, ⟨Lc26, hQ26, l26, y26, z26⟩, st26⟩ := Jvm.LawKit.callS X24 hx (y := (⟨"com/example/corbel/corbel/IndexOutputWriteVIntPinLaw", "exp", "(IIIBI)B"⟩ : MethodName)) hown (mvT hZ (hw _ (List.mem_of_getElem? (i := 9) rfl))) (mvT hZ (hw _ (List.mem_of_getElem? (i := 10) rfl))) (mvT hZ (hw _ (List.mem_of_getElem? (i := 7) rfl))) (mvT hZ (hw _ (List.mem_of_getElem? (i := 11) rfl))) (by decide) (backOf (W := 1) (own_rm3 l Z a0 hw [] p1 (own_len p1) o fb (2 : Int32) T17.heap n0 z19 ) hZ (hw _ (List.mem_of_getElem? (i := 11) rfl)) (hw _ (List.mem_of_getElem? (i := 7) rfl)) (by decide) (by decide)) (g := (mkF m 158 #[.val (.int p1), .val (.int p2), .val (.int p3), .val (.int o), .val (.int fb), .val (.ref b1), .val (.int (o + own_len p1)), .val (.int (own_len p1))] [(.int (2 : Int32)), (.int fb), (.int o), (.int (own_len p1)), (.int p1), (.int x2)])) rfl (by rw [hml]; rfl) (argsL := [(.int p1), (.int (own_len p1)), (.int o), (.int fb), (.int (2 : Int32))]) (rest := [(.int x2)]) (lenOf own_pd2 rfl) rfl (by show 2 * 0 + _ ≤ _; exact Nat.le_of_eq rfl) (hb hby at_158) (fun _ _ => ⟨rfl, eq24, (by decide : 1 + 0 ≤ _), (by decide : 13 + 0 ≤ _)⟩)
  dsimp only [Pt.U, Pt.locs, Pt.cells, Pt.slots] at X26 l26 y26 z26 st26 hQ26
  have yc26 : k26 = 1 := y26
  have zc26 : n26 = 13 := z26
  have lc26 := l26.symm
  subst lc26 yc26 zc26
  obtain ⟨rfl, Nq26, eq26⟩ := hQ26
  refine OE.of (fun _ k => st26 _ k) ?_
  have N26 := Fr.app N24 Nq26
  show OE _ p e below s _ _ _ T26 (mkF m 161 #[.val (.int p1), .val (.int p2), .val (.int p3), .val (.int o), .val (.int fb), .val (.ref b1), .val (.int (o + own_len p1)), .val (.int (own_len p1))] [(.int (own_exp p1 (own_len p1) o fb (2 : Int32))), (.int x2)])
  refine OE.icmpNo X26 hx hby at_161 (teq (ex2 : x2 = (own_exp p1 (own_len p1) o fb (2 : Int32)))).2 ?_
  refine OE.aload X26 hx hby at_164 rfl rfl ?_
  refine OE.iconst X26 hx hby at_166 (3 : Int32) rfl ?_
  have Vo27 := R18
  obtain ⟨cl27, Ar27, -, Sz27, Nz27, Hz27, Gz27⟩ := Vo27
  have hin27 : ¬ ((3 : Int32) < 0 ∨ cl27.slots.size ≤ ((3 : Int32)).toNatClampNeg) := inb_of Sz27 ⟨by decide, by decide⟩
  have hat27 : cl27.slots[((3 : Int32)).toNatClampNeg]? = some (.int x3) := Has.at Hz27 hin27 rfl
  refine OE.of (X26.baloadBytes hx (j := (3 : Int32)) (v := (.int x3)) (by rw [eq26]; exact Ar27.1) (State.isArrayOf_alike hZ.alike Ar27.2.1) Ar27.2.2 hin27 hat27 (g := (mkF m 167 #[.val (.int p1), .val (.int p2), .val (.int p3), .val (.int o), .val (.int fb), .val (.ref b1), .val (.int (o + own_len p1)), .val (.int (own_len p1))] [(.int (3 : Int32)), (.ref b1)])) rfl rfl (hb hby at_167)) ?_
  show OE _ p e below s _ _ _ T26 (mkF m 168 #[.val (.int p1), .val (.int p2), .val (.int p3), .val (.int o), .val (.int fb), .val (.ref b1), .val (.int (o + own_len p1)), .val (.int (own_len p1))] [(.int x3)])
  refine OE.iloadN X26 hx hby at_168 rfl ?_
  refine OE.iload X26 hx hby at_169 rfl ?_
  refine OE.iloadN X26 hx hby at_171 rfl ?_
  refine OE.iload X26 hx hby at_172 rfl ?_
  refine OE.iconst X26 hx hby at_174 (3 : Int32) rfl ?_
  obtain ⟨_, _, ⟨T28, L28, k28, n28⟩, -, X28, ⟨Lc28, hQ28, l28, y28, z28⟩, st28⟩ := Jvm.LawKit.callS X26 hx (y := (⟨"com/example/corbel/corbel/IndexOutputWriteVIntPinLaw", "exp", "(IIIBI)B"⟩ : MethodName)) hown (mvT hZ (hw _ (List.mem_of_getElem? (i := 9) rfl))) (mvT hZ (hw _ (List.mem_of_getElem? (i := 10) rfl))) (mvT hZ (hw _ (List.mem_of_getElem? (i := 7) rfl))) (mvT hZ (hw _ (List.mem_of_getElem? (i := 11) rfl))) (by decide) (backOf (W := 1) (own_rm3 l Z a0 hw [] p1 (own_len p1) o fb (3 : Int32) T17.heap n0 z19 ) hZ (hw _ (List.mem_of_getElem? (i := 11) rfl)) (hw _ (List.mem_of_getElem? (i := 7) rfl)) (by decide) (by decide)) (g := (mkF m 175 #[.val (.int p1), .val (.int p2), .val (.int p3), .val (.int o), .val (.int fb), .val (.ref b1), .val (.int (o + own_len p1)), .val (.int (own_len p1))] [(.int (3 : Int32)), (.int fb), (.int o), (.int (own_len p1)), (.int p1), (.int x3)])) rfl (by rw [hml]; rfl) (argsL := [(.int p1), (.int (own_len p1)), (.int o), (.int fb), (.int (3 : Int32))]) (rest := [(.int x3)]) (lenOf own_pd2 rfl) rfl (by show 2 * 0 + _ ≤ _; exact Nat.le_of_eq rfl) (hb hby at_175) (fun _ _ => ⟨rfl, eq26, (by decide : 1 + 0 ≤ _), (by decide : 13 + 0 ≤ _)⟩)
  dsimp only [Pt.U, Pt.locs, Pt.cells, Pt.slots] at X28 l28 y28 z28 st28 hQ28
  have yc28 : k28 = 1 := y28
  have zc28 : n28 = 13 := z28
  have lc28 := l28.symm
  subst lc28 yc28 zc28
  obtain ⟨rfl, Nq28, eq28⟩ := hQ28
  refine OE.of (fun _ k => st28 _ k) ?_
  have N28 := Fr.app N26 Nq28
  show OE _ p e below s _ _ _ T28 (mkF m 178 #[.val (.int p1), .val (.int p2), .val (.int p3), .val (.int o), .val (.int fb), .val (.ref b1), .val (.int (o + own_len p1)), .val (.int (own_len p1))] [(.int (own_exp p1 (own_len p1) o fb (3 : Int32))), (.int x3)])
  refine OE.icmpNo X28 hx hby at_178 (teq (ex3 : x3 = (own_exp p1 (own_len p1) o fb (3 : Int32)))).2 ?_
  refine OE.aload X28 hx hby at_181 rfl rfl ?_
  refine OE.iconst X28 hx hby at_183 (4 : Int32) rfl ?_
  have Vo29 := R18
  obtain ⟨cl29, Ar29, -, Sz29, Nz29, Hz29, Gz29⟩ := Vo29
  have hin29 : ¬ ((4 : Int32) < 0 ∨ cl29.slots.size ≤ ((4 : Int32)).toNatClampNeg) := inb_of Sz29 ⟨by decide, by decide⟩
  have hat29 : cl29.slots[((4 : Int32)).toNatClampNeg]? = some (.int x4) := Has.at Hz29 hin29 rfl
  refine OE.of (X28.baloadBytes hx (j := (4 : Int32)) (v := (.int x4)) (by rw [eq28]; exact Ar29.1) (State.isArrayOf_alike hZ.alike Ar29.2.1) Ar29.2.2 hin29 hat29 (g := (mkF m 184 #[.val (.int p1), .val (.int p2), .val (.int p3), .val (.int o), .val (.int fb), .val (.ref b1), .val (.int (o + own_len p1)), .val (.int (own_len p1))] [(.int (4 : Int32)), (.ref b1)])) rfl rfl (hb hby at_184)) ?_
  show OE _ p e below s _ _ _ T28 (mkF m 185 #[.val (.int p1), .val (.int p2), .val (.int p3), .val (.int o), .val (.int fb), .val (.ref b1), .val (.int (o + own_len p1)), .val (.int (own_len p1))] [(.int x4)])
  refine OE.iloadN X28 hx hby at_185 rfl ?_
  refine OE.iload X28 hx hby at_186 rfl ?_
  refine OE.iloadN X28 hx hby at_188 rfl ?_
  refine OE.iload X28 hx hby at_189 rfl ?_
  refine OE.iconst X28 hx hby at_191 (4 : Int32) rfl ?_
  obtain ⟨_, _, ⟨T30, L30, k30, n30⟩, -, X30, ⟨Lc30, hQ30, l30, y30, z30⟩, st30⟩ := Jvm.LawKit.callS X28 hx (y := (⟨"com/example/corbel/corbel/IndexOutputWriteVIntPinLaw", "exp", "(IIIBI)B"⟩ : MethodName)) hown (mvT hZ (hw _ (List.mem_of_getElem? (i := 9) rfl))) (mvT hZ (hw _ (List.mem_of_getElem? (i := 10) rfl))) (mvT hZ (hw _ (List.mem_of_getElem? (i := 7) rfl))) (mvT hZ (hw _ (List.mem_of_getElem? (i := 11) rfl))) (by decide) (backOf (W := 1) (own_rm3 l Z a0 hw [] p1 (own_len p1) o fb (4 : Int32) T17.heap n0 z19 ) hZ (hw _ (List.mem_of_getElem? (i := 11) rfl)) (hw _ (List.mem_of_getElem? (i := 7) rfl)) (by decide) (by decide)) (g := (mkF m 192 #[.val (.int p1), .val (.int p2), .val (.int p3), .val (.int o), .val (.int fb), .val (.ref b1), .val (.int (o + own_len p1)), .val (.int (own_len p1))] [(.int (4 : Int32)), (.int fb), (.int o), (.int (own_len p1)), (.int p1), (.int x4)])) rfl (by rw [hml]; rfl) (argsL := [(.int p1), (.int (own_len p1)), (.int o), (.int fb), (.int (4 : Int32))]) (rest := [(.int x4)]) (lenOf own_pd2 rfl) rfl (by show 2 * 0 + _ ≤ _; exact Nat.le_of_eq rfl) (hb hby at_192) (fun _ _ => ⟨rfl, eq28, (by decide : 1 + 0 ≤ _), (by decide : 13 + 0 ≤ _)⟩)
  dsimp only [Pt.U, Pt.locs, Pt.cells, Pt.slots] at X30 l30 y30 z30 st30 hQ30
  have yc30 : k30 = 1 := y30
  have zc30 : n30 = 13 := z30
  have lc30 := l30.symm
  subst lc30 yc30 zc30
  obtain ⟨rfl, Nq30, eq30⟩ := hQ30
  refine OE.of (fun _ k => st30 _ k) ?_
  have N30 := Fr.app N28 Nq30
  show OE _ p e below s _ _ _ T30 (mkF m 195 #[.val (.int p1), .val (.int p2), .val (.int p3), .val (.int o), .val (.int fb), .val (.ref b1), .val (.int (o + own_len p1)), .val (.int (own_len p1))] [(.int (own_exp p1 (own_len p1) o fb (4 : Int32))), (.int x4)])
  refine OE.icmpNo X30 hx hby at_195 (teq (ex4 : x4 = (own_exp p1 (own_len p1) o fb (4 : Int32)))).2 ?_
  refine OE.aload X30 hx hby at_198 rfl rfl ?_
  refine OE.iconst X30 hx hby at_200 (5 : Int32) rfl ?_
  have Vo31 := R18
  obtain ⟨cl31, Ar31, -, Sz31, Nz31, Hz31, Gz31⟩ := Vo31
  have hin31 : ¬ ((5 : Int32) < 0 ∨ cl31.slots.size ≤ ((5 : Int32)).toNatClampNeg) := inb_of Sz31 ⟨by decide, by decide⟩
  have hat31 : cl31.slots[((5 : Int32)).toNatClampNeg]? = some (.int x5) := Has.at Hz31 hin31 rfl
  refine OE.of (X30.baloadBytes hx (j := (5 : Int32)) (v := (.int x5)) (by rw [eq30]; exact Ar31.1) (State.isArrayOf_alike hZ.alike Ar31.2.1) Ar31.2.2 hin31 hat31 (g := (mkF m 201 #[.val (.int p1), .val (.int p2), .val (.int p3), .val (.int o), .val (.int fb), .val (.ref b1), .val (.int (o + own_len p1)), .val (.int (own_len p1))] [(.int (5 : Int32)), (.ref b1)])) rfl rfl (hb hby at_201)) ?_
  show OE _ p e below s _ _ _ T30 (mkF m 202 #[.val (.int p1), .val (.int p2), .val (.int p3), .val (.int o), .val (.int fb), .val (.ref b1), .val (.int (o + own_len p1)), .val (.int (own_len p1))] [(.int x5)])
  refine OE.iloadN X30 hx hby at_202 rfl ?_
  refine OE.iload X30 hx hby at_203 rfl ?_
  refine OE.iloadN X30 hx hby at_205 rfl ?_
  refine OE.iload X30 hx hby at_206 rfl ?_
  refine OE.iconst X30 hx hby at_208 (5 : Int32) rfl ?_
  obtain ⟨_, _, ⟨T32, L32, k32, n32⟩, -, X32, ⟨Lc32, hQ32, l32, y32, z32⟩, st32⟩ := Jvm.LawKit.callS X30 hx (y := (⟨"com/example/corbel/corbel/IndexOutputWriteVIntPinLaw", "exp", "(IIIBI)B"⟩ : MethodName)) hown (mvT hZ (hw _ (List.mem_of_getElem? (i := 9) rfl))) (mvT hZ (hw _ (List.mem_of_getElem? (i := 10) rfl))) (mvT hZ (hw _ (List.mem_of_getElem? (i := 7) rfl))) (mvT hZ (hw _ (List.mem_of_getElem? (i := 11) rfl))) (by decide) (backOf (W := 1) (own_rm3 l Z a0 hw [] p1 (own_len p1) o fb (5 : Int32) T17.heap n0 z19 ) hZ (hw _ (List.mem_of_getElem? (i := 11) rfl)) (hw _ (List.mem_of_getElem? (i := 7) rfl)) (by decide) (by decide)) (g := (mkF m 209 #[.val (.int p1), .val (.int p2), .val (.int p3), .val (.int o), .val (.int fb), .val (.ref b1), .val (.int (o + own_len p1)), .val (.int (own_len p1))] [(.int (5 : Int32)), (.int fb), (.int o), (.int (own_len p1)), (.int p1), (.int x5)])) rfl (by rw [hml]; rfl) (argsL := [(.int p1), (.int (own_len p1)), (.int o), (.int fb), (.int (5 : Int32))]) (rest := [(.int x5)]) (lenOf own_pd2 rfl) rfl (by show 2 * 0 + _ ≤ _; exact Nat.le_of_eq rfl) (hb hby at_209) (fun _ _ => ⟨rfl, eq30, (by decide : 1 + 0 ≤ _), (by decide : 13 + 0 ≤ _)⟩)
  dsimp only [Pt.U, Pt.locs, Pt.cells, Pt.slots] at X32 l32 y32 z32 st32 hQ32
  have yc32 : k32 = 1 := y32
  have zc32 : n32 = 13 := z32
  have lc32 := l32.symm
  subst lc32 yc32 zc32
  obtain ⟨rfl, Nq32, eq32⟩ := hQ32
  refine OE.of (fun _ k => st32 _ k) ?_
  have N32 := Fr.app N30 Nq32
  show OE _ p e below s _ _ _ T32 (mkF m 212 #[.val (.int p1), .val (.int p2), .val (.int p3), .val (.int o), .val (.int fb), .val (.ref b1), .val (.int (o + own_len p1)), .val (.int (own_len p1))] [(.int (own_exp p1 (own_len p1) o fb (5 : Int32))), (.int x5)])
  refine OE.icmpNo X32 hx hby at_212 (teq (ex5 : x5 = (own_exp p1 (own_len p1) o fb (5 : Int32)))).2 ?_
  refine OE.aload X32 hx hby at_215 rfl rfl ?_
  refine OE.bipush X32 hx hby at_217 (6 : Int32) rfl ?_
  have Vo33 := R18
  obtain ⟨cl33, Ar33, -, Sz33, Nz33, Hz33, Gz33⟩ := Vo33
  have hin33 : ¬ ((6 : Int32) < 0 ∨ cl33.slots.size ≤ ((6 : Int32)).toNatClampNeg) := inb_of Sz33 ⟨by decide, by decide⟩
  have hat33 : cl33.slots[((6 : Int32)).toNatClampNeg]? = some (.int x6) := Has.at Hz33 hin33 rfl
  refine OE.of (X32.baloadBytes hx (j := (6 : Int32)) (v := (.int x6)) (by rw [eq32]; exact Ar33.1) (State.isArrayOf_alike hZ.alike Ar33.2.1) Ar33.2.2 hin33 hat33 (g := (mkF m 219 #[.val (.int p1), .val (.int p2), .val (.int p3), .val (.int o), .val (.int fb), .val (.ref b1), .val (.int (o + own_len p1)), .val (.int (own_len p1))] [(.int (6 : Int32)), (.ref b1)])) rfl rfl (hb hby at_219)) ?_
  show OE _ p e below s _ _ _ T32 (mkF m 220 #[.val (.int p1), .val (.int p2), .val (.int p3), .val (.int o), .val (.int fb), .val (.ref b1), .val (.int (o + own_len p1)), .val (.int (own_len p1))] [(.int x6)])
  refine OE.iloadN X32 hx hby at_220 rfl ?_
  refine OE.iload X32 hx hby at_221 rfl ?_
  refine OE.iloadN X32 hx hby at_223 rfl ?_
  refine OE.iload X32 hx hby at_224 rfl ?_
  refine OE.bipush X32 hx hby at_226 (6 : Int32) rfl ?_
  obtain ⟨_, _, ⟨T34, L34, k34, n34⟩, -, X34, ⟨Lc34, hQ34, l34, y34, z34⟩, st34⟩ := Jvm.LawKit.callS X32 hx (y := (⟨"com/example/corbel/corbel/IndexOutputWriteVIntPinLaw", "exp", "(IIIBI)B"⟩ : MethodName)) hown (mvT hZ (hw _ (List.mem_of_getElem? (i := 9) rfl))) (mvT hZ (hw _ (List.mem_of_getElem? (i := 10) rfl))) (mvT hZ (hw _ (List.mem_of_getElem? (i := 7) rfl))) (mvT hZ (hw _ (List.mem_of_getElem? (i := 11) rfl))) (by decide) (backOf (W := 1) (own_rm3 l Z a0 hw [] p1 (own_len p1) o fb (6 : Int32) T17.heap n0 z19 ) hZ (hw _ (List.mem_of_getElem? (i := 11) rfl)) (hw _ (List.mem_of_getElem? (i := 7) rfl)) (by decide) (by decide)) (g := (mkF m 228 #[.val (.int p1), .val (.int p2), .val (.int p3), .val (.int o), .val (.int fb), .val (.ref b1), .val (.int (o + own_len p1)), .val (.int (own_len p1))] [(.int (6 : Int32)), (.int fb), (.int o), (.int (own_len p1)), (.int p1), (.int x6)])) rfl (by rw [hml]; rfl) (argsL := [(.int p1), (.int (own_len p1)), (.int o), (.int fb), (.int (6 : Int32))]) (rest := [(.int x6)]) (lenOf own_pd2 rfl) rfl (by show 2 * 0 + _ ≤ _; exact Nat.le_of_eq rfl) (hb hby at_228) (fun _ _ => ⟨rfl, eq32, (by decide : 1 + 0 ≤ _), (by decide : 13 + 0 ≤ _)⟩)
  dsimp only [Pt.U, Pt.locs, Pt.cells, Pt.slots] at X34 l34 y34 z34 st34 hQ34
  have yc34 : k34 = 1 := y34
  have zc34 : n34 = 13 := z34
  have lc34 := l34.symm
  subst lc34 yc34 zc34
  obtain ⟨rfl, Nq34, eq34⟩ := hQ34
  refine OE.of (fun _ k => st34 _ k) ?_
  have N34 := Fr.app N32 Nq34
  show OE _ p e below s _ _ _ T34 (mkF m 231 #[.val (.int p1), .val (.int p2), .val (.int p3), .val (.int o), .val (.int fb), .val (.ref b1), .val (.int (o + own_len p1)), .val (.int (own_len p1))] [(.int (own_exp p1 (own_len p1) o fb (6 : Int32))), (.int x6)])
  refine OE.icmpNo X34 hx hby at_231 (teq (ex6 : x6 = (own_exp p1 (own_len p1) o fb (6 : Int32)))).2 ?_
  refine OE.aload X34 hx hby at_234 rfl rfl ?_
  refine OE.bipush X34 hx hby at_236 (7 : Int32) rfl ?_
  have Vo35 := R18
  obtain ⟨cl35, Ar35, -, Sz35, Nz35, Hz35, Gz35⟩ := Vo35
  have hin35 : ¬ ((7 : Int32) < 0 ∨ cl35.slots.size ≤ ((7 : Int32)).toNatClampNeg) := inb_of Sz35 ⟨by decide, by decide⟩
  have hat35 : cl35.slots[((7 : Int32)).toNatClampNeg]? = some (.int x7) := Has.at Hz35 hin35 rfl
  refine OE.of (X34.baloadBytes hx (j := (7 : Int32)) (v := (.int x7)) (by rw [eq34]; exact Ar35.1) (State.isArrayOf_alike hZ.alike Ar35.2.1) Ar35.2.2 hin35 hat35 (g := (mkF m 238 #[.val (.int p1), .val (.int p2), .val (.int p3), .val (.int o), .val (.int fb), .val (.ref b1), .val (.int (o + own_len p1)), .val (.int (own_len p1))] [(.int (7 : Int32)), (.ref b1)])) rfl rfl (hb hby at_238)) ?_
  show OE _ p e below s _ _ _ T34 (mkF m 239 #[.val (.int p1), .val (.int p2), .val (.int p3), .val (.int o), .val (.int fb), .val (.ref b1), .val (.int (o + own_len p1)), .val (.int (own_len p1))] [(.int x7)])
  refine OE.iloadN X34 hx hby at_239 rfl ?_
  refine OE.iload X34 hx hby at_240 rfl ?_
  refine OE.iloadN X34 hx hby at_242 rfl ?_
  refine OE.iload X34 hx hby at_243 rfl ?_
  refine OE.bipush X34 hx hby at_245 (7 : Int32) rfl ?_
  obtain ⟨_, _, ⟨T36, L36, k36, n36⟩, -, X36, ⟨Lc36, hQ36, l36, y36, z36⟩, st36⟩ := Jvm.LawKit.callS X34 hx (y := (⟨"com/example/corbel/corbel/IndexOutputWriteVIntPinLaw", "exp", "(IIIBI)B"⟩ : MethodName)) hown (mvT hZ (hw _ (List.mem_of_getElem? (i := 9) rfl))) (mvT hZ (hw _ (List.mem_of_getElem? (i := 10) rfl))) (mvT hZ (hw _ (List.mem_of_getElem? (i := 7) rfl))) (mvT hZ (hw _ (List.mem_of_getElem? (i := 11) rfl))) (by decide) (backOf (W := 1) (own_rm3 l Z a0 hw [] p1 (own_len p1) o fb (7 : Int32) T17.heap n0 z19 ) hZ (hw _ (List.mem_of_getElem? (i := 11) rfl)) (hw _ (List.mem_of_getElem? (i := 7) rfl)) (by decide) (by decide)) (g := (mkF m 247 #[.val (.int p1), .val (.int p2), .val (.int p3), .val (.int o), .val (.int fb), .val (.ref b1), .val (.int (o + own_len p1)), .val (.int (own_len p1))] [(.int (7 : Int32)), (.int fb), (.int o), (.int (own_len p1)), (.int p1), (.int x7)])) rfl (by rw [hml]; rfl) (argsL := [(.int p1), (.int (own_len p1)), (.int o), (.int fb), (.int (7 : Int32))]) (rest := [(.int x7)]) (lenOf own_pd2 rfl) rfl (by show 2 * 0 + _ ≤ _; exact Nat.le_of_eq rfl) (hb hby at_247) (fun _ _ => ⟨rfl, eq34, (by decide : 1 + 0 ≤ _), (by decide : 13 + 0 ≤ _)⟩)
  dsimp only [Pt.U, Pt.locs, Pt.cells, Pt.slots] at X36 l36 y36 z36 st36 hQ36
  have yc36 : k36 = 1 := y36
  have zc36 : n36 = 13 := z36
  have lc36 := l36.symm
  subst lc36 yc36 zc36
  obtain ⟨rfl, Nq36, eq36⟩ := hQ36
  refine OE.of (fun _ k => st36 _ k) ?_
  have N36 := Fr.app N34 Nq36
  show OE _ p e below s _ _ _ T36 (mkF m 250 #[.val (.int p1), .val (.int p2), .val (.int p3), .val (.int o), .val (.int fb), .val (.ref b1), .val (.int (o + own_len p1)), .val (.int (own_len p1))] [(.int (own_exp p1 (own_len p1) o fb (7 : Int32))), (.int x7)])
  refine OE.icmpNo X36 hx hby at_250 (teq (ex7 : x7 = (own_exp p1 (own_len p1) o fb (7 : Int32)))).2 ?_
  refine OE.aload X36 hx hby at_253 rfl rfl ?_
  refine OE.bipush X36 hx hby at_255 (8 : Int32) rfl ?_
  have Vo37 := R18
  obtain ⟨cl37, Ar37, -, Sz37, Nz37, Hz37, Gz37⟩ := Vo37
  have hin37 : ¬ ((8 : Int32) < 0 ∨ cl37.slots.size ≤ ((8 : Int32)).toNatClampNeg) := inb_of Sz37 ⟨by decide, by decide⟩
  have hat37 : cl37.slots[((8 : Int32)).toNatClampNeg]? = some (.int x8) := Has.at Hz37 hin37 rfl
  refine OE.of (X36.baloadBytes hx (j := (8 : Int32)) (v := (.int x8)) (by rw [eq36]; exact Ar37.1) (State.isArrayOf_alike hZ.alike Ar37.2.1) Ar37.2.2 hin37 hat37 (g := (mkF m 257 #[.val (.int p1), .val (.int p2), .val (.int p3), .val (.int o), .val (.int fb), .val (.ref b1), .val (.int (o + own_len p1)), .val (.int (own_len p1))] [(.int (8 : Int32)), (.ref b1)])) rfl rfl (hb hby at_257)) ?_
  show OE _ p e below s _ _ _ T36 (mkF m 258 #[.val (.int p1), .val (.int p2), .val (.int p3), .val (.int o), .val (.int fb), .val (.ref b1), .val (.int (o + own_len p1)), .val (.int (own_len p1))] [(.int x8)])
  refine OE.iloadN X36 hx hby at_258 rfl ?_
  refine OE.iload X36 hx hby at_259 rfl ?_
  refine OE.iloadN X36 hx hby at_261 rfl ?_
  refine OE.iload X36 hx hby at_262 rfl ?_
  refine OE.bipush X36 hx hby at_264 (8 : Int32) rfl ?_
  obtain ⟨_, _, ⟨T38, L38, k38, n38⟩, -, X38, ⟨Lc38, hQ38, l38, y38, z38⟩, st38⟩ := Jvm.LawKit.callS X36 hx (y := (⟨"com/example/corbel/corbel/IndexOutputWriteVIntPinLaw", "exp", "(IIIBI)B"⟩ : MethodName)) hown (mvT hZ (hw _ (List.mem_of_getElem? (i := 9) rfl))) (mvT hZ (hw _ (List.mem_of_getElem? (i := 10) rfl))) (mvT hZ (hw _ (List.mem_of_getElem? (i := 7) rfl))) (mvT hZ (hw _ (List.mem_of_getElem? (i := 11) rfl))) (by decide) (backOf (W := 1) (own_rm3 l Z a0 hw [] p1 (own_len p1) o fb (8 : Int32) T17.heap n0 z19 ) hZ (hw _ (List.mem_of_getElem? (i := 11) rfl)) (hw _ (List.mem_of_getElem? (i := 7) rfl)) (by decide) (by decide)) (g := (mkF m 266 #[.val (.int p1), .val (.int p2), .val (.int p3), .val (.int o), .val (.int fb), .val (.ref b1), .val (.int (o + own_len p1)), .val (.int (own_len p1))] [(.int (8 : Int32)), (.int fb), (.int o), (.int (own_len p1)), (.int p1), (.int x8)])) rfl (by rw [hml]; rfl) (argsL := [(.int p1), (.int (own_len p1)), (.int o), (.int fb), (.int (8 : Int32))]) (rest := [(.int x8)]) (lenOf own_pd2 rfl) rfl (by show 2 * 0 + _ ≤ _; exact Nat.le_of_eq rfl) (hb hby at_266) (fun _ _ => ⟨rfl, eq36, (by decide : 1 + 0 ≤ _), (by decide : 13 + 0 ≤ _)⟩)
  dsimp only [Pt.U, Pt.locs, Pt.cells, Pt.slots] at X38 l38 y38 z38 st38 hQ38
  have yc38 : k38 = 1 := y38
  have zc38 : n38 = 13 := z38
  have lc38 := l38.symm
  subst lc38 yc38 zc38
  obtain ⟨rfl, Nq38, eq38⟩ := hQ38
  refine OE.of (fun _ k => st38 _ k) ?_
  have N38 := Fr.app N36 Nq38
  show OE _ p e below s _ _ _ T38 (mkF m 269 #[.val (.int p1), .val (.int p2), .val (.int p3), .val (.int o), .val (.int fb), .val (.ref b1), .val (.int (o + own_len p1)), .val (.int (own_len p1))] [(.int (own_exp p1 (own_len p1) o fb (8 : Int32))), (.int x8)])
  refine OE.icmpNo X38 hx hby at_269 (teq (ex8 : x8 = (own_exp p1 (own_len p1) o fb (8 : Int32)))).2 ?_
  refine OE.aload X38 hx hby at_272 rfl rfl ?_
  refine OE.bipush X38 hx hby at_274 (9 : Int32) rfl ?_
  have Vo39 := R18
  obtain ⟨cl39, Ar39, -, Sz39, Nz39, Hz39, Gz39⟩ := Vo39
  have hin39 : ¬ ((9 : Int32) < 0 ∨ cl39.slots.size ≤ ((9 : Int32)).toNatClampNeg) := inb_of Sz39 ⟨by decide, by decide⟩
  have hat39 : cl39.slots[((9 : Int32)).toNatClampNeg]? = some (.int x9) := Has.at Hz39 hin39 rfl
  refine OE.of (X38.baloadBytes hx (j := (9 : Int32)) (v := (.int x9)) (by rw [eq38]; exact Ar39.1) (State.isArrayOf_alike hZ.alike Ar39.2.1) Ar39.2.2 hin39 hat39 (g := (mkF m 276 #[.val (.int p1), .val (.int p2), .val (.int p3), .val (.int o), .val (.int fb), .val (.ref b1), .val (.int (o + own_len p1)), .val (.int (own_len p1))] [(.int (9 : Int32)), (.ref b1)])) rfl rfl (hb hby at_276)) ?_
  show OE _ p e below s _ _ _ T38 (mkF m 277 #[.val (.int p1), .val (.int p2), .val (.int p3), .val (.int o), .val (.int fb), .val (.ref b1), .val (.int (o + own_len p1)), .val (.int (own_len p1))] [(.int x9)])
  refine OE.iloadN X38 hx hby at_277 rfl ?_
  refine OE.iload X38 hx hby at_278 rfl ?_
  refine OE.iloadN X38 hx hby at_280 rfl ?_
  refine OE.iload X38 hx hby at_281 rfl ?_
  refine OE.bipush X38 hx hby at_283 (9 : Int32) rfl ?_
  obtain ⟨_, _, ⟨T40, L40, k40, n40⟩, -, X40, ⟨Lc40, hQ40, l40, y40, z40⟩, st40⟩ := Jvm.LawKit.callS X38 hx (y := (⟨"com/example/corbel/corbel/IndexOutputWriteVIntPinLaw", "exp", "(IIIBI)B"⟩ : MethodName)) hown (mvT hZ (hw _ (List.mem_of_getElem? (i := 9) rfl))) (mvT hZ (hw _ (List.mem_of_getElem? (i := 10) rfl))) (mvT hZ (hw _ (List.mem_of_getElem? (i := 7) rfl))) (mvT hZ (hw _ (List.mem_of_getElem? (i := 11) rfl))) (by decide) (backOf (W := 1) (own_rm3 l Z a0 hw [] p1 (own_len p1) o fb (9 : Int32) T17.heap n0 z19 ) hZ (hw _ (List.mem_of_getElem? (i := 11) rfl)) (hw _ (List.mem_of_getElem? (i := 7) rfl)) (by decide) (by decide)) (g := (mkF m 285 #[.val (.int p1), .val (.int p2), .val (.int p3), .val (.int o), .val (.int fb), .val (.ref b1), .val (.int (o + own_len p1)), .val (.int (own_len p1))] [(.int (9 : Int32)), (.int fb), (.int o), (.int (own_len p1)), (.int p1), (.int x9)])) rfl (by rw [hml]; rfl) (argsL := [(.int p1), (.int (own_len p1)), (.int o), (.int fb), (.int (9 : Int32))]) (rest := [(.int x9)]) (lenOf own_pd2 rfl) rfl (by show 2 * 0 + _ ≤ _; exact Nat.le_of_eq rfl) (hb hby at_285) (fun _ _ => ⟨rfl, eq38, (by decide : 1 + 0 ≤ _), (by decide : 13 + 0 ≤ _)⟩)
  dsimp only [Pt.U, Pt.locs, Pt.cells, Pt.slots] at X40 l40 y40 z40 st40 hQ40
  have yc40 : k40 = 1 := y40
  have zc40 : n40 = 13 := z40
  have lc40 := l40.symm
  subst lc40 yc40 zc40
  obtain ⟨rfl, Nq40, eq40⟩ := hQ40
  refine OE.of (fun _ k => st40 _ k) ?_
  have N40 := Fr.app N38 Nq40
  show OE _ p e below s _ _ _ T40 (mkF m 288 #[.val (.int p1), .val (.int p2), .val (.int p3), .val (.int o), .val (.int fb), .val (.ref b1), .val (.int (o + own_len p1)), .val (.int (own_len p1))] [(.int (own_exp p1 (own_len p1) o fb (9 : Int32))), (.int x9)])
  refine OE.icmpNo X40 hx hby at_288 (teq (ex9 : x9 = (own_exp p1 (own_len p1) o fb (9 : Int32)))).2 ?_
  refine OE.aload X40 hx hby at_291 rfl rfl ?_
  refine OE.bipush X40 hx hby at_293 (10 : Int32) rfl ?_
  have Vo41 := R18
  obtain ⟨cl41, Ar41, -, Sz41, Nz41, Hz41, Gz41⟩ := Vo41
  have hin41 : ¬ ((10 : Int32) < 0 ∨ cl41.slots.size ≤ ((10 : Int32)).toNatClampNeg) := inb_of Sz41 ⟨by decide, by decide⟩
  have hat41 : cl41.slots[((10 : Int32)).toNatClampNeg]? = some (.int x10) := Has.at Hz41 hin41 rfl
  refine OE.of (X40.baloadBytes hx (j := (10 : Int32)) (v := (.int x10)) (by rw [eq40]; exact Ar41.1) (State.isArrayOf_alike hZ.alike Ar41.2.1) Ar41.2.2 hin41 hat41 (g := (mkF m 295 #[.val (.int p1), .val (.int p2), .val (.int p3), .val (.int o), .val (.int fb), .val (.ref b1), .val (.int (o + own_len p1)), .val (.int (own_len p1))] [(.int (10 : Int32)), (.ref b1)])) rfl rfl (hb hby at_295)) ?_
  show OE _ p e below s _ _ _ T40 (mkF m 296 #[.val (.int p1), .val (.int p2), .val (.int p3), .val (.int o), .val (.int fb), .val (.ref b1), .val (.int (o + own_len p1)), .val (.int (own_len p1))] [(.int x10)])
  refine OE.iloadN X40 hx hby at_296 rfl ?_
  refine OE.iload X40 hx hby at_297 rfl ?_
  refine OE.iloadN X40 hx hby at_299 rfl ?_
  refine OE.iload X40 hx hby at_300 rfl ?_
  refine OE.bipush X40 hx hby at_302 (10 : Int32) rfl ?_
  obtain ⟨_, _, ⟨T42, L42, k42, n42⟩, -, X42, ⟨Lc42, hQ42, l42, y42, z42⟩, st42⟩ := Jvm.LawKit.callS X40 hx (y := (⟨"com/example/corbel/corbel/IndexOutputWriteVIntPinLaw", "exp", "(IIIBI)B"⟩ : MethodName)) hown (mvT hZ (hw _ (List.mem_of_getElem? (i := 9) rfl))) (mvT hZ (hw _ (List.mem_of_getElem? (i := 10) rfl))) (mvT hZ (hw _ (List.mem_of_getElem? (i := 7) rfl))) (mvT hZ (hw _ (List.mem_of_getElem? (i := 11) rfl))) (by decide) (backOf (W := 1) (own_rm3 l Z a0 hw [] p1 (own_len p1) o fb (10 : Int32) T17.heap n0 z19 ) hZ (hw _ (List.mem_of_getElem? (i := 11) rfl)) (hw _ (List.mem_of_getElem? (i := 7) rfl)) (by decide) (by decide)) (g := (mkF m 304 #[.val (.int p1), .val (.int p2), .val (.int p3), .val (.int o), .val (.int fb), .val (.ref b1), .val (.int (o + own_len p1)), .val (.int (own_len p1))] [(.int (10 : Int32)), (.int fb), (.int o), (.int (own_len p1)), (.int p1), (.int x10)])) rfl (by rw [hml]; rfl) (argsL := [(.int p1), (.int (own_len p1)), (.int o), (.int fb), (.int (10 : Int32))]) (rest := [(.int x10)]) (lenOf own_pd2 rfl) rfl (by show 2 * 0 + _ ≤ _; exact Nat.le_of_eq rfl) (hb hby at_304) (fun _ _ => ⟨rfl, eq40, (by decide : 1 + 0 ≤ _), (by decide : 13 + 0 ≤ _)⟩)
  dsimp only [Pt.U, Pt.locs, Pt.cells, Pt.slots] at X42 l42 y42 z42 st42 hQ42
  have yc42 : k42 = 1 := y42
  have zc42 : n42 = 13 := z42
  have lc42 := l42.symm
  subst lc42 yc42 zc42
  obtain ⟨rfl, Nq42, eq42⟩ := hQ42
  refine OE.of (fun _ k => st42 _ k) ?_
  have N42 := Fr.app N40 Nq42
  show OE _ p e below s _ _ _ T42 (mkF m 307 #[.val (.int p1), .val (.int p2), .val (.int p3), .val (.int o), .val (.int fb), .val (.ref b1), .val (.int (o + own_len p1)), .val (.int (own_len p1))] [(.int (own_exp p1 (own_len p1) o fb (10 : Int32))), (.int x10)])
  refine OE.icmpNo X42 hx hby at_307 (teq (ex10 : x10 = (own_exp p1 (own_len p1) o fb (10 : Int32)))).2 ?_
  refine OE.aload X42 hx hby at_310 rfl rfl ?_
  refine OE.bipush X42 hx hby at_312 (11 : Int32) rfl ?_
  have Vo43 := R18
  obtain ⟨cl43, Ar43, -, Sz43, Nz43, Hz43, Gz43⟩ := Vo43
  have hin43 : ¬ ((11 : Int32) < 0 ∨ cl43.slots.size ≤ ((11 : Int32)).toNatClampNeg) := inb_of Sz43 ⟨by decide, by decide⟩
  have hat43 : cl43.slots[((11 : Int32)).toNatClampNeg]? = some (.int x11) := Has.at Hz43 hin43 rfl
  refine OE.of (X42.baloadBytes hx (j := (11 : Int32)) (v := (.int x11)) (by rw [eq42]; exact Ar43.1) (State.isArrayOf_alike hZ.alike Ar43.2.1) Ar43.2.2 hin43 hat43 (g := (mkF m 314 #[.val (.int p1), .val (.int p2), .val (.int p3), .val (.int o), .val (.int fb), .val (.ref b1), .val (.int (o + own_len p1)), .val (.int (own_len p1))] [(.int (11 : Int32)), (.ref b1)])) rfl rfl (hb hby at_314)) ?_
  show OE _ p e below s _ _ _ T42 (mkF m 315 #[.val (.int p1), .val (.int p2), .val (.int p3), .val (.int o), .val (.int fb), .val (.ref b1), .val (.int (o + own_len p1)), .val (.int (own_len p1))] [(.int x11)])
  refine OE.iloadN X42 hx hby at_315 rfl ?_
  refine OE.iload X42 hx hby at_316 rfl ?_
  refine OE.iloadN X42 hx hby at_318 rfl ?_
  refine OE.iload X42 hx hby at_319 rfl ?_
  refine OE.bipush X42 hx hby at_321 (11 : Int32) rfl ?_
  obtain ⟨_, _, ⟨T44, L44, k44, n44⟩, -, X44, ⟨Lc44, hQ44, l44, y44, z44⟩, st44⟩ := Jvm.LawKit.callS X42 hx (y := (⟨"com/example/corbel/corbel/IndexOutputWriteVIntPinLaw", "exp", "(IIIBI)B"⟩ : MethodName)) hown (mvT hZ (hw _ (List.mem_of_getElem? (i := 9) rfl))) (mvT hZ (hw _ (List.mem_of_getElem? (i := 10) rfl))) (mvT hZ (hw _ (List.mem_of_getElem? (i := 7) rfl))) (mvT hZ (hw _ (List.mem_of_getElem? (i := 11) rfl))) (by decide) (backOf (W := 1) (own_rm3 l Z a0 hw [] p1 (own_len p1) o fb (11 : Int32) T17.heap n0 z19 ) hZ (hw _ (List.mem_of_getElem? (i := 11) rfl)) (hw _ (List.mem_of_getElem? (i := 7) rfl)) (by decide) (by decide)) (g := (mkF m 323 #[.val (.int p1), .val (.int p2), .val (.int p3), .val (.int o), .val (.int fb), .val (.ref b1), .val (.int (o + own_len p1)), .val (.int (own_len p1))] [(.int (11 : Int32)), (.int fb), (.int o), (.int (own_len p1)), (.int p1), (.int x11)])) rfl (by rw [hml]; rfl) (argsL := [(.int p1), (.int (own_len p1)), (.int o), (.int fb), (.int (11 : Int32))]) (rest := [(.int x11)]) (lenOf own_pd2 rfl) rfl (by show 2 * 0 + _ ≤ _; exact Nat.le_of_eq rfl) (hb hby at_323) (fun _ _ => ⟨rfl, eq42, (by decide : 1 + 0 ≤ _), (by decide : 13 + 0 ≤ _)⟩)
  dsimp only [Pt.U, Pt.locs, Pt.cells, Pt.slots] at X44 l44 y44 z44 st44 hQ44
  have yc44 : k44 = 1 := y44
  have zc44 : n44 = 13 := z44
  have lc44 := l44.symm
  subst lc44 yc44 zc44
  obtain ⟨rfl, Nq44, eq44⟩ := hQ44
  refine OE.of (fun _ k => st44 _ k) ?_
  have N44 := Fr.app N42 Nq44
  show OE _ p e below s _ _ _ T44 (mkF m 326 #[.val (.int p1), .val (.int p2), .val (.int p3), .val (.int o), .val (.int fb), .val (.ref b1), .val (.int (o + own_len p1)), .val (.int (own_len p1))] [(.int (own_exp p1 (own_len p1) o fb (11 : Int32))), (.int x11)])
  refine OE.icmpNo X44 hx hby at_326 (teq (ex11 : x11 = (own_exp p1 (own_len p1) o fb (11 : Int32)))).2 ?_
  refine OE.aload X44 hx hby at_329 rfl rfl ?_
  refine OE.bipush X44 hx hby at_331 (12 : Int32) rfl ?_
  have Vo45 := R18
  obtain ⟨cl45, Ar45, -, Sz45, Nz45, Hz45, Gz45⟩ := Vo45
  have hin45 : ¬ ((12 : Int32) < 0 ∨ cl45.slots.size ≤ ((12 : Int32)).toNatClampNeg) := inb_of Sz45 ⟨by decide, by decide⟩
  have hat45 : cl45.slots[((12 : Int32)).toNatClampNeg]? = some (.int x12) := Has.at Hz45 hin45 rfl
  refine OE.of (X44.baloadBytes hx (j := (12 : Int32)) (v := (.int x12)) (by rw [eq44]; exact Ar45.1) (State.isArrayOf_alike hZ.alike Ar45.2.1) Ar45.2.2 hin45 hat45 (g := (mkF m 333 #[.val (.int p1), .val (.int p2), .val (.int p3), .val (.int o), .val (.int fb), .val (.ref b1), .val (.int (o + own_len p1)), .val (.int (own_len p1))] [(.int (12 : Int32)), (.ref b1)])) rfl rfl (hb hby at_333)) ?_
  show OE _ p e below s _ _ _ T44 (mkF m 334 #[.val (.int p1), .val (.int p2), .val (.int p3), .val (.int o), .val (.int fb), .val (.ref b1), .val (.int (o + own_len p1)), .val (.int (own_len p1))] [(.int x12)])
  refine OE.iloadN X44 hx hby at_334 rfl ?_
  refine OE.iload X44 hx hby at_335 rfl ?_
  refine OE.iloadN X44 hx hby at_337 rfl ?_
  refine OE.iload X44 hx hby at_338 rfl ?_
  refine OE.bipush X44 hx hby at_340 (12 : Int32) rfl ?_
  obtain ⟨_, _, ⟨T46, L46, k46, n46⟩, -, X46, ⟨Lc46, hQ46, l46, y46, z46⟩, st46⟩ := Jvm.LawKit.callS X44 hx (y := (⟨"com/example/corbel/corbel/IndexOutputWriteVIntPinLaw", "exp", "(IIIBI)B"⟩ : MethodName)) hown (mvT hZ (hw _ (List.mem_of_getElem? (i := 9) rfl))) (mvT hZ (hw _ (List.mem_of_getElem? (i := 10) rfl))) (mvT hZ (hw _ (List.mem_of_getElem? (i := 7) rfl))) (mvT hZ (hw _ (List.mem_of_getElem? (i := 11) rfl))) (by decide) (backOf (W := 1) (own_rm3 l Z a0 hw [] p1 (own_len p1) o fb (12 : Int32) T17.heap n0 z19 ) hZ (hw _ (List.mem_of_getElem? (i := 11) rfl)) (hw _ (List.mem_of_getElem? (i := 7) rfl)) (by decide) (by decide)) (g := (mkF m 342 #[.val (.int p1), .val (.int p2), .val (.int p3), .val (.int o), .val (.int fb), .val (.ref b1), .val (.int (o + own_len p1)), .val (.int (own_len p1))] [(.int (12 : Int32)), (.int fb), (.int o), (.int (own_len p1)), (.int p1), (.int x12)])) rfl (by rw [hml]; rfl) (argsL := [(.int p1), (.int (own_len p1)), (.int o), (.int fb), (.int (12 : Int32))]) (rest := [(.int x12)]) (lenOf own_pd2 rfl) rfl (by show 2 * 0 + _ ≤ _; exact Nat.le_of_eq rfl) (hb hby at_342) (fun _ _ => ⟨rfl, eq44, (by decide : 1 + 0 ≤ _), (by decide : 13 + 0 ≤ _)⟩)
  dsimp only [Pt.U, Pt.locs, Pt.cells, Pt.slots] at X46 l46 y46 z46 st46 hQ46
  have yc46 : k46 = 1 := y46
  have zc46 : n46 = 13 := z46
  have lc46 := l46.symm
  subst lc46 yc46 zc46
  obtain ⟨rfl, Nq46, eq46⟩ := hQ46
  refine OE.of (fun _ k => st46 _ k) ?_
  have N46 := Fr.app N44 Nq46
  show OE _ p e below s _ _ _ T46 (mkF m 345 #[.val (.int p1), .val (.int p2), .val (.int p3), .val (.int o), .val (.int fb), .val (.ref b1), .val (.int (o + own_len p1)), .val (.int (own_len p1))] [(.int (own_exp p1 (own_len p1) o fb (12 : Int32))), (.int x12)])
  refine OE.icmpNo X46 hx hby at_345 (teq (ex12 : x12 = (own_exp p1 (own_len p1) o fb (12 : Int32)))).2 ?_
  refine OE.iconst X46 hx hby at_348 (1 : Int32) rfl ?_
  refine OE.goto X46 hx hby (pc' := 353) at_349 (h := ?_)
  refine OE.retN X46 hx (t := .boolean) Bd.returns (by simp) Bd.notSynchronized (hb hby at_353) (by decide) (by decide) ?_
  rw [eq46]
  exact ⟨rfl, N46⟩
set_option maxRecDepth 65536 in
set_option maxHeartbeats 40000000 in
theorem comes_1 {Post : Tables → Env → Array Value → State → Outcome → State → Prop} (hpost : ∀ tb e args s v u, (limb_1_1.after args s (.returned v) u = true ∧ limb_1_2.after args s (.returned v) u = true ∧ True) → FrameEnd s (.returned v) u (Jvm.fieldLocs frame_1_writes args s ++ Jvm.arrayLocs frame_1_arrays args s ++ Jvm.staticLocs frame_1_statics s) 16 128 → Post tb e args s (.returned v) u) :
    ArmFor flags0 classFile x code maxLocals ret World_1 tables_1 room_1 Calls_1 rest_1 Pre_1 Post := by
  intro l hfl _ _ p e ha hc hk s m args below hf hA hF happ hP
  obtain ⟨hcalls, hrest, hpre⟩ := hP
  obtain ⟨-, -, -, hnamed, -, -, -, hat⟩ := (Spec.applies_iff hf).mp happ
  obtain ⟨hg, hn⟩ := and_e (Cond.before_iff.mp (show (Jvm.Cond.and given_1 narrow_1).before args s = true from hpre))
  obtain ⟨g1, g2⟩ := and_e hg
  obtain ⟨g3, g4⟩ := and_e g2
  obtain ⟨g5, g6⟩ := and_e g4
  obtain ⟨w0, w1, w2, rfl⟩ : ∃ w0 w1 w2 : Value, args = #[w0, w1, w2] := by
    have hs : args.size = 3 := by simpa [Cond.value, given_1] using g1
    obtain ⟨L⟩ := args
    match L, hs with
    | [w0, w1, w2], _ => exact ⟨w0, w1, w2, rfl⟩
  have hw := fun d (hd : d ∈ tables_1) => atoms_spec (ws := Jvm.Cond.code x code maxLocals ret :: tables_1) hat d (List.mem_cons_of_mem _ hd)
  have hfit : Fit s := fun {y c} hc i hi => by
    obtain ⟨ha, rfl⟩ := Array.getElem?_eq_some_iff.mp hc
    have q := List.all_eq_true.mp ((Array.all_eq_true_iff_forall_mem.mp hF) _ (Array.getElem_mem ha)) i (List.mem_range.mpr hi)
    simpa [Array.getElem?_eq_getElem hi] using q
  obtain ⟨i0, ei0⟩ := is_v g3
  obtain rfl : w0 = (.int i0) := Option.some.inj ei0
  obtain ⟨i1, ei1⟩ := is_v g5
  obtain rfl : w1 = (.int i1) := Option.some.inj ei1
  obtain ⟨i2, ei2⟩ := is_v g6
  obtain rfl : w2 = (.int i2) := Option.some.inj ei2
  obtain ⟨n, o, h1, h2, h3, _, L, rfl, ⟨rfl, N⟩, hq⟩ := own_rm0 l s _ hw tables_1 i0 i1 i2 s.heap s.heap.size (Nat.le_refl _)  p e ha hc hk s m _ below hf ((Spec.applies_iff_loose hf).mp happ).1 ⟨rfl, State.Warmed39.refl s, rfl⟩ trivial
  refine ⟨n, _, h1, h2, h3, hpost _ _ _ _ _ _ ⟨Cond.after_iff.mpr rfl, Cond.after_iff.mpr (eq_i res_at (Term.int_eval (1)) rfl), trivial⟩ ⟨hq.1, hq.2.1, (hq.2.2.sift fun y hy => Or.inr (N y hy)).mono (by decide) (by decide)⟩⟩
theorem main_1_1 : Claimed_1_1 := comes_1 fun _ _ _ _ _ _ h hF => ⟨h.1, hF⟩
theorem main_1_2 : Claimed_1_2 := comes_1 fun _ _ _ _ _ _ h hF => ⟨h.2.1, hF⟩
end Jvm.Pilot.@@N@@
namespace Jvm.Pilot.@@N@@
open Jvm Jvm.ClassFile Sem Op Lib Jvm.Free Jvm.Stand Jvm.Pilot.@@N@@.Jvm.D
/-! MADE BY PROGRAM (witnessworld.py) out of the Statement's table words and the real class files: 11 classes; the members and pool entries that the words name. The judged class is class 1, her method 3. -/
namespace start1
open Jvm.ClassFile
def u (s : String) : CpInfo := .utf8 (stringToUtf16 s)
/-- a pool by its gaps: so many unusable entries, then the entry; so many at the end -/
def gap : Nat → List CpInfo → List CpInfo
  | 0, r => r
  | n + 1, r => .unusable :: gap n r
def poolList (es : List (Nat × CpInfo)) (last : Nat) : List CpInfo := es.foldr (fun e r => gap e.1 (e.2 :: r)) (gap last [])
def pool (es : List (Nat × CpInfo)) (last : Nat) : Array CpInfo := ⟨poolList es last⟩
def fileOf (pool : Array CpInfo) (this : Nat) (attrs : Array Attribute := #[]) (ms : Array MethodInfo := #[]) (fl : Nat := 33) (sup : Nat := 0) (ifs : Array Nat := #[]) (fds : Array FieldInfo := #[]) : ClassFile where
  minorVersion := 0
  majorVersion := 65
  constantPool := pool
  accessFlags := fl
  thisClass := this
  superClass := sup
  interfaces := ifs
  fields := fds
  methods := ms
  attributes := attrs
def plain (name : String) (sup : Option ClassId) : Class where
  name := name
  kind := .ordinary
  loader := none
  accessFlags := 33
  super := sup
  interfaces := #[]
  cf := none
  fields := #[]
  methods := #[]
  instanceTypes := #[]
  staticTypes := #[]
  resolved := #[]
  callSites := []
  init := .initialized
  statics := none
  mirror := none

def pool0 : Array CpInfo := pool [(5, u "<init>"), (0, u "()V"), (1, .class_ 10), (1, u "java/lang/Object")] 113

def k0m0 : Method := { name := "<init>", desc := "()V", sig := { parameters := [], returnType := none }, accessFlags := 1, code := none }
/-- java/lang/Object -/
def k0 : Class := { plain "java/lang/Object" none with
  accessFlags := 33
  interfaces := #[]
  cf := some (fileOf pool0 8 #[] #[{ accessFlags := 1, nameIndex := 5, descriptorIndex := 6, attributes := #[] }] 33 0 #[] #[])
  fields := #[]
  methods := #[k0m0]
  instanceTypes := #[]
  staticTypes := #[]
  resolved := Array.replicate 124 none
  statics := none }

def pool1 : Array CpInfo := pool [(2, .class_ 4), (1, u "java/lang/Object"), (0, u "<init>"), (0, u "()V"), (0, .methodref 8 9), (0, .class_ 10), (0, .nameAndType 11 12), (0, u "com/example/corbel/corbel/IndexOutput"), (0, u "writeVInt"), (0, u "([BII)I"), (0, .methodref 14 15), (0, .class_ 16), (0, .nameAndType 17 18), (0, u "com/example/corbel/corbel/IndexOutputWriteVIntPinLaw"), (0, u "len"), (0, u "(I)I"), (0, .methodref 14 20), (0, .nameAndType 21 22), (0, u "exp"), (0, u "(IIIBI)B"), (3, u "law"), (0, u "(III)Z")] 4

def k1m0 : Method := { name := "<init>", desc := "()V", sig := { parameters := [], returnType := none }, accessFlags := 1, code := none }
def k1c1 : Code := { maxStack := 2, maxLocals := 1, code := method_2_code, exceptionTable := #[], attributes := #[] }
def k1m1 : Method := { name := "len", desc := "(I)I", sig := { parameters := [.int], returnType := some .int }, accessFlags := 10, code := some k1c1 }
def k1c2 : Code := { maxStack := 3, maxLocals := 7, code := method_3_code, exceptionTable := #[], attributes := #[] }
def k1m2 : Method := { name := "exp", desc := "(IIIBI)B", sig := { parameters := [.int, .int, .int, .byte, .int], returnType := some .byte }, accessFlags := 10, code := some k1c2 }
def k1c3 : Code := { maxStack := 6, maxLocals := 8, code := code, exceptionTable := #[], attributes := #[] }
def k1m3 : Method := { name := "law", desc := "(III)Z", sig := { parameters := [.int, .int, .int], returnType := some .boolean }, accessFlags := 9, code := some k1c3 }
/-- com/example/corbel/corbel/IndexOutputWriteVIntPinLaw -/
def k1 : Class := { plain "com/example/corbel/corbel/IndexOutputWriteVIntPinLaw" (some 0) with
  accessFlags := 49
  interfaces := #[]
  cf := some (fileOf pool1 14 #[] #[{ accessFlags := 1, nameIndex := 5, descriptorIndex := 6, attributes := #[] }, { accessFlags := 10, nameIndex := 17, descriptorIndex := 18, attributes := #[] }, { accessFlags := 10, nameIndex := 21, descriptorIndex := 22, attributes := #[] }, { accessFlags := 9, nameIndex := 26, descriptorIndex := 27, attributes := #[] }] 49 2 #[] #[])
  fields := #[]
  methods := #[k1m0, k1m1, k1m2, k1m3]
  instanceTypes := #[]
  staticTypes := #[]
  resolved := Array.replicate 32 none
  statics := none }

def pool2 : Array CpInfo := pool [(1, .class_ 2), (0, u "java/lang/AutoCloseable"), (0, .class_ 4), (0, u "java/lang/Object")] 7

/-- java/lang/AutoCloseable -/
def k2 : Class := { plain "java/lang/AutoCloseable" (some 0) with
  accessFlags := 1537
  interfaces := #[]
  cf := some (fileOf pool2 1 #[] #[] 1537 3 #[] #[])
  fields := #[]
  methods := #[]
  instanceTypes := #[]
  staticTypes := #[]
  resolved := Array.replicate 12 none
  statics := none }

def pool3 : Array CpInfo := pool [(1, .class_ 2), (0, u "java/io/Closeable"), (0, .class_ 4), (0, u "java/lang/Object"), (0, .class_ 6), (0, u "java/lang/AutoCloseable")] 7

/-- java/io/Closeable -/
def k3 : Class := { plain "java/io/Closeable" (some 0) with
  accessFlags := 1537
  interfaces := #[2]
  cf := some (fileOf pool3 1 #[] #[] 1537 3 #[5] #[])
  fields := #[]
  methods := #[]
  instanceTypes := #[]
  staticTypes := #[]
  resolved := Array.replicate 14 none
  statics := none }

def pool4 : Array CpInfo := pool [(2, .class_ 4), (1, u "java/lang/Object"), (6, .class_ 13), (1, u "com/example/corbel/corbel/IndexOutput"), (0, u "checksum"), (0, u "Ljava/util/zip/CRC32;"), (3, u "buffer"), (0, u "[B"), (2, u "name"), (0, u "Ljava/lang/String;"), (2, u "sink"), (0, u "Lcom/example/corbel/corbel/IndexOutput$Sink;"), (38, .class_ 68), (0, u "com/example/corbel/corbel/IndexOutput$ChannelSink"), (10, .class_ 80), (0, u "com/example/corbel/corbel/IndexOutput$MemorySink"), (21, u "position"), (0, u "J"), (2, u "buffered"), (0, u "I"), (30, .class_ 140), (1, u "com/example/corbel/corbel/IndexOutput$Sink"), (12, u "LONGS"), (0, u "Ljava/lang/invoke/VarHandle;"), (10, u "writeVInt"), (0, u "([BII)I"), (35, u "finished"), (0, u "Z"), (15, .class_ 220), (0, u "java/io/Closeable"), (0, u "BUFFER_SIZE"), (1, u "MAX_VINT_LENGTH")] 35

def k4c0 : Code := { maxStack := 4, maxLocals := 5, code := prog_111_method_16_code, exceptionTable := #[], attributes := #[] }
def k4m0 : Method := { name := "writeVInt", desc := "([BII)I", sig := { parameters := [(.array .byte), .int, .int], returnType := some .int }, accessFlags := 8, code := some k4c0 }
/-- com/example/corbel/corbel/IndexOutput -/
def k4 : Class := { plain "com/example/corbel/corbel/IndexOutput" (some 0) with
  accessFlags := 48
  interfaces := #[3]
  cf := some (fileOf pool4 11 #[.nestMembers #[79, 67, 138]] #[{ accessFlags := 8, nameIndex := 165, descriptorIndex := 166, attributes := #[] }] 48 2 #[219] #[{ accessFlags := 26, nameIndex := 221, descriptorIndex := 107, attributes := #[] }, { accessFlags := 26, nameIndex := 153, descriptorIndex := 154, attributes := #[] }, { accessFlags := 24, nameIndex := 223, descriptorIndex := 107, attributes := #[] }, { accessFlags := 18, nameIndex := 23, descriptorIndex := 24, attributes := #[] }, { accessFlags := 18, nameIndex := 27, descriptorIndex := 28, attributes := #[] }, { accessFlags := 18, nameIndex := 14, descriptorIndex := 15, attributes := #[] }, { accessFlags := 18, nameIndex := 19, descriptorIndex := 20, attributes := #[] }, { accessFlags := 2, nameIndex := 106, descriptorIndex := 107, attributes := #[] }, { accessFlags := 2, nameIndex := 102, descriptorIndex := 103, attributes := #[] }, { accessFlags := 2, nameIndex := 202, descriptorIndex := 203, attributes := #[] }])
  fields := #[{ name := "BUFFER_SIZE", type := .int, accessFlags := 26, slot := 0, constantValue := 0 }, { name := "LONGS", type := (.object "java/lang/invoke/VarHandle"), accessFlags := 26, slot := 1, constantValue := 0 }, { name := "MAX_VINT_LENGTH", type := .int, accessFlags := 24, slot := 2, constantValue := 0 }, { name := "name", type := (.object "java/lang/String"), accessFlags := 18, slot := 0, constantValue := 0 }, { name := "sink", type := (.object "com/example/corbel/corbel/IndexOutput$Sink"), accessFlags := 18, slot := 1, constantValue := 0 }, { name := "checksum", type := (.object "java/util/zip/CRC32"), accessFlags := 18, slot := 2, constantValue := 0 }, { name := "buffer", type := (.array .byte), accessFlags := 18, slot := 3, constantValue := 0 }, { name := "buffered", type := .int, accessFlags := 2, slot := 4, constantValue := 0 }, { name := "position", type := .long, accessFlags := 2, slot := 5, constantValue := 0 }, { name := "finished", type := .boolean, accessFlags := 2, slot := 6, constantValue := 0 }]
  methods := #[k4m0]
  instanceTypes := #[(.object "java/lang/String"), (.object "com/example/corbel/corbel/IndexOutput$Sink"), (.object "java/util/zip/CRC32"), (.array .byte), .int, .long, .boolean]
  staticTypes := #[.int, (.object "java/lang/invoke/VarHandle"), .int]
  resolved := Array.replicate 259 none
  statics := none }

def pool5 : Array CpInfo := pool [(1, u "java/lang/Cloneable"), (0, .class_ 1), (0, u "java/lang/Object"), (0, .class_ 3)] 3

/-- java/lang/Cloneable -/
def k5 : Class := { plain "java/lang/Cloneable" (some 0) with
  accessFlags := 1537
  interfaces := #[]
  cf := some (fileOf pool5 2 #[] #[] 1537 4 #[] #[])
  fields := #[]
  methods := #[]
  instanceTypes := #[]
  staticTypes := #[]
  resolved := Array.replicate 8 none
  statics := none }

def pool6 : Array CpInfo := pool [(1, u "java/io/Serializable"), (0, .class_ 1), (0, u "java/lang/Object"), (0, .class_ 3)] 3

/-- java/io/Serializable -/
def k6 : Class := { plain "java/io/Serializable" (some 0) with
  accessFlags := 1537
  interfaces := #[]
  cf := some (fileOf pool6 2 #[] #[] 1537 4 #[] #[])
  fields := #[]
  methods := #[]
  instanceTypes := #[]
  staticTypes := #[]
  resolved := Array.replicate 8 none
  statics := none }

/-- the primitive byte -/
def k7 : Class := { plain "byte" none with kind := .primitive 'B', accessFlags := 0x411 }
/-- [B -/
def k8 : Class := { plain "[B" (some 0) with kind := .array 7 .byte, interfaces := #[5, 6], accessFlags := 1041 }

/-- the primitive int -/
def k9 : Class := { plain "int" none with kind := .primitive 'I', accessFlags := 0x411 }
/-- [I -/
def k10 : Class := { plain "[I" (some 0) with kind := .array 9 .int, interfaces := #[5, 6], accessFlags := 1041 }

def heap : Heap := #[]
def classes : Array Class := #[k0, k1, k2, k3, k4, k5, k6, k7, k8, k9, k10]
def interned : List (Array UInt16 × Addr) := []
def slotsUsed : Nat := 0
def theMethod : MethodId := ⟨1, 3⟩
def args0 : Array Value := #[.int 5, .int 7, .int 9]
def aboutOver (below : List Frame) : State where
  vm := { classes := classes, interned := interned.toArray }
  heap := heap
  slotsUsed := slotsUsed
  threads := #[{ frames := .invoking theMethod args0 :: below }]
def below0 : List Frame := [.native { method := ⟨0, 0⟩, args := #[] }]
def about1 : State := aboutOver below0
def p0 : Program := .bare "" "" ""
def e0 : Env := launch0.env 0 0 0
theorem w_frames : about1.frames = Frame.invoking theMethod args0 :: below0 := rfl
set_option maxRecDepth 65536 in
theorem w_args : argsFit about1.vm theMethod args0 = true := by decide +kernel
set_option maxRecDepth 65536 in
theorem w_heap : heapFits about1 = true := by decide +kernel
set_option maxRecDepth 65536 in
theorem w_runnable : about1.curStatus? = some .runnable := by decide +kernel
set_option maxRecDepth 65536 in
theorem w_alone : about1.alone = true := by decide +kernel
set_option maxRecDepth 65536 in
theorem w_named : about1.methodNamed? x = some theMethod := by decide +kernel
set_option maxRecDepth 65536 in
theorem w_hears : about1.hears theMethod below0 = true := by decide +kernel
set_option maxRecDepth 65536 in
theorem w_ripe : about1.ripe theMethod args0 below0 = true := by decide +kernel
theorem w_running : about1.status = .running := rfl
set_option maxRecDepth 65536 in
theorem w_room : about1.hasRoom e0.platform room_1 = true :=
  launch0.hasRoom_least _ room_1 (by decide +kernel) (by decide +kernel) (by decide +kernel) (by decide +kernel) (by decide +kernel) (by decide +kernel)
theorem allAtoms_all (ts : List Jvm.Cond) (a : Array Jvm.Value) (st : Jvm.State) : (allAtoms ts).before a st = ts.all (fun c => c.before a st) := by
  induction ts with
  | nil => rfl
  | cons c t ih =>
    show (Jvm.Cond.and c (allAtoms t)).before a st = _
    rw [Jvm.Cond.before_and, ih, List.all_cons]
def words1 : List Jvm.Cond := Jvm.Cond.code x code maxLocals ret :: tables_1
/-- a 'code' word, met by the world's own term for the bytes: nothing is compared byte by byte -/
theorem code_word {y : MethodName} {bytes : ByteArray} {mx : Nat} {rt : Option FieldType} {a : Array Value} {s : State} {m : MethodId} {meth : Method} {c : Code} (h1 : s.methodNamed? y = some m) (h2 : s.vm.method? m = some meth) (h3 : meth.code = some c) (h4 : c.code = bytes)
    (h5 : (c.maxLocals == mx && c.exceptionTable.isEmpty && decide (c.maxStack ≤ mostOperands) && decide (meth.sig.returnType = rt) && !meth.locks && decide (parseMethodDescriptor y.desc = some meth.sig)) = true) : (Jvm.Cond.code y bytes mx rt).before a s = true := by
  simp only [Bool.and_eq_true, beq_iff_eq, Bool.not_eq_true', decide_eq_true_eq] at h5
  obtain ⟨⟨⟨⟨⟨g1, g2⟩, g3⟩, g4⟩, g5⟩, g6⟩ := h5
  simp [Cond.before, Cond.holds, Cond.value, h1, h2, h3, h4, g1, g2, g3, g4, g5, g6]
def isCode : Jvm.Cond → Bool
  | .code _ _ _ _ => true
  | _ => false
theorem all_split {L : List Jvm.Cond} {P : Jvm.Cond → Bool} (h1 : L.all (fun c => isCode c || P c) = true) (h2 : ∀ c ∈ L.filter isCode, P c = true) : L.all P = true := by
  refine List.all_eq_true.mpr fun c hc => ?_
  have h := List.all_eq_true.mp h1 c hc
  rcases Bool.eq_false_or_eq_true (isCode c) with hi | hi
  · exact h2 c (List.mem_filter.mpr ⟨hc, hi⟩)
  · simpa [hi] using h
set_option maxRecDepth 65536 in
theorem w_c0 : (Jvm.Cond.code x code maxLocals ret).before args0 about1 = true := code_word (m := ⟨1, 3⟩) (meth := k1m3) (c := k1c3) (by decide +kernel) rfl rfl rfl (by decide +kernel)
set_option maxRecDepth 65536 in
theorem w_c1 : (Jvm.Cond.code ({ cls := "com/example/corbel/corbel/IndexOutput", name := "writeVInt", desc := "([BII)I" } : Jvm.MethodName) prog_111_method_16_code (5 : Nat) (Option.some Jvm.ClassFile.FieldType.int)).before args0 about1 = true := code_word (m := ⟨4, 0⟩) (meth := k4m0) (c := k4c0) (by decide +kernel) rfl rfl rfl (by decide +kernel)
set_option maxRecDepth 65536 in
theorem w_c2 : (Jvm.Cond.code ({ cls := "com/example/corbel/corbel/IndexOutputWriteVIntPinLaw", name := "len", desc := "(I)I" } : Jvm.MethodName) method_2_code (1 : Nat) (Option.some Jvm.ClassFile.FieldType.int)).before args0 about1 = true := code_word (m := ⟨1, 1⟩) (meth := k1m1) (c := k1c1) (by decide +kernel) rfl rfl rfl (by decide +kernel)
set_option maxRecDepth 65536 in
theorem w_c3 : (Jvm.Cond.code ({ cls := "com/example/corbel/corbel/IndexOutputWriteVIntPinLaw", name := "exp", desc := "(IIIBI)B" } : Jvm.MethodName) method_3_code (7 : Nat) (Option.some Jvm.ClassFile.FieldType.byte)).before args0 about1 = true := code_word (m := ⟨1, 2⟩) (meth := k1m2) (c := k1c2) (by decide +kernel) rfl rfl rfl (by decide +kernel)
def codes1 : List Jvm.Cond := [Jvm.Cond.code x code maxLocals ret, Jvm.Cond.code ({ cls := "com/example/corbel/corbel/IndexOutput", name := "writeVInt", desc := "([BII)I" } : Jvm.MethodName) prog_111_method_16_code (5 : Nat) (Option.some Jvm.ClassFile.FieldType.int), Jvm.Cond.code ({ cls := "com/example/corbel/corbel/IndexOutputWriteVIntPinLaw", name := "len", desc := "(I)I" } : Jvm.MethodName) method_2_code (1 : Nat) (Option.some Jvm.ClassFile.FieldType.int), Jvm.Cond.code ({ cls := "com/example/corbel/corbel/IndexOutputWriteVIntPinLaw", name := "exp", desc := "(IIIBI)B" } : Jvm.MethodName) method_3_code (7 : Nat) (Option.some Jvm.ClassFile.FieldType.byte)]
set_option maxRecDepth 65536 in
theorem codes_eq : words1.filter isCode = codes1 := rfl
theorem w_codes : ∀ c ∈ words1.filter isCode, c.before args0 about1 = true := by
  rw [codes_eq]
  intro c hc
  simp only [codes1, List.mem_cons, List.not_mem_nil, or_false] at hc
  rcases hc with rfl | rfl | rfl | rfl
  · exact w_c0
  · exact w_c1
  · exact w_c2
  · exact w_c3
set_option maxRecDepth 65536 in
theorem w_t1 : words1.all (fun c => isCode c || c.before args0 about1) = true := by decide +kernel
theorem w_tables : (allAtoms (Jvm.Cond.code x code maxLocals ret :: tables_1)).before args0 about1 = true := by
  rw [allAtoms_all]
  show words1.all (fun c => c.before args0 about1) = true
  refine all_split ?_ w_codes
  rw [w_t1]
set_option maxRecDepth 65536 in
theorem w_case : (Jvm.Cond.and given_1 narrow_1).before args0 about1 = true := by decide +kernel
theorem w_applies : (headSpec (Jvm.Cond.code x code maxLocals ret :: tables_1) room_1).applies x e0.platform about1 = true :=
  (Spec.applies_iff w_frames).mpr ⟨w_running, w_runnable, w_alone, w_named, w_hears, w_ripe, w_room, w_tables⟩
theorem atStart : AtStart classFile x code maxLocals ret World_1 tables_1 room_1 Calls_1 rest_1 Pre_1 launch0 p0 e0 about1 theMethod args0 below0 :=
  ⟨lists_1, trivial, launch0.admits_env _ _ _, launch0.least_env, fairChoices_fair.cas, fairChoices_fair.clock, w_frames, w_args, w_heap, w_applies, trivial, trivial, w_case⟩
end start1
theorem witness_1 : WitnessClaimed_1 := ⟨start1.p0, start1.e0, start1.about1, start1.theMethod, start1.args0, start1.below0, start1.atStart⟩
end Jvm.Pilot.@@N@@
