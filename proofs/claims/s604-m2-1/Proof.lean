import JvmDerived
import JvmDerived.Pilot.@@N@@Statement
import JvmDerived.Pilot.@@N@@Code
set_option linter.unusedVariables false
set_option linter.unusedSimpArgs false
namespace Jvm.RoadKit
open Sem ClassFile Op Lib Jvm.Stand Jvm.Free Jvm.LawKit
section New
variable {p : Program} {l : Launch} {e : Env} {R : Room} {s : State} {m : MethodId} {args : Array Value} {below : List Frame} {meth : Method} {c : Code} {T : State} {locs : List Loc} {cells slots : Nat}
theorem retI (X : Stand p l e R s m args below meth c T locs cells slots) (hx : p.tables.exec = Jvm.exec) {pc : Nat} {Ls : Array Slot} {z : Int32} {rest : List Value} (hret : meth.sig.returnType = some .int) (hd : decode c.code pc = .ok (.ireturn, 1)) {fs : List Frame}
    (hl : ∀ (f : JFrame) (acts : List Action), f.method = m → f.locked = none → f.entered = [] → (doReturn e (T.setTop f) acts (some (.int z))).1 = T.setFrames fs) : Steps p.tables e below (T.setTop (mkF m pc Ls (.int z :: rest))) (T.setFrames fs) := by
  have hm' : T.vm.method? m = some meth := X.method'
  have hn : narrow .int (.int z) = .int z := rfl
  show Steps p.tables e below (T.setTop { method := m, pc := pc, locals := Ls, stack := _ :: rest, locked := none }) _
  jvm_step X.here [X.here.top, hx, hd, hm', hret, hn]
  first | (intro acts; rw [hl _ acts rfl rfl rfl]) | rw [hl _ _ rfl rfl rfl]
  exact Steps.refl _
/-- the walk that stands at g in T comes to its end, with Q -/
def OE (FE : State → Outcome → State → List Loc → Nat → Nat → Prop) (p : Program) (e : Env) (below : List Frame) (s : State) (Q : Option Value → Heap → List Loc → Prop) (kc ks : Nat) (T : State) (g : JFrame) : Prop :=
  ∃ s₂ o, Steps p.tables e below (T.setTop g) s₂ ∧ s₂.status = .running ∧ Ended s₂ below o ∧ ∃ v L, o = .returned v ∧ Q v s₂.heap L ∧ FE s o s₂ L kc ks
variable {FE : State → Outcome → State → List Loc → Nat → Nat → Prop} {Q : Option Value → Heap → List Loc → Prop} {kc ks : Nat} {s' : State}
theorem OE.of {T' : State} {g g' : JFrame} (k : ∀ t, Steps p.tables e below (T'.setTop g') t → Steps p.tables e below (T.setTop g) t) (h : OE FE p e below s Q kc ks T' g') : OE FE p e below s Q kc ks T g := by
  obtain ⟨s₂, o, h1, h2⟩ := h
  exact ⟨s₂, o, k _ h1, h2⟩
theorem OE.retN (X : Stand p l e R s m args below meth c T locs cells slots) (hx : p.tables.exec = Jvm.exec) {pc : Nat} {Ls : Array Slot} {z : Int32} {t : FieldType} {rest : List Value} (hret : meth.sig.returnType = some t) (ht : t = .boolean ∨ t = .byte ∨ t = .char ∨ t = .short) (hlk : meth.locks = false)
    (hd : decode c.code pc = .ok (.ireturn, 1)) (hc : cells ≤ kc) (hs : slots ≤ ks) (hQ : Q (some (.int (nar t z))) T.heap locs) : OE FrameEnd p e below s Q kc ks T (mkF m pc Ls (.int z :: rest)) := by
  obtain ⟨fs, hr, hrun, hended, hW, hsame⟩ := X.leave (v := some (.int (nar t z))) (fun h => by rw [hret] at h; cases h) hlk
  exact ⟨_, _, Jvm.RoadKit.retN X hx hret ht hd hr, hrun, hended, _, _, rfl, hQ, ⟨_, rfl⟩, hW, hsame.mono hc hs⟩
theorem OE.retI (X : Stand p l e R s m args below meth c T locs cells slots) (hx : p.tables.exec = Jvm.exec) {pc : Nat} {Ls : Array Slot} {z : Int32} {rest : List Value} (hret : meth.sig.returnType = some .int) (hlk : meth.locks = false)
    (hd : decode c.code pc = .ok (.ireturn, 1)) (hc : cells ≤ kc) (hs : slots ≤ ks) (hQ : Q (some (.int z)) T.heap locs) : OE FrameEnd p e below s Q kc ks T (mkF m pc Ls (.int z :: rest)) := by
  obtain ⟨fs, hr, hrun, hended, hW, hsame⟩ := X.leave (v := some (.int z)) (fun h => by rw [hret] at h; cases h) hlk
  exact ⟨_, _, Jvm.RoadKit.retI X hx hret hd hr, hrun, hended, _, _, rfl, hQ, ⟨_, rfl⟩, hW, hsame.mono hc hs⟩
theorem OE.retJ (X : Stand p l e R s m args below meth c T locs cells slots) (hx : p.tables.exec = Jvm.exec) {pc : Nat} {Ls : Array Slot} {z : Int64} (hret : meth.sig.returnType = some .long) (hlk : meth.locks = false)
    (hd : decode c.code pc = .ok (.lreturn, 1)) (hc : cells ≤ kc) (hs : slots ≤ ks) (hQ : Q (some (.long z)) T.heap locs) : OE FrameEnd p e below s Q kc ks T (mkF m pc Ls [.long z]) := by
  obtain ⟨fs, hr, hrun, hended, hW, hsame⟩ := X.leave (v := some (.long z)) (fun h => by rw [hret] at h; cases h) hlk
  exact ⟨_, _, X.lreturnOut hx hret hd hr, hrun, hended, _, _, rfl, hQ, ⟨_, rfl⟩, hW, hsame.mono hc hs⟩
theorem OE.retA (X : Stand p l e R s m args below meth c T locs cells slots) (hx : p.tables.exec = Jvm.exec) {pc : Nat} {Ls : Array Slot} {w : Value} {t : FieldType} (hw : w.isRef = true) (hret : meth.sig.returnType = some t) (ht : t.isReference = true) (hlk : meth.locks = false)
    (hd : decode c.code pc = .ok (.areturn, 1)) (hc : cells ≤ kc) (hs : slots ≤ ks) (hQ : Q (some w) T.heap locs) : OE FrameEnd p e below s Q kc ks T (mkF m pc Ls [w]) := by
  obtain ⟨fs, hr, hrun, hended, hW, hsame⟩ := X.leave (v := some w) (fun h => by rw [hret] at h; cases h) hlk
  exact ⟨_, _, X.areturnOut hx hw hret ht hd hr, hrun, hended, _, _, rfl, hQ, ⟨_, rfl⟩, hW, hsame.mono hc hs⟩
theorem OE.ret0 (X : Stand p l e R s m args below meth c T locs cells slots) (hx : p.tables.exec = Jvm.exec) {pc : Nat} {Ls : Array Slot} (hret : meth.sig.returnType = none) (hlk : meth.locks = false)
    (hd : decode c.code pc = .ok (.return_, 1)) (hc : cells ≤ kc) (hs : slots ≤ ks) (hQ : Q none T.heap locs) : OE FrameEnd p e below s Q kc ks T (mkF m pc Ls []) := by
  obtain ⟨fs, hr, hrun, hended, hW, hsame⟩ := X.leave (v := none) (fun _ => rfl) hlk
  exact ⟨_, _, X.returnOut hx hret hd hr, hrun, hended, _, _, rfl, hQ, ⟨_, rfl⟩, hW, hsame.mono hc hs⟩
theorem OE.iload (X : Stand p l e R s' m args below meth c T locs cells slots) (hx : p.tables.exec = Jvm.exec) {code : ByteArray} (hby : c.code = code) {pc : Nat} {Ls : Array Slot} {k : Nat} {v : Int32} {st : List Value} (hd : decode code pc = .ok (.iload k, 2)) (hl : Ls[k]? = some (.val (.int v))) (h : OE FE p e below s Q kc ks T (mkF m (pc + 2) Ls (.int v :: st))) : OE FE p e below s Q kc ks T (mkF m pc Ls (st)) := OE.of (fun _ k' => XS.iload X.here hx rfl (hb hby hd) hl k') h
theorem OE.iloadN (X : Stand p l e R s' m args below meth c T locs cells slots) (hx : p.tables.exec = Jvm.exec) {code : ByteArray} (hby : c.code = code) {pc : Nat} {Ls : Array Slot} {k : Fin 4} {v : Int32} {st : List Value} (hd : decode code pc = .ok (.iload_n k, 1)) (hl : Ls[k.val]? = some (.val (.int v))) (h : OE FE p e below s Q kc ks T (mkF m (pc + 1) Ls (.int v :: st))) : OE FE p e below s Q kc ks T (mkF m pc Ls (st)) := OE.of (fun _ k' => XS.iloadN X.here hx rfl (hb hby hd) hl k') h
theorem OE.lload (X : Stand p l e R s' m args below meth c T locs cells slots) (hx : p.tables.exec = Jvm.exec) {code : ByteArray} (hby : c.code = code) {pc : Nat} {Ls : Array Slot} {k : Nat} {v : Int64} {st : List Value} (hd : decode code pc = .ok (.lload k, 2)) (hl : Ls[k]? = some (.val (.long v))) (h : OE FE p e below s Q kc ks T (mkF m (pc + 2) Ls (.long v :: st))) : OE FE p e below s Q kc ks T (mkF m pc Ls (st)) := OE.of (fun _ k' => XS.lload X.here hx rfl (hb hby hd) hl k') h
theorem OE.lloadN (X : Stand p l e R s' m args below meth c T locs cells slots) (hx : p.tables.exec = Jvm.exec) {code : ByteArray} (hby : c.code = code) {pc : Nat} {Ls : Array Slot} {k : Fin 4} {v : Int64} {st : List Value} (hd : decode code pc = .ok (.lload_n k, 1)) (hl : Ls[k.val]? = some (.val (.long v))) (h : OE FE p e below s Q kc ks T (mkF m (pc + 1) Ls (.long v :: st))) : OE FE p e below s Q kc ks T (mkF m pc Ls (st)) := OE.of (fun _ k' => XS.lloadN X.here hx rfl (hb hby hd) hl k') h
theorem OE.aload (X : Stand p l e R s' m args below meth c T locs cells slots) (hx : p.tables.exec = Jvm.exec) {code : ByteArray} (hby : c.code = code) {pc : Nat} {Ls : Array Slot} {k : Nat} {v : Value} {st : List Value} (hd : decode code pc = .ok (.aload k, 2)) (hl : Ls[k]? = some (.val v)) (hv : v.isRef = true) (h : OE FE p e below s Q kc ks T (mkF m (pc + 2) Ls (v :: st))) : OE FE p e below s Q kc ks T (mkF m pc Ls (st)) := OE.of (fun _ k' => XS.aload X.here hx rfl (hb hby hd) hl hv k') h
theorem OE.aloadN (X : Stand p l e R s' m args below meth c T locs cells slots) (hx : p.tables.exec = Jvm.exec) {code : ByteArray} (hby : c.code = code) {pc : Nat} {Ls : Array Slot} {k : Fin 4} {v : Value} {st : List Value} (hd : decode code pc = .ok (.aload_n k, 1)) (hl : Ls[k.val]? = some (.val v)) (hv : v.isRef = true) (h : OE FE p e below s Q kc ks T (mkF m (pc + 1) Ls (v :: st))) : OE FE p e below s Q kc ks T (mkF m pc Ls (st)) := OE.of (fun _ k' => XS.aloadN X.here hx rfl (hb hby hd) hl hv k') h
theorem OE.istore (X : Stand p l e R s' m args below meth c T locs cells slots) (hx : p.tables.exec = Jvm.exec) {code : ByteArray} (hby : c.code = code) {pc : Nat} {Ls : Array Slot} {k : Nat} {v : Int32} {st : List Value} {l' : Array Slot} (hd : decode code pc = .ok (.istore k, 2)) (hl : storeLocals Ls k (.int v) = some l') (h : OE FE p e below s Q kc ks T (mkF m (pc + 2) l' (st))) : OE FE p e below s Q kc ks T (mkF m pc Ls (.int v :: st)) := OE.of (fun _ k' => XS.istore X.here hx rfl (hb hby hd) rfl hl k') h
theorem OE.istoreN (X : Stand p l e R s' m args below meth c T locs cells slots) (hx : p.tables.exec = Jvm.exec) {code : ByteArray} (hby : c.code = code) {pc : Nat} {Ls : Array Slot} {k : Fin 4} {v : Int32} {st : List Value} {l' : Array Slot} (hd : decode code pc = .ok (.istore_n k, 1)) (hl : storeLocals Ls k.val (.int v) = some l') (h : OE FE p e below s Q kc ks T (mkF m (pc + 1) l' (st))) : OE FE p e below s Q kc ks T (mkF m pc Ls (.int v :: st)) := OE.of (fun _ k' => XS.istoreN X.here hx rfl (hb hby hd) rfl hl k') h
theorem OE.lstore (X : Stand p l e R s' m args below meth c T locs cells slots) (hx : p.tables.exec = Jvm.exec) {code : ByteArray} (hby : c.code = code) {pc : Nat} {Ls : Array Slot} {k : Nat} {v : Int64} {st : List Value} {l' : Array Slot} (hd : decode code pc = .ok (.lstore k, 2)) (hl : storeLocals Ls k (.long v) = some l') (h : OE FE p e below s Q kc ks T (mkF m (pc + 2) l' (st))) : OE FE p e below s Q kc ks T (mkF m pc Ls (.long v :: st)) := OE.of (fun _ k' => XS.lstore X.here hx rfl (hb hby hd) rfl hl k') h
theorem OE.lstoreN (X : Stand p l e R s' m args below meth c T locs cells slots) (hx : p.tables.exec = Jvm.exec) {code : ByteArray} (hby : c.code = code) {pc : Nat} {Ls : Array Slot} {k : Fin 4} {v : Int64} {st : List Value} {l' : Array Slot} (hd : decode code pc = .ok (.lstore_n k, 1)) (hl : storeLocals Ls k.val (.long v) = some l') (h : OE FE p e below s Q kc ks T (mkF m (pc + 1) l' (st))) : OE FE p e below s Q kc ks T (mkF m pc Ls (.long v :: st)) := OE.of (fun _ k' => XS.lstoreN X.here hx rfl (hb hby hd) rfl hl k') h
theorem OE.astore (X : Stand p l e R s' m args below meth c T locs cells slots) (hx : p.tables.exec = Jvm.exec) {code : ByteArray} (hby : c.code = code) {pc : Nat} {Ls : Array Slot} {k : Nat} {v : Value} {st : List Value} {l' : Array Slot} (hd : decode code pc = .ok (.astore k, 2)) (hv : v.isRef = true) (hl : storeLocals Ls k v = some l') (h : OE FE p e below s Q kc ks T (mkF m (pc + 2) l' (st))) : OE FE p e below s Q kc ks T (mkF m pc Ls (v :: st)) := OE.of (fun _ k' => XS.astore X.here hx rfl (hb hby hd) rfl hv hl k') h
theorem OE.astoreN (X : Stand p l e R s' m args below meth c T locs cells slots) (hx : p.tables.exec = Jvm.exec) {code : ByteArray} (hby : c.code = code) {pc : Nat} {Ls : Array Slot} {k : Fin 4} {v : Value} {st : List Value} {l' : Array Slot} (hd : decode code pc = .ok (.astore_n k, 1)) (hv : v.isRef = true) (hl : storeLocals Ls k.val v = some l') (h : OE FE p e below s Q kc ks T (mkF m (pc + 1) l' (st))) : OE FE p e below s Q kc ks T (mkF m pc Ls (v :: st)) := OE.of (fun _ k' => XS.astoreN X.here hx rfl (hb hby hd) rfl hv hl k') h
theorem OE.iconst (X : Stand p l e R s' m args below meth c T locs cells slots) (hx : p.tables.exec = Jvm.exec) {code : ByteArray} (hby : c.code = code) {pc : Nat} {Ls : Array Slot} {i : Int} {st : List Value} (hd : decode code pc = .ok (.iconst i, 1)) (z : Int32) (hz : Int32.ofInt i = z) (h : OE FE p e below s Q kc ks T (mkF m (pc + 1) Ls (.int z :: st))) : OE FE p e below s Q kc ks T (mkF m pc Ls (st)) := OE.of (fun _ k' => XS.iconst X.here hx rfl (hb hby hd) (by subst hz; exact k')) h
theorem OE.bipush (X : Stand p l e R s' m args below meth c T locs cells slots) (hx : p.tables.exec = Jvm.exec) {code : ByteArray} (hby : c.code = code) {pc : Nat} {Ls : Array Slot} {i : Int} {st : List Value} (hd : decode code pc = .ok (.bipush i, 2)) (z : Int32) (hz : (Int8.ofInt i).toInt32 = z) (h : OE FE p e below s Q kc ks T (mkF m (pc + 2) Ls (.int z :: st))) : OE FE p e below s Q kc ks T (mkF m pc Ls (st)) := OE.of (fun _ k' => XS.bipush X.here hx rfl (hb hby hd) (by subst hz; exact k')) h
theorem OE.sipush (X : Stand p l e R s' m args below meth c T locs cells slots) (hx : p.tables.exec = Jvm.exec) {code : ByteArray} (hby : c.code = code) {pc : Nat} {Ls : Array Slot} {i : Int} {st : List Value} (hd : decode code pc = .ok (.sipush i, 3)) (z : Int32) (hz : (Int16.ofInt i).toInt32 = z) (h : OE FE p e below s Q kc ks T (mkF m (pc + 3) Ls (.int z :: st))) : OE FE p e below s Q kc ks T (mkF m pc Ls (st)) := OE.of (fun _ k' => XS.sipush X.here hx rfl (hb hby hd) (by subst hz; exact k')) h
theorem OE.lconst (X : Stand p l e R s' m args below meth c T locs cells slots) (hx : p.tables.exec = Jvm.exec) {code : ByteArray} (hby : c.code = code) {pc : Nat} {Ls : Array Slot} {i : Fin 2} {st : List Value} (hd : decode code pc = .ok (.lconst i, 1)) (z : Int64) (hz : Int64.ofNat i = z) (h : OE FE p e below s Q kc ks T (mkF m (pc + 1) Ls (.long z :: st))) : OE FE p e below s Q kc ks T (mkF m pc Ls (st)) := OE.of (fun _ k' => XS.lconst X.here hx rfl (hb hby hd) (by subst hz; exact k')) h
theorem OE.aconstNull (X : Stand p l e R s' m args below meth c T locs cells slots) (hx : p.tables.exec = Jvm.exec) {code : ByteArray} (hby : c.code = code) {pc : Nat} {Ls : Array Slot} {st : List Value} (hd : decode code pc = .ok (.aconst_null, 1))  (h : OE FE p e below s Q kc ks T (mkF m (pc + 1) Ls (.null :: st))) : OE FE p e below s Q kc ks T (mkF m pc Ls (st)) := OE.of (fun _ k' => XS.aconstNull X.here hx rfl (hb hby hd) k') h
theorem OE.iadd (X : Stand p l e R s' m args below meth c T locs cells slots) (hx : p.tables.exec = Jvm.exec) {code : ByteArray} (hby : c.code = code) {pc : Nat} {Ls : Array Slot} {x y : Int32} {st : List Value} (hd : decode code pc = .ok (.iadd, 1))  (h : OE FE p e below s Q kc ks T (mkF m (pc + 1) Ls (.int (x + y) :: st))) : OE FE p e below s Q kc ks T (mkF m pc Ls (.int y :: .int x :: st)) := OE.of (fun _ k' => XS.iadd X.here hx rfl (hb hby hd) rfl k') h
theorem OE.ladd (X : Stand p l e R s' m args below meth c T locs cells slots) (hx : p.tables.exec = Jvm.exec) {code : ByteArray} (hby : c.code = code) {pc : Nat} {Ls : Array Slot} {x y : Int64} {st : List Value} (hd : decode code pc = .ok (.ladd, 1))  (h : OE FE p e below s Q kc ks T (mkF m (pc + 1) Ls (.long (x + y) :: st))) : OE FE p e below s Q kc ks T (mkF m pc Ls (.long y :: .long x :: st)) := OE.of (fun _ k' => XS.ladd X.here hx rfl (hb hby hd) rfl k') h
theorem OE.isub (X : Stand p l e R s' m args below meth c T locs cells slots) (hx : p.tables.exec = Jvm.exec) {code : ByteArray} (hby : c.code = code) {pc : Nat} {Ls : Array Slot} {x y : Int32} {st : List Value} (hd : decode code pc = .ok (.isub, 1))  (h : OE FE p e below s Q kc ks T (mkF m (pc + 1) Ls (.int (x - y) :: st))) : OE FE p e below s Q kc ks T (mkF m pc Ls (.int y :: .int x :: st)) := OE.of (fun _ k' => XS.isub X.here hx rfl (hb hby hd) rfl k') h
theorem OE.lsub (X : Stand p l e R s' m args below meth c T locs cells slots) (hx : p.tables.exec = Jvm.exec) {code : ByteArray} (hby : c.code = code) {pc : Nat} {Ls : Array Slot} {x y : Int64} {st : List Value} (hd : decode code pc = .ok (.lsub, 1))  (h : OE FE p e below s Q kc ks T (mkF m (pc + 1) Ls (.long (x - y) :: st))) : OE FE p e below s Q kc ks T (mkF m pc Ls (.long y :: .long x :: st)) := OE.of (fun _ k' => XS.lsub X.here hx rfl (hb hby hd) rfl k') h
theorem OE.imul (X : Stand p l e R s' m args below meth c T locs cells slots) (hx : p.tables.exec = Jvm.exec) {code : ByteArray} (hby : c.code = code) {pc : Nat} {Ls : Array Slot} {x y : Int32} {st : List Value} (hd : decode code pc = .ok (.imul, 1))  (h : OE FE p e below s Q kc ks T (mkF m (pc + 1) Ls (.int (x * y) :: st))) : OE FE p e below s Q kc ks T (mkF m pc Ls (.int y :: .int x :: st)) := OE.of (fun _ k' => XS.imul X.here hx rfl (hb hby hd) rfl k') h
theorem OE.lmul (X : Stand p l e R s' m args below meth c T locs cells slots) (hx : p.tables.exec = Jvm.exec) {code : ByteArray} (hby : c.code = code) {pc : Nat} {Ls : Array Slot} {x y : Int64} {st : List Value} (hd : decode code pc = .ok (.lmul, 1))  (h : OE FE p e below s Q kc ks T (mkF m (pc + 1) Ls (.long (x * y) :: st))) : OE FE p e below s Q kc ks T (mkF m pc Ls (.long y :: .long x :: st)) := OE.of (fun _ k' => XS.lmul X.here hx rfl (hb hby hd) rfl k') h
theorem OE.iand (X : Stand p l e R s' m args below meth c T locs cells slots) (hx : p.tables.exec = Jvm.exec) {code : ByteArray} (hby : c.code = code) {pc : Nat} {Ls : Array Slot} {x y : Int32} {st : List Value} (hd : decode code pc = .ok (.iand, 1))  (h : OE FE p e below s Q kc ks T (mkF m (pc + 1) Ls (.int (x &&& y) :: st))) : OE FE p e below s Q kc ks T (mkF m pc Ls (.int y :: .int x :: st)) := OE.of (fun _ k' => XS.iand X.here hx rfl (hb hby hd) rfl k') h
theorem OE.land (X : Stand p l e R s' m args below meth c T locs cells slots) (hx : p.tables.exec = Jvm.exec) {code : ByteArray} (hby : c.code = code) {pc : Nat} {Ls : Array Slot} {x y : Int64} {st : List Value} (hd : decode code pc = .ok (.land, 1))  (h : OE FE p e below s Q kc ks T (mkF m (pc + 1) Ls (.long (x &&& y) :: st))) : OE FE p e below s Q kc ks T (mkF m pc Ls (.long y :: .long x :: st)) := OE.of (fun _ k' => XS.land X.here hx rfl (hb hby hd) rfl k') h
theorem OE.ior (X : Stand p l e R s' m args below meth c T locs cells slots) (hx : p.tables.exec = Jvm.exec) {code : ByteArray} (hby : c.code = code) {pc : Nat} {Ls : Array Slot} {x y : Int32} {st : List Value} (hd : decode code pc = .ok (.ior, 1))  (h : OE FE p e below s Q kc ks T (mkF m (pc + 1) Ls (.int (x ||| y) :: st))) : OE FE p e below s Q kc ks T (mkF m pc Ls (.int y :: .int x :: st)) := OE.of (fun _ k' => XS.ior X.here hx rfl (hb hby hd) rfl k') h
theorem OE.lor (X : Stand p l e R s' m args below meth c T locs cells slots) (hx : p.tables.exec = Jvm.exec) {code : ByteArray} (hby : c.code = code) {pc : Nat} {Ls : Array Slot} {x y : Int64} {st : List Value} (hd : decode code pc = .ok (.lor, 1))  (h : OE FE p e below s Q kc ks T (mkF m (pc + 1) Ls (.long (x ||| y) :: st))) : OE FE p e below s Q kc ks T (mkF m pc Ls (.long y :: .long x :: st)) := OE.of (fun _ k' => XS.lor X.here hx rfl (hb hby hd) rfl k') h
theorem OE.ixor (X : Stand p l e R s' m args below meth c T locs cells slots) (hx : p.tables.exec = Jvm.exec) {code : ByteArray} (hby : c.code = code) {pc : Nat} {Ls : Array Slot} {x y : Int32} {st : List Value} (hd : decode code pc = .ok (.ixor, 1))  (h : OE FE p e below s Q kc ks T (mkF m (pc + 1) Ls (.int (x ^^^ y) :: st))) : OE FE p e below s Q kc ks T (mkF m pc Ls (.int y :: .int x :: st)) := OE.of (fun _ k' => XS.ixor X.here hx rfl (hb hby hd) rfl k') h
theorem OE.lxor (X : Stand p l e R s' m args below meth c T locs cells slots) (hx : p.tables.exec = Jvm.exec) {code : ByteArray} (hby : c.code = code) {pc : Nat} {Ls : Array Slot} {x y : Int64} {st : List Value} (hd : decode code pc = .ok (.lxor, 1))  (h : OE FE p e below s Q kc ks T (mkF m (pc + 1) Ls (.long (x ^^^ y) :: st))) : OE FE p e below s Q kc ks T (mkF m pc Ls (.long y :: .long x :: st)) := OE.of (fun _ k' => XS.lxor X.here hx rfl (hb hby hd) rfl k') h
theorem OE.ishl (X : Stand p l e R s' m args below meth c T locs cells slots) (hx : p.tables.exec = Jvm.exec) {code : ByteArray} (hby : c.code = code) {pc : Nat} {Ls : Array Slot} {x y : Int32} {st : List Value} (hd : decode code pc = .ok (.ishl, 1))  (h : OE FE p e below s Q kc ks T (mkF m (pc + 1) Ls (.int (x <<< (y &&& 31)) :: st))) : OE FE p e below s Q kc ks T (mkF m pc Ls (.int y :: .int x :: st)) := OE.of (fun _ k' => XS.ishl X.here hx rfl (hb hby hd) rfl k') h
theorem OE.ishr (X : Stand p l e R s' m args below meth c T locs cells slots) (hx : p.tables.exec = Jvm.exec) {code : ByteArray} (hby : c.code = code) {pc : Nat} {Ls : Array Slot} {x y : Int32} {st : List Value} (hd : decode code pc = .ok (.ishr, 1))  (h : OE FE p e below s Q kc ks T (mkF m (pc + 1) Ls (.int (x >>> (y &&& 31)) :: st))) : OE FE p e below s Q kc ks T (mkF m pc Ls (.int y :: .int x :: st)) := OE.of (fun _ k' => XS.ishr X.here hx rfl (hb hby hd) rfl k') h
theorem OE.iushr (X : Stand p l e R s' m args below meth c T locs cells slots) (hx : p.tables.exec = Jvm.exec) {code : ByteArray} (hby : c.code = code) {pc : Nat} {Ls : Array Slot} {x y : Int32} {st : List Value} (hd : decode code pc = .ok (.iushr, 1))  (h : OE FE p e below s Q kc ks T (mkF m (pc + 1) Ls (.int ((x.toUInt32 >>> (y &&& 31).toUInt32).toInt32) :: st))) : OE FE p e below s Q kc ks T (mkF m pc Ls (.int y :: .int x :: st)) := OE.of (fun _ k' => XS.iushr X.here hx rfl (hb hby hd) rfl k') h
theorem OE.lshl (X : Stand p l e R s' m args below meth c T locs cells slots) (hx : p.tables.exec = Jvm.exec) {code : ByteArray} (hby : c.code = code) {pc : Nat} {Ls : Array Slot} {x : Int64} {y : Int32} {st : List Value} (hd : decode code pc = .ok (.lshl, 1))  (h : OE FE p e below s Q kc ks T (mkF m (pc + 1) Ls (.long (x <<< (y &&& 0x3f).toInt64) :: st))) : OE FE p e below s Q kc ks T (mkF m pc Ls (.int y :: .long x :: st)) := OE.of (fun _ k' => XS.lshl X.here hx rfl (hb hby hd) rfl k') h
theorem OE.lshr (X : Stand p l e R s' m args below meth c T locs cells slots) (hx : p.tables.exec = Jvm.exec) {code : ByteArray} (hby : c.code = code) {pc : Nat} {Ls : Array Slot} {x : Int64} {y : Int32} {st : List Value} (hd : decode code pc = .ok (.lshr, 1))  (h : OE FE p e below s Q kc ks T (mkF m (pc + 1) Ls (.long (x >>> (y &&& 0x3f).toInt64) :: st))) : OE FE p e below s Q kc ks T (mkF m pc Ls (.int y :: .long x :: st)) := OE.of (fun _ k' => XS.lshr X.here hx rfl (hb hby hd) rfl k') h
theorem OE.lushr (X : Stand p l e R s' m args below meth c T locs cells slots) (hx : p.tables.exec = Jvm.exec) {code : ByteArray} (hby : c.code = code) {pc : Nat} {Ls : Array Slot} {x : Int64} {y : Int32} {st : List Value} (hd : decode code pc = .ok (.lushr, 1))  (h : OE FE p e below s Q kc ks T (mkF m (pc + 1) Ls (.long ((x.toUInt64 >>> (y &&& 0x3f).toInt64.toUInt64).toInt64) :: st))) : OE FE p e below s Q kc ks T (mkF m pc Ls (.int y :: .long x :: st)) := OE.of (fun _ k' => XS.lushr X.here hx rfl (hb hby hd) rfl k') h
theorem OE.ineg (X : Stand p l e R s' m args below meth c T locs cells slots) (hx : p.tables.exec = Jvm.exec) {code : ByteArray} (hby : c.code = code) {pc : Nat} {Ls : Array Slot} {x : Int32} {st : List Value} (hd : decode code pc = .ok (.ineg, 1))  (h : OE FE p e below s Q kc ks T (mkF m (pc + 1) Ls (.int (-x) :: st))) : OE FE p e below s Q kc ks T (mkF m pc Ls (.int x :: st)) := OE.of (fun _ k' => XS.ineg X.here hx rfl (hb hby hd) rfl k') h
theorem OE.lneg (X : Stand p l e R s' m args below meth c T locs cells slots) (hx : p.tables.exec = Jvm.exec) {code : ByteArray} (hby : c.code = code) {pc : Nat} {Ls : Array Slot} {x : Int64} {st : List Value} (hd : decode code pc = .ok (.lneg, 1))  (h : OE FE p e below s Q kc ks T (mkF m (pc + 1) Ls (.long (-x) :: st))) : OE FE p e below s Q kc ks T (mkF m pc Ls (.long x :: st)) := OE.of (fun _ k' => XS.lneg X.here hx rfl (hb hby hd) rfl k') h
theorem OE.i2l (X : Stand p l e R s' m args below meth c T locs cells slots) (hx : p.tables.exec = Jvm.exec) {code : ByteArray} (hby : c.code = code) {pc : Nat} {Ls : Array Slot} {x : Int32} {st : List Value} (hd : decode code pc = .ok (.i2l, 1))  (h : OE FE p e below s Q kc ks T (mkF m (pc + 1) Ls (.long x.toInt64 :: st))) : OE FE p e below s Q kc ks T (mkF m pc Ls (.int x :: st)) := OE.of (fun _ k' => XS.i2l X.here hx rfl (hb hby hd) rfl k') h
theorem OE.l2i (X : Stand p l e R s' m args below meth c T locs cells slots) (hx : p.tables.exec = Jvm.exec) {code : ByteArray} (hby : c.code = code) {pc : Nat} {Ls : Array Slot} {x : Int64} {st : List Value} (hd : decode code pc = .ok (.l2i, 1))  (h : OE FE p e below s Q kc ks T (mkF m (pc + 1) Ls (.int x.toInt32 :: st))) : OE FE p e below s Q kc ks T (mkF m pc Ls (.long x :: st)) := OE.of (fun _ k' => XS.l2i X.here hx rfl (hb hby hd) rfl k') h
theorem OE.i2b (X : Stand p l e R s' m args below meth c T locs cells slots) (hx : p.tables.exec = Jvm.exec) {code : ByteArray} (hby : c.code = code) {pc : Nat} {Ls : Array Slot} {x : Int32} {st : List Value} (hd : decode code pc = .ok (.i2b, 1))  (h : OE FE p e below s Q kc ks T (mkF m (pc + 1) Ls (.int x.toInt8.toInt32 :: st))) : OE FE p e below s Q kc ks T (mkF m pc Ls (.int x :: st)) := OE.of (fun _ k' => XS.i2b X.here hx rfl (hb hby hd) rfl k') h
theorem OE.i2s (X : Stand p l e R s' m args below meth c T locs cells slots) (hx : p.tables.exec = Jvm.exec) {code : ByteArray} (hby : c.code = code) {pc : Nat} {Ls : Array Slot} {x : Int32} {st : List Value} (hd : decode code pc = .ok (.i2s, 1))  (h : OE FE p e below s Q kc ks T (mkF m (pc + 1) Ls (.int x.toInt16.toInt32 :: st))) : OE FE p e below s Q kc ks T (mkF m pc Ls (.int x :: st)) := OE.of (fun _ k' => XS.i2s X.here hx rfl (hb hby hd) rfl k') h
theorem OE.i2c (X : Stand p l e R s' m args below meth c T locs cells slots) (hx : p.tables.exec = Jvm.exec) {code : ByteArray} (hby : c.code = code) {pc : Nat} {Ls : Array Slot} {x : Int32} {st : List Value} (hd : decode code pc = .ok (.i2c, 1))  (h : OE FE p e below s Q kc ks T (mkF m (pc + 1) Ls (.int x.toUInt32.toUInt16.toUInt32.toInt32 :: st))) : OE FE p e below s Q kc ks T (mkF m pc Ls (.int x :: st)) := OE.of (fun _ k' => XS.i2c X.here hx rfl (hb hby hd) rfl k') h
theorem OE.lcmp (X : Stand p l e R s' m args below meth c T locs cells slots) (hx : p.tables.exec = Jvm.exec) {code : ByteArray} (hby : c.code = code) {pc : Nat} {Ls : Array Slot} {x y : Int64} {st : List Value} (hd : decode code pc = .ok (.lcmp, 1))  (h : OE FE p e below s Q kc ks T (mkF m (pc + 1) Ls (.int (lcmpW x y) :: st))) : OE FE p e below s Q kc ks T (mkF m pc Ls (.long y :: .long x :: st)) := OE.of (fun _ k' => XS.lcmp X.here hx rfl (hb hby hd) rfl k') h
theorem OE.idiv (X : Stand p l e R s' m args below meth c T locs cells slots) (hx : p.tables.exec = Jvm.exec) {code : ByteArray} (hby : c.code = code) {pc : Nat} {Ls : Array Slot} {x y : Int32} {st : List Value} (hd : decode code pc = .ok (.idiv, 1)) (hy : y ≠ 0) (h : OE FE p e below s Q kc ks T (mkF m (pc + 1) Ls (.int (x / y) :: st))) : OE FE p e below s Q kc ks T (mkF m pc Ls (.int y :: .int x :: st)) := OE.of (fun _ k' => XS.idiv X.here hx rfl (hb hby hd) rfl hy k') h
theorem OE.irem (X : Stand p l e R s' m args below meth c T locs cells slots) (hx : p.tables.exec = Jvm.exec) {code : ByteArray} (hby : c.code = code) {pc : Nat} {Ls : Array Slot} {x y : Int32} {st : List Value} (hd : decode code pc = .ok (.irem, 1)) (hy : y ≠ 0) (h : OE FE p e below s Q kc ks T (mkF m (pc + 1) Ls (.int (x % y) :: st))) : OE FE p e below s Q kc ks T (mkF m pc Ls (.int y :: .int x :: st)) := OE.of (fun _ k' => XS.irem X.here hx rfl (hb hby hd) rfl hy (by rw [irem_eq_mod]; exact k')) h
theorem OE.ldiv (X : Stand p l e R s' m args below meth c T locs cells slots) (hx : p.tables.exec = Jvm.exec) {code : ByteArray} (hby : c.code = code) {pc : Nat} {Ls : Array Slot} {x y : Int64} {st : List Value} (hd : decode code pc = .ok (.ldiv, 1)) (hy : y ≠ 0) (h : OE FE p e below s Q kc ks T (mkF m (pc + 1) Ls (.long (x / y) :: st))) : OE FE p e below s Q kc ks T (mkF m pc Ls (.long y :: .long x :: st)) := OE.of (fun _ k' => XS.ldiv X.here hx rfl (hb hby hd) rfl hy k') h
theorem OE.lrem (X : Stand p l e R s' m args below meth c T locs cells slots) (hx : p.tables.exec = Jvm.exec) {code : ByteArray} (hby : c.code = code) {pc : Nat} {Ls : Array Slot} {x y : Int64} {st : List Value} (hd : decode code pc = .ok (.lrem, 1)) (hy : y ≠ 0) (h : OE FE p e below s Q kc ks T (mkF m (pc + 1) Ls (.long (x % y) :: st))) : OE FE p e below s Q kc ks T (mkF m pc Ls (.long y :: .long x :: st)) := OE.of (fun _ k' => XS.lrem X.here hx rfl (hb hby hd) rfl hy (by rw [lrem_mod]; exact k')) h
theorem OE.iinc (X : Stand p l e R s' m args below meth c T locs cells slots) (hx : p.tables.exec = Jvm.exec) {code : ByteArray} (hby : c.code = code) {pc : Nat} {Ls : Array Slot} {k : Nat} {cst : Int} {x : Int32} {l' : Array Slot} {st : List Value} (hd : decode code pc = .ok (.iinc k cst, 3)) (hl : Ls[k]? = some (.val (.int x))) (hl' : storeLocals Ls k (.int (x + Int32.ofInt cst)) = some l') (h : OE FE p e below s Q kc ks T (mkF m (pc + 3) l' (st))) : OE FE p e below s Q kc ks T (mkF m pc Ls (st)) := OE.of (fun _ k' => XS.iinc X.here hx rfl (hb hby hd) hl hl' k') h
theorem OE.dup (X : Stand p l e R s' m args below meth c T locs cells slots) (hx : p.tables.exec = Jvm.exec) {code : ByteArray} (hby : c.code = code) {pc : Nat} {Ls : Array Slot} {v : Value} {st : List Value} (hd : decode code pc = .ok (.dup, 1)) (hc : v.category = 1) (h : OE FE p e below s Q kc ks T (mkF m (pc + 1) Ls (v :: v :: st))) : OE FE p e below s Q kc ks T (mkF m pc Ls (v :: st)) := OE.of (fun _ k' => XS.dup X.here hx rfl (hb hby hd) rfl hc k') h
theorem OE.pop (X : Stand p l e R s' m args below meth c T locs cells slots) (hx : p.tables.exec = Jvm.exec) {code : ByteArray} (hby : c.code = code) {pc : Nat} {Ls : Array Slot} {v : Value} {st : List Value} (hd : decode code pc = .ok (.pop, 1)) (hc : v.category = 1) (h : OE FE p e below s Q kc ks T (mkF m (pc + 1) Ls (st))) : OE FE p e below s Q kc ks T (mkF m pc Ls (v :: st)) := OE.of (fun _ k' => XS.pop X.here hx rfl (hb hby hd) rfl hc k') h
theorem OE.dupX1 (X : Stand p l e R s' m args below meth c T locs cells slots) (hx : p.tables.exec = Jvm.exec) {code : ByteArray} (hby : c.code = code) {pc : Nat} {Ls : Array Slot} {v w : Value} {st : List Value} (hd : decode code pc = .ok (.dup_x1, 1)) (hc : v.category = 1) (hc' : w.category = 1) (h : OE FE p e below s Q kc ks T (mkF m (pc + 1) Ls (v :: w :: v :: st))) : OE FE p e below s Q kc ks T (mkF m pc Ls (v :: w :: st)) := OE.of (fun _ k' => XS.dupX1 X.here hx rfl (hb hby hd) rfl hc hc' k') h
theorem OE.dup2 (X : Stand p l e R s' m args below meth c T locs cells slots) (hx : p.tables.exec = Jvm.exec) {code : ByteArray} (hby : c.code = code) {pc : Nat} {Ls : Array Slot} {v w : Value} {st : List Value} (hd : decode code pc = .ok (.dup2, 1)) (hc : v.category = 1) (hc' : w.category = 1) (h : OE FE p e below s Q kc ks T (mkF m (pc + 1) Ls (v :: w :: v :: w :: st))) : OE FE p e below s Q kc ks T (mkF m pc Ls (v :: w :: st)) := OE.of (fun _ k' => Jvm.Free.XT.dup2 X.here hx rfl (hb hby hd) rfl hc hc' k') h
theorem OE.dup2L (X : Stand p l e R s' m args below meth c T locs cells slots) (hx : p.tables.exec = Jvm.exec) {code : ByteArray} (hby : c.code = code) {pc : Nat} {Ls : Array Slot} {v : Int64} {st : List Value} (hd : decode code pc = .ok (.dup2, 1))  (h : OE FE p e below s Q kc ks T (mkF m (pc + 1) Ls (.long v :: .long v :: st))) : OE FE p e below s Q kc ks T (mkF m pc Ls (.long v :: st)) := OE.of (fun _ k' => Jvm.Free.XT.dup2L X.here hx rfl (hb hby hd) rfl k') h
theorem OE.goto (X : Stand p l e R s' m args below meth c T locs cells slots) (hx : p.tables.exec = Jvm.exec) {code : ByteArray} (hby : c.code = code) {pc : Nat} {Ls : Array Slot} {o : Int} (pc' : Nat) {st : List Value} (hd : decode code pc = .ok (.goto o, 3)) (ho : 0 ≤ (pc : Int) + o := by decide) (hp : ((pc : Int) + o).toNat = pc' := by decide) (h : OE FE p e below s Q kc ks T (mkF m pc' Ls (st))) : OE FE p e below s Q kc ks T (mkF m pc Ls (st)) := OE.of (fun _ k' => XS.goto X.here hx rfl rfl (hb hby hd) ho hp k') h
theorem OE.ifYes (X : Stand p l e R s' m args below meth c T locs cells slots) (hx : p.tables.exec = Jvm.exec) {code : ByteArray} (hby : c.code = code) {pc : Nat} {Ls : Array Slot} {cd : ClassFile.Cond} {x : Int32} {o : Int} (pc' : Nat) {st : List Value} (hd : decode code pc = .ok (.ifCond cd o, 3)) (hc : if_icmp.holds cd x 0 = true) (ho : 0 ≤ (pc : Int) + o := by decide) (hp : ((pc : Int) + o).toNat = pc' := by decide) (h : OE FE p e below s Q kc ks T (mkF m pc' Ls (st))) : OE FE p e below s Q kc ks T (mkF m pc Ls (.int x :: st)) := OE.of (fun _ k' => XS.ifYes X.here hx rfl rfl (hb hby hd) rfl ((if0 _ _).trans hc) ho hp k') h
theorem OE.ifNo (X : Stand p l e R s' m args below meth c T locs cells slots) (hx : p.tables.exec = Jvm.exec) {code : ByteArray} (hby : c.code = code) {pc : Nat} {Ls : Array Slot} {cd : ClassFile.Cond} {x : Int32} {o : Int} {st : List Value} (hd : decode code pc = .ok (.ifCond cd o, 3)) (hc : if_icmp.holds cd x 0 = false) (h : OE FE p e below s Q kc ks T (mkF m (pc + 3) Ls (st))) : OE FE p e below s Q kc ks T (mkF m pc Ls (.int x :: st)) := OE.of (fun _ k' => XS.ifNo X.here hx rfl (hb hby hd) rfl ((if0 _ _).trans hc) k') h
theorem OE.icmpYes (X : Stand p l e R s' m args below meth c T locs cells slots) (hx : p.tables.exec = Jvm.exec) {code : ByteArray} (hby : c.code = code) {pc : Nat} {Ls : Array Slot} {cd : ClassFile.Cond} {x y : Int32} {o : Int} (pc' : Nat) {st : List Value} (hd : decode code pc = .ok (.if_icmp cd o, 3)) (hc : if_icmp.holds cd x y = true) (ho : 0 ≤ (pc : Int) + o := by decide) (hp : ((pc : Int) + o).toNat = pc' := by decide) (h : OE FE p e below s Q kc ks T (mkF m pc' Ls (st))) : OE FE p e below s Q kc ks T (mkF m pc Ls (.int y :: .int x :: st)) := OE.of (fun _ k' => XS.icmpYes X.here hx rfl rfl (hb hby hd) rfl hc ho hp k') h
theorem OE.icmpNo (X : Stand p l e R s' m args below meth c T locs cells slots) (hx : p.tables.exec = Jvm.exec) {code : ByteArray} (hby : c.code = code) {pc : Nat} {Ls : Array Slot} {cd : ClassFile.Cond} {x y : Int32} {o : Int} {st : List Value} (hd : decode code pc = .ok (.if_icmp cd o, 3)) (hc : if_icmp.holds cd x y = false) (h : OE FE p e below s Q kc ks T (mkF m (pc + 3) Ls (st))) : OE FE p e below s Q kc ks T (mkF m pc Ls (.int y :: .int x :: st)) := OE.of (fun _ k' => XS.icmpNo X.here hx rfl (hb hby hd) rfl hc k') h
theorem OE.ifnullYes (X : Stand p l e R s' m args below meth c T locs cells slots) (hx : p.tables.exec = Jvm.exec) {code : ByteArray} (hby : c.code = code) {pc : Nat} {Ls : Array Slot} {o : Int} (pc' : Nat) {st : List Value} (hd : decode code pc = .ok (.ifnull o, 3)) (ho : 0 ≤ (pc : Int) + o := by decide) (hp : ((pc : Int) + o).toNat = pc' := by decide) (h : OE FE p e below s Q kc ks T (mkF m pc' Ls (st))) : OE FE p e below s Q kc ks T (mkF m pc Ls (.null :: st)) := OE.of (fun _ k' => XS.ifnullYes X.here hx rfl rfl (hb hby hd) rfl ho hp k') h
theorem OE.ifnullNo (X : Stand p l e R s' m args below meth c T locs cells slots) (hx : p.tables.exec = Jvm.exec) {code : ByteArray} (hby : c.code = code) {pc : Nat} {Ls : Array Slot} {b : Addr} {o : Int} {st : List Value} (hd : decode code pc = .ok (.ifnull o, 3))  (h : OE FE p e below s Q kc ks T (mkF m (pc + 3) Ls (st))) : OE FE p e below s Q kc ks T (mkF m pc Ls (.ref b :: st)) := OE.of (fun _ k' => XS.ifnullNo X.here hx rfl (hb hby hd) rfl k') h
theorem OE.ifnonnullYes (X : Stand p l e R s' m args below meth c T locs cells slots) (hx : p.tables.exec = Jvm.exec) {code : ByteArray} (hby : c.code = code) {pc : Nat} {Ls : Array Slot} {b : Addr} {o : Int} (pc' : Nat) {st : List Value} (hd : decode code pc = .ok (.ifnonnull o, 3)) (ho : 0 ≤ (pc : Int) + o := by decide) (hp : ((pc : Int) + o).toNat = pc' := by decide) (h : OE FE p e below s Q kc ks T (mkF m pc' Ls (st))) : OE FE p e below s Q kc ks T (mkF m pc Ls (.ref b :: st)) := OE.of (fun _ k' => XS.ifnonnullYes X.here hx rfl rfl (hb hby hd) rfl ho hp k') h
theorem OE.ifnonnullNo (X : Stand p l e R s' m args below meth c T locs cells slots) (hx : p.tables.exec = Jvm.exec) {code : ByteArray} (hby : c.code = code) {pc : Nat} {Ls : Array Slot} {o : Int} {st : List Value} (hd : decode code pc = .ok (.ifnonnull o, 3))  (h : OE FE p e below s Q kc ks T (mkF m (pc + 3) Ls (st))) : OE FE p e below s Q kc ks T (mkF m pc Ls (.null :: st)) := OE.of (fun _ k' => XS.ifnonnullNo X.here hx rfl (hb hby hd) rfl k') h
end New
end Jvm.RoadKit
namespace Jvm.Pilot.@@N@@
open Jvm Jvm.ClassFile Sem Op Lib Jvm.Free Jvm.Stand Jvm.LawKit Jvm.RoadKit Bundle Jvm.Pilot.@@N@@.Jvm.D
theorem own_d7_0 : decode method_2_code 0 = .ok (.iload_n 0, 1) := by decide +kernel
theorem own_d7_1 : decode method_2_code 1 = .ok (.iload_n 2, 1) := by decide +kernel
theorem own_d7_2 : decode method_2_code 2 = .ok (.if_icmp .lt 12, 3) := by decide +kernel
theorem own_d7_14 : decode method_2_code 14 = .ok (.iconst 0, 1) := by decide +kernel
theorem own_d7_15 : decode method_2_code 15 = .ok (.ireturn, 1) := by decide +kernel
theorem own_d7_5 : decode method_2_code 5 = .ok (.iload_n 1, 1) := by decide +kernel
theorem own_d7_6 : decode method_2_code 6 = .ok (.iload_n 3, 1) := by decide +kernel
theorem own_d7_7 : decode method_2_code 7 = .ok (.if_icmp .gt 7, 3) := by decide +kernel
theorem own_d7_10 : decode method_2_code 10 = .ok (.iconst 1, 1) := by decide +kernel
theorem own_d7_11 : decode method_2_code 11 = .ok (.goto 4, 3) := by decide +kernel
def own_Q7 (Z : State) (p1 : Int32) (p2 : Int32) (p3 : Int32) (p4 : Int32) (h0 : Heap) (n0 : Nat) (v : Option Value) (h : Heap) (L : List Loc) : Prop := v = some (.int (if p1 < p3 then (0 : Int32) else (if p4 < p2 then (0 : Int32) else (1 : Int32)))) ∧ Fr n0 L ∧ h = h0
theorem own_pn0 : plainName "com/example/corbel/corbel/PeaksBoundPinLaw" = true := by first | (simp [plainName, overriddenIn]; done) | decide +kernel
theorem own_ef_own_rm7 (m : MethodId) (p1 : Int32) (p2 : Int32) (p3 : Int32) (p4 : Int32) : entryFrame m #[(.int p1), (.int p2), (.int p3), (.int p4)] 4 = mkF m 0 #[.val (.int p1), .val (.int p2), .val (.int p3), .val (.int p4)] [] := by first | (simp [entryFrame, mkF, argsToLocals, Value.category]; done) | rfl
set_option maxRecDepth 65536 in
set_option maxHeartbeats 40000000 in
theorem own_rm7 (l : Launch) (Z : State) (a0 : Array Value) (hw : ∀ d ∈ tables_1, d.before a0 Z = true) (ws : List Jvm.Cond) (p1 : Int32) (p2 : Int32) (p3 : Int32) (p4 : Int32) (h0 : Heap) (n0 : Nat) (Z0 : n0 ≤ h0.size) :
    MetFree l (⟨"com/example/corbel/corbel/PeaksBoundPinLaw", "covers", "(IIII)Z"⟩ : MethodName) (head1 (Jvm.Cond.code (⟨"com/example/corbel/corbel/PeaksBoundPinLaw", "covers", "(IIII)Z"⟩ : MethodName) method_2_code 4 (some .boolean) :: ws) ({ frames := 0, cells := 0, slots := 0, locals := 0 } : Room)) (fun a U => a = #[(.int p1), (.int p2), (.int p3), (.int p4)] ∧ Z.Warmed39 U.vm ∧ U.heap = h0) (fun _ _ _ _ _ => True) (fun _ U o U' => ∃ v L, o = .returned v ∧ own_Q7 Z p1 p2 p3 p4 h0 n0 v U'.heap L ∧ FrameEnd U o U' L ({ frames := 0, cells := 0, slots := 0, locals := 0 } : Room).cells ({ frames := 0, cells := 0, slots := 0, locals := 0 } : Room).slots) := by
  refine MetFree.of_bodySF (plainFor_of_name own_pn0) hisR ?_
  intro p e s m args below meth c s₁ Bd hml0 hP hK
  obtain ⟨rfl, hZ, hh⟩ := hP
  have hx := Bd.exec
  have hby := Bd.bytes
  have hml : c.maxLocals = 4 := hml0
  have hown : s.vm.findClass "com/example/corbel/corbel/PeaksBoundPinLaw" = some m.cls := findClass_of_methodNamed Bd.named
  have hnm := (name_of_methodNamed Bd.named Bd.method).1
  have X0 : Stand p l e ({ frames := 0, cells := 0, slots := 0, locals := 0 } : Room) s m #[(.int p1), (.int p2), (.int p3), (.int p4)] below meth c s₁ [] 0 0 := Stand.of_body Bd
  have e0 : s₁.heap = h0 := by rw [← hh, Bd.state]; rfl
  have N0 := Fr.nil n0
  show OE FrameEnd p e below s (own_Q7 Z p1 p2 p3 p4 h0 n0) ({ frames := 0, cells := 0, slots := 0, locals := 0 } : Room).cells ({ frames := 0, cells := 0, slots := 0, locals := 0 } : Room).slots s₁ (entryFrame m #[(.int p1), (.int p2), (.int p3), (.int p4)] 4)
  rw [own_ef_own_rm7]
  show OE _ p e below s _ _ _ s₁ (mkF m 0 #[.val (.int p1), .val (.int p2), .val (.int p3), .val (.int p4)] [])
  refine OE.iloadN X0 hx hby own_d7_0 rfl ?_
  refine OE.iloadN X0 hx hby own_d7_1 rfl ?_
  by_cases hc2 : p1 < p3
  · skip
    refine OE.icmpYes X0 hx hby (pc' := 14) own_d7_2 (tlt hc2).1 (h := ?_)
    refine OE.iconst X0 hx hby own_d7_14 (0 : Int32) rfl ?_
    refine OE.retN X0 hx (t := .boolean) Bd.returns (by simp) Bd.notSynchronized (hb hby own_d7_15) (by decide) (by decide) ?_
    rw [e0]
    exact ⟨(congrArg (fun z => some (Value.int z)) (show (0 : Int32) = (if p1 < p3 then (0 : Int32) else (if p4 < p2 then (0 : Int32) else (1 : Int32))) from by rw [if_pos hc2])), N0, rfl⟩
  · skip
    refine OE.icmpNo X0 hx hby own_d7_2 (flt hc2).1 ?_
    refine OE.iloadN X0 hx hby own_d7_5 rfl ?_
    refine OE.iloadN X0 hx hby own_d7_6 rfl ?_
    by_cases hc7 : p4 < p2
    · skip
      refine OE.icmpYes X0 hx hby (pc' := 14) own_d7_7 (tlt hc7).2.2.1 (h := ?_)
      refine OE.iconst X0 hx hby own_d7_14 (0 : Int32) rfl ?_
      refine OE.retN X0 hx (t := .boolean) Bd.returns (by simp) Bd.notSynchronized (hb hby own_d7_15) (by decide) (by decide) ?_
      rw [e0]
      exact ⟨(congrArg (fun z => some (Value.int z)) (show (0 : Int32) = (if p1 < p3 then (0 : Int32) else (if p4 < p2 then (0 : Int32) else (1 : Int32))) from by rw [if_neg hc2, if_pos hc7])), N0, rfl⟩
    · skip
      refine OE.icmpNo X0 hx hby own_d7_7 (flt hc7).2.2.1 ?_
      refine OE.iconst X0 hx hby own_d7_10 (1 : Int32) rfl ?_
      refine OE.goto X0 hx hby (pc' := 15) own_d7_11 (h := ?_)
      refine OE.retN X0 hx (t := .boolean) Bd.returns (by simp) Bd.notSynchronized (hb hby own_d7_15) (by decide) (by decide) ?_
      rw [e0]
      exact ⟨(congrArg (fun z => some (Value.int z)) (show (1 : Int32) = (if p1 < p3 then (0 : Int32) else (if p4 < p2 then (0 : Int32) else (1 : Int32))) from by rw [if_neg hc2, if_neg hc7])), N0, rfl⟩
theorem own_d6_0 : decode jdk_29_method_69_code 0 = .ok (.iload_n 0, 1) := by decide +kernel
theorem own_d6_1 : decode jdk_29_method_69_code 1 = .ok (.iload_n 1, 1) := by decide +kernel
theorem own_d6_2 : decode jdk_29_method_69_code 2 = .ok (.if_icmp .gt 7, 3) := by decide +kernel
theorem own_d6_9 : decode jdk_29_method_69_code 9 = .ok (.iload_n 1, 1) := by decide +kernel
theorem own_d6_10 : decode jdk_29_method_69_code 10 = .ok (.ireturn, 1) := by decide +kernel
theorem own_d6_5 : decode jdk_29_method_69_code 5 = .ok (.iload_n 0, 1) := by decide +kernel
theorem own_d6_6 : decode jdk_29_method_69_code 6 = .ok (.goto 4, 3) := by decide +kernel
def own_Q6 (Z : State) (p1 : Int32) (p2 : Int32) (h0 : Heap) (n0 : Nat) (v : Option Value) (h : Heap) (L : List Loc) : Prop := v = some (.int (if p2 < p1 then p2 else p1)) ∧ Fr n0 L ∧ h = h0
theorem own_ef_own_rm6 (m : MethodId) (p1 : Int32) (p2 : Int32) : entryFrame m #[(.int p1), (.int p2)] 2 = mkF m 0 #[.val (.int p1), .val (.int p2)] [] := by first | (simp [entryFrame, mkF, argsToLocals, Value.category]; done) | rfl
set_option maxRecDepth 65536 in
set_option maxHeartbeats 40000000 in
theorem own_rm6 (l : Launch) (Z : State) (a0 : Array Value) (hw : ∀ d ∈ tables_1, d.before a0 Z = true) (ws : List Jvm.Cond) (p1 : Int32) (p2 : Int32) (h0 : Heap) (n0 : Nat) (Z0 : n0 ≤ h0.size) :
    MetFree l (⟨"java/lang/Math", "min", "(II)I"⟩ : MethodName) (head1 (Jvm.Cond.code (⟨"java/lang/Math", "min", "(II)I"⟩ : MethodName) jdk_29_method_69_code 2 (some .int) :: ws) ({ frames := 0, cells := 0, slots := 0, locals := 0 } : Room)) (fun a U => a = #[(.int p1), (.int p2)] ∧ Z.Warmed39 U.vm ∧ U.heap = h0) (fun _ _ _ _ _ => True) (fun _ U o U' => ∃ v L, o = .returned v ∧ own_Q6 Z p1 p2 h0 n0 v U'.heap L ∧ FrameEnd U o U' L ({ frames := 0, cells := 0, slots := 0, locals := 0 } : Room).cells ({ frames := 0, cells := 0, slots := 0, locals := 0 } : Room).slots) := by
  refine MetFree.of_bodySF (Jvm.Free.JP.mathPlain rfl (by decide +kernel)) hisR ?_
  intro p e s m args below meth c s₁ Bd hml0 hP hK
  obtain ⟨rfl, hZ, hh⟩ := hP
  have hx := Bd.exec
  have hby := Bd.bytes
  have hml : c.maxLocals = 2 := hml0
  have hown : s.vm.findClass "java/lang/Math" = some m.cls := findClass_of_methodNamed Bd.named
  have hnm := (name_of_methodNamed Bd.named Bd.method).1
  have X0 : Stand p l e ({ frames := 0, cells := 0, slots := 0, locals := 0 } : Room) s m #[(.int p1), (.int p2)] below meth c s₁ [] 0 0 := Stand.of_body Bd
  have e0 : s₁.heap = h0 := by rw [← hh, Bd.state]; rfl
  have N0 := Fr.nil n0
  show OE FrameEnd p e below s (own_Q6 Z p1 p2 h0 n0) ({ frames := 0, cells := 0, slots := 0, locals := 0 } : Room).cells ({ frames := 0, cells := 0, slots := 0, locals := 0 } : Room).slots s₁ (entryFrame m #[(.int p1), (.int p2)] 2)
  rw [own_ef_own_rm6]
  show OE _ p e below s _ _ _ s₁ (mkF m 0 #[.val (.int p1), .val (.int p2)] [])
  refine OE.iloadN X0 hx hby own_d6_0 rfl ?_
  refine OE.iloadN X0 hx hby own_d6_1 rfl ?_
  by_cases hc2 : p2 < p1
  · skip
    refine OE.icmpYes X0 hx hby (pc' := 9) own_d6_2 (tlt hc2).2.2.1 (h := ?_)
    refine OE.iloadN X0 hx hby own_d6_9 rfl ?_
    refine OE.retI X0 hx Bd.returns Bd.notSynchronized (hb hby own_d6_10) (by decide) (by decide) ?_
    rw [e0]
    exact ⟨(congrArg (fun z => some (Value.int z)) (show p2 = (if p2 < p1 then p2 else p1) from by rw [if_pos hc2])), N0, rfl⟩
  · skip
    refine OE.icmpNo X0 hx hby own_d6_2 (flt hc2).2.2.1 ?_
    refine OE.iloadN X0 hx hby own_d6_5 rfl ?_
    refine OE.goto X0 hx hby (pc' := 10) own_d6_6 (h := ?_)
    refine OE.retI X0 hx Bd.returns Bd.notSynchronized (hb hby own_d6_10) (by decide) (by decide) ?_
    rw [e0]
    exact ⟨(congrArg (fun z => some (Value.int z)) (show p1 = (if p2 < p1 then p2 else p1) from by rw [if_neg hc2])), N0, rfl⟩
theorem own_d1_0 : decode prog_131_method_2_code 0 = .ok (.aload_n 0, 1) := by decide +kernel
theorem own_d1_1 : decode prog_131_method_2_code 1 = .ok (.invokespecial 7, 3) := by decide +kernel
theorem own_d1_4 : decode prog_131_method_2_code 4 = .ok (.aload_n 0, 1) := by decide +kernel
theorem own_d1_5 : decode prog_131_method_2_code 5 = .ok (.iload_n 1, 1) := by decide +kernel
theorem own_d1_6 : decode prog_131_method_2_code 6 = .ok (.newarray .int, 2) := by decide +kernel
theorem own_d1_8 : decode prog_131_method_2_code 8 = .ok (.putfield 12, 3) := by decide +kernel
theorem own_d1_11 : decode prog_131_method_2_code 11 = .ok (.aload_n 0, 1) := by decide +kernel
theorem own_d1_12 : decode prog_131_method_2_code 12 = .ok (.iload_n 1, 1) := by decide +kernel
theorem own_d1_13 : decode prog_131_method_2_code 13 = .ok (.newarray .int, 2) := by decide +kernel
theorem own_d1_15 : decode prog_131_method_2_code 15 = .ok (.putfield 16, 3) := by decide +kernel
theorem own_d1_18 : decode prog_131_method_2_code 18 = .ok (.return_, 1) := by decide +kernel
def own_Q1 (Z : State) (a1 : Addr) (p2 : Int32) (h0 : Heap) (n0 : Nat) (v : Option Value) (h : Heap) (L : List Loc) : Prop := ∃ f : Addr, ∃ g : Addr, ∃ kf : ClassId, ∃ kg : ClassId, v = none ∧ Fr n0 L ∧ Keep h0 h [a1] ∧ Exa Z h a1 "com/example/corbel/corbel/Peaks" ∧ Fld Z h a1 "com/example/corbel/corbel/Peaks" "frequencies" "[I" (.ref f) ∧ Fld Z h a1 "com/example/corbel/corbel/Peaks" "lengths" "[I" (.ref g) ∧ Fld Z h a1 "com/example/corbel/corbel/Peaks" "count" "I" (.int (0 : Int32)) ∧ Arv Z h f kf .int p2 (List.replicate 4 (.int (0 : Int32))) (.int (0 : Int32)) ∧ Arv Z h g kg .int p2 (List.replicate 4 (.int (0 : Int32))) (.int (0 : Int32)) ∧ h0.size ≤ f ∧ h0.size ≤ g ∧ f ≠ g
theorem own_pn1 : plainName "com/example/corbel/corbel/Peaks" = true := by first | (simp [plainName, overriddenIn]; done) | decide +kernel
theorem own_ef_own_rm1 (m : MethodId) (a1 : Addr) (p2 : Int32) : entryFrame m #[(.ref a1), (.int p2)] 2 = mkF m 0 #[.val (.ref a1), .val (.int p2)] [] := by first | (simp [entryFrame, mkF, argsToLocals, Value.category]; done) | rfl
set_option maxRecDepth 65536 in
set_option maxHeartbeats 40000000 in
theorem own_rm1 (l : Launch) (Z : State) (a0 : Array Value) (hw : ∀ d ∈ tables_1, d.before a0 Z = true) (ws : List Jvm.Cond) (a1 : Addr) (p2 : Int32) (h0 : Heap) (n0 : Nat) (Z0 : n0 ≤ h0.size) (E_a1 : Exa Z h0 a1 "com/example/corbel/corbel/Peaks") (F_frequencies_a1 : Fld Z h0 a1 "com/example/corbel/corbel/Peaks" "frequencies" "[I" .null) (F_lengths_a1 : Fld Z h0 a1 "com/example/corbel/corbel/Peaks" "lengths" "[I" .null) (F_count_a1 : Fld Z h0 a1 "com/example/corbel/corbel/Peaks" "count" "I" (.int (0 : Int32))) (g_a1 : n0 ≤ a1) (hp : ¬ p2 < 0) (hcap : p2.toNatClampNeg ≤ 4) :
    MetFree l (⟨"com/example/corbel/corbel/Peaks", "<init>", "(I)V"⟩ : MethodName) (head1 (Jvm.Cond.code (⟨"com/example/corbel/corbel/Peaks", "<init>", "(I)V"⟩ : MethodName) prog_131_method_2_code 2 none :: ws) ({ frames := 1, cells := 2, slots := 8, locals := 12 } : Room)) (fun a U => a = #[(.ref a1), (.int p2)] ∧ Z.Warmed39 U.vm ∧ U.heap = h0) (fun _ _ _ _ _ => True) (fun _ U o U' => ∃ v L, o = .returned v ∧ own_Q1 Z a1 p2 h0 n0 v U'.heap L ∧ FrameEnd U o U' L ({ frames := 1, cells := 2, slots := 8, locals := 12 } : Room).cells ({ frames := 1, cells := 2, slots := 8, locals := 12 } : Room).slots) := by
  refine MetFree.of_bodySF (plainFor_of_name own_pn1) hisR ?_
  intro p e s m args below meth c s₁ Bd hml0 hP hK
  obtain ⟨rfl, hZ, hh⟩ := hP
  have hx := Bd.exec
  have hby := Bd.bytes
  have hml : c.maxLocals = 2 := hml0
  have hown : s.vm.findClass "com/example/corbel/corbel/Peaks" = some m.cls := findClass_of_methodNamed Bd.named
  have hnm := (name_of_methodNamed Bd.named Bd.method).1
  have X0 : Stand p l e ({ frames := 1, cells := 2, slots := 8, locals := 12 } : Room) s m #[(.ref a1), (.int p2)] below meth c s₁ [] 0 0 := Stand.of_body Bd
  have e0 : s₁.heap = h0 := by rw [← hh, Bd.state]; rfl
  have N0 := Fr.nil n0
  show OE FrameEnd p e below s (own_Q1 Z a1 p2 h0 n0) ({ frames := 1, cells := 2, slots := 8, locals := 12 } : Room).cells ({ frames := 1, cells := 2, slots := 8, locals := 12 } : Room).slots s₁ (entryFrame m #[(.ref a1), (.int p2)] 2)
  rw [own_ef_own_rm1]
  show OE _ p e below s _ _ _ s₁ (mkF m 0 #[.val (.ref a1), .val (.int p2)] [])
  refine OE.aloadN X0 hx hby own_d1_0 rfl rfl ?_
  obtain ⟨T1, X1, e1, st1⟩ := initO X0 hx hZ hown (hw _ (List.mem_of_getElem? (i := 6) rfl)) (hw _ (List.mem_of_getElem? (i := 7) rfl)) (hw _ (List.mem_of_getElem? (i := 8) rfl)) e0 (g := (mkF m 1 #[.val (.ref a1), .val (.int p2)] [(.ref a1)])) rfl (by rw [hml]; rfl) rfl (hb hby own_d1_1) (by decide) (W := 0) (by show 2 * 0 + _ ≤ _; exact Nat.le_of_eq rfl) (by decide)
  refine OE.of st1 ?_
  show OE _ p e below s _ _ _ T1 (mkF m 4 #[.val (.ref a1), .val (.int p2)] [])
  refine OE.aloadN X1 hx hby own_d1_4 rfl rfl ?_
  refine OE.iloadN X1 hx hby own_d1_5 rfl ?_
  obtain ⟨T2, h2, k2, X2, e2, E2, A2, B2, st2⟩ := newPE X1 hx hZ (hw _ (List.mem_of_getElem? (i := 9) rfl)) e1 (g := (mkF m 6 #[.val (.ref a1), .val (.int p2)] [(.int p2), (.ref a1)])) rfl (hb hby own_d1_6) rfl hp (cap := 4) hcap (by decide) (by decide) (by decide) (ad := "[I") (by decide)
  refine OE.of st2 ?_
  obtain ⟨b2, g2⟩ : ∃ z, z = h0.size := ⟨_, rfl⟩
  rw [← g2] at A2 B2 ⊢
  have ne_a1_b2 : a1 ≠ b2 := Nat.ne_of_lt (Nat.lt_of_lt_of_le E_a1.lt (Nat.le_of_eq g2.symm))
  have g_b2 : n0 ≤ b2 := Nat.le_trans Z0 (Nat.le_of_eq g2.symm)
  have sz_b2 : h0.size ≤ b2 := Nat.le_trans (Keep.refl h0 [a1]).1 (Nat.le_of_eq g2.symm)
  have V2 : Arv Z h2 b2 k2 .int p2 (List.replicate 4 (.int (0 : Int32))) (.int (0 : Int32)) := (Arv.new A2 hp).pad (pad_rep [] (.int (0 : Int32)) 4)
  show OE _ p e below s _ _ _ T2 (mkF m 8 #[.val (.ref a1), .val (.int p2)] [(.ref b2), (.ref a1)])
  have f3 : Exa Z h2 a1 "com/example/corbel/corbel/Peaks" := (E_a1.ext E2)
  have f4 : Fld Z h2 a1 "com/example/corbel/corbel/Peaks" "frequencies" "[I" .null := (F_frequencies_a1.ext E2)
  obtain ⟨T5, h5, X5, e5, W5, st5⟩ := putF X2 hx hZ hown (host := "") (Or.inl (hw _ (List.mem_of_getElem? (i := 10) rfl))) Via.refl e2 f4 f3 (Or.inl (hw _ (List.mem_of_getElem? (i := 11) rfl))) (hw _ (List.mem_of_getElem? (i := 1) rfl)) (ty := (.array .int)) (by decide) rfl rfl (g := (mkF m 8 #[.val (.ref a1), .val (.int p2)] [(.ref b2), (.ref a1)])) rfl rfl (hb hby own_d1_8)
  refine OE.of st5 ?_
  have N5 := Fr.snoc X5 N0 g_a1
  have Fw5 := f4.same W5
  show OE _ p e below s _ _ _ T5 (mkF m 11 #[.val (.ref a1), .val (.int p2)] [])
  refine OE.aloadN X5 hx hby own_d1_11 rfl rfl ?_
  refine OE.iloadN X5 hx hby own_d1_12 rfl ?_
  obtain ⟨T6, h6, k6, X6, e6, E6, A6, B6, st6⟩ := newPE X5 hx hZ (hw _ (List.mem_of_getElem? (i := 9) rfl)) e5 (g := (mkF m 13 #[.val (.ref a1), .val (.int p2)] [(.int p2), (.ref a1)])) rfl (hb hby own_d1_13) rfl hp (cap := 4) hcap (by decide) (by decide) (by decide) (ad := "[I") (by decide)
  refine OE.of st6 ?_
  obtain ⟨b6, g6⟩ : ∃ z, z = h5.size := ⟨_, rfl⟩
  rw [← g6] at A6 B6 ⊢
  have f7 : Exa Z h5 a1 "com/example/corbel/corbel/Peaks" := (f3.wr W5)
  have ne_a1_b6 : a1 ≠ b6 := Nat.ne_of_lt (Nat.lt_of_lt_of_le f7.lt (Nat.le_of_eq g6.symm))
  have f8 : Arv Z h5 b2 k2 .int p2 (List.replicate 4 (.int (0 : Int32))) (.int (0 : Int32)) := (V2.other W5 (Ne.symm ne_a1_b2))
  have ne_b2_b6 : b2 ≠ b6 := Nat.ne_of_lt (Nat.lt_of_lt_of_le f8.lt (Nat.le_of_eq g6.symm))
  have z9 : n0 ≤ h5.size := (Nat.le_trans (Nat.le_trans Z0 E2.1) (Nat.le_of_eq W5.size.symm))
  have g_b6 : n0 ≤ b6 := Nat.le_trans z9 (Nat.le_of_eq g6.symm)
  have K10 : Keep h0 h5 [a1] := (Keep.wr (Keep.ext (Keep.refl h0 [a1]) E2) W5 (Or.inl (List.mem_of_getElem? (i := 0) rfl)))
  have sz_b6 : h0.size ≤ b6 := Nat.le_trans K10.1 (Nat.le_of_eq g6.symm)
  have V6 : Arv Z h6 b6 k6 .int p2 (List.replicate 4 (.int (0 : Int32))) (.int (0 : Int32)) := (Arv.new A6 hp).pad (pad_rep [] (.int (0 : Int32)) 4)
  show OE _ p e below s _ _ _ T6 (mkF m 15 #[.val (.ref a1), .val (.int p2)] [(.ref b6), (.ref a1)])
  have f11 : Exa Z h6 a1 "com/example/corbel/corbel/Peaks" := (f7.ext E6)
  have f12 : Fld Z h6 a1 "com/example/corbel/corbel/Peaks" "lengths" "[I" .null := (((F_lengths_a1.ext E2).other W5 (Or.inr (slot_ne (Or.inl (hw _ (List.mem_of_getElem? (i := 13) rfl))) (Or.inl (hw _ (List.mem_of_getElem? (i := 11) rfl))) (by decide) (t := (.array .int)) (t' := (.array .int)) (by decide) (by decide)))).ext E6)
  obtain ⟨T13, h13, X13, e13, W13, st13⟩ := putF X6 hx hZ hown (host := "") (Or.inl (hw _ (List.mem_of_getElem? (i := 12) rfl))) Via.refl e6 f12 f11 (Or.inl (hw _ (List.mem_of_getElem? (i := 13) rfl))) (hw _ (List.mem_of_getElem? (i := 1) rfl)) (ty := (.array .int)) (by decide) rfl rfl (g := (mkF m 15 #[.val (.ref a1), .val (.int p2)] [(.ref b6), (.ref a1)])) rfl rfl (hb hby own_d1_15)
  refine OE.of st13 ?_
  have N13 := Fr.snoc X13 N5 g_a1
  have Fw13 := f12.same W13
  show OE _ p e below s _ _ _ T13 (mkF m 18 #[.val (.ref a1), .val (.int p2)] [])
  refine OE.ret0 X13 hx Bd.returns Bd.notSynchronized (hb hby own_d1_18) (by decide) (by decide) ?_
  rw [e13]
  have K14 : Keep h0 h13 [a1] := (Keep.wr (Keep.ext K10 E6) W13 (Or.inl (List.mem_of_getElem? (i := 0) rfl)))
  have f15 : Exa Z h13 a1 "com/example/corbel/corbel/Peaks" := (f11.wr W13)
  have f16 : Fld Z h13 a1 "com/example/corbel/corbel/Peaks" "frequencies" "[I" (.ref b2) := ((Fw5.ext E6).other W13 (Or.inr (slot_ne (Or.inl (hw _ (List.mem_of_getElem? (i := 11) rfl))) (Or.inl (hw _ (List.mem_of_getElem? (i := 13) rfl))) (by decide) (t := (.array .int)) (t' := (.array .int)) (by decide) (by decide))))
  have f17 : Fld Z h13 a1 "com/example/corbel/corbel/Peaks" "count" "I" (.int (0 : Int32)) := ((((F_count_a1.ext E2).other W5 (Or.inr (slot_ne (Or.inl (hw _ (List.mem_of_getElem? (i := 20) rfl))) (Or.inl (hw _ (List.mem_of_getElem? (i := 11) rfl))) (by decide) (t := .int) (t' := (.array .int)) (by decide) (by decide)))).ext E6).other W13 (Or.inr (slot_ne (Or.inl (hw _ (List.mem_of_getElem? (i := 20) rfl))) (Or.inl (hw _ (List.mem_of_getElem? (i := 13) rfl))) (by decide) (t := .int) (t' := (.array .int)) (by decide) (by decide))))
  have f18 : Arv Z h13 b2 k2 .int p2 (List.replicate 4 (.int (0 : Int32))) (.int (0 : Int32)) := ((f8.ext E6).other W13 (Ne.symm ne_a1_b2))
  have f19 : Arv Z h13 b6 k6 .int p2 (List.replicate 4 (.int (0 : Int32))) (.int (0 : Int32)) := (V6.other W13 (Ne.symm ne_a1_b6))
  exact ⟨b2, b6, k2, k6, rfl, N13, K14, f15, f16, Fw13, f17, f18, f19, sz_b2, sz_b6, ne_b2_b6⟩
theorem own_d5_0 : decode jdk_65_method_123_code 0 = .ok (.iload_n 1, 1) := by decide +kernel
theorem own_d5_1 : decode jdk_65_method_123_code 1 = .ok (.aload_n 0, 1) := by decide +kernel
theorem own_d5_2 : decode jdk_65_method_123_code 2 = .ok (.arraylength, 1) := by decide +kernel
theorem own_d5_3 : decode jdk_65_method_123_code 3 = .ok (.if_icmp .ne 11, 3) := by decide +kernel
theorem own_d5_14 : decode jdk_65_method_123_code 14 = .ok (.iload_n 1, 1) := by decide +kernel
theorem own_d5_15 : decode jdk_65_method_123_code 15 = .ok (.newarray .int, 2) := by decide +kernel
theorem own_d5_17 : decode jdk_65_method_123_code 17 = .ok (.astore_n 2, 1) := by decide +kernel
theorem own_d5_18 : decode jdk_65_method_123_code 18 = .ok (.aload_n 0, 1) := by decide +kernel
theorem own_d5_19 : decode jdk_65_method_123_code 19 = .ok (.iconst 0, 1) := by decide +kernel
theorem own_d5_20 : decode jdk_65_method_123_code 20 = .ok (.aload_n 2, 1) := by decide +kernel
theorem own_d5_21 : decode jdk_65_method_123_code 21 = .ok (.iconst 0, 1) := by decide +kernel
theorem own_d5_22 : decode jdk_65_method_123_code 22 = .ok (.aload_n 0, 1) := by decide +kernel
theorem own_d5_23 : decode jdk_65_method_123_code 23 = .ok (.arraylength, 1) := by decide +kernel
theorem own_d5_24 : decode jdk_65_method_123_code 24 = .ok (.iload_n 1, 1) := by decide +kernel
theorem own_d5_25 : decode jdk_65_method_123_code 25 = .ok (.invokestatic 304, 3) := by decide +kernel
theorem own_pd0 : parseMethodDescriptor "(II)I" = some ⟨[.int, .int], some .int⟩ := by decide +kernel
theorem own_d5_28 : decode jdk_65_method_123_code 28 = .ok (.invokestatic 150, 3) := by decide +kernel
theorem own_d5_31 : decode jdk_65_method_123_code 31 = .ok (.aload_n 2, 1) := by decide +kernel
theorem own_d5_32 : decode jdk_65_method_123_code 32 = .ok (.areturn, 1) := by decide +kernel
def own_Q5_1 (Z : State) (a1 : Addr) (x0 : Int32) (tl : List Value) (k_a1 : ClassId) (h0 : Heap) (n0 : Nat) (v : Option Value) (h : Heap) (L : List Loc) : Prop := ∃ r : Addr, ∃ kr : ClassId, v = some (.ref r) ∧ Fr n0 L ∧ Keep h0 h [] ∧ Arv Z h r kr .int (2 : Int32) [(.int x0), (.int (0 : Int32))] (.int (0 : Int32)) ∧ h0.size ≤ r
theorem own_pn2 : plainName "java/util/Arrays" = true := by first | (simp [plainName, overriddenIn]; done) | decide +kernel
theorem own_ef_own_rm5_1 (m : MethodId) (a1 : Addr) : entryFrame m #[(.ref a1), (.int (2 : Int32))] 3 = mkF m 0 #[.val (.ref a1), .val (.int (2 : Int32)), .unset] [] := by first | (simp [entryFrame, mkF, argsToLocals, Value.category]; done) | rfl
set_option maxRecDepth 65536 in
set_option maxHeartbeats 40000000 in
theorem own_rm5_1 (l : Launch) (Z : State) (a0 : Array Value) (hw : ∀ d ∈ tables_1, d.before a0 Z = true) (ws : List Jvm.Cond) (a1 : Addr) (x0 : Int32) (tl : List Value) (k_a1 : ClassId) (h0 : Heap) (n0 : Nat) (Z0 : n0 ≤ h0.size) (V_a1 : Arv Z h0 a1 k_a1 .int (1 : Int32) ((.int x0) :: tl) (.int (0 : Int32))) :
    MetFree l (⟨"java/util/Arrays", "copyOf", "([II)[I"⟩ : MethodName) (head1 (Jvm.Cond.code (⟨"java/util/Arrays", "copyOf", "([II)[I"⟩ : MethodName) jdk_65_method_123_code 3 (some (.array .int)) :: ws) ({ frames := 1, cells := 1, slots := 2, locals := 27 } : Room)) (fun a U => a = #[(.ref a1), (.int (2 : Int32))] ∧ Z.Warmed39 U.vm ∧ U.heap = h0) (fun _ _ _ _ _ => True) (fun _ U o U' => ∃ v L, o = .returned v ∧ own_Q5_1 Z a1 x0 tl k_a1 h0 n0 v U'.heap L ∧ FrameEnd U o U' L ({ frames := 1, cells := 1, slots := 2, locals := 27 } : Room).cells ({ frames := 1, cells := 1, slots := 2, locals := 27 } : Room).slots) := by
  refine MetFree.of_bodySF (plainFor_of_name own_pn2) hisR ?_
  intro p e s m args below meth c s₁ Bd hml0 hP hK
  obtain ⟨rfl, hZ, hh⟩ := hP
  have hx := Bd.exec
  have hby := Bd.bytes
  have hml : c.maxLocals = 3 := hml0
  have hown : s.vm.findClass "java/util/Arrays" = some m.cls := findClass_of_methodNamed Bd.named
  have hnm := (name_of_methodNamed Bd.named Bd.method).1
  have X0 : Stand p l e ({ frames := 1, cells := 1, slots := 2, locals := 27 } : Room) s m #[(.ref a1), (.int (2 : Int32))] below meth c s₁ [] 0 0 := Stand.of_body Bd
  have e0 : s₁.heap = h0 := by rw [← hh, Bd.state]; rfl
  have N0 := Fr.nil n0
  show OE FrameEnd p e below s (own_Q5_1 Z a1 x0 tl k_a1 h0 n0) ({ frames := 1, cells := 1, slots := 2, locals := 27 } : Room).cells ({ frames := 1, cells := 1, slots := 2, locals := 27 } : Room).slots s₁ (entryFrame m #[(.ref a1), (.int (2 : Int32))] 3)
  rw [own_ef_own_rm5_1]
  show OE _ p e below s _ _ _ s₁ (mkF m 0 #[.val (.ref a1), .val (.int (2 : Int32)), .unset] [])
  refine OE.iloadN X0 hx hby own_d5_0 rfl ?_
  refine OE.aloadN X0 hx hby own_d5_1 rfl rfl ?_
  have Vo1 := V_a1
  obtain ⟨cl1, Ar1, -, Sz1, Nz1, -, -⟩ := Vo1
  refine OE.of (X0.arraylength hx (by rw [e0]; exact Ar1.1) (State.isArrayOf_alike hZ.alike Ar1.2.1) (g := (mkF m 2 #[.val (.ref a1), .val (.int (2 : Int32)), .unset] [(.ref a1), (.int (2 : Int32))])) rfl rfl (hb hby own_d5_2)) ?_
  rw [len_of Sz1 Nz1]
  show OE _ p e below s _ _ _ s₁ (mkF m 3 #[.val (.ref a1), .val (.int (2 : Int32)), .unset] [(.int (1 : Int32)), (.int (2 : Int32))])
  refine OE.icmpYes X0 hx hby (pc' := 14) own_d5_3 (feq (by decide : ¬ ((2 : Int32) = (1 : Int32)))).2 (h := ?_)
  refine OE.iloadN X0 hx hby own_d5_14 rfl ?_
  obtain ⟨T2, h2, k2, X2, e2, E2, A2, B2, st2⟩ := newPE X0 hx hZ (hw _ (List.mem_of_getElem? (i := 9) rfl)) e0 (g := (mkF m 15 #[.val (.ref a1), .val (.int (2 : Int32)), .unset] [(.int (2 : Int32))])) rfl (hb hby own_d5_15) rfl (by decide) (cap := 2) (by decide) (by decide) (by decide) (by decide) (ad := "[I") (by decide)
  refine OE.of st2 ?_
  obtain ⟨b2, g2⟩ : ∃ z, z = h0.size := ⟨_, rfl⟩
  rw [← g2] at A2 B2 ⊢
  have ne_a1_b2 : a1 ≠ b2 := Nat.ne_of_lt (Nat.lt_of_lt_of_le V_a1.lt (Nat.le_of_eq g2.symm))
  have g_b2 : n0 ≤ b2 := Nat.le_trans Z0 (Nat.le_of_eq g2.symm)
  have sz_b2 : h0.size ≤ b2 := Nat.le_trans (Keep.refl h0 []).1 (Nat.le_of_eq g2.symm)
  have V2 : Arv Z h2 b2 k2 .int (2 : Int32) [(.int (0 : Int32)), (.int (0 : Int32))] (.int (0 : Int32)) := (Arv.new A2 (by decide)).pad (pad_rep [] (.int (0 : Int32)) 2)
  show OE _ p e below s _ _ _ T2 (mkF m 17 #[.val (.ref a1), .val (.int (2 : Int32)), .unset] [(.ref b2)])
  refine OE.astoreN X2 hx hby own_d5_17 rfl (l' := #[.val (.ref a1), .val (.int (2 : Int32)), .val (.ref b2)]) rfl ?_
  refine OE.aloadN X2 hx hby own_d5_18 rfl rfl ?_
  refine OE.iconst X2 hx hby own_d5_19 (0 : Int32) rfl ?_
  refine OE.aloadN X2 hx hby own_d5_20 rfl rfl ?_
  refine OE.iconst X2 hx hby own_d5_21 (0 : Int32) rfl ?_
  refine OE.aloadN X2 hx hby own_d5_22 rfl rfl ?_
  have f3 : Arv Z h2 a1 k_a1 .int (1 : Int32) ((.int x0) :: tl) (.int (0 : Int32)) := (V_a1.ext E2)
  have Vo4 := f3
  obtain ⟨cl4, Ar4, -, Sz4, Nz4, -, -⟩ := Vo4
  refine OE.of (X2.arraylength hx (by rw [e2]; exact Ar4.1) (State.isArrayOf_alike hZ.alike Ar4.2.1) (g := (mkF m 23 #[.val (.ref a1), .val (.int (2 : Int32)), .val (.ref b2)] [(.ref a1), (.int (0 : Int32)), (.ref b2), (.int (0 : Int32)), (.ref a1)])) rfl rfl (hb hby own_d5_23)) ?_
  rw [len_of Sz4 Nz4]
  show OE _ p e below s _ _ _ T2 (mkF m 24 #[.val (.ref a1), .val (.int (2 : Int32)), .val (.ref b2)] [(.int (1 : Int32)), (.int (0 : Int32)), (.ref b2), (.int (0 : Int32)), (.ref a1)])
  refine OE.iloadN X2 hx hby own_d5_24 rfl ?_
  have z5 : n0 ≤ h2.size := (Nat.le_trans Z0 E2.1)
  obtain ⟨_, _, ⟨T6, L6, k6, n6⟩, -, X6, ⟨Lc6, hQ6, l6, y6, z6⟩, st6⟩ := Jvm.LawKit.callS X2 hx (y := (⟨"java/lang/Math", "min", "(II)I"⟩ : MethodName)) hown (mvT hZ (hw _ (List.mem_of_getElem? (i := 30) rfl))) (mvT hZ (hw _ (List.mem_of_getElem? (i := 31) rfl))) (mvT hZ (hw _ (List.mem_of_getElem? (i := 32) rfl))) (mvT hZ (hw _ (List.mem_of_getElem? (i := 33) rfl))) (by decide) (backOf (W := 4) (own_rm6 l Z a0 hw [] (1 : Int32) (2 : Int32) h2 n0 z5 ) hZ (hw _ (List.mem_of_getElem? (i := 33) rfl)) (hw _ (List.mem_of_getElem? (i := 32) rfl)) (by decide) (by decide)) (g := (mkF m 25 #[.val (.ref a1), .val (.int (2 : Int32)), .val (.ref b2)] [(.int (2 : Int32)), (.int (1 : Int32)), (.int (0 : Int32)), (.ref b2), (.int (0 : Int32)), (.ref a1)])) rfl (by rw [hml]; rfl) (argsL := [(.int (1 : Int32)), (.int (2 : Int32))]) (rest := [(.int (0 : Int32)), (.ref b2), (.int (0 : Int32)), (.ref a1)]) (lenOf own_pd0 rfl) rfl (by show 2 * 0 + _ ≤ _; exact Nat.le_of_eq rfl) (hb hby own_d5_25) (fun _ _ => ⟨rfl, e2, (by decide : 1 + 0 ≤ _), (by decide : 2 + 0 ≤ _)⟩)
  dsimp only [Pt.U, Pt.locs, Pt.cells, Pt.slots] at X6 l6 y6 z6 st6 hQ6
  subst l6 y6 z6
  obtain ⟨rfl, Nq6, eq6⟩ := hQ6
  refine OE.of (fun _ k => st6 _ k) ?_
  have N6 := Fr.app N0 Nq6
  show OE _ p e below s _ _ _ T6 (mkF m 28 #[.val (.ref a1), .val (.int (2 : Int32)), .val (.ref b2)] [(.int (if (2 : Int32) < (1 : Int32) then (2 : Int32) else (1 : Int32))), (.int (0 : Int32)), (.ref b2), (.int (0 : Int32)), (.ref a1)])
  rw [if_neg (show ¬ ((2 : Int32) < (1 : Int32)) from (by decide : ¬ ((2 : Int32) < (1 : Int32))))]
  show OE _ p e below s _ _ _ T6 (mkF m 28 #[.val (.ref a1), .val (.int (2 : Int32)), .val (.ref b2)] [(.int (1 : Int32)), (.int (0 : Int32)), (.ref b2), (.int (0 : Int32)), (.ref a1)])
  obtain ⟨T7, h7, L7, X7, e7, N7, K7, V7, st7⟩ := cpA X6 hx hZ hown (hw _ (List.mem_of_getElem? (i := 34) rfl)) (hw _ (List.mem_of_getElem? (i := 37) rfl)) (hw _ (List.mem_of_getElem? (i := 35) rfl)) (hw _ (List.mem_of_getElem? (i := 36) rfl)) eq6 f3 V2 (Or.inl ⟨rfl, rfl⟩) (us := [(.int x0)]) (sp := (0 : Int32)) (dp := (0 : Int32)) (nn := (1 : Int32)) (by decide) (by decide) (by decide) (by decide) (by decide) rfl (by decide) N6 g_b2 (g := (mkF m 28 #[.val (.ref a1), .val (.int (2 : Int32)), .val (.ref b2)] [(.int (1 : Int32)), (.int (0 : Int32)), (.ref b2), (.int (0 : Int32)), (.ref a1)])) rfl (by rw [hml]; rfl) rfl (hb hby own_d5_28) (by decide) (W := 0) (by show 2 * 0 + _ ≤ _; exact Nat.le_of_eq rfl) (by decide)
  refine OE.of st7 ?_
  have U7 : Arv Z h7 b2 k2 .int (2 : Int32) [(.int x0), (.int (0 : Int32))] (.int (0 : Int32)) := V7
  show OE _ p e below s _ _ _ T7 (mkF m 31 #[.val (.ref a1), .val (.int (2 : Int32)), .val (.ref b2)] [])
  refine OE.aloadN X7 hx hby own_d5_31 rfl rfl ?_
  refine OE.retA X7 hx rfl Bd.returns rfl Bd.notSynchronized (hb hby own_d5_32) (by decide) (by decide) ?_
  rw [e7]
  have K8 : Keep h0 h7 [] := (Keep.trans (Keep.ext (Keep.refl h0 []) E2) K7 (allS (Or.inr sz_b2) all0))
  exact ⟨b2, k2, rfl, N7, K8, U7, sz_b2⟩
def own_Q5_2 (Z : State) (a1 : Addr) (x0 : Int32) (x1 : Int32) (tl : List Value) (k_a1 : ClassId) (h0 : Heap) (n0 : Nat) (v : Option Value) (h : Heap) (L : List Loc) : Prop := ∃ r : Addr, ∃ kr : ClassId, v = some (.ref r) ∧ Fr n0 L ∧ Keep h0 h [] ∧ Arv Z h r kr .int (4 : Int32) [(.int x0), (.int x1), (.int (0 : Int32)), (.int (0 : Int32))] (.int (0 : Int32)) ∧ h0.size ≤ r
theorem own_ef_own_rm5_2 (m : MethodId) (a1 : Addr) : entryFrame m #[(.ref a1), (.int (4 : Int32))] 3 = mkF m 0 #[.val (.ref a1), .val (.int (4 : Int32)), .unset] [] := by first | (simp [entryFrame, mkF, argsToLocals, Value.category]; done) | rfl
set_option maxRecDepth 65536 in
set_option maxHeartbeats 40000000 in
theorem own_rm5_2 (l : Launch) (Z : State) (a0 : Array Value) (hw : ∀ d ∈ tables_1, d.before a0 Z = true) (ws : List Jvm.Cond) (a1 : Addr) (x0 : Int32) (x1 : Int32) (tl : List Value) (k_a1 : ClassId) (h0 : Heap) (n0 : Nat) (Z0 : n0 ≤ h0.size) (V_a1 : Arv Z h0 a1 k_a1 .int (2 : Int32) ((.int x0) :: (.int x1) :: tl) (.int (0 : Int32))) :
    MetFree l (⟨"java/util/Arrays", "copyOf", "([II)[I"⟩ : MethodName) (head1 (Jvm.Cond.code (⟨"java/util/Arrays", "copyOf", "([II)[I"⟩ : MethodName) jdk_65_method_123_code 3 (some (.array .int)) :: ws) ({ frames := 1, cells := 1, slots := 4, locals := 27 } : Room)) (fun a U => a = #[(.ref a1), (.int (4 : Int32))] ∧ Z.Warmed39 U.vm ∧ U.heap = h0) (fun _ _ _ _ _ => True) (fun _ U o U' => ∃ v L, o = .returned v ∧ own_Q5_2 Z a1 x0 x1 tl k_a1 h0 n0 v U'.heap L ∧ FrameEnd U o U' L ({ frames := 1, cells := 1, slots := 4, locals := 27 } : Room).cells ({ frames := 1, cells := 1, slots := 4, locals := 27 } : Room).slots) := by
  refine MetFree.of_bodySF (plainFor_of_name own_pn2) hisR ?_
  intro p e s m args below meth c s₁ Bd hml0 hP hK
  obtain ⟨rfl, hZ, hh⟩ := hP
  have hx := Bd.exec
  have hby := Bd.bytes
  have hml : c.maxLocals = 3 := hml0
  have hown : s.vm.findClass "java/util/Arrays" = some m.cls := findClass_of_methodNamed Bd.named
  have hnm := (name_of_methodNamed Bd.named Bd.method).1
  have X0 : Stand p l e ({ frames := 1, cells := 1, slots := 4, locals := 27 } : Room) s m #[(.ref a1), (.int (4 : Int32))] below meth c s₁ [] 0 0 := Stand.of_body Bd
  have e0 : s₁.heap = h0 := by rw [← hh, Bd.state]; rfl
  have N0 := Fr.nil n0
  show OE FrameEnd p e below s (own_Q5_2 Z a1 x0 x1 tl k_a1 h0 n0) ({ frames := 1, cells := 1, slots := 4, locals := 27 } : Room).cells ({ frames := 1, cells := 1, slots := 4, locals := 27 } : Room).slots s₁ (entryFrame m #[(.ref a1), (.int (4 : Int32))] 3)
  rw [own_ef_own_rm5_2]
  show OE _ p e below s _ _ _ s₁ (mkF m 0 #[.val (.ref a1), .val (.int (4 : Int32)), .unset] [])
  refine OE.iloadN X0 hx hby own_d5_0 rfl ?_
  refine OE.aloadN X0 hx hby own_d5_1 rfl rfl ?_
  have Vo1 := V_a1
  obtain ⟨cl1, Ar1, -, Sz1, Nz1, -, -⟩ := Vo1
  refine OE.of (X0.arraylength hx (by rw [e0]; exact Ar1.1) (State.isArrayOf_alike hZ.alike Ar1.2.1) (g := (mkF m 2 #[.val (.ref a1), .val (.int (4 : Int32)), .unset] [(.ref a1), (.int (4 : Int32))])) rfl rfl (hb hby own_d5_2)) ?_
  rw [len_of Sz1 Nz1]
  show OE _ p e below s _ _ _ s₁ (mkF m 3 #[.val (.ref a1), .val (.int (4 : Int32)), .unset] [(.int (2 : Int32)), (.int (4 : Int32))])
  refine OE.icmpYes X0 hx hby (pc' := 14) own_d5_3 (feq (by decide : ¬ ((4 : Int32) = (2 : Int32)))).2 (h := ?_)
  refine OE.iloadN X0 hx hby own_d5_14 rfl ?_
  obtain ⟨T2, h2, k2, X2, e2, E2, A2, B2, st2⟩ := newPE X0 hx hZ (hw _ (List.mem_of_getElem? (i := 9) rfl)) e0 (g := (mkF m 15 #[.val (.ref a1), .val (.int (4 : Int32)), .unset] [(.int (4 : Int32))])) rfl (hb hby own_d5_15) rfl (by decide) (cap := 4) (by decide) (by decide) (by decide) (by decide) (ad := "[I") (by decide)
  refine OE.of st2 ?_
  obtain ⟨b2, g2⟩ : ∃ z, z = h0.size := ⟨_, rfl⟩
  rw [← g2] at A2 B2 ⊢
  have ne_a1_b2 : a1 ≠ b2 := Nat.ne_of_lt (Nat.lt_of_lt_of_le V_a1.lt (Nat.le_of_eq g2.symm))
  have g_b2 : n0 ≤ b2 := Nat.le_trans Z0 (Nat.le_of_eq g2.symm)
  have sz_b2 : h0.size ≤ b2 := Nat.le_trans (Keep.refl h0 []).1 (Nat.le_of_eq g2.symm)
  have V2 : Arv Z h2 b2 k2 .int (4 : Int32) [(.int (0 : Int32)), (.int (0 : Int32)), (.int (0 : Int32)), (.int (0 : Int32))] (.int (0 : Int32)) := (Arv.new A2 (by decide)).pad (pad_rep [] (.int (0 : Int32)) 4)
  show OE _ p e below s _ _ _ T2 (mkF m 17 #[.val (.ref a1), .val (.int (4 : Int32)), .unset] [(.ref b2)])
  refine OE.astoreN X2 hx hby own_d5_17 rfl (l' := #[.val (.ref a1), .val (.int (4 : Int32)), .val (.ref b2)]) rfl ?_
  refine OE.aloadN X2 hx hby own_d5_18 rfl rfl ?_
  refine OE.iconst X2 hx hby own_d5_19 (0 : Int32) rfl ?_
  refine OE.aloadN X2 hx hby own_d5_20 rfl rfl ?_
  refine OE.iconst X2 hx hby own_d5_21 (0 : Int32) rfl ?_
  refine OE.aloadN X2 hx hby own_d5_22 rfl rfl ?_
  have f3 : Arv Z h2 a1 k_a1 .int (2 : Int32) ((.int x0) :: (.int x1) :: tl) (.int (0 : Int32)) := (V_a1.ext E2)
  have Vo4 := f3
  obtain ⟨cl4, Ar4, -, Sz4, Nz4, -, -⟩ := Vo4
  refine OE.of (X2.arraylength hx (by rw [e2]; exact Ar4.1) (State.isArrayOf_alike hZ.alike Ar4.2.1) (g := (mkF m 23 #[.val (.ref a1), .val (.int (4 : Int32)), .val (.ref b2)] [(.ref a1), (.int (0 : Int32)), (.ref b2), (.int (0 : Int32)), (.ref a1)])) rfl rfl (hb hby own_d5_23)) ?_
  rw [len_of Sz4 Nz4]
  show OE _ p e below s _ _ _ T2 (mkF m 24 #[.val (.ref a1), .val (.int (4 : Int32)), .val (.ref b2)] [(.int (2 : Int32)), (.int (0 : Int32)), (.ref b2), (.int (0 : Int32)), (.ref a1)])
  refine OE.iloadN X2 hx hby own_d5_24 rfl ?_
  have z5 : n0 ≤ h2.size := (Nat.le_trans Z0 E2.1)
  obtain ⟨_, _, ⟨T6, L6, k6, n6⟩, -, X6, ⟨Lc6, hQ6, l6, y6, z6⟩, st6⟩ := Jvm.LawKit.callS X2 hx (y := (⟨"java/lang/Math", "min", "(II)I"⟩ : MethodName)) hown (mvT hZ (hw _ (List.mem_of_getElem? (i := 30) rfl))) (mvT hZ (hw _ (List.mem_of_getElem? (i := 31) rfl))) (mvT hZ (hw _ (List.mem_of_getElem? (i := 32) rfl))) (mvT hZ (hw _ (List.mem_of_getElem? (i := 33) rfl))) (by decide) (backOf (W := 4) (own_rm6 l Z a0 hw [] (2 : Int32) (4 : Int32) h2 n0 z5 ) hZ (hw _ (List.mem_of_getElem? (i := 33) rfl)) (hw _ (List.mem_of_getElem? (i := 32) rfl)) (by decide) (by decide)) (g := (mkF m 25 #[.val (.ref a1), .val (.int (4 : Int32)), .val (.ref b2)] [(.int (4 : Int32)), (.int (2 : Int32)), (.int (0 : Int32)), (.ref b2), (.int (0 : Int32)), (.ref a1)])) rfl (by rw [hml]; rfl) (argsL := [(.int (2 : Int32)), (.int (4 : Int32))]) (rest := [(.int (0 : Int32)), (.ref b2), (.int (0 : Int32)), (.ref a1)]) (lenOf own_pd0 rfl) rfl (by show 2 * 0 + _ ≤ _; exact Nat.le_of_eq rfl) (hb hby own_d5_25) (fun _ _ => ⟨rfl, e2, (by decide : 1 + 0 ≤ _), (by decide : 4 + 0 ≤ _)⟩)
  dsimp only [Pt.U, Pt.locs, Pt.cells, Pt.slots] at X6 l6 y6 z6 st6 hQ6
  subst l6 y6 z6
  obtain ⟨rfl, Nq6, eq6⟩ := hQ6
  refine OE.of (fun _ k => st6 _ k) ?_
  have N6 := Fr.app N0 Nq6
  show OE _ p e below s _ _ _ T6 (mkF m 28 #[.val (.ref a1), .val (.int (4 : Int32)), .val (.ref b2)] [(.int (if (4 : Int32) < (2 : Int32) then (4 : Int32) else (2 : Int32))), (.int (0 : Int32)), (.ref b2), (.int (0 : Int32)), (.ref a1)])
  rw [if_neg (show ¬ ((4 : Int32) < (2 : Int32)) from (by decide : ¬ ((4 : Int32) < (2 : Int32))))]
  show OE _ p e below s _ _ _ T6 (mkF m 28 #[.val (.ref a1), .val (.int (4 : Int32)), .val (.ref b2)] [(.int (2 : Int32)), (.int (0 : Int32)), (.ref b2), (.int (0 : Int32)), (.ref a1)])
  obtain ⟨T7, h7, L7, X7, e7, N7, K7, V7, st7⟩ := cpA X6 hx hZ hown (hw _ (List.mem_of_getElem? (i := 34) rfl)) (hw _ (List.mem_of_getElem? (i := 37) rfl)) (hw _ (List.mem_of_getElem? (i := 35) rfl)) (hw _ (List.mem_of_getElem? (i := 36) rfl)) eq6 f3 V2 (Or.inl ⟨rfl, rfl⟩) (us := [(.int x0), (.int x1)]) (sp := (0 : Int32)) (dp := (0 : Int32)) (nn := (2 : Int32)) (by decide) (by decide) (by decide) (by decide) (by decide) rfl (by decide) N6 g_b2 (g := (mkF m 28 #[.val (.ref a1), .val (.int (4 : Int32)), .val (.ref b2)] [(.int (2 : Int32)), (.int (0 : Int32)), (.ref b2), (.int (0 : Int32)), (.ref a1)])) rfl (by rw [hml]; rfl) rfl (hb hby own_d5_28) (by decide) (W := 0) (by show 2 * 0 + _ ≤ _; exact Nat.le_of_eq rfl) (by decide)
  refine OE.of st7 ?_
  have U7 : Arv Z h7 b2 k2 .int (4 : Int32) [(.int x0), (.int x1), (.int (0 : Int32)), (.int (0 : Int32))] (.int (0 : Int32)) := V7
  show OE _ p e below s _ _ _ T7 (mkF m 31 #[.val (.ref a1), .val (.int (4 : Int32)), .val (.ref b2)] [])
  refine OE.aloadN X7 hx hby own_d5_31 rfl rfl ?_
  refine OE.retA X7 hx rfl Bd.returns rfl Bd.notSynchronized (hb hby own_d5_32) (by decide) (by decide) ?_
  rw [e7]
  have K8 : Keep h0 h7 [] := (Keep.trans (Keep.ext (Keep.refl h0 []) E2) K7 (allS (Or.inr sz_b2) all0))
  exact ⟨b2, k2, rfl, N7, K8, U7, sz_b2⟩
theorem own_d4_0 : decode prog_131_method_6_code 0 = .ok (.aload_n 0, 1) := by decide +kernel
theorem own_d4_1 : decode prog_131_method_6_code 1 = .ok (.getfield 19, 3) := by decide +kernel
theorem own_d4_4 : decode prog_131_method_6_code 4 = .ok (.aload_n 0, 1) := by decide +kernel
theorem own_d4_5 : decode prog_131_method_6_code 5 = .ok (.getfield 12, 3) := by decide +kernel
theorem own_d4_8 : decode prog_131_method_6_code 8 = .ok (.arraylength, 1) := by decide +kernel
theorem own_d4_9 : decode prog_131_method_6_code 9 = .ok (.if_icmp .ne 37, 3) := by decide +kernel
theorem own_d4_46 : decode prog_131_method_6_code 46 = .ok (.aload_n 0, 1) := by decide +kernel
theorem own_d4_47 : decode prog_131_method_6_code 47 = .ok (.getfield 12, 3) := by decide +kernel
theorem own_d4_50 : decode prog_131_method_6_code 50 = .ok (.aload_n 0, 1) := by decide +kernel
theorem own_d4_51 : decode prog_131_method_6_code 51 = .ok (.getfield 19, 3) := by decide +kernel
theorem own_d4_54 : decode prog_131_method_6_code 54 = .ok (.iload_n 1, 1) := by decide +kernel
theorem own_d4_55 : decode prog_131_method_6_code 55 = .ok (.iastore, 1) := by decide +kernel
theorem own_d4_56 : decode prog_131_method_6_code 56 = .ok (.aload_n 0, 1) := by decide +kernel
theorem own_d4_57 : decode prog_131_method_6_code 57 = .ok (.getfield 16, 3) := by decide +kernel
theorem own_d4_60 : decode prog_131_method_6_code 60 = .ok (.aload_n 0, 1) := by decide +kernel
theorem own_d4_61 : decode prog_131_method_6_code 61 = .ok (.getfield 19, 3) := by decide +kernel
theorem own_d4_64 : decode prog_131_method_6_code 64 = .ok (.iload_n 2, 1) := by decide +kernel
theorem own_d4_65 : decode prog_131_method_6_code 65 = .ok (.iastore, 1) := by decide +kernel
theorem own_d4_66 : decode prog_131_method_6_code 66 = .ok (.aload_n 0, 1) := by decide +kernel
theorem own_d4_67 : decode prog_131_method_6_code 67 = .ok (.dup, 1) := by decide +kernel
theorem own_d4_68 : decode prog_131_method_6_code 68 = .ok (.getfield 19, 3) := by decide +kernel
theorem own_d4_71 : decode prog_131_method_6_code 71 = .ok (.iconst 1, 1) := by decide +kernel
theorem own_d4_72 : decode prog_131_method_6_code 72 = .ok (.iadd, 1) := by decide +kernel
theorem own_d4_73 : decode prog_131_method_6_code 73 = .ok (.putfield 19, 3) := by decide +kernel
theorem own_d4_76 : decode prog_131_method_6_code 76 = .ok (.return_, 1) := by decide +kernel
def own_Q4_A (Z : State) (a1 : Addr) (p2 : Int32) (p3 : Int32) (f : Addr) (g : Addr) (w_count_a1 : Int32) (nn : Int32) (k_f : ClassId) (vs_f : List Value) (k_g : ClassId) (vs_g : List Value) (h0 : Heap) (n0 : Nat) (v : Option Value) (h : Heap) (L : List Loc) : Prop := v = none ∧ Fr n0 L ∧ Keep h0 h [a1, f, g] ∧ Exa Z h a1 "com/example/corbel/corbel/Peaks" ∧ Fld Z h a1 "com/example/corbel/corbel/Peaks" "count" "I" (.int (w_count_a1 + (1 : Int32))) ∧ Fld Z h a1 "com/example/corbel/corbel/Peaks" "frequencies" "[I" (.ref f) ∧ Fld Z h a1 "com/example/corbel/corbel/Peaks" "lengths" "[I" (.ref g) ∧ Arv Z h f k_f .int nn (vs_f.set w_count_a1.toNatClampNeg (.int p2)) (.int (0 : Int32)) ∧ Arv Z h g k_g .int nn (vs_g.set w_count_a1.toNatClampNeg (.int p3)) (.int (0 : Int32))
theorem own_ef_own_rm4_A (m : MethodId) (a1 : Addr) (p2 : Int32) (p3 : Int32) : entryFrame m #[(.ref a1), (.int p2), (.int p3)] 3 = mkF m 0 #[.val (.ref a1), .val (.int p2), .val (.int p3)] [] := by first | (simp [entryFrame, mkF, argsToLocals, Value.category]; done) | rfl
set_option maxRecDepth 65536 in
set_option maxHeartbeats 40000000 in
theorem own_rm4_A (l : Launch) (Z : State) (a0 : Array Value) (hw : ∀ d ∈ tables_1, d.before a0 Z = true) (ws : List Jvm.Cond) (a1 : Addr) (p2 : Int32) (p3 : Int32) (f : Addr) (g : Addr) (w_count_a1 : Int32) (nn : Int32) (k_f : ClassId) (vs_f : List Value) (k_g : ClassId) (vs_g : List Value) (h0 : Heap) (n0 : Nat) (Z0 : n0 ≤ h0.size) (E_a1 : Exa Z h0 a1 "com/example/corbel/corbel/Peaks") (F_count_a1 : Fld Z h0 a1 "com/example/corbel/corbel/Peaks" "count" "I" (.int w_count_a1)) (F_frequencies_a1 : Fld Z h0 a1 "com/example/corbel/corbel/Peaks" "frequencies" "[I" (.ref f)) (F_lengths_a1 : Fld Z h0 a1 "com/example/corbel/corbel/Peaks" "lengths" "[I" (.ref g)) (V_f : Arv Z h0 f k_f .int nn vs_f (.int (0 : Int32))) (V_g : Arv Z h0 g k_g .int nn vs_g (.int (0 : Int32))) (g_a1 : n0 ≤ a1) (g_f : n0 ≤ f) (g_g : n0 ≤ g) (ne_f_a1 : f ≠ a1) (ne_g_a1 : g ≠ a1) (ne_f_g : f ≠ g) (hne : ¬ (w_count_a1 = nn)) (hin : ¬ w_count_a1 < 0 ∧ w_count_a1 < nn) (lf : w_count_a1.toNatClampNeg < vs_f.length) (lg : w_count_a1.toNatClampNeg < vs_g.length) :
    MetFree l (⟨"com/example/corbel/corbel/Peaks", "append", "(II)V"⟩ : MethodName) (head1 (Jvm.Cond.code (⟨"com/example/corbel/corbel/Peaks", "append", "(II)V"⟩ : MethodName) prog_131_method_6_code 3 none :: ws) ({ frames := 0, cells := 0, slots := 0, locals := 0 } : Room)) (fun a U => a = #[(.ref a1), (.int p2), (.int p3)] ∧ Z.Warmed39 U.vm ∧ U.heap = h0) (fun _ _ _ _ _ => True) (fun _ U o U' => ∃ v L, o = .returned v ∧ own_Q4_A Z a1 p2 p3 f g w_count_a1 nn k_f vs_f k_g vs_g h0 n0 v U'.heap L ∧ FrameEnd U o U' L ({ frames := 0, cells := 0, slots := 0, locals := 0 } : Room).cells ({ frames := 0, cells := 0, slots := 0, locals := 0 } : Room).slots) := by
  refine MetFree.of_bodySF (plainFor_of_name own_pn1) hisR ?_
  intro p e s m args below meth c s₁ Bd hml0 hP hK
  obtain ⟨rfl, hZ, hh⟩ := hP
  have hx := Bd.exec
  have hby := Bd.bytes
  have hml : c.maxLocals = 3 := hml0
  have hown : s.vm.findClass "com/example/corbel/corbel/Peaks" = some m.cls := findClass_of_methodNamed Bd.named
  have hnm := (name_of_methodNamed Bd.named Bd.method).1
  have X0 : Stand p l e ({ frames := 0, cells := 0, slots := 0, locals := 0 } : Room) s m #[(.ref a1), (.int p2), (.int p3)] below meth c s₁ [] 0 0 := Stand.of_body Bd
  have e0 : s₁.heap = h0 := by rw [← hh, Bd.state]; rfl
  have N0 := Fr.nil n0
  show OE FrameEnd p e below s (own_Q4_A Z a1 p2 p3 f g w_count_a1 nn k_f vs_f k_g vs_g h0 n0) ({ frames := 0, cells := 0, slots := 0, locals := 0 } : Room).cells ({ frames := 0, cells := 0, slots := 0, locals := 0 } : Room).slots s₁ (entryFrame m #[(.ref a1), (.int p2), (.int p3)] 3)
  rw [own_ef_own_rm4_A]
  show OE _ p e below s _ _ _ s₁ (mkF m 0 #[.val (.ref a1), .val (.int p2), .val (.int p3)] [])
  refine OE.aloadN X0 hx hby own_d4_0 rfl rfl ?_
  obtain ⟨T1, X1, e1, st1⟩ := getF X0 hx hZ hown (host := "") (Or.inl (hw _ (List.mem_of_getElem? (i := 19) rfl))) Via.refl e0 F_count_a1 (g := (mkF m 1 #[.val (.ref a1), .val (.int p2), .val (.int p3)] [(.ref a1)])) rfl rfl (hb hby own_d4_1)
  refine OE.of st1 ?_
  show OE _ p e below s _ _ _ T1 (mkF m 4 #[.val (.ref a1), .val (.int p2), .val (.int p3)] [(.int w_count_a1)])
  refine OE.aloadN X1 hx hby own_d4_4 rfl rfl ?_
  obtain ⟨T2, X2, e2, st2⟩ := getF X1 hx hZ hown (host := "") (Or.inl (hw _ (List.mem_of_getElem? (i := 10) rfl))) Via.refl e1 F_frequencies_a1 (g := (mkF m 5 #[.val (.ref a1), .val (.int p2), .val (.int p3)] [(.ref a1), (.int w_count_a1)])) rfl rfl (hb hby own_d4_5)
  refine OE.of st2 ?_
  show OE _ p e below s _ _ _ T2 (mkF m 8 #[.val (.ref a1), .val (.int p2), .val (.int p3)] [(.ref f), (.int w_count_a1)])
  have Vo3 := V_f
  obtain ⟨cl3, Ar3, -, Sz3, Nz3, -, -⟩ := Vo3
  refine OE.of (X2.arraylength hx (by rw [e2]; exact Ar3.1) (State.isArrayOf_alike hZ.alike Ar3.2.1) (g := (mkF m 8 #[.val (.ref a1), .val (.int p2), .val (.int p3)] [(.ref f), (.int w_count_a1)])) rfl rfl (hb hby own_d4_8)) ?_
  rw [len_of Sz3 Nz3]
  show OE _ p e below s _ _ _ T2 (mkF m 9 #[.val (.ref a1), .val (.int p2), .val (.int p3)] [(.int nn), (.int w_count_a1)])
  refine OE.icmpYes X2 hx hby (pc' := 46) own_d4_9 (feq (hne : ¬ (w_count_a1 = nn))).2 (h := ?_)
  refine OE.aloadN X2 hx hby own_d4_46 rfl rfl ?_
  obtain ⟨T4, X4, e4, st4⟩ := getF X2 hx hZ hown (host := "") (Or.inl (hw _ (List.mem_of_getElem? (i := 10) rfl))) Via.refl e2 F_frequencies_a1 (g := (mkF m 47 #[.val (.ref a1), .val (.int p2), .val (.int p3)] [(.ref a1)])) rfl rfl (hb hby own_d4_47)
  refine OE.of st4 ?_
  show OE _ p e below s _ _ _ T4 (mkF m 50 #[.val (.ref a1), .val (.int p2), .val (.int p3)] [(.ref f)])
  refine OE.aloadN X4 hx hby own_d4_50 rfl rfl ?_
  obtain ⟨T5, X5, e5, st5⟩ := getF X4 hx hZ hown (host := "") (Or.inl (hw _ (List.mem_of_getElem? (i := 19) rfl))) Via.refl e4 F_count_a1 (g := (mkF m 51 #[.val (.ref a1), .val (.int p2), .val (.int p3)] [(.ref a1), (.ref f)])) rfl rfl (hb hby own_d4_51)
  refine OE.of st5 ?_
  show OE _ p e below s _ _ _ T5 (mkF m 54 #[.val (.ref a1), .val (.int p2), .val (.int p3)] [(.int w_count_a1), (.ref f)])
  refine OE.iloadN X5 hx hby own_d4_54 rfl ?_
  have Vo6 := V_f
  obtain ⟨cl6, Ar6, qz6, Sz6, Nz6, Hz6, Gz6⟩ := Vo6
  have hin6 : ¬ (w_count_a1 < 0 ∨ cl6.slots.size ≤ (w_count_a1).toNatClampNeg) := inb_of Sz6 hin
  obtain ⟨T6, h6, X6, e6, W6, st6⟩ := stI X5 hx hZ e5 Ar6 (j := w_count_a1) hin6 (g := (mkF m 55 #[.val (.ref a1), .val (.int p2), .val (.int p3)] [(.int p2), (.int w_count_a1), (.ref f)])) rfl rfl (hb hby own_d4_55)
  refine OE.of st6 ?_
  have V6 : Arv Z h6 f k_f .int nn (vs_f.set w_count_a1.toNatClampNeg (.int p2)) (.int (0 : Int32)) := Arv.set Ar6 qz6 Sz6 Nz6 Hz6 Gz6 rfl W6 w_count_a1.toNatClampNeg rfl lf
  have N6 := Fr.snoc X6 N0 g_f
  show OE _ p e below s _ _ _ T6 (mkF m 56 #[.val (.ref a1), .val (.int p2), .val (.int p3)] [])
  refine OE.aloadN X6 hx hby own_d4_56 rfl rfl ?_
  have f7 : Fld Z h6 a1 "com/example/corbel/corbel/Peaks" "lengths" "[I" (.ref g) := (F_lengths_a1.other W6 (Or.inl (Ne.symm ne_f_a1)))
  obtain ⟨T8, X8, e8, st8⟩ := getF X6 hx hZ hown (host := "") (Or.inl (hw _ (List.mem_of_getElem? (i := 12) rfl))) Via.refl e6 f7 (g := (mkF m 57 #[.val (.ref a1), .val (.int p2), .val (.int p3)] [(.ref a1)])) rfl rfl (hb hby own_d4_57)
  refine OE.of st8 ?_
  show OE _ p e below s _ _ _ T8 (mkF m 60 #[.val (.ref a1), .val (.int p2), .val (.int p3)] [(.ref g)])
  refine OE.aloadN X8 hx hby own_d4_60 rfl rfl ?_
  have f9 : Fld Z h6 a1 "com/example/corbel/corbel/Peaks" "count" "I" (.int w_count_a1) := (F_count_a1.other W6 (Or.inl (Ne.symm ne_f_a1)))
  obtain ⟨T10, X10, e10, st10⟩ := getF X8 hx hZ hown (host := "") (Or.inl (hw _ (List.mem_of_getElem? (i := 19) rfl))) Via.refl e8 f9 (g := (mkF m 61 #[.val (.ref a1), .val (.int p2), .val (.int p3)] [(.ref a1), (.ref g)])) rfl rfl (hb hby own_d4_61)
  refine OE.of st10 ?_
  show OE _ p e below s _ _ _ T10 (mkF m 64 #[.val (.ref a1), .val (.int p2), .val (.int p3)] [(.int w_count_a1), (.ref g)])
  refine OE.iloadN X10 hx hby own_d4_64 rfl ?_
  have f11 : Arv Z h6 g k_g .int nn vs_g (.int (0 : Int32)) := (V_g.other W6 (Ne.symm ne_f_g))
  have Vo12 := f11
  obtain ⟨cl12, Ar12, qz12, Sz12, Nz12, Hz12, Gz12⟩ := Vo12
  have hin12 : ¬ (w_count_a1 < 0 ∨ cl12.slots.size ≤ (w_count_a1).toNatClampNeg) := inb_of Sz12 hin
  obtain ⟨T12, h12, X12, e12, W12, st12⟩ := stI X10 hx hZ e10 Ar12 (j := w_count_a1) hin12 (g := (mkF m 65 #[.val (.ref a1), .val (.int p2), .val (.int p3)] [(.int p3), (.int w_count_a1), (.ref g)])) rfl rfl (hb hby own_d4_65)
  refine OE.of st12 ?_
  have V12 : Arv Z h12 g k_g .int nn (vs_g.set w_count_a1.toNatClampNeg (.int p3)) (.int (0 : Int32)) := Arv.set Ar12 qz12 Sz12 Nz12 Hz12 Gz12 rfl W12 w_count_a1.toNatClampNeg rfl lg
  have N12 := Fr.snoc X12 N6 g_g
  show OE _ p e below s _ _ _ T12 (mkF m 66 #[.val (.ref a1), .val (.int p2), .val (.int p3)] [])
  refine OE.aloadN X12 hx hby own_d4_66 rfl rfl ?_
  refine OE.dup X12 hx hby own_d4_67 rfl ?_
  have f13 : Fld Z h12 a1 "com/example/corbel/corbel/Peaks" "count" "I" (.int w_count_a1) := (f9.other W12 (Or.inl (Ne.symm ne_g_a1)))
  obtain ⟨T14, X14, e14, st14⟩ := getF X12 hx hZ hown (host := "") (Or.inl (hw _ (List.mem_of_getElem? (i := 19) rfl))) Via.refl e12 f13 (g := (mkF m 68 #[.val (.ref a1), .val (.int p2), .val (.int p3)] [(.ref a1), (.ref a1)])) rfl rfl (hb hby own_d4_68)
  refine OE.of st14 ?_
  show OE _ p e below s _ _ _ T14 (mkF m 71 #[.val (.ref a1), .val (.int p2), .val (.int p3)] [(.int w_count_a1), (.ref a1)])
  refine OE.iconst X14 hx hby own_d4_71 (1 : Int32) rfl ?_
  refine OE.iadd X14 hx hby own_d4_72 ?_
  have f15 : Exa Z h12 a1 "com/example/corbel/corbel/Peaks" := ((E_a1.wr W6).wr W12)
  obtain ⟨T16, h16, X16, e16, W16, st16⟩ := putF X14 hx hZ hown (host := "") (Or.inl (hw _ (List.mem_of_getElem? (i := 19) rfl))) Via.refl e14 f13 f15 (Or.inl (hw _ (List.mem_of_getElem? (i := 20) rfl))) (hw _ (List.mem_of_getElem? (i := 1) rfl)) (ty := .int) (by decide) rfl rfl (g := (mkF m 73 #[.val (.ref a1), .val (.int p2), .val (.int p3)] [(.int (w_count_a1 + (1 : Int32))), (.ref a1)])) rfl rfl (hb hby own_d4_73)
  refine OE.of st16 ?_
  have N16 := Fr.snoc X16 N12 g_a1
  have Fw16 := f13.same W16
  show OE _ p e below s _ _ _ T16 (mkF m 76 #[.val (.ref a1), .val (.int p2), .val (.int p3)] [])
  refine OE.ret0 X16 hx Bd.returns Bd.notSynchronized (hb hby own_d4_76) (by decide) (by decide) ?_
  rw [e16]
  have K17 : Keep h0 h16 [a1, f, g] := (Keep.wr (Keep.wr (Keep.wr (Keep.refl h0 [a1, f, g]) W6 (Or.inl (List.mem_of_getElem? (i := 1) rfl))) W12 (Or.inl (List.mem_of_getElem? (i := 2) rfl))) W16 (Or.inl (List.mem_of_getElem? (i := 0) rfl)))
  have f18 : Exa Z h16 a1 "com/example/corbel/corbel/Peaks" := (f15.wr W16)
  have f19 : Fld Z h16 a1 "com/example/corbel/corbel/Peaks" "frequencies" "[I" (.ref f) := (((F_frequencies_a1.other W6 (Or.inl (Ne.symm ne_f_a1))).other W12 (Or.inl (Ne.symm ne_g_a1))).other W16 (Or.inr (slot_ne (Or.inl (hw _ (List.mem_of_getElem? (i := 11) rfl))) (Or.inl (hw _ (List.mem_of_getElem? (i := 20) rfl))) (by decide) (t := (.array .int)) (t' := .int) (by decide) (by decide))))
  have f20 : Fld Z h16 a1 "com/example/corbel/corbel/Peaks" "lengths" "[I" (.ref g) := ((f7.other W12 (Or.inl (Ne.symm ne_g_a1))).other W16 (Or.inr (slot_ne (Or.inl (hw _ (List.mem_of_getElem? (i := 13) rfl))) (Or.inl (hw _ (List.mem_of_getElem? (i := 20) rfl))) (by decide) (t := (.array .int)) (t' := .int) (by decide) (by decide))))
  have f21 : Arv Z h16 f k_f .int nn (vs_f.set w_count_a1.toNatClampNeg (.int p2)) (.int (0 : Int32)) := ((V6.other W12 ne_f_g).other W16 ne_f_a1)
  have f22 : Arv Z h16 g k_g .int nn (vs_g.set w_count_a1.toNatClampNeg (.int p3)) (.int (0 : Int32)) := (V12.other W16 ne_g_a1)
  exact ⟨rfl, N16, K17, f18, Fw16, f19, f20, f21, f22⟩
theorem own_d4_12 : decode prog_131_method_6_code 12 = .ok (.aload_n 0, 1) := by decide +kernel
theorem own_d4_13 : decode prog_131_method_6_code 13 = .ok (.aload_n 0, 1) := by decide +kernel
theorem own_d4_14 : decode prog_131_method_6_code 14 = .ok (.getfield 12, 3) := by decide +kernel
theorem own_d4_17 : decode prog_131_method_6_code 17 = .ok (.iconst 2, 1) := by decide +kernel
theorem own_d4_18 : decode prog_131_method_6_code 18 = .ok (.aload_n 0, 1) := by decide +kernel
theorem own_d4_19 : decode prog_131_method_6_code 19 = .ok (.getfield 19, 3) := by decide +kernel
theorem own_d4_22 : decode prog_131_method_6_code 22 = .ok (.imul, 1) := by decide +kernel
theorem own_d4_23 : decode prog_131_method_6_code 23 = .ok (.invokestatic 23, 3) := by decide +kernel
theorem own_pd1 : parseMethodDescriptor "([II)[I" = some ⟨[(.array .int), .int], some (.array .int)⟩ := by decide +kernel
theorem own_d4_26 : decode prog_131_method_6_code 26 = .ok (.putfield 12, 3) := by decide +kernel
theorem own_d4_29 : decode prog_131_method_6_code 29 = .ok (.aload_n 0, 1) := by decide +kernel
theorem own_d4_30 : decode prog_131_method_6_code 30 = .ok (.aload_n 0, 1) := by decide +kernel
theorem own_d4_31 : decode prog_131_method_6_code 31 = .ok (.getfield 16, 3) := by decide +kernel
theorem own_d4_34 : decode prog_131_method_6_code 34 = .ok (.iconst 2, 1) := by decide +kernel
theorem own_d4_35 : decode prog_131_method_6_code 35 = .ok (.aload_n 0, 1) := by decide +kernel
theorem own_d4_36 : decode prog_131_method_6_code 36 = .ok (.getfield 19, 3) := by decide +kernel
theorem own_d4_39 : decode prog_131_method_6_code 39 = .ok (.imul, 1) := by decide +kernel
theorem own_d4_40 : decode prog_131_method_6_code 40 = .ok (.invokestatic 23, 3) := by decide +kernel
theorem own_d4_43 : decode prog_131_method_6_code 43 = .ok (.putfield 16, 3) := by decide +kernel
def own_Q4_B1 (Z : State) (a1 : Addr) (p2 : Int32) (p3 : Int32) (x0 : Int32) (y0 : Int32) (tF : List Value) (tG : List Value) (f : Addr) (g : Addr) (k_f : ClassId) (k_g : ClassId) (h0 : Heap) (n0 : Nat) (v : Option Value) (h : Heap) (L : List Loc) : Prop := ∃ f2 : Addr, ∃ g2 : Addr, ∃ kf2 : ClassId, ∃ kg2 : ClassId, v = none ∧ Fr n0 L ∧ Keep h0 h [a1] ∧ Exa Z h a1 "com/example/corbel/corbel/Peaks" ∧ Fld Z h a1 "com/example/corbel/corbel/Peaks" "count" "I" (.int (2 : Int32)) ∧ Fld Z h a1 "com/example/corbel/corbel/Peaks" "frequencies" "[I" (.ref f2) ∧ Fld Z h a1 "com/example/corbel/corbel/Peaks" "lengths" "[I" (.ref g2) ∧ Arv Z h f2 kf2 .int (2 : Int32) [(.int x0), (.int p2)] (.int (0 : Int32)) ∧ Arv Z h g2 kg2 .int (2 : Int32) [(.int y0), (.int p3)] (.int (0 : Int32)) ∧ h0.size ≤ f2 ∧ h0.size ≤ g2 ∧ f2 ≠ g2
theorem own_ef_own_rm4_B1 (m : MethodId) (a1 : Addr) (p2 : Int32) (p3 : Int32) : entryFrame m #[(.ref a1), (.int p2), (.int p3)] 3 = mkF m 0 #[.val (.ref a1), .val (.int p2), .val (.int p3)] [] := by first | (simp [entryFrame, mkF, argsToLocals, Value.category]; done) | rfl
set_option maxRecDepth 65536 in
set_option maxHeartbeats 40000000 in
theorem own_rm4_B1 (l : Launch) (Z : State) (a0 : Array Value) (hw : ∀ d ∈ tables_1, d.before a0 Z = true) (ws : List Jvm.Cond) (a1 : Addr) (p2 : Int32) (p3 : Int32) (x0 : Int32) (y0 : Int32) (tF : List Value) (tG : List Value) (f : Addr) (g : Addr) (k_f : ClassId) (k_g : ClassId) (h0 : Heap) (n0 : Nat) (Z0 : n0 ≤ h0.size) (E_a1 : Exa Z h0 a1 "com/example/corbel/corbel/Peaks") (F_count_a1 : Fld Z h0 a1 "com/example/corbel/corbel/Peaks" "count" "I" (.int (1 : Int32))) (F_frequencies_a1 : Fld Z h0 a1 "com/example/corbel/corbel/Peaks" "frequencies" "[I" (.ref f)) (F_lengths_a1 : Fld Z h0 a1 "com/example/corbel/corbel/Peaks" "lengths" "[I" (.ref g)) (V_f : Arv Z h0 f k_f .int (1 : Int32) ((.int x0) :: tF) (.int (0 : Int32))) (V_g : Arv Z h0 g k_g .int (1 : Int32) ((.int y0) :: tG) (.int (0 : Int32))) (g_a1 : n0 ≤ a1) (ne_f_a1 : f ≠ a1) (ne_g_a1 : g ≠ a1) :
    MetFree l (⟨"com/example/corbel/corbel/Peaks", "append", "(II)V"⟩ : MethodName) (head1 (Jvm.Cond.code (⟨"com/example/corbel/corbel/Peaks", "append", "(II)V"⟩ : MethodName) prog_131_method_6_code 3 none :: ws) ({ frames := 2, cells := 2, slots := 4, locals := 42 } : Room)) (fun a U => a = #[(.ref a1), (.int p2), (.int p3)] ∧ Z.Warmed39 U.vm ∧ U.heap = h0) (fun _ _ _ _ _ => True) (fun _ U o U' => ∃ v L, o = .returned v ∧ own_Q4_B1 Z a1 p2 p3 x0 y0 tF tG f g k_f k_g h0 n0 v U'.heap L ∧ FrameEnd U o U' L ({ frames := 2, cells := 2, slots := 4, locals := 42 } : Room).cells ({ frames := 2, cells := 2, slots := 4, locals := 42 } : Room).slots) := by
  refine MetFree.of_bodySF (plainFor_of_name own_pn1) hisR ?_
  intro p e s m args below meth c s₁ Bd hml0 hP hK
  obtain ⟨rfl, hZ, hh⟩ := hP
  have hx := Bd.exec
  have hby := Bd.bytes
  have hml : c.maxLocals = 3 := hml0
  have hown : s.vm.findClass "com/example/corbel/corbel/Peaks" = some m.cls := findClass_of_methodNamed Bd.named
  have hnm := (name_of_methodNamed Bd.named Bd.method).1
  have X0 : Stand p l e ({ frames := 2, cells := 2, slots := 4, locals := 42 } : Room) s m #[(.ref a1), (.int p2), (.int p3)] below meth c s₁ [] 0 0 := Stand.of_body Bd
  have e0 : s₁.heap = h0 := by rw [← hh, Bd.state]; rfl
  have N0 := Fr.nil n0
  show OE FrameEnd p e below s (own_Q4_B1 Z a1 p2 p3 x0 y0 tF tG f g k_f k_g h0 n0) ({ frames := 2, cells := 2, slots := 4, locals := 42 } : Room).cells ({ frames := 2, cells := 2, slots := 4, locals := 42 } : Room).slots s₁ (entryFrame m #[(.ref a1), (.int p2), (.int p3)] 3)
  rw [own_ef_own_rm4_B1]
  show OE _ p e below s _ _ _ s₁ (mkF m 0 #[.val (.ref a1), .val (.int p2), .val (.int p3)] [])
  refine OE.aloadN X0 hx hby own_d4_0 rfl rfl ?_
  obtain ⟨T1, X1, e1, st1⟩ := getF X0 hx hZ hown (host := "") (Or.inl (hw _ (List.mem_of_getElem? (i := 19) rfl))) Via.refl e0 F_count_a1 (g := (mkF m 1 #[.val (.ref a1), .val (.int p2), .val (.int p3)] [(.ref a1)])) rfl rfl (hb hby own_d4_1)
  refine OE.of st1 ?_
  show OE _ p e below s _ _ _ T1 (mkF m 4 #[.val (.ref a1), .val (.int p2), .val (.int p3)] [(.int (1 : Int32))])
  refine OE.aloadN X1 hx hby own_d4_4 rfl rfl ?_
  obtain ⟨T2, X2, e2, st2⟩ := getF X1 hx hZ hown (host := "") (Or.inl (hw _ (List.mem_of_getElem? (i := 10) rfl))) Via.refl e1 F_frequencies_a1 (g := (mkF m 5 #[.val (.ref a1), .val (.int p2), .val (.int p3)] [(.ref a1), (.int (1 : Int32))])) rfl rfl (hb hby own_d4_5)
  refine OE.of st2 ?_
  show OE _ p e below s _ _ _ T2 (mkF m 8 #[.val (.ref a1), .val (.int p2), .val (.int p3)] [(.ref f), (.int (1 : Int32))])
  have Vo3 := V_f
  obtain ⟨cl3, Ar3, -, Sz3, Nz3, -, -⟩ := Vo3
  refine OE.of (X2.arraylength hx (by rw [e2]; exact Ar3.1) (State.isArrayOf_alike hZ.alike Ar3.2.1) (g := (mkF m 8 #[.val (.ref a1), .val (.int p2), .val (.int p3)] [(.ref f), (.int (1 : Int32))])) rfl rfl (hb hby own_d4_8)) ?_
  rw [len_of Sz3 Nz3]
  show OE _ p e below s _ _ _ T2 (mkF m 9 #[.val (.ref a1), .val (.int p2), .val (.int p3)] [(.int (1 : Int32)), (.int (1 : Int32))])
  refine OE.icmpNo X2 hx hby own_d4_9 (teq (by decide : (1 : Int32) = (1 : Int32))).2 ?_
  refine OE.aloadN X2 hx hby own_d4_12 rfl rfl ?_
  refine OE.aloadN X2 hx hby own_d4_13 rfl rfl ?_
  obtain ⟨T4, X4, e4, st4⟩ := getF X2 hx hZ hown (host := "") (Or.inl (hw _ (List.mem_of_getElem? (i := 10) rfl))) Via.refl e2 F_frequencies_a1 (g := (mkF m 14 #[.val (.ref a1), .val (.int p2), .val (.int p3)] [(.ref a1), (.ref a1)])) rfl rfl (hb hby own_d4_14)
  refine OE.of st4 ?_
  show OE _ p e below s _ _ _ T4 (mkF m 17 #[.val (.ref a1), .val (.int p2), .val (.int p3)] [(.ref f), (.ref a1)])
  refine OE.iconst X4 hx hby own_d4_17 (2 : Int32) rfl ?_
  refine OE.aloadN X4 hx hby own_d4_18 rfl rfl ?_
  obtain ⟨T5, X5, e5, st5⟩ := getF X4 hx hZ hown (host := "") (Or.inl (hw _ (List.mem_of_getElem? (i := 19) rfl))) Via.refl e4 F_count_a1 (g := (mkF m 19 #[.val (.ref a1), .val (.int p2), .val (.int p3)] [(.ref a1), (.int (2 : Int32)), (.ref f), (.ref a1)])) rfl rfl (hb hby own_d4_19)
  refine OE.of st5 ?_
  show OE _ p e below s _ _ _ T5 (mkF m 22 #[.val (.ref a1), .val (.int p2), .val (.int p3)] [(.int (1 : Int32)), (.int (2 : Int32)), (.ref f), (.ref a1)])
  refine OE.imul X5 hx hby own_d4_22 ?_
  rw [(by decide : ((2 : Int32) * (1 : Int32)) = (2 : Int32))]
  obtain ⟨_, _, ⟨T6, L6, k6, n6⟩, -, X6, ⟨Lc6, hQ6, l6, y6, z6⟩, st6⟩ := Jvm.LawKit.callS X5 hx (y := (⟨"java/util/Arrays", "copyOf", "([II)[I"⟩ : MethodName)) hown (mvT hZ (hw _ (List.mem_of_getElem? (i := 26) rfl))) (mvT hZ (hw _ (List.mem_of_getElem? (i := 27) rfl))) (mvT hZ (hw _ (List.mem_of_getElem? (i := 28) rfl))) (mvT hZ (hw _ (List.mem_of_getElem? (i := 29) rfl))) (by decide) (backOf (W := 1) (own_rm5_1 l Z a0 hw [] f x0 tF k_f h0 n0 Z0 V_f) hZ (hw _ (List.mem_of_getElem? (i := 29) rfl)) (hw _ (List.mem_of_getElem? (i := 28) rfl)) (by decide) (by decide)) (g := (mkF m 23 #[.val (.ref a1), .val (.int p2), .val (.int p3)] [(.int (2 : Int32)), (.ref f), (.ref a1)])) rfl (by rw [hml]; rfl) (argsL := [(.ref f), (.int (2 : Int32))]) (rest := [(.ref a1)]) (lenOf own_pd1 rfl) rfl (by show 2 * 0 + _ ≤ _; exact Nat.le_of_eq rfl) (hb hby own_d4_23) (fun _ _ => ⟨rfl, e5, (by decide : 0 + 1 ≤ _), (by decide : 0 + 2 ≤ _)⟩)
  dsimp only [Pt.U, Pt.locs, Pt.cells, Pt.slots] at X6 l6 y6 z6 st6 hQ6
  subst l6 y6 z6
  obtain ⟨r6_r, r6_kr, rfl, Nq6, K6, q6_0, h6_sr⟩ := hQ6
  refine OE.of (fun _ k => st6 _ k) ?_
  have N6 := Fr.app N0 Nq6
  have ne_a1_r6_r : a1 ≠ r6_r := Nat.ne_of_lt (Nat.lt_of_lt_of_le E_a1.lt h6_sr)
  have ne_f_r6_r : f ≠ r6_r := Nat.ne_of_lt (Nat.lt_of_lt_of_le V_f.lt h6_sr)
  have ne_g_r6_r : g ≠ r6_r := Nat.ne_of_lt (Nat.lt_of_lt_of_le V_g.lt h6_sr)
  have g_r6_r : n0 ≤ r6_r := Nat.le_trans Z0 h6_sr
  have sz_r6_r : h0.size ≤ r6_r := Nat.le_trans (Keep.refl h0 [a1]).1 h6_sr
  show OE _ p e below s _ _ _ T6 (mkF m 26 #[.val (.ref a1), .val (.int p2), .val (.int p3)] [(.ref r6_r), (.ref a1)])
  have f7 : Exa Z T6.heap a1 "com/example/corbel/corbel/Peaks" := (E_a1.keep K6)
  have f8 : Fld Z T6.heap a1 "com/example/corbel/corbel/Peaks" "frequencies" "[I" (.ref f) := (F_frequencies_a1.keep K6 nin0)
  obtain ⟨T9, h9, X9, e9, W9, st9⟩ := putF X6 hx hZ hown (host := "") (Or.inl (hw _ (List.mem_of_getElem? (i := 10) rfl))) Via.refl rfl f8 f7 (Or.inl (hw _ (List.mem_of_getElem? (i := 11) rfl))) (hw _ (List.mem_of_getElem? (i := 1) rfl)) (ty := (.array .int)) (by decide) rfl rfl (g := (mkF m 26 #[.val (.ref a1), .val (.int p2), .val (.int p3)] [(.ref r6_r), (.ref a1)])) rfl rfl (hb hby own_d4_26)
  refine OE.of st9 ?_
  have N9 := Fr.snoc X9 N6 g_a1
  have Fw9 := f8.same W9
  show OE _ p e below s _ _ _ T9 (mkF m 29 #[.val (.ref a1), .val (.int p2), .val (.int p3)] [])
  refine OE.aloadN X9 hx hby own_d4_29 rfl rfl ?_
  refine OE.aloadN X9 hx hby own_d4_30 rfl rfl ?_
  have f10 : Fld Z h9 a1 "com/example/corbel/corbel/Peaks" "lengths" "[I" (.ref g) := ((F_lengths_a1.keep K6 nin0).other W9 (Or.inr (slot_ne (Or.inl (hw _ (List.mem_of_getElem? (i := 13) rfl))) (Or.inl (hw _ (List.mem_of_getElem? (i := 11) rfl))) (by decide) (t := (.array .int)) (t' := (.array .int)) (by decide) (by decide))))
  obtain ⟨T11, X11, e11, st11⟩ := getF X9 hx hZ hown (host := "") (Or.inl (hw _ (List.mem_of_getElem? (i := 12) rfl))) Via.refl e9 f10 (g := (mkF m 31 #[.val (.ref a1), .val (.int p2), .val (.int p3)] [(.ref a1), (.ref a1)])) rfl rfl (hb hby own_d4_31)
  refine OE.of st11 ?_
  show OE _ p e below s _ _ _ T11 (mkF m 34 #[.val (.ref a1), .val (.int p2), .val (.int p3)] [(.ref g), (.ref a1)])
  refine OE.iconst X11 hx hby own_d4_34 (2 : Int32) rfl ?_
  refine OE.aloadN X11 hx hby own_d4_35 rfl rfl ?_
  have f12 : Fld Z h9 a1 "com/example/corbel/corbel/Peaks" "count" "I" (.int (1 : Int32)) := ((F_count_a1.keep K6 nin0).other W9 (Or.inr (slot_ne (Or.inl (hw _ (List.mem_of_getElem? (i := 20) rfl))) (Or.inl (hw _ (List.mem_of_getElem? (i := 11) rfl))) (by decide) (t := .int) (t' := (.array .int)) (by decide) (by decide))))
  obtain ⟨T13, X13, e13, st13⟩ := getF X11 hx hZ hown (host := "") (Or.inl (hw _ (List.mem_of_getElem? (i := 19) rfl))) Via.refl e11 f12 (g := (mkF m 36 #[.val (.ref a1), .val (.int p2), .val (.int p3)] [(.ref a1), (.int (2 : Int32)), (.ref g), (.ref a1)])) rfl rfl (hb hby own_d4_36)
  refine OE.of st13 ?_
  show OE _ p e below s _ _ _ T13 (mkF m 39 #[.val (.ref a1), .val (.int p2), .val (.int p3)] [(.int (1 : Int32)), (.int (2 : Int32)), (.ref g), (.ref a1)])
  refine OE.imul X13 hx hby own_d4_39 ?_
  rw [(by decide : ((2 : Int32) * (1 : Int32)) = (2 : Int32))]
  have f14 : Arv Z h9 g k_g .int (1 : Int32) ((.int y0) :: tG) (.int (0 : Int32)) := ((V_g.keep K6 nin0).other W9 ne_g_a1)
  have z15 : n0 ≤ h9.size := (Nat.le_trans (Nat.le_trans Z0 K6.1) (Nat.le_of_eq W9.size.symm))
  obtain ⟨_, _, ⟨T16, L16, k16, n16⟩, -, X16, ⟨Lc16, hQ16, l16, y16, z16⟩, st16⟩ := Jvm.LawKit.callS X13 hx (y := (⟨"java/util/Arrays", "copyOf", "([II)[I"⟩ : MethodName)) hown (mvT hZ (hw _ (List.mem_of_getElem? (i := 26) rfl))) (mvT hZ (hw _ (List.mem_of_getElem? (i := 27) rfl))) (mvT hZ (hw _ (List.mem_of_getElem? (i := 28) rfl))) (mvT hZ (hw _ (List.mem_of_getElem? (i := 29) rfl))) (by decide) (backOf (W := 1) (own_rm5_1 l Z a0 hw [] g y0 tG k_g h9 n0 z15 f14) hZ (hw _ (List.mem_of_getElem? (i := 29) rfl)) (hw _ (List.mem_of_getElem? (i := 28) rfl)) (by decide) (by decide)) (g := (mkF m 40 #[.val (.ref a1), .val (.int p2), .val (.int p3)] [(.int (2 : Int32)), (.ref g), (.ref a1)])) rfl (by rw [hml]; rfl) (argsL := [(.ref g), (.int (2 : Int32))]) (rest := [(.ref a1)]) (lenOf own_pd1 rfl) rfl (by show 2 * 0 + _ ≤ _; exact Nat.le_of_eq rfl) (hb hby own_d4_40) (fun _ _ => ⟨rfl, e13, (by decide : 1 + 1 ≤ _), (by decide : 2 + 2 ≤ _)⟩)
  dsimp only [Pt.U, Pt.locs, Pt.cells, Pt.slots] at X16 l16 y16 z16 st16 hQ16
  subst l16 y16 z16
  obtain ⟨r16_r, r16_kr, rfl, Nq16, K16, q16_0, h16_sr⟩ := hQ16
  refine OE.of (fun _ k => st16 _ k) ?_
  have N16 := Fr.app N9 Nq16
  have f17 : Exa Z h9 a1 "com/example/corbel/corbel/Peaks" := (f7.wr W9)
  have ne_a1_r16_r : a1 ≠ r16_r := Nat.ne_of_lt (Nat.lt_of_lt_of_le f17.lt h16_sr)
  have f18 : Arv Z h9 f k_f .int (1 : Int32) ((.int x0) :: tF) (.int (0 : Int32)) := ((V_f.keep K6 nin0).other W9 ne_f_a1)
  have ne_f_r16_r : f ≠ r16_r := Nat.ne_of_lt (Nat.lt_of_lt_of_le f18.lt h16_sr)
  have ne_g_r16_r : g ≠ r16_r := Nat.ne_of_lt (Nat.lt_of_lt_of_le f14.lt h16_sr)
  have f19 : Arv Z h9 r6_r r6_kr .int (2 : Int32) [(.int x0), (.int (0 : Int32))] (.int (0 : Int32)) := (q6_0.other W9 (Ne.symm ne_a1_r6_r))
  have ne_r6_r_r16_r : r6_r ≠ r16_r := Nat.ne_of_lt (Nat.lt_of_lt_of_le f19.lt h16_sr)
  have g_r16_r : n0 ≤ r16_r := Nat.le_trans z15 h16_sr
  have K20 : Keep h0 h9 [a1] := (Keep.wr (Keep.trans (Keep.refl h0 [a1]) K6 all0) W9 (Or.inl (List.mem_of_getElem? (i := 0) rfl)))
  have sz_r16_r : h0.size ≤ r16_r := Nat.le_trans K20.1 h16_sr
  show OE _ p e below s _ _ _ T16 (mkF m 43 #[.val (.ref a1), .val (.int p2), .val (.int p3)] [(.ref r16_r), (.ref a1)])
  have f21 : Exa Z T16.heap a1 "com/example/corbel/corbel/Peaks" := (f17.keep K16)
  have f22 : Fld Z T16.heap a1 "com/example/corbel/corbel/Peaks" "lengths" "[I" (.ref g) := (f10.keep K16 nin0)
  obtain ⟨T23, h23, X23, e23, W23, st23⟩ := putF X16 hx hZ hown (host := "") (Or.inl (hw _ (List.mem_of_getElem? (i := 12) rfl))) Via.refl rfl f22 f21 (Or.inl (hw _ (List.mem_of_getElem? (i := 13) rfl))) (hw _ (List.mem_of_getElem? (i := 1) rfl)) (ty := (.array .int)) (by decide) rfl rfl (g := (mkF m 43 #[.val (.ref a1), .val (.int p2), .val (.int p3)] [(.ref r16_r), (.ref a1)])) rfl rfl (hb hby own_d4_43)
  refine OE.of st23 ?_
  have N23 := Fr.snoc X23 N16 g_a1
  have Fw23 := f22.same W23
  show OE _ p e below s _ _ _ T23 (mkF m 46 #[.val (.ref a1), .val (.int p2), .val (.int p3)] [])
  have f24 : Arv Z h23 r6_r r6_kr .int (2 : Int32) [(.int x0), (.int (0 : Int32))] (.int (0 : Int32)) := ((f19.keep K16 nin0).other W23 (Ne.symm ne_a1_r6_r))
  have R25 : Arv Z h23 r6_r r6_kr .int (2 : Int32) [(.int x0), (.int (0 : Int32))] (.int (0 : Int32)) := f24
  have f26 : Arv Z h23 r16_r r16_kr .int (2 : Int32) [(.int y0), (.int (0 : Int32))] (.int (0 : Int32)) := (q16_0.other W23 (Ne.symm ne_a1_r16_r))
  have R27 : Arv Z h23 r16_r r16_kr .int (2 : Int32) [(.int y0), (.int (0 : Int32))] (.int (0 : Int32)) := f26
  refine OE.aloadN X23 hx hby own_d4_46 rfl rfl ?_
  have f28 : Fld Z h23 a1 "com/example/corbel/corbel/Peaks" "frequencies" "[I" (.ref r6_r) := ((Fw9.keep K16 nin0).other W23 (Or.inr (slot_ne (Or.inl (hw _ (List.mem_of_getElem? (i := 11) rfl))) (Or.inl (hw _ (List.mem_of_getElem? (i := 13) rfl))) (by decide) (t := (.array .int)) (t' := (.array .int)) (by decide) (by decide))))
  obtain ⟨T29, X29, e29, st29⟩ := getF X23 hx hZ hown (host := "") (Or.inl (hw _ (List.mem_of_getElem? (i := 10) rfl))) Via.refl e23 f28 (g := (mkF m 47 #[.val (.ref a1), .val (.int p2), .val (.int p3)] [(.ref a1)])) rfl rfl (hb hby own_d4_47)
  refine OE.of st29 ?_
  show OE _ p e below s _ _ _ T29 (mkF m 50 #[.val (.ref a1), .val (.int p2), .val (.int p3)] [(.ref r6_r)])
  refine OE.aloadN X29 hx hby own_d4_50 rfl rfl ?_
  have f30 : Fld Z h23 a1 "com/example/corbel/corbel/Peaks" "count" "I" (.int (1 : Int32)) := ((f12.keep K16 nin0).other W23 (Or.inr (slot_ne (Or.inl (hw _ (List.mem_of_getElem? (i := 20) rfl))) (Or.inl (hw _ (List.mem_of_getElem? (i := 13) rfl))) (by decide) (t := .int) (t' := (.array .int)) (by decide) (by decide))))
  obtain ⟨T31, X31, e31, st31⟩ := getF X29 hx hZ hown (host := "") (Or.inl (hw _ (List.mem_of_getElem? (i := 19) rfl))) Via.refl e29 f30 (g := (mkF m 51 #[.val (.ref a1), .val (.int p2), .val (.int p3)] [(.ref a1), (.ref r6_r)])) rfl rfl (hb hby own_d4_51)
  refine OE.of st31 ?_
  show OE _ p e below s _ _ _ T31 (mkF m 54 #[.val (.ref a1), .val (.int p2), .val (.int p3)] [(.int (1 : Int32)), (.ref r6_r)])
  refine OE.iloadN X31 hx hby own_d4_54 rfl ?_
  have Vo32 := R25
  obtain ⟨cl32, Ar32, qz32, Sz32, Nz32, Hz32, Gz32⟩ := Vo32
  have hin32 : ¬ ((1 : Int32) < 0 ∨ cl32.slots.size ≤ ((1 : Int32)).toNatClampNeg) := inb_of Sz32 ⟨by decide, by decide⟩
  obtain ⟨T32, h32, X32, e32, W32, st32⟩ := stI X31 hx hZ e31 Ar32 (j := (1 : Int32)) hin32 (g := (mkF m 55 #[.val (.ref a1), .val (.int p2), .val (.int p3)] [(.int p2), (.int (1 : Int32)), (.ref r6_r)])) rfl rfl (hb hby own_d4_55)
  refine OE.of st32 ?_
  have V32 : Arv Z h32 r6_r r6_kr .int (2 : Int32) [(.int x0), (.int p2)] (.int (0 : Int32)) := Arv.set Ar32 qz32 Sz32 Nz32 Hz32 Gz32 rfl W32 1 rfl (Nat.le_of_ble_eq_true rfl)
  have N32 := Fr.snoc X32 N23 g_r6_r
  show OE _ p e below s _ _ _ T32 (mkF m 56 #[.val (.ref a1), .val (.int p2), .val (.int p3)] [])
  refine OE.aloadN X32 hx hby own_d4_56 rfl rfl ?_
  have f33 : Fld Z h32 a1 "com/example/corbel/corbel/Peaks" "lengths" "[I" (.ref r16_r) := (Fw23.other W32 (Or.inl ne_a1_r6_r))
  obtain ⟨T34, X34, e34, st34⟩ := getF X32 hx hZ hown (host := "") (Or.inl (hw _ (List.mem_of_getElem? (i := 12) rfl))) Via.refl e32 f33 (g := (mkF m 57 #[.val (.ref a1), .val (.int p2), .val (.int p3)] [(.ref a1)])) rfl rfl (hb hby own_d4_57)
  refine OE.of st34 ?_
  show OE _ p e below s _ _ _ T34 (mkF m 60 #[.val (.ref a1), .val (.int p2), .val (.int p3)] [(.ref r16_r)])
  refine OE.aloadN X34 hx hby own_d4_60 rfl rfl ?_
  have f35 : Fld Z h32 a1 "com/example/corbel/corbel/Peaks" "count" "I" (.int (1 : Int32)) := (f30.other W32 (Or.inl ne_a1_r6_r))
  obtain ⟨T36, X36, e36, st36⟩ := getF X34 hx hZ hown (host := "") (Or.inl (hw _ (List.mem_of_getElem? (i := 19) rfl))) Via.refl e34 f35 (g := (mkF m 61 #[.val (.ref a1), .val (.int p2), .val (.int p3)] [(.ref a1), (.ref r16_r)])) rfl rfl (hb hby own_d4_61)
  refine OE.of st36 ?_
  show OE _ p e below s _ _ _ T36 (mkF m 64 #[.val (.ref a1), .val (.int p2), .val (.int p3)] [(.int (1 : Int32)), (.ref r16_r)])
  refine OE.iloadN X36 hx hby own_d4_64 rfl ?_
  have f37 : Arv Z h32 r16_r r16_kr .int (2 : Int32) [(.int y0), (.int (0 : Int32))] (.int (0 : Int32)) := (R27.other W32 (Ne.symm ne_r6_r_r16_r))
  have Vo38 := f37
  obtain ⟨cl38, Ar38, qz38, Sz38, Nz38, Hz38, Gz38⟩ := Vo38
  have hin38 : ¬ ((1 : Int32) < 0 ∨ cl38.slots.size ≤ ((1 : Int32)).toNatClampNeg) := inb_of Sz38 ⟨by decide, by decide⟩
  obtain ⟨T38, h38, X38, e38, W38, st38⟩ := stI X36 hx hZ e36 Ar38 (j := (1 : Int32)) hin38 (g := (mkF m 65 #[.val (.ref a1), .val (.int p2), .val (.int p3)] [(.int p3), (.int (1 : Int32)), (.ref r16_r)])) rfl rfl (hb hby own_d4_65)
  refine OE.of st38 ?_
  have V38 : Arv Z h38 r16_r r16_kr .int (2 : Int32) [(.int y0), (.int p3)] (.int (0 : Int32)) := Arv.set Ar38 qz38 Sz38 Nz38 Hz38 Gz38 rfl W38 1 rfl (Nat.le_of_ble_eq_true rfl)
  have N38 := Fr.snoc X38 N32 g_r16_r
  show OE _ p e below s _ _ _ T38 (mkF m 66 #[.val (.ref a1), .val (.int p2), .val (.int p3)] [])
  refine OE.aloadN X38 hx hby own_d4_66 rfl rfl ?_
  refine OE.dup X38 hx hby own_d4_67 rfl ?_
  have f39 : Fld Z h38 a1 "com/example/corbel/corbel/Peaks" "count" "I" (.int (1 : Int32)) := (f35.other W38 (Or.inl ne_a1_r16_r))
  obtain ⟨T40, X40, e40, st40⟩ := getF X38 hx hZ hown (host := "") (Or.inl (hw _ (List.mem_of_getElem? (i := 19) rfl))) Via.refl e38 f39 (g := (mkF m 68 #[.val (.ref a1), .val (.int p2), .val (.int p3)] [(.ref a1), (.ref a1)])) rfl rfl (hb hby own_d4_68)
  refine OE.of st40 ?_
  show OE _ p e below s _ _ _ T40 (mkF m 71 #[.val (.ref a1), .val (.int p2), .val (.int p3)] [(.int (1 : Int32)), (.ref a1)])
  refine OE.iconst X40 hx hby own_d4_71 (1 : Int32) rfl ?_
  refine OE.iadd X40 hx hby own_d4_72 ?_
  rw [(by decide : ((1 : Int32) + (1 : Int32)) = (2 : Int32))]
  have f41 : Exa Z h38 a1 "com/example/corbel/corbel/Peaks" := (((f21.wr W23).wr W32).wr W38)
  obtain ⟨T42, h42, X42, e42, W42, st42⟩ := putF X40 hx hZ hown (host := "") (Or.inl (hw _ (List.mem_of_getElem? (i := 19) rfl))) Via.refl e40 f39 f41 (Or.inl (hw _ (List.mem_of_getElem? (i := 20) rfl))) (hw _ (List.mem_of_getElem? (i := 1) rfl)) (ty := .int) (by decide) rfl rfl (g := (mkF m 73 #[.val (.ref a1), .val (.int p2), .val (.int p3)] [(.int (2 : Int32)), (.ref a1)])) rfl rfl (hb hby own_d4_73)
  refine OE.of st42 ?_
  have N42 := Fr.snoc X42 N38 g_a1
  have Fw42 := f39.same W42
  show OE _ p e below s _ _ _ T42 (mkF m 76 #[.val (.ref a1), .val (.int p2), .val (.int p3)] [])
  refine OE.ret0 X42 hx Bd.returns Bd.notSynchronized (hb hby own_d4_76) (by decide) (by decide) ?_
  rw [e42]
  have K43 : Keep h0 h42 [a1] := (Keep.wr (Keep.wr (Keep.wr (Keep.wr (Keep.trans K20 K16 all0) W23 (Or.inl (List.mem_of_getElem? (i := 0) rfl))) W32 (Or.inr sz_r6_r)) W38 (Or.inr sz_r16_r)) W42 (Or.inl (List.mem_of_getElem? (i := 0) rfl)))
  have f44 : Exa Z h42 a1 "com/example/corbel/corbel/Peaks" := (f41.wr W42)
  have f45 : Fld Z h42 a1 "com/example/corbel/corbel/Peaks" "frequencies" "[I" (.ref r6_r) := (((f28.other W32 (Or.inl ne_a1_r6_r)).other W38 (Or.inl ne_a1_r16_r)).other W42 (Or.inr (slot_ne (Or.inl (hw _ (List.mem_of_getElem? (i := 11) rfl))) (Or.inl (hw _ (List.mem_of_getElem? (i := 20) rfl))) (by decide) (t := (.array .int)) (t' := .int) (by decide) (by decide))))
  have f46 : Fld Z h42 a1 "com/example/corbel/corbel/Peaks" "lengths" "[I" (.ref r16_r) := ((f33.other W38 (Or.inl ne_a1_r16_r)).other W42 (Or.inr (slot_ne (Or.inl (hw _ (List.mem_of_getElem? (i := 13) rfl))) (Or.inl (hw _ (List.mem_of_getElem? (i := 20) rfl))) (by decide) (t := (.array .int)) (t' := .int) (by decide) (by decide))))
  have f47 : Arv Z h42 r6_r r6_kr .int (2 : Int32) [(.int x0), (.int p2)] (.int (0 : Int32)) := ((V32.other W38 ne_r6_r_r16_r).other W42 (Ne.symm ne_a1_r6_r))
  have f48 : Arv Z h42 r16_r r16_kr .int (2 : Int32) [(.int y0), (.int p3)] (.int (0 : Int32)) := (V38.other W42 (Ne.symm ne_a1_r16_r))
  exact ⟨r6_r, r16_r, r6_kr, r16_kr, rfl, N42, K43, f44, Fw42, f45, f46, f47, f48, sz_r6_r, sz_r16_r, ne_r6_r_r16_r⟩
def own_Q4_B2 (Z : State) (a1 : Addr) (p2 : Int32) (p3 : Int32) (x0 : Int32) (x1 : Int32) (y0 : Int32) (y1 : Int32) (tF : List Value) (tG : List Value) (f : Addr) (g : Addr) (k_f : ClassId) (k_g : ClassId) (h0 : Heap) (n0 : Nat) (v : Option Value) (h : Heap) (L : List Loc) : Prop := ∃ f2 : Addr, ∃ g2 : Addr, ∃ kf2 : ClassId, ∃ kg2 : ClassId, v = none ∧ Fr n0 L ∧ Keep h0 h [a1] ∧ Exa Z h a1 "com/example/corbel/corbel/Peaks" ∧ Fld Z h a1 "com/example/corbel/corbel/Peaks" "count" "I" (.int (3 : Int32)) ∧ Fld Z h a1 "com/example/corbel/corbel/Peaks" "frequencies" "[I" (.ref f2) ∧ Fld Z h a1 "com/example/corbel/corbel/Peaks" "lengths" "[I" (.ref g2) ∧ Arv Z h f2 kf2 .int (4 : Int32) [(.int x0), (.int x1), (.int p2), (.int (0 : Int32))] (.int (0 : Int32)) ∧ Arv Z h g2 kg2 .int (4 : Int32) [(.int y0), (.int y1), (.int p3), (.int (0 : Int32))] (.int (0 : Int32)) ∧ h0.size ≤ f2 ∧ h0.size ≤ g2 ∧ f2 ≠ g2
theorem own_ef_own_rm4_B2 (m : MethodId) (a1 : Addr) (p2 : Int32) (p3 : Int32) : entryFrame m #[(.ref a1), (.int p2), (.int p3)] 3 = mkF m 0 #[.val (.ref a1), .val (.int p2), .val (.int p3)] [] := by first | (simp [entryFrame, mkF, argsToLocals, Value.category]; done) | rfl
set_option maxRecDepth 65536 in
set_option maxHeartbeats 40000000 in
theorem own_rm4_B2 (l : Launch) (Z : State) (a0 : Array Value) (hw : ∀ d ∈ tables_1, d.before a0 Z = true) (ws : List Jvm.Cond) (a1 : Addr) (p2 : Int32) (p3 : Int32) (x0 : Int32) (x1 : Int32) (y0 : Int32) (y1 : Int32) (tF : List Value) (tG : List Value) (f : Addr) (g : Addr) (k_f : ClassId) (k_g : ClassId) (h0 : Heap) (n0 : Nat) (Z0 : n0 ≤ h0.size) (E_a1 : Exa Z h0 a1 "com/example/corbel/corbel/Peaks") (F_count_a1 : Fld Z h0 a1 "com/example/corbel/corbel/Peaks" "count" "I" (.int (2 : Int32))) (F_frequencies_a1 : Fld Z h0 a1 "com/example/corbel/corbel/Peaks" "frequencies" "[I" (.ref f)) (F_lengths_a1 : Fld Z h0 a1 "com/example/corbel/corbel/Peaks" "lengths" "[I" (.ref g)) (V_f : Arv Z h0 f k_f .int (2 : Int32) ((.int x0) :: (.int x1) :: tF) (.int (0 : Int32))) (V_g : Arv Z h0 g k_g .int (2 : Int32) ((.int y0) :: (.int y1) :: tG) (.int (0 : Int32))) (g_a1 : n0 ≤ a1) (ne_f_a1 : f ≠ a1) (ne_g_a1 : g ≠ a1) :
    MetFree l (⟨"com/example/corbel/corbel/Peaks", "append", "(II)V"⟩ : MethodName) (head1 (Jvm.Cond.code (⟨"com/example/corbel/corbel/Peaks", "append", "(II)V"⟩ : MethodName) prog_131_method_6_code 3 none :: ws) ({ frames := 2, cells := 2, slots := 8, locals := 42 } : Room)) (fun a U => a = #[(.ref a1), (.int p2), (.int p3)] ∧ Z.Warmed39 U.vm ∧ U.heap = h0) (fun _ _ _ _ _ => True) (fun _ U o U' => ∃ v L, o = .returned v ∧ own_Q4_B2 Z a1 p2 p3 x0 x1 y0 y1 tF tG f g k_f k_g h0 n0 v U'.heap L ∧ FrameEnd U o U' L ({ frames := 2, cells := 2, slots := 8, locals := 42 } : Room).cells ({ frames := 2, cells := 2, slots := 8, locals := 42 } : Room).slots) := by
  refine MetFree.of_bodySF (plainFor_of_name own_pn1) hisR ?_
  intro p e s m args below meth c s₁ Bd hml0 hP hK
  obtain ⟨rfl, hZ, hh⟩ := hP
  have hx := Bd.exec
  have hby := Bd.bytes
  have hml : c.maxLocals = 3 := hml0
  have hown : s.vm.findClass "com/example/corbel/corbel/Peaks" = some m.cls := findClass_of_methodNamed Bd.named
  have hnm := (name_of_methodNamed Bd.named Bd.method).1
  have X0 : Stand p l e ({ frames := 2, cells := 2, slots := 8, locals := 42 } : Room) s m #[(.ref a1), (.int p2), (.int p3)] below meth c s₁ [] 0 0 := Stand.of_body Bd
  have e0 : s₁.heap = h0 := by rw [← hh, Bd.state]; rfl
  have N0 := Fr.nil n0
  show OE FrameEnd p e below s (own_Q4_B2 Z a1 p2 p3 x0 x1 y0 y1 tF tG f g k_f k_g h0 n0) ({ frames := 2, cells := 2, slots := 8, locals := 42 } : Room).cells ({ frames := 2, cells := 2, slots := 8, locals := 42 } : Room).slots s₁ (entryFrame m #[(.ref a1), (.int p2), (.int p3)] 3)
  rw [own_ef_own_rm4_B2]
  show OE _ p e below s _ _ _ s₁ (mkF m 0 #[.val (.ref a1), .val (.int p2), .val (.int p3)] [])
  refine OE.aloadN X0 hx hby own_d4_0 rfl rfl ?_
  obtain ⟨T1, X1, e1, st1⟩ := getF X0 hx hZ hown (host := "") (Or.inl (hw _ (List.mem_of_getElem? (i := 19) rfl))) Via.refl e0 F_count_a1 (g := (mkF m 1 #[.val (.ref a1), .val (.int p2), .val (.int p3)] [(.ref a1)])) rfl rfl (hb hby own_d4_1)
  refine OE.of st1 ?_
  show OE _ p e below s _ _ _ T1 (mkF m 4 #[.val (.ref a1), .val (.int p2), .val (.int p3)] [(.int (2 : Int32))])
  refine OE.aloadN X1 hx hby own_d4_4 rfl rfl ?_
  obtain ⟨T2, X2, e2, st2⟩ := getF X1 hx hZ hown (host := "") (Or.inl (hw _ (List.mem_of_getElem? (i := 10) rfl))) Via.refl e1 F_frequencies_a1 (g := (mkF m 5 #[.val (.ref a1), .val (.int p2), .val (.int p3)] [(.ref a1), (.int (2 : Int32))])) rfl rfl (hb hby own_d4_5)
  refine OE.of st2 ?_
  show OE _ p e below s _ _ _ T2 (mkF m 8 #[.val (.ref a1), .val (.int p2), .val (.int p3)] [(.ref f), (.int (2 : Int32))])
  have Vo3 := V_f
  obtain ⟨cl3, Ar3, -, Sz3, Nz3, -, -⟩ := Vo3
  refine OE.of (X2.arraylength hx (by rw [e2]; exact Ar3.1) (State.isArrayOf_alike hZ.alike Ar3.2.1) (g := (mkF m 8 #[.val (.ref a1), .val (.int p2), .val (.int p3)] [(.ref f), (.int (2 : Int32))])) rfl rfl (hb hby own_d4_8)) ?_
  rw [len_of Sz3 Nz3]
  show OE _ p e below s _ _ _ T2 (mkF m 9 #[.val (.ref a1), .val (.int p2), .val (.int p3)] [(.int (2 : Int32)), (.int (2 : Int32))])
  refine OE.icmpNo X2 hx hby own_d4_9 (teq (by decide : (2 : Int32) = (2 : Int32))).2 ?_
  refine OE.aloadN X2 hx hby own_d4_12 rfl rfl ?_
  refine OE.aloadN X2 hx hby own_d4_13 rfl rfl ?_
  obtain ⟨T4, X4, e4, st4⟩ := getF X2 hx hZ hown (host := "") (Or.inl (hw _ (List.mem_of_getElem? (i := 10) rfl))) Via.refl e2 F_frequencies_a1 (g := (mkF m 14 #[.val (.ref a1), .val (.int p2), .val (.int p3)] [(.ref a1), (.ref a1)])) rfl rfl (hb hby own_d4_14)
  refine OE.of st4 ?_
  show OE _ p e below s _ _ _ T4 (mkF m 17 #[.val (.ref a1), .val (.int p2), .val (.int p3)] [(.ref f), (.ref a1)])
  refine OE.iconst X4 hx hby own_d4_17 (2 : Int32) rfl ?_
  refine OE.aloadN X4 hx hby own_d4_18 rfl rfl ?_
  obtain ⟨T5, X5, e5, st5⟩ := getF X4 hx hZ hown (host := "") (Or.inl (hw _ (List.mem_of_getElem? (i := 19) rfl))) Via.refl e4 F_count_a1 (g := (mkF m 19 #[.val (.ref a1), .val (.int p2), .val (.int p3)] [(.ref a1), (.int (2 : Int32)), (.ref f), (.ref a1)])) rfl rfl (hb hby own_d4_19)
  refine OE.of st5 ?_
  show OE _ p e below s _ _ _ T5 (mkF m 22 #[.val (.ref a1), .val (.int p2), .val (.int p3)] [(.int (2 : Int32)), (.int (2 : Int32)), (.ref f), (.ref a1)])
  refine OE.imul X5 hx hby own_d4_22 ?_
  rw [(by decide : ((2 : Int32) * (2 : Int32)) = (4 : Int32))]
  obtain ⟨_, _, ⟨T6, L6, k6, n6⟩, -, X6, ⟨Lc6, hQ6, l6, y6, z6⟩, st6⟩ := Jvm.LawKit.callS X5 hx (y := (⟨"java/util/Arrays", "copyOf", "([II)[I"⟩ : MethodName)) hown (mvT hZ (hw _ (List.mem_of_getElem? (i := 26) rfl))) (mvT hZ (hw _ (List.mem_of_getElem? (i := 27) rfl))) (mvT hZ (hw _ (List.mem_of_getElem? (i := 28) rfl))) (mvT hZ (hw _ (List.mem_of_getElem? (i := 29) rfl))) (by decide) (backOf (W := 1) (own_rm5_2 l Z a0 hw [] f x0 x1 tF k_f h0 n0 Z0 V_f) hZ (hw _ (List.mem_of_getElem? (i := 29) rfl)) (hw _ (List.mem_of_getElem? (i := 28) rfl)) (by decide) (by decide)) (g := (mkF m 23 #[.val (.ref a1), .val (.int p2), .val (.int p3)] [(.int (4 : Int32)), (.ref f), (.ref a1)])) rfl (by rw [hml]; rfl) (argsL := [(.ref f), (.int (4 : Int32))]) (rest := [(.ref a1)]) (lenOf own_pd1 rfl) rfl (by show 2 * 0 + _ ≤ _; exact Nat.le_of_eq rfl) (hb hby own_d4_23) (fun _ _ => ⟨rfl, e5, (by decide : 0 + 1 ≤ _), (by decide : 0 + 4 ≤ _)⟩)
  dsimp only [Pt.U, Pt.locs, Pt.cells, Pt.slots] at X6 l6 y6 z6 st6 hQ6
  subst l6 y6 z6
  obtain ⟨r6_r, r6_kr, rfl, Nq6, K6, q6_0, h6_sr⟩ := hQ6
  refine OE.of (fun _ k => st6 _ k) ?_
  have N6 := Fr.app N0 Nq6
  have ne_a1_r6_r : a1 ≠ r6_r := Nat.ne_of_lt (Nat.lt_of_lt_of_le E_a1.lt h6_sr)
  have ne_f_r6_r : f ≠ r6_r := Nat.ne_of_lt (Nat.lt_of_lt_of_le V_f.lt h6_sr)
  have ne_g_r6_r : g ≠ r6_r := Nat.ne_of_lt (Nat.lt_of_lt_of_le V_g.lt h6_sr)
  have g_r6_r : n0 ≤ r6_r := Nat.le_trans Z0 h6_sr
  have sz_r6_r : h0.size ≤ r6_r := Nat.le_trans (Keep.refl h0 [a1]).1 h6_sr
  show OE _ p e below s _ _ _ T6 (mkF m 26 #[.val (.ref a1), .val (.int p2), .val (.int p3)] [(.ref r6_r), (.ref a1)])
  have f7 : Exa Z T6.heap a1 "com/example/corbel/corbel/Peaks" := (E_a1.keep K6)
  have f8 : Fld Z T6.heap a1 "com/example/corbel/corbel/Peaks" "frequencies" "[I" (.ref f) := (F_frequencies_a1.keep K6 nin0)
  obtain ⟨T9, h9, X9, e9, W9, st9⟩ := putF X6 hx hZ hown (host := "") (Or.inl (hw _ (List.mem_of_getElem? (i := 10) rfl))) Via.refl rfl f8 f7 (Or.inl (hw _ (List.mem_of_getElem? (i := 11) rfl))) (hw _ (List.mem_of_getElem? (i := 1) rfl)) (ty := (.array .int)) (by decide) rfl rfl (g := (mkF m 26 #[.val (.ref a1), .val (.int p2), .val (.int p3)] [(.ref r6_r), (.ref a1)])) rfl rfl (hb hby own_d4_26)
  refine OE.of st9 ?_
  have N9 := Fr.snoc X9 N6 g_a1
  have Fw9 := f8.same W9
  show OE _ p e below s _ _ _ T9 (mkF m 29 #[.val (.ref a1), .val (.int p2), .val (.int p3)] [])
  refine OE.aloadN X9 hx hby own_d4_29 rfl rfl ?_
  refine OE.aloadN X9 hx hby own_d4_30 rfl rfl ?_
  have f10 : Fld Z h9 a1 "com/example/corbel/corbel/Peaks" "lengths" "[I" (.ref g) := ((F_lengths_a1.keep K6 nin0).other W9 (Or.inr (slot_ne (Or.inl (hw _ (List.mem_of_getElem? (i := 13) rfl))) (Or.inl (hw _ (List.mem_of_getElem? (i := 11) rfl))) (by decide) (t := (.array .int)) (t' := (.array .int)) (by decide) (by decide))))
  obtain ⟨T11, X11, e11, st11⟩ := getF X9 hx hZ hown (host := "") (Or.inl (hw _ (List.mem_of_getElem? (i := 12) rfl))) Via.refl e9 f10 (g := (mkF m 31 #[.val (.ref a1), .val (.int p2), .val (.int p3)] [(.ref a1), (.ref a1)])) rfl rfl (hb hby own_d4_31)
  refine OE.of st11 ?_
  show OE _ p e below s _ _ _ T11 (mkF m 34 #[.val (.ref a1), .val (.int p2), .val (.int p3)] [(.ref g), (.ref a1)])
  refine OE.iconst X11 hx hby own_d4_34 (2 : Int32) rfl ?_
  refine OE.aloadN X11 hx hby own_d4_35 rfl rfl ?_
  have f12 : Fld Z h9 a1 "com/example/corbel/corbel/Peaks" "count" "I" (.int (2 : Int32)) := ((F_count_a1.keep K6 nin0).other W9 (Or.inr (slot_ne (Or.inl (hw _ (List.mem_of_getElem? (i := 20) rfl))) (Or.inl (hw _ (List.mem_of_getElem? (i := 11) rfl))) (by decide) (t := .int) (t' := (.array .int)) (by decide) (by decide))))
  obtain ⟨T13, X13, e13, st13⟩ := getF X11 hx hZ hown (host := "") (Or.inl (hw _ (List.mem_of_getElem? (i := 19) rfl))) Via.refl e11 f12 (g := (mkF m 36 #[.val (.ref a1), .val (.int p2), .val (.int p3)] [(.ref a1), (.int (2 : Int32)), (.ref g), (.ref a1)])) rfl rfl (hb hby own_d4_36)
  refine OE.of st13 ?_
  show OE _ p e below s _ _ _ T13 (mkF m 39 #[.val (.ref a1), .val (.int p2), .val (.int p3)] [(.int (2 : Int32)), (.int (2 : Int32)), (.ref g), (.ref a1)])
  refine OE.imul X13 hx hby own_d4_39 ?_
  rw [(by decide : ((2 : Int32) * (2 : Int32)) = (4 : Int32))]
  have f14 : Arv Z h9 g k_g .int (2 : Int32) ((.int y0) :: (.int y1) :: tG) (.int (0 : Int32)) := ((V_g.keep K6 nin0).other W9 ne_g_a1)
  have z15 : n0 ≤ h9.size := (Nat.le_trans (Nat.le_trans Z0 K6.1) (Nat.le_of_eq W9.size.symm))
  obtain ⟨_, _, ⟨T16, L16, k16, n16⟩, -, X16, ⟨Lc16, hQ16, l16, y16, z16⟩, st16⟩ := Jvm.LawKit.callS X13 hx (y := (⟨"java/util/Arrays", "copyOf", "([II)[I"⟩ : MethodName)) hown (mvT hZ (hw _ (List.mem_of_getElem? (i := 26) rfl))) (mvT hZ (hw _ (List.mem_of_getElem? (i := 27) rfl))) (mvT hZ (hw _ (List.mem_of_getElem? (i := 28) rfl))) (mvT hZ (hw _ (List.mem_of_getElem? (i := 29) rfl))) (by decide) (backOf (W := 1) (own_rm5_2 l Z a0 hw [] g y0 y1 tG k_g h9 n0 z15 f14) hZ (hw _ (List.mem_of_getElem? (i := 29) rfl)) (hw _ (List.mem_of_getElem? (i := 28) rfl)) (by decide) (by decide)) (g := (mkF m 40 #[.val (.ref a1), .val (.int p2), .val (.int p3)] [(.int (4 : Int32)), (.ref g), (.ref a1)])) rfl (by rw [hml]; rfl) (argsL := [(.ref g), (.int (4 : Int32))]) (rest := [(.ref a1)]) (lenOf own_pd1 rfl) rfl (by show 2 * 0 + _ ≤ _; exact Nat.le_of_eq rfl) (hb hby own_d4_40) (fun _ _ => ⟨rfl, e13, (by decide : 1 + 1 ≤ _), (by decide : 4 + 4 ≤ _)⟩)
  dsimp only [Pt.U, Pt.locs, Pt.cells, Pt.slots] at X16 l16 y16 z16 st16 hQ16
  subst l16 y16 z16
  obtain ⟨r16_r, r16_kr, rfl, Nq16, K16, q16_0, h16_sr⟩ := hQ16
  refine OE.of (fun _ k => st16 _ k) ?_
  have N16 := Fr.app N9 Nq16
  have f17 : Exa Z h9 a1 "com/example/corbel/corbel/Peaks" := (f7.wr W9)
  have ne_a1_r16_r : a1 ≠ r16_r := Nat.ne_of_lt (Nat.lt_of_lt_of_le f17.lt h16_sr)
  have f18 : Arv Z h9 f k_f .int (2 : Int32) ((.int x0) :: (.int x1) :: tF) (.int (0 : Int32)) := ((V_f.keep K6 nin0).other W9 ne_f_a1)
  have ne_f_r16_r : f ≠ r16_r := Nat.ne_of_lt (Nat.lt_of_lt_of_le f18.lt h16_sr)
  have ne_g_r16_r : g ≠ r16_r := Nat.ne_of_lt (Nat.lt_of_lt_of_le f14.lt h16_sr)
  have f19 : Arv Z h9 r6_r r6_kr .int (4 : Int32) [(.int x0), (.int x1), (.int (0 : Int32)), (.int (0 : Int32))] (.int (0 : Int32)) := (q6_0.other W9 (Ne.symm ne_a1_r6_r))
  have ne_r6_r_r16_r : r6_r ≠ r16_r := Nat.ne_of_lt (Nat.lt_of_lt_of_le f19.lt h16_sr)
  have g_r16_r : n0 ≤ r16_r := Nat.le_trans z15 h16_sr
  have K20 : Keep h0 h9 [a1] := (Keep.wr (Keep.trans (Keep.refl h0 [a1]) K6 all0) W9 (Or.inl (List.mem_of_getElem? (i := 0) rfl)))
  have sz_r16_r : h0.size ≤ r16_r := Nat.le_trans K20.1 h16_sr
  show OE _ p e below s _ _ _ T16 (mkF m 43 #[.val (.ref a1), .val (.int p2), .val (.int p3)] [(.ref r16_r), (.ref a1)])
  have f21 : Exa Z T16.heap a1 "com/example/corbel/corbel/Peaks" := (f17.keep K16)
  have f22 : Fld Z T16.heap a1 "com/example/corbel/corbel/Peaks" "lengths" "[I" (.ref g) := (f10.keep K16 nin0)
  obtain ⟨T23, h23, X23, e23, W23, st23⟩ := putF X16 hx hZ hown (host := "") (Or.inl (hw _ (List.mem_of_getElem? (i := 12) rfl))) Via.refl rfl f22 f21 (Or.inl (hw _ (List.mem_of_getElem? (i := 13) rfl))) (hw _ (List.mem_of_getElem? (i := 1) rfl)) (ty := (.array .int)) (by decide) rfl rfl (g := (mkF m 43 #[.val (.ref a1), .val (.int p2), .val (.int p3)] [(.ref r16_r), (.ref a1)])) rfl rfl (hb hby own_d4_43)
  refine OE.of st23 ?_
  have N23 := Fr.snoc X23 N16 g_a1
  have Fw23 := f22.same W23
  show OE _ p e below s _ _ _ T23 (mkF m 46 #[.val (.ref a1), .val (.int p2), .val (.int p3)] [])
  have f24 : Arv Z h23 r6_r r6_kr .int (4 : Int32) [(.int x0), (.int x1), (.int (0 : Int32)), (.int (0 : Int32))] (.int (0 : Int32)) := ((f19.keep K16 nin0).other W23 (Ne.symm ne_a1_r6_r))
  have R25 : Arv Z h23 r6_r r6_kr .int (4 : Int32) [(.int x0), (.int x1), (.int (0 : Int32)), (.int (0 : Int32))] (.int (0 : Int32)) := f24
  have f26 : Arv Z h23 r16_r r16_kr .int (4 : Int32) [(.int y0), (.int y1), (.int (0 : Int32)), (.int (0 : Int32))] (.int (0 : Int32)) := (q16_0.other W23 (Ne.symm ne_a1_r16_r))
  have R27 : Arv Z h23 r16_r r16_kr .int (4 : Int32) [(.int y0), (.int y1), (.int (0 : Int32)), (.int (0 : Int32))] (.int (0 : Int32)) := f26
  refine OE.aloadN X23 hx hby own_d4_46 rfl rfl ?_
  have f28 : Fld Z h23 a1 "com/example/corbel/corbel/Peaks" "frequencies" "[I" (.ref r6_r) := ((Fw9.keep K16 nin0).other W23 (Or.inr (slot_ne (Or.inl (hw _ (List.mem_of_getElem? (i := 11) rfl))) (Or.inl (hw _ (List.mem_of_getElem? (i := 13) rfl))) (by decide) (t := (.array .int)) (t' := (.array .int)) (by decide) (by decide))))
  obtain ⟨T29, X29, e29, st29⟩ := getF X23 hx hZ hown (host := "") (Or.inl (hw _ (List.mem_of_getElem? (i := 10) rfl))) Via.refl e23 f28 (g := (mkF m 47 #[.val (.ref a1), .val (.int p2), .val (.int p3)] [(.ref a1)])) rfl rfl (hb hby own_d4_47)
  refine OE.of st29 ?_
  show OE _ p e below s _ _ _ T29 (mkF m 50 #[.val (.ref a1), .val (.int p2), .val (.int p3)] [(.ref r6_r)])
  refine OE.aloadN X29 hx hby own_d4_50 rfl rfl ?_
  have f30 : Fld Z h23 a1 "com/example/corbel/corbel/Peaks" "count" "I" (.int (2 : Int32)) := ((f12.keep K16 nin0).other W23 (Or.inr (slot_ne (Or.inl (hw _ (List.mem_of_getElem? (i := 20) rfl))) (Or.inl (hw _ (List.mem_of_getElem? (i := 13) rfl))) (by decide) (t := .int) (t' := (.array .int)) (by decide) (by decide))))
  obtain ⟨T31, X31, e31, st31⟩ := getF X29 hx hZ hown (host := "") (Or.inl (hw _ (List.mem_of_getElem? (i := 19) rfl))) Via.refl e29 f30 (g := (mkF m 51 #[.val (.ref a1), .val (.int p2), .val (.int p3)] [(.ref a1), (.ref r6_r)])) rfl rfl (hb hby own_d4_51)
  refine OE.of st31 ?_
  show OE _ p e below s _ _ _ T31 (mkF m 54 #[.val (.ref a1), .val (.int p2), .val (.int p3)] [(.int (2 : Int32)), (.ref r6_r)])
  refine OE.iloadN X31 hx hby own_d4_54 rfl ?_
  have Vo32 := R25
  obtain ⟨cl32, Ar32, qz32, Sz32, Nz32, Hz32, Gz32⟩ := Vo32
  have hin32 : ¬ ((2 : Int32) < 0 ∨ cl32.slots.size ≤ ((2 : Int32)).toNatClampNeg) := inb_of Sz32 ⟨by decide, by decide⟩
  obtain ⟨T32, h32, X32, e32, W32, st32⟩ := stI X31 hx hZ e31 Ar32 (j := (2 : Int32)) hin32 (g := (mkF m 55 #[.val (.ref a1), .val (.int p2), .val (.int p3)] [(.int p2), (.int (2 : Int32)), (.ref r6_r)])) rfl rfl (hb hby own_d4_55)
  refine OE.of st32 ?_
  have V32 : Arv Z h32 r6_r r6_kr .int (4 : Int32) [(.int x0), (.int x1), (.int p2), (.int (0 : Int32))] (.int (0 : Int32)) := Arv.set Ar32 qz32 Sz32 Nz32 Hz32 Gz32 rfl W32 2 rfl (Nat.le_of_ble_eq_true rfl)
  have N32 := Fr.snoc X32 N23 g_r6_r
  show OE _ p e below s _ _ _ T32 (mkF m 56 #[.val (.ref a1), .val (.int p2), .val (.int p3)] [])
  refine OE.aloadN X32 hx hby own_d4_56 rfl rfl ?_
  have f33 : Fld Z h32 a1 "com/example/corbel/corbel/Peaks" "lengths" "[I" (.ref r16_r) := (Fw23.other W32 (Or.inl ne_a1_r6_r))
  obtain ⟨T34, X34, e34, st34⟩ := getF X32 hx hZ hown (host := "") (Or.inl (hw _ (List.mem_of_getElem? (i := 12) rfl))) Via.refl e32 f33 (g := (mkF m 57 #[.val (.ref a1), .val (.int p2), .val (.int p3)] [(.ref a1)])) rfl rfl (hb hby own_d4_57)
  refine OE.of st34 ?_
  show OE _ p e below s _ _ _ T34 (mkF m 60 #[.val (.ref a1), .val (.int p2), .val (.int p3)] [(.ref r16_r)])
  refine OE.aloadN X34 hx hby own_d4_60 rfl rfl ?_
  have f35 : Fld Z h32 a1 "com/example/corbel/corbel/Peaks" "count" "I" (.int (2 : Int32)) := (f30.other W32 (Or.inl ne_a1_r6_r))
  obtain ⟨T36, X36, e36, st36⟩ := getF X34 hx hZ hown (host := "") (Or.inl (hw _ (List.mem_of_getElem? (i := 19) rfl))) Via.refl e34 f35 (g := (mkF m 61 #[.val (.ref a1), .val (.int p2), .val (.int p3)] [(.ref a1), (.ref r16_r)])) rfl rfl (hb hby own_d4_61)
  refine OE.of st36 ?_
  show OE _ p e below s _ _ _ T36 (mkF m 64 #[.val (.ref a1), .val (.int p2), .val (.int p3)] [(.int (2 : Int32)), (.ref r16_r)])
  refine OE.iloadN X36 hx hby own_d4_64 rfl ?_
  have f37 : Arv Z h32 r16_r r16_kr .int (4 : Int32) [(.int y0), (.int y1), (.int (0 : Int32)), (.int (0 : Int32))] (.int (0 : Int32)) := (R27.other W32 (Ne.symm ne_r6_r_r16_r))
  have Vo38 := f37
  obtain ⟨cl38, Ar38, qz38, Sz38, Nz38, Hz38, Gz38⟩ := Vo38
  have hin38 : ¬ ((2 : Int32) < 0 ∨ cl38.slots.size ≤ ((2 : Int32)).toNatClampNeg) := inb_of Sz38 ⟨by decide, by decide⟩
  obtain ⟨T38, h38, X38, e38, W38, st38⟩ := stI X36 hx hZ e36 Ar38 (j := (2 : Int32)) hin38 (g := (mkF m 65 #[.val (.ref a1), .val (.int p2), .val (.int p3)] [(.int p3), (.int (2 : Int32)), (.ref r16_r)])) rfl rfl (hb hby own_d4_65)
  refine OE.of st38 ?_
  have V38 : Arv Z h38 r16_r r16_kr .int (4 : Int32) [(.int y0), (.int y1), (.int p3), (.int (0 : Int32))] (.int (0 : Int32)) := Arv.set Ar38 qz38 Sz38 Nz38 Hz38 Gz38 rfl W38 2 rfl (Nat.le_of_ble_eq_true rfl)
  have N38 := Fr.snoc X38 N32 g_r16_r
  show OE _ p e below s _ _ _ T38 (mkF m 66 #[.val (.ref a1), .val (.int p2), .val (.int p3)] [])
  refine OE.aloadN X38 hx hby own_d4_66 rfl rfl ?_
  refine OE.dup X38 hx hby own_d4_67 rfl ?_
  have f39 : Fld Z h38 a1 "com/example/corbel/corbel/Peaks" "count" "I" (.int (2 : Int32)) := (f35.other W38 (Or.inl ne_a1_r16_r))
  obtain ⟨T40, X40, e40, st40⟩ := getF X38 hx hZ hown (host := "") (Or.inl (hw _ (List.mem_of_getElem? (i := 19) rfl))) Via.refl e38 f39 (g := (mkF m 68 #[.val (.ref a1), .val (.int p2), .val (.int p3)] [(.ref a1), (.ref a1)])) rfl rfl (hb hby own_d4_68)
  refine OE.of st40 ?_
  show OE _ p e below s _ _ _ T40 (mkF m 71 #[.val (.ref a1), .val (.int p2), .val (.int p3)] [(.int (2 : Int32)), (.ref a1)])
  refine OE.iconst X40 hx hby own_d4_71 (1 : Int32) rfl ?_
  refine OE.iadd X40 hx hby own_d4_72 ?_
  rw [(by decide : ((2 : Int32) + (1 : Int32)) = (3 : Int32))]
  have f41 : Exa Z h38 a1 "com/example/corbel/corbel/Peaks" := (((f21.wr W23).wr W32).wr W38)
  obtain ⟨T42, h42, X42, e42, W42, st42⟩ := putF X40 hx hZ hown (host := "") (Or.inl (hw _ (List.mem_of_getElem? (i := 19) rfl))) Via.refl e40 f39 f41 (Or.inl (hw _ (List.mem_of_getElem? (i := 20) rfl))) (hw _ (List.mem_of_getElem? (i := 1) rfl)) (ty := .int) (by decide) rfl rfl (g := (mkF m 73 #[.val (.ref a1), .val (.int p2), .val (.int p3)] [(.int (3 : Int32)), (.ref a1)])) rfl rfl (hb hby own_d4_73)
  refine OE.of st42 ?_
  have N42 := Fr.snoc X42 N38 g_a1
  have Fw42 := f39.same W42
  show OE _ p e below s _ _ _ T42 (mkF m 76 #[.val (.ref a1), .val (.int p2), .val (.int p3)] [])
  refine OE.ret0 X42 hx Bd.returns Bd.notSynchronized (hb hby own_d4_76) (by decide) (by decide) ?_
  rw [e42]
  have K43 : Keep h0 h42 [a1] := (Keep.wr (Keep.wr (Keep.wr (Keep.wr (Keep.trans K20 K16 all0) W23 (Or.inl (List.mem_of_getElem? (i := 0) rfl))) W32 (Or.inr sz_r6_r)) W38 (Or.inr sz_r16_r)) W42 (Or.inl (List.mem_of_getElem? (i := 0) rfl)))
  have f44 : Exa Z h42 a1 "com/example/corbel/corbel/Peaks" := (f41.wr W42)
  have f45 : Fld Z h42 a1 "com/example/corbel/corbel/Peaks" "frequencies" "[I" (.ref r6_r) := (((f28.other W32 (Or.inl ne_a1_r6_r)).other W38 (Or.inl ne_a1_r16_r)).other W42 (Or.inr (slot_ne (Or.inl (hw _ (List.mem_of_getElem? (i := 11) rfl))) (Or.inl (hw _ (List.mem_of_getElem? (i := 20) rfl))) (by decide) (t := (.array .int)) (t' := .int) (by decide) (by decide))))
  have f46 : Fld Z h42 a1 "com/example/corbel/corbel/Peaks" "lengths" "[I" (.ref r16_r) := ((f33.other W38 (Or.inl ne_a1_r16_r)).other W42 (Or.inr (slot_ne (Or.inl (hw _ (List.mem_of_getElem? (i := 13) rfl))) (Or.inl (hw _ (List.mem_of_getElem? (i := 20) rfl))) (by decide) (t := (.array .int)) (t' := .int) (by decide) (by decide))))
  have f47 : Arv Z h42 r6_r r6_kr .int (4 : Int32) [(.int x0), (.int x1), (.int p2), (.int (0 : Int32))] (.int (0 : Int32)) := ((V32.other W38 ne_r6_r_r16_r).other W42 (Ne.symm ne_a1_r6_r))
  have f48 : Arv Z h42 r16_r r16_kr .int (4 : Int32) [(.int y0), (.int y1), (.int p3), (.int (0 : Int32))] (.int (0 : Int32)) := (V38.other W42 (Ne.symm ne_a1_r16_r))
  exact ⟨r6_r, r16_r, r6_kr, r16_kr, rfl, N42, K43, f44, Fw42, f45, f46, f47, f48, sz_r6_r, sz_r16_r, ne_r6_r_r16_r⟩
theorem own_d3_0 : decode prog_131_method_10_code 0 = .ok (.iconst 0, 1) := by decide +kernel
theorem own_d3_1 : decode prog_131_method_10_code 1 = .ok (.istore_n 3, 1) := by decide +kernel
theorem own_d3_2 : decode prog_131_method_10_code 2 = .ok (.iload_n 3, 1) := by decide +kernel
theorem own_d3_3 : decode prog_131_method_10_code 3 = .ok (.aload_n 0, 1) := by decide +kernel
theorem own_d3_4 : decode prog_131_method_10_code 4 = .ok (.getfield 19, 3) := by decide +kernel
theorem own_d3_7 : decode prog_131_method_10_code 7 = .ok (.if_icmp .ge 31, 3) := by decide +kernel
theorem own_d3_38 : decode prog_131_method_10_code 38 = .ok (.iconst 0, 1) := by decide +kernel
theorem own_d3_39 : decode prog_131_method_10_code 39 = .ok (.ireturn, 1) := by decide +kernel
def own_Q3_0 (Z : State) (a1 : Addr) (p2 : Int32) (p3 : Int32) (tF : List Value) (tG : List Value) (nn : Int32) (f : Addr) (g : Addr) (k_f : ClassId) (k_g : ClassId) (h0 : Heap) (n0 : Nat) (v : Option Value) (h : Heap) (L : List Loc) : Prop := v = some (.int (0 : Int32)) ∧ Fr n0 L ∧ h = h0
theorem own_ef_own_rm3_0 (m : MethodId) (a1 : Addr) (p2 : Int32) (p3 : Int32) : entryFrame m #[(.ref a1), (.int p2), (.int p3)] 4 = mkF m 0 #[.val (.ref a1), .val (.int p2), .val (.int p3), .unset] [] := by first | (simp [entryFrame, mkF, argsToLocals, Value.category]; done) | rfl
set_option maxRecDepth 65536 in
set_option maxHeartbeats 40000000 in
theorem own_rm3_0 (l : Launch) (Z : State) (a0 : Array Value) (hw : ∀ d ∈ tables_1, d.before a0 Z = true) (ws : List Jvm.Cond) (a1 : Addr) (p2 : Int32) (p3 : Int32) (tF : List Value) (tG : List Value) (nn : Int32) (f : Addr) (g : Addr) (k_f : ClassId) (k_g : ClassId) (h0 : Heap) (n0 : Nat) (Z0 : n0 ≤ h0.size) (F_count_a1 : Fld Z h0 a1 "com/example/corbel/corbel/Peaks" "count" "I" (.int (0 : Int32))) (F_frequencies_a1 : Fld Z h0 a1 "com/example/corbel/corbel/Peaks" "frequencies" "[I" (.ref f)) (F_lengths_a1 : Fld Z h0 a1 "com/example/corbel/corbel/Peaks" "lengths" "[I" (.ref g)) (V_f : Arv Z h0 f k_f .int nn (tF) (.int (0 : Int32))) (V_g : Arv Z h0 g k_g .int nn (tG) (.int (0 : Int32))) :
    MetFree l (⟨"com/example/corbel/corbel/Peaks", "bound", "(II)Z"⟩ : MethodName) (head1 (Jvm.Cond.code (⟨"com/example/corbel/corbel/Peaks", "bound", "(II)Z"⟩ : MethodName) prog_131_method_10_code 4 (some .boolean) :: ws) ({ frames := 0, cells := 0, slots := 0, locals := 0 } : Room)) (fun a U => a = #[(.ref a1), (.int p2), (.int p3)] ∧ Z.Warmed39 U.vm ∧ U.heap = h0) (fun _ _ _ _ _ => True) (fun _ U o U' => ∃ v L, o = .returned v ∧ own_Q3_0 Z a1 p2 p3 tF tG nn f g k_f k_g h0 n0 v U'.heap L ∧ FrameEnd U o U' L ({ frames := 0, cells := 0, slots := 0, locals := 0 } : Room).cells ({ frames := 0, cells := 0, slots := 0, locals := 0 } : Room).slots) := by
  refine MetFree.of_bodySF (plainFor_of_name own_pn1) hisR ?_
  intro p e s m args below meth c s₁ Bd hml0 hP hK
  obtain ⟨rfl, hZ, hh⟩ := hP
  have hx := Bd.exec
  have hby := Bd.bytes
  have hml : c.maxLocals = 4 := hml0
  have hown : s.vm.findClass "com/example/corbel/corbel/Peaks" = some m.cls := findClass_of_methodNamed Bd.named
  have hnm := (name_of_methodNamed Bd.named Bd.method).1
  have X0 : Stand p l e ({ frames := 0, cells := 0, slots := 0, locals := 0 } : Room) s m #[(.ref a1), (.int p2), (.int p3)] below meth c s₁ [] 0 0 := Stand.of_body Bd
  have e0 : s₁.heap = h0 := by rw [← hh, Bd.state]; rfl
  have N0 := Fr.nil n0
  show OE FrameEnd p e below s (own_Q3_0 Z a1 p2 p3 tF tG nn f g k_f k_g h0 n0) ({ frames := 0, cells := 0, slots := 0, locals := 0 } : Room).cells ({ frames := 0, cells := 0, slots := 0, locals := 0 } : Room).slots s₁ (entryFrame m #[(.ref a1), (.int p2), (.int p3)] 4)
  rw [own_ef_own_rm3_0]
  show OE _ p e below s _ _ _ s₁ (mkF m 0 #[.val (.ref a1), .val (.int p2), .val (.int p3), .unset] [])
  refine OE.iconst X0 hx hby own_d3_0 (0 : Int32) rfl ?_
  refine OE.istoreN X0 hx hby own_d3_1 (l' := #[.val (.ref a1), .val (.int p2), .val (.int p3), .val (.int (0 : Int32))]) rfl ?_
  refine OE.iloadN X0 hx hby own_d3_2 rfl ?_
  refine OE.aloadN X0 hx hby own_d3_3 rfl rfl ?_
  obtain ⟨T1, X1, e1, st1⟩ := getF X0 hx hZ hown (host := "") (Or.inl (hw _ (List.mem_of_getElem? (i := 19) rfl))) Via.refl e0 F_count_a1 (g := (mkF m 4 #[.val (.ref a1), .val (.int p2), .val (.int p3), .val (.int (0 : Int32))] [(.ref a1), (.int (0 : Int32))])) rfl rfl (hb hby own_d3_4)
  refine OE.of st1 ?_
  show OE _ p e below s _ _ _ T1 (mkF m 7 #[.val (.ref a1), .val (.int p2), .val (.int p3), .val (.int (0 : Int32))] [(.int (0 : Int32)), (.int (0 : Int32))])
  refine OE.icmpYes X1 hx hby (pc' := 38) own_d3_7 (flt (by decide : ¬ ((0 : Int32) < (0 : Int32)))).2.1 (h := ?_)
  refine OE.iconst X1 hx hby own_d3_38 (0 : Int32) rfl ?_
  refine OE.retN X1 hx (t := .boolean) Bd.returns (by simp) Bd.notSynchronized (hb hby own_d3_39) (by decide) (by decide) ?_
  rw [e1]
  exact ⟨(congrArg (fun z => some (Value.int z)) (show (0 : Int32) = (0 : Int32) from rfl)), N0, rfl⟩
theorem own_d3_10 : decode prog_131_method_10_code 10 = .ok (.aload_n 0, 1) := by decide +kernel
theorem own_d3_11 : decode prog_131_method_10_code 11 = .ok (.getfield 12, 3) := by decide +kernel
theorem own_d3_14 : decode prog_131_method_10_code 14 = .ok (.iload_n 3, 1) := by decide +kernel
theorem own_d3_15 : decode prog_131_method_10_code 15 = .ok (.iaload, 1) := by decide +kernel
theorem own_d3_16 : decode prog_131_method_10_code 16 = .ok (.iload_n 1, 1) := by decide +kernel
theorem own_d3_17 : decode prog_131_method_10_code 17 = .ok (.if_icmp .lt 15, 3) := by decide +kernel
theorem own_d3_32 : decode prog_131_method_10_code 32 = .ok (.iinc 3 1, 3) := by decide +kernel
theorem own_d3_35 : decode prog_131_method_10_code 35 = .ok (.goto (-33), 3) := by decide +kernel
theorem own_d3_20 : decode prog_131_method_10_code 20 = .ok (.aload_n 0, 1) := by decide +kernel
theorem own_d3_21 : decode prog_131_method_10_code 21 = .ok (.getfield 16, 3) := by decide +kernel
theorem own_d3_24 : decode prog_131_method_10_code 24 = .ok (.iload_n 3, 1) := by decide +kernel
theorem own_d3_25 : decode prog_131_method_10_code 25 = .ok (.iaload, 1) := by decide +kernel
theorem own_d3_26 : decode prog_131_method_10_code 26 = .ok (.iload_n 2, 1) := by decide +kernel
theorem own_d3_27 : decode prog_131_method_10_code 27 = .ok (.if_icmp .gt 5, 3) := by decide +kernel
theorem own_d3_30 : decode prog_131_method_10_code 30 = .ok (.iconst 1, 1) := by decide +kernel
theorem own_d3_31 : decode prog_131_method_10_code 31 = .ok (.ireturn, 1) := by decide +kernel
def own_Q3_1 (Z : State) (a1 : Addr) (p2 : Int32) (p3 : Int32) (x0 : Int32) (y0 : Int32) (tF : List Value) (tG : List Value) (nn : Int32) (f : Addr) (g : Addr) (k_f : ClassId) (k_g : ClassId) (h0 : Heap) (n0 : Nat) (v : Option Value) (h : Heap) (L : List Loc) : Prop := v = some (.int (if x0 < p2 then (0 : Int32) else (if p3 < y0 then (0 : Int32) else (1 : Int32)))) ∧ Fr n0 L ∧ h = h0
theorem own_ef_own_rm3_1 (m : MethodId) (a1 : Addr) (p2 : Int32) (p3 : Int32) : entryFrame m #[(.ref a1), (.int p2), (.int p3)] 4 = mkF m 0 #[.val (.ref a1), .val (.int p2), .val (.int p3), .unset] [] := by first | (simp [entryFrame, mkF, argsToLocals, Value.category]; done) | rfl
set_option maxRecDepth 65536 in
set_option maxHeartbeats 40000000 in
theorem own_rm3_1 (l : Launch) (Z : State) (a0 : Array Value) (hw : ∀ d ∈ tables_1, d.before a0 Z = true) (ws : List Jvm.Cond) (a1 : Addr) (p2 : Int32) (p3 : Int32) (x0 : Int32) (y0 : Int32) (tF : List Value) (tG : List Value) (nn : Int32) (f : Addr) (g : Addr) (k_f : ClassId) (k_g : ClassId) (h0 : Heap) (n0 : Nat) (Z0 : n0 ≤ h0.size) (F_count_a1 : Fld Z h0 a1 "com/example/corbel/corbel/Peaks" "count" "I" (.int (1 : Int32))) (F_frequencies_a1 : Fld Z h0 a1 "com/example/corbel/corbel/Peaks" "frequencies" "[I" (.ref f)) (F_lengths_a1 : Fld Z h0 a1 "com/example/corbel/corbel/Peaks" "lengths" "[I" (.ref g)) (V_f : Arv Z h0 f k_f .int nn ((.int x0) :: tF) (.int (0 : Int32))) (V_g : Arv Z h0 g k_g .int nn ((.int y0) :: tG) (.int (0 : Int32))) (hn0 : (0 : Int32) < nn) :
    MetFree l (⟨"com/example/corbel/corbel/Peaks", "bound", "(II)Z"⟩ : MethodName) (head1 (Jvm.Cond.code (⟨"com/example/corbel/corbel/Peaks", "bound", "(II)Z"⟩ : MethodName) prog_131_method_10_code 4 (some .boolean) :: ws) ({ frames := 0, cells := 0, slots := 0, locals := 0 } : Room)) (fun a U => a = #[(.ref a1), (.int p2), (.int p3)] ∧ Z.Warmed39 U.vm ∧ U.heap = h0) (fun _ _ _ _ _ => True) (fun _ U o U' => ∃ v L, o = .returned v ∧ own_Q3_1 Z a1 p2 p3 x0 y0 tF tG nn f g k_f k_g h0 n0 v U'.heap L ∧ FrameEnd U o U' L ({ frames := 0, cells := 0, slots := 0, locals := 0 } : Room).cells ({ frames := 0, cells := 0, slots := 0, locals := 0 } : Room).slots) := by
  refine MetFree.of_bodySF (plainFor_of_name own_pn1) hisR ?_
  intro p e s m args below meth c s₁ Bd hml0 hP hK
  obtain ⟨rfl, hZ, hh⟩ := hP
  have hx := Bd.exec
  have hby := Bd.bytes
  have hml : c.maxLocals = 4 := hml0
  have hown : s.vm.findClass "com/example/corbel/corbel/Peaks" = some m.cls := findClass_of_methodNamed Bd.named
  have hnm := (name_of_methodNamed Bd.named Bd.method).1
  have X0 : Stand p l e ({ frames := 0, cells := 0, slots := 0, locals := 0 } : Room) s m #[(.ref a1), (.int p2), (.int p3)] below meth c s₁ [] 0 0 := Stand.of_body Bd
  have e0 : s₁.heap = h0 := by rw [← hh, Bd.state]; rfl
  have N0 := Fr.nil n0
  show OE FrameEnd p e below s (own_Q3_1 Z a1 p2 p3 x0 y0 tF tG nn f g k_f k_g h0 n0) ({ frames := 0, cells := 0, slots := 0, locals := 0 } : Room).cells ({ frames := 0, cells := 0, slots := 0, locals := 0 } : Room).slots s₁ (entryFrame m #[(.ref a1), (.int p2), (.int p3)] 4)
  rw [own_ef_own_rm3_1]
  show OE _ p e below s _ _ _ s₁ (mkF m 0 #[.val (.ref a1), .val (.int p2), .val (.int p3), .unset] [])
  refine OE.iconst X0 hx hby own_d3_0 (0 : Int32) rfl ?_
  refine OE.istoreN X0 hx hby own_d3_1 (l' := #[.val (.ref a1), .val (.int p2), .val (.int p3), .val (.int (0 : Int32))]) rfl ?_
  refine OE.iloadN X0 hx hby own_d3_2 rfl ?_
  refine OE.aloadN X0 hx hby own_d3_3 rfl rfl ?_
  obtain ⟨T1, X1, e1, st1⟩ := getF X0 hx hZ hown (host := "") (Or.inl (hw _ (List.mem_of_getElem? (i := 19) rfl))) Via.refl e0 F_count_a1 (g := (mkF m 4 #[.val (.ref a1), .val (.int p2), .val (.int p3), .val (.int (0 : Int32))] [(.ref a1), (.int (0 : Int32))])) rfl rfl (hb hby own_d3_4)
  refine OE.of st1 ?_
  show OE _ p e below s _ _ _ T1 (mkF m 7 #[.val (.ref a1), .val (.int p2), .val (.int p3), .val (.int (0 : Int32))] [(.int (1 : Int32)), (.int (0 : Int32))])
  refine OE.icmpNo X1 hx hby own_d3_7 (tlt (by decide : (0 : Int32) < (1 : Int32))).2.1 ?_
  refine OE.aloadN X1 hx hby own_d3_10 rfl rfl ?_
  obtain ⟨T2, X2, e2, st2⟩ := getF X1 hx hZ hown (host := "") (Or.inl (hw _ (List.mem_of_getElem? (i := 10) rfl))) Via.refl e1 F_frequencies_a1 (g := (mkF m 11 #[.val (.ref a1), .val (.int p2), .val (.int p3), .val (.int (0 : Int32))] [(.ref a1)])) rfl rfl (hb hby own_d3_11)
  refine OE.of st2 ?_
  show OE _ p e below s _ _ _ T2 (mkF m 14 #[.val (.ref a1), .val (.int p2), .val (.int p3), .val (.int (0 : Int32))] [(.ref f)])
  refine OE.iloadN X2 hx hby own_d3_14 rfl ?_
  have Vo3 := V_f
  obtain ⟨cl3, Ar3, -, Sz3, Nz3, Hz3, Gz3⟩ := Vo3
  have hin3 : ¬ ((0 : Int32) < 0 ∨ cl3.slots.size ≤ ((0 : Int32)).toNatClampNeg) := inb_of Sz3 ⟨by decide, hn0⟩
  have hat3 : cl3.slots[((0 : Int32)).toNatClampNeg]? = some (.int x0) := Has.at Hz3 hin3 rfl
  refine OE.of (X2.iaload hx (j := (0 : Int32)) (v := (.int x0)) (by rw [e2]; exact Ar3.1) (State.isArrayOf_alike hZ.alike Ar3.2.1) Ar3.2.2 hin3 hat3 (g := (mkF m 15 #[.val (.ref a1), .val (.int p2), .val (.int p3), .val (.int (0 : Int32))] [(.int (0 : Int32)), (.ref f)])) rfl rfl (hb hby own_d3_15)) ?_
  show OE _ p e below s _ _ _ T2 (mkF m 16 #[.val (.ref a1), .val (.int p2), .val (.int p3), .val (.int (0 : Int32))] [(.int x0)])
  refine OE.iloadN X2 hx hby own_d3_16 rfl ?_
  by_cases hc17 : x0 < p2
  · skip
    refine OE.icmpYes X2 hx hby (pc' := 32) own_d3_17 (tlt hc17).1 (h := ?_)
    refine OE.iinc X2 hx hby own_d3_32 rfl (l' := #[.val (.ref a1), .val (.int p2), .val (.int p3), .val (.int ((0 : Int32) + (1 : Int32)))]) rfl ?_
    rw [(by decide : ((0 : Int32) + (1 : Int32)) = (1 : Int32))]
    refine OE.goto X2 hx hby (pc' := 2) own_d3_35 (h := ?_)
    refine OE.iloadN X2 hx hby own_d3_2 rfl ?_
    refine OE.aloadN X2 hx hby own_d3_3 rfl rfl ?_
    obtain ⟨T4, X4, e4, st4⟩ := getF X2 hx hZ hown (host := "") (Or.inl (hw _ (List.mem_of_getElem? (i := 19) rfl))) Via.refl e2 F_count_a1 (g := (mkF m 4 #[.val (.ref a1), .val (.int p2), .val (.int p3), .val (.int (1 : Int32))] [(.ref a1), (.int (1 : Int32))])) rfl rfl (hb hby own_d3_4)
    refine OE.of st4 ?_
    show OE _ p e below s _ _ _ T4 (mkF m 7 #[.val (.ref a1), .val (.int p2), .val (.int p3), .val (.int (1 : Int32))] [(.int (1 : Int32)), (.int (1 : Int32))])
    refine OE.icmpYes X4 hx hby (pc' := 38) own_d3_7 (flt (by decide : ¬ ((1 : Int32) < (1 : Int32)))).2.1 (h := ?_)
    refine OE.iconst X4 hx hby own_d3_38 (0 : Int32) rfl ?_
    refine OE.retN X4 hx (t := .boolean) Bd.returns (by simp) Bd.notSynchronized (hb hby own_d3_39) (by decide) (by decide) ?_
    rw [e4]
    exact ⟨(congrArg (fun z => some (Value.int z)) (show (0 : Int32) = (if x0 < p2 then (0 : Int32) else (if p3 < y0 then (0 : Int32) else (1 : Int32))) from by rw [if_pos hc17])), N0, rfl⟩
  · skip
    refine OE.icmpNo X2 hx hby own_d3_17 (flt hc17).1 ?_
    refine OE.aloadN X2 hx hby own_d3_20 rfl rfl ?_
    obtain ⟨T5, X5, e5, st5⟩ := getF X2 hx hZ hown (host := "") (Or.inl (hw _ (List.mem_of_getElem? (i := 12) rfl))) Via.refl e2 F_lengths_a1 (g := (mkF m 21 #[.val (.ref a1), .val (.int p2), .val (.int p3), .val (.int (0 : Int32))] [(.ref a1)])) rfl rfl (hb hby own_d3_21)
    refine OE.of st5 ?_
    show OE _ p e below s _ _ _ T5 (mkF m 24 #[.val (.ref a1), .val (.int p2), .val (.int p3), .val (.int (0 : Int32))] [(.ref g)])
    refine OE.iloadN X5 hx hby own_d3_24 rfl ?_
    have Vo6 := V_g
    obtain ⟨cl6, Ar6, -, Sz6, Nz6, Hz6, Gz6⟩ := Vo6
    have hin6 : ¬ ((0 : Int32) < 0 ∨ cl6.slots.size ≤ ((0 : Int32)).toNatClampNeg) := inb_of Sz6 ⟨by decide, hn0⟩
    have hat6 : cl6.slots[((0 : Int32)).toNatClampNeg]? = some (.int y0) := Has.at Hz6 hin6 rfl
    refine OE.of (X5.iaload hx (j := (0 : Int32)) (v := (.int y0)) (by rw [e5]; exact Ar6.1) (State.isArrayOf_alike hZ.alike Ar6.2.1) Ar6.2.2 hin6 hat6 (g := (mkF m 25 #[.val (.ref a1), .val (.int p2), .val (.int p3), .val (.int (0 : Int32))] [(.int (0 : Int32)), (.ref g)])) rfl rfl (hb hby own_d3_25)) ?_
    show OE _ p e below s _ _ _ T5 (mkF m 26 #[.val (.ref a1), .val (.int p2), .val (.int p3), .val (.int (0 : Int32))] [(.int y0)])
    refine OE.iloadN X5 hx hby own_d3_26 rfl ?_
    by_cases hc27 : p3 < y0
    · skip
      refine OE.icmpYes X5 hx hby (pc' := 32) own_d3_27 (tlt hc27).2.2.1 (h := ?_)
      refine OE.iinc X5 hx hby own_d3_32 rfl (l' := #[.val (.ref a1), .val (.int p2), .val (.int p3), .val (.int ((0 : Int32) + (1 : Int32)))]) rfl ?_
      rw [(by decide : ((0 : Int32) + (1 : Int32)) = (1 : Int32))]
      refine OE.goto X5 hx hby (pc' := 2) own_d3_35 (h := ?_)
      refine OE.iloadN X5 hx hby own_d3_2 rfl ?_
      refine OE.aloadN X5 hx hby own_d3_3 rfl rfl ?_
      obtain ⟨T7, X7, e7, st7⟩ := getF X5 hx hZ hown (host := "") (Or.inl (hw _ (List.mem_of_getElem? (i := 19) rfl))) Via.refl e5 F_count_a1 (g := (mkF m 4 #[.val (.ref a1), .val (.int p2), .val (.int p3), .val (.int (1 : Int32))] [(.ref a1), (.int (1 : Int32))])) rfl rfl (hb hby own_d3_4)
      refine OE.of st7 ?_
      show OE _ p e below s _ _ _ T7 (mkF m 7 #[.val (.ref a1), .val (.int p2), .val (.int p3), .val (.int (1 : Int32))] [(.int (1 : Int32)), (.int (1 : Int32))])
      refine OE.icmpYes X7 hx hby (pc' := 38) own_d3_7 (flt (by decide : ¬ ((1 : Int32) < (1 : Int32)))).2.1 (h := ?_)
      refine OE.iconst X7 hx hby own_d3_38 (0 : Int32) rfl ?_
      refine OE.retN X7 hx (t := .boolean) Bd.returns (by simp) Bd.notSynchronized (hb hby own_d3_39) (by decide) (by decide) ?_
      rw [e7]
      exact ⟨(congrArg (fun z => some (Value.int z)) (show (0 : Int32) = (if x0 < p2 then (0 : Int32) else (if p3 < y0 then (0 : Int32) else (1 : Int32))) from by rw [if_neg hc17, if_pos hc27])), N0, rfl⟩
    · skip
      refine OE.icmpNo X5 hx hby own_d3_27 (flt hc27).2.2.1 ?_
      refine OE.iconst X5 hx hby own_d3_30 (1 : Int32) rfl ?_
      refine OE.retN X5 hx (t := .boolean) Bd.returns (by simp) Bd.notSynchronized (hb hby own_d3_31) (by decide) (by decide) ?_
      rw [e5]
      exact ⟨(congrArg (fun z => some (Value.int z)) (show (1 : Int32) = (if x0 < p2 then (0 : Int32) else (if p3 < y0 then (0 : Int32) else (1 : Int32))) from by rw [if_neg hc17, if_neg hc27])), N0, rfl⟩
def own_Q3_2 (Z : State) (a1 : Addr) (p2 : Int32) (p3 : Int32) (x0 : Int32) (x1 : Int32) (y0 : Int32) (y1 : Int32) (tF : List Value) (tG : List Value) (nn : Int32) (f : Addr) (g : Addr) (k_f : ClassId) (k_g : ClassId) (h0 : Heap) (n0 : Nat) (v : Option Value) (h : Heap) (L : List Loc) : Prop := v = some (.int (if x0 < p2 then (if x1 < p2 then (0 : Int32) else (if p3 < y1 then (0 : Int32) else (1 : Int32))) else (if p3 < y0 then (if x1 < p2 then (0 : Int32) else (if p3 < y1 then (0 : Int32) else (1 : Int32))) else (1 : Int32)))) ∧ Fr n0 L ∧ h = h0
theorem own_ef_own_rm3_2 (m : MethodId) (a1 : Addr) (p2 : Int32) (p3 : Int32) : entryFrame m #[(.ref a1), (.int p2), (.int p3)] 4 = mkF m 0 #[.val (.ref a1), .val (.int p2), .val (.int p3), .unset] [] := by first | (simp [entryFrame, mkF, argsToLocals, Value.category]; done) | rfl
set_option maxRecDepth 65536 in
set_option maxHeartbeats 40000000 in
theorem own_rm3_2 (l : Launch) (Z : State) (a0 : Array Value) (hw : ∀ d ∈ tables_1, d.before a0 Z = true) (ws : List Jvm.Cond) (a1 : Addr) (p2 : Int32) (p3 : Int32) (x0 : Int32) (x1 : Int32) (y0 : Int32) (y1 : Int32) (tF : List Value) (tG : List Value) (nn : Int32) (f : Addr) (g : Addr) (k_f : ClassId) (k_g : ClassId) (h0 : Heap) (n0 : Nat) (Z0 : n0 ≤ h0.size) (F_count_a1 : Fld Z h0 a1 "com/example/corbel/corbel/Peaks" "count" "I" (.int (2 : Int32))) (F_frequencies_a1 : Fld Z h0 a1 "com/example/corbel/corbel/Peaks" "frequencies" "[I" (.ref f)) (F_lengths_a1 : Fld Z h0 a1 "com/example/corbel/corbel/Peaks" "lengths" "[I" (.ref g)) (V_f : Arv Z h0 f k_f .int nn ((.int x0) :: (.int x1) :: tF) (.int (0 : Int32))) (V_g : Arv Z h0 g k_g .int nn ((.int y0) :: (.int y1) :: tG) (.int (0 : Int32))) (hn0 : (0 : Int32) < nn) (hn1 : (1 : Int32) < nn) :
    MetFree l (⟨"com/example/corbel/corbel/Peaks", "bound", "(II)Z"⟩ : MethodName) (head1 (Jvm.Cond.code (⟨"com/example/corbel/corbel/Peaks", "bound", "(II)Z"⟩ : MethodName) prog_131_method_10_code 4 (some .boolean) :: ws) ({ frames := 0, cells := 0, slots := 0, locals := 0 } : Room)) (fun a U => a = #[(.ref a1), (.int p2), (.int p3)] ∧ Z.Warmed39 U.vm ∧ U.heap = h0) (fun _ _ _ _ _ => True) (fun _ U o U' => ∃ v L, o = .returned v ∧ own_Q3_2 Z a1 p2 p3 x0 x1 y0 y1 tF tG nn f g k_f k_g h0 n0 v U'.heap L ∧ FrameEnd U o U' L ({ frames := 0, cells := 0, slots := 0, locals := 0 } : Room).cells ({ frames := 0, cells := 0, slots := 0, locals := 0 } : Room).slots) := by
  refine MetFree.of_bodySF (plainFor_of_name own_pn1) hisR ?_
  intro p e s m args below meth c s₁ Bd hml0 hP hK
  obtain ⟨rfl, hZ, hh⟩ := hP
  have hx := Bd.exec
  have hby := Bd.bytes
  have hml : c.maxLocals = 4 := hml0
  have hown : s.vm.findClass "com/example/corbel/corbel/Peaks" = some m.cls := findClass_of_methodNamed Bd.named
  have hnm := (name_of_methodNamed Bd.named Bd.method).1
  have X0 : Stand p l e ({ frames := 0, cells := 0, slots := 0, locals := 0 } : Room) s m #[(.ref a1), (.int p2), (.int p3)] below meth c s₁ [] 0 0 := Stand.of_body Bd
  have e0 : s₁.heap = h0 := by rw [← hh, Bd.state]; rfl
  have N0 := Fr.nil n0
  show OE FrameEnd p e below s (own_Q3_2 Z a1 p2 p3 x0 x1 y0 y1 tF tG nn f g k_f k_g h0 n0) ({ frames := 0, cells := 0, slots := 0, locals := 0 } : Room).cells ({ frames := 0, cells := 0, slots := 0, locals := 0 } : Room).slots s₁ (entryFrame m #[(.ref a1), (.int p2), (.int p3)] 4)
  rw [own_ef_own_rm3_2]
  show OE _ p e below s _ _ _ s₁ (mkF m 0 #[.val (.ref a1), .val (.int p2), .val (.int p3), .unset] [])
  refine OE.iconst X0 hx hby own_d3_0 (0 : Int32) rfl ?_
  refine OE.istoreN X0 hx hby own_d3_1 (l' := #[.val (.ref a1), .val (.int p2), .val (.int p3), .val (.int (0 : Int32))]) rfl ?_
  refine OE.iloadN X0 hx hby own_d3_2 rfl ?_
  refine OE.aloadN X0 hx hby own_d3_3 rfl rfl ?_
  obtain ⟨T1, X1, e1, st1⟩ := getF X0 hx hZ hown (host := "") (Or.inl (hw _ (List.mem_of_getElem? (i := 19) rfl))) Via.refl e0 F_count_a1 (g := (mkF m 4 #[.val (.ref a1), .val (.int p2), .val (.int p3), .val (.int (0 : Int32))] [(.ref a1), (.int (0 : Int32))])) rfl rfl (hb hby own_d3_4)
  refine OE.of st1 ?_
  show OE _ p e below s _ _ _ T1 (mkF m 7 #[.val (.ref a1), .val (.int p2), .val (.int p3), .val (.int (0 : Int32))] [(.int (2 : Int32)), (.int (0 : Int32))])
  refine OE.icmpNo X1 hx hby own_d3_7 (tlt (by decide : (0 : Int32) < (2 : Int32))).2.1 ?_
  refine OE.aloadN X1 hx hby own_d3_10 rfl rfl ?_
  obtain ⟨T2, X2, e2, st2⟩ := getF X1 hx hZ hown (host := "") (Or.inl (hw _ (List.mem_of_getElem? (i := 10) rfl))) Via.refl e1 F_frequencies_a1 (g := (mkF m 11 #[.val (.ref a1), .val (.int p2), .val (.int p3), .val (.int (0 : Int32))] [(.ref a1)])) rfl rfl (hb hby own_d3_11)
  refine OE.of st2 ?_
  show OE _ p e below s _ _ _ T2 (mkF m 14 #[.val (.ref a1), .val (.int p2), .val (.int p3), .val (.int (0 : Int32))] [(.ref f)])
  refine OE.iloadN X2 hx hby own_d3_14 rfl ?_
  have Vo3 := V_f
  obtain ⟨cl3, Ar3, -, Sz3, Nz3, Hz3, Gz3⟩ := Vo3
  have hin3 : ¬ ((0 : Int32) < 0 ∨ cl3.slots.size ≤ ((0 : Int32)).toNatClampNeg) := inb_of Sz3 ⟨by decide, hn0⟩
  have hat3 : cl3.slots[((0 : Int32)).toNatClampNeg]? = some (.int x0) := Has.at Hz3 hin3 rfl
  refine OE.of (X2.iaload hx (j := (0 : Int32)) (v := (.int x0)) (by rw [e2]; exact Ar3.1) (State.isArrayOf_alike hZ.alike Ar3.2.1) Ar3.2.2 hin3 hat3 (g := (mkF m 15 #[.val (.ref a1), .val (.int p2), .val (.int p3), .val (.int (0 : Int32))] [(.int (0 : Int32)), (.ref f)])) rfl rfl (hb hby own_d3_15)) ?_
  show OE _ p e below s _ _ _ T2 (mkF m 16 #[.val (.ref a1), .val (.int p2), .val (.int p3), .val (.int (0 : Int32))] [(.int x0)])
  refine OE.iloadN X2 hx hby own_d3_16 rfl ?_
  by_cases hc17 : x0 < p2
  · skip
    refine OE.icmpYes X2 hx hby (pc' := 32) own_d3_17 (tlt hc17).1 (h := ?_)
    refine OE.iinc X2 hx hby own_d3_32 rfl (l' := #[.val (.ref a1), .val (.int p2), .val (.int p3), .val (.int ((0 : Int32) + (1 : Int32)))]) rfl ?_
    rw [(by decide : ((0 : Int32) + (1 : Int32)) = (1 : Int32))]
    refine OE.goto X2 hx hby (pc' := 2) own_d3_35 (h := ?_)
    refine OE.iloadN X2 hx hby own_d3_2 rfl ?_
    refine OE.aloadN X2 hx hby own_d3_3 rfl rfl ?_
    obtain ⟨T4, X4, e4, st4⟩ := getF X2 hx hZ hown (host := "") (Or.inl (hw _ (List.mem_of_getElem? (i := 19) rfl))) Via.refl e2 F_count_a1 (g := (mkF m 4 #[.val (.ref a1), .val (.int p2), .val (.int p3), .val (.int (1 : Int32))] [(.ref a1), (.int (1 : Int32))])) rfl rfl (hb hby own_d3_4)
    refine OE.of st4 ?_
    show OE _ p e below s _ _ _ T4 (mkF m 7 #[.val (.ref a1), .val (.int p2), .val (.int p3), .val (.int (1 : Int32))] [(.int (2 : Int32)), (.int (1 : Int32))])
    refine OE.icmpNo X4 hx hby own_d3_7 (tlt (by decide : (1 : Int32) < (2 : Int32))).2.1 ?_
    refine OE.aloadN X4 hx hby own_d3_10 rfl rfl ?_
    obtain ⟨T5, X5, e5, st5⟩ := getF X4 hx hZ hown (host := "") (Or.inl (hw _ (List.mem_of_getElem? (i := 10) rfl))) Via.refl e4 F_frequencies_a1 (g := (mkF m 11 #[.val (.ref a1), .val (.int p2), .val (.int p3), .val (.int (1 : Int32))] [(.ref a1)])) rfl rfl (hb hby own_d3_11)
    refine OE.of st5 ?_
    show OE _ p e below s _ _ _ T5 (mkF m 14 #[.val (.ref a1), .val (.int p2), .val (.int p3), .val (.int (1 : Int32))] [(.ref f)])
    refine OE.iloadN X5 hx hby own_d3_14 rfl ?_
    have Vo6 := V_f
    obtain ⟨cl6, Ar6, -, Sz6, Nz6, Hz6, Gz6⟩ := Vo6
    have hin6 : ¬ ((1 : Int32) < 0 ∨ cl6.slots.size ≤ ((1 : Int32)).toNatClampNeg) := inb_of Sz6 ⟨by decide, hn1⟩
    have hat6 : cl6.slots[((1 : Int32)).toNatClampNeg]? = some (.int x1) := Has.at Hz6 hin6 rfl
    refine OE.of (X5.iaload hx (j := (1 : Int32)) (v := (.int x1)) (by rw [e5]; exact Ar6.1) (State.isArrayOf_alike hZ.alike Ar6.2.1) Ar6.2.2 hin6 hat6 (g := (mkF m 15 #[.val (.ref a1), .val (.int p2), .val (.int p3), .val (.int (1 : Int32))] [(.int (1 : Int32)), (.ref f)])) rfl rfl (hb hby own_d3_15)) ?_
    show OE _ p e below s _ _ _ T5 (mkF m 16 #[.val (.ref a1), .val (.int p2), .val (.int p3), .val (.int (1 : Int32))] [(.int x1)])
    refine OE.iloadN X5 hx hby own_d3_16 rfl ?_
    by_cases hc17_2 : x1 < p2
    · skip
      refine OE.icmpYes X5 hx hby (pc' := 32) own_d3_17 (tlt hc17_2).1 (h := ?_)
      refine OE.iinc X5 hx hby own_d3_32 rfl (l' := #[.val (.ref a1), .val (.int p2), .val (.int p3), .val (.int ((1 : Int32) + (1 : Int32)))]) rfl ?_
      rw [(by decide : ((1 : Int32) + (1 : Int32)) = (2 : Int32))]
      refine OE.goto X5 hx hby (pc' := 2) own_d3_35 (h := ?_)
      refine OE.iloadN X5 hx hby own_d3_2 rfl ?_
      refine OE.aloadN X5 hx hby own_d3_3 rfl rfl ?_
      obtain ⟨T7, X7, e7, st7⟩ := getF X5 hx hZ hown (host := "") (Or.inl (hw _ (List.mem_of_getElem? (i := 19) rfl))) Via.refl e5 F_count_a1 (g := (mkF m 4 #[.val (.ref a1), .val (.int p2), .val (.int p3), .val (.int (2 : Int32))] [(.ref a1), (.int (2 : Int32))])) rfl rfl (hb hby own_d3_4)
      refine OE.of st7 ?_
      show OE _ p e below s _ _ _ T7 (mkF m 7 #[.val (.ref a1), .val (.int p2), .val (.int p3), .val (.int (2 : Int32))] [(.int (2 : Int32)), (.int (2 : Int32))])
      refine OE.icmpYes X7 hx hby (pc' := 38) own_d3_7 (flt (by decide : ¬ ((2 : Int32) < (2 : Int32)))).2.1 (h := ?_)
      refine OE.iconst X7 hx hby own_d3_38 (0 : Int32) rfl ?_
      refine OE.retN X7 hx (t := .boolean) Bd.returns (by simp) Bd.notSynchronized (hb hby own_d3_39) (by decide) (by decide) ?_
      rw [e7]
      exact ⟨(congrArg (fun z => some (Value.int z)) (show (0 : Int32) = (if x0 < p2 then (if x1 < p2 then (0 : Int32) else (if p3 < y1 then (0 : Int32) else (1 : Int32))) else (if p3 < y0 then (if x1 < p2 then (0 : Int32) else (if p3 < y1 then (0 : Int32) else (1 : Int32))) else (1 : Int32))) from by rw [if_pos hc17, if_pos hc17_2])), N0, rfl⟩
    · skip
      refine OE.icmpNo X5 hx hby own_d3_17 (flt hc17_2).1 ?_
      refine OE.aloadN X5 hx hby own_d3_20 rfl rfl ?_
      obtain ⟨T8, X8, e8, st8⟩ := getF X5 hx hZ hown (host := "") (Or.inl (hw _ (List.mem_of_getElem? (i := 12) rfl))) Via.refl e5 F_lengths_a1 (g := (mkF m 21 #[.val (.ref a1), .val (.int p2), .val (.int p3), .val (.int (1 : Int32))] [(.ref a1)])) rfl rfl (hb hby own_d3_21)
      refine OE.of st8 ?_
      show OE _ p e below s _ _ _ T8 (mkF m 24 #[.val (.ref a1), .val (.int p2), .val (.int p3), .val (.int (1 : Int32))] [(.ref g)])
      refine OE.iloadN X8 hx hby own_d3_24 rfl ?_
      have Vo9 := V_g
      obtain ⟨cl9, Ar9, -, Sz9, Nz9, Hz9, Gz9⟩ := Vo9
      have hin9 : ¬ ((1 : Int32) < 0 ∨ cl9.slots.size ≤ ((1 : Int32)).toNatClampNeg) := inb_of Sz9 ⟨by decide, hn1⟩
      have hat9 : cl9.slots[((1 : Int32)).toNatClampNeg]? = some (.int y1) := Has.at Hz9 hin9 rfl
      refine OE.of (X8.iaload hx (j := (1 : Int32)) (v := (.int y1)) (by rw [e8]; exact Ar9.1) (State.isArrayOf_alike hZ.alike Ar9.2.1) Ar9.2.2 hin9 hat9 (g := (mkF m 25 #[.val (.ref a1), .val (.int p2), .val (.int p3), .val (.int (1 : Int32))] [(.int (1 : Int32)), (.ref g)])) rfl rfl (hb hby own_d3_25)) ?_
      show OE _ p e below s _ _ _ T8 (mkF m 26 #[.val (.ref a1), .val (.int p2), .val (.int p3), .val (.int (1 : Int32))] [(.int y1)])
      refine OE.iloadN X8 hx hby own_d3_26 rfl ?_
      by_cases hc27 : p3 < y1
      · skip
        refine OE.icmpYes X8 hx hby (pc' := 32) own_d3_27 (tlt hc27).2.2.1 (h := ?_)
        refine OE.iinc X8 hx hby own_d3_32 rfl (l' := #[.val (.ref a1), .val (.int p2), .val (.int p3), .val (.int ((1 : Int32) + (1 : Int32)))]) rfl ?_
        rw [(by decide : ((1 : Int32) + (1 : Int32)) = (2 : Int32))]
        refine OE.goto X8 hx hby (pc' := 2) own_d3_35 (h := ?_)
        refine OE.iloadN X8 hx hby own_d3_2 rfl ?_
        refine OE.aloadN X8 hx hby own_d3_3 rfl rfl ?_
        obtain ⟨T10, X10, e10, st10⟩ := getF X8 hx hZ hown (host := "") (Or.inl (hw _ (List.mem_of_getElem? (i := 19) rfl))) Via.refl e8 F_count_a1 (g := (mkF m 4 #[.val (.ref a1), .val (.int p2), .val (.int p3), .val (.int (2 : Int32))] [(.ref a1), (.int (2 : Int32))])) rfl rfl (hb hby own_d3_4)
        refine OE.of st10 ?_
        show OE _ p e below s _ _ _ T10 (mkF m 7 #[.val (.ref a1), .val (.int p2), .val (.int p3), .val (.int (2 : Int32))] [(.int (2 : Int32)), (.int (2 : Int32))])
        refine OE.icmpYes X10 hx hby (pc' := 38) own_d3_7 (flt (by decide : ¬ ((2 : Int32) < (2 : Int32)))).2.1 (h := ?_)
        refine OE.iconst X10 hx hby own_d3_38 (0 : Int32) rfl ?_
        refine OE.retN X10 hx (t := .boolean) Bd.returns (by simp) Bd.notSynchronized (hb hby own_d3_39) (by decide) (by decide) ?_
        rw [e10]
        exact ⟨(congrArg (fun z => some (Value.int z)) (show (0 : Int32) = (if x0 < p2 then (if x1 < p2 then (0 : Int32) else (if p3 < y1 then (0 : Int32) else (1 : Int32))) else (if p3 < y0 then (if x1 < p2 then (0 : Int32) else (if p3 < y1 then (0 : Int32) else (1 : Int32))) else (1 : Int32))) from by rw [if_pos hc17, if_neg hc17_2, if_pos hc27])), N0, rfl⟩
      · skip
        refine OE.icmpNo X8 hx hby own_d3_27 (flt hc27).2.2.1 ?_
        refine OE.iconst X8 hx hby own_d3_30 (1 : Int32) rfl ?_
        refine OE.retN X8 hx (t := .boolean) Bd.returns (by simp) Bd.notSynchronized (hb hby own_d3_31) (by decide) (by decide) ?_
        rw [e8]
        exact ⟨(congrArg (fun z => some (Value.int z)) (show (1 : Int32) = (if x0 < p2 then (if x1 < p2 then (0 : Int32) else (if p3 < y1 then (0 : Int32) else (1 : Int32))) else (if p3 < y0 then (if x1 < p2 then (0 : Int32) else (if p3 < y1 then (0 : Int32) else (1 : Int32))) else (1 : Int32))) from by rw [if_pos hc17, if_neg hc17_2, if_neg hc27])), N0, rfl⟩
  · skip
    refine OE.icmpNo X2 hx hby own_d3_17 (flt hc17).1 ?_
    refine OE.aloadN X2 hx hby own_d3_20 rfl rfl ?_
    obtain ⟨T11, X11, e11, st11⟩ := getF X2 hx hZ hown (host := "") (Or.inl (hw _ (List.mem_of_getElem? (i := 12) rfl))) Via.refl e2 F_lengths_a1 (g := (mkF m 21 #[.val (.ref a1), .val (.int p2), .val (.int p3), .val (.int (0 : Int32))] [(.ref a1)])) rfl rfl (hb hby own_d3_21)
    refine OE.of st11 ?_
    show OE _ p e below s _ _ _ T11 (mkF m 24 #[.val (.ref a1), .val (.int p2), .val (.int p3), .val (.int (0 : Int32))] [(.ref g)])
    refine OE.iloadN X11 hx hby own_d3_24 rfl ?_
    have Vo12 := V_g
    obtain ⟨cl12, Ar12, -, Sz12, Nz12, Hz12, Gz12⟩ := Vo12
    have hin12 : ¬ ((0 : Int32) < 0 ∨ cl12.slots.size ≤ ((0 : Int32)).toNatClampNeg) := inb_of Sz12 ⟨by decide, hn0⟩
    have hat12 : cl12.slots[((0 : Int32)).toNatClampNeg]? = some (.int y0) := Has.at Hz12 hin12 rfl
    refine OE.of (X11.iaload hx (j := (0 : Int32)) (v := (.int y0)) (by rw [e11]; exact Ar12.1) (State.isArrayOf_alike hZ.alike Ar12.2.1) Ar12.2.2 hin12 hat12 (g := (mkF m 25 #[.val (.ref a1), .val (.int p2), .val (.int p3), .val (.int (0 : Int32))] [(.int (0 : Int32)), (.ref g)])) rfl rfl (hb hby own_d3_25)) ?_
    show OE _ p e below s _ _ _ T11 (mkF m 26 #[.val (.ref a1), .val (.int p2), .val (.int p3), .val (.int (0 : Int32))] [(.int y0)])
    refine OE.iloadN X11 hx hby own_d3_26 rfl ?_
    by_cases hc27 : p3 < y0
    · skip
      refine OE.icmpYes X11 hx hby (pc' := 32) own_d3_27 (tlt hc27).2.2.1 (h := ?_)
      refine OE.iinc X11 hx hby own_d3_32 rfl (l' := #[.val (.ref a1), .val (.int p2), .val (.int p3), .val (.int ((0 : Int32) + (1 : Int32)))]) rfl ?_
      rw [(by decide : ((0 : Int32) + (1 : Int32)) = (1 : Int32))]
      refine OE.goto X11 hx hby (pc' := 2) own_d3_35 (h := ?_)
      refine OE.iloadN X11 hx hby own_d3_2 rfl ?_
      refine OE.aloadN X11 hx hby own_d3_3 rfl rfl ?_
      obtain ⟨T13, X13, e13, st13⟩ := getF X11 hx hZ hown (host := "") (Or.inl (hw _ (List.mem_of_getElem? (i := 19) rfl))) Via.refl e11 F_count_a1 (g := (mkF m 4 #[.val (.ref a1), .val (.int p2), .val (.int p3), .val (.int (1 : Int32))] [(.ref a1), (.int (1 : Int32))])) rfl rfl (hb hby own_d3_4)
      refine OE.of st13 ?_
      show OE _ p e below s _ _ _ T13 (mkF m 7 #[.val (.ref a1), .val (.int p2), .val (.int p3), .val (.int (1 : Int32))] [(.int (2 : Int32)), (.int (1 : Int32))])
      refine OE.icmpNo X13 hx hby own_d3_7 (tlt (by decide : (1 : Int32) < (2 : Int32))).2.1 ?_
      refine OE.aloadN X13 hx hby own_d3_10 rfl rfl ?_
      obtain ⟨T14, X14, e14, st14⟩ := getF X13 hx hZ hown (host := "") (Or.inl (hw _ (List.mem_of_getElem? (i := 10) rfl))) Via.refl e13 F_frequencies_a1 (g := (mkF m 11 #[.val (.ref a1), .val (.int p2), .val (.int p3), .val (.int (1 : Int32))] [(.ref a1)])) rfl rfl (hb hby own_d3_11)
      refine OE.of st14 ?_
      show OE _ p e below s _ _ _ T14 (mkF m 14 #[.val (.ref a1), .val (.int p2), .val (.int p3), .val (.int (1 : Int32))] [(.ref f)])
      refine OE.iloadN X14 hx hby own_d3_14 rfl ?_
      have Vo15 := V_f
      obtain ⟨cl15, Ar15, -, Sz15, Nz15, Hz15, Gz15⟩ := Vo15
      have hin15 : ¬ ((1 : Int32) < 0 ∨ cl15.slots.size ≤ ((1 : Int32)).toNatClampNeg) := inb_of Sz15 ⟨by decide, hn1⟩
      have hat15 : cl15.slots[((1 : Int32)).toNatClampNeg]? = some (.int x1) := Has.at Hz15 hin15 rfl
      refine OE.of (X14.iaload hx (j := (1 : Int32)) (v := (.int x1)) (by rw [e14]; exact Ar15.1) (State.isArrayOf_alike hZ.alike Ar15.2.1) Ar15.2.2 hin15 hat15 (g := (mkF m 15 #[.val (.ref a1), .val (.int p2), .val (.int p3), .val (.int (1 : Int32))] [(.int (1 : Int32)), (.ref f)])) rfl rfl (hb hby own_d3_15)) ?_
      show OE _ p e below s _ _ _ T14 (mkF m 16 #[.val (.ref a1), .val (.int p2), .val (.int p3), .val (.int (1 : Int32))] [(.int x1)])
      refine OE.iloadN X14 hx hby own_d3_16 rfl ?_
      by_cases hc17_2 : x1 < p2
      · skip
        refine OE.icmpYes X14 hx hby (pc' := 32) own_d3_17 (tlt hc17_2).1 (h := ?_)
        refine OE.iinc X14 hx hby own_d3_32 rfl (l' := #[.val (.ref a1), .val (.int p2), .val (.int p3), .val (.int ((1 : Int32) + (1 : Int32)))]) rfl ?_
        rw [(by decide : ((1 : Int32) + (1 : Int32)) = (2 : Int32))]
        refine OE.goto X14 hx hby (pc' := 2) own_d3_35 (h := ?_)
        refine OE.iloadN X14 hx hby own_d3_2 rfl ?_
        refine OE.aloadN X14 hx hby own_d3_3 rfl rfl ?_
        obtain ⟨T16, X16, e16, st16⟩ := getF X14 hx hZ hown (host := "") (Or.inl (hw _ (List.mem_of_getElem? (i := 19) rfl))) Via.refl e14 F_count_a1 (g := (mkF m 4 #[.val (.ref a1), .val (.int p2), .val (.int p3), .val (.int (2 : Int32))] [(.ref a1), (.int (2 : Int32))])) rfl rfl (hb hby own_d3_4)
        refine OE.of st16 ?_
        show OE _ p e below s _ _ _ T16 (mkF m 7 #[.val (.ref a1), .val (.int p2), .val (.int p3), .val (.int (2 : Int32))] [(.int (2 : Int32)), (.int (2 : Int32))])
        refine OE.icmpYes X16 hx hby (pc' := 38) own_d3_7 (flt (by decide : ¬ ((2 : Int32) < (2 : Int32)))).2.1 (h := ?_)
        refine OE.iconst X16 hx hby own_d3_38 (0 : Int32) rfl ?_
        refine OE.retN X16 hx (t := .boolean) Bd.returns (by simp) Bd.notSynchronized (hb hby own_d3_39) (by decide) (by decide) ?_
        rw [e16]
        exact ⟨(congrArg (fun z => some (Value.int z)) (show (0 : Int32) = (if x0 < p2 then (if x1 < p2 then (0 : Int32) else (if p3 < y1 then (0 : Int32) else (1 : Int32))) else (if p3 < y0 then (if x1 < p2 then (0 : Int32) else (if p3 < y1 then (0 : Int32) else (1 : Int32))) else (1 : Int32))) from by rw [if_neg hc17, if_pos hc27, if_pos hc17_2])), N0, rfl⟩
      · skip
        refine OE.icmpNo X14 hx hby own_d3_17 (flt hc17_2).1 ?_
        refine OE.aloadN X14 hx hby own_d3_20 rfl rfl ?_
        obtain ⟨T17, X17, e17, st17⟩ := getF X14 hx hZ hown (host := "") (Or.inl (hw _ (List.mem_of_getElem? (i := 12) rfl))) Via.refl e14 F_lengths_a1 (g := (mkF m 21 #[.val (.ref a1), .val (.int p2), .val (.int p3), .val (.int (1 : Int32))] [(.ref a1)])) rfl rfl (hb hby own_d3_21)
        refine OE.of st17 ?_
        show OE _ p e below s _ _ _ T17 (mkF m 24 #[.val (.ref a1), .val (.int p2), .val (.int p3), .val (.int (1 : Int32))] [(.ref g)])
        refine OE.iloadN X17 hx hby own_d3_24 rfl ?_
        have Vo18 := V_g
        obtain ⟨cl18, Ar18, -, Sz18, Nz18, Hz18, Gz18⟩ := Vo18
        have hin18 : ¬ ((1 : Int32) < 0 ∨ cl18.slots.size ≤ ((1 : Int32)).toNatClampNeg) := inb_of Sz18 ⟨by decide, hn1⟩
        have hat18 : cl18.slots[((1 : Int32)).toNatClampNeg]? = some (.int y1) := Has.at Hz18 hin18 rfl
        refine OE.of (X17.iaload hx (j := (1 : Int32)) (v := (.int y1)) (by rw [e17]; exact Ar18.1) (State.isArrayOf_alike hZ.alike Ar18.2.1) Ar18.2.2 hin18 hat18 (g := (mkF m 25 #[.val (.ref a1), .val (.int p2), .val (.int p3), .val (.int (1 : Int32))] [(.int (1 : Int32)), (.ref g)])) rfl rfl (hb hby own_d3_25)) ?_
        show OE _ p e below s _ _ _ T17 (mkF m 26 #[.val (.ref a1), .val (.int p2), .val (.int p3), .val (.int (1 : Int32))] [(.int y1)])
        refine OE.iloadN X17 hx hby own_d3_26 rfl ?_
        by_cases hc27_2 : p3 < y1
        · skip
          refine OE.icmpYes X17 hx hby (pc' := 32) own_d3_27 (tlt hc27_2).2.2.1 (h := ?_)
          refine OE.iinc X17 hx hby own_d3_32 rfl (l' := #[.val (.ref a1), .val (.int p2), .val (.int p3), .val (.int ((1 : Int32) + (1 : Int32)))]) rfl ?_
          rw [(by decide : ((1 : Int32) + (1 : Int32)) = (2 : Int32))]
          refine OE.goto X17 hx hby (pc' := 2) own_d3_35 (h := ?_)
          refine OE.iloadN X17 hx hby own_d3_2 rfl ?_
          refine OE.aloadN X17 hx hby own_d3_3 rfl rfl ?_
          obtain ⟨T19, X19, e19, st19⟩ := getF X17 hx hZ hown (host := "") (Or.inl (hw _ (List.mem_of_getElem? (i := 19) rfl))) Via.refl e17 F_count_a1 (g := (mkF m 4 #[.val (.ref a1), .val (.int p2), .val (.int p3), .val (.int (2 : Int32))] [(.ref a1), (.int (2 : Int32))])) rfl rfl (hb hby own_d3_4)
          refine OE.of st19 ?_
          show OE _ p e below s _ _ _ T19 (mkF m 7 #[.val (.ref a1), .val (.int p2), .val (.int p3), .val (.int (2 : Int32))] [(.int (2 : Int32)), (.int (2 : Int32))])
          refine OE.icmpYes X19 hx hby (pc' := 38) own_d3_7 (flt (by decide : ¬ ((2 : Int32) < (2 : Int32)))).2.1 (h := ?_)
          refine OE.iconst X19 hx hby own_d3_38 (0 : Int32) rfl ?_
          refine OE.retN X19 hx (t := .boolean) Bd.returns (by simp) Bd.notSynchronized (hb hby own_d3_39) (by decide) (by decide) ?_
          rw [e19]
          exact ⟨(congrArg (fun z => some (Value.int z)) (show (0 : Int32) = (if x0 < p2 then (if x1 < p2 then (0 : Int32) else (if p3 < y1 then (0 : Int32) else (1 : Int32))) else (if p3 < y0 then (if x1 < p2 then (0 : Int32) else (if p3 < y1 then (0 : Int32) else (1 : Int32))) else (1 : Int32))) from by rw [if_neg hc17, if_pos hc27, if_neg hc17_2, if_pos hc27_2])), N0, rfl⟩
        · skip
          refine OE.icmpNo X17 hx hby own_d3_27 (flt hc27_2).2.2.1 ?_
          refine OE.iconst X17 hx hby own_d3_30 (1 : Int32) rfl ?_
          refine OE.retN X17 hx (t := .boolean) Bd.returns (by simp) Bd.notSynchronized (hb hby own_d3_31) (by decide) (by decide) ?_
          rw [e17]
          exact ⟨(congrArg (fun z => some (Value.int z)) (show (1 : Int32) = (if x0 < p2 then (if x1 < p2 then (0 : Int32) else (if p3 < y1 then (0 : Int32) else (1 : Int32))) else (if p3 < y0 then (if x1 < p2 then (0 : Int32) else (if p3 < y1 then (0 : Int32) else (1 : Int32))) else (1 : Int32))) from by rw [if_neg hc17, if_pos hc27, if_neg hc17_2, if_neg hc27_2])), N0, rfl⟩
    · skip
      refine OE.icmpNo X11 hx hby own_d3_27 (flt hc27).2.2.1 ?_
      refine OE.iconst X11 hx hby own_d3_30 (1 : Int32) rfl ?_
      refine OE.retN X11 hx (t := .boolean) Bd.returns (by simp) Bd.notSynchronized (hb hby own_d3_31) (by decide) (by decide) ?_
      rw [e11]
      exact ⟨(congrArg (fun z => some (Value.int z)) (show (1 : Int32) = (if x0 < p2 then (if x1 < p2 then (0 : Int32) else (if p3 < y1 then (0 : Int32) else (1 : Int32))) else (if p3 < y0 then (if x1 < p2 then (0 : Int32) else (if p3 < y1 then (0 : Int32) else (1 : Int32))) else (1 : Int32))) from by rw [if_neg hc17, if_neg hc27])), N0, rfl⟩
def own_Q3_3 (Z : State) (a1 : Addr) (p2 : Int32) (p3 : Int32) (x0 : Int32) (x1 : Int32) (x2 : Int32) (y0 : Int32) (y1 : Int32) (y2 : Int32) (tF : List Value) (tG : List Value) (nn : Int32) (f : Addr) (g : Addr) (k_f : ClassId) (k_g : ClassId) (h0 : Heap) (n0 : Nat) (v : Option Value) (h : Heap) (L : List Loc) : Prop := v = some (.int (if x0 < p2 then (if x1 < p2 then (if x2 < p2 then (0 : Int32) else (if p3 < y2 then (0 : Int32) else (1 : Int32))) else (if p3 < y1 then (if x2 < p2 then (0 : Int32) else (if p3 < y2 then (0 : Int32) else (1 : Int32))) else (1 : Int32))) else (if p3 < y0 then (if x1 < p2 then (if x2 < p2 then (0 : Int32) else (if p3 < y2 then (0 : Int32) else (1 : Int32))) else (if p3 < y1 then (if x2 < p2 then (0 : Int32) else (if p3 < y2 then (0 : Int32) else (1 : Int32))) else (1 : Int32))) else (1 : Int32)))) ∧ Fr n0 L ∧ h = h0
theorem own_ef_own_rm3_3 (m : MethodId) (a1 : Addr) (p2 : Int32) (p3 : Int32) : entryFrame m #[(.ref a1), (.int p2), (.int p3)] 4 = mkF m 0 #[.val (.ref a1), .val (.int p2), .val (.int p3), .unset] [] := by first | (simp [entryFrame, mkF, argsToLocals, Value.category]; done) | rfl
set_option maxRecDepth 65536 in
set_option maxHeartbeats 40000000 in
theorem own_rm3_3 (l : Launch) (Z : State) (a0 : Array Value) (hw : ∀ d ∈ tables_1, d.before a0 Z = true) (ws : List Jvm.Cond) (a1 : Addr) (p2 : Int32) (p3 : Int32) (x0 : Int32) (x1 : Int32) (x2 : Int32) (y0 : Int32) (y1 : Int32) (y2 : Int32) (tF : List Value) (tG : List Value) (nn : Int32) (f : Addr) (g : Addr) (k_f : ClassId) (k_g : ClassId) (h0 : Heap) (n0 : Nat) (Z0 : n0 ≤ h0.size) (F_count_a1 : Fld Z h0 a1 "com/example/corbel/corbel/Peaks" "count" "I" (.int (3 : Int32))) (F_frequencies_a1 : Fld Z h0 a1 "com/example/corbel/corbel/Peaks" "frequencies" "[I" (.ref f)) (F_lengths_a1 : Fld Z h0 a1 "com/example/corbel/corbel/Peaks" "lengths" "[I" (.ref g)) (V_f : Arv Z h0 f k_f .int nn ((.int x0) :: (.int x1) :: (.int x2) :: tF) (.int (0 : Int32))) (V_g : Arv Z h0 g k_g .int nn ((.int y0) :: (.int y1) :: (.int y2) :: tG) (.int (0 : Int32))) (hn0 : (0 : Int32) < nn) (hn1 : (1 : Int32) < nn) (hn2 : (2 : Int32) < nn) :
    MetFree l (⟨"com/example/corbel/corbel/Peaks", "bound", "(II)Z"⟩ : MethodName) (head1 (Jvm.Cond.code (⟨"com/example/corbel/corbel/Peaks", "bound", "(II)Z"⟩ : MethodName) prog_131_method_10_code 4 (some .boolean) :: ws) ({ frames := 0, cells := 0, slots := 0, locals := 0 } : Room)) (fun a U => a = #[(.ref a1), (.int p2), (.int p3)] ∧ Z.Warmed39 U.vm ∧ U.heap = h0) (fun _ _ _ _ _ => True) (fun _ U o U' => ∃ v L, o = .returned v ∧ own_Q3_3 Z a1 p2 p3 x0 x1 x2 y0 y1 y2 tF tG nn f g k_f k_g h0 n0 v U'.heap L ∧ FrameEnd U o U' L ({ frames := 0, cells := 0, slots := 0, locals := 0 } : Room).cells ({ frames := 0, cells := 0, slots := 0, locals := 0 } : Room).slots) := by
  refine MetFree.of_bodySF (plainFor_of_name own_pn1) hisR ?_
  intro p e s m args below meth c s₁ Bd hml0 hP hK
  obtain ⟨rfl, hZ, hh⟩ := hP
  have hx := Bd.exec
  have hby := Bd.bytes
  have hml : c.maxLocals = 4 := hml0
  have hown : s.vm.findClass "com/example/corbel/corbel/Peaks" = some m.cls := findClass_of_methodNamed Bd.named
  have hnm := (name_of_methodNamed Bd.named Bd.method).1
  have X0 : Stand p l e ({ frames := 0, cells := 0, slots := 0, locals := 0 } : Room) s m #[(.ref a1), (.int p2), (.int p3)] below meth c s₁ [] 0 0 := Stand.of_body Bd
  have e0 : s₁.heap = h0 := by rw [← hh, Bd.state]; rfl
  have N0 := Fr.nil n0
  show OE FrameEnd p e below s (own_Q3_3 Z a1 p2 p3 x0 x1 x2 y0 y1 y2 tF tG nn f g k_f k_g h0 n0) ({ frames := 0, cells := 0, slots := 0, locals := 0 } : Room).cells ({ frames := 0, cells := 0, slots := 0, locals := 0 } : Room).slots s₁ (entryFrame m #[(.ref a1), (.int p2), (.int p3)] 4)
  rw [own_ef_own_rm3_3]
  show OE _ p e below s _ _ _ s₁ (mkF m 0 #[.val (.ref a1), .val (.int p2), .val (.int p3), .unset] [])
  refine OE.iconst X0 hx hby own_d3_0 (0 : Int32) rfl ?_
  refine OE.istoreN X0 hx hby own_d3_1 (l' := #[.val (.ref a1), .val (.int p2), .val (.int p3), .val (.int (0 : Int32))]) rfl ?_
  refine OE.iloadN X0 hx hby own_d3_2 rfl ?_
  refine OE.aloadN X0 hx hby own_d3_3 rfl rfl ?_
  obtain ⟨T1, X1, e1, st1⟩ := getF X0 hx hZ hown (host := "") (Or.inl (hw _ (List.mem_of_getElem? (i := 19) rfl))) Via.refl e0 F_count_a1 (g := (mkF m 4 #[.val (.ref a1), .val (.int p2), .val (.int p3), .val (.int (0 : Int32))] [(.ref a1), (.int (0 : Int32))])) rfl rfl (hb hby own_d3_4)
  refine OE.of st1 ?_
  show OE _ p e below s _ _ _ T1 (mkF m 7 #[.val (.ref a1), .val (.int p2), .val (.int p3), .val (.int (0 : Int32))] [(.int (3 : Int32)), (.int (0 : Int32))])
  refine OE.icmpNo X1 hx hby own_d3_7 (tlt (by decide : (0 : Int32) < (3 : Int32))).2.1 ?_
  refine OE.aloadN X1 hx hby own_d3_10 rfl rfl ?_
  obtain ⟨T2, X2, e2, st2⟩ := getF X1 hx hZ hown (host := "") (Or.inl (hw _ (List.mem_of_getElem? (i := 10) rfl))) Via.refl e1 F_frequencies_a1 (g := (mkF m 11 #[.val (.ref a1), .val (.int p2), .val (.int p3), .val (.int (0 : Int32))] [(.ref a1)])) rfl rfl (hb hby own_d3_11)
  refine OE.of st2 ?_
  show OE _ p e below s _ _ _ T2 (mkF m 14 #[.val (.ref a1), .val (.int p2), .val (.int p3), .val (.int (0 : Int32))] [(.ref f)])
  refine OE.iloadN X2 hx hby own_d3_14 rfl ?_
  have Vo3 := V_f
  obtain ⟨cl3, Ar3, -, Sz3, Nz3, Hz3, Gz3⟩ := Vo3
  have hin3 : ¬ ((0 : Int32) < 0 ∨ cl3.slots.size ≤ ((0 : Int32)).toNatClampNeg) := inb_of Sz3 ⟨by decide, hn0⟩
  have hat3 : cl3.slots[((0 : Int32)).toNatClampNeg]? = some (.int x0) := Has.at Hz3 hin3 rfl
  refine OE.of (X2.iaload hx (j := (0 : Int32)) (v := (.int x0)) (by rw [e2]; exact Ar3.1) (State.isArrayOf_alike hZ.alike Ar3.2.1) Ar3.2.2 hin3 hat3 (g := (mkF m 15 #[.val (.ref a1), .val (.int p2), .val (.int p3), .val (.int (0 : Int32))] [(.int (0 : Int32)), (.ref f)])) rfl rfl (hb hby own_d3_15)) ?_
  show OE _ p e below s _ _ _ T2 (mkF m 16 #[.val (.ref a1), .val (.int p2), .val (.int p3), .val (.int (0 : Int32))] [(.int x0)])
  refine OE.iloadN X2 hx hby own_d3_16 rfl ?_
  by_cases hc17 : x0 < p2
  · skip
    refine OE.icmpYes X2 hx hby (pc' := 32) own_d3_17 (tlt hc17).1 (h := ?_)
    refine OE.iinc X2 hx hby own_d3_32 rfl (l' := #[.val (.ref a1), .val (.int p2), .val (.int p3), .val (.int ((0 : Int32) + (1 : Int32)))]) rfl ?_
    rw [(by decide : ((0 : Int32) + (1 : Int32)) = (1 : Int32))]
    refine OE.goto X2 hx hby (pc' := 2) own_d3_35 (h := ?_)
    refine OE.iloadN X2 hx hby own_d3_2 rfl ?_
    refine OE.aloadN X2 hx hby own_d3_3 rfl rfl ?_
    obtain ⟨T4, X4, e4, st4⟩ := getF X2 hx hZ hown (host := "") (Or.inl (hw _ (List.mem_of_getElem? (i := 19) rfl))) Via.refl e2 F_count_a1 (g := (mkF m 4 #[.val (.ref a1), .val (.int p2), .val (.int p3), .val (.int (1 : Int32))] [(.ref a1), (.int (1 : Int32))])) rfl rfl (hb hby own_d3_4)
    refine OE.of st4 ?_
    show OE _ p e below s _ _ _ T4 (mkF m 7 #[.val (.ref a1), .val (.int p2), .val (.int p3), .val (.int (1 : Int32))] [(.int (3 : Int32)), (.int (1 : Int32))])
    refine OE.icmpNo X4 hx hby own_d3_7 (tlt (by decide : (1 : Int32) < (3 : Int32))).2.1 ?_
    refine OE.aloadN X4 hx hby own_d3_10 rfl rfl ?_
    obtain ⟨T5, X5, e5, st5⟩ := getF X4 hx hZ hown (host := "") (Or.inl (hw _ (List.mem_of_getElem? (i := 10) rfl))) Via.refl e4 F_frequencies_a1 (g := (mkF m 11 #[.val (.ref a1), .val (.int p2), .val (.int p3), .val (.int (1 : Int32))] [(.ref a1)])) rfl rfl (hb hby own_d3_11)
    refine OE.of st5 ?_
    show OE _ p e below s _ _ _ T5 (mkF m 14 #[.val (.ref a1), .val (.int p2), .val (.int p3), .val (.int (1 : Int32))] [(.ref f)])
    refine OE.iloadN X5 hx hby own_d3_14 rfl ?_
    have Vo6 := V_f
    obtain ⟨cl6, Ar6, -, Sz6, Nz6, Hz6, Gz6⟩ := Vo6
    have hin6 : ¬ ((1 : Int32) < 0 ∨ cl6.slots.size ≤ ((1 : Int32)).toNatClampNeg) := inb_of Sz6 ⟨by decide, hn1⟩
    have hat6 : cl6.slots[((1 : Int32)).toNatClampNeg]? = some (.int x1) := Has.at Hz6 hin6 rfl
    refine OE.of (X5.iaload hx (j := (1 : Int32)) (v := (.int x1)) (by rw [e5]; exact Ar6.1) (State.isArrayOf_alike hZ.alike Ar6.2.1) Ar6.2.2 hin6 hat6 (g := (mkF m 15 #[.val (.ref a1), .val (.int p2), .val (.int p3), .val (.int (1 : Int32))] [(.int (1 : Int32)), (.ref f)])) rfl rfl (hb hby own_d3_15)) ?_
    show OE _ p e below s _ _ _ T5 (mkF m 16 #[.val (.ref a1), .val (.int p2), .val (.int p3), .val (.int (1 : Int32))] [(.int x1)])
    refine OE.iloadN X5 hx hby own_d3_16 rfl ?_
    by_cases hc17_2 : x1 < p2
    · skip
      refine OE.icmpYes X5 hx hby (pc' := 32) own_d3_17 (tlt hc17_2).1 (h := ?_)
      refine OE.iinc X5 hx hby own_d3_32 rfl (l' := #[.val (.ref a1), .val (.int p2), .val (.int p3), .val (.int ((1 : Int32) + (1 : Int32)))]) rfl ?_
      rw [(by decide : ((1 : Int32) + (1 : Int32)) = (2 : Int32))]
      refine OE.goto X5 hx hby (pc' := 2) own_d3_35 (h := ?_)
      refine OE.iloadN X5 hx hby own_d3_2 rfl ?_
      refine OE.aloadN X5 hx hby own_d3_3 rfl rfl ?_
      obtain ⟨T7, X7, e7, st7⟩ := getF X5 hx hZ hown (host := "") (Or.inl (hw _ (List.mem_of_getElem? (i := 19) rfl))) Via.refl e5 F_count_a1 (g := (mkF m 4 #[.val (.ref a1), .val (.int p2), .val (.int p3), .val (.int (2 : Int32))] [(.ref a1), (.int (2 : Int32))])) rfl rfl (hb hby own_d3_4)
      refine OE.of st7 ?_
      show OE _ p e below s _ _ _ T7 (mkF m 7 #[.val (.ref a1), .val (.int p2), .val (.int p3), .val (.int (2 : Int32))] [(.int (3 : Int32)), (.int (2 : Int32))])
      refine OE.icmpNo X7 hx hby own_d3_7 (tlt (by decide : (2 : Int32) < (3 : Int32))).2.1 ?_
      refine OE.aloadN X7 hx hby own_d3_10 rfl rfl ?_
      obtain ⟨T8, X8, e8, st8⟩ := getF X7 hx hZ hown (host := "") (Or.inl (hw _ (List.mem_of_getElem? (i := 10) rfl))) Via.refl e7 F_frequencies_a1 (g := (mkF m 11 #[.val (.ref a1), .val (.int p2), .val (.int p3), .val (.int (2 : Int32))] [(.ref a1)])) rfl rfl (hb hby own_d3_11)
      refine OE.of st8 ?_
      show OE _ p e below s _ _ _ T8 (mkF m 14 #[.val (.ref a1), .val (.int p2), .val (.int p3), .val (.int (2 : Int32))] [(.ref f)])
      refine OE.iloadN X8 hx hby own_d3_14 rfl ?_
      have Vo9 := V_f
      obtain ⟨cl9, Ar9, -, Sz9, Nz9, Hz9, Gz9⟩ := Vo9
      have hin9 : ¬ ((2 : Int32) < 0 ∨ cl9.slots.size ≤ ((2 : Int32)).toNatClampNeg) := inb_of Sz9 ⟨by decide, hn2⟩
      have hat9 : cl9.slots[((2 : Int32)).toNatClampNeg]? = some (.int x2) := Has.at Hz9 hin9 rfl
      refine OE.of (X8.iaload hx (j := (2 : Int32)) (v := (.int x2)) (by rw [e8]; exact Ar9.1) (State.isArrayOf_alike hZ.alike Ar9.2.1) Ar9.2.2 hin9 hat9 (g := (mkF m 15 #[.val (.ref a1), .val (.int p2), .val (.int p3), .val (.int (2 : Int32))] [(.int (2 : Int32)), (.ref f)])) rfl rfl (hb hby own_d3_15)) ?_
      show OE _ p e below s _ _ _ T8 (mkF m 16 #[.val (.ref a1), .val (.int p2), .val (.int p3), .val (.int (2 : Int32))] [(.int x2)])
      refine OE.iloadN X8 hx hby own_d3_16 rfl ?_
      by_cases hc17_3 : x2 < p2
      · skip
        refine OE.icmpYes X8 hx hby (pc' := 32) own_d3_17 (tlt hc17_3).1 (h := ?_)
        refine OE.iinc X8 hx hby own_d3_32 rfl (l' := #[.val (.ref a1), .val (.int p2), .val (.int p3), .val (.int ((2 : Int32) + (1 : Int32)))]) rfl ?_
        rw [(by decide : ((2 : Int32) + (1 : Int32)) = (3 : Int32))]
        refine OE.goto X8 hx hby (pc' := 2) own_d3_35 (h := ?_)
        refine OE.iloadN X8 hx hby own_d3_2 rfl ?_
        refine OE.aloadN X8 hx hby own_d3_3 rfl rfl ?_
        obtain ⟨T10, X10, e10, st10⟩ := getF X8 hx hZ hown (host := "") (Or.inl (hw _ (List.mem_of_getElem? (i := 19) rfl))) Via.refl e8 F_count_a1 (g := (mkF m 4 #[.val (.ref a1), .val (.int p2), .val (.int p3), .val (.int (3 : Int32))] [(.ref a1), (.int (3 : Int32))])) rfl rfl (hb hby own_d3_4)
        refine OE.of st10 ?_
        show OE _ p e below s _ _ _ T10 (mkF m 7 #[.val (.ref a1), .val (.int p2), .val (.int p3), .val (.int (3 : Int32))] [(.int (3 : Int32)), (.int (3 : Int32))])
        refine OE.icmpYes X10 hx hby (pc' := 38) own_d3_7 (flt (by decide : ¬ ((3 : Int32) < (3 : Int32)))).2.1 (h := ?_)
        refine OE.iconst X10 hx hby own_d3_38 (0 : Int32) rfl ?_
        refine OE.retN X10 hx (t := .boolean) Bd.returns (by simp) Bd.notSynchronized (hb hby own_d3_39) (by decide) (by decide) ?_
        rw [e10]
        exact ⟨(congrArg (fun z => some (Value.int z)) (show (0 : Int32) = (if x0 < p2 then (if x1 < p2 then (if x2 < p2 then (0 : Int32) else (if p3 < y2 then (0 : Int32) else (1 : Int32))) else (if p3 < y1 then (if x2 < p2 then (0 : Int32) else (if p3 < y2 then (0 : Int32) else (1 : Int32))) else (1 : Int32))) else (if p3 < y0 then (if x1 < p2 then (if x2 < p2 then (0 : Int32) else (if p3 < y2 then (0 : Int32) else (1 : Int32))) else (if p3 < y1 then (if x2 < p2 then (0 : Int32) else (if p3 < y2 then (0 : Int32) else (1 : Int32))) else (1 : Int32))) else (1 : Int32))) from by rw [if_pos hc17, if_pos hc17_2, if_pos hc17_3])), N0, rfl⟩
      · skip
        refine OE.icmpNo X8 hx hby own_d3_17 (flt hc17_3).1 ?_
        refine OE.aloadN X8 hx hby own_d3_20 rfl rfl ?_
        obtain ⟨T11, X11, e11, st11⟩ := getF X8 hx hZ hown (host := "") (Or.inl (hw _ (List.mem_of_getElem? (i := 12) rfl))) Via.refl e8 F_lengths_a1 (g := (mkF m 21 #[.val (.ref a1), .val (.int p2), .val (.int p3), .val (.int (2 : Int32))] [(.ref a1)])) rfl rfl (hb hby own_d3_21)
        refine OE.of st11 ?_
        show OE _ p e below s _ _ _ T11 (mkF m 24 #[.val (.ref a1), .val (.int p2), .val (.int p3), .val (.int (2 : Int32))] [(.ref g)])
        refine OE.iloadN X11 hx hby own_d3_24 rfl ?_
        have Vo12 := V_g
        obtain ⟨cl12, Ar12, -, Sz12, Nz12, Hz12, Gz12⟩ := Vo12
        have hin12 : ¬ ((2 : Int32) < 0 ∨ cl12.slots.size ≤ ((2 : Int32)).toNatClampNeg) := inb_of Sz12 ⟨by decide, hn2⟩
        have hat12 : cl12.slots[((2 : Int32)).toNatClampNeg]? = some (.int y2) := Has.at Hz12 hin12 rfl
        refine OE.of (X11.iaload hx (j := (2 : Int32)) (v := (.int y2)) (by rw [e11]; exact Ar12.1) (State.isArrayOf_alike hZ.alike Ar12.2.1) Ar12.2.2 hin12 hat12 (g := (mkF m 25 #[.val (.ref a1), .val (.int p2), .val (.int p3), .val (.int (2 : Int32))] [(.int (2 : Int32)), (.ref g)])) rfl rfl (hb hby own_d3_25)) ?_
        show OE _ p e below s _ _ _ T11 (mkF m 26 #[.val (.ref a1), .val (.int p2), .val (.int p3), .val (.int (2 : Int32))] [(.int y2)])
        refine OE.iloadN X11 hx hby own_d3_26 rfl ?_
        by_cases hc27 : p3 < y2
        · skip
          refine OE.icmpYes X11 hx hby (pc' := 32) own_d3_27 (tlt hc27).2.2.1 (h := ?_)
          refine OE.iinc X11 hx hby own_d3_32 rfl (l' := #[.val (.ref a1), .val (.int p2), .val (.int p3), .val (.int ((2 : Int32) + (1 : Int32)))]) rfl ?_
          rw [(by decide : ((2 : Int32) + (1 : Int32)) = (3 : Int32))]
          refine OE.goto X11 hx hby (pc' := 2) own_d3_35 (h := ?_)
          refine OE.iloadN X11 hx hby own_d3_2 rfl ?_
          refine OE.aloadN X11 hx hby own_d3_3 rfl rfl ?_
          obtain ⟨T13, X13, e13, st13⟩ := getF X11 hx hZ hown (host := "") (Or.inl (hw _ (List.mem_of_getElem? (i := 19) rfl))) Via.refl e11 F_count_a1 (g := (mkF m 4 #[.val (.ref a1), .val (.int p2), .val (.int p3), .val (.int (3 : Int32))] [(.ref a1), (.int (3 : Int32))])) rfl rfl (hb hby own_d3_4)
          refine OE.of st13 ?_
          show OE _ p e below s _ _ _ T13 (mkF m 7 #[.val (.ref a1), .val (.int p2), .val (.int p3), .val (.int (3 : Int32))] [(.int (3 : Int32)), (.int (3 : Int32))])
          refine OE.icmpYes X13 hx hby (pc' := 38) own_d3_7 (flt (by decide : ¬ ((3 : Int32) < (3 : Int32)))).2.1 (h := ?_)
          refine OE.iconst X13 hx hby own_d3_38 (0 : Int32) rfl ?_
          refine OE.retN X13 hx (t := .boolean) Bd.returns (by simp) Bd.notSynchronized (hb hby own_d3_39) (by decide) (by decide) ?_
          rw [e13]
          exact ⟨(congrArg (fun z => some (Value.int z)) (show (0 : Int32) = (if x0 < p2 then (if x1 < p2 then (if x2 < p2 then (0 : Int32) else (if p3 < y2 then (0 : Int32) else (1 : Int32))) else (if p3 < y1 then (if x2 < p2 then (0 : Int32) else (if p3 < y2 then (0 : Int32) else (1 : Int32))) else (1 : Int32))) else (if p3 < y0 then (if x1 < p2 then (if x2 < p2 then (0 : Int32) else (if p3 < y2 then (0 : Int32) else (1 : Int32))) else (if p3 < y1 then (if x2 < p2 then (0 : Int32) else (if p3 < y2 then (0 : Int32) else (1 : Int32))) else (1 : Int32))) else (1 : Int32))) from by rw [if_pos hc17, if_pos hc17_2, if_neg hc17_3, if_pos hc27])), N0, rfl⟩
        · skip
          refine OE.icmpNo X11 hx hby own_d3_27 (flt hc27).2.2.1 ?_
          refine OE.iconst X11 hx hby own_d3_30 (1 : Int32) rfl ?_
          refine OE.retN X11 hx (t := .boolean) Bd.returns (by simp) Bd.notSynchronized (hb hby own_d3_31) (by decide) (by decide) ?_
          rw [e11]
          exact ⟨(congrArg (fun z => some (Value.int z)) (show (1 : Int32) = (if x0 < p2 then (if x1 < p2 then (if x2 < p2 then (0 : Int32) else (if p3 < y2 then (0 : Int32) else (1 : Int32))) else (if p3 < y1 then (if x2 < p2 then (0 : Int32) else (if p3 < y2 then (0 : Int32) else (1 : Int32))) else (1 : Int32))) else (if p3 < y0 then (if x1 < p2 then (if x2 < p2 then (0 : Int32) else (if p3 < y2 then (0 : Int32) else (1 : Int32))) else (if p3 < y1 then (if x2 < p2 then (0 : Int32) else (if p3 < y2 then (0 : Int32) else (1 : Int32))) else (1 : Int32))) else (1 : Int32))) from by rw [if_pos hc17, if_pos hc17_2, if_neg hc17_3, if_neg hc27])), N0, rfl⟩
    · skip
      refine OE.icmpNo X5 hx hby own_d3_17 (flt hc17_2).1 ?_
      refine OE.aloadN X5 hx hby own_d3_20 rfl rfl ?_
      obtain ⟨T14, X14, e14, st14⟩ := getF X5 hx hZ hown (host := "") (Or.inl (hw _ (List.mem_of_getElem? (i := 12) rfl))) Via.refl e5 F_lengths_a1 (g := (mkF m 21 #[.val (.ref a1), .val (.int p2), .val (.int p3), .val (.int (1 : Int32))] [(.ref a1)])) rfl rfl (hb hby own_d3_21)
      refine OE.of st14 ?_
      show OE _ p e below s _ _ _ T14 (mkF m 24 #[.val (.ref a1), .val (.int p2), .val (.int p3), .val (.int (1 : Int32))] [(.ref g)])
      refine OE.iloadN X14 hx hby own_d3_24 rfl ?_
      have Vo15 := V_g
      obtain ⟨cl15, Ar15, -, Sz15, Nz15, Hz15, Gz15⟩ := Vo15
      have hin15 : ¬ ((1 : Int32) < 0 ∨ cl15.slots.size ≤ ((1 : Int32)).toNatClampNeg) := inb_of Sz15 ⟨by decide, hn1⟩
      have hat15 : cl15.slots[((1 : Int32)).toNatClampNeg]? = some (.int y1) := Has.at Hz15 hin15 rfl
      refine OE.of (X14.iaload hx (j := (1 : Int32)) (v := (.int y1)) (by rw [e14]; exact Ar15.1) (State.isArrayOf_alike hZ.alike Ar15.2.1) Ar15.2.2 hin15 hat15 (g := (mkF m 25 #[.val (.ref a1), .val (.int p2), .val (.int p3), .val (.int (1 : Int32))] [(.int (1 : Int32)), (.ref g)])) rfl rfl (hb hby own_d3_25)) ?_
      show OE _ p e below s _ _ _ T14 (mkF m 26 #[.val (.ref a1), .val (.int p2), .val (.int p3), .val (.int (1 : Int32))] [(.int y1)])
      refine OE.iloadN X14 hx hby own_d3_26 rfl ?_
      by_cases hc27 : p3 < y1
      · skip
        refine OE.icmpYes X14 hx hby (pc' := 32) own_d3_27 (tlt hc27).2.2.1 (h := ?_)
        refine OE.iinc X14 hx hby own_d3_32 rfl (l' := #[.val (.ref a1), .val (.int p2), .val (.int p3), .val (.int ((1 : Int32) + (1 : Int32)))]) rfl ?_
        rw [(by decide : ((1 : Int32) + (1 : Int32)) = (2 : Int32))]
        refine OE.goto X14 hx hby (pc' := 2) own_d3_35 (h := ?_)
        refine OE.iloadN X14 hx hby own_d3_2 rfl ?_
        refine OE.aloadN X14 hx hby own_d3_3 rfl rfl ?_
        obtain ⟨T16, X16, e16, st16⟩ := getF X14 hx hZ hown (host := "") (Or.inl (hw _ (List.mem_of_getElem? (i := 19) rfl))) Via.refl e14 F_count_a1 (g := (mkF m 4 #[.val (.ref a1), .val (.int p2), .val (.int p3), .val (.int (2 : Int32))] [(.ref a1), (.int (2 : Int32))])) rfl rfl (hb hby own_d3_4)
        refine OE.of st16 ?_
        show OE _ p e below s _ _ _ T16 (mkF m 7 #[.val (.ref a1), .val (.int p2), .val (.int p3), .val (.int (2 : Int32))] [(.int (3 : Int32)), (.int (2 : Int32))])
        refine OE.icmpNo X16 hx hby own_d3_7 (tlt (by decide : (2 : Int32) < (3 : Int32))).2.1 ?_
        refine OE.aloadN X16 hx hby own_d3_10 rfl rfl ?_
        obtain ⟨T17, X17, e17, st17⟩ := getF X16 hx hZ hown (host := "") (Or.inl (hw _ (List.mem_of_getElem? (i := 10) rfl))) Via.refl e16 F_frequencies_a1 (g := (mkF m 11 #[.val (.ref a1), .val (.int p2), .val (.int p3), .val (.int (2 : Int32))] [(.ref a1)])) rfl rfl (hb hby own_d3_11)
        refine OE.of st17 ?_
        show OE _ p e below s _ _ _ T17 (mkF m 14 #[.val (.ref a1), .val (.int p2), .val (.int p3), .val (.int (2 : Int32))] [(.ref f)])
        refine OE.iloadN X17 hx hby own_d3_14 rfl ?_
        have Vo18 := V_f
        obtain ⟨cl18, Ar18, -, Sz18, Nz18, Hz18, Gz18⟩ := Vo18
        have hin18 : ¬ ((2 : Int32) < 0 ∨ cl18.slots.size ≤ ((2 : Int32)).toNatClampNeg) := inb_of Sz18 ⟨by decide, hn2⟩
        have hat18 : cl18.slots[((2 : Int32)).toNatClampNeg]? = some (.int x2) := Has.at Hz18 hin18 rfl
        refine OE.of (X17.iaload hx (j := (2 : Int32)) (v := (.int x2)) (by rw [e17]; exact Ar18.1) (State.isArrayOf_alike hZ.alike Ar18.2.1) Ar18.2.2 hin18 hat18 (g := (mkF m 15 #[.val (.ref a1), .val (.int p2), .val (.int p3), .val (.int (2 : Int32))] [(.int (2 : Int32)), (.ref f)])) rfl rfl (hb hby own_d3_15)) ?_
        show OE _ p e below s _ _ _ T17 (mkF m 16 #[.val (.ref a1), .val (.int p2), .val (.int p3), .val (.int (2 : Int32))] [(.int x2)])
        refine OE.iloadN X17 hx hby own_d3_16 rfl ?_
        by_cases hc17_3 : x2 < p2
        · skip
          refine OE.icmpYes X17 hx hby (pc' := 32) own_d3_17 (tlt hc17_3).1 (h := ?_)
          refine OE.iinc X17 hx hby own_d3_32 rfl (l' := #[.val (.ref a1), .val (.int p2), .val (.int p3), .val (.int ((2 : Int32) + (1 : Int32)))]) rfl ?_
          rw [(by decide : ((2 : Int32) + (1 : Int32)) = (3 : Int32))]
          refine OE.goto X17 hx hby (pc' := 2) own_d3_35 (h := ?_)
          refine OE.iloadN X17 hx hby own_d3_2 rfl ?_
          refine OE.aloadN X17 hx hby own_d3_3 rfl rfl ?_
          obtain ⟨T19, X19, e19, st19⟩ := getF X17 hx hZ hown (host := "") (Or.inl (hw _ (List.mem_of_getElem? (i := 19) rfl))) Via.refl e17 F_count_a1 (g := (mkF m 4 #[.val (.ref a1), .val (.int p2), .val (.int p3), .val (.int (3 : Int32))] [(.ref a1), (.int (3 : Int32))])) rfl rfl (hb hby own_d3_4)
          refine OE.of st19 ?_
          show OE _ p e below s _ _ _ T19 (mkF m 7 #[.val (.ref a1), .val (.int p2), .val (.int p3), .val (.int (3 : Int32))] [(.int (3 : Int32)), (.int (3 : Int32))])
          refine OE.icmpYes X19 hx hby (pc' := 38) own_d3_7 (flt (by decide : ¬ ((3 : Int32) < (3 : Int32)))).2.1 (h := ?_)
          refine OE.iconst X19 hx hby own_d3_38 (0 : Int32) rfl ?_
          refine OE.retN X19 hx (t := .boolean) Bd.returns (by simp) Bd.notSynchronized (hb hby own_d3_39) (by decide) (by decide) ?_
          rw [e19]
          exact ⟨(congrArg (fun z => some (Value.int z)) (show (0 : Int32) = (if x0 < p2 then (if x1 < p2 then (if x2 < p2 then (0 : Int32) else (if p3 < y2 then (0 : Int32) else (1 : Int32))) else (if p3 < y1 then (if x2 < p2 then (0 : Int32) else (if p3 < y2 then (0 : Int32) else (1 : Int32))) else (1 : Int32))) else (if p3 < y0 then (if x1 < p2 then (if x2 < p2 then (0 : Int32) else (if p3 < y2 then (0 : Int32) else (1 : Int32))) else (if p3 < y1 then (if x2 < p2 then (0 : Int32) else (if p3 < y2 then (0 : Int32) else (1 : Int32))) else (1 : Int32))) else (1 : Int32))) from by rw [if_pos hc17, if_neg hc17_2, if_pos hc27, if_pos hc17_3])), N0, rfl⟩
        · skip
          refine OE.icmpNo X17 hx hby own_d3_17 (flt hc17_3).1 ?_
          refine OE.aloadN X17 hx hby own_d3_20 rfl rfl ?_
          obtain ⟨T20, X20, e20, st20⟩ := getF X17 hx hZ hown (host := "") (Or.inl (hw _ (List.mem_of_getElem? (i := 12) rfl))) Via.refl e17 F_lengths_a1 (g := (mkF m 21 #[.val (.ref a1), .val (.int p2), .val (.int p3), .val (.int (2 : Int32))] [(.ref a1)])) rfl rfl (hb hby own_d3_21)
          refine OE.of st20 ?_
          show OE _ p e below s _ _ _ T20 (mkF m 24 #[.val (.ref a1), .val (.int p2), .val (.int p3), .val (.int (2 : Int32))] [(.ref g)])
          refine OE.iloadN X20 hx hby own_d3_24 rfl ?_
          have Vo21 := V_g
          obtain ⟨cl21, Ar21, -, Sz21, Nz21, Hz21, Gz21⟩ := Vo21
          have hin21 : ¬ ((2 : Int32) < 0 ∨ cl21.slots.size ≤ ((2 : Int32)).toNatClampNeg) := inb_of Sz21 ⟨by decide, hn2⟩
          have hat21 : cl21.slots[((2 : Int32)).toNatClampNeg]? = some (.int y2) := Has.at Hz21 hin21 rfl
          refine OE.of (X20.iaload hx (j := (2 : Int32)) (v := (.int y2)) (by rw [e20]; exact Ar21.1) (State.isArrayOf_alike hZ.alike Ar21.2.1) Ar21.2.2 hin21 hat21 (g := (mkF m 25 #[.val (.ref a1), .val (.int p2), .val (.int p3), .val (.int (2 : Int32))] [(.int (2 : Int32)), (.ref g)])) rfl rfl (hb hby own_d3_25)) ?_
          show OE _ p e below s _ _ _ T20 (mkF m 26 #[.val (.ref a1), .val (.int p2), .val (.int p3), .val (.int (2 : Int32))] [(.int y2)])
          refine OE.iloadN X20 hx hby own_d3_26 rfl ?_
          by_cases hc27_2 : p3 < y2
          · skip
            refine OE.icmpYes X20 hx hby (pc' := 32) own_d3_27 (tlt hc27_2).2.2.1 (h := ?_)
            refine OE.iinc X20 hx hby own_d3_32 rfl (l' := #[.val (.ref a1), .val (.int p2), .val (.int p3), .val (.int ((2 : Int32) + (1 : Int32)))]) rfl ?_
            rw [(by decide : ((2 : Int32) + (1 : Int32)) = (3 : Int32))]
            refine OE.goto X20 hx hby (pc' := 2) own_d3_35 (h := ?_)
            refine OE.iloadN X20 hx hby own_d3_2 rfl ?_
            refine OE.aloadN X20 hx hby own_d3_3 rfl rfl ?_
            obtain ⟨T22, X22, e22, st22⟩ := getF X20 hx hZ hown (host := "") (Or.inl (hw _ (List.mem_of_getElem? (i := 19) rfl))) Via.refl e20 F_count_a1 (g := (mkF m 4 #[.val (.ref a1), .val (.int p2), .val (.int p3), .val (.int (3 : Int32))] [(.ref a1), (.int (3 : Int32))])) rfl rfl (hb hby own_d3_4)
            refine OE.of st22 ?_
            show OE _ p e below s _ _ _ T22 (mkF m 7 #[.val (.ref a1), .val (.int p2), .val (.int p3), .val (.int (3 : Int32))] [(.int (3 : Int32)), (.int (3 : Int32))])
            refine OE.icmpYes X22 hx hby (pc' := 38) own_d3_7 (flt (by decide : ¬ ((3 : Int32) < (3 : Int32)))).2.1 (h := ?_)
            refine OE.iconst X22 hx hby own_d3_38 (0 : Int32) rfl ?_
            refine OE.retN X22 hx (t := .boolean) Bd.returns (by simp) Bd.notSynchronized (hb hby own_d3_39) (by decide) (by decide) ?_
            rw [e22]
            exact ⟨(congrArg (fun z => some (Value.int z)) (show (0 : Int32) = (if x0 < p2 then (if x1 < p2 then (if x2 < p2 then (0 : Int32) else (if p3 < y2 then (0 : Int32) else (1 : Int32))) else (if p3 < y1 then (if x2 < p2 then (0 : Int32) else (if p3 < y2 then (0 : Int32) else (1 : Int32))) else (1 : Int32))) else (if p3 < y0 then (if x1 < p2 then (if x2 < p2 then (0 : Int32) else (if p3 < y2 then (0 : Int32) else (1 : Int32))) else (if p3 < y1 then (if x2 < p2 then (0 : Int32) else (if p3 < y2 then (0 : Int32) else (1 : Int32))) else (1 : Int32))) else (1 : Int32))) from by rw [if_pos hc17, if_neg hc17_2, if_pos hc27, if_neg hc17_3, if_pos hc27_2])), N0, rfl⟩
          · skip
            refine OE.icmpNo X20 hx hby own_d3_27 (flt hc27_2).2.2.1 ?_
            refine OE.iconst X20 hx hby own_d3_30 (1 : Int32) rfl ?_
            refine OE.retN X20 hx (t := .boolean) Bd.returns (by simp) Bd.notSynchronized (hb hby own_d3_31) (by decide) (by decide) ?_
            rw [e20]
            exact ⟨(congrArg (fun z => some (Value.int z)) (show (1 : Int32) = (if x0 < p2 then (if x1 < p2 then (if x2 < p2 then (0 : Int32) else (if p3 < y2 then (0 : Int32) else (1 : Int32))) else (if p3 < y1 then (if x2 < p2 then (0 : Int32) else (if p3 < y2 then (0 : Int32) else (1 : Int32))) else (1 : Int32))) else (if p3 < y0 then (if x1 < p2 then (if x2 < p2 then (0 : Int32) else (if p3 < y2 then (0 : Int32) else (1 : Int32))) else (if p3 < y1 then (if x2 < p2 then (0 : Int32) else (if p3 < y2 then (0 : Int32) else (1 : Int32))) else (1 : Int32))) else (1 : Int32))) from by rw [if_pos hc17, if_neg hc17_2, if_pos hc27, if_neg hc17_3, if_neg hc27_2])), N0, rfl⟩
      · skip
        refine OE.icmpNo X14 hx hby own_d3_27 (flt hc27).2.2.1 ?_
        refine OE.iconst X14 hx hby own_d3_30 (1 : Int32) rfl ?_
        refine OE.retN X14 hx (t := .boolean) Bd.returns (by simp) Bd.notSynchronized (hb hby own_d3_31) (by decide) (by decide) ?_
        rw [e14]
        exact ⟨(congrArg (fun z => some (Value.int z)) (show (1 : Int32) = (if x0 < p2 then (if x1 < p2 then (if x2 < p2 then (0 : Int32) else (if p3 < y2 then (0 : Int32) else (1 : Int32))) else (if p3 < y1 then (if x2 < p2 then (0 : Int32) else (if p3 < y2 then (0 : Int32) else (1 : Int32))) else (1 : Int32))) else (if p3 < y0 then (if x1 < p2 then (if x2 < p2 then (0 : Int32) else (if p3 < y2 then (0 : Int32) else (1 : Int32))) else (if p3 < y1 then (if x2 < p2 then (0 : Int32) else (if p3 < y2 then (0 : Int32) else (1 : Int32))) else (1 : Int32))) else (1 : Int32))) from by rw [if_pos hc17, if_neg hc17_2, if_neg hc27])), N0, rfl⟩
  · skip
    refine OE.icmpNo X2 hx hby own_d3_17 (flt hc17).1 ?_
    refine OE.aloadN X2 hx hby own_d3_20 rfl rfl ?_
    obtain ⟨T23, X23, e23, st23⟩ := getF X2 hx hZ hown (host := "") (Or.inl (hw _ (List.mem_of_getElem? (i := 12) rfl))) Via.refl e2 F_lengths_a1 (g := (mkF m 21 #[.val (.ref a1), .val (.int p2), .val (.int p3), .val (.int (0 : Int32))] [(.ref a1)])) rfl rfl (hb hby own_d3_21)
    refine OE.of st23 ?_
    show OE _ p e below s _ _ _ T23 (mkF m 24 #[.val (.ref a1), .val (.int p2), .val (.int p3), .val (.int (0 : Int32))] [(.ref g)])
    refine OE.iloadN X23 hx hby own_d3_24 rfl ?_
    have Vo24 := V_g
    obtain ⟨cl24, Ar24, -, Sz24, Nz24, Hz24, Gz24⟩ := Vo24
    have hin24 : ¬ ((0 : Int32) < 0 ∨ cl24.slots.size ≤ ((0 : Int32)).toNatClampNeg) := inb_of Sz24 ⟨by decide, hn0⟩
    have hat24 : cl24.slots[((0 : Int32)).toNatClampNeg]? = some (.int y0) := Has.at Hz24 hin24 rfl
    refine OE.of (X23.iaload hx (j := (0 : Int32)) (v := (.int y0)) (by rw [e23]; exact Ar24.1) (State.isArrayOf_alike hZ.alike Ar24.2.1) Ar24.2.2 hin24 hat24 (g := (mkF m 25 #[.val (.ref a1), .val (.int p2), .val (.int p3), .val (.int (0 : Int32))] [(.int (0 : Int32)), (.ref g)])) rfl rfl (hb hby own_d3_25)) ?_
    show OE _ p e below s _ _ _ T23 (mkF m 26 #[.val (.ref a1), .val (.int p2), .val (.int p3), .val (.int (0 : Int32))] [(.int y0)])
    refine OE.iloadN X23 hx hby own_d3_26 rfl ?_
    by_cases hc27 : p3 < y0
    · skip
      refine OE.icmpYes X23 hx hby (pc' := 32) own_d3_27 (tlt hc27).2.2.1 (h := ?_)
      refine OE.iinc X23 hx hby own_d3_32 rfl (l' := #[.val (.ref a1), .val (.int p2), .val (.int p3), .val (.int ((0 : Int32) + (1 : Int32)))]) rfl ?_
      rw [(by decide : ((0 : Int32) + (1 : Int32)) = (1 : Int32))]
      refine OE.goto X23 hx hby (pc' := 2) own_d3_35 (h := ?_)
      refine OE.iloadN X23 hx hby own_d3_2 rfl ?_
      refine OE.aloadN X23 hx hby own_d3_3 rfl rfl ?_
      obtain ⟨T25, X25, e25, st25⟩ := getF X23 hx hZ hown (host := "") (Or.inl (hw _ (List.mem_of_getElem? (i := 19) rfl))) Via.refl e23 F_count_a1 (g := (mkF m 4 #[.val (.ref a1), .val (.int p2), .val (.int p3), .val (.int (1 : Int32))] [(.ref a1), (.int (1 : Int32))])) rfl rfl (hb hby own_d3_4)
      refine OE.of st25 ?_
      show OE _ p e below s _ _ _ T25 (mkF m 7 #[.val (.ref a1), .val (.int p2), .val (.int p3), .val (.int (1 : Int32))] [(.int (3 : Int32)), (.int (1 : Int32))])
      refine OE.icmpNo X25 hx hby own_d3_7 (tlt (by decide : (1 : Int32) < (3 : Int32))).2.1 ?_
      refine OE.aloadN X25 hx hby own_d3_10 rfl rfl ?_
      obtain ⟨T26, X26, e26, st26⟩ := getF X25 hx hZ hown (host := "") (Or.inl (hw _ (List.mem_of_getElem? (i := 10) rfl))) Via.refl e25 F_frequencies_a1 (g := (mkF m 11 #[.val (.ref a1), .val (.int p2), .val (.int p3), .val (.int (1 : Int32))] [(.ref a1)])) rfl rfl (hb hby own_d3_11)
      refine OE.of st26 ?_
      show OE _ p e below s _ _ _ T26 (mkF m 14 #[.val (.ref a1), .val (.int p2), .val (.int p3), .val (.int (1 : Int32))] [(.ref f)])
      refine OE.iloadN X26 hx hby own_d3_14 rfl ?_
      have Vo27 := V_f
      obtain ⟨cl27, Ar27, -, Sz27, Nz27, Hz27, Gz27⟩ := Vo27
      have hin27 : ¬ ((1 : Int32) < 0 ∨ cl27.slots.size ≤ ((1 : Int32)).toNatClampNeg) := inb_of Sz27 ⟨by decide, hn1⟩
      have hat27 : cl27.slots[((1 : Int32)).toNatClampNeg]? = some (.int x1) := Has.at Hz27 hin27 rfl
      refine OE.of (X26.iaload hx (j := (1 : Int32)) (v := (.int x1)) (by rw [e26]; exact Ar27.1) (State.isArrayOf_alike hZ.alike Ar27.2.1) Ar27.2.2 hin27 hat27 (g := (mkF m 15 #[.val (.ref a1), .val (.int p2), .val (.int p3), .val (.int (1 : Int32))] [(.int (1 : Int32)), (.ref f)])) rfl rfl (hb hby own_d3_15)) ?_
      show OE _ p e below s _ _ _ T26 (mkF m 16 #[.val (.ref a1), .val (.int p2), .val (.int p3), .val (.int (1 : Int32))] [(.int x1)])
      refine OE.iloadN X26 hx hby own_d3_16 rfl ?_
      by_cases hc17_2 : x1 < p2
      · skip
        refine OE.icmpYes X26 hx hby (pc' := 32) own_d3_17 (tlt hc17_2).1 (h := ?_)
        refine OE.iinc X26 hx hby own_d3_32 rfl (l' := #[.val (.ref a1), .val (.int p2), .val (.int p3), .val (.int ((1 : Int32) + (1 : Int32)))]) rfl ?_
        rw [(by decide : ((1 : Int32) + (1 : Int32)) = (2 : Int32))]
        refine OE.goto X26 hx hby (pc' := 2) own_d3_35 (h := ?_)
        refine OE.iloadN X26 hx hby own_d3_2 rfl ?_
        refine OE.aloadN X26 hx hby own_d3_3 rfl rfl ?_
        obtain ⟨T28, X28, e28, st28⟩ := getF X26 hx hZ hown (host := "") (Or.inl (hw _ (List.mem_of_getElem? (i := 19) rfl))) Via.refl e26 F_count_a1 (g := (mkF m 4 #[.val (.ref a1), .val (.int p2), .val (.int p3), .val (.int (2 : Int32))] [(.ref a1), (.int (2 : Int32))])) rfl rfl (hb hby own_d3_4)
        refine OE.of st28 ?_
        show OE _ p e below s _ _ _ T28 (mkF m 7 #[.val (.ref a1), .val (.int p2), .val (.int p3), .val (.int (2 : Int32))] [(.int (3 : Int32)), (.int (2 : Int32))])
        refine OE.icmpNo X28 hx hby own_d3_7 (tlt (by decide : (2 : Int32) < (3 : Int32))).2.1 ?_
        refine OE.aloadN X28 hx hby own_d3_10 rfl rfl ?_
        obtain ⟨T29, X29, e29, st29⟩ := getF X28 hx hZ hown (host := "") (Or.inl (hw _ (List.mem_of_getElem? (i := 10) rfl))) Via.refl e28 F_frequencies_a1 (g := (mkF m 11 #[.val (.ref a1), .val (.int p2), .val (.int p3), .val (.int (2 : Int32))] [(.ref a1)])) rfl rfl (hb hby own_d3_11)
        refine OE.of st29 ?_
        show OE _ p e below s _ _ _ T29 (mkF m 14 #[.val (.ref a1), .val (.int p2), .val (.int p3), .val (.int (2 : Int32))] [(.ref f)])
        refine OE.iloadN X29 hx hby own_d3_14 rfl ?_
        have Vo30 := V_f
        obtain ⟨cl30, Ar30, -, Sz30, Nz30, Hz30, Gz30⟩ := Vo30
        have hin30 : ¬ ((2 : Int32) < 0 ∨ cl30.slots.size ≤ ((2 : Int32)).toNatClampNeg) := inb_of Sz30 ⟨by decide, hn2⟩
        have hat30 : cl30.slots[((2 : Int32)).toNatClampNeg]? = some (.int x2) := Has.at Hz30 hin30 rfl
        refine OE.of (X29.iaload hx (j := (2 : Int32)) (v := (.int x2)) (by rw [e29]; exact Ar30.1) (State.isArrayOf_alike hZ.alike Ar30.2.1) Ar30.2.2 hin30 hat30 (g := (mkF m 15 #[.val (.ref a1), .val (.int p2), .val (.int p3), .val (.int (2 : Int32))] [(.int (2 : Int32)), (.ref f)])) rfl rfl (hb hby own_d3_15)) ?_
        show OE _ p e below s _ _ _ T29 (mkF m 16 #[.val (.ref a1), .val (.int p2), .val (.int p3), .val (.int (2 : Int32))] [(.int x2)])
        refine OE.iloadN X29 hx hby own_d3_16 rfl ?_
        by_cases hc17_3 : x2 < p2
        · skip
          refine OE.icmpYes X29 hx hby (pc' := 32) own_d3_17 (tlt hc17_3).1 (h := ?_)
          refine OE.iinc X29 hx hby own_d3_32 rfl (l' := #[.val (.ref a1), .val (.int p2), .val (.int p3), .val (.int ((2 : Int32) + (1 : Int32)))]) rfl ?_
          rw [(by decide : ((2 : Int32) + (1 : Int32)) = (3 : Int32))]
          refine OE.goto X29 hx hby (pc' := 2) own_d3_35 (h := ?_)
          refine OE.iloadN X29 hx hby own_d3_2 rfl ?_
          refine OE.aloadN X29 hx hby own_d3_3 rfl rfl ?_
          obtain ⟨T31, X31, e31, st31⟩ := getF X29 hx hZ hown (host := "") (Or.inl (hw _ (List.mem_of_getElem? (i := 19) rfl))) Via.refl e29 F_count_a1 (g := (mkF m 4 #[.val (.ref a1), .val (.int p2), .val (.int p3), .val (.int (3 : Int32))] [(.ref a1), (.int (3 : Int32))])) rfl rfl (hb hby own_d3_4)
          refine OE.of st31 ?_
          show OE _ p e below s _ _ _ T31 (mkF m 7 #[.val (.ref a1), .val (.int p2), .val (.int p3), .val (.int (3 : Int32))] [(.int (3 : Int32)), (.int (3 : Int32))])
          refine OE.icmpYes X31 hx hby (pc' := 38) own_d3_7 (flt (by decide : ¬ ((3 : Int32) < (3 : Int32)))).2.1 (h := ?_)
          refine OE.iconst X31 hx hby own_d3_38 (0 : Int32) rfl ?_
          refine OE.retN X31 hx (t := .boolean) Bd.returns (by simp) Bd.notSynchronized (hb hby own_d3_39) (by decide) (by decide) ?_
          rw [e31]
          exact ⟨(congrArg (fun z => some (Value.int z)) (show (0 : Int32) = (if x0 < p2 then (if x1 < p2 then (if x2 < p2 then (0 : Int32) else (if p3 < y2 then (0 : Int32) else (1 : Int32))) else (if p3 < y1 then (if x2 < p2 then (0 : Int32) else (if p3 < y2 then (0 : Int32) else (1 : Int32))) else (1 : Int32))) else (if p3 < y0 then (if x1 < p2 then (if x2 < p2 then (0 : Int32) else (if p3 < y2 then (0 : Int32) else (1 : Int32))) else (if p3 < y1 then (if x2 < p2 then (0 : Int32) else (if p3 < y2 then (0 : Int32) else (1 : Int32))) else (1 : Int32))) else (1 : Int32))) from by rw [if_neg hc17, if_pos hc27, if_pos hc17_2, if_pos hc17_3])), N0, rfl⟩
        · skip
          refine OE.icmpNo X29 hx hby own_d3_17 (flt hc17_3).1 ?_
          refine OE.aloadN X29 hx hby own_d3_20 rfl rfl ?_
          obtain ⟨T32, X32, e32, st32⟩ := getF X29 hx hZ hown (host := "") (Or.inl (hw _ (List.mem_of_getElem? (i := 12) rfl))) Via.refl e29 F_lengths_a1 (g := (mkF m 21 #[.val (.ref a1), .val (.int p2), .val (.int p3), .val (.int (2 : Int32))] [(.ref a1)])) rfl rfl (hb hby own_d3_21)
          refine OE.of st32 ?_
          show OE _ p e below s _ _ _ T32 (mkF m 24 #[.val (.ref a1), .val (.int p2), .val (.int p3), .val (.int (2 : Int32))] [(.ref g)])
          refine OE.iloadN X32 hx hby own_d3_24 rfl ?_
          have Vo33 := V_g
          obtain ⟨cl33, Ar33, -, Sz33, Nz33, Hz33, Gz33⟩ := Vo33
          have hin33 : ¬ ((2 : Int32) < 0 ∨ cl33.slots.size ≤ ((2 : Int32)).toNatClampNeg) := inb_of Sz33 ⟨by decide, hn2⟩
          have hat33 : cl33.slots[((2 : Int32)).toNatClampNeg]? = some (.int y2) := Has.at Hz33 hin33 rfl
          refine OE.of (X32.iaload hx (j := (2 : Int32)) (v := (.int y2)) (by rw [e32]; exact Ar33.1) (State.isArrayOf_alike hZ.alike Ar33.2.1) Ar33.2.2 hin33 hat33 (g := (mkF m 25 #[.val (.ref a1), .val (.int p2), .val (.int p3), .val (.int (2 : Int32))] [(.int (2 : Int32)), (.ref g)])) rfl rfl (hb hby own_d3_25)) ?_
          show OE _ p e below s _ _ _ T32 (mkF m 26 #[.val (.ref a1), .val (.int p2), .val (.int p3), .val (.int (2 : Int32))] [(.int y2)])
          refine OE.iloadN X32 hx hby own_d3_26 rfl ?_
          by_cases hc27_2 : p3 < y2
          · skip
            refine OE.icmpYes X32 hx hby (pc' := 32) own_d3_27 (tlt hc27_2).2.2.1 (h := ?_)
            refine OE.iinc X32 hx hby own_d3_32 rfl (l' := #[.val (.ref a1), .val (.int p2), .val (.int p3), .val (.int ((2 : Int32) + (1 : Int32)))]) rfl ?_
            rw [(by decide : ((2 : Int32) + (1 : Int32)) = (3 : Int32))]
            refine OE.goto X32 hx hby (pc' := 2) own_d3_35 (h := ?_)
            refine OE.iloadN X32 hx hby own_d3_2 rfl ?_
            refine OE.aloadN X32 hx hby own_d3_3 rfl rfl ?_
            obtain ⟨T34, X34, e34, st34⟩ := getF X32 hx hZ hown (host := "") (Or.inl (hw _ (List.mem_of_getElem? (i := 19) rfl))) Via.refl e32 F_count_a1 (g := (mkF m 4 #[.val (.ref a1), .val (.int p2), .val (.int p3), .val (.int (3 : Int32))] [(.ref a1), (.int (3 : Int32))])) rfl rfl (hb hby own_d3_4)
            refine OE.of st34 ?_
            show OE _ p e below s _ _ _ T34 (mkF m 7 #[.val (.ref a1), .val (.int p2), .val (.int p3), .val (.int (3 : Int32))] [(.int (3 : Int32)), (.int (3 : Int32))])
            refine OE.icmpYes X34 hx hby (pc' := 38) own_d3_7 (flt (by decide : ¬ ((3 : Int32) < (3 : Int32)))).2.1 (h := ?_)
            refine OE.iconst X34 hx hby own_d3_38 (0 : Int32) rfl ?_
            refine OE.retN X34 hx (t := .boolean) Bd.returns (by simp) Bd.notSynchronized (hb hby own_d3_39) (by decide) (by decide) ?_
            rw [e34]
            exact ⟨(congrArg (fun z => some (Value.int z)) (show (0 : Int32) = (if x0 < p2 then (if x1 < p2 then (if x2 < p2 then (0 : Int32) else (if p3 < y2 then (0 : Int32) else (1 : Int32))) else (if p3 < y1 then (if x2 < p2 then (0 : Int32) else (if p3 < y2 then (0 : Int32) else (1 : Int32))) else (1 : Int32))) else (if p3 < y0 then (if x1 < p2 then (if x2 < p2 then (0 : Int32) else (if p3 < y2 then (0 : Int32) else (1 : Int32))) else (if p3 < y1 then (if x2 < p2 then (0 : Int32) else (if p3 < y2 then (0 : Int32) else (1 : Int32))) else (1 : Int32))) else (1 : Int32))) from by rw [if_neg hc17, if_pos hc27, if_pos hc17_2, if_neg hc17_3, if_pos hc27_2])), N0, rfl⟩
          · skip
            refine OE.icmpNo X32 hx hby own_d3_27 (flt hc27_2).2.2.1 ?_
            refine OE.iconst X32 hx hby own_d3_30 (1 : Int32) rfl ?_
            refine OE.retN X32 hx (t := .boolean) Bd.returns (by simp) Bd.notSynchronized (hb hby own_d3_31) (by decide) (by decide) ?_
            rw [e32]
            exact ⟨(congrArg (fun z => some (Value.int z)) (show (1 : Int32) = (if x0 < p2 then (if x1 < p2 then (if x2 < p2 then (0 : Int32) else (if p3 < y2 then (0 : Int32) else (1 : Int32))) else (if p3 < y1 then (if x2 < p2 then (0 : Int32) else (if p3 < y2 then (0 : Int32) else (1 : Int32))) else (1 : Int32))) else (if p3 < y0 then (if x1 < p2 then (if x2 < p2 then (0 : Int32) else (if p3 < y2 then (0 : Int32) else (1 : Int32))) else (if p3 < y1 then (if x2 < p2 then (0 : Int32) else (if p3 < y2 then (0 : Int32) else (1 : Int32))) else (1 : Int32))) else (1 : Int32))) from by rw [if_neg hc17, if_pos hc27, if_pos hc17_2, if_neg hc17_3, if_neg hc27_2])), N0, rfl⟩
      · skip
        refine OE.icmpNo X26 hx hby own_d3_17 (flt hc17_2).1 ?_
        refine OE.aloadN X26 hx hby own_d3_20 rfl rfl ?_
        obtain ⟨T35, X35, e35, st35⟩ := getF X26 hx hZ hown (host := "") (Or.inl (hw _ (List.mem_of_getElem? (i := 12) rfl))) Via.refl e26 F_lengths_a1 (g := (mkF m 21 #[.val (.ref a1), .val (.int p2), .val (.int p3), .val (.int (1 : Int32))] [(.ref a1)])) rfl rfl (hb hby own_d3_21)
        refine OE.of st35 ?_
        show OE _ p e below s _ _ _ T35 (mkF m 24 #[.val (.ref a1), .val (.int p2), .val (.int p3), .val (.int (1 : Int32))] [(.ref g)])
        refine OE.iloadN X35 hx hby own_d3_24 rfl ?_
        have Vo36 := V_g
        obtain ⟨cl36, Ar36, -, Sz36, Nz36, Hz36, Gz36⟩ := Vo36
        have hin36 : ¬ ((1 : Int32) < 0 ∨ cl36.slots.size ≤ ((1 : Int32)).toNatClampNeg) := inb_of Sz36 ⟨by decide, hn1⟩
        have hat36 : cl36.slots[((1 : Int32)).toNatClampNeg]? = some (.int y1) := Has.at Hz36 hin36 rfl
        refine OE.of (X35.iaload hx (j := (1 : Int32)) (v := (.int y1)) (by rw [e35]; exact Ar36.1) (State.isArrayOf_alike hZ.alike Ar36.2.1) Ar36.2.2 hin36 hat36 (g := (mkF m 25 #[.val (.ref a1), .val (.int p2), .val (.int p3), .val (.int (1 : Int32))] [(.int (1 : Int32)), (.ref g)])) rfl rfl (hb hby own_d3_25)) ?_
        show OE _ p e below s _ _ _ T35 (mkF m 26 #[.val (.ref a1), .val (.int p2), .val (.int p3), .val (.int (1 : Int32))] [(.int y1)])
        refine OE.iloadN X35 hx hby own_d3_26 rfl ?_
        by_cases hc27_2 : p3 < y1
        · skip
          refine OE.icmpYes X35 hx hby (pc' := 32) own_d3_27 (tlt hc27_2).2.2.1 (h := ?_)
          refine OE.iinc X35 hx hby own_d3_32 rfl (l' := #[.val (.ref a1), .val (.int p2), .val (.int p3), .val (.int ((1 : Int32) + (1 : Int32)))]) rfl ?_
          rw [(by decide : ((1 : Int32) + (1 : Int32)) = (2 : Int32))]
          refine OE.goto X35 hx hby (pc' := 2) own_d3_35 (h := ?_)
          refine OE.iloadN X35 hx hby own_d3_2 rfl ?_
          refine OE.aloadN X35 hx hby own_d3_3 rfl rfl ?_
          obtain ⟨T37, X37, e37, st37⟩ := getF X35 hx hZ hown (host := "") (Or.inl (hw _ (List.mem_of_getElem? (i := 19) rfl))) Via.refl e35 F_count_a1 (g := (mkF m 4 #[.val (.ref a1), .val (.int p2), .val (.int p3), .val (.int (2 : Int32))] [(.ref a1), (.int (2 : Int32))])) rfl rfl (hb hby own_d3_4)
          refine OE.of st37 ?_
          show OE _ p e below s _ _ _ T37 (mkF m 7 #[.val (.ref a1), .val (.int p2), .val (.int p3), .val (.int (2 : Int32))] [(.int (3 : Int32)), (.int (2 : Int32))])
          refine OE.icmpNo X37 hx hby own_d3_7 (tlt (by decide : (2 : Int32) < (3 : Int32))).2.1 ?_
          refine OE.aloadN X37 hx hby own_d3_10 rfl rfl ?_
          obtain ⟨T38, X38, e38, st38⟩ := getF X37 hx hZ hown (host := "") (Or.inl (hw _ (List.mem_of_getElem? (i := 10) rfl))) Via.refl e37 F_frequencies_a1 (g := (mkF m 11 #[.val (.ref a1), .val (.int p2), .val (.int p3), .val (.int (2 : Int32))] [(.ref a1)])) rfl rfl (hb hby own_d3_11)
          refine OE.of st38 ?_
          show OE _ p e below s _ _ _ T38 (mkF m 14 #[.val (.ref a1), .val (.int p2), .val (.int p3), .val (.int (2 : Int32))] [(.ref f)])
          refine OE.iloadN X38 hx hby own_d3_14 rfl ?_
          have Vo39 := V_f
          obtain ⟨cl39, Ar39, -, Sz39, Nz39, Hz39, Gz39⟩ := Vo39
          have hin39 : ¬ ((2 : Int32) < 0 ∨ cl39.slots.size ≤ ((2 : Int32)).toNatClampNeg) := inb_of Sz39 ⟨by decide, hn2⟩
          have hat39 : cl39.slots[((2 : Int32)).toNatClampNeg]? = some (.int x2) := Has.at Hz39 hin39 rfl
          refine OE.of (X38.iaload hx (j := (2 : Int32)) (v := (.int x2)) (by rw [e38]; exact Ar39.1) (State.isArrayOf_alike hZ.alike Ar39.2.1) Ar39.2.2 hin39 hat39 (g := (mkF m 15 #[.val (.ref a1), .val (.int p2), .val (.int p3), .val (.int (2 : Int32))] [(.int (2 : Int32)), (.ref f)])) rfl rfl (hb hby own_d3_15)) ?_
          show OE _ p e below s _ _ _ T38 (mkF m 16 #[.val (.ref a1), .val (.int p2), .val (.int p3), .val (.int (2 : Int32))] [(.int x2)])
          refine OE.iloadN X38 hx hby own_d3_16 rfl ?_
          by_cases hc17_3 : x2 < p2
          · skip
            refine OE.icmpYes X38 hx hby (pc' := 32) own_d3_17 (tlt hc17_3).1 (h := ?_)
            refine OE.iinc X38 hx hby own_d3_32 rfl (l' := #[.val (.ref a1), .val (.int p2), .val (.int p3), .val (.int ((2 : Int32) + (1 : Int32)))]) rfl ?_
            rw [(by decide : ((2 : Int32) + (1 : Int32)) = (3 : Int32))]
            refine OE.goto X38 hx hby (pc' := 2) own_d3_35 (h := ?_)
            refine OE.iloadN X38 hx hby own_d3_2 rfl ?_
            refine OE.aloadN X38 hx hby own_d3_3 rfl rfl ?_
            obtain ⟨T40, X40, e40, st40⟩ := getF X38 hx hZ hown (host := "") (Or.inl (hw _ (List.mem_of_getElem? (i := 19) rfl))) Via.refl e38 F_count_a1 (g := (mkF m 4 #[.val (.ref a1), .val (.int p2), .val (.int p3), .val (.int (3 : Int32))] [(.ref a1), (.int (3 : Int32))])) rfl rfl (hb hby own_d3_4)
            refine OE.of st40 ?_
            show OE _ p e below s _ _ _ T40 (mkF m 7 #[.val (.ref a1), .val (.int p2), .val (.int p3), .val (.int (3 : Int32))] [(.int (3 : Int32)), (.int (3 : Int32))])
            refine OE.icmpYes X40 hx hby (pc' := 38) own_d3_7 (flt (by decide : ¬ ((3 : Int32) < (3 : Int32)))).2.1 (h := ?_)
            refine OE.iconst X40 hx hby own_d3_38 (0 : Int32) rfl ?_
            refine OE.retN X40 hx (t := .boolean) Bd.returns (by simp) Bd.notSynchronized (hb hby own_d3_39) (by decide) (by decide) ?_
            rw [e40]
            exact ⟨(congrArg (fun z => some (Value.int z)) (show (0 : Int32) = (if x0 < p2 then (if x1 < p2 then (if x2 < p2 then (0 : Int32) else (if p3 < y2 then (0 : Int32) else (1 : Int32))) else (if p3 < y1 then (if x2 < p2 then (0 : Int32) else (if p3 < y2 then (0 : Int32) else (1 : Int32))) else (1 : Int32))) else (if p3 < y0 then (if x1 < p2 then (if x2 < p2 then (0 : Int32) else (if p3 < y2 then (0 : Int32) else (1 : Int32))) else (if p3 < y1 then (if x2 < p2 then (0 : Int32) else (if p3 < y2 then (0 : Int32) else (1 : Int32))) else (1 : Int32))) else (1 : Int32))) from by rw [if_neg hc17, if_pos hc27, if_neg hc17_2, if_pos hc27_2, if_pos hc17_3])), N0, rfl⟩
          · skip
            refine OE.icmpNo X38 hx hby own_d3_17 (flt hc17_3).1 ?_
            refine OE.aloadN X38 hx hby own_d3_20 rfl rfl ?_
            obtain ⟨T41, X41, e41, st41⟩ := getF X38 hx hZ hown (host := "") (Or.inl (hw _ (List.mem_of_getElem? (i := 12) rfl))) Via.refl e38 F_lengths_a1 (g := (mkF m 21 #[.val (.ref a1), .val (.int p2), .val (.int p3), .val (.int (2 : Int32))] [(.ref a1)])) rfl rfl (hb hby own_d3_21)
            refine OE.of st41 ?_
            show OE _ p e below s _ _ _ T41 (mkF m 24 #[.val (.ref a1), .val (.int p2), .val (.int p3), .val (.int (2 : Int32))] [(.ref g)])
            refine OE.iloadN X41 hx hby own_d3_24 rfl ?_
            have Vo42 := V_g
            obtain ⟨cl42, Ar42, -, Sz42, Nz42, Hz42, Gz42⟩ := Vo42
            have hin42 : ¬ ((2 : Int32) < 0 ∨ cl42.slots.size ≤ ((2 : Int32)).toNatClampNeg) := inb_of Sz42 ⟨by decide, hn2⟩
            have hat42 : cl42.slots[((2 : Int32)).toNatClampNeg]? = some (.int y2) := Has.at Hz42 hin42 rfl
            refine OE.of (X41.iaload hx (j := (2 : Int32)) (v := (.int y2)) (by rw [e41]; exact Ar42.1) (State.isArrayOf_alike hZ.alike Ar42.2.1) Ar42.2.2 hin42 hat42 (g := (mkF m 25 #[.val (.ref a1), .val (.int p2), .val (.int p3), .val (.int (2 : Int32))] [(.int (2 : Int32)), (.ref g)])) rfl rfl (hb hby own_d3_25)) ?_
            show OE _ p e below s _ _ _ T41 (mkF m 26 #[.val (.ref a1), .val (.int p2), .val (.int p3), .val (.int (2 : Int32))] [(.int y2)])
            refine OE.iloadN X41 hx hby own_d3_26 rfl ?_
            by_cases hc27_3 : p3 < y2
            · skip
              refine OE.icmpYes X41 hx hby (pc' := 32) own_d3_27 (tlt hc27_3).2.2.1 (h := ?_)
              refine OE.iinc X41 hx hby own_d3_32 rfl (l' := #[.val (.ref a1), .val (.int p2), .val (.int p3), .val (.int ((2 : Int32) + (1 : Int32)))]) rfl ?_
              rw [(by decide : ((2 : Int32) + (1 : Int32)) = (3 : Int32))]
              refine OE.goto X41 hx hby (pc' := 2) own_d3_35 (h := ?_)
              refine OE.iloadN X41 hx hby own_d3_2 rfl ?_
              refine OE.aloadN X41 hx hby own_d3_3 rfl rfl ?_
              obtain ⟨T43, X43, e43, st43⟩ := getF X41 hx hZ hown (host := "") (Or.inl (hw _ (List.mem_of_getElem? (i := 19) rfl))) Via.refl e41 F_count_a1 (g := (mkF m 4 #[.val (.ref a1), .val (.int p2), .val (.int p3), .val (.int (3 : Int32))] [(.ref a1), (.int (3 : Int32))])) rfl rfl (hb hby own_d3_4)
              refine OE.of st43 ?_
              show OE _ p e below s _ _ _ T43 (mkF m 7 #[.val (.ref a1), .val (.int p2), .val (.int p3), .val (.int (3 : Int32))] [(.int (3 : Int32)), (.int (3 : Int32))])
              refine OE.icmpYes X43 hx hby (pc' := 38) own_d3_7 (flt (by decide : ¬ ((3 : Int32) < (3 : Int32)))).2.1 (h := ?_)
              refine OE.iconst X43 hx hby own_d3_38 (0 : Int32) rfl ?_
              refine OE.retN X43 hx (t := .boolean) Bd.returns (by simp) Bd.notSynchronized (hb hby own_d3_39) (by decide) (by decide) ?_
              rw [e43]
              exact ⟨(congrArg (fun z => some (Value.int z)) (show (0 : Int32) = (if x0 < p2 then (if x1 < p2 then (if x2 < p2 then (0 : Int32) else (if p3 < y2 then (0 : Int32) else (1 : Int32))) else (if p3 < y1 then (if x2 < p2 then (0 : Int32) else (if p3 < y2 then (0 : Int32) else (1 : Int32))) else (1 : Int32))) else (if p3 < y0 then (if x1 < p2 then (if x2 < p2 then (0 : Int32) else (if p3 < y2 then (0 : Int32) else (1 : Int32))) else (if p3 < y1 then (if x2 < p2 then (0 : Int32) else (if p3 < y2 then (0 : Int32) else (1 : Int32))) else (1 : Int32))) else (1 : Int32))) from by rw [if_neg hc17, if_pos hc27, if_neg hc17_2, if_pos hc27_2, if_neg hc17_3, if_pos hc27_3])), N0, rfl⟩
            · skip
              refine OE.icmpNo X41 hx hby own_d3_27 (flt hc27_3).2.2.1 ?_
              refine OE.iconst X41 hx hby own_d3_30 (1 : Int32) rfl ?_
              refine OE.retN X41 hx (t := .boolean) Bd.returns (by simp) Bd.notSynchronized (hb hby own_d3_31) (by decide) (by decide) ?_
              rw [e41]
              exact ⟨(congrArg (fun z => some (Value.int z)) (show (1 : Int32) = (if x0 < p2 then (if x1 < p2 then (if x2 < p2 then (0 : Int32) else (if p3 < y2 then (0 : Int32) else (1 : Int32))) else (if p3 < y1 then (if x2 < p2 then (0 : Int32) else (if p3 < y2 then (0 : Int32) else (1 : Int32))) else (1 : Int32))) else (if p3 < y0 then (if x1 < p2 then (if x2 < p2 then (0 : Int32) else (if p3 < y2 then (0 : Int32) else (1 : Int32))) else (if p3 < y1 then (if x2 < p2 then (0 : Int32) else (if p3 < y2 then (0 : Int32) else (1 : Int32))) else (1 : Int32))) else (1 : Int32))) from by rw [if_neg hc17, if_pos hc27, if_neg hc17_2, if_pos hc27_2, if_neg hc17_3, if_neg hc27_3])), N0, rfl⟩
        · skip
          refine OE.icmpNo X35 hx hby own_d3_27 (flt hc27_2).2.2.1 ?_
          refine OE.iconst X35 hx hby own_d3_30 (1 : Int32) rfl ?_
          refine OE.retN X35 hx (t := .boolean) Bd.returns (by simp) Bd.notSynchronized (hb hby own_d3_31) (by decide) (by decide) ?_
          rw [e35]
          exact ⟨(congrArg (fun z => some (Value.int z)) (show (1 : Int32) = (if x0 < p2 then (if x1 < p2 then (if x2 < p2 then (0 : Int32) else (if p3 < y2 then (0 : Int32) else (1 : Int32))) else (if p3 < y1 then (if x2 < p2 then (0 : Int32) else (if p3 < y2 then (0 : Int32) else (1 : Int32))) else (1 : Int32))) else (if p3 < y0 then (if x1 < p2 then (if x2 < p2 then (0 : Int32) else (if p3 < y2 then (0 : Int32) else (1 : Int32))) else (if p3 < y1 then (if x2 < p2 then (0 : Int32) else (if p3 < y2 then (0 : Int32) else (1 : Int32))) else (1 : Int32))) else (1 : Int32))) from by rw [if_neg hc17, if_pos hc27, if_neg hc17_2, if_neg hc27_2])), N0, rfl⟩
    · skip
      refine OE.icmpNo X23 hx hby own_d3_27 (flt hc27).2.2.1 ?_
      refine OE.iconst X23 hx hby own_d3_30 (1 : Int32) rfl ?_
      refine OE.retN X23 hx (t := .boolean) Bd.returns (by simp) Bd.notSynchronized (hb hby own_d3_31) (by decide) (by decide) ?_
      rw [e23]
      exact ⟨(congrArg (fun z => some (Value.int z)) (show (1 : Int32) = (if x0 < p2 then (if x1 < p2 then (if x2 < p2 then (0 : Int32) else (if p3 < y2 then (0 : Int32) else (1 : Int32))) else (if p3 < y1 then (if x2 < p2 then (0 : Int32) else (if p3 < y2 then (0 : Int32) else (1 : Int32))) else (1 : Int32))) else (if p3 < y0 then (if x1 < p2 then (if x2 < p2 then (0 : Int32) else (if p3 < y2 then (0 : Int32) else (1 : Int32))) else (if p3 < y1 then (if x2 < p2 then (0 : Int32) else (if p3 < y2 then (0 : Int32) else (1 : Int32))) else (1 : Int32))) else (1 : Int32))) from by rw [if_neg hc17, if_neg hc27])), N0, rfl⟩
theorem own_and3 (x : Int32) : (x &&& (3 : Int32)) = 0 ∨ (x &&& (3 : Int32)) = 1 ∨ (x &&& (3 : Int32)) = 2 ∨ (x &&& (3 : Int32)) = 3 := by
  have hv := c_and x 3 (by decide)
  have h3 : (3 : Int32).toInt = 3 := by decide
  rw [h3] at hv
  generalize (x &&& (3 : Int32)) = v at *
  have e : ∀ k : Int32, v.toInt = k.toInt → v = k := fun k q => Int32.toInt_inj.mp q
  have q : v.toInt = 0 ∨ v.toInt = 1 ∨ v.toInt = 2 ∨ v.toInt = 3 := by omega
  rcases q with q | q | q | q
  · exact Or.inl (e 0 q)
  · exact Or.inr (Or.inl (e 1 q))
  · exact Or.inr (Or.inr (Or.inl (e 2 q)))
  · exact Or.inr (Or.inr (Or.inr (e 3 q)))
theorem own_pd2 : parseMethodDescriptor "(II)Z" = some ⟨[.int, .int], some .boolean⟩ := by decide +kernel
theorem own_pd3 : parseMethodDescriptor "(I)V" = some ⟨[.int], none⟩ := by decide +kernel
theorem own_pd4 : parseMethodDescriptor "(IIII)Z" = some ⟨[.int, .int, .int, .int], some .boolean⟩ := by decide +kernel
theorem own_pd5 : parseMethodDescriptor "(II)V" = some ⟨[.int, .int], none⟩ := by decide +kernel
def own_Q0 (Z : State) (p1 : Int32) (p2 : Int32) (p3 : Int32) (p4 : Int32) (p5 : Int32) (h0 : Heap) (n0 : Nat) (v : Option Value) (h : Heap) (L : List Loc) : Prop := v = some (.int (1 : Int32)) ∧ Fr n0 L
theorem own_ef_own_rm0 (m : MethodId) (p1 : Int32) (p2 : Int32) (p3 : Int32) (p4 : Int32) (p5 : Int32) : entryFrame m #[(.int p1), (.int p2), (.int p3), (.int p4), (.int p5)] maxLocals = mkF m 0 #[.val (.int p1), .val (.int p2), .val (.int p3), .val (.int p4), .val (.int p5), .unset, .unset, .unset, .unset, .unset, .unset, .unset, .unset, .unset, .unset, .unset] [] := by first | (simp [entryFrame, mkF, argsToLocals, Value.category, maxLocals]; done) | rfl
set_option maxRecDepth 65536 in
set_option maxHeartbeats 40000000 in
theorem own_rm0 (l : Launch) (Z : State) (a0 : Array Value) (hw : ∀ d ∈ tables_1, d.before a0 Z = true) (ws : List Jvm.Cond) (p1 : Int32) (p2 : Int32) (p3 : Int32) (p4 : Int32) (p5 : Int32) (h0 : Heap) (n0 : Nat) (Z0 : n0 ≤ h0.size) :
    MetFree l x (head1 (Jvm.Cond.code x code maxLocals ret :: ws) room_1) (fun a U => a = #[(.int p1), (.int p2), (.int p3), (.int p4), (.int p5)] ∧ Z.Warmed39 U.vm ∧ U.heap = h0) (fun _ _ _ _ _ => True) (fun _ U o U' => ∃ v L, o = .returned v ∧ own_Q0 Z p1 p2 p3 p4 p5 h0 n0 v U'.heap L ∧ FrameEnd U o U' L room_1.cells room_1.slots) := by
  refine MetFree.of_bodySF (plainFor_of_name own_pn0) hisR ?_
  intro p e s m args below meth c s₁ Bd hml0 hP hK
  obtain ⟨rfl, hZ, hh⟩ := hP
  have hx := Bd.exec
  have hby := Bd.bytes
  have hml : c.maxLocals = 16 := hml0
  have hown : s.vm.findClass "com/example/corbel/corbel/PeaksBoundPinLaw" = some m.cls := findClass_of_methodNamed Bd.named
  have hnm := (name_of_methodNamed Bd.named Bd.method).1
  have X0 : Stand p l e room_1 s m #[(.int p1), (.int p2), (.int p3), (.int p4), (.int p5)] below meth c s₁ [] 0 0 := Stand.of_body Bd
  have e0 : s₁.heap = h0 := by rw [← hh, Bd.state]; rfl
  have N0 := Fr.nil n0
  show OE FrameEnd p e below s (own_Q0 Z p1 p2 p3 p4 p5 h0 n0) room_1.cells room_1.slots s₁ (entryFrame m #[(.int p1), (.int p2), (.int p3), (.int p4), (.int p5)] maxLocals)
  rw [own_ef_own_rm0]
  show OE _ p e below s _ _ _ s₁ (mkF m 0 #[.val (.int p1), .val (.int p2), .val (.int p3), .val (.int p4), .val (.int p5), .unset, .unset, .unset, .unset, .unset, .unset, .unset, .unset, .unset, .unset, .unset] [])
  refine OE.iload X0 hx hby at_0 rfl ?_
  refine OE.iconst X0 hx hby at_2 (3 : Int32) rfl ?_
  refine OE.iand X0 hx hby at_3 ?_
  refine OE.istore X0 hx hby at_4 (l' := #[.val (.int p1), .val (.int p2), .val (.int p3), .val (.int p4), .val (.int p5), .val (.int (p5 &&& (3 : Int32))), .unset, .unset, .unset, .unset, .unset, .unset, .unset, .unset, .unset, .unset]) rfl ?_
  refine OE.iload X0 hx hby at_6 rfl ?_
  refine OE.iconst X0 hx hby at_8 (2 : Int32) rfl ?_
  refine OE.iushr X0 hx hby at_9 ?_
  refine OE.iconst X0 hx hby at_10 (3 : Int32) rfl ?_
  refine OE.iand X0 hx hby at_11 ?_
  refine OE.iconst X0 hx hby at_12 (1 : Int32) rfl ?_
  refine OE.iadd X0 hx hby at_13 ?_
  refine OE.istore X0 hx hby at_14 (l' := #[.val (.int p1), .val (.int p2), .val (.int p3), .val (.int p4), .val (.int p5), .val (.int (p5 &&& (3 : Int32))), .val (.int ((((p5.toUInt32 >>> ((2 : Int32) &&& 31).toUInt32).toInt32) &&& (3 : Int32)) + (1 : Int32))), .unset, .unset, .unset, .unset, .unset, .unset, .unset, .unset, .unset]) rfl ?_
  refine OE.iloadN X0 hx hby at_16 rfl ?_
  refine OE.sipush X0 hx hby at_17 (4095 : Int32) rfl ?_
  refine OE.iand X0 hx hby at_20 ?_
  refine OE.iconst X0 hx hby at_21 (1 : Int32) rfl ?_
  refine OE.iadd X0 hx hby at_22 ?_
  obtain ⟨f0, e_f0⟩ : ∃ z, z = ((p1 &&& (4095 : Int32)) + (1 : Int32)) := ⟨_, rfl⟩
  rw [← e_f0]
  show OE _ p e below s _ _ _ s₁ (mkF m 23 #[.val (.int p1), .val (.int p2), .val (.int p3), .val (.int p4), .val (.int p5), .val (.int (p5 &&& (3 : Int32))), .val (.int ((((p5.toUInt32 >>> ((2 : Int32) &&& 31).toUInt32).toInt32) &&& (3 : Int32)) + (1 : Int32))), .unset, .unset, .unset, .unset, .unset, .unset, .unset, .unset, .unset] [(.int f0)])
  refine OE.istore X0 hx hby at_23 (l' := #[.val (.int p1), .val (.int p2), .val (.int p3), .val (.int p4), .val (.int p5), .val (.int (p5 &&& (3 : Int32))), .val (.int ((((p5.toUInt32 >>> ((2 : Int32) &&& 31).toUInt32).toInt32) &&& (3 : Int32)) + (1 : Int32))), .val (.int f0), .unset, .unset, .unset, .unset, .unset, .unset, .unset, .unset]) rfl ?_
  refine OE.iload X0 hx hby at_25 rfl ?_
  refine OE.iloadN X0 hx hby at_27 rfl ?_
  refine OE.bipush X0 hx hby at_28 (12 : Int32) rfl ?_
  refine OE.iushr X0 hx hby at_30 ?_
  refine OE.sipush X0 hx hby at_31 (4095 : Int32) rfl ?_
  refine OE.iand X0 hx hby at_34 ?_
  refine OE.iadd X0 hx hby at_35 ?_
  refine OE.iconst X0 hx hby at_36 (1 : Int32) rfl ?_
  refine OE.iadd X0 hx hby at_37 ?_
  obtain ⟨f1, e_f1⟩ : ∃ z, z = ((f0 + (((p1.toUInt32 >>> ((12 : Int32) &&& 31).toUInt32).toInt32) &&& (4095 : Int32))) + (1 : Int32)) := ⟨_, rfl⟩
  rw [← e_f1]
  show OE _ p e below s _ _ _ s₁ (mkF m 38 #[.val (.int p1), .val (.int p2), .val (.int p3), .val (.int p4), .val (.int p5), .val (.int (p5 &&& (3 : Int32))), .val (.int ((((p5.toUInt32 >>> ((2 : Int32) &&& 31).toUInt32).toInt32) &&& (3 : Int32)) + (1 : Int32))), .val (.int f0), .unset, .unset, .unset, .unset, .unset, .unset, .unset, .unset] [(.int f1)])
  refine OE.istore X0 hx hby at_38 (l' := #[.val (.int p1), .val (.int p2), .val (.int p3), .val (.int p4), .val (.int p5), .val (.int (p5 &&& (3 : Int32))), .val (.int ((((p5.toUInt32 >>> ((2 : Int32) &&& 31).toUInt32).toInt32) &&& (3 : Int32)) + (1 : Int32))), .val (.int f0), .val (.int f1), .unset, .unset, .unset, .unset, .unset, .unset, .unset]) rfl ?_
  refine OE.iload X0 hx hby at_40 rfl ?_
  refine OE.iloadN X0 hx hby at_42 rfl ?_
  refine OE.bipush X0 hx hby at_43 (24 : Int32) rfl ?_
  refine OE.iushr X0 hx hby at_45 ?_
  refine OE.sipush X0 hx hby at_46 (255 : Int32) rfl ?_
  refine OE.iand X0 hx hby at_49 ?_
  refine OE.iadd X0 hx hby at_50 ?_
  refine OE.iconst X0 hx hby at_51 (1 : Int32) rfl ?_
  refine OE.iadd X0 hx hby at_52 ?_
  obtain ⟨f2, e_f2⟩ : ∃ z, z = ((f1 + (((p1.toUInt32 >>> ((24 : Int32) &&& 31).toUInt32).toInt32) &&& (255 : Int32))) + (1 : Int32)) := ⟨_, rfl⟩
  rw [← e_f2]
  show OE _ p e below s _ _ _ s₁ (mkF m 53 #[.val (.int p1), .val (.int p2), .val (.int p3), .val (.int p4), .val (.int p5), .val (.int (p5 &&& (3 : Int32))), .val (.int ((((p5.toUInt32 >>> ((2 : Int32) &&& 31).toUInt32).toInt32) &&& (3 : Int32)) + (1 : Int32))), .val (.int f0), .val (.int f1), .unset, .unset, .unset, .unset, .unset, .unset, .unset] [(.int f2)])
  refine OE.istore X0 hx hby at_53 (l' := #[.val (.int p1), .val (.int p2), .val (.int p3), .val (.int p4), .val (.int p5), .val (.int (p5 &&& (3 : Int32))), .val (.int ((((p5.toUInt32 >>> ((2 : Int32) &&& 31).toUInt32).toInt32) &&& (3 : Int32)) + (1 : Int32))), .val (.int f0), .val (.int f1), .val (.int f2), .unset, .unset, .unset, .unset, .unset, .unset]) rfl ?_
  refine OE.iloadN X0 hx hby at_55 rfl ?_
  refine OE.sipush X0 hx hby at_56 (4095 : Int32) rfl ?_
  refine OE.iand X0 hx hby at_59 ?_
  obtain ⟨l0, e_l0⟩ : ∃ z, z = (p2 &&& (4095 : Int32)) := ⟨_, rfl⟩
  rw [← e_l0]
  show OE _ p e below s _ _ _ s₁ (mkF m 60 #[.val (.int p1), .val (.int p2), .val (.int p3), .val (.int p4), .val (.int p5), .val (.int (p5 &&& (3 : Int32))), .val (.int ((((p5.toUInt32 >>> ((2 : Int32) &&& 31).toUInt32).toInt32) &&& (3 : Int32)) + (1 : Int32))), .val (.int f0), .val (.int f1), .val (.int f2), .unset, .unset, .unset, .unset, .unset, .unset] [(.int l0)])
  refine OE.istore X0 hx hby at_60 (l' := #[.val (.int p1), .val (.int p2), .val (.int p3), .val (.int p4), .val (.int p5), .val (.int (p5 &&& (3 : Int32))), .val (.int ((((p5.toUInt32 >>> ((2 : Int32) &&& 31).toUInt32).toInt32) &&& (3 : Int32)) + (1 : Int32))), .val (.int f0), .val (.int f1), .val (.int f2), .val (.int l0), .unset, .unset, .unset, .unset, .unset]) rfl ?_
  refine OE.iload X0 hx hby at_62 rfl ?_
  refine OE.iloadN X0 hx hby at_64 rfl ?_
  refine OE.bipush X0 hx hby at_65 (12 : Int32) rfl ?_
  refine OE.iushr X0 hx hby at_67 ?_
  refine OE.sipush X0 hx hby at_68 (4095 : Int32) rfl ?_
  refine OE.iand X0 hx hby at_71 ?_
  refine OE.iadd X0 hx hby at_72 ?_
  refine OE.iconst X0 hx hby at_73 (1 : Int32) rfl ?_
  refine OE.iadd X0 hx hby at_74 ?_
  obtain ⟨l1, e_l1⟩ : ∃ z, z = ((l0 + (((p2.toUInt32 >>> ((12 : Int32) &&& 31).toUInt32).toInt32) &&& (4095 : Int32))) + (1 : Int32)) := ⟨_, rfl⟩
  rw [← e_l1]
  show OE _ p e below s _ _ _ s₁ (mkF m 75 #[.val (.int p1), .val (.int p2), .val (.int p3), .val (.int p4), .val (.int p5), .val (.int (p5 &&& (3 : Int32))), .val (.int ((((p5.toUInt32 >>> ((2 : Int32) &&& 31).toUInt32).toInt32) &&& (3 : Int32)) + (1 : Int32))), .val (.int f0), .val (.int f1), .val (.int f2), .val (.int l0), .unset, .unset, .unset, .unset, .unset] [(.int l1)])
  refine OE.istore X0 hx hby at_75 (l' := #[.val (.int p1), .val (.int p2), .val (.int p3), .val (.int p4), .val (.int p5), .val (.int (p5 &&& (3 : Int32))), .val (.int ((((p5.toUInt32 >>> ((2 : Int32) &&& 31).toUInt32).toInt32) &&& (3 : Int32)) + (1 : Int32))), .val (.int f0), .val (.int f1), .val (.int f2), .val (.int l0), .val (.int l1), .unset, .unset, .unset, .unset]) rfl ?_
  refine OE.iload X0 hx hby at_77 rfl ?_
  refine OE.iloadN X0 hx hby at_79 rfl ?_
  refine OE.bipush X0 hx hby at_80 (24 : Int32) rfl ?_
  refine OE.iushr X0 hx hby at_82 ?_
  refine OE.sipush X0 hx hby at_83 (255 : Int32) rfl ?_
  refine OE.iand X0 hx hby at_86 ?_
  refine OE.iadd X0 hx hby at_87 ?_
  refine OE.iconst X0 hx hby at_88 (1 : Int32) rfl ?_
  refine OE.iadd X0 hx hby at_89 ?_
  obtain ⟨l2, e_l2⟩ : ∃ z, z = ((l1 + (((p2.toUInt32 >>> ((24 : Int32) &&& 31).toUInt32).toInt32) &&& (255 : Int32))) + (1 : Int32)) := ⟨_, rfl⟩
  rw [← e_l2]
  show OE _ p e below s _ _ _ s₁ (mkF m 90 #[.val (.int p1), .val (.int p2), .val (.int p3), .val (.int p4), .val (.int p5), .val (.int (p5 &&& (3 : Int32))), .val (.int ((((p5.toUInt32 >>> ((2 : Int32) &&& 31).toUInt32).toInt32) &&& (3 : Int32)) + (1 : Int32))), .val (.int f0), .val (.int f1), .val (.int f2), .val (.int l0), .val (.int l1), .unset, .unset, .unset, .unset] [(.int l2)])
  refine OE.istore X0 hx hby at_90 (l' := #[.val (.int p1), .val (.int p2), .val (.int p3), .val (.int p4), .val (.int p5), .val (.int (p5 &&& (3 : Int32))), .val (.int ((((p5.toUInt32 >>> ((2 : Int32) &&& 31).toUInt32).toInt32) &&& (3 : Int32)) + (1 : Int32))), .val (.int f0), .val (.int f1), .val (.int f2), .val (.int l0), .val (.int l1), .val (.int l2), .unset, .unset, .unset]) rfl ?_
  rcases own_and3 p5 with hn | hn | hn | hn
  · rw [hn]
    show OE _ p e below s _ _ _ s₁ (mkF m 92 #[.val (.int p1), .val (.int p2), .val (.int p3), .val (.int p4), .val (.int p5), .val (.int (0 : Int32)), .val (.int ((((p5.toUInt32 >>> ((2 : Int32) &&& 31).toUInt32).toInt32) &&& (3 : Int32)) + (1 : Int32))), .val (.int f0), .val (.int f1), .val (.int f2), .val (.int l0), .val (.int l1), .val (.int l2), .unset, .unset, .unset] [])
    have own_tail0 : ∀ (rm : Int32) (b : Addr) (f : Addr) (g : Addr) (kf : ClassId) (kg : ClassId) (cap : Int32) (tF : List Value) (tG : List Value) (T1 : State) (H1 : Heap) (locs1 : List Loc) (cells1 : Nat) (slots1 : Nat), Stand p l e room_1 s m #[(.int p1), (.int p2), (.int p3), (.int p4), (.int p5)] below meth c T1 locs1 cells1 slots1 → T1.heap = H1 → Fr n0 locs1 → cells1 ≤ 24 → slots1 ≤ 128 → n0 ≤ H1.size → Keep h0 H1 [] → Exa Z H1 b "com/example/corbel/corbel/Peaks" → Fld Z H1 b "com/example/corbel/corbel/Peaks" "count" "I" (.int (0 : Int32)) → Fld Z H1 b "com/example/corbel/corbel/Peaks" "frequencies" "[I" (.ref f) → Fld Z H1 b "com/example/corbel/corbel/Peaks" "lengths" "[I" (.ref g) → Arv Z H1 f kf .int cap (tF) (.int (0 : Int32)) → Arv Z H1 g kg .int cap (tG) (.int (0 : Int32)) → OE FrameEnd p e below s (own_Q0 Z p1 p2 p3 p4 p5 h0 n0) room_1.cells room_1.slots T1 (mkF m 148 #[.val (.int p1), .val (.int p2), .val (.int p3), .val (.int p4), .val (.int p5), .val (.int (0 : Int32)), .val (.int rm), .val (.int f0), .val (.int f1), .val (.int f2), .val (.int l0), .val (.int l1), .val (.int l2), .val (.ref b), .unset, .unset] []) := by
      intro rm b f g kf kg cap tF tG T1 H1 locs1 cells1 slots1 X1 e1 N1 hcl1 hsl1 z1 K1 tE tC tf tg tVf tVg
      show OE _ p e below s _ _ _ T1 (mkF m 148 #[.val (.int p1), .val (.int p2), .val (.int p3), .val (.int p4), .val (.int p5), .val (.int (0 : Int32)), .val (.int rm), .val (.int f0), .val (.int f1), .val (.int f2), .val (.int l0), .val (.int l1), .val (.int l2), .val (.ref b), .unset, .unset] [])
      refine OE.aload X1 hx hby at_148 rfl rfl ?_
      refine OE.iloadN X1 hx hby at_150 rfl ?_
      refine OE.iloadN X1 hx hby at_151 rfl ?_
      obtain ⟨cq2, kq2, qa2, qb2, qc2⟩ := isOf hZ e1 tE
      obtain ⟨_, _, ⟨T2, L2, k2, n2⟩, -, X2, ⟨Lc2, hQ2, l2, y2, z2⟩, st2⟩ := X1.virtualBack hx (y := (⟨"com/example/corbel/corbel/Peaks", "bound", "(II)Z"⟩ : MethodName)) (z := (⟨"com/example/corbel/corbel/Peaks", "bound", "(II)Z"⟩ : MethodName)) hown (mvT hZ (hw _ (List.mem_of_getElem? (i := 14) rfl))) (mvT hZ (hw _ (List.mem_of_getElem? (i := 15) rfl))) (notFace_of_selects (args := #[]) (mvT hZ (hw _ (List.mem_of_getElem? (i := 17) rfl)))) (mvT hZ (hw _ (List.mem_of_getElem? (i := 17) rfl))) (mvT hZ (hw _ (List.mem_of_getElem? (i := 16) rfl))) (by decide) (backOf (W := 0) (own_rm3_0 l Z a0 hw [] b p3 p4 tF tG cap f g kf kg H1 n0 z1 tC tf tg tVf tVg) hZ (hw _ (List.mem_of_getElem? (i := 18) rfl)) (hw _ (List.mem_of_getElem? (i := 2) rfl)) (by decide) (by decide)) qa2 qc2 (g := (mkF m 152 #[.val (.int p1), .val (.int p2), .val (.int p3), .val (.int p4), .val (.int p5), .val (.int (0 : Int32)), .val (.int rm), .val (.int f0), .val (.int f1), .val (.int f2), .val (.int l0), .val (.int l1), .val (.int l2), .val (.ref b), .unset, .unset] [(.int p4), (.int p3), (.ref b)])) rfl (by rw [hml]; rfl) (Steps.refl _) (argsL := [(.int p3), (.int p4)]) (rest := []) (lenOf own_pd2 rfl) rfl (by show 2 * 0 + _ ≤ _; exact Nat.le_of_eq rfl) (hb hby at_152) (fun _ _ => ⟨rfl, e1, (Nat.le_trans (Nat.add_le_add_right hcl1 0) (by decide)), (Nat.le_trans (Nat.add_le_add_right hsl1 0) (by decide))⟩)
      dsimp only [Pt.U, Pt.locs, Pt.cells, Pt.slots] at X2 l2 y2 z2 st2 hQ2
      subst l2 y2 z2
      obtain ⟨rfl, Nq2, eq2⟩ := hQ2
      refine OE.of (fun _ k => st2.trans k) ?_
      have N2 := Fr.app N1 Nq2
      show OE _ p e below s _ _ _ T2 (mkF m 155 #[.val (.int p1), .val (.int p2), .val (.int p3), .val (.int p4), .val (.int p5), .val (.int (0 : Int32)), .val (.int rm), .val (.int f0), .val (.int f1), .val (.int f2), .val (.int l0), .val (.int l1), .val (.int l2), .val (.ref b), .unset, .unset] [(.int (0 : Int32))])
      refine OE.istore X2 hx hby at_155 (l' := #[.val (.int p1), .val (.int p2), .val (.int p3), .val (.int p4), .val (.int p5), .val (.int (0 : Int32)), .val (.int rm), .val (.int f0), .val (.int f1), .val (.int f2), .val (.int l0), .val (.int l1), .val (.int l2), .val (.ref b), .val (.int (0 : Int32)), .unset]) rfl ?_
      refine OE.iload X2 hx hby at_157 rfl ?_
      refine OE.iconst X2 hx hby at_159 (1 : Int32) rfl ?_
      refine OE.icmpYes X2 hx hby (pc' := 175) at_160 (tlt (by decide : (0 : Int32) < (1 : Int32))).1 (h := ?_)
      refine OE.iload X2 hx hby at_175 rfl ?_
      refine OE.iconst X2 hx hby at_177 (2 : Int32) rfl ?_
      refine OE.icmpYes X2 hx hby (pc' := 193) at_178 (tlt (by decide : (0 : Int32) < (2 : Int32))).1 (h := ?_)
      refine OE.iload X2 hx hby at_193 rfl ?_
      refine OE.iconst X2 hx hby at_195 (3 : Int32) rfl ?_
      refine OE.icmpYes X2 hx hby (pc' := 215) at_196 (tlt (by decide : (0 : Int32) < (3 : Int32))).1 (h := ?_)
      refine OE.iconst X2 hx hby at_215 (0 : Int32) rfl ?_
      refine OE.istore X2 hx hby at_216 (l' := #[.val (.int p1), .val (.int p2), .val (.int p3), .val (.int p4), .val (.int p5), .val (.int (0 : Int32)), .val (.int rm), .val (.int f0), .val (.int f1), .val (.int f2), .val (.int l0), .val (.int l1), .val (.int l2), .val (.ref b), .val (.int (0 : Int32)), .val (.int (0 : Int32))]) rfl ?_
      refine OE.iload X2 hx hby at_218 rfl ?_
      refine OE.iload X2 hx hby at_220 rfl ?_
      refine OE.icmpNo X2 hx hby at_222 (teq (by decide : (0 : Int32) = (0 : Int32))).2 ?_
      refine OE.iconst X2 hx hby at_225 (1 : Int32) rfl ?_
      refine OE.goto X2 hx hby (pc' := 230) at_226 (h := ?_)
      refine OE.retN X2 hx (t := .boolean) Bd.returns (by simp) Bd.notSynchronized (hb hby at_230) (Nat.le_trans (Nat.add_le_add_right hcl1 0) (by decide)) (Nat.le_trans (Nat.add_le_add_right hsl1 0) (by decide)) ?_
      rw [eq2]
      exact ⟨rfl, N2⟩
    rcases own_and3 ((p5.toUInt32 >>> ((2 : Int32) &&& 31).toUInt32).toInt32) with hr | hr | hr | hr
    · rw [hr, (by decide : ((0 : Int32) + (1 : Int32)) = (1 : Int32))]
      show OE _ p e below s _ _ _ s₁ (mkF m 92 #[.val (.int p1), .val (.int p2), .val (.int p3), .val (.int p4), .val (.int p5), .val (.int (0 : Int32)), .val (.int (1 : Int32)), .val (.int f0), .val (.int f1), .val (.int f2), .val (.int l0), .val (.int l1), .val (.int l2), .unset, .unset, .unset] [])
      obtain ⟨T3, h3, X3, e3, E3, A3, D3, -, st3⟩ := newO X0 hx hZ hown (hw _ (List.mem_of_getElem? (i := 0) rfl)) (hw _ (List.mem_of_getElem? (i := 1) rfl)) (hw _ (List.mem_of_getElem? (i := 2) rfl)) e0 (g := (mkF m 92 #[.val (.int p1), .val (.int p2), .val (.int p3), .val (.int p4), .val (.int p5), .val (.int (0 : Int32)), .val (.int (1 : Int32)), .val (.int f0), .val (.int f1), .val (.int f2), .val (.int l0), .val (.int l1), .val (.int l2), .unset, .unset, .unset] [])) rfl (hb hby at_92) (by decide) (by decide)
      refine OE.of st3 ?_
      obtain ⟨b3, g3⟩ : ∃ z, z = h0.size := ⟨_, rfl⟩
      rw [← g3] at A3 D3 ⊢
      have g_b3 : n0 ≤ b3 := Nat.le_trans Z0 (Nat.le_of_eq g3.symm)
      have sz_b3 : h0.size ≤ b3 := Nat.le_trans (Keep.refl h0 []).1 (Nat.le_of_eq g3.symm)
      have F3_frequencies : Fld Z h3 b3 "com/example/corbel/corbel/Peaks" "frequencies" "[I" .null := D3 (Or.inl (hw _ (List.mem_of_getElem? (i := 11) rfl))) (ty := (.array .int)) (by decide)
      have F3_lengths : Fld Z h3 b3 "com/example/corbel/corbel/Peaks" "lengths" "[I" .null := D3 (Or.inl (hw _ (List.mem_of_getElem? (i := 13) rfl))) (ty := (.array .int)) (by decide)
      have F3_count : Fld Z h3 b3 "com/example/corbel/corbel/Peaks" "count" "I" (.int (0 : Int32)) := D3 (Or.inl (hw _ (List.mem_of_getElem? (i := 20) rfl))) (ty := .int) (by decide)
      show OE _ p e below s _ _ _ T3 (mkF m 95 #[.val (.int p1), .val (.int p2), .val (.int p3), .val (.int p4), .val (.int p5), .val (.int (0 : Int32)), .val (.int (1 : Int32)), .val (.int f0), .val (.int f1), .val (.int f2), .val (.int l0), .val (.int l1), .val (.int l2), .unset, .unset, .unset] [(.ref b3)])
      refine OE.dup X3 hx hby at_95 rfl ?_
      refine OE.iload X3 hx hby at_96 rfl ?_
      have z4 : n0 ≤ h3.size := (Nat.le_trans Z0 E3.1)
      obtain ⟨_, _, ⟨T5, L5, k5, n5⟩, -, X5, ⟨Lc5, hQ5, l5, y5, z5⟩, st5⟩ := X3.specialBack hx (y := (⟨"com/example/corbel/corbel/Peaks", "<init>", "(I)V"⟩ : MethodName)) rfl hown (mvT hZ (hw _ (List.mem_of_getElem? (i := 3) rfl))) (mvT hZ (hw _ (List.mem_of_getElem? (i := 4) rfl))) (mvT hZ (hw _ (List.mem_of_getElem? (i := 5) rfl))) (by decide) (backOf (W := 1) (own_rm1 l Z a0 hw [] b3 (1 : Int32) h3 n0 z4 A3 F3_frequencies F3_lengths F3_count g_b3 (by decide) (by decide)) hZ (hw _ (List.mem_of_getElem? (i := 5) rfl)) (hw _ (List.mem_of_getElem? (i := 2) rfl)) (by decide) (by decide)) (g := (mkF m 98 #[.val (.int p1), .val (.int p2), .val (.int p3), .val (.int p4), .val (.int p5), .val (.int (0 : Int32)), .val (.int (1 : Int32)), .val (.int f0), .val (.int f1), .val (.int f2), .val (.int l0), .val (.int l1), .val (.int l2), .unset, .unset, .unset] [(.int (1 : Int32)), (.ref b3), (.ref b3)])) rfl (by rw [hml]; rfl) (Steps.refl _) (a := b3) (argsL := [(.int (1 : Int32))]) (rest := [(.ref b3)]) (lenOf own_pd3 rfl) rfl (by show 2 * 0 + _ ≤ _; exact Nat.le_of_eq rfl) (hb hby at_98) (fun _ _ => ⟨rfl, e3, (by decide : 1 + 2 ≤ _), (by decide : 3 + 8 ≤ _)⟩)
      dsimp only [Pt.U, Pt.locs, Pt.cells, Pt.slots] at X5 l5 y5 z5 st5 hQ5
      subst l5 y5 z5
      obtain ⟨r5_f, r5_g, r5_kf, r5_kg, rfl, Nq5, K5, q5_0, q5_1, q5_2, q5_3, q5_4, q5_5, h5_sf, h5_sg, h5_nfg⟩ := hQ5
      refine OE.of (fun _ k => st5.trans k) ?_
      have N5 := Fr.app N0 Nq5
      have ne_b3_r5_f : b3 ≠ r5_f := Nat.ne_of_lt (Nat.lt_of_lt_of_le A3.lt h5_sf)
      have g_r5_f : n0 ≤ r5_f := Nat.le_trans z4 h5_sf
      have K6 : Keep h0 h3 [] := (Keep.ext (Keep.refl h0 []) E3)
      have sz_r5_f : h0.size ≤ r5_f := Nat.le_trans K6.1 h5_sf
      have ne_b3_r5_g : b3 ≠ r5_g := Nat.ne_of_lt (Nat.lt_of_lt_of_le A3.lt h5_sg)
      have g_r5_g : n0 ≤ r5_g := Nat.le_trans z4 h5_sg
      have sz_r5_g : h0.size ≤ r5_g := Nat.le_trans K6.1 h5_sg
      show OE _ p e below s _ _ _ T5 (mkF m 101 #[.val (.int p1), .val (.int p2), .val (.int p3), .val (.int p4), .val (.int p5), .val (.int (0 : Int32)), .val (.int (1 : Int32)), .val (.int f0), .val (.int f1), .val (.int f2), .val (.int l0), .val (.int l1), .val (.int l2), .unset, .unset, .unset] [(.ref b3)])
      have R7 : Arv Z T5.heap r5_f r5_kf .int (1 : Int32) [(.int (0 : Int32)), (.int (0 : Int32)), (.int (0 : Int32)), (.int (0 : Int32))] (.int (0 : Int32)) := q5_4
      have R8 : Arv Z T5.heap r5_g r5_kg .int (1 : Int32) [(.int (0 : Int32)), (.int (0 : Int32)), (.int (0 : Int32)), (.int (0 : Int32))] (.int (0 : Int32)) := q5_5
      refine OE.astore X5 hx hby at_101 rfl (l' := #[.val (.int p1), .val (.int p2), .val (.int p3), .val (.int p4), .val (.int p5), .val (.int (0 : Int32)), .val (.int (1 : Int32)), .val (.int f0), .val (.int f1), .val (.int f2), .val (.int l0), .val (.int l1), .val (.int l2), .val (.ref b3), .unset, .unset]) rfl ?_
      refine OE.iload X5 hx hby at_103 rfl ?_
      refine OE.iconst X5 hx hby at_105 (1 : Int32) rfl ?_
      refine OE.icmpYes X5 hx hby (pc' := 118) at_106 (tlt (by decide : (0 : Int32) < (1 : Int32))).1 (h := ?_)
      refine OE.iload X5 hx hby at_118 rfl ?_
      refine OE.iconst X5 hx hby at_120 (2 : Int32) rfl ?_
      refine OE.icmpYes X5 hx hby (pc' := 133) at_121 (tlt (by decide : (0 : Int32) < (2 : Int32))).1 (h := ?_)
      refine OE.iload X5 hx hby at_133 rfl ?_
      refine OE.iconst X5 hx hby at_135 (3 : Int32) rfl ?_
      refine OE.icmpYes X5 hx hby (pc' := 148) at_136 (tlt (by decide : (0 : Int32) < (3 : Int32))).1 (h := ?_)
      have z9 : n0 ≤ T5.heap.size := (Nat.le_trans z4 K5.1)
      have K10 : Keep h0 T5.heap [] := (Keep.trans K6 K5 (allS (Or.inr sz_b3) all0))
      exact own_tail0 (1 : Int32) b3 r5_f r5_g r5_kf r5_kg (1 : Int32) [(.int (0 : Int32)), (.int (0 : Int32)), (.int (0 : Int32)), (.int (0 : Int32))] [(.int (0 : Int32)), (.int (0 : Int32)), (.int (0 : Int32)), (.int (0 : Int32))] _ _ _ _ _ X5 rfl N5 (by decide) (by decide) z9 K10 q5_0 q5_3 q5_1 q5_2 R7 R8
    · rw [hr, (by decide : ((1 : Int32) + (1 : Int32)) = (2 : Int32))]
      show OE _ p e below s _ _ _ s₁ (mkF m 92 #[.val (.int p1), .val (.int p2), .val (.int p3), .val (.int p4), .val (.int p5), .val (.int (0 : Int32)), .val (.int (2 : Int32)), .val (.int f0), .val (.int f1), .val (.int f2), .val (.int l0), .val (.int l1), .val (.int l2), .unset, .unset, .unset] [])
      obtain ⟨T11, h11, X11, e11, E11, A11, D11, -, st11⟩ := newO X0 hx hZ hown (hw _ (List.mem_of_getElem? (i := 0) rfl)) (hw _ (List.mem_of_getElem? (i := 1) rfl)) (hw _ (List.mem_of_getElem? (i := 2) rfl)) e0 (g := (mkF m 92 #[.val (.int p1), .val (.int p2), .val (.int p3), .val (.int p4), .val (.int p5), .val (.int (0 : Int32)), .val (.int (2 : Int32)), .val (.int f0), .val (.int f1), .val (.int f2), .val (.int l0), .val (.int l1), .val (.int l2), .unset, .unset, .unset] [])) rfl (hb hby at_92) (by decide) (by decide)
      refine OE.of st11 ?_
      obtain ⟨b11, g11⟩ : ∃ z, z = h0.size := ⟨_, rfl⟩
      rw [← g11] at A11 D11 ⊢
      have g_b11 : n0 ≤ b11 := Nat.le_trans Z0 (Nat.le_of_eq g11.symm)
      have sz_b11 : h0.size ≤ b11 := Nat.le_trans (Keep.refl h0 []).1 (Nat.le_of_eq g11.symm)
      have F11_frequencies : Fld Z h11 b11 "com/example/corbel/corbel/Peaks" "frequencies" "[I" .null := D11 (Or.inl (hw _ (List.mem_of_getElem? (i := 11) rfl))) (ty := (.array .int)) (by decide)
      have F11_lengths : Fld Z h11 b11 "com/example/corbel/corbel/Peaks" "lengths" "[I" .null := D11 (Or.inl (hw _ (List.mem_of_getElem? (i := 13) rfl))) (ty := (.array .int)) (by decide)
      have F11_count : Fld Z h11 b11 "com/example/corbel/corbel/Peaks" "count" "I" (.int (0 : Int32)) := D11 (Or.inl (hw _ (List.mem_of_getElem? (i := 20) rfl))) (ty := .int) (by decide)
      show OE _ p e below s _ _ _ T11 (mkF m 95 #[.val (.int p1), .val (.int p2), .val (.int p3), .val (.int p4), .val (.int p5), .val (.int (0 : Int32)), .val (.int (2 : Int32)), .val (.int f0), .val (.int f1), .val (.int f2), .val (.int l0), .val (.int l1), .val (.int l2), .unset, .unset, .unset] [(.ref b11)])
      refine OE.dup X11 hx hby at_95 rfl ?_
      refine OE.iload X11 hx hby at_96 rfl ?_
      have z12 : n0 ≤ h11.size := (Nat.le_trans Z0 E11.1)
      obtain ⟨_, _, ⟨T13, L13, k13, n13⟩, -, X13, ⟨Lc13, hQ13, l13, y13, z13⟩, st13⟩ := X11.specialBack hx (y := (⟨"com/example/corbel/corbel/Peaks", "<init>", "(I)V"⟩ : MethodName)) rfl hown (mvT hZ (hw _ (List.mem_of_getElem? (i := 3) rfl))) (mvT hZ (hw _ (List.mem_of_getElem? (i := 4) rfl))) (mvT hZ (hw _ (List.mem_of_getElem? (i := 5) rfl))) (by decide) (backOf (W := 1) (own_rm1 l Z a0 hw [] b11 (2 : Int32) h11 n0 z12 A11 F11_frequencies F11_lengths F11_count g_b11 (by decide) (by decide)) hZ (hw _ (List.mem_of_getElem? (i := 5) rfl)) (hw _ (List.mem_of_getElem? (i := 2) rfl)) (by decide) (by decide)) (g := (mkF m 98 #[.val (.int p1), .val (.int p2), .val (.int p3), .val (.int p4), .val (.int p5), .val (.int (0 : Int32)), .val (.int (2 : Int32)), .val (.int f0), .val (.int f1), .val (.int f2), .val (.int l0), .val (.int l1), .val (.int l2), .unset, .unset, .unset] [(.int (2 : Int32)), (.ref b11), (.ref b11)])) rfl (by rw [hml]; rfl) (Steps.refl _) (a := b11) (argsL := [(.int (2 : Int32))]) (rest := [(.ref b11)]) (lenOf own_pd3 rfl) rfl (by show 2 * 0 + _ ≤ _; exact Nat.le_of_eq rfl) (hb hby at_98) (fun _ _ => ⟨rfl, e11, (by decide : 1 + 2 ≤ _), (by decide : 3 + 8 ≤ _)⟩)
      dsimp only [Pt.U, Pt.locs, Pt.cells, Pt.slots] at X13 l13 y13 z13 st13 hQ13
      subst l13 y13 z13
      obtain ⟨r13_f, r13_g, r13_kf, r13_kg, rfl, Nq13, K13, q13_0, q13_1, q13_2, q13_3, q13_4, q13_5, h13_sf, h13_sg, h13_nfg⟩ := hQ13
      refine OE.of (fun _ k => st13.trans k) ?_
      have N13 := Fr.app N0 Nq13
      have ne_b11_r13_f : b11 ≠ r13_f := Nat.ne_of_lt (Nat.lt_of_lt_of_le A11.lt h13_sf)
      have g_r13_f : n0 ≤ r13_f := Nat.le_trans z12 h13_sf
      have K14 : Keep h0 h11 [] := (Keep.ext (Keep.refl h0 []) E11)
      have sz_r13_f : h0.size ≤ r13_f := Nat.le_trans K14.1 h13_sf
      have ne_b11_r13_g : b11 ≠ r13_g := Nat.ne_of_lt (Nat.lt_of_lt_of_le A11.lt h13_sg)
      have g_r13_g : n0 ≤ r13_g := Nat.le_trans z12 h13_sg
      have sz_r13_g : h0.size ≤ r13_g := Nat.le_trans K14.1 h13_sg
      show OE _ p e below s _ _ _ T13 (mkF m 101 #[.val (.int p1), .val (.int p2), .val (.int p3), .val (.int p4), .val (.int p5), .val (.int (0 : Int32)), .val (.int (2 : Int32)), .val (.int f0), .val (.int f1), .val (.int f2), .val (.int l0), .val (.int l1), .val (.int l2), .unset, .unset, .unset] [(.ref b11)])
      have R15 : Arv Z T13.heap r13_f r13_kf .int (2 : Int32) [(.int (0 : Int32)), (.int (0 : Int32)), (.int (0 : Int32)), (.int (0 : Int32))] (.int (0 : Int32)) := q13_4
      have R16 : Arv Z T13.heap r13_g r13_kg .int (2 : Int32) [(.int (0 : Int32)), (.int (0 : Int32)), (.int (0 : Int32)), (.int (0 : Int32))] (.int (0 : Int32)) := q13_5
      refine OE.astore X13 hx hby at_101 rfl (l' := #[.val (.int p1), .val (.int p2), .val (.int p3), .val (.int p4), .val (.int p5), .val (.int (0 : Int32)), .val (.int (2 : Int32)), .val (.int f0), .val (.int f1), .val (.int f2), .val (.int l0), .val (.int l1), .val (.int l2), .val (.ref b11), .unset, .unset]) rfl ?_
      refine OE.iload X13 hx hby at_103 rfl ?_
      refine OE.iconst X13 hx hby at_105 (1 : Int32) rfl ?_
      refine OE.icmpYes X13 hx hby (pc' := 118) at_106 (tlt (by decide : (0 : Int32) < (1 : Int32))).1 (h := ?_)
      refine OE.iload X13 hx hby at_118 rfl ?_
      refine OE.iconst X13 hx hby at_120 (2 : Int32) rfl ?_
      refine OE.icmpYes X13 hx hby (pc' := 133) at_121 (tlt (by decide : (0 : Int32) < (2 : Int32))).1 (h := ?_)
      refine OE.iload X13 hx hby at_133 rfl ?_
      refine OE.iconst X13 hx hby at_135 (3 : Int32) rfl ?_
      refine OE.icmpYes X13 hx hby (pc' := 148) at_136 (tlt (by decide : (0 : Int32) < (3 : Int32))).1 (h := ?_)
      have z17 : n0 ≤ T13.heap.size := (Nat.le_trans z12 K13.1)
      have K18 : Keep h0 T13.heap [] := (Keep.trans K14 K13 (allS (Or.inr sz_b11) all0))
      exact own_tail0 (2 : Int32) b11 r13_f r13_g r13_kf r13_kg (2 : Int32) [(.int (0 : Int32)), (.int (0 : Int32)), (.int (0 : Int32)), (.int (0 : Int32))] [(.int (0 : Int32)), (.int (0 : Int32)), (.int (0 : Int32)), (.int (0 : Int32))] _ _ _ _ _ X13 rfl N13 (by decide) (by decide) z17 K18 q13_0 q13_3 q13_1 q13_2 R15 R16
    · rw [hr, (by decide : ((2 : Int32) + (1 : Int32)) = (3 : Int32))]
      show OE _ p e below s _ _ _ s₁ (mkF m 92 #[.val (.int p1), .val (.int p2), .val (.int p3), .val (.int p4), .val (.int p5), .val (.int (0 : Int32)), .val (.int (3 : Int32)), .val (.int f0), .val (.int f1), .val (.int f2), .val (.int l0), .val (.int l1), .val (.int l2), .unset, .unset, .unset] [])
      obtain ⟨T19, h19, X19, e19, E19, A19, D19, -, st19⟩ := newO X0 hx hZ hown (hw _ (List.mem_of_getElem? (i := 0) rfl)) (hw _ (List.mem_of_getElem? (i := 1) rfl)) (hw _ (List.mem_of_getElem? (i := 2) rfl)) e0 (g := (mkF m 92 #[.val (.int p1), .val (.int p2), .val (.int p3), .val (.int p4), .val (.int p5), .val (.int (0 : Int32)), .val (.int (3 : Int32)), .val (.int f0), .val (.int f1), .val (.int f2), .val (.int l0), .val (.int l1), .val (.int l2), .unset, .unset, .unset] [])) rfl (hb hby at_92) (by decide) (by decide)
      refine OE.of st19 ?_
      obtain ⟨b19, g19⟩ : ∃ z, z = h0.size := ⟨_, rfl⟩
      rw [← g19] at A19 D19 ⊢
      have g_b19 : n0 ≤ b19 := Nat.le_trans Z0 (Nat.le_of_eq g19.symm)
      have sz_b19 : h0.size ≤ b19 := Nat.le_trans (Keep.refl h0 []).1 (Nat.le_of_eq g19.symm)
      have F19_frequencies : Fld Z h19 b19 "com/example/corbel/corbel/Peaks" "frequencies" "[I" .null := D19 (Or.inl (hw _ (List.mem_of_getElem? (i := 11) rfl))) (ty := (.array .int)) (by decide)
      have F19_lengths : Fld Z h19 b19 "com/example/corbel/corbel/Peaks" "lengths" "[I" .null := D19 (Or.inl (hw _ (List.mem_of_getElem? (i := 13) rfl))) (ty := (.array .int)) (by decide)
      have F19_count : Fld Z h19 b19 "com/example/corbel/corbel/Peaks" "count" "I" (.int (0 : Int32)) := D19 (Or.inl (hw _ (List.mem_of_getElem? (i := 20) rfl))) (ty := .int) (by decide)
      show OE _ p e below s _ _ _ T19 (mkF m 95 #[.val (.int p1), .val (.int p2), .val (.int p3), .val (.int p4), .val (.int p5), .val (.int (0 : Int32)), .val (.int (3 : Int32)), .val (.int f0), .val (.int f1), .val (.int f2), .val (.int l0), .val (.int l1), .val (.int l2), .unset, .unset, .unset] [(.ref b19)])
      refine OE.dup X19 hx hby at_95 rfl ?_
      refine OE.iload X19 hx hby at_96 rfl ?_
      have z20 : n0 ≤ h19.size := (Nat.le_trans Z0 E19.1)
      obtain ⟨_, _, ⟨T21, L21, k21, n21⟩, -, X21, ⟨Lc21, hQ21, l21, y21, z21⟩, st21⟩ := X19.specialBack hx (y := (⟨"com/example/corbel/corbel/Peaks", "<init>", "(I)V"⟩ : MethodName)) rfl hown (mvT hZ (hw _ (List.mem_of_getElem? (i := 3) rfl))) (mvT hZ (hw _ (List.mem_of_getElem? (i := 4) rfl))) (mvT hZ (hw _ (List.mem_of_getElem? (i := 5) rfl))) (by decide) (backOf (W := 1) (own_rm1 l Z a0 hw [] b19 (3 : Int32) h19 n0 z20 A19 F19_frequencies F19_lengths F19_count g_b19 (by decide) (by decide)) hZ (hw _ (List.mem_of_getElem? (i := 5) rfl)) (hw _ (List.mem_of_getElem? (i := 2) rfl)) (by decide) (by decide)) (g := (mkF m 98 #[.val (.int p1), .val (.int p2), .val (.int p3), .val (.int p4), .val (.int p5), .val (.int (0 : Int32)), .val (.int (3 : Int32)), .val (.int f0), .val (.int f1), .val (.int f2), .val (.int l0), .val (.int l1), .val (.int l2), .unset, .unset, .unset] [(.int (3 : Int32)), (.ref b19), (.ref b19)])) rfl (by rw [hml]; rfl) (Steps.refl _) (a := b19) (argsL := [(.int (3 : Int32))]) (rest := [(.ref b19)]) (lenOf own_pd3 rfl) rfl (by show 2 * 0 + _ ≤ _; exact Nat.le_of_eq rfl) (hb hby at_98) (fun _ _ => ⟨rfl, e19, (by decide : 1 + 2 ≤ _), (by decide : 3 + 8 ≤ _)⟩)
      dsimp only [Pt.U, Pt.locs, Pt.cells, Pt.slots] at X21 l21 y21 z21 st21 hQ21
      subst l21 y21 z21
      obtain ⟨r21_f, r21_g, r21_kf, r21_kg, rfl, Nq21, K21, q21_0, q21_1, q21_2, q21_3, q21_4, q21_5, h21_sf, h21_sg, h21_nfg⟩ := hQ21
      refine OE.of (fun _ k => st21.trans k) ?_
      have N21 := Fr.app N0 Nq21
      have ne_b19_r21_f : b19 ≠ r21_f := Nat.ne_of_lt (Nat.lt_of_lt_of_le A19.lt h21_sf)
      have g_r21_f : n0 ≤ r21_f := Nat.le_trans z20 h21_sf
      have K22 : Keep h0 h19 [] := (Keep.ext (Keep.refl h0 []) E19)
      have sz_r21_f : h0.size ≤ r21_f := Nat.le_trans K22.1 h21_sf
      have ne_b19_r21_g : b19 ≠ r21_g := Nat.ne_of_lt (Nat.lt_of_lt_of_le A19.lt h21_sg)
      have g_r21_g : n0 ≤ r21_g := Nat.le_trans z20 h21_sg
      have sz_r21_g : h0.size ≤ r21_g := Nat.le_trans K22.1 h21_sg
      show OE _ p e below s _ _ _ T21 (mkF m 101 #[.val (.int p1), .val (.int p2), .val (.int p3), .val (.int p4), .val (.int p5), .val (.int (0 : Int32)), .val (.int (3 : Int32)), .val (.int f0), .val (.int f1), .val (.int f2), .val (.int l0), .val (.int l1), .val (.int l2), .unset, .unset, .unset] [(.ref b19)])
      have R23 : Arv Z T21.heap r21_f r21_kf .int (3 : Int32) [(.int (0 : Int32)), (.int (0 : Int32)), (.int (0 : Int32)), (.int (0 : Int32))] (.int (0 : Int32)) := q21_4
      have R24 : Arv Z T21.heap r21_g r21_kg .int (3 : Int32) [(.int (0 : Int32)), (.int (0 : Int32)), (.int (0 : Int32)), (.int (0 : Int32))] (.int (0 : Int32)) := q21_5
      refine OE.astore X21 hx hby at_101 rfl (l' := #[.val (.int p1), .val (.int p2), .val (.int p3), .val (.int p4), .val (.int p5), .val (.int (0 : Int32)), .val (.int (3 : Int32)), .val (.int f0), .val (.int f1), .val (.int f2), .val (.int l0), .val (.int l1), .val (.int l2), .val (.ref b19), .unset, .unset]) rfl ?_
      refine OE.iload X21 hx hby at_103 rfl ?_
      refine OE.iconst X21 hx hby at_105 (1 : Int32) rfl ?_
      refine OE.icmpYes X21 hx hby (pc' := 118) at_106 (tlt (by decide : (0 : Int32) < (1 : Int32))).1 (h := ?_)
      refine OE.iload X21 hx hby at_118 rfl ?_
      refine OE.iconst X21 hx hby at_120 (2 : Int32) rfl ?_
      refine OE.icmpYes X21 hx hby (pc' := 133) at_121 (tlt (by decide : (0 : Int32) < (2 : Int32))).1 (h := ?_)
      refine OE.iload X21 hx hby at_133 rfl ?_
      refine OE.iconst X21 hx hby at_135 (3 : Int32) rfl ?_
      refine OE.icmpYes X21 hx hby (pc' := 148) at_136 (tlt (by decide : (0 : Int32) < (3 : Int32))).1 (h := ?_)
      have z25 : n0 ≤ T21.heap.size := (Nat.le_trans z20 K21.1)
      have K26 : Keep h0 T21.heap [] := (Keep.trans K22 K21 (allS (Or.inr sz_b19) all0))
      exact own_tail0 (3 : Int32) b19 r21_f r21_g r21_kf r21_kg (3 : Int32) [(.int (0 : Int32)), (.int (0 : Int32)), (.int (0 : Int32)), (.int (0 : Int32))] [(.int (0 : Int32)), (.int (0 : Int32)), (.int (0 : Int32)), (.int (0 : Int32))] _ _ _ _ _ X21 rfl N21 (by decide) (by decide) z25 K26 q21_0 q21_3 q21_1 q21_2 R23 R24
    · rw [hr, (by decide : ((3 : Int32) + (1 : Int32)) = (4 : Int32))]
      show OE _ p e below s _ _ _ s₁ (mkF m 92 #[.val (.int p1), .val (.int p2), .val (.int p3), .val (.int p4), .val (.int p5), .val (.int (0 : Int32)), .val (.int (4 : Int32)), .val (.int f0), .val (.int f1), .val (.int f2), .val (.int l0), .val (.int l1), .val (.int l2), .unset, .unset, .unset] [])
      obtain ⟨T27, h27, X27, e27, E27, A27, D27, -, st27⟩ := newO X0 hx hZ hown (hw _ (List.mem_of_getElem? (i := 0) rfl)) (hw _ (List.mem_of_getElem? (i := 1) rfl)) (hw _ (List.mem_of_getElem? (i := 2) rfl)) e0 (g := (mkF m 92 #[.val (.int p1), .val (.int p2), .val (.int p3), .val (.int p4), .val (.int p5), .val (.int (0 : Int32)), .val (.int (4 : Int32)), .val (.int f0), .val (.int f1), .val (.int f2), .val (.int l0), .val (.int l1), .val (.int l2), .unset, .unset, .unset] [])) rfl (hb hby at_92) (by decide) (by decide)
      refine OE.of st27 ?_
      obtain ⟨b27, g27⟩ : ∃ z, z = h0.size := ⟨_, rfl⟩
      rw [← g27] at A27 D27 ⊢
      have g_b27 : n0 ≤ b27 := Nat.le_trans Z0 (Nat.le_of_eq g27.symm)
      have sz_b27 : h0.size ≤ b27 := Nat.le_trans (Keep.refl h0 []).1 (Nat.le_of_eq g27.symm)
      have F27_frequencies : Fld Z h27 b27 "com/example/corbel/corbel/Peaks" "frequencies" "[I" .null := D27 (Or.inl (hw _ (List.mem_of_getElem? (i := 11) rfl))) (ty := (.array .int)) (by decide)
      have F27_lengths : Fld Z h27 b27 "com/example/corbel/corbel/Peaks" "lengths" "[I" .null := D27 (Or.inl (hw _ (List.mem_of_getElem? (i := 13) rfl))) (ty := (.array .int)) (by decide)
      have F27_count : Fld Z h27 b27 "com/example/corbel/corbel/Peaks" "count" "I" (.int (0 : Int32)) := D27 (Or.inl (hw _ (List.mem_of_getElem? (i := 20) rfl))) (ty := .int) (by decide)
      show OE _ p e below s _ _ _ T27 (mkF m 95 #[.val (.int p1), .val (.int p2), .val (.int p3), .val (.int p4), .val (.int p5), .val (.int (0 : Int32)), .val (.int (4 : Int32)), .val (.int f0), .val (.int f1), .val (.int f2), .val (.int l0), .val (.int l1), .val (.int l2), .unset, .unset, .unset] [(.ref b27)])
      refine OE.dup X27 hx hby at_95 rfl ?_
      refine OE.iload X27 hx hby at_96 rfl ?_
      have z28 : n0 ≤ h27.size := (Nat.le_trans Z0 E27.1)
      obtain ⟨_, _, ⟨T29, L29, k29, n29⟩, -, X29, ⟨Lc29, hQ29, l29, y29, z29⟩, st29⟩ := X27.specialBack hx (y := (⟨"com/example/corbel/corbel/Peaks", "<init>", "(I)V"⟩ : MethodName)) rfl hown (mvT hZ (hw _ (List.mem_of_getElem? (i := 3) rfl))) (mvT hZ (hw _ (List.mem_of_getElem? (i := 4) rfl))) (mvT hZ (hw _ (List.mem_of_getElem? (i := 5) rfl))) (by decide) (backOf (W := 1) (own_rm1 l Z a0 hw [] b27 (4 : Int32) h27 n0 z28 A27 F27_frequencies F27_lengths F27_count g_b27 (by decide) (by decide)) hZ (hw _ (List.mem_of_getElem? (i := 5) rfl)) (hw _ (List.mem_of_getElem? (i := 2) rfl)) (by decide) (by decide)) (g := (mkF m 98 #[.val (.int p1), .val (.int p2), .val (.int p3), .val (.int p4), .val (.int p5), .val (.int (0 : Int32)), .val (.int (4 : Int32)), .val (.int f0), .val (.int f1), .val (.int f2), .val (.int l0), .val (.int l1), .val (.int l2), .unset, .unset, .unset] [(.int (4 : Int32)), (.ref b27), (.ref b27)])) rfl (by rw [hml]; rfl) (Steps.refl _) (a := b27) (argsL := [(.int (4 : Int32))]) (rest := [(.ref b27)]) (lenOf own_pd3 rfl) rfl (by show 2 * 0 + _ ≤ _; exact Nat.le_of_eq rfl) (hb hby at_98) (fun _ _ => ⟨rfl, e27, (by decide : 1 + 2 ≤ _), (by decide : 3 + 8 ≤ _)⟩)
      dsimp only [Pt.U, Pt.locs, Pt.cells, Pt.slots] at X29 l29 y29 z29 st29 hQ29
      subst l29 y29 z29
      obtain ⟨r29_f, r29_g, r29_kf, r29_kg, rfl, Nq29, K29, q29_0, q29_1, q29_2, q29_3, q29_4, q29_5, h29_sf, h29_sg, h29_nfg⟩ := hQ29
      refine OE.of (fun _ k => st29.trans k) ?_
      have N29 := Fr.app N0 Nq29
      have ne_b27_r29_f : b27 ≠ r29_f := Nat.ne_of_lt (Nat.lt_of_lt_of_le A27.lt h29_sf)
      have g_r29_f : n0 ≤ r29_f := Nat.le_trans z28 h29_sf
      have K30 : Keep h0 h27 [] := (Keep.ext (Keep.refl h0 []) E27)
      have sz_r29_f : h0.size ≤ r29_f := Nat.le_trans K30.1 h29_sf
      have ne_b27_r29_g : b27 ≠ r29_g := Nat.ne_of_lt (Nat.lt_of_lt_of_le A27.lt h29_sg)
      have g_r29_g : n0 ≤ r29_g := Nat.le_trans z28 h29_sg
      have sz_r29_g : h0.size ≤ r29_g := Nat.le_trans K30.1 h29_sg
      show OE _ p e below s _ _ _ T29 (mkF m 101 #[.val (.int p1), .val (.int p2), .val (.int p3), .val (.int p4), .val (.int p5), .val (.int (0 : Int32)), .val (.int (4 : Int32)), .val (.int f0), .val (.int f1), .val (.int f2), .val (.int l0), .val (.int l1), .val (.int l2), .unset, .unset, .unset] [(.ref b27)])
      have R31 : Arv Z T29.heap r29_f r29_kf .int (4 : Int32) [(.int (0 : Int32)), (.int (0 : Int32)), (.int (0 : Int32)), (.int (0 : Int32))] (.int (0 : Int32)) := q29_4
      have R32 : Arv Z T29.heap r29_g r29_kg .int (4 : Int32) [(.int (0 : Int32)), (.int (0 : Int32)), (.int (0 : Int32)), (.int (0 : Int32))] (.int (0 : Int32)) := q29_5
      refine OE.astore X29 hx hby at_101 rfl (l' := #[.val (.int p1), .val (.int p2), .val (.int p3), .val (.int p4), .val (.int p5), .val (.int (0 : Int32)), .val (.int (4 : Int32)), .val (.int f0), .val (.int f1), .val (.int f2), .val (.int l0), .val (.int l1), .val (.int l2), .val (.ref b27), .unset, .unset]) rfl ?_
      refine OE.iload X29 hx hby at_103 rfl ?_
      refine OE.iconst X29 hx hby at_105 (1 : Int32) rfl ?_
      refine OE.icmpYes X29 hx hby (pc' := 118) at_106 (tlt (by decide : (0 : Int32) < (1 : Int32))).1 (h := ?_)
      refine OE.iload X29 hx hby at_118 rfl ?_
      refine OE.iconst X29 hx hby at_120 (2 : Int32) rfl ?_
      refine OE.icmpYes X29 hx hby (pc' := 133) at_121 (tlt (by decide : (0 : Int32) < (2 : Int32))).1 (h := ?_)
      refine OE.iload X29 hx hby at_133 rfl ?_
      refine OE.iconst X29 hx hby at_135 (3 : Int32) rfl ?_
      refine OE.icmpYes X29 hx hby (pc' := 148) at_136 (tlt (by decide : (0 : Int32) < (3 : Int32))).1 (h := ?_)
      have z33 : n0 ≤ T29.heap.size := (Nat.le_trans z28 K29.1)
      have K34 : Keep h0 T29.heap [] := (Keep.trans K30 K29 (allS (Or.inr sz_b27) all0))
      exact own_tail0 (4 : Int32) b27 r29_f r29_g r29_kf r29_kg (4 : Int32) [(.int (0 : Int32)), (.int (0 : Int32)), (.int (0 : Int32)), (.int (0 : Int32))] [(.int (0 : Int32)), (.int (0 : Int32)), (.int (0 : Int32)), (.int (0 : Int32))] _ _ _ _ _ X29 rfl N29 (by decide) (by decide) z33 K34 q29_0 q29_3 q29_1 q29_2 R31 R32
  · rw [hn]
    show OE _ p e below s _ _ _ s₁ (mkF m 92 #[.val (.int p1), .val (.int p2), .val (.int p3), .val (.int p4), .val (.int p5), .val (.int (1 : Int32)), .val (.int ((((p5.toUInt32 >>> ((2 : Int32) &&& 31).toUInt32).toInt32) &&& (3 : Int32)) + (1 : Int32))), .val (.int f0), .val (.int f1), .val (.int f2), .val (.int l0), .val (.int l1), .val (.int l2), .unset, .unset, .unset] [])
    have own_tail1 : ∀ (rm : Int32) (b : Addr) (f : Addr) (g : Addr) (kf : ClassId) (kg : ClassId) (cap : Int32) (tF : List Value) (tG : List Value) (T35 : State) (H35 : Heap) (locs35 : List Loc) (cells35 : Nat) (slots35 : Nat), Stand p l e room_1 s m #[(.int p1), (.int p2), (.int p3), (.int p4), (.int p5)] below meth c T35 locs35 cells35 slots35 → T35.heap = H35 → Fr n0 locs35 → cells35 ≤ 24 → slots35 ≤ 128 → n0 ≤ H35.size → Keep h0 H35 [] → Exa Z H35 b "com/example/corbel/corbel/Peaks" → Fld Z H35 b "com/example/corbel/corbel/Peaks" "count" "I" (.int (1 : Int32)) → Fld Z H35 b "com/example/corbel/corbel/Peaks" "frequencies" "[I" (.ref f) → Fld Z H35 b "com/example/corbel/corbel/Peaks" "lengths" "[I" (.ref g) → Arv Z H35 f kf .int cap ((.int f0) :: tF) (.int (0 : Int32)) → Arv Z H35 g kg .int cap ((.int l0) :: tG) (.int (0 : Int32)) → (0 : Int32) < cap → OE FrameEnd p e below s (own_Q0 Z p1 p2 p3 p4 p5 h0 n0) room_1.cells room_1.slots T35 (mkF m 148 #[.val (.int p1), .val (.int p2), .val (.int p3), .val (.int p4), .val (.int p5), .val (.int (1 : Int32)), .val (.int rm), .val (.int f0), .val (.int f1), .val (.int f2), .val (.int l0), .val (.int l1), .val (.int l2), .val (.ref b), .unset, .unset] []) := by
      intro rm b f g kf kg cap tF tG T35 H35 locs35 cells35 slots35 X35 e35 N35 hcl35 hsl35 z35 K35 tE tC tf tg tVf tVg hn0
      show OE _ p e below s _ _ _ T35 (mkF m 148 #[.val (.int p1), .val (.int p2), .val (.int p3), .val (.int p4), .val (.int p5), .val (.int (1 : Int32)), .val (.int rm), .val (.int f0), .val (.int f1), .val (.int f2), .val (.int l0), .val (.int l1), .val (.int l2), .val (.ref b), .unset, .unset] [])
      refine OE.aload X35 hx hby at_148 rfl rfl ?_
      refine OE.iloadN X35 hx hby at_150 rfl ?_
      refine OE.iloadN X35 hx hby at_151 rfl ?_
      obtain ⟨cq36, kq36, qa36, qb36, qc36⟩ := isOf hZ e35 tE
      obtain ⟨_, _, ⟨T36, L36, k36, n36⟩, -, X36, ⟨Lc36, hQ36, l36, y36, z36⟩, st36⟩ := X35.virtualBack hx (y := (⟨"com/example/corbel/corbel/Peaks", "bound", "(II)Z"⟩ : MethodName)) (z := (⟨"com/example/corbel/corbel/Peaks", "bound", "(II)Z"⟩ : MethodName)) hown (mvT hZ (hw _ (List.mem_of_getElem? (i := 14) rfl))) (mvT hZ (hw _ (List.mem_of_getElem? (i := 15) rfl))) (notFace_of_selects (args := #[]) (mvT hZ (hw _ (List.mem_of_getElem? (i := 17) rfl)))) (mvT hZ (hw _ (List.mem_of_getElem? (i := 17) rfl))) (mvT hZ (hw _ (List.mem_of_getElem? (i := 16) rfl))) (by decide) (backOf (W := 0) (own_rm3_1 l Z a0 hw [] b p3 p4 f0 l0 tF tG cap f g kf kg H35 n0 z35 tC tf tg tVf tVg hn0) hZ (hw _ (List.mem_of_getElem? (i := 18) rfl)) (hw _ (List.mem_of_getElem? (i := 2) rfl)) (by decide) (by decide)) qa36 qc36 (g := (mkF m 152 #[.val (.int p1), .val (.int p2), .val (.int p3), .val (.int p4), .val (.int p5), .val (.int (1 : Int32)), .val (.int rm), .val (.int f0), .val (.int f1), .val (.int f2), .val (.int l0), .val (.int l1), .val (.int l2), .val (.ref b), .unset, .unset] [(.int p4), (.int p3), (.ref b)])) rfl (by rw [hml]; rfl) (Steps.refl _) (argsL := [(.int p3), (.int p4)]) (rest := []) (lenOf own_pd2 rfl) rfl (by show 2 * 0 + _ ≤ _; exact Nat.le_of_eq rfl) (hb hby at_152) (fun _ _ => ⟨rfl, e35, (Nat.le_trans (Nat.add_le_add_right hcl35 0) (by decide)), (Nat.le_trans (Nat.add_le_add_right hsl35 0) (by decide))⟩)
      dsimp only [Pt.U, Pt.locs, Pt.cells, Pt.slots] at X36 l36 y36 z36 st36 hQ36
      subst l36 y36 z36
      obtain ⟨rfl, Nq36, eq36⟩ := hQ36
      refine OE.of (fun _ k => st36.trans k) ?_
      have N36 := Fr.app N35 Nq36
      show OE _ p e below s _ _ _ T36 (mkF m 155 #[.val (.int p1), .val (.int p2), .val (.int p3), .val (.int p4), .val (.int p5), .val (.int (1 : Int32)), .val (.int rm), .val (.int f0), .val (.int f1), .val (.int f2), .val (.int l0), .val (.int l1), .val (.int l2), .val (.ref b), .unset, .unset] [(.int (if f0 < p3 then (0 : Int32) else (if p4 < l0 then (0 : Int32) else (1 : Int32))))])
      by_cases hl37 : f0 < p3
      · skip
        rw [if_pos (show f0 < p3 from hl37)]
        show OE _ p e below s _ _ _ T36 (mkF m 155 #[.val (.int p1), .val (.int p2), .val (.int p3), .val (.int p4), .val (.int p5), .val (.int (1 : Int32)), .val (.int rm), .val (.int f0), .val (.int f1), .val (.int f2), .val (.int l0), .val (.int l1), .val (.int l2), .val (.ref b), .unset, .unset] [(.int (0 : Int32))])
        refine OE.istore X36 hx hby at_155 (l' := #[.val (.int p1), .val (.int p2), .val (.int p3), .val (.int p4), .val (.int p5), .val (.int (1 : Int32)), .val (.int rm), .val (.int f0), .val (.int f1), .val (.int f2), .val (.int l0), .val (.int l1), .val (.int l2), .val (.ref b), .val (.int (0 : Int32)), .unset]) rfl ?_
        refine OE.iload X36 hx hby at_157 rfl ?_
        refine OE.iconst X36 hx hby at_159 (1 : Int32) rfl ?_
        refine OE.icmpNo X36 hx hby at_160 (flt (by decide : ¬ ((1 : Int32) < (1 : Int32)))).1 ?_
        refine OE.iload X36 hx hby at_163 rfl ?_
        refine OE.iload X36 hx hby at_165 rfl ?_
        refine OE.iloadN X36 hx hby at_167 rfl ?_
        refine OE.iloadN X36 hx hby at_168 rfl ?_
        obtain ⟨_, _, ⟨T38, L38, k38, n38⟩, -, X38, ⟨Lc38, hQ38, l38, y38, z38⟩, st38⟩ := Jvm.LawKit.callS X36 hx (y := (⟨"com/example/corbel/corbel/PeaksBoundPinLaw", "covers", "(IIII)Z"⟩ : MethodName)) hown (mvT hZ (hw _ (List.mem_of_getElem? (i := 38) rfl))) (mvT hZ (hw _ (List.mem_of_getElem? (i := 39) rfl))) (mvT hZ (hw _ (List.mem_of_getElem? (i := 40) rfl))) (mvT hZ (hw _ (List.mem_of_getElem? (i := 41) rfl))) (by decide) (backOf (W := 0) (own_rm7 l Z a0 hw [] f0 l0 p3 p4 H35 n0 z35 ) hZ (hw _ (List.mem_of_getElem? (i := 41) rfl)) (hw _ (List.mem_of_getElem? (i := 40) rfl)) (by decide) (by decide)) (g := (mkF m 169 #[.val (.int p1), .val (.int p2), .val (.int p3), .val (.int p4), .val (.int p5), .val (.int (1 : Int32)), .val (.int rm), .val (.int f0), .val (.int f1), .val (.int f2), .val (.int l0), .val (.int l1), .val (.int l2), .val (.ref b), .val (.int (0 : Int32)), .unset] [(.int p4), (.int p3), (.int l0), (.int f0)])) rfl (by rw [hml]; rfl) (argsL := [(.int f0), (.int l0), (.int p3), (.int p4)]) (rest := []) (lenOf own_pd4 rfl) rfl (by show 2 * 0 + _ ≤ _; exact Nat.le_of_eq rfl) (hb hby at_169) (fun _ _ => ⟨rfl, eq36, (Nat.le_trans (Nat.add_le_add_right (Nat.add_le_add_right hcl35 0) 0) (by decide)), (Nat.le_trans (Nat.add_le_add_right (Nat.add_le_add_right hsl35 0) 0) (by decide))⟩)
        dsimp only [Pt.U, Pt.locs, Pt.cells, Pt.slots] at X38 l38 y38 z38 st38 hQ38
        subst l38 y38 z38
        obtain ⟨rfl, Nq38, eq38⟩ := hQ38
        refine OE.of (fun _ k => st38 _ k) ?_
        have N38 := Fr.app N36 Nq38
        show OE _ p e below s _ _ _ T38 (mkF m 172 #[.val (.int p1), .val (.int p2), .val (.int p3), .val (.int p4), .val (.int p5), .val (.int (1 : Int32)), .val (.int rm), .val (.int f0), .val (.int f1), .val (.int f2), .val (.int l0), .val (.int l1), .val (.int l2), .val (.ref b), .val (.int (0 : Int32)), .unset] [(.int (if f0 < p3 then (0 : Int32) else (if p4 < l0 then (0 : Int32) else (1 : Int32))))])
        rw [if_pos (show f0 < p3 from hl37)]
        show OE _ p e below s _ _ _ T38 (mkF m 172 #[.val (.int p1), .val (.int p2), .val (.int p3), .val (.int p4), .val (.int p5), .val (.int (1 : Int32)), .val (.int rm), .val (.int f0), .val (.int f1), .val (.int f2), .val (.int l0), .val (.int l1), .val (.int l2), .val (.ref b), .val (.int (0 : Int32)), .unset] [(.int (0 : Int32))])
        refine OE.ifNo X38 hx hby at_172 (teq (by decide : (0 : Int32) = (0 : Int32))).2 ?_
        refine OE.iload X38 hx hby at_175 rfl ?_
        refine OE.iconst X38 hx hby at_177 (2 : Int32) rfl ?_
        refine OE.icmpYes X38 hx hby (pc' := 193) at_178 (tlt (by decide : (1 : Int32) < (2 : Int32))).1 (h := ?_)
        refine OE.iload X38 hx hby at_193 rfl ?_
        refine OE.iconst X38 hx hby at_195 (3 : Int32) rfl ?_
        refine OE.icmpYes X38 hx hby (pc' := 215) at_196 (tlt (by decide : (1 : Int32) < (3 : Int32))).1 (h := ?_)
        refine OE.iconst X38 hx hby at_215 (0 : Int32) rfl ?_
        refine OE.istore X38 hx hby at_216 (l' := #[.val (.int p1), .val (.int p2), .val (.int p3), .val (.int p4), .val (.int p5), .val (.int (1 : Int32)), .val (.int rm), .val (.int f0), .val (.int f1), .val (.int f2), .val (.int l0), .val (.int l1), .val (.int l2), .val (.ref b), .val (.int (0 : Int32)), .val (.int (0 : Int32))]) rfl ?_
        refine OE.iload X38 hx hby at_218 rfl ?_
        refine OE.iload X38 hx hby at_220 rfl ?_
        refine OE.icmpNo X38 hx hby at_222 (teq (by decide : (0 : Int32) = (0 : Int32))).2 ?_
        refine OE.iconst X38 hx hby at_225 (1 : Int32) rfl ?_
        refine OE.goto X38 hx hby (pc' := 230) at_226 (h := ?_)
        refine OE.retN X38 hx (t := .boolean) Bd.returns (by simp) Bd.notSynchronized (hb hby at_230) (Nat.le_trans (Nat.add_le_add_right (Nat.add_le_add_right hcl35 0) 0) (by decide)) (Nat.le_trans (Nat.add_le_add_right (Nat.add_le_add_right hsl35 0) 0) (by decide)) ?_
        rw [eq38]
        exact ⟨rfl, N38⟩
      · skip
        rw [if_neg (show ¬ (f0 < p3) from hl37)]
        show OE _ p e below s _ _ _ T36 (mkF m 155 #[.val (.int p1), .val (.int p2), .val (.int p3), .val (.int p4), .val (.int p5), .val (.int (1 : Int32)), .val (.int rm), .val (.int f0), .val (.int f1), .val (.int f2), .val (.int l0), .val (.int l1), .val (.int l2), .val (.ref b), .unset, .unset] [(.int (if p4 < l0 then (0 : Int32) else (1 : Int32)))])
        by_cases hl39 : p4 < l0
        · skip
          rw [if_pos (show p4 < l0 from hl39)]
          show OE _ p e below s _ _ _ T36 (mkF m 155 #[.val (.int p1), .val (.int p2), .val (.int p3), .val (.int p4), .val (.int p5), .val (.int (1 : Int32)), .val (.int rm), .val (.int f0), .val (.int f1), .val (.int f2), .val (.int l0), .val (.int l1), .val (.int l2), .val (.ref b), .unset, .unset] [(.int (0 : Int32))])
          refine OE.istore X36 hx hby at_155 (l' := #[.val (.int p1), .val (.int p2), .val (.int p3), .val (.int p4), .val (.int p5), .val (.int (1 : Int32)), .val (.int rm), .val (.int f0), .val (.int f1), .val (.int f2), .val (.int l0), .val (.int l1), .val (.int l2), .val (.ref b), .val (.int (0 : Int32)), .unset]) rfl ?_
          refine OE.iload X36 hx hby at_157 rfl ?_
          refine OE.iconst X36 hx hby at_159 (1 : Int32) rfl ?_
          refine OE.icmpNo X36 hx hby at_160 (flt (by decide : ¬ ((1 : Int32) < (1 : Int32)))).1 ?_
          refine OE.iload X36 hx hby at_163 rfl ?_
          refine OE.iload X36 hx hby at_165 rfl ?_
          refine OE.iloadN X36 hx hby at_167 rfl ?_
          refine OE.iloadN X36 hx hby at_168 rfl ?_
          obtain ⟨_, _, ⟨T40, L40, k40, n40⟩, -, X40, ⟨Lc40, hQ40, l40, y40, z40⟩, st40⟩ := Jvm.LawKit.callS X36 hx (y := (⟨"com/example/corbel/corbel/PeaksBoundPinLaw", "covers", "(IIII)Z"⟩ : MethodName)) hown (mvT hZ (hw _ (List.mem_of_getElem? (i := 38) rfl))) (mvT hZ (hw _ (List.mem_of_getElem? (i := 39) rfl))) (mvT hZ (hw _ (List.mem_of_getElem? (i := 40) rfl))) (mvT hZ (hw _ (List.mem_of_getElem? (i := 41) rfl))) (by decide) (backOf (W := 0) (own_rm7 l Z a0 hw [] f0 l0 p3 p4 H35 n0 z35 ) hZ (hw _ (List.mem_of_getElem? (i := 41) rfl)) (hw _ (List.mem_of_getElem? (i := 40) rfl)) (by decide) (by decide)) (g := (mkF m 169 #[.val (.int p1), .val (.int p2), .val (.int p3), .val (.int p4), .val (.int p5), .val (.int (1 : Int32)), .val (.int rm), .val (.int f0), .val (.int f1), .val (.int f2), .val (.int l0), .val (.int l1), .val (.int l2), .val (.ref b), .val (.int (0 : Int32)), .unset] [(.int p4), (.int p3), (.int l0), (.int f0)])) rfl (by rw [hml]; rfl) (argsL := [(.int f0), (.int l0), (.int p3), (.int p4)]) (rest := []) (lenOf own_pd4 rfl) rfl (by show 2 * 0 + _ ≤ _; exact Nat.le_of_eq rfl) (hb hby at_169) (fun _ _ => ⟨rfl, eq36, (Nat.le_trans (Nat.add_le_add_right (Nat.add_le_add_right hcl35 0) 0) (by decide)), (Nat.le_trans (Nat.add_le_add_right (Nat.add_le_add_right hsl35 0) 0) (by decide))⟩)
          dsimp only [Pt.U, Pt.locs, Pt.cells, Pt.slots] at X40 l40 y40 z40 st40 hQ40
          subst l40 y40 z40
          obtain ⟨rfl, Nq40, eq40⟩ := hQ40
          refine OE.of (fun _ k => st40 _ k) ?_
          have N40 := Fr.app N36 Nq40
          show OE _ p e below s _ _ _ T40 (mkF m 172 #[.val (.int p1), .val (.int p2), .val (.int p3), .val (.int p4), .val (.int p5), .val (.int (1 : Int32)), .val (.int rm), .val (.int f0), .val (.int f1), .val (.int f2), .val (.int l0), .val (.int l1), .val (.int l2), .val (.ref b), .val (.int (0 : Int32)), .unset] [(.int (if f0 < p3 then (0 : Int32) else (if p4 < l0 then (0 : Int32) else (1 : Int32))))])
          rw [if_neg (show ¬ (f0 < p3) from hl37)]
          show OE _ p e below s _ _ _ T40 (mkF m 172 #[.val (.int p1), .val (.int p2), .val (.int p3), .val (.int p4), .val (.int p5), .val (.int (1 : Int32)), .val (.int rm), .val (.int f0), .val (.int f1), .val (.int f2), .val (.int l0), .val (.int l1), .val (.int l2), .val (.ref b), .val (.int (0 : Int32)), .unset] [(.int (if p4 < l0 then (0 : Int32) else (1 : Int32)))])
          rw [if_pos (show p4 < l0 from hl39)]
          show OE _ p e below s _ _ _ T40 (mkF m 172 #[.val (.int p1), .val (.int p2), .val (.int p3), .val (.int p4), .val (.int p5), .val (.int (1 : Int32)), .val (.int rm), .val (.int f0), .val (.int f1), .val (.int f2), .val (.int l0), .val (.int l1), .val (.int l2), .val (.ref b), .val (.int (0 : Int32)), .unset] [(.int (0 : Int32))])
          refine OE.ifNo X40 hx hby at_172 (teq (by decide : (0 : Int32) = (0 : Int32))).2 ?_
          refine OE.iload X40 hx hby at_175 rfl ?_
          refine OE.iconst X40 hx hby at_177 (2 : Int32) rfl ?_
          refine OE.icmpYes X40 hx hby (pc' := 193) at_178 (tlt (by decide : (1 : Int32) < (2 : Int32))).1 (h := ?_)
          refine OE.iload X40 hx hby at_193 rfl ?_
          refine OE.iconst X40 hx hby at_195 (3 : Int32) rfl ?_
          refine OE.icmpYes X40 hx hby (pc' := 215) at_196 (tlt (by decide : (1 : Int32) < (3 : Int32))).1 (h := ?_)
          refine OE.iconst X40 hx hby at_215 (0 : Int32) rfl ?_
          refine OE.istore X40 hx hby at_216 (l' := #[.val (.int p1), .val (.int p2), .val (.int p3), .val (.int p4), .val (.int p5), .val (.int (1 : Int32)), .val (.int rm), .val (.int f0), .val (.int f1), .val (.int f2), .val (.int l0), .val (.int l1), .val (.int l2), .val (.ref b), .val (.int (0 : Int32)), .val (.int (0 : Int32))]) rfl ?_
          refine OE.iload X40 hx hby at_218 rfl ?_
          refine OE.iload X40 hx hby at_220 rfl ?_
          refine OE.icmpNo X40 hx hby at_222 (teq (by decide : (0 : Int32) = (0 : Int32))).2 ?_
          refine OE.iconst X40 hx hby at_225 (1 : Int32) rfl ?_
          refine OE.goto X40 hx hby (pc' := 230) at_226 (h := ?_)
          refine OE.retN X40 hx (t := .boolean) Bd.returns (by simp) Bd.notSynchronized (hb hby at_230) (Nat.le_trans (Nat.add_le_add_right (Nat.add_le_add_right hcl35 0) 0) (by decide)) (Nat.le_trans (Nat.add_le_add_right (Nat.add_le_add_right hsl35 0) 0) (by decide)) ?_
          rw [eq40]
          exact ⟨rfl, N40⟩
        · skip
          rw [if_neg (show ¬ (p4 < l0) from hl39)]
          show OE _ p e below s _ _ _ T36 (mkF m 155 #[.val (.int p1), .val (.int p2), .val (.int p3), .val (.int p4), .val (.int p5), .val (.int (1 : Int32)), .val (.int rm), .val (.int f0), .val (.int f1), .val (.int f2), .val (.int l0), .val (.int l1), .val (.int l2), .val (.ref b), .unset, .unset] [(.int (1 : Int32))])
          refine OE.istore X36 hx hby at_155 (l' := #[.val (.int p1), .val (.int p2), .val (.int p3), .val (.int p4), .val (.int p5), .val (.int (1 : Int32)), .val (.int rm), .val (.int f0), .val (.int f1), .val (.int f2), .val (.int l0), .val (.int l1), .val (.int l2), .val (.ref b), .val (.int (1 : Int32)), .unset]) rfl ?_
          refine OE.iload X36 hx hby at_157 rfl ?_
          refine OE.iconst X36 hx hby at_159 (1 : Int32) rfl ?_
          refine OE.icmpNo X36 hx hby at_160 (flt (by decide : ¬ ((1 : Int32) < (1 : Int32)))).1 ?_
          refine OE.iload X36 hx hby at_163 rfl ?_
          refine OE.iload X36 hx hby at_165 rfl ?_
          refine OE.iloadN X36 hx hby at_167 rfl ?_
          refine OE.iloadN X36 hx hby at_168 rfl ?_
          obtain ⟨_, _, ⟨T41, L41, k41, n41⟩, -, X41, ⟨Lc41, hQ41, l41, y41, z41⟩, st41⟩ := Jvm.LawKit.callS X36 hx (y := (⟨"com/example/corbel/corbel/PeaksBoundPinLaw", "covers", "(IIII)Z"⟩ : MethodName)) hown (mvT hZ (hw _ (List.mem_of_getElem? (i := 38) rfl))) (mvT hZ (hw _ (List.mem_of_getElem? (i := 39) rfl))) (mvT hZ (hw _ (List.mem_of_getElem? (i := 40) rfl))) (mvT hZ (hw _ (List.mem_of_getElem? (i := 41) rfl))) (by decide) (backOf (W := 0) (own_rm7 l Z a0 hw [] f0 l0 p3 p4 H35 n0 z35 ) hZ (hw _ (List.mem_of_getElem? (i := 41) rfl)) (hw _ (List.mem_of_getElem? (i := 40) rfl)) (by decide) (by decide)) (g := (mkF m 169 #[.val (.int p1), .val (.int p2), .val (.int p3), .val (.int p4), .val (.int p5), .val (.int (1 : Int32)), .val (.int rm), .val (.int f0), .val (.int f1), .val (.int f2), .val (.int l0), .val (.int l1), .val (.int l2), .val (.ref b), .val (.int (1 : Int32)), .unset] [(.int p4), (.int p3), (.int l0), (.int f0)])) rfl (by rw [hml]; rfl) (argsL := [(.int f0), (.int l0), (.int p3), (.int p4)]) (rest := []) (lenOf own_pd4 rfl) rfl (by show 2 * 0 + _ ≤ _; exact Nat.le_of_eq rfl) (hb hby at_169) (fun _ _ => ⟨rfl, eq36, (Nat.le_trans (Nat.add_le_add_right (Nat.add_le_add_right hcl35 0) 0) (by decide)), (Nat.le_trans (Nat.add_le_add_right (Nat.add_le_add_right hsl35 0) 0) (by decide))⟩)
          dsimp only [Pt.U, Pt.locs, Pt.cells, Pt.slots] at X41 l41 y41 z41 st41 hQ41
          subst l41 y41 z41
          obtain ⟨rfl, Nq41, eq41⟩ := hQ41
          refine OE.of (fun _ k => st41 _ k) ?_
          have N41 := Fr.app N36 Nq41
          show OE _ p e below s _ _ _ T41 (mkF m 172 #[.val (.int p1), .val (.int p2), .val (.int p3), .val (.int p4), .val (.int p5), .val (.int (1 : Int32)), .val (.int rm), .val (.int f0), .val (.int f1), .val (.int f2), .val (.int l0), .val (.int l1), .val (.int l2), .val (.ref b), .val (.int (1 : Int32)), .unset] [(.int (if f0 < p3 then (0 : Int32) else (if p4 < l0 then (0 : Int32) else (1 : Int32))))])
          rw [if_neg (show ¬ (f0 < p3) from hl37)]
          show OE _ p e below s _ _ _ T41 (mkF m 172 #[.val (.int p1), .val (.int p2), .val (.int p3), .val (.int p4), .val (.int p5), .val (.int (1 : Int32)), .val (.int rm), .val (.int f0), .val (.int f1), .val (.int f2), .val (.int l0), .val (.int l1), .val (.int l2), .val (.ref b), .val (.int (1 : Int32)), .unset] [(.int (if p4 < l0 then (0 : Int32) else (1 : Int32)))])
          rw [if_neg (show ¬ (p4 < l0) from hl39)]
          show OE _ p e below s _ _ _ T41 (mkF m 172 #[.val (.int p1), .val (.int p2), .val (.int p3), .val (.int p4), .val (.int p5), .val (.int (1 : Int32)), .val (.int rm), .val (.int f0), .val (.int f1), .val (.int f2), .val (.int l0), .val (.int l1), .val (.int l2), .val (.ref b), .val (.int (1 : Int32)), .unset] [(.int (1 : Int32))])
          refine OE.ifYes X41 hx hby (pc' := 211) at_172 (feq (by decide : ¬ ((1 : Int32) = (0 : Int32)))).2 (h := ?_)
          refine OE.iconst X41 hx hby at_211 (1 : Int32) rfl ?_
          refine OE.goto X41 hx hby (pc' := 216) at_212 (h := ?_)
          refine OE.istore X41 hx hby at_216 (l' := #[.val (.int p1), .val (.int p2), .val (.int p3), .val (.int p4), .val (.int p5), .val (.int (1 : Int32)), .val (.int rm), .val (.int f0), .val (.int f1), .val (.int f2), .val (.int l0), .val (.int l1), .val (.int l2), .val (.ref b), .val (.int (1 : Int32)), .val (.int (1 : Int32))]) rfl ?_
          refine OE.iload X41 hx hby at_218 rfl ?_
          refine OE.iload X41 hx hby at_220 rfl ?_
          refine OE.icmpNo X41 hx hby at_222 (teq (by decide : (1 : Int32) = (1 : Int32))).2 ?_
          refine OE.iconst X41 hx hby at_225 (1 : Int32) rfl ?_
          refine OE.goto X41 hx hby (pc' := 230) at_226 (h := ?_)
          refine OE.retN X41 hx (t := .boolean) Bd.returns (by simp) Bd.notSynchronized (hb hby at_230) (Nat.le_trans (Nat.add_le_add_right (Nat.add_le_add_right hcl35 0) 0) (by decide)) (Nat.le_trans (Nat.add_le_add_right (Nat.add_le_add_right hsl35 0) 0) (by decide)) ?_
          rw [eq41]
          exact ⟨rfl, N41⟩
    rcases own_and3 ((p5.toUInt32 >>> ((2 : Int32) &&& 31).toUInt32).toInt32) with hr | hr | hr | hr
    · rw [hr, (by decide : ((0 : Int32) + (1 : Int32)) = (1 : Int32))]
      show OE _ p e below s _ _ _ s₁ (mkF m 92 #[.val (.int p1), .val (.int p2), .val (.int p3), .val (.int p4), .val (.int p5), .val (.int (1 : Int32)), .val (.int (1 : Int32)), .val (.int f0), .val (.int f1), .val (.int f2), .val (.int l0), .val (.int l1), .val (.int l2), .unset, .unset, .unset] [])
      obtain ⟨T42, h42, X42, e42, E42, A42, D42, -, st42⟩ := newO X0 hx hZ hown (hw _ (List.mem_of_getElem? (i := 0) rfl)) (hw _ (List.mem_of_getElem? (i := 1) rfl)) (hw _ (List.mem_of_getElem? (i := 2) rfl)) e0 (g := (mkF m 92 #[.val (.int p1), .val (.int p2), .val (.int p3), .val (.int p4), .val (.int p5), .val (.int (1 : Int32)), .val (.int (1 : Int32)), .val (.int f0), .val (.int f1), .val (.int f2), .val (.int l0), .val (.int l1), .val (.int l2), .unset, .unset, .unset] [])) rfl (hb hby at_92) (by decide) (by decide)
      refine OE.of st42 ?_
      obtain ⟨b42, g42⟩ : ∃ z, z = h0.size := ⟨_, rfl⟩
      rw [← g42] at A42 D42 ⊢
      have g_b42 : n0 ≤ b42 := Nat.le_trans Z0 (Nat.le_of_eq g42.symm)
      have sz_b42 : h0.size ≤ b42 := Nat.le_trans (Keep.refl h0 []).1 (Nat.le_of_eq g42.symm)
      have F42_frequencies : Fld Z h42 b42 "com/example/corbel/corbel/Peaks" "frequencies" "[I" .null := D42 (Or.inl (hw _ (List.mem_of_getElem? (i := 11) rfl))) (ty := (.array .int)) (by decide)
      have F42_lengths : Fld Z h42 b42 "com/example/corbel/corbel/Peaks" "lengths" "[I" .null := D42 (Or.inl (hw _ (List.mem_of_getElem? (i := 13) rfl))) (ty := (.array .int)) (by decide)
      have F42_count : Fld Z h42 b42 "com/example/corbel/corbel/Peaks" "count" "I" (.int (0 : Int32)) := D42 (Or.inl (hw _ (List.mem_of_getElem? (i := 20) rfl))) (ty := .int) (by decide)
      show OE _ p e below s _ _ _ T42 (mkF m 95 #[.val (.int p1), .val (.int p2), .val (.int p3), .val (.int p4), .val (.int p5), .val (.int (1 : Int32)), .val (.int (1 : Int32)), .val (.int f0), .val (.int f1), .val (.int f2), .val (.int l0), .val (.int l1), .val (.int l2), .unset, .unset, .unset] [(.ref b42)])
      refine OE.dup X42 hx hby at_95 rfl ?_
      refine OE.iload X42 hx hby at_96 rfl ?_
      have z43 : n0 ≤ h42.size := (Nat.le_trans Z0 E42.1)
      obtain ⟨_, _, ⟨T44, L44, k44, n44⟩, -, X44, ⟨Lc44, hQ44, l44, y44, z44⟩, st44⟩ := X42.specialBack hx (y := (⟨"com/example/corbel/corbel/Peaks", "<init>", "(I)V"⟩ : MethodName)) rfl hown (mvT hZ (hw _ (List.mem_of_getElem? (i := 3) rfl))) (mvT hZ (hw _ (List.mem_of_getElem? (i := 4) rfl))) (mvT hZ (hw _ (List.mem_of_getElem? (i := 5) rfl))) (by decide) (backOf (W := 1) (own_rm1 l Z a0 hw [] b42 (1 : Int32) h42 n0 z43 A42 F42_frequencies F42_lengths F42_count g_b42 (by decide) (by decide)) hZ (hw _ (List.mem_of_getElem? (i := 5) rfl)) (hw _ (List.mem_of_getElem? (i := 2) rfl)) (by decide) (by decide)) (g := (mkF m 98 #[.val (.int p1), .val (.int p2), .val (.int p3), .val (.int p4), .val (.int p5), .val (.int (1 : Int32)), .val (.int (1 : Int32)), .val (.int f0), .val (.int f1), .val (.int f2), .val (.int l0), .val (.int l1), .val (.int l2), .unset, .unset, .unset] [(.int (1 : Int32)), (.ref b42), (.ref b42)])) rfl (by rw [hml]; rfl) (Steps.refl _) (a := b42) (argsL := [(.int (1 : Int32))]) (rest := [(.ref b42)]) (lenOf own_pd3 rfl) rfl (by show 2 * 0 + _ ≤ _; exact Nat.le_of_eq rfl) (hb hby at_98) (fun _ _ => ⟨rfl, e42, (by decide : 1 + 2 ≤ _), (by decide : 3 + 8 ≤ _)⟩)
      dsimp only [Pt.U, Pt.locs, Pt.cells, Pt.slots] at X44 l44 y44 z44 st44 hQ44
      subst l44 y44 z44
      obtain ⟨r44_f, r44_g, r44_kf, r44_kg, rfl, Nq44, K44, q44_0, q44_1, q44_2, q44_3, q44_4, q44_5, h44_sf, h44_sg, h44_nfg⟩ := hQ44
      refine OE.of (fun _ k => st44.trans k) ?_
      have N44 := Fr.app N0 Nq44
      have ne_b42_r44_f : b42 ≠ r44_f := Nat.ne_of_lt (Nat.lt_of_lt_of_le A42.lt h44_sf)
      have g_r44_f : n0 ≤ r44_f := Nat.le_trans z43 h44_sf
      have K45 : Keep h0 h42 [] := (Keep.ext (Keep.refl h0 []) E42)
      have sz_r44_f : h0.size ≤ r44_f := Nat.le_trans K45.1 h44_sf
      have ne_b42_r44_g : b42 ≠ r44_g := Nat.ne_of_lt (Nat.lt_of_lt_of_le A42.lt h44_sg)
      have g_r44_g : n0 ≤ r44_g := Nat.le_trans z43 h44_sg
      have sz_r44_g : h0.size ≤ r44_g := Nat.le_trans K45.1 h44_sg
      show OE _ p e below s _ _ _ T44 (mkF m 101 #[.val (.int p1), .val (.int p2), .val (.int p3), .val (.int p4), .val (.int p5), .val (.int (1 : Int32)), .val (.int (1 : Int32)), .val (.int f0), .val (.int f1), .val (.int f2), .val (.int l0), .val (.int l1), .val (.int l2), .unset, .unset, .unset] [(.ref b42)])
      have R46 : Arv Z T44.heap r44_f r44_kf .int (1 : Int32) [(.int (0 : Int32)), (.int (0 : Int32)), (.int (0 : Int32)), (.int (0 : Int32))] (.int (0 : Int32)) := q44_4
      have R47 : Arv Z T44.heap r44_g r44_kg .int (1 : Int32) [(.int (0 : Int32)), (.int (0 : Int32)), (.int (0 : Int32)), (.int (0 : Int32))] (.int (0 : Int32)) := q44_5
      refine OE.astore X44 hx hby at_101 rfl (l' := #[.val (.int p1), .val (.int p2), .val (.int p3), .val (.int p4), .val (.int p5), .val (.int (1 : Int32)), .val (.int (1 : Int32)), .val (.int f0), .val (.int f1), .val (.int f2), .val (.int l0), .val (.int l1), .val (.int l2), .val (.ref b42), .unset, .unset]) rfl ?_
      refine OE.iload X44 hx hby at_103 rfl ?_
      refine OE.iconst X44 hx hby at_105 (1 : Int32) rfl ?_
      refine OE.icmpNo X44 hx hby at_106 (flt (by decide : ¬ ((1 : Int32) < (1 : Int32)))).1 ?_
      refine OE.aload X44 hx hby at_109 rfl rfl ?_
      refine OE.iload X44 hx hby at_111 rfl ?_
      refine OE.iload X44 hx hby at_113 rfl ?_
      have z48 : n0 ≤ T44.heap.size := (Nat.le_trans z43 K44.1)
      obtain ⟨cq49, kq49, qa49, qb49, qc49⟩ := isOf hZ rfl q44_0
      obtain ⟨_, _, ⟨T49, L49, k49, n49⟩, -, X49, ⟨Lc49, hQ49, l49, y49, z49⟩, st49⟩ := X44.virtualBack hx (y := (⟨"com/example/corbel/corbel/Peaks", "append", "(II)V"⟩ : MethodName)) (z := (⟨"com/example/corbel/corbel/Peaks", "append", "(II)V"⟩ : MethodName)) hown (mvT hZ (hw _ (List.mem_of_getElem? (i := 21) rfl))) (mvT hZ (hw _ (List.mem_of_getElem? (i := 22) rfl))) (notFace_of_selects (args := #[]) (mvT hZ (hw _ (List.mem_of_getElem? (i := 24) rfl)))) (mvT hZ (hw _ (List.mem_of_getElem? (i := 24) rfl))) (mvT hZ (hw _ (List.mem_of_getElem? (i := 23) rfl))) (by decide) (backOf (W := 0) (own_rm4_A l Z a0 hw [] b42 f0 l0 r44_f r44_g (0 : Int32) (1 : Int32) r44_kf [(.int (0 : Int32)), (.int (0 : Int32)), (.int (0 : Int32)), (.int (0 : Int32))] r44_kg [(.int (0 : Int32)), (.int (0 : Int32)), (.int (0 : Int32)), (.int (0 : Int32))] T44.heap n0 z48 q44_0 q44_3 q44_1 q44_2 R46 R47 g_b42 g_r44_f g_r44_g (Ne.symm ne_b42_r44_f) (Ne.symm ne_b42_r44_g) h44_nfg (by decide) (by decide) (Nat.le_of_ble_eq_true rfl) (Nat.le_of_ble_eq_true rfl)) hZ (hw _ (List.mem_of_getElem? (i := 25) rfl)) (hw _ (List.mem_of_getElem? (i := 2) rfl)) (by decide) (by decide)) qa49 qc49 (g := (mkF m 115 #[.val (.int p1), .val (.int p2), .val (.int p3), .val (.int p4), .val (.int p5), .val (.int (1 : Int32)), .val (.int (1 : Int32)), .val (.int f0), .val (.int f1), .val (.int f2), .val (.int l0), .val (.int l1), .val (.int l2), .val (.ref b42), .unset, .unset] [(.int l0), (.int f0), (.ref b42)])) rfl (by rw [hml]; rfl) (Steps.refl _) (argsL := [(.int f0), (.int l0)]) (rest := []) (lenOf own_pd5 rfl) rfl (by show 2 * 0 + _ ≤ _; exact Nat.le_of_eq rfl) (hb hby at_115) (fun _ _ => ⟨rfl, rfl, (by decide : 3 + 0 ≤ _), (by decide : 11 + 0 ≤ _)⟩)
      dsimp only [Pt.U, Pt.locs, Pt.cells, Pt.slots] at X49 l49 y49 z49 st49 hQ49
      subst l49 y49 z49
      obtain ⟨rfl, Nq49, K49, q49_0, q49_1, q49_2, q49_3, q49_4, q49_5⟩ := hQ49
      refine OE.of (fun _ k => st49.trans k) ?_
      have N49 := Fr.app N44 Nq49
      show OE _ p e below s _ _ _ T49 (mkF m 118 #[.val (.int p1), .val (.int p2), .val (.int p3), .val (.int p4), .val (.int p5), .val (.int (1 : Int32)), .val (.int (1 : Int32)), .val (.int f0), .val (.int f1), .val (.int f2), .val (.int l0), .val (.int l1), .val (.int l2), .val (.ref b42), .unset, .unset] [])
      have R50 : Fld Z T49.heap b42 "com/example/corbel/corbel/Peaks" "count" "I" (.int (1 : Int32)) := q49_1
      have R51 : Arv Z T49.heap r44_f r44_kf .int (1 : Int32) [(.int f0), (.int (0 : Int32)), (.int (0 : Int32)), (.int (0 : Int32))] (.int (0 : Int32)) := q49_4
      have R52 : Arv Z T49.heap r44_g r44_kg .int (1 : Int32) [(.int l0), (.int (0 : Int32)), (.int (0 : Int32)), (.int (0 : Int32))] (.int (0 : Int32)) := q49_5
      refine OE.iload X49 hx hby at_118 rfl ?_
      refine OE.iconst X49 hx hby at_120 (2 : Int32) rfl ?_
      refine OE.icmpYes X49 hx hby (pc' := 133) at_121 (tlt (by decide : (1 : Int32) < (2 : Int32))).1 (h := ?_)
      refine OE.iload X49 hx hby at_133 rfl ?_
      refine OE.iconst X49 hx hby at_135 (3 : Int32) rfl ?_
      refine OE.icmpYes X49 hx hby (pc' := 148) at_136 (tlt (by decide : (1 : Int32) < (3 : Int32))).1 (h := ?_)
      have z53 : n0 ≤ T49.heap.size := (Nat.le_trans z48 K49.1)
      have K54 : Keep h0 T49.heap [] := (Keep.trans (Keep.trans K45 K44 (allS (Or.inr sz_b42) all0)) K49 (allS (Or.inr sz_b42) (allS (Or.inr sz_r44_f) (allS (Or.inr sz_r44_g) all0))))
      exact own_tail1 (1 : Int32) b42 r44_f r44_g r44_kf r44_kg (1 : Int32) [(.int (0 : Int32)), (.int (0 : Int32)), (.int (0 : Int32))] [(.int (0 : Int32)), (.int (0 : Int32)), (.int (0 : Int32))] _ _ _ _ _ X49 rfl N49 (by decide) (by decide) z53 K54 q49_0 R50 q49_2 q49_3 R51 R52 (by decide)
    · rw [hr, (by decide : ((1 : Int32) + (1 : Int32)) = (2 : Int32))]
      show OE _ p e below s _ _ _ s₁ (mkF m 92 #[.val (.int p1), .val (.int p2), .val (.int p3), .val (.int p4), .val (.int p5), .val (.int (1 : Int32)), .val (.int (2 : Int32)), .val (.int f0), .val (.int f1), .val (.int f2), .val (.int l0), .val (.int l1), .val (.int l2), .unset, .unset, .unset] [])
      obtain ⟨T55, h55, X55, e55, E55, A55, D55, -, st55⟩ := newO X0 hx hZ hown (hw _ (List.mem_of_getElem? (i := 0) rfl)) (hw _ (List.mem_of_getElem? (i := 1) rfl)) (hw _ (List.mem_of_getElem? (i := 2) rfl)) e0 (g := (mkF m 92 #[.val (.int p1), .val (.int p2), .val (.int p3), .val (.int p4), .val (.int p5), .val (.int (1 : Int32)), .val (.int (2 : Int32)), .val (.int f0), .val (.int f1), .val (.int f2), .val (.int l0), .val (.int l1), .val (.int l2), .unset, .unset, .unset] [])) rfl (hb hby at_92) (by decide) (by decide)
      refine OE.of st55 ?_
      obtain ⟨b55, g55⟩ : ∃ z, z = h0.size := ⟨_, rfl⟩
      rw [← g55] at A55 D55 ⊢
      have g_b55 : n0 ≤ b55 := Nat.le_trans Z0 (Nat.le_of_eq g55.symm)
      have sz_b55 : h0.size ≤ b55 := Nat.le_trans (Keep.refl h0 []).1 (Nat.le_of_eq g55.symm)
      have F55_frequencies : Fld Z h55 b55 "com/example/corbel/corbel/Peaks" "frequencies" "[I" .null := D55 (Or.inl (hw _ (List.mem_of_getElem? (i := 11) rfl))) (ty := (.array .int)) (by decide)
      have F55_lengths : Fld Z h55 b55 "com/example/corbel/corbel/Peaks" "lengths" "[I" .null := D55 (Or.inl (hw _ (List.mem_of_getElem? (i := 13) rfl))) (ty := (.array .int)) (by decide)
      have F55_count : Fld Z h55 b55 "com/example/corbel/corbel/Peaks" "count" "I" (.int (0 : Int32)) := D55 (Or.inl (hw _ (List.mem_of_getElem? (i := 20) rfl))) (ty := .int) (by decide)
      show OE _ p e below s _ _ _ T55 (mkF m 95 #[.val (.int p1), .val (.int p2), .val (.int p3), .val (.int p4), .val (.int p5), .val (.int (1 : Int32)), .val (.int (2 : Int32)), .val (.int f0), .val (.int f1), .val (.int f2), .val (.int l0), .val (.int l1), .val (.int l2), .unset, .unset, .unset] [(.ref b55)])
      refine OE.dup X55 hx hby at_95 rfl ?_
      refine OE.iload X55 hx hby at_96 rfl ?_
      have z56 : n0 ≤ h55.size := (Nat.le_trans Z0 E55.1)
      obtain ⟨_, _, ⟨T57, L57, k57, n57⟩, -, X57, ⟨Lc57, hQ57, l57, y57, z57⟩, st57⟩ := X55.specialBack hx (y := (⟨"com/example/corbel/corbel/Peaks", "<init>", "(I)V"⟩ : MethodName)) rfl hown (mvT hZ (hw _ (List.mem_of_getElem? (i := 3) rfl))) (mvT hZ (hw _ (List.mem_of_getElem? (i := 4) rfl))) (mvT hZ (hw _ (List.mem_of_getElem? (i := 5) rfl))) (by decide) (backOf (W := 1) (own_rm1 l Z a0 hw [] b55 (2 : Int32) h55 n0 z56 A55 F55_frequencies F55_lengths F55_count g_b55 (by decide) (by decide)) hZ (hw _ (List.mem_of_getElem? (i := 5) rfl)) (hw _ (List.mem_of_getElem? (i := 2) rfl)) (by decide) (by decide)) (g := (mkF m 98 #[.val (.int p1), .val (.int p2), .val (.int p3), .val (.int p4), .val (.int p5), .val (.int (1 : Int32)), .val (.int (2 : Int32)), .val (.int f0), .val (.int f1), .val (.int f2), .val (.int l0), .val (.int l1), .val (.int l2), .unset, .unset, .unset] [(.int (2 : Int32)), (.ref b55), (.ref b55)])) rfl (by rw [hml]; rfl) (Steps.refl _) (a := b55) (argsL := [(.int (2 : Int32))]) (rest := [(.ref b55)]) (lenOf own_pd3 rfl) rfl (by show 2 * 0 + _ ≤ _; exact Nat.le_of_eq rfl) (hb hby at_98) (fun _ _ => ⟨rfl, e55, (by decide : 1 + 2 ≤ _), (by decide : 3 + 8 ≤ _)⟩)
      dsimp only [Pt.U, Pt.locs, Pt.cells, Pt.slots] at X57 l57 y57 z57 st57 hQ57
      subst l57 y57 z57
      obtain ⟨r57_f, r57_g, r57_kf, r57_kg, rfl, Nq57, K57, q57_0, q57_1, q57_2, q57_3, q57_4, q57_5, h57_sf, h57_sg, h57_nfg⟩ := hQ57
      refine OE.of (fun _ k => st57.trans k) ?_
      have N57 := Fr.app N0 Nq57
      have ne_b55_r57_f : b55 ≠ r57_f := Nat.ne_of_lt (Nat.lt_of_lt_of_le A55.lt h57_sf)
      have g_r57_f : n0 ≤ r57_f := Nat.le_trans z56 h57_sf
      have K58 : Keep h0 h55 [] := (Keep.ext (Keep.refl h0 []) E55)
      have sz_r57_f : h0.size ≤ r57_f := Nat.le_trans K58.1 h57_sf
      have ne_b55_r57_g : b55 ≠ r57_g := Nat.ne_of_lt (Nat.lt_of_lt_of_le A55.lt h57_sg)
      have g_r57_g : n0 ≤ r57_g := Nat.le_trans z56 h57_sg
      have sz_r57_g : h0.size ≤ r57_g := Nat.le_trans K58.1 h57_sg
      show OE _ p e below s _ _ _ T57 (mkF m 101 #[.val (.int p1), .val (.int p2), .val (.int p3), .val (.int p4), .val (.int p5), .val (.int (1 : Int32)), .val (.int (2 : Int32)), .val (.int f0), .val (.int f1), .val (.int f2), .val (.int l0), .val (.int l1), .val (.int l2), .unset, .unset, .unset] [(.ref b55)])
      have R59 : Arv Z T57.heap r57_f r57_kf .int (2 : Int32) [(.int (0 : Int32)), (.int (0 : Int32)), (.int (0 : Int32)), (.int (0 : Int32))] (.int (0 : Int32)) := q57_4
      have R60 : Arv Z T57.heap r57_g r57_kg .int (2 : Int32) [(.int (0 : Int32)), (.int (0 : Int32)), (.int (0 : Int32)), (.int (0 : Int32))] (.int (0 : Int32)) := q57_5
      refine OE.astore X57 hx hby at_101 rfl (l' := #[.val (.int p1), .val (.int p2), .val (.int p3), .val (.int p4), .val (.int p5), .val (.int (1 : Int32)), .val (.int (2 : Int32)), .val (.int f0), .val (.int f1), .val (.int f2), .val (.int l0), .val (.int l1), .val (.int l2), .val (.ref b55), .unset, .unset]) rfl ?_
      refine OE.iload X57 hx hby at_103 rfl ?_
      refine OE.iconst X57 hx hby at_105 (1 : Int32) rfl ?_
      refine OE.icmpNo X57 hx hby at_106 (flt (by decide : ¬ ((1 : Int32) < (1 : Int32)))).1 ?_
      refine OE.aload X57 hx hby at_109 rfl rfl ?_
      refine OE.iload X57 hx hby at_111 rfl ?_
      refine OE.iload X57 hx hby at_113 rfl ?_
      have z61 : n0 ≤ T57.heap.size := (Nat.le_trans z56 K57.1)
      obtain ⟨cq62, kq62, qa62, qb62, qc62⟩ := isOf hZ rfl q57_0
      obtain ⟨_, _, ⟨T62, L62, k62, n62⟩, -, X62, ⟨Lc62, hQ62, l62, y62, z62⟩, st62⟩ := X57.virtualBack hx (y := (⟨"com/example/corbel/corbel/Peaks", "append", "(II)V"⟩ : MethodName)) (z := (⟨"com/example/corbel/corbel/Peaks", "append", "(II)V"⟩ : MethodName)) hown (mvT hZ (hw _ (List.mem_of_getElem? (i := 21) rfl))) (mvT hZ (hw _ (List.mem_of_getElem? (i := 22) rfl))) (notFace_of_selects (args := #[]) (mvT hZ (hw _ (List.mem_of_getElem? (i := 24) rfl)))) (mvT hZ (hw _ (List.mem_of_getElem? (i := 24) rfl))) (mvT hZ (hw _ (List.mem_of_getElem? (i := 23) rfl))) (by decide) (backOf (W := 0) (own_rm4_A l Z a0 hw [] b55 f0 l0 r57_f r57_g (0 : Int32) (2 : Int32) r57_kf [(.int (0 : Int32)), (.int (0 : Int32)), (.int (0 : Int32)), (.int (0 : Int32))] r57_kg [(.int (0 : Int32)), (.int (0 : Int32)), (.int (0 : Int32)), (.int (0 : Int32))] T57.heap n0 z61 q57_0 q57_3 q57_1 q57_2 R59 R60 g_b55 g_r57_f g_r57_g (Ne.symm ne_b55_r57_f) (Ne.symm ne_b55_r57_g) h57_nfg (by decide) (by decide) (Nat.le_of_ble_eq_true rfl) (Nat.le_of_ble_eq_true rfl)) hZ (hw _ (List.mem_of_getElem? (i := 25) rfl)) (hw _ (List.mem_of_getElem? (i := 2) rfl)) (by decide) (by decide)) qa62 qc62 (g := (mkF m 115 #[.val (.int p1), .val (.int p2), .val (.int p3), .val (.int p4), .val (.int p5), .val (.int (1 : Int32)), .val (.int (2 : Int32)), .val (.int f0), .val (.int f1), .val (.int f2), .val (.int l0), .val (.int l1), .val (.int l2), .val (.ref b55), .unset, .unset] [(.int l0), (.int f0), (.ref b55)])) rfl (by rw [hml]; rfl) (Steps.refl _) (argsL := [(.int f0), (.int l0)]) (rest := []) (lenOf own_pd5 rfl) rfl (by show 2 * 0 + _ ≤ _; exact Nat.le_of_eq rfl) (hb hby at_115) (fun _ _ => ⟨rfl, rfl, (by decide : 3 + 0 ≤ _), (by decide : 11 + 0 ≤ _)⟩)
      dsimp only [Pt.U, Pt.locs, Pt.cells, Pt.slots] at X62 l62 y62 z62 st62 hQ62
      subst l62 y62 z62
      obtain ⟨rfl, Nq62, K62, q62_0, q62_1, q62_2, q62_3, q62_4, q62_5⟩ := hQ62
      refine OE.of (fun _ k => st62.trans k) ?_
      have N62 := Fr.app N57 Nq62
      show OE _ p e below s _ _ _ T62 (mkF m 118 #[.val (.int p1), .val (.int p2), .val (.int p3), .val (.int p4), .val (.int p5), .val (.int (1 : Int32)), .val (.int (2 : Int32)), .val (.int f0), .val (.int f1), .val (.int f2), .val (.int l0), .val (.int l1), .val (.int l2), .val (.ref b55), .unset, .unset] [])
      have R63 : Fld Z T62.heap b55 "com/example/corbel/corbel/Peaks" "count" "I" (.int (1 : Int32)) := q62_1
      have R64 : Arv Z T62.heap r57_f r57_kf .int (2 : Int32) [(.int f0), (.int (0 : Int32)), (.int (0 : Int32)), (.int (0 : Int32))] (.int (0 : Int32)) := q62_4
      have R65 : Arv Z T62.heap r57_g r57_kg .int (2 : Int32) [(.int l0), (.int (0 : Int32)), (.int (0 : Int32)), (.int (0 : Int32))] (.int (0 : Int32)) := q62_5
      refine OE.iload X62 hx hby at_118 rfl ?_
      refine OE.iconst X62 hx hby at_120 (2 : Int32) rfl ?_
      refine OE.icmpYes X62 hx hby (pc' := 133) at_121 (tlt (by decide : (1 : Int32) < (2 : Int32))).1 (h := ?_)
      refine OE.iload X62 hx hby at_133 rfl ?_
      refine OE.iconst X62 hx hby at_135 (3 : Int32) rfl ?_
      refine OE.icmpYes X62 hx hby (pc' := 148) at_136 (tlt (by decide : (1 : Int32) < (3 : Int32))).1 (h := ?_)
      have z66 : n0 ≤ T62.heap.size := (Nat.le_trans z61 K62.1)
      have K67 : Keep h0 T62.heap [] := (Keep.trans (Keep.trans K58 K57 (allS (Or.inr sz_b55) all0)) K62 (allS (Or.inr sz_b55) (allS (Or.inr sz_r57_f) (allS (Or.inr sz_r57_g) all0))))
      exact own_tail1 (2 : Int32) b55 r57_f r57_g r57_kf r57_kg (2 : Int32) [(.int (0 : Int32)), (.int (0 : Int32)), (.int (0 : Int32))] [(.int (0 : Int32)), (.int (0 : Int32)), (.int (0 : Int32))] _ _ _ _ _ X62 rfl N62 (by decide) (by decide) z66 K67 q62_0 R63 q62_2 q62_3 R64 R65 (by decide)
    · rw [hr, (by decide : ((2 : Int32) + (1 : Int32)) = (3 : Int32))]
      show OE _ p e below s _ _ _ s₁ (mkF m 92 #[.val (.int p1), .val (.int p2), .val (.int p3), .val (.int p4), .val (.int p5), .val (.int (1 : Int32)), .val (.int (3 : Int32)), .val (.int f0), .val (.int f1), .val (.int f2), .val (.int l0), .val (.int l1), .val (.int l2), .unset, .unset, .unset] [])
      obtain ⟨T68, h68, X68, e68, E68, A68, D68, -, st68⟩ := newO X0 hx hZ hown (hw _ (List.mem_of_getElem? (i := 0) rfl)) (hw _ (List.mem_of_getElem? (i := 1) rfl)) (hw _ (List.mem_of_getElem? (i := 2) rfl)) e0 (g := (mkF m 92 #[.val (.int p1), .val (.int p2), .val (.int p3), .val (.int p4), .val (.int p5), .val (.int (1 : Int32)), .val (.int (3 : Int32)), .val (.int f0), .val (.int f1), .val (.int f2), .val (.int l0), .val (.int l1), .val (.int l2), .unset, .unset, .unset] [])) rfl (hb hby at_92) (by decide) (by decide)
      refine OE.of st68 ?_
      obtain ⟨b68, g68⟩ : ∃ z, z = h0.size := ⟨_, rfl⟩
      rw [← g68] at A68 D68 ⊢
      have g_b68 : n0 ≤ b68 := Nat.le_trans Z0 (Nat.le_of_eq g68.symm)
      have sz_b68 : h0.size ≤ b68 := Nat.le_trans (Keep.refl h0 []).1 (Nat.le_of_eq g68.symm)
      have F68_frequencies : Fld Z h68 b68 "com/example/corbel/corbel/Peaks" "frequencies" "[I" .null := D68 (Or.inl (hw _ (List.mem_of_getElem? (i := 11) rfl))) (ty := (.array .int)) (by decide)
      have F68_lengths : Fld Z h68 b68 "com/example/corbel/corbel/Peaks" "lengths" "[I" .null := D68 (Or.inl (hw _ (List.mem_of_getElem? (i := 13) rfl))) (ty := (.array .int)) (by decide)
      have F68_count : Fld Z h68 b68 "com/example/corbel/corbel/Peaks" "count" "I" (.int (0 : Int32)) := D68 (Or.inl (hw _ (List.mem_of_getElem? (i := 20) rfl))) (ty := .int) (by decide)
      show OE _ p e below s _ _ _ T68 (mkF m 95 #[.val (.int p1), .val (.int p2), .val (.int p3), .val (.int p4), .val (.int p5), .val (.int (1 : Int32)), .val (.int (3 : Int32)), .val (.int f0), .val (.int f1), .val (.int f2), .val (.int l0), .val (.int l1), .val (.int l2), .unset, .unset, .unset] [(.ref b68)])
      refine OE.dup X68 hx hby at_95 rfl ?_
      refine OE.iload X68 hx hby at_96 rfl ?_
      have z69 : n0 ≤ h68.size := (Nat.le_trans Z0 E68.1)
      obtain ⟨_, _, ⟨T70, L70, k70, n70⟩, -, X70, ⟨Lc70, hQ70, l70, y70, z70⟩, st70⟩ := X68.specialBack hx (y := (⟨"com/example/corbel/corbel/Peaks", "<init>", "(I)V"⟩ : MethodName)) rfl hown (mvT hZ (hw _ (List.mem_of_getElem? (i := 3) rfl))) (mvT hZ (hw _ (List.mem_of_getElem? (i := 4) rfl))) (mvT hZ (hw _ (List.mem_of_getElem? (i := 5) rfl))) (by decide) (backOf (W := 1) (own_rm1 l Z a0 hw [] b68 (3 : Int32) h68 n0 z69 A68 F68_frequencies F68_lengths F68_count g_b68 (by decide) (by decide)) hZ (hw _ (List.mem_of_getElem? (i := 5) rfl)) (hw _ (List.mem_of_getElem? (i := 2) rfl)) (by decide) (by decide)) (g := (mkF m 98 #[.val (.int p1), .val (.int p2), .val (.int p3), .val (.int p4), .val (.int p5), .val (.int (1 : Int32)), .val (.int (3 : Int32)), .val (.int f0), .val (.int f1), .val (.int f2), .val (.int l0), .val (.int l1), .val (.int l2), .unset, .unset, .unset] [(.int (3 : Int32)), (.ref b68), (.ref b68)])) rfl (by rw [hml]; rfl) (Steps.refl _) (a := b68) (argsL := [(.int (3 : Int32))]) (rest := [(.ref b68)]) (lenOf own_pd3 rfl) rfl (by show 2 * 0 + _ ≤ _; exact Nat.le_of_eq rfl) (hb hby at_98) (fun _ _ => ⟨rfl, e68, (by decide : 1 + 2 ≤ _), (by decide : 3 + 8 ≤ _)⟩)
      dsimp only [Pt.U, Pt.locs, Pt.cells, Pt.slots] at X70 l70 y70 z70 st70 hQ70
      subst l70 y70 z70
      obtain ⟨r70_f, r70_g, r70_kf, r70_kg, rfl, Nq70, K70, q70_0, q70_1, q70_2, q70_3, q70_4, q70_5, h70_sf, h70_sg, h70_nfg⟩ := hQ70
      refine OE.of (fun _ k => st70.trans k) ?_
      have N70 := Fr.app N0 Nq70
      have ne_b68_r70_f : b68 ≠ r70_f := Nat.ne_of_lt (Nat.lt_of_lt_of_le A68.lt h70_sf)
      have g_r70_f : n0 ≤ r70_f := Nat.le_trans z69 h70_sf
      have K71 : Keep h0 h68 [] := (Keep.ext (Keep.refl h0 []) E68)
      have sz_r70_f : h0.size ≤ r70_f := Nat.le_trans K71.1 h70_sf
      have ne_b68_r70_g : b68 ≠ r70_g := Nat.ne_of_lt (Nat.lt_of_lt_of_le A68.lt h70_sg)
      have g_r70_g : n0 ≤ r70_g := Nat.le_trans z69 h70_sg
      have sz_r70_g : h0.size ≤ r70_g := Nat.le_trans K71.1 h70_sg
      show OE _ p e below s _ _ _ T70 (mkF m 101 #[.val (.int p1), .val (.int p2), .val (.int p3), .val (.int p4), .val (.int p5), .val (.int (1 : Int32)), .val (.int (3 : Int32)), .val (.int f0), .val (.int f1), .val (.int f2), .val (.int l0), .val (.int l1), .val (.int l2), .unset, .unset, .unset] [(.ref b68)])
      have R72 : Arv Z T70.heap r70_f r70_kf .int (3 : Int32) [(.int (0 : Int32)), (.int (0 : Int32)), (.int (0 : Int32)), (.int (0 : Int32))] (.int (0 : Int32)) := q70_4
      have R73 : Arv Z T70.heap r70_g r70_kg .int (3 : Int32) [(.int (0 : Int32)), (.int (0 : Int32)), (.int (0 : Int32)), (.int (0 : Int32))] (.int (0 : Int32)) := q70_5
      refine OE.astore X70 hx hby at_101 rfl (l' := #[.val (.int p1), .val (.int p2), .val (.int p3), .val (.int p4), .val (.int p5), .val (.int (1 : Int32)), .val (.int (3 : Int32)), .val (.int f0), .val (.int f1), .val (.int f2), .val (.int l0), .val (.int l1), .val (.int l2), .val (.ref b68), .unset, .unset]) rfl ?_
      refine OE.iload X70 hx hby at_103 rfl ?_
      refine OE.iconst X70 hx hby at_105 (1 : Int32) rfl ?_
      refine OE.icmpNo X70 hx hby at_106 (flt (by decide : ¬ ((1 : Int32) < (1 : Int32)))).1 ?_
      refine OE.aload X70 hx hby at_109 rfl rfl ?_
      refine OE.iload X70 hx hby at_111 rfl ?_
      refine OE.iload X70 hx hby at_113 rfl ?_
      have z74 : n0 ≤ T70.heap.size := (Nat.le_trans z69 K70.1)
      obtain ⟨cq75, kq75, qa75, qb75, qc75⟩ := isOf hZ rfl q70_0
      obtain ⟨_, _, ⟨T75, L75, k75, n75⟩, -, X75, ⟨Lc75, hQ75, l75, y75, z75⟩, st75⟩ := X70.virtualBack hx (y := (⟨"com/example/corbel/corbel/Peaks", "append", "(II)V"⟩ : MethodName)) (z := (⟨"com/example/corbel/corbel/Peaks", "append", "(II)V"⟩ : MethodName)) hown (mvT hZ (hw _ (List.mem_of_getElem? (i := 21) rfl))) (mvT hZ (hw _ (List.mem_of_getElem? (i := 22) rfl))) (notFace_of_selects (args := #[]) (mvT hZ (hw _ (List.mem_of_getElem? (i := 24) rfl)))) (mvT hZ (hw _ (List.mem_of_getElem? (i := 24) rfl))) (mvT hZ (hw _ (List.mem_of_getElem? (i := 23) rfl))) (by decide) (backOf (W := 0) (own_rm4_A l Z a0 hw [] b68 f0 l0 r70_f r70_g (0 : Int32) (3 : Int32) r70_kf [(.int (0 : Int32)), (.int (0 : Int32)), (.int (0 : Int32)), (.int (0 : Int32))] r70_kg [(.int (0 : Int32)), (.int (0 : Int32)), (.int (0 : Int32)), (.int (0 : Int32))] T70.heap n0 z74 q70_0 q70_3 q70_1 q70_2 R72 R73 g_b68 g_r70_f g_r70_g (Ne.symm ne_b68_r70_f) (Ne.symm ne_b68_r70_g) h70_nfg (by decide) (by decide) (Nat.le_of_ble_eq_true rfl) (Nat.le_of_ble_eq_true rfl)) hZ (hw _ (List.mem_of_getElem? (i := 25) rfl)) (hw _ (List.mem_of_getElem? (i := 2) rfl)) (by decide) (by decide)) qa75 qc75 (g := (mkF m 115 #[.val (.int p1), .val (.int p2), .val (.int p3), .val (.int p4), .val (.int p5), .val (.int (1 : Int32)), .val (.int (3 : Int32)), .val (.int f0), .val (.int f1), .val (.int f2), .val (.int l0), .val (.int l1), .val (.int l2), .val (.ref b68), .unset, .unset] [(.int l0), (.int f0), (.ref b68)])) rfl (by rw [hml]; rfl) (Steps.refl _) (argsL := [(.int f0), (.int l0)]) (rest := []) (lenOf own_pd5 rfl) rfl (by show 2 * 0 + _ ≤ _; exact Nat.le_of_eq rfl) (hb hby at_115) (fun _ _ => ⟨rfl, rfl, (by decide : 3 + 0 ≤ _), (by decide : 11 + 0 ≤ _)⟩)
      dsimp only [Pt.U, Pt.locs, Pt.cells, Pt.slots] at X75 l75 y75 z75 st75 hQ75
      subst l75 y75 z75
      obtain ⟨rfl, Nq75, K75, q75_0, q75_1, q75_2, q75_3, q75_4, q75_5⟩ := hQ75
      refine OE.of (fun _ k => st75.trans k) ?_
      have N75 := Fr.app N70 Nq75
      show OE _ p e below s _ _ _ T75 (mkF m 118 #[.val (.int p1), .val (.int p2), .val (.int p3), .val (.int p4), .val (.int p5), .val (.int (1 : Int32)), .val (.int (3 : Int32)), .val (.int f0), .val (.int f1), .val (.int f2), .val (.int l0), .val (.int l1), .val (.int l2), .val (.ref b68), .unset, .unset] [])
      have R76 : Fld Z T75.heap b68 "com/example/corbel/corbel/Peaks" "count" "I" (.int (1 : Int32)) := q75_1
      have R77 : Arv Z T75.heap r70_f r70_kf .int (3 : Int32) [(.int f0), (.int (0 : Int32)), (.int (0 : Int32)), (.int (0 : Int32))] (.int (0 : Int32)) := q75_4
      have R78 : Arv Z T75.heap r70_g r70_kg .int (3 : Int32) [(.int l0), (.int (0 : Int32)), (.int (0 : Int32)), (.int (0 : Int32))] (.int (0 : Int32)) := q75_5
      refine OE.iload X75 hx hby at_118 rfl ?_
      refine OE.iconst X75 hx hby at_120 (2 : Int32) rfl ?_
      refine OE.icmpYes X75 hx hby (pc' := 133) at_121 (tlt (by decide : (1 : Int32) < (2 : Int32))).1 (h := ?_)
      refine OE.iload X75 hx hby at_133 rfl ?_
      refine OE.iconst X75 hx hby at_135 (3 : Int32) rfl ?_
      refine OE.icmpYes X75 hx hby (pc' := 148) at_136 (tlt (by decide : (1 : Int32) < (3 : Int32))).1 (h := ?_)
      have z79 : n0 ≤ T75.heap.size := (Nat.le_trans z74 K75.1)
      have K80 : Keep h0 T75.heap [] := (Keep.trans (Keep.trans K71 K70 (allS (Or.inr sz_b68) all0)) K75 (allS (Or.inr sz_b68) (allS (Or.inr sz_r70_f) (allS (Or.inr sz_r70_g) all0))))
      exact own_tail1 (3 : Int32) b68 r70_f r70_g r70_kf r70_kg (3 : Int32) [(.int (0 : Int32)), (.int (0 : Int32)), (.int (0 : Int32))] [(.int (0 : Int32)), (.int (0 : Int32)), (.int (0 : Int32))] _ _ _ _ _ X75 rfl N75 (by decide) (by decide) z79 K80 q75_0 R76 q75_2 q75_3 R77 R78 (by decide)
    · rw [hr, (by decide : ((3 : Int32) + (1 : Int32)) = (4 : Int32))]
      show OE _ p e below s _ _ _ s₁ (mkF m 92 #[.val (.int p1), .val (.int p2), .val (.int p3), .val (.int p4), .val (.int p5), .val (.int (1 : Int32)), .val (.int (4 : Int32)), .val (.int f0), .val (.int f1), .val (.int f2), .val (.int l0), .val (.int l1), .val (.int l2), .unset, .unset, .unset] [])
      obtain ⟨T81, h81, X81, e81, E81, A81, D81, -, st81⟩ := newO X0 hx hZ hown (hw _ (List.mem_of_getElem? (i := 0) rfl)) (hw _ (List.mem_of_getElem? (i := 1) rfl)) (hw _ (List.mem_of_getElem? (i := 2) rfl)) e0 (g := (mkF m 92 #[.val (.int p1), .val (.int p2), .val (.int p3), .val (.int p4), .val (.int p5), .val (.int (1 : Int32)), .val (.int (4 : Int32)), .val (.int f0), .val (.int f1), .val (.int f2), .val (.int l0), .val (.int l1), .val (.int l2), .unset, .unset, .unset] [])) rfl (hb hby at_92) (by decide) (by decide)
      refine OE.of st81 ?_
      obtain ⟨b81, g81⟩ : ∃ z, z = h0.size := ⟨_, rfl⟩
      rw [← g81] at A81 D81 ⊢
      have g_b81 : n0 ≤ b81 := Nat.le_trans Z0 (Nat.le_of_eq g81.symm)
      have sz_b81 : h0.size ≤ b81 := Nat.le_trans (Keep.refl h0 []).1 (Nat.le_of_eq g81.symm)
      have F81_frequencies : Fld Z h81 b81 "com/example/corbel/corbel/Peaks" "frequencies" "[I" .null := D81 (Or.inl (hw _ (List.mem_of_getElem? (i := 11) rfl))) (ty := (.array .int)) (by decide)
      have F81_lengths : Fld Z h81 b81 "com/example/corbel/corbel/Peaks" "lengths" "[I" .null := D81 (Or.inl (hw _ (List.mem_of_getElem? (i := 13) rfl))) (ty := (.array .int)) (by decide)
      have F81_count : Fld Z h81 b81 "com/example/corbel/corbel/Peaks" "count" "I" (.int (0 : Int32)) := D81 (Or.inl (hw _ (List.mem_of_getElem? (i := 20) rfl))) (ty := .int) (by decide)
      show OE _ p e below s _ _ _ T81 (mkF m 95 #[.val (.int p1), .val (.int p2), .val (.int p3), .val (.int p4), .val (.int p5), .val (.int (1 : Int32)), .val (.int (4 : Int32)), .val (.int f0), .val (.int f1), .val (.int f2), .val (.int l0), .val (.int l1), .val (.int l2), .unset, .unset, .unset] [(.ref b81)])
      refine OE.dup X81 hx hby at_95 rfl ?_
      refine OE.iload X81 hx hby at_96 rfl ?_
      have z82 : n0 ≤ h81.size := (Nat.le_trans Z0 E81.1)
      obtain ⟨_, _, ⟨T83, L83, k83, n83⟩, -, X83, ⟨Lc83, hQ83, l83, y83, z83⟩, st83⟩ := X81.specialBack hx (y := (⟨"com/example/corbel/corbel/Peaks", "<init>", "(I)V"⟩ : MethodName)) rfl hown (mvT hZ (hw _ (List.mem_of_getElem? (i := 3) rfl))) (mvT hZ (hw _ (List.mem_of_getElem? (i := 4) rfl))) (mvT hZ (hw _ (List.mem_of_getElem? (i := 5) rfl))) (by decide) (backOf (W := 1) (own_rm1 l Z a0 hw [] b81 (4 : Int32) h81 n0 z82 A81 F81_frequencies F81_lengths F81_count g_b81 (by decide) (by decide)) hZ (hw _ (List.mem_of_getElem? (i := 5) rfl)) (hw _ (List.mem_of_getElem? (i := 2) rfl)) (by decide) (by decide)) (g := (mkF m 98 #[.val (.int p1), .val (.int p2), .val (.int p3), .val (.int p4), .val (.int p5), .val (.int (1 : Int32)), .val (.int (4 : Int32)), .val (.int f0), .val (.int f1), .val (.int f2), .val (.int l0), .val (.int l1), .val (.int l2), .unset, .unset, .unset] [(.int (4 : Int32)), (.ref b81), (.ref b81)])) rfl (by rw [hml]; rfl) (Steps.refl _) (a := b81) (argsL := [(.int (4 : Int32))]) (rest := [(.ref b81)]) (lenOf own_pd3 rfl) rfl (by show 2 * 0 + _ ≤ _; exact Nat.le_of_eq rfl) (hb hby at_98) (fun _ _ => ⟨rfl, e81, (by decide : 1 + 2 ≤ _), (by decide : 3 + 8 ≤ _)⟩)
      dsimp only [Pt.U, Pt.locs, Pt.cells, Pt.slots] at X83 l83 y83 z83 st83 hQ83
      subst l83 y83 z83
      obtain ⟨r83_f, r83_g, r83_kf, r83_kg, rfl, Nq83, K83, q83_0, q83_1, q83_2, q83_3, q83_4, q83_5, h83_sf, h83_sg, h83_nfg⟩ := hQ83
      refine OE.of (fun _ k => st83.trans k) ?_
      have N83 := Fr.app N0 Nq83
      have ne_b81_r83_f : b81 ≠ r83_f := Nat.ne_of_lt (Nat.lt_of_lt_of_le A81.lt h83_sf)
      have g_r83_f : n0 ≤ r83_f := Nat.le_trans z82 h83_sf
      have K84 : Keep h0 h81 [] := (Keep.ext (Keep.refl h0 []) E81)
      have sz_r83_f : h0.size ≤ r83_f := Nat.le_trans K84.1 h83_sf
      have ne_b81_r83_g : b81 ≠ r83_g := Nat.ne_of_lt (Nat.lt_of_lt_of_le A81.lt h83_sg)
      have g_r83_g : n0 ≤ r83_g := Nat.le_trans z82 h83_sg
      have sz_r83_g : h0.size ≤ r83_g := Nat.le_trans K84.1 h83_sg
      show OE _ p e below s _ _ _ T83 (mkF m 101 #[.val (.int p1), .val (.int p2), .val (.int p3), .val (.int p4), .val (.int p5), .val (.int (1 : Int32)), .val (.int (4 : Int32)), .val (.int f0), .val (.int f1), .val (.int f2), .val (.int l0), .val (.int l1), .val (.int l2), .unset, .unset, .unset] [(.ref b81)])
      have R85 : Arv Z T83.heap r83_f r83_kf .int (4 : Int32) [(.int (0 : Int32)), (.int (0 : Int32)), (.int (0 : Int32)), (.int (0 : Int32))] (.int (0 : Int32)) := q83_4
      have R86 : Arv Z T83.heap r83_g r83_kg .int (4 : Int32) [(.int (0 : Int32)), (.int (0 : Int32)), (.int (0 : Int32)), (.int (0 : Int32))] (.int (0 : Int32)) := q83_5
      refine OE.astore X83 hx hby at_101 rfl (l' := #[.val (.int p1), .val (.int p2), .val (.int p3), .val (.int p4), .val (.int p5), .val (.int (1 : Int32)), .val (.int (4 : Int32)), .val (.int f0), .val (.int f1), .val (.int f2), .val (.int l0), .val (.int l1), .val (.int l2), .val (.ref b81), .unset, .unset]) rfl ?_
      refine OE.iload X83 hx hby at_103 rfl ?_
      refine OE.iconst X83 hx hby at_105 (1 : Int32) rfl ?_
      refine OE.icmpNo X83 hx hby at_106 (flt (by decide : ¬ ((1 : Int32) < (1 : Int32)))).1 ?_
      refine OE.aload X83 hx hby at_109 rfl rfl ?_
      refine OE.iload X83 hx hby at_111 rfl ?_
      refine OE.iload X83 hx hby at_113 rfl ?_
      have z87 : n0 ≤ T83.heap.size := (Nat.le_trans z82 K83.1)
      obtain ⟨cq88, kq88, qa88, qb88, qc88⟩ := isOf hZ rfl q83_0
      obtain ⟨_, _, ⟨T88, L88, k88, n88⟩, -, X88, ⟨Lc88, hQ88, l88, y88, z88⟩, st88⟩ := X83.virtualBack hx (y := (⟨"com/example/corbel/corbel/Peaks", "append", "(II)V"⟩ : MethodName)) (z := (⟨"com/example/corbel/corbel/Peaks", "append", "(II)V"⟩ : MethodName)) hown (mvT hZ (hw _ (List.mem_of_getElem? (i := 21) rfl))) (mvT hZ (hw _ (List.mem_of_getElem? (i := 22) rfl))) (notFace_of_selects (args := #[]) (mvT hZ (hw _ (List.mem_of_getElem? (i := 24) rfl)))) (mvT hZ (hw _ (List.mem_of_getElem? (i := 24) rfl))) (mvT hZ (hw _ (List.mem_of_getElem? (i := 23) rfl))) (by decide) (backOf (W := 0) (own_rm4_A l Z a0 hw [] b81 f0 l0 r83_f r83_g (0 : Int32) (4 : Int32) r83_kf [(.int (0 : Int32)), (.int (0 : Int32)), (.int (0 : Int32)), (.int (0 : Int32))] r83_kg [(.int (0 : Int32)), (.int (0 : Int32)), (.int (0 : Int32)), (.int (0 : Int32))] T83.heap n0 z87 q83_0 q83_3 q83_1 q83_2 R85 R86 g_b81 g_r83_f g_r83_g (Ne.symm ne_b81_r83_f) (Ne.symm ne_b81_r83_g) h83_nfg (by decide) (by decide) (Nat.le_of_ble_eq_true rfl) (Nat.le_of_ble_eq_true rfl)) hZ (hw _ (List.mem_of_getElem? (i := 25) rfl)) (hw _ (List.mem_of_getElem? (i := 2) rfl)) (by decide) (by decide)) qa88 qc88 (g := (mkF m 115 #[.val (.int p1), .val (.int p2), .val (.int p3), .val (.int p4), .val (.int p5), .val (.int (1 : Int32)), .val (.int (4 : Int32)), .val (.int f0), .val (.int f1), .val (.int f2), .val (.int l0), .val (.int l1), .val (.int l2), .val (.ref b81), .unset, .unset] [(.int l0), (.int f0), (.ref b81)])) rfl (by rw [hml]; rfl) (Steps.refl _) (argsL := [(.int f0), (.int l0)]) (rest := []) (lenOf own_pd5 rfl) rfl (by show 2 * 0 + _ ≤ _; exact Nat.le_of_eq rfl) (hb hby at_115) (fun _ _ => ⟨rfl, rfl, (by decide : 3 + 0 ≤ _), (by decide : 11 + 0 ≤ _)⟩)
      dsimp only [Pt.U, Pt.locs, Pt.cells, Pt.slots] at X88 l88 y88 z88 st88 hQ88
      subst l88 y88 z88
      obtain ⟨rfl, Nq88, K88, q88_0, q88_1, q88_2, q88_3, q88_4, q88_5⟩ := hQ88
      refine OE.of (fun _ k => st88.trans k) ?_
      have N88 := Fr.app N83 Nq88
      show OE _ p e below s _ _ _ T88 (mkF m 118 #[.val (.int p1), .val (.int p2), .val (.int p3), .val (.int p4), .val (.int p5), .val (.int (1 : Int32)), .val (.int (4 : Int32)), .val (.int f0), .val (.int f1), .val (.int f2), .val (.int l0), .val (.int l1), .val (.int l2), .val (.ref b81), .unset, .unset] [])
      have R89 : Fld Z T88.heap b81 "com/example/corbel/corbel/Peaks" "count" "I" (.int (1 : Int32)) := q88_1
      have R90 : Arv Z T88.heap r83_f r83_kf .int (4 : Int32) [(.int f0), (.int (0 : Int32)), (.int (0 : Int32)), (.int (0 : Int32))] (.int (0 : Int32)) := q88_4
      have R91 : Arv Z T88.heap r83_g r83_kg .int (4 : Int32) [(.int l0), (.int (0 : Int32)), (.int (0 : Int32)), (.int (0 : Int32))] (.int (0 : Int32)) := q88_5
      refine OE.iload X88 hx hby at_118 rfl ?_
      refine OE.iconst X88 hx hby at_120 (2 : Int32) rfl ?_
      refine OE.icmpYes X88 hx hby (pc' := 133) at_121 (tlt (by decide : (1 : Int32) < (2 : Int32))).1 (h := ?_)
      refine OE.iload X88 hx hby at_133 rfl ?_
      refine OE.iconst X88 hx hby at_135 (3 : Int32) rfl ?_
      refine OE.icmpYes X88 hx hby (pc' := 148) at_136 (tlt (by decide : (1 : Int32) < (3 : Int32))).1 (h := ?_)
      have z92 : n0 ≤ T88.heap.size := (Nat.le_trans z87 K88.1)
      have K93 : Keep h0 T88.heap [] := (Keep.trans (Keep.trans K84 K83 (allS (Or.inr sz_b81) all0)) K88 (allS (Or.inr sz_b81) (allS (Or.inr sz_r83_f) (allS (Or.inr sz_r83_g) all0))))
      exact own_tail1 (4 : Int32) b81 r83_f r83_g r83_kf r83_kg (4 : Int32) [(.int (0 : Int32)), (.int (0 : Int32)), (.int (0 : Int32))] [(.int (0 : Int32)), (.int (0 : Int32)), (.int (0 : Int32))] _ _ _ _ _ X88 rfl N88 (by decide) (by decide) z92 K93 q88_0 R89 q88_2 q88_3 R90 R91 (by decide)
  · rw [hn]
    show OE _ p e below s _ _ _ s₁ (mkF m 92 #[.val (.int p1), .val (.int p2), .val (.int p3), .val (.int p4), .val (.int p5), .val (.int (2 : Int32)), .val (.int ((((p5.toUInt32 >>> ((2 : Int32) &&& 31).toUInt32).toInt32) &&& (3 : Int32)) + (1 : Int32))), .val (.int f0), .val (.int f1), .val (.int f2), .val (.int l0), .val (.int l1), .val (.int l2), .unset, .unset, .unset] [])
    have own_tail2 : ∀ (rm : Int32) (b : Addr) (f : Addr) (g : Addr) (kf : ClassId) (kg : ClassId) (cap : Int32) (tF : List Value) (tG : List Value) (T94 : State) (H94 : Heap) (locs94 : List Loc) (cells94 : Nat) (slots94 : Nat), Stand p l e room_1 s m #[(.int p1), (.int p2), (.int p3), (.int p4), (.int p5)] below meth c T94 locs94 cells94 slots94 → T94.heap = H94 → Fr n0 locs94 → cells94 ≤ 24 → slots94 ≤ 128 → n0 ≤ H94.size → Keep h0 H94 [] → Exa Z H94 b "com/example/corbel/corbel/Peaks" → Fld Z H94 b "com/example/corbel/corbel/Peaks" "count" "I" (.int (2 : Int32)) → Fld Z H94 b "com/example/corbel/corbel/Peaks" "frequencies" "[I" (.ref f) → Fld Z H94 b "com/example/corbel/corbel/Peaks" "lengths" "[I" (.ref g) → Arv Z H94 f kf .int cap ((.int f0) :: (.int f1) :: tF) (.int (0 : Int32)) → Arv Z H94 g kg .int cap ((.int l0) :: (.int l1) :: tG) (.int (0 : Int32)) → (0 : Int32) < cap → (1 : Int32) < cap → OE FrameEnd p e below s (own_Q0 Z p1 p2 p3 p4 p5 h0 n0) room_1.cells room_1.slots T94 (mkF m 148 #[.val (.int p1), .val (.int p2), .val (.int p3), .val (.int p4), .val (.int p5), .val (.int (2 : Int32)), .val (.int rm), .val (.int f0), .val (.int f1), .val (.int f2), .val (.int l0), .val (.int l1), .val (.int l2), .val (.ref b), .unset, .unset] []) := by
      intro rm b f g kf kg cap tF tG T94 H94 locs94 cells94 slots94 X94 e94 N94 hcl94 hsl94 z94 K94 tE tC tf tg tVf tVg hn0 hn1
      show OE _ p e below s _ _ _ T94 (mkF m 148 #[.val (.int p1), .val (.int p2), .val (.int p3), .val (.int p4), .val (.int p5), .val (.int (2 : Int32)), .val (.int rm), .val (.int f0), .val (.int f1), .val (.int f2), .val (.int l0), .val (.int l1), .val (.int l2), .val (.ref b), .unset, .unset] [])
      refine OE.aload X94 hx hby at_148 rfl rfl ?_
      refine OE.iloadN X94 hx hby at_150 rfl ?_
      refine OE.iloadN X94 hx hby at_151 rfl ?_
      obtain ⟨cq95, kq95, qa95, qb95, qc95⟩ := isOf hZ e94 tE
      obtain ⟨_, _, ⟨T95, L95, k95, n95⟩, -, X95, ⟨Lc95, hQ95, l95, y95, z95⟩, st95⟩ := X94.virtualBack hx (y := (⟨"com/example/corbel/corbel/Peaks", "bound", "(II)Z"⟩ : MethodName)) (z := (⟨"com/example/corbel/corbel/Peaks", "bound", "(II)Z"⟩ : MethodName)) hown (mvT hZ (hw _ (List.mem_of_getElem? (i := 14) rfl))) (mvT hZ (hw _ (List.mem_of_getElem? (i := 15) rfl))) (notFace_of_selects (args := #[]) (mvT hZ (hw _ (List.mem_of_getElem? (i := 17) rfl)))) (mvT hZ (hw _ (List.mem_of_getElem? (i := 17) rfl))) (mvT hZ (hw _ (List.mem_of_getElem? (i := 16) rfl))) (by decide) (backOf (W := 0) (own_rm3_2 l Z a0 hw [] b p3 p4 f0 f1 l0 l1 tF tG cap f g kf kg H94 n0 z94 tC tf tg tVf tVg hn0 hn1) hZ (hw _ (List.mem_of_getElem? (i := 18) rfl)) (hw _ (List.mem_of_getElem? (i := 2) rfl)) (by decide) (by decide)) qa95 qc95 (g := (mkF m 152 #[.val (.int p1), .val (.int p2), .val (.int p3), .val (.int p4), .val (.int p5), .val (.int (2 : Int32)), .val (.int rm), .val (.int f0), .val (.int f1), .val (.int f2), .val (.int l0), .val (.int l1), .val (.int l2), .val (.ref b), .unset, .unset] [(.int p4), (.int p3), (.ref b)])) rfl (by rw [hml]; rfl) (Steps.refl _) (argsL := [(.int p3), (.int p4)]) (rest := []) (lenOf own_pd2 rfl) rfl (by show 2 * 0 + _ ≤ _; exact Nat.le_of_eq rfl) (hb hby at_152) (fun _ _ => ⟨rfl, e94, (Nat.le_trans (Nat.add_le_add_right hcl94 0) (by decide)), (Nat.le_trans (Nat.add_le_add_right hsl94 0) (by decide))⟩)
      dsimp only [Pt.U, Pt.locs, Pt.cells, Pt.slots] at X95 l95 y95 z95 st95 hQ95
      subst l95 y95 z95
      obtain ⟨rfl, Nq95, eq95⟩ := hQ95
      refine OE.of (fun _ k => st95.trans k) ?_
      have N95 := Fr.app N94 Nq95
      show OE _ p e below s _ _ _ T95 (mkF m 155 #[.val (.int p1), .val (.int p2), .val (.int p3), .val (.int p4), .val (.int p5), .val (.int (2 : Int32)), .val (.int rm), .val (.int f0), .val (.int f1), .val (.int f2), .val (.int l0), .val (.int l1), .val (.int l2), .val (.ref b), .unset, .unset] [(.int (if f0 < p3 then (if f1 < p3 then (0 : Int32) else (if p4 < l1 then (0 : Int32) else (1 : Int32))) else (if p4 < l0 then (if f1 < p3 then (0 : Int32) else (if p4 < l1 then (0 : Int32) else (1 : Int32))) else (1 : Int32))))])
      by_cases hl96 : f0 < p3
      · skip
        rw [if_pos (show f0 < p3 from hl96)]
        show OE _ p e below s _ _ _ T95 (mkF m 155 #[.val (.int p1), .val (.int p2), .val (.int p3), .val (.int p4), .val (.int p5), .val (.int (2 : Int32)), .val (.int rm), .val (.int f0), .val (.int f1), .val (.int f2), .val (.int l0), .val (.int l1), .val (.int l2), .val (.ref b), .unset, .unset] [(.int (if f1 < p3 then (0 : Int32) else (if p4 < l1 then (0 : Int32) else (1 : Int32))))])
        by_cases hl97 : f1 < p3
        · skip
          rw [if_pos (show f1 < p3 from hl97)]
          show OE _ p e below s _ _ _ T95 (mkF m 155 #[.val (.int p1), .val (.int p2), .val (.int p3), .val (.int p4), .val (.int p5), .val (.int (2 : Int32)), .val (.int rm), .val (.int f0), .val (.int f1), .val (.int f2), .val (.int l0), .val (.int l1), .val (.int l2), .val (.ref b), .unset, .unset] [(.int (0 : Int32))])
          refine OE.istore X95 hx hby at_155 (l' := #[.val (.int p1), .val (.int p2), .val (.int p3), .val (.int p4), .val (.int p5), .val (.int (2 : Int32)), .val (.int rm), .val (.int f0), .val (.int f1), .val (.int f2), .val (.int l0), .val (.int l1), .val (.int l2), .val (.ref b), .val (.int (0 : Int32)), .unset]) rfl ?_
          refine OE.iload X95 hx hby at_157 rfl ?_
          refine OE.iconst X95 hx hby at_159 (1 : Int32) rfl ?_
          refine OE.icmpNo X95 hx hby at_160 (flt (by decide : ¬ ((2 : Int32) < (1 : Int32)))).1 ?_
          refine OE.iload X95 hx hby at_163 rfl ?_
          refine OE.iload X95 hx hby at_165 rfl ?_
          refine OE.iloadN X95 hx hby at_167 rfl ?_
          refine OE.iloadN X95 hx hby at_168 rfl ?_
          obtain ⟨_, _, ⟨T98, L98, k98, n98⟩, -, X98, ⟨Lc98, hQ98, l98, y98, z98⟩, st98⟩ := Jvm.LawKit.callS X95 hx (y := (⟨"com/example/corbel/corbel/PeaksBoundPinLaw", "covers", "(IIII)Z"⟩ : MethodName)) hown (mvT hZ (hw _ (List.mem_of_getElem? (i := 38) rfl))) (mvT hZ (hw _ (List.mem_of_getElem? (i := 39) rfl))) (mvT hZ (hw _ (List.mem_of_getElem? (i := 40) rfl))) (mvT hZ (hw _ (List.mem_of_getElem? (i := 41) rfl))) (by decide) (backOf (W := 0) (own_rm7 l Z a0 hw [] f0 l0 p3 p4 H94 n0 z94 ) hZ (hw _ (List.mem_of_getElem? (i := 41) rfl)) (hw _ (List.mem_of_getElem? (i := 40) rfl)) (by decide) (by decide)) (g := (mkF m 169 #[.val (.int p1), .val (.int p2), .val (.int p3), .val (.int p4), .val (.int p5), .val (.int (2 : Int32)), .val (.int rm), .val (.int f0), .val (.int f1), .val (.int f2), .val (.int l0), .val (.int l1), .val (.int l2), .val (.ref b), .val (.int (0 : Int32)), .unset] [(.int p4), (.int p3), (.int l0), (.int f0)])) rfl (by rw [hml]; rfl) (argsL := [(.int f0), (.int l0), (.int p3), (.int p4)]) (rest := []) (lenOf own_pd4 rfl) rfl (by show 2 * 0 + _ ≤ _; exact Nat.le_of_eq rfl) (hb hby at_169) (fun _ _ => ⟨rfl, eq95, (Nat.le_trans (Nat.add_le_add_right (Nat.add_le_add_right hcl94 0) 0) (by decide)), (Nat.le_trans (Nat.add_le_add_right (Nat.add_le_add_right hsl94 0) 0) (by decide))⟩)
          dsimp only [Pt.U, Pt.locs, Pt.cells, Pt.slots] at X98 l98 y98 z98 st98 hQ98
          subst l98 y98 z98
          obtain ⟨rfl, Nq98, eq98⟩ := hQ98
          refine OE.of (fun _ k => st98 _ k) ?_
          have N98 := Fr.app N95 Nq98
          show OE _ p e below s _ _ _ T98 (mkF m 172 #[.val (.int p1), .val (.int p2), .val (.int p3), .val (.int p4), .val (.int p5), .val (.int (2 : Int32)), .val (.int rm), .val (.int f0), .val (.int f1), .val (.int f2), .val (.int l0), .val (.int l1), .val (.int l2), .val (.ref b), .val (.int (0 : Int32)), .unset] [(.int (if f0 < p3 then (0 : Int32) else (if p4 < l0 then (0 : Int32) else (1 : Int32))))])
          rw [if_pos (show f0 < p3 from hl96)]
          show OE _ p e below s _ _ _ T98 (mkF m 172 #[.val (.int p1), .val (.int p2), .val (.int p3), .val (.int p4), .val (.int p5), .val (.int (2 : Int32)), .val (.int rm), .val (.int f0), .val (.int f1), .val (.int f2), .val (.int l0), .val (.int l1), .val (.int l2), .val (.ref b), .val (.int (0 : Int32)), .unset] [(.int (0 : Int32))])
          refine OE.ifNo X98 hx hby at_172 (teq (by decide : (0 : Int32) = (0 : Int32))).2 ?_
          refine OE.iload X98 hx hby at_175 rfl ?_
          refine OE.iconst X98 hx hby at_177 (2 : Int32) rfl ?_
          refine OE.icmpNo X98 hx hby at_178 (flt (by decide : ¬ ((2 : Int32) < (2 : Int32)))).1 ?_
          refine OE.iload X98 hx hby at_181 rfl ?_
          refine OE.iload X98 hx hby at_183 rfl ?_
          refine OE.iloadN X98 hx hby at_185 rfl ?_
          refine OE.iloadN X98 hx hby at_186 rfl ?_
          obtain ⟨_, _, ⟨T99, L99, k99, n99⟩, -, X99, ⟨Lc99, hQ99, l99, y99, z99⟩, st99⟩ := Jvm.LawKit.callS X98 hx (y := (⟨"com/example/corbel/corbel/PeaksBoundPinLaw", "covers", "(IIII)Z"⟩ : MethodName)) hown (mvT hZ (hw _ (List.mem_of_getElem? (i := 38) rfl))) (mvT hZ (hw _ (List.mem_of_getElem? (i := 39) rfl))) (mvT hZ (hw _ (List.mem_of_getElem? (i := 40) rfl))) (mvT hZ (hw _ (List.mem_of_getElem? (i := 41) rfl))) (by decide) (backOf (W := 0) (own_rm7 l Z a0 hw [] f1 l1 p3 p4 H94 n0 z94 ) hZ (hw _ (List.mem_of_getElem? (i := 41) rfl)) (hw _ (List.mem_of_getElem? (i := 40) rfl)) (by decide) (by decide)) (g := (mkF m 187 #[.val (.int p1), .val (.int p2), .val (.int p3), .val (.int p4), .val (.int p5), .val (.int (2 : Int32)), .val (.int rm), .val (.int f0), .val (.int f1), .val (.int f2), .val (.int l0), .val (.int l1), .val (.int l2), .val (.ref b), .val (.int (0 : Int32)), .unset] [(.int p4), (.int p3), (.int l1), (.int f1)])) rfl (by rw [hml]; rfl) (argsL := [(.int f1), (.int l1), (.int p3), (.int p4)]) (rest := []) (lenOf own_pd4 rfl) rfl (by show 2 * 0 + _ ≤ _; exact Nat.le_of_eq rfl) (hb hby at_187) (fun _ _ => ⟨rfl, eq98, (Nat.le_trans (Nat.add_le_add_right (Nat.add_le_add_right (Nat.add_le_add_right hcl94 0) 0) 0) (by decide)), (Nat.le_trans (Nat.add_le_add_right (Nat.add_le_add_right (Nat.add_le_add_right hsl94 0) 0) 0) (by decide))⟩)
          dsimp only [Pt.U, Pt.locs, Pt.cells, Pt.slots] at X99 l99 y99 z99 st99 hQ99
          subst l99 y99 z99
          obtain ⟨rfl, Nq99, eq99⟩ := hQ99
          refine OE.of (fun _ k => st99 _ k) ?_
          have N99 := Fr.app N98 Nq99
          show OE _ p e below s _ _ _ T99 (mkF m 190 #[.val (.int p1), .val (.int p2), .val (.int p3), .val (.int p4), .val (.int p5), .val (.int (2 : Int32)), .val (.int rm), .val (.int f0), .val (.int f1), .val (.int f2), .val (.int l0), .val (.int l1), .val (.int l2), .val (.ref b), .val (.int (0 : Int32)), .unset] [(.int (if f1 < p3 then (0 : Int32) else (if p4 < l1 then (0 : Int32) else (1 : Int32))))])
          rw [if_pos (show f1 < p3 from hl97)]
          show OE _ p e below s _ _ _ T99 (mkF m 190 #[.val (.int p1), .val (.int p2), .val (.int p3), .val (.int p4), .val (.int p5), .val (.int (2 : Int32)), .val (.int rm), .val (.int f0), .val (.int f1), .val (.int f2), .val (.int l0), .val (.int l1), .val (.int l2), .val (.ref b), .val (.int (0 : Int32)), .unset] [(.int (0 : Int32))])
          refine OE.ifNo X99 hx hby at_190 (teq (by decide : (0 : Int32) = (0 : Int32))).2 ?_
          refine OE.iload X99 hx hby at_193 rfl ?_
          refine OE.iconst X99 hx hby at_195 (3 : Int32) rfl ?_
          refine OE.icmpYes X99 hx hby (pc' := 215) at_196 (tlt (by decide : (2 : Int32) < (3 : Int32))).1 (h := ?_)
          refine OE.iconst X99 hx hby at_215 (0 : Int32) rfl ?_
          refine OE.istore X99 hx hby at_216 (l' := #[.val (.int p1), .val (.int p2), .val (.int p3), .val (.int p4), .val (.int p5), .val (.int (2 : Int32)), .val (.int rm), .val (.int f0), .val (.int f1), .val (.int f2), .val (.int l0), .val (.int l1), .val (.int l2), .val (.ref b), .val (.int (0 : Int32)), .val (.int (0 : Int32))]) rfl ?_
          refine OE.iload X99 hx hby at_218 rfl ?_
          refine OE.iload X99 hx hby at_220 rfl ?_
          refine OE.icmpNo X99 hx hby at_222 (teq (by decide : (0 : Int32) = (0 : Int32))).2 ?_
          refine OE.iconst X99 hx hby at_225 (1 : Int32) rfl ?_
          refine OE.goto X99 hx hby (pc' := 230) at_226 (h := ?_)
          refine OE.retN X99 hx (t := .boolean) Bd.returns (by simp) Bd.notSynchronized (hb hby at_230) (Nat.le_trans (Nat.add_le_add_right (Nat.add_le_add_right (Nat.add_le_add_right hcl94 0) 0) 0) (by decide)) (Nat.le_trans (Nat.add_le_add_right (Nat.add_le_add_right (Nat.add_le_add_right hsl94 0) 0) 0) (by decide)) ?_
          rw [eq99]
          exact ⟨rfl, N99⟩
        · skip
          rw [if_neg (show ¬ (f1 < p3) from hl97)]
          show OE _ p e below s _ _ _ T95 (mkF m 155 #[.val (.int p1), .val (.int p2), .val (.int p3), .val (.int p4), .val (.int p5), .val (.int (2 : Int32)), .val (.int rm), .val (.int f0), .val (.int f1), .val (.int f2), .val (.int l0), .val (.int l1), .val (.int l2), .val (.ref b), .unset, .unset] [(.int (if p4 < l1 then (0 : Int32) else (1 : Int32)))])
          by_cases hl100 : p4 < l1
          · skip
            rw [if_pos (show p4 < l1 from hl100)]
            show OE _ p e below s _ _ _ T95 (mkF m 155 #[.val (.int p1), .val (.int p2), .val (.int p3), .val (.int p4), .val (.int p5), .val (.int (2 : Int32)), .val (.int rm), .val (.int f0), .val (.int f1), .val (.int f2), .val (.int l0), .val (.int l1), .val (.int l2), .val (.ref b), .unset, .unset] [(.int (0 : Int32))])
            refine OE.istore X95 hx hby at_155 (l' := #[.val (.int p1), .val (.int p2), .val (.int p3), .val (.int p4), .val (.int p5), .val (.int (2 : Int32)), .val (.int rm), .val (.int f0), .val (.int f1), .val (.int f2), .val (.int l0), .val (.int l1), .val (.int l2), .val (.ref b), .val (.int (0 : Int32)), .unset]) rfl ?_
            refine OE.iload X95 hx hby at_157 rfl ?_
            refine OE.iconst X95 hx hby at_159 (1 : Int32) rfl ?_
            refine OE.icmpNo X95 hx hby at_160 (flt (by decide : ¬ ((2 : Int32) < (1 : Int32)))).1 ?_
            refine OE.iload X95 hx hby at_163 rfl ?_
            refine OE.iload X95 hx hby at_165 rfl ?_
            refine OE.iloadN X95 hx hby at_167 rfl ?_
            refine OE.iloadN X95 hx hby at_168 rfl ?_
            obtain ⟨_, _, ⟨T101, L101, k101, n101⟩, -, X101, ⟨Lc101, hQ101, l101, y101, z101⟩, st101⟩ := Jvm.LawKit.callS X95 hx (y := (⟨"com/example/corbel/corbel/PeaksBoundPinLaw", "covers", "(IIII)Z"⟩ : MethodName)) hown (mvT hZ (hw _ (List.mem_of_getElem? (i := 38) rfl))) (mvT hZ (hw _ (List.mem_of_getElem? (i := 39) rfl))) (mvT hZ (hw _ (List.mem_of_getElem? (i := 40) rfl))) (mvT hZ (hw _ (List.mem_of_getElem? (i := 41) rfl))) (by decide) (backOf (W := 0) (own_rm7 l Z a0 hw [] f0 l0 p3 p4 H94 n0 z94 ) hZ (hw _ (List.mem_of_getElem? (i := 41) rfl)) (hw _ (List.mem_of_getElem? (i := 40) rfl)) (by decide) (by decide)) (g := (mkF m 169 #[.val (.int p1), .val (.int p2), .val (.int p3), .val (.int p4), .val (.int p5), .val (.int (2 : Int32)), .val (.int rm), .val (.int f0), .val (.int f1), .val (.int f2), .val (.int l0), .val (.int l1), .val (.int l2), .val (.ref b), .val (.int (0 : Int32)), .unset] [(.int p4), (.int p3), (.int l0), (.int f0)])) rfl (by rw [hml]; rfl) (argsL := [(.int f0), (.int l0), (.int p3), (.int p4)]) (rest := []) (lenOf own_pd4 rfl) rfl (by show 2 * 0 + _ ≤ _; exact Nat.le_of_eq rfl) (hb hby at_169) (fun _ _ => ⟨rfl, eq95, (Nat.le_trans (Nat.add_le_add_right (Nat.add_le_add_right hcl94 0) 0) (by decide)), (Nat.le_trans (Nat.add_le_add_right (Nat.add_le_add_right hsl94 0) 0) (by decide))⟩)
            dsimp only [Pt.U, Pt.locs, Pt.cells, Pt.slots] at X101 l101 y101 z101 st101 hQ101
            subst l101 y101 z101
            obtain ⟨rfl, Nq101, eq101⟩ := hQ101
            refine OE.of (fun _ k => st101 _ k) ?_
            have N101 := Fr.app N95 Nq101
            show OE _ p e below s _ _ _ T101 (mkF m 172 #[.val (.int p1), .val (.int p2), .val (.int p3), .val (.int p4), .val (.int p5), .val (.int (2 : Int32)), .val (.int rm), .val (.int f0), .val (.int f1), .val (.int f2), .val (.int l0), .val (.int l1), .val (.int l2), .val (.ref b), .val (.int (0 : Int32)), .unset] [(.int (if f0 < p3 then (0 : Int32) else (if p4 < l0 then (0 : Int32) else (1 : Int32))))])
            rw [if_pos (show f0 < p3 from hl96)]
            show OE _ p e below s _ _ _ T101 (mkF m 172 #[.val (.int p1), .val (.int p2), .val (.int p3), .val (.int p4), .val (.int p5), .val (.int (2 : Int32)), .val (.int rm), .val (.int f0), .val (.int f1), .val (.int f2), .val (.int l0), .val (.int l1), .val (.int l2), .val (.ref b), .val (.int (0 : Int32)), .unset] [(.int (0 : Int32))])
            refine OE.ifNo X101 hx hby at_172 (teq (by decide : (0 : Int32) = (0 : Int32))).2 ?_
            refine OE.iload X101 hx hby at_175 rfl ?_
            refine OE.iconst X101 hx hby at_177 (2 : Int32) rfl ?_
            refine OE.icmpNo X101 hx hby at_178 (flt (by decide : ¬ ((2 : Int32) < (2 : Int32)))).1 ?_
            refine OE.iload X101 hx hby at_181 rfl ?_
            refine OE.iload X101 hx hby at_183 rfl ?_
            refine OE.iloadN X101 hx hby at_185 rfl ?_
            refine OE.iloadN X101 hx hby at_186 rfl ?_
            obtain ⟨_, _, ⟨T102, L102, k102, n102⟩, -, X102, ⟨Lc102, hQ102, l102, y102, z102⟩, st102⟩ := Jvm.LawKit.callS X101 hx (y := (⟨"com/example/corbel/corbel/PeaksBoundPinLaw", "covers", "(IIII)Z"⟩ : MethodName)) hown (mvT hZ (hw _ (List.mem_of_getElem? (i := 38) rfl))) (mvT hZ (hw _ (List.mem_of_getElem? (i := 39) rfl))) (mvT hZ (hw _ (List.mem_of_getElem? (i := 40) rfl))) (mvT hZ (hw _ (List.mem_of_getElem? (i := 41) rfl))) (by decide) (backOf (W := 0) (own_rm7 l Z a0 hw [] f1 l1 p3 p4 H94 n0 z94 ) hZ (hw _ (List.mem_of_getElem? (i := 41) rfl)) (hw _ (List.mem_of_getElem? (i := 40) rfl)) (by decide) (by decide)) (g := (mkF m 187 #[.val (.int p1), .val (.int p2), .val (.int p3), .val (.int p4), .val (.int p5), .val (.int (2 : Int32)), .val (.int rm), .val (.int f0), .val (.int f1), .val (.int f2), .val (.int l0), .val (.int l1), .val (.int l2), .val (.ref b), .val (.int (0 : Int32)), .unset] [(.int p4), (.int p3), (.int l1), (.int f1)])) rfl (by rw [hml]; rfl) (argsL := [(.int f1), (.int l1), (.int p3), (.int p4)]) (rest := []) (lenOf own_pd4 rfl) rfl (by show 2 * 0 + _ ≤ _; exact Nat.le_of_eq rfl) (hb hby at_187) (fun _ _ => ⟨rfl, eq101, (Nat.le_trans (Nat.add_le_add_right (Nat.add_le_add_right (Nat.add_le_add_right hcl94 0) 0) 0) (by decide)), (Nat.le_trans (Nat.add_le_add_right (Nat.add_le_add_right (Nat.add_le_add_right hsl94 0) 0) 0) (by decide))⟩)
            dsimp only [Pt.U, Pt.locs, Pt.cells, Pt.slots] at X102 l102 y102 z102 st102 hQ102
            subst l102 y102 z102
            obtain ⟨rfl, Nq102, eq102⟩ := hQ102
            refine OE.of (fun _ k => st102 _ k) ?_
            have N102 := Fr.app N101 Nq102
            show OE _ p e below s _ _ _ T102 (mkF m 190 #[.val (.int p1), .val (.int p2), .val (.int p3), .val (.int p4), .val (.int p5), .val (.int (2 : Int32)), .val (.int rm), .val (.int f0), .val (.int f1), .val (.int f2), .val (.int l0), .val (.int l1), .val (.int l2), .val (.ref b), .val (.int (0 : Int32)), .unset] [(.int (if f1 < p3 then (0 : Int32) else (if p4 < l1 then (0 : Int32) else (1 : Int32))))])
            rw [if_neg (show ¬ (f1 < p3) from hl97)]
            show OE _ p e below s _ _ _ T102 (mkF m 190 #[.val (.int p1), .val (.int p2), .val (.int p3), .val (.int p4), .val (.int p5), .val (.int (2 : Int32)), .val (.int rm), .val (.int f0), .val (.int f1), .val (.int f2), .val (.int l0), .val (.int l1), .val (.int l2), .val (.ref b), .val (.int (0 : Int32)), .unset] [(.int (if p4 < l1 then (0 : Int32) else (1 : Int32)))])
            rw [if_pos (show p4 < l1 from hl100)]
            show OE _ p e below s _ _ _ T102 (mkF m 190 #[.val (.int p1), .val (.int p2), .val (.int p3), .val (.int p4), .val (.int p5), .val (.int (2 : Int32)), .val (.int rm), .val (.int f0), .val (.int f1), .val (.int f2), .val (.int l0), .val (.int l1), .val (.int l2), .val (.ref b), .val (.int (0 : Int32)), .unset] [(.int (0 : Int32))])
            refine OE.ifNo X102 hx hby at_190 (teq (by decide : (0 : Int32) = (0 : Int32))).2 ?_
            refine OE.iload X102 hx hby at_193 rfl ?_
            refine OE.iconst X102 hx hby at_195 (3 : Int32) rfl ?_
            refine OE.icmpYes X102 hx hby (pc' := 215) at_196 (tlt (by decide : (2 : Int32) < (3 : Int32))).1 (h := ?_)
            refine OE.iconst X102 hx hby at_215 (0 : Int32) rfl ?_
            refine OE.istore X102 hx hby at_216 (l' := #[.val (.int p1), .val (.int p2), .val (.int p3), .val (.int p4), .val (.int p5), .val (.int (2 : Int32)), .val (.int rm), .val (.int f0), .val (.int f1), .val (.int f2), .val (.int l0), .val (.int l1), .val (.int l2), .val (.ref b), .val (.int (0 : Int32)), .val (.int (0 : Int32))]) rfl ?_
            refine OE.iload X102 hx hby at_218 rfl ?_
            refine OE.iload X102 hx hby at_220 rfl ?_
            refine OE.icmpNo X102 hx hby at_222 (teq (by decide : (0 : Int32) = (0 : Int32))).2 ?_
            refine OE.iconst X102 hx hby at_225 (1 : Int32) rfl ?_
            refine OE.goto X102 hx hby (pc' := 230) at_226 (h := ?_)
            refine OE.retN X102 hx (t := .boolean) Bd.returns (by simp) Bd.notSynchronized (hb hby at_230) (Nat.le_trans (Nat.add_le_add_right (Nat.add_le_add_right (Nat.add_le_add_right hcl94 0) 0) 0) (by decide)) (Nat.le_trans (Nat.add_le_add_right (Nat.add_le_add_right (Nat.add_le_add_right hsl94 0) 0) 0) (by decide)) ?_
            rw [eq102]
            exact ⟨rfl, N102⟩
          · skip
            rw [if_neg (show ¬ (p4 < l1) from hl100)]
            show OE _ p e below s _ _ _ T95 (mkF m 155 #[.val (.int p1), .val (.int p2), .val (.int p3), .val (.int p4), .val (.int p5), .val (.int (2 : Int32)), .val (.int rm), .val (.int f0), .val (.int f1), .val (.int f2), .val (.int l0), .val (.int l1), .val (.int l2), .val (.ref b), .unset, .unset] [(.int (1 : Int32))])
            refine OE.istore X95 hx hby at_155 (l' := #[.val (.int p1), .val (.int p2), .val (.int p3), .val (.int p4), .val (.int p5), .val (.int (2 : Int32)), .val (.int rm), .val (.int f0), .val (.int f1), .val (.int f2), .val (.int l0), .val (.int l1), .val (.int l2), .val (.ref b), .val (.int (1 : Int32)), .unset]) rfl ?_
            refine OE.iload X95 hx hby at_157 rfl ?_
            refine OE.iconst X95 hx hby at_159 (1 : Int32) rfl ?_
            refine OE.icmpNo X95 hx hby at_160 (flt (by decide : ¬ ((2 : Int32) < (1 : Int32)))).1 ?_
            refine OE.iload X95 hx hby at_163 rfl ?_
            refine OE.iload X95 hx hby at_165 rfl ?_
            refine OE.iloadN X95 hx hby at_167 rfl ?_
            refine OE.iloadN X95 hx hby at_168 rfl ?_
            obtain ⟨_, _, ⟨T103, L103, k103, n103⟩, -, X103, ⟨Lc103, hQ103, l103, y103, z103⟩, st103⟩ := Jvm.LawKit.callS X95 hx (y := (⟨"com/example/corbel/corbel/PeaksBoundPinLaw", "covers", "(IIII)Z"⟩ : MethodName)) hown (mvT hZ (hw _ (List.mem_of_getElem? (i := 38) rfl))) (mvT hZ (hw _ (List.mem_of_getElem? (i := 39) rfl))) (mvT hZ (hw _ (List.mem_of_getElem? (i := 40) rfl))) (mvT hZ (hw _ (List.mem_of_getElem? (i := 41) rfl))) (by decide) (backOf (W := 0) (own_rm7 l Z a0 hw [] f0 l0 p3 p4 H94 n0 z94 ) hZ (hw _ (List.mem_of_getElem? (i := 41) rfl)) (hw _ (List.mem_of_getElem? (i := 40) rfl)) (by decide) (by decide)) (g := (mkF m 169 #[.val (.int p1), .val (.int p2), .val (.int p3), .val (.int p4), .val (.int p5), .val (.int (2 : Int32)), .val (.int rm), .val (.int f0), .val (.int f1), .val (.int f2), .val (.int l0), .val (.int l1), .val (.int l2), .val (.ref b), .val (.int (1 : Int32)), .unset] [(.int p4), (.int p3), (.int l0), (.int f0)])) rfl (by rw [hml]; rfl) (argsL := [(.int f0), (.int l0), (.int p3), (.int p4)]) (rest := []) (lenOf own_pd4 rfl) rfl (by show 2 * 0 + _ ≤ _; exact Nat.le_of_eq rfl) (hb hby at_169) (fun _ _ => ⟨rfl, eq95, (Nat.le_trans (Nat.add_le_add_right (Nat.add_le_add_right hcl94 0) 0) (by decide)), (Nat.le_trans (Nat.add_le_add_right (Nat.add_le_add_right hsl94 0) 0) (by decide))⟩)
            dsimp only [Pt.U, Pt.locs, Pt.cells, Pt.slots] at X103 l103 y103 z103 st103 hQ103
            subst l103 y103 z103
            obtain ⟨rfl, Nq103, eq103⟩ := hQ103
            refine OE.of (fun _ k => st103 _ k) ?_
            have N103 := Fr.app N95 Nq103
            show OE _ p e below s _ _ _ T103 (mkF m 172 #[.val (.int p1), .val (.int p2), .val (.int p3), .val (.int p4), .val (.int p5), .val (.int (2 : Int32)), .val (.int rm), .val (.int f0), .val (.int f1), .val (.int f2), .val (.int l0), .val (.int l1), .val (.int l2), .val (.ref b), .val (.int (1 : Int32)), .unset] [(.int (if f0 < p3 then (0 : Int32) else (if p4 < l0 then (0 : Int32) else (1 : Int32))))])
            rw [if_pos (show f0 < p3 from hl96)]
            show OE _ p e below s _ _ _ T103 (mkF m 172 #[.val (.int p1), .val (.int p2), .val (.int p3), .val (.int p4), .val (.int p5), .val (.int (2 : Int32)), .val (.int rm), .val (.int f0), .val (.int f1), .val (.int f2), .val (.int l0), .val (.int l1), .val (.int l2), .val (.ref b), .val (.int (1 : Int32)), .unset] [(.int (0 : Int32))])
            refine OE.ifNo X103 hx hby at_172 (teq (by decide : (0 : Int32) = (0 : Int32))).2 ?_
            refine OE.iload X103 hx hby at_175 rfl ?_
            refine OE.iconst X103 hx hby at_177 (2 : Int32) rfl ?_
            refine OE.icmpNo X103 hx hby at_178 (flt (by decide : ¬ ((2 : Int32) < (2 : Int32)))).1 ?_
            refine OE.iload X103 hx hby at_181 rfl ?_
            refine OE.iload X103 hx hby at_183 rfl ?_
            refine OE.iloadN X103 hx hby at_185 rfl ?_
            refine OE.iloadN X103 hx hby at_186 rfl ?_
            obtain ⟨_, _, ⟨T104, L104, k104, n104⟩, -, X104, ⟨Lc104, hQ104, l104, y104, z104⟩, st104⟩ := Jvm.LawKit.callS X103 hx (y := (⟨"com/example/corbel/corbel/PeaksBoundPinLaw", "covers", "(IIII)Z"⟩ : MethodName)) hown (mvT hZ (hw _ (List.mem_of_getElem? (i := 38) rfl))) (mvT hZ (hw _ (List.mem_of_getElem? (i := 39) rfl))) (mvT hZ (hw _ (List.mem_of_getElem? (i := 40) rfl))) (mvT hZ (hw _ (List.mem_of_getElem? (i := 41) rfl))) (by decide) (backOf (W := 0) (own_rm7 l Z a0 hw [] f1 l1 p3 p4 H94 n0 z94 ) hZ (hw _ (List.mem_of_getElem? (i := 41) rfl)) (hw _ (List.mem_of_getElem? (i := 40) rfl)) (by decide) (by decide)) (g := (mkF m 187 #[.val (.int p1), .val (.int p2), .val (.int p3), .val (.int p4), .val (.int p5), .val (.int (2 : Int32)), .val (.int rm), .val (.int f0), .val (.int f1), .val (.int f2), .val (.int l0), .val (.int l1), .val (.int l2), .val (.ref b), .val (.int (1 : Int32)), .unset] [(.int p4), (.int p3), (.int l1), (.int f1)])) rfl (by rw [hml]; rfl) (argsL := [(.int f1), (.int l1), (.int p3), (.int p4)]) (rest := []) (lenOf own_pd4 rfl) rfl (by show 2 * 0 + _ ≤ _; exact Nat.le_of_eq rfl) (hb hby at_187) (fun _ _ => ⟨rfl, eq103, (Nat.le_trans (Nat.add_le_add_right (Nat.add_le_add_right (Nat.add_le_add_right hcl94 0) 0) 0) (by decide)), (Nat.le_trans (Nat.add_le_add_right (Nat.add_le_add_right (Nat.add_le_add_right hsl94 0) 0) 0) (by decide))⟩)
            dsimp only [Pt.U, Pt.locs, Pt.cells, Pt.slots] at X104 l104 y104 z104 st104 hQ104
            subst l104 y104 z104
            obtain ⟨rfl, Nq104, eq104⟩ := hQ104
            refine OE.of (fun _ k => st104 _ k) ?_
            have N104 := Fr.app N103 Nq104
            show OE _ p e below s _ _ _ T104 (mkF m 190 #[.val (.int p1), .val (.int p2), .val (.int p3), .val (.int p4), .val (.int p5), .val (.int (2 : Int32)), .val (.int rm), .val (.int f0), .val (.int f1), .val (.int f2), .val (.int l0), .val (.int l1), .val (.int l2), .val (.ref b), .val (.int (1 : Int32)), .unset] [(.int (if f1 < p3 then (0 : Int32) else (if p4 < l1 then (0 : Int32) else (1 : Int32))))])
            rw [if_neg (show ¬ (f1 < p3) from hl97)]
            show OE _ p e below s _ _ _ T104 (mkF m 190 #[.val (.int p1), .val (.int p2), .val (.int p3), .val (.int p4), .val (.int p5), .val (.int (2 : Int32)), .val (.int rm), .val (.int f0), .val (.int f1), .val (.int f2), .val (.int l0), .val (.int l1), .val (.int l2), .val (.ref b), .val (.int (1 : Int32)), .unset] [(.int (if p4 < l1 then (0 : Int32) else (1 : Int32)))])
            rw [if_neg (show ¬ (p4 < l1) from hl100)]
            show OE _ p e below s _ _ _ T104 (mkF m 190 #[.val (.int p1), .val (.int p2), .val (.int p3), .val (.int p4), .val (.int p5), .val (.int (2 : Int32)), .val (.int rm), .val (.int f0), .val (.int f1), .val (.int f2), .val (.int l0), .val (.int l1), .val (.int l2), .val (.ref b), .val (.int (1 : Int32)), .unset] [(.int (1 : Int32))])
            refine OE.ifYes X104 hx hby (pc' := 211) at_190 (feq (by decide : ¬ ((1 : Int32) = (0 : Int32)))).2 (h := ?_)
            refine OE.iconst X104 hx hby at_211 (1 : Int32) rfl ?_
            refine OE.goto X104 hx hby (pc' := 216) at_212 (h := ?_)
            refine OE.istore X104 hx hby at_216 (l' := #[.val (.int p1), .val (.int p2), .val (.int p3), .val (.int p4), .val (.int p5), .val (.int (2 : Int32)), .val (.int rm), .val (.int f0), .val (.int f1), .val (.int f2), .val (.int l0), .val (.int l1), .val (.int l2), .val (.ref b), .val (.int (1 : Int32)), .val (.int (1 : Int32))]) rfl ?_
            refine OE.iload X104 hx hby at_218 rfl ?_
            refine OE.iload X104 hx hby at_220 rfl ?_
            refine OE.icmpNo X104 hx hby at_222 (teq (by decide : (1 : Int32) = (1 : Int32))).2 ?_
            refine OE.iconst X104 hx hby at_225 (1 : Int32) rfl ?_
            refine OE.goto X104 hx hby (pc' := 230) at_226 (h := ?_)
            refine OE.retN X104 hx (t := .boolean) Bd.returns (by simp) Bd.notSynchronized (hb hby at_230) (Nat.le_trans (Nat.add_le_add_right (Nat.add_le_add_right (Nat.add_le_add_right hcl94 0) 0) 0) (by decide)) (Nat.le_trans (Nat.add_le_add_right (Nat.add_le_add_right (Nat.add_le_add_right hsl94 0) 0) 0) (by decide)) ?_
            rw [eq104]
            exact ⟨rfl, N104⟩
      · skip
        rw [if_neg (show ¬ (f0 < p3) from hl96)]
        show OE _ p e below s _ _ _ T95 (mkF m 155 #[.val (.int p1), .val (.int p2), .val (.int p3), .val (.int p4), .val (.int p5), .val (.int (2 : Int32)), .val (.int rm), .val (.int f0), .val (.int f1), .val (.int f2), .val (.int l0), .val (.int l1), .val (.int l2), .val (.ref b), .unset, .unset] [(.int (if p4 < l0 then (if f1 < p3 then (0 : Int32) else (if p4 < l1 then (0 : Int32) else (1 : Int32))) else (1 : Int32)))])
        by_cases hl105 : p4 < l0
        · skip
          rw [if_pos (show p4 < l0 from hl105)]
          show OE _ p e below s _ _ _ T95 (mkF m 155 #[.val (.int p1), .val (.int p2), .val (.int p3), .val (.int p4), .val (.int p5), .val (.int (2 : Int32)), .val (.int rm), .val (.int f0), .val (.int f1), .val (.int f2), .val (.int l0), .val (.int l1), .val (.int l2), .val (.ref b), .unset, .unset] [(.int (if f1 < p3 then (0 : Int32) else (if p4 < l1 then (0 : Int32) else (1 : Int32))))])
          by_cases hl106 : f1 < p3
          · skip
            rw [if_pos (show f1 < p3 from hl106)]
            show OE _ p e below s _ _ _ T95 (mkF m 155 #[.val (.int p1), .val (.int p2), .val (.int p3), .val (.int p4), .val (.int p5), .val (.int (2 : Int32)), .val (.int rm), .val (.int f0), .val (.int f1), .val (.int f2), .val (.int l0), .val (.int l1), .val (.int l2), .val (.ref b), .unset, .unset] [(.int (0 : Int32))])
            refine OE.istore X95 hx hby at_155 (l' := #[.val (.int p1), .val (.int p2), .val (.int p3), .val (.int p4), .val (.int p5), .val (.int (2 : Int32)), .val (.int rm), .val (.int f0), .val (.int f1), .val (.int f2), .val (.int l0), .val (.int l1), .val (.int l2), .val (.ref b), .val (.int (0 : Int32)), .unset]) rfl ?_
            refine OE.iload X95 hx hby at_157 rfl ?_
            refine OE.iconst X95 hx hby at_159 (1 : Int32) rfl ?_
            refine OE.icmpNo X95 hx hby at_160 (flt (by decide : ¬ ((2 : Int32) < (1 : Int32)))).1 ?_
            refine OE.iload X95 hx hby at_163 rfl ?_
            refine OE.iload X95 hx hby at_165 rfl ?_
            refine OE.iloadN X95 hx hby at_167 rfl ?_
            refine OE.iloadN X95 hx hby at_168 rfl ?_
            obtain ⟨_, _, ⟨T107, L107, k107, n107⟩, -, X107, ⟨Lc107, hQ107, l107, y107, z107⟩, st107⟩ := Jvm.LawKit.callS X95 hx (y := (⟨"com/example/corbel/corbel/PeaksBoundPinLaw", "covers", "(IIII)Z"⟩ : MethodName)) hown (mvT hZ (hw _ (List.mem_of_getElem? (i := 38) rfl))) (mvT hZ (hw _ (List.mem_of_getElem? (i := 39) rfl))) (mvT hZ (hw _ (List.mem_of_getElem? (i := 40) rfl))) (mvT hZ (hw _ (List.mem_of_getElem? (i := 41) rfl))) (by decide) (backOf (W := 0) (own_rm7 l Z a0 hw [] f0 l0 p3 p4 H94 n0 z94 ) hZ (hw _ (List.mem_of_getElem? (i := 41) rfl)) (hw _ (List.mem_of_getElem? (i := 40) rfl)) (by decide) (by decide)) (g := (mkF m 169 #[.val (.int p1), .val (.int p2), .val (.int p3), .val (.int p4), .val (.int p5), .val (.int (2 : Int32)), .val (.int rm), .val (.int f0), .val (.int f1), .val (.int f2), .val (.int l0), .val (.int l1), .val (.int l2), .val (.ref b), .val (.int (0 : Int32)), .unset] [(.int p4), (.int p3), (.int l0), (.int f0)])) rfl (by rw [hml]; rfl) (argsL := [(.int f0), (.int l0), (.int p3), (.int p4)]) (rest := []) (lenOf own_pd4 rfl) rfl (by show 2 * 0 + _ ≤ _; exact Nat.le_of_eq rfl) (hb hby at_169) (fun _ _ => ⟨rfl, eq95, (Nat.le_trans (Nat.add_le_add_right (Nat.add_le_add_right hcl94 0) 0) (by decide)), (Nat.le_trans (Nat.add_le_add_right (Nat.add_le_add_right hsl94 0) 0) (by decide))⟩)
            dsimp only [Pt.U, Pt.locs, Pt.cells, Pt.slots] at X107 l107 y107 z107 st107 hQ107
            subst l107 y107 z107
            obtain ⟨rfl, Nq107, eq107⟩ := hQ107
            refine OE.of (fun _ k => st107 _ k) ?_
            have N107 := Fr.app N95 Nq107
            show OE _ p e below s _ _ _ T107 (mkF m 172 #[.val (.int p1), .val (.int p2), .val (.int p3), .val (.int p4), .val (.int p5), .val (.int (2 : Int32)), .val (.int rm), .val (.int f0), .val (.int f1), .val (.int f2), .val (.int l0), .val (.int l1), .val (.int l2), .val (.ref b), .val (.int (0 : Int32)), .unset] [(.int (if f0 < p3 then (0 : Int32) else (if p4 < l0 then (0 : Int32) else (1 : Int32))))])
            rw [if_neg (show ¬ (f0 < p3) from hl96)]
            show OE _ p e below s _ _ _ T107 (mkF m 172 #[.val (.int p1), .val (.int p2), .val (.int p3), .val (.int p4), .val (.int p5), .val (.int (2 : Int32)), .val (.int rm), .val (.int f0), .val (.int f1), .val (.int f2), .val (.int l0), .val (.int l1), .val (.int l2), .val (.ref b), .val (.int (0 : Int32)), .unset] [(.int (if p4 < l0 then (0 : Int32) else (1 : Int32)))])
            rw [if_pos (show p4 < l0 from hl105)]
            show OE _ p e below s _ _ _ T107 (mkF m 172 #[.val (.int p1), .val (.int p2), .val (.int p3), .val (.int p4), .val (.int p5), .val (.int (2 : Int32)), .val (.int rm), .val (.int f0), .val (.int f1), .val (.int f2), .val (.int l0), .val (.int l1), .val (.int l2), .val (.ref b), .val (.int (0 : Int32)), .unset] [(.int (0 : Int32))])
            refine OE.ifNo X107 hx hby at_172 (teq (by decide : (0 : Int32) = (0 : Int32))).2 ?_
            refine OE.iload X107 hx hby at_175 rfl ?_
            refine OE.iconst X107 hx hby at_177 (2 : Int32) rfl ?_
            refine OE.icmpNo X107 hx hby at_178 (flt (by decide : ¬ ((2 : Int32) < (2 : Int32)))).1 ?_
            refine OE.iload X107 hx hby at_181 rfl ?_
            refine OE.iload X107 hx hby at_183 rfl ?_
            refine OE.iloadN X107 hx hby at_185 rfl ?_
            refine OE.iloadN X107 hx hby at_186 rfl ?_
            obtain ⟨_, _, ⟨T108, L108, k108, n108⟩, -, X108, ⟨Lc108, hQ108, l108, y108, z108⟩, st108⟩ := Jvm.LawKit.callS X107 hx (y := (⟨"com/example/corbel/corbel/PeaksBoundPinLaw", "covers", "(IIII)Z"⟩ : MethodName)) hown (mvT hZ (hw _ (List.mem_of_getElem? (i := 38) rfl))) (mvT hZ (hw _ (List.mem_of_getElem? (i := 39) rfl))) (mvT hZ (hw _ (List.mem_of_getElem? (i := 40) rfl))) (mvT hZ (hw _ (List.mem_of_getElem? (i := 41) rfl))) (by decide) (backOf (W := 0) (own_rm7 l Z a0 hw [] f1 l1 p3 p4 H94 n0 z94 ) hZ (hw _ (List.mem_of_getElem? (i := 41) rfl)) (hw _ (List.mem_of_getElem? (i := 40) rfl)) (by decide) (by decide)) (g := (mkF m 187 #[.val (.int p1), .val (.int p2), .val (.int p3), .val (.int p4), .val (.int p5), .val (.int (2 : Int32)), .val (.int rm), .val (.int f0), .val (.int f1), .val (.int f2), .val (.int l0), .val (.int l1), .val (.int l2), .val (.ref b), .val (.int (0 : Int32)), .unset] [(.int p4), (.int p3), (.int l1), (.int f1)])) rfl (by rw [hml]; rfl) (argsL := [(.int f1), (.int l1), (.int p3), (.int p4)]) (rest := []) (lenOf own_pd4 rfl) rfl (by show 2 * 0 + _ ≤ _; exact Nat.le_of_eq rfl) (hb hby at_187) (fun _ _ => ⟨rfl, eq107, (Nat.le_trans (Nat.add_le_add_right (Nat.add_le_add_right (Nat.add_le_add_right hcl94 0) 0) 0) (by decide)), (Nat.le_trans (Nat.add_le_add_right (Nat.add_le_add_right (Nat.add_le_add_right hsl94 0) 0) 0) (by decide))⟩)
            dsimp only [Pt.U, Pt.locs, Pt.cells, Pt.slots] at X108 l108 y108 z108 st108 hQ108
            subst l108 y108 z108
            obtain ⟨rfl, Nq108, eq108⟩ := hQ108
            refine OE.of (fun _ k => st108 _ k) ?_
            have N108 := Fr.app N107 Nq108
            show OE _ p e below s _ _ _ T108 (mkF m 190 #[.val (.int p1), .val (.int p2), .val (.int p3), .val (.int p4), .val (.int p5), .val (.int (2 : Int32)), .val (.int rm), .val (.int f0), .val (.int f1), .val (.int f2), .val (.int l0), .val (.int l1), .val (.int l2), .val (.ref b), .val (.int (0 : Int32)), .unset] [(.int (if f1 < p3 then (0 : Int32) else (if p4 < l1 then (0 : Int32) else (1 : Int32))))])
            rw [if_pos (show f1 < p3 from hl106)]
            show OE _ p e below s _ _ _ T108 (mkF m 190 #[.val (.int p1), .val (.int p2), .val (.int p3), .val (.int p4), .val (.int p5), .val (.int (2 : Int32)), .val (.int rm), .val (.int f0), .val (.int f1), .val (.int f2), .val (.int l0), .val (.int l1), .val (.int l2), .val (.ref b), .val (.int (0 : Int32)), .unset] [(.int (0 : Int32))])
            refine OE.ifNo X108 hx hby at_190 (teq (by decide : (0 : Int32) = (0 : Int32))).2 ?_
            refine OE.iload X108 hx hby at_193 rfl ?_
            refine OE.iconst X108 hx hby at_195 (3 : Int32) rfl ?_
            refine OE.icmpYes X108 hx hby (pc' := 215) at_196 (tlt (by decide : (2 : Int32) < (3 : Int32))).1 (h := ?_)
            refine OE.iconst X108 hx hby at_215 (0 : Int32) rfl ?_
            refine OE.istore X108 hx hby at_216 (l' := #[.val (.int p1), .val (.int p2), .val (.int p3), .val (.int p4), .val (.int p5), .val (.int (2 : Int32)), .val (.int rm), .val (.int f0), .val (.int f1), .val (.int f2), .val (.int l0), .val (.int l1), .val (.int l2), .val (.ref b), .val (.int (0 : Int32)), .val (.int (0 : Int32))]) rfl ?_
            refine OE.iload X108 hx hby at_218 rfl ?_
            refine OE.iload X108 hx hby at_220 rfl ?_
            refine OE.icmpNo X108 hx hby at_222 (teq (by decide : (0 : Int32) = (0 : Int32))).2 ?_
            refine OE.iconst X108 hx hby at_225 (1 : Int32) rfl ?_
            refine OE.goto X108 hx hby (pc' := 230) at_226 (h := ?_)
            refine OE.retN X108 hx (t := .boolean) Bd.returns (by simp) Bd.notSynchronized (hb hby at_230) (Nat.le_trans (Nat.add_le_add_right (Nat.add_le_add_right (Nat.add_le_add_right hcl94 0) 0) 0) (by decide)) (Nat.le_trans (Nat.add_le_add_right (Nat.add_le_add_right (Nat.add_le_add_right hsl94 0) 0) 0) (by decide)) ?_
            rw [eq108]
            exact ⟨rfl, N108⟩
          · skip
            rw [if_neg (show ¬ (f1 < p3) from hl106)]
            show OE _ p e below s _ _ _ T95 (mkF m 155 #[.val (.int p1), .val (.int p2), .val (.int p3), .val (.int p4), .val (.int p5), .val (.int (2 : Int32)), .val (.int rm), .val (.int f0), .val (.int f1), .val (.int f2), .val (.int l0), .val (.int l1), .val (.int l2), .val (.ref b), .unset, .unset] [(.int (if p4 < l1 then (0 : Int32) else (1 : Int32)))])
            by_cases hl109 : p4 < l1
            · skip
              rw [if_pos (show p4 < l1 from hl109)]
              show OE _ p e below s _ _ _ T95 (mkF m 155 #[.val (.int p1), .val (.int p2), .val (.int p3), .val (.int p4), .val (.int p5), .val (.int (2 : Int32)), .val (.int rm), .val (.int f0), .val (.int f1), .val (.int f2), .val (.int l0), .val (.int l1), .val (.int l2), .val (.ref b), .unset, .unset] [(.int (0 : Int32))])
              refine OE.istore X95 hx hby at_155 (l' := #[.val (.int p1), .val (.int p2), .val (.int p3), .val (.int p4), .val (.int p5), .val (.int (2 : Int32)), .val (.int rm), .val (.int f0), .val (.int f1), .val (.int f2), .val (.int l0), .val (.int l1), .val (.int l2), .val (.ref b), .val (.int (0 : Int32)), .unset]) rfl ?_
              refine OE.iload X95 hx hby at_157 rfl ?_
              refine OE.iconst X95 hx hby at_159 (1 : Int32) rfl ?_
              refine OE.icmpNo X95 hx hby at_160 (flt (by decide : ¬ ((2 : Int32) < (1 : Int32)))).1 ?_
              refine OE.iload X95 hx hby at_163 rfl ?_
              refine OE.iload X95 hx hby at_165 rfl ?_
              refine OE.iloadN X95 hx hby at_167 rfl ?_
              refine OE.iloadN X95 hx hby at_168 rfl ?_
              obtain ⟨_, _, ⟨T110, L110, k110, n110⟩, -, X110, ⟨Lc110, hQ110, l110, y110, z110⟩, st110⟩ := Jvm.LawKit.callS X95 hx (y := (⟨"com/example/corbel/corbel/PeaksBoundPinLaw", "covers", "(IIII)Z"⟩ : MethodName)) hown (mvT hZ (hw _ (List.mem_of_getElem? (i := 38) rfl))) (mvT hZ (hw _ (List.mem_of_getElem? (i := 39) rfl))) (mvT hZ (hw _ (List.mem_of_getElem? (i := 40) rfl))) (mvT hZ (hw _ (List.mem_of_getElem? (i := 41) rfl))) (by decide) (backOf (W := 0) (own_rm7 l Z a0 hw [] f0 l0 p3 p4 H94 n0 z94 ) hZ (hw _ (List.mem_of_getElem? (i := 41) rfl)) (hw _ (List.mem_of_getElem? (i := 40) rfl)) (by decide) (by decide)) (g := (mkF m 169 #[.val (.int p1), .val (.int p2), .val (.int p3), .val (.int p4), .val (.int p5), .val (.int (2 : Int32)), .val (.int rm), .val (.int f0), .val (.int f1), .val (.int f2), .val (.int l0), .val (.int l1), .val (.int l2), .val (.ref b), .val (.int (0 : Int32)), .unset] [(.int p4), (.int p3), (.int l0), (.int f0)])) rfl (by rw [hml]; rfl) (argsL := [(.int f0), (.int l0), (.int p3), (.int p4)]) (rest := []) (lenOf own_pd4 rfl) rfl (by show 2 * 0 + _ ≤ _; exact Nat.le_of_eq rfl) (hb hby at_169) (fun _ _ => ⟨rfl, eq95, (Nat.le_trans (Nat.add_le_add_right (Nat.add_le_add_right hcl94 0) 0) (by decide)), (Nat.le_trans (Nat.add_le_add_right (Nat.add_le_add_right hsl94 0) 0) (by decide))⟩)
              dsimp only [Pt.U, Pt.locs, Pt.cells, Pt.slots] at X110 l110 y110 z110 st110 hQ110
              subst l110 y110 z110
              obtain ⟨rfl, Nq110, eq110⟩ := hQ110
              refine OE.of (fun _ k => st110 _ k) ?_
              have N110 := Fr.app N95 Nq110
              show OE _ p e below s _ _ _ T110 (mkF m 172 #[.val (.int p1), .val (.int p2), .val (.int p3), .val (.int p4), .val (.int p5), .val (.int (2 : Int32)), .val (.int rm), .val (.int f0), .val (.int f1), .val (.int f2), .val (.int l0), .val (.int l1), .val (.int l2), .val (.ref b), .val (.int (0 : Int32)), .unset] [(.int (if f0 < p3 then (0 : Int32) else (if p4 < l0 then (0 : Int32) else (1 : Int32))))])
              rw [if_neg (show ¬ (f0 < p3) from hl96)]
              show OE _ p e below s _ _ _ T110 (mkF m 172 #[.val (.int p1), .val (.int p2), .val (.int p3), .val (.int p4), .val (.int p5), .val (.int (2 : Int32)), .val (.int rm), .val (.int f0), .val (.int f1), .val (.int f2), .val (.int l0), .val (.int l1), .val (.int l2), .val (.ref b), .val (.int (0 : Int32)), .unset] [(.int (if p4 < l0 then (0 : Int32) else (1 : Int32)))])
              rw [if_pos (show p4 < l0 from hl105)]
              show OE _ p e below s _ _ _ T110 (mkF m 172 #[.val (.int p1), .val (.int p2), .val (.int p3), .val (.int p4), .val (.int p5), .val (.int (2 : Int32)), .val (.int rm), .val (.int f0), .val (.int f1), .val (.int f2), .val (.int l0), .val (.int l1), .val (.int l2), .val (.ref b), .val (.int (0 : Int32)), .unset] [(.int (0 : Int32))])
              refine OE.ifNo X110 hx hby at_172 (teq (by decide : (0 : Int32) = (0 : Int32))).2 ?_
              refine OE.iload X110 hx hby at_175 rfl ?_
              refine OE.iconst X110 hx hby at_177 (2 : Int32) rfl ?_
              refine OE.icmpNo X110 hx hby at_178 (flt (by decide : ¬ ((2 : Int32) < (2 : Int32)))).1 ?_
              refine OE.iload X110 hx hby at_181 rfl ?_
              refine OE.iload X110 hx hby at_183 rfl ?_
              refine OE.iloadN X110 hx hby at_185 rfl ?_
              refine OE.iloadN X110 hx hby at_186 rfl ?_
              obtain ⟨_, _, ⟨T111, L111, k111, n111⟩, -, X111, ⟨Lc111, hQ111, l111, y111, z111⟩, st111⟩ := Jvm.LawKit.callS X110 hx (y := (⟨"com/example/corbel/corbel/PeaksBoundPinLaw", "covers", "(IIII)Z"⟩ : MethodName)) hown (mvT hZ (hw _ (List.mem_of_getElem? (i := 38) rfl))) (mvT hZ (hw _ (List.mem_of_getElem? (i := 39) rfl))) (mvT hZ (hw _ (List.mem_of_getElem? (i := 40) rfl))) (mvT hZ (hw _ (List.mem_of_getElem? (i := 41) rfl))) (by decide) (backOf (W := 0) (own_rm7 l Z a0 hw [] f1 l1 p3 p4 H94 n0 z94 ) hZ (hw _ (List.mem_of_getElem? (i := 41) rfl)) (hw _ (List.mem_of_getElem? (i := 40) rfl)) (by decide) (by decide)) (g := (mkF m 187 #[.val (.int p1), .val (.int p2), .val (.int p3), .val (.int p4), .val (.int p5), .val (.int (2 : Int32)), .val (.int rm), .val (.int f0), .val (.int f1), .val (.int f2), .val (.int l0), .val (.int l1), .val (.int l2), .val (.ref b), .val (.int (0 : Int32)), .unset] [(.int p4), (.int p3), (.int l1), (.int f1)])) rfl (by rw [hml]; rfl) (argsL := [(.int f1), (.int l1), (.int p3), (.int p4)]) (rest := []) (lenOf own_pd4 rfl) rfl (by show 2 * 0 + _ ≤ _; exact Nat.le_of_eq rfl) (hb hby at_187) (fun _ _ => ⟨rfl, eq110, (Nat.le_trans (Nat.add_le_add_right (Nat.add_le_add_right (Nat.add_le_add_right hcl94 0) 0) 0) (by decide)), (Nat.le_trans (Nat.add_le_add_right (Nat.add_le_add_right (Nat.add_le_add_right hsl94 0) 0) 0) (by decide))⟩)
              dsimp only [Pt.U, Pt.locs, Pt.cells, Pt.slots] at X111 l111 y111 z111 st111 hQ111
              subst l111 y111 z111
              obtain ⟨rfl, Nq111, eq111⟩ := hQ111
              refine OE.of (fun _ k => st111 _ k) ?_
              have N111 := Fr.app N110 Nq111
              show OE _ p e below s _ _ _ T111 (mkF m 190 #[.val (.int p1), .val (.int p2), .val (.int p3), .val (.int p4), .val (.int p5), .val (.int (2 : Int32)), .val (.int rm), .val (.int f0), .val (.int f1), .val (.int f2), .val (.int l0), .val (.int l1), .val (.int l2), .val (.ref b), .val (.int (0 : Int32)), .unset] [(.int (if f1 < p3 then (0 : Int32) else (if p4 < l1 then (0 : Int32) else (1 : Int32))))])
              rw [if_neg (show ¬ (f1 < p3) from hl106)]
              show OE _ p e below s _ _ _ T111 (mkF m 190 #[.val (.int p1), .val (.int p2), .val (.int p3), .val (.int p4), .val (.int p5), .val (.int (2 : Int32)), .val (.int rm), .val (.int f0), .val (.int f1), .val (.int f2), .val (.int l0), .val (.int l1), .val (.int l2), .val (.ref b), .val (.int (0 : Int32)), .unset] [(.int (if p4 < l1 then (0 : Int32) else (1 : Int32)))])
              rw [if_pos (show p4 < l1 from hl109)]
              show OE _ p e below s _ _ _ T111 (mkF m 190 #[.val (.int p1), .val (.int p2), .val (.int p3), .val (.int p4), .val (.int p5), .val (.int (2 : Int32)), .val (.int rm), .val (.int f0), .val (.int f1), .val (.int f2), .val (.int l0), .val (.int l1), .val (.int l2), .val (.ref b), .val (.int (0 : Int32)), .unset] [(.int (0 : Int32))])
              refine OE.ifNo X111 hx hby at_190 (teq (by decide : (0 : Int32) = (0 : Int32))).2 ?_
              refine OE.iload X111 hx hby at_193 rfl ?_
              refine OE.iconst X111 hx hby at_195 (3 : Int32) rfl ?_
              refine OE.icmpYes X111 hx hby (pc' := 215) at_196 (tlt (by decide : (2 : Int32) < (3 : Int32))).1 (h := ?_)
              refine OE.iconst X111 hx hby at_215 (0 : Int32) rfl ?_
              refine OE.istore X111 hx hby at_216 (l' := #[.val (.int p1), .val (.int p2), .val (.int p3), .val (.int p4), .val (.int p5), .val (.int (2 : Int32)), .val (.int rm), .val (.int f0), .val (.int f1), .val (.int f2), .val (.int l0), .val (.int l1), .val (.int l2), .val (.ref b), .val (.int (0 : Int32)), .val (.int (0 : Int32))]) rfl ?_
              refine OE.iload X111 hx hby at_218 rfl ?_
              refine OE.iload X111 hx hby at_220 rfl ?_
              refine OE.icmpNo X111 hx hby at_222 (teq (by decide : (0 : Int32) = (0 : Int32))).2 ?_
              refine OE.iconst X111 hx hby at_225 (1 : Int32) rfl ?_
              refine OE.goto X111 hx hby (pc' := 230) at_226 (h := ?_)
              refine OE.retN X111 hx (t := .boolean) Bd.returns (by simp) Bd.notSynchronized (hb hby at_230) (Nat.le_trans (Nat.add_le_add_right (Nat.add_le_add_right (Nat.add_le_add_right hcl94 0) 0) 0) (by decide)) (Nat.le_trans (Nat.add_le_add_right (Nat.add_le_add_right (Nat.add_le_add_right hsl94 0) 0) 0) (by decide)) ?_
              rw [eq111]
              exact ⟨rfl, N111⟩
            · skip
              rw [if_neg (show ¬ (p4 < l1) from hl109)]
              show OE _ p e below s _ _ _ T95 (mkF m 155 #[.val (.int p1), .val (.int p2), .val (.int p3), .val (.int p4), .val (.int p5), .val (.int (2 : Int32)), .val (.int rm), .val (.int f0), .val (.int f1), .val (.int f2), .val (.int l0), .val (.int l1), .val (.int l2), .val (.ref b), .unset, .unset] [(.int (1 : Int32))])
              refine OE.istore X95 hx hby at_155 (l' := #[.val (.int p1), .val (.int p2), .val (.int p3), .val (.int p4), .val (.int p5), .val (.int (2 : Int32)), .val (.int rm), .val (.int f0), .val (.int f1), .val (.int f2), .val (.int l0), .val (.int l1), .val (.int l2), .val (.ref b), .val (.int (1 : Int32)), .unset]) rfl ?_
              refine OE.iload X95 hx hby at_157 rfl ?_
              refine OE.iconst X95 hx hby at_159 (1 : Int32) rfl ?_
              refine OE.icmpNo X95 hx hby at_160 (flt (by decide : ¬ ((2 : Int32) < (1 : Int32)))).1 ?_
              refine OE.iload X95 hx hby at_163 rfl ?_
              refine OE.iload X95 hx hby at_165 rfl ?_
              refine OE.iloadN X95 hx hby at_167 rfl ?_
              refine OE.iloadN X95 hx hby at_168 rfl ?_
              obtain ⟨_, _, ⟨T112, L112, k112, n112⟩, -, X112, ⟨Lc112, hQ112, l112, y112, z112⟩, st112⟩ := Jvm.LawKit.callS X95 hx (y := (⟨"com/example/corbel/corbel/PeaksBoundPinLaw", "covers", "(IIII)Z"⟩ : MethodName)) hown (mvT hZ (hw _ (List.mem_of_getElem? (i := 38) rfl))) (mvT hZ (hw _ (List.mem_of_getElem? (i := 39) rfl))) (mvT hZ (hw _ (List.mem_of_getElem? (i := 40) rfl))) (mvT hZ (hw _ (List.mem_of_getElem? (i := 41) rfl))) (by decide) (backOf (W := 0) (own_rm7 l Z a0 hw [] f0 l0 p3 p4 H94 n0 z94 ) hZ (hw _ (List.mem_of_getElem? (i := 41) rfl)) (hw _ (List.mem_of_getElem? (i := 40) rfl)) (by decide) (by decide)) (g := (mkF m 169 #[.val (.int p1), .val (.int p2), .val (.int p3), .val (.int p4), .val (.int p5), .val (.int (2 : Int32)), .val (.int rm), .val (.int f0), .val (.int f1), .val (.int f2), .val (.int l0), .val (.int l1), .val (.int l2), .val (.ref b), .val (.int (1 : Int32)), .unset] [(.int p4), (.int p3), (.int l0), (.int f0)])) rfl (by rw [hml]; rfl) (argsL := [(.int f0), (.int l0), (.int p3), (.int p4)]) (rest := []) (lenOf own_pd4 rfl) rfl (by show 2 * 0 + _ ≤ _; exact Nat.le_of_eq rfl) (hb hby at_169) (fun _ _ => ⟨rfl, eq95, (Nat.le_trans (Nat.add_le_add_right (Nat.add_le_add_right hcl94 0) 0) (by decide)), (Nat.le_trans (Nat.add_le_add_right (Nat.add_le_add_right hsl94 0) 0) (by decide))⟩)
              dsimp only [Pt.U, Pt.locs, Pt.cells, Pt.slots] at X112 l112 y112 z112 st112 hQ112
              subst l112 y112 z112
              obtain ⟨rfl, Nq112, eq112⟩ := hQ112
              refine OE.of (fun _ k => st112 _ k) ?_
              have N112 := Fr.app N95 Nq112
              show OE _ p e below s _ _ _ T112 (mkF m 172 #[.val (.int p1), .val (.int p2), .val (.int p3), .val (.int p4), .val (.int p5), .val (.int (2 : Int32)), .val (.int rm), .val (.int f0), .val (.int f1), .val (.int f2), .val (.int l0), .val (.int l1), .val (.int l2), .val (.ref b), .val (.int (1 : Int32)), .unset] [(.int (if f0 < p3 then (0 : Int32) else (if p4 < l0 then (0 : Int32) else (1 : Int32))))])
              rw [if_neg (show ¬ (f0 < p3) from hl96)]
              show OE _ p e below s _ _ _ T112 (mkF m 172 #[.val (.int p1), .val (.int p2), .val (.int p3), .val (.int p4), .val (.int p5), .val (.int (2 : Int32)), .val (.int rm), .val (.int f0), .val (.int f1), .val (.int f2), .val (.int l0), .val (.int l1), .val (.int l2), .val (.ref b), .val (.int (1 : Int32)), .unset] [(.int (if p4 < l0 then (0 : Int32) else (1 : Int32)))])
              rw [if_pos (show p4 < l0 from hl105)]
              show OE _ p e below s _ _ _ T112 (mkF m 172 #[.val (.int p1), .val (.int p2), .val (.int p3), .val (.int p4), .val (.int p5), .val (.int (2 : Int32)), .val (.int rm), .val (.int f0), .val (.int f1), .val (.int f2), .val (.int l0), .val (.int l1), .val (.int l2), .val (.ref b), .val (.int (1 : Int32)), .unset] [(.int (0 : Int32))])
              refine OE.ifNo X112 hx hby at_172 (teq (by decide : (0 : Int32) = (0 : Int32))).2 ?_
              refine OE.iload X112 hx hby at_175 rfl ?_
              refine OE.iconst X112 hx hby at_177 (2 : Int32) rfl ?_
              refine OE.icmpNo X112 hx hby at_178 (flt (by decide : ¬ ((2 : Int32) < (2 : Int32)))).1 ?_
              refine OE.iload X112 hx hby at_181 rfl ?_
              refine OE.iload X112 hx hby at_183 rfl ?_
              refine OE.iloadN X112 hx hby at_185 rfl ?_
              refine OE.iloadN X112 hx hby at_186 rfl ?_
              obtain ⟨_, _, ⟨T113, L113, k113, n113⟩, -, X113, ⟨Lc113, hQ113, l113, y113, z113⟩, st113⟩ := Jvm.LawKit.callS X112 hx (y := (⟨"com/example/corbel/corbel/PeaksBoundPinLaw", "covers", "(IIII)Z"⟩ : MethodName)) hown (mvT hZ (hw _ (List.mem_of_getElem? (i := 38) rfl))) (mvT hZ (hw _ (List.mem_of_getElem? (i := 39) rfl))) (mvT hZ (hw _ (List.mem_of_getElem? (i := 40) rfl))) (mvT hZ (hw _ (List.mem_of_getElem? (i := 41) rfl))) (by decide) (backOf (W := 0) (own_rm7 l Z a0 hw [] f1 l1 p3 p4 H94 n0 z94 ) hZ (hw _ (List.mem_of_getElem? (i := 41) rfl)) (hw _ (List.mem_of_getElem? (i := 40) rfl)) (by decide) (by decide)) (g := (mkF m 187 #[.val (.int p1), .val (.int p2), .val (.int p3), .val (.int p4), .val (.int p5), .val (.int (2 : Int32)), .val (.int rm), .val (.int f0), .val (.int f1), .val (.int f2), .val (.int l0), .val (.int l1), .val (.int l2), .val (.ref b), .val (.int (1 : Int32)), .unset] [(.int p4), (.int p3), (.int l1), (.int f1)])) rfl (by rw [hml]; rfl) (argsL := [(.int f1), (.int l1), (.int p3), (.int p4)]) (rest := []) (lenOf own_pd4 rfl) rfl (by show 2 * 0 + _ ≤ _; exact Nat.le_of_eq rfl) (hb hby at_187) (fun _ _ => ⟨rfl, eq112, (Nat.le_trans (Nat.add_le_add_right (Nat.add_le_add_right (Nat.add_le_add_right hcl94 0) 0) 0) (by decide)), (Nat.le_trans (Nat.add_le_add_right (Nat.add_le_add_right (Nat.add_le_add_right hsl94 0) 0) 0) (by decide))⟩)
              dsimp only [Pt.U, Pt.locs, Pt.cells, Pt.slots] at X113 l113 y113 z113 st113 hQ113
              subst l113 y113 z113
              obtain ⟨rfl, Nq113, eq113⟩ := hQ113
              refine OE.of (fun _ k => st113 _ k) ?_
              have N113 := Fr.app N112 Nq113
              show OE _ p e below s _ _ _ T113 (mkF m 190 #[.val (.int p1), .val (.int p2), .val (.int p3), .val (.int p4), .val (.int p5), .val (.int (2 : Int32)), .val (.int rm), .val (.int f0), .val (.int f1), .val (.int f2), .val (.int l0), .val (.int l1), .val (.int l2), .val (.ref b), .val (.int (1 : Int32)), .unset] [(.int (if f1 < p3 then (0 : Int32) else (if p4 < l1 then (0 : Int32) else (1 : Int32))))])
              rw [if_neg (show ¬ (f1 < p3) from hl106)]
              show OE _ p e below s _ _ _ T113 (mkF m 190 #[.val (.int p1), .val (.int p2), .val (.int p3), .val (.int p4), .val (.int p5), .val (.int (2 : Int32)), .val (.int rm), .val (.int f0), .val (.int f1), .val (.int f2), .val (.int l0), .val (.int l1), .val (.int l2), .val (.ref b), .val (.int (1 : Int32)), .unset] [(.int (if p4 < l1 then (0 : Int32) else (1 : Int32)))])
              rw [if_neg (show ¬ (p4 < l1) from hl109)]
              show OE _ p e below s _ _ _ T113 (mkF m 190 #[.val (.int p1), .val (.int p2), .val (.int p3), .val (.int p4), .val (.int p5), .val (.int (2 : Int32)), .val (.int rm), .val (.int f0), .val (.int f1), .val (.int f2), .val (.int l0), .val (.int l1), .val (.int l2), .val (.ref b), .val (.int (1 : Int32)), .unset] [(.int (1 : Int32))])
              refine OE.ifYes X113 hx hby (pc' := 211) at_190 (feq (by decide : ¬ ((1 : Int32) = (0 : Int32)))).2 (h := ?_)
              refine OE.iconst X113 hx hby at_211 (1 : Int32) rfl ?_
              refine OE.goto X113 hx hby (pc' := 216) at_212 (h := ?_)
              refine OE.istore X113 hx hby at_216 (l' := #[.val (.int p1), .val (.int p2), .val (.int p3), .val (.int p4), .val (.int p5), .val (.int (2 : Int32)), .val (.int rm), .val (.int f0), .val (.int f1), .val (.int f2), .val (.int l0), .val (.int l1), .val (.int l2), .val (.ref b), .val (.int (1 : Int32)), .val (.int (1 : Int32))]) rfl ?_
              refine OE.iload X113 hx hby at_218 rfl ?_
              refine OE.iload X113 hx hby at_220 rfl ?_
              refine OE.icmpNo X113 hx hby at_222 (teq (by decide : (1 : Int32) = (1 : Int32))).2 ?_
              refine OE.iconst X113 hx hby at_225 (1 : Int32) rfl ?_
              refine OE.goto X113 hx hby (pc' := 230) at_226 (h := ?_)
              refine OE.retN X113 hx (t := .boolean) Bd.returns (by simp) Bd.notSynchronized (hb hby at_230) (Nat.le_trans (Nat.add_le_add_right (Nat.add_le_add_right (Nat.add_le_add_right hcl94 0) 0) 0) (by decide)) (Nat.le_trans (Nat.add_le_add_right (Nat.add_le_add_right (Nat.add_le_add_right hsl94 0) 0) 0) (by decide)) ?_
              rw [eq113]
              exact ⟨rfl, N113⟩
        · skip
          rw [if_neg (show ¬ (p4 < l0) from hl105)]
          show OE _ p e below s _ _ _ T95 (mkF m 155 #[.val (.int p1), .val (.int p2), .val (.int p3), .val (.int p4), .val (.int p5), .val (.int (2 : Int32)), .val (.int rm), .val (.int f0), .val (.int f1), .val (.int f2), .val (.int l0), .val (.int l1), .val (.int l2), .val (.ref b), .unset, .unset] [(.int (1 : Int32))])
          refine OE.istore X95 hx hby at_155 (l' := #[.val (.int p1), .val (.int p2), .val (.int p3), .val (.int p4), .val (.int p5), .val (.int (2 : Int32)), .val (.int rm), .val (.int f0), .val (.int f1), .val (.int f2), .val (.int l0), .val (.int l1), .val (.int l2), .val (.ref b), .val (.int (1 : Int32)), .unset]) rfl ?_
          refine OE.iload X95 hx hby at_157 rfl ?_
          refine OE.iconst X95 hx hby at_159 (1 : Int32) rfl ?_
          refine OE.icmpNo X95 hx hby at_160 (flt (by decide : ¬ ((2 : Int32) < (1 : Int32)))).1 ?_
          refine OE.iload X95 hx hby at_163 rfl ?_
          refine OE.iload X95 hx hby at_165 rfl ?_
          refine OE.iloadN X95 hx hby at_167 rfl ?_
          refine OE.iloadN X95 hx hby at_168 rfl ?_
          obtain ⟨_, _, ⟨T114, L114, k114, n114⟩, -, X114, ⟨Lc114, hQ114, l114, y114, z114⟩, st114⟩ := Jvm.LawKit.callS X95 hx (y := (⟨"com/example/corbel/corbel/PeaksBoundPinLaw", "covers", "(IIII)Z"⟩ : MethodName)) hown (mvT hZ (hw _ (List.mem_of_getElem? (i := 38) rfl))) (mvT hZ (hw _ (List.mem_of_getElem? (i := 39) rfl))) (mvT hZ (hw _ (List.mem_of_getElem? (i := 40) rfl))) (mvT hZ (hw _ (List.mem_of_getElem? (i := 41) rfl))) (by decide) (backOf (W := 0) (own_rm7 l Z a0 hw [] f0 l0 p3 p4 H94 n0 z94 ) hZ (hw _ (List.mem_of_getElem? (i := 41) rfl)) (hw _ (List.mem_of_getElem? (i := 40) rfl)) (by decide) (by decide)) (g := (mkF m 169 #[.val (.int p1), .val (.int p2), .val (.int p3), .val (.int p4), .val (.int p5), .val (.int (2 : Int32)), .val (.int rm), .val (.int f0), .val (.int f1), .val (.int f2), .val (.int l0), .val (.int l1), .val (.int l2), .val (.ref b), .val (.int (1 : Int32)), .unset] [(.int p4), (.int p3), (.int l0), (.int f0)])) rfl (by rw [hml]; rfl) (argsL := [(.int f0), (.int l0), (.int p3), (.int p4)]) (rest := []) (lenOf own_pd4 rfl) rfl (by show 2 * 0 + _ ≤ _; exact Nat.le_of_eq rfl) (hb hby at_169) (fun _ _ => ⟨rfl, eq95, (Nat.le_trans (Nat.add_le_add_right (Nat.add_le_add_right hcl94 0) 0) (by decide)), (Nat.le_trans (Nat.add_le_add_right (Nat.add_le_add_right hsl94 0) 0) (by decide))⟩)
          dsimp only [Pt.U, Pt.locs, Pt.cells, Pt.slots] at X114 l114 y114 z114 st114 hQ114
          subst l114 y114 z114
          obtain ⟨rfl, Nq114, eq114⟩ := hQ114
          refine OE.of (fun _ k => st114 _ k) ?_
          have N114 := Fr.app N95 Nq114
          show OE _ p e below s _ _ _ T114 (mkF m 172 #[.val (.int p1), .val (.int p2), .val (.int p3), .val (.int p4), .val (.int p5), .val (.int (2 : Int32)), .val (.int rm), .val (.int f0), .val (.int f1), .val (.int f2), .val (.int l0), .val (.int l1), .val (.int l2), .val (.ref b), .val (.int (1 : Int32)), .unset] [(.int (if f0 < p3 then (0 : Int32) else (if p4 < l0 then (0 : Int32) else (1 : Int32))))])
          rw [if_neg (show ¬ (f0 < p3) from hl96)]
          show OE _ p e below s _ _ _ T114 (mkF m 172 #[.val (.int p1), .val (.int p2), .val (.int p3), .val (.int p4), .val (.int p5), .val (.int (2 : Int32)), .val (.int rm), .val (.int f0), .val (.int f1), .val (.int f2), .val (.int l0), .val (.int l1), .val (.int l2), .val (.ref b), .val (.int (1 : Int32)), .unset] [(.int (if p4 < l0 then (0 : Int32) else (1 : Int32)))])
          rw [if_neg (show ¬ (p4 < l0) from hl105)]
          show OE _ p e below s _ _ _ T114 (mkF m 172 #[.val (.int p1), .val (.int p2), .val (.int p3), .val (.int p4), .val (.int p5), .val (.int (2 : Int32)), .val (.int rm), .val (.int f0), .val (.int f1), .val (.int f2), .val (.int l0), .val (.int l1), .val (.int l2), .val (.ref b), .val (.int (1 : Int32)), .unset] [(.int (1 : Int32))])
          refine OE.ifYes X114 hx hby (pc' := 211) at_172 (feq (by decide : ¬ ((1 : Int32) = (0 : Int32)))).2 (h := ?_)
          refine OE.iconst X114 hx hby at_211 (1 : Int32) rfl ?_
          refine OE.goto X114 hx hby (pc' := 216) at_212 (h := ?_)
          refine OE.istore X114 hx hby at_216 (l' := #[.val (.int p1), .val (.int p2), .val (.int p3), .val (.int p4), .val (.int p5), .val (.int (2 : Int32)), .val (.int rm), .val (.int f0), .val (.int f1), .val (.int f2), .val (.int l0), .val (.int l1), .val (.int l2), .val (.ref b), .val (.int (1 : Int32)), .val (.int (1 : Int32))]) rfl ?_
          refine OE.iload X114 hx hby at_218 rfl ?_
          refine OE.iload X114 hx hby at_220 rfl ?_
          refine OE.icmpNo X114 hx hby at_222 (teq (by decide : (1 : Int32) = (1 : Int32))).2 ?_
          refine OE.iconst X114 hx hby at_225 (1 : Int32) rfl ?_
          refine OE.goto X114 hx hby (pc' := 230) at_226 (h := ?_)
          refine OE.retN X114 hx (t := .boolean) Bd.returns (by simp) Bd.notSynchronized (hb hby at_230) (Nat.le_trans (Nat.add_le_add_right (Nat.add_le_add_right hcl94 0) 0) (by decide)) (Nat.le_trans (Nat.add_le_add_right (Nat.add_le_add_right hsl94 0) 0) (by decide)) ?_
          rw [eq114]
          exact ⟨rfl, N114⟩
    rcases own_and3 ((p5.toUInt32 >>> ((2 : Int32) &&& 31).toUInt32).toInt32) with hr | hr | hr | hr
    · rw [hr, (by decide : ((0 : Int32) + (1 : Int32)) = (1 : Int32))]
      show OE _ p e below s _ _ _ s₁ (mkF m 92 #[.val (.int p1), .val (.int p2), .val (.int p3), .val (.int p4), .val (.int p5), .val (.int (2 : Int32)), .val (.int (1 : Int32)), .val (.int f0), .val (.int f1), .val (.int f2), .val (.int l0), .val (.int l1), .val (.int l2), .unset, .unset, .unset] [])
      obtain ⟨T115, h115, X115, e115, E115, A115, D115, -, st115⟩ := newO X0 hx hZ hown (hw _ (List.mem_of_getElem? (i := 0) rfl)) (hw _ (List.mem_of_getElem? (i := 1) rfl)) (hw _ (List.mem_of_getElem? (i := 2) rfl)) e0 (g := (mkF m 92 #[.val (.int p1), .val (.int p2), .val (.int p3), .val (.int p4), .val (.int p5), .val (.int (2 : Int32)), .val (.int (1 : Int32)), .val (.int f0), .val (.int f1), .val (.int f2), .val (.int l0), .val (.int l1), .val (.int l2), .unset, .unset, .unset] [])) rfl (hb hby at_92) (by decide) (by decide)
      refine OE.of st115 ?_
      obtain ⟨b115, g115⟩ : ∃ z, z = h0.size := ⟨_, rfl⟩
      rw [← g115] at A115 D115 ⊢
      have g_b115 : n0 ≤ b115 := Nat.le_trans Z0 (Nat.le_of_eq g115.symm)
      have sz_b115 : h0.size ≤ b115 := Nat.le_trans (Keep.refl h0 []).1 (Nat.le_of_eq g115.symm)
      have F115_frequencies : Fld Z h115 b115 "com/example/corbel/corbel/Peaks" "frequencies" "[I" .null := D115 (Or.inl (hw _ (List.mem_of_getElem? (i := 11) rfl))) (ty := (.array .int)) (by decide)
      have F115_lengths : Fld Z h115 b115 "com/example/corbel/corbel/Peaks" "lengths" "[I" .null := D115 (Or.inl (hw _ (List.mem_of_getElem? (i := 13) rfl))) (ty := (.array .int)) (by decide)
      have F115_count : Fld Z h115 b115 "com/example/corbel/corbel/Peaks" "count" "I" (.int (0 : Int32)) := D115 (Or.inl (hw _ (List.mem_of_getElem? (i := 20) rfl))) (ty := .int) (by decide)
      show OE _ p e below s _ _ _ T115 (mkF m 95 #[.val (.int p1), .val (.int p2), .val (.int p3), .val (.int p4), .val (.int p5), .val (.int (2 : Int32)), .val (.int (1 : Int32)), .val (.int f0), .val (.int f1), .val (.int f2), .val (.int l0), .val (.int l1), .val (.int l2), .unset, .unset, .unset] [(.ref b115)])
      refine OE.dup X115 hx hby at_95 rfl ?_
      refine OE.iload X115 hx hby at_96 rfl ?_
      have z116 : n0 ≤ h115.size := (Nat.le_trans Z0 E115.1)
      obtain ⟨_, _, ⟨T117, L117, k117, n117⟩, -, X117, ⟨Lc117, hQ117, l117, y117, z117⟩, st117⟩ := X115.specialBack hx (y := (⟨"com/example/corbel/corbel/Peaks", "<init>", "(I)V"⟩ : MethodName)) rfl hown (mvT hZ (hw _ (List.mem_of_getElem? (i := 3) rfl))) (mvT hZ (hw _ (List.mem_of_getElem? (i := 4) rfl))) (mvT hZ (hw _ (List.mem_of_getElem? (i := 5) rfl))) (by decide) (backOf (W := 1) (own_rm1 l Z a0 hw [] b115 (1 : Int32) h115 n0 z116 A115 F115_frequencies F115_lengths F115_count g_b115 (by decide) (by decide)) hZ (hw _ (List.mem_of_getElem? (i := 5) rfl)) (hw _ (List.mem_of_getElem? (i := 2) rfl)) (by decide) (by decide)) (g := (mkF m 98 #[.val (.int p1), .val (.int p2), .val (.int p3), .val (.int p4), .val (.int p5), .val (.int (2 : Int32)), .val (.int (1 : Int32)), .val (.int f0), .val (.int f1), .val (.int f2), .val (.int l0), .val (.int l1), .val (.int l2), .unset, .unset, .unset] [(.int (1 : Int32)), (.ref b115), (.ref b115)])) rfl (by rw [hml]; rfl) (Steps.refl _) (a := b115) (argsL := [(.int (1 : Int32))]) (rest := [(.ref b115)]) (lenOf own_pd3 rfl) rfl (by show 2 * 0 + _ ≤ _; exact Nat.le_of_eq rfl) (hb hby at_98) (fun _ _ => ⟨rfl, e115, (by decide : 1 + 2 ≤ _), (by decide : 3 + 8 ≤ _)⟩)
      dsimp only [Pt.U, Pt.locs, Pt.cells, Pt.slots] at X117 l117 y117 z117 st117 hQ117
      subst l117 y117 z117
      obtain ⟨r117_f, r117_g, r117_kf, r117_kg, rfl, Nq117, K117, q117_0, q117_1, q117_2, q117_3, q117_4, q117_5, h117_sf, h117_sg, h117_nfg⟩ := hQ117
      refine OE.of (fun _ k => st117.trans k) ?_
      have N117 := Fr.app N0 Nq117
      have ne_b115_r117_f : b115 ≠ r117_f := Nat.ne_of_lt (Nat.lt_of_lt_of_le A115.lt h117_sf)
      have g_r117_f : n0 ≤ r117_f := Nat.le_trans z116 h117_sf
      have K118 : Keep h0 h115 [] := (Keep.ext (Keep.refl h0 []) E115)
      have sz_r117_f : h0.size ≤ r117_f := Nat.le_trans K118.1 h117_sf
      have ne_b115_r117_g : b115 ≠ r117_g := Nat.ne_of_lt (Nat.lt_of_lt_of_le A115.lt h117_sg)
      have g_r117_g : n0 ≤ r117_g := Nat.le_trans z116 h117_sg
      have sz_r117_g : h0.size ≤ r117_g := Nat.le_trans K118.1 h117_sg
      show OE _ p e below s _ _ _ T117 (mkF m 101 #[.val (.int p1), .val (.int p2), .val (.int p3), .val (.int p4), .val (.int p5), .val (.int (2 : Int32)), .val (.int (1 : Int32)), .val (.int f0), .val (.int f1), .val (.int f2), .val (.int l0), .val (.int l1), .val (.int l2), .unset, .unset, .unset] [(.ref b115)])
      have R119 : Arv Z T117.heap r117_f r117_kf .int (1 : Int32) [(.int (0 : Int32)), (.int (0 : Int32)), (.int (0 : Int32)), (.int (0 : Int32))] (.int (0 : Int32)) := q117_4
      have R120 : Arv Z T117.heap r117_g r117_kg .int (1 : Int32) [(.int (0 : Int32)), (.int (0 : Int32)), (.int (0 : Int32)), (.int (0 : Int32))] (.int (0 : Int32)) := q117_5
      refine OE.astore X117 hx hby at_101 rfl (l' := #[.val (.int p1), .val (.int p2), .val (.int p3), .val (.int p4), .val (.int p5), .val (.int (2 : Int32)), .val (.int (1 : Int32)), .val (.int f0), .val (.int f1), .val (.int f2), .val (.int l0), .val (.int l1), .val (.int l2), .val (.ref b115), .unset, .unset]) rfl ?_
      refine OE.iload X117 hx hby at_103 rfl ?_
      refine OE.iconst X117 hx hby at_105 (1 : Int32) rfl ?_
      refine OE.icmpNo X117 hx hby at_106 (flt (by decide : ¬ ((2 : Int32) < (1 : Int32)))).1 ?_
      refine OE.aload X117 hx hby at_109 rfl rfl ?_
      refine OE.iload X117 hx hby at_111 rfl ?_
      refine OE.iload X117 hx hby at_113 rfl ?_
      have z121 : n0 ≤ T117.heap.size := (Nat.le_trans z116 K117.1)
      obtain ⟨cq122, kq122, qa122, qb122, qc122⟩ := isOf hZ rfl q117_0
      obtain ⟨_, _, ⟨T122, L122, k122, n122⟩, -, X122, ⟨Lc122, hQ122, l122, y122, z122⟩, st122⟩ := X117.virtualBack hx (y := (⟨"com/example/corbel/corbel/Peaks", "append", "(II)V"⟩ : MethodName)) (z := (⟨"com/example/corbel/corbel/Peaks", "append", "(II)V"⟩ : MethodName)) hown (mvT hZ (hw _ (List.mem_of_getElem? (i := 21) rfl))) (mvT hZ (hw _ (List.mem_of_getElem? (i := 22) rfl))) (notFace_of_selects (args := #[]) (mvT hZ (hw _ (List.mem_of_getElem? (i := 24) rfl)))) (mvT hZ (hw _ (List.mem_of_getElem? (i := 24) rfl))) (mvT hZ (hw _ (List.mem_of_getElem? (i := 23) rfl))) (by decide) (backOf (W := 0) (own_rm4_A l Z a0 hw [] b115 f0 l0 r117_f r117_g (0 : Int32) (1 : Int32) r117_kf [(.int (0 : Int32)), (.int (0 : Int32)), (.int (0 : Int32)), (.int (0 : Int32))] r117_kg [(.int (0 : Int32)), (.int (0 : Int32)), (.int (0 : Int32)), (.int (0 : Int32))] T117.heap n0 z121 q117_0 q117_3 q117_1 q117_2 R119 R120 g_b115 g_r117_f g_r117_g (Ne.symm ne_b115_r117_f) (Ne.symm ne_b115_r117_g) h117_nfg (by decide) (by decide) (Nat.le_of_ble_eq_true rfl) (Nat.le_of_ble_eq_true rfl)) hZ (hw _ (List.mem_of_getElem? (i := 25) rfl)) (hw _ (List.mem_of_getElem? (i := 2) rfl)) (by decide) (by decide)) qa122 qc122 (g := (mkF m 115 #[.val (.int p1), .val (.int p2), .val (.int p3), .val (.int p4), .val (.int p5), .val (.int (2 : Int32)), .val (.int (1 : Int32)), .val (.int f0), .val (.int f1), .val (.int f2), .val (.int l0), .val (.int l1), .val (.int l2), .val (.ref b115), .unset, .unset] [(.int l0), (.int f0), (.ref b115)])) rfl (by rw [hml]; rfl) (Steps.refl _) (argsL := [(.int f0), (.int l0)]) (rest := []) (lenOf own_pd5 rfl) rfl (by show 2 * 0 + _ ≤ _; exact Nat.le_of_eq rfl) (hb hby at_115) (fun _ _ => ⟨rfl, rfl, (by decide : 3 + 0 ≤ _), (by decide : 11 + 0 ≤ _)⟩)
      dsimp only [Pt.U, Pt.locs, Pt.cells, Pt.slots] at X122 l122 y122 z122 st122 hQ122
      subst l122 y122 z122
      obtain ⟨rfl, Nq122, K122, q122_0, q122_1, q122_2, q122_3, q122_4, q122_5⟩ := hQ122
      refine OE.of (fun _ k => st122.trans k) ?_
      have N122 := Fr.app N117 Nq122
      show OE _ p e below s _ _ _ T122 (mkF m 118 #[.val (.int p1), .val (.int p2), .val (.int p3), .val (.int p4), .val (.int p5), .val (.int (2 : Int32)), .val (.int (1 : Int32)), .val (.int f0), .val (.int f1), .val (.int f2), .val (.int l0), .val (.int l1), .val (.int l2), .val (.ref b115), .unset, .unset] [])
      have R123 : Fld Z T122.heap b115 "com/example/corbel/corbel/Peaks" "count" "I" (.int (1 : Int32)) := q122_1
      have R124 : Arv Z T122.heap r117_f r117_kf .int (1 : Int32) [(.int f0), (.int (0 : Int32)), (.int (0 : Int32)), (.int (0 : Int32))] (.int (0 : Int32)) := q122_4
      have R125 : Arv Z T122.heap r117_g r117_kg .int (1 : Int32) [(.int l0), (.int (0 : Int32)), (.int (0 : Int32)), (.int (0 : Int32))] (.int (0 : Int32)) := q122_5
      refine OE.iload X122 hx hby at_118 rfl ?_
      refine OE.iconst X122 hx hby at_120 (2 : Int32) rfl ?_
      refine OE.icmpNo X122 hx hby at_121 (flt (by decide : ¬ ((2 : Int32) < (2 : Int32)))).1 ?_
      refine OE.aload X122 hx hby at_124 rfl rfl ?_
      refine OE.iload X122 hx hby at_126 rfl ?_
      refine OE.iload X122 hx hby at_128 rfl ?_
      have z126 : n0 ≤ T122.heap.size := (Nat.le_trans z121 K122.1)
      obtain ⟨cq127, kq127, qa127, qb127, qc127⟩ := isOf hZ rfl q122_0
      obtain ⟨_, _, ⟨T127, L127, k127, n127⟩, -, X127, ⟨Lc127, hQ127, l127, y127, z127⟩, st127⟩ := X122.virtualBack hx (y := (⟨"com/example/corbel/corbel/Peaks", "append", "(II)V"⟩ : MethodName)) (z := (⟨"com/example/corbel/corbel/Peaks", "append", "(II)V"⟩ : MethodName)) hown (mvT hZ (hw _ (List.mem_of_getElem? (i := 21) rfl))) (mvT hZ (hw _ (List.mem_of_getElem? (i := 22) rfl))) (notFace_of_selects (args := #[]) (mvT hZ (hw _ (List.mem_of_getElem? (i := 24) rfl)))) (mvT hZ (hw _ (List.mem_of_getElem? (i := 24) rfl))) (mvT hZ (hw _ (List.mem_of_getElem? (i := 23) rfl))) (by decide) (backOf (W := 0) (own_rm4_B1 l Z a0 hw [] b115 f1 l1 f0 l0 [(.int (0 : Int32)), (.int (0 : Int32)), (.int (0 : Int32))] [(.int (0 : Int32)), (.int (0 : Int32)), (.int (0 : Int32))] r117_f r117_g r117_kf r117_kg T122.heap n0 z126 q122_0 R123 q122_2 q122_3 R124 R125 g_b115 (Ne.symm ne_b115_r117_f) (Ne.symm ne_b115_r117_g)) hZ (hw _ (List.mem_of_getElem? (i := 25) rfl)) (hw _ (List.mem_of_getElem? (i := 2) rfl)) (by decide) (by decide)) qa127 qc127 (g := (mkF m 130 #[.val (.int p1), .val (.int p2), .val (.int p3), .val (.int p4), .val (.int p5), .val (.int (2 : Int32)), .val (.int (1 : Int32)), .val (.int f0), .val (.int f1), .val (.int f2), .val (.int l0), .val (.int l1), .val (.int l2), .val (.ref b115), .unset, .unset] [(.int l1), (.int f1), (.ref b115)])) rfl (by rw [hml]; rfl) (Steps.refl _) (argsL := [(.int f1), (.int l1)]) (rest := []) (lenOf own_pd5 rfl) rfl (by show 2 * 0 + _ ≤ _; exact Nat.le_of_eq rfl) (hb hby at_130) (fun _ _ => ⟨rfl, rfl, (by decide : 3 + 2 ≤ _), (by decide : 11 + 4 ≤ _)⟩)
      dsimp only [Pt.U, Pt.locs, Pt.cells, Pt.slots] at X127 l127 y127 z127 st127 hQ127
      subst l127 y127 z127
      obtain ⟨r127_f2, r127_g2, r127_kf2, r127_kg2, rfl, Nq127, K127, q127_0, q127_1, q127_2, q127_3, q127_4, q127_5, h127_sf, h127_sg, h127_nfg⟩ := hQ127
      refine OE.of (fun _ k => st127.trans k) ?_
      have N127 := Fr.app N122 Nq127
      have ne_b115_r127_f2 : b115 ≠ r127_f2 := Nat.ne_of_lt (Nat.lt_of_lt_of_le q122_0.lt h127_sf)
      have ne_r117_f_r127_f2 : r117_f ≠ r127_f2 := Nat.ne_of_lt (Nat.lt_of_lt_of_le R124.lt h127_sf)
      have ne_r117_g_r127_f2 : r117_g ≠ r127_f2 := Nat.ne_of_lt (Nat.lt_of_lt_of_le R125.lt h127_sf)
      have g_r127_f2 : n0 ≤ r127_f2 := Nat.le_trans z126 h127_sf
      have K128 : Keep h0 T122.heap [] := (Keep.trans (Keep.trans K118 K117 (allS (Or.inr sz_b115) all0)) K122 (allS (Or.inr sz_b115) (allS (Or.inr sz_r117_f) (allS (Or.inr sz_r117_g) all0))))
      have sz_r127_f2 : h0.size ≤ r127_f2 := Nat.le_trans K128.1 h127_sf
      have ne_b115_r127_g2 : b115 ≠ r127_g2 := Nat.ne_of_lt (Nat.lt_of_lt_of_le q122_0.lt h127_sg)
      have ne_r117_f_r127_g2 : r117_f ≠ r127_g2 := Nat.ne_of_lt (Nat.lt_of_lt_of_le R124.lt h127_sg)
      have ne_r117_g_r127_g2 : r117_g ≠ r127_g2 := Nat.ne_of_lt (Nat.lt_of_lt_of_le R125.lt h127_sg)
      have g_r127_g2 : n0 ≤ r127_g2 := Nat.le_trans z126 h127_sg
      have sz_r127_g2 : h0.size ≤ r127_g2 := Nat.le_trans K128.1 h127_sg
      show OE _ p e below s _ _ _ T127 (mkF m 133 #[.val (.int p1), .val (.int p2), .val (.int p3), .val (.int p4), .val (.int p5), .val (.int (2 : Int32)), .val (.int (1 : Int32)), .val (.int f0), .val (.int f1), .val (.int f2), .val (.int l0), .val (.int l1), .val (.int l2), .val (.ref b115), .unset, .unset] [])
      have R129 : Fld Z T127.heap b115 "com/example/corbel/corbel/Peaks" "count" "I" (.int (2 : Int32)) := q127_1
      have R130 : Arv Z T127.heap r127_f2 r127_kf2 .int (2 : Int32) [(.int f0), (.int f1)] (.int (0 : Int32)) := q127_4
      have R131 : Arv Z T127.heap r127_g2 r127_kg2 .int (2 : Int32) [(.int l0), (.int l1)] (.int (0 : Int32)) := q127_5
      refine OE.iload X127 hx hby at_133 rfl ?_
      refine OE.iconst X127 hx hby at_135 (3 : Int32) rfl ?_
      refine OE.icmpYes X127 hx hby (pc' := 148) at_136 (tlt (by decide : (2 : Int32) < (3 : Int32))).1 (h := ?_)
      have z132 : n0 ≤ T127.heap.size := (Nat.le_trans z126 K127.1)
      have K133 : Keep h0 T127.heap [] := (Keep.trans K128 K127 (allS (Or.inr sz_b115) all0))
      exact own_tail2 (1 : Int32) b115 r127_f2 r127_g2 r127_kf2 r127_kg2 (2 : Int32) [] [] _ _ _ _ _ X127 rfl N127 (by decide) (by decide) z132 K133 q127_0 R129 q127_2 q127_3 R130 R131 (by decide) (by decide)
    · rw [hr, (by decide : ((1 : Int32) + (1 : Int32)) = (2 : Int32))]
      show OE _ p e below s _ _ _ s₁ (mkF m 92 #[.val (.int p1), .val (.int p2), .val (.int p3), .val (.int p4), .val (.int p5), .val (.int (2 : Int32)), .val (.int (2 : Int32)), .val (.int f0), .val (.int f1), .val (.int f2), .val (.int l0), .val (.int l1), .val (.int l2), .unset, .unset, .unset] [])
      obtain ⟨T134, h134, X134, e134, E134, A134, D134, -, st134⟩ := newO X0 hx hZ hown (hw _ (List.mem_of_getElem? (i := 0) rfl)) (hw _ (List.mem_of_getElem? (i := 1) rfl)) (hw _ (List.mem_of_getElem? (i := 2) rfl)) e0 (g := (mkF m 92 #[.val (.int p1), .val (.int p2), .val (.int p3), .val (.int p4), .val (.int p5), .val (.int (2 : Int32)), .val (.int (2 : Int32)), .val (.int f0), .val (.int f1), .val (.int f2), .val (.int l0), .val (.int l1), .val (.int l2), .unset, .unset, .unset] [])) rfl (hb hby at_92) (by decide) (by decide)
      refine OE.of st134 ?_
      obtain ⟨b134, g134⟩ : ∃ z, z = h0.size := ⟨_, rfl⟩
      rw [← g134] at A134 D134 ⊢
      have g_b134 : n0 ≤ b134 := Nat.le_trans Z0 (Nat.le_of_eq g134.symm)
      have sz_b134 : h0.size ≤ b134 := Nat.le_trans (Keep.refl h0 []).1 (Nat.le_of_eq g134.symm)
      have F134_frequencies : Fld Z h134 b134 "com/example/corbel/corbel/Peaks" "frequencies" "[I" .null := D134 (Or.inl (hw _ (List.mem_of_getElem? (i := 11) rfl))) (ty := (.array .int)) (by decide)
      have F134_lengths : Fld Z h134 b134 "com/example/corbel/corbel/Peaks" "lengths" "[I" .null := D134 (Or.inl (hw _ (List.mem_of_getElem? (i := 13) rfl))) (ty := (.array .int)) (by decide)
      have F134_count : Fld Z h134 b134 "com/example/corbel/corbel/Peaks" "count" "I" (.int (0 : Int32)) := D134 (Or.inl (hw _ (List.mem_of_getElem? (i := 20) rfl))) (ty := .int) (by decide)
      show OE _ p e below s _ _ _ T134 (mkF m 95 #[.val (.int p1), .val (.int p2), .val (.int p3), .val (.int p4), .val (.int p5), .val (.int (2 : Int32)), .val (.int (2 : Int32)), .val (.int f0), .val (.int f1), .val (.int f2), .val (.int l0), .val (.int l1), .val (.int l2), .unset, .unset, .unset] [(.ref b134)])
      refine OE.dup X134 hx hby at_95 rfl ?_
      refine OE.iload X134 hx hby at_96 rfl ?_
      have z135 : n0 ≤ h134.size := (Nat.le_trans Z0 E134.1)
      obtain ⟨_, _, ⟨T136, L136, k136, n136⟩, -, X136, ⟨Lc136, hQ136, l136, y136, z136⟩, st136⟩ := X134.specialBack hx (y := (⟨"com/example/corbel/corbel/Peaks", "<init>", "(I)V"⟩ : MethodName)) rfl hown (mvT hZ (hw _ (List.mem_of_getElem? (i := 3) rfl))) (mvT hZ (hw _ (List.mem_of_getElem? (i := 4) rfl))) (mvT hZ (hw _ (List.mem_of_getElem? (i := 5) rfl))) (by decide) (backOf (W := 1) (own_rm1 l Z a0 hw [] b134 (2 : Int32) h134 n0 z135 A134 F134_frequencies F134_lengths F134_count g_b134 (by decide) (by decide)) hZ (hw _ (List.mem_of_getElem? (i := 5) rfl)) (hw _ (List.mem_of_getElem? (i := 2) rfl)) (by decide) (by decide)) (g := (mkF m 98 #[.val (.int p1), .val (.int p2), .val (.int p3), .val (.int p4), .val (.int p5), .val (.int (2 : Int32)), .val (.int (2 : Int32)), .val (.int f0), .val (.int f1), .val (.int f2), .val (.int l0), .val (.int l1), .val (.int l2), .unset, .unset, .unset] [(.int (2 : Int32)), (.ref b134), (.ref b134)])) rfl (by rw [hml]; rfl) (Steps.refl _) (a := b134) (argsL := [(.int (2 : Int32))]) (rest := [(.ref b134)]) (lenOf own_pd3 rfl) rfl (by show 2 * 0 + _ ≤ _; exact Nat.le_of_eq rfl) (hb hby at_98) (fun _ _ => ⟨rfl, e134, (by decide : 1 + 2 ≤ _), (by decide : 3 + 8 ≤ _)⟩)
      dsimp only [Pt.U, Pt.locs, Pt.cells, Pt.slots] at X136 l136 y136 z136 st136 hQ136
      subst l136 y136 z136
      obtain ⟨r136_f, r136_g, r136_kf, r136_kg, rfl, Nq136, K136, q136_0, q136_1, q136_2, q136_3, q136_4, q136_5, h136_sf, h136_sg, h136_nfg⟩ := hQ136
      refine OE.of (fun _ k => st136.trans k) ?_
      have N136 := Fr.app N0 Nq136
      have ne_b134_r136_f : b134 ≠ r136_f := Nat.ne_of_lt (Nat.lt_of_lt_of_le A134.lt h136_sf)
      have g_r136_f : n0 ≤ r136_f := Nat.le_trans z135 h136_sf
      have K137 : Keep h0 h134 [] := (Keep.ext (Keep.refl h0 []) E134)
      have sz_r136_f : h0.size ≤ r136_f := Nat.le_trans K137.1 h136_sf
      have ne_b134_r136_g : b134 ≠ r136_g := Nat.ne_of_lt (Nat.lt_of_lt_of_le A134.lt h136_sg)
      have g_r136_g : n0 ≤ r136_g := Nat.le_trans z135 h136_sg
      have sz_r136_g : h0.size ≤ r136_g := Nat.le_trans K137.1 h136_sg
      show OE _ p e below s _ _ _ T136 (mkF m 101 #[.val (.int p1), .val (.int p2), .val (.int p3), .val (.int p4), .val (.int p5), .val (.int (2 : Int32)), .val (.int (2 : Int32)), .val (.int f0), .val (.int f1), .val (.int f2), .val (.int l0), .val (.int l1), .val (.int l2), .unset, .unset, .unset] [(.ref b134)])
      have R138 : Arv Z T136.heap r136_f r136_kf .int (2 : Int32) [(.int (0 : Int32)), (.int (0 : Int32)), (.int (0 : Int32)), (.int (0 : Int32))] (.int (0 : Int32)) := q136_4
      have R139 : Arv Z T136.heap r136_g r136_kg .int (2 : Int32) [(.int (0 : Int32)), (.int (0 : Int32)), (.int (0 : Int32)), (.int (0 : Int32))] (.int (0 : Int32)) := q136_5
      refine OE.astore X136 hx hby at_101 rfl (l' := #[.val (.int p1), .val (.int p2), .val (.int p3), .val (.int p4), .val (.int p5), .val (.int (2 : Int32)), .val (.int (2 : Int32)), .val (.int f0), .val (.int f1), .val (.int f2), .val (.int l0), .val (.int l1), .val (.int l2), .val (.ref b134), .unset, .unset]) rfl ?_
      refine OE.iload X136 hx hby at_103 rfl ?_
      refine OE.iconst X136 hx hby at_105 (1 : Int32) rfl ?_
      refine OE.icmpNo X136 hx hby at_106 (flt (by decide : ¬ ((2 : Int32) < (1 : Int32)))).1 ?_
      refine OE.aload X136 hx hby at_109 rfl rfl ?_
      refine OE.iload X136 hx hby at_111 rfl ?_
      refine OE.iload X136 hx hby at_113 rfl ?_
      have z140 : n0 ≤ T136.heap.size := (Nat.le_trans z135 K136.1)
      obtain ⟨cq141, kq141, qa141, qb141, qc141⟩ := isOf hZ rfl q136_0
      obtain ⟨_, _, ⟨T141, L141, k141, n141⟩, -, X141, ⟨Lc141, hQ141, l141, y141, z141⟩, st141⟩ := X136.virtualBack hx (y := (⟨"com/example/corbel/corbel/Peaks", "append", "(II)V"⟩ : MethodName)) (z := (⟨"com/example/corbel/corbel/Peaks", "append", "(II)V"⟩ : MethodName)) hown (mvT hZ (hw _ (List.mem_of_getElem? (i := 21) rfl))) (mvT hZ (hw _ (List.mem_of_getElem? (i := 22) rfl))) (notFace_of_selects (args := #[]) (mvT hZ (hw _ (List.mem_of_getElem? (i := 24) rfl)))) (mvT hZ (hw _ (List.mem_of_getElem? (i := 24) rfl))) (mvT hZ (hw _ (List.mem_of_getElem? (i := 23) rfl))) (by decide) (backOf (W := 0) (own_rm4_A l Z a0 hw [] b134 f0 l0 r136_f r136_g (0 : Int32) (2 : Int32) r136_kf [(.int (0 : Int32)), (.int (0 : Int32)), (.int (0 : Int32)), (.int (0 : Int32))] r136_kg [(.int (0 : Int32)), (.int (0 : Int32)), (.int (0 : Int32)), (.int (0 : Int32))] T136.heap n0 z140 q136_0 q136_3 q136_1 q136_2 R138 R139 g_b134 g_r136_f g_r136_g (Ne.symm ne_b134_r136_f) (Ne.symm ne_b134_r136_g) h136_nfg (by decide) (by decide) (Nat.le_of_ble_eq_true rfl) (Nat.le_of_ble_eq_true rfl)) hZ (hw _ (List.mem_of_getElem? (i := 25) rfl)) (hw _ (List.mem_of_getElem? (i := 2) rfl)) (by decide) (by decide)) qa141 qc141 (g := (mkF m 115 #[.val (.int p1), .val (.int p2), .val (.int p3), .val (.int p4), .val (.int p5), .val (.int (2 : Int32)), .val (.int (2 : Int32)), .val (.int f0), .val (.int f1), .val (.int f2), .val (.int l0), .val (.int l1), .val (.int l2), .val (.ref b134), .unset, .unset] [(.int l0), (.int f0), (.ref b134)])) rfl (by rw [hml]; rfl) (Steps.refl _) (argsL := [(.int f0), (.int l0)]) (rest := []) (lenOf own_pd5 rfl) rfl (by show 2 * 0 + _ ≤ _; exact Nat.le_of_eq rfl) (hb hby at_115) (fun _ _ => ⟨rfl, rfl, (by decide : 3 + 0 ≤ _), (by decide : 11 + 0 ≤ _)⟩)
      dsimp only [Pt.U, Pt.locs, Pt.cells, Pt.slots] at X141 l141 y141 z141 st141 hQ141
      subst l141 y141 z141
      obtain ⟨rfl, Nq141, K141, q141_0, q141_1, q141_2, q141_3, q141_4, q141_5⟩ := hQ141
      refine OE.of (fun _ k => st141.trans k) ?_
      have N141 := Fr.app N136 Nq141
      show OE _ p e below s _ _ _ T141 (mkF m 118 #[.val (.int p1), .val (.int p2), .val (.int p3), .val (.int p4), .val (.int p5), .val (.int (2 : Int32)), .val (.int (2 : Int32)), .val (.int f0), .val (.int f1), .val (.int f2), .val (.int l0), .val (.int l1), .val (.int l2), .val (.ref b134), .unset, .unset] [])
      have R142 : Fld Z T141.heap b134 "com/example/corbel/corbel/Peaks" "count" "I" (.int (1 : Int32)) := q141_1
      have R143 : Arv Z T141.heap r136_f r136_kf .int (2 : Int32) [(.int f0), (.int (0 : Int32)), (.int (0 : Int32)), (.int (0 : Int32))] (.int (0 : Int32)) := q141_4
      have R144 : Arv Z T141.heap r136_g r136_kg .int (2 : Int32) [(.int l0), (.int (0 : Int32)), (.int (0 : Int32)), (.int (0 : Int32))] (.int (0 : Int32)) := q141_5
      refine OE.iload X141 hx hby at_118 rfl ?_
      refine OE.iconst X141 hx hby at_120 (2 : Int32) rfl ?_
      refine OE.icmpNo X141 hx hby at_121 (flt (by decide : ¬ ((2 : Int32) < (2 : Int32)))).1 ?_
      refine OE.aload X141 hx hby at_124 rfl rfl ?_
      refine OE.iload X141 hx hby at_126 rfl ?_
      refine OE.iload X141 hx hby at_128 rfl ?_
      have z145 : n0 ≤ T141.heap.size := (Nat.le_trans z140 K141.1)
      obtain ⟨cq146, kq146, qa146, qb146, qc146⟩ := isOf hZ rfl q141_0
      obtain ⟨_, _, ⟨T146, L146, k146, n146⟩, -, X146, ⟨Lc146, hQ146, l146, y146, z146⟩, st146⟩ := X141.virtualBack hx (y := (⟨"com/example/corbel/corbel/Peaks", "append", "(II)V"⟩ : MethodName)) (z := (⟨"com/example/corbel/corbel/Peaks", "append", "(II)V"⟩ : MethodName)) hown (mvT hZ (hw _ (List.mem_of_getElem? (i := 21) rfl))) (mvT hZ (hw _ (List.mem_of_getElem? (i := 22) rfl))) (notFace_of_selects (args := #[]) (mvT hZ (hw _ (List.mem_of_getElem? (i := 24) rfl)))) (mvT hZ (hw _ (List.mem_of_getElem? (i := 24) rfl))) (mvT hZ (hw _ (List.mem_of_getElem? (i := 23) rfl))) (by decide) (backOf (W := 0) (own_rm4_A l Z a0 hw [] b134 f1 l1 r136_f r136_g (1 : Int32) (2 : Int32) r136_kf [(.int f0), (.int (0 : Int32)), (.int (0 : Int32)), (.int (0 : Int32))] r136_kg [(.int l0), (.int (0 : Int32)), (.int (0 : Int32)), (.int (0 : Int32))] T141.heap n0 z145 q141_0 R142 q141_2 q141_3 R143 R144 g_b134 g_r136_f g_r136_g (Ne.symm ne_b134_r136_f) (Ne.symm ne_b134_r136_g) h136_nfg (by decide) (by decide) (Nat.le_of_ble_eq_true rfl) (Nat.le_of_ble_eq_true rfl)) hZ (hw _ (List.mem_of_getElem? (i := 25) rfl)) (hw _ (List.mem_of_getElem? (i := 2) rfl)) (by decide) (by decide)) qa146 qc146 (g := (mkF m 130 #[.val (.int p1), .val (.int p2), .val (.int p3), .val (.int p4), .val (.int p5), .val (.int (2 : Int32)), .val (.int (2 : Int32)), .val (.int f0), .val (.int f1), .val (.int f2), .val (.int l0), .val (.int l1), .val (.int l2), .val (.ref b134), .unset, .unset] [(.int l1), (.int f1), (.ref b134)])) rfl (by rw [hml]; rfl) (Steps.refl _) (argsL := [(.int f1), (.int l1)]) (rest := []) (lenOf own_pd5 rfl) rfl (by show 2 * 0 + _ ≤ _; exact Nat.le_of_eq rfl) (hb hby at_130) (fun _ _ => ⟨rfl, rfl, (by decide : 3 + 0 ≤ _), (by decide : 11 + 0 ≤ _)⟩)
      dsimp only [Pt.U, Pt.locs, Pt.cells, Pt.slots] at X146 l146 y146 z146 st146 hQ146
      subst l146 y146 z146
      obtain ⟨rfl, Nq146, K146, q146_0, q146_1, q146_2, q146_3, q146_4, q146_5⟩ := hQ146
      refine OE.of (fun _ k => st146.trans k) ?_
      have N146 := Fr.app N141 Nq146
      show OE _ p e below s _ _ _ T146 (mkF m 133 #[.val (.int p1), .val (.int p2), .val (.int p3), .val (.int p4), .val (.int p5), .val (.int (2 : Int32)), .val (.int (2 : Int32)), .val (.int f0), .val (.int f1), .val (.int f2), .val (.int l0), .val (.int l1), .val (.int l2), .val (.ref b134), .unset, .unset] [])
      have R147 : Fld Z T146.heap b134 "com/example/corbel/corbel/Peaks" "count" "I" (.int (2 : Int32)) := q146_1
      have R148 : Arv Z T146.heap r136_f r136_kf .int (2 : Int32) [(.int f0), (.int f1), (.int (0 : Int32)), (.int (0 : Int32))] (.int (0 : Int32)) := q146_4
      have R149 : Arv Z T146.heap r136_g r136_kg .int (2 : Int32) [(.int l0), (.int l1), (.int (0 : Int32)), (.int (0 : Int32))] (.int (0 : Int32)) := q146_5
      refine OE.iload X146 hx hby at_133 rfl ?_
      refine OE.iconst X146 hx hby at_135 (3 : Int32) rfl ?_
      refine OE.icmpYes X146 hx hby (pc' := 148) at_136 (tlt (by decide : (2 : Int32) < (3 : Int32))).1 (h := ?_)
      have z150 : n0 ≤ T146.heap.size := (Nat.le_trans z145 K146.1)
      have K151 : Keep h0 T146.heap [] := (Keep.trans (Keep.trans (Keep.trans K137 K136 (allS (Or.inr sz_b134) all0)) K141 (allS (Or.inr sz_b134) (allS (Or.inr sz_r136_f) (allS (Or.inr sz_r136_g) all0)))) K146 (allS (Or.inr sz_b134) (allS (Or.inr sz_r136_f) (allS (Or.inr sz_r136_g) all0))))
      exact own_tail2 (2 : Int32) b134 r136_f r136_g r136_kf r136_kg (2 : Int32) [(.int (0 : Int32)), (.int (0 : Int32))] [(.int (0 : Int32)), (.int (0 : Int32))] _ _ _ _ _ X146 rfl N146 (by decide) (by decide) z150 K151 q146_0 R147 q146_2 q146_3 R148 R149 (by decide) (by decide)
    · rw [hr, (by decide : ((2 : Int32) + (1 : Int32)) = (3 : Int32))]
      show OE _ p e below s _ _ _ s₁ (mkF m 92 #[.val (.int p1), .val (.int p2), .val (.int p3), .val (.int p4), .val (.int p5), .val (.int (2 : Int32)), .val (.int (3 : Int32)), .val (.int f0), .val (.int f1), .val (.int f2), .val (.int l0), .val (.int l1), .val (.int l2), .unset, .unset, .unset] [])
      obtain ⟨T152, h152, X152, e152, E152, A152, D152, -, st152⟩ := newO X0 hx hZ hown (hw _ (List.mem_of_getElem? (i := 0) rfl)) (hw _ (List.mem_of_getElem? (i := 1) rfl)) (hw _ (List.mem_of_getElem? (i := 2) rfl)) e0 (g := (mkF m 92 #[.val (.int p1), .val (.int p2), .val (.int p3), .val (.int p4), .val (.int p5), .val (.int (2 : Int32)), .val (.int (3 : Int32)), .val (.int f0), .val (.int f1), .val (.int f2), .val (.int l0), .val (.int l1), .val (.int l2), .unset, .unset, .unset] [])) rfl (hb hby at_92) (by decide) (by decide)
      refine OE.of st152 ?_
      obtain ⟨b152, g152⟩ : ∃ z, z = h0.size := ⟨_, rfl⟩
      rw [← g152] at A152 D152 ⊢
      have g_b152 : n0 ≤ b152 := Nat.le_trans Z0 (Nat.le_of_eq g152.symm)
      have sz_b152 : h0.size ≤ b152 := Nat.le_trans (Keep.refl h0 []).1 (Nat.le_of_eq g152.symm)
      have F152_frequencies : Fld Z h152 b152 "com/example/corbel/corbel/Peaks" "frequencies" "[I" .null := D152 (Or.inl (hw _ (List.mem_of_getElem? (i := 11) rfl))) (ty := (.array .int)) (by decide)
      have F152_lengths : Fld Z h152 b152 "com/example/corbel/corbel/Peaks" "lengths" "[I" .null := D152 (Or.inl (hw _ (List.mem_of_getElem? (i := 13) rfl))) (ty := (.array .int)) (by decide)
      have F152_count : Fld Z h152 b152 "com/example/corbel/corbel/Peaks" "count" "I" (.int (0 : Int32)) := D152 (Or.inl (hw _ (List.mem_of_getElem? (i := 20) rfl))) (ty := .int) (by decide)
      show OE _ p e below s _ _ _ T152 (mkF m 95 #[.val (.int p1), .val (.int p2), .val (.int p3), .val (.int p4), .val (.int p5), .val (.int (2 : Int32)), .val (.int (3 : Int32)), .val (.int f0), .val (.int f1), .val (.int f2), .val (.int l0), .val (.int l1), .val (.int l2), .unset, .unset, .unset] [(.ref b152)])
      refine OE.dup X152 hx hby at_95 rfl ?_
      refine OE.iload X152 hx hby at_96 rfl ?_
      have z153 : n0 ≤ h152.size := (Nat.le_trans Z0 E152.1)
      obtain ⟨_, _, ⟨T154, L154, k154, n154⟩, -, X154, ⟨Lc154, hQ154, l154, y154, z154⟩, st154⟩ := X152.specialBack hx (y := (⟨"com/example/corbel/corbel/Peaks", "<init>", "(I)V"⟩ : MethodName)) rfl hown (mvT hZ (hw _ (List.mem_of_getElem? (i := 3) rfl))) (mvT hZ (hw _ (List.mem_of_getElem? (i := 4) rfl))) (mvT hZ (hw _ (List.mem_of_getElem? (i := 5) rfl))) (by decide) (backOf (W := 1) (own_rm1 l Z a0 hw [] b152 (3 : Int32) h152 n0 z153 A152 F152_frequencies F152_lengths F152_count g_b152 (by decide) (by decide)) hZ (hw _ (List.mem_of_getElem? (i := 5) rfl)) (hw _ (List.mem_of_getElem? (i := 2) rfl)) (by decide) (by decide)) (g := (mkF m 98 #[.val (.int p1), .val (.int p2), .val (.int p3), .val (.int p4), .val (.int p5), .val (.int (2 : Int32)), .val (.int (3 : Int32)), .val (.int f0), .val (.int f1), .val (.int f2), .val (.int l0), .val (.int l1), .val (.int l2), .unset, .unset, .unset] [(.int (3 : Int32)), (.ref b152), (.ref b152)])) rfl (by rw [hml]; rfl) (Steps.refl _) (a := b152) (argsL := [(.int (3 : Int32))]) (rest := [(.ref b152)]) (lenOf own_pd3 rfl) rfl (by show 2 * 0 + _ ≤ _; exact Nat.le_of_eq rfl) (hb hby at_98) (fun _ _ => ⟨rfl, e152, (by decide : 1 + 2 ≤ _), (by decide : 3 + 8 ≤ _)⟩)
      dsimp only [Pt.U, Pt.locs, Pt.cells, Pt.slots] at X154 l154 y154 z154 st154 hQ154
      subst l154 y154 z154
      obtain ⟨r154_f, r154_g, r154_kf, r154_kg, rfl, Nq154, K154, q154_0, q154_1, q154_2, q154_3, q154_4, q154_5, h154_sf, h154_sg, h154_nfg⟩ := hQ154
      refine OE.of (fun _ k => st154.trans k) ?_
      have N154 := Fr.app N0 Nq154
      have ne_b152_r154_f : b152 ≠ r154_f := Nat.ne_of_lt (Nat.lt_of_lt_of_le A152.lt h154_sf)
      have g_r154_f : n0 ≤ r154_f := Nat.le_trans z153 h154_sf
      have K155 : Keep h0 h152 [] := (Keep.ext (Keep.refl h0 []) E152)
      have sz_r154_f : h0.size ≤ r154_f := Nat.le_trans K155.1 h154_sf
      have ne_b152_r154_g : b152 ≠ r154_g := Nat.ne_of_lt (Nat.lt_of_lt_of_le A152.lt h154_sg)
      have g_r154_g : n0 ≤ r154_g := Nat.le_trans z153 h154_sg
      have sz_r154_g : h0.size ≤ r154_g := Nat.le_trans K155.1 h154_sg
      show OE _ p e below s _ _ _ T154 (mkF m 101 #[.val (.int p1), .val (.int p2), .val (.int p3), .val (.int p4), .val (.int p5), .val (.int (2 : Int32)), .val (.int (3 : Int32)), .val (.int f0), .val (.int f1), .val (.int f2), .val (.int l0), .val (.int l1), .val (.int l2), .unset, .unset, .unset] [(.ref b152)])
      have R156 : Arv Z T154.heap r154_f r154_kf .int (3 : Int32) [(.int (0 : Int32)), (.int (0 : Int32)), (.int (0 : Int32)), (.int (0 : Int32))] (.int (0 : Int32)) := q154_4
      have R157 : Arv Z T154.heap r154_g r154_kg .int (3 : Int32) [(.int (0 : Int32)), (.int (0 : Int32)), (.int (0 : Int32)), (.int (0 : Int32))] (.int (0 : Int32)) := q154_5
      refine OE.astore X154 hx hby at_101 rfl (l' := #[.val (.int p1), .val (.int p2), .val (.int p3), .val (.int p4), .val (.int p5), .val (.int (2 : Int32)), .val (.int (3 : Int32)), .val (.int f0), .val (.int f1), .val (.int f2), .val (.int l0), .val (.int l1), .val (.int l2), .val (.ref b152), .unset, .unset]) rfl ?_
      refine OE.iload X154 hx hby at_103 rfl ?_
      refine OE.iconst X154 hx hby at_105 (1 : Int32) rfl ?_
      refine OE.icmpNo X154 hx hby at_106 (flt (by decide : ¬ ((2 : Int32) < (1 : Int32)))).1 ?_
      refine OE.aload X154 hx hby at_109 rfl rfl ?_
      refine OE.iload X154 hx hby at_111 rfl ?_
      refine OE.iload X154 hx hby at_113 rfl ?_
      have z158 : n0 ≤ T154.heap.size := (Nat.le_trans z153 K154.1)
      obtain ⟨cq159, kq159, qa159, qb159, qc159⟩ := isOf hZ rfl q154_0
      obtain ⟨_, _, ⟨T159, L159, k159, n159⟩, -, X159, ⟨Lc159, hQ159, l159, y159, z159⟩, st159⟩ := X154.virtualBack hx (y := (⟨"com/example/corbel/corbel/Peaks", "append", "(II)V"⟩ : MethodName)) (z := (⟨"com/example/corbel/corbel/Peaks", "append", "(II)V"⟩ : MethodName)) hown (mvT hZ (hw _ (List.mem_of_getElem? (i := 21) rfl))) (mvT hZ (hw _ (List.mem_of_getElem? (i := 22) rfl))) (notFace_of_selects (args := #[]) (mvT hZ (hw _ (List.mem_of_getElem? (i := 24) rfl)))) (mvT hZ (hw _ (List.mem_of_getElem? (i := 24) rfl))) (mvT hZ (hw _ (List.mem_of_getElem? (i := 23) rfl))) (by decide) (backOf (W := 0) (own_rm4_A l Z a0 hw [] b152 f0 l0 r154_f r154_g (0 : Int32) (3 : Int32) r154_kf [(.int (0 : Int32)), (.int (0 : Int32)), (.int (0 : Int32)), (.int (0 : Int32))] r154_kg [(.int (0 : Int32)), (.int (0 : Int32)), (.int (0 : Int32)), (.int (0 : Int32))] T154.heap n0 z158 q154_0 q154_3 q154_1 q154_2 R156 R157 g_b152 g_r154_f g_r154_g (Ne.symm ne_b152_r154_f) (Ne.symm ne_b152_r154_g) h154_nfg (by decide) (by decide) (Nat.le_of_ble_eq_true rfl) (Nat.le_of_ble_eq_true rfl)) hZ (hw _ (List.mem_of_getElem? (i := 25) rfl)) (hw _ (List.mem_of_getElem? (i := 2) rfl)) (by decide) (by decide)) qa159 qc159 (g := (mkF m 115 #[.val (.int p1), .val (.int p2), .val (.int p3), .val (.int p4), .val (.int p5), .val (.int (2 : Int32)), .val (.int (3 : Int32)), .val (.int f0), .val (.int f1), .val (.int f2), .val (.int l0), .val (.int l1), .val (.int l2), .val (.ref b152), .unset, .unset] [(.int l0), (.int f0), (.ref b152)])) rfl (by rw [hml]; rfl) (Steps.refl _) (argsL := [(.int f0), (.int l0)]) (rest := []) (lenOf own_pd5 rfl) rfl (by show 2 * 0 + _ ≤ _; exact Nat.le_of_eq rfl) (hb hby at_115) (fun _ _ => ⟨rfl, rfl, (by decide : 3 + 0 ≤ _), (by decide : 11 + 0 ≤ _)⟩)
      dsimp only [Pt.U, Pt.locs, Pt.cells, Pt.slots] at X159 l159 y159 z159 st159 hQ159
      subst l159 y159 z159
      obtain ⟨rfl, Nq159, K159, q159_0, q159_1, q159_2, q159_3, q159_4, q159_5⟩ := hQ159
      refine OE.of (fun _ k => st159.trans k) ?_
      have N159 := Fr.app N154 Nq159
      show OE _ p e below s _ _ _ T159 (mkF m 118 #[.val (.int p1), .val (.int p2), .val (.int p3), .val (.int p4), .val (.int p5), .val (.int (2 : Int32)), .val (.int (3 : Int32)), .val (.int f0), .val (.int f1), .val (.int f2), .val (.int l0), .val (.int l1), .val (.int l2), .val (.ref b152), .unset, .unset] [])
      have R160 : Fld Z T159.heap b152 "com/example/corbel/corbel/Peaks" "count" "I" (.int (1 : Int32)) := q159_1
      have R161 : Arv Z T159.heap r154_f r154_kf .int (3 : Int32) [(.int f0), (.int (0 : Int32)), (.int (0 : Int32)), (.int (0 : Int32))] (.int (0 : Int32)) := q159_4
      have R162 : Arv Z T159.heap r154_g r154_kg .int (3 : Int32) [(.int l0), (.int (0 : Int32)), (.int (0 : Int32)), (.int (0 : Int32))] (.int (0 : Int32)) := q159_5
      refine OE.iload X159 hx hby at_118 rfl ?_
      refine OE.iconst X159 hx hby at_120 (2 : Int32) rfl ?_
      refine OE.icmpNo X159 hx hby at_121 (flt (by decide : ¬ ((2 : Int32) < (2 : Int32)))).1 ?_
      refine OE.aload X159 hx hby at_124 rfl rfl ?_
      refine OE.iload X159 hx hby at_126 rfl ?_
      refine OE.iload X159 hx hby at_128 rfl ?_
      have z163 : n0 ≤ T159.heap.size := (Nat.le_trans z158 K159.1)
      obtain ⟨cq164, kq164, qa164, qb164, qc164⟩ := isOf hZ rfl q159_0
      obtain ⟨_, _, ⟨T164, L164, k164, n164⟩, -, X164, ⟨Lc164, hQ164, l164, y164, z164⟩, st164⟩ := X159.virtualBack hx (y := (⟨"com/example/corbel/corbel/Peaks", "append", "(II)V"⟩ : MethodName)) (z := (⟨"com/example/corbel/corbel/Peaks", "append", "(II)V"⟩ : MethodName)) hown (mvT hZ (hw _ (List.mem_of_getElem? (i := 21) rfl))) (mvT hZ (hw _ (List.mem_of_getElem? (i := 22) rfl))) (notFace_of_selects (args := #[]) (mvT hZ (hw _ (List.mem_of_getElem? (i := 24) rfl)))) (mvT hZ (hw _ (List.mem_of_getElem? (i := 24) rfl))) (mvT hZ (hw _ (List.mem_of_getElem? (i := 23) rfl))) (by decide) (backOf (W := 0) (own_rm4_A l Z a0 hw [] b152 f1 l1 r154_f r154_g (1 : Int32) (3 : Int32) r154_kf [(.int f0), (.int (0 : Int32)), (.int (0 : Int32)), (.int (0 : Int32))] r154_kg [(.int l0), (.int (0 : Int32)), (.int (0 : Int32)), (.int (0 : Int32))] T159.heap n0 z163 q159_0 R160 q159_2 q159_3 R161 R162 g_b152 g_r154_f g_r154_g (Ne.symm ne_b152_r154_f) (Ne.symm ne_b152_r154_g) h154_nfg (by decide) (by decide) (Nat.le_of_ble_eq_true rfl) (Nat.le_of_ble_eq_true rfl)) hZ (hw _ (List.mem_of_getElem? (i := 25) rfl)) (hw _ (List.mem_of_getElem? (i := 2) rfl)) (by decide) (by decide)) qa164 qc164 (g := (mkF m 130 #[.val (.int p1), .val (.int p2), .val (.int p3), .val (.int p4), .val (.int p5), .val (.int (2 : Int32)), .val (.int (3 : Int32)), .val (.int f0), .val (.int f1), .val (.int f2), .val (.int l0), .val (.int l1), .val (.int l2), .val (.ref b152), .unset, .unset] [(.int l1), (.int f1), (.ref b152)])) rfl (by rw [hml]; rfl) (Steps.refl _) (argsL := [(.int f1), (.int l1)]) (rest := []) (lenOf own_pd5 rfl) rfl (by show 2 * 0 + _ ≤ _; exact Nat.le_of_eq rfl) (hb hby at_130) (fun _ _ => ⟨rfl, rfl, (by decide : 3 + 0 ≤ _), (by decide : 11 + 0 ≤ _)⟩)
      dsimp only [Pt.U, Pt.locs, Pt.cells, Pt.slots] at X164 l164 y164 z164 st164 hQ164
      subst l164 y164 z164
      obtain ⟨rfl, Nq164, K164, q164_0, q164_1, q164_2, q164_3, q164_4, q164_5⟩ := hQ164
      refine OE.of (fun _ k => st164.trans k) ?_
      have N164 := Fr.app N159 Nq164
      show OE _ p e below s _ _ _ T164 (mkF m 133 #[.val (.int p1), .val (.int p2), .val (.int p3), .val (.int p4), .val (.int p5), .val (.int (2 : Int32)), .val (.int (3 : Int32)), .val (.int f0), .val (.int f1), .val (.int f2), .val (.int l0), .val (.int l1), .val (.int l2), .val (.ref b152), .unset, .unset] [])
      have R165 : Fld Z T164.heap b152 "com/example/corbel/corbel/Peaks" "count" "I" (.int (2 : Int32)) := q164_1
      have R166 : Arv Z T164.heap r154_f r154_kf .int (3 : Int32) [(.int f0), (.int f1), (.int (0 : Int32)), (.int (0 : Int32))] (.int (0 : Int32)) := q164_4
      have R167 : Arv Z T164.heap r154_g r154_kg .int (3 : Int32) [(.int l0), (.int l1), (.int (0 : Int32)), (.int (0 : Int32))] (.int (0 : Int32)) := q164_5
      refine OE.iload X164 hx hby at_133 rfl ?_
      refine OE.iconst X164 hx hby at_135 (3 : Int32) rfl ?_
      refine OE.icmpYes X164 hx hby (pc' := 148) at_136 (tlt (by decide : (2 : Int32) < (3 : Int32))).1 (h := ?_)
      have z168 : n0 ≤ T164.heap.size := (Nat.le_trans z163 K164.1)
      have K169 : Keep h0 T164.heap [] := (Keep.trans (Keep.trans (Keep.trans K155 K154 (allS (Or.inr sz_b152) all0)) K159 (allS (Or.inr sz_b152) (allS (Or.inr sz_r154_f) (allS (Or.inr sz_r154_g) all0)))) K164 (allS (Or.inr sz_b152) (allS (Or.inr sz_r154_f) (allS (Or.inr sz_r154_g) all0))))
      exact own_tail2 (3 : Int32) b152 r154_f r154_g r154_kf r154_kg (3 : Int32) [(.int (0 : Int32)), (.int (0 : Int32))] [(.int (0 : Int32)), (.int (0 : Int32))] _ _ _ _ _ X164 rfl N164 (by decide) (by decide) z168 K169 q164_0 R165 q164_2 q164_3 R166 R167 (by decide) (by decide)
    · rw [hr, (by decide : ((3 : Int32) + (1 : Int32)) = (4 : Int32))]
      show OE _ p e below s _ _ _ s₁ (mkF m 92 #[.val (.int p1), .val (.int p2), .val (.int p3), .val (.int p4), .val (.int p5), .val (.int (2 : Int32)), .val (.int (4 : Int32)), .val (.int f0), .val (.int f1), .val (.int f2), .val (.int l0), .val (.int l1), .val (.int l2), .unset, .unset, .unset] [])
      obtain ⟨T170, h170, X170, e170, E170, A170, D170, -, st170⟩ := newO X0 hx hZ hown (hw _ (List.mem_of_getElem? (i := 0) rfl)) (hw _ (List.mem_of_getElem? (i := 1) rfl)) (hw _ (List.mem_of_getElem? (i := 2) rfl)) e0 (g := (mkF m 92 #[.val (.int p1), .val (.int p2), .val (.int p3), .val (.int p4), .val (.int p5), .val (.int (2 : Int32)), .val (.int (4 : Int32)), .val (.int f0), .val (.int f1), .val (.int f2), .val (.int l0), .val (.int l1), .val (.int l2), .unset, .unset, .unset] [])) rfl (hb hby at_92) (by decide) (by decide)
      refine OE.of st170 ?_
      obtain ⟨b170, g170⟩ : ∃ z, z = h0.size := ⟨_, rfl⟩
      rw [← g170] at A170 D170 ⊢
      have g_b170 : n0 ≤ b170 := Nat.le_trans Z0 (Nat.le_of_eq g170.symm)
      have sz_b170 : h0.size ≤ b170 := Nat.le_trans (Keep.refl h0 []).1 (Nat.le_of_eq g170.symm)
      have F170_frequencies : Fld Z h170 b170 "com/example/corbel/corbel/Peaks" "frequencies" "[I" .null := D170 (Or.inl (hw _ (List.mem_of_getElem? (i := 11) rfl))) (ty := (.array .int)) (by decide)
      have F170_lengths : Fld Z h170 b170 "com/example/corbel/corbel/Peaks" "lengths" "[I" .null := D170 (Or.inl (hw _ (List.mem_of_getElem? (i := 13) rfl))) (ty := (.array .int)) (by decide)
      have F170_count : Fld Z h170 b170 "com/example/corbel/corbel/Peaks" "count" "I" (.int (0 : Int32)) := D170 (Or.inl (hw _ (List.mem_of_getElem? (i := 20) rfl))) (ty := .int) (by decide)
      show OE _ p e below s _ _ _ T170 (mkF m 95 #[.val (.int p1), .val (.int p2), .val (.int p3), .val (.int p4), .val (.int p5), .val (.int (2 : Int32)), .val (.int (4 : Int32)), .val (.int f0), .val (.int f1), .val (.int f2), .val (.int l0), .val (.int l1), .val (.int l2), .unset, .unset, .unset] [(.ref b170)])
      refine OE.dup X170 hx hby at_95 rfl ?_
      refine OE.iload X170 hx hby at_96 rfl ?_
      have z171 : n0 ≤ h170.size := (Nat.le_trans Z0 E170.1)
      obtain ⟨_, _, ⟨T172, L172, k172, n172⟩, -, X172, ⟨Lc172, hQ172, l172, y172, z172⟩, st172⟩ := X170.specialBack hx (y := (⟨"com/example/corbel/corbel/Peaks", "<init>", "(I)V"⟩ : MethodName)) rfl hown (mvT hZ (hw _ (List.mem_of_getElem? (i := 3) rfl))) (mvT hZ (hw _ (List.mem_of_getElem? (i := 4) rfl))) (mvT hZ (hw _ (List.mem_of_getElem? (i := 5) rfl))) (by decide) (backOf (W := 1) (own_rm1 l Z a0 hw [] b170 (4 : Int32) h170 n0 z171 A170 F170_frequencies F170_lengths F170_count g_b170 (by decide) (by decide)) hZ (hw _ (List.mem_of_getElem? (i := 5) rfl)) (hw _ (List.mem_of_getElem? (i := 2) rfl)) (by decide) (by decide)) (g := (mkF m 98 #[.val (.int p1), .val (.int p2), .val (.int p3), .val (.int p4), .val (.int p5), .val (.int (2 : Int32)), .val (.int (4 : Int32)), .val (.int f0), .val (.int f1), .val (.int f2), .val (.int l0), .val (.int l1), .val (.int l2), .unset, .unset, .unset] [(.int (4 : Int32)), (.ref b170), (.ref b170)])) rfl (by rw [hml]; rfl) (Steps.refl _) (a := b170) (argsL := [(.int (4 : Int32))]) (rest := [(.ref b170)]) (lenOf own_pd3 rfl) rfl (by show 2 * 0 + _ ≤ _; exact Nat.le_of_eq rfl) (hb hby at_98) (fun _ _ => ⟨rfl, e170, (by decide : 1 + 2 ≤ _), (by decide : 3 + 8 ≤ _)⟩)
      dsimp only [Pt.U, Pt.locs, Pt.cells, Pt.slots] at X172 l172 y172 z172 st172 hQ172
      subst l172 y172 z172
      obtain ⟨r172_f, r172_g, r172_kf, r172_kg, rfl, Nq172, K172, q172_0, q172_1, q172_2, q172_3, q172_4, q172_5, h172_sf, h172_sg, h172_nfg⟩ := hQ172
      refine OE.of (fun _ k => st172.trans k) ?_
      have N172 := Fr.app N0 Nq172
      have ne_b170_r172_f : b170 ≠ r172_f := Nat.ne_of_lt (Nat.lt_of_lt_of_le A170.lt h172_sf)
      have g_r172_f : n0 ≤ r172_f := Nat.le_trans z171 h172_sf
      have K173 : Keep h0 h170 [] := (Keep.ext (Keep.refl h0 []) E170)
      have sz_r172_f : h0.size ≤ r172_f := Nat.le_trans K173.1 h172_sf
      have ne_b170_r172_g : b170 ≠ r172_g := Nat.ne_of_lt (Nat.lt_of_lt_of_le A170.lt h172_sg)
      have g_r172_g : n0 ≤ r172_g := Nat.le_trans z171 h172_sg
      have sz_r172_g : h0.size ≤ r172_g := Nat.le_trans K173.1 h172_sg
      show OE _ p e below s _ _ _ T172 (mkF m 101 #[.val (.int p1), .val (.int p2), .val (.int p3), .val (.int p4), .val (.int p5), .val (.int (2 : Int32)), .val (.int (4 : Int32)), .val (.int f0), .val (.int f1), .val (.int f2), .val (.int l0), .val (.int l1), .val (.int l2), .unset, .unset, .unset] [(.ref b170)])
      have R174 : Arv Z T172.heap r172_f r172_kf .int (4 : Int32) [(.int (0 : Int32)), (.int (0 : Int32)), (.int (0 : Int32)), (.int (0 : Int32))] (.int (0 : Int32)) := q172_4
      have R175 : Arv Z T172.heap r172_g r172_kg .int (4 : Int32) [(.int (0 : Int32)), (.int (0 : Int32)), (.int (0 : Int32)), (.int (0 : Int32))] (.int (0 : Int32)) := q172_5
      refine OE.astore X172 hx hby at_101 rfl (l' := #[.val (.int p1), .val (.int p2), .val (.int p3), .val (.int p4), .val (.int p5), .val (.int (2 : Int32)), .val (.int (4 : Int32)), .val (.int f0), .val (.int f1), .val (.int f2), .val (.int l0), .val (.int l1), .val (.int l2), .val (.ref b170), .unset, .unset]) rfl ?_
      refine OE.iload X172 hx hby at_103 rfl ?_
      refine OE.iconst X172 hx hby at_105 (1 : Int32) rfl ?_
      refine OE.icmpNo X172 hx hby at_106 (flt (by decide : ¬ ((2 : Int32) < (1 : Int32)))).1 ?_
      refine OE.aload X172 hx hby at_109 rfl rfl ?_
      refine OE.iload X172 hx hby at_111 rfl ?_
      refine OE.iload X172 hx hby at_113 rfl ?_
      have z176 : n0 ≤ T172.heap.size := (Nat.le_trans z171 K172.1)
      obtain ⟨cq177, kq177, qa177, qb177, qc177⟩ := isOf hZ rfl q172_0
      obtain ⟨_, _, ⟨T177, L177, k177, n177⟩, -, X177, ⟨Lc177, hQ177, l177, y177, z177⟩, st177⟩ := X172.virtualBack hx (y := (⟨"com/example/corbel/corbel/Peaks", "append", "(II)V"⟩ : MethodName)) (z := (⟨"com/example/corbel/corbel/Peaks", "append", "(II)V"⟩ : MethodName)) hown (mvT hZ (hw _ (List.mem_of_getElem? (i := 21) rfl))) (mvT hZ (hw _ (List.mem_of_getElem? (i := 22) rfl))) (notFace_of_selects (args := #[]) (mvT hZ (hw _ (List.mem_of_getElem? (i := 24) rfl)))) (mvT hZ (hw _ (List.mem_of_getElem? (i := 24) rfl))) (mvT hZ (hw _ (List.mem_of_getElem? (i := 23) rfl))) (by decide) (backOf (W := 0) (own_rm4_A l Z a0 hw [] b170 f0 l0 r172_f r172_g (0 : Int32) (4 : Int32) r172_kf [(.int (0 : Int32)), (.int (0 : Int32)), (.int (0 : Int32)), (.int (0 : Int32))] r172_kg [(.int (0 : Int32)), (.int (0 : Int32)), (.int (0 : Int32)), (.int (0 : Int32))] T172.heap n0 z176 q172_0 q172_3 q172_1 q172_2 R174 R175 g_b170 g_r172_f g_r172_g (Ne.symm ne_b170_r172_f) (Ne.symm ne_b170_r172_g) h172_nfg (by decide) (by decide) (Nat.le_of_ble_eq_true rfl) (Nat.le_of_ble_eq_true rfl)) hZ (hw _ (List.mem_of_getElem? (i := 25) rfl)) (hw _ (List.mem_of_getElem? (i := 2) rfl)) (by decide) (by decide)) qa177 qc177 (g := (mkF m 115 #[.val (.int p1), .val (.int p2), .val (.int p3), .val (.int p4), .val (.int p5), .val (.int (2 : Int32)), .val (.int (4 : Int32)), .val (.int f0), .val (.int f1), .val (.int f2), .val (.int l0), .val (.int l1), .val (.int l2), .val (.ref b170), .unset, .unset] [(.int l0), (.int f0), (.ref b170)])) rfl (by rw [hml]; rfl) (Steps.refl _) (argsL := [(.int f0), (.int l0)]) (rest := []) (lenOf own_pd5 rfl) rfl (by show 2 * 0 + _ ≤ _; exact Nat.le_of_eq rfl) (hb hby at_115) (fun _ _ => ⟨rfl, rfl, (by decide : 3 + 0 ≤ _), (by decide : 11 + 0 ≤ _)⟩)
      dsimp only [Pt.U, Pt.locs, Pt.cells, Pt.slots] at X177 l177 y177 z177 st177 hQ177
      subst l177 y177 z177
      obtain ⟨rfl, Nq177, K177, q177_0, q177_1, q177_2, q177_3, q177_4, q177_5⟩ := hQ177
      refine OE.of (fun _ k => st177.trans k) ?_
      have N177 := Fr.app N172 Nq177
      show OE _ p e below s _ _ _ T177 (mkF m 118 #[.val (.int p1), .val (.int p2), .val (.int p3), .val (.int p4), .val (.int p5), .val (.int (2 : Int32)), .val (.int (4 : Int32)), .val (.int f0), .val (.int f1), .val (.int f2), .val (.int l0), .val (.int l1), .val (.int l2), .val (.ref b170), .unset, .unset] [])
      have R178 : Fld Z T177.heap b170 "com/example/corbel/corbel/Peaks" "count" "I" (.int (1 : Int32)) := q177_1
      have R179 : Arv Z T177.heap r172_f r172_kf .int (4 : Int32) [(.int f0), (.int (0 : Int32)), (.int (0 : Int32)), (.int (0 : Int32))] (.int (0 : Int32)) := q177_4
      have R180 : Arv Z T177.heap r172_g r172_kg .int (4 : Int32) [(.int l0), (.int (0 : Int32)), (.int (0 : Int32)), (.int (0 : Int32))] (.int (0 : Int32)) := q177_5
      refine OE.iload X177 hx hby at_118 rfl ?_
      refine OE.iconst X177 hx hby at_120 (2 : Int32) rfl ?_
      refine OE.icmpNo X177 hx hby at_121 (flt (by decide : ¬ ((2 : Int32) < (2 : Int32)))).1 ?_
      refine OE.aload X177 hx hby at_124 rfl rfl ?_
      refine OE.iload X177 hx hby at_126 rfl ?_
      refine OE.iload X177 hx hby at_128 rfl ?_
      have z181 : n0 ≤ T177.heap.size := (Nat.le_trans z176 K177.1)
      obtain ⟨cq182, kq182, qa182, qb182, qc182⟩ := isOf hZ rfl q177_0
      obtain ⟨_, _, ⟨T182, L182, k182, n182⟩, -, X182, ⟨Lc182, hQ182, l182, y182, z182⟩, st182⟩ := X177.virtualBack hx (y := (⟨"com/example/corbel/corbel/Peaks", "append", "(II)V"⟩ : MethodName)) (z := (⟨"com/example/corbel/corbel/Peaks", "append", "(II)V"⟩ : MethodName)) hown (mvT hZ (hw _ (List.mem_of_getElem? (i := 21) rfl))) (mvT hZ (hw _ (List.mem_of_getElem? (i := 22) rfl))) (notFace_of_selects (args := #[]) (mvT hZ (hw _ (List.mem_of_getElem? (i := 24) rfl)))) (mvT hZ (hw _ (List.mem_of_getElem? (i := 24) rfl))) (mvT hZ (hw _ (List.mem_of_getElem? (i := 23) rfl))) (by decide) (backOf (W := 0) (own_rm4_A l Z a0 hw [] b170 f1 l1 r172_f r172_g (1 : Int32) (4 : Int32) r172_kf [(.int f0), (.int (0 : Int32)), (.int (0 : Int32)), (.int (0 : Int32))] r172_kg [(.int l0), (.int (0 : Int32)), (.int (0 : Int32)), (.int (0 : Int32))] T177.heap n0 z181 q177_0 R178 q177_2 q177_3 R179 R180 g_b170 g_r172_f g_r172_g (Ne.symm ne_b170_r172_f) (Ne.symm ne_b170_r172_g) h172_nfg (by decide) (by decide) (Nat.le_of_ble_eq_true rfl) (Nat.le_of_ble_eq_true rfl)) hZ (hw _ (List.mem_of_getElem? (i := 25) rfl)) (hw _ (List.mem_of_getElem? (i := 2) rfl)) (by decide) (by decide)) qa182 qc182 (g := (mkF m 130 #[.val (.int p1), .val (.int p2), .val (.int p3), .val (.int p4), .val (.int p5), .val (.int (2 : Int32)), .val (.int (4 : Int32)), .val (.int f0), .val (.int f1), .val (.int f2), .val (.int l0), .val (.int l1), .val (.int l2), .val (.ref b170), .unset, .unset] [(.int l1), (.int f1), (.ref b170)])) rfl (by rw [hml]; rfl) (Steps.refl _) (argsL := [(.int f1), (.int l1)]) (rest := []) (lenOf own_pd5 rfl) rfl (by show 2 * 0 + _ ≤ _; exact Nat.le_of_eq rfl) (hb hby at_130) (fun _ _ => ⟨rfl, rfl, (by decide : 3 + 0 ≤ _), (by decide : 11 + 0 ≤ _)⟩)
      dsimp only [Pt.U, Pt.locs, Pt.cells, Pt.slots] at X182 l182 y182 z182 st182 hQ182
      subst l182 y182 z182
      obtain ⟨rfl, Nq182, K182, q182_0, q182_1, q182_2, q182_3, q182_4, q182_5⟩ := hQ182
      refine OE.of (fun _ k => st182.trans k) ?_
      have N182 := Fr.app N177 Nq182
      show OE _ p e below s _ _ _ T182 (mkF m 133 #[.val (.int p1), .val (.int p2), .val (.int p3), .val (.int p4), .val (.int p5), .val (.int (2 : Int32)), .val (.int (4 : Int32)), .val (.int f0), .val (.int f1), .val (.int f2), .val (.int l0), .val (.int l1), .val (.int l2), .val (.ref b170), .unset, .unset] [])
      have R183 : Fld Z T182.heap b170 "com/example/corbel/corbel/Peaks" "count" "I" (.int (2 : Int32)) := q182_1
      have R184 : Arv Z T182.heap r172_f r172_kf .int (4 : Int32) [(.int f0), (.int f1), (.int (0 : Int32)), (.int (0 : Int32))] (.int (0 : Int32)) := q182_4
      have R185 : Arv Z T182.heap r172_g r172_kg .int (4 : Int32) [(.int l0), (.int l1), (.int (0 : Int32)), (.int (0 : Int32))] (.int (0 : Int32)) := q182_5
      refine OE.iload X182 hx hby at_133 rfl ?_
      refine OE.iconst X182 hx hby at_135 (3 : Int32) rfl ?_
      refine OE.icmpYes X182 hx hby (pc' := 148) at_136 (tlt (by decide : (2 : Int32) < (3 : Int32))).1 (h := ?_)
      have z186 : n0 ≤ T182.heap.size := (Nat.le_trans z181 K182.1)
      have K187 : Keep h0 T182.heap [] := (Keep.trans (Keep.trans (Keep.trans K173 K172 (allS (Or.inr sz_b170) all0)) K177 (allS (Or.inr sz_b170) (allS (Or.inr sz_r172_f) (allS (Or.inr sz_r172_g) all0)))) K182 (allS (Or.inr sz_b170) (allS (Or.inr sz_r172_f) (allS (Or.inr sz_r172_g) all0))))
      exact own_tail2 (4 : Int32) b170 r172_f r172_g r172_kf r172_kg (4 : Int32) [(.int (0 : Int32)), (.int (0 : Int32))] [(.int (0 : Int32)), (.int (0 : Int32))] _ _ _ _ _ X182 rfl N182 (by decide) (by decide) z186 K187 q182_0 R183 q182_2 q182_3 R184 R185 (by decide) (by decide)
  · rw [hn]
    show OE _ p e below s _ _ _ s₁ (mkF m 92 #[.val (.int p1), .val (.int p2), .val (.int p3), .val (.int p4), .val (.int p5), .val (.int (3 : Int32)), .val (.int ((((p5.toUInt32 >>> ((2 : Int32) &&& 31).toUInt32).toInt32) &&& (3 : Int32)) + (1 : Int32))), .val (.int f0), .val (.int f1), .val (.int f2), .val (.int l0), .val (.int l1), .val (.int l2), .unset, .unset, .unset] [])
    have own_tail3 : ∀ (rm : Int32) (b : Addr) (f : Addr) (g : Addr) (kf : ClassId) (kg : ClassId) (cap : Int32) (tF : List Value) (tG : List Value) (T188 : State) (H188 : Heap) (locs188 : List Loc) (cells188 : Nat) (slots188 : Nat), Stand p l e room_1 s m #[(.int p1), (.int p2), (.int p3), (.int p4), (.int p5)] below meth c T188 locs188 cells188 slots188 → T188.heap = H188 → Fr n0 locs188 → cells188 ≤ 24 → slots188 ≤ 128 → n0 ≤ H188.size → Keep h0 H188 [] → Exa Z H188 b "com/example/corbel/corbel/Peaks" → Fld Z H188 b "com/example/corbel/corbel/Peaks" "count" "I" (.int (3 : Int32)) → Fld Z H188 b "com/example/corbel/corbel/Peaks" "frequencies" "[I" (.ref f) → Fld Z H188 b "com/example/corbel/corbel/Peaks" "lengths" "[I" (.ref g) → Arv Z H188 f kf .int cap ((.int f0) :: (.int f1) :: (.int f2) :: tF) (.int (0 : Int32)) → Arv Z H188 g kg .int cap ((.int l0) :: (.int l1) :: (.int l2) :: tG) (.int (0 : Int32)) → (0 : Int32) < cap → (1 : Int32) < cap → (2 : Int32) < cap → OE FrameEnd p e below s (own_Q0 Z p1 p2 p3 p4 p5 h0 n0) room_1.cells room_1.slots T188 (mkF m 148 #[.val (.int p1), .val (.int p2), .val (.int p3), .val (.int p4), .val (.int p5), .val (.int (3 : Int32)), .val (.int rm), .val (.int f0), .val (.int f1), .val (.int f2), .val (.int l0), .val (.int l1), .val (.int l2), .val (.ref b), .unset, .unset] []) := by
      intro rm b f g kf kg cap tF tG T188 H188 locs188 cells188 slots188 X188 e188 N188 hcl188 hsl188 z188 K188 tE tC tf tg tVf tVg hn0 hn1 hn2
      show OE _ p e below s _ _ _ T188 (mkF m 148 #[.val (.int p1), .val (.int p2), .val (.int p3), .val (.int p4), .val (.int p5), .val (.int (3 : Int32)), .val (.int rm), .val (.int f0), .val (.int f1), .val (.int f2), .val (.int l0), .val (.int l1), .val (.int l2), .val (.ref b), .unset, .unset] [])
      refine OE.aload X188 hx hby at_148 rfl rfl ?_
      refine OE.iloadN X188 hx hby at_150 rfl ?_
      refine OE.iloadN X188 hx hby at_151 rfl ?_
      obtain ⟨cq189, kq189, qa189, qb189, qc189⟩ := isOf hZ e188 tE
      obtain ⟨_, _, ⟨T189, L189, k189, n189⟩, -, X189, ⟨Lc189, hQ189, l189, y189, z189⟩, st189⟩ := X188.virtualBack hx (y := (⟨"com/example/corbel/corbel/Peaks", "bound", "(II)Z"⟩ : MethodName)) (z := (⟨"com/example/corbel/corbel/Peaks", "bound", "(II)Z"⟩ : MethodName)) hown (mvT hZ (hw _ (List.mem_of_getElem? (i := 14) rfl))) (mvT hZ (hw _ (List.mem_of_getElem? (i := 15) rfl))) (notFace_of_selects (args := #[]) (mvT hZ (hw _ (List.mem_of_getElem? (i := 17) rfl)))) (mvT hZ (hw _ (List.mem_of_getElem? (i := 17) rfl))) (mvT hZ (hw _ (List.mem_of_getElem? (i := 16) rfl))) (by decide) (backOf (W := 0) (own_rm3_3 l Z a0 hw [] b p3 p4 f0 f1 f2 l0 l1 l2 tF tG cap f g kf kg H188 n0 z188 tC tf tg tVf tVg hn0 hn1 hn2) hZ (hw _ (List.mem_of_getElem? (i := 18) rfl)) (hw _ (List.mem_of_getElem? (i := 2) rfl)) (by decide) (by decide)) qa189 qc189 (g := (mkF m 152 #[.val (.int p1), .val (.int p2), .val (.int p3), .val (.int p4), .val (.int p5), .val (.int (3 : Int32)), .val (.int rm), .val (.int f0), .val (.int f1), .val (.int f2), .val (.int l0), .val (.int l1), .val (.int l2), .val (.ref b), .unset, .unset] [(.int p4), (.int p3), (.ref b)])) rfl (by rw [hml]; rfl) (Steps.refl _) (argsL := [(.int p3), (.int p4)]) (rest := []) (lenOf own_pd2 rfl) rfl (by show 2 * 0 + _ ≤ _; exact Nat.le_of_eq rfl) (hb hby at_152) (fun _ _ => ⟨rfl, e188, (Nat.le_trans (Nat.add_le_add_right hcl188 0) (by decide)), (Nat.le_trans (Nat.add_le_add_right hsl188 0) (by decide))⟩)
      dsimp only [Pt.U, Pt.locs, Pt.cells, Pt.slots] at X189 l189 y189 z189 st189 hQ189
      subst l189 y189 z189
      obtain ⟨rfl, Nq189, eq189⟩ := hQ189
      refine OE.of (fun _ k => st189.trans k) ?_
      have N189 := Fr.app N188 Nq189
      show OE _ p e below s _ _ _ T189 (mkF m 155 #[.val (.int p1), .val (.int p2), .val (.int p3), .val (.int p4), .val (.int p5), .val (.int (3 : Int32)), .val (.int rm), .val (.int f0), .val (.int f1), .val (.int f2), .val (.int l0), .val (.int l1), .val (.int l2), .val (.ref b), .unset, .unset] [(.int (if f0 < p3 then (if f1 < p3 then (if f2 < p3 then (0 : Int32) else (if p4 < l2 then (0 : Int32) else (1 : Int32))) else (if p4 < l1 then (if f2 < p3 then (0 : Int32) else (if p4 < l2 then (0 : Int32) else (1 : Int32))) else (1 : Int32))) else (if p4 < l0 then (if f1 < p3 then (if f2 < p3 then (0 : Int32) else (if p4 < l2 then (0 : Int32) else (1 : Int32))) else (if p4 < l1 then (if f2 < p3 then (0 : Int32) else (if p4 < l2 then (0 : Int32) else (1 : Int32))) else (1 : Int32))) else (1 : Int32))))])
      by_cases hl190 : f0 < p3
      · skip
        rw [if_pos (show f0 < p3 from hl190)]
        show OE _ p e below s _ _ _ T189 (mkF m 155 #[.val (.int p1), .val (.int p2), .val (.int p3), .val (.int p4), .val (.int p5), .val (.int (3 : Int32)), .val (.int rm), .val (.int f0), .val (.int f1), .val (.int f2), .val (.int l0), .val (.int l1), .val (.int l2), .val (.ref b), .unset, .unset] [(.int (if f1 < p3 then (if f2 < p3 then (0 : Int32) else (if p4 < l2 then (0 : Int32) else (1 : Int32))) else (if p4 < l1 then (if f2 < p3 then (0 : Int32) else (if p4 < l2 then (0 : Int32) else (1 : Int32))) else (1 : Int32))))])
        by_cases hl191 : f1 < p3
        · skip
          rw [if_pos (show f1 < p3 from hl191)]
          show OE _ p e below s _ _ _ T189 (mkF m 155 #[.val (.int p1), .val (.int p2), .val (.int p3), .val (.int p4), .val (.int p5), .val (.int (3 : Int32)), .val (.int rm), .val (.int f0), .val (.int f1), .val (.int f2), .val (.int l0), .val (.int l1), .val (.int l2), .val (.ref b), .unset, .unset] [(.int (if f2 < p3 then (0 : Int32) else (if p4 < l2 then (0 : Int32) else (1 : Int32))))])
          by_cases hl192 : f2 < p3
          · skip
            rw [if_pos (show f2 < p3 from hl192)]
            show OE _ p e below s _ _ _ T189 (mkF m 155 #[.val (.int p1), .val (.int p2), .val (.int p3), .val (.int p4), .val (.int p5), .val (.int (3 : Int32)), .val (.int rm), .val (.int f0), .val (.int f1), .val (.int f2), .val (.int l0), .val (.int l1), .val (.int l2), .val (.ref b), .unset, .unset] [(.int (0 : Int32))])
            refine OE.istore X189 hx hby at_155 (l' := #[.val (.int p1), .val (.int p2), .val (.int p3), .val (.int p4), .val (.int p5), .val (.int (3 : Int32)), .val (.int rm), .val (.int f0), .val (.int f1), .val (.int f2), .val (.int l0), .val (.int l1), .val (.int l2), .val (.ref b), .val (.int (0 : Int32)), .unset]) rfl ?_
            refine OE.iload X189 hx hby at_157 rfl ?_
            refine OE.iconst X189 hx hby at_159 (1 : Int32) rfl ?_
            refine OE.icmpNo X189 hx hby at_160 (flt (by decide : ¬ ((3 : Int32) < (1 : Int32)))).1 ?_
            refine OE.iload X189 hx hby at_163 rfl ?_
            refine OE.iload X189 hx hby at_165 rfl ?_
            refine OE.iloadN X189 hx hby at_167 rfl ?_
            refine OE.iloadN X189 hx hby at_168 rfl ?_
            obtain ⟨_, _, ⟨T193, L193, k193, n193⟩, -, X193, ⟨Lc193, hQ193, l193, y193, z193⟩, st193⟩ := Jvm.LawKit.callS X189 hx (y := (⟨"com/example/corbel/corbel/PeaksBoundPinLaw", "covers", "(IIII)Z"⟩ : MethodName)) hown (mvT hZ (hw _ (List.mem_of_getElem? (i := 38) rfl))) (mvT hZ (hw _ (List.mem_of_getElem? (i := 39) rfl))) (mvT hZ (hw _ (List.mem_of_getElem? (i := 40) rfl))) (mvT hZ (hw _ (List.mem_of_getElem? (i := 41) rfl))) (by decide) (backOf (W := 0) (own_rm7 l Z a0 hw [] f0 l0 p3 p4 H188 n0 z188 ) hZ (hw _ (List.mem_of_getElem? (i := 41) rfl)) (hw _ (List.mem_of_getElem? (i := 40) rfl)) (by decide) (by decide)) (g := (mkF m 169 #[.val (.int p1), .val (.int p2), .val (.int p3), .val (.int p4), .val (.int p5), .val (.int (3 : Int32)), .val (.int rm), .val (.int f0), .val (.int f1), .val (.int f2), .val (.int l0), .val (.int l1), .val (.int l2), .val (.ref b), .val (.int (0 : Int32)), .unset] [(.int p4), (.int p3), (.int l0), (.int f0)])) rfl (by rw [hml]; rfl) (argsL := [(.int f0), (.int l0), (.int p3), (.int p4)]) (rest := []) (lenOf own_pd4 rfl) rfl (by show 2 * 0 + _ ≤ _; exact Nat.le_of_eq rfl) (hb hby at_169) (fun _ _ => ⟨rfl, eq189, (Nat.le_trans (Nat.add_le_add_right (Nat.add_le_add_right hcl188 0) 0) (by decide)), (Nat.le_trans (Nat.add_le_add_right (Nat.add_le_add_right hsl188 0) 0) (by decide))⟩)
            dsimp only [Pt.U, Pt.locs, Pt.cells, Pt.slots] at X193 l193 y193 z193 st193 hQ193
            subst l193 y193 z193
            obtain ⟨rfl, Nq193, eq193⟩ := hQ193
            refine OE.of (fun _ k => st193 _ k) ?_
            have N193 := Fr.app N189 Nq193
            show OE _ p e below s _ _ _ T193 (mkF m 172 #[.val (.int p1), .val (.int p2), .val (.int p3), .val (.int p4), .val (.int p5), .val (.int (3 : Int32)), .val (.int rm), .val (.int f0), .val (.int f1), .val (.int f2), .val (.int l0), .val (.int l1), .val (.int l2), .val (.ref b), .val (.int (0 : Int32)), .unset] [(.int (if f0 < p3 then (0 : Int32) else (if p4 < l0 then (0 : Int32) else (1 : Int32))))])
            rw [if_pos (show f0 < p3 from hl190)]
            show OE _ p e below s _ _ _ T193 (mkF m 172 #[.val (.int p1), .val (.int p2), .val (.int p3), .val (.int p4), .val (.int p5), .val (.int (3 : Int32)), .val (.int rm), .val (.int f0), .val (.int f1), .val (.int f2), .val (.int l0), .val (.int l1), .val (.int l2), .val (.ref b), .val (.int (0 : Int32)), .unset] [(.int (0 : Int32))])
            refine OE.ifNo X193 hx hby at_172 (teq (by decide : (0 : Int32) = (0 : Int32))).2 ?_
            refine OE.iload X193 hx hby at_175 rfl ?_
            refine OE.iconst X193 hx hby at_177 (2 : Int32) rfl ?_
            refine OE.icmpNo X193 hx hby at_178 (flt (by decide : ¬ ((3 : Int32) < (2 : Int32)))).1 ?_
            refine OE.iload X193 hx hby at_181 rfl ?_
            refine OE.iload X193 hx hby at_183 rfl ?_
            refine OE.iloadN X193 hx hby at_185 rfl ?_
            refine OE.iloadN X193 hx hby at_186 rfl ?_
            obtain ⟨_, _, ⟨T194, L194, k194, n194⟩, -, X194, ⟨Lc194, hQ194, l194, y194, z194⟩, st194⟩ := Jvm.LawKit.callS X193 hx (y := (⟨"com/example/corbel/corbel/PeaksBoundPinLaw", "covers", "(IIII)Z"⟩ : MethodName)) hown (mvT hZ (hw _ (List.mem_of_getElem? (i := 38) rfl))) (mvT hZ (hw _ (List.mem_of_getElem? (i := 39) rfl))) (mvT hZ (hw _ (List.mem_of_getElem? (i := 40) rfl))) (mvT hZ (hw _ (List.mem_of_getElem? (i := 41) rfl))) (by decide) (backOf (W := 0) (own_rm7 l Z a0 hw [] f1 l1 p3 p4 H188 n0 z188 ) hZ (hw _ (List.mem_of_getElem? (i := 41) rfl)) (hw _ (List.mem_of_getElem? (i := 40) rfl)) (by decide) (by decide)) (g := (mkF m 187 #[.val (.int p1), .val (.int p2), .val (.int p3), .val (.int p4), .val (.int p5), .val (.int (3 : Int32)), .val (.int rm), .val (.int f0), .val (.int f1), .val (.int f2), .val (.int l0), .val (.int l1), .val (.int l2), .val (.ref b), .val (.int (0 : Int32)), .unset] [(.int p4), (.int p3), (.int l1), (.int f1)])) rfl (by rw [hml]; rfl) (argsL := [(.int f1), (.int l1), (.int p3), (.int p4)]) (rest := []) (lenOf own_pd4 rfl) rfl (by show 2 * 0 + _ ≤ _; exact Nat.le_of_eq rfl) (hb hby at_187) (fun _ _ => ⟨rfl, eq193, (Nat.le_trans (Nat.add_le_add_right (Nat.add_le_add_right (Nat.add_le_add_right hcl188 0) 0) 0) (by decide)), (Nat.le_trans (Nat.add_le_add_right (Nat.add_le_add_right (Nat.add_le_add_right hsl188 0) 0) 0) (by decide))⟩)
            dsimp only [Pt.U, Pt.locs, Pt.cells, Pt.slots] at X194 l194 y194 z194 st194 hQ194
            subst l194 y194 z194
            obtain ⟨rfl, Nq194, eq194⟩ := hQ194
            refine OE.of (fun _ k => st194 _ k) ?_
            have N194 := Fr.app N193 Nq194
            show OE _ p e below s _ _ _ T194 (mkF m 190 #[.val (.int p1), .val (.int p2), .val (.int p3), .val (.int p4), .val (.int p5), .val (.int (3 : Int32)), .val (.int rm), .val (.int f0), .val (.int f1), .val (.int f2), .val (.int l0), .val (.int l1), .val (.int l2), .val (.ref b), .val (.int (0 : Int32)), .unset] [(.int (if f1 < p3 then (0 : Int32) else (if p4 < l1 then (0 : Int32) else (1 : Int32))))])
            rw [if_pos (show f1 < p3 from hl191)]
            show OE _ p e below s _ _ _ T194 (mkF m 190 #[.val (.int p1), .val (.int p2), .val (.int p3), .val (.int p4), .val (.int p5), .val (.int (3 : Int32)), .val (.int rm), .val (.int f0), .val (.int f1), .val (.int f2), .val (.int l0), .val (.int l1), .val (.int l2), .val (.ref b), .val (.int (0 : Int32)), .unset] [(.int (0 : Int32))])
            refine OE.ifNo X194 hx hby at_190 (teq (by decide : (0 : Int32) = (0 : Int32))).2 ?_
            refine OE.iload X194 hx hby at_193 rfl ?_
            refine OE.iconst X194 hx hby at_195 (3 : Int32) rfl ?_
            refine OE.icmpNo X194 hx hby at_196 (flt (by decide : ¬ ((3 : Int32) < (3 : Int32)))).1 ?_
            refine OE.iload X194 hx hby at_199 rfl ?_
            refine OE.iload X194 hx hby at_201 rfl ?_
            refine OE.iloadN X194 hx hby at_203 rfl ?_
            refine OE.iloadN X194 hx hby at_204 rfl ?_
            obtain ⟨_, _, ⟨T195, L195, k195, n195⟩, -, X195, ⟨Lc195, hQ195, l195, y195, z195⟩, st195⟩ := Jvm.LawKit.callS X194 hx (y := (⟨"com/example/corbel/corbel/PeaksBoundPinLaw", "covers", "(IIII)Z"⟩ : MethodName)) hown (mvT hZ (hw _ (List.mem_of_getElem? (i := 38) rfl))) (mvT hZ (hw _ (List.mem_of_getElem? (i := 39) rfl))) (mvT hZ (hw _ (List.mem_of_getElem? (i := 40) rfl))) (mvT hZ (hw _ (List.mem_of_getElem? (i := 41) rfl))) (by decide) (backOf (W := 0) (own_rm7 l Z a0 hw [] f2 l2 p3 p4 H188 n0 z188 ) hZ (hw _ (List.mem_of_getElem? (i := 41) rfl)) (hw _ (List.mem_of_getElem? (i := 40) rfl)) (by decide) (by decide)) (g := (mkF m 205 #[.val (.int p1), .val (.int p2), .val (.int p3), .val (.int p4), .val (.int p5), .val (.int (3 : Int32)), .val (.int rm), .val (.int f0), .val (.int f1), .val (.int f2), .val (.int l0), .val (.int l1), .val (.int l2), .val (.ref b), .val (.int (0 : Int32)), .unset] [(.int p4), (.int p3), (.int l2), (.int f2)])) rfl (by rw [hml]; rfl) (argsL := [(.int f2), (.int l2), (.int p3), (.int p4)]) (rest := []) (lenOf own_pd4 rfl) rfl (by show 2 * 0 + _ ≤ _; exact Nat.le_of_eq rfl) (hb hby at_205) (fun _ _ => ⟨rfl, eq194, (Nat.le_trans (Nat.add_le_add_right (Nat.add_le_add_right (Nat.add_le_add_right (Nat.add_le_add_right hcl188 0) 0) 0) 0) (by decide)), (Nat.le_trans (Nat.add_le_add_right (Nat.add_le_add_right (Nat.add_le_add_right (Nat.add_le_add_right hsl188 0) 0) 0) 0) (by decide))⟩)
            dsimp only [Pt.U, Pt.locs, Pt.cells, Pt.slots] at X195 l195 y195 z195 st195 hQ195
            subst l195 y195 z195
            obtain ⟨rfl, Nq195, eq195⟩ := hQ195
            refine OE.of (fun _ k => st195 _ k) ?_
            have N195 := Fr.app N194 Nq195
            show OE _ p e below s _ _ _ T195 (mkF m 208 #[.val (.int p1), .val (.int p2), .val (.int p3), .val (.int p4), .val (.int p5), .val (.int (3 : Int32)), .val (.int rm), .val (.int f0), .val (.int f1), .val (.int f2), .val (.int l0), .val (.int l1), .val (.int l2), .val (.ref b), .val (.int (0 : Int32)), .unset] [(.int (if f2 < p3 then (0 : Int32) else (if p4 < l2 then (0 : Int32) else (1 : Int32))))])
            rw [if_pos (show f2 < p3 from hl192)]
            show OE _ p e below s _ _ _ T195 (mkF m 208 #[.val (.int p1), .val (.int p2), .val (.int p3), .val (.int p4), .val (.int p5), .val (.int (3 : Int32)), .val (.int rm), .val (.int f0), .val (.int f1), .val (.int f2), .val (.int l0), .val (.int l1), .val (.int l2), .val (.ref b), .val (.int (0 : Int32)), .unset] [(.int (0 : Int32))])
            refine OE.ifYes X195 hx hby (pc' := 215) at_208 (teq (by decide : (0 : Int32) = (0 : Int32))).1 (h := ?_)
            refine OE.iconst X195 hx hby at_215 (0 : Int32) rfl ?_
            refine OE.istore X195 hx hby at_216 (l' := #[.val (.int p1), .val (.int p2), .val (.int p3), .val (.int p4), .val (.int p5), .val (.int (3 : Int32)), .val (.int rm), .val (.int f0), .val (.int f1), .val (.int f2), .val (.int l0), .val (.int l1), .val (.int l2), .val (.ref b), .val (.int (0 : Int32)), .val (.int (0 : Int32))]) rfl ?_
            refine OE.iload X195 hx hby at_218 rfl ?_
            refine OE.iload X195 hx hby at_220 rfl ?_
            refine OE.icmpNo X195 hx hby at_222 (teq (by decide : (0 : Int32) = (0 : Int32))).2 ?_
            refine OE.iconst X195 hx hby at_225 (1 : Int32) rfl ?_
            refine OE.goto X195 hx hby (pc' := 230) at_226 (h := ?_)
            refine OE.retN X195 hx (t := .boolean) Bd.returns (by simp) Bd.notSynchronized (hb hby at_230) (Nat.le_trans (Nat.add_le_add_right (Nat.add_le_add_right (Nat.add_le_add_right (Nat.add_le_add_right hcl188 0) 0) 0) 0) (by decide)) (Nat.le_trans (Nat.add_le_add_right (Nat.add_le_add_right (Nat.add_le_add_right (Nat.add_le_add_right hsl188 0) 0) 0) 0) (by decide)) ?_
            rw [eq195]
            exact ⟨rfl, N195⟩
          · skip
            rw [if_neg (show ¬ (f2 < p3) from hl192)]
            show OE _ p e below s _ _ _ T189 (mkF m 155 #[.val (.int p1), .val (.int p2), .val (.int p3), .val (.int p4), .val (.int p5), .val (.int (3 : Int32)), .val (.int rm), .val (.int f0), .val (.int f1), .val (.int f2), .val (.int l0), .val (.int l1), .val (.int l2), .val (.ref b), .unset, .unset] [(.int (if p4 < l2 then (0 : Int32) else (1 : Int32)))])
            by_cases hl196 : p4 < l2
            · skip
              rw [if_pos (show p4 < l2 from hl196)]
              show OE _ p e below s _ _ _ T189 (mkF m 155 #[.val (.int p1), .val (.int p2), .val (.int p3), .val (.int p4), .val (.int p5), .val (.int (3 : Int32)), .val (.int rm), .val (.int f0), .val (.int f1), .val (.int f2), .val (.int l0), .val (.int l1), .val (.int l2), .val (.ref b), .unset, .unset] [(.int (0 : Int32))])
              refine OE.istore X189 hx hby at_155 (l' := #[.val (.int p1), .val (.int p2), .val (.int p3), .val (.int p4), .val (.int p5), .val (.int (3 : Int32)), .val (.int rm), .val (.int f0), .val (.int f1), .val (.int f2), .val (.int l0), .val (.int l1), .val (.int l2), .val (.ref b), .val (.int (0 : Int32)), .unset]) rfl ?_
              refine OE.iload X189 hx hby at_157 rfl ?_
              refine OE.iconst X189 hx hby at_159 (1 : Int32) rfl ?_
              refine OE.icmpNo X189 hx hby at_160 (flt (by decide : ¬ ((3 : Int32) < (1 : Int32)))).1 ?_
              refine OE.iload X189 hx hby at_163 rfl ?_
              refine OE.iload X189 hx hby at_165 rfl ?_
              refine OE.iloadN X189 hx hby at_167 rfl ?_
              refine OE.iloadN X189 hx hby at_168 rfl ?_
              obtain ⟨_, _, ⟨T197, L197, k197, n197⟩, -, X197, ⟨Lc197, hQ197, l197, y197, z197⟩, st197⟩ := Jvm.LawKit.callS X189 hx (y := (⟨"com/example/corbel/corbel/PeaksBoundPinLaw", "covers", "(IIII)Z"⟩ : MethodName)) hown (mvT hZ (hw _ (List.mem_of_getElem? (i := 38) rfl))) (mvT hZ (hw _ (List.mem_of_getElem? (i := 39) rfl))) (mvT hZ (hw _ (List.mem_of_getElem? (i := 40) rfl))) (mvT hZ (hw _ (List.mem_of_getElem? (i := 41) rfl))) (by decide) (backOf (W := 0) (own_rm7 l Z a0 hw [] f0 l0 p3 p4 H188 n0 z188 ) hZ (hw _ (List.mem_of_getElem? (i := 41) rfl)) (hw _ (List.mem_of_getElem? (i := 40) rfl)) (by decide) (by decide)) (g := (mkF m 169 #[.val (.int p1), .val (.int p2), .val (.int p3), .val (.int p4), .val (.int p5), .val (.int (3 : Int32)), .val (.int rm), .val (.int f0), .val (.int f1), .val (.int f2), .val (.int l0), .val (.int l1), .val (.int l2), .val (.ref b), .val (.int (0 : Int32)), .unset] [(.int p4), (.int p3), (.int l0), (.int f0)])) rfl (by rw [hml]; rfl) (argsL := [(.int f0), (.int l0), (.int p3), (.int p4)]) (rest := []) (lenOf own_pd4 rfl) rfl (by show 2 * 0 + _ ≤ _; exact Nat.le_of_eq rfl) (hb hby at_169) (fun _ _ => ⟨rfl, eq189, (Nat.le_trans (Nat.add_le_add_right (Nat.add_le_add_right hcl188 0) 0) (by decide)), (Nat.le_trans (Nat.add_le_add_right (Nat.add_le_add_right hsl188 0) 0) (by decide))⟩)
              dsimp only [Pt.U, Pt.locs, Pt.cells, Pt.slots] at X197 l197 y197 z197 st197 hQ197
              subst l197 y197 z197
              obtain ⟨rfl, Nq197, eq197⟩ := hQ197
              refine OE.of (fun _ k => st197 _ k) ?_
              have N197 := Fr.app N189 Nq197
              show OE _ p e below s _ _ _ T197 (mkF m 172 #[.val (.int p1), .val (.int p2), .val (.int p3), .val (.int p4), .val (.int p5), .val (.int (3 : Int32)), .val (.int rm), .val (.int f0), .val (.int f1), .val (.int f2), .val (.int l0), .val (.int l1), .val (.int l2), .val (.ref b), .val (.int (0 : Int32)), .unset] [(.int (if f0 < p3 then (0 : Int32) else (if p4 < l0 then (0 : Int32) else (1 : Int32))))])
              rw [if_pos (show f0 < p3 from hl190)]
              show OE _ p e below s _ _ _ T197 (mkF m 172 #[.val (.int p1), .val (.int p2), .val (.int p3), .val (.int p4), .val (.int p5), .val (.int (3 : Int32)), .val (.int rm), .val (.int f0), .val (.int f1), .val (.int f2), .val (.int l0), .val (.int l1), .val (.int l2), .val (.ref b), .val (.int (0 : Int32)), .unset] [(.int (0 : Int32))])
              refine OE.ifNo X197 hx hby at_172 (teq (by decide : (0 : Int32) = (0 : Int32))).2 ?_
              refine OE.iload X197 hx hby at_175 rfl ?_
              refine OE.iconst X197 hx hby at_177 (2 : Int32) rfl ?_
              refine OE.icmpNo X197 hx hby at_178 (flt (by decide : ¬ ((3 : Int32) < (2 : Int32)))).1 ?_
              refine OE.iload X197 hx hby at_181 rfl ?_
              refine OE.iload X197 hx hby at_183 rfl ?_
              refine OE.iloadN X197 hx hby at_185 rfl ?_
              refine OE.iloadN X197 hx hby at_186 rfl ?_
              obtain ⟨_, _, ⟨T198, L198, k198, n198⟩, -, X198, ⟨Lc198, hQ198, l198, y198, z198⟩, st198⟩ := Jvm.LawKit.callS X197 hx (y := (⟨"com/example/corbel/corbel/PeaksBoundPinLaw", "covers", "(IIII)Z"⟩ : MethodName)) hown (mvT hZ (hw _ (List.mem_of_getElem? (i := 38) rfl))) (mvT hZ (hw _ (List.mem_of_getElem? (i := 39) rfl))) (mvT hZ (hw _ (List.mem_of_getElem? (i := 40) rfl))) (mvT hZ (hw _ (List.mem_of_getElem? (i := 41) rfl))) (by decide) (backOf (W := 0) (own_rm7 l Z a0 hw [] f1 l1 p3 p4 H188 n0 z188 ) hZ (hw _ (List.mem_of_getElem? (i := 41) rfl)) (hw _ (List.mem_of_getElem? (i := 40) rfl)) (by decide) (by decide)) (g := (mkF m 187 #[.val (.int p1), .val (.int p2), .val (.int p3), .val (.int p4), .val (.int p5), .val (.int (3 : Int32)), .val (.int rm), .val (.int f0), .val (.int f1), .val (.int f2), .val (.int l0), .val (.int l1), .val (.int l2), .val (.ref b), .val (.int (0 : Int32)), .unset] [(.int p4), (.int p3), (.int l1), (.int f1)])) rfl (by rw [hml]; rfl) (argsL := [(.int f1), (.int l1), (.int p3), (.int p4)]) (rest := []) (lenOf own_pd4 rfl) rfl (by show 2 * 0 + _ ≤ _; exact Nat.le_of_eq rfl) (hb hby at_187) (fun _ _ => ⟨rfl, eq197, (Nat.le_trans (Nat.add_le_add_right (Nat.add_le_add_right (Nat.add_le_add_right hcl188 0) 0) 0) (by decide)), (Nat.le_trans (Nat.add_le_add_right (Nat.add_le_add_right (Nat.add_le_add_right hsl188 0) 0) 0) (by decide))⟩)
              dsimp only [Pt.U, Pt.locs, Pt.cells, Pt.slots] at X198 l198 y198 z198 st198 hQ198
              subst l198 y198 z198
              obtain ⟨rfl, Nq198, eq198⟩ := hQ198
              refine OE.of (fun _ k => st198 _ k) ?_
              have N198 := Fr.app N197 Nq198
              show OE _ p e below s _ _ _ T198 (mkF m 190 #[.val (.int p1), .val (.int p2), .val (.int p3), .val (.int p4), .val (.int p5), .val (.int (3 : Int32)), .val (.int rm), .val (.int f0), .val (.int f1), .val (.int f2), .val (.int l0), .val (.int l1), .val (.int l2), .val (.ref b), .val (.int (0 : Int32)), .unset] [(.int (if f1 < p3 then (0 : Int32) else (if p4 < l1 then (0 : Int32) else (1 : Int32))))])
              rw [if_pos (show f1 < p3 from hl191)]
              show OE _ p e below s _ _ _ T198 (mkF m 190 #[.val (.int p1), .val (.int p2), .val (.int p3), .val (.int p4), .val (.int p5), .val (.int (3 : Int32)), .val (.int rm), .val (.int f0), .val (.int f1), .val (.int f2), .val (.int l0), .val (.int l1), .val (.int l2), .val (.ref b), .val (.int (0 : Int32)), .unset] [(.int (0 : Int32))])
              refine OE.ifNo X198 hx hby at_190 (teq (by decide : (0 : Int32) = (0 : Int32))).2 ?_
              refine OE.iload X198 hx hby at_193 rfl ?_
              refine OE.iconst X198 hx hby at_195 (3 : Int32) rfl ?_
              refine OE.icmpNo X198 hx hby at_196 (flt (by decide : ¬ ((3 : Int32) < (3 : Int32)))).1 ?_
              refine OE.iload X198 hx hby at_199 rfl ?_
              refine OE.iload X198 hx hby at_201 rfl ?_
              refine OE.iloadN X198 hx hby at_203 rfl ?_
              refine OE.iloadN X198 hx hby at_204 rfl ?_
              obtain ⟨_, _, ⟨T199, L199, k199, n199⟩, -, X199, ⟨Lc199, hQ199, l199, y199, z199⟩, st199⟩ := Jvm.LawKit.callS X198 hx (y := (⟨"com/example/corbel/corbel/PeaksBoundPinLaw", "covers", "(IIII)Z"⟩ : MethodName)) hown (mvT hZ (hw _ (List.mem_of_getElem? (i := 38) rfl))) (mvT hZ (hw _ (List.mem_of_getElem? (i := 39) rfl))) (mvT hZ (hw _ (List.mem_of_getElem? (i := 40) rfl))) (mvT hZ (hw _ (List.mem_of_getElem? (i := 41) rfl))) (by decide) (backOf (W := 0) (own_rm7 l Z a0 hw [] f2 l2 p3 p4 H188 n0 z188 ) hZ (hw _ (List.mem_of_getElem? (i := 41) rfl)) (hw _ (List.mem_of_getElem? (i := 40) rfl)) (by decide) (by decide)) (g := (mkF m 205 #[.val (.int p1), .val (.int p2), .val (.int p3), .val (.int p4), .val (.int p5), .val (.int (3 : Int32)), .val (.int rm), .val (.int f0), .val (.int f1), .val (.int f2), .val (.int l0), .val (.int l1), .val (.int l2), .val (.ref b), .val (.int (0 : Int32)), .unset] [(.int p4), (.int p3), (.int l2), (.int f2)])) rfl (by rw [hml]; rfl) (argsL := [(.int f2), (.int l2), (.int p3), (.int p4)]) (rest := []) (lenOf own_pd4 rfl) rfl (by show 2 * 0 + _ ≤ _; exact Nat.le_of_eq rfl) (hb hby at_205) (fun _ _ => ⟨rfl, eq198, (Nat.le_trans (Nat.add_le_add_right (Nat.add_le_add_right (Nat.add_le_add_right (Nat.add_le_add_right hcl188 0) 0) 0) 0) (by decide)), (Nat.le_trans (Nat.add_le_add_right (Nat.add_le_add_right (Nat.add_le_add_right (Nat.add_le_add_right hsl188 0) 0) 0) 0) (by decide))⟩)
              dsimp only [Pt.U, Pt.locs, Pt.cells, Pt.slots] at X199 l199 y199 z199 st199 hQ199
              subst l199 y199 z199
              obtain ⟨rfl, Nq199, eq199⟩ := hQ199
              refine OE.of (fun _ k => st199 _ k) ?_
              have N199 := Fr.app N198 Nq199
              show OE _ p e below s _ _ _ T199 (mkF m 208 #[.val (.int p1), .val (.int p2), .val (.int p3), .val (.int p4), .val (.int p5), .val (.int (3 : Int32)), .val (.int rm), .val (.int f0), .val (.int f1), .val (.int f2), .val (.int l0), .val (.int l1), .val (.int l2), .val (.ref b), .val (.int (0 : Int32)), .unset] [(.int (if f2 < p3 then (0 : Int32) else (if p4 < l2 then (0 : Int32) else (1 : Int32))))])
              rw [if_neg (show ¬ (f2 < p3) from hl192)]
              show OE _ p e below s _ _ _ T199 (mkF m 208 #[.val (.int p1), .val (.int p2), .val (.int p3), .val (.int p4), .val (.int p5), .val (.int (3 : Int32)), .val (.int rm), .val (.int f0), .val (.int f1), .val (.int f2), .val (.int l0), .val (.int l1), .val (.int l2), .val (.ref b), .val (.int (0 : Int32)), .unset] [(.int (if p4 < l2 then (0 : Int32) else (1 : Int32)))])
              rw [if_pos (show p4 < l2 from hl196)]
              show OE _ p e below s _ _ _ T199 (mkF m 208 #[.val (.int p1), .val (.int p2), .val (.int p3), .val (.int p4), .val (.int p5), .val (.int (3 : Int32)), .val (.int rm), .val (.int f0), .val (.int f1), .val (.int f2), .val (.int l0), .val (.int l1), .val (.int l2), .val (.ref b), .val (.int (0 : Int32)), .unset] [(.int (0 : Int32))])
              refine OE.ifYes X199 hx hby (pc' := 215) at_208 (teq (by decide : (0 : Int32) = (0 : Int32))).1 (h := ?_)
              refine OE.iconst X199 hx hby at_215 (0 : Int32) rfl ?_
              refine OE.istore X199 hx hby at_216 (l' := #[.val (.int p1), .val (.int p2), .val (.int p3), .val (.int p4), .val (.int p5), .val (.int (3 : Int32)), .val (.int rm), .val (.int f0), .val (.int f1), .val (.int f2), .val (.int l0), .val (.int l1), .val (.int l2), .val (.ref b), .val (.int (0 : Int32)), .val (.int (0 : Int32))]) rfl ?_
              refine OE.iload X199 hx hby at_218 rfl ?_
              refine OE.iload X199 hx hby at_220 rfl ?_
              refine OE.icmpNo X199 hx hby at_222 (teq (by decide : (0 : Int32) = (0 : Int32))).2 ?_
              refine OE.iconst X199 hx hby at_225 (1 : Int32) rfl ?_
              refine OE.goto X199 hx hby (pc' := 230) at_226 (h := ?_)
              refine OE.retN X199 hx (t := .boolean) Bd.returns (by simp) Bd.notSynchronized (hb hby at_230) (Nat.le_trans (Nat.add_le_add_right (Nat.add_le_add_right (Nat.add_le_add_right (Nat.add_le_add_right hcl188 0) 0) 0) 0) (by decide)) (Nat.le_trans (Nat.add_le_add_right (Nat.add_le_add_right (Nat.add_le_add_right (Nat.add_le_add_right hsl188 0) 0) 0) 0) (by decide)) ?_
              rw [eq199]
              exact ⟨rfl, N199⟩
            · skip
              rw [if_neg (show ¬ (p4 < l2) from hl196)]
              show OE _ p e below s _ _ _ T189 (mkF m 155 #[.val (.int p1), .val (.int p2), .val (.int p3), .val (.int p4), .val (.int p5), .val (.int (3 : Int32)), .val (.int rm), .val (.int f0), .val (.int f1), .val (.int f2), .val (.int l0), .val (.int l1), .val (.int l2), .val (.ref b), .unset, .unset] [(.int (1 : Int32))])
              refine OE.istore X189 hx hby at_155 (l' := #[.val (.int p1), .val (.int p2), .val (.int p3), .val (.int p4), .val (.int p5), .val (.int (3 : Int32)), .val (.int rm), .val (.int f0), .val (.int f1), .val (.int f2), .val (.int l0), .val (.int l1), .val (.int l2), .val (.ref b), .val (.int (1 : Int32)), .unset]) rfl ?_
              refine OE.iload X189 hx hby at_157 rfl ?_
              refine OE.iconst X189 hx hby at_159 (1 : Int32) rfl ?_
              refine OE.icmpNo X189 hx hby at_160 (flt (by decide : ¬ ((3 : Int32) < (1 : Int32)))).1 ?_
              refine OE.iload X189 hx hby at_163 rfl ?_
              refine OE.iload X189 hx hby at_165 rfl ?_
              refine OE.iloadN X189 hx hby at_167 rfl ?_
              refine OE.iloadN X189 hx hby at_168 rfl ?_
              obtain ⟨_, _, ⟨T200, L200, k200, n200⟩, -, X200, ⟨Lc200, hQ200, l200, y200, z200⟩, st200⟩ := Jvm.LawKit.callS X189 hx (y := (⟨"com/example/corbel/corbel/PeaksBoundPinLaw", "covers", "(IIII)Z"⟩ : MethodName)) hown (mvT hZ (hw _ (List.mem_of_getElem? (i := 38) rfl))) (mvT hZ (hw _ (List.mem_of_getElem? (i := 39) rfl))) (mvT hZ (hw _ (List.mem_of_getElem? (i := 40) rfl))) (mvT hZ (hw _ (List.mem_of_getElem? (i := 41) rfl))) (by decide) (backOf (W := 0) (own_rm7 l Z a0 hw [] f0 l0 p3 p4 H188 n0 z188 ) hZ (hw _ (List.mem_of_getElem? (i := 41) rfl)) (hw _ (List.mem_of_getElem? (i := 40) rfl)) (by decide) (by decide)) (g := (mkF m 169 #[.val (.int p1), .val (.int p2), .val (.int p3), .val (.int p4), .val (.int p5), .val (.int (3 : Int32)), .val (.int rm), .val (.int f0), .val (.int f1), .val (.int f2), .val (.int l0), .val (.int l1), .val (.int l2), .val (.ref b), .val (.int (1 : Int32)), .unset] [(.int p4), (.int p3), (.int l0), (.int f0)])) rfl (by rw [hml]; rfl) (argsL := [(.int f0), (.int l0), (.int p3), (.int p4)]) (rest := []) (lenOf own_pd4 rfl) rfl (by show 2 * 0 + _ ≤ _; exact Nat.le_of_eq rfl) (hb hby at_169) (fun _ _ => ⟨rfl, eq189, (Nat.le_trans (Nat.add_le_add_right (Nat.add_le_add_right hcl188 0) 0) (by decide)), (Nat.le_trans (Nat.add_le_add_right (Nat.add_le_add_right hsl188 0) 0) (by decide))⟩)
              dsimp only [Pt.U, Pt.locs, Pt.cells, Pt.slots] at X200 l200 y200 z200 st200 hQ200
              subst l200 y200 z200
              obtain ⟨rfl, Nq200, eq200⟩ := hQ200
              refine OE.of (fun _ k => st200 _ k) ?_
              have N200 := Fr.app N189 Nq200
              show OE _ p e below s _ _ _ T200 (mkF m 172 #[.val (.int p1), .val (.int p2), .val (.int p3), .val (.int p4), .val (.int p5), .val (.int (3 : Int32)), .val (.int rm), .val (.int f0), .val (.int f1), .val (.int f2), .val (.int l0), .val (.int l1), .val (.int l2), .val (.ref b), .val (.int (1 : Int32)), .unset] [(.int (if f0 < p3 then (0 : Int32) else (if p4 < l0 then (0 : Int32) else (1 : Int32))))])
              rw [if_pos (show f0 < p3 from hl190)]
              show OE _ p e below s _ _ _ T200 (mkF m 172 #[.val (.int p1), .val (.int p2), .val (.int p3), .val (.int p4), .val (.int p5), .val (.int (3 : Int32)), .val (.int rm), .val (.int f0), .val (.int f1), .val (.int f2), .val (.int l0), .val (.int l1), .val (.int l2), .val (.ref b), .val (.int (1 : Int32)), .unset] [(.int (0 : Int32))])
              refine OE.ifNo X200 hx hby at_172 (teq (by decide : (0 : Int32) = (0 : Int32))).2 ?_
              refine OE.iload X200 hx hby at_175 rfl ?_
              refine OE.iconst X200 hx hby at_177 (2 : Int32) rfl ?_
              refine OE.icmpNo X200 hx hby at_178 (flt (by decide : ¬ ((3 : Int32) < (2 : Int32)))).1 ?_
              refine OE.iload X200 hx hby at_181 rfl ?_
              refine OE.iload X200 hx hby at_183 rfl ?_
              refine OE.iloadN X200 hx hby at_185 rfl ?_
              refine OE.iloadN X200 hx hby at_186 rfl ?_
              obtain ⟨_, _, ⟨T201, L201, k201, n201⟩, -, X201, ⟨Lc201, hQ201, l201, y201, z201⟩, st201⟩ := Jvm.LawKit.callS X200 hx (y := (⟨"com/example/corbel/corbel/PeaksBoundPinLaw", "covers", "(IIII)Z"⟩ : MethodName)) hown (mvT hZ (hw _ (List.mem_of_getElem? (i := 38) rfl))) (mvT hZ (hw _ (List.mem_of_getElem? (i := 39) rfl))) (mvT hZ (hw _ (List.mem_of_getElem? (i := 40) rfl))) (mvT hZ (hw _ (List.mem_of_getElem? (i := 41) rfl))) (by decide) (backOf (W := 0) (own_rm7 l Z a0 hw [] f1 l1 p3 p4 H188 n0 z188 ) hZ (hw _ (List.mem_of_getElem? (i := 41) rfl)) (hw _ (List.mem_of_getElem? (i := 40) rfl)) (by decide) (by decide)) (g := (mkF m 187 #[.val (.int p1), .val (.int p2), .val (.int p3), .val (.int p4), .val (.int p5), .val (.int (3 : Int32)), .val (.int rm), .val (.int f0), .val (.int f1), .val (.int f2), .val (.int l0), .val (.int l1), .val (.int l2), .val (.ref b), .val (.int (1 : Int32)), .unset] [(.int p4), (.int p3), (.int l1), (.int f1)])) rfl (by rw [hml]; rfl) (argsL := [(.int f1), (.int l1), (.int p3), (.int p4)]) (rest := []) (lenOf own_pd4 rfl) rfl (by show 2 * 0 + _ ≤ _; exact Nat.le_of_eq rfl) (hb hby at_187) (fun _ _ => ⟨rfl, eq200, (Nat.le_trans (Nat.add_le_add_right (Nat.add_le_add_right (Nat.add_le_add_right hcl188 0) 0) 0) (by decide)), (Nat.le_trans (Nat.add_le_add_right (Nat.add_le_add_right (Nat.add_le_add_right hsl188 0) 0) 0) (by decide))⟩)
              dsimp only [Pt.U, Pt.locs, Pt.cells, Pt.slots] at X201 l201 y201 z201 st201 hQ201
              subst l201 y201 z201
              obtain ⟨rfl, Nq201, eq201⟩ := hQ201
              refine OE.of (fun _ k => st201 _ k) ?_
              have N201 := Fr.app N200 Nq201
              show OE _ p e below s _ _ _ T201 (mkF m 190 #[.val (.int p1), .val (.int p2), .val (.int p3), .val (.int p4), .val (.int p5), .val (.int (3 : Int32)), .val (.int rm), .val (.int f0), .val (.int f1), .val (.int f2), .val (.int l0), .val (.int l1), .val (.int l2), .val (.ref b), .val (.int (1 : Int32)), .unset] [(.int (if f1 < p3 then (0 : Int32) else (if p4 < l1 then (0 : Int32) else (1 : Int32))))])
              rw [if_pos (show f1 < p3 from hl191)]
              show OE _ p e below s _ _ _ T201 (mkF m 190 #[.val (.int p1), .val (.int p2), .val (.int p3), .val (.int p4), .val (.int p5), .val (.int (3 : Int32)), .val (.int rm), .val (.int f0), .val (.int f1), .val (.int f2), .val (.int l0), .val (.int l1), .val (.int l2), .val (.ref b), .val (.int (1 : Int32)), .unset] [(.int (0 : Int32))])
              refine OE.ifNo X201 hx hby at_190 (teq (by decide : (0 : Int32) = (0 : Int32))).2 ?_
              refine OE.iload X201 hx hby at_193 rfl ?_
              refine OE.iconst X201 hx hby at_195 (3 : Int32) rfl ?_
              refine OE.icmpNo X201 hx hby at_196 (flt (by decide : ¬ ((3 : Int32) < (3 : Int32)))).1 ?_
              refine OE.iload X201 hx hby at_199 rfl ?_
              refine OE.iload X201 hx hby at_201 rfl ?_
              refine OE.iloadN X201 hx hby at_203 rfl ?_
              refine OE.iloadN X201 hx hby at_204 rfl ?_
              obtain ⟨_, _, ⟨T202, L202, k202, n202⟩, -, X202, ⟨Lc202, hQ202, l202, y202, z202⟩, st202⟩ := Jvm.LawKit.callS X201 hx (y := (⟨"com/example/corbel/corbel/PeaksBoundPinLaw", "covers", "(IIII)Z"⟩ : MethodName)) hown (mvT hZ (hw _ (List.mem_of_getElem? (i := 38) rfl))) (mvT hZ (hw _ (List.mem_of_getElem? (i := 39) rfl))) (mvT hZ (hw _ (List.mem_of_getElem? (i := 40) rfl))) (mvT hZ (hw _ (List.mem_of_getElem? (i := 41) rfl))) (by decide) (backOf (W := 0) (own_rm7 l Z a0 hw [] f2 l2 p3 p4 H188 n0 z188 ) hZ (hw _ (List.mem_of_getElem? (i := 41) rfl)) (hw _ (List.mem_of_getElem? (i := 40) rfl)) (by decide) (by decide)) (g := (mkF m 205 #[.val (.int p1), .val (.int p2), .val (.int p3), .val (.int p4), .val (.int p5), .val (.int (3 : Int32)), .val (.int rm), .val (.int f0), .val (.int f1), .val (.int f2), .val (.int l0), .val (.int l1), .val (.int l2), .val (.ref b), .val (.int (1 : Int32)), .unset] [(.int p4), (.int p3), (.int l2), (.int f2)])) rfl (by rw [hml]; rfl) (argsL := [(.int f2), (.int l2), (.int p3), (.int p4)]) (rest := []) (lenOf own_pd4 rfl) rfl (by show 2 * 0 + _ ≤ _; exact Nat.le_of_eq rfl) (hb hby at_205) (fun _ _ => ⟨rfl, eq201, (Nat.le_trans (Nat.add_le_add_right (Nat.add_le_add_right (Nat.add_le_add_right (Nat.add_le_add_right hcl188 0) 0) 0) 0) (by decide)), (Nat.le_trans (Nat.add_le_add_right (Nat.add_le_add_right (Nat.add_le_add_right (Nat.add_le_add_right hsl188 0) 0) 0) 0) (by decide))⟩)
              dsimp only [Pt.U, Pt.locs, Pt.cells, Pt.slots] at X202 l202 y202 z202 st202 hQ202
              subst l202 y202 z202
              obtain ⟨rfl, Nq202, eq202⟩ := hQ202
              refine OE.of (fun _ k => st202 _ k) ?_
              have N202 := Fr.app N201 Nq202
              show OE _ p e below s _ _ _ T202 (mkF m 208 #[.val (.int p1), .val (.int p2), .val (.int p3), .val (.int p4), .val (.int p5), .val (.int (3 : Int32)), .val (.int rm), .val (.int f0), .val (.int f1), .val (.int f2), .val (.int l0), .val (.int l1), .val (.int l2), .val (.ref b), .val (.int (1 : Int32)), .unset] [(.int (if f2 < p3 then (0 : Int32) else (if p4 < l2 then (0 : Int32) else (1 : Int32))))])
              rw [if_neg (show ¬ (f2 < p3) from hl192)]
              show OE _ p e below s _ _ _ T202 (mkF m 208 #[.val (.int p1), .val (.int p2), .val (.int p3), .val (.int p4), .val (.int p5), .val (.int (3 : Int32)), .val (.int rm), .val (.int f0), .val (.int f1), .val (.int f2), .val (.int l0), .val (.int l1), .val (.int l2), .val (.ref b), .val (.int (1 : Int32)), .unset] [(.int (if p4 < l2 then (0 : Int32) else (1 : Int32)))])
              rw [if_neg (show ¬ (p4 < l2) from hl196)]
              show OE _ p e below s _ _ _ T202 (mkF m 208 #[.val (.int p1), .val (.int p2), .val (.int p3), .val (.int p4), .val (.int p5), .val (.int (3 : Int32)), .val (.int rm), .val (.int f0), .val (.int f1), .val (.int f2), .val (.int l0), .val (.int l1), .val (.int l2), .val (.ref b), .val (.int (1 : Int32)), .unset] [(.int (1 : Int32))])
              refine OE.ifNo X202 hx hby at_208 (feq (by decide : ¬ ((1 : Int32) = (0 : Int32)))).1 ?_
              refine OE.iconst X202 hx hby at_211 (1 : Int32) rfl ?_
              refine OE.goto X202 hx hby (pc' := 216) at_212 (h := ?_)
              refine OE.istore X202 hx hby at_216 (l' := #[.val (.int p1), .val (.int p2), .val (.int p3), .val (.int p4), .val (.int p5), .val (.int (3 : Int32)), .val (.int rm), .val (.int f0), .val (.int f1), .val (.int f2), .val (.int l0), .val (.int l1), .val (.int l2), .val (.ref b), .val (.int (1 : Int32)), .val (.int (1 : Int32))]) rfl ?_
              refine OE.iload X202 hx hby at_218 rfl ?_
              refine OE.iload X202 hx hby at_220 rfl ?_
              refine OE.icmpNo X202 hx hby at_222 (teq (by decide : (1 : Int32) = (1 : Int32))).2 ?_
              refine OE.iconst X202 hx hby at_225 (1 : Int32) rfl ?_
              refine OE.goto X202 hx hby (pc' := 230) at_226 (h := ?_)
              refine OE.retN X202 hx (t := .boolean) Bd.returns (by simp) Bd.notSynchronized (hb hby at_230) (Nat.le_trans (Nat.add_le_add_right (Nat.add_le_add_right (Nat.add_le_add_right (Nat.add_le_add_right hcl188 0) 0) 0) 0) (by decide)) (Nat.le_trans (Nat.add_le_add_right (Nat.add_le_add_right (Nat.add_le_add_right (Nat.add_le_add_right hsl188 0) 0) 0) 0) (by decide)) ?_
              rw [eq202]
              exact ⟨rfl, N202⟩
        · skip
          rw [if_neg (show ¬ (f1 < p3) from hl191)]
          show OE _ p e below s _ _ _ T189 (mkF m 155 #[.val (.int p1), .val (.int p2), .val (.int p3), .val (.int p4), .val (.int p5), .val (.int (3 : Int32)), .val (.int rm), .val (.int f0), .val (.int f1), .val (.int f2), .val (.int l0), .val (.int l1), .val (.int l2), .val (.ref b), .unset, .unset] [(.int (if p4 < l1 then (if f2 < p3 then (0 : Int32) else (if p4 < l2 then (0 : Int32) else (1 : Int32))) else (1 : Int32)))])
          by_cases hl203 : p4 < l1
          · skip
            rw [if_pos (show p4 < l1 from hl203)]
            show OE _ p e below s _ _ _ T189 (mkF m 155 #[.val (.int p1), .val (.int p2), .val (.int p3), .val (.int p4), .val (.int p5), .val (.int (3 : Int32)), .val (.int rm), .val (.int f0), .val (.int f1), .val (.int f2), .val (.int l0), .val (.int l1), .val (.int l2), .val (.ref b), .unset, .unset] [(.int (if f2 < p3 then (0 : Int32) else (if p4 < l2 then (0 : Int32) else (1 : Int32))))])
            by_cases hl204 : f2 < p3
            · skip
              rw [if_pos (show f2 < p3 from hl204)]
              show OE _ p e below s _ _ _ T189 (mkF m 155 #[.val (.int p1), .val (.int p2), .val (.int p3), .val (.int p4), .val (.int p5), .val (.int (3 : Int32)), .val (.int rm), .val (.int f0), .val (.int f1), .val (.int f2), .val (.int l0), .val (.int l1), .val (.int l2), .val (.ref b), .unset, .unset] [(.int (0 : Int32))])
              refine OE.istore X189 hx hby at_155 (l' := #[.val (.int p1), .val (.int p2), .val (.int p3), .val (.int p4), .val (.int p5), .val (.int (3 : Int32)), .val (.int rm), .val (.int f0), .val (.int f1), .val (.int f2), .val (.int l0), .val (.int l1), .val (.int l2), .val (.ref b), .val (.int (0 : Int32)), .unset]) rfl ?_
              refine OE.iload X189 hx hby at_157 rfl ?_
              refine OE.iconst X189 hx hby at_159 (1 : Int32) rfl ?_
              refine OE.icmpNo X189 hx hby at_160 (flt (by decide : ¬ ((3 : Int32) < (1 : Int32)))).1 ?_
              refine OE.iload X189 hx hby at_163 rfl ?_
              refine OE.iload X189 hx hby at_165 rfl ?_
              refine OE.iloadN X189 hx hby at_167 rfl ?_
              refine OE.iloadN X189 hx hby at_168 rfl ?_
              obtain ⟨_, _, ⟨T205, L205, k205, n205⟩, -, X205, ⟨Lc205, hQ205, l205, y205, z205⟩, st205⟩ := Jvm.LawKit.callS X189 hx (y := (⟨"com/example/corbel/corbel/PeaksBoundPinLaw", "covers", "(IIII)Z"⟩ : MethodName)) hown (mvT hZ (hw _ (List.mem_of_getElem? (i := 38) rfl))) (mvT hZ (hw _ (List.mem_of_getElem? (i := 39) rfl))) (mvT hZ (hw _ (List.mem_of_getElem? (i := 40) rfl))) (mvT hZ (hw _ (List.mem_of_getElem? (i := 41) rfl))) (by decide) (backOf (W := 0) (own_rm7 l Z a0 hw [] f0 l0 p3 p4 H188 n0 z188 ) hZ (hw _ (List.mem_of_getElem? (i := 41) rfl)) (hw _ (List.mem_of_getElem? (i := 40) rfl)) (by decide) (by decide)) (g := (mkF m 169 #[.val (.int p1), .val (.int p2), .val (.int p3), .val (.int p4), .val (.int p5), .val (.int (3 : Int32)), .val (.int rm), .val (.int f0), .val (.int f1), .val (.int f2), .val (.int l0), .val (.int l1), .val (.int l2), .val (.ref b), .val (.int (0 : Int32)), .unset] [(.int p4), (.int p3), (.int l0), (.int f0)])) rfl (by rw [hml]; rfl) (argsL := [(.int f0), (.int l0), (.int p3), (.int p4)]) (rest := []) (lenOf own_pd4 rfl) rfl (by show 2 * 0 + _ ≤ _; exact Nat.le_of_eq rfl) (hb hby at_169) (fun _ _ => ⟨rfl, eq189, (Nat.le_trans (Nat.add_le_add_right (Nat.add_le_add_right hcl188 0) 0) (by decide)), (Nat.le_trans (Nat.add_le_add_right (Nat.add_le_add_right hsl188 0) 0) (by decide))⟩)
              dsimp only [Pt.U, Pt.locs, Pt.cells, Pt.slots] at X205 l205 y205 z205 st205 hQ205
              subst l205 y205 z205
              obtain ⟨rfl, Nq205, eq205⟩ := hQ205
              refine OE.of (fun _ k => st205 _ k) ?_
              have N205 := Fr.app N189 Nq205
              show OE _ p e below s _ _ _ T205 (mkF m 172 #[.val (.int p1), .val (.int p2), .val (.int p3), .val (.int p4), .val (.int p5), .val (.int (3 : Int32)), .val (.int rm), .val (.int f0), .val (.int f1), .val (.int f2), .val (.int l0), .val (.int l1), .val (.int l2), .val (.ref b), .val (.int (0 : Int32)), .unset] [(.int (if f0 < p3 then (0 : Int32) else (if p4 < l0 then (0 : Int32) else (1 : Int32))))])
              rw [if_pos (show f0 < p3 from hl190)]
              show OE _ p e below s _ _ _ T205 (mkF m 172 #[.val (.int p1), .val (.int p2), .val (.int p3), .val (.int p4), .val (.int p5), .val (.int (3 : Int32)), .val (.int rm), .val (.int f0), .val (.int f1), .val (.int f2), .val (.int l0), .val (.int l1), .val (.int l2), .val (.ref b), .val (.int (0 : Int32)), .unset] [(.int (0 : Int32))])
              refine OE.ifNo X205 hx hby at_172 (teq (by decide : (0 : Int32) = (0 : Int32))).2 ?_
              refine OE.iload X205 hx hby at_175 rfl ?_
              refine OE.iconst X205 hx hby at_177 (2 : Int32) rfl ?_
              refine OE.icmpNo X205 hx hby at_178 (flt (by decide : ¬ ((3 : Int32) < (2 : Int32)))).1 ?_
              refine OE.iload X205 hx hby at_181 rfl ?_
              refine OE.iload X205 hx hby at_183 rfl ?_
              refine OE.iloadN X205 hx hby at_185 rfl ?_
              refine OE.iloadN X205 hx hby at_186 rfl ?_
              obtain ⟨_, _, ⟨T206, L206, k206, n206⟩, -, X206, ⟨Lc206, hQ206, l206, y206, z206⟩, st206⟩ := Jvm.LawKit.callS X205 hx (y := (⟨"com/example/corbel/corbel/PeaksBoundPinLaw", "covers", "(IIII)Z"⟩ : MethodName)) hown (mvT hZ (hw _ (List.mem_of_getElem? (i := 38) rfl))) (mvT hZ (hw _ (List.mem_of_getElem? (i := 39) rfl))) (mvT hZ (hw _ (List.mem_of_getElem? (i := 40) rfl))) (mvT hZ (hw _ (List.mem_of_getElem? (i := 41) rfl))) (by decide) (backOf (W := 0) (own_rm7 l Z a0 hw [] f1 l1 p3 p4 H188 n0 z188 ) hZ (hw _ (List.mem_of_getElem? (i := 41) rfl)) (hw _ (List.mem_of_getElem? (i := 40) rfl)) (by decide) (by decide)) (g := (mkF m 187 #[.val (.int p1), .val (.int p2), .val (.int p3), .val (.int p4), .val (.int p5), .val (.int (3 : Int32)), .val (.int rm), .val (.int f0), .val (.int f1), .val (.int f2), .val (.int l0), .val (.int l1), .val (.int l2), .val (.ref b), .val (.int (0 : Int32)), .unset] [(.int p4), (.int p3), (.int l1), (.int f1)])) rfl (by rw [hml]; rfl) (argsL := [(.int f1), (.int l1), (.int p3), (.int p4)]) (rest := []) (lenOf own_pd4 rfl) rfl (by show 2 * 0 + _ ≤ _; exact Nat.le_of_eq rfl) (hb hby at_187) (fun _ _ => ⟨rfl, eq205, (Nat.le_trans (Nat.add_le_add_right (Nat.add_le_add_right (Nat.add_le_add_right hcl188 0) 0) 0) (by decide)), (Nat.le_trans (Nat.add_le_add_right (Nat.add_le_add_right (Nat.add_le_add_right hsl188 0) 0) 0) (by decide))⟩)
              dsimp only [Pt.U, Pt.locs, Pt.cells, Pt.slots] at X206 l206 y206 z206 st206 hQ206
              subst l206 y206 z206
              obtain ⟨rfl, Nq206, eq206⟩ := hQ206
              refine OE.of (fun _ k => st206 _ k) ?_
              have N206 := Fr.app N205 Nq206
              show OE _ p e below s _ _ _ T206 (mkF m 190 #[.val (.int p1), .val (.int p2), .val (.int p3), .val (.int p4), .val (.int p5), .val (.int (3 : Int32)), .val (.int rm), .val (.int f0), .val (.int f1), .val (.int f2), .val (.int l0), .val (.int l1), .val (.int l2), .val (.ref b), .val (.int (0 : Int32)), .unset] [(.int (if f1 < p3 then (0 : Int32) else (if p4 < l1 then (0 : Int32) else (1 : Int32))))])
              rw [if_neg (show ¬ (f1 < p3) from hl191)]
              show OE _ p e below s _ _ _ T206 (mkF m 190 #[.val (.int p1), .val (.int p2), .val (.int p3), .val (.int p4), .val (.int p5), .val (.int (3 : Int32)), .val (.int rm), .val (.int f0), .val (.int f1), .val (.int f2), .val (.int l0), .val (.int l1), .val (.int l2), .val (.ref b), .val (.int (0 : Int32)), .unset] [(.int (if p4 < l1 then (0 : Int32) else (1 : Int32)))])
              rw [if_pos (show p4 < l1 from hl203)]
              show OE _ p e below s _ _ _ T206 (mkF m 190 #[.val (.int p1), .val (.int p2), .val (.int p3), .val (.int p4), .val (.int p5), .val (.int (3 : Int32)), .val (.int rm), .val (.int f0), .val (.int f1), .val (.int f2), .val (.int l0), .val (.int l1), .val (.int l2), .val (.ref b), .val (.int (0 : Int32)), .unset] [(.int (0 : Int32))])
              refine OE.ifNo X206 hx hby at_190 (teq (by decide : (0 : Int32) = (0 : Int32))).2 ?_
              refine OE.iload X206 hx hby at_193 rfl ?_
              refine OE.iconst X206 hx hby at_195 (3 : Int32) rfl ?_
              refine OE.icmpNo X206 hx hby at_196 (flt (by decide : ¬ ((3 : Int32) < (3 : Int32)))).1 ?_
              refine OE.iload X206 hx hby at_199 rfl ?_
              refine OE.iload X206 hx hby at_201 rfl ?_
              refine OE.iloadN X206 hx hby at_203 rfl ?_
              refine OE.iloadN X206 hx hby at_204 rfl ?_
              obtain ⟨_, _, ⟨T207, L207, k207, n207⟩, -, X207, ⟨Lc207, hQ207, l207, y207, z207⟩, st207⟩ := Jvm.LawKit.callS X206 hx (y := (⟨"com/example/corbel/corbel/PeaksBoundPinLaw", "covers", "(IIII)Z"⟩ : MethodName)) hown (mvT hZ (hw _ (List.mem_of_getElem? (i := 38) rfl))) (mvT hZ (hw _ (List.mem_of_getElem? (i := 39) rfl))) (mvT hZ (hw _ (List.mem_of_getElem? (i := 40) rfl))) (mvT hZ (hw _ (List.mem_of_getElem? (i := 41) rfl))) (by decide) (backOf (W := 0) (own_rm7 l Z a0 hw [] f2 l2 p3 p4 H188 n0 z188 ) hZ (hw _ (List.mem_of_getElem? (i := 41) rfl)) (hw _ (List.mem_of_getElem? (i := 40) rfl)) (by decide) (by decide)) (g := (mkF m 205 #[.val (.int p1), .val (.int p2), .val (.int p3), .val (.int p4), .val (.int p5), .val (.int (3 : Int32)), .val (.int rm), .val (.int f0), .val (.int f1), .val (.int f2), .val (.int l0), .val (.int l1), .val (.int l2), .val (.ref b), .val (.int (0 : Int32)), .unset] [(.int p4), (.int p3), (.int l2), (.int f2)])) rfl (by rw [hml]; rfl) (argsL := [(.int f2), (.int l2), (.int p3), (.int p4)]) (rest := []) (lenOf own_pd4 rfl) rfl (by show 2 * 0 + _ ≤ _; exact Nat.le_of_eq rfl) (hb hby at_205) (fun _ _ => ⟨rfl, eq206, (Nat.le_trans (Nat.add_le_add_right (Nat.add_le_add_right (Nat.add_le_add_right (Nat.add_le_add_right hcl188 0) 0) 0) 0) (by decide)), (Nat.le_trans (Nat.add_le_add_right (Nat.add_le_add_right (Nat.add_le_add_right (Nat.add_le_add_right hsl188 0) 0) 0) 0) (by decide))⟩)
              dsimp only [Pt.U, Pt.locs, Pt.cells, Pt.slots] at X207 l207 y207 z207 st207 hQ207
              subst l207 y207 z207
              obtain ⟨rfl, Nq207, eq207⟩ := hQ207
              refine OE.of (fun _ k => st207 _ k) ?_
              have N207 := Fr.app N206 Nq207
              show OE _ p e below s _ _ _ T207 (mkF m 208 #[.val (.int p1), .val (.int p2), .val (.int p3), .val (.int p4), .val (.int p5), .val (.int (3 : Int32)), .val (.int rm), .val (.int f0), .val (.int f1), .val (.int f2), .val (.int l0), .val (.int l1), .val (.int l2), .val (.ref b), .val (.int (0 : Int32)), .unset] [(.int (if f2 < p3 then (0 : Int32) else (if p4 < l2 then (0 : Int32) else (1 : Int32))))])
              rw [if_pos (show f2 < p3 from hl204)]
              show OE _ p e below s _ _ _ T207 (mkF m 208 #[.val (.int p1), .val (.int p2), .val (.int p3), .val (.int p4), .val (.int p5), .val (.int (3 : Int32)), .val (.int rm), .val (.int f0), .val (.int f1), .val (.int f2), .val (.int l0), .val (.int l1), .val (.int l2), .val (.ref b), .val (.int (0 : Int32)), .unset] [(.int (0 : Int32))])
              refine OE.ifYes X207 hx hby (pc' := 215) at_208 (teq (by decide : (0 : Int32) = (0 : Int32))).1 (h := ?_)
              refine OE.iconst X207 hx hby at_215 (0 : Int32) rfl ?_
              refine OE.istore X207 hx hby at_216 (l' := #[.val (.int p1), .val (.int p2), .val (.int p3), .val (.int p4), .val (.int p5), .val (.int (3 : Int32)), .val (.int rm), .val (.int f0), .val (.int f1), .val (.int f2), .val (.int l0), .val (.int l1), .val (.int l2), .val (.ref b), .val (.int (0 : Int32)), .val (.int (0 : Int32))]) rfl ?_
              refine OE.iload X207 hx hby at_218 rfl ?_
              refine OE.iload X207 hx hby at_220 rfl ?_
              refine OE.icmpNo X207 hx hby at_222 (teq (by decide : (0 : Int32) = (0 : Int32))).2 ?_
              refine OE.iconst X207 hx hby at_225 (1 : Int32) rfl ?_
              refine OE.goto X207 hx hby (pc' := 230) at_226 (h := ?_)
              refine OE.retN X207 hx (t := .boolean) Bd.returns (by simp) Bd.notSynchronized (hb hby at_230) (Nat.le_trans (Nat.add_le_add_right (Nat.add_le_add_right (Nat.add_le_add_right (Nat.add_le_add_right hcl188 0) 0) 0) 0) (by decide)) (Nat.le_trans (Nat.add_le_add_right (Nat.add_le_add_right (Nat.add_le_add_right (Nat.add_le_add_right hsl188 0) 0) 0) 0) (by decide)) ?_
              rw [eq207]
              exact ⟨rfl, N207⟩
            · skip
              rw [if_neg (show ¬ (f2 < p3) from hl204)]
              show OE _ p e below s _ _ _ T189 (mkF m 155 #[.val (.int p1), .val (.int p2), .val (.int p3), .val (.int p4), .val (.int p5), .val (.int (3 : Int32)), .val (.int rm), .val (.int f0), .val (.int f1), .val (.int f2), .val (.int l0), .val (.int l1), .val (.int l2), .val (.ref b), .unset, .unset] [(.int (if p4 < l2 then (0 : Int32) else (1 : Int32)))])
              by_cases hl208 : p4 < l2
              · skip
                rw [if_pos (show p4 < l2 from hl208)]
                show OE _ p e below s _ _ _ T189 (mkF m 155 #[.val (.int p1), .val (.int p2), .val (.int p3), .val (.int p4), .val (.int p5), .val (.int (3 : Int32)), .val (.int rm), .val (.int f0), .val (.int f1), .val (.int f2), .val (.int l0), .val (.int l1), .val (.int l2), .val (.ref b), .unset, .unset] [(.int (0 : Int32))])
                refine OE.istore X189 hx hby at_155 (l' := #[.val (.int p1), .val (.int p2), .val (.int p3), .val (.int p4), .val (.int p5), .val (.int (3 : Int32)), .val (.int rm), .val (.int f0), .val (.int f1), .val (.int f2), .val (.int l0), .val (.int l1), .val (.int l2), .val (.ref b), .val (.int (0 : Int32)), .unset]) rfl ?_
                refine OE.iload X189 hx hby at_157 rfl ?_
                refine OE.iconst X189 hx hby at_159 (1 : Int32) rfl ?_
                refine OE.icmpNo X189 hx hby at_160 (flt (by decide : ¬ ((3 : Int32) < (1 : Int32)))).1 ?_
                refine OE.iload X189 hx hby at_163 rfl ?_
                refine OE.iload X189 hx hby at_165 rfl ?_
                refine OE.iloadN X189 hx hby at_167 rfl ?_
                refine OE.iloadN X189 hx hby at_168 rfl ?_
                obtain ⟨_, _, ⟨T209, L209, k209, n209⟩, -, X209, ⟨Lc209, hQ209, l209, y209, z209⟩, st209⟩ := Jvm.LawKit.callS X189 hx (y := (⟨"com/example/corbel/corbel/PeaksBoundPinLaw", "covers", "(IIII)Z"⟩ : MethodName)) hown (mvT hZ (hw _ (List.mem_of_getElem? (i := 38) rfl))) (mvT hZ (hw _ (List.mem_of_getElem? (i := 39) rfl))) (mvT hZ (hw _ (List.mem_of_getElem? (i := 40) rfl))) (mvT hZ (hw _ (List.mem_of_getElem? (i := 41) rfl))) (by decide) (backOf (W := 0) (own_rm7 l Z a0 hw [] f0 l0 p3 p4 H188 n0 z188 ) hZ (hw _ (List.mem_of_getElem? (i := 41) rfl)) (hw _ (List.mem_of_getElem? (i := 40) rfl)) (by decide) (by decide)) (g := (mkF m 169 #[.val (.int p1), .val (.int p2), .val (.int p3), .val (.int p4), .val (.int p5), .val (.int (3 : Int32)), .val (.int rm), .val (.int f0), .val (.int f1), .val (.int f2), .val (.int l0), .val (.int l1), .val (.int l2), .val (.ref b), .val (.int (0 : Int32)), .unset] [(.int p4), (.int p3), (.int l0), (.int f0)])) rfl (by rw [hml]; rfl) (argsL := [(.int f0), (.int l0), (.int p3), (.int p4)]) (rest := []) (lenOf own_pd4 rfl) rfl (by show 2 * 0 + _ ≤ _; exact Nat.le_of_eq rfl) (hb hby at_169) (fun _ _ => ⟨rfl, eq189, (Nat.le_trans (Nat.add_le_add_right (Nat.add_le_add_right hcl188 0) 0) (by decide)), (Nat.le_trans (Nat.add_le_add_right (Nat.add_le_add_right hsl188 0) 0) (by decide))⟩)
                dsimp only [Pt.U, Pt.locs, Pt.cells, Pt.slots] at X209 l209 y209 z209 st209 hQ209
                subst l209 y209 z209
                obtain ⟨rfl, Nq209, eq209⟩ := hQ209
                refine OE.of (fun _ k => st209 _ k) ?_
                have N209 := Fr.app N189 Nq209
                show OE _ p e below s _ _ _ T209 (mkF m 172 #[.val (.int p1), .val (.int p2), .val (.int p3), .val (.int p4), .val (.int p5), .val (.int (3 : Int32)), .val (.int rm), .val (.int f0), .val (.int f1), .val (.int f2), .val (.int l0), .val (.int l1), .val (.int l2), .val (.ref b), .val (.int (0 : Int32)), .unset] [(.int (if f0 < p3 then (0 : Int32) else (if p4 < l0 then (0 : Int32) else (1 : Int32))))])
                rw [if_pos (show f0 < p3 from hl190)]
                show OE _ p e below s _ _ _ T209 (mkF m 172 #[.val (.int p1), .val (.int p2), .val (.int p3), .val (.int p4), .val (.int p5), .val (.int (3 : Int32)), .val (.int rm), .val (.int f0), .val (.int f1), .val (.int f2), .val (.int l0), .val (.int l1), .val (.int l2), .val (.ref b), .val (.int (0 : Int32)), .unset] [(.int (0 : Int32))])
                refine OE.ifNo X209 hx hby at_172 (teq (by decide : (0 : Int32) = (0 : Int32))).2 ?_
                refine OE.iload X209 hx hby at_175 rfl ?_
                refine OE.iconst X209 hx hby at_177 (2 : Int32) rfl ?_
                refine OE.icmpNo X209 hx hby at_178 (flt (by decide : ¬ ((3 : Int32) < (2 : Int32)))).1 ?_
                refine OE.iload X209 hx hby at_181 rfl ?_
                refine OE.iload X209 hx hby at_183 rfl ?_
                refine OE.iloadN X209 hx hby at_185 rfl ?_
                refine OE.iloadN X209 hx hby at_186 rfl ?_
                obtain ⟨_, _, ⟨T210, L210, k210, n210⟩, -, X210, ⟨Lc210, hQ210, l210, y210, z210⟩, st210⟩ := Jvm.LawKit.callS X209 hx (y := (⟨"com/example/corbel/corbel/PeaksBoundPinLaw", "covers", "(IIII)Z"⟩ : MethodName)) hown (mvT hZ (hw _ (List.mem_of_getElem? (i := 38) rfl))) (mvT hZ (hw _ (List.mem_of_getElem? (i := 39) rfl))) (mvT hZ (hw _ (List.mem_of_getElem? (i := 40) rfl))) (mvT hZ (hw _ (List.mem_of_getElem? (i := 41) rfl))) (by decide) (backOf (W := 0) (own_rm7 l Z a0 hw [] f1 l1 p3 p4 H188 n0 z188 ) hZ (hw _ (List.mem_of_getElem? (i := 41) rfl)) (hw _ (List.mem_of_getElem? (i := 40) rfl)) (by decide) (by decide)) (g := (mkF m 187 #[.val (.int p1), .val (.int p2), .val (.int p3), .val (.int p4), .val (.int p5), .val (.int (3 : Int32)), .val (.int rm), .val (.int f0), .val (.int f1), .val (.int f2), .val (.int l0), .val (.int l1), .val (.int l2), .val (.ref b), .val (.int (0 : Int32)), .unset] [(.int p4), (.int p3), (.int l1), (.int f1)])) rfl (by rw [hml]; rfl) (argsL := [(.int f1), (.int l1), (.int p3), (.int p4)]) (rest := []) (lenOf own_pd4 rfl) rfl (by show 2 * 0 + _ ≤ _; exact Nat.le_of_eq rfl) (hb hby at_187) (fun _ _ => ⟨rfl, eq209, (Nat.le_trans (Nat.add_le_add_right (Nat.add_le_add_right (Nat.add_le_add_right hcl188 0) 0) 0) (by decide)), (Nat.le_trans (Nat.add_le_add_right (Nat.add_le_add_right (Nat.add_le_add_right hsl188 0) 0) 0) (by decide))⟩)
                dsimp only [Pt.U, Pt.locs, Pt.cells, Pt.slots] at X210 l210 y210 z210 st210 hQ210
                subst l210 y210 z210
                obtain ⟨rfl, Nq210, eq210⟩ := hQ210
                refine OE.of (fun _ k => st210 _ k) ?_
                have N210 := Fr.app N209 Nq210
                show OE _ p e below s _ _ _ T210 (mkF m 190 #[.val (.int p1), .val (.int p2), .val (.int p3), .val (.int p4), .val (.int p5), .val (.int (3 : Int32)), .val (.int rm), .val (.int f0), .val (.int f1), .val (.int f2), .val (.int l0), .val (.int l1), .val (.int l2), .val (.ref b), .val (.int (0 : Int32)), .unset] [(.int (if f1 < p3 then (0 : Int32) else (if p4 < l1 then (0 : Int32) else (1 : Int32))))])
                rw [if_neg (show ¬ (f1 < p3) from hl191)]
                show OE _ p e below s _ _ _ T210 (mkF m 190 #[.val (.int p1), .val (.int p2), .val (.int p3), .val (.int p4), .val (.int p5), .val (.int (3 : Int32)), .val (.int rm), .val (.int f0), .val (.int f1), .val (.int f2), .val (.int l0), .val (.int l1), .val (.int l2), .val (.ref b), .val (.int (0 : Int32)), .unset] [(.int (if p4 < l1 then (0 : Int32) else (1 : Int32)))])
                rw [if_pos (show p4 < l1 from hl203)]
                show OE _ p e below s _ _ _ T210 (mkF m 190 #[.val (.int p1), .val (.int p2), .val (.int p3), .val (.int p4), .val (.int p5), .val (.int (3 : Int32)), .val (.int rm), .val (.int f0), .val (.int f1), .val (.int f2), .val (.int l0), .val (.int l1), .val (.int l2), .val (.ref b), .val (.int (0 : Int32)), .unset] [(.int (0 : Int32))])
                refine OE.ifNo X210 hx hby at_190 (teq (by decide : (0 : Int32) = (0 : Int32))).2 ?_
                refine OE.iload X210 hx hby at_193 rfl ?_
                refine OE.iconst X210 hx hby at_195 (3 : Int32) rfl ?_
                refine OE.icmpNo X210 hx hby at_196 (flt (by decide : ¬ ((3 : Int32) < (3 : Int32)))).1 ?_
                refine OE.iload X210 hx hby at_199 rfl ?_
                refine OE.iload X210 hx hby at_201 rfl ?_
                refine OE.iloadN X210 hx hby at_203 rfl ?_
                refine OE.iloadN X210 hx hby at_204 rfl ?_
                obtain ⟨_, _, ⟨T211, L211, k211, n211⟩, -, X211, ⟨Lc211, hQ211, l211, y211, z211⟩, st211⟩ := Jvm.LawKit.callS X210 hx (y := (⟨"com/example/corbel/corbel/PeaksBoundPinLaw", "covers", "(IIII)Z"⟩ : MethodName)) hown (mvT hZ (hw _ (List.mem_of_getElem? (i := 38) rfl))) (mvT hZ (hw _ (List.mem_of_getElem? (i := 39) rfl))) (mvT hZ (hw _ (List.mem_of_getElem? (i := 40) rfl))) (mvT hZ (hw _ (List.mem_of_getElem? (i := 41) rfl))) (by decide) (backOf (W := 0) (own_rm7 l Z a0 hw [] f2 l2 p3 p4 H188 n0 z188 ) hZ (hw _ (List.mem_of_getElem? (i := 41) rfl)) (hw _ (List.mem_of_getElem? (i := 40) rfl)) (by decide) (by decide)) (g := (mkF m 205 #[.val (.int p1), .val (.int p2), .val (.int p3), .val (.int p4), .val (.int p5), .val (.int (3 : Int32)), .val (.int rm), .val (.int f0), .val (.int f1), .val (.int f2), .val (.int l0), .val (.int l1), .val (.int l2), .val (.ref b), .val (.int (0 : Int32)), .unset] [(.int p4), (.int p3), (.int l2), (.int f2)])) rfl (by rw [hml]; rfl) (argsL := [(.int f2), (.int l2), (.int p3), (.int p4)]) (rest := []) (lenOf own_pd4 rfl) rfl (by show 2 * 0 + _ ≤ _; exact Nat.le_of_eq rfl) (hb hby at_205) (fun _ _ => ⟨rfl, eq210, (Nat.le_trans (Nat.add_le_add_right (Nat.add_le_add_right (Nat.add_le_add_right (Nat.add_le_add_right hcl188 0) 0) 0) 0) (by decide)), (Nat.le_trans (Nat.add_le_add_right (Nat.add_le_add_right (Nat.add_le_add_right (Nat.add_le_add_right hsl188 0) 0) 0) 0) (by decide))⟩)
                dsimp only [Pt.U, Pt.locs, Pt.cells, Pt.slots] at X211 l211 y211 z211 st211 hQ211
                subst l211 y211 z211
                obtain ⟨rfl, Nq211, eq211⟩ := hQ211
                refine OE.of (fun _ k => st211 _ k) ?_
                have N211 := Fr.app N210 Nq211
                show OE _ p e below s _ _ _ T211 (mkF m 208 #[.val (.int p1), .val (.int p2), .val (.int p3), .val (.int p4), .val (.int p5), .val (.int (3 : Int32)), .val (.int rm), .val (.int f0), .val (.int f1), .val (.int f2), .val (.int l0), .val (.int l1), .val (.int l2), .val (.ref b), .val (.int (0 : Int32)), .unset] [(.int (if f2 < p3 then (0 : Int32) else (if p4 < l2 then (0 : Int32) else (1 : Int32))))])
                rw [if_neg (show ¬ (f2 < p3) from hl204)]
                show OE _ p e below s _ _ _ T211 (mkF m 208 #[.val (.int p1), .val (.int p2), .val (.int p3), .val (.int p4), .val (.int p5), .val (.int (3 : Int32)), .val (.int rm), .val (.int f0), .val (.int f1), .val (.int f2), .val (.int l0), .val (.int l1), .val (.int l2), .val (.ref b), .val (.int (0 : Int32)), .unset] [(.int (if p4 < l2 then (0 : Int32) else (1 : Int32)))])
                rw [if_pos (show p4 < l2 from hl208)]
                show OE _ p e below s _ _ _ T211 (mkF m 208 #[.val (.int p1), .val (.int p2), .val (.int p3), .val (.int p4), .val (.int p5), .val (.int (3 : Int32)), .val (.int rm), .val (.int f0), .val (.int f1), .val (.int f2), .val (.int l0), .val (.int l1), .val (.int l2), .val (.ref b), .val (.int (0 : Int32)), .unset] [(.int (0 : Int32))])
                refine OE.ifYes X211 hx hby (pc' := 215) at_208 (teq (by decide : (0 : Int32) = (0 : Int32))).1 (h := ?_)
                refine OE.iconst X211 hx hby at_215 (0 : Int32) rfl ?_
                refine OE.istore X211 hx hby at_216 (l' := #[.val (.int p1), .val (.int p2), .val (.int p3), .val (.int p4), .val (.int p5), .val (.int (3 : Int32)), .val (.int rm), .val (.int f0), .val (.int f1), .val (.int f2), .val (.int l0), .val (.int l1), .val (.int l2), .val (.ref b), .val (.int (0 : Int32)), .val (.int (0 : Int32))]) rfl ?_
                refine OE.iload X211 hx hby at_218 rfl ?_
                refine OE.iload X211 hx hby at_220 rfl ?_
                refine OE.icmpNo X211 hx hby at_222 (teq (by decide : (0 : Int32) = (0 : Int32))).2 ?_
                refine OE.iconst X211 hx hby at_225 (1 : Int32) rfl ?_
                refine OE.goto X211 hx hby (pc' := 230) at_226 (h := ?_)
                refine OE.retN X211 hx (t := .boolean) Bd.returns (by simp) Bd.notSynchronized (hb hby at_230) (Nat.le_trans (Nat.add_le_add_right (Nat.add_le_add_right (Nat.add_le_add_right (Nat.add_le_add_right hcl188 0) 0) 0) 0) (by decide)) (Nat.le_trans (Nat.add_le_add_right (Nat.add_le_add_right (Nat.add_le_add_right (Nat.add_le_add_right hsl188 0) 0) 0) 0) (by decide)) ?_
                rw [eq211]
                exact ⟨rfl, N211⟩
              · skip
                rw [if_neg (show ¬ (p4 < l2) from hl208)]
                show OE _ p e below s _ _ _ T189 (mkF m 155 #[.val (.int p1), .val (.int p2), .val (.int p3), .val (.int p4), .val (.int p5), .val (.int (3 : Int32)), .val (.int rm), .val (.int f0), .val (.int f1), .val (.int f2), .val (.int l0), .val (.int l1), .val (.int l2), .val (.ref b), .unset, .unset] [(.int (1 : Int32))])
                refine OE.istore X189 hx hby at_155 (l' := #[.val (.int p1), .val (.int p2), .val (.int p3), .val (.int p4), .val (.int p5), .val (.int (3 : Int32)), .val (.int rm), .val (.int f0), .val (.int f1), .val (.int f2), .val (.int l0), .val (.int l1), .val (.int l2), .val (.ref b), .val (.int (1 : Int32)), .unset]) rfl ?_
                refine OE.iload X189 hx hby at_157 rfl ?_
                refine OE.iconst X189 hx hby at_159 (1 : Int32) rfl ?_
                refine OE.icmpNo X189 hx hby at_160 (flt (by decide : ¬ ((3 : Int32) < (1 : Int32)))).1 ?_
                refine OE.iload X189 hx hby at_163 rfl ?_
                refine OE.iload X189 hx hby at_165 rfl ?_
                refine OE.iloadN X189 hx hby at_167 rfl ?_
                refine OE.iloadN X189 hx hby at_168 rfl ?_
                obtain ⟨_, _, ⟨T212, L212, k212, n212⟩, -, X212, ⟨Lc212, hQ212, l212, y212, z212⟩, st212⟩ := Jvm.LawKit.callS X189 hx (y := (⟨"com/example/corbel/corbel/PeaksBoundPinLaw", "covers", "(IIII)Z"⟩ : MethodName)) hown (mvT hZ (hw _ (List.mem_of_getElem? (i := 38) rfl))) (mvT hZ (hw _ (List.mem_of_getElem? (i := 39) rfl))) (mvT hZ (hw _ (List.mem_of_getElem? (i := 40) rfl))) (mvT hZ (hw _ (List.mem_of_getElem? (i := 41) rfl))) (by decide) (backOf (W := 0) (own_rm7 l Z a0 hw [] f0 l0 p3 p4 H188 n0 z188 ) hZ (hw _ (List.mem_of_getElem? (i := 41) rfl)) (hw _ (List.mem_of_getElem? (i := 40) rfl)) (by decide) (by decide)) (g := (mkF m 169 #[.val (.int p1), .val (.int p2), .val (.int p3), .val (.int p4), .val (.int p5), .val (.int (3 : Int32)), .val (.int rm), .val (.int f0), .val (.int f1), .val (.int f2), .val (.int l0), .val (.int l1), .val (.int l2), .val (.ref b), .val (.int (1 : Int32)), .unset] [(.int p4), (.int p3), (.int l0), (.int f0)])) rfl (by rw [hml]; rfl) (argsL := [(.int f0), (.int l0), (.int p3), (.int p4)]) (rest := []) (lenOf own_pd4 rfl) rfl (by show 2 * 0 + _ ≤ _; exact Nat.le_of_eq rfl) (hb hby at_169) (fun _ _ => ⟨rfl, eq189, (Nat.le_trans (Nat.add_le_add_right (Nat.add_le_add_right hcl188 0) 0) (by decide)), (Nat.le_trans (Nat.add_le_add_right (Nat.add_le_add_right hsl188 0) 0) (by decide))⟩)
                dsimp only [Pt.U, Pt.locs, Pt.cells, Pt.slots] at X212 l212 y212 z212 st212 hQ212
                subst l212 y212 z212
                obtain ⟨rfl, Nq212, eq212⟩ := hQ212
                refine OE.of (fun _ k => st212 _ k) ?_
                have N212 := Fr.app N189 Nq212
                show OE _ p e below s _ _ _ T212 (mkF m 172 #[.val (.int p1), .val (.int p2), .val (.int p3), .val (.int p4), .val (.int p5), .val (.int (3 : Int32)), .val (.int rm), .val (.int f0), .val (.int f1), .val (.int f2), .val (.int l0), .val (.int l1), .val (.int l2), .val (.ref b), .val (.int (1 : Int32)), .unset] [(.int (if f0 < p3 then (0 : Int32) else (if p4 < l0 then (0 : Int32) else (1 : Int32))))])
                rw [if_pos (show f0 < p3 from hl190)]
                show OE _ p e below s _ _ _ T212 (mkF m 172 #[.val (.int p1), .val (.int p2), .val (.int p3), .val (.int p4), .val (.int p5), .val (.int (3 : Int32)), .val (.int rm), .val (.int f0), .val (.int f1), .val (.int f2), .val (.int l0), .val (.int l1), .val (.int l2), .val (.ref b), .val (.int (1 : Int32)), .unset] [(.int (0 : Int32))])
                refine OE.ifNo X212 hx hby at_172 (teq (by decide : (0 : Int32) = (0 : Int32))).2 ?_
                refine OE.iload X212 hx hby at_175 rfl ?_
                refine OE.iconst X212 hx hby at_177 (2 : Int32) rfl ?_
                refine OE.icmpNo X212 hx hby at_178 (flt (by decide : ¬ ((3 : Int32) < (2 : Int32)))).1 ?_
                refine OE.iload X212 hx hby at_181 rfl ?_
                refine OE.iload X212 hx hby at_183 rfl ?_
                refine OE.iloadN X212 hx hby at_185 rfl ?_
                refine OE.iloadN X212 hx hby at_186 rfl ?_
                obtain ⟨_, _, ⟨T213, L213, k213, n213⟩, -, X213, ⟨Lc213, hQ213, l213, y213, z213⟩, st213⟩ := Jvm.LawKit.callS X212 hx (y := (⟨"com/example/corbel/corbel/PeaksBoundPinLaw", "covers", "(IIII)Z"⟩ : MethodName)) hown (mvT hZ (hw _ (List.mem_of_getElem? (i := 38) rfl))) (mvT hZ (hw _ (List.mem_of_getElem? (i := 39) rfl))) (mvT hZ (hw _ (List.mem_of_getElem? (i := 40) rfl))) (mvT hZ (hw _ (List.mem_of_getElem? (i := 41) rfl))) (by decide) (backOf (W := 0) (own_rm7 l Z a0 hw [] f1 l1 p3 p4 H188 n0 z188 ) hZ (hw _ (List.mem_of_getElem? (i := 41) rfl)) (hw _ (List.mem_of_getElem? (i := 40) rfl)) (by decide) (by decide)) (g := (mkF m 187 #[.val (.int p1), .val (.int p2), .val (.int p3), .val (.int p4), .val (.int p5), .val (.int (3 : Int32)), .val (.int rm), .val (.int f0), .val (.int f1), .val (.int f2), .val (.int l0), .val (.int l1), .val (.int l2), .val (.ref b), .val (.int (1 : Int32)), .unset] [(.int p4), (.int p3), (.int l1), (.int f1)])) rfl (by rw [hml]; rfl) (argsL := [(.int f1), (.int l1), (.int p3), (.int p4)]) (rest := []) (lenOf own_pd4 rfl) rfl (by show 2 * 0 + _ ≤ _; exact Nat.le_of_eq rfl) (hb hby at_187) (fun _ _ => ⟨rfl, eq212, (Nat.le_trans (Nat.add_le_add_right (Nat.add_le_add_right (Nat.add_le_add_right hcl188 0) 0) 0) (by decide)), (Nat.le_trans (Nat.add_le_add_right (Nat.add_le_add_right (Nat.add_le_add_right hsl188 0) 0) 0) (by decide))⟩)
                dsimp only [Pt.U, Pt.locs, Pt.cells, Pt.slots] at X213 l213 y213 z213 st213 hQ213
                subst l213 y213 z213
                obtain ⟨rfl, Nq213, eq213⟩ := hQ213
                refine OE.of (fun _ k => st213 _ k) ?_
                have N213 := Fr.app N212 Nq213
                show OE _ p e below s _ _ _ T213 (mkF m 190 #[.val (.int p1), .val (.int p2), .val (.int p3), .val (.int p4), .val (.int p5), .val (.int (3 : Int32)), .val (.int rm), .val (.int f0), .val (.int f1), .val (.int f2), .val (.int l0), .val (.int l1), .val (.int l2), .val (.ref b), .val (.int (1 : Int32)), .unset] [(.int (if f1 < p3 then (0 : Int32) else (if p4 < l1 then (0 : Int32) else (1 : Int32))))])
                rw [if_neg (show ¬ (f1 < p3) from hl191)]
                show OE _ p e below s _ _ _ T213 (mkF m 190 #[.val (.int p1), .val (.int p2), .val (.int p3), .val (.int p4), .val (.int p5), .val (.int (3 : Int32)), .val (.int rm), .val (.int f0), .val (.int f1), .val (.int f2), .val (.int l0), .val (.int l1), .val (.int l2), .val (.ref b), .val (.int (1 : Int32)), .unset] [(.int (if p4 < l1 then (0 : Int32) else (1 : Int32)))])
                rw [if_pos (show p4 < l1 from hl203)]
                show OE _ p e below s _ _ _ T213 (mkF m 190 #[.val (.int p1), .val (.int p2), .val (.int p3), .val (.int p4), .val (.int p5), .val (.int (3 : Int32)), .val (.int rm), .val (.int f0), .val (.int f1), .val (.int f2), .val (.int l0), .val (.int l1), .val (.int l2), .val (.ref b), .val (.int (1 : Int32)), .unset] [(.int (0 : Int32))])
                refine OE.ifNo X213 hx hby at_190 (teq (by decide : (0 : Int32) = (0 : Int32))).2 ?_
                refine OE.iload X213 hx hby at_193 rfl ?_
                refine OE.iconst X213 hx hby at_195 (3 : Int32) rfl ?_
                refine OE.icmpNo X213 hx hby at_196 (flt (by decide : ¬ ((3 : Int32) < (3 : Int32)))).1 ?_
                refine OE.iload X213 hx hby at_199 rfl ?_
                refine OE.iload X213 hx hby at_201 rfl ?_
                refine OE.iloadN X213 hx hby at_203 rfl ?_
                refine OE.iloadN X213 hx hby at_204 rfl ?_
                obtain ⟨_, _, ⟨T214, L214, k214, n214⟩, -, X214, ⟨Lc214, hQ214, l214, y214, z214⟩, st214⟩ := Jvm.LawKit.callS X213 hx (y := (⟨"com/example/corbel/corbel/PeaksBoundPinLaw", "covers", "(IIII)Z"⟩ : MethodName)) hown (mvT hZ (hw _ (List.mem_of_getElem? (i := 38) rfl))) (mvT hZ (hw _ (List.mem_of_getElem? (i := 39) rfl))) (mvT hZ (hw _ (List.mem_of_getElem? (i := 40) rfl))) (mvT hZ (hw _ (List.mem_of_getElem? (i := 41) rfl))) (by decide) (backOf (W := 0) (own_rm7 l Z a0 hw [] f2 l2 p3 p4 H188 n0 z188 ) hZ (hw _ (List.mem_of_getElem? (i := 41) rfl)) (hw _ (List.mem_of_getElem? (i := 40) rfl)) (by decide) (by decide)) (g := (mkF m 205 #[.val (.int p1), .val (.int p2), .val (.int p3), .val (.int p4), .val (.int p5), .val (.int (3 : Int32)), .val (.int rm), .val (.int f0), .val (.int f1), .val (.int f2), .val (.int l0), .val (.int l1), .val (.int l2), .val (.ref b), .val (.int (1 : Int32)), .unset] [(.int p4), (.int p3), (.int l2), (.int f2)])) rfl (by rw [hml]; rfl) (argsL := [(.int f2), (.int l2), (.int p3), (.int p4)]) (rest := []) (lenOf own_pd4 rfl) rfl (by show 2 * 0 + _ ≤ _; exact Nat.le_of_eq rfl) (hb hby at_205) (fun _ _ => ⟨rfl, eq213, (Nat.le_trans (Nat.add_le_add_right (Nat.add_le_add_right (Nat.add_le_add_right (Nat.add_le_add_right hcl188 0) 0) 0) 0) (by decide)), (Nat.le_trans (Nat.add_le_add_right (Nat.add_le_add_right (Nat.add_le_add_right (Nat.add_le_add_right hsl188 0) 0) 0) 0) (by decide))⟩)
                dsimp only [Pt.U, Pt.locs, Pt.cells, Pt.slots] at X214 l214 y214 z214 st214 hQ214
                subst l214 y214 z214
                obtain ⟨rfl, Nq214, eq214⟩ := hQ214
                refine OE.of (fun _ k => st214 _ k) ?_
                have N214 := Fr.app N213 Nq214
                show OE _ p e below s _ _ _ T214 (mkF m 208 #[.val (.int p1), .val (.int p2), .val (.int p3), .val (.int p4), .val (.int p5), .val (.int (3 : Int32)), .val (.int rm), .val (.int f0), .val (.int f1), .val (.int f2), .val (.int l0), .val (.int l1), .val (.int l2), .val (.ref b), .val (.int (1 : Int32)), .unset] [(.int (if f2 < p3 then (0 : Int32) else (if p4 < l2 then (0 : Int32) else (1 : Int32))))])
                rw [if_neg (show ¬ (f2 < p3) from hl204)]
                show OE _ p e below s _ _ _ T214 (mkF m 208 #[.val (.int p1), .val (.int p2), .val (.int p3), .val (.int p4), .val (.int p5), .val (.int (3 : Int32)), .val (.int rm), .val (.int f0), .val (.int f1), .val (.int f2), .val (.int l0), .val (.int l1), .val (.int l2), .val (.ref b), .val (.int (1 : Int32)), .unset] [(.int (if p4 < l2 then (0 : Int32) else (1 : Int32)))])
                rw [if_neg (show ¬ (p4 < l2) from hl208)]
                show OE _ p e below s _ _ _ T214 (mkF m 208 #[.val (.int p1), .val (.int p2), .val (.int p3), .val (.int p4), .val (.int p5), .val (.int (3 : Int32)), .val (.int rm), .val (.int f0), .val (.int f1), .val (.int f2), .val (.int l0), .val (.int l1), .val (.int l2), .val (.ref b), .val (.int (1 : Int32)), .unset] [(.int (1 : Int32))])
                refine OE.ifNo X214 hx hby at_208 (feq (by decide : ¬ ((1 : Int32) = (0 : Int32)))).1 ?_
                refine OE.iconst X214 hx hby at_211 (1 : Int32) rfl ?_
                refine OE.goto X214 hx hby (pc' := 216) at_212 (h := ?_)
                refine OE.istore X214 hx hby at_216 (l' := #[.val (.int p1), .val (.int p2), .val (.int p3), .val (.int p4), .val (.int p5), .val (.int (3 : Int32)), .val (.int rm), .val (.int f0), .val (.int f1), .val (.int f2), .val (.int l0), .val (.int l1), .val (.int l2), .val (.ref b), .val (.int (1 : Int32)), .val (.int (1 : Int32))]) rfl ?_
                refine OE.iload X214 hx hby at_218 rfl ?_
                refine OE.iload X214 hx hby at_220 rfl ?_
                refine OE.icmpNo X214 hx hby at_222 (teq (by decide : (1 : Int32) = (1 : Int32))).2 ?_
                refine OE.iconst X214 hx hby at_225 (1 : Int32) rfl ?_
                refine OE.goto X214 hx hby (pc' := 230) at_226 (h := ?_)
                refine OE.retN X214 hx (t := .boolean) Bd.returns (by simp) Bd.notSynchronized (hb hby at_230) (Nat.le_trans (Nat.add_le_add_right (Nat.add_le_add_right (Nat.add_le_add_right (Nat.add_le_add_right hcl188 0) 0) 0) 0) (by decide)) (Nat.le_trans (Nat.add_le_add_right (Nat.add_le_add_right (Nat.add_le_add_right (Nat.add_le_add_right hsl188 0) 0) 0) 0) (by decide)) ?_
                rw [eq214]
                exact ⟨rfl, N214⟩
          · skip
            rw [if_neg (show ¬ (p4 < l1) from hl203)]
            show OE _ p e below s _ _ _ T189 (mkF m 155 #[.val (.int p1), .val (.int p2), .val (.int p3), .val (.int p4), .val (.int p5), .val (.int (3 : Int32)), .val (.int rm), .val (.int f0), .val (.int f1), .val (.int f2), .val (.int l0), .val (.int l1), .val (.int l2), .val (.ref b), .unset, .unset] [(.int (1 : Int32))])
            refine OE.istore X189 hx hby at_155 (l' := #[.val (.int p1), .val (.int p2), .val (.int p3), .val (.int p4), .val (.int p5), .val (.int (3 : Int32)), .val (.int rm), .val (.int f0), .val (.int f1), .val (.int f2), .val (.int l0), .val (.int l1), .val (.int l2), .val (.ref b), .val (.int (1 : Int32)), .unset]) rfl ?_
            refine OE.iload X189 hx hby at_157 rfl ?_
            refine OE.iconst X189 hx hby at_159 (1 : Int32) rfl ?_
            refine OE.icmpNo X189 hx hby at_160 (flt (by decide : ¬ ((3 : Int32) < (1 : Int32)))).1 ?_
            refine OE.iload X189 hx hby at_163 rfl ?_
            refine OE.iload X189 hx hby at_165 rfl ?_
            refine OE.iloadN X189 hx hby at_167 rfl ?_
            refine OE.iloadN X189 hx hby at_168 rfl ?_
            obtain ⟨_, _, ⟨T215, L215, k215, n215⟩, -, X215, ⟨Lc215, hQ215, l215, y215, z215⟩, st215⟩ := Jvm.LawKit.callS X189 hx (y := (⟨"com/example/corbel/corbel/PeaksBoundPinLaw", "covers", "(IIII)Z"⟩ : MethodName)) hown (mvT hZ (hw _ (List.mem_of_getElem? (i := 38) rfl))) (mvT hZ (hw _ (List.mem_of_getElem? (i := 39) rfl))) (mvT hZ (hw _ (List.mem_of_getElem? (i := 40) rfl))) (mvT hZ (hw _ (List.mem_of_getElem? (i := 41) rfl))) (by decide) (backOf (W := 0) (own_rm7 l Z a0 hw [] f0 l0 p3 p4 H188 n0 z188 ) hZ (hw _ (List.mem_of_getElem? (i := 41) rfl)) (hw _ (List.mem_of_getElem? (i := 40) rfl)) (by decide) (by decide)) (g := (mkF m 169 #[.val (.int p1), .val (.int p2), .val (.int p3), .val (.int p4), .val (.int p5), .val (.int (3 : Int32)), .val (.int rm), .val (.int f0), .val (.int f1), .val (.int f2), .val (.int l0), .val (.int l1), .val (.int l2), .val (.ref b), .val (.int (1 : Int32)), .unset] [(.int p4), (.int p3), (.int l0), (.int f0)])) rfl (by rw [hml]; rfl) (argsL := [(.int f0), (.int l0), (.int p3), (.int p4)]) (rest := []) (lenOf own_pd4 rfl) rfl (by show 2 * 0 + _ ≤ _; exact Nat.le_of_eq rfl) (hb hby at_169) (fun _ _ => ⟨rfl, eq189, (Nat.le_trans (Nat.add_le_add_right (Nat.add_le_add_right hcl188 0) 0) (by decide)), (Nat.le_trans (Nat.add_le_add_right (Nat.add_le_add_right hsl188 0) 0) (by decide))⟩)
            dsimp only [Pt.U, Pt.locs, Pt.cells, Pt.slots] at X215 l215 y215 z215 st215 hQ215
            subst l215 y215 z215
            obtain ⟨rfl, Nq215, eq215⟩ := hQ215
            refine OE.of (fun _ k => st215 _ k) ?_
            have N215 := Fr.app N189 Nq215
            show OE _ p e below s _ _ _ T215 (mkF m 172 #[.val (.int p1), .val (.int p2), .val (.int p3), .val (.int p4), .val (.int p5), .val (.int (3 : Int32)), .val (.int rm), .val (.int f0), .val (.int f1), .val (.int f2), .val (.int l0), .val (.int l1), .val (.int l2), .val (.ref b), .val (.int (1 : Int32)), .unset] [(.int (if f0 < p3 then (0 : Int32) else (if p4 < l0 then (0 : Int32) else (1 : Int32))))])
            rw [if_pos (show f0 < p3 from hl190)]
            show OE _ p e below s _ _ _ T215 (mkF m 172 #[.val (.int p1), .val (.int p2), .val (.int p3), .val (.int p4), .val (.int p5), .val (.int (3 : Int32)), .val (.int rm), .val (.int f0), .val (.int f1), .val (.int f2), .val (.int l0), .val (.int l1), .val (.int l2), .val (.ref b), .val (.int (1 : Int32)), .unset] [(.int (0 : Int32))])
            refine OE.ifNo X215 hx hby at_172 (teq (by decide : (0 : Int32) = (0 : Int32))).2 ?_
            refine OE.iload X215 hx hby at_175 rfl ?_
            refine OE.iconst X215 hx hby at_177 (2 : Int32) rfl ?_
            refine OE.icmpNo X215 hx hby at_178 (flt (by decide : ¬ ((3 : Int32) < (2 : Int32)))).1 ?_
            refine OE.iload X215 hx hby at_181 rfl ?_
            refine OE.iload X215 hx hby at_183 rfl ?_
            refine OE.iloadN X215 hx hby at_185 rfl ?_
            refine OE.iloadN X215 hx hby at_186 rfl ?_
            obtain ⟨_, _, ⟨T216, L216, k216, n216⟩, -, X216, ⟨Lc216, hQ216, l216, y216, z216⟩, st216⟩ := Jvm.LawKit.callS X215 hx (y := (⟨"com/example/corbel/corbel/PeaksBoundPinLaw", "covers", "(IIII)Z"⟩ : MethodName)) hown (mvT hZ (hw _ (List.mem_of_getElem? (i := 38) rfl))) (mvT hZ (hw _ (List.mem_of_getElem? (i := 39) rfl))) (mvT hZ (hw _ (List.mem_of_getElem? (i := 40) rfl))) (mvT hZ (hw _ (List.mem_of_getElem? (i := 41) rfl))) (by decide) (backOf (W := 0) (own_rm7 l Z a0 hw [] f1 l1 p3 p4 H188 n0 z188 ) hZ (hw _ (List.mem_of_getElem? (i := 41) rfl)) (hw _ (List.mem_of_getElem? (i := 40) rfl)) (by decide) (by decide)) (g := (mkF m 187 #[.val (.int p1), .val (.int p2), .val (.int p3), .val (.int p4), .val (.int p5), .val (.int (3 : Int32)), .val (.int rm), .val (.int f0), .val (.int f1), .val (.int f2), .val (.int l0), .val (.int l1), .val (.int l2), .val (.ref b), .val (.int (1 : Int32)), .unset] [(.int p4), (.int p3), (.int l1), (.int f1)])) rfl (by rw [hml]; rfl) (argsL := [(.int f1), (.int l1), (.int p3), (.int p4)]) (rest := []) (lenOf own_pd4 rfl) rfl (by show 2 * 0 + _ ≤ _; exact Nat.le_of_eq rfl) (hb hby at_187) (fun _ _ => ⟨rfl, eq215, (Nat.le_trans (Nat.add_le_add_right (Nat.add_le_add_right (Nat.add_le_add_right hcl188 0) 0) 0) (by decide)), (Nat.le_trans (Nat.add_le_add_right (Nat.add_le_add_right (Nat.add_le_add_right hsl188 0) 0) 0) (by decide))⟩)
            dsimp only [Pt.U, Pt.locs, Pt.cells, Pt.slots] at X216 l216 y216 z216 st216 hQ216
            subst l216 y216 z216
            obtain ⟨rfl, Nq216, eq216⟩ := hQ216
            refine OE.of (fun _ k => st216 _ k) ?_
            have N216 := Fr.app N215 Nq216
            show OE _ p e below s _ _ _ T216 (mkF m 190 #[.val (.int p1), .val (.int p2), .val (.int p3), .val (.int p4), .val (.int p5), .val (.int (3 : Int32)), .val (.int rm), .val (.int f0), .val (.int f1), .val (.int f2), .val (.int l0), .val (.int l1), .val (.int l2), .val (.ref b), .val (.int (1 : Int32)), .unset] [(.int (if f1 < p3 then (0 : Int32) else (if p4 < l1 then (0 : Int32) else (1 : Int32))))])
            rw [if_neg (show ¬ (f1 < p3) from hl191)]
            show OE _ p e below s _ _ _ T216 (mkF m 190 #[.val (.int p1), .val (.int p2), .val (.int p3), .val (.int p4), .val (.int p5), .val (.int (3 : Int32)), .val (.int rm), .val (.int f0), .val (.int f1), .val (.int f2), .val (.int l0), .val (.int l1), .val (.int l2), .val (.ref b), .val (.int (1 : Int32)), .unset] [(.int (if p4 < l1 then (0 : Int32) else (1 : Int32)))])
            rw [if_neg (show ¬ (p4 < l1) from hl203)]
            show OE _ p e below s _ _ _ T216 (mkF m 190 #[.val (.int p1), .val (.int p2), .val (.int p3), .val (.int p4), .val (.int p5), .val (.int (3 : Int32)), .val (.int rm), .val (.int f0), .val (.int f1), .val (.int f2), .val (.int l0), .val (.int l1), .val (.int l2), .val (.ref b), .val (.int (1 : Int32)), .unset] [(.int (1 : Int32))])
            refine OE.ifYes X216 hx hby (pc' := 211) at_190 (feq (by decide : ¬ ((1 : Int32) = (0 : Int32)))).2 (h := ?_)
            refine OE.iconst X216 hx hby at_211 (1 : Int32) rfl ?_
            refine OE.goto X216 hx hby (pc' := 216) at_212 (h := ?_)
            refine OE.istore X216 hx hby at_216 (l' := #[.val (.int p1), .val (.int p2), .val (.int p3), .val (.int p4), .val (.int p5), .val (.int (3 : Int32)), .val (.int rm), .val (.int f0), .val (.int f1), .val (.int f2), .val (.int l0), .val (.int l1), .val (.int l2), .val (.ref b), .val (.int (1 : Int32)), .val (.int (1 : Int32))]) rfl ?_
            refine OE.iload X216 hx hby at_218 rfl ?_
            refine OE.iload X216 hx hby at_220 rfl ?_
            refine OE.icmpNo X216 hx hby at_222 (teq (by decide : (1 : Int32) = (1 : Int32))).2 ?_
            refine OE.iconst X216 hx hby at_225 (1 : Int32) rfl ?_
            refine OE.goto X216 hx hby (pc' := 230) at_226 (h := ?_)
            refine OE.retN X216 hx (t := .boolean) Bd.returns (by simp) Bd.notSynchronized (hb hby at_230) (Nat.le_trans (Nat.add_le_add_right (Nat.add_le_add_right (Nat.add_le_add_right hcl188 0) 0) 0) (by decide)) (Nat.le_trans (Nat.add_le_add_right (Nat.add_le_add_right (Nat.add_le_add_right hsl188 0) 0) 0) (by decide)) ?_
            rw [eq216]
            exact ⟨rfl, N216⟩
      · skip
        rw [if_neg (show ¬ (f0 < p3) from hl190)]
        show OE _ p e below s _ _ _ T189 (mkF m 155 #[.val (.int p1), .val (.int p2), .val (.int p3), .val (.int p4), .val (.int p5), .val (.int (3 : Int32)), .val (.int rm), .val (.int f0), .val (.int f1), .val (.int f2), .val (.int l0), .val (.int l1), .val (.int l2), .val (.ref b), .unset, .unset] [(.int (if p4 < l0 then (if f1 < p3 then (if f2 < p3 then (0 : Int32) else (if p4 < l2 then (0 : Int32) else (1 : Int32))) else (if p4 < l1 then (if f2 < p3 then (0 : Int32) else (if p4 < l2 then (0 : Int32) else (1 : Int32))) else (1 : Int32))) else (1 : Int32)))])
        by_cases hl217 : p4 < l0
        · skip
          rw [if_pos (show p4 < l0 from hl217)]
          show OE _ p e below s _ _ _ T189 (mkF m 155 #[.val (.int p1), .val (.int p2), .val (.int p3), .val (.int p4), .val (.int p5), .val (.int (3 : Int32)), .val (.int rm), .val (.int f0), .val (.int f1), .val (.int f2), .val (.int l0), .val (.int l1), .val (.int l2), .val (.ref b), .unset, .unset] [(.int (if f1 < p3 then (if f2 < p3 then (0 : Int32) else (if p4 < l2 then (0 : Int32) else (1 : Int32))) else (if p4 < l1 then (if f2 < p3 then (0 : Int32) else (if p4 < l2 then (0 : Int32) else (1 : Int32))) else (1 : Int32))))])
          by_cases hl218 : f1 < p3
          · skip
            rw [if_pos (show f1 < p3 from hl218)]
            show OE _ p e below s _ _ _ T189 (mkF m 155 #[.val (.int p1), .val (.int p2), .val (.int p3), .val (.int p4), .val (.int p5), .val (.int (3 : Int32)), .val (.int rm), .val (.int f0), .val (.int f1), .val (.int f2), .val (.int l0), .val (.int l1), .val (.int l2), .val (.ref b), .unset, .unset] [(.int (if f2 < p3 then (0 : Int32) else (if p4 < l2 then (0 : Int32) else (1 : Int32))))])
            by_cases hl219 : f2 < p3
            · skip
              rw [if_pos (show f2 < p3 from hl219)]
              show OE _ p e below s _ _ _ T189 (mkF m 155 #[.val (.int p1), .val (.int p2), .val (.int p3), .val (.int p4), .val (.int p5), .val (.int (3 : Int32)), .val (.int rm), .val (.int f0), .val (.int f1), .val (.int f2), .val (.int l0), .val (.int l1), .val (.int l2), .val (.ref b), .unset, .unset] [(.int (0 : Int32))])
              refine OE.istore X189 hx hby at_155 (l' := #[.val (.int p1), .val (.int p2), .val (.int p3), .val (.int p4), .val (.int p5), .val (.int (3 : Int32)), .val (.int rm), .val (.int f0), .val (.int f1), .val (.int f2), .val (.int l0), .val (.int l1), .val (.int l2), .val (.ref b), .val (.int (0 : Int32)), .unset]) rfl ?_
              refine OE.iload X189 hx hby at_157 rfl ?_
              refine OE.iconst X189 hx hby at_159 (1 : Int32) rfl ?_
              refine OE.icmpNo X189 hx hby at_160 (flt (by decide : ¬ ((3 : Int32) < (1 : Int32)))).1 ?_
              refine OE.iload X189 hx hby at_163 rfl ?_
              refine OE.iload X189 hx hby at_165 rfl ?_
              refine OE.iloadN X189 hx hby at_167 rfl ?_
              refine OE.iloadN X189 hx hby at_168 rfl ?_
              obtain ⟨_, _, ⟨T220, L220, k220, n220⟩, -, X220, ⟨Lc220, hQ220, l220, y220, z220⟩, st220⟩ := Jvm.LawKit.callS X189 hx (y := (⟨"com/example/corbel/corbel/PeaksBoundPinLaw", "covers", "(IIII)Z"⟩ : MethodName)) hown (mvT hZ (hw _ (List.mem_of_getElem? (i := 38) rfl))) (mvT hZ (hw _ (List.mem_of_getElem? (i := 39) rfl))) (mvT hZ (hw _ (List.mem_of_getElem? (i := 40) rfl))) (mvT hZ (hw _ (List.mem_of_getElem? (i := 41) rfl))) (by decide) (backOf (W := 0) (own_rm7 l Z a0 hw [] f0 l0 p3 p4 H188 n0 z188 ) hZ (hw _ (List.mem_of_getElem? (i := 41) rfl)) (hw _ (List.mem_of_getElem? (i := 40) rfl)) (by decide) (by decide)) (g := (mkF m 169 #[.val (.int p1), .val (.int p2), .val (.int p3), .val (.int p4), .val (.int p5), .val (.int (3 : Int32)), .val (.int rm), .val (.int f0), .val (.int f1), .val (.int f2), .val (.int l0), .val (.int l1), .val (.int l2), .val (.ref b), .val (.int (0 : Int32)), .unset] [(.int p4), (.int p3), (.int l0), (.int f0)])) rfl (by rw [hml]; rfl) (argsL := [(.int f0), (.int l0), (.int p3), (.int p4)]) (rest := []) (lenOf own_pd4 rfl) rfl (by show 2 * 0 + _ ≤ _; exact Nat.le_of_eq rfl) (hb hby at_169) (fun _ _ => ⟨rfl, eq189, (Nat.le_trans (Nat.add_le_add_right (Nat.add_le_add_right hcl188 0) 0) (by decide)), (Nat.le_trans (Nat.add_le_add_right (Nat.add_le_add_right hsl188 0) 0) (by decide))⟩)
              dsimp only [Pt.U, Pt.locs, Pt.cells, Pt.slots] at X220 l220 y220 z220 st220 hQ220
              subst l220 y220 z220
              obtain ⟨rfl, Nq220, eq220⟩ := hQ220
              refine OE.of (fun _ k => st220 _ k) ?_
              have N220 := Fr.app N189 Nq220
              show OE _ p e below s _ _ _ T220 (mkF m 172 #[.val (.int p1), .val (.int p2), .val (.int p3), .val (.int p4), .val (.int p5), .val (.int (3 : Int32)), .val (.int rm), .val (.int f0), .val (.int f1), .val (.int f2), .val (.int l0), .val (.int l1), .val (.int l2), .val (.ref b), .val (.int (0 : Int32)), .unset] [(.int (if f0 < p3 then (0 : Int32) else (if p4 < l0 then (0 : Int32) else (1 : Int32))))])
              rw [if_neg (show ¬ (f0 < p3) from hl190)]
              show OE _ p e below s _ _ _ T220 (mkF m 172 #[.val (.int p1), .val (.int p2), .val (.int p3), .val (.int p4), .val (.int p5), .val (.int (3 : Int32)), .val (.int rm), .val (.int f0), .val (.int f1), .val (.int f2), .val (.int l0), .val (.int l1), .val (.int l2), .val (.ref b), .val (.int (0 : Int32)), .unset] [(.int (if p4 < l0 then (0 : Int32) else (1 : Int32)))])
              rw [if_pos (show p4 < l0 from hl217)]
              show OE _ p e below s _ _ _ T220 (mkF m 172 #[.val (.int p1), .val (.int p2), .val (.int p3), .val (.int p4), .val (.int p5), .val (.int (3 : Int32)), .val (.int rm), .val (.int f0), .val (.int f1), .val (.int f2), .val (.int l0), .val (.int l1), .val (.int l2), .val (.ref b), .val (.int (0 : Int32)), .unset] [(.int (0 : Int32))])
              refine OE.ifNo X220 hx hby at_172 (teq (by decide : (0 : Int32) = (0 : Int32))).2 ?_
              refine OE.iload X220 hx hby at_175 rfl ?_
              refine OE.iconst X220 hx hby at_177 (2 : Int32) rfl ?_
              refine OE.icmpNo X220 hx hby at_178 (flt (by decide : ¬ ((3 : Int32) < (2 : Int32)))).1 ?_
              refine OE.iload X220 hx hby at_181 rfl ?_
              refine OE.iload X220 hx hby at_183 rfl ?_
              refine OE.iloadN X220 hx hby at_185 rfl ?_
              refine OE.iloadN X220 hx hby at_186 rfl ?_
              obtain ⟨_, _, ⟨T221, L221, k221, n221⟩, -, X221, ⟨Lc221, hQ221, l221, y221, z221⟩, st221⟩ := Jvm.LawKit.callS X220 hx (y := (⟨"com/example/corbel/corbel/PeaksBoundPinLaw", "covers", "(IIII)Z"⟩ : MethodName)) hown (mvT hZ (hw _ (List.mem_of_getElem? (i := 38) rfl))) (mvT hZ (hw _ (List.mem_of_getElem? (i := 39) rfl))) (mvT hZ (hw _ (List.mem_of_getElem? (i := 40) rfl))) (mvT hZ (hw _ (List.mem_of_getElem? (i := 41) rfl))) (by decide) (backOf (W := 0) (own_rm7 l Z a0 hw [] f1 l1 p3 p4 H188 n0 z188 ) hZ (hw _ (List.mem_of_getElem? (i := 41) rfl)) (hw _ (List.mem_of_getElem? (i := 40) rfl)) (by decide) (by decide)) (g := (mkF m 187 #[.val (.int p1), .val (.int p2), .val (.int p3), .val (.int p4), .val (.int p5), .val (.int (3 : Int32)), .val (.int rm), .val (.int f0), .val (.int f1), .val (.int f2), .val (.int l0), .val (.int l1), .val (.int l2), .val (.ref b), .val (.int (0 : Int32)), .unset] [(.int p4), (.int p3), (.int l1), (.int f1)])) rfl (by rw [hml]; rfl) (argsL := [(.int f1), (.int l1), (.int p3), (.int p4)]) (rest := []) (lenOf own_pd4 rfl) rfl (by show 2 * 0 + _ ≤ _; exact Nat.le_of_eq rfl) (hb hby at_187) (fun _ _ => ⟨rfl, eq220, (Nat.le_trans (Nat.add_le_add_right (Nat.add_le_add_right (Nat.add_le_add_right hcl188 0) 0) 0) (by decide)), (Nat.le_trans (Nat.add_le_add_right (Nat.add_le_add_right (Nat.add_le_add_right hsl188 0) 0) 0) (by decide))⟩)
              dsimp only [Pt.U, Pt.locs, Pt.cells, Pt.slots] at X221 l221 y221 z221 st221 hQ221
              subst l221 y221 z221
              obtain ⟨rfl, Nq221, eq221⟩ := hQ221
              refine OE.of (fun _ k => st221 _ k) ?_
              have N221 := Fr.app N220 Nq221
              show OE _ p e below s _ _ _ T221 (mkF m 190 #[.val (.int p1), .val (.int p2), .val (.int p3), .val (.int p4), .val (.int p5), .val (.int (3 : Int32)), .val (.int rm), .val (.int f0), .val (.int f1), .val (.int f2), .val (.int l0), .val (.int l1), .val (.int l2), .val (.ref b), .val (.int (0 : Int32)), .unset] [(.int (if f1 < p3 then (0 : Int32) else (if p4 < l1 then (0 : Int32) else (1 : Int32))))])
              rw [if_pos (show f1 < p3 from hl218)]
              show OE _ p e below s _ _ _ T221 (mkF m 190 #[.val (.int p1), .val (.int p2), .val (.int p3), .val (.int p4), .val (.int p5), .val (.int (3 : Int32)), .val (.int rm), .val (.int f0), .val (.int f1), .val (.int f2), .val (.int l0), .val (.int l1), .val (.int l2), .val (.ref b), .val (.int (0 : Int32)), .unset] [(.int (0 : Int32))])
              refine OE.ifNo X221 hx hby at_190 (teq (by decide : (0 : Int32) = (0 : Int32))).2 ?_
              refine OE.iload X221 hx hby at_193 rfl ?_
              refine OE.iconst X221 hx hby at_195 (3 : Int32) rfl ?_
              refine OE.icmpNo X221 hx hby at_196 (flt (by decide : ¬ ((3 : Int32) < (3 : Int32)))).1 ?_
              refine OE.iload X221 hx hby at_199 rfl ?_
              refine OE.iload X221 hx hby at_201 rfl ?_
              refine OE.iloadN X221 hx hby at_203 rfl ?_
              refine OE.iloadN X221 hx hby at_204 rfl ?_
              obtain ⟨_, _, ⟨T222, L222, k222, n222⟩, -, X222, ⟨Lc222, hQ222, l222, y222, z222⟩, st222⟩ := Jvm.LawKit.callS X221 hx (y := (⟨"com/example/corbel/corbel/PeaksBoundPinLaw", "covers", "(IIII)Z"⟩ : MethodName)) hown (mvT hZ (hw _ (List.mem_of_getElem? (i := 38) rfl))) (mvT hZ (hw _ (List.mem_of_getElem? (i := 39) rfl))) (mvT hZ (hw _ (List.mem_of_getElem? (i := 40) rfl))) (mvT hZ (hw _ (List.mem_of_getElem? (i := 41) rfl))) (by decide) (backOf (W := 0) (own_rm7 l Z a0 hw [] f2 l2 p3 p4 H188 n0 z188 ) hZ (hw _ (List.mem_of_getElem? (i := 41) rfl)) (hw _ (List.mem_of_getElem? (i := 40) rfl)) (by decide) (by decide)) (g := (mkF m 205 #[.val (.int p1), .val (.int p2), .val (.int p3), .val (.int p4), .val (.int p5), .val (.int (3 : Int32)), .val (.int rm), .val (.int f0), .val (.int f1), .val (.int f2), .val (.int l0), .val (.int l1), .val (.int l2), .val (.ref b), .val (.int (0 : Int32)), .unset] [(.int p4), (.int p3), (.int l2), (.int f2)])) rfl (by rw [hml]; rfl) (argsL := [(.int f2), (.int l2), (.int p3), (.int p4)]) (rest := []) (lenOf own_pd4 rfl) rfl (by show 2 * 0 + _ ≤ _; exact Nat.le_of_eq rfl) (hb hby at_205) (fun _ _ => ⟨rfl, eq221, (Nat.le_trans (Nat.add_le_add_right (Nat.add_le_add_right (Nat.add_le_add_right (Nat.add_le_add_right hcl188 0) 0) 0) 0) (by decide)), (Nat.le_trans (Nat.add_le_add_right (Nat.add_le_add_right (Nat.add_le_add_right (Nat.add_le_add_right hsl188 0) 0) 0) 0) (by decide))⟩)
              dsimp only [Pt.U, Pt.locs, Pt.cells, Pt.slots] at X222 l222 y222 z222 st222 hQ222
              subst l222 y222 z222
              obtain ⟨rfl, Nq222, eq222⟩ := hQ222
              refine OE.of (fun _ k => st222 _ k) ?_
              have N222 := Fr.app N221 Nq222
              show OE _ p e below s _ _ _ T222 (mkF m 208 #[.val (.int p1), .val (.int p2), .val (.int p3), .val (.int p4), .val (.int p5), .val (.int (3 : Int32)), .val (.int rm), .val (.int f0), .val (.int f1), .val (.int f2), .val (.int l0), .val (.int l1), .val (.int l2), .val (.ref b), .val (.int (0 : Int32)), .unset] [(.int (if f2 < p3 then (0 : Int32) else (if p4 < l2 then (0 : Int32) else (1 : Int32))))])
              rw [if_pos (show f2 < p3 from hl219)]
              show OE _ p e below s _ _ _ T222 (mkF m 208 #[.val (.int p1), .val (.int p2), .val (.int p3), .val (.int p4), .val (.int p5), .val (.int (3 : Int32)), .val (.int rm), .val (.int f0), .val (.int f1), .val (.int f2), .val (.int l0), .val (.int l1), .val (.int l2), .val (.ref b), .val (.int (0 : Int32)), .unset] [(.int (0 : Int32))])
              refine OE.ifYes X222 hx hby (pc' := 215) at_208 (teq (by decide : (0 : Int32) = (0 : Int32))).1 (h := ?_)
              refine OE.iconst X222 hx hby at_215 (0 : Int32) rfl ?_
              refine OE.istore X222 hx hby at_216 (l' := #[.val (.int p1), .val (.int p2), .val (.int p3), .val (.int p4), .val (.int p5), .val (.int (3 : Int32)), .val (.int rm), .val (.int f0), .val (.int f1), .val (.int f2), .val (.int l0), .val (.int l1), .val (.int l2), .val (.ref b), .val (.int (0 : Int32)), .val (.int (0 : Int32))]) rfl ?_
              refine OE.iload X222 hx hby at_218 rfl ?_
              refine OE.iload X222 hx hby at_220 rfl ?_
              refine OE.icmpNo X222 hx hby at_222 (teq (by decide : (0 : Int32) = (0 : Int32))).2 ?_
              refine OE.iconst X222 hx hby at_225 (1 : Int32) rfl ?_
              refine OE.goto X222 hx hby (pc' := 230) at_226 (h := ?_)
              refine OE.retN X222 hx (t := .boolean) Bd.returns (by simp) Bd.notSynchronized (hb hby at_230) (Nat.le_trans (Nat.add_le_add_right (Nat.add_le_add_right (Nat.add_le_add_right (Nat.add_le_add_right hcl188 0) 0) 0) 0) (by decide)) (Nat.le_trans (Nat.add_le_add_right (Nat.add_le_add_right (Nat.add_le_add_right (Nat.add_le_add_right hsl188 0) 0) 0) 0) (by decide)) ?_
              rw [eq222]
              exact ⟨rfl, N222⟩
            · skip
              rw [if_neg (show ¬ (f2 < p3) from hl219)]
              show OE _ p e below s _ _ _ T189 (mkF m 155 #[.val (.int p1), .val (.int p2), .val (.int p3), .val (.int p4), .val (.int p5), .val (.int (3 : Int32)), .val (.int rm), .val (.int f0), .val (.int f1), .val (.int f2), .val (.int l0), .val (.int l1), .val (.int l2), .val (.ref b), .unset, .unset] [(.int (if p4 < l2 then (0 : Int32) else (1 : Int32)))])
              by_cases hl223 : p4 < l2
              · skip
                rw [if_pos (show p4 < l2 from hl223)]
                show OE _ p e below s _ _ _ T189 (mkF m 155 #[.val (.int p1), .val (.int p2), .val (.int p3), .val (.int p4), .val (.int p5), .val (.int (3 : Int32)), .val (.int rm), .val (.int f0), .val (.int f1), .val (.int f2), .val (.int l0), .val (.int l1), .val (.int l2), .val (.ref b), .unset, .unset] [(.int (0 : Int32))])
                refine OE.istore X189 hx hby at_155 (l' := #[.val (.int p1), .val (.int p2), .val (.int p3), .val (.int p4), .val (.int p5), .val (.int (3 : Int32)), .val (.int rm), .val (.int f0), .val (.int f1), .val (.int f2), .val (.int l0), .val (.int l1), .val (.int l2), .val (.ref b), .val (.int (0 : Int32)), .unset]) rfl ?_
                refine OE.iload X189 hx hby at_157 rfl ?_
                refine OE.iconst X189 hx hby at_159 (1 : Int32) rfl ?_
                refine OE.icmpNo X189 hx hby at_160 (flt (by decide : ¬ ((3 : Int32) < (1 : Int32)))).1 ?_
                refine OE.iload X189 hx hby at_163 rfl ?_
                refine OE.iload X189 hx hby at_165 rfl ?_
                refine OE.iloadN X189 hx hby at_167 rfl ?_
                refine OE.iloadN X189 hx hby at_168 rfl ?_
                obtain ⟨_, _, ⟨T224, L224, k224, n224⟩, -, X224, ⟨Lc224, hQ224, l224, y224, z224⟩, st224⟩ := Jvm.LawKit.callS X189 hx (y := (⟨"com/example/corbel/corbel/PeaksBoundPinLaw", "covers", "(IIII)Z"⟩ : MethodName)) hown (mvT hZ (hw _ (List.mem_of_getElem? (i := 38) rfl))) (mvT hZ (hw _ (List.mem_of_getElem? (i := 39) rfl))) (mvT hZ (hw _ (List.mem_of_getElem? (i := 40) rfl))) (mvT hZ (hw _ (List.mem_of_getElem? (i := 41) rfl))) (by decide) (backOf (W := 0) (own_rm7 l Z a0 hw [] f0 l0 p3 p4 H188 n0 z188 ) hZ (hw _ (List.mem_of_getElem? (i := 41) rfl)) (hw _ (List.mem_of_getElem? (i := 40) rfl)) (by decide) (by decide)) (g := (mkF m 169 #[.val (.int p1), .val (.int p2), .val (.int p3), .val (.int p4), .val (.int p5), .val (.int (3 : Int32)), .val (.int rm), .val (.int f0), .val (.int f1), .val (.int f2), .val (.int l0), .val (.int l1), .val (.int l2), .val (.ref b), .val (.int (0 : Int32)), .unset] [(.int p4), (.int p3), (.int l0), (.int f0)])) rfl (by rw [hml]; rfl) (argsL := [(.int f0), (.int l0), (.int p3), (.int p4)]) (rest := []) (lenOf own_pd4 rfl) rfl (by show 2 * 0 + _ ≤ _; exact Nat.le_of_eq rfl) (hb hby at_169) (fun _ _ => ⟨rfl, eq189, (Nat.le_trans (Nat.add_le_add_right (Nat.add_le_add_right hcl188 0) 0) (by decide)), (Nat.le_trans (Nat.add_le_add_right (Nat.add_le_add_right hsl188 0) 0) (by decide))⟩)
                dsimp only [Pt.U, Pt.locs, Pt.cells, Pt.slots] at X224 l224 y224 z224 st224 hQ224
                subst l224 y224 z224
                obtain ⟨rfl, Nq224, eq224⟩ := hQ224
                refine OE.of (fun _ k => st224 _ k) ?_
                have N224 := Fr.app N189 Nq224
                show OE _ p e below s _ _ _ T224 (mkF m 172 #[.val (.int p1), .val (.int p2), .val (.int p3), .val (.int p4), .val (.int p5), .val (.int (3 : Int32)), .val (.int rm), .val (.int f0), .val (.int f1), .val (.int f2), .val (.int l0), .val (.int l1), .val (.int l2), .val (.ref b), .val (.int (0 : Int32)), .unset] [(.int (if f0 < p3 then (0 : Int32) else (if p4 < l0 then (0 : Int32) else (1 : Int32))))])
                rw [if_neg (show ¬ (f0 < p3) from hl190)]
                show OE _ p e below s _ _ _ T224 (mkF m 172 #[.val (.int p1), .val (.int p2), .val (.int p3), .val (.int p4), .val (.int p5), .val (.int (3 : Int32)), .val (.int rm), .val (.int f0), .val (.int f1), .val (.int f2), .val (.int l0), .val (.int l1), .val (.int l2), .val (.ref b), .val (.int (0 : Int32)), .unset] [(.int (if p4 < l0 then (0 : Int32) else (1 : Int32)))])
                rw [if_pos (show p4 < l0 from hl217)]
                show OE _ p e below s _ _ _ T224 (mkF m 172 #[.val (.int p1), .val (.int p2), .val (.int p3), .val (.int p4), .val (.int p5), .val (.int (3 : Int32)), .val (.int rm), .val (.int f0), .val (.int f1), .val (.int f2), .val (.int l0), .val (.int l1), .val (.int l2), .val (.ref b), .val (.int (0 : Int32)), .unset] [(.int (0 : Int32))])
                refine OE.ifNo X224 hx hby at_172 (teq (by decide : (0 : Int32) = (0 : Int32))).2 ?_
                refine OE.iload X224 hx hby at_175 rfl ?_
                refine OE.iconst X224 hx hby at_177 (2 : Int32) rfl ?_
                refine OE.icmpNo X224 hx hby at_178 (flt (by decide : ¬ ((3 : Int32) < (2 : Int32)))).1 ?_
                refine OE.iload X224 hx hby at_181 rfl ?_
                refine OE.iload X224 hx hby at_183 rfl ?_
                refine OE.iloadN X224 hx hby at_185 rfl ?_
                refine OE.iloadN X224 hx hby at_186 rfl ?_
                obtain ⟨_, _, ⟨T225, L225, k225, n225⟩, -, X225, ⟨Lc225, hQ225, l225, y225, z225⟩, st225⟩ := Jvm.LawKit.callS X224 hx (y := (⟨"com/example/corbel/corbel/PeaksBoundPinLaw", "covers", "(IIII)Z"⟩ : MethodName)) hown (mvT hZ (hw _ (List.mem_of_getElem? (i := 38) rfl))) (mvT hZ (hw _ (List.mem_of_getElem? (i := 39) rfl))) (mvT hZ (hw _ (List.mem_of_getElem? (i := 40) rfl))) (mvT hZ (hw _ (List.mem_of_getElem? (i := 41) rfl))) (by decide) (backOf (W := 0) (own_rm7 l Z a0 hw [] f1 l1 p3 p4 H188 n0 z188 ) hZ (hw _ (List.mem_of_getElem? (i := 41) rfl)) (hw _ (List.mem_of_getElem? (i := 40) rfl)) (by decide) (by decide)) (g := (mkF m 187 #[.val (.int p1), .val (.int p2), .val (.int p3), .val (.int p4), .val (.int p5), .val (.int (3 : Int32)), .val (.int rm), .val (.int f0), .val (.int f1), .val (.int f2), .val (.int l0), .val (.int l1), .val (.int l2), .val (.ref b), .val (.int (0 : Int32)), .unset] [(.int p4), (.int p3), (.int l1), (.int f1)])) rfl (by rw [hml]; rfl) (argsL := [(.int f1), (.int l1), (.int p3), (.int p4)]) (rest := []) (lenOf own_pd4 rfl) rfl (by show 2 * 0 + _ ≤ _; exact Nat.le_of_eq rfl) (hb hby at_187) (fun _ _ => ⟨rfl, eq224, (Nat.le_trans (Nat.add_le_add_right (Nat.add_le_add_right (Nat.add_le_add_right hcl188 0) 0) 0) (by decide)), (Nat.le_trans (Nat.add_le_add_right (Nat.add_le_add_right (Nat.add_le_add_right hsl188 0) 0) 0) (by decide))⟩)
                dsimp only [Pt.U, Pt.locs, Pt.cells, Pt.slots] at X225 l225 y225 z225 st225 hQ225
                subst l225 y225 z225
                obtain ⟨rfl, Nq225, eq225⟩ := hQ225
                refine OE.of (fun _ k => st225 _ k) ?_
                have N225 := Fr.app N224 Nq225
                show OE _ p e below s _ _ _ T225 (mkF m 190 #[.val (.int p1), .val (.int p2), .val (.int p3), .val (.int p4), .val (.int p5), .val (.int (3 : Int32)), .val (.int rm), .val (.int f0), .val (.int f1), .val (.int f2), .val (.int l0), .val (.int l1), .val (.int l2), .val (.ref b), .val (.int (0 : Int32)), .unset] [(.int (if f1 < p3 then (0 : Int32) else (if p4 < l1 then (0 : Int32) else (1 : Int32))))])
                rw [if_pos (show f1 < p3 from hl218)]
                show OE _ p e below s _ _ _ T225 (mkF m 190 #[.val (.int p1), .val (.int p2), .val (.int p3), .val (.int p4), .val (.int p5), .val (.int (3 : Int32)), .val (.int rm), .val (.int f0), .val (.int f1), .val (.int f2), .val (.int l0), .val (.int l1), .val (.int l2), .val (.ref b), .val (.int (0 : Int32)), .unset] [(.int (0 : Int32))])
                refine OE.ifNo X225 hx hby at_190 (teq (by decide : (0 : Int32) = (0 : Int32))).2 ?_
                refine OE.iload X225 hx hby at_193 rfl ?_
                refine OE.iconst X225 hx hby at_195 (3 : Int32) rfl ?_
                refine OE.icmpNo X225 hx hby at_196 (flt (by decide : ¬ ((3 : Int32) < (3 : Int32)))).1 ?_
                refine OE.iload X225 hx hby at_199 rfl ?_
                refine OE.iload X225 hx hby at_201 rfl ?_
                refine OE.iloadN X225 hx hby at_203 rfl ?_
                refine OE.iloadN X225 hx hby at_204 rfl ?_
                obtain ⟨_, _, ⟨T226, L226, k226, n226⟩, -, X226, ⟨Lc226, hQ226, l226, y226, z226⟩, st226⟩ := Jvm.LawKit.callS X225 hx (y := (⟨"com/example/corbel/corbel/PeaksBoundPinLaw", "covers", "(IIII)Z"⟩ : MethodName)) hown (mvT hZ (hw _ (List.mem_of_getElem? (i := 38) rfl))) (mvT hZ (hw _ (List.mem_of_getElem? (i := 39) rfl))) (mvT hZ (hw _ (List.mem_of_getElem? (i := 40) rfl))) (mvT hZ (hw _ (List.mem_of_getElem? (i := 41) rfl))) (by decide) (backOf (W := 0) (own_rm7 l Z a0 hw [] f2 l2 p3 p4 H188 n0 z188 ) hZ (hw _ (List.mem_of_getElem? (i := 41) rfl)) (hw _ (List.mem_of_getElem? (i := 40) rfl)) (by decide) (by decide)) (g := (mkF m 205 #[.val (.int p1), .val (.int p2), .val (.int p3), .val (.int p4), .val (.int p5), .val (.int (3 : Int32)), .val (.int rm), .val (.int f0), .val (.int f1), .val (.int f2), .val (.int l0), .val (.int l1), .val (.int l2), .val (.ref b), .val (.int (0 : Int32)), .unset] [(.int p4), (.int p3), (.int l2), (.int f2)])) rfl (by rw [hml]; rfl) (argsL := [(.int f2), (.int l2), (.int p3), (.int p4)]) (rest := []) (lenOf own_pd4 rfl) rfl (by show 2 * 0 + _ ≤ _; exact Nat.le_of_eq rfl) (hb hby at_205) (fun _ _ => ⟨rfl, eq225, (Nat.le_trans (Nat.add_le_add_right (Nat.add_le_add_right (Nat.add_le_add_right (Nat.add_le_add_right hcl188 0) 0) 0) 0) (by decide)), (Nat.le_trans (Nat.add_le_add_right (Nat.add_le_add_right (Nat.add_le_add_right (Nat.add_le_add_right hsl188 0) 0) 0) 0) (by decide))⟩)
                dsimp only [Pt.U, Pt.locs, Pt.cells, Pt.slots] at X226 l226 y226 z226 st226 hQ226
                subst l226 y226 z226
                obtain ⟨rfl, Nq226, eq226⟩ := hQ226
                refine OE.of (fun _ k => st226 _ k) ?_
                have N226 := Fr.app N225 Nq226
                show OE _ p e below s _ _ _ T226 (mkF m 208 #[.val (.int p1), .val (.int p2), .val (.int p3), .val (.int p4), .val (.int p5), .val (.int (3 : Int32)), .val (.int rm), .val (.int f0), .val (.int f1), .val (.int f2), .val (.int l0), .val (.int l1), .val (.int l2), .val (.ref b), .val (.int (0 : Int32)), .unset] [(.int (if f2 < p3 then (0 : Int32) else (if p4 < l2 then (0 : Int32) else (1 : Int32))))])
                rw [if_neg (show ¬ (f2 < p3) from hl219)]
                show OE _ p e below s _ _ _ T226 (mkF m 208 #[.val (.int p1), .val (.int p2), .val (.int p3), .val (.int p4), .val (.int p5), .val (.int (3 : Int32)), .val (.int rm), .val (.int f0), .val (.int f1), .val (.int f2), .val (.int l0), .val (.int l1), .val (.int l2), .val (.ref b), .val (.int (0 : Int32)), .unset] [(.int (if p4 < l2 then (0 : Int32) else (1 : Int32)))])
                rw [if_pos (show p4 < l2 from hl223)]
                show OE _ p e below s _ _ _ T226 (mkF m 208 #[.val (.int p1), .val (.int p2), .val (.int p3), .val (.int p4), .val (.int p5), .val (.int (3 : Int32)), .val (.int rm), .val (.int f0), .val (.int f1), .val (.int f2), .val (.int l0), .val (.int l1), .val (.int l2), .val (.ref b), .val (.int (0 : Int32)), .unset] [(.int (0 : Int32))])
                refine OE.ifYes X226 hx hby (pc' := 215) at_208 (teq (by decide : (0 : Int32) = (0 : Int32))).1 (h := ?_)
                refine OE.iconst X226 hx hby at_215 (0 : Int32) rfl ?_
                refine OE.istore X226 hx hby at_216 (l' := #[.val (.int p1), .val (.int p2), .val (.int p3), .val (.int p4), .val (.int p5), .val (.int (3 : Int32)), .val (.int rm), .val (.int f0), .val (.int f1), .val (.int f2), .val (.int l0), .val (.int l1), .val (.int l2), .val (.ref b), .val (.int (0 : Int32)), .val (.int (0 : Int32))]) rfl ?_
                refine OE.iload X226 hx hby at_218 rfl ?_
                refine OE.iload X226 hx hby at_220 rfl ?_
                refine OE.icmpNo X226 hx hby at_222 (teq (by decide : (0 : Int32) = (0 : Int32))).2 ?_
                refine OE.iconst X226 hx hby at_225 (1 : Int32) rfl ?_
                refine OE.goto X226 hx hby (pc' := 230) at_226 (h := ?_)
                refine OE.retN X226 hx (t := .boolean) Bd.returns (by simp) Bd.notSynchronized (hb hby at_230) (Nat.le_trans (Nat.add_le_add_right (Nat.add_le_add_right (Nat.add_le_add_right (Nat.add_le_add_right hcl188 0) 0) 0) 0) (by decide)) (Nat.le_trans (Nat.add_le_add_right (Nat.add_le_add_right (Nat.add_le_add_right (Nat.add_le_add_right hsl188 0) 0) 0) 0) (by decide)) ?_
                rw [eq226]
                exact ⟨rfl, N226⟩
              · skip
                rw [if_neg (show ¬ (p4 < l2) from hl223)]
                show OE _ p e below s _ _ _ T189 (mkF m 155 #[.val (.int p1), .val (.int p2), .val (.int p3), .val (.int p4), .val (.int p5), .val (.int (3 : Int32)), .val (.int rm), .val (.int f0), .val (.int f1), .val (.int f2), .val (.int l0), .val (.int l1), .val (.int l2), .val (.ref b), .unset, .unset] [(.int (1 : Int32))])
                refine OE.istore X189 hx hby at_155 (l' := #[.val (.int p1), .val (.int p2), .val (.int p3), .val (.int p4), .val (.int p5), .val (.int (3 : Int32)), .val (.int rm), .val (.int f0), .val (.int f1), .val (.int f2), .val (.int l0), .val (.int l1), .val (.int l2), .val (.ref b), .val (.int (1 : Int32)), .unset]) rfl ?_
                refine OE.iload X189 hx hby at_157 rfl ?_
                refine OE.iconst X189 hx hby at_159 (1 : Int32) rfl ?_
                refine OE.icmpNo X189 hx hby at_160 (flt (by decide : ¬ ((3 : Int32) < (1 : Int32)))).1 ?_
                refine OE.iload X189 hx hby at_163 rfl ?_
                refine OE.iload X189 hx hby at_165 rfl ?_
                refine OE.iloadN X189 hx hby at_167 rfl ?_
                refine OE.iloadN X189 hx hby at_168 rfl ?_
                obtain ⟨_, _, ⟨T227, L227, k227, n227⟩, -, X227, ⟨Lc227, hQ227, l227, y227, z227⟩, st227⟩ := Jvm.LawKit.callS X189 hx (y := (⟨"com/example/corbel/corbel/PeaksBoundPinLaw", "covers", "(IIII)Z"⟩ : MethodName)) hown (mvT hZ (hw _ (List.mem_of_getElem? (i := 38) rfl))) (mvT hZ (hw _ (List.mem_of_getElem? (i := 39) rfl))) (mvT hZ (hw _ (List.mem_of_getElem? (i := 40) rfl))) (mvT hZ (hw _ (List.mem_of_getElem? (i := 41) rfl))) (by decide) (backOf (W := 0) (own_rm7 l Z a0 hw [] f0 l0 p3 p4 H188 n0 z188 ) hZ (hw _ (List.mem_of_getElem? (i := 41) rfl)) (hw _ (List.mem_of_getElem? (i := 40) rfl)) (by decide) (by decide)) (g := (mkF m 169 #[.val (.int p1), .val (.int p2), .val (.int p3), .val (.int p4), .val (.int p5), .val (.int (3 : Int32)), .val (.int rm), .val (.int f0), .val (.int f1), .val (.int f2), .val (.int l0), .val (.int l1), .val (.int l2), .val (.ref b), .val (.int (1 : Int32)), .unset] [(.int p4), (.int p3), (.int l0), (.int f0)])) rfl (by rw [hml]; rfl) (argsL := [(.int f0), (.int l0), (.int p3), (.int p4)]) (rest := []) (lenOf own_pd4 rfl) rfl (by show 2 * 0 + _ ≤ _; exact Nat.le_of_eq rfl) (hb hby at_169) (fun _ _ => ⟨rfl, eq189, (Nat.le_trans (Nat.add_le_add_right (Nat.add_le_add_right hcl188 0) 0) (by decide)), (Nat.le_trans (Nat.add_le_add_right (Nat.add_le_add_right hsl188 0) 0) (by decide))⟩)
                dsimp only [Pt.U, Pt.locs, Pt.cells, Pt.slots] at X227 l227 y227 z227 st227 hQ227
                subst l227 y227 z227
                obtain ⟨rfl, Nq227, eq227⟩ := hQ227
                refine OE.of (fun _ k => st227 _ k) ?_
                have N227 := Fr.app N189 Nq227
                show OE _ p e below s _ _ _ T227 (mkF m 172 #[.val (.int p1), .val (.int p2), .val (.int p3), .val (.int p4), .val (.int p5), .val (.int (3 : Int32)), .val (.int rm), .val (.int f0), .val (.int f1), .val (.int f2), .val (.int l0), .val (.int l1), .val (.int l2), .val (.ref b), .val (.int (1 : Int32)), .unset] [(.int (if f0 < p3 then (0 : Int32) else (if p4 < l0 then (0 : Int32) else (1 : Int32))))])
                rw [if_neg (show ¬ (f0 < p3) from hl190)]
                show OE _ p e below s _ _ _ T227 (mkF m 172 #[.val (.int p1), .val (.int p2), .val (.int p3), .val (.int p4), .val (.int p5), .val (.int (3 : Int32)), .val (.int rm), .val (.int f0), .val (.int f1), .val (.int f2), .val (.int l0), .val (.int l1), .val (.int l2), .val (.ref b), .val (.int (1 : Int32)), .unset] [(.int (if p4 < l0 then (0 : Int32) else (1 : Int32)))])
                rw [if_pos (show p4 < l0 from hl217)]
                show OE _ p e below s _ _ _ T227 (mkF m 172 #[.val (.int p1), .val (.int p2), .val (.int p3), .val (.int p4), .val (.int p5), .val (.int (3 : Int32)), .val (.int rm), .val (.int f0), .val (.int f1), .val (.int f2), .val (.int l0), .val (.int l1), .val (.int l2), .val (.ref b), .val (.int (1 : Int32)), .unset] [(.int (0 : Int32))])
                refine OE.ifNo X227 hx hby at_172 (teq (by decide : (0 : Int32) = (0 : Int32))).2 ?_
                refine OE.iload X227 hx hby at_175 rfl ?_
                refine OE.iconst X227 hx hby at_177 (2 : Int32) rfl ?_
                refine OE.icmpNo X227 hx hby at_178 (flt (by decide : ¬ ((3 : Int32) < (2 : Int32)))).1 ?_
                refine OE.iload X227 hx hby at_181 rfl ?_
                refine OE.iload X227 hx hby at_183 rfl ?_
                refine OE.iloadN X227 hx hby at_185 rfl ?_
                refine OE.iloadN X227 hx hby at_186 rfl ?_
                obtain ⟨_, _, ⟨T228, L228, k228, n228⟩, -, X228, ⟨Lc228, hQ228, l228, y228, z228⟩, st228⟩ := Jvm.LawKit.callS X227 hx (y := (⟨"com/example/corbel/corbel/PeaksBoundPinLaw", "covers", "(IIII)Z"⟩ : MethodName)) hown (mvT hZ (hw _ (List.mem_of_getElem? (i := 38) rfl))) (mvT hZ (hw _ (List.mem_of_getElem? (i := 39) rfl))) (mvT hZ (hw _ (List.mem_of_getElem? (i := 40) rfl))) (mvT hZ (hw _ (List.mem_of_getElem? (i := 41) rfl))) (by decide) (backOf (W := 0) (own_rm7 l Z a0 hw [] f1 l1 p3 p4 H188 n0 z188 ) hZ (hw _ (List.mem_of_getElem? (i := 41) rfl)) (hw _ (List.mem_of_getElem? (i := 40) rfl)) (by decide) (by decide)) (g := (mkF m 187 #[.val (.int p1), .val (.int p2), .val (.int p3), .val (.int p4), .val (.int p5), .val (.int (3 : Int32)), .val (.int rm), .val (.int f0), .val (.int f1), .val (.int f2), .val (.int l0), .val (.int l1), .val (.int l2), .val (.ref b), .val (.int (1 : Int32)), .unset] [(.int p4), (.int p3), (.int l1), (.int f1)])) rfl (by rw [hml]; rfl) (argsL := [(.int f1), (.int l1), (.int p3), (.int p4)]) (rest := []) (lenOf own_pd4 rfl) rfl (by show 2 * 0 + _ ≤ _; exact Nat.le_of_eq rfl) (hb hby at_187) (fun _ _ => ⟨rfl, eq227, (Nat.le_trans (Nat.add_le_add_right (Nat.add_le_add_right (Nat.add_le_add_right hcl188 0) 0) 0) (by decide)), (Nat.le_trans (Nat.add_le_add_right (Nat.add_le_add_right (Nat.add_le_add_right hsl188 0) 0) 0) (by decide))⟩)
                dsimp only [Pt.U, Pt.locs, Pt.cells, Pt.slots] at X228 l228 y228 z228 st228 hQ228
                subst l228 y228 z228
                obtain ⟨rfl, Nq228, eq228⟩ := hQ228
                refine OE.of (fun _ k => st228 _ k) ?_
                have N228 := Fr.app N227 Nq228
                show OE _ p e below s _ _ _ T228 (mkF m 190 #[.val (.int p1), .val (.int p2), .val (.int p3), .val (.int p4), .val (.int p5), .val (.int (3 : Int32)), .val (.int rm), .val (.int f0), .val (.int f1), .val (.int f2), .val (.int l0), .val (.int l1), .val (.int l2), .val (.ref b), .val (.int (1 : Int32)), .unset] [(.int (if f1 < p3 then (0 : Int32) else (if p4 < l1 then (0 : Int32) else (1 : Int32))))])
                rw [if_pos (show f1 < p3 from hl218)]
                show OE _ p e below s _ _ _ T228 (mkF m 190 #[.val (.int p1), .val (.int p2), .val (.int p3), .val (.int p4), .val (.int p5), .val (.int (3 : Int32)), .val (.int rm), .val (.int f0), .val (.int f1), .val (.int f2), .val (.int l0), .val (.int l1), .val (.int l2), .val (.ref b), .val (.int (1 : Int32)), .unset] [(.int (0 : Int32))])
                refine OE.ifNo X228 hx hby at_190 (teq (by decide : (0 : Int32) = (0 : Int32))).2 ?_
                refine OE.iload X228 hx hby at_193 rfl ?_
                refine OE.iconst X228 hx hby at_195 (3 : Int32) rfl ?_
                refine OE.icmpNo X228 hx hby at_196 (flt (by decide : ¬ ((3 : Int32) < (3 : Int32)))).1 ?_
                refine OE.iload X228 hx hby at_199 rfl ?_
                refine OE.iload X228 hx hby at_201 rfl ?_
                refine OE.iloadN X228 hx hby at_203 rfl ?_
                refine OE.iloadN X228 hx hby at_204 rfl ?_
                obtain ⟨_, _, ⟨T229, L229, k229, n229⟩, -, X229, ⟨Lc229, hQ229, l229, y229, z229⟩, st229⟩ := Jvm.LawKit.callS X228 hx (y := (⟨"com/example/corbel/corbel/PeaksBoundPinLaw", "covers", "(IIII)Z"⟩ : MethodName)) hown (mvT hZ (hw _ (List.mem_of_getElem? (i := 38) rfl))) (mvT hZ (hw _ (List.mem_of_getElem? (i := 39) rfl))) (mvT hZ (hw _ (List.mem_of_getElem? (i := 40) rfl))) (mvT hZ (hw _ (List.mem_of_getElem? (i := 41) rfl))) (by decide) (backOf (W := 0) (own_rm7 l Z a0 hw [] f2 l2 p3 p4 H188 n0 z188 ) hZ (hw _ (List.mem_of_getElem? (i := 41) rfl)) (hw _ (List.mem_of_getElem? (i := 40) rfl)) (by decide) (by decide)) (g := (mkF m 205 #[.val (.int p1), .val (.int p2), .val (.int p3), .val (.int p4), .val (.int p5), .val (.int (3 : Int32)), .val (.int rm), .val (.int f0), .val (.int f1), .val (.int f2), .val (.int l0), .val (.int l1), .val (.int l2), .val (.ref b), .val (.int (1 : Int32)), .unset] [(.int p4), (.int p3), (.int l2), (.int f2)])) rfl (by rw [hml]; rfl) (argsL := [(.int f2), (.int l2), (.int p3), (.int p4)]) (rest := []) (lenOf own_pd4 rfl) rfl (by show 2 * 0 + _ ≤ _; exact Nat.le_of_eq rfl) (hb hby at_205) (fun _ _ => ⟨rfl, eq228, (Nat.le_trans (Nat.add_le_add_right (Nat.add_le_add_right (Nat.add_le_add_right (Nat.add_le_add_right hcl188 0) 0) 0) 0) (by decide)), (Nat.le_trans (Nat.add_le_add_right (Nat.add_le_add_right (Nat.add_le_add_right (Nat.add_le_add_right hsl188 0) 0) 0) 0) (by decide))⟩)
                dsimp only [Pt.U, Pt.locs, Pt.cells, Pt.slots] at X229 l229 y229 z229 st229 hQ229
                subst l229 y229 z229
                obtain ⟨rfl, Nq229, eq229⟩ := hQ229
                refine OE.of (fun _ k => st229 _ k) ?_
                have N229 := Fr.app N228 Nq229
                show OE _ p e below s _ _ _ T229 (mkF m 208 #[.val (.int p1), .val (.int p2), .val (.int p3), .val (.int p4), .val (.int p5), .val (.int (3 : Int32)), .val (.int rm), .val (.int f0), .val (.int f1), .val (.int f2), .val (.int l0), .val (.int l1), .val (.int l2), .val (.ref b), .val (.int (1 : Int32)), .unset] [(.int (if f2 < p3 then (0 : Int32) else (if p4 < l2 then (0 : Int32) else (1 : Int32))))])
                rw [if_neg (show ¬ (f2 < p3) from hl219)]
                show OE _ p e below s _ _ _ T229 (mkF m 208 #[.val (.int p1), .val (.int p2), .val (.int p3), .val (.int p4), .val (.int p5), .val (.int (3 : Int32)), .val (.int rm), .val (.int f0), .val (.int f1), .val (.int f2), .val (.int l0), .val (.int l1), .val (.int l2), .val (.ref b), .val (.int (1 : Int32)), .unset] [(.int (if p4 < l2 then (0 : Int32) else (1 : Int32)))])
                rw [if_neg (show ¬ (p4 < l2) from hl223)]
                show OE _ p e below s _ _ _ T229 (mkF m 208 #[.val (.int p1), .val (.int p2), .val (.int p3), .val (.int p4), .val (.int p5), .val (.int (3 : Int32)), .val (.int rm), .val (.int f0), .val (.int f1), .val (.int f2), .val (.int l0), .val (.int l1), .val (.int l2), .val (.ref b), .val (.int (1 : Int32)), .unset] [(.int (1 : Int32))])
                refine OE.ifNo X229 hx hby at_208 (feq (by decide : ¬ ((1 : Int32) = (0 : Int32)))).1 ?_
                refine OE.iconst X229 hx hby at_211 (1 : Int32) rfl ?_
                refine OE.goto X229 hx hby (pc' := 216) at_212 (h := ?_)
                refine OE.istore X229 hx hby at_216 (l' := #[.val (.int p1), .val (.int p2), .val (.int p3), .val (.int p4), .val (.int p5), .val (.int (3 : Int32)), .val (.int rm), .val (.int f0), .val (.int f1), .val (.int f2), .val (.int l0), .val (.int l1), .val (.int l2), .val (.ref b), .val (.int (1 : Int32)), .val (.int (1 : Int32))]) rfl ?_
                refine OE.iload X229 hx hby at_218 rfl ?_
                refine OE.iload X229 hx hby at_220 rfl ?_
                refine OE.icmpNo X229 hx hby at_222 (teq (by decide : (1 : Int32) = (1 : Int32))).2 ?_
                refine OE.iconst X229 hx hby at_225 (1 : Int32) rfl ?_
                refine OE.goto X229 hx hby (pc' := 230) at_226 (h := ?_)
                refine OE.retN X229 hx (t := .boolean) Bd.returns (by simp) Bd.notSynchronized (hb hby at_230) (Nat.le_trans (Nat.add_le_add_right (Nat.add_le_add_right (Nat.add_le_add_right (Nat.add_le_add_right hcl188 0) 0) 0) 0) (by decide)) (Nat.le_trans (Nat.add_le_add_right (Nat.add_le_add_right (Nat.add_le_add_right (Nat.add_le_add_right hsl188 0) 0) 0) 0) (by decide)) ?_
                rw [eq229]
                exact ⟨rfl, N229⟩
          · skip
            rw [if_neg (show ¬ (f1 < p3) from hl218)]
            show OE _ p e below s _ _ _ T189 (mkF m 155 #[.val (.int p1), .val (.int p2), .val (.int p3), .val (.int p4), .val (.int p5), .val (.int (3 : Int32)), .val (.int rm), .val (.int f0), .val (.int f1), .val (.int f2), .val (.int l0), .val (.int l1), .val (.int l2), .val (.ref b), .unset, .unset] [(.int (if p4 < l1 then (if f2 < p3 then (0 : Int32) else (if p4 < l2 then (0 : Int32) else (1 : Int32))) else (1 : Int32)))])
            by_cases hl230 : p4 < l1
            · skip
              rw [if_pos (show p4 < l1 from hl230)]
              show OE _ p e below s _ _ _ T189 (mkF m 155 #[.val (.int p1), .val (.int p2), .val (.int p3), .val (.int p4), .val (.int p5), .val (.int (3 : Int32)), .val (.int rm), .val (.int f0), .val (.int f1), .val (.int f2), .val (.int l0), .val (.int l1), .val (.int l2), .val (.ref b), .unset, .unset] [(.int (if f2 < p3 then (0 : Int32) else (if p4 < l2 then (0 : Int32) else (1 : Int32))))])
              by_cases hl231 : f2 < p3
              · skip
                rw [if_pos (show f2 < p3 from hl231)]
                show OE _ p e below s _ _ _ T189 (mkF m 155 #[.val (.int p1), .val (.int p2), .val (.int p3), .val (.int p4), .val (.int p5), .val (.int (3 : Int32)), .val (.int rm), .val (.int f0), .val (.int f1), .val (.int f2), .val (.int l0), .val (.int l1), .val (.int l2), .val (.ref b), .unset, .unset] [(.int (0 : Int32))])
                refine OE.istore X189 hx hby at_155 (l' := #[.val (.int p1), .val (.int p2), .val (.int p3), .val (.int p4), .val (.int p5), .val (.int (3 : Int32)), .val (.int rm), .val (.int f0), .val (.int f1), .val (.int f2), .val (.int l0), .val (.int l1), .val (.int l2), .val (.ref b), .val (.int (0 : Int32)), .unset]) rfl ?_
                refine OE.iload X189 hx hby at_157 rfl ?_
                refine OE.iconst X189 hx hby at_159 (1 : Int32) rfl ?_
                refine OE.icmpNo X189 hx hby at_160 (flt (by decide : ¬ ((3 : Int32) < (1 : Int32)))).1 ?_
                refine OE.iload X189 hx hby at_163 rfl ?_
                refine OE.iload X189 hx hby at_165 rfl ?_
                refine OE.iloadN X189 hx hby at_167 rfl ?_
                refine OE.iloadN X189 hx hby at_168 rfl ?_
                obtain ⟨_, _, ⟨T232, L232, k232, n232⟩, -, X232, ⟨Lc232, hQ232, l232, y232, z232⟩, st232⟩ := Jvm.LawKit.callS X189 hx (y := (⟨"com/example/corbel/corbel/PeaksBoundPinLaw", "covers", "(IIII)Z"⟩ : MethodName)) hown (mvT hZ (hw _ (List.mem_of_getElem? (i := 38) rfl))) (mvT hZ (hw _ (List.mem_of_getElem? (i := 39) rfl))) (mvT hZ (hw _ (List.mem_of_getElem? (i := 40) rfl))) (mvT hZ (hw _ (List.mem_of_getElem? (i := 41) rfl))) (by decide) (backOf (W := 0) (own_rm7 l Z a0 hw [] f0 l0 p3 p4 H188 n0 z188 ) hZ (hw _ (List.mem_of_getElem? (i := 41) rfl)) (hw _ (List.mem_of_getElem? (i := 40) rfl)) (by decide) (by decide)) (g := (mkF m 169 #[.val (.int p1), .val (.int p2), .val (.int p3), .val (.int p4), .val (.int p5), .val (.int (3 : Int32)), .val (.int rm), .val (.int f0), .val (.int f1), .val (.int f2), .val (.int l0), .val (.int l1), .val (.int l2), .val (.ref b), .val (.int (0 : Int32)), .unset] [(.int p4), (.int p3), (.int l0), (.int f0)])) rfl (by rw [hml]; rfl) (argsL := [(.int f0), (.int l0), (.int p3), (.int p4)]) (rest := []) (lenOf own_pd4 rfl) rfl (by show 2 * 0 + _ ≤ _; exact Nat.le_of_eq rfl) (hb hby at_169) (fun _ _ => ⟨rfl, eq189, (Nat.le_trans (Nat.add_le_add_right (Nat.add_le_add_right hcl188 0) 0) (by decide)), (Nat.le_trans (Nat.add_le_add_right (Nat.add_le_add_right hsl188 0) 0) (by decide))⟩)
                dsimp only [Pt.U, Pt.locs, Pt.cells, Pt.slots] at X232 l232 y232 z232 st232 hQ232
                subst l232 y232 z232
                obtain ⟨rfl, Nq232, eq232⟩ := hQ232
                refine OE.of (fun _ k => st232 _ k) ?_
                have N232 := Fr.app N189 Nq232
                show OE _ p e below s _ _ _ T232 (mkF m 172 #[.val (.int p1), .val (.int p2), .val (.int p3), .val (.int p4), .val (.int p5), .val (.int (3 : Int32)), .val (.int rm), .val (.int f0), .val (.int f1), .val (.int f2), .val (.int l0), .val (.int l1), .val (.int l2), .val (.ref b), .val (.int (0 : Int32)), .unset] [(.int (if f0 < p3 then (0 : Int32) else (if p4 < l0 then (0 : Int32) else (1 : Int32))))])
                rw [if_neg (show ¬ (f0 < p3) from hl190)]
                show OE _ p e below s _ _ _ T232 (mkF m 172 #[.val (.int p1), .val (.int p2), .val (.int p3), .val (.int p4), .val (.int p5), .val (.int (3 : Int32)), .val (.int rm), .val (.int f0), .val (.int f1), .val (.int f2), .val (.int l0), .val (.int l1), .val (.int l2), .val (.ref b), .val (.int (0 : Int32)), .unset] [(.int (if p4 < l0 then (0 : Int32) else (1 : Int32)))])
                rw [if_pos (show p4 < l0 from hl217)]
                show OE _ p e below s _ _ _ T232 (mkF m 172 #[.val (.int p1), .val (.int p2), .val (.int p3), .val (.int p4), .val (.int p5), .val (.int (3 : Int32)), .val (.int rm), .val (.int f0), .val (.int f1), .val (.int f2), .val (.int l0), .val (.int l1), .val (.int l2), .val (.ref b), .val (.int (0 : Int32)), .unset] [(.int (0 : Int32))])
                refine OE.ifNo X232 hx hby at_172 (teq (by decide : (0 : Int32) = (0 : Int32))).2 ?_
                refine OE.iload X232 hx hby at_175 rfl ?_
                refine OE.iconst X232 hx hby at_177 (2 : Int32) rfl ?_
                refine OE.icmpNo X232 hx hby at_178 (flt (by decide : ¬ ((3 : Int32) < (2 : Int32)))).1 ?_
                refine OE.iload X232 hx hby at_181 rfl ?_
                refine OE.iload X232 hx hby at_183 rfl ?_
                refine OE.iloadN X232 hx hby at_185 rfl ?_
                refine OE.iloadN X232 hx hby at_186 rfl ?_
                obtain ⟨_, _, ⟨T233, L233, k233, n233⟩, -, X233, ⟨Lc233, hQ233, l233, y233, z233⟩, st233⟩ := Jvm.LawKit.callS X232 hx (y := (⟨"com/example/corbel/corbel/PeaksBoundPinLaw", "covers", "(IIII)Z"⟩ : MethodName)) hown (mvT hZ (hw _ (List.mem_of_getElem? (i := 38) rfl))) (mvT hZ (hw _ (List.mem_of_getElem? (i := 39) rfl))) (mvT hZ (hw _ (List.mem_of_getElem? (i := 40) rfl))) (mvT hZ (hw _ (List.mem_of_getElem? (i := 41) rfl))) (by decide) (backOf (W := 0) (own_rm7 l Z a0 hw [] f1 l1 p3 p4 H188 n0 z188 ) hZ (hw _ (List.mem_of_getElem? (i := 41) rfl)) (hw _ (List.mem_of_getElem? (i := 40) rfl)) (by decide) (by decide)) (g := (mkF m 187 #[.val (.int p1), .val (.int p2), .val (.int p3), .val (.int p4), .val (.int p5), .val (.int (3 : Int32)), .val (.int rm), .val (.int f0), .val (.int f1), .val (.int f2), .val (.int l0), .val (.int l1), .val (.int l2), .val (.ref b), .val (.int (0 : Int32)), .unset] [(.int p4), (.int p3), (.int l1), (.int f1)])) rfl (by rw [hml]; rfl) (argsL := [(.int f1), (.int l1), (.int p3), (.int p4)]) (rest := []) (lenOf own_pd4 rfl) rfl (by show 2 * 0 + _ ≤ _; exact Nat.le_of_eq rfl) (hb hby at_187) (fun _ _ => ⟨rfl, eq232, (Nat.le_trans (Nat.add_le_add_right (Nat.add_le_add_right (Nat.add_le_add_right hcl188 0) 0) 0) (by decide)), (Nat.le_trans (Nat.add_le_add_right (Nat.add_le_add_right (Nat.add_le_add_right hsl188 0) 0) 0) (by decide))⟩)
                dsimp only [Pt.U, Pt.locs, Pt.cells, Pt.slots] at X233 l233 y233 z233 st233 hQ233
                subst l233 y233 z233
                obtain ⟨rfl, Nq233, eq233⟩ := hQ233
                refine OE.of (fun _ k => st233 _ k) ?_
                have N233 := Fr.app N232 Nq233
                show OE _ p e below s _ _ _ T233 (mkF m 190 #[.val (.int p1), .val (.int p2), .val (.int p3), .val (.int p4), .val (.int p5), .val (.int (3 : Int32)), .val (.int rm), .val (.int f0), .val (.int f1), .val (.int f2), .val (.int l0), .val (.int l1), .val (.int l2), .val (.ref b), .val (.int (0 : Int32)), .unset] [(.int (if f1 < p3 then (0 : Int32) else (if p4 < l1 then (0 : Int32) else (1 : Int32))))])
                rw [if_neg (show ¬ (f1 < p3) from hl218)]
                show OE _ p e below s _ _ _ T233 (mkF m 190 #[.val (.int p1), .val (.int p2), .val (.int p3), .val (.int p4), .val (.int p5), .val (.int (3 : Int32)), .val (.int rm), .val (.int f0), .val (.int f1), .val (.int f2), .val (.int l0), .val (.int l1), .val (.int l2), .val (.ref b), .val (.int (0 : Int32)), .unset] [(.int (if p4 < l1 then (0 : Int32) else (1 : Int32)))])
                rw [if_pos (show p4 < l1 from hl230)]
                show OE _ p e below s _ _ _ T233 (mkF m 190 #[.val (.int p1), .val (.int p2), .val (.int p3), .val (.int p4), .val (.int p5), .val (.int (3 : Int32)), .val (.int rm), .val (.int f0), .val (.int f1), .val (.int f2), .val (.int l0), .val (.int l1), .val (.int l2), .val (.ref b), .val (.int (0 : Int32)), .unset] [(.int (0 : Int32))])
                refine OE.ifNo X233 hx hby at_190 (teq (by decide : (0 : Int32) = (0 : Int32))).2 ?_
                refine OE.iload X233 hx hby at_193 rfl ?_
                refine OE.iconst X233 hx hby at_195 (3 : Int32) rfl ?_
                refine OE.icmpNo X233 hx hby at_196 (flt (by decide : ¬ ((3 : Int32) < (3 : Int32)))).1 ?_
                refine OE.iload X233 hx hby at_199 rfl ?_
                refine OE.iload X233 hx hby at_201 rfl ?_
                refine OE.iloadN X233 hx hby at_203 rfl ?_
                refine OE.iloadN X233 hx hby at_204 rfl ?_
                obtain ⟨_, _, ⟨T234, L234, k234, n234⟩, -, X234, ⟨Lc234, hQ234, l234, y234, z234⟩, st234⟩ := Jvm.LawKit.callS X233 hx (y := (⟨"com/example/corbel/corbel/PeaksBoundPinLaw", "covers", "(IIII)Z"⟩ : MethodName)) hown (mvT hZ (hw _ (List.mem_of_getElem? (i := 38) rfl))) (mvT hZ (hw _ (List.mem_of_getElem? (i := 39) rfl))) (mvT hZ (hw _ (List.mem_of_getElem? (i := 40) rfl))) (mvT hZ (hw _ (List.mem_of_getElem? (i := 41) rfl))) (by decide) (backOf (W := 0) (own_rm7 l Z a0 hw [] f2 l2 p3 p4 H188 n0 z188 ) hZ (hw _ (List.mem_of_getElem? (i := 41) rfl)) (hw _ (List.mem_of_getElem? (i := 40) rfl)) (by decide) (by decide)) (g := (mkF m 205 #[.val (.int p1), .val (.int p2), .val (.int p3), .val (.int p4), .val (.int p5), .val (.int (3 : Int32)), .val (.int rm), .val (.int f0), .val (.int f1), .val (.int f2), .val (.int l0), .val (.int l1), .val (.int l2), .val (.ref b), .val (.int (0 : Int32)), .unset] [(.int p4), (.int p3), (.int l2), (.int f2)])) rfl (by rw [hml]; rfl) (argsL := [(.int f2), (.int l2), (.int p3), (.int p4)]) (rest := []) (lenOf own_pd4 rfl) rfl (by show 2 * 0 + _ ≤ _; exact Nat.le_of_eq rfl) (hb hby at_205) (fun _ _ => ⟨rfl, eq233, (Nat.le_trans (Nat.add_le_add_right (Nat.add_le_add_right (Nat.add_le_add_right (Nat.add_le_add_right hcl188 0) 0) 0) 0) (by decide)), (Nat.le_trans (Nat.add_le_add_right (Nat.add_le_add_right (Nat.add_le_add_right (Nat.add_le_add_right hsl188 0) 0) 0) 0) (by decide))⟩)
                dsimp only [Pt.U, Pt.locs, Pt.cells, Pt.slots] at X234 l234 y234 z234 st234 hQ234
                subst l234 y234 z234
                obtain ⟨rfl, Nq234, eq234⟩ := hQ234
                refine OE.of (fun _ k => st234 _ k) ?_
                have N234 := Fr.app N233 Nq234
                show OE _ p e below s _ _ _ T234 (mkF m 208 #[.val (.int p1), .val (.int p2), .val (.int p3), .val (.int p4), .val (.int p5), .val (.int (3 : Int32)), .val (.int rm), .val (.int f0), .val (.int f1), .val (.int f2), .val (.int l0), .val (.int l1), .val (.int l2), .val (.ref b), .val (.int (0 : Int32)), .unset] [(.int (if f2 < p3 then (0 : Int32) else (if p4 < l2 then (0 : Int32) else (1 : Int32))))])
                rw [if_pos (show f2 < p3 from hl231)]
                show OE _ p e below s _ _ _ T234 (mkF m 208 #[.val (.int p1), .val (.int p2), .val (.int p3), .val (.int p4), .val (.int p5), .val (.int (3 : Int32)), .val (.int rm), .val (.int f0), .val (.int f1), .val (.int f2), .val (.int l0), .val (.int l1), .val (.int l2), .val (.ref b), .val (.int (0 : Int32)), .unset] [(.int (0 : Int32))])
                refine OE.ifYes X234 hx hby (pc' := 215) at_208 (teq (by decide : (0 : Int32) = (0 : Int32))).1 (h := ?_)
                refine OE.iconst X234 hx hby at_215 (0 : Int32) rfl ?_
                refine OE.istore X234 hx hby at_216 (l' := #[.val (.int p1), .val (.int p2), .val (.int p3), .val (.int p4), .val (.int p5), .val (.int (3 : Int32)), .val (.int rm), .val (.int f0), .val (.int f1), .val (.int f2), .val (.int l0), .val (.int l1), .val (.int l2), .val (.ref b), .val (.int (0 : Int32)), .val (.int (0 : Int32))]) rfl ?_
                refine OE.iload X234 hx hby at_218 rfl ?_
                refine OE.iload X234 hx hby at_220 rfl ?_
                refine OE.icmpNo X234 hx hby at_222 (teq (by decide : (0 : Int32) = (0 : Int32))).2 ?_
                refine OE.iconst X234 hx hby at_225 (1 : Int32) rfl ?_
                refine OE.goto X234 hx hby (pc' := 230) at_226 (h := ?_)
                refine OE.retN X234 hx (t := .boolean) Bd.returns (by simp) Bd.notSynchronized (hb hby at_230) (Nat.le_trans (Nat.add_le_add_right (Nat.add_le_add_right (Nat.add_le_add_right (Nat.add_le_add_right hcl188 0) 0) 0) 0) (by decide)) (Nat.le_trans (Nat.add_le_add_right (Nat.add_le_add_right (Nat.add_le_add_right (Nat.add_le_add_right hsl188 0) 0) 0) 0) (by decide)) ?_
                rw [eq234]
                exact ⟨rfl, N234⟩
              · skip
                rw [if_neg (show ¬ (f2 < p3) from hl231)]
                show OE _ p e below s _ _ _ T189 (mkF m 155 #[.val (.int p1), .val (.int p2), .val (.int p3), .val (.int p4), .val (.int p5), .val (.int (3 : Int32)), .val (.int rm), .val (.int f0), .val (.int f1), .val (.int f2), .val (.int l0), .val (.int l1), .val (.int l2), .val (.ref b), .unset, .unset] [(.int (if p4 < l2 then (0 : Int32) else (1 : Int32)))])
                by_cases hl235 : p4 < l2
                · skip
                  rw [if_pos (show p4 < l2 from hl235)]
                  show OE _ p e below s _ _ _ T189 (mkF m 155 #[.val (.int p1), .val (.int p2), .val (.int p3), .val (.int p4), .val (.int p5), .val (.int (3 : Int32)), .val (.int rm), .val (.int f0), .val (.int f1), .val (.int f2), .val (.int l0), .val (.int l1), .val (.int l2), .val (.ref b), .unset, .unset] [(.int (0 : Int32))])
                  refine OE.istore X189 hx hby at_155 (l' := #[.val (.int p1), .val (.int p2), .val (.int p3), .val (.int p4), .val (.int p5), .val (.int (3 : Int32)), .val (.int rm), .val (.int f0), .val (.int f1), .val (.int f2), .val (.int l0), .val (.int l1), .val (.int l2), .val (.ref b), .val (.int (0 : Int32)), .unset]) rfl ?_
                  refine OE.iload X189 hx hby at_157 rfl ?_
                  refine OE.iconst X189 hx hby at_159 (1 : Int32) rfl ?_
                  refine OE.icmpNo X189 hx hby at_160 (flt (by decide : ¬ ((3 : Int32) < (1 : Int32)))).1 ?_
                  refine OE.iload X189 hx hby at_163 rfl ?_
                  refine OE.iload X189 hx hby at_165 rfl ?_
                  refine OE.iloadN X189 hx hby at_167 rfl ?_
                  refine OE.iloadN X189 hx hby at_168 rfl ?_
                  obtain ⟨_, _, ⟨T236, L236, k236, n236⟩, -, X236, ⟨Lc236, hQ236, l236, y236, z236⟩, st236⟩ := Jvm.LawKit.callS X189 hx (y := (⟨"com/example/corbel/corbel/PeaksBoundPinLaw", "covers", "(IIII)Z"⟩ : MethodName)) hown (mvT hZ (hw _ (List.mem_of_getElem? (i := 38) rfl))) (mvT hZ (hw _ (List.mem_of_getElem? (i := 39) rfl))) (mvT hZ (hw _ (List.mem_of_getElem? (i := 40) rfl))) (mvT hZ (hw _ (List.mem_of_getElem? (i := 41) rfl))) (by decide) (backOf (W := 0) (own_rm7 l Z a0 hw [] f0 l0 p3 p4 H188 n0 z188 ) hZ (hw _ (List.mem_of_getElem? (i := 41) rfl)) (hw _ (List.mem_of_getElem? (i := 40) rfl)) (by decide) (by decide)) (g := (mkF m 169 #[.val (.int p1), .val (.int p2), .val (.int p3), .val (.int p4), .val (.int p5), .val (.int (3 : Int32)), .val (.int rm), .val (.int f0), .val (.int f1), .val (.int f2), .val (.int l0), .val (.int l1), .val (.int l2), .val (.ref b), .val (.int (0 : Int32)), .unset] [(.int p4), (.int p3), (.int l0), (.int f0)])) rfl (by rw [hml]; rfl) (argsL := [(.int f0), (.int l0), (.int p3), (.int p4)]) (rest := []) (lenOf own_pd4 rfl) rfl (by show 2 * 0 + _ ≤ _; exact Nat.le_of_eq rfl) (hb hby at_169) (fun _ _ => ⟨rfl, eq189, (Nat.le_trans (Nat.add_le_add_right (Nat.add_le_add_right hcl188 0) 0) (by decide)), (Nat.le_trans (Nat.add_le_add_right (Nat.add_le_add_right hsl188 0) 0) (by decide))⟩)
                  dsimp only [Pt.U, Pt.locs, Pt.cells, Pt.slots] at X236 l236 y236 z236 st236 hQ236
                  subst l236 y236 z236
                  obtain ⟨rfl, Nq236, eq236⟩ := hQ236
                  refine OE.of (fun _ k => st236 _ k) ?_
                  have N236 := Fr.app N189 Nq236
                  show OE _ p e below s _ _ _ T236 (mkF m 172 #[.val (.int p1), .val (.int p2), .val (.int p3), .val (.int p4), .val (.int p5), .val (.int (3 : Int32)), .val (.int rm), .val (.int f0), .val (.int f1), .val (.int f2), .val (.int l0), .val (.int l1), .val (.int l2), .val (.ref b), .val (.int (0 : Int32)), .unset] [(.int (if f0 < p3 then (0 : Int32) else (if p4 < l0 then (0 : Int32) else (1 : Int32))))])
                  rw [if_neg (show ¬ (f0 < p3) from hl190)]
                  show OE _ p e below s _ _ _ T236 (mkF m 172 #[.val (.int p1), .val (.int p2), .val (.int p3), .val (.int p4), .val (.int p5), .val (.int (3 : Int32)), .val (.int rm), .val (.int f0), .val (.int f1), .val (.int f2), .val (.int l0), .val (.int l1), .val (.int l2), .val (.ref b), .val (.int (0 : Int32)), .unset] [(.int (if p4 < l0 then (0 : Int32) else (1 : Int32)))])
                  rw [if_pos (show p4 < l0 from hl217)]
                  show OE _ p e below s _ _ _ T236 (mkF m 172 #[.val (.int p1), .val (.int p2), .val (.int p3), .val (.int p4), .val (.int p5), .val (.int (3 : Int32)), .val (.int rm), .val (.int f0), .val (.int f1), .val (.int f2), .val (.int l0), .val (.int l1), .val (.int l2), .val (.ref b), .val (.int (0 : Int32)), .unset] [(.int (0 : Int32))])
                  refine OE.ifNo X236 hx hby at_172 (teq (by decide : (0 : Int32) = (0 : Int32))).2 ?_
                  refine OE.iload X236 hx hby at_175 rfl ?_
                  refine OE.iconst X236 hx hby at_177 (2 : Int32) rfl ?_
                  refine OE.icmpNo X236 hx hby at_178 (flt (by decide : ¬ ((3 : Int32) < (2 : Int32)))).1 ?_
                  refine OE.iload X236 hx hby at_181 rfl ?_
                  refine OE.iload X236 hx hby at_183 rfl ?_
                  refine OE.iloadN X236 hx hby at_185 rfl ?_
                  refine OE.iloadN X236 hx hby at_186 rfl ?_
                  obtain ⟨_, _, ⟨T237, L237, k237, n237⟩, -, X237, ⟨Lc237, hQ237, l237, y237, z237⟩, st237⟩ := Jvm.LawKit.callS X236 hx (y := (⟨"com/example/corbel/corbel/PeaksBoundPinLaw", "covers", "(IIII)Z"⟩ : MethodName)) hown (mvT hZ (hw _ (List.mem_of_getElem? (i := 38) rfl))) (mvT hZ (hw _ (List.mem_of_getElem? (i := 39) rfl))) (mvT hZ (hw _ (List.mem_of_getElem? (i := 40) rfl))) (mvT hZ (hw _ (List.mem_of_getElem? (i := 41) rfl))) (by decide) (backOf (W := 0) (own_rm7 l Z a0 hw [] f1 l1 p3 p4 H188 n0 z188 ) hZ (hw _ (List.mem_of_getElem? (i := 41) rfl)) (hw _ (List.mem_of_getElem? (i := 40) rfl)) (by decide) (by decide)) (g := (mkF m 187 #[.val (.int p1), .val (.int p2), .val (.int p3), .val (.int p4), .val (.int p5), .val (.int (3 : Int32)), .val (.int rm), .val (.int f0), .val (.int f1), .val (.int f2), .val (.int l0), .val (.int l1), .val (.int l2), .val (.ref b), .val (.int (0 : Int32)), .unset] [(.int p4), (.int p3), (.int l1), (.int f1)])) rfl (by rw [hml]; rfl) (argsL := [(.int f1), (.int l1), (.int p3), (.int p4)]) (rest := []) (lenOf own_pd4 rfl) rfl (by show 2 * 0 + _ ≤ _; exact Nat.le_of_eq rfl) (hb hby at_187) (fun _ _ => ⟨rfl, eq236, (Nat.le_trans (Nat.add_le_add_right (Nat.add_le_add_right (Nat.add_le_add_right hcl188 0) 0) 0) (by decide)), (Nat.le_trans (Nat.add_le_add_right (Nat.add_le_add_right (Nat.add_le_add_right hsl188 0) 0) 0) (by decide))⟩)
                  dsimp only [Pt.U, Pt.locs, Pt.cells, Pt.slots] at X237 l237 y237 z237 st237 hQ237
                  subst l237 y237 z237
                  obtain ⟨rfl, Nq237, eq237⟩ := hQ237
                  refine OE.of (fun _ k => st237 _ k) ?_
                  have N237 := Fr.app N236 Nq237
                  show OE _ p e below s _ _ _ T237 (mkF m 190 #[.val (.int p1), .val (.int p2), .val (.int p3), .val (.int p4), .val (.int p5), .val (.int (3 : Int32)), .val (.int rm), .val (.int f0), .val (.int f1), .val (.int f2), .val (.int l0), .val (.int l1), .val (.int l2), .val (.ref b), .val (.int (0 : Int32)), .unset] [(.int (if f1 < p3 then (0 : Int32) else (if p4 < l1 then (0 : Int32) else (1 : Int32))))])
                  rw [if_neg (show ¬ (f1 < p3) from hl218)]
                  show OE _ p e below s _ _ _ T237 (mkF m 190 #[.val (.int p1), .val (.int p2), .val (.int p3), .val (.int p4), .val (.int p5), .val (.int (3 : Int32)), .val (.int rm), .val (.int f0), .val (.int f1), .val (.int f2), .val (.int l0), .val (.int l1), .val (.int l2), .val (.ref b), .val (.int (0 : Int32)), .unset] [(.int (if p4 < l1 then (0 : Int32) else (1 : Int32)))])
                  rw [if_pos (show p4 < l1 from hl230)]
                  show OE _ p e below s _ _ _ T237 (mkF m 190 #[.val (.int p1), .val (.int p2), .val (.int p3), .val (.int p4), .val (.int p5), .val (.int (3 : Int32)), .val (.int rm), .val (.int f0), .val (.int f1), .val (.int f2), .val (.int l0), .val (.int l1), .val (.int l2), .val (.ref b), .val (.int (0 : Int32)), .unset] [(.int (0 : Int32))])
                  refine OE.ifNo X237 hx hby at_190 (teq (by decide : (0 : Int32) = (0 : Int32))).2 ?_
                  refine OE.iload X237 hx hby at_193 rfl ?_
                  refine OE.iconst X237 hx hby at_195 (3 : Int32) rfl ?_
                  refine OE.icmpNo X237 hx hby at_196 (flt (by decide : ¬ ((3 : Int32) < (3 : Int32)))).1 ?_
                  refine OE.iload X237 hx hby at_199 rfl ?_
                  refine OE.iload X237 hx hby at_201 rfl ?_
                  refine OE.iloadN X237 hx hby at_203 rfl ?_
                  refine OE.iloadN X237 hx hby at_204 rfl ?_
                  obtain ⟨_, _, ⟨T238, L238, k238, n238⟩, -, X238, ⟨Lc238, hQ238, l238, y238, z238⟩, st238⟩ := Jvm.LawKit.callS X237 hx (y := (⟨"com/example/corbel/corbel/PeaksBoundPinLaw", "covers", "(IIII)Z"⟩ : MethodName)) hown (mvT hZ (hw _ (List.mem_of_getElem? (i := 38) rfl))) (mvT hZ (hw _ (List.mem_of_getElem? (i := 39) rfl))) (mvT hZ (hw _ (List.mem_of_getElem? (i := 40) rfl))) (mvT hZ (hw _ (List.mem_of_getElem? (i := 41) rfl))) (by decide) (backOf (W := 0) (own_rm7 l Z a0 hw [] f2 l2 p3 p4 H188 n0 z188 ) hZ (hw _ (List.mem_of_getElem? (i := 41) rfl)) (hw _ (List.mem_of_getElem? (i := 40) rfl)) (by decide) (by decide)) (g := (mkF m 205 #[.val (.int p1), .val (.int p2), .val (.int p3), .val (.int p4), .val (.int p5), .val (.int (3 : Int32)), .val (.int rm), .val (.int f0), .val (.int f1), .val (.int f2), .val (.int l0), .val (.int l1), .val (.int l2), .val (.ref b), .val (.int (0 : Int32)), .unset] [(.int p4), (.int p3), (.int l2), (.int f2)])) rfl (by rw [hml]; rfl) (argsL := [(.int f2), (.int l2), (.int p3), (.int p4)]) (rest := []) (lenOf own_pd4 rfl) rfl (by show 2 * 0 + _ ≤ _; exact Nat.le_of_eq rfl) (hb hby at_205) (fun _ _ => ⟨rfl, eq237, (Nat.le_trans (Nat.add_le_add_right (Nat.add_le_add_right (Nat.add_le_add_right (Nat.add_le_add_right hcl188 0) 0) 0) 0) (by decide)), (Nat.le_trans (Nat.add_le_add_right (Nat.add_le_add_right (Nat.add_le_add_right (Nat.add_le_add_right hsl188 0) 0) 0) 0) (by decide))⟩)
                  dsimp only [Pt.U, Pt.locs, Pt.cells, Pt.slots] at X238 l238 y238 z238 st238 hQ238
                  subst l238 y238 z238
                  obtain ⟨rfl, Nq238, eq238⟩ := hQ238
                  refine OE.of (fun _ k => st238 _ k) ?_
                  have N238 := Fr.app N237 Nq238
                  show OE _ p e below s _ _ _ T238 (mkF m 208 #[.val (.int p1), .val (.int p2), .val (.int p3), .val (.int p4), .val (.int p5), .val (.int (3 : Int32)), .val (.int rm), .val (.int f0), .val (.int f1), .val (.int f2), .val (.int l0), .val (.int l1), .val (.int l2), .val (.ref b), .val (.int (0 : Int32)), .unset] [(.int (if f2 < p3 then (0 : Int32) else (if p4 < l2 then (0 : Int32) else (1 : Int32))))])
                  rw [if_neg (show ¬ (f2 < p3) from hl231)]
                  show OE _ p e below s _ _ _ T238 (mkF m 208 #[.val (.int p1), .val (.int p2), .val (.int p3), .val (.int p4), .val (.int p5), .val (.int (3 : Int32)), .val (.int rm), .val (.int f0), .val (.int f1), .val (.int f2), .val (.int l0), .val (.int l1), .val (.int l2), .val (.ref b), .val (.int (0 : Int32)), .unset] [(.int (if p4 < l2 then (0 : Int32) else (1 : Int32)))])
                  rw [if_pos (show p4 < l2 from hl235)]
                  show OE _ p e below s _ _ _ T238 (mkF m 208 #[.val (.int p1), .val (.int p2), .val (.int p3), .val (.int p4), .val (.int p5), .val (.int (3 : Int32)), .val (.int rm), .val (.int f0), .val (.int f1), .val (.int f2), .val (.int l0), .val (.int l1), .val (.int l2), .val (.ref b), .val (.int (0 : Int32)), .unset] [(.int (0 : Int32))])
                  refine OE.ifYes X238 hx hby (pc' := 215) at_208 (teq (by decide : (0 : Int32) = (0 : Int32))).1 (h := ?_)
                  refine OE.iconst X238 hx hby at_215 (0 : Int32) rfl ?_
                  refine OE.istore X238 hx hby at_216 (l' := #[.val (.int p1), .val (.int p2), .val (.int p3), .val (.int p4), .val (.int p5), .val (.int (3 : Int32)), .val (.int rm), .val (.int f0), .val (.int f1), .val (.int f2), .val (.int l0), .val (.int l1), .val (.int l2), .val (.ref b), .val (.int (0 : Int32)), .val (.int (0 : Int32))]) rfl ?_
                  refine OE.iload X238 hx hby at_218 rfl ?_
                  refine OE.iload X238 hx hby at_220 rfl ?_
                  refine OE.icmpNo X238 hx hby at_222 (teq (by decide : (0 : Int32) = (0 : Int32))).2 ?_
                  refine OE.iconst X238 hx hby at_225 (1 : Int32) rfl ?_
                  refine OE.goto X238 hx hby (pc' := 230) at_226 (h := ?_)
                  refine OE.retN X238 hx (t := .boolean) Bd.returns (by simp) Bd.notSynchronized (hb hby at_230) (Nat.le_trans (Nat.add_le_add_right (Nat.add_le_add_right (Nat.add_le_add_right (Nat.add_le_add_right hcl188 0) 0) 0) 0) (by decide)) (Nat.le_trans (Nat.add_le_add_right (Nat.add_le_add_right (Nat.add_le_add_right (Nat.add_le_add_right hsl188 0) 0) 0) 0) (by decide)) ?_
                  rw [eq238]
                  exact ⟨rfl, N238⟩
                · skip
                  rw [if_neg (show ¬ (p4 < l2) from hl235)]
                  show OE _ p e below s _ _ _ T189 (mkF m 155 #[.val (.int p1), .val (.int p2), .val (.int p3), .val (.int p4), .val (.int p5), .val (.int (3 : Int32)), .val (.int rm), .val (.int f0), .val (.int f1), .val (.int f2), .val (.int l0), .val (.int l1), .val (.int l2), .val (.ref b), .unset, .unset] [(.int (1 : Int32))])
                  refine OE.istore X189 hx hby at_155 (l' := #[.val (.int p1), .val (.int p2), .val (.int p3), .val (.int p4), .val (.int p5), .val (.int (3 : Int32)), .val (.int rm), .val (.int f0), .val (.int f1), .val (.int f2), .val (.int l0), .val (.int l1), .val (.int l2), .val (.ref b), .val (.int (1 : Int32)), .unset]) rfl ?_
                  refine OE.iload X189 hx hby at_157 rfl ?_
                  refine OE.iconst X189 hx hby at_159 (1 : Int32) rfl ?_
                  refine OE.icmpNo X189 hx hby at_160 (flt (by decide : ¬ ((3 : Int32) < (1 : Int32)))).1 ?_
                  refine OE.iload X189 hx hby at_163 rfl ?_
                  refine OE.iload X189 hx hby at_165 rfl ?_
                  refine OE.iloadN X189 hx hby at_167 rfl ?_
                  refine OE.iloadN X189 hx hby at_168 rfl ?_
                  obtain ⟨_, _, ⟨T239, L239, k239, n239⟩, -, X239, ⟨Lc239, hQ239, l239, y239, z239⟩, st239⟩ := Jvm.LawKit.callS X189 hx (y := (⟨"com/example/corbel/corbel/PeaksBoundPinLaw", "covers", "(IIII)Z"⟩ : MethodName)) hown (mvT hZ (hw _ (List.mem_of_getElem? (i := 38) rfl))) (mvT hZ (hw _ (List.mem_of_getElem? (i := 39) rfl))) (mvT hZ (hw _ (List.mem_of_getElem? (i := 40) rfl))) (mvT hZ (hw _ (List.mem_of_getElem? (i := 41) rfl))) (by decide) (backOf (W := 0) (own_rm7 l Z a0 hw [] f0 l0 p3 p4 H188 n0 z188 ) hZ (hw _ (List.mem_of_getElem? (i := 41) rfl)) (hw _ (List.mem_of_getElem? (i := 40) rfl)) (by decide) (by decide)) (g := (mkF m 169 #[.val (.int p1), .val (.int p2), .val (.int p3), .val (.int p4), .val (.int p5), .val (.int (3 : Int32)), .val (.int rm), .val (.int f0), .val (.int f1), .val (.int f2), .val (.int l0), .val (.int l1), .val (.int l2), .val (.ref b), .val (.int (1 : Int32)), .unset] [(.int p4), (.int p3), (.int l0), (.int f0)])) rfl (by rw [hml]; rfl) (argsL := [(.int f0), (.int l0), (.int p3), (.int p4)]) (rest := []) (lenOf own_pd4 rfl) rfl (by show 2 * 0 + _ ≤ _; exact Nat.le_of_eq rfl) (hb hby at_169) (fun _ _ => ⟨rfl, eq189, (Nat.le_trans (Nat.add_le_add_right (Nat.add_le_add_right hcl188 0) 0) (by decide)), (Nat.le_trans (Nat.add_le_add_right (Nat.add_le_add_right hsl188 0) 0) (by decide))⟩)
                  dsimp only [Pt.U, Pt.locs, Pt.cells, Pt.slots] at X239 l239 y239 z239 st239 hQ239
                  subst l239 y239 z239
                  obtain ⟨rfl, Nq239, eq239⟩ := hQ239
                  refine OE.of (fun _ k => st239 _ k) ?_
                  have N239 := Fr.app N189 Nq239
                  show OE _ p e below s _ _ _ T239 (mkF m 172 #[.val (.int p1), .val (.int p2), .val (.int p3), .val (.int p4), .val (.int p5), .val (.int (3 : Int32)), .val (.int rm), .val (.int f0), .val (.int f1), .val (.int f2), .val (.int l0), .val (.int l1), .val (.int l2), .val (.ref b), .val (.int (1 : Int32)), .unset] [(.int (if f0 < p3 then (0 : Int32) else (if p4 < l0 then (0 : Int32) else (1 : Int32))))])
                  rw [if_neg (show ¬ (f0 < p3) from hl190)]
                  show OE _ p e below s _ _ _ T239 (mkF m 172 #[.val (.int p1), .val (.int p2), .val (.int p3), .val (.int p4), .val (.int p5), .val (.int (3 : Int32)), .val (.int rm), .val (.int f0), .val (.int f1), .val (.int f2), .val (.int l0), .val (.int l1), .val (.int l2), .val (.ref b), .val (.int (1 : Int32)), .unset] [(.int (if p4 < l0 then (0 : Int32) else (1 : Int32)))])
                  rw [if_pos (show p4 < l0 from hl217)]
                  show OE _ p e below s _ _ _ T239 (mkF m 172 #[.val (.int p1), .val (.int p2), .val (.int p3), .val (.int p4), .val (.int p5), .val (.int (3 : Int32)), .val (.int rm), .val (.int f0), .val (.int f1), .val (.int f2), .val (.int l0), .val (.int l1), .val (.int l2), .val (.ref b), .val (.int (1 : Int32)), .unset] [(.int (0 : Int32))])
                  refine OE.ifNo X239 hx hby at_172 (teq (by decide : (0 : Int32) = (0 : Int32))).2 ?_
                  refine OE.iload X239 hx hby at_175 rfl ?_
                  refine OE.iconst X239 hx hby at_177 (2 : Int32) rfl ?_
                  refine OE.icmpNo X239 hx hby at_178 (flt (by decide : ¬ ((3 : Int32) < (2 : Int32)))).1 ?_
                  refine OE.iload X239 hx hby at_181 rfl ?_
                  refine OE.iload X239 hx hby at_183 rfl ?_
                  refine OE.iloadN X239 hx hby at_185 rfl ?_
                  refine OE.iloadN X239 hx hby at_186 rfl ?_
                  obtain ⟨_, _, ⟨T240, L240, k240, n240⟩, -, X240, ⟨Lc240, hQ240, l240, y240, z240⟩, st240⟩ := Jvm.LawKit.callS X239 hx (y := (⟨"com/example/corbel/corbel/PeaksBoundPinLaw", "covers", "(IIII)Z"⟩ : MethodName)) hown (mvT hZ (hw _ (List.mem_of_getElem? (i := 38) rfl))) (mvT hZ (hw _ (List.mem_of_getElem? (i := 39) rfl))) (mvT hZ (hw _ (List.mem_of_getElem? (i := 40) rfl))) (mvT hZ (hw _ (List.mem_of_getElem? (i := 41) rfl))) (by decide) (backOf (W := 0) (own_rm7 l Z a0 hw [] f1 l1 p3 p4 H188 n0 z188 ) hZ (hw _ (List.mem_of_getElem? (i := 41) rfl)) (hw _ (List.mem_of_getElem? (i := 40) rfl)) (by decide) (by decide)) (g := (mkF m 187 #[.val (.int p1), .val (.int p2), .val (.int p3), .val (.int p4), .val (.int p5), .val (.int (3 : Int32)), .val (.int rm), .val (.int f0), .val (.int f1), .val (.int f2), .val (.int l0), .val (.int l1), .val (.int l2), .val (.ref b), .val (.int (1 : Int32)), .unset] [(.int p4), (.int p3), (.int l1), (.int f1)])) rfl (by rw [hml]; rfl) (argsL := [(.int f1), (.int l1), (.int p3), (.int p4)]) (rest := []) (lenOf own_pd4 rfl) rfl (by show 2 * 0 + _ ≤ _; exact Nat.le_of_eq rfl) (hb hby at_187) (fun _ _ => ⟨rfl, eq239, (Nat.le_trans (Nat.add_le_add_right (Nat.add_le_add_right (Nat.add_le_add_right hcl188 0) 0) 0) (by decide)), (Nat.le_trans (Nat.add_le_add_right (Nat.add_le_add_right (Nat.add_le_add_right hsl188 0) 0) 0) (by decide))⟩)
                  dsimp only [Pt.U, Pt.locs, Pt.cells, Pt.slots] at X240 l240 y240 z240 st240 hQ240
                  subst l240 y240 z240
                  obtain ⟨rfl, Nq240, eq240⟩ := hQ240
                  refine OE.of (fun _ k => st240 _ k) ?_
                  have N240 := Fr.app N239 Nq240
                  show OE _ p e below s _ _ _ T240 (mkF m 190 #[.val (.int p1), .val (.int p2), .val (.int p3), .val (.int p4), .val (.int p5), .val (.int (3 : Int32)), .val (.int rm), .val (.int f0), .val (.int f1), .val (.int f2), .val (.int l0), .val (.int l1), .val (.int l2), .val (.ref b), .val (.int (1 : Int32)), .unset] [(.int (if f1 < p3 then (0 : Int32) else (if p4 < l1 then (0 : Int32) else (1 : Int32))))])
                  rw [if_neg (show ¬ (f1 < p3) from hl218)]
                  show OE _ p e below s _ _ _ T240 (mkF m 190 #[.val (.int p1), .val (.int p2), .val (.int p3), .val (.int p4), .val (.int p5), .val (.int (3 : Int32)), .val (.int rm), .val (.int f0), .val (.int f1), .val (.int f2), .val (.int l0), .val (.int l1), .val (.int l2), .val (.ref b), .val (.int (1 : Int32)), .unset] [(.int (if p4 < l1 then (0 : Int32) else (1 : Int32)))])
                  rw [if_pos (show p4 < l1 from hl230)]
                  show OE _ p e below s _ _ _ T240 (mkF m 190 #[.val (.int p1), .val (.int p2), .val (.int p3), .val (.int p4), .val (.int p5), .val (.int (3 : Int32)), .val (.int rm), .val (.int f0), .val (.int f1), .val (.int f2), .val (.int l0), .val (.int l1), .val (.int l2), .val (.ref b), .val (.int (1 : Int32)), .unset] [(.int (0 : Int32))])
                  refine OE.ifNo X240 hx hby at_190 (teq (by decide : (0 : Int32) = (0 : Int32))).2 ?_
                  refine OE.iload X240 hx hby at_193 rfl ?_
                  refine OE.iconst X240 hx hby at_195 (3 : Int32) rfl ?_
                  refine OE.icmpNo X240 hx hby at_196 (flt (by decide : ¬ ((3 : Int32) < (3 : Int32)))).1 ?_
                  refine OE.iload X240 hx hby at_199 rfl ?_
                  refine OE.iload X240 hx hby at_201 rfl ?_
                  refine OE.iloadN X240 hx hby at_203 rfl ?_
                  refine OE.iloadN X240 hx hby at_204 rfl ?_
                  obtain ⟨_, _, ⟨T241, L241, k241, n241⟩, -, X241, ⟨Lc241, hQ241, l241, y241, z241⟩, st241⟩ := Jvm.LawKit.callS X240 hx (y := (⟨"com/example/corbel/corbel/PeaksBoundPinLaw", "covers", "(IIII)Z"⟩ : MethodName)) hown (mvT hZ (hw _ (List.mem_of_getElem? (i := 38) rfl))) (mvT hZ (hw _ (List.mem_of_getElem? (i := 39) rfl))) (mvT hZ (hw _ (List.mem_of_getElem? (i := 40) rfl))) (mvT hZ (hw _ (List.mem_of_getElem? (i := 41) rfl))) (by decide) (backOf (W := 0) (own_rm7 l Z a0 hw [] f2 l2 p3 p4 H188 n0 z188 ) hZ (hw _ (List.mem_of_getElem? (i := 41) rfl)) (hw _ (List.mem_of_getElem? (i := 40) rfl)) (by decide) (by decide)) (g := (mkF m 205 #[.val (.int p1), .val (.int p2), .val (.int p3), .val (.int p4), .val (.int p5), .val (.int (3 : Int32)), .val (.int rm), .val (.int f0), .val (.int f1), .val (.int f2), .val (.int l0), .val (.int l1), .val (.int l2), .val (.ref b), .val (.int (1 : Int32)), .unset] [(.int p4), (.int p3), (.int l2), (.int f2)])) rfl (by rw [hml]; rfl) (argsL := [(.int f2), (.int l2), (.int p3), (.int p4)]) (rest := []) (lenOf own_pd4 rfl) rfl (by show 2 * 0 + _ ≤ _; exact Nat.le_of_eq rfl) (hb hby at_205) (fun _ _ => ⟨rfl, eq240, (Nat.le_trans (Nat.add_le_add_right (Nat.add_le_add_right (Nat.add_le_add_right (Nat.add_le_add_right hcl188 0) 0) 0) 0) (by decide)), (Nat.le_trans (Nat.add_le_add_right (Nat.add_le_add_right (Nat.add_le_add_right (Nat.add_le_add_right hsl188 0) 0) 0) 0) (by decide))⟩)
                  dsimp only [Pt.U, Pt.locs, Pt.cells, Pt.slots] at X241 l241 y241 z241 st241 hQ241
                  subst l241 y241 z241
                  obtain ⟨rfl, Nq241, eq241⟩ := hQ241
                  refine OE.of (fun _ k => st241 _ k) ?_
                  have N241 := Fr.app N240 Nq241
                  show OE _ p e below s _ _ _ T241 (mkF m 208 #[.val (.int p1), .val (.int p2), .val (.int p3), .val (.int p4), .val (.int p5), .val (.int (3 : Int32)), .val (.int rm), .val (.int f0), .val (.int f1), .val (.int f2), .val (.int l0), .val (.int l1), .val (.int l2), .val (.ref b), .val (.int (1 : Int32)), .unset] [(.int (if f2 < p3 then (0 : Int32) else (if p4 < l2 then (0 : Int32) else (1 : Int32))))])
                  rw [if_neg (show ¬ (f2 < p3) from hl231)]
                  show OE _ p e below s _ _ _ T241 (mkF m 208 #[.val (.int p1), .val (.int p2), .val (.int p3), .val (.int p4), .val (.int p5), .val (.int (3 : Int32)), .val (.int rm), .val (.int f0), .val (.int f1), .val (.int f2), .val (.int l0), .val (.int l1), .val (.int l2), .val (.ref b), .val (.int (1 : Int32)), .unset] [(.int (if p4 < l2 then (0 : Int32) else (1 : Int32)))])
                  rw [if_neg (show ¬ (p4 < l2) from hl235)]
                  show OE _ p e below s _ _ _ T241 (mkF m 208 #[.val (.int p1), .val (.int p2), .val (.int p3), .val (.int p4), .val (.int p5), .val (.int (3 : Int32)), .val (.int rm), .val (.int f0), .val (.int f1), .val (.int f2), .val (.int l0), .val (.int l1), .val (.int l2), .val (.ref b), .val (.int (1 : Int32)), .unset] [(.int (1 : Int32))])
                  refine OE.ifNo X241 hx hby at_208 (feq (by decide : ¬ ((1 : Int32) = (0 : Int32)))).1 ?_
                  refine OE.iconst X241 hx hby at_211 (1 : Int32) rfl ?_
                  refine OE.goto X241 hx hby (pc' := 216) at_212 (h := ?_)
                  refine OE.istore X241 hx hby at_216 (l' := #[.val (.int p1), .val (.int p2), .val (.int p3), .val (.int p4), .val (.int p5), .val (.int (3 : Int32)), .val (.int rm), .val (.int f0), .val (.int f1), .val (.int f2), .val (.int l0), .val (.int l1), .val (.int l2), .val (.ref b), .val (.int (1 : Int32)), .val (.int (1 : Int32))]) rfl ?_
                  refine OE.iload X241 hx hby at_218 rfl ?_
                  refine OE.iload X241 hx hby at_220 rfl ?_
                  refine OE.icmpNo X241 hx hby at_222 (teq (by decide : (1 : Int32) = (1 : Int32))).2 ?_
                  refine OE.iconst X241 hx hby at_225 (1 : Int32) rfl ?_
                  refine OE.goto X241 hx hby (pc' := 230) at_226 (h := ?_)
                  refine OE.retN X241 hx (t := .boolean) Bd.returns (by simp) Bd.notSynchronized (hb hby at_230) (Nat.le_trans (Nat.add_le_add_right (Nat.add_le_add_right (Nat.add_le_add_right (Nat.add_le_add_right hcl188 0) 0) 0) 0) (by decide)) (Nat.le_trans (Nat.add_le_add_right (Nat.add_le_add_right (Nat.add_le_add_right (Nat.add_le_add_right hsl188 0) 0) 0) 0) (by decide)) ?_
                  rw [eq241]
                  exact ⟨rfl, N241⟩
            · skip
              rw [if_neg (show ¬ (p4 < l1) from hl230)]
              show OE _ p e below s _ _ _ T189 (mkF m 155 #[.val (.int p1), .val (.int p2), .val (.int p3), .val (.int p4), .val (.int p5), .val (.int (3 : Int32)), .val (.int rm), .val (.int f0), .val (.int f1), .val (.int f2), .val (.int l0), .val (.int l1), .val (.int l2), .val (.ref b), .unset, .unset] [(.int (1 : Int32))])
              refine OE.istore X189 hx hby at_155 (l' := #[.val (.int p1), .val (.int p2), .val (.int p3), .val (.int p4), .val (.int p5), .val (.int (3 : Int32)), .val (.int rm), .val (.int f0), .val (.int f1), .val (.int f2), .val (.int l0), .val (.int l1), .val (.int l2), .val (.ref b), .val (.int (1 : Int32)), .unset]) rfl ?_
              refine OE.iload X189 hx hby at_157 rfl ?_
              refine OE.iconst X189 hx hby at_159 (1 : Int32) rfl ?_
              refine OE.icmpNo X189 hx hby at_160 (flt (by decide : ¬ ((3 : Int32) < (1 : Int32)))).1 ?_
              refine OE.iload X189 hx hby at_163 rfl ?_
              refine OE.iload X189 hx hby at_165 rfl ?_
              refine OE.iloadN X189 hx hby at_167 rfl ?_
              refine OE.iloadN X189 hx hby at_168 rfl ?_
              obtain ⟨_, _, ⟨T242, L242, k242, n242⟩, -, X242, ⟨Lc242, hQ242, l242, y242, z242⟩, st242⟩ := Jvm.LawKit.callS X189 hx (y := (⟨"com/example/corbel/corbel/PeaksBoundPinLaw", "covers", "(IIII)Z"⟩ : MethodName)) hown (mvT hZ (hw _ (List.mem_of_getElem? (i := 38) rfl))) (mvT hZ (hw _ (List.mem_of_getElem? (i := 39) rfl))) (mvT hZ (hw _ (List.mem_of_getElem? (i := 40) rfl))) (mvT hZ (hw _ (List.mem_of_getElem? (i := 41) rfl))) (by decide) (backOf (W := 0) (own_rm7 l Z a0 hw [] f0 l0 p3 p4 H188 n0 z188 ) hZ (hw _ (List.mem_of_getElem? (i := 41) rfl)) (hw _ (List.mem_of_getElem? (i := 40) rfl)) (by decide) (by decide)) (g := (mkF m 169 #[.val (.int p1), .val (.int p2), .val (.int p3), .val (.int p4), .val (.int p5), .val (.int (3 : Int32)), .val (.int rm), .val (.int f0), .val (.int f1), .val (.int f2), .val (.int l0), .val (.int l1), .val (.int l2), .val (.ref b), .val (.int (1 : Int32)), .unset] [(.int p4), (.int p3), (.int l0), (.int f0)])) rfl (by rw [hml]; rfl) (argsL := [(.int f0), (.int l0), (.int p3), (.int p4)]) (rest := []) (lenOf own_pd4 rfl) rfl (by show 2 * 0 + _ ≤ _; exact Nat.le_of_eq rfl) (hb hby at_169) (fun _ _ => ⟨rfl, eq189, (Nat.le_trans (Nat.add_le_add_right (Nat.add_le_add_right hcl188 0) 0) (by decide)), (Nat.le_trans (Nat.add_le_add_right (Nat.add_le_add_right hsl188 0) 0) (by decide))⟩)
              dsimp only [Pt.U, Pt.locs, Pt.cells, Pt.slots] at X242 l242 y242 z242 st242 hQ242
              subst l242 y242 z242
              obtain ⟨rfl, Nq242, eq242⟩ := hQ242
              refine OE.of (fun _ k => st242 _ k) ?_
              have N242 := Fr.app N189 Nq242
              show OE _ p e below s _ _ _ T242 (mkF m 172 #[.val (.int p1), .val (.int p2), .val (.int p3), .val (.int p4), .val (.int p5), .val (.int (3 : Int32)), .val (.int rm), .val (.int f0), .val (.int f1), .val (.int f2), .val (.int l0), .val (.int l1), .val (.int l2), .val (.ref b), .val (.int (1 : Int32)), .unset] [(.int (if f0 < p3 then (0 : Int32) else (if p4 < l0 then (0 : Int32) else (1 : Int32))))])
              rw [if_neg (show ¬ (f0 < p3) from hl190)]
              show OE _ p e below s _ _ _ T242 (mkF m 172 #[.val (.int p1), .val (.int p2), .val (.int p3), .val (.int p4), .val (.int p5), .val (.int (3 : Int32)), .val (.int rm), .val (.int f0), .val (.int f1), .val (.int f2), .val (.int l0), .val (.int l1), .val (.int l2), .val (.ref b), .val (.int (1 : Int32)), .unset] [(.int (if p4 < l0 then (0 : Int32) else (1 : Int32)))])
              rw [if_pos (show p4 < l0 from hl217)]
              show OE _ p e below s _ _ _ T242 (mkF m 172 #[.val (.int p1), .val (.int p2), .val (.int p3), .val (.int p4), .val (.int p5), .val (.int (3 : Int32)), .val (.int rm), .val (.int f0), .val (.int f1), .val (.int f2), .val (.int l0), .val (.int l1), .val (.int l2), .val (.ref b), .val (.int (1 : Int32)), .unset] [(.int (0 : Int32))])
              refine OE.ifNo X242 hx hby at_172 (teq (by decide : (0 : Int32) = (0 : Int32))).2 ?_
              refine OE.iload X242 hx hby at_175 rfl ?_
              refine OE.iconst X242 hx hby at_177 (2 : Int32) rfl ?_
              refine OE.icmpNo X242 hx hby at_178 (flt (by decide : ¬ ((3 : Int32) < (2 : Int32)))).1 ?_
              refine OE.iload X242 hx hby at_181 rfl ?_
              refine OE.iload X242 hx hby at_183 rfl ?_
              refine OE.iloadN X242 hx hby at_185 rfl ?_
              refine OE.iloadN X242 hx hby at_186 rfl ?_
              obtain ⟨_, _, ⟨T243, L243, k243, n243⟩, -, X243, ⟨Lc243, hQ243, l243, y243, z243⟩, st243⟩ := Jvm.LawKit.callS X242 hx (y := (⟨"com/example/corbel/corbel/PeaksBoundPinLaw", "covers", "(IIII)Z"⟩ : MethodName)) hown (mvT hZ (hw _ (List.mem_of_getElem? (i := 38) rfl))) (mvT hZ (hw _ (List.mem_of_getElem? (i := 39) rfl))) (mvT hZ (hw _ (List.mem_of_getElem? (i := 40) rfl))) (mvT hZ (hw _ (List.mem_of_getElem? (i := 41) rfl))) (by decide) (backOf (W := 0) (own_rm7 l Z a0 hw [] f1 l1 p3 p4 H188 n0 z188 ) hZ (hw _ (List.mem_of_getElem? (i := 41) rfl)) (hw _ (List.mem_of_getElem? (i := 40) rfl)) (by decide) (by decide)) (g := (mkF m 187 #[.val (.int p1), .val (.int p2), .val (.int p3), .val (.int p4), .val (.int p5), .val (.int (3 : Int32)), .val (.int rm), .val (.int f0), .val (.int f1), .val (.int f2), .val (.int l0), .val (.int l1), .val (.int l2), .val (.ref b), .val (.int (1 : Int32)), .unset] [(.int p4), (.int p3), (.int l1), (.int f1)])) rfl (by rw [hml]; rfl) (argsL := [(.int f1), (.int l1), (.int p3), (.int p4)]) (rest := []) (lenOf own_pd4 rfl) rfl (by show 2 * 0 + _ ≤ _; exact Nat.le_of_eq rfl) (hb hby at_187) (fun _ _ => ⟨rfl, eq242, (Nat.le_trans (Nat.add_le_add_right (Nat.add_le_add_right (Nat.add_le_add_right hcl188 0) 0) 0) (by decide)), (Nat.le_trans (Nat.add_le_add_right (Nat.add_le_add_right (Nat.add_le_add_right hsl188 0) 0) 0) (by decide))⟩)
              dsimp only [Pt.U, Pt.locs, Pt.cells, Pt.slots] at X243 l243 y243 z243 st243 hQ243
              subst l243 y243 z243
              obtain ⟨rfl, Nq243, eq243⟩ := hQ243
              refine OE.of (fun _ k => st243 _ k) ?_
              have N243 := Fr.app N242 Nq243
              show OE _ p e below s _ _ _ T243 (mkF m 190 #[.val (.int p1), .val (.int p2), .val (.int p3), .val (.int p4), .val (.int p5), .val (.int (3 : Int32)), .val (.int rm), .val (.int f0), .val (.int f1), .val (.int f2), .val (.int l0), .val (.int l1), .val (.int l2), .val (.ref b), .val (.int (1 : Int32)), .unset] [(.int (if f1 < p3 then (0 : Int32) else (if p4 < l1 then (0 : Int32) else (1 : Int32))))])
              rw [if_neg (show ¬ (f1 < p3) from hl218)]
              show OE _ p e below s _ _ _ T243 (mkF m 190 #[.val (.int p1), .val (.int p2), .val (.int p3), .val (.int p4), .val (.int p5), .val (.int (3 : Int32)), .val (.int rm), .val (.int f0), .val (.int f1), .val (.int f2), .val (.int l0), .val (.int l1), .val (.int l2), .val (.ref b), .val (.int (1 : Int32)), .unset] [(.int (if p4 < l1 then (0 : Int32) else (1 : Int32)))])
              rw [if_neg (show ¬ (p4 < l1) from hl230)]
              show OE _ p e below s _ _ _ T243 (mkF m 190 #[.val (.int p1), .val (.int p2), .val (.int p3), .val (.int p4), .val (.int p5), .val (.int (3 : Int32)), .val (.int rm), .val (.int f0), .val (.int f1), .val (.int f2), .val (.int l0), .val (.int l1), .val (.int l2), .val (.ref b), .val (.int (1 : Int32)), .unset] [(.int (1 : Int32))])
              refine OE.ifYes X243 hx hby (pc' := 211) at_190 (feq (by decide : ¬ ((1 : Int32) = (0 : Int32)))).2 (h := ?_)
              refine OE.iconst X243 hx hby at_211 (1 : Int32) rfl ?_
              refine OE.goto X243 hx hby (pc' := 216) at_212 (h := ?_)
              refine OE.istore X243 hx hby at_216 (l' := #[.val (.int p1), .val (.int p2), .val (.int p3), .val (.int p4), .val (.int p5), .val (.int (3 : Int32)), .val (.int rm), .val (.int f0), .val (.int f1), .val (.int f2), .val (.int l0), .val (.int l1), .val (.int l2), .val (.ref b), .val (.int (1 : Int32)), .val (.int (1 : Int32))]) rfl ?_
              refine OE.iload X243 hx hby at_218 rfl ?_
              refine OE.iload X243 hx hby at_220 rfl ?_
              refine OE.icmpNo X243 hx hby at_222 (teq (by decide : (1 : Int32) = (1 : Int32))).2 ?_
              refine OE.iconst X243 hx hby at_225 (1 : Int32) rfl ?_
              refine OE.goto X243 hx hby (pc' := 230) at_226 (h := ?_)
              refine OE.retN X243 hx (t := .boolean) Bd.returns (by simp) Bd.notSynchronized (hb hby at_230) (Nat.le_trans (Nat.add_le_add_right (Nat.add_le_add_right (Nat.add_le_add_right hcl188 0) 0) 0) (by decide)) (Nat.le_trans (Nat.add_le_add_right (Nat.add_le_add_right (Nat.add_le_add_right hsl188 0) 0) 0) (by decide)) ?_
              rw [eq243]
              exact ⟨rfl, N243⟩
        · skip
          rw [if_neg (show ¬ (p4 < l0) from hl217)]
          show OE _ p e below s _ _ _ T189 (mkF m 155 #[.val (.int p1), .val (.int p2), .val (.int p3), .val (.int p4), .val (.int p5), .val (.int (3 : Int32)), .val (.int rm), .val (.int f0), .val (.int f1), .val (.int f2), .val (.int l0), .val (.int l1), .val (.int l2), .val (.ref b), .unset, .unset] [(.int (1 : Int32))])
          refine OE.istore X189 hx hby at_155 (l' := #[.val (.int p1), .val (.int p2), .val (.int p3), .val (.int p4), .val (.int p5), .val (.int (3 : Int32)), .val (.int rm), .val (.int f0), .val (.int f1), .val (.int f2), .val (.int l0), .val (.int l1), .val (.int l2), .val (.ref b), .val (.int (1 : Int32)), .unset]) rfl ?_
          refine OE.iload X189 hx hby at_157 rfl ?_
          refine OE.iconst X189 hx hby at_159 (1 : Int32) rfl ?_
          refine OE.icmpNo X189 hx hby at_160 (flt (by decide : ¬ ((3 : Int32) < (1 : Int32)))).1 ?_
          refine OE.iload X189 hx hby at_163 rfl ?_
          refine OE.iload X189 hx hby at_165 rfl ?_
          refine OE.iloadN X189 hx hby at_167 rfl ?_
          refine OE.iloadN X189 hx hby at_168 rfl ?_
          obtain ⟨_, _, ⟨T244, L244, k244, n244⟩, -, X244, ⟨Lc244, hQ244, l244, y244, z244⟩, st244⟩ := Jvm.LawKit.callS X189 hx (y := (⟨"com/example/corbel/corbel/PeaksBoundPinLaw", "covers", "(IIII)Z"⟩ : MethodName)) hown (mvT hZ (hw _ (List.mem_of_getElem? (i := 38) rfl))) (mvT hZ (hw _ (List.mem_of_getElem? (i := 39) rfl))) (mvT hZ (hw _ (List.mem_of_getElem? (i := 40) rfl))) (mvT hZ (hw _ (List.mem_of_getElem? (i := 41) rfl))) (by decide) (backOf (W := 0) (own_rm7 l Z a0 hw [] f0 l0 p3 p4 H188 n0 z188 ) hZ (hw _ (List.mem_of_getElem? (i := 41) rfl)) (hw _ (List.mem_of_getElem? (i := 40) rfl)) (by decide) (by decide)) (g := (mkF m 169 #[.val (.int p1), .val (.int p2), .val (.int p3), .val (.int p4), .val (.int p5), .val (.int (3 : Int32)), .val (.int rm), .val (.int f0), .val (.int f1), .val (.int f2), .val (.int l0), .val (.int l1), .val (.int l2), .val (.ref b), .val (.int (1 : Int32)), .unset] [(.int p4), (.int p3), (.int l0), (.int f0)])) rfl (by rw [hml]; rfl) (argsL := [(.int f0), (.int l0), (.int p3), (.int p4)]) (rest := []) (lenOf own_pd4 rfl) rfl (by show 2 * 0 + _ ≤ _; exact Nat.le_of_eq rfl) (hb hby at_169) (fun _ _ => ⟨rfl, eq189, (Nat.le_trans (Nat.add_le_add_right (Nat.add_le_add_right hcl188 0) 0) (by decide)), (Nat.le_trans (Nat.add_le_add_right (Nat.add_le_add_right hsl188 0) 0) (by decide))⟩)
          dsimp only [Pt.U, Pt.locs, Pt.cells, Pt.slots] at X244 l244 y244 z244 st244 hQ244
          subst l244 y244 z244
          obtain ⟨rfl, Nq244, eq244⟩ := hQ244
          refine OE.of (fun _ k => st244 _ k) ?_
          have N244 := Fr.app N189 Nq244
          show OE _ p e below s _ _ _ T244 (mkF m 172 #[.val (.int p1), .val (.int p2), .val (.int p3), .val (.int p4), .val (.int p5), .val (.int (3 : Int32)), .val (.int rm), .val (.int f0), .val (.int f1), .val (.int f2), .val (.int l0), .val (.int l1), .val (.int l2), .val (.ref b), .val (.int (1 : Int32)), .unset] [(.int (if f0 < p3 then (0 : Int32) else (if p4 < l0 then (0 : Int32) else (1 : Int32))))])
          rw [if_neg (show ¬ (f0 < p3) from hl190)]
          show OE _ p e below s _ _ _ T244 (mkF m 172 #[.val (.int p1), .val (.int p2), .val (.int p3), .val (.int p4), .val (.int p5), .val (.int (3 : Int32)), .val (.int rm), .val (.int f0), .val (.int f1), .val (.int f2), .val (.int l0), .val (.int l1), .val (.int l2), .val (.ref b), .val (.int (1 : Int32)), .unset] [(.int (if p4 < l0 then (0 : Int32) else (1 : Int32)))])
          rw [if_neg (show ¬ (p4 < l0) from hl217)]
          show OE _ p e below s _ _ _ T244 (mkF m 172 #[.val (.int p1), .val (.int p2), .val (.int p3), .val (.int p4), .val (.int p5), .val (.int (3 : Int32)), .val (.int rm), .val (.int f0), .val (.int f1), .val (.int f2), .val (.int l0), .val (.int l1), .val (.int l2), .val (.ref b), .val (.int (1 : Int32)), .unset] [(.int (1 : Int32))])
          refine OE.ifYes X244 hx hby (pc' := 211) at_172 (feq (by decide : ¬ ((1 : Int32) = (0 : Int32)))).2 (h := ?_)
          refine OE.iconst X244 hx hby at_211 (1 : Int32) rfl ?_
          refine OE.goto X244 hx hby (pc' := 216) at_212 (h := ?_)
          refine OE.istore X244 hx hby at_216 (l' := #[.val (.int p1), .val (.int p2), .val (.int p3), .val (.int p4), .val (.int p5), .val (.int (3 : Int32)), .val (.int rm), .val (.int f0), .val (.int f1), .val (.int f2), .val (.int l0), .val (.int l1), .val (.int l2), .val (.ref b), .val (.int (1 : Int32)), .val (.int (1 : Int32))]) rfl ?_
          refine OE.iload X244 hx hby at_218 rfl ?_
          refine OE.iload X244 hx hby at_220 rfl ?_
          refine OE.icmpNo X244 hx hby at_222 (teq (by decide : (1 : Int32) = (1 : Int32))).2 ?_
          refine OE.iconst X244 hx hby at_225 (1 : Int32) rfl ?_
          refine OE.goto X244 hx hby (pc' := 230) at_226 (h := ?_)
          refine OE.retN X244 hx (t := .boolean) Bd.returns (by simp) Bd.notSynchronized (hb hby at_230) (Nat.le_trans (Nat.add_le_add_right (Nat.add_le_add_right hcl188 0) 0) (by decide)) (Nat.le_trans (Nat.add_le_add_right (Nat.add_le_add_right hsl188 0) 0) (by decide)) ?_
          rw [eq244]
          exact ⟨rfl, N244⟩
    rcases own_and3 ((p5.toUInt32 >>> ((2 : Int32) &&& 31).toUInt32).toInt32) with hr | hr | hr | hr
    · rw [hr, (by decide : ((0 : Int32) + (1 : Int32)) = (1 : Int32))]
      show OE _ p e below s _ _ _ s₁ (mkF m 92 #[.val (.int p1), .val (.int p2), .val (.int p3), .val (.int p4), .val (.int p5), .val (.int (3 : Int32)), .val (.int (1 : Int32)), .val (.int f0), .val (.int f1), .val (.int f2), .val (.int l0), .val (.int l1), .val (.int l2), .unset, .unset, .unset] [])
      obtain ⟨T245, h245, X245, e245, E245, A245, D245, -, st245⟩ := newO X0 hx hZ hown (hw _ (List.mem_of_getElem? (i := 0) rfl)) (hw _ (List.mem_of_getElem? (i := 1) rfl)) (hw _ (List.mem_of_getElem? (i := 2) rfl)) e0 (g := (mkF m 92 #[.val (.int p1), .val (.int p2), .val (.int p3), .val (.int p4), .val (.int p5), .val (.int (3 : Int32)), .val (.int (1 : Int32)), .val (.int f0), .val (.int f1), .val (.int f2), .val (.int l0), .val (.int l1), .val (.int l2), .unset, .unset, .unset] [])) rfl (hb hby at_92) (by decide) (by decide)
      refine OE.of st245 ?_
      obtain ⟨b245, g245⟩ : ∃ z, z = h0.size := ⟨_, rfl⟩
      rw [← g245] at A245 D245 ⊢
      have g_b245 : n0 ≤ b245 := Nat.le_trans Z0 (Nat.le_of_eq g245.symm)
      have sz_b245 : h0.size ≤ b245 := Nat.le_trans (Keep.refl h0 []).1 (Nat.le_of_eq g245.symm)
      have F245_frequencies : Fld Z h245 b245 "com/example/corbel/corbel/Peaks" "frequencies" "[I" .null := D245 (Or.inl (hw _ (List.mem_of_getElem? (i := 11) rfl))) (ty := (.array .int)) (by decide)
      have F245_lengths : Fld Z h245 b245 "com/example/corbel/corbel/Peaks" "lengths" "[I" .null := D245 (Or.inl (hw _ (List.mem_of_getElem? (i := 13) rfl))) (ty := (.array .int)) (by decide)
      have F245_count : Fld Z h245 b245 "com/example/corbel/corbel/Peaks" "count" "I" (.int (0 : Int32)) := D245 (Or.inl (hw _ (List.mem_of_getElem? (i := 20) rfl))) (ty := .int) (by decide)
      show OE _ p e below s _ _ _ T245 (mkF m 95 #[.val (.int p1), .val (.int p2), .val (.int p3), .val (.int p4), .val (.int p5), .val (.int (3 : Int32)), .val (.int (1 : Int32)), .val (.int f0), .val (.int f1), .val (.int f2), .val (.int l0), .val (.int l1), .val (.int l2), .unset, .unset, .unset] [(.ref b245)])
      refine OE.dup X245 hx hby at_95 rfl ?_
      refine OE.iload X245 hx hby at_96 rfl ?_
      have z246 : n0 ≤ h245.size := (Nat.le_trans Z0 E245.1)
      obtain ⟨_, _, ⟨T247, L247, k247, n247⟩, -, X247, ⟨Lc247, hQ247, l247, y247, z247⟩, st247⟩ := X245.specialBack hx (y := (⟨"com/example/corbel/corbel/Peaks", "<init>", "(I)V"⟩ : MethodName)) rfl hown (mvT hZ (hw _ (List.mem_of_getElem? (i := 3) rfl))) (mvT hZ (hw _ (List.mem_of_getElem? (i := 4) rfl))) (mvT hZ (hw _ (List.mem_of_getElem? (i := 5) rfl))) (by decide) (backOf (W := 1) (own_rm1 l Z a0 hw [] b245 (1 : Int32) h245 n0 z246 A245 F245_frequencies F245_lengths F245_count g_b245 (by decide) (by decide)) hZ (hw _ (List.mem_of_getElem? (i := 5) rfl)) (hw _ (List.mem_of_getElem? (i := 2) rfl)) (by decide) (by decide)) (g := (mkF m 98 #[.val (.int p1), .val (.int p2), .val (.int p3), .val (.int p4), .val (.int p5), .val (.int (3 : Int32)), .val (.int (1 : Int32)), .val (.int f0), .val (.int f1), .val (.int f2), .val (.int l0), .val (.int l1), .val (.int l2), .unset, .unset, .unset] [(.int (1 : Int32)), (.ref b245), (.ref b245)])) rfl (by rw [hml]; rfl) (Steps.refl _) (a := b245) (argsL := [(.int (1 : Int32))]) (rest := [(.ref b245)]) (lenOf own_pd3 rfl) rfl (by show 2 * 0 + _ ≤ _; exact Nat.le_of_eq rfl) (hb hby at_98) (fun _ _ => ⟨rfl, e245, (by decide : 1 + 2 ≤ _), (by decide : 3 + 8 ≤ _)⟩)
      dsimp only [Pt.U, Pt.locs, Pt.cells, Pt.slots] at X247 l247 y247 z247 st247 hQ247
      subst l247 y247 z247
      obtain ⟨r247_f, r247_g, r247_kf, r247_kg, rfl, Nq247, K247, q247_0, q247_1, q247_2, q247_3, q247_4, q247_5, h247_sf, h247_sg, h247_nfg⟩ := hQ247
      refine OE.of (fun _ k => st247.trans k) ?_
      have N247 := Fr.app N0 Nq247
      have ne_b245_r247_f : b245 ≠ r247_f := Nat.ne_of_lt (Nat.lt_of_lt_of_le A245.lt h247_sf)
      have g_r247_f : n0 ≤ r247_f := Nat.le_trans z246 h247_sf
      have K248 : Keep h0 h245 [] := (Keep.ext (Keep.refl h0 []) E245)
      have sz_r247_f : h0.size ≤ r247_f := Nat.le_trans K248.1 h247_sf
      have ne_b245_r247_g : b245 ≠ r247_g := Nat.ne_of_lt (Nat.lt_of_lt_of_le A245.lt h247_sg)
      have g_r247_g : n0 ≤ r247_g := Nat.le_trans z246 h247_sg
      have sz_r247_g : h0.size ≤ r247_g := Nat.le_trans K248.1 h247_sg
      show OE _ p e below s _ _ _ T247 (mkF m 101 #[.val (.int p1), .val (.int p2), .val (.int p3), .val (.int p4), .val (.int p5), .val (.int (3 : Int32)), .val (.int (1 : Int32)), .val (.int f0), .val (.int f1), .val (.int f2), .val (.int l0), .val (.int l1), .val (.int l2), .unset, .unset, .unset] [(.ref b245)])
      have R249 : Arv Z T247.heap r247_f r247_kf .int (1 : Int32) [(.int (0 : Int32)), (.int (0 : Int32)), (.int (0 : Int32)), (.int (0 : Int32))] (.int (0 : Int32)) := q247_4
      have R250 : Arv Z T247.heap r247_g r247_kg .int (1 : Int32) [(.int (0 : Int32)), (.int (0 : Int32)), (.int (0 : Int32)), (.int (0 : Int32))] (.int (0 : Int32)) := q247_5
      refine OE.astore X247 hx hby at_101 rfl (l' := #[.val (.int p1), .val (.int p2), .val (.int p3), .val (.int p4), .val (.int p5), .val (.int (3 : Int32)), .val (.int (1 : Int32)), .val (.int f0), .val (.int f1), .val (.int f2), .val (.int l0), .val (.int l1), .val (.int l2), .val (.ref b245), .unset, .unset]) rfl ?_
      refine OE.iload X247 hx hby at_103 rfl ?_
      refine OE.iconst X247 hx hby at_105 (1 : Int32) rfl ?_
      refine OE.icmpNo X247 hx hby at_106 (flt (by decide : ¬ ((3 : Int32) < (1 : Int32)))).1 ?_
      refine OE.aload X247 hx hby at_109 rfl rfl ?_
      refine OE.iload X247 hx hby at_111 rfl ?_
      refine OE.iload X247 hx hby at_113 rfl ?_
      have z251 : n0 ≤ T247.heap.size := (Nat.le_trans z246 K247.1)
      obtain ⟨cq252, kq252, qa252, qb252, qc252⟩ := isOf hZ rfl q247_0
      obtain ⟨_, _, ⟨T252, L252, k252, n252⟩, -, X252, ⟨Lc252, hQ252, l252, y252, z252⟩, st252⟩ := X247.virtualBack hx (y := (⟨"com/example/corbel/corbel/Peaks", "append", "(II)V"⟩ : MethodName)) (z := (⟨"com/example/corbel/corbel/Peaks", "append", "(II)V"⟩ : MethodName)) hown (mvT hZ (hw _ (List.mem_of_getElem? (i := 21) rfl))) (mvT hZ (hw _ (List.mem_of_getElem? (i := 22) rfl))) (notFace_of_selects (args := #[]) (mvT hZ (hw _ (List.mem_of_getElem? (i := 24) rfl)))) (mvT hZ (hw _ (List.mem_of_getElem? (i := 24) rfl))) (mvT hZ (hw _ (List.mem_of_getElem? (i := 23) rfl))) (by decide) (backOf (W := 0) (own_rm4_A l Z a0 hw [] b245 f0 l0 r247_f r247_g (0 : Int32) (1 : Int32) r247_kf [(.int (0 : Int32)), (.int (0 : Int32)), (.int (0 : Int32)), (.int (0 : Int32))] r247_kg [(.int (0 : Int32)), (.int (0 : Int32)), (.int (0 : Int32)), (.int (0 : Int32))] T247.heap n0 z251 q247_0 q247_3 q247_1 q247_2 R249 R250 g_b245 g_r247_f g_r247_g (Ne.symm ne_b245_r247_f) (Ne.symm ne_b245_r247_g) h247_nfg (by decide) (by decide) (Nat.le_of_ble_eq_true rfl) (Nat.le_of_ble_eq_true rfl)) hZ (hw _ (List.mem_of_getElem? (i := 25) rfl)) (hw _ (List.mem_of_getElem? (i := 2) rfl)) (by decide) (by decide)) qa252 qc252 (g := (mkF m 115 #[.val (.int p1), .val (.int p2), .val (.int p3), .val (.int p4), .val (.int p5), .val (.int (3 : Int32)), .val (.int (1 : Int32)), .val (.int f0), .val (.int f1), .val (.int f2), .val (.int l0), .val (.int l1), .val (.int l2), .val (.ref b245), .unset, .unset] [(.int l0), (.int f0), (.ref b245)])) rfl (by rw [hml]; rfl) (Steps.refl _) (argsL := [(.int f0), (.int l0)]) (rest := []) (lenOf own_pd5 rfl) rfl (by show 2 * 0 + _ ≤ _; exact Nat.le_of_eq rfl) (hb hby at_115) (fun _ _ => ⟨rfl, rfl, (by decide : 3 + 0 ≤ _), (by decide : 11 + 0 ≤ _)⟩)
      dsimp only [Pt.U, Pt.locs, Pt.cells, Pt.slots] at X252 l252 y252 z252 st252 hQ252
      subst l252 y252 z252
      obtain ⟨rfl, Nq252, K252, q252_0, q252_1, q252_2, q252_3, q252_4, q252_5⟩ := hQ252
      refine OE.of (fun _ k => st252.trans k) ?_
      have N252 := Fr.app N247 Nq252
      show OE _ p e below s _ _ _ T252 (mkF m 118 #[.val (.int p1), .val (.int p2), .val (.int p3), .val (.int p4), .val (.int p5), .val (.int (3 : Int32)), .val (.int (1 : Int32)), .val (.int f0), .val (.int f1), .val (.int f2), .val (.int l0), .val (.int l1), .val (.int l2), .val (.ref b245), .unset, .unset] [])
      have R253 : Fld Z T252.heap b245 "com/example/corbel/corbel/Peaks" "count" "I" (.int (1 : Int32)) := q252_1
      have R254 : Arv Z T252.heap r247_f r247_kf .int (1 : Int32) [(.int f0), (.int (0 : Int32)), (.int (0 : Int32)), (.int (0 : Int32))] (.int (0 : Int32)) := q252_4
      have R255 : Arv Z T252.heap r247_g r247_kg .int (1 : Int32) [(.int l0), (.int (0 : Int32)), (.int (0 : Int32)), (.int (0 : Int32))] (.int (0 : Int32)) := q252_5
      refine OE.iload X252 hx hby at_118 rfl ?_
      refine OE.iconst X252 hx hby at_120 (2 : Int32) rfl ?_
      refine OE.icmpNo X252 hx hby at_121 (flt (by decide : ¬ ((3 : Int32) < (2 : Int32)))).1 ?_
      refine OE.aload X252 hx hby at_124 rfl rfl ?_
      refine OE.iload X252 hx hby at_126 rfl ?_
      refine OE.iload X252 hx hby at_128 rfl ?_
      have z256 : n0 ≤ T252.heap.size := (Nat.le_trans z251 K252.1)
      obtain ⟨cq257, kq257, qa257, qb257, qc257⟩ := isOf hZ rfl q252_0
      obtain ⟨_, _, ⟨T257, L257, k257, n257⟩, -, X257, ⟨Lc257, hQ257, l257, y257, z257⟩, st257⟩ := X252.virtualBack hx (y := (⟨"com/example/corbel/corbel/Peaks", "append", "(II)V"⟩ : MethodName)) (z := (⟨"com/example/corbel/corbel/Peaks", "append", "(II)V"⟩ : MethodName)) hown (mvT hZ (hw _ (List.mem_of_getElem? (i := 21) rfl))) (mvT hZ (hw _ (List.mem_of_getElem? (i := 22) rfl))) (notFace_of_selects (args := #[]) (mvT hZ (hw _ (List.mem_of_getElem? (i := 24) rfl)))) (mvT hZ (hw _ (List.mem_of_getElem? (i := 24) rfl))) (mvT hZ (hw _ (List.mem_of_getElem? (i := 23) rfl))) (by decide) (backOf (W := 0) (own_rm4_B1 l Z a0 hw [] b245 f1 l1 f0 l0 [(.int (0 : Int32)), (.int (0 : Int32)), (.int (0 : Int32))] [(.int (0 : Int32)), (.int (0 : Int32)), (.int (0 : Int32))] r247_f r247_g r247_kf r247_kg T252.heap n0 z256 q252_0 R253 q252_2 q252_3 R254 R255 g_b245 (Ne.symm ne_b245_r247_f) (Ne.symm ne_b245_r247_g)) hZ (hw _ (List.mem_of_getElem? (i := 25) rfl)) (hw _ (List.mem_of_getElem? (i := 2) rfl)) (by decide) (by decide)) qa257 qc257 (g := (mkF m 130 #[.val (.int p1), .val (.int p2), .val (.int p3), .val (.int p4), .val (.int p5), .val (.int (3 : Int32)), .val (.int (1 : Int32)), .val (.int f0), .val (.int f1), .val (.int f2), .val (.int l0), .val (.int l1), .val (.int l2), .val (.ref b245), .unset, .unset] [(.int l1), (.int f1), (.ref b245)])) rfl (by rw [hml]; rfl) (Steps.refl _) (argsL := [(.int f1), (.int l1)]) (rest := []) (lenOf own_pd5 rfl) rfl (by show 2 * 0 + _ ≤ _; exact Nat.le_of_eq rfl) (hb hby at_130) (fun _ _ => ⟨rfl, rfl, (by decide : 3 + 2 ≤ _), (by decide : 11 + 4 ≤ _)⟩)
      dsimp only [Pt.U, Pt.locs, Pt.cells, Pt.slots] at X257 l257 y257 z257 st257 hQ257
      subst l257 y257 z257
      obtain ⟨r257_f2, r257_g2, r257_kf2, r257_kg2, rfl, Nq257, K257, q257_0, q257_1, q257_2, q257_3, q257_4, q257_5, h257_sf, h257_sg, h257_nfg⟩ := hQ257
      refine OE.of (fun _ k => st257.trans k) ?_
      have N257 := Fr.app N252 Nq257
      have ne_b245_r257_f2 : b245 ≠ r257_f2 := Nat.ne_of_lt (Nat.lt_of_lt_of_le q252_0.lt h257_sf)
      have ne_r247_f_r257_f2 : r247_f ≠ r257_f2 := Nat.ne_of_lt (Nat.lt_of_lt_of_le R254.lt h257_sf)
      have ne_r247_g_r257_f2 : r247_g ≠ r257_f2 := Nat.ne_of_lt (Nat.lt_of_lt_of_le R255.lt h257_sf)
      have g_r257_f2 : n0 ≤ r257_f2 := Nat.le_trans z256 h257_sf
      have K258 : Keep h0 T252.heap [] := (Keep.trans (Keep.trans K248 K247 (allS (Or.inr sz_b245) all0)) K252 (allS (Or.inr sz_b245) (allS (Or.inr sz_r247_f) (allS (Or.inr sz_r247_g) all0))))
      have sz_r257_f2 : h0.size ≤ r257_f2 := Nat.le_trans K258.1 h257_sf
      have ne_b245_r257_g2 : b245 ≠ r257_g2 := Nat.ne_of_lt (Nat.lt_of_lt_of_le q252_0.lt h257_sg)
      have ne_r247_f_r257_g2 : r247_f ≠ r257_g2 := Nat.ne_of_lt (Nat.lt_of_lt_of_le R254.lt h257_sg)
      have ne_r247_g_r257_g2 : r247_g ≠ r257_g2 := Nat.ne_of_lt (Nat.lt_of_lt_of_le R255.lt h257_sg)
      have g_r257_g2 : n0 ≤ r257_g2 := Nat.le_trans z256 h257_sg
      have sz_r257_g2 : h0.size ≤ r257_g2 := Nat.le_trans K258.1 h257_sg
      show OE _ p e below s _ _ _ T257 (mkF m 133 #[.val (.int p1), .val (.int p2), .val (.int p3), .val (.int p4), .val (.int p5), .val (.int (3 : Int32)), .val (.int (1 : Int32)), .val (.int f0), .val (.int f1), .val (.int f2), .val (.int l0), .val (.int l1), .val (.int l2), .val (.ref b245), .unset, .unset] [])
      have R259 : Fld Z T257.heap b245 "com/example/corbel/corbel/Peaks" "count" "I" (.int (2 : Int32)) := q257_1
      have R260 : Arv Z T257.heap r257_f2 r257_kf2 .int (2 : Int32) [(.int f0), (.int f1)] (.int (0 : Int32)) := q257_4
      have R261 : Arv Z T257.heap r257_g2 r257_kg2 .int (2 : Int32) [(.int l0), (.int l1)] (.int (0 : Int32)) := q257_5
      refine OE.iload X257 hx hby at_133 rfl ?_
      refine OE.iconst X257 hx hby at_135 (3 : Int32) rfl ?_
      refine OE.icmpNo X257 hx hby at_136 (flt (by decide : ¬ ((3 : Int32) < (3 : Int32)))).1 ?_
      refine OE.aload X257 hx hby at_139 rfl rfl ?_
      refine OE.iload X257 hx hby at_141 rfl ?_
      refine OE.iload X257 hx hby at_143 rfl ?_
      have z262 : n0 ≤ T257.heap.size := (Nat.le_trans z256 K257.1)
      obtain ⟨cq263, kq263, qa263, qb263, qc263⟩ := isOf hZ rfl q257_0
      obtain ⟨_, _, ⟨T263, L263, k263, n263⟩, -, X263, ⟨Lc263, hQ263, l263, y263, z263⟩, st263⟩ := X257.virtualBack hx (y := (⟨"com/example/corbel/corbel/Peaks", "append", "(II)V"⟩ : MethodName)) (z := (⟨"com/example/corbel/corbel/Peaks", "append", "(II)V"⟩ : MethodName)) hown (mvT hZ (hw _ (List.mem_of_getElem? (i := 21) rfl))) (mvT hZ (hw _ (List.mem_of_getElem? (i := 22) rfl))) (notFace_of_selects (args := #[]) (mvT hZ (hw _ (List.mem_of_getElem? (i := 24) rfl)))) (mvT hZ (hw _ (List.mem_of_getElem? (i := 24) rfl))) (mvT hZ (hw _ (List.mem_of_getElem? (i := 23) rfl))) (by decide) (backOf (W := 0) (own_rm4_B2 l Z a0 hw [] b245 f2 l2 f0 f1 l0 l1 [] [] r257_f2 r257_g2 r257_kf2 r257_kg2 T257.heap n0 z262 q257_0 R259 q257_2 q257_3 R260 R261 g_b245 (Ne.symm ne_b245_r257_f2) (Ne.symm ne_b245_r257_g2)) hZ (hw _ (List.mem_of_getElem? (i := 25) rfl)) (hw _ (List.mem_of_getElem? (i := 2) rfl)) (by decide) (by decide)) qa263 qc263 (g := (mkF m 145 #[.val (.int p1), .val (.int p2), .val (.int p3), .val (.int p4), .val (.int p5), .val (.int (3 : Int32)), .val (.int (1 : Int32)), .val (.int f0), .val (.int f1), .val (.int f2), .val (.int l0), .val (.int l1), .val (.int l2), .val (.ref b245), .unset, .unset] [(.int l2), (.int f2), (.ref b245)])) rfl (by rw [hml]; rfl) (Steps.refl _) (argsL := [(.int f2), (.int l2)]) (rest := []) (lenOf own_pd5 rfl) rfl (by show 2 * 0 + _ ≤ _; exact Nat.le_of_eq rfl) (hb hby at_145) (fun _ _ => ⟨rfl, rfl, (by decide : 5 + 2 ≤ _), (by decide : 15 + 8 ≤ _)⟩)
      dsimp only [Pt.U, Pt.locs, Pt.cells, Pt.slots] at X263 l263 y263 z263 st263 hQ263
      subst l263 y263 z263
      obtain ⟨r263_f2, r263_g2, r263_kf2, r263_kg2, rfl, Nq263, K263, q263_0, q263_1, q263_2, q263_3, q263_4, q263_5, h263_sf, h263_sg, h263_nfg⟩ := hQ263
      refine OE.of (fun _ k => st263.trans k) ?_
      have N263 := Fr.app N257 Nq263
      have ne_b245_r263_f2 : b245 ≠ r263_f2 := Nat.ne_of_lt (Nat.lt_of_lt_of_le q257_0.lt h263_sf)
      have f264 : Arv Z T257.heap r247_f r247_kf .int (1 : Int32) [(.int f0), (.int (0 : Int32)), (.int (0 : Int32)), (.int (0 : Int32))] (.int (0 : Int32)) := (R254.keep K257 (ninS (Ne.symm ne_b245_r247_f) nin0))
      have ne_r247_f_r263_f2 : r247_f ≠ r263_f2 := Nat.ne_of_lt (Nat.lt_of_lt_of_le f264.lt h263_sf)
      have f265 : Arv Z T257.heap r247_g r247_kg .int (1 : Int32) [(.int l0), (.int (0 : Int32)), (.int (0 : Int32)), (.int (0 : Int32))] (.int (0 : Int32)) := (R255.keep K257 (ninS (Ne.symm ne_b245_r247_g) nin0))
      have ne_r247_g_r263_f2 : r247_g ≠ r263_f2 := Nat.ne_of_lt (Nat.lt_of_lt_of_le f265.lt h263_sf)
      have ne_r257_f2_r263_f2 : r257_f2 ≠ r263_f2 := Nat.ne_of_lt (Nat.lt_of_lt_of_le R260.lt h263_sf)
      have ne_r257_g2_r263_f2 : r257_g2 ≠ r263_f2 := Nat.ne_of_lt (Nat.lt_of_lt_of_le R261.lt h263_sf)
      have g_r263_f2 : n0 ≤ r263_f2 := Nat.le_trans z262 h263_sf
      have K266 : Keep h0 T257.heap [] := (Keep.trans K258 K257 (allS (Or.inr sz_b245) all0))
      have sz_r263_f2 : h0.size ≤ r263_f2 := Nat.le_trans K266.1 h263_sf
      have ne_b245_r263_g2 : b245 ≠ r263_g2 := Nat.ne_of_lt (Nat.lt_of_lt_of_le q257_0.lt h263_sg)
      have ne_r247_f_r263_g2 : r247_f ≠ r263_g2 := Nat.ne_of_lt (Nat.lt_of_lt_of_le f264.lt h263_sg)
      have ne_r247_g_r263_g2 : r247_g ≠ r263_g2 := Nat.ne_of_lt (Nat.lt_of_lt_of_le f265.lt h263_sg)
      have ne_r257_f2_r263_g2 : r257_f2 ≠ r263_g2 := Nat.ne_of_lt (Nat.lt_of_lt_of_le R260.lt h263_sg)
      have ne_r257_g2_r263_g2 : r257_g2 ≠ r263_g2 := Nat.ne_of_lt (Nat.lt_of_lt_of_le R261.lt h263_sg)
      have g_r263_g2 : n0 ≤ r263_g2 := Nat.le_trans z262 h263_sg
      have sz_r263_g2 : h0.size ≤ r263_g2 := Nat.le_trans K266.1 h263_sg
      show OE _ p e below s _ _ _ T263 (mkF m 148 #[.val (.int p1), .val (.int p2), .val (.int p3), .val (.int p4), .val (.int p5), .val (.int (3 : Int32)), .val (.int (1 : Int32)), .val (.int f0), .val (.int f1), .val (.int f2), .val (.int l0), .val (.int l1), .val (.int l2), .val (.ref b245), .unset, .unset] [])
      have R267 : Fld Z T263.heap b245 "com/example/corbel/corbel/Peaks" "count" "I" (.int (3 : Int32)) := q263_1
      have R268 : Arv Z T263.heap r263_f2 r263_kf2 .int (4 : Int32) [(.int f0), (.int f1), (.int f2), (.int (0 : Int32))] (.int (0 : Int32)) := q263_4
      have R269 : Arv Z T263.heap r263_g2 r263_kg2 .int (4 : Int32) [(.int l0), (.int l1), (.int l2), (.int (0 : Int32))] (.int (0 : Int32)) := q263_5
      have z270 : n0 ≤ T263.heap.size := (Nat.le_trans z262 K263.1)
      have K271 : Keep h0 T263.heap [] := (Keep.trans K266 K263 (allS (Or.inr sz_b245) all0))
      exact own_tail3 (1 : Int32) b245 r263_f2 r263_g2 r263_kf2 r263_kg2 (4 : Int32) [(.int (0 : Int32))] [(.int (0 : Int32))] _ _ _ _ _ X263 rfl N263 (by decide) (by decide) z270 K271 q263_0 R267 q263_2 q263_3 R268 R269 (by decide) (by decide) (by decide)
    · rw [hr, (by decide : ((1 : Int32) + (1 : Int32)) = (2 : Int32))]
      show OE _ p e below s _ _ _ s₁ (mkF m 92 #[.val (.int p1), .val (.int p2), .val (.int p3), .val (.int p4), .val (.int p5), .val (.int (3 : Int32)), .val (.int (2 : Int32)), .val (.int f0), .val (.int f1), .val (.int f2), .val (.int l0), .val (.int l1), .val (.int l2), .unset, .unset, .unset] [])
      obtain ⟨T272, h272, X272, e272, E272, A272, D272, -, st272⟩ := newO X0 hx hZ hown (hw _ (List.mem_of_getElem? (i := 0) rfl)) (hw _ (List.mem_of_getElem? (i := 1) rfl)) (hw _ (List.mem_of_getElem? (i := 2) rfl)) e0 (g := (mkF m 92 #[.val (.int p1), .val (.int p2), .val (.int p3), .val (.int p4), .val (.int p5), .val (.int (3 : Int32)), .val (.int (2 : Int32)), .val (.int f0), .val (.int f1), .val (.int f2), .val (.int l0), .val (.int l1), .val (.int l2), .unset, .unset, .unset] [])) rfl (hb hby at_92) (by decide) (by decide)
      refine OE.of st272 ?_
      obtain ⟨b272, g272⟩ : ∃ z, z = h0.size := ⟨_, rfl⟩
      rw [← g272] at A272 D272 ⊢
      have g_b272 : n0 ≤ b272 := Nat.le_trans Z0 (Nat.le_of_eq g272.symm)
      have sz_b272 : h0.size ≤ b272 := Nat.le_trans (Keep.refl h0 []).1 (Nat.le_of_eq g272.symm)
      have F272_frequencies : Fld Z h272 b272 "com/example/corbel/corbel/Peaks" "frequencies" "[I" .null := D272 (Or.inl (hw _ (List.mem_of_getElem? (i := 11) rfl))) (ty := (.array .int)) (by decide)
      have F272_lengths : Fld Z h272 b272 "com/example/corbel/corbel/Peaks" "lengths" "[I" .null := D272 (Or.inl (hw _ (List.mem_of_getElem? (i := 13) rfl))) (ty := (.array .int)) (by decide)
      have F272_count : Fld Z h272 b272 "com/example/corbel/corbel/Peaks" "count" "I" (.int (0 : Int32)) := D272 (Or.inl (hw _ (List.mem_of_getElem? (i := 20) rfl))) (ty := .int) (by decide)
      show OE _ p e below s _ _ _ T272 (mkF m 95 #[.val (.int p1), .val (.int p2), .val (.int p3), .val (.int p4), .val (.int p5), .val (.int (3 : Int32)), .val (.int (2 : Int32)), .val (.int f0), .val (.int f1), .val (.int f2), .val (.int l0), .val (.int l1), .val (.int l2), .unset, .unset, .unset] [(.ref b272)])
      refine OE.dup X272 hx hby at_95 rfl ?_
      refine OE.iload X272 hx hby at_96 rfl ?_
      have z273 : n0 ≤ h272.size := (Nat.le_trans Z0 E272.1)
      obtain ⟨_, _, ⟨T274, L274, k274, n274⟩, -, X274, ⟨Lc274, hQ274, l274, y274, z274⟩, st274⟩ := X272.specialBack hx (y := (⟨"com/example/corbel/corbel/Peaks", "<init>", "(I)V"⟩ : MethodName)) rfl hown (mvT hZ (hw _ (List.mem_of_getElem? (i := 3) rfl))) (mvT hZ (hw _ (List.mem_of_getElem? (i := 4) rfl))) (mvT hZ (hw _ (List.mem_of_getElem? (i := 5) rfl))) (by decide) (backOf (W := 1) (own_rm1 l Z a0 hw [] b272 (2 : Int32) h272 n0 z273 A272 F272_frequencies F272_lengths F272_count g_b272 (by decide) (by decide)) hZ (hw _ (List.mem_of_getElem? (i := 5) rfl)) (hw _ (List.mem_of_getElem? (i := 2) rfl)) (by decide) (by decide)) (g := (mkF m 98 #[.val (.int p1), .val (.int p2), .val (.int p3), .val (.int p4), .val (.int p5), .val (.int (3 : Int32)), .val (.int (2 : Int32)), .val (.int f0), .val (.int f1), .val (.int f2), .val (.int l0), .val (.int l1), .val (.int l2), .unset, .unset, .unset] [(.int (2 : Int32)), (.ref b272), (.ref b272)])) rfl (by rw [hml]; rfl) (Steps.refl _) (a := b272) (argsL := [(.int (2 : Int32))]) (rest := [(.ref b272)]) (lenOf own_pd3 rfl) rfl (by show 2 * 0 + _ ≤ _; exact Nat.le_of_eq rfl) (hb hby at_98) (fun _ _ => ⟨rfl, e272, (by decide : 1 + 2 ≤ _), (by decide : 3 + 8 ≤ _)⟩)
      dsimp only [Pt.U, Pt.locs, Pt.cells, Pt.slots] at X274 l274 y274 z274 st274 hQ274
      subst l274 y274 z274
      obtain ⟨r274_f, r274_g, r274_kf, r274_kg, rfl, Nq274, K274, q274_0, q274_1, q274_2, q274_3, q274_4, q274_5, h274_sf, h274_sg, h274_nfg⟩ := hQ274
      refine OE.of (fun _ k => st274.trans k) ?_
      have N274 := Fr.app N0 Nq274
      have ne_b272_r274_f : b272 ≠ r274_f := Nat.ne_of_lt (Nat.lt_of_lt_of_le A272.lt h274_sf)
      have g_r274_f : n0 ≤ r274_f := Nat.le_trans z273 h274_sf
      have K275 : Keep h0 h272 [] := (Keep.ext (Keep.refl h0 []) E272)
      have sz_r274_f : h0.size ≤ r274_f := Nat.le_trans K275.1 h274_sf
      have ne_b272_r274_g : b272 ≠ r274_g := Nat.ne_of_lt (Nat.lt_of_lt_of_le A272.lt h274_sg)
      have g_r274_g : n0 ≤ r274_g := Nat.le_trans z273 h274_sg
      have sz_r274_g : h0.size ≤ r274_g := Nat.le_trans K275.1 h274_sg
      show OE _ p e below s _ _ _ T274 (mkF m 101 #[.val (.int p1), .val (.int p2), .val (.int p3), .val (.int p4), .val (.int p5), .val (.int (3 : Int32)), .val (.int (2 : Int32)), .val (.int f0), .val (.int f1), .val (.int f2), .val (.int l0), .val (.int l1), .val (.int l2), .unset, .unset, .unset] [(.ref b272)])
      have R276 : Arv Z T274.heap r274_f r274_kf .int (2 : Int32) [(.int (0 : Int32)), (.int (0 : Int32)), (.int (0 : Int32)), (.int (0 : Int32))] (.int (0 : Int32)) := q274_4
      have R277 : Arv Z T274.heap r274_g r274_kg .int (2 : Int32) [(.int (0 : Int32)), (.int (0 : Int32)), (.int (0 : Int32)), (.int (0 : Int32))] (.int (0 : Int32)) := q274_5
      refine OE.astore X274 hx hby at_101 rfl (l' := #[.val (.int p1), .val (.int p2), .val (.int p3), .val (.int p4), .val (.int p5), .val (.int (3 : Int32)), .val (.int (2 : Int32)), .val (.int f0), .val (.int f1), .val (.int f2), .val (.int l0), .val (.int l1), .val (.int l2), .val (.ref b272), .unset, .unset]) rfl ?_
      refine OE.iload X274 hx hby at_103 rfl ?_
      refine OE.iconst X274 hx hby at_105 (1 : Int32) rfl ?_
      refine OE.icmpNo X274 hx hby at_106 (flt (by decide : ¬ ((3 : Int32) < (1 : Int32)))).1 ?_
      refine OE.aload X274 hx hby at_109 rfl rfl ?_
      refine OE.iload X274 hx hby at_111 rfl ?_
      refine OE.iload X274 hx hby at_113 rfl ?_
      have z278 : n0 ≤ T274.heap.size := (Nat.le_trans z273 K274.1)
      obtain ⟨cq279, kq279, qa279, qb279, qc279⟩ := isOf hZ rfl q274_0
      obtain ⟨_, _, ⟨T279, L279, k279, n279⟩, -, X279, ⟨Lc279, hQ279, l279, y279, z279⟩, st279⟩ := X274.virtualBack hx (y := (⟨"com/example/corbel/corbel/Peaks", "append", "(II)V"⟩ : MethodName)) (z := (⟨"com/example/corbel/corbel/Peaks", "append", "(II)V"⟩ : MethodName)) hown (mvT hZ (hw _ (List.mem_of_getElem? (i := 21) rfl))) (mvT hZ (hw _ (List.mem_of_getElem? (i := 22) rfl))) (notFace_of_selects (args := #[]) (mvT hZ (hw _ (List.mem_of_getElem? (i := 24) rfl)))) (mvT hZ (hw _ (List.mem_of_getElem? (i := 24) rfl))) (mvT hZ (hw _ (List.mem_of_getElem? (i := 23) rfl))) (by decide) (backOf (W := 0) (own_rm4_A l Z a0 hw [] b272 f0 l0 r274_f r274_g (0 : Int32) (2 : Int32) r274_kf [(.int (0 : Int32)), (.int (0 : Int32)), (.int (0 : Int32)), (.int (0 : Int32))] r274_kg [(.int (0 : Int32)), (.int (0 : Int32)), (.int (0 : Int32)), (.int (0 : Int32))] T274.heap n0 z278 q274_0 q274_3 q274_1 q274_2 R276 R277 g_b272 g_r274_f g_r274_g (Ne.symm ne_b272_r274_f) (Ne.symm ne_b272_r274_g) h274_nfg (by decide) (by decide) (Nat.le_of_ble_eq_true rfl) (Nat.le_of_ble_eq_true rfl)) hZ (hw _ (List.mem_of_getElem? (i := 25) rfl)) (hw _ (List.mem_of_getElem? (i := 2) rfl)) (by decide) (by decide)) qa279 qc279 (g := (mkF m 115 #[.val (.int p1), .val (.int p2), .val (.int p3), .val (.int p4), .val (.int p5), .val (.int (3 : Int32)), .val (.int (2 : Int32)), .val (.int f0), .val (.int f1), .val (.int f2), .val (.int l0), .val (.int l1), .val (.int l2), .val (.ref b272), .unset, .unset] [(.int l0), (.int f0), (.ref b272)])) rfl (by rw [hml]; rfl) (Steps.refl _) (argsL := [(.int f0), (.int l0)]) (rest := []) (lenOf own_pd5 rfl) rfl (by show 2 * 0 + _ ≤ _; exact Nat.le_of_eq rfl) (hb hby at_115) (fun _ _ => ⟨rfl, rfl, (by decide : 3 + 0 ≤ _), (by decide : 11 + 0 ≤ _)⟩)
      dsimp only [Pt.U, Pt.locs, Pt.cells, Pt.slots] at X279 l279 y279 z279 st279 hQ279
      subst l279 y279 z279
      obtain ⟨rfl, Nq279, K279, q279_0, q279_1, q279_2, q279_3, q279_4, q279_5⟩ := hQ279
      refine OE.of (fun _ k => st279.trans k) ?_
      have N279 := Fr.app N274 Nq279
      show OE _ p e below s _ _ _ T279 (mkF m 118 #[.val (.int p1), .val (.int p2), .val (.int p3), .val (.int p4), .val (.int p5), .val (.int (3 : Int32)), .val (.int (2 : Int32)), .val (.int f0), .val (.int f1), .val (.int f2), .val (.int l0), .val (.int l1), .val (.int l2), .val (.ref b272), .unset, .unset] [])
      have R280 : Fld Z T279.heap b272 "com/example/corbel/corbel/Peaks" "count" "I" (.int (1 : Int32)) := q279_1
      have R281 : Arv Z T279.heap r274_f r274_kf .int (2 : Int32) [(.int f0), (.int (0 : Int32)), (.int (0 : Int32)), (.int (0 : Int32))] (.int (0 : Int32)) := q279_4
      have R282 : Arv Z T279.heap r274_g r274_kg .int (2 : Int32) [(.int l0), (.int (0 : Int32)), (.int (0 : Int32)), (.int (0 : Int32))] (.int (0 : Int32)) := q279_5
      refine OE.iload X279 hx hby at_118 rfl ?_
      refine OE.iconst X279 hx hby at_120 (2 : Int32) rfl ?_
      refine OE.icmpNo X279 hx hby at_121 (flt (by decide : ¬ ((3 : Int32) < (2 : Int32)))).1 ?_
      refine OE.aload X279 hx hby at_124 rfl rfl ?_
      refine OE.iload X279 hx hby at_126 rfl ?_
      refine OE.iload X279 hx hby at_128 rfl ?_
      have z283 : n0 ≤ T279.heap.size := (Nat.le_trans z278 K279.1)
      obtain ⟨cq284, kq284, qa284, qb284, qc284⟩ := isOf hZ rfl q279_0
      obtain ⟨_, _, ⟨T284, L284, k284, n284⟩, -, X284, ⟨Lc284, hQ284, l284, y284, z284⟩, st284⟩ := X279.virtualBack hx (y := (⟨"com/example/corbel/corbel/Peaks", "append", "(II)V"⟩ : MethodName)) (z := (⟨"com/example/corbel/corbel/Peaks", "append", "(II)V"⟩ : MethodName)) hown (mvT hZ (hw _ (List.mem_of_getElem? (i := 21) rfl))) (mvT hZ (hw _ (List.mem_of_getElem? (i := 22) rfl))) (notFace_of_selects (args := #[]) (mvT hZ (hw _ (List.mem_of_getElem? (i := 24) rfl)))) (mvT hZ (hw _ (List.mem_of_getElem? (i := 24) rfl))) (mvT hZ (hw _ (List.mem_of_getElem? (i := 23) rfl))) (by decide) (backOf (W := 0) (own_rm4_A l Z a0 hw [] b272 f1 l1 r274_f r274_g (1 : Int32) (2 : Int32) r274_kf [(.int f0), (.int (0 : Int32)), (.int (0 : Int32)), (.int (0 : Int32))] r274_kg [(.int l0), (.int (0 : Int32)), (.int (0 : Int32)), (.int (0 : Int32))] T279.heap n0 z283 q279_0 R280 q279_2 q279_3 R281 R282 g_b272 g_r274_f g_r274_g (Ne.symm ne_b272_r274_f) (Ne.symm ne_b272_r274_g) h274_nfg (by decide) (by decide) (Nat.le_of_ble_eq_true rfl) (Nat.le_of_ble_eq_true rfl)) hZ (hw _ (List.mem_of_getElem? (i := 25) rfl)) (hw _ (List.mem_of_getElem? (i := 2) rfl)) (by decide) (by decide)) qa284 qc284 (g := (mkF m 130 #[.val (.int p1), .val (.int p2), .val (.int p3), .val (.int p4), .val (.int p5), .val (.int (3 : Int32)), .val (.int (2 : Int32)), .val (.int f0), .val (.int f1), .val (.int f2), .val (.int l0), .val (.int l1), .val (.int l2), .val (.ref b272), .unset, .unset] [(.int l1), (.int f1), (.ref b272)])) rfl (by rw [hml]; rfl) (Steps.refl _) (argsL := [(.int f1), (.int l1)]) (rest := []) (lenOf own_pd5 rfl) rfl (by show 2 * 0 + _ ≤ _; exact Nat.le_of_eq rfl) (hb hby at_130) (fun _ _ => ⟨rfl, rfl, (by decide : 3 + 0 ≤ _), (by decide : 11 + 0 ≤ _)⟩)
      dsimp only [Pt.U, Pt.locs, Pt.cells, Pt.slots] at X284 l284 y284 z284 st284 hQ284
      subst l284 y284 z284
      obtain ⟨rfl, Nq284, K284, q284_0, q284_1, q284_2, q284_3, q284_4, q284_5⟩ := hQ284
      refine OE.of (fun _ k => st284.trans k) ?_
      have N284 := Fr.app N279 Nq284
      show OE _ p e below s _ _ _ T284 (mkF m 133 #[.val (.int p1), .val (.int p2), .val (.int p3), .val (.int p4), .val (.int p5), .val (.int (3 : Int32)), .val (.int (2 : Int32)), .val (.int f0), .val (.int f1), .val (.int f2), .val (.int l0), .val (.int l1), .val (.int l2), .val (.ref b272), .unset, .unset] [])
      have R285 : Fld Z T284.heap b272 "com/example/corbel/corbel/Peaks" "count" "I" (.int (2 : Int32)) := q284_1
      have R286 : Arv Z T284.heap r274_f r274_kf .int (2 : Int32) [(.int f0), (.int f1), (.int (0 : Int32)), (.int (0 : Int32))] (.int (0 : Int32)) := q284_4
      have R287 : Arv Z T284.heap r274_g r274_kg .int (2 : Int32) [(.int l0), (.int l1), (.int (0 : Int32)), (.int (0 : Int32))] (.int (0 : Int32)) := q284_5
      refine OE.iload X284 hx hby at_133 rfl ?_
      refine OE.iconst X284 hx hby at_135 (3 : Int32) rfl ?_
      refine OE.icmpNo X284 hx hby at_136 (flt (by decide : ¬ ((3 : Int32) < (3 : Int32)))).1 ?_
      refine OE.aload X284 hx hby at_139 rfl rfl ?_
      refine OE.iload X284 hx hby at_141 rfl ?_
      refine OE.iload X284 hx hby at_143 rfl ?_
      have z288 : n0 ≤ T284.heap.size := (Nat.le_trans z283 K284.1)
      obtain ⟨cq289, kq289, qa289, qb289, qc289⟩ := isOf hZ rfl q284_0
      obtain ⟨_, _, ⟨T289, L289, k289, n289⟩, -, X289, ⟨Lc289, hQ289, l289, y289, z289⟩, st289⟩ := X284.virtualBack hx (y := (⟨"com/example/corbel/corbel/Peaks", "append", "(II)V"⟩ : MethodName)) (z := (⟨"com/example/corbel/corbel/Peaks", "append", "(II)V"⟩ : MethodName)) hown (mvT hZ (hw _ (List.mem_of_getElem? (i := 21) rfl))) (mvT hZ (hw _ (List.mem_of_getElem? (i := 22) rfl))) (notFace_of_selects (args := #[]) (mvT hZ (hw _ (List.mem_of_getElem? (i := 24) rfl)))) (mvT hZ (hw _ (List.mem_of_getElem? (i := 24) rfl))) (mvT hZ (hw _ (List.mem_of_getElem? (i := 23) rfl))) (by decide) (backOf (W := 0) (own_rm4_B2 l Z a0 hw [] b272 f2 l2 f0 f1 l0 l1 [(.int (0 : Int32)), (.int (0 : Int32))] [(.int (0 : Int32)), (.int (0 : Int32))] r274_f r274_g r274_kf r274_kg T284.heap n0 z288 q284_0 R285 q284_2 q284_3 R286 R287 g_b272 (Ne.symm ne_b272_r274_f) (Ne.symm ne_b272_r274_g)) hZ (hw _ (List.mem_of_getElem? (i := 25) rfl)) (hw _ (List.mem_of_getElem? (i := 2) rfl)) (by decide) (by decide)) qa289 qc289 (g := (mkF m 145 #[.val (.int p1), .val (.int p2), .val (.int p3), .val (.int p4), .val (.int p5), .val (.int (3 : Int32)), .val (.int (2 : Int32)), .val (.int f0), .val (.int f1), .val (.int f2), .val (.int l0), .val (.int l1), .val (.int l2), .val (.ref b272), .unset, .unset] [(.int l2), (.int f2), (.ref b272)])) rfl (by rw [hml]; rfl) (Steps.refl _) (argsL := [(.int f2), (.int l2)]) (rest := []) (lenOf own_pd5 rfl) rfl (by show 2 * 0 + _ ≤ _; exact Nat.le_of_eq rfl) (hb hby at_145) (fun _ _ => ⟨rfl, rfl, (by decide : 3 + 2 ≤ _), (by decide : 11 + 8 ≤ _)⟩)
      dsimp only [Pt.U, Pt.locs, Pt.cells, Pt.slots] at X289 l289 y289 z289 st289 hQ289
      subst l289 y289 z289
      obtain ⟨r289_f2, r289_g2, r289_kf2, r289_kg2, rfl, Nq289, K289, q289_0, q289_1, q289_2, q289_3, q289_4, q289_5, h289_sf, h289_sg, h289_nfg⟩ := hQ289
      refine OE.of (fun _ k => st289.trans k) ?_
      have N289 := Fr.app N284 Nq289
      have ne_b272_r289_f2 : b272 ≠ r289_f2 := Nat.ne_of_lt (Nat.lt_of_lt_of_le q284_0.lt h289_sf)
      have ne_r274_f_r289_f2 : r274_f ≠ r289_f2 := Nat.ne_of_lt (Nat.lt_of_lt_of_le R286.lt h289_sf)
      have ne_r274_g_r289_f2 : r274_g ≠ r289_f2 := Nat.ne_of_lt (Nat.lt_of_lt_of_le R287.lt h289_sf)
      have g_r289_f2 : n0 ≤ r289_f2 := Nat.le_trans z288 h289_sf
      have K290 : Keep h0 T284.heap [] := (Keep.trans (Keep.trans (Keep.trans K275 K274 (allS (Or.inr sz_b272) all0)) K279 (allS (Or.inr sz_b272) (allS (Or.inr sz_r274_f) (allS (Or.inr sz_r274_g) all0)))) K284 (allS (Or.inr sz_b272) (allS (Or.inr sz_r274_f) (allS (Or.inr sz_r274_g) all0))))
      have sz_r289_f2 : h0.size ≤ r289_f2 := Nat.le_trans K290.1 h289_sf
      have ne_b272_r289_g2 : b272 ≠ r289_g2 := Nat.ne_of_lt (Nat.lt_of_lt_of_le q284_0.lt h289_sg)
      have ne_r274_f_r289_g2 : r274_f ≠ r289_g2 := Nat.ne_of_lt (Nat.lt_of_lt_of_le R286.lt h289_sg)
      have ne_r274_g_r289_g2 : r274_g ≠ r289_g2 := Nat.ne_of_lt (Nat.lt_of_lt_of_le R287.lt h289_sg)
      have g_r289_g2 : n0 ≤ r289_g2 := Nat.le_trans z288 h289_sg
      have sz_r289_g2 : h0.size ≤ r289_g2 := Nat.le_trans K290.1 h289_sg
      show OE _ p e below s _ _ _ T289 (mkF m 148 #[.val (.int p1), .val (.int p2), .val (.int p3), .val (.int p4), .val (.int p5), .val (.int (3 : Int32)), .val (.int (2 : Int32)), .val (.int f0), .val (.int f1), .val (.int f2), .val (.int l0), .val (.int l1), .val (.int l2), .val (.ref b272), .unset, .unset] [])
      have R291 : Fld Z T289.heap b272 "com/example/corbel/corbel/Peaks" "count" "I" (.int (3 : Int32)) := q289_1
      have R292 : Arv Z T289.heap r289_f2 r289_kf2 .int (4 : Int32) [(.int f0), (.int f1), (.int f2), (.int (0 : Int32))] (.int (0 : Int32)) := q289_4
      have R293 : Arv Z T289.heap r289_g2 r289_kg2 .int (4 : Int32) [(.int l0), (.int l1), (.int l2), (.int (0 : Int32))] (.int (0 : Int32)) := q289_5
      have z294 : n0 ≤ T289.heap.size := (Nat.le_trans z288 K289.1)
      have K295 : Keep h0 T289.heap [] := (Keep.trans K290 K289 (allS (Or.inr sz_b272) all0))
      exact own_tail3 (2 : Int32) b272 r289_f2 r289_g2 r289_kf2 r289_kg2 (4 : Int32) [(.int (0 : Int32))] [(.int (0 : Int32))] _ _ _ _ _ X289 rfl N289 (by decide) (by decide) z294 K295 q289_0 R291 q289_2 q289_3 R292 R293 (by decide) (by decide) (by decide)
    · rw [hr, (by decide : ((2 : Int32) + (1 : Int32)) = (3 : Int32))]
      show OE _ p e below s _ _ _ s₁ (mkF m 92 #[.val (.int p1), .val (.int p2), .val (.int p3), .val (.int p4), .val (.int p5), .val (.int (3 : Int32)), .val (.int (3 : Int32)), .val (.int f0), .val (.int f1), .val (.int f2), .val (.int l0), .val (.int l1), .val (.int l2), .unset, .unset, .unset] [])
      obtain ⟨T296, h296, X296, e296, E296, A296, D296, -, st296⟩ := newO X0 hx hZ hown (hw _ (List.mem_of_getElem? (i := 0) rfl)) (hw _ (List.mem_of_getElem? (i := 1) rfl)) (hw _ (List.mem_of_getElem? (i := 2) rfl)) e0 (g := (mkF m 92 #[.val (.int p1), .val (.int p2), .val (.int p3), .val (.int p4), .val (.int p5), .val (.int (3 : Int32)), .val (.int (3 : Int32)), .val (.int f0), .val (.int f1), .val (.int f2), .val (.int l0), .val (.int l1), .val (.int l2), .unset, .unset, .unset] [])) rfl (hb hby at_92) (by decide) (by decide)
      refine OE.of st296 ?_
      obtain ⟨b296, g296⟩ : ∃ z, z = h0.size := ⟨_, rfl⟩
      rw [← g296] at A296 D296 ⊢
      have g_b296 : n0 ≤ b296 := Nat.le_trans Z0 (Nat.le_of_eq g296.symm)
      have sz_b296 : h0.size ≤ b296 := Nat.le_trans (Keep.refl h0 []).1 (Nat.le_of_eq g296.symm)
      have F296_frequencies : Fld Z h296 b296 "com/example/corbel/corbel/Peaks" "frequencies" "[I" .null := D296 (Or.inl (hw _ (List.mem_of_getElem? (i := 11) rfl))) (ty := (.array .int)) (by decide)
      have F296_lengths : Fld Z h296 b296 "com/example/corbel/corbel/Peaks" "lengths" "[I" .null := D296 (Or.inl (hw _ (List.mem_of_getElem? (i := 13) rfl))) (ty := (.array .int)) (by decide)
      have F296_count : Fld Z h296 b296 "com/example/corbel/corbel/Peaks" "count" "I" (.int (0 : Int32)) := D296 (Or.inl (hw _ (List.mem_of_getElem? (i := 20) rfl))) (ty := .int) (by decide)
      show OE _ p e below s _ _ _ T296 (mkF m 95 #[.val (.int p1), .val (.int p2), .val (.int p3), .val (.int p4), .val (.int p5), .val (.int (3 : Int32)), .val (.int (3 : Int32)), .val (.int f0), .val (.int f1), .val (.int f2), .val (.int l0), .val (.int l1), .val (.int l2), .unset, .unset, .unset] [(.ref b296)])
      refine OE.dup X296 hx hby at_95 rfl ?_
      refine OE.iload X296 hx hby at_96 rfl ?_
      have z297 : n0 ≤ h296.size := (Nat.le_trans Z0 E296.1)
      obtain ⟨_, _, ⟨T298, L298, k298, n298⟩, -, X298, ⟨Lc298, hQ298, l298, y298, z298⟩, st298⟩ := X296.specialBack hx (y := (⟨"com/example/corbel/corbel/Peaks", "<init>", "(I)V"⟩ : MethodName)) rfl hown (mvT hZ (hw _ (List.mem_of_getElem? (i := 3) rfl))) (mvT hZ (hw _ (List.mem_of_getElem? (i := 4) rfl))) (mvT hZ (hw _ (List.mem_of_getElem? (i := 5) rfl))) (by decide) (backOf (W := 1) (own_rm1 l Z a0 hw [] b296 (3 : Int32) h296 n0 z297 A296 F296_frequencies F296_lengths F296_count g_b296 (by decide) (by decide)) hZ (hw _ (List.mem_of_getElem? (i := 5) rfl)) (hw _ (List.mem_of_getElem? (i := 2) rfl)) (by decide) (by decide)) (g := (mkF m 98 #[.val (.int p1), .val (.int p2), .val (.int p3), .val (.int p4), .val (.int p5), .val (.int (3 : Int32)), .val (.int (3 : Int32)), .val (.int f0), .val (.int f1), .val (.int f2), .val (.int l0), .val (.int l1), .val (.int l2), .unset, .unset, .unset] [(.int (3 : Int32)), (.ref b296), (.ref b296)])) rfl (by rw [hml]; rfl) (Steps.refl _) (a := b296) (argsL := [(.int (3 : Int32))]) (rest := [(.ref b296)]) (lenOf own_pd3 rfl) rfl (by show 2 * 0 + _ ≤ _; exact Nat.le_of_eq rfl) (hb hby at_98) (fun _ _ => ⟨rfl, e296, (by decide : 1 + 2 ≤ _), (by decide : 3 + 8 ≤ _)⟩)
      dsimp only [Pt.U, Pt.locs, Pt.cells, Pt.slots] at X298 l298 y298 z298 st298 hQ298
      subst l298 y298 z298
      obtain ⟨r298_f, r298_g, r298_kf, r298_kg, rfl, Nq298, K298, q298_0, q298_1, q298_2, q298_3, q298_4, q298_5, h298_sf, h298_sg, h298_nfg⟩ := hQ298
      refine OE.of (fun _ k => st298.trans k) ?_
      have N298 := Fr.app N0 Nq298
      have ne_b296_r298_f : b296 ≠ r298_f := Nat.ne_of_lt (Nat.lt_of_lt_of_le A296.lt h298_sf)
      have g_r298_f : n0 ≤ r298_f := Nat.le_trans z297 h298_sf
      have K299 : Keep h0 h296 [] := (Keep.ext (Keep.refl h0 []) E296)
      have sz_r298_f : h0.size ≤ r298_f := Nat.le_trans K299.1 h298_sf
      have ne_b296_r298_g : b296 ≠ r298_g := Nat.ne_of_lt (Nat.lt_of_lt_of_le A296.lt h298_sg)
      have g_r298_g : n0 ≤ r298_g := Nat.le_trans z297 h298_sg
      have sz_r298_g : h0.size ≤ r298_g := Nat.le_trans K299.1 h298_sg
      show OE _ p e below s _ _ _ T298 (mkF m 101 #[.val (.int p1), .val (.int p2), .val (.int p3), .val (.int p4), .val (.int p5), .val (.int (3 : Int32)), .val (.int (3 : Int32)), .val (.int f0), .val (.int f1), .val (.int f2), .val (.int l0), .val (.int l1), .val (.int l2), .unset, .unset, .unset] [(.ref b296)])
      have R300 : Arv Z T298.heap r298_f r298_kf .int (3 : Int32) [(.int (0 : Int32)), (.int (0 : Int32)), (.int (0 : Int32)), (.int (0 : Int32))] (.int (0 : Int32)) := q298_4
      have R301 : Arv Z T298.heap r298_g r298_kg .int (3 : Int32) [(.int (0 : Int32)), (.int (0 : Int32)), (.int (0 : Int32)), (.int (0 : Int32))] (.int (0 : Int32)) := q298_5
      refine OE.astore X298 hx hby at_101 rfl (l' := #[.val (.int p1), .val (.int p2), .val (.int p3), .val (.int p4), .val (.int p5), .val (.int (3 : Int32)), .val (.int (3 : Int32)), .val (.int f0), .val (.int f1), .val (.int f2), .val (.int l0), .val (.int l1), .val (.int l2), .val (.ref b296), .unset, .unset]) rfl ?_
      refine OE.iload X298 hx hby at_103 rfl ?_
      refine OE.iconst X298 hx hby at_105 (1 : Int32) rfl ?_
      refine OE.icmpNo X298 hx hby at_106 (flt (by decide : ¬ ((3 : Int32) < (1 : Int32)))).1 ?_
      refine OE.aload X298 hx hby at_109 rfl rfl ?_
      refine OE.iload X298 hx hby at_111 rfl ?_
      refine OE.iload X298 hx hby at_113 rfl ?_
      have z302 : n0 ≤ T298.heap.size := (Nat.le_trans z297 K298.1)
      obtain ⟨cq303, kq303, qa303, qb303, qc303⟩ := isOf hZ rfl q298_0
      obtain ⟨_, _, ⟨T303, L303, k303, n303⟩, -, X303, ⟨Lc303, hQ303, l303, y303, z303⟩, st303⟩ := X298.virtualBack hx (y := (⟨"com/example/corbel/corbel/Peaks", "append", "(II)V"⟩ : MethodName)) (z := (⟨"com/example/corbel/corbel/Peaks", "append", "(II)V"⟩ : MethodName)) hown (mvT hZ (hw _ (List.mem_of_getElem? (i := 21) rfl))) (mvT hZ (hw _ (List.mem_of_getElem? (i := 22) rfl))) (notFace_of_selects (args := #[]) (mvT hZ (hw _ (List.mem_of_getElem? (i := 24) rfl)))) (mvT hZ (hw _ (List.mem_of_getElem? (i := 24) rfl))) (mvT hZ (hw _ (List.mem_of_getElem? (i := 23) rfl))) (by decide) (backOf (W := 0) (own_rm4_A l Z a0 hw [] b296 f0 l0 r298_f r298_g (0 : Int32) (3 : Int32) r298_kf [(.int (0 : Int32)), (.int (0 : Int32)), (.int (0 : Int32)), (.int (0 : Int32))] r298_kg [(.int (0 : Int32)), (.int (0 : Int32)), (.int (0 : Int32)), (.int (0 : Int32))] T298.heap n0 z302 q298_0 q298_3 q298_1 q298_2 R300 R301 g_b296 g_r298_f g_r298_g (Ne.symm ne_b296_r298_f) (Ne.symm ne_b296_r298_g) h298_nfg (by decide) (by decide) (Nat.le_of_ble_eq_true rfl) (Nat.le_of_ble_eq_true rfl)) hZ (hw _ (List.mem_of_getElem? (i := 25) rfl)) (hw _ (List.mem_of_getElem? (i := 2) rfl)) (by decide) (by decide)) qa303 qc303 (g := (mkF m 115 #[.val (.int p1), .val (.int p2), .val (.int p3), .val (.int p4), .val (.int p5), .val (.int (3 : Int32)), .val (.int (3 : Int32)), .val (.int f0), .val (.int f1), .val (.int f2), .val (.int l0), .val (.int l1), .val (.int l2), .val (.ref b296), .unset, .unset] [(.int l0), (.int f0), (.ref b296)])) rfl (by rw [hml]; rfl) (Steps.refl _) (argsL := [(.int f0), (.int l0)]) (rest := []) (lenOf own_pd5 rfl) rfl (by show 2 * 0 + _ ≤ _; exact Nat.le_of_eq rfl) (hb hby at_115) (fun _ _ => ⟨rfl, rfl, (by decide : 3 + 0 ≤ _), (by decide : 11 + 0 ≤ _)⟩)
      dsimp only [Pt.U, Pt.locs, Pt.cells, Pt.slots] at X303 l303 y303 z303 st303 hQ303
      subst l303 y303 z303
      obtain ⟨rfl, Nq303, K303, q303_0, q303_1, q303_2, q303_3, q303_4, q303_5⟩ := hQ303
      refine OE.of (fun _ k => st303.trans k) ?_
      have N303 := Fr.app N298 Nq303
      show OE _ p e below s _ _ _ T303 (mkF m 118 #[.val (.int p1), .val (.int p2), .val (.int p3), .val (.int p4), .val (.int p5), .val (.int (3 : Int32)), .val (.int (3 : Int32)), .val (.int f0), .val (.int f1), .val (.int f2), .val (.int l0), .val (.int l1), .val (.int l2), .val (.ref b296), .unset, .unset] [])
      have R304 : Fld Z T303.heap b296 "com/example/corbel/corbel/Peaks" "count" "I" (.int (1 : Int32)) := q303_1
      have R305 : Arv Z T303.heap r298_f r298_kf .int (3 : Int32) [(.int f0), (.int (0 : Int32)), (.int (0 : Int32)), (.int (0 : Int32))] (.int (0 : Int32)) := q303_4
      have R306 : Arv Z T303.heap r298_g r298_kg .int (3 : Int32) [(.int l0), (.int (0 : Int32)), (.int (0 : Int32)), (.int (0 : Int32))] (.int (0 : Int32)) := q303_5
      refine OE.iload X303 hx hby at_118 rfl ?_
      refine OE.iconst X303 hx hby at_120 (2 : Int32) rfl ?_
      refine OE.icmpNo X303 hx hby at_121 (flt (by decide : ¬ ((3 : Int32) < (2 : Int32)))).1 ?_
      refine OE.aload X303 hx hby at_124 rfl rfl ?_
      refine OE.iload X303 hx hby at_126 rfl ?_
      refine OE.iload X303 hx hby at_128 rfl ?_
      have z307 : n0 ≤ T303.heap.size := (Nat.le_trans z302 K303.1)
      obtain ⟨cq308, kq308, qa308, qb308, qc308⟩ := isOf hZ rfl q303_0
      obtain ⟨_, _, ⟨T308, L308, k308, n308⟩, -, X308, ⟨Lc308, hQ308, l308, y308, z308⟩, st308⟩ := X303.virtualBack hx (y := (⟨"com/example/corbel/corbel/Peaks", "append", "(II)V"⟩ : MethodName)) (z := (⟨"com/example/corbel/corbel/Peaks", "append", "(II)V"⟩ : MethodName)) hown (mvT hZ (hw _ (List.mem_of_getElem? (i := 21) rfl))) (mvT hZ (hw _ (List.mem_of_getElem? (i := 22) rfl))) (notFace_of_selects (args := #[]) (mvT hZ (hw _ (List.mem_of_getElem? (i := 24) rfl)))) (mvT hZ (hw _ (List.mem_of_getElem? (i := 24) rfl))) (mvT hZ (hw _ (List.mem_of_getElem? (i := 23) rfl))) (by decide) (backOf (W := 0) (own_rm4_A l Z a0 hw [] b296 f1 l1 r298_f r298_g (1 : Int32) (3 : Int32) r298_kf [(.int f0), (.int (0 : Int32)), (.int (0 : Int32)), (.int (0 : Int32))] r298_kg [(.int l0), (.int (0 : Int32)), (.int (0 : Int32)), (.int (0 : Int32))] T303.heap n0 z307 q303_0 R304 q303_2 q303_3 R305 R306 g_b296 g_r298_f g_r298_g (Ne.symm ne_b296_r298_f) (Ne.symm ne_b296_r298_g) h298_nfg (by decide) (by decide) (Nat.le_of_ble_eq_true rfl) (Nat.le_of_ble_eq_true rfl)) hZ (hw _ (List.mem_of_getElem? (i := 25) rfl)) (hw _ (List.mem_of_getElem? (i := 2) rfl)) (by decide) (by decide)) qa308 qc308 (g := (mkF m 130 #[.val (.int p1), .val (.int p2), .val (.int p3), .val (.int p4), .val (.int p5), .val (.int (3 : Int32)), .val (.int (3 : Int32)), .val (.int f0), .val (.int f1), .val (.int f2), .val (.int l0), .val (.int l1), .val (.int l2), .val (.ref b296), .unset, .unset] [(.int l1), (.int f1), (.ref b296)])) rfl (by rw [hml]; rfl) (Steps.refl _) (argsL := [(.int f1), (.int l1)]) (rest := []) (lenOf own_pd5 rfl) rfl (by show 2 * 0 + _ ≤ _; exact Nat.le_of_eq rfl) (hb hby at_130) (fun _ _ => ⟨rfl, rfl, (by decide : 3 + 0 ≤ _), (by decide : 11 + 0 ≤ _)⟩)
      dsimp only [Pt.U, Pt.locs, Pt.cells, Pt.slots] at X308 l308 y308 z308 st308 hQ308
      subst l308 y308 z308
      obtain ⟨rfl, Nq308, K308, q308_0, q308_1, q308_2, q308_3, q308_4, q308_5⟩ := hQ308
      refine OE.of (fun _ k => st308.trans k) ?_
      have N308 := Fr.app N303 Nq308
      show OE _ p e below s _ _ _ T308 (mkF m 133 #[.val (.int p1), .val (.int p2), .val (.int p3), .val (.int p4), .val (.int p5), .val (.int (3 : Int32)), .val (.int (3 : Int32)), .val (.int f0), .val (.int f1), .val (.int f2), .val (.int l0), .val (.int l1), .val (.int l2), .val (.ref b296), .unset, .unset] [])
      have R309 : Fld Z T308.heap b296 "com/example/corbel/corbel/Peaks" "count" "I" (.int (2 : Int32)) := q308_1
      have R310 : Arv Z T308.heap r298_f r298_kf .int (3 : Int32) [(.int f0), (.int f1), (.int (0 : Int32)), (.int (0 : Int32))] (.int (0 : Int32)) := q308_4
      have R311 : Arv Z T308.heap r298_g r298_kg .int (3 : Int32) [(.int l0), (.int l1), (.int (0 : Int32)), (.int (0 : Int32))] (.int (0 : Int32)) := q308_5
      refine OE.iload X308 hx hby at_133 rfl ?_
      refine OE.iconst X308 hx hby at_135 (3 : Int32) rfl ?_
      refine OE.icmpNo X308 hx hby at_136 (flt (by decide : ¬ ((3 : Int32) < (3 : Int32)))).1 ?_
      refine OE.aload X308 hx hby at_139 rfl rfl ?_
      refine OE.iload X308 hx hby at_141 rfl ?_
      refine OE.iload X308 hx hby at_143 rfl ?_
      have z312 : n0 ≤ T308.heap.size := (Nat.le_trans z307 K308.1)
      obtain ⟨cq313, kq313, qa313, qb313, qc313⟩ := isOf hZ rfl q308_0
      obtain ⟨_, _, ⟨T313, L313, k313, n313⟩, -, X313, ⟨Lc313, hQ313, l313, y313, z313⟩, st313⟩ := X308.virtualBack hx (y := (⟨"com/example/corbel/corbel/Peaks", "append", "(II)V"⟩ : MethodName)) (z := (⟨"com/example/corbel/corbel/Peaks", "append", "(II)V"⟩ : MethodName)) hown (mvT hZ (hw _ (List.mem_of_getElem? (i := 21) rfl))) (mvT hZ (hw _ (List.mem_of_getElem? (i := 22) rfl))) (notFace_of_selects (args := #[]) (mvT hZ (hw _ (List.mem_of_getElem? (i := 24) rfl)))) (mvT hZ (hw _ (List.mem_of_getElem? (i := 24) rfl))) (mvT hZ (hw _ (List.mem_of_getElem? (i := 23) rfl))) (by decide) (backOf (W := 0) (own_rm4_A l Z a0 hw [] b296 f2 l2 r298_f r298_g (2 : Int32) (3 : Int32) r298_kf [(.int f0), (.int f1), (.int (0 : Int32)), (.int (0 : Int32))] r298_kg [(.int l0), (.int l1), (.int (0 : Int32)), (.int (0 : Int32))] T308.heap n0 z312 q308_0 R309 q308_2 q308_3 R310 R311 g_b296 g_r298_f g_r298_g (Ne.symm ne_b296_r298_f) (Ne.symm ne_b296_r298_g) h298_nfg (by decide) (by decide) (Nat.le_of_ble_eq_true rfl) (Nat.le_of_ble_eq_true rfl)) hZ (hw _ (List.mem_of_getElem? (i := 25) rfl)) (hw _ (List.mem_of_getElem? (i := 2) rfl)) (by decide) (by decide)) qa313 qc313 (g := (mkF m 145 #[.val (.int p1), .val (.int p2), .val (.int p3), .val (.int p4), .val (.int p5), .val (.int (3 : Int32)), .val (.int (3 : Int32)), .val (.int f0), .val (.int f1), .val (.int f2), .val (.int l0), .val (.int l1), .val (.int l2), .val (.ref b296), .unset, .unset] [(.int l2), (.int f2), (.ref b296)])) rfl (by rw [hml]; rfl) (Steps.refl _) (argsL := [(.int f2), (.int l2)]) (rest := []) (lenOf own_pd5 rfl) rfl (by show 2 * 0 + _ ≤ _; exact Nat.le_of_eq rfl) (hb hby at_145) (fun _ _ => ⟨rfl, rfl, (by decide : 3 + 0 ≤ _), (by decide : 11 + 0 ≤ _)⟩)
      dsimp only [Pt.U, Pt.locs, Pt.cells, Pt.slots] at X313 l313 y313 z313 st313 hQ313
      subst l313 y313 z313
      obtain ⟨rfl, Nq313, K313, q313_0, q313_1, q313_2, q313_3, q313_4, q313_5⟩ := hQ313
      refine OE.of (fun _ k => st313.trans k) ?_
      have N313 := Fr.app N308 Nq313
      show OE _ p e below s _ _ _ T313 (mkF m 148 #[.val (.int p1), .val (.int p2), .val (.int p3), .val (.int p4), .val (.int p5), .val (.int (3 : Int32)), .val (.int (3 : Int32)), .val (.int f0), .val (.int f1), .val (.int f2), .val (.int l0), .val (.int l1), .val (.int l2), .val (.ref b296), .unset, .unset] [])
      have R314 : Fld Z T313.heap b296 "com/example/corbel/corbel/Peaks" "count" "I" (.int (3 : Int32)) := q313_1
      have R315 : Arv Z T313.heap r298_f r298_kf .int (3 : Int32) [(.int f0), (.int f1), (.int f2), (.int (0 : Int32))] (.int (0 : Int32)) := q313_4
      have R316 : Arv Z T313.heap r298_g r298_kg .int (3 : Int32) [(.int l0), (.int l1), (.int l2), (.int (0 : Int32))] (.int (0 : Int32)) := q313_5
      have z317 : n0 ≤ T313.heap.size := (Nat.le_trans z312 K313.1)
      have K318 : Keep h0 T313.heap [] := (Keep.trans (Keep.trans (Keep.trans (Keep.trans K299 K298 (allS (Or.inr sz_b296) all0)) K303 (allS (Or.inr sz_b296) (allS (Or.inr sz_r298_f) (allS (Or.inr sz_r298_g) all0)))) K308 (allS (Or.inr sz_b296) (allS (Or.inr sz_r298_f) (allS (Or.inr sz_r298_g) all0)))) K313 (allS (Or.inr sz_b296) (allS (Or.inr sz_r298_f) (allS (Or.inr sz_r298_g) all0))))
      exact own_tail3 (3 : Int32) b296 r298_f r298_g r298_kf r298_kg (3 : Int32) [(.int (0 : Int32))] [(.int (0 : Int32))] _ _ _ _ _ X313 rfl N313 (by decide) (by decide) z317 K318 q313_0 R314 q313_2 q313_3 R315 R316 (by decide) (by decide) (by decide)
    · rw [hr, (by decide : ((3 : Int32) + (1 : Int32)) = (4 : Int32))]
      show OE _ p e below s _ _ _ s₁ (mkF m 92 #[.val (.int p1), .val (.int p2), .val (.int p3), .val (.int p4), .val (.int p5), .val (.int (3 : Int32)), .val (.int (4 : Int32)), .val (.int f0), .val (.int f1), .val (.int f2), .val (.int l0), .val (.int l1), .val (.int l2), .unset, .unset, .unset] [])
      obtain ⟨T319, h319, X319, e319, E319, A319, D319, -, st319⟩ := newO X0 hx hZ hown (hw _ (List.mem_of_getElem? (i := 0) rfl)) (hw _ (List.mem_of_getElem? (i := 1) rfl)) (hw _ (List.mem_of_getElem? (i := 2) rfl)) e0 (g := (mkF m 92 #[.val (.int p1), .val (.int p2), .val (.int p3), .val (.int p4), .val (.int p5), .val (.int (3 : Int32)), .val (.int (4 : Int32)), .val (.int f0), .val (.int f1), .val (.int f2), .val (.int l0), .val (.int l1), .val (.int l2), .unset, .unset, .unset] [])) rfl (hb hby at_92) (by decide) (by decide)
      refine OE.of st319 ?_
      obtain ⟨b319, g319⟩ : ∃ z, z = h0.size := ⟨_, rfl⟩
      rw [← g319] at A319 D319 ⊢
      have g_b319 : n0 ≤ b319 := Nat.le_trans Z0 (Nat.le_of_eq g319.symm)
      have sz_b319 : h0.size ≤ b319 := Nat.le_trans (Keep.refl h0 []).1 (Nat.le_of_eq g319.symm)
      have F319_frequencies : Fld Z h319 b319 "com/example/corbel/corbel/Peaks" "frequencies" "[I" .null := D319 (Or.inl (hw _ (List.mem_of_getElem? (i := 11) rfl))) (ty := (.array .int)) (by decide)
      have F319_lengths : Fld Z h319 b319 "com/example/corbel/corbel/Peaks" "lengths" "[I" .null := D319 (Or.inl (hw _ (List.mem_of_getElem? (i := 13) rfl))) (ty := (.array .int)) (by decide)
      have F319_count : Fld Z h319 b319 "com/example/corbel/corbel/Peaks" "count" "I" (.int (0 : Int32)) := D319 (Or.inl (hw _ (List.mem_of_getElem? (i := 20) rfl))) (ty := .int) (by decide)
      show OE _ p e below s _ _ _ T319 (mkF m 95 #[.val (.int p1), .val (.int p2), .val (.int p3), .val (.int p4), .val (.int p5), .val (.int (3 : Int32)), .val (.int (4 : Int32)), .val (.int f0), .val (.int f1), .val (.int f2), .val (.int l0), .val (.int l1), .val (.int l2), .unset, .unset, .unset] [(.ref b319)])
      refine OE.dup X319 hx hby at_95 rfl ?_
      refine OE.iload X319 hx hby at_96 rfl ?_
      have z320 : n0 ≤ h319.size := (Nat.le_trans Z0 E319.1)
      obtain ⟨_, _, ⟨T321, L321, k321, n321⟩, -, X321, ⟨Lc321, hQ321, l321, y321, z321⟩, st321⟩ := X319.specialBack hx (y := (⟨"com/example/corbel/corbel/Peaks", "<init>", "(I)V"⟩ : MethodName)) rfl hown (mvT hZ (hw _ (List.mem_of_getElem? (i := 3) rfl))) (mvT hZ (hw _ (List.mem_of_getElem? (i := 4) rfl))) (mvT hZ (hw _ (List.mem_of_getElem? (i := 5) rfl))) (by decide) (backOf (W := 1) (own_rm1 l Z a0 hw [] b319 (4 : Int32) h319 n0 z320 A319 F319_frequencies F319_lengths F319_count g_b319 (by decide) (by decide)) hZ (hw _ (List.mem_of_getElem? (i := 5) rfl)) (hw _ (List.mem_of_getElem? (i := 2) rfl)) (by decide) (by decide)) (g := (mkF m 98 #[.val (.int p1), .val (.int p2), .val (.int p3), .val (.int p4), .val (.int p5), .val (.int (3 : Int32)), .val (.int (4 : Int32)), .val (.int f0), .val (.int f1), .val (.int f2), .val (.int l0), .val (.int l1), .val (.int l2), .unset, .unset, .unset] [(.int (4 : Int32)), (.ref b319), (.ref b319)])) rfl (by rw [hml]; rfl) (Steps.refl _) (a := b319) (argsL := [(.int (4 : Int32))]) (rest := [(.ref b319)]) (lenOf own_pd3 rfl) rfl (by show 2 * 0 + _ ≤ _; exact Nat.le_of_eq rfl) (hb hby at_98) (fun _ _ => ⟨rfl, e319, (by decide : 1 + 2 ≤ _), (by decide : 3 + 8 ≤ _)⟩)
      dsimp only [Pt.U, Pt.locs, Pt.cells, Pt.slots] at X321 l321 y321 z321 st321 hQ321
      subst l321 y321 z321
      obtain ⟨r321_f, r321_g, r321_kf, r321_kg, rfl, Nq321, K321, q321_0, q321_1, q321_2, q321_3, q321_4, q321_5, h321_sf, h321_sg, h321_nfg⟩ := hQ321
      refine OE.of (fun _ k => st321.trans k) ?_
      have N321 := Fr.app N0 Nq321
      have ne_b319_r321_f : b319 ≠ r321_f := Nat.ne_of_lt (Nat.lt_of_lt_of_le A319.lt h321_sf)
      have g_r321_f : n0 ≤ r321_f := Nat.le_trans z320 h321_sf
      have K322 : Keep h0 h319 [] := (Keep.ext (Keep.refl h0 []) E319)
      have sz_r321_f : h0.size ≤ r321_f := Nat.le_trans K322.1 h321_sf
      have ne_b319_r321_g : b319 ≠ r321_g := Nat.ne_of_lt (Nat.lt_of_lt_of_le A319.lt h321_sg)
      have g_r321_g : n0 ≤ r321_g := Nat.le_trans z320 h321_sg
      have sz_r321_g : h0.size ≤ r321_g := Nat.le_trans K322.1 h321_sg
      show OE _ p e below s _ _ _ T321 (mkF m 101 #[.val (.int p1), .val (.int p2), .val (.int p3), .val (.int p4), .val (.int p5), .val (.int (3 : Int32)), .val (.int (4 : Int32)), .val (.int f0), .val (.int f1), .val (.int f2), .val (.int l0), .val (.int l1), .val (.int l2), .unset, .unset, .unset] [(.ref b319)])
      have R323 : Arv Z T321.heap r321_f r321_kf .int (4 : Int32) [(.int (0 : Int32)), (.int (0 : Int32)), (.int (0 : Int32)), (.int (0 : Int32))] (.int (0 : Int32)) := q321_4
      have R324 : Arv Z T321.heap r321_g r321_kg .int (4 : Int32) [(.int (0 : Int32)), (.int (0 : Int32)), (.int (0 : Int32)), (.int (0 : Int32))] (.int (0 : Int32)) := q321_5
      refine OE.astore X321 hx hby at_101 rfl (l' := #[.val (.int p1), .val (.int p2), .val (.int p3), .val (.int p4), .val (.int p5), .val (.int (3 : Int32)), .val (.int (4 : Int32)), .val (.int f0), .val (.int f1), .val (.int f2), .val (.int l0), .val (.int l1), .val (.int l2), .val (.ref b319), .unset, .unset]) rfl ?_
      refine OE.iload X321 hx hby at_103 rfl ?_
      refine OE.iconst X321 hx hby at_105 (1 : Int32) rfl ?_
      refine OE.icmpNo X321 hx hby at_106 (flt (by decide : ¬ ((3 : Int32) < (1 : Int32)))).1 ?_
      refine OE.aload X321 hx hby at_109 rfl rfl ?_
      refine OE.iload X321 hx hby at_111 rfl ?_
      refine OE.iload X321 hx hby at_113 rfl ?_
      have z325 : n0 ≤ T321.heap.size := (Nat.le_trans z320 K321.1)
      obtain ⟨cq326, kq326, qa326, qb326, qc326⟩ := isOf hZ rfl q321_0
      obtain ⟨_, _, ⟨T326, L326, k326, n326⟩, -, X326, ⟨Lc326, hQ326, l326, y326, z326⟩, st326⟩ := X321.virtualBack hx (y := (⟨"com/example/corbel/corbel/Peaks", "append", "(II)V"⟩ : MethodName)) (z := (⟨"com/example/corbel/corbel/Peaks", "append", "(II)V"⟩ : MethodName)) hown (mvT hZ (hw _ (List.mem_of_getElem? (i := 21) rfl))) (mvT hZ (hw _ (List.mem_of_getElem? (i := 22) rfl))) (notFace_of_selects (args := #[]) (mvT hZ (hw _ (List.mem_of_getElem? (i := 24) rfl)))) (mvT hZ (hw _ (List.mem_of_getElem? (i := 24) rfl))) (mvT hZ (hw _ (List.mem_of_getElem? (i := 23) rfl))) (by decide) (backOf (W := 0) (own_rm4_A l Z a0 hw [] b319 f0 l0 r321_f r321_g (0 : Int32) (4 : Int32) r321_kf [(.int (0 : Int32)), (.int (0 : Int32)), (.int (0 : Int32)), (.int (0 : Int32))] r321_kg [(.int (0 : Int32)), (.int (0 : Int32)), (.int (0 : Int32)), (.int (0 : Int32))] T321.heap n0 z325 q321_0 q321_3 q321_1 q321_2 R323 R324 g_b319 g_r321_f g_r321_g (Ne.symm ne_b319_r321_f) (Ne.symm ne_b319_r321_g) h321_nfg (by decide) (by decide) (Nat.le_of_ble_eq_true rfl) (Nat.le_of_ble_eq_true rfl)) hZ (hw _ (List.mem_of_getElem? (i := 25) rfl)) (hw _ (List.mem_of_getElem? (i := 2) rfl)) (by decide) (by decide)) qa326 qc326 (g := (mkF m 115 #[.val (.int p1), .val (.int p2), .val (.int p3), .val (.int p4), .val (.int p5), .val (.int (3 : Int32)), .val (.int (4 : Int32)), .val (.int f0), .val (.int f1), .val (.int f2), .val (.int l0), .val (.int l1), .val (.int l2), .val (.ref b319), .unset, .unset] [(.int l0), (.int f0), (.ref b319)])) rfl (by rw [hml]; rfl) (Steps.refl _) (argsL := [(.int f0), (.int l0)]) (rest := []) (lenOf own_pd5 rfl) rfl (by show 2 * 0 + _ ≤ _; exact Nat.le_of_eq rfl) (hb hby at_115) (fun _ _ => ⟨rfl, rfl, (by decide : 3 + 0 ≤ _), (by decide : 11 + 0 ≤ _)⟩)
      dsimp only [Pt.U, Pt.locs, Pt.cells, Pt.slots] at X326 l326 y326 z326 st326 hQ326
      subst l326 y326 z326
      obtain ⟨rfl, Nq326, K326, q326_0, q326_1, q326_2, q326_3, q326_4, q326_5⟩ := hQ326
      refine OE.of (fun _ k => st326.trans k) ?_
      have N326 := Fr.app N321 Nq326
      show OE _ p e below s _ _ _ T326 (mkF m 118 #[.val (.int p1), .val (.int p2), .val (.int p3), .val (.int p4), .val (.int p5), .val (.int (3 : Int32)), .val (.int (4 : Int32)), .val (.int f0), .val (.int f1), .val (.int f2), .val (.int l0), .val (.int l1), .val (.int l2), .val (.ref b319), .unset, .unset] [])
      have R327 : Fld Z T326.heap b319 "com/example/corbel/corbel/Peaks" "count" "I" (.int (1 : Int32)) := q326_1
      have R328 : Arv Z T326.heap r321_f r321_kf .int (4 : Int32) [(.int f0), (.int (0 : Int32)), (.int (0 : Int32)), (.int (0 : Int32))] (.int (0 : Int32)) := q326_4
      have R329 : Arv Z T326.heap r321_g r321_kg .int (4 : Int32) [(.int l0), (.int (0 : Int32)), (.int (0 : Int32)), (.int (0 : Int32))] (.int (0 : Int32)) := q326_5
      refine OE.iload X326 hx hby at_118 rfl ?_
      refine OE.iconst X326 hx hby at_120 (2 : Int32) rfl ?_
      refine OE.icmpNo X326 hx hby at_121 (flt (by decide : ¬ ((3 : Int32) < (2 : Int32)))).1 ?_
      refine OE.aload X326 hx hby at_124 rfl rfl ?_
      refine OE.iload X326 hx hby at_126 rfl ?_
      refine OE.iload X326 hx hby at_128 rfl ?_
      have z330 : n0 ≤ T326.heap.size := (Nat.le_trans z325 K326.1)
      obtain ⟨cq331, kq331, qa331, qb331, qc331⟩ := isOf hZ rfl q326_0
      obtain ⟨_, _, ⟨T331, L331, k331, n331⟩, -, X331, ⟨Lc331, hQ331, l331, y331, z331⟩, st331⟩ := X326.virtualBack hx (y := (⟨"com/example/corbel/corbel/Peaks", "append", "(II)V"⟩ : MethodName)) (z := (⟨"com/example/corbel/corbel/Peaks", "append", "(II)V"⟩ : MethodName)) hown (mvT hZ (hw _ (List.mem_of_getElem? (i := 21) rfl))) (mvT hZ (hw _ (List.mem_of_getElem? (i := 22) rfl))) (notFace_of_selects (args := #[]) (mvT hZ (hw _ (List.mem_of_getElem? (i := 24) rfl)))) (mvT hZ (hw _ (List.mem_of_getElem? (i := 24) rfl))) (mvT hZ (hw _ (List.mem_of_getElem? (i := 23) rfl))) (by decide) (backOf (W := 0) (own_rm4_A l Z a0 hw [] b319 f1 l1 r321_f r321_g (1 : Int32) (4 : Int32) r321_kf [(.int f0), (.int (0 : Int32)), (.int (0 : Int32)), (.int (0 : Int32))] r321_kg [(.int l0), (.int (0 : Int32)), (.int (0 : Int32)), (.int (0 : Int32))] T326.heap n0 z330 q326_0 R327 q326_2 q326_3 R328 R329 g_b319 g_r321_f g_r321_g (Ne.symm ne_b319_r321_f) (Ne.symm ne_b319_r321_g) h321_nfg (by decide) (by decide) (Nat.le_of_ble_eq_true rfl) (Nat.le_of_ble_eq_true rfl)) hZ (hw _ (List.mem_of_getElem? (i := 25) rfl)) (hw _ (List.mem_of_getElem? (i := 2) rfl)) (by decide) (by decide)) qa331 qc331 (g := (mkF m 130 #[.val (.int p1), .val (.int p2), .val (.int p3), .val (.int p4), .val (.int p5), .val (.int (3 : Int32)), .val (.int (4 : Int32)), .val (.int f0), .val (.int f1), .val (.int f2), .val (.int l0), .val (.int l1), .val (.int l2), .val (.ref b319), .unset, .unset] [(.int l1), (.int f1), (.ref b319)])) rfl (by rw [hml]; rfl) (Steps.refl _) (argsL := [(.int f1), (.int l1)]) (rest := []) (lenOf own_pd5 rfl) rfl (by show 2 * 0 + _ ≤ _; exact Nat.le_of_eq rfl) (hb hby at_130) (fun _ _ => ⟨rfl, rfl, (by decide : 3 + 0 ≤ _), (by decide : 11 + 0 ≤ _)⟩)
      dsimp only [Pt.U, Pt.locs, Pt.cells, Pt.slots] at X331 l331 y331 z331 st331 hQ331
      subst l331 y331 z331
      obtain ⟨rfl, Nq331, K331, q331_0, q331_1, q331_2, q331_3, q331_4, q331_5⟩ := hQ331
      refine OE.of (fun _ k => st331.trans k) ?_
      have N331 := Fr.app N326 Nq331
      show OE _ p e below s _ _ _ T331 (mkF m 133 #[.val (.int p1), .val (.int p2), .val (.int p3), .val (.int p4), .val (.int p5), .val (.int (3 : Int32)), .val (.int (4 : Int32)), .val (.int f0), .val (.int f1), .val (.int f2), .val (.int l0), .val (.int l1), .val (.int l2), .val (.ref b319), .unset, .unset] [])
      have R332 : Fld Z T331.heap b319 "com/example/corbel/corbel/Peaks" "count" "I" (.int (2 : Int32)) := q331_1
      have R333 : Arv Z T331.heap r321_f r321_kf .int (4 : Int32) [(.int f0), (.int f1), (.int (0 : Int32)), (.int (0 : Int32))] (.int (0 : Int32)) := q331_4
      have R334 : Arv Z T331.heap r321_g r321_kg .int (4 : Int32) [(.int l0), (.int l1), (.int (0 : Int32)), (.int (0 : Int32))] (.int (0 : Int32)) := q331_5
      refine OE.iload X331 hx hby at_133 rfl ?_
      refine OE.iconst X331 hx hby at_135 (3 : Int32) rfl ?_
      refine OE.icmpNo X331 hx hby at_136 (flt (by decide : ¬ ((3 : Int32) < (3 : Int32)))).1 ?_
      refine OE.aload X331 hx hby at_139 rfl rfl ?_
      refine OE.iload X331 hx hby at_141 rfl ?_
      refine OE.iload X331 hx hby at_143 rfl ?_
      have z335 : n0 ≤ T331.heap.size := (Nat.le_trans z330 K331.1)
      obtain ⟨cq336, kq336, qa336, qb336, qc336⟩ := isOf hZ rfl q331_0
      obtain ⟨_, _, ⟨T336, L336, k336, n336⟩, -, X336, ⟨Lc336, hQ336, l336, y336, z336⟩, st336⟩ := X331.virtualBack hx (y := (⟨"com/example/corbel/corbel/Peaks", "append", "(II)V"⟩ : MethodName)) (z := (⟨"com/example/corbel/corbel/Peaks", "append", "(II)V"⟩ : MethodName)) hown (mvT hZ (hw _ (List.mem_of_getElem? (i := 21) rfl))) (mvT hZ (hw _ (List.mem_of_getElem? (i := 22) rfl))) (notFace_of_selects (args := #[]) (mvT hZ (hw _ (List.mem_of_getElem? (i := 24) rfl)))) (mvT hZ (hw _ (List.mem_of_getElem? (i := 24) rfl))) (mvT hZ (hw _ (List.mem_of_getElem? (i := 23) rfl))) (by decide) (backOf (W := 0) (own_rm4_A l Z a0 hw [] b319 f2 l2 r321_f r321_g (2 : Int32) (4 : Int32) r321_kf [(.int f0), (.int f1), (.int (0 : Int32)), (.int (0 : Int32))] r321_kg [(.int l0), (.int l1), (.int (0 : Int32)), (.int (0 : Int32))] T331.heap n0 z335 q331_0 R332 q331_2 q331_3 R333 R334 g_b319 g_r321_f g_r321_g (Ne.symm ne_b319_r321_f) (Ne.symm ne_b319_r321_g) h321_nfg (by decide) (by decide) (Nat.le_of_ble_eq_true rfl) (Nat.le_of_ble_eq_true rfl)) hZ (hw _ (List.mem_of_getElem? (i := 25) rfl)) (hw _ (List.mem_of_getElem? (i := 2) rfl)) (by decide) (by decide)) qa336 qc336 (g := (mkF m 145 #[.val (.int p1), .val (.int p2), .val (.int p3), .val (.int p4), .val (.int p5), .val (.int (3 : Int32)), .val (.int (4 : Int32)), .val (.int f0), .val (.int f1), .val (.int f2), .val (.int l0), .val (.int l1), .val (.int l2), .val (.ref b319), .unset, .unset] [(.int l2), (.int f2), (.ref b319)])) rfl (by rw [hml]; rfl) (Steps.refl _) (argsL := [(.int f2), (.int l2)]) (rest := []) (lenOf own_pd5 rfl) rfl (by show 2 * 0 + _ ≤ _; exact Nat.le_of_eq rfl) (hb hby at_145) (fun _ _ => ⟨rfl, rfl, (by decide : 3 + 0 ≤ _), (by decide : 11 + 0 ≤ _)⟩)
      dsimp only [Pt.U, Pt.locs, Pt.cells, Pt.slots] at X336 l336 y336 z336 st336 hQ336
      subst l336 y336 z336
      obtain ⟨rfl, Nq336, K336, q336_0, q336_1, q336_2, q336_3, q336_4, q336_5⟩ := hQ336
      refine OE.of (fun _ k => st336.trans k) ?_
      have N336 := Fr.app N331 Nq336
      show OE _ p e below s _ _ _ T336 (mkF m 148 #[.val (.int p1), .val (.int p2), .val (.int p3), .val (.int p4), .val (.int p5), .val (.int (3 : Int32)), .val (.int (4 : Int32)), .val (.int f0), .val (.int f1), .val (.int f2), .val (.int l0), .val (.int l1), .val (.int l2), .val (.ref b319), .unset, .unset] [])
      have R337 : Fld Z T336.heap b319 "com/example/corbel/corbel/Peaks" "count" "I" (.int (3 : Int32)) := q336_1
      have R338 : Arv Z T336.heap r321_f r321_kf .int (4 : Int32) [(.int f0), (.int f1), (.int f2), (.int (0 : Int32))] (.int (0 : Int32)) := q336_4
      have R339 : Arv Z T336.heap r321_g r321_kg .int (4 : Int32) [(.int l0), (.int l1), (.int l2), (.int (0 : Int32))] (.int (0 : Int32)) := q336_5
      have z340 : n0 ≤ T336.heap.size := (Nat.le_trans z335 K336.1)
      have K341 : Keep h0 T336.heap [] := (Keep.trans (Keep.trans (Keep.trans (Keep.trans K322 K321 (allS (Or.inr sz_b319) all0)) K326 (allS (Or.inr sz_b319) (allS (Or.inr sz_r321_f) (allS (Or.inr sz_r321_g) all0)))) K331 (allS (Or.inr sz_b319) (allS (Or.inr sz_r321_f) (allS (Or.inr sz_r321_g) all0)))) K336 (allS (Or.inr sz_b319) (allS (Or.inr sz_r321_f) (allS (Or.inr sz_r321_g) all0))))
      exact own_tail3 (4 : Int32) b319 r321_f r321_g r321_kf r321_kg (4 : Int32) [(.int (0 : Int32))] [(.int (0 : Int32))] _ _ _ _ _ X336 rfl N336 (by decide) (by decide) z340 K341 q336_0 R337 q336_2 q336_3 R338 R339 (by decide) (by decide) (by decide)
set_option maxRecDepth 65536 in
set_option maxHeartbeats 40000000 in
theorem comes_1 {Post : Tables → Env → Array Value → State → Outcome → State → Prop} (hpost : ∀ tb e args s v u, (limb_1_1.after args s (.returned v) u = true ∧ limb_1_2.after args s (.returned v) u = true ∧ True) → FrameEnd s (.returned v) u (Jvm.fieldLocs frame_1_writes args s ++ Jvm.arrayLocs frame_1_arrays args s ++ Jvm.staticLocs frame_1_statics s) 24 128 → Post tb e args s (.returned v) u) :
    ArmFor flags0 classFile x code maxLocals ret World_1 tables_1 room_1 Calls_1 rest_1 Pre_1 Post := by
  intro l hfl _ _ p e ha hc hk s m args below hf hA hF happ hP
  obtain ⟨hcalls, hrest, hpre⟩ := hP
  obtain ⟨-, -, -, hnamed, -, -, -, hat⟩ := (Spec.applies_iff hf).mp happ
  obtain ⟨hg, hn⟩ := and_e (Cond.before_iff.mp (show (Jvm.Cond.and given_1 narrow_1).before args s = true from hpre))
  obtain ⟨g1, g2⟩ := and_e hg
  obtain ⟨g3, g4⟩ := and_e g2
  obtain ⟨g5, g6⟩ := and_e g4
  obtain ⟨g7, g8⟩ := and_e g6
  obtain ⟨g9, g10⟩ := and_e g8
  obtain ⟨w0, w1, w2, w3, w4, rfl⟩ : ∃ w0 w1 w2 w3 w4 : Value, args = #[w0, w1, w2, w3, w4] := by
    have hs : args.size = 5 := by simpa [Cond.value, given_1] using g1
    obtain ⟨L⟩ := args
    match L, hs with
    | [w0, w1, w2, w3, w4], _ => exact ⟨w0, w1, w2, w3, w4, rfl⟩
  have hw := fun d (hd : d ∈ tables_1) => atoms_spec (ws := Jvm.Cond.code x code maxLocals ret :: tables_1) hat d (List.mem_cons_of_mem _ hd)
  have hfit : Fit s := fun {y c} hc i hi => by
    obtain ⟨ha, rfl⟩ := Array.getElem?_eq_some_iff.mp hc
    have q := List.all_eq_true.mp ((Array.all_eq_true_iff_forall_mem.mp hF) _ (Array.getElem_mem ha)) i (List.mem_range.mpr hi)
    simpa [Array.getElem?_eq_getElem hi] using q
  obtain ⟨i0, ei0⟩ := is_v g3
  obtain rfl : w0 = (.int i0) := Option.some.inj ei0
  obtain ⟨i1, ei1⟩ := is_v g5
  obtain rfl : w1 = (.int i1) := Option.some.inj ei1
  obtain ⟨i2, ei2⟩ := is_v g7
  obtain rfl : w2 = (.int i2) := Option.some.inj ei2
  obtain ⟨i3, ei3⟩ := is_v g9
  obtain rfl : w3 = (.int i3) := Option.some.inj ei3
  obtain ⟨i4, ei4⟩ := is_v g10
  obtain rfl : w4 = (.int i4) := Option.some.inj ei4
  obtain ⟨n, o, h1, h2, h3, _, L, rfl, ⟨rfl, N⟩, hq⟩ := own_rm0 l s _ hw tables_1 i0 i1 i2 i3 i4 s.heap s.heap.size (Nat.le_refl _)  p e ha hc hk s m _ below hf ((Spec.applies_iff_loose hf).mp happ).1 ⟨rfl, State.Warmed39.refl s, rfl⟩ trivial
  refine ⟨n, _, h1, h2, h3, hpost _ _ _ _ _ _ ⟨Cond.after_iff.mpr rfl, Cond.after_iff.mpr (eq_i res_at (Term.int_eval (1)) rfl), trivial⟩ ⟨hq.1, hq.2.1, (hq.2.2.sift fun y hy => Or.inr (N y hy)).mono (by decide) (by decide)⟩⟩
theorem main_1_1 : Claimed_1_1 := comes_1 fun _ _ _ _ _ _ h hF => ⟨h.1, hF⟩
theorem main_1_2 : Claimed_1_2 := comes_1 fun _ _ _ _ _ _ h hF => ⟨h.2.1, hF⟩
end Jvm.Pilot.@@N@@
namespace Jvm.Pilot.@@N@@
open Jvm Jvm.ClassFile Sem Op Lib Jvm.Free Jvm.Stand Jvm.Pilot.@@N@@.Jvm.D
/-! MADE BY PROGRAM (witnessworld.py) out of the Statement's table words and the real class files: 12 classes; the members and pool entries that the words name. The judged class is class 1, her method 2. -/
namespace start1
open Jvm.ClassFile
def u (s : String) : CpInfo := .utf8 (stringToUtf16 s)
/-- a pool by its gaps: so many unusable entries, then the entry; so many at the end -/
def gap : Nat → List CpInfo → List CpInfo
  | 0, r => r
  | n + 1, r => .unusable :: gap n r
def poolList (es : List (Nat × CpInfo)) (last : Nat) : List CpInfo := es.foldr (fun e r => gap e.1 (e.2 :: r)) (gap last [])
def pool (es : List (Nat × CpInfo)) (last : Nat) : Array CpInfo := ⟨poolList es last⟩
def fileOf (pool : Array CpInfo) (this : Nat) (attrs : Array Attribute := #[]) (ms : Array MethodInfo := #[]) (fl : Nat := 33) (sup : Nat := 0) (ifs : Array Nat := #[]) (fds : Array FieldInfo := #[]) : ClassFile where
  minorVersion := 0
  majorVersion := 65
  constantPool := pool
  accessFlags := fl
  thisClass := this
  superClass := sup
  interfaces := ifs
  fields := fds
  methods := ms
  attributes := attrs
def plain (name : String) (sup : Option ClassId) : Class where
  name := name
  kind := .ordinary
  loader := none
  accessFlags := 33
  super := sup
  interfaces := #[]
  cf := none
  fields := #[]
  methods := #[]
  instanceTypes := #[]
  staticTypes := #[]
  resolved := #[]
  callSites := []
  init := .initialized
  statics := none
  mirror := none

def pool0 : Array CpInfo := pool [(5, u "<init>"), (0, u "()V"), (1, .class_ 10), (1, u "java/lang/Object")] 113

def k0c0 : Code := { maxStack := 0, maxLocals := 1, code := object_method_1_code, exceptionTable := #[], attributes := #[] }
def k0m0 : Method := { name := "<init>", desc := "()V", sig := { parameters := [], returnType := none }, accessFlags := 1, code := some k0c0 }
/-- java/lang/Object -/
def k0 : Class := { plain "java/lang/Object" none with
  accessFlags := 33
  interfaces := #[]
  cf := some (fileOf pool0 8 #[] #[{ accessFlags := 1, nameIndex := 5, descriptorIndex := 6, attributes := #[] }] 33 0 #[] #[])
  fields := #[]
  methods := #[k0m0]
  instanceTypes := #[]
  staticTypes := #[]
  resolved := Array.replicate 124 none
  statics := none }

def pool1 : Array CpInfo := pool [(2, .class_ 4), (1, u "java/lang/Object"), (0, u "<init>"), (0, u "()V"), (0, .class_ 8), (0, u "com/example/corbel/corbel/Peaks"), (0, .methodref 7 10), (0, .nameAndType 5 11), (0, u "(I)V"), (0, .methodref 7 13), (0, .nameAndType 14 15), (0, u "append"), (0, u "(II)V"), (0, .methodref 7 17), (0, .nameAndType 18 19), (0, u "bound"), (0, u "(II)Z"), (0, .methodref 21 22), (0, .class_ 23), (0, .nameAndType 24 25), (0, u "com/example/corbel/corbel/PeaksBoundPinLaw"), (0, u "covers"), (0, u "(IIII)Z"), (3, u "law"), (0, u "(IIIII)Z")] 2

def k1m0 : Method := { name := "<init>", desc := "()V", sig := { parameters := [], returnType := none }, accessFlags := 1, code := none }
def k1c1 : Code := { maxStack := 2, maxLocals := 4, code := method_2_code, exceptionTable := #[], attributes := #[] }
def k1m1 : Method := { name := "covers", desc := "(IIII)Z", sig := { parameters := [.int, .int, .int, .int], returnType := some .boolean }, accessFlags := 10, code := some k1c1 }
def k1c2 : Code := { maxStack := 4, maxLocals := 16, code := code, exceptionTable := #[], attributes := #[] }
def k1m2 : Method := { name := "law", desc := "(IIIII)Z", sig := { parameters := [.int, .int, .int, .int, .int], returnType := some .boolean }, accessFlags := 9, code := some k1c2 }
/-- com/example/corbel/corbel/PeaksBoundPinLaw -/
def k1 : Class := { plain "com/example/corbel/corbel/PeaksBoundPinLaw" (some 0) with
  accessFlags := 49
  interfaces := #[]
  cf := some (fileOf pool1 21 #[] #[{ accessFlags := 1, nameIndex := 5, descriptorIndex := 6, attributes := #[] }, { accessFlags := 10, nameIndex := 24, descriptorIndex := 25, attributes := #[] }, { accessFlags := 9, nameIndex := 29, descriptorIndex := 30, attributes := #[] }] 49 2 #[] #[])
  fields := #[]
  methods := #[k1m0, k1m1, k1m2]
  instanceTypes := #[]
  staticTypes := #[]
  resolved := Array.replicate 33 none
  statics := none }

def pool2 : Array CpInfo := pool [(2, .class_ 4), (1, u "com/example/corbel/corbel/Peaks"), (0, u "<init>"), (0, u "(I)V"), (0, .methodref 8 9), (0, .class_ 10), (0, .nameAndType 5 11), (0, u "java/lang/Object"), (0, u "()V"), (0, .fieldref 2 13), (0, .nameAndType 14 15), (0, u "frequencies"), (0, u "[I"), (0, .fieldref 2 17), (0, .nameAndType 18 15), (0, u "lengths"), (0, .fieldref 2 20), (0, .nameAndType 21 22), (0, u "count"), (0, u "I"), (0, .methodref 24 25), (0, .class_ 26), (0, .nameAndType 27 28), (0, u "java/util/Arrays"), (0, u "copyOf"), (0, u "([II)[I"), (17, u "(II)V"), (3, u "append"), (4, u "bound"), (0, u "(II)Z")] 2

def k2m0 : Method := { name := "<init>", desc := "()V", sig := { parameters := [], returnType := none }, accessFlags := 0, code := none }
def k2c1 : Code := { maxStack := 2, maxLocals := 2, code := prog_131_method_2_code, exceptionTable := #[], attributes := #[] }
def k2m1 : Method := { name := "<init>", desc := "(I)V", sig := { parameters := [.int], returnType := none }, accessFlags := 0, code := some k2c1 }
def k2c2 : Code := { maxStack := 4, maxLocals := 3, code := prog_131_method_6_code, exceptionTable := #[], attributes := #[] }
def k2m2 : Method := { name := "append", desc := "(II)V", sig := { parameters := [.int, .int], returnType := none }, accessFlags := 0, code := some k2c2 }
def k2c3 : Code := { maxStack := 2, maxLocals := 4, code := prog_131_method_10_code, exceptionTable := #[], attributes := #[] }
def k2m3 : Method := { name := "bound", desc := "(II)Z", sig := { parameters := [.int, .int], returnType := some .boolean }, accessFlags := 0, code := some k2c3 }
/-- com/example/corbel/corbel/Peaks -/
def k2 : Class := { plain "com/example/corbel/corbel/Peaks" (some 0) with
  accessFlags := 48
  interfaces := #[]
  cf := some (fileOf pool2 2 #[] #[{ accessFlags := 0, nameIndex := 5, descriptorIndex := 11, attributes := #[] }, { accessFlags := 0, nameIndex := 5, descriptorIndex := 6, attributes := #[] }, { accessFlags := 0, nameIndex := 50, descriptorIndex := 46, attributes := #[] }, { accessFlags := 0, nameIndex := 55, descriptorIndex := 56, attributes := #[] }] 48 8 #[] #[{ accessFlags := 2, nameIndex := 14, descriptorIndex := 15, attributes := #[] }, { accessFlags := 2, nameIndex := 18, descriptorIndex := 15, attributes := #[] }, { accessFlags := 2, nameIndex := 21, descriptorIndex := 22, attributes := #[] }])
  fields := #[{ name := "frequencies", type := (.array .int), accessFlags := 2, slot := 0, constantValue := 0 }, { name := "lengths", type := (.array .int), accessFlags := 2, slot := 1, constantValue := 0 }, { name := "count", type := .int, accessFlags := 2, slot := 2, constantValue := 0 }]
  methods := #[k2m0, k2m1, k2m2, k2m3]
  instanceTypes := #[(.array .int), (.array .int), .int]
  staticTypes := #[]
  resolved := Array.replicate 59 none
  statics := none }

def pool3 : Array CpInfo := pool [(2, .class_ 4), (1, u "java/lang/Object"), (0, u "<init>"), (0, u "()V"), (7, .class_ 16), (1, u "java/util/Arrays"), (57, .class_ 76), (1, u "java/util/Arrays$NaturalOrder"), (36, .class_ 115), (1, u "java/util/Arrays$LegacyMergeSort"), (1, u "Z"), (32, .methodref 151 152), (0, .class_ 153), (0, .nameAndType 154 155), (0, u "java/lang/System"), (0, u "arraycopy"), (0, u "(Ljava/lang/Object;ILjava/lang/Object;II)V"), (146, u "copyOf"), (1, .methodref 305 306), (0, .class_ 307), (0, .nameAndType 308 309), (0, u "java/lang/Math"), (0, u "min"), (0, u "(II)I"), (65, .class_ 376), (0, u "java/util/Arrays$ArrayList"), (68, u "$assertionsDisabled"), (269, u "MIN_ARRAY_SORT_GRAN"), (0, u "I"), (2, u "INSERTIONSORT_THRESHOLD"), (151, u "([II)[I"), (103, .class_ 976), (0, u "java/util/Arrays$ArrayItr")] 52

def k3m0 : Method := { name := "<init>", desc := "()V", sig := { parameters := [], returnType := none }, accessFlags := 2, code := none }
def k3c1 : Code := { maxStack := 6, maxLocals := 3, code := jdk_65_method_123_code, exceptionTable := #[], attributes := #[] }
def k3m1 : Method := { name := "copyOf", desc := "([II)[I", sig := { parameters := [(.array .int), .int], returnType := some (.array .int) }, accessFlags := 9, code := some k3c1 }
/-- java/util/Arrays -/
def k3 : Class := { plain "java/util/Arrays" (some 0) with
  accessFlags := 49
  interfaces := #[]
  cf := some (fileOf pool3 14 #[.nestMembers #[975, 375, 113, 74]] #[{ accessFlags := 2, nameIndex := 5, descriptorIndex := 6, attributes := #[] }, { accessFlags := 9, nameIndex := 302, descriptorIndex := 871, attributes := #[] }] 49 2 #[] #[{ accessFlags := 26, nameIndex := 715, descriptorIndex := 716, attributes := #[] }, { accessFlags := 26, nameIndex := 719, descriptorIndex := 716, attributes := #[] }, { accessFlags := 4120, nameIndex := 445, descriptorIndex := 117, attributes := #[] }])
  fields := #[{ name := "MIN_ARRAY_SORT_GRAN", type := .int, accessFlags := 26, slot := 0, constantValue := 0 }, { name := "INSERTIONSORT_THRESHOLD", type := .int, accessFlags := 26, slot := 1, constantValue := 0 }, { name := "$assertionsDisabled", type := .boolean, accessFlags := 4120, slot := 2, constantValue := 0 }]
  methods := #[k3m0, k3m1]
  instanceTypes := #[]
  staticTypes := #[.int, .int, .boolean]
  resolved := Array.replicate 1029 none
  statics := none }

def pool4 : Array CpInfo := pool [(1, .class_ 2), (0, u "java/lang/Math"), (1, .class_ 6), (1, u "java/lang/Object"), (0, u "<init>"), (0, u "()V"), (89, .class_ 100), (1, u "java/lang/Math$RandomNumberGeneratorHolder"), (71, u "negativeZeroFloatBits"), (0, u "J"), (2, u "negativeZeroDoubleBits"), (24, u "min"), (43, u "$assertionsDisabled"), (0, u "Z"), (88, u "(II)I"), (2, u "twoToTheDoubleScaleDown"), (0, u "D"), (4, u "twoToTheDoubleScaleUp"), (9, u "E"), (3, u "PI"), (2, u "TAU"), (2, u "DEGREES_TO_RADIANS"), (0, u "RADIANS_TO_DEGREES")] 94

def k4m0 : Method := { name := "<init>", desc := "()V", sig := { parameters := [], returnType := none }, accessFlags := 2, code := none }
def k4c1 : Code := { maxStack := 2, maxLocals := 2, code := jdk_29_method_69_code, exceptionTable := #[], attributes := #[] }
def k4m1 : Method := { name := "min", desc := "(II)I", sig := { parameters := [.int, .int], returnType := some .int }, accessFlags := 9, code := some k4c1 }
/-- java/lang/Math -/
def k4 : Class := { plain "java/lang/Math" (some 0) with
  accessFlags := 49
  interfaces := #[]
  cf := some (fileOf pool4 1 #[.nestMembers #[98]] #[{ accessFlags := 2, nameIndex := 7, descriptorIndex := 8, attributes := #[] }, { accessFlags := 9, nameIndex := 201, descriptorIndex := 335, attributes := #[] }] 49 4 #[] #[{ accessFlags := 25, nameIndex := 354, descriptorIndex := 339, attributes := #[] }, { accessFlags := 25, nameIndex := 358, descriptorIndex := 339, attributes := #[] }, { accessFlags := 25, nameIndex := 361, descriptorIndex := 339, attributes := #[] }, { accessFlags := 26, nameIndex := 364, descriptorIndex := 339, attributes := #[] }, { accessFlags := 26, nameIndex := 365, descriptorIndex := 339, attributes := #[] }, { accessFlags := 26, nameIndex := 172, descriptorIndex := 173, attributes := #[] }, { accessFlags := 26, nameIndex := 176, descriptorIndex := 173, attributes := #[] }, { accessFlags := 8, nameIndex := 344, descriptorIndex := 339, attributes := #[] }, { accessFlags := 8, nameIndex := 338, descriptorIndex := 339, attributes := #[] }, { accessFlags := 4120, nameIndex := 245, descriptorIndex := 246, attributes := #[] }])
  fields := #[{ name := "E", type := .double, accessFlags := 25, slot := 0, constantValue := 0 }, { name := "PI", type := .double, accessFlags := 25, slot := 1, constantValue := 0 }, { name := "TAU", type := .double, accessFlags := 25, slot := 2, constantValue := 0 }, { name := "DEGREES_TO_RADIANS", type := .double, accessFlags := 26, slot := 3, constantValue := 0 }, { name := "RADIANS_TO_DEGREES", type := .double, accessFlags := 26, slot := 4, constantValue := 0 }, { name := "negativeZeroFloatBits", type := .long, accessFlags := 26, slot := 5, constantValue := 0 }, { name := "negativeZeroDoubleBits", type := .long, accessFlags := 26, slot := 6, constantValue := 0 }, { name := "twoToTheDoubleScaleUp", type := .double, accessFlags := 8, slot := 7, constantValue := 0 }, { name := "twoToTheDoubleScaleDown", type := .double, accessFlags := 8, slot := 8, constantValue := 0 }, { name := "$assertionsDisabled", type := .boolean, accessFlags := 4120, slot := 9, constantValue := 0 }]
  methods := #[k4m0, k4m1]
  instanceTypes := #[]
  staticTypes := #[.double, .double, .double, .double, .double, .long, .long, .double, .double, .boolean]
  resolved := Array.replicate 460 none
  statics := none }

def pool5 : Array CpInfo := pool [(2, .class_ 4), (1, u "java/lang/Object"), (0, u "<init>"), (0, u "()V"), (1, .class_ 10), (1, u "java/lang/System"), (0, u "allowSecurityManager"), (0, u "I"), (16, u "cons"), (0, u "Ljava/io/Console;"), (77, .class_ 110), (1, u "java/lang/System$CallersHolder"), (43, u "initialErrStream"), (0, u "Ljava/io/PrintStream;"), (19, u "security"), (0, u "Ljava/lang/SecurityManager;"), (31, .class_ 209), (0, u "java/lang/System$1"), (7, u "props"), (0, u "Ljava/util/Properties;"), (2, u "lineSeparator"), (0, u "Ljava/lang/String;"), (96, .class_ 321), (1, u "java/lang/System$LoggerFinder"), (5, .class_ 328), (0, u "java/lang/System$Logger"), (67, u "err"), (2, u "out"), (91, u "notSupportedJnuEncoding"), (15, u "in"), (17, u "initialIn"), (0, u "Ljava/io/InputStream;"), (35, u "bootLayer"), (0, u "Ljava/lang/ModuleLayer;"), (99, .class_ 664), (0, u "java/lang/System$2"), (9, u "NEVER"), (2, u "MAYBE"), (49, u "arraycopy"), (0, u "(Ljava/lang/Object;ILjava/lang/Object;II)V"), (72, .class_ 802), (0, u "java/lang/System$Logger$Level")] 31

def k5m0 : Method := { name := "<init>", desc := "()V", sig := { parameters := [], returnType := none }, accessFlags := 2, code := none }
def k5m1 : Method := { name := "arraycopy", desc := "(Ljava/lang/Object;ILjava/lang/Object;II)V", sig := { parameters := [(.object "java/lang/Object"), .int, (.object "java/lang/Object"), .int, .int], returnType := none }, accessFlags := 265, code := none }
/-- java/lang/System -/
def k5 : Class := { plain "java/lang/System" (some 0) with
  accessFlags := 49
  interfaces := #[]
  cf := some (fileOf pool5 8 #[.nestMembers #[319, 327, 801, 108, 663, 208]] #[{ accessFlags := 2, nameIndex := 5, descriptorIndex := 6, attributes := #[] }, { accessFlags := 265, nameIndex := 727, descriptorIndex := 728, attributes := #[] }] 49 2 #[] #[{ accessFlags := 25, nameIndex := 507, descriptorIndex := 526, attributes := #[] }, { accessFlags := 25, nameIndex := 399, descriptorIndex := 155, attributes := #[] }, { accessFlags := 25, nameIndex := 396, descriptorIndex := 155, attributes := #[] }, { accessFlags := 10, nameIndex := 525, descriptorIndex := 526, attributes := #[] }, { accessFlags := 26, nameIndex := 674, descriptorIndex := 12, attributes := #[] }, { accessFlags := 26, nameIndex := 677, descriptorIndex := 12, attributes := #[] }, { accessFlags := 10, nameIndex := 11, descriptorIndex := 12, attributes := #[] }, { accessFlags := 74, nameIndex := 175, descriptorIndex := 176, attributes := #[] }, { accessFlags := 10, nameIndex := 491, descriptorIndex := 222, attributes := #[] }, { accessFlags := 74, nameIndex := 29, descriptorIndex := 30, attributes := #[] }, { accessFlags := 74, nameIndex := 154, descriptorIndex := 155, attributes := #[] }, { accessFlags := 10, nameIndex := 217, descriptorIndex := 218, attributes := #[] }, { accessFlags := 10, nameIndex := 221, descriptorIndex := 222, attributes := #[] }, { accessFlags := 8, nameIndex := 562, descriptorIndex := 563, attributes := #[] }])
  fields := #[{ name := "in", type := (.object "java/io/InputStream"), accessFlags := 25, slot := 0, constantValue := 0 }, { name := "out", type := (.object "java/io/PrintStream"), accessFlags := 25, slot := 1, constantValue := 0 }, { name := "err", type := (.object "java/io/PrintStream"), accessFlags := 25, slot := 2, constantValue := 0 }, { name := "initialIn", type := (.object "java/io/InputStream"), accessFlags := 10, slot := 3, constantValue := 0 }, { name := "NEVER", type := .int, accessFlags := 26, slot := 4, constantValue := 0 }, { name := "MAYBE", type := .int, accessFlags := 26, slot := 5, constantValue := 0 }, { name := "allowSecurityManager", type := .int, accessFlags := 10, slot := 6, constantValue := 0 }, { name := "security", type := (.object "java/lang/SecurityManager"), accessFlags := 74, slot := 7, constantValue := 0 }, { name := "notSupportedJnuEncoding", type := (.object "java/lang/String"), accessFlags := 10, slot := 8, constantValue := 0 }, { name := "cons", type := (.object "java/io/Console"), accessFlags := 74, slot := 9, constantValue := 0 }, { name := "initialErrStream", type := (.object "java/io/PrintStream"), accessFlags := 74, slot := 10, constantValue := 0 }, { name := "props", type := (.object "java/util/Properties"), accessFlags := 10, slot := 11, constantValue := 0 }, { name := "lineSeparator", type := (.object "java/lang/String"), accessFlags := 10, slot := 12, constantValue := 0 }, { name := "bootLayer", type := (.object "java/lang/ModuleLayer"), accessFlags := 8, slot := 13, constantValue := 0 }]
  methods := #[k5m0, k5m1]
  instanceTypes := #[]
  staticTypes := #[(.object "java/io/InputStream"), (.object "java/io/PrintStream"), (.object "java/io/PrintStream"), (.object "java/io/InputStream"), .int, .int, .int, (.object "java/lang/SecurityManager"), (.object "java/lang/String"), (.object "java/io/Console"), (.object "java/io/PrintStream"), (.object "java/util/Properties"), (.object "java/lang/String"), (.object "java/lang/ModuleLayer")]
  resolved := Array.replicate 834 none
  statics := none }

def pool6 : Array CpInfo := pool [(1, u "java/lang/Cloneable"), (0, .class_ 1), (0, u "java/lang/Object"), (0, .class_ 3)] 3

/-- java/lang/Cloneable -/
def k6 : Class := { plain "java/lang/Cloneable" (some 0) with
  accessFlags := 1537
  interfaces := #[]
  cf := some (fileOf pool6 2 #[] #[] 1537 4 #[] #[])
  fields := #[]
  methods := #[]
  instanceTypes := #[]
  staticTypes := #[]
  resolved := Array.replicate 8 none
  statics := none }

def pool7 : Array CpInfo := pool [(1, u "java/io/Serializable"), (0, .class_ 1), (0, u "java/lang/Object"), (0, .class_ 3)] 3

/-- java/io/Serializable -/
def k7 : Class := { plain "java/io/Serializable" (some 0) with
  accessFlags := 1537
  interfaces := #[]
  cf := some (fileOf pool7 2 #[] #[] 1537 4 #[] #[])
  fields := #[]
  methods := #[]
  instanceTypes := #[]
  staticTypes := #[]
  resolved := Array.replicate 8 none
  statics := none }

/-- the primitive byte -/
def k8 : Class := { plain "byte" none with kind := .primitive 'B', accessFlags := 0x411 }
/-- [B -/
def k9 : Class := { plain "[B" (some 0) with kind := .array 8 .byte, interfaces := #[6, 7], accessFlags := 1041 }

/-- the primitive int -/
def k10 : Class := { plain "int" none with kind := .primitive 'I', accessFlags := 0x411 }
/-- [I -/
def k11 : Class := { plain "[I" (some 0) with kind := .array 10 .int, interfaces := #[6, 7], accessFlags := 1041 }

def heap : Heap := #[]
def classes : Array Class := #[k0, k1, k2, k3, k4, k5, k6, k7, k8, k9, k10, k11]
def interned : List (Array UInt16 × Addr) := []
def slotsUsed : Nat := 0
def theMethod : MethodId := ⟨1, 2⟩
def args0 : Array Value := #[.int 5, .int 7, .int 1, .int 2, .int 3]
def aboutOver (below : List Frame) : State where
  vm := { classes := classes, interned := interned.toArray }
  heap := heap
  slotsUsed := slotsUsed
  threads := #[{ frames := .invoking theMethod args0 :: below }]
def below0 : List Frame := [.native { method := ⟨0, 0⟩, args := #[] }]
def about1 : State := aboutOver below0
def p0 : Program := .bare "" "" ""
def e0 : Env := launch0.env 0 0 0
theorem w_frames : about1.frames = Frame.invoking theMethod args0 :: below0 := rfl
set_option maxRecDepth 65536 in
theorem w_args : argsFit about1.vm theMethod args0 = true := by decide +kernel
set_option maxRecDepth 65536 in
theorem w_heap : heapFits about1 = true := by decide +kernel
set_option maxRecDepth 65536 in
theorem w_runnable : about1.curStatus? = some .runnable := by decide +kernel
set_option maxRecDepth 65536 in
theorem w_alone : about1.alone = true := by decide +kernel
set_option maxRecDepth 65536 in
theorem w_named : about1.methodNamed? x = some theMethod := by decide +kernel
set_option maxRecDepth 65536 in
theorem w_hears : about1.hears theMethod below0 = true := by decide +kernel
set_option maxRecDepth 65536 in
theorem w_ripe : about1.ripe theMethod args0 below0 = true := by decide +kernel
theorem w_running : about1.status = .running := rfl
set_option maxRecDepth 65536 in
theorem w_room : about1.hasRoom e0.platform room_1 = true :=
  launch0.hasRoom_least _ room_1 (by decide +kernel) (by decide +kernel) (by decide +kernel) (by decide +kernel) (by decide +kernel) (by decide +kernel)
theorem allAtoms_all (ts : List Jvm.Cond) (a : Array Jvm.Value) (st : Jvm.State) : (allAtoms ts).before a st = ts.all (fun c => c.before a st) := by
  induction ts with
  | nil => rfl
  | cons c t ih =>
    show (Jvm.Cond.and c (allAtoms t)).before a st = _
    rw [Jvm.Cond.before_and, ih, List.all_cons]
def words1 : List Jvm.Cond := Jvm.Cond.code x code maxLocals ret :: tables_1
/-- a 'code' word, met by the world's own term for the bytes: nothing is compared byte by byte -/
theorem code_word {y : MethodName} {bytes : ByteArray} {mx : Nat} {rt : Option FieldType} {a : Array Value} {s : State} {m : MethodId} {meth : Method} {c : Code} (h1 : s.methodNamed? y = some m) (h2 : s.vm.method? m = some meth) (h3 : meth.code = some c) (h4 : c.code = bytes)
    (h5 : (c.maxLocals == mx && c.exceptionTable.isEmpty && decide (c.maxStack ≤ mostOperands) && decide (meth.sig.returnType = rt) && !meth.locks && decide (parseMethodDescriptor y.desc = some meth.sig)) = true) : (Jvm.Cond.code y bytes mx rt).before a s = true := by
  simp only [Bool.and_eq_true, beq_iff_eq, Bool.not_eq_true', decide_eq_true_eq] at h5
  obtain ⟨⟨⟨⟨⟨g1, g2⟩, g3⟩, g4⟩, g5⟩, g6⟩ := h5
  simp [Cond.before, Cond.holds, Cond.value, h1, h2, h3, h4, g1, g2, g3, g4, g5, g6]
def isCode : Jvm.Cond → Bool
  | .code _ _ _ _ => true
  | _ => false
theorem all_split {L : List Jvm.Cond} {P : Jvm.Cond → Bool} (h1 : L.all (fun c => isCode c || P c) = true) (h2 : ∀ c ∈ L.filter isCode, P c = true) : L.all P = true := by
  refine List.all_eq_true.mpr fun c hc => ?_
  have h := List.all_eq_true.mp h1 c hc
  rcases Bool.eq_false_or_eq_true (isCode c) with hi | hi
  · exact h2 c (List.mem_filter.mpr ⟨hc, hi⟩)
  · simpa [hi] using h
set_option maxRecDepth 65536 in
theorem w_c0 : (Jvm.Cond.code x code maxLocals ret).before args0 about1 = true := code_word (m := ⟨1, 2⟩) (meth := k1m2) (c := k1c2) (by decide +kernel) rfl rfl rfl (by decide +kernel)
set_option maxRecDepth 65536 in
theorem w_c1 : (Jvm.Cond.code ({ cls := "com/example/corbel/corbel/Peaks", name := "<init>", desc := "(I)V" } : Jvm.MethodName) prog_131_method_2_code (2 : Nat) (Option.none : Option Jvm.ClassFile.FieldType)).before args0 about1 = true := code_word (m := ⟨2, 1⟩) (meth := k2m1) (c := k2c1) (by decide +kernel) rfl rfl rfl (by decide +kernel)
set_option maxRecDepth 65536 in
theorem w_c2 : (Jvm.Cond.code ({ cls := "java/lang/Object", name := "<init>", desc := "()V" } : Jvm.MethodName) object_method_1_code (1 : Nat) (Option.none : Option Jvm.ClassFile.FieldType)).before args0 about1 = true := code_word (m := ⟨0, 0⟩) (meth := k0m0) (c := k0c0) (by decide +kernel) rfl rfl rfl (by decide +kernel)
set_option maxRecDepth 65536 in
theorem w_c3 : (Jvm.Cond.code ({ cls := "com/example/corbel/corbel/Peaks", name := "bound", desc := "(II)Z" } : Jvm.MethodName) prog_131_method_10_code (4 : Nat) (Option.some Jvm.ClassFile.FieldType.boolean)).before args0 about1 = true := code_word (m := ⟨2, 3⟩) (meth := k2m3) (c := k2c3) (by decide +kernel) rfl rfl rfl (by decide +kernel)
set_option maxRecDepth 65536 in
theorem w_c4 : (Jvm.Cond.code ({ cls := "com/example/corbel/corbel/Peaks", name := "append", desc := "(II)V" } : Jvm.MethodName) prog_131_method_6_code (3 : Nat) (Option.none : Option Jvm.ClassFile.FieldType)).before args0 about1 = true := code_word (m := ⟨2, 2⟩) (meth := k2m2) (c := k2c2) (by decide +kernel) rfl rfl rfl (by decide +kernel)
set_option maxRecDepth 65536 in
theorem w_c5 : (Jvm.Cond.code ({ cls := "java/util/Arrays", name := "copyOf", desc := "([II)[I" } : Jvm.MethodName) jdk_65_method_123_code (3 : Nat) (Option.some (Jvm.ClassFile.FieldType.array Jvm.ClassFile.FieldType.int))).before args0 about1 = true := code_word (m := ⟨3, 1⟩) (meth := k3m1) (c := k3c1) (by decide +kernel) rfl rfl rfl (by decide +kernel)
set_option maxRecDepth 65536 in
theorem w_c6 : (Jvm.Cond.code ({ cls := "java/lang/Math", name := "min", desc := "(II)I" } : Jvm.MethodName) jdk_29_method_69_code (2 : Nat) (Option.some Jvm.ClassFile.FieldType.int)).before args0 about1 = true := code_word (m := ⟨4, 1⟩) (meth := k4m1) (c := k4c1) (by decide +kernel) rfl rfl rfl (by decide +kernel)
set_option maxRecDepth 65536 in
theorem w_c7 : (Jvm.Cond.code ({ cls := "com/example/corbel/corbel/PeaksBoundPinLaw", name := "covers", desc := "(IIII)Z" } : Jvm.MethodName) method_2_code (4 : Nat) (Option.some Jvm.ClassFile.FieldType.boolean)).before args0 about1 = true := code_word (m := ⟨1, 1⟩) (meth := k1m1) (c := k1c1) (by decide +kernel) rfl rfl rfl (by decide +kernel)
def codes1 : List Jvm.Cond := [Jvm.Cond.code x code maxLocals ret, Jvm.Cond.code ({ cls := "com/example/corbel/corbel/Peaks", name := "<init>", desc := "(I)V" } : Jvm.MethodName) prog_131_method_2_code (2 : Nat) (Option.none : Option Jvm.ClassFile.FieldType), Jvm.Cond.code ({ cls := "java/lang/Object", name := "<init>", desc := "()V" } : Jvm.MethodName) object_method_1_code (1 : Nat) (Option.none : Option Jvm.ClassFile.FieldType), Jvm.Cond.code ({ cls := "com/example/corbel/corbel/Peaks", name := "bound", desc := "(II)Z" } : Jvm.MethodName) prog_131_method_10_code (4 : Nat) (Option.some Jvm.ClassFile.FieldType.boolean), Jvm.Cond.code ({ cls := "com/example/corbel/corbel/Peaks", name := "append", desc := "(II)V" } : Jvm.MethodName) prog_131_method_6_code (3 : Nat) (Option.none : Option Jvm.ClassFile.FieldType), Jvm.Cond.code ({ cls := "java/util/Arrays", name := "copyOf", desc := "([II)[I" } : Jvm.MethodName) jdk_65_method_123_code (3 : Nat) (Option.some (Jvm.ClassFile.FieldType.array Jvm.ClassFile.FieldType.int)), Jvm.Cond.code ({ cls := "java/lang/Math", name := "min", desc := "(II)I" } : Jvm.MethodName) jdk_29_method_69_code (2 : Nat) (Option.some Jvm.ClassFile.FieldType.int), Jvm.Cond.code ({ cls := "com/example/corbel/corbel/PeaksBoundPinLaw", name := "covers", desc := "(IIII)Z" } : Jvm.MethodName) method_2_code (4 : Nat) (Option.some Jvm.ClassFile.FieldType.boolean)]
set_option maxRecDepth 65536 in
theorem codes_eq : words1.filter isCode = codes1 := rfl
theorem w_codes : ∀ c ∈ words1.filter isCode, c.before args0 about1 = true := by
  rw [codes_eq]
  intro c hc
  simp only [codes1, List.mem_cons, List.not_mem_nil, or_false] at hc
  rcases hc with rfl | rfl | rfl | rfl | rfl | rfl | rfl | rfl
  · exact w_c0
  · exact w_c1
  · exact w_c2
  · exact w_c3
  · exact w_c4
  · exact w_c5
  · exact w_c6
  · exact w_c7
set_option maxRecDepth 65536 in
theorem w_t1 : (words1.take 24).all (fun c => isCode c || c.before args0 about1) = true := by decide +kernel
set_option maxRecDepth 65536 in
theorem w_t2 : (words1.drop 24).all (fun c => isCode c || c.before args0 about1) = true := by decide +kernel
theorem w_tables : (allAtoms (Jvm.Cond.code x code maxLocals ret :: tables_1)).before args0 about1 = true := by
  rw [allAtoms_all]
  show words1.all (fun c => c.before args0 about1) = true
  refine all_split ?_ w_codes
  rw [← List.take_append_drop 24 words1, List.all_append, w_t1, w_t2]
  rfl
set_option maxRecDepth 65536 in
theorem w_case : (Jvm.Cond.and given_1 narrow_1).before args0 about1 = true := by decide +kernel
theorem w_applies : (headSpec (Jvm.Cond.code x code maxLocals ret :: tables_1) room_1).applies x e0.platform about1 = true :=
  (Spec.applies_iff w_frames).mpr ⟨w_running, w_runnable, w_alone, w_named, w_hears, w_ripe, w_room, w_tables⟩
theorem atStart : AtStart classFile x code maxLocals ret World_1 tables_1 room_1 Calls_1 rest_1 Pre_1 launch0 p0 e0 about1 theMethod args0 below0 :=
  ⟨lists_1, trivial, launch0.admits_env _ _ _, launch0.least_env, fairChoices_fair.cas, fairChoices_fair.clock, w_frames, w_args, w_heap, w_applies, trivial, trivial, w_case⟩
end start1
theorem witness_1 : WitnessClaimed_1 := ⟨start1.p0, start1.e0, start1.about1, start1.theMethod, start1.args0, start1.below0, start1.atStart⟩
end Jvm.Pilot.@@N@@
