import JvmDerived
import JvmDerived.Pilot.@@N@@Statement
import JvmDerived.Pilot.@@N@@Code
set_option linter.unusedVariables false
set_option linter.unusedSimpArgs false
namespace Jvm.RoadKit
open Sem ClassFile Op Lib Jvm.Stand Jvm.Free Jvm.LawKit
section New
variable {p : Program} {l : Launch} {e : Env} {R : Room} {s : State} {m : MethodId} {args : Array Value} {below : List Frame} {meth : Method} {c : Code} {T : State} {locs : List Loc} {cells slots : Nat}
theorem retI (X : Stand p l e R s m args below meth c T locs cells slots) (hx : p.tables.exec = Jvm.exec) {pc : Nat} {Ls : Array Slot} {z : Int32} {rest : List Value} (hret : meth.sig.returnType = some .int) (hd : decode c.code pc = .ok (.ireturn, 1)) {fs : List Frame}
    (hl : ∀ (f : JFrame) (acts : List Action), f.method = m → f.locked = none → f.entered = [] → (doReturn e (T.setTop f) acts (some (.int z))).1 = T.setFrames fs) : Steps p.tables e below (T.setTop (mkF m pc Ls (.int z :: rest))) (T.setFrames fs) := by
  have hm' : T.vm.method? m = some meth := X.method'
  have hn : narrow .int (.int z) = .int z := rfl
  show Steps p.tables e below (T.setTop { method := m, pc := pc, locals := Ls, stack := _ :: rest, locked := none }) _
  jvm_step X.here [X.here.top, hx, hd, hm', hret, hn]
  first | (intro acts; rw [hl _ acts rfl rfl rfl]) | rw [hl _ _ rfl rfl rfl]
  exact Steps.refl _
/-- the walk that stands at g in T comes to its end, with Q -/
def OE (FE : State → Outcome → State → List Loc → Nat → Nat → Prop) (p : Program) (e : Env) (below : List Frame) (s : State) (Q : Option Value → Heap → List Loc → Prop) (kc ks : Nat) (T : State) (g : JFrame) : Prop :=
  ∃ s₂ o, Steps p.tables e below (T.setTop g) s₂ ∧ s₂.status = .running ∧ Ended s₂ below o ∧ ∃ v L, o = .returned v ∧ Q v s₂.heap L ∧ FE s o s₂ L kc ks
variable {FE : State → Outcome → State → List Loc → Nat → Nat → Prop} {Q : Option Value → Heap → List Loc → Prop} {kc ks : Nat} {s' : State}
theorem OE.of {T' : State} {g g' : JFrame} (k : ∀ t, Steps p.tables e below (T'.setTop g') t → Steps p.tables e below (T.setTop g) t) (h : OE FE p e below s Q kc ks T' g') : OE FE p e below s Q kc ks T g := by
  obtain ⟨s₂, o, h1, h2⟩ := h
  exact ⟨s₂, o, k _ h1, h2⟩
theorem OE.retN (X : Stand p l e R s m args below meth c T locs cells slots) (hx : p.tables.exec = Jvm.exec) {pc : Nat} {Ls : Array Slot} {z : Int32} {t : FieldType} {rest : List Value} (hret : meth.sig.returnType = some t) (ht : t = .boolean ∨ t = .byte ∨ t = .char ∨ t = .short) (hlk : meth.locks = false)
    (hd : decode c.code pc = .ok (.ireturn, 1)) (hc : cells ≤ kc) (hs : slots ≤ ks) (hQ : Q (some (.int (nar t z))) T.heap locs) : OE FrameEnd p e below s Q kc ks T (mkF m pc Ls (.int z :: rest)) := by
  obtain ⟨fs, hr, hrun, hended, hW, hsame⟩ := X.leave (v := some (.int (nar t z))) (fun h => by rw [hret] at h; cases h) hlk
  exact ⟨_, _, Jvm.RoadKit.retN X hx hret ht hd hr, hrun, hended, _, _, rfl, hQ, ⟨_, rfl⟩, hW, hsame.mono hc hs⟩
theorem OE.retI (X : Stand p l e R s m args below meth c T locs cells slots) (hx : p.tables.exec = Jvm.exec) {pc : Nat} {Ls : Array Slot} {z : Int32} {rest : List Value} (hret : meth.sig.returnType = some .int) (hlk : meth.locks = false)
    (hd : decode c.code pc = .ok (.ireturn, 1)) (hc : cells ≤ kc) (hs : slots ≤ ks) (hQ : Q (some (.int z)) T.heap locs) : OE FrameEnd p e below s Q kc ks T (mkF m pc Ls (.int z :: rest)) := by
  obtain ⟨fs, hr, hrun, hended, hW, hsame⟩ := X.leave (v := some (.int z)) (fun h => by rw [hret] at h; cases h) hlk
  exact ⟨_, _, Jvm.RoadKit.retI X hx hret hd hr, hrun, hended, _, _, rfl, hQ, ⟨_, rfl⟩, hW, hsame.mono hc hs⟩
theorem OE.retJ (X : Stand p l e R s m args below meth c T locs cells slots) (hx : p.tables.exec = Jvm.exec) {pc : Nat} {Ls : Array Slot} {z : Int64} (hret : meth.sig.returnType = some .long) (hlk : meth.locks = false)
    (hd : decode c.code pc = .ok (.lreturn, 1)) (hc : cells ≤ kc) (hs : slots ≤ ks) (hQ : Q (some (.long z)) T.heap locs) : OE FrameEnd p e below s Q kc ks T (mkF m pc Ls [.long z]) := by
  obtain ⟨fs, hr, hrun, hended, hW, hsame⟩ := X.leave (v := some (.long z)) (fun h => by rw [hret] at h; cases h) hlk
  exact ⟨_, _, X.lreturnOut hx hret hd hr, hrun, hended, _, _, rfl, hQ, ⟨_, rfl⟩, hW, hsame.mono hc hs⟩
theorem OE.retA (X : Stand p l e R s m args below meth c T locs cells slots) (hx : p.tables.exec = Jvm.exec) {pc : Nat} {Ls : Array Slot} {w : Value} {t : FieldType} (hw : w.isRef = true) (hret : meth.sig.returnType = some t) (ht : t.isReference = true) (hlk : meth.locks = false)
    (hd : decode c.code pc = .ok (.areturn, 1)) (hc : cells ≤ kc) (hs : slots ≤ ks) (hQ : Q (some w) T.heap locs) : OE FrameEnd p e below s Q kc ks T (mkF m pc Ls [w]) := by
  obtain ⟨fs, hr, hrun, hended, hW, hsame⟩ := X.leave (v := some w) (fun h => by rw [hret] at h; cases h) hlk
  exact ⟨_, _, X.areturnOut hx hw hret ht hd hr, hrun, hended, _, _, rfl, hQ, ⟨_, rfl⟩, hW, hsame.mono hc hs⟩
theorem OE.ret0 (X : Stand p l e R s m args below meth c T locs cells slots) (hx : p.tables.exec = Jvm.exec) {pc : Nat} {Ls : Array Slot} (hret : meth.sig.returnType = none) (hlk : meth.locks = false)
    (hd : decode c.code pc = .ok (.return_, 1)) (hc : cells ≤ kc) (hs : slots ≤ ks) (hQ : Q none T.heap locs) : OE FrameEnd p e below s Q kc ks T (mkF m pc Ls []) := by
  obtain ⟨fs, hr, hrun, hended, hW, hsame⟩ := X.leave (v := none) (fun _ => rfl) hlk
  exact ⟨_, _, X.returnOut hx hret hd hr, hrun, hended, _, _, rfl, hQ, ⟨_, rfl⟩, hW, hsame.mono hc hs⟩
theorem OE.iload (X : Stand p l e R s' m args below meth c T locs cells slots) (hx : p.tables.exec = Jvm.exec) {code : ByteArray} (hby : c.code = code) {pc : Nat} {Ls : Array Slot} {k : Nat} {v : Int32} {st : List Value} (hd : decode code pc = .ok (.iload k, 2)) (hl : Ls[k]? = some (.val (.int v))) (h : OE FE p e below s Q kc ks T (mkF m (pc + 2) Ls (.int v :: st))) : OE FE p e below s Q kc ks T (mkF m pc Ls (st)) := OE.of (fun _ k' => XS.iload X.here hx rfl (hb hby hd) hl k') h
theorem OE.iloadN (X : Stand p l e R s' m args below meth c T locs cells slots) (hx : p.tables.exec = Jvm.exec) {code : ByteArray} (hby : c.code = code) {pc : Nat} {Ls : Array Slot} {k : Fin 4} {v : Int32} {st : List Value} (hd : decode code pc = .ok (.iload_n k, 1)) (hl : Ls[k.val]? = some (.val (.int v))) (h : OE FE p e below s Q kc ks T (mkF m (pc + 1) Ls (.int v :: st))) : OE FE p e below s Q kc ks T (mkF m pc Ls (st)) := OE.of (fun _ k' => XS.iloadN X.here hx rfl (hb hby hd) hl k') h
theorem OE.lload (X : Stand p l e R s' m args below meth c T locs cells slots) (hx : p.tables.exec = Jvm.exec) {code : ByteArray} (hby : c.code = code) {pc : Nat} {Ls : Array Slot} {k : Nat} {v : Int64} {st : List Value} (hd : decode code pc = .ok (.lload k, 2)) (hl : Ls[k]? = some (.val (.long v))) (h : OE FE p e below s Q kc ks T (mkF m (pc + 2) Ls (.long v :: st))) : OE FE p e below s Q kc ks T (mkF m pc Ls (st)) := OE.of (fun _ k' => XS.lload X.here hx rfl (hb hby hd) hl k') h
theorem OE.lloadN (X : Stand p l e R s' m args below meth c T locs cells slots) (hx : p.tables.exec = Jvm.exec) {code : ByteArray} (hby : c.code = code) {pc : Nat} {Ls : Array Slot} {k : Fin 4} {v : Int64} {st : List Value} (hd : decode code pc = .ok (.lload_n k, 1)) (hl : Ls[k.val]? = some (.val (.long v))) (h : OE FE p e below s Q kc ks T (mkF m (pc + 1) Ls (.long v :: st))) : OE FE p e below s Q kc ks T (mkF m pc Ls (st)) := OE.of (fun _ k' => XS.lloadN X.here hx rfl (hb hby hd) hl k') h
theorem OE.aload (X : Stand p l e R s' m args below meth c T locs cells slots) (hx : p.tables.exec = Jvm.exec) {code : ByteArray} (hby : c.code = code) {pc : Nat} {Ls : Array Slot} {k : Nat} {v : Value} {st : List Value} (hd : decode code pc = .ok (.aload k, 2)) (hl : Ls[k]? = some (.val v)) (hv : v.isRef = true) (h : OE FE p e below s Q kc ks T (mkF m (pc + 2) Ls (v :: st))) : OE FE p e below s Q kc ks T (mkF m pc Ls (st)) := OE.of (fun _ k' => XS.aload X.here hx rfl (hb hby hd) hl hv k') h
theorem OE.aloadN (X : Stand p l e R s' m args below meth c T locs cells slots) (hx : p.tables.exec = Jvm.exec) {code : ByteArray} (hby : c.code = code) {pc : Nat} {Ls : Array Slot} {k : Fin 4} {v : Value} {st : List Value} (hd : decode code pc = .ok (.aload_n k, 1)) (hl : Ls[k.val]? = some (.val v)) (hv : v.isRef = true) (h : OE FE p e below s Q kc ks T (mkF m (pc + 1) Ls (v :: st))) : OE FE p e below s Q kc ks T (mkF m pc Ls (st)) := OE.of (fun _ k' => XS.aloadN X.here hx rfl (hb hby hd) hl hv k') h
theorem OE.istore (X : Stand p l e R s' m args below meth c T locs cells slots) (hx : p.tables.exec = Jvm.exec) {code : ByteArray} (hby : c.code = code) {pc : Nat} {Ls : Array Slot} {k : Nat} {v : Int32} {st : List Value} {l' : Array Slot} (hd : decode code pc = .ok (.istore k, 2)) (hl : storeLocals Ls k (.int v) = some l') (h : OE FE p e below s Q kc ks T (mkF m (pc + 2) l' (st))) : OE FE p e below s Q kc ks T (mkF m pc Ls (.int v :: st)) := OE.of (fun _ k' => XS.istore X.here hx rfl (hb hby hd) rfl hl k') h
theorem OE.istoreN (X : Stand p l e R s' m args below meth c T locs cells slots) (hx : p.tables.exec = Jvm.exec) {code : ByteArray} (hby : c.code = code) {pc : Nat} {Ls : Array Slot} {k : Fin 4} {v : Int32} {st : List Value} {l' : Array Slot} (hd : decode code pc = .ok (.istore_n k, 1)) (hl : storeLocals Ls k.val (.int v) = some l') (h : OE FE p e below s Q kc ks T (mkF m (pc + 1) l' (st))) : OE FE p e below s Q kc ks T (mkF m pc Ls (.int v :: st)) := OE.of (fun _ k' => XS.istoreN X.here hx rfl (hb hby hd) rfl hl k') h
theorem OE.lstore (X : Stand p l e R s' m args below meth c T locs cells slots) (hx : p.tables.exec = Jvm.exec) {code : ByteArray} (hby : c.code = code) {pc : Nat} {Ls : Array Slot} {k : Nat} {v : Int64} {st : List Value} {l' : Array Slot} (hd : decode code pc = .ok (.lstore k, 2)) (hl : storeLocals Ls k (.long v) = some l') (h : OE FE p e below s Q kc ks T (mkF m (pc + 2) l' (st))) : OE FE p e below s Q kc ks T (mkF m pc Ls (.long v :: st)) := OE.of (fun _ k' => XS.lstore X.here hx rfl (hb hby hd) rfl hl k') h
theorem OE.lstoreN (X : Stand p l e R s' m args below meth c T locs cells slots) (hx : p.tables.exec = Jvm.exec) {code : ByteArray} (hby : c.code = code) {pc : Nat} {Ls : Array Slot} {k : Fin 4} {v : Int64} {st : List Value} {l' : Array Slot} (hd : decode code pc = .ok (.lstore_n k, 1)) (hl : storeLocals Ls k.val (.long v) = some l') (h : OE FE p e below s Q kc ks T (mkF m (pc + 1) l' (st))) : OE FE p e below s Q kc ks T (mkF m pc Ls (.long v :: st)) := OE.of (fun _ k' => XS.lstoreN X.here hx rfl (hb hby hd) rfl hl k') h
theorem OE.astore (X : Stand p l e R s' m args below meth c T locs cells slots) (hx : p.tables.exec = Jvm.exec) {code : ByteArray} (hby : c.code = code) {pc : Nat} {Ls : Array Slot} {k : Nat} {v : Value} {st : List Value} {l' : Array Slot} (hd : decode code pc = .ok (.astore k, 2)) (hv : v.isRef = true) (hl : storeLocals Ls k v = some l') (h : OE FE p e below s Q kc ks T (mkF m (pc + 2) l' (st))) : OE FE p e below s Q kc ks T (mkF m pc Ls (v :: st)) := OE.of (fun _ k' => XS.astore X.here hx rfl (hb hby hd) rfl hv hl k') h
theorem OE.astoreN (X : Stand p l e R s' m args below meth c T locs cells slots) (hx : p.tables.exec = Jvm.exec) {code : ByteArray} (hby : c.code = code) {pc : Nat} {Ls : Array Slot} {k : Fin 4} {v : Value} {st : List Value} {l' : Array Slot} (hd : decode code pc = .ok (.astore_n k, 1)) (hv : v.isRef = true) (hl : storeLocals Ls k.val v = some l') (h : OE FE p e below s Q kc ks T (mkF m (pc + 1) l' (st))) : OE FE p e below s Q kc ks T (mkF m pc Ls (v :: st)) := OE.of (fun _ k' => XS.astoreN X.here hx rfl (hb hby hd) rfl hv hl k') h
theorem OE.iconst (X : Stand p l e R s' m args below meth c T locs cells slots) (hx : p.tables.exec = Jvm.exec) {code : ByteArray} (hby : c.code = code) {pc : Nat} {Ls : Array Slot} {i : Int} {st : List Value} (hd : decode code pc = .ok (.iconst i, 1)) (z : Int32) (hz : Int32.ofInt i = z) (h : OE FE p e below s Q kc ks T (mkF m (pc + 1) Ls (.int z :: st))) : OE FE p e below s Q kc ks T (mkF m pc Ls (st)) := OE.of (fun _ k' => XS.iconst X.here hx rfl (hb hby hd) (by subst hz; exact k')) h
theorem OE.bipush (X : Stand p l e R s' m args below meth c T locs cells slots) (hx : p.tables.exec = Jvm.exec) {code : ByteArray} (hby : c.code = code) {pc : Nat} {Ls : Array Slot} {i : Int} {st : List Value} (hd : decode code pc = .ok (.bipush i, 2)) (z : Int32) (hz : (Int8.ofInt i).toInt32 = z) (h : OE FE p e below s Q kc ks T (mkF m (pc + 2) Ls (.int z :: st))) : OE FE p e below s Q kc ks T (mkF m pc Ls (st)) := OE.of (fun _ k' => XS.bipush X.here hx rfl (hb hby hd) (by subst hz; exact k')) h
theorem OE.sipush (X : Stand p l e R s' m args below meth c T locs cells slots) (hx : p.tables.exec = Jvm.exec) {code : ByteArray} (hby : c.code = code) {pc : Nat} {Ls : Array Slot} {i : Int} {st : List Value} (hd : decode code pc = .ok (.sipush i, 3)) (z : Int32) (hz : (Int16.ofInt i).toInt32 = z) (h : OE FE p e below s Q kc ks T (mkF m (pc + 3) Ls (.int z :: st))) : OE FE p e below s Q kc ks T (mkF m pc Ls (st)) := OE.of (fun _ k' => XS.sipush X.here hx rfl (hb hby hd) (by subst hz; exact k')) h
theorem OE.lconst (X : Stand p l e R s' m args below meth c T locs cells slots) (hx : p.tables.exec = Jvm.exec) {code : ByteArray} (hby : c.code = code) {pc : Nat} {Ls : Array Slot} {i : Fin 2} {st : List Value} (hd : decode code pc = .ok (.lconst i, 1)) (z : Int64) (hz : Int64.ofNat i = z) (h : OE FE p e below s Q kc ks T (mkF m (pc + 1) Ls (.long z :: st))) : OE FE p e below s Q kc ks T (mkF m pc Ls (st)) := OE.of (fun _ k' => XS.lconst X.here hx rfl (hb hby hd) (by subst hz; exact k')) h
theorem OE.aconstNull (X : Stand p l e R s' m args below meth c T locs cells slots) (hx : p.tables.exec = Jvm.exec) {code : ByteArray} (hby : c.code = code) {pc : Nat} {Ls : Array Slot} {st : List Value} (hd : decode code pc = .ok (.aconst_null, 1))  (h : OE FE p e below s Q kc ks T (mkF m (pc + 1) Ls (.null :: st))) : OE FE p e below s Q kc ks T (mkF m pc Ls (st)) := OE.of (fun _ k' => XS.aconstNull X.here hx rfl (hb hby hd) k') h
theorem OE.iadd (X : Stand p l e R s' m args below meth c T locs cells slots) (hx : p.tables.exec = Jvm.exec) {code : ByteArray} (hby : c.code = code) {pc : Nat} {Ls : Array Slot} {x y : Int32} {st : List Value} (hd : decode code pc = .ok (.iadd, 1))  (h : OE FE p e below s Q kc ks T (mkF m (pc + 1) Ls (.int (x + y) :: st))) : OE FE p e below s Q kc ks T (mkF m pc Ls (.int y :: .int x :: st)) := OE.of (fun _ k' => XS.iadd X.here hx rfl (hb hby hd) rfl k') h
theorem OE.ladd (X : Stand p l e R s' m args below meth c T locs cells slots) (hx : p.tables.exec = Jvm.exec) {code : ByteArray} (hby : c.code = code) {pc : Nat} {Ls : Array Slot} {x y : Int64} {st : List Value} (hd : decode code pc = .ok (.ladd, 1))  (h : OE FE p e below s Q kc ks T (mkF m (pc + 1) Ls (.long (x + y) :: st))) : OE FE p e below s Q kc ks T (mkF m pc Ls (.long y :: .long x :: st)) := OE.of (fun _ k' => XS.ladd X.here hx rfl (hb hby hd) rfl k') h
theorem OE.isub (X : Stand p l e R s' m args below meth c T locs cells slots) (hx : p.tables.exec = Jvm.exec) {code : ByteArray} (hby : c.code = code) {pc : Nat} {Ls : Array Slot} {x y : Int32} {st : List Value} (hd : decode code pc = .ok (.isub, 1))  (h : OE FE p e below s Q kc ks T (mkF m (pc + 1) Ls (.int (x - y) :: st))) : OE FE p e below s Q kc ks T (mkF m pc Ls (.int y :: .int x :: st)) := OE.of (fun _ k' => XS.isub X.here hx rfl (hb hby hd) rfl k') h
theorem OE.lsub (X : Stand p l e R s' m args below meth c T locs cells slots) (hx : p.tables.exec = Jvm.exec) {code : ByteArray} (hby : c.code = code) {pc : Nat} {Ls : Array Slot} {x y : Int64} {st : List Value} (hd : decode code pc = .ok (.lsub, 1))  (h : OE FE p e below s Q kc ks T (mkF m (pc + 1) Ls (.long (x - y) :: st))) : OE FE p e below s Q kc ks T (mkF m pc Ls (.long y :: .long x :: st)) := OE.of (fun _ k' => XS.lsub X.here hx rfl (hb hby hd) rfl k') h
theorem OE.imul (X : Stand p l e R s' m args below meth c T locs cells slots) (hx : p.tables.exec = Jvm.exec) {code : ByteArray} (hby : c.code = code) {pc : Nat} {Ls : Array Slot} {x y : Int32} {st : List Value} (hd : decode code pc = .ok (.imul, 1))  (h : OE FE p e below s Q kc ks T (mkF m (pc + 1) Ls (.int (x * y) :: st))) : OE FE p e below s Q kc ks T (mkF m pc Ls (.int y :: .int x :: st)) := OE.of (fun _ k' => XS.imul X.here hx rfl (hb hby hd) rfl k') h
theorem OE.lmul (X : Stand p l e R s' m args below meth c T locs cells slots) (hx : p.tables.exec = Jvm.exec) {code : ByteArray} (hby : c.code = code) {pc : Nat} {Ls : Array Slot} {x y : Int64} {st : List Value} (hd : decode code pc = .ok (.lmul, 1))  (h : OE FE p e below s Q kc ks T (mkF m (pc + 1) Ls (.long (x * y) :: st))) : OE FE p e below s Q kc ks T (mkF m pc Ls (.long y :: .long x :: st)) := OE.of (fun _ k' => XS.lmul X.here hx rfl (hb hby hd) rfl k') h
theorem OE.iand (X : Stand p l e R s' m args below meth c T locs cells slots) (hx : p.tables.exec = Jvm.exec) {code : ByteArray} (hby : c.code = code) {pc : Nat} {Ls : Array Slot} {x y : Int32} {st : List Value} (hd : decode code pc = .ok (.iand, 1))  (h : OE FE p e below s Q kc ks T (mkF m (pc + 1) Ls (.int (x &&& y) :: st))) : OE FE p e below s Q kc ks T (mkF m pc Ls (.int y :: .int x :: st)) := OE.of (fun _ k' => XS.iand X.here hx rfl (hb hby hd) rfl k') h
theorem OE.land (X : Stand p l e R s' m args below meth c T locs cells slots) (hx : p.tables.exec = Jvm.exec) {code : ByteArray} (hby : c.code = code) {pc : Nat} {Ls : Array Slot} {x y : Int64} {st : List Value} (hd : decode code pc = .ok (.land, 1))  (h : OE FE p e below s Q kc ks T (mkF m (pc + 1) Ls (.long (x &&& y) :: st))) : OE FE p e below s Q kc ks T (mkF m pc Ls (.long y :: .long x :: st)) := OE.of (fun _ k' => XS.land X.here hx rfl (hb hby hd) rfl k') h
theorem OE.ior (X : Stand p l e R s' m args below meth c T locs cells slots) (hx : p.tables.exec = Jvm.exec) {code : ByteArray} (hby : c.code = code) {pc : Nat} {Ls : Array Slot} {x y : Int32} {st : List Value} (hd : decode code pc = .ok (.ior, 1))  (h : OE FE p e below s Q kc ks T (mkF m (pc + 1) Ls (.int (x ||| y) :: st))) : OE FE p e below s Q kc ks T (mkF m pc Ls (.int y :: .int x :: st)) := OE.of (fun _ k' => XS.ior X.here hx rfl (hb hby hd) rfl k') h
theorem OE.lor (X : Stand p l e R s' m args below meth c T locs cells slots) (hx : p.tables.exec = Jvm.exec) {code : ByteArray} (hby : c.code = code) {pc : Nat} {Ls : Array Slot} {x y : Int64} {st : List Value} (hd : decode code pc = .ok (.lor, 1))  (h : OE FE p e below s Q kc ks T (mkF m (pc + 1) Ls (.long (x ||| y) :: st))) : OE FE p e below s Q kc ks T (mkF m pc Ls (.long y :: .long x :: st)) := OE.of (fun _ k' => XS.lor X.here hx rfl (hb hby hd) rfl k') h
theorem OE.ixor (X : Stand p l e R s' m args below meth c T locs cells slots) (hx : p.tables.exec = Jvm.exec) {code : ByteArray} (hby : c.code = code) {pc : Nat} {Ls : Array Slot} {x y : Int32} {st : List Value} (hd : decode code pc = .ok (.ixor, 1))  (h : OE FE p e below s Q kc ks T (mkF m (pc + 1) Ls (.int (x ^^^ y) :: st))) : OE FE p e below s Q kc ks T (mkF m pc Ls (.int y :: .int x :: st)) := OE.of (fun _ k' => XS.ixor X.here hx rfl (hb hby hd) rfl k') h
theorem OE.lxor (X : Stand p l e R s' m args below meth c T locs cells slots) (hx : p.tables.exec = Jvm.exec) {code : ByteArray} (hby : c.code = code) {pc : Nat} {Ls : Array Slot} {x y : Int64} {st : List Value} (hd : decode code pc = .ok (.lxor, 1))  (h : OE FE p e below s Q kc ks T (mkF m (pc + 1) Ls (.long (x ^^^ y) :: st))) : OE FE p e below s Q kc ks T (mkF m pc Ls (.long y :: .long x :: st)) := OE.of (fun _ k' => XS.lxor X.here hx rfl (hb hby hd) rfl k') h
theorem OE.ishl (X : Stand p l e R s' m args below meth c T locs cells slots) (hx : p.tables.exec = Jvm.exec) {code : ByteArray} (hby : c.code = code) {pc : Nat} {Ls : Array Slot} {x y : Int32} {st : List Value} (hd : decode code pc = .ok (.ishl, 1))  (h : OE FE p e below s Q kc ks T (mkF m (pc + 1) Ls (.int (x <<< (y &&& 31)) :: st))) : OE FE p e below s Q kc ks T (mkF m pc Ls (.int y :: .int x :: st)) := OE.of (fun _ k' => XS.ishl X.here hx rfl (hb hby hd) rfl k') h
theorem OE.ishr (X : Stand p l e R s' m args below meth c T locs cells slots) (hx : p.tables.exec = Jvm.exec) {code : ByteArray} (hby : c.code = code) {pc : Nat} {Ls : Array Slot} {x y : Int32} {st : List Value} (hd : decode code pc = .ok (.ishr, 1))  (h : OE FE p e below s Q kc ks T (mkF m (pc + 1) Ls (.int (x >>> (y &&& 31)) :: st))) : OE FE p e below s Q kc ks T (mkF m pc Ls (.int y :: .int x :: st)) := OE.of (fun _ k' => XS.ishr X.here hx rfl (hb hby hd) rfl k') h
theorem OE.iushr (X : Stand p l e R s' m args below meth c T locs cells slots) (hx : p.tables.exec = Jvm.exec) {code : ByteArray} (hby : c.code = code) {pc : Nat} {Ls : Array Slot} {x y : Int32} {st : List Value} (hd : decode code pc = .ok (.iushr, 1))  (h : OE FE p e below s Q kc ks T (mkF m (pc + 1) Ls (.int ((x.toUInt32 >>> (y &&& 31).toUInt32).toInt32) :: st))) : OE FE p e below s Q kc ks T (mkF m pc Ls (.int y :: .int x :: st)) := OE.of (fun _ k' => XS.iushr X.here hx rfl (hb hby hd) rfl k') h
theorem OE.lshl (X : Stand p l e R s' m args below meth c T locs cells slots) (hx : p.tables.exec = Jvm.exec) {code : ByteArray} (hby : c.code = code) {pc : Nat} {Ls : Array Slot} {x : Int64} {y : Int32} {st : List Value} (hd : decode code pc = .ok (.lshl, 1))  (h : OE FE p e below s Q kc ks T (mkF m (pc + 1) Ls (.long (x <<< (y &&& 0x3f).toInt64) :: st))) : OE FE p e below s Q kc ks T (mkF m pc Ls (.int y :: .long x :: st)) := OE.of (fun _ k' => XS.lshl X.here hx rfl (hb hby hd) rfl k') h
theorem OE.lshr (X : Stand p l e R s' m args below meth c T locs cells slots) (hx : p.tables.exec = Jvm.exec) {code : ByteArray} (hby : c.code = code) {pc : Nat} {Ls : Array Slot} {x : Int64} {y : Int32} {st : List Value} (hd : decode code pc = .ok (.lshr, 1))  (h : OE FE p e below s Q kc ks T (mkF m (pc + 1) Ls (.long (x >>> (y &&& 0x3f).toInt64) :: st))) : OE FE p e below s Q kc ks T (mkF m pc Ls (.int y :: .long x :: st)) := OE.of (fun _ k' => XS.lshr X.here hx rfl (hb hby hd) rfl k') h
theorem OE.lushr (X : Stand p l e R s' m args below meth c T locs cells slots) (hx : p.tables.exec = Jvm.exec) {code : ByteArray} (hby : c.code = code) {pc : Nat} {Ls : Array Slot} {x : Int64} {y : Int32} {st : List Value} (hd : decode code pc = .ok (.lushr, 1))  (h : OE FE p e below s Q kc ks T (mkF m (pc + 1) Ls (.long ((x.toUInt64 >>> (y &&& 0x3f).toInt64.toUInt64).toInt64) :: st))) : OE FE p e below s Q kc ks T (mkF m pc Ls (.int y :: .long x :: st)) := OE.of (fun _ k' => XS.lushr X.here hx rfl (hb hby hd) rfl k') h
theorem OE.ineg (X : Stand p l e R s' m args below meth c T locs cells slots) (hx : p.tables.exec = Jvm.exec) {code : ByteArray} (hby : c.code = code) {pc : Nat} {Ls : Array Slot} {x : Int32} {st : List Value} (hd : decode code pc = .ok (.ineg, 1))  (h : OE FE p e below s Q kc ks T (mkF m (pc + 1) Ls (.int (-x) :: st))) : OE FE p e below s Q kc ks T (mkF m pc Ls (.int x :: st)) := OE.of (fun _ k' => XS.ineg X.here hx rfl (hb hby hd) rfl k') h
theorem OE.lneg (X : Stand p l e R s' m args below meth c T locs cells slots) (hx : p.tables.exec = Jvm.exec) {code : ByteArray} (hby : c.code = code) {pc : Nat} {Ls : Array Slot} {x : Int64} {st : List Value} (hd : decode code pc = .ok (.lneg, 1))  (h : OE FE p e below s Q kc ks T (mkF m (pc + 1) Ls (.long (-x) :: st))) : OE FE p e below s Q kc ks T (mkF m pc Ls (.long x :: st)) := OE.of (fun _ k' => XS.lneg X.here hx rfl (hb hby hd) rfl k') h
theorem OE.i2l (X : Stand p l e R s' m args below meth c T locs cells slots) (hx : p.tables.exec = Jvm.exec) {code : ByteArray} (hby : c.code = code) {pc : Nat} {Ls : Array Slot} {x : Int32} {st : List Value} (hd : decode code pc = .ok (.i2l, 1))  (h : OE FE p e below s Q kc ks T (mkF m (pc + 1) Ls (.long x.toInt64 :: st))) : OE FE p e below s Q kc ks T (mkF m pc Ls (.int x :: st)) := OE.of (fun _ k' => XS.i2l X.here hx rfl (hb hby hd) rfl k') h
theorem OE.l2i (X : Stand p l e R s' m args below meth c T locs cells slots) (hx : p.tables.exec = Jvm.exec) {code : ByteArray} (hby : c.code = code) {pc : Nat} {Ls : Array Slot} {x : Int64} {st : List Value} (hd : decode code pc = .ok (.l2i, 1))  (h : OE FE p e below s Q kc ks T (mkF m (pc + 1) Ls (.int x.toInt32 :: st))) : OE FE p e below s Q kc ks T (mkF m pc Ls (.long x :: st)) := OE.of (fun _ k' => XS.l2i X.here hx rfl (hb hby hd) rfl k') h
theorem OE.i2b (X : Stand p l e R s' m args below meth c T locs cells slots) (hx : p.tables.exec = Jvm.exec) {code : ByteArray} (hby : c.code = code) {pc : Nat} {Ls : Array Slot} {x : Int32} {st : List Value} (hd : decode code pc = .ok (.i2b, 1))  (h : OE FE p e below s Q kc ks T (mkF m (pc + 1) Ls (.int x.toInt8.toInt32 :: st))) : OE FE p e below s Q kc ks T (mkF m pc Ls (.int x :: st)) := OE.of (fun _ k' => XS.i2b X.here hx rfl (hb hby hd) rfl k') h
theorem OE.i2s (X : Stand p l e R s' m args below meth c T locs cells slots) (hx : p.tables.exec = Jvm.exec) {code : ByteArray} (hby : c.code = code) {pc : Nat} {Ls : Array Slot} {x : Int32} {st : List Value} (hd : decode code pc = .ok (.i2s, 1))  (h : OE FE p e below s Q kc ks T (mkF m (pc + 1) Ls (.int x.toInt16.toInt32 :: st))) : OE FE p e below s Q kc ks T (mkF m pc Ls (.int x :: st)) := OE.of (fun _ k' => XS.i2s X.here hx rfl (hb hby hd) rfl k') h
theorem OE.i2c (X : Stand p l e R s' m args below meth c T locs cells slots) (hx : p.tables.exec = Jvm.exec) {code : ByteArray} (hby : c.code = code) {pc : Nat} {Ls : Array Slot} {x : Int32} {st : List Value} (hd : decode code pc = .ok (.i2c, 1))  (h : OE FE p e below s Q kc ks T (mkF m (pc + 1) Ls (.int x.toUInt32.toUInt16.toUInt32.toInt32 :: st))) : OE FE p e below s Q kc ks T (mkF m pc Ls (.int x :: st)) := OE.of (fun _ k' => XS.i2c X.here hx rfl (hb hby hd) rfl k') h
theorem OE.lcmp (X : Stand p l e R s' m args below meth c T locs cells slots) (hx : p.tables.exec = Jvm.exec) {code : ByteArray} (hby : c.code = code) {pc : Nat} {Ls : Array Slot} {x y : Int64} {st : List Value} (hd : decode code pc = .ok (.lcmp, 1))  (h : OE FE p e below s Q kc ks T (mkF m (pc + 1) Ls (.int (lcmpW x y) :: st))) : OE FE p e below s Q kc ks T (mkF m pc Ls (.long y :: .long x :: st)) := OE.of (fun _ k' => XS.lcmp X.here hx rfl (hb hby hd) rfl k') h
theorem OE.idiv (X : Stand p l e R s' m args below meth c T locs cells slots) (hx : p.tables.exec = Jvm.exec) {code : ByteArray} (hby : c.code = code) {pc : Nat} {Ls : Array Slot} {x y : Int32} {st : List Value} (hd : decode code pc = .ok (.idiv, 1)) (hy : y ≠ 0) (h : OE FE p e below s Q kc ks T (mkF m (pc + 1) Ls (.int (x / y) :: st))) : OE FE p e below s Q kc ks T (mkF m pc Ls (.int y :: .int x :: st)) := OE.of (fun _ k' => XS.idiv X.here hx rfl (hb hby hd) rfl hy k') h
theorem OE.irem (X : Stand p l e R s' m args below meth c T locs cells slots) (hx : p.tables.exec = Jvm.exec) {code : ByteArray} (hby : c.code = code) {pc : Nat} {Ls : Array Slot} {x y : Int32} {st : List Value} (hd : decode code pc = .ok (.irem, 1)) (hy : y ≠ 0) (h : OE FE p e below s Q kc ks T (mkF m (pc + 1) Ls (.int (x % y) :: st))) : OE FE p e below s Q kc ks T (mkF m pc Ls (.int y :: .int x :: st)) := OE.of (fun _ k' => XS.irem X.here hx rfl (hb hby hd) rfl hy (by rw [irem_eq_mod]; exact k')) h
theorem OE.ldiv (X : Stand p l e R s' m args below meth c T locs cells slots) (hx : p.tables.exec = Jvm.exec) {code : ByteArray} (hby : c.code = code) {pc : Nat} {Ls : Array Slot} {x y : Int64} {st : List Value} (hd : decode code pc = .ok (.ldiv, 1)) (hy : y ≠ 0) (h : OE FE p e below s Q kc ks T (mkF m (pc + 1) Ls (.long (x / y) :: st))) : OE FE p e below s Q kc ks T (mkF m pc Ls (.long y :: .long x :: st)) := OE.of (fun _ k' => XS.ldiv X.here hx rfl (hb hby hd) rfl hy k') h
theorem OE.lrem (X : Stand p l e R s' m args below meth c T locs cells slots) (hx : p.tables.exec = Jvm.exec) {code : ByteArray} (hby : c.code = code) {pc : Nat} {Ls : Array Slot} {x y : Int64} {st : List Value} (hd : decode code pc = .ok (.lrem, 1)) (hy : y ≠ 0) (h : OE FE p e below s Q kc ks T (mkF m (pc + 1) Ls (.long (x % y) :: st))) : OE FE p e below s Q kc ks T (mkF m pc Ls (.long y :: .long x :: st)) := OE.of (fun _ k' => XS.lrem X.here hx rfl (hb hby hd) rfl hy (by rw [lrem_mod]; exact k')) h
theorem OE.iinc (X : Stand p l e R s' m args below meth c T locs cells slots) (hx : p.tables.exec = Jvm.exec) {code : ByteArray} (hby : c.code = code) {pc : Nat} {Ls : Array Slot} {k : Nat} {cst : Int} {x : Int32} {l' : Array Slot} {st : List Value} (hd : decode code pc = .ok (.iinc k cst, 3)) (hl : Ls[k]? = some (.val (.int x))) (hl' : storeLocals Ls k (.int (x + Int32.ofInt cst)) = some l') (h : OE FE p e below s Q kc ks T (mkF m (pc + 3) l' (st))) : OE FE p e below s Q kc ks T (mkF m pc Ls (st)) := OE.of (fun _ k' => XS.iinc X.here hx rfl (hb hby hd) hl hl' k') h
theorem OE.dup (X : Stand p l e R s' m args below meth c T locs cells slots) (hx : p.tables.exec = Jvm.exec) {code : ByteArray} (hby : c.code = code) {pc : Nat} {Ls : Array Slot} {v : Value} {st : List Value} (hd : decode code pc = .ok (.dup, 1)) (hc : v.category = 1) (h : OE FE p e below s Q kc ks T (mkF m (pc + 1) Ls (v :: v :: st))) : OE FE p e below s Q kc ks T (mkF m pc Ls (v :: st)) := OE.of (fun _ k' => XS.dup X.here hx rfl (hb hby hd) rfl hc k') h
theorem OE.pop (X : Stand p l e R s' m args below meth c T locs cells slots) (hx : p.tables.exec = Jvm.exec) {code : ByteArray} (hby : c.code = code) {pc : Nat} {Ls : Array Slot} {v : Value} {st : List Value} (hd : decode code pc = .ok (.pop, 1)) (hc : v.category = 1) (h : OE FE p e below s Q kc ks T (mkF m (pc + 1) Ls (st))) : OE FE p e below s Q kc ks T (mkF m pc Ls (v :: st)) := OE.of (fun _ k' => XS.pop X.here hx rfl (hb hby hd) rfl hc k') h
theorem OE.dupX1 (X : Stand p l e R s' m args below meth c T locs cells slots) (hx : p.tables.exec = Jvm.exec) {code : ByteArray} (hby : c.code = code) {pc : Nat} {Ls : Array Slot} {v w : Value} {st : List Value} (hd : decode code pc = .ok (.dup_x1, 1)) (hc : v.category = 1) (hc' : w.category = 1) (h : OE FE p e below s Q kc ks T (mkF m (pc + 1) Ls (v :: w :: v :: st))) : OE FE p e below s Q kc ks T (mkF m pc Ls (v :: w :: st)) := OE.of (fun _ k' => XS.dupX1 X.here hx rfl (hb hby hd) rfl hc hc' k') h
theorem OE.dup2 (X : Stand p l e R s' m args below meth c T locs cells slots) (hx : p.tables.exec = Jvm.exec) {code : ByteArray} (hby : c.code = code) {pc : Nat} {Ls : Array Slot} {v w : Value} {st : List Value} (hd : decode code pc = .ok (.dup2, 1)) (hc : v.category = 1) (hc' : w.category = 1) (h : OE FE p e below s Q kc ks T (mkF m (pc + 1) Ls (v :: w :: v :: w :: st))) : OE FE p e below s Q kc ks T (mkF m pc Ls (v :: w :: st)) := OE.of (fun _ k' => Jvm.Free.XT.dup2 X.here hx rfl (hb hby hd) rfl hc hc' k') h
theorem OE.dup2L (X : Stand p l e R s' m args below meth c T locs cells slots) (hx : p.tables.exec = Jvm.exec) {code : ByteArray} (hby : c.code = code) {pc : Nat} {Ls : Array Slot} {v : Int64} {st : List Value} (hd : decode code pc = .ok (.dup2, 1))  (h : OE FE p e below s Q kc ks T (mkF m (pc + 1) Ls (.long v :: .long v :: st))) : OE FE p e below s Q kc ks T (mkF m pc Ls (.long v :: st)) := OE.of (fun _ k' => Jvm.Free.XT.dup2L X.here hx rfl (hb hby hd) rfl k') h
theorem OE.goto (X : Stand p l e R s' m args below meth c T locs cells slots) (hx : p.tables.exec = Jvm.exec) {code : ByteArray} (hby : c.code = code) {pc : Nat} {Ls : Array Slot} {o : Int} (pc' : Nat) {st : List Value} (hd : decode code pc = .ok (.goto o, 3)) (ho : 0 ≤ (pc : Int) + o := by decide) (hp : ((pc : Int) + o).toNat = pc' := by decide) (h : OE FE p e below s Q kc ks T (mkF m pc' Ls (st))) : OE FE p e below s Q kc ks T (mkF m pc Ls (st)) := OE.of (fun _ k' => XS.goto X.here hx rfl rfl (hb hby hd) ho hp k') h
theorem OE.ifYes (X : Stand p l e R s' m args below meth c T locs cells slots) (hx : p.tables.exec = Jvm.exec) {code : ByteArray} (hby : c.code = code) {pc : Nat} {Ls : Array Slot} {cd : ClassFile.Cond} {x : Int32} {o : Int} (pc' : Nat) {st : List Value} (hd : decode code pc = .ok (.ifCond cd o, 3)) (hc : if_icmp.holds cd x 0 = true) (ho : 0 ≤ (pc : Int) + o := by decide) (hp : ((pc : Int) + o).toNat = pc' := by decide) (h : OE FE p e below s Q kc ks T (mkF m pc' Ls (st))) : OE FE p e below s Q kc ks T (mkF m pc Ls (.int x :: st)) := OE.of (fun _ k' => XS.ifYes X.here hx rfl rfl (hb hby hd) rfl ((if0 _ _).trans hc) ho hp k') h
theorem OE.ifNo (X : Stand p l e R s' m args below meth c T locs cells slots) (hx : p.tables.exec = Jvm.exec) {code : ByteArray} (hby : c.code = code) {pc : Nat} {Ls : Array Slot} {cd : ClassFile.Cond} {x : Int32} {o : Int} {st : List Value} (hd : decode code pc = .ok (.ifCond cd o, 3)) (hc : if_icmp.holds cd x 0 = false) (h : OE FE p e below s Q kc ks T (mkF m (pc + 3) Ls (st))) : OE FE p e below s Q kc ks T (mkF m pc Ls (.int x :: st)) := OE.of (fun _ k' => XS.ifNo X.here hx rfl (hb hby hd) rfl ((if0 _ _).trans hc) k') h
theorem OE.icmpYes (X : Stand p l e R s' m args below meth c T locs cells slots) (hx : p.tables.exec = Jvm.exec) {code : ByteArray} (hby : c.code = code) {pc : Nat} {Ls : Array Slot} {cd : ClassFile.Cond} {x y : Int32} {o : Int} (pc' : Nat) {st : List Value} (hd : decode code pc = .ok (.if_icmp cd o, 3)) (hc : if_icmp.holds cd x y = true) (ho : 0 ≤ (pc : Int) + o := by decide) (hp : ((pc : Int) + o).toNat = pc' := by decide) (h : OE FE p e below s Q kc ks T (mkF m pc' Ls (st))) : OE FE p e below s Q kc ks T (mkF m pc Ls (.int y :: .int x :: st)) := OE.of (fun _ k' => XS.icmpYes X.here hx rfl rfl (hb hby hd) rfl hc ho hp k') h
theorem OE.icmpNo (X : Stand p l e R s' m args below meth c T locs cells slots) (hx : p.tables.exec = Jvm.exec) {code : ByteArray} (hby : c.code = code) {pc : Nat} {Ls : Array Slot} {cd : ClassFile.Cond} {x y : Int32} {o : Int} {st : List Value} (hd : decode code pc = .ok (.if_icmp cd o, 3)) (hc : if_icmp.holds cd x y = false) (h : OE FE p e below s Q kc ks T (mkF m (pc + 3) Ls (st))) : OE FE p e below s Q kc ks T (mkF m pc Ls (.int y :: .int x :: st)) := OE.of (fun _ k' => XS.icmpNo X.here hx rfl (hb hby hd) rfl hc k') h
theorem OE.ifnullYes (X : Stand p l e R s' m args below meth c T locs cells slots) (hx : p.tables.exec = Jvm.exec) {code : ByteArray} (hby : c.code = code) {pc : Nat} {Ls : Array Slot} {o : Int} (pc' : Nat) {st : List Value} (hd : decode code pc = .ok (.ifnull o, 3)) (ho : 0 ≤ (pc : Int) + o := by decide) (hp : ((pc : Int) + o).toNat = pc' := by decide) (h : OE FE p e below s Q kc ks T (mkF m pc' Ls (st))) : OE FE p e below s Q kc ks T (mkF m pc Ls (.null :: st)) := OE.of (fun _ k' => XS.ifnullYes X.here hx rfl rfl (hb hby hd) rfl ho hp k') h
theorem OE.ifnullNo (X : Stand p l e R s' m args below meth c T locs cells slots) (hx : p.tables.exec = Jvm.exec) {code : ByteArray} (hby : c.code = code) {pc : Nat} {Ls : Array Slot} {b : Addr} {o : Int} {st : List Value} (hd : decode code pc = .ok (.ifnull o, 3))  (h : OE FE p e below s Q kc ks T (mkF m (pc + 3) Ls (st))) : OE FE p e below s Q kc ks T (mkF m pc Ls (.ref b :: st)) := OE.of (fun _ k' => XS.ifnullNo X.here hx rfl (hb hby hd) rfl k') h
theorem OE.ifnonnullYes (X : Stand p l e R s' m args below meth c T locs cells slots) (hx : p.tables.exec = Jvm.exec) {code : ByteArray} (hby : c.code = code) {pc : Nat} {Ls : Array Slot} {b : Addr} {o : Int} (pc' : Nat) {st : List Value} (hd : decode code pc = .ok (.ifnonnull o, 3)) (ho : 0 ≤ (pc : Int) + o := by decide) (hp : ((pc : Int) + o).toNat = pc' := by decide) (h : OE FE p e below s Q kc ks T (mkF m pc' Ls (st))) : OE FE p e below s Q kc ks T (mkF m pc Ls (.ref b :: st)) := OE.of (fun _ k' => XS.ifnonnullYes X.here hx rfl rfl (hb hby hd) rfl ho hp k') h
theorem OE.ifnonnullNo (X : Stand p l e R s' m args below meth c T locs cells slots) (hx : p.tables.exec = Jvm.exec) {code : ByteArray} (hby : c.code = code) {pc : Nat} {Ls : Array Slot} {o : Int} {st : List Value} (hd : decode code pc = .ok (.ifnonnull o, 3))  (h : OE FE p e below s Q kc ks T (mkF m (pc + 3) Ls (st))) : OE FE p e below s Q kc ks T (mkF m pc Ls (.null :: st)) := OE.of (fun _ k' => XS.ifnonnullNo X.here hx rfl (hb hby hd) rfl k') h
end New
end Jvm.RoadKit
namespace Jvm.RoadKit
open Sem ClassFile Op Lib Jvm.Stand Jvm.Free Jvm.LawKit
/-- a private method of a plain class is what a call of it selects -/
theorem own_sel {args a1 a2 : Array Value} {s : State} {y : MethodName} {k : Nat} (hi : (Cond.instanceMethod y).before a1 s = true) (hp : s.PrivateAt y) (hk : (Cond.instantiable y.cls k).before a2 s = true)
    (hy : y.cls ≠ "java/lang/invoke/MethodHandle" ∧ y.cls ≠ "java/lang/invoke/VarHandle") : (Cond.selects y.cls y y).before args s = true := by
  obtain ⟨mk, meth, hn, hm, -, -⟩ := Cond.instanceMethod_spec hi
  obtain ⟨c, k', h1, h2, h3, h4, -, -⟩ := Cond.instantiable_spec hk
  have hf := State.methodFound?_of_named hn hy
  have hc := findClass_of_methodNamed hn
  cases h1.symm.trans hc
  have hs : selectMethod {} s.vm mk.cls mk = .method mk := selectMethod_private hm (hp mk meth hn hm)
  have h5 : k'.isInterface = false := by
    cases hq : k'.isInterface
    · rfl
    · rw [hq] at h4; cases h4
  simp [Cond.before, Cond.holds, Cond.value, hc, hf, hn, hs, h2, h5]
end Jvm.RoadKit
namespace Jvm.Pilot.@@N@@
open Jvm Jvm.ClassFile Sem Op Lib Jvm.Free Jvm.Stand Jvm.LawKit Jvm.RoadKit Bundle Jvm.Pilot.@@N@@.Jvm.D
theorem own_d5_0 : decode jdk_31_method_10_code 0 = .ok (.aload_n 0, 1) := by decide +kernel
theorem own_d5_1 : decode jdk_31_method_10_code 1 = .ok (.ifnonnull 11, 3) := by decide +kernel
theorem own_d5_12 : decode jdk_31_method_10_code 12 = .ok (.aload_n 0, 1) := by decide +kernel
theorem own_d5_13 : decode jdk_31_method_10_code 13 = .ok (.areturn, 1) := by decide +kernel
def own_Q5 (Z : State) (a1 : Addr) (h0 : Heap) (n0 : Nat) (v : Option Value) (h : Heap) (L : List Loc) : Prop := v = some (.ref a1) ∧ Fr n0 L ∧ h = h0
theorem own_pn0 : plainName "java/util/Objects" = true := by first | (simp [plainName, overriddenIn]; done) | decide +kernel
theorem own_ef_own_rm5 (m : MethodId) (a1 : Addr) : entryFrame m #[(.ref a1)] 1 = mkF m 0 #[.val (.ref a1)] [] := by first | (simp [entryFrame, mkF, argsToLocals, Value.category]; done) | rfl
set_option maxRecDepth 65536 in
set_option maxHeartbeats 40000000 in
theorem own_rm5 (l : Launch) (Z : State) (a0 : Array Value) (hw : ∀ d ∈ tables_1, d.before a0 Z = true) (ws : List Jvm.Cond) (a1 : Addr) (h0 : Heap) (n0 : Nat) (Z0 : n0 ≤ h0.size) :
    MetFree l (⟨"java/util/Objects", "requireNonNull", "(Ljava/lang/Object;)Ljava/lang/Object;"⟩ : MethodName) (head1 (Jvm.Cond.code (⟨"java/util/Objects", "requireNonNull", "(Ljava/lang/Object;)Ljava/lang/Object;"⟩ : MethodName) jdk_31_method_10_code 1 (some (.object "java/lang/Object")) :: ws) ({ frames := 0, cells := 0, slots := 0, locals := 0 } : Room)) (fun a U => a = #[(.ref a1)] ∧ Z.Warmed39 U.vm ∧ U.heap = h0) (fun _ _ _ _ _ => True) (fun _ U o U' => ∃ v L, o = .returned v ∧ own_Q5 Z a1 h0 n0 v U'.heap L ∧ FrameEnd U o U' L ({ frames := 0, cells := 0, slots := 0, locals := 0 } : Room).cells ({ frames := 0, cells := 0, slots := 0, locals := 0 } : Room).slots) := by
  refine MetFree.of_bodySF (plainFor_of_name own_pn0) hisR ?_
  intro p e s m args below meth c s₁ Bd hml0 hP hK
  obtain ⟨rfl, hZ, hh⟩ := hP
  have hx := Bd.exec
  have hby := Bd.bytes
  have hml : c.maxLocals = 1 := hml0
  have hown : s.vm.findClass "java/util/Objects" = some m.cls := findClass_of_methodNamed Bd.named
  have hnm := (name_of_methodNamed Bd.named Bd.method).1
  have X0 : Stand p l e ({ frames := 0, cells := 0, slots := 0, locals := 0 } : Room) s m #[(.ref a1)] below meth c s₁ [] 0 0 := Stand.of_body Bd
  have e0 : s₁.heap = h0 := by rw [← hh, Bd.state]; rfl
  have N0 := Fr.nil n0
  show OE FrameEnd p e below s (own_Q5 Z a1 h0 n0) ({ frames := 0, cells := 0, slots := 0, locals := 0 } : Room).cells ({ frames := 0, cells := 0, slots := 0, locals := 0 } : Room).slots s₁ (entryFrame m #[(.ref a1)] 1)
  rw [own_ef_own_rm5]
  show OE _ p e below s _ _ _ s₁ (mkF m 0 #[.val (.ref a1)] [])
  refine OE.aloadN X0 hx hby own_d5_0 rfl rfl ?_
  refine OE.ifnonnullYes X0 hx hby (pc' := 12) own_d5_1 (h := ?_)
  refine OE.aloadN X0 hx hby own_d5_12 rfl rfl ?_
  refine OE.retA X0 hx rfl Bd.returns rfl Bd.notSynchronized (hb hby own_d5_13) (by decide) (by decide) ?_
  rw [e0]
  exact ⟨rfl, N0, rfl⟩
theorem own_d1_0 : decode prog_24_method_1_code 0 = .ok (.aload_n 0, 1) := by decide +kernel
theorem own_d1_1 : decode prog_24_method_1_code 1 = .ok (.invokespecial 5, 3) := by decide +kernel
theorem own_d1_4 : decode prog_24_method_1_code 4 = .ok (.aload_n 0, 1) := by decide +kernel
theorem own_d1_5 : decode prog_24_method_1_code 5 = .ok (.bipush 16, 2) := by decide +kernel
theorem own_d1_7 : decode prog_24_method_1_code 7 = .ok (.anewarray 11, 3) := by decide +kernel
theorem own_d1_10 : decode prog_24_method_1_code 10 = .ok (.putfield 13, 3) := by decide +kernel
theorem own_d1_13 : decode prog_24_method_1_code 13 = .ok (.aload_n 0, 1) := by decide +kernel
theorem own_d1_14 : decode prog_24_method_1_code 14 = .ok (.ldc 17, 2) := by decide +kernel
theorem own_d1_16 : decode prog_24_method_1_code 16 = .ok (.putfield 18, 3) := by decide +kernel
theorem own_d1_19 : decode prog_24_method_1_code 19 = .ok (.return_, 1) := by decide +kernel
def own_Q1 (Z : State) (a1 : Addr) (h0 : Heap) (n0 : Nat) (v : Option Value) (h : Heap) (L : List Loc) : Prop := ∃ bl : Addr, ∃ kb : ClassId, v = none ∧ Fr n0 L ∧ Keep h0 h [a1] ∧ Exa Z h a1 "com/example/corbel/corbel/ByteSlices" ∧ Fld Z h a1 "com/example/corbel/corbel/ByteSlices" "blocks" "[[B" (.ref bl) ∧ Fld Z h a1 "com/example/corbel/corbel/ByteSlices" "blockUsed" "I" (.int (32768 : Int32)) ∧ Fld Z h a1 "com/example/corbel/corbel/ByteSlices" "blockCount" "I" (.int (0 : Int32)) ∧ Fld Z h a1 "com/example/corbel/corbel/ByteSlices" "bytesUsed" "J" (.long (0 : Int64)) ∧ Arv Z h bl kb (.array .byte) (16 : Int32) [.null, .null, .null, .null, .null, .null, .null, .null, .null, .null, .null, .null, .null, .null, .null, .null] .null ∧ h0.size ≤ bl ∧ OvrA Z kb .byte "[B"
theorem own_pn1 : plainName "com/example/corbel/corbel/ByteSlices" = true := by first | (simp [plainName, overriddenIn]; done) | decide +kernel
theorem own_ef_own_rm1 (m : MethodId) (a1 : Addr) : entryFrame m #[(.ref a1)] 1 = mkF m 0 #[.val (.ref a1)] [] := by first | (simp [entryFrame, mkF, argsToLocals, Value.category]; done) | rfl
set_option maxRecDepth 65536 in
set_option maxHeartbeats 40000000 in
theorem own_rm1 (l : Launch) (Z : State) (a0 : Array Value) (hw : ∀ d ∈ tables_1, d.before a0 Z = true) (ws : List Jvm.Cond) (a1 : Addr) (h0 : Heap) (n0 : Nat) (Z0 : n0 ≤ h0.size) (E_a1 : Exa Z h0 a1 "com/example/corbel/corbel/ByteSlices") (F_blocks_a1 : Fld Z h0 a1 "com/example/corbel/corbel/ByteSlices" "blocks" "[[B" .null) (F_blockUsed_a1 : Fld Z h0 a1 "com/example/corbel/corbel/ByteSlices" "blockUsed" "I" (.int (0 : Int32))) (F_blockCount_a1 : Fld Z h0 a1 "com/example/corbel/corbel/ByteSlices" "blockCount" "I" (.int (0 : Int32))) (F_bytesUsed_a1 : Fld Z h0 a1 "com/example/corbel/corbel/ByteSlices" "bytesUsed" "J" (.long (0 : Int64))) (g_a1 : n0 ≤ a1) :
    MetFree l (⟨"com/example/corbel/corbel/ByteSlices", "<init>", "()V"⟩ : MethodName) (head1 (Jvm.Cond.code (⟨"com/example/corbel/corbel/ByteSlices", "<init>", "()V"⟩ : MethodName) prog_24_method_1_code 1 none :: ws) ({ frames := 1, cells := 1, slots := 16, locals := 12 } : Room)) (fun a U => a = #[(.ref a1)] ∧ Z.Warmed39 U.vm ∧ U.heap = h0) (fun _ _ _ _ _ => True) (fun _ U o U' => ∃ v L, o = .returned v ∧ own_Q1 Z a1 h0 n0 v U'.heap L ∧ FrameEnd U o U' L ({ frames := 1, cells := 1, slots := 16, locals := 12 } : Room).cells ({ frames := 1, cells := 1, slots := 16, locals := 12 } : Room).slots) := by
  refine MetFree.of_bodySF (plainFor_of_name own_pn1) hisR ?_
  intro p e s m args below meth c s₁ Bd hml0 hP hK
  obtain ⟨rfl, hZ, hh⟩ := hP
  have hx := Bd.exec
  have hby := Bd.bytes
  have hml : c.maxLocals = 1 := hml0
  have hown : s.vm.findClass "com/example/corbel/corbel/ByteSlices" = some m.cls := findClass_of_methodNamed Bd.named
  have hnm := (name_of_methodNamed Bd.named Bd.method).1
  have X0 : Stand p l e ({ frames := 1, cells := 1, slots := 16, locals := 12 } : Room) s m #[(.ref a1)] below meth c s₁ [] 0 0 := Stand.of_body Bd
  have e0 : s₁.heap = h0 := by rw [← hh, Bd.state]; rfl
  have N0 := Fr.nil n0
  show OE FrameEnd p e below s (own_Q1 Z a1 h0 n0) ({ frames := 1, cells := 1, slots := 16, locals := 12 } : Room).cells ({ frames := 1, cells := 1, slots := 16, locals := 12 } : Room).slots s₁ (entryFrame m #[(.ref a1)] 1)
  rw [own_ef_own_rm1]
  show OE _ p e below s _ _ _ s₁ (mkF m 0 #[.val (.ref a1)] [])
  refine OE.aloadN X0 hx hby own_d1_0 rfl rfl ?_
  obtain ⟨T1, X1, e1, st1⟩ := initO X0 hx hZ hown (hw _ (List.mem_of_getElem? (i := 6) rfl)) (hw _ (List.mem_of_getElem? (i := 7) rfl)) (hw _ (List.mem_of_getElem? (i := 8) rfl)) e0 (g := (mkF m 1 #[.val (.ref a1)] [(.ref a1)])) rfl (by rw [hml]; rfl) rfl (hb hby own_d1_1) (by decide) (W := 0) (by show 2 * 0 + _ ≤ _; exact Nat.le_of_eq rfl) (by decide)
  refine OE.of st1 ?_
  show OE _ p e below s _ _ _ T1 (mkF m 4 #[.val (.ref a1)] [])
  refine OE.aloadN X1 hx hby own_d1_4 rfl rfl ?_
  refine OE.bipush X1 hx hby own_d1_5 (16 : Int32) rfl ?_
  obtain ⟨T2, h2, k2, X2, e2, E2, A2, B2, O2, st2⟩ := newRA X1 hx hZ hown (ty := .byte) (by decide) (hw _ (List.mem_of_getElem? (i := 9) rfl)) (hw _ (List.mem_of_getElem? (i := 10) rfl)) e1 (g := (mkF m 7 #[.val (.ref a1)] [(.int (16 : Int32)), (.ref a1)])) rfl (hb hby own_d1_7) rfl (by decide) (cap := 16) (by decide) (by decide) (by decide) (by decide) (ad := "[[B") (by decide)
  refine OE.of st2 ?_
  obtain ⟨b2, g2⟩ : ∃ z, z = h0.size := ⟨_, rfl⟩
  rw [← g2] at A2 B2 ⊢
  have ne_a1_b2 : a1 ≠ b2 := Nat.ne_of_lt (Nat.lt_of_lt_of_le E_a1.lt (Nat.le_of_eq g2.symm))
  have g_b2 : n0 ≤ b2 := Nat.le_trans Z0 (Nat.le_of_eq g2.symm)
  have sz_b2 : h0.size ≤ b2 := Nat.le_trans (Keep.refl h0 [a1]).1 (Nat.le_of_eq g2.symm)
  have V2 : Arv Z h2 b2 k2 (.array .byte) (16 : Int32) [.null, .null, .null, .null, .null, .null, .null, .null, .null, .null, .null, .null, .null, .null, .null, .null] .null := (Arv.new A2 (by decide)).pad (pad_rep [] .null 16)
  show OE _ p e below s _ _ _ T2 (mkF m 10 #[.val (.ref a1)] [(.ref b2), (.ref a1)])
  have f3 : Exa Z h2 a1 "com/example/corbel/corbel/ByteSlices" := (E_a1.ext E2)
  have f4 : Fld Z h2 a1 "com/example/corbel/corbel/ByteSlices" "blocks" "[[B" .null := (F_blocks_a1.ext E2)
  obtain ⟨T5, h5, X5, e5, W5, st5⟩ := putF X2 hx hZ hown (host := "") (Or.inl (hw _ (List.mem_of_getElem? (i := 11) rfl))) Via.refl e2 f4 f3 (Or.inl (hw _ (List.mem_of_getElem? (i := 12) rfl))) (hw _ (List.mem_of_getElem? (i := 1) rfl)) (ty := (.array (.array .byte))) (by decide) rfl rfl (g := (mkF m 10 #[.val (.ref a1)] [(.ref b2), (.ref a1)])) rfl rfl (hb hby own_d1_10)
  refine OE.of st5 ?_
  have N5 := Fr.snoc X5 N0 g_a1
  have Fw5 := f4.same W5
  show OE _ p e below s _ _ _ T5 (mkF m 13 #[.val (.ref a1)] [])
  refine OE.aloadN X5 hx hby own_d1_13 rfl rfl ?_
  refine OE.of (X5.ldcInt hx hown (mvT hZ (hw _ (List.mem_of_getElem? (i := 13) rfl))) (g := (mkF m 14 #[.val (.ref a1)] [(.ref a1)])) rfl (hb hby own_d1_14)) ?_
  show OE _ p e below s _ _ _ T5 (mkF m 16 #[.val (.ref a1)] [(.int (32768 : Int32)), (.ref a1)])
  have f6 : Exa Z h5 a1 "com/example/corbel/corbel/ByteSlices" := (f3.wr W5)
  have f7 : Fld Z h5 a1 "com/example/corbel/corbel/ByteSlices" "blockUsed" "I" (.int (0 : Int32)) := ((F_blockUsed_a1.ext E2).other W5 (Or.inr (slot_ne (Or.inl (hw _ (List.mem_of_getElem? (i := 15) rfl))) (Or.inl (hw _ (List.mem_of_getElem? (i := 12) rfl))) (by decide) (t := .int) (t' := (.array (.array .byte))) (by decide) (by decide))))
  obtain ⟨T8, h8, X8, e8, W8, st8⟩ := putF X5 hx hZ hown (host := "") (Or.inl (hw _ (List.mem_of_getElem? (i := 14) rfl))) Via.refl e5 f7 f6 (Or.inl (hw _ (List.mem_of_getElem? (i := 15) rfl))) (hw _ (List.mem_of_getElem? (i := 1) rfl)) (ty := .int) (by decide) rfl rfl (g := (mkF m 16 #[.val (.ref a1)] [(.int (32768 : Int32)), (.ref a1)])) rfl rfl (hb hby own_d1_16)
  refine OE.of st8 ?_
  have N8 := Fr.snoc X8 N5 g_a1
  have Fw8 := f7.same W8
  show OE _ p e below s _ _ _ T8 (mkF m 19 #[.val (.ref a1)] [])
  refine OE.ret0 X8 hx Bd.returns Bd.notSynchronized (hb hby own_d1_19) (by decide) (by decide) ?_
  rw [e8]
  have K9 : Keep h0 h8 [a1] := (Keep.wr (Keep.wr (Keep.ext (Keep.refl h0 [a1]) E2) W5 (Or.inl (List.mem_of_getElem? (i := 0) rfl))) W8 (Or.inl (List.mem_of_getElem? (i := 0) rfl)))
  have f10 : Exa Z h8 a1 "com/example/corbel/corbel/ByteSlices" := (f6.wr W8)
  have f11 : Fld Z h8 a1 "com/example/corbel/corbel/ByteSlices" "blocks" "[[B" (.ref b2) := (Fw5.other W8 (Or.inr (slot_ne (Or.inl (hw _ (List.mem_of_getElem? (i := 12) rfl))) (Or.inl (hw _ (List.mem_of_getElem? (i := 15) rfl))) (by decide) (t := (.array (.array .byte))) (t' := .int) (by decide) (by decide))))
  have f12 : Fld Z h8 a1 "com/example/corbel/corbel/ByteSlices" "blockCount" "I" (.int (0 : Int32)) := (((F_blockCount_a1.ext E2).other W5 (Or.inr (slot_ne (Or.inl (hw _ (List.mem_of_getElem? (i := 27) rfl))) (Or.inl (hw _ (List.mem_of_getElem? (i := 12) rfl))) (by decide) (t := .int) (t' := (.array (.array .byte))) (by decide) (by decide)))).other W8 (Or.inr (slot_ne (Or.inl (hw _ (List.mem_of_getElem? (i := 27) rfl))) (Or.inl (hw _ (List.mem_of_getElem? (i := 15) rfl))) (by decide) (t := .int) (t' := .int) (by decide) (by decide))))
  have f13 : Fld Z h8 a1 "com/example/corbel/corbel/ByteSlices" "bytesUsed" "J" (.long (0 : Int64)) := (((F_bytesUsed_a1.ext E2).other W5 (Or.inr (slot_ne (Or.inl (hw _ (List.mem_of_getElem? (i := 31) rfl))) (Or.inl (hw _ (List.mem_of_getElem? (i := 12) rfl))) (by decide) (t := .long) (t' := (.array (.array .byte))) (by decide) (by decide)))).other W8 (Or.inr (slot_ne (Or.inl (hw _ (List.mem_of_getElem? (i := 31) rfl))) (Or.inl (hw _ (List.mem_of_getElem? (i := 15) rfl))) (by decide) (t := .long) (t' := .int) (by decide) (by decide))))
  have f14 : Arv Z h8 b2 k2 (.array .byte) (16 : Int32) [.null, .null, .null, .null, .null, .null, .null, .null, .null, .null, .null, .null, .null, .null, .null, .null] .null := ((V2.other W5 (Ne.symm ne_a1_b2)).other W8 (Ne.symm ne_a1_b2))
  exact ⟨b2, k2, rfl, N8, K9, f10, f11, Fw8, f12, f13, f14, sz_b2, O2⟩
theorem own_d4_0 : decode prog_24_method_12_code 0 = .ok (.aload_n 0, 1) := by decide +kernel
theorem own_d4_1 : decode prog_24_method_12_code 1 = .ok (.getfield 32, 3) := by decide +kernel
theorem own_d4_4 : decode prog_24_method_12_code 4 = .ok (.ldc 63, 2) := by decide +kernel
theorem own_d4_6 : decode prog_24_method_12_code 6 = .ok (.if_icmp .ne 13, 3) := by decide +kernel
theorem own_d4_19 : decode prog_24_method_12_code 19 = .ok (.aload_n 0, 1) := by decide +kernel
theorem own_d4_20 : decode prog_24_method_12_code 20 = .ok (.getfield 32, 3) := by decide +kernel
theorem own_d4_23 : decode prog_24_method_12_code 23 = .ok (.aload_n 0, 1) := by decide +kernel
theorem own_d4_24 : decode prog_24_method_12_code 24 = .ok (.getfield 13, 3) := by decide +kernel
theorem own_d4_27 : decode prog_24_method_12_code 27 = .ok (.arraylength, 1) := by decide +kernel
theorem own_d4_28 : decode prog_24_method_12_code 28 = .ok (.if_icmp .ne 24, 3) := by decide +kernel
theorem own_d4_52 : decode prog_24_method_12_code 52 = .ok (.aload_n 0, 1) := by decide +kernel
theorem own_d4_53 : decode prog_24_method_12_code 53 = .ok (.getfield 13, 3) := by decide +kernel
theorem own_d4_56 : decode prog_24_method_12_code 56 = .ok (.aload_n 0, 1) := by decide +kernel
theorem own_d4_57 : decode prog_24_method_12_code 57 = .ok (.dup, 1) := by decide +kernel
theorem own_d4_58 : decode prog_24_method_12_code 58 = .ok (.getfield 32, 3) := by decide +kernel
theorem own_d4_61 : decode prog_24_method_12_code 61 = .ok (.dup_x1, 1) := by decide +kernel
theorem own_d4_62 : decode prog_24_method_12_code 62 = .ok (.iconst 1, 1) := by decide +kernel
theorem own_d4_63 : decode prog_24_method_12_code 63 = .ok (.iadd, 1) := by decide +kernel
theorem own_d4_64 : decode prog_24_method_12_code 64 = .ok (.putfield 32, 3) := by decide +kernel
theorem own_d4_67 : decode prog_24_method_12_code 67 = .ok (.iload_n 1, 1) := by decide +kernel
theorem own_d4_68 : decode prog_24_method_12_code 68 = .ok (.newarray .byte, 2) := by decide +kernel
theorem own_d4_70 : decode prog_24_method_12_code 70 = .ok (.aastore, 1) := by decide +kernel
theorem own_d4_71 : decode prog_24_method_12_code 71 = .ok (.aload_n 0, 1) := by decide +kernel
theorem own_d4_72 : decode prog_24_method_12_code 72 = .ok (.dup, 1) := by decide +kernel
theorem own_d4_73 : decode prog_24_method_12_code 73 = .ok (.getfield 22, 3) := by decide +kernel
theorem own_d4_76 : decode prog_24_method_12_code 76 = .ok (.iload_n 1, 1) := by decide +kernel
theorem own_d4_77 : decode prog_24_method_12_code 77 = .ok (.i2l, 1) := by decide +kernel
theorem own_d4_78 : decode prog_24_method_12_code 78 = .ok (.ladd, 1) := by decide +kernel
theorem own_d4_79 : decode prog_24_method_12_code 79 = .ok (.putfield 22, 3) := by decide +kernel
theorem own_d4_82 : decode prog_24_method_12_code 82 = .ok (.aload_n 0, 1) := by decide +kernel
theorem own_d4_83 : decode prog_24_method_12_code 83 = .ok (.iconst 0, 1) := by decide +kernel
theorem own_d4_84 : decode prog_24_method_12_code 84 = .ok (.putfield 18, 3) := by decide +kernel
theorem own_d4_87 : decode prog_24_method_12_code 87 = .ok (.aload_n 0, 1) := by decide +kernel
theorem own_d4_88 : decode prog_24_method_12_code 88 = .ok (.getfield 32, 3) := by decide +kernel
theorem own_d4_91 : decode prog_24_method_12_code 91 = .ok (.iconst 1, 1) := by decide +kernel
theorem own_d4_92 : decode prog_24_method_12_code 92 = .ok (.isub, 1) := by decide +kernel
theorem own_d4_93 : decode prog_24_method_12_code 93 = .ok (.bipush 15, 2) := by decide +kernel
theorem own_d4_95 : decode prog_24_method_12_code 95 = .ok (.ishl, 1) := by decide +kernel
theorem own_d4_96 : decode prog_24_method_12_code 96 = .ok (.ireturn, 1) := by decide +kernel
def own_Q4_0 (Z : State) (a1 : Addr) (bl : Addr) (kb : ClassId) (byu : Int64) (us : Int32) (h0 : Heap) (n0 : Nat) (v : Option Value) (h : Heap) (L : List Loc) : Prop := ∃ nb : Addr, ∃ kn : ClassId, v = some (.int ((0 : Int32) <<< ((15 : Int32) &&& 31))) ∧ Fr n0 L ∧ Keep h0 h [a1, bl] ∧ Exa Z h a1 "com/example/corbel/corbel/ByteSlices" ∧ Fld Z h a1 "com/example/corbel/corbel/ByteSlices" "blocks" "[[B" (.ref bl) ∧ Fld Z h a1 "com/example/corbel/corbel/ByteSlices" "blockUsed" "I" (.int (0 : Int32)) ∧ Fld Z h a1 "com/example/corbel/corbel/ByteSlices" "blockCount" "I" (.int (1 : Int32)) ∧ Fld Z h a1 "com/example/corbel/corbel/ByteSlices" "bytesUsed" "J" (.long (byu + ((32768 : Int32).toInt64))) ∧ Arv Z h bl kb (.array .byte) (16 : Int32) [(.ref nb), .null, .null, .null, .null, .null, .null, .null, .null, .null, .null, .null, .null, .null, .null, .null] .null ∧ Arv Z h nb kn .byte (32768 : Int32) [] (.int (0 : Int32)) ∧ h0.size ≤ nb
theorem own_ef_own_rm4_0 (m : MethodId) (a1 : Addr) : entryFrame m #[(.ref a1), (.int (32768 : Int32))] 2 = mkF m 0 #[.val (.ref a1), .val (.int (32768 : Int32))] [] := by first | (simp [entryFrame, mkF, argsToLocals, Value.category]; done) | rfl
set_option maxRecDepth 65536 in
set_option maxHeartbeats 40000000 in
theorem own_rm4_0 (l : Launch) (Z : State) (a0 : Array Value) (hw : ∀ d ∈ tables_1, d.before a0 Z = true) (ws : List Jvm.Cond) (a1 : Addr) (bl : Addr) (kb : ClassId) (byu : Int64) (us : Int32) (h0 : Heap) (n0 : Nat) (Z0 : n0 ≤ h0.size) (E_a1 : Exa Z h0 a1 "com/example/corbel/corbel/ByteSlices") (F_blocks_a1 : Fld Z h0 a1 "com/example/corbel/corbel/ByteSlices" "blocks" "[[B" (.ref bl)) (F_blockCount_a1 : Fld Z h0 a1 "com/example/corbel/corbel/ByteSlices" "blockCount" "I" (.int (0 : Int32))) (F_bytesUsed_a1 : Fld Z h0 a1 "com/example/corbel/corbel/ByteSlices" "bytesUsed" "J" (.long byu)) (V_bl : Arv Z h0 bl kb (.array .byte) (16 : Int32) [.null, .null, .null, .null, .null, .null, .null, .null, .null, .null, .null, .null, .null, .null, .null, .null] .null) (g_a1 : n0 ≤ a1) (g_bl : n0 ≤ bl) (ne_bl_a1 : bl ≠ a1) (ob : OvrA Z kb .byte "[B") (F_blockUsed_a1 : Fld Z h0 a1 "com/example/corbel/corbel/ByteSlices" "blockUsed" "I" (.int us)) :
    MetFree l (⟨"com/example/corbel/corbel/ByteSlices", "newBlock", "(I)I"⟩ : MethodName) (head1 (Jvm.Cond.code (⟨"com/example/corbel/corbel/ByteSlices", "newBlock", "(I)I"⟩ : MethodName) prog_24_method_12_code 2 (some .int) :: ws) ({ frames := 0, cells := 1, slots := 32768, locals := 0 } : Room)) (fun a U => a = #[(.ref a1), (.int (32768 : Int32))] ∧ Z.Warmed39 U.vm ∧ U.heap = h0) (fun _ _ _ _ _ => True) (fun _ U o U' => ∃ v L, o = .returned v ∧ own_Q4_0 Z a1 bl kb byu us h0 n0 v U'.heap L ∧ FrameEnd U o U' L ({ frames := 0, cells := 1, slots := 32768, locals := 0 } : Room).cells ({ frames := 0, cells := 1, slots := 32768, locals := 0 } : Room).slots) := by
  refine MetFree.of_bodySF (plainFor_of_name own_pn1) hisR ?_
  intro p e s m args below meth c s₁ Bd hml0 hP hK
  obtain ⟨rfl, hZ, hh⟩ := hP
  have hx := Bd.exec
  have hby := Bd.bytes
  have hml : c.maxLocals = 2 := hml0
  have hown : s.vm.findClass "com/example/corbel/corbel/ByteSlices" = some m.cls := findClass_of_methodNamed Bd.named
  have hnm := (name_of_methodNamed Bd.named Bd.method).1
  have X0 : Stand p l e ({ frames := 0, cells := 1, slots := 32768, locals := 0 } : Room) s m #[(.ref a1), (.int (32768 : Int32))] below meth c s₁ [] 0 0 := Stand.of_body Bd
  have e0 : s₁.heap = h0 := by rw [← hh, Bd.state]; rfl
  have N0 := Fr.nil n0
  show OE FrameEnd p e below s (own_Q4_0 Z a1 bl kb byu us h0 n0) ({ frames := 0, cells := 1, slots := 32768, locals := 0 } : Room).cells ({ frames := 0, cells := 1, slots := 32768, locals := 0 } : Room).slots s₁ (entryFrame m #[(.ref a1), (.int (32768 : Int32))] 2)
  rw [own_ef_own_rm4_0]
  show OE _ p e below s _ _ _ s₁ (mkF m 0 #[.val (.ref a1), .val (.int (32768 : Int32))] [])
  refine OE.aloadN X0 hx hby own_d4_0 rfl rfl ?_
  obtain ⟨T1, X1, e1, st1⟩ := getF X0 hx hZ hown (host := "") (Or.inl (hw _ (List.mem_of_getElem? (i := 26) rfl))) Via.refl e0 F_blockCount_a1 (g := (mkF m 1 #[.val (.ref a1), .val (.int (32768 : Int32))] [(.ref a1)])) rfl rfl (hb hby own_d4_1)
  refine OE.of st1 ?_
  show OE _ p e below s _ _ _ T1 (mkF m 4 #[.val (.ref a1), .val (.int (32768 : Int32))] [(.int (0 : Int32))])
  refine OE.of (X1.ldcInt hx hown (mvT hZ (hw _ (List.mem_of_getElem? (i := 28) rfl))) (g := (mkF m 4 #[.val (.ref a1), .val (.int (32768 : Int32))] [(.int (0 : Int32))])) rfl (hb hby own_d4_4)) ?_
  show OE _ p e below s _ _ _ T1 (mkF m 6 #[.val (.ref a1), .val (.int (32768 : Int32))] [(.int (65536 : Int32)), (.int (0 : Int32))])
  refine OE.icmpYes X1 hx hby (pc' := 19) own_d4_6 (feq (by decide : ¬ ((0 : Int32) = (65536 : Int32)))).2 (h := ?_)
  refine OE.aloadN X1 hx hby own_d4_19 rfl rfl ?_
  obtain ⟨T2, X2, e2, st2⟩ := getF X1 hx hZ hown (host := "") (Or.inl (hw _ (List.mem_of_getElem? (i := 26) rfl))) Via.refl e1 F_blockCount_a1 (g := (mkF m 20 #[.val (.ref a1), .val (.int (32768 : Int32))] [(.ref a1)])) rfl rfl (hb hby own_d4_20)
  refine OE.of st2 ?_
  show OE _ p e below s _ _ _ T2 (mkF m 23 #[.val (.ref a1), .val (.int (32768 : Int32))] [(.int (0 : Int32))])
  refine OE.aloadN X2 hx hby own_d4_23 rfl rfl ?_
  obtain ⟨T3, X3, e3, st3⟩ := getF X2 hx hZ hown (host := "") (Or.inl (hw _ (List.mem_of_getElem? (i := 11) rfl))) Via.refl e2 F_blocks_a1 (g := (mkF m 24 #[.val (.ref a1), .val (.int (32768 : Int32))] [(.ref a1), (.int (0 : Int32))])) rfl rfl (hb hby own_d4_24)
  refine OE.of st3 ?_
  show OE _ p e below s _ _ _ T3 (mkF m 27 #[.val (.ref a1), .val (.int (32768 : Int32))] [(.ref bl), (.int (0 : Int32))])
  have Vo4 := V_bl
  obtain ⟨cl4, Ar4, -, Sz4, Nz4, -, -⟩ := Vo4
  refine OE.of (X3.arraylength hx (by rw [e3]; exact Ar4.1) (State.isArrayOf_alike hZ.alike Ar4.2.1) (g := (mkF m 27 #[.val (.ref a1), .val (.int (32768 : Int32))] [(.ref bl), (.int (0 : Int32))])) rfl rfl (hb hby own_d4_27)) ?_
  rw [len_of Sz4 Nz4]
  show OE _ p e below s _ _ _ T3 (mkF m 28 #[.val (.ref a1), .val (.int (32768 : Int32))] [(.int (16 : Int32)), (.int (0 : Int32))])
  refine OE.icmpYes X3 hx hby (pc' := 52) own_d4_28 (feq (by decide : ¬ ((0 : Int32) = (16 : Int32)))).2 (h := ?_)
  refine OE.aloadN X3 hx hby own_d4_52 rfl rfl ?_
  obtain ⟨T5, X5, e5, st5⟩ := getF X3 hx hZ hown (host := "") (Or.inl (hw _ (List.mem_of_getElem? (i := 11) rfl))) Via.refl e3 F_blocks_a1 (g := (mkF m 53 #[.val (.ref a1), .val (.int (32768 : Int32))] [(.ref a1)])) rfl rfl (hb hby own_d4_53)
  refine OE.of st5 ?_
  show OE _ p e below s _ _ _ T5 (mkF m 56 #[.val (.ref a1), .val (.int (32768 : Int32))] [(.ref bl)])
  refine OE.aloadN X5 hx hby own_d4_56 rfl rfl ?_
  refine OE.dup X5 hx hby own_d4_57 rfl ?_
  obtain ⟨T6, X6, e6, st6⟩ := getF X5 hx hZ hown (host := "") (Or.inl (hw _ (List.mem_of_getElem? (i := 26) rfl))) Via.refl e5 F_blockCount_a1 (g := (mkF m 58 #[.val (.ref a1), .val (.int (32768 : Int32))] [(.ref a1), (.ref a1), (.ref bl)])) rfl rfl (hb hby own_d4_58)
  refine OE.of st6 ?_
  show OE _ p e below s _ _ _ T6 (mkF m 61 #[.val (.ref a1), .val (.int (32768 : Int32))] [(.int (0 : Int32)), (.ref a1), (.ref bl)])
  refine OE.dupX1 X6 hx hby own_d4_61 rfl rfl ?_
  refine OE.iconst X6 hx hby own_d4_62 (1 : Int32) rfl ?_
  refine OE.iadd X6 hx hby own_d4_63 ?_
  rw [(by decide : ((0 : Int32) + (1 : Int32)) = (1 : Int32))]
  obtain ⟨T7, h7, X7, e7, W7, st7⟩ := putF X6 hx hZ hown (host := "") (Or.inl (hw _ (List.mem_of_getElem? (i := 26) rfl))) Via.refl e6 F_blockCount_a1 E_a1 (Or.inl (hw _ (List.mem_of_getElem? (i := 27) rfl))) (hw _ (List.mem_of_getElem? (i := 1) rfl)) (ty := .int) (by decide) rfl rfl (g := (mkF m 64 #[.val (.ref a1), .val (.int (32768 : Int32))] [(.int (1 : Int32)), (.ref a1), (.int (0 : Int32)), (.ref bl)])) rfl rfl (hb hby own_d4_64)
  refine OE.of st7 ?_
  have N7 := Fr.snoc X7 N0 g_a1
  have Fw7 := F_blockCount_a1.same W7
  show OE _ p e below s _ _ _ T7 (mkF m 67 #[.val (.ref a1), .val (.int (32768 : Int32))] [(.int (0 : Int32)), (.ref bl)])
  refine OE.iloadN X7 hx hby own_d4_67 rfl ?_
  obtain ⟨T8, h8, k8, X8, e8, E8, A8, B8, st8⟩ := newPE X7 hx hZ (hw _ (List.mem_of_getElem? (i := 16) rfl)) e7 (g := (mkF m 68 #[.val (.ref a1), .val (.int (32768 : Int32))] [(.int (32768 : Int32)), (.int (0 : Int32)), (.ref bl)])) rfl (hb hby own_d4_68) rfl (by decide) (cap := 32768) (by decide) (by decide) (by decide) (by decide) (ad := "[B") (by decide)
  refine OE.of st8 ?_
  obtain ⟨b8, g8⟩ : ∃ z, z = h7.size := ⟨_, rfl⟩
  rw [← g8] at A8 B8 ⊢
  have f9 : Exa Z h7 a1 "com/example/corbel/corbel/ByteSlices" := (E_a1.wr W7)
  have ne_a1_b8 : a1 ≠ b8 := Nat.ne_of_lt (Nat.lt_of_lt_of_le f9.lt (Nat.le_of_eq g8.symm))
  have f10 : Arv Z h7 bl kb (.array .byte) (16 : Int32) [.null, .null, .null, .null, .null, .null, .null, .null, .null, .null, .null, .null, .null, .null, .null, .null] .null := (V_bl.other W7 ne_bl_a1)
  have ne_bl_b8 : bl ≠ b8 := Nat.ne_of_lt (Nat.lt_of_lt_of_le f10.lt (Nat.le_of_eq g8.symm))
  have z11 : n0 ≤ h7.size := (Nat.le_trans Z0 (Nat.le_of_eq W7.size.symm))
  have g_b8 : n0 ≤ b8 := Nat.le_trans z11 (Nat.le_of_eq g8.symm)
  have K12 : Keep h0 h7 [a1, bl] := (Keep.wr (Keep.refl h0 [a1, bl]) W7 (Or.inl (List.mem_of_getElem? (i := 0) rfl)))
  have sz_b8 : h0.size ≤ b8 := Nat.le_trans K12.1 (Nat.le_of_eq g8.symm)
  have V8 : Arv Z h8 b8 k8 .byte (32768 : Int32) [] (.int (0 : Int32)) := Arv.new A8 (by decide)
  show OE _ p e below s _ _ _ T8 (mkF m 70 #[.val (.ref a1), .val (.int (32768 : Int32))] [(.ref b8), (.int (0 : Int32)), (.ref bl)])
  have f13 : Arv Z h8 bl kb (.array .byte) (16 : Int32) [.null, .null, .null, .null, .null, .null, .null, .null, .null, .null, .null, .null, .null, .null, .null, .null] .null := (f10.ext E8)
  have Vo14 := f13
  obtain ⟨cl14, Ar14, qz14, Sz14, Nz14, Hz14, Gz14⟩ := Vo14
  have hin14 : ¬ ((0 : Int32) < 0 ∨ cl14.slots.size ≤ ((0 : Int32)).toNatClampNeg) := inb_of Sz14 ⟨by decide, by decide⟩
  obtain ⟨T14, h14, X14, e14, W14, st14⟩ := stR X8 hx hZ e8 Ar14 (j := (0 : Int32)) hin14 rfl (Sto.ofVA Ar14 qz14 ob (Ins.self B8)) (g := (mkF m 70 #[.val (.ref a1), .val (.int (32768 : Int32))] [(.ref b8), (.int (0 : Int32)), (.ref bl)])) rfl rfl (hb hby own_d4_70)
  refine OE.of st14 ?_
  have V14 : Arv Z h14 bl kb (.array .byte) (16 : Int32) [(.ref b8), .null, .null, .null, .null, .null, .null, .null, .null, .null, .null, .null, .null, .null, .null, .null] .null := Arv.set Ar14 qz14 Sz14 Nz14 Hz14 Gz14 rfl W14 0 rfl (Nat.le_of_ble_eq_true rfl)
  have N14 := Fr.snoc X14 N7 g_bl
  show OE _ p e below s _ _ _ T14 (mkF m 71 #[.val (.ref a1), .val (.int (32768 : Int32))] [])
  refine OE.aloadN X14 hx hby own_d4_71 rfl rfl ?_
  refine OE.dup X14 hx hby own_d4_72 rfl ?_
  have f15 : Fld Z h14 a1 "com/example/corbel/corbel/ByteSlices" "bytesUsed" "J" (.long byu) := (((F_bytesUsed_a1.other W7 (Or.inr (slot_ne (Or.inl (hw _ (List.mem_of_getElem? (i := 31) rfl))) (Or.inl (hw _ (List.mem_of_getElem? (i := 27) rfl))) (by decide) (t := .long) (t' := .int) (by decide) (by decide)))).ext E8).other W14 (Or.inl (Ne.symm ne_bl_a1)))
  obtain ⟨T16, X16, e16, st16⟩ := getF X14 hx hZ hown (host := "") (Or.inl (hw _ (List.mem_of_getElem? (i := 30) rfl))) Via.refl e14 f15 (g := (mkF m 73 #[.val (.ref a1), .val (.int (32768 : Int32))] [(.ref a1), (.ref a1)])) rfl rfl (hb hby own_d4_73)
  refine OE.of st16 ?_
  show OE _ p e below s _ _ _ T16 (mkF m 76 #[.val (.ref a1), .val (.int (32768 : Int32))] [(.long byu), (.ref a1)])
  refine OE.iloadN X16 hx hby own_d4_76 rfl ?_
  refine OE.i2l X16 hx hby own_d4_77 ?_
  refine OE.ladd X16 hx hby own_d4_78 ?_
  have f17 : Exa Z h14 a1 "com/example/corbel/corbel/ByteSlices" := ((f9.ext E8).wr W14)
  obtain ⟨T18, h18, X18, e18, W18, st18⟩ := putF X16 hx hZ hown (host := "") (Or.inl (hw _ (List.mem_of_getElem? (i := 30) rfl))) Via.refl e16 f15 f17 (Or.inl (hw _ (List.mem_of_getElem? (i := 31) rfl))) (hw _ (List.mem_of_getElem? (i := 1) rfl)) (ty := .long) (by decide) rfl rfl (g := (mkF m 79 #[.val (.ref a1), .val (.int (32768 : Int32))] [(.long (byu + ((32768 : Int32).toInt64))), (.ref a1)])) rfl rfl (hb hby own_d4_79)
  refine OE.of st18 ?_
  have N18 := Fr.snoc X18 N14 g_a1
  have Fw18 := f15.same W18
  show OE _ p e below s _ _ _ T18 (mkF m 82 #[.val (.ref a1), .val (.int (32768 : Int32))] [])
  refine OE.aloadN X18 hx hby own_d4_82 rfl rfl ?_
  refine OE.iconst X18 hx hby own_d4_83 (0 : Int32) rfl ?_
  have f19 : Exa Z h18 a1 "com/example/corbel/corbel/ByteSlices" := (f17.wr W18)
  have f20 : Fld Z h18 a1 "com/example/corbel/corbel/ByteSlices" "blockUsed" "I" (.int us) := ((((F_blockUsed_a1.other W7 (Or.inr (slot_ne (Or.inl (hw _ (List.mem_of_getElem? (i := 15) rfl))) (Or.inl (hw _ (List.mem_of_getElem? (i := 27) rfl))) (by decide) (t := .int) (t' := .int) (by decide) (by decide)))).ext E8).other W14 (Or.inl (Ne.symm ne_bl_a1))).other W18 (Or.inr (slot_ne (Or.inl (hw _ (List.mem_of_getElem? (i := 15) rfl))) (Or.inl (hw _ (List.mem_of_getElem? (i := 31) rfl))) (by decide) (t := .int) (t' := .long) (by decide) (by decide))))
  obtain ⟨T21, h21, X21, e21, W21, st21⟩ := putF X18 hx hZ hown (host := "") (Or.inl (hw _ (List.mem_of_getElem? (i := 14) rfl))) Via.refl e18 f20 f19 (Or.inl (hw _ (List.mem_of_getElem? (i := 15) rfl))) (hw _ (List.mem_of_getElem? (i := 1) rfl)) (ty := .int) (by decide) rfl rfl (g := (mkF m 84 #[.val (.ref a1), .val (.int (32768 : Int32))] [(.int (0 : Int32)), (.ref a1)])) rfl rfl (hb hby own_d4_84)
  refine OE.of st21 ?_
  have N21 := Fr.snoc X21 N18 g_a1
  have Fw21 := f20.same W21
  show OE _ p e below s _ _ _ T21 (mkF m 87 #[.val (.ref a1), .val (.int (32768 : Int32))] [])
  refine OE.aloadN X21 hx hby own_d4_87 rfl rfl ?_
  have f22 : Fld Z h21 a1 "com/example/corbel/corbel/ByteSlices" "blockCount" "I" (.int (1 : Int32)) := ((((Fw7.ext E8).other W14 (Or.inl (Ne.symm ne_bl_a1))).other W18 (Or.inr (slot_ne (Or.inl (hw _ (List.mem_of_getElem? (i := 27) rfl))) (Or.inl (hw _ (List.mem_of_getElem? (i := 31) rfl))) (by decide) (t := .int) (t' := .long) (by decide) (by decide)))).other W21 (Or.inr (slot_ne (Or.inl (hw _ (List.mem_of_getElem? (i := 27) rfl))) (Or.inl (hw _ (List.mem_of_getElem? (i := 15) rfl))) (by decide) (t := .int) (t' := .int) (by decide) (by decide))))
  obtain ⟨T23, X23, e23, st23⟩ := getF X21 hx hZ hown (host := "") (Or.inl (hw _ (List.mem_of_getElem? (i := 26) rfl))) Via.refl e21 f22 (g := (mkF m 88 #[.val (.ref a1), .val (.int (32768 : Int32))] [(.ref a1)])) rfl rfl (hb hby own_d4_88)
  refine OE.of st23 ?_
  show OE _ p e below s _ _ _ T23 (mkF m 91 #[.val (.ref a1), .val (.int (32768 : Int32))] [(.int (1 : Int32))])
  refine OE.iconst X23 hx hby own_d4_91 (1 : Int32) rfl ?_
  refine OE.isub X23 hx hby own_d4_92 ?_
  rw [(by decide : ((1 : Int32) - (1 : Int32)) = (0 : Int32))]
  refine OE.bipush X23 hx hby own_d4_93 (15 : Int32) rfl ?_
  refine OE.ishl X23 hx hby own_d4_95 ?_
  refine OE.retI X23 hx Bd.returns Bd.notSynchronized (hb hby own_d4_96) (by decide) (by decide) ?_
  rw [e23]
  have K24 : Keep h0 h21 [a1, bl] := (Keep.wr (Keep.wr (Keep.wr (Keep.ext K12 E8) W14 (Or.inl (List.mem_of_getElem? (i := 1) rfl))) W18 (Or.inl (List.mem_of_getElem? (i := 0) rfl))) W21 (Or.inl (List.mem_of_getElem? (i := 0) rfl)))
  have f25 : Exa Z h21 a1 "com/example/corbel/corbel/ByteSlices" := (f19.wr W21)
  have f26 : Fld Z h21 a1 "com/example/corbel/corbel/ByteSlices" "blocks" "[[B" (.ref bl) := (((((F_blocks_a1.other W7 (Or.inr (slot_ne (Or.inl (hw _ (List.mem_of_getElem? (i := 12) rfl))) (Or.inl (hw _ (List.mem_of_getElem? (i := 27) rfl))) (by decide) (t := (.array (.array .byte))) (t' := .int) (by decide) (by decide)))).ext E8).other W14 (Or.inl (Ne.symm ne_bl_a1))).other W18 (Or.inr (slot_ne (Or.inl (hw _ (List.mem_of_getElem? (i := 12) rfl))) (Or.inl (hw _ (List.mem_of_getElem? (i := 31) rfl))) (by decide) (t := (.array (.array .byte))) (t' := .long) (by decide) (by decide)))).other W21 (Or.inr (slot_ne (Or.inl (hw _ (List.mem_of_getElem? (i := 12) rfl))) (Or.inl (hw _ (List.mem_of_getElem? (i := 15) rfl))) (by decide) (t := (.array (.array .byte))) (t' := .int) (by decide) (by decide))))
  have f27 : Fld Z h21 a1 "com/example/corbel/corbel/ByteSlices" "bytesUsed" "J" (.long (byu + ((32768 : Int32).toInt64))) := (Fw18.other W21 (Or.inr (slot_ne (Or.inl (hw _ (List.mem_of_getElem? (i := 31) rfl))) (Or.inl (hw _ (List.mem_of_getElem? (i := 15) rfl))) (by decide) (t := .long) (t' := .int) (by decide) (by decide))))
  have f28 : Arv Z h21 bl kb (.array .byte) (16 : Int32) [(.ref b8), .null, .null, .null, .null, .null, .null, .null, .null, .null, .null, .null, .null, .null, .null, .null] .null := ((V14.other W18 ne_bl_a1).other W21 ne_bl_a1)
  have f29 : Arv Z h21 b8 k8 .byte (32768 : Int32) [] (.int (0 : Int32)) := (((V8.other W14 (Ne.symm ne_bl_b8)).other W18 (Ne.symm ne_a1_b8)).other W21 (Ne.symm ne_a1_b8))
  exact ⟨b8, k8, rfl, N21, K24, f25, f26, Fw21, f22, f27, f28, f29, sz_b8⟩
def own_Q4_1 (Z : State) (a1 : Addr) (bl : Addr) (kb : ClassId) (byu : Int64) (n0_ : Addr) (us : Int32) (h0 : Heap) (n0 : Nat) (v : Option Value) (h : Heap) (L : List Loc) : Prop := ∃ nb : Addr, ∃ kn : ClassId, v = some (.int ((1 : Int32) <<< ((15 : Int32) &&& 31))) ∧ Fr n0 L ∧ Keep h0 h [a1, bl] ∧ Exa Z h a1 "com/example/corbel/corbel/ByteSlices" ∧ Fld Z h a1 "com/example/corbel/corbel/ByteSlices" "blocks" "[[B" (.ref bl) ∧ Fld Z h a1 "com/example/corbel/corbel/ByteSlices" "blockUsed" "I" (.int (0 : Int32)) ∧ Fld Z h a1 "com/example/corbel/corbel/ByteSlices" "blockCount" "I" (.int (2 : Int32)) ∧ Fld Z h a1 "com/example/corbel/corbel/ByteSlices" "bytesUsed" "J" (.long (byu + ((32768 : Int32).toInt64))) ∧ Arv Z h bl kb (.array .byte) (16 : Int32) [(.ref n0_), (.ref nb), .null, .null, .null, .null, .null, .null, .null, .null, .null, .null, .null, .null, .null, .null] .null ∧ Arv Z h nb kn .byte (32768 : Int32) [] (.int (0 : Int32)) ∧ h0.size ≤ nb
theorem own_ef_own_rm4_1 (m : MethodId) (a1 : Addr) : entryFrame m #[(.ref a1), (.int (32768 : Int32))] 2 = mkF m 0 #[.val (.ref a1), .val (.int (32768 : Int32))] [] := by first | (simp [entryFrame, mkF, argsToLocals, Value.category]; done) | rfl
set_option maxRecDepth 65536 in
set_option maxHeartbeats 40000000 in
theorem own_rm4_1 (l : Launch) (Z : State) (a0 : Array Value) (hw : ∀ d ∈ tables_1, d.before a0 Z = true) (ws : List Jvm.Cond) (a1 : Addr) (bl : Addr) (kb : ClassId) (byu : Int64) (n0_ : Addr) (us : Int32) (h0 : Heap) (n0 : Nat) (Z0 : n0 ≤ h0.size) (E_a1 : Exa Z h0 a1 "com/example/corbel/corbel/ByteSlices") (F_blocks_a1 : Fld Z h0 a1 "com/example/corbel/corbel/ByteSlices" "blocks" "[[B" (.ref bl)) (F_blockCount_a1 : Fld Z h0 a1 "com/example/corbel/corbel/ByteSlices" "blockCount" "I" (.int (1 : Int32))) (F_bytesUsed_a1 : Fld Z h0 a1 "com/example/corbel/corbel/ByteSlices" "bytesUsed" "J" (.long byu)) (V_bl : Arv Z h0 bl kb (.array .byte) (16 : Int32) [(.ref n0_), .null, .null, .null, .null, .null, .null, .null, .null, .null, .null, .null, .null, .null, .null, .null] .null) (g_a1 : n0 ≤ a1) (g_bl : n0 ≤ bl) (ne_bl_a1 : bl ≠ a1) (ob : OvrA Z kb .byte "[B") (F_blockUsed_a1 : Fld Z h0 a1 "com/example/corbel/corbel/ByteSlices" "blockUsed" "I" (.int us)) :
    MetFree l (⟨"com/example/corbel/corbel/ByteSlices", "newBlock", "(I)I"⟩ : MethodName) (head1 (Jvm.Cond.code (⟨"com/example/corbel/corbel/ByteSlices", "newBlock", "(I)I"⟩ : MethodName) prog_24_method_12_code 2 (some .int) :: ws) ({ frames := 0, cells := 1, slots := 32768, locals := 0 } : Room)) (fun a U => a = #[(.ref a1), (.int (32768 : Int32))] ∧ Z.Warmed39 U.vm ∧ U.heap = h0) (fun _ _ _ _ _ => True) (fun _ U o U' => ∃ v L, o = .returned v ∧ own_Q4_1 Z a1 bl kb byu n0_ us h0 n0 v U'.heap L ∧ FrameEnd U o U' L ({ frames := 0, cells := 1, slots := 32768, locals := 0 } : Room).cells ({ frames := 0, cells := 1, slots := 32768, locals := 0 } : Room).slots) := by
  refine MetFree.of_bodySF (plainFor_of_name own_pn1) hisR ?_
  intro p e s m args below meth c s₁ Bd hml0 hP hK
  obtain ⟨rfl, hZ, hh⟩ := hP
  have hx := Bd.exec
  have hby := Bd.bytes
  have hml : c.maxLocals = 2 := hml0
  have hown : s.vm.findClass "com/example/corbel/corbel/ByteSlices" = some m.cls := findClass_of_methodNamed Bd.named
  have hnm := (name_of_methodNamed Bd.named Bd.method).1
  have X0 : Stand p l e ({ frames := 0, cells := 1, slots := 32768, locals := 0 } : Room) s m #[(.ref a1), (.int (32768 : Int32))] below meth c s₁ [] 0 0 := Stand.of_body Bd
  have e0 : s₁.heap = h0 := by rw [← hh, Bd.state]; rfl
  have N0 := Fr.nil n0
  show OE FrameEnd p e below s (own_Q4_1 Z a1 bl kb byu n0_ us h0 n0) ({ frames := 0, cells := 1, slots := 32768, locals := 0 } : Room).cells ({ frames := 0, cells := 1, slots := 32768, locals := 0 } : Room).slots s₁ (entryFrame m #[(.ref a1), (.int (32768 : Int32))] 2)
  rw [own_ef_own_rm4_1]
  show OE _ p e below s _ _ _ s₁ (mkF m 0 #[.val (.ref a1), .val (.int (32768 : Int32))] [])
  refine OE.aloadN X0 hx hby own_d4_0 rfl rfl ?_
  obtain ⟨T1, X1, e1, st1⟩ := getF X0 hx hZ hown (host := "") (Or.inl (hw _ (List.mem_of_getElem? (i := 26) rfl))) Via.refl e0 F_blockCount_a1 (g := (mkF m 1 #[.val (.ref a1), .val (.int (32768 : Int32))] [(.ref a1)])) rfl rfl (hb hby own_d4_1)
  refine OE.of st1 ?_
  show OE _ p e below s _ _ _ T1 (mkF m 4 #[.val (.ref a1), .val (.int (32768 : Int32))] [(.int (1 : Int32))])
  refine OE.of (X1.ldcInt hx hown (mvT hZ (hw _ (List.mem_of_getElem? (i := 28) rfl))) (g := (mkF m 4 #[.val (.ref a1), .val (.int (32768 : Int32))] [(.int (1 : Int32))])) rfl (hb hby own_d4_4)) ?_
  show OE _ p e below s _ _ _ T1 (mkF m 6 #[.val (.ref a1), .val (.int (32768 : Int32))] [(.int (65536 : Int32)), (.int (1 : Int32))])
  refine OE.icmpYes X1 hx hby (pc' := 19) own_d4_6 (feq (by decide : ¬ ((1 : Int32) = (65536 : Int32)))).2 (h := ?_)
  refine OE.aloadN X1 hx hby own_d4_19 rfl rfl ?_
  obtain ⟨T2, X2, e2, st2⟩ := getF X1 hx hZ hown (host := "") (Or.inl (hw _ (List.mem_of_getElem? (i := 26) rfl))) Via.refl e1 F_blockCount_a1 (g := (mkF m 20 #[.val (.ref a1), .val (.int (32768 : Int32))] [(.ref a1)])) rfl rfl (hb hby own_d4_20)
  refine OE.of st2 ?_
  show OE _ p e below s _ _ _ T2 (mkF m 23 #[.val (.ref a1), .val (.int (32768 : Int32))] [(.int (1 : Int32))])
  refine OE.aloadN X2 hx hby own_d4_23 rfl rfl ?_
  obtain ⟨T3, X3, e3, st3⟩ := getF X2 hx hZ hown (host := "") (Or.inl (hw _ (List.mem_of_getElem? (i := 11) rfl))) Via.refl e2 F_blocks_a1 (g := (mkF m 24 #[.val (.ref a1), .val (.int (32768 : Int32))] [(.ref a1), (.int (1 : Int32))])) rfl rfl (hb hby own_d4_24)
  refine OE.of st3 ?_
  show OE _ p e below s _ _ _ T3 (mkF m 27 #[.val (.ref a1), .val (.int (32768 : Int32))] [(.ref bl), (.int (1 : Int32))])
  have Vo4 := V_bl
  obtain ⟨cl4, Ar4, -, Sz4, Nz4, -, -⟩ := Vo4
  refine OE.of (X3.arraylength hx (by rw [e3]; exact Ar4.1) (State.isArrayOf_alike hZ.alike Ar4.2.1) (g := (mkF m 27 #[.val (.ref a1), .val (.int (32768 : Int32))] [(.ref bl), (.int (1 : Int32))])) rfl rfl (hb hby own_d4_27)) ?_
  rw [len_of Sz4 Nz4]
  show OE _ p e below s _ _ _ T3 (mkF m 28 #[.val (.ref a1), .val (.int (32768 : Int32))] [(.int (16 : Int32)), (.int (1 : Int32))])
  refine OE.icmpYes X3 hx hby (pc' := 52) own_d4_28 (feq (by decide : ¬ ((1 : Int32) = (16 : Int32)))).2 (h := ?_)
  refine OE.aloadN X3 hx hby own_d4_52 rfl rfl ?_
  obtain ⟨T5, X5, e5, st5⟩ := getF X3 hx hZ hown (host := "") (Or.inl (hw _ (List.mem_of_getElem? (i := 11) rfl))) Via.refl e3 F_blocks_a1 (g := (mkF m 53 #[.val (.ref a1), .val (.int (32768 : Int32))] [(.ref a1)])) rfl rfl (hb hby own_d4_53)
  refine OE.of st5 ?_
  show OE _ p e below s _ _ _ T5 (mkF m 56 #[.val (.ref a1), .val (.int (32768 : Int32))] [(.ref bl)])
  refine OE.aloadN X5 hx hby own_d4_56 rfl rfl ?_
  refine OE.dup X5 hx hby own_d4_57 rfl ?_
  obtain ⟨T6, X6, e6, st6⟩ := getF X5 hx hZ hown (host := "") (Or.inl (hw _ (List.mem_of_getElem? (i := 26) rfl))) Via.refl e5 F_blockCount_a1 (g := (mkF m 58 #[.val (.ref a1), .val (.int (32768 : Int32))] [(.ref a1), (.ref a1), (.ref bl)])) rfl rfl (hb hby own_d4_58)
  refine OE.of st6 ?_
  show OE _ p e below s _ _ _ T6 (mkF m 61 #[.val (.ref a1), .val (.int (32768 : Int32))] [(.int (1 : Int32)), (.ref a1), (.ref bl)])
  refine OE.dupX1 X6 hx hby own_d4_61 rfl rfl ?_
  refine OE.iconst X6 hx hby own_d4_62 (1 : Int32) rfl ?_
  refine OE.iadd X6 hx hby own_d4_63 ?_
  rw [(by decide : ((1 : Int32) + (1 : Int32)) = (2 : Int32))]
  obtain ⟨T7, h7, X7, e7, W7, st7⟩ := putF X6 hx hZ hown (host := "") (Or.inl (hw _ (List.mem_of_getElem? (i := 26) rfl))) Via.refl e6 F_blockCount_a1 E_a1 (Or.inl (hw _ (List.mem_of_getElem? (i := 27) rfl))) (hw _ (List.mem_of_getElem? (i := 1) rfl)) (ty := .int) (by decide) rfl rfl (g := (mkF m 64 #[.val (.ref a1), .val (.int (32768 : Int32))] [(.int (2 : Int32)), (.ref a1), (.int (1 : Int32)), (.ref bl)])) rfl rfl (hb hby own_d4_64)
  refine OE.of st7 ?_
  have N7 := Fr.snoc X7 N0 g_a1
  have Fw7 := F_blockCount_a1.same W7
  show OE _ p e below s _ _ _ T7 (mkF m 67 #[.val (.ref a1), .val (.int (32768 : Int32))] [(.int (1 : Int32)), (.ref bl)])
  refine OE.iloadN X7 hx hby own_d4_67 rfl ?_
  obtain ⟨T8, h8, k8, X8, e8, E8, A8, B8, st8⟩ := newPE X7 hx hZ (hw _ (List.mem_of_getElem? (i := 16) rfl)) e7 (g := (mkF m 68 #[.val (.ref a1), .val (.int (32768 : Int32))] [(.int (32768 : Int32)), (.int (1 : Int32)), (.ref bl)])) rfl (hb hby own_d4_68) rfl (by decide) (cap := 32768) (by decide) (by decide) (by decide) (by decide) (ad := "[B") (by decide)
  refine OE.of st8 ?_
  obtain ⟨b8, g8⟩ : ∃ z, z = h7.size := ⟨_, rfl⟩
  rw [← g8] at A8 B8 ⊢
  have f9 : Exa Z h7 a1 "com/example/corbel/corbel/ByteSlices" := (E_a1.wr W7)
  have ne_a1_b8 : a1 ≠ b8 := Nat.ne_of_lt (Nat.lt_of_lt_of_le f9.lt (Nat.le_of_eq g8.symm))
  have f10 : Arv Z h7 bl kb (.array .byte) (16 : Int32) [(.ref n0_), .null, .null, .null, .null, .null, .null, .null, .null, .null, .null, .null, .null, .null, .null, .null] .null := (V_bl.other W7 ne_bl_a1)
  have ne_bl_b8 : bl ≠ b8 := Nat.ne_of_lt (Nat.lt_of_lt_of_le f10.lt (Nat.le_of_eq g8.symm))
  have z11 : n0 ≤ h7.size := (Nat.le_trans Z0 (Nat.le_of_eq W7.size.symm))
  have g_b8 : n0 ≤ b8 := Nat.le_trans z11 (Nat.le_of_eq g8.symm)
  have K12 : Keep h0 h7 [a1, bl] := (Keep.wr (Keep.refl h0 [a1, bl]) W7 (Or.inl (List.mem_of_getElem? (i := 0) rfl)))
  have sz_b8 : h0.size ≤ b8 := Nat.le_trans K12.1 (Nat.le_of_eq g8.symm)
  have V8 : Arv Z h8 b8 k8 .byte (32768 : Int32) [] (.int (0 : Int32)) := Arv.new A8 (by decide)
  show OE _ p e below s _ _ _ T8 (mkF m 70 #[.val (.ref a1), .val (.int (32768 : Int32))] [(.ref b8), (.int (1 : Int32)), (.ref bl)])
  have f13 : Arv Z h8 bl kb (.array .byte) (16 : Int32) [(.ref n0_), .null, .null, .null, .null, .null, .null, .null, .null, .null, .null, .null, .null, .null, .null, .null] .null := (f10.ext E8)
  have Vo14 := f13
  obtain ⟨cl14, Ar14, qz14, Sz14, Nz14, Hz14, Gz14⟩ := Vo14
  have hin14 : ¬ ((1 : Int32) < 0 ∨ cl14.slots.size ≤ ((1 : Int32)).toNatClampNeg) := inb_of Sz14 ⟨by decide, by decide⟩
  obtain ⟨T14, h14, X14, e14, W14, st14⟩ := stR X8 hx hZ e8 Ar14 (j := (1 : Int32)) hin14 rfl (Sto.ofVA Ar14 qz14 ob (Ins.self B8)) (g := (mkF m 70 #[.val (.ref a1), .val (.int (32768 : Int32))] [(.ref b8), (.int (1 : Int32)), (.ref bl)])) rfl rfl (hb hby own_d4_70)
  refine OE.of st14 ?_
  have V14 : Arv Z h14 bl kb (.array .byte) (16 : Int32) [(.ref n0_), (.ref b8), .null, .null, .null, .null, .null, .null, .null, .null, .null, .null, .null, .null, .null, .null] .null := Arv.set Ar14 qz14 Sz14 Nz14 Hz14 Gz14 rfl W14 1 rfl (Nat.le_of_ble_eq_true rfl)
  have N14 := Fr.snoc X14 N7 g_bl
  show OE _ p e below s _ _ _ T14 (mkF m 71 #[.val (.ref a1), .val (.int (32768 : Int32))] [])
  refine OE.aloadN X14 hx hby own_d4_71 rfl rfl ?_
  refine OE.dup X14 hx hby own_d4_72 rfl ?_
  have f15 : Fld Z h14 a1 "com/example/corbel/corbel/ByteSlices" "bytesUsed" "J" (.long byu) := (((F_bytesUsed_a1.other W7 (Or.inr (slot_ne (Or.inl (hw _ (List.mem_of_getElem? (i := 31) rfl))) (Or.inl (hw _ (List.mem_of_getElem? (i := 27) rfl))) (by decide) (t := .long) (t' := .int) (by decide) (by decide)))).ext E8).other W14 (Or.inl (Ne.symm ne_bl_a1)))
  obtain ⟨T16, X16, e16, st16⟩ := getF X14 hx hZ hown (host := "") (Or.inl (hw _ (List.mem_of_getElem? (i := 30) rfl))) Via.refl e14 f15 (g := (mkF m 73 #[.val (.ref a1), .val (.int (32768 : Int32))] [(.ref a1), (.ref a1)])) rfl rfl (hb hby own_d4_73)
  refine OE.of st16 ?_
  show OE _ p e below s _ _ _ T16 (mkF m 76 #[.val (.ref a1), .val (.int (32768 : Int32))] [(.long byu), (.ref a1)])
  refine OE.iloadN X16 hx hby own_d4_76 rfl ?_
  refine OE.i2l X16 hx hby own_d4_77 ?_
  refine OE.ladd X16 hx hby own_d4_78 ?_
  have f17 : Exa Z h14 a1 "com/example/corbel/corbel/ByteSlices" := ((f9.ext E8).wr W14)
  obtain ⟨T18, h18, X18, e18, W18, st18⟩ := putF X16 hx hZ hown (host := "") (Or.inl (hw _ (List.mem_of_getElem? (i := 30) rfl))) Via.refl e16 f15 f17 (Or.inl (hw _ (List.mem_of_getElem? (i := 31) rfl))) (hw _ (List.mem_of_getElem? (i := 1) rfl)) (ty := .long) (by decide) rfl rfl (g := (mkF m 79 #[.val (.ref a1), .val (.int (32768 : Int32))] [(.long (byu + ((32768 : Int32).toInt64))), (.ref a1)])) rfl rfl (hb hby own_d4_79)
  refine OE.of st18 ?_
  have N18 := Fr.snoc X18 N14 g_a1
  have Fw18 := f15.same W18
  show OE _ p e below s _ _ _ T18 (mkF m 82 #[.val (.ref a1), .val (.int (32768 : Int32))] [])
  refine OE.aloadN X18 hx hby own_d4_82 rfl rfl ?_
  refine OE.iconst X18 hx hby own_d4_83 (0 : Int32) rfl ?_
  have f19 : Exa Z h18 a1 "com/example/corbel/corbel/ByteSlices" := (f17.wr W18)
  have f20 : Fld Z h18 a1 "com/example/corbel/corbel/ByteSlices" "blockUsed" "I" (.int us) := ((((F_blockUsed_a1.other W7 (Or.inr (slot_ne (Or.inl (hw _ (List.mem_of_getElem? (i := 15) rfl))) (Or.inl (hw _ (List.mem_of_getElem? (i := 27) rfl))) (by decide) (t := .int) (t' := .int) (by decide) (by decide)))).ext E8).other W14 (Or.inl (Ne.symm ne_bl_a1))).other W18 (Or.inr (slot_ne (Or.inl (hw _ (List.mem_of_getElem? (i := 15) rfl))) (Or.inl (hw _ (List.mem_of_getElem? (i := 31) rfl))) (by decide) (t := .int) (t' := .long) (by decide) (by decide))))
  obtain ⟨T21, h21, X21, e21, W21, st21⟩ := putF X18 hx hZ hown (host := "") (Or.inl (hw _ (List.mem_of_getElem? (i := 14) rfl))) Via.refl e18 f20 f19 (Or.inl (hw _ (List.mem_of_getElem? (i := 15) rfl))) (hw _ (List.mem_of_getElem? (i := 1) rfl)) (ty := .int) (by decide) rfl rfl (g := (mkF m 84 #[.val (.ref a1), .val (.int (32768 : Int32))] [(.int (0 : Int32)), (.ref a1)])) rfl rfl (hb hby own_d4_84)
  refine OE.of st21 ?_
  have N21 := Fr.snoc X21 N18 g_a1
  have Fw21 := f20.same W21
  show OE _ p e below s _ _ _ T21 (mkF m 87 #[.val (.ref a1), .val (.int (32768 : Int32))] [])
  refine OE.aloadN X21 hx hby own_d4_87 rfl rfl ?_
  have f22 : Fld Z h21 a1 "com/example/corbel/corbel/ByteSlices" "blockCount" "I" (.int (2 : Int32)) := ((((Fw7.ext E8).other W14 (Or.inl (Ne.symm ne_bl_a1))).other W18 (Or.inr (slot_ne (Or.inl (hw _ (List.mem_of_getElem? (i := 27) rfl))) (Or.inl (hw _ (List.mem_of_getElem? (i := 31) rfl))) (by decide) (t := .int) (t' := .long) (by decide) (by decide)))).other W21 (Or.inr (slot_ne (Or.inl (hw _ (List.mem_of_getElem? (i := 27) rfl))) (Or.inl (hw _ (List.mem_of_getElem? (i := 15) rfl))) (by decide) (t := .int) (t' := .int) (by decide) (by decide))))
  obtain ⟨T23, X23, e23, st23⟩ := getF X21 hx hZ hown (host := "") (Or.inl (hw _ (List.mem_of_getElem? (i := 26) rfl))) Via.refl e21 f22 (g := (mkF m 88 #[.val (.ref a1), .val (.int (32768 : Int32))] [(.ref a1)])) rfl rfl (hb hby own_d4_88)
  refine OE.of st23 ?_
  show OE _ p e below s _ _ _ T23 (mkF m 91 #[.val (.ref a1), .val (.int (32768 : Int32))] [(.int (2 : Int32))])
  refine OE.iconst X23 hx hby own_d4_91 (1 : Int32) rfl ?_
  refine OE.isub X23 hx hby own_d4_92 ?_
  rw [(by decide : ((2 : Int32) - (1 : Int32)) = (1 : Int32))]
  refine OE.bipush X23 hx hby own_d4_93 (15 : Int32) rfl ?_
  refine OE.ishl X23 hx hby own_d4_95 ?_
  refine OE.retI X23 hx Bd.returns Bd.notSynchronized (hb hby own_d4_96) (by decide) (by decide) ?_
  rw [e23]
  have K24 : Keep h0 h21 [a1, bl] := (Keep.wr (Keep.wr (Keep.wr (Keep.ext K12 E8) W14 (Or.inl (List.mem_of_getElem? (i := 1) rfl))) W18 (Or.inl (List.mem_of_getElem? (i := 0) rfl))) W21 (Or.inl (List.mem_of_getElem? (i := 0) rfl)))
  have f25 : Exa Z h21 a1 "com/example/corbel/corbel/ByteSlices" := (f19.wr W21)
  have f26 : Fld Z h21 a1 "com/example/corbel/corbel/ByteSlices" "blocks" "[[B" (.ref bl) := (((((F_blocks_a1.other W7 (Or.inr (slot_ne (Or.inl (hw _ (List.mem_of_getElem? (i := 12) rfl))) (Or.inl (hw _ (List.mem_of_getElem? (i := 27) rfl))) (by decide) (t := (.array (.array .byte))) (t' := .int) (by decide) (by decide)))).ext E8).other W14 (Or.inl (Ne.symm ne_bl_a1))).other W18 (Or.inr (slot_ne (Or.inl (hw _ (List.mem_of_getElem? (i := 12) rfl))) (Or.inl (hw _ (List.mem_of_getElem? (i := 31) rfl))) (by decide) (t := (.array (.array .byte))) (t' := .long) (by decide) (by decide)))).other W21 (Or.inr (slot_ne (Or.inl (hw _ (List.mem_of_getElem? (i := 12) rfl))) (Or.inl (hw _ (List.mem_of_getElem? (i := 15) rfl))) (by decide) (t := (.array (.array .byte))) (t' := .int) (by decide) (by decide))))
  have f27 : Fld Z h21 a1 "com/example/corbel/corbel/ByteSlices" "bytesUsed" "J" (.long (byu + ((32768 : Int32).toInt64))) := (Fw18.other W21 (Or.inr (slot_ne (Or.inl (hw _ (List.mem_of_getElem? (i := 31) rfl))) (Or.inl (hw _ (List.mem_of_getElem? (i := 15) rfl))) (by decide) (t := .long) (t' := .int) (by decide) (by decide))))
  have f28 : Arv Z h21 bl kb (.array .byte) (16 : Int32) [(.ref n0_), (.ref b8), .null, .null, .null, .null, .null, .null, .null, .null, .null, .null, .null, .null, .null, .null] .null := ((V14.other W18 ne_bl_a1).other W21 ne_bl_a1)
  have f29 : Arv Z h21 b8 k8 .byte (32768 : Int32) [] (.int (0 : Int32)) := (((V8.other W14 (Ne.symm ne_bl_b8)).other W18 (Ne.symm ne_a1_b8)).other W21 (Ne.symm ne_a1_b8))
  exact ⟨b8, k8, rfl, N21, K24, f25, f26, Fw21, f22, f27, f28, f29, sz_b8⟩
theorem own_pad {x y d : Value} (n m : Nat) (hn : 2 ≤ n) : ∀ i, [x, y].getD i d = ((List.replicate m d).take 0 ++ (List.range n).map (fun i => [x, y].getD (0 + i) d) ++ (List.replicate m d).drop (0 + n)).getD i d := by
  intro i
  have e1 : (List.replicate m d).take 0 = [] := rfl
  rw [e1, List.nil_append]
  by_cases hi : i < n
  · rw [List.getD_eq_getElem?_getD, List.getD_eq_getElem?_getD, List.getElem?_append_left (by simpa using hi), List.getElem?_map, List.getElem?_range hi]
    simp [List.getD_eq_getElem?_getD]
  · rw [List.getD_eq_getElem?_getD (l := _ ++ _), List.getElem?_append_right (by simpa using Nat.le_of_not_lt hi)]
    have e2 : [x, y].getD i d = d := by
      rw [List.getD_eq_getElem?_getD, List.getElem?_eq_none (by simp; omega)]; rfl
    rw [e2]
    simp only [List.drop_replicate, List.getD_eq_getElem?_getD, List.getElem?_replicate]
    split <;> rfl
theorem own_d3_0 : decode prog_24_method_3_code 0 = .ok (.iload_n 2, 1) := by decide +kernel
theorem own_d3_1 : decode prog_24_method_3_code 1 = .ok (.ldc 17, 2) := by decide +kernel
theorem own_d3_3 : decode prog_24_method_3_code 3 = .ok (.if_icmp .le 35, 3) := by decide +kernel
theorem own_d3_38 : decode prog_24_method_3_code 38 = .ok (.aload_n 0, 1) := by decide +kernel
theorem own_d3_39 : decode prog_24_method_3_code 39 = .ok (.getfield 18, 3) := by decide +kernel
theorem own_d3_42 : decode prog_24_method_3_code 42 = .ok (.iload_n 2, 1) := by decide +kernel
theorem own_d3_43 : decode prog_24_method_3_code 43 = .ok (.iadd, 1) := by decide +kernel
theorem own_d3_44 : decode prog_24_method_3_code 44 = .ok (.ldc 17, 2) := by decide +kernel
theorem own_d3_46 : decode prog_24_method_3_code 46 = .ok (.if_icmp .le 10, 3) := by decide +kernel
theorem own_d3_49 : decode prog_24_method_3_code 49 = .ok (.aload_n 0, 1) := by decide +kernel
theorem own_d3_50 : decode prog_24_method_3_code 50 = .ok (.ldc 17, 2) := by decide +kernel
theorem own_d3_52 : decode prog_24_method_3_code 52 = .ok (.invokevirtual 28, 3) := by decide +kernel
theorem own_pd0 : parseMethodDescriptor "(I)I" = some ⟨[.int], some .int⟩ := by decide +kernel
theorem own_d3_55 : decode prog_24_method_3_code 55 = .ok (.pop, 1) := by decide +kernel
theorem own_d3_56 : decode prog_24_method_3_code 56 = .ok (.aload_n 0, 1) := by decide +kernel
theorem own_d3_57 : decode prog_24_method_3_code 57 = .ok (.getfield 32, 3) := by decide +kernel
theorem own_d3_60 : decode prog_24_method_3_code 60 = .ok (.iconst 1, 1) := by decide +kernel
theorem own_d3_61 : decode prog_24_method_3_code 61 = .ok (.isub, 1) := by decide +kernel
theorem own_d3_62 : decode prog_24_method_3_code 62 = .ok (.bipush 15, 2) := by decide +kernel
theorem own_d3_64 : decode prog_24_method_3_code 64 = .ok (.ishl, 1) := by decide +kernel
theorem own_d3_65 : decode prog_24_method_3_code 65 = .ok (.aload_n 0, 1) := by decide +kernel
theorem own_d3_66 : decode prog_24_method_3_code 66 = .ok (.getfield 18, 3) := by decide +kernel
theorem own_d3_69 : decode prog_24_method_3_code 69 = .ok (.iadd, 1) := by decide +kernel
theorem own_d3_70 : decode prog_24_method_3_code 70 = .ok (.istore_n 3, 1) := by decide +kernel
theorem own_d3_71 : decode prog_24_method_3_code 71 = .ok (.aload_n 1, 1) := by decide +kernel
theorem own_d3_72 : decode prog_24_method_3_code 72 = .ok (.iconst 0, 1) := by decide +kernel
theorem own_d3_73 : decode prog_24_method_3_code 73 = .ok (.aload_n 0, 1) := by decide +kernel
theorem own_d3_74 : decode prog_24_method_3_code 74 = .ok (.getfield 13, 3) := by decide +kernel
theorem own_d3_77 : decode prog_24_method_3_code 77 = .ok (.aload_n 0, 1) := by decide +kernel
theorem own_d3_78 : decode prog_24_method_3_code 78 = .ok (.getfield 32, 3) := by decide +kernel
theorem own_d3_81 : decode prog_24_method_3_code 81 = .ok (.iconst 1, 1) := by decide +kernel
theorem own_d3_82 : decode prog_24_method_3_code 82 = .ok (.isub, 1) := by decide +kernel
theorem own_d3_83 : decode prog_24_method_3_code 83 = .ok (.aaload, 1) := by decide +kernel
theorem own_d3_84 : decode prog_24_method_3_code 84 = .ok (.aload_n 0, 1) := by decide +kernel
theorem own_d3_85 : decode prog_24_method_3_code 85 = .ok (.getfield 18, 3) := by decide +kernel
theorem own_d3_88 : decode prog_24_method_3_code 88 = .ok (.iload_n 2, 1) := by decide +kernel
theorem own_d3_89 : decode prog_24_method_3_code 89 = .ok (.invokestatic 35, 3) := by decide +kernel
theorem own_d3_92 : decode prog_24_method_3_code 92 = .ok (.aload_n 0, 1) := by decide +kernel
theorem own_d3_93 : decode prog_24_method_3_code 93 = .ok (.dup, 1) := by decide +kernel
theorem own_d3_94 : decode prog_24_method_3_code 94 = .ok (.getfield 18, 3) := by decide +kernel
theorem own_d3_97 : decode prog_24_method_3_code 97 = .ok (.iload_n 2, 1) := by decide +kernel
theorem own_d3_98 : decode prog_24_method_3_code 98 = .ok (.iadd, 1) := by decide +kernel
theorem own_d3_99 : decode prog_24_method_3_code 99 = .ok (.putfield 18, 3) := by decide +kernel
theorem own_d3_102 : decode prog_24_method_3_code 102 = .ok (.iload_n 3, 1) := by decide +kernel
theorem own_d3_103 : decode prog_24_method_3_code 103 = .ok (.ireturn, 1) := by decide +kernel
def own_Q3_0 (Z : State) (a1 : Addr) (a2 : Addr) (bl : Addr) (kb : ClassId) (byu : Int64) (x0 : Int32) (x1 : Int32) (ks : ClassId) (h0 : Heap) (n0 : Nat) (v : Option Value) (h : Heap) (L : List Loc) : Prop := ∃ nb : Addr, ∃ kn : ClassId, v = some (.int (((0 : Int32) <<< ((15 : Int32) &&& 31)) + (0 : Int32))) ∧ Fr n0 L ∧ Keep h0 h [a1, bl] ∧ Exa Z h a1 "com/example/corbel/corbel/ByteSlices" ∧ Fld Z h a1 "com/example/corbel/corbel/ByteSlices" "blocks" "[[B" (.ref bl) ∧ Fld Z h a1 "com/example/corbel/corbel/ByteSlices" "blockUsed" "I" (.int (2 : Int32)) ∧ Fld Z h a1 "com/example/corbel/corbel/ByteSlices" "blockCount" "I" (.int (1 : Int32)) ∧ Fld Z h a1 "com/example/corbel/corbel/ByteSlices" "bytesUsed" "J" (.long (byu + ((32768 : Int32).toInt64))) ∧ Arv Z h bl kb (.array .byte) (16 : Int32) [(.ref nb), .null, .null, .null, .null, .null, .null, .null, .null, .null, .null, .null, .null, .null, .null, .null] .null ∧ Arv Z h nb kn .byte (32768 : Int32) [(.int x0), (.int x1)] (.int (0 : Int32)) ∧ h0.size ≤ nb
theorem own_ef_own_rm3_0 (m : MethodId) (a1 : Addr) (a2 : Addr) : entryFrame m #[(.ref a1), (.ref a2), (.int (2 : Int32))] 4 = mkF m 0 #[.val (.ref a1), .val (.ref a2), .val (.int (2 : Int32)), .unset] [] := by first | (simp [entryFrame, mkF, argsToLocals, Value.category]; done) | rfl
set_option maxRecDepth 65536 in
set_option maxHeartbeats 40000000 in
theorem own_rm3_0 (l : Launch) (Z : State) (a0 : Array Value) (hw : ∀ d ∈ tables_1, d.before a0 Z = true) (ws : List Jvm.Cond) (a1 : Addr) (a2 : Addr) (bl : Addr) (kb : ClassId) (byu : Int64) (x0 : Int32) (x1 : Int32) (ks : ClassId) (h0 : Heap) (n0 : Nat) (Z0 : n0 ≤ h0.size) (E_a1 : Exa Z h0 a1 "com/example/corbel/corbel/ByteSlices") (F_blocks_a1 : Fld Z h0 a1 "com/example/corbel/corbel/ByteSlices" "blocks" "[[B" (.ref bl)) (F_blockCount_a1 : Fld Z h0 a1 "com/example/corbel/corbel/ByteSlices" "blockCount" "I" (.int (0 : Int32))) (F_bytesUsed_a1 : Fld Z h0 a1 "com/example/corbel/corbel/ByteSlices" "bytesUsed" "J" (.long byu)) (V_bl : Arv Z h0 bl kb (.array .byte) (16 : Int32) [.null, .null, .null, .null, .null, .null, .null, .null, .null, .null, .null, .null, .null, .null, .null, .null] .null) (g_a1 : n0 ≤ a1) (g_bl : n0 ≤ bl) (ne_bl_a1 : bl ≠ a1) (ob : OvrA Z kb .byte "[B") (F_blockUsed_a1 : Fld Z h0 a1 "com/example/corbel/corbel/ByteSlices" "blockUsed" "I" (.int (32768 : Int32))) (V_a2 : Arv Z h0 a2 ks .byte (2 : Int32) [(.int x0), (.int x1)] (.int (0 : Int32))) (ne_a2_a1 : a2 ≠ a1) (ne_a2_bl : a2 ≠ bl) :
    MetFree l (⟨"com/example/corbel/corbel/ByteSlices", "store", "([BI)I"⟩ : MethodName) (head1 (Jvm.Cond.code (⟨"com/example/corbel/corbel/ByteSlices", "store", "([BI)I"⟩ : MethodName) prog_24_method_3_code 4 (some .int) :: ws) ({ frames := 1, cells := 1, slots := 32768, locals := 27 } : Room)) (fun a U => a = #[(.ref a1), (.ref a2), (.int (2 : Int32))] ∧ Z.Warmed39 U.vm ∧ U.heap = h0) (fun _ _ _ _ _ => True) (fun _ U o U' => ∃ v L, o = .returned v ∧ own_Q3_0 Z a1 a2 bl kb byu x0 x1 ks h0 n0 v U'.heap L ∧ FrameEnd U o U' L ({ frames := 1, cells := 1, slots := 32768, locals := 27 } : Room).cells ({ frames := 1, cells := 1, slots := 32768, locals := 27 } : Room).slots) := by
  refine MetFree.of_bodySF (plainFor_of_name own_pn1) hisR ?_
  intro p e s m args below meth c s₁ Bd hml0 hP hK
  obtain ⟨rfl, hZ, hh⟩ := hP
  have hx := Bd.exec
  have hby := Bd.bytes
  have hml : c.maxLocals = 4 := hml0
  have hown : s.vm.findClass "com/example/corbel/corbel/ByteSlices" = some m.cls := findClass_of_methodNamed Bd.named
  have hnm := (name_of_methodNamed Bd.named Bd.method).1
  have X0 : Stand p l e ({ frames := 1, cells := 1, slots := 32768, locals := 27 } : Room) s m #[(.ref a1), (.ref a2), (.int (2 : Int32))] below meth c s₁ [] 0 0 := Stand.of_body Bd
  have e0 : s₁.heap = h0 := by rw [← hh, Bd.state]; rfl
  have N0 := Fr.nil n0
  show OE FrameEnd p e below s (own_Q3_0 Z a1 a2 bl kb byu x0 x1 ks h0 n0) ({ frames := 1, cells := 1, slots := 32768, locals := 27 } : Room).cells ({ frames := 1, cells := 1, slots := 32768, locals := 27 } : Room).slots s₁ (entryFrame m #[(.ref a1), (.ref a2), (.int (2 : Int32))] 4)
  rw [own_ef_own_rm3_0]
  show OE _ p e below s _ _ _ s₁ (mkF m 0 #[.val (.ref a1), .val (.ref a2), .val (.int (2 : Int32)), .unset] [])
  refine OE.iloadN X0 hx hby own_d3_0 rfl ?_
  refine OE.of (X0.ldcInt hx hown (mvT hZ (hw _ (List.mem_of_getElem? (i := 13) rfl))) (g := (mkF m 1 #[.val (.ref a1), .val (.ref a2), .val (.int (2 : Int32)), .unset] [(.int (2 : Int32))])) rfl (hb hby own_d3_1)) ?_
  show OE _ p e below s _ _ _ s₁ (mkF m 3 #[.val (.ref a1), .val (.ref a2), .val (.int (2 : Int32)), .unset] [(.int (32768 : Int32)), (.int (2 : Int32))])
  refine OE.icmpYes X0 hx hby (pc' := 38) own_d3_3 (flt (by decide : ¬ ((32768 : Int32) < (2 : Int32)))).2.2.2 (h := ?_)
  refine OE.aloadN X0 hx hby own_d3_38 rfl rfl ?_
  obtain ⟨T1, X1, e1, st1⟩ := getF X0 hx hZ hown (host := "") (Or.inl (hw _ (List.mem_of_getElem? (i := 14) rfl))) Via.refl e0 F_blockUsed_a1 (g := (mkF m 39 #[.val (.ref a1), .val (.ref a2), .val (.int (2 : Int32)), .unset] [(.ref a1)])) rfl rfl (hb hby own_d3_39)
  refine OE.of st1 ?_
  show OE _ p e below s _ _ _ T1 (mkF m 42 #[.val (.ref a1), .val (.ref a2), .val (.int (2 : Int32)), .unset] [(.int (32768 : Int32))])
  refine OE.iloadN X1 hx hby own_d3_42 rfl ?_
  refine OE.iadd X1 hx hby own_d3_43 ?_
  rw [(by decide : ((32768 : Int32) + (2 : Int32)) = (32770 : Int32))]
  refine OE.of (X1.ldcInt hx hown (mvT hZ (hw _ (List.mem_of_getElem? (i := 13) rfl))) (g := (mkF m 44 #[.val (.ref a1), .val (.ref a2), .val (.int (2 : Int32)), .unset] [(.int (32770 : Int32))])) rfl (hb hby own_d3_44)) ?_
  show OE _ p e below s _ _ _ T1 (mkF m 46 #[.val (.ref a1), .val (.ref a2), .val (.int (2 : Int32)), .unset] [(.int (32768 : Int32)), (.int (32770 : Int32))])
  refine OE.icmpNo X1 hx hby own_d3_46 (tlt (by decide : (32768 : Int32) < (32770 : Int32))).2.2.2 ?_
  refine OE.aloadN X1 hx hby own_d3_49 rfl rfl ?_
  refine OE.of (X1.ldcInt hx hown (mvT hZ (hw _ (List.mem_of_getElem? (i := 13) rfl))) (g := (mkF m 50 #[.val (.ref a1), .val (.ref a2), .val (.int (2 : Int32)), .unset] [(.ref a1)])) rfl (hb hby own_d3_50)) ?_
  show OE _ p e below s _ _ _ T1 (mkF m 52 #[.val (.ref a1), .val (.ref a2), .val (.int (2 : Int32)), .unset] [(.int (32768 : Int32)), (.ref a1)])
  obtain ⟨cq2, qa2, qb2⟩ := E_a1.cell
  obtain ⟨_, _, ⟨T2, L2, k2, n2⟩, -, X2, ⟨Lc2, hQ2, l2, y2, z2⟩, st2⟩ := X1.privateBack hx (y := (⟨"com/example/corbel/corbel/ByteSlices", "newBlock", "(I)I"⟩ : MethodName)) hown (mvT hZ (hw _ (List.mem_of_getElem? (i := 22) rfl))) (mvT hZ (hw _ (List.mem_of_getElem? (i := 23) rfl))) (own_sel (mvT hZ (hw _ (List.mem_of_getElem? (i := 23) rfl)) (args := #[])) (Cond.privateMethod_at (mvP hZ (hw _ (List.mem_of_getElem? (i := 24) rfl)) (args := #[]))) (mvT hZ (hw _ (List.mem_of_getElem? (i := 1) rfl)) (args := #[])) (by decide)) (Cond.privateMethod_at (mvP hZ (hw _ (List.mem_of_getElem? (i := 24) rfl)) (args := #[]))) (mvT hZ (hw _ (List.mem_of_getElem? (i := 25) rfl))) (by decide) (backOf (W := 0) (own_rm4_0 l Z a0 hw [] a1 bl kb byu (32768 : Int32) h0 n0 Z0 E_a1 F_blocks_a1 F_blockCount_a1 F_bytesUsed_a1 V_bl g_a1 g_bl ne_bl_a1 ob F_blockUsed_a1) hZ (hw _ (List.mem_of_getElem? (i := 25) rfl)) (hw _ (List.mem_of_getElem? (i := 2) rfl)) (by decide) (by decide)) (g := (mkF m 52 #[.val (.ref a1), .val (.ref a2), .val (.int (2 : Int32)), .unset] [(.int (32768 : Int32)), (.ref a1)])) rfl (by rw [hml]; rfl) (Steps.refl _) (a := a1) (by rw [e1]; exact qa2) qb2 (argsL := [(.int (32768 : Int32))]) (rest := []) (lenOf own_pd0 rfl) rfl (by show 2 * 0 + _ ≤ _; exact Nat.le_of_eq rfl) (hb hby own_d3_52) (fun _ _ => ⟨rfl, e1, (by decide : 0 + 1 ≤ _), (by decide : 0 + 32768 ≤ _)⟩)
  dsimp only [Pt.U, Pt.locs, Pt.cells, Pt.slots] at X2 l2 y2 z2 st2 hQ2
  subst l2 y2 z2
  obtain ⟨r2_nb, r2_kn, rfl, Nq2, K2, q2_0, q2_1, q2_2, q2_3, q2_4, q2_5, q2_6, h2_sn⟩ := hQ2
  refine OE.of (fun _ k => st2.trans k) ?_
  have N2 := Fr.app N0 Nq2
  have ne_a1_r2_nb : a1 ≠ r2_nb := Nat.ne_of_lt (Nat.lt_of_lt_of_le E_a1.lt h2_sn)
  have ne_a2_r2_nb : a2 ≠ r2_nb := Nat.ne_of_lt (Nat.lt_of_lt_of_le V_a2.lt h2_sn)
  have ne_bl_r2_nb : bl ≠ r2_nb := Nat.ne_of_lt (Nat.lt_of_lt_of_le V_bl.lt h2_sn)
  have g_r2_nb : n0 ≤ r2_nb := Nat.le_trans Z0 h2_sn
  have sz_r2_nb : h0.size ≤ r2_nb := Nat.le_trans (Keep.refl h0 [a1, bl]).1 h2_sn
  show OE _ p e below s _ _ _ T2 (mkF m 55 #[.val (.ref a1), .val (.ref a2), .val (.int (2 : Int32)), .unset] [(.int ((0 : Int32) <<< ((15 : Int32) &&& 31)))])
  refine OE.pop X2 hx hby own_d3_55 rfl ?_
  refine OE.aloadN X2 hx hby own_d3_56 rfl rfl ?_
  obtain ⟨T3, X3, e3, st3⟩ := getF X2 hx hZ hown (host := "") (Or.inl (hw _ (List.mem_of_getElem? (i := 26) rfl))) Via.refl rfl q2_3 (g := (mkF m 57 #[.val (.ref a1), .val (.ref a2), .val (.int (2 : Int32)), .unset] [(.ref a1)])) rfl rfl (hb hby own_d3_57)
  refine OE.of st3 ?_
  show OE _ p e below s _ _ _ T3 (mkF m 60 #[.val (.ref a1), .val (.ref a2), .val (.int (2 : Int32)), .unset] [(.int (1 : Int32))])
  refine OE.iconst X3 hx hby own_d3_60 (1 : Int32) rfl ?_
  refine OE.isub X3 hx hby own_d3_61 ?_
  rw [(by decide : ((1 : Int32) - (1 : Int32)) = (0 : Int32))]
  refine OE.bipush X3 hx hby own_d3_62 (15 : Int32) rfl ?_
  refine OE.ishl X3 hx hby own_d3_64 ?_
  refine OE.aloadN X3 hx hby own_d3_65 rfl rfl ?_
  obtain ⟨T4, X4, e4, st4⟩ := getF X3 hx hZ hown (host := "") (Or.inl (hw _ (List.mem_of_getElem? (i := 14) rfl))) Via.refl e3 q2_2 (g := (mkF m 66 #[.val (.ref a1), .val (.ref a2), .val (.int (2 : Int32)), .unset] [(.ref a1), (.int ((0 : Int32) <<< ((15 : Int32) &&& 31)))])) rfl rfl (hb hby own_d3_66)
  refine OE.of st4 ?_
  show OE _ p e below s _ _ _ T4 (mkF m 69 #[.val (.ref a1), .val (.ref a2), .val (.int (2 : Int32)), .unset] [(.int (0 : Int32)), (.int ((0 : Int32) <<< ((15 : Int32) &&& 31)))])
  refine OE.iadd X4 hx hby own_d3_69 ?_
  refine OE.istoreN X4 hx hby own_d3_70 (l' := #[.val (.ref a1), .val (.ref a2), .val (.int (2 : Int32)), .val (.int (((0 : Int32) <<< ((15 : Int32) &&& 31)) + (0 : Int32)))]) rfl ?_
  refine OE.aloadN X4 hx hby own_d3_71 rfl rfl ?_
  refine OE.iconst X4 hx hby own_d3_72 (0 : Int32) rfl ?_
  refine OE.aloadN X4 hx hby own_d3_73 rfl rfl ?_
  obtain ⟨T5, X5, e5, st5⟩ := getF X4 hx hZ hown (host := "") (Or.inl (hw _ (List.mem_of_getElem? (i := 11) rfl))) Via.refl e4 q2_1 (g := (mkF m 74 #[.val (.ref a1), .val (.ref a2), .val (.int (2 : Int32)), .val (.int (((0 : Int32) <<< ((15 : Int32) &&& 31)) + (0 : Int32)))] [(.ref a1), (.int (0 : Int32)), (.ref a2)])) rfl rfl (hb hby own_d3_74)
  refine OE.of st5 ?_
  show OE _ p e below s _ _ _ T5 (mkF m 77 #[.val (.ref a1), .val (.ref a2), .val (.int (2 : Int32)), .val (.int (((0 : Int32) <<< ((15 : Int32) &&& 31)) + (0 : Int32)))] [(.ref bl), (.int (0 : Int32)), (.ref a2)])
  refine OE.aloadN X5 hx hby own_d3_77 rfl rfl ?_
  obtain ⟨T6, X6, e6, st6⟩ := getF X5 hx hZ hown (host := "") (Or.inl (hw _ (List.mem_of_getElem? (i := 26) rfl))) Via.refl e5 q2_3 (g := (mkF m 78 #[.val (.ref a1), .val (.ref a2), .val (.int (2 : Int32)), .val (.int (((0 : Int32) <<< ((15 : Int32) &&& 31)) + (0 : Int32)))] [(.ref a1), (.ref bl), (.int (0 : Int32)), (.ref a2)])) rfl rfl (hb hby own_d3_78)
  refine OE.of st6 ?_
  show OE _ p e below s _ _ _ T6 (mkF m 81 #[.val (.ref a1), .val (.ref a2), .val (.int (2 : Int32)), .val (.int (((0 : Int32) <<< ((15 : Int32) &&& 31)) + (0 : Int32)))] [(.int (1 : Int32)), (.ref bl), (.int (0 : Int32)), (.ref a2)])
  refine OE.iconst X6 hx hby own_d3_81 (1 : Int32) rfl ?_
  refine OE.isub X6 hx hby own_d3_82 ?_
  rw [(by decide : ((1 : Int32) - (1 : Int32)) = (0 : Int32))]
  have Vo7 := q2_5
  obtain ⟨cl7, Ar7, -, Sz7, Nz7, Hz7, Gz7⟩ := Vo7
  have hin7 : ¬ ((0 : Int32) < 0 ∨ cl7.slots.size ≤ ((0 : Int32)).toNatClampNeg) := inb_of Sz7 ⟨by decide, by decide⟩
  have hat7 : cl7.slots[((0 : Int32)).toNatClampNeg]? = some (.ref r2_nb) := Has.at Hz7 hin7 rfl
  refine OE.of (X6.aaload hx (j := (0 : Int32)) (v := (.ref r2_nb)) (by rw [e6]; exact Ar7.1) (State.isArrayOf_alike hZ.alike Ar7.2.1) rfl Ar7.2.2 hin7 hat7 (g := (mkF m 83 #[.val (.ref a1), .val (.ref a2), .val (.int (2 : Int32)), .val (.int (((0 : Int32) <<< ((15 : Int32) &&& 31)) + (0 : Int32)))] [(.int (0 : Int32)), (.ref bl), (.int (0 : Int32)), (.ref a2)])) rfl rfl (hb hby own_d3_83)) ?_
  show OE _ p e below s _ _ _ T6 (mkF m 84 #[.val (.ref a1), .val (.ref a2), .val (.int (2 : Int32)), .val (.int (((0 : Int32) <<< ((15 : Int32) &&& 31)) + (0 : Int32)))] [(.ref r2_nb), (.int (0 : Int32)), (.ref a2)])
  refine OE.aloadN X6 hx hby own_d3_84 rfl rfl ?_
  obtain ⟨T8, X8, e8, st8⟩ := getF X6 hx hZ hown (host := "") (Or.inl (hw _ (List.mem_of_getElem? (i := 14) rfl))) Via.refl e6 q2_2 (g := (mkF m 85 #[.val (.ref a1), .val (.ref a2), .val (.int (2 : Int32)), .val (.int (((0 : Int32) <<< ((15 : Int32) &&& 31)) + (0 : Int32)))] [(.ref a1), (.ref r2_nb), (.int (0 : Int32)), (.ref a2)])) rfl rfl (hb hby own_d3_85)
  refine OE.of st8 ?_
  show OE _ p e below s _ _ _ T8 (mkF m 88 #[.val (.ref a1), .val (.ref a2), .val (.int (2 : Int32)), .val (.int (((0 : Int32) <<< ((15 : Int32) &&& 31)) + (0 : Int32)))] [(.int (0 : Int32)), (.ref r2_nb), (.int (0 : Int32)), (.ref a2)])
  refine OE.iloadN X8 hx hby own_d3_88 rfl ?_
  have R9 : Arv Z T2.heap r2_nb r2_kn .byte (32768 : Int32) [(.int (0 : Int32)), (.int (0 : Int32))] (.int (0 : Int32)) := (q2_6).pad (pad_rep [] (.int (0 : Int32)) 2)
  have f10 : Arv Z T2.heap a2 ks .byte (2 : Int32) [(.int x0), (.int x1)] (.int (0 : Int32)) := (V_a2.keep K2 (ninS ne_a2_a1 (ninS ne_a2_bl nin0)))
  obtain ⟨T11, h11, L11, X11, e11, N11, K11, V11, st11⟩ := cpA X8 hx hZ hown (hw _ (List.mem_of_getElem? (i := 32) rfl)) (hw _ (List.mem_of_getElem? (i := 35) rfl)) (hw _ (List.mem_of_getElem? (i := 33) rfl)) (hw _ (List.mem_of_getElem? (i := 34) rfl)) e8 f10 R9 (Or.inl ⟨rfl, rfl⟩) (us := [(.int x0), (.int x1)]) (sp := (0 : Int32)) (dp := (0 : Int32)) (nn := (2 : Int32)) (by decide) (by decide) (by decide) (by decide) (by decide) rfl (by decide) N2 g_r2_nb (g := (mkF m 89 #[.val (.ref a1), .val (.ref a2), .val (.int (2 : Int32)), .val (.int (((0 : Int32) <<< ((15 : Int32) &&& 31)) + (0 : Int32)))] [(.int (2 : Int32)), (.int (0 : Int32)), (.ref r2_nb), (.int (0 : Int32)), (.ref a2)])) rfl (by rw [hml]; rfl) rfl (hb hby own_d3_89) (by decide) (W := 0) (by show 2 * 0 + _ ≤ _; exact Nat.le_of_eq rfl) (by decide)
  refine OE.of st11 ?_
  have U11 : Arv Z h11 r2_nb r2_kn .byte (32768 : Int32) [(.int x0), (.int x1)] (.int (0 : Int32)) := V11
  show OE _ p e below s _ _ _ T11 (mkF m 92 #[.val (.ref a1), .val (.ref a2), .val (.int (2 : Int32)), .val (.int (((0 : Int32) <<< ((15 : Int32) &&& 31)) + (0 : Int32)))] [])
  refine OE.aloadN X11 hx hby own_d3_92 rfl rfl ?_
  refine OE.dup X11 hx hby own_d3_93 rfl ?_
  have f12 : Fld Z h11 a1 "com/example/corbel/corbel/ByteSlices" "blockUsed" "I" (.int (0 : Int32)) := (q2_2.keep K11 (ninS ne_a1_r2_nb nin0))
  obtain ⟨T13, X13, e13, st13⟩ := getF X11 hx hZ hown (host := "") (Or.inl (hw _ (List.mem_of_getElem? (i := 14) rfl))) Via.refl e11 f12 (g := (mkF m 94 #[.val (.ref a1), .val (.ref a2), .val (.int (2 : Int32)), .val (.int (((0 : Int32) <<< ((15 : Int32) &&& 31)) + (0 : Int32)))] [(.ref a1), (.ref a1)])) rfl rfl (hb hby own_d3_94)
  refine OE.of st13 ?_
  show OE _ p e below s _ _ _ T13 (mkF m 97 #[.val (.ref a1), .val (.ref a2), .val (.int (2 : Int32)), .val (.int (((0 : Int32) <<< ((15 : Int32) &&& 31)) + (0 : Int32)))] [(.int (0 : Int32)), (.ref a1)])
  refine OE.iloadN X13 hx hby own_d3_97 rfl ?_
  refine OE.iadd X13 hx hby own_d3_98 ?_
  rw [(by decide : ((0 : Int32) + (2 : Int32)) = (2 : Int32))]
  have f14 : Exa Z h11 a1 "com/example/corbel/corbel/ByteSlices" := (q2_0.keep K11)
  obtain ⟨T15, h15, X15, e15, W15, st15⟩ := putF X13 hx hZ hown (host := "") (Or.inl (hw _ (List.mem_of_getElem? (i := 14) rfl))) Via.refl e13 f12 f14 (Or.inl (hw _ (List.mem_of_getElem? (i := 15) rfl))) (hw _ (List.mem_of_getElem? (i := 1) rfl)) (ty := .int) (by decide) rfl rfl (g := (mkF m 99 #[.val (.ref a1), .val (.ref a2), .val (.int (2 : Int32)), .val (.int (((0 : Int32) <<< ((15 : Int32) &&& 31)) + (0 : Int32)))] [(.int (2 : Int32)), (.ref a1)])) rfl rfl (hb hby own_d3_99)
  refine OE.of st15 ?_
  have N15 := Fr.snoc X15 N11 g_a1
  have Fw15 := f12.same W15
  show OE _ p e below s _ _ _ T15 (mkF m 102 #[.val (.ref a1), .val (.ref a2), .val (.int (2 : Int32)), .val (.int (((0 : Int32) <<< ((15 : Int32) &&& 31)) + (0 : Int32)))] [])
  refine OE.iloadN X15 hx hby own_d3_102 rfl ?_
  refine OE.retI X15 hx Bd.returns Bd.notSynchronized (hb hby own_d3_103) (by decide) (by decide) ?_
  rw [e15]
  have K16 : Keep h0 h15 [a1, bl] := (Keep.wr (Keep.trans (Keep.trans (Keep.refl h0 [a1, bl]) K2 (allS (Or.inl (List.mem_of_getElem? (i := 0) rfl)) (allS (Or.inl (List.mem_of_getElem? (i := 1) rfl)) all0))) K11 (allS (Or.inr sz_r2_nb) all0)) W15 (Or.inl (List.mem_of_getElem? (i := 0) rfl)))
  have f17 : Exa Z h15 a1 "com/example/corbel/corbel/ByteSlices" := (f14.wr W15)
  have f18 : Fld Z h15 a1 "com/example/corbel/corbel/ByteSlices" "blocks" "[[B" (.ref bl) := ((q2_1.keep K11 (ninS ne_a1_r2_nb nin0)).other W15 (Or.inr (slot_ne (Or.inl (hw _ (List.mem_of_getElem? (i := 12) rfl))) (Or.inl (hw _ (List.mem_of_getElem? (i := 15) rfl))) (by decide) (t := (.array (.array .byte))) (t' := .int) (by decide) (by decide))))
  have f19 : Fld Z h15 a1 "com/example/corbel/corbel/ByteSlices" "blockCount" "I" (.int (1 : Int32)) := ((q2_3.keep K11 (ninS ne_a1_r2_nb nin0)).other W15 (Or.inr (slot_ne (Or.inl (hw _ (List.mem_of_getElem? (i := 27) rfl))) (Or.inl (hw _ (List.mem_of_getElem? (i := 15) rfl))) (by decide) (t := .int) (t' := .int) (by decide) (by decide))))
  have f20 : Fld Z h15 a1 "com/example/corbel/corbel/ByteSlices" "bytesUsed" "J" (.long (byu + ((32768 : Int32).toInt64))) := ((q2_4.keep K11 (ninS ne_a1_r2_nb nin0)).other W15 (Or.inr (slot_ne (Or.inl (hw _ (List.mem_of_getElem? (i := 31) rfl))) (Or.inl (hw _ (List.mem_of_getElem? (i := 15) rfl))) (by decide) (t := .long) (t' := .int) (by decide) (by decide))))
  have f21 : Arv Z h15 bl kb (.array .byte) (16 : Int32) [(.ref r2_nb), .null, .null, .null, .null, .null, .null, .null, .null, .null, .null, .null, .null, .null, .null, .null] .null := ((q2_5.keep K11 (ninS ne_bl_r2_nb nin0)).other W15 ne_bl_a1)
  have f22 : Arv Z h15 r2_nb r2_kn .byte (32768 : Int32) [(.int x0), (.int x1)] (.int (0 : Int32)) := (U11.other W15 (Ne.symm ne_a1_r2_nb))
  exact ⟨r2_nb, r2_kn, rfl, N15, K16, f17, f18, Fw15, f19, f20, f21, f22, sz_r2_nb⟩
def own_Q3_1 (Z : State) (a1 : Addr) (a2 : Addr) (bl : Addr) (kb : ClassId) (byu : Int64) (n0_ : Addr) (x0 : Int32) (x1 : Int32) (ks : ClassId) (h0 : Heap) (n0 : Nat) (v : Option Value) (h : Heap) (L : List Loc) : Prop := ∃ nb : Addr, ∃ kn : ClassId, v = some (.int (((1 : Int32) <<< ((15 : Int32) &&& 31)) + (0 : Int32))) ∧ Fr n0 L ∧ Keep h0 h [a1, bl] ∧ Exa Z h a1 "com/example/corbel/corbel/ByteSlices" ∧ Fld Z h a1 "com/example/corbel/corbel/ByteSlices" "blocks" "[[B" (.ref bl) ∧ Fld Z h a1 "com/example/corbel/corbel/ByteSlices" "blockUsed" "I" (.int (32767 : Int32)) ∧ Fld Z h a1 "com/example/corbel/corbel/ByteSlices" "blockCount" "I" (.int (2 : Int32)) ∧ Fld Z h a1 "com/example/corbel/corbel/ByteSlices" "bytesUsed" "J" (.long (byu + ((32768 : Int32).toInt64))) ∧ Arv Z h bl kb (.array .byte) (16 : Int32) [(.ref n0_), (.ref nb), .null, .null, .null, .null, .null, .null, .null, .null, .null, .null, .null, .null, .null, .null] .null ∧ Arv Z h nb kn .byte (32768 : Int32) [(.int x0), (.int x1)] (.int (0 : Int32)) ∧ h0.size ≤ nb
theorem own_ef_own_rm3_1 (m : MethodId) (a1 : Addr) (a2 : Addr) : entryFrame m #[(.ref a1), (.ref a2), (.int (32767 : Int32))] 4 = mkF m 0 #[.val (.ref a1), .val (.ref a2), .val (.int (32767 : Int32)), .unset] [] := by first | (simp [entryFrame, mkF, argsToLocals, Value.category]; done) | rfl
set_option maxRecDepth 65536 in
set_option maxHeartbeats 40000000 in
theorem own_rm3_1 (l : Launch) (Z : State) (a0 : Array Value) (hw : ∀ d ∈ tables_1, d.before a0 Z = true) (ws : List Jvm.Cond) (a1 : Addr) (a2 : Addr) (bl : Addr) (kb : ClassId) (byu : Int64) (n0_ : Addr) (x0 : Int32) (x1 : Int32) (ks : ClassId) (h0 : Heap) (n0 : Nat) (Z0 : n0 ≤ h0.size) (E_a1 : Exa Z h0 a1 "com/example/corbel/corbel/ByteSlices") (F_blocks_a1 : Fld Z h0 a1 "com/example/corbel/corbel/ByteSlices" "blocks" "[[B" (.ref bl)) (F_blockCount_a1 : Fld Z h0 a1 "com/example/corbel/corbel/ByteSlices" "blockCount" "I" (.int (1 : Int32))) (F_bytesUsed_a1 : Fld Z h0 a1 "com/example/corbel/corbel/ByteSlices" "bytesUsed" "J" (.long byu)) (V_bl : Arv Z h0 bl kb (.array .byte) (16 : Int32) [(.ref n0_), .null, .null, .null, .null, .null, .null, .null, .null, .null, .null, .null, .null, .null, .null, .null] .null) (g_a1 : n0 ≤ a1) (g_bl : n0 ≤ bl) (ne_bl_a1 : bl ≠ a1) (ob : OvrA Z kb .byte "[B") (F_blockUsed_a1 : Fld Z h0 a1 "com/example/corbel/corbel/ByteSlices" "blockUsed" "I" (.int (2 : Int32))) (V_a2 : Arv Z h0 a2 ks .byte (32767 : Int32) [(.int x0), (.int x1)] (.int (0 : Int32))) (ne_a2_a1 : a2 ≠ a1) (ne_a2_bl : a2 ≠ bl) :
    MetFree l (⟨"com/example/corbel/corbel/ByteSlices", "store", "([BI)I"⟩ : MethodName) (head1 (Jvm.Cond.code (⟨"com/example/corbel/corbel/ByteSlices", "store", "([BI)I"⟩ : MethodName) prog_24_method_3_code 4 (some .int) :: ws) ({ frames := 1, cells := 1, slots := 32768, locals := 27 } : Room)) (fun a U => a = #[(.ref a1), (.ref a2), (.int (32767 : Int32))] ∧ Z.Warmed39 U.vm ∧ U.heap = h0) (fun _ _ _ _ _ => True) (fun _ U o U' => ∃ v L, o = .returned v ∧ own_Q3_1 Z a1 a2 bl kb byu n0_ x0 x1 ks h0 n0 v U'.heap L ∧ FrameEnd U o U' L ({ frames := 1, cells := 1, slots := 32768, locals := 27 } : Room).cells ({ frames := 1, cells := 1, slots := 32768, locals := 27 } : Room).slots) := by
  refine MetFree.of_bodySF (plainFor_of_name own_pn1) hisR ?_
  intro p e s m args below meth c s₁ Bd hml0 hP hK
  obtain ⟨rfl, hZ, hh⟩ := hP
  have hx := Bd.exec
  have hby := Bd.bytes
  have hml : c.maxLocals = 4 := hml0
  have hown : s.vm.findClass "com/example/corbel/corbel/ByteSlices" = some m.cls := findClass_of_methodNamed Bd.named
  have hnm := (name_of_methodNamed Bd.named Bd.method).1
  have X0 : Stand p l e ({ frames := 1, cells := 1, slots := 32768, locals := 27 } : Room) s m #[(.ref a1), (.ref a2), (.int (32767 : Int32))] below meth c s₁ [] 0 0 := Stand.of_body Bd
  have e0 : s₁.heap = h0 := by rw [← hh, Bd.state]; rfl
  have N0 := Fr.nil n0
  show OE FrameEnd p e below s (own_Q3_1 Z a1 a2 bl kb byu n0_ x0 x1 ks h0 n0) ({ frames := 1, cells := 1, slots := 32768, locals := 27 } : Room).cells ({ frames := 1, cells := 1, slots := 32768, locals := 27 } : Room).slots s₁ (entryFrame m #[(.ref a1), (.ref a2), (.int (32767 : Int32))] 4)
  rw [own_ef_own_rm3_1]
  show OE _ p e below s _ _ _ s₁ (mkF m 0 #[.val (.ref a1), .val (.ref a2), .val (.int (32767 : Int32)), .unset] [])
  refine OE.iloadN X0 hx hby own_d3_0 rfl ?_
  refine OE.of (X0.ldcInt hx hown (mvT hZ (hw _ (List.mem_of_getElem? (i := 13) rfl))) (g := (mkF m 1 #[.val (.ref a1), .val (.ref a2), .val (.int (32767 : Int32)), .unset] [(.int (32767 : Int32))])) rfl (hb hby own_d3_1)) ?_
  show OE _ p e below s _ _ _ s₁ (mkF m 3 #[.val (.ref a1), .val (.ref a2), .val (.int (32767 : Int32)), .unset] [(.int (32768 : Int32)), (.int (32767 : Int32))])
  refine OE.icmpYes X0 hx hby (pc' := 38) own_d3_3 (flt (by decide : ¬ ((32768 : Int32) < (32767 : Int32)))).2.2.2 (h := ?_)
  refine OE.aloadN X0 hx hby own_d3_38 rfl rfl ?_
  obtain ⟨T1, X1, e1, st1⟩ := getF X0 hx hZ hown (host := "") (Or.inl (hw _ (List.mem_of_getElem? (i := 14) rfl))) Via.refl e0 F_blockUsed_a1 (g := (mkF m 39 #[.val (.ref a1), .val (.ref a2), .val (.int (32767 : Int32)), .unset] [(.ref a1)])) rfl rfl (hb hby own_d3_39)
  refine OE.of st1 ?_
  show OE _ p e below s _ _ _ T1 (mkF m 42 #[.val (.ref a1), .val (.ref a2), .val (.int (32767 : Int32)), .unset] [(.int (2 : Int32))])
  refine OE.iloadN X1 hx hby own_d3_42 rfl ?_
  refine OE.iadd X1 hx hby own_d3_43 ?_
  rw [(by decide : ((2 : Int32) + (32767 : Int32)) = (32769 : Int32))]
  refine OE.of (X1.ldcInt hx hown (mvT hZ (hw _ (List.mem_of_getElem? (i := 13) rfl))) (g := (mkF m 44 #[.val (.ref a1), .val (.ref a2), .val (.int (32767 : Int32)), .unset] [(.int (32769 : Int32))])) rfl (hb hby own_d3_44)) ?_
  show OE _ p e below s _ _ _ T1 (mkF m 46 #[.val (.ref a1), .val (.ref a2), .val (.int (32767 : Int32)), .unset] [(.int (32768 : Int32)), (.int (32769 : Int32))])
  refine OE.icmpNo X1 hx hby own_d3_46 (tlt (by decide : (32768 : Int32) < (32769 : Int32))).2.2.2 ?_
  refine OE.aloadN X1 hx hby own_d3_49 rfl rfl ?_
  refine OE.of (X1.ldcInt hx hown (mvT hZ (hw _ (List.mem_of_getElem? (i := 13) rfl))) (g := (mkF m 50 #[.val (.ref a1), .val (.ref a2), .val (.int (32767 : Int32)), .unset] [(.ref a1)])) rfl (hb hby own_d3_50)) ?_
  show OE _ p e below s _ _ _ T1 (mkF m 52 #[.val (.ref a1), .val (.ref a2), .val (.int (32767 : Int32)), .unset] [(.int (32768 : Int32)), (.ref a1)])
  obtain ⟨cq2, qa2, qb2⟩ := E_a1.cell
  obtain ⟨_, _, ⟨T2, L2, k2, n2⟩, -, X2, ⟨Lc2, hQ2, l2, y2, z2⟩, st2⟩ := X1.privateBack hx (y := (⟨"com/example/corbel/corbel/ByteSlices", "newBlock", "(I)I"⟩ : MethodName)) hown (mvT hZ (hw _ (List.mem_of_getElem? (i := 22) rfl))) (mvT hZ (hw _ (List.mem_of_getElem? (i := 23) rfl))) (own_sel (mvT hZ (hw _ (List.mem_of_getElem? (i := 23) rfl)) (args := #[])) (Cond.privateMethod_at (mvP hZ (hw _ (List.mem_of_getElem? (i := 24) rfl)) (args := #[]))) (mvT hZ (hw _ (List.mem_of_getElem? (i := 1) rfl)) (args := #[])) (by decide)) (Cond.privateMethod_at (mvP hZ (hw _ (List.mem_of_getElem? (i := 24) rfl)) (args := #[]))) (mvT hZ (hw _ (List.mem_of_getElem? (i := 25) rfl))) (by decide) (backOf (W := 0) (own_rm4_1 l Z a0 hw [] a1 bl kb byu n0_ (2 : Int32) h0 n0 Z0 E_a1 F_blocks_a1 F_blockCount_a1 F_bytesUsed_a1 V_bl g_a1 g_bl ne_bl_a1 ob F_blockUsed_a1) hZ (hw _ (List.mem_of_getElem? (i := 25) rfl)) (hw _ (List.mem_of_getElem? (i := 2) rfl)) (by decide) (by decide)) (g := (mkF m 52 #[.val (.ref a1), .val (.ref a2), .val (.int (32767 : Int32)), .unset] [(.int (32768 : Int32)), (.ref a1)])) rfl (by rw [hml]; rfl) (Steps.refl _) (a := a1) (by rw [e1]; exact qa2) qb2 (argsL := [(.int (32768 : Int32))]) (rest := []) (lenOf own_pd0 rfl) rfl (by show 2 * 0 + _ ≤ _; exact Nat.le_of_eq rfl) (hb hby own_d3_52) (fun _ _ => ⟨rfl, e1, (by decide : 0 + 1 ≤ _), (by decide : 0 + 32768 ≤ _)⟩)
  dsimp only [Pt.U, Pt.locs, Pt.cells, Pt.slots] at X2 l2 y2 z2 st2 hQ2
  subst l2 y2 z2
  obtain ⟨r2_nb, r2_kn, rfl, Nq2, K2, q2_0, q2_1, q2_2, q2_3, q2_4, q2_5, q2_6, h2_sn⟩ := hQ2
  refine OE.of (fun _ k => st2.trans k) ?_
  have N2 := Fr.app N0 Nq2
  have ne_a1_r2_nb : a1 ≠ r2_nb := Nat.ne_of_lt (Nat.lt_of_lt_of_le E_a1.lt h2_sn)
  have ne_a2_r2_nb : a2 ≠ r2_nb := Nat.ne_of_lt (Nat.lt_of_lt_of_le V_a2.lt h2_sn)
  have ne_bl_r2_nb : bl ≠ r2_nb := Nat.ne_of_lt (Nat.lt_of_lt_of_le V_bl.lt h2_sn)
  have g_r2_nb : n0 ≤ r2_nb := Nat.le_trans Z0 h2_sn
  have sz_r2_nb : h0.size ≤ r2_nb := Nat.le_trans (Keep.refl h0 [a1, bl]).1 h2_sn
  show OE _ p e below s _ _ _ T2 (mkF m 55 #[.val (.ref a1), .val (.ref a2), .val (.int (32767 : Int32)), .unset] [(.int ((1 : Int32) <<< ((15 : Int32) &&& 31)))])
  refine OE.pop X2 hx hby own_d3_55 rfl ?_
  refine OE.aloadN X2 hx hby own_d3_56 rfl rfl ?_
  obtain ⟨T3, X3, e3, st3⟩ := getF X2 hx hZ hown (host := "") (Or.inl (hw _ (List.mem_of_getElem? (i := 26) rfl))) Via.refl rfl q2_3 (g := (mkF m 57 #[.val (.ref a1), .val (.ref a2), .val (.int (32767 : Int32)), .unset] [(.ref a1)])) rfl rfl (hb hby own_d3_57)
  refine OE.of st3 ?_
  show OE _ p e below s _ _ _ T3 (mkF m 60 #[.val (.ref a1), .val (.ref a2), .val (.int (32767 : Int32)), .unset] [(.int (2 : Int32))])
  refine OE.iconst X3 hx hby own_d3_60 (1 : Int32) rfl ?_
  refine OE.isub X3 hx hby own_d3_61 ?_
  rw [(by decide : ((2 : Int32) - (1 : Int32)) = (1 : Int32))]
  refine OE.bipush X3 hx hby own_d3_62 (15 : Int32) rfl ?_
  refine OE.ishl X3 hx hby own_d3_64 ?_
  refine OE.aloadN X3 hx hby own_d3_65 rfl rfl ?_
  obtain ⟨T4, X4, e4, st4⟩ := getF X3 hx hZ hown (host := "") (Or.inl (hw _ (List.mem_of_getElem? (i := 14) rfl))) Via.refl e3 q2_2 (g := (mkF m 66 #[.val (.ref a1), .val (.ref a2), .val (.int (32767 : Int32)), .unset] [(.ref a1), (.int ((1 : Int32) <<< ((15 : Int32) &&& 31)))])) rfl rfl (hb hby own_d3_66)
  refine OE.of st4 ?_
  show OE _ p e below s _ _ _ T4 (mkF m 69 #[.val (.ref a1), .val (.ref a2), .val (.int (32767 : Int32)), .unset] [(.int (0 : Int32)), (.int ((1 : Int32) <<< ((15 : Int32) &&& 31)))])
  refine OE.iadd X4 hx hby own_d3_69 ?_
  refine OE.istoreN X4 hx hby own_d3_70 (l' := #[.val (.ref a1), .val (.ref a2), .val (.int (32767 : Int32)), .val (.int (((1 : Int32) <<< ((15 : Int32) &&& 31)) + (0 : Int32)))]) rfl ?_
  refine OE.aloadN X4 hx hby own_d3_71 rfl rfl ?_
  refine OE.iconst X4 hx hby own_d3_72 (0 : Int32) rfl ?_
  refine OE.aloadN X4 hx hby own_d3_73 rfl rfl ?_
  obtain ⟨T5, X5, e5, st5⟩ := getF X4 hx hZ hown (host := "") (Or.inl (hw _ (List.mem_of_getElem? (i := 11) rfl))) Via.refl e4 q2_1 (g := (mkF m 74 #[.val (.ref a1), .val (.ref a2), .val (.int (32767 : Int32)), .val (.int (((1 : Int32) <<< ((15 : Int32) &&& 31)) + (0 : Int32)))] [(.ref a1), (.int (0 : Int32)), (.ref a2)])) rfl rfl (hb hby own_d3_74)
  refine OE.of st5 ?_
  show OE _ p e below s _ _ _ T5 (mkF m 77 #[.val (.ref a1), .val (.ref a2), .val (.int (32767 : Int32)), .val (.int (((1 : Int32) <<< ((15 : Int32) &&& 31)) + (0 : Int32)))] [(.ref bl), (.int (0 : Int32)), (.ref a2)])
  refine OE.aloadN X5 hx hby own_d3_77 rfl rfl ?_
  obtain ⟨T6, X6, e6, st6⟩ := getF X5 hx hZ hown (host := "") (Or.inl (hw _ (List.mem_of_getElem? (i := 26) rfl))) Via.refl e5 q2_3 (g := (mkF m 78 #[.val (.ref a1), .val (.ref a2), .val (.int (32767 : Int32)), .val (.int (((1 : Int32) <<< ((15 : Int32) &&& 31)) + (0 : Int32)))] [(.ref a1), (.ref bl), (.int (0 : Int32)), (.ref a2)])) rfl rfl (hb hby own_d3_78)
  refine OE.of st6 ?_
  show OE _ p e below s _ _ _ T6 (mkF m 81 #[.val (.ref a1), .val (.ref a2), .val (.int (32767 : Int32)), .val (.int (((1 : Int32) <<< ((15 : Int32) &&& 31)) + (0 : Int32)))] [(.int (2 : Int32)), (.ref bl), (.int (0 : Int32)), (.ref a2)])
  refine OE.iconst X6 hx hby own_d3_81 (1 : Int32) rfl ?_
  refine OE.isub X6 hx hby own_d3_82 ?_
  rw [(by decide : ((2 : Int32) - (1 : Int32)) = (1 : Int32))]
  have Vo7 := q2_5
  obtain ⟨cl7, Ar7, -, Sz7, Nz7, Hz7, Gz7⟩ := Vo7
  have hin7 : ¬ ((1 : Int32) < 0 ∨ cl7.slots.size ≤ ((1 : Int32)).toNatClampNeg) := inb_of Sz7 ⟨by decide, by decide⟩
  have hat7 : cl7.slots[((1 : Int32)).toNatClampNeg]? = some (.ref r2_nb) := Has.at Hz7 hin7 rfl
  refine OE.of (X6.aaload hx (j := (1 : Int32)) (v := (.ref r2_nb)) (by rw [e6]; exact Ar7.1) (State.isArrayOf_alike hZ.alike Ar7.2.1) rfl Ar7.2.2 hin7 hat7 (g := (mkF m 83 #[.val (.ref a1), .val (.ref a2), .val (.int (32767 : Int32)), .val (.int (((1 : Int32) <<< ((15 : Int32) &&& 31)) + (0 : Int32)))] [(.int (1 : Int32)), (.ref bl), (.int (0 : Int32)), (.ref a2)])) rfl rfl (hb hby own_d3_83)) ?_
  show OE _ p e below s _ _ _ T6 (mkF m 84 #[.val (.ref a1), .val (.ref a2), .val (.int (32767 : Int32)), .val (.int (((1 : Int32) <<< ((15 : Int32) &&& 31)) + (0 : Int32)))] [(.ref r2_nb), (.int (0 : Int32)), (.ref a2)])
  refine OE.aloadN X6 hx hby own_d3_84 rfl rfl ?_
  obtain ⟨T8, X8, e8, st8⟩ := getF X6 hx hZ hown (host := "") (Or.inl (hw _ (List.mem_of_getElem? (i := 14) rfl))) Via.refl e6 q2_2 (g := (mkF m 85 #[.val (.ref a1), .val (.ref a2), .val (.int (32767 : Int32)), .val (.int (((1 : Int32) <<< ((15 : Int32) &&& 31)) + (0 : Int32)))] [(.ref a1), (.ref r2_nb), (.int (0 : Int32)), (.ref a2)])) rfl rfl (hb hby own_d3_85)
  refine OE.of st8 ?_
  show OE _ p e below s _ _ _ T8 (mkF m 88 #[.val (.ref a1), .val (.ref a2), .val (.int (32767 : Int32)), .val (.int (((1 : Int32) <<< ((15 : Int32) &&& 31)) + (0 : Int32)))] [(.int (0 : Int32)), (.ref r2_nb), (.int (0 : Int32)), (.ref a2)])
  refine OE.iloadN X8 hx hby own_d3_88 rfl ?_
  have R9 : Arv Z T2.heap r2_nb r2_kn .byte (32768 : Int32) (List.replicate 32768 (.int (0 : Int32))) (.int (0 : Int32)) := (q2_6).pad (pad_rep [] (.int (0 : Int32)) 32768)
  have f10 : Arv Z T2.heap a2 ks .byte (32767 : Int32) [(.int x0), (.int x1)] (.int (0 : Int32)) := (V_a2.keep K2 (ninS ne_a2_a1 (ninS ne_a2_bl nin0)))
  obtain ⟨T11, h11, L11, X11, e11, N11, K11, V11, st11⟩ := cpA X8 hx hZ hown (hw _ (List.mem_of_getElem? (i := 32) rfl)) (hw _ (List.mem_of_getElem? (i := 35) rfl)) (hw _ (List.mem_of_getElem? (i := 33) rfl)) (hw _ (List.mem_of_getElem? (i := 34) rfl)) e8 f10 R9 (Or.inl ⟨rfl, rfl⟩) (us := _) (sp := (0 : Int32)) (dp := (0 : Int32)) (nn := (32767 : Int32)) (by decide) (by decide) (by decide) (by decide) (by decide) rfl (by rw [List.length_replicate]; decide) N2 g_r2_nb (g := (mkF m 89 #[.val (.ref a1), .val (.ref a2), .val (.int (32767 : Int32)), .val (.int (((1 : Int32) <<< ((15 : Int32) &&& 31)) + (0 : Int32)))] [(.int (32767 : Int32)), (.int (0 : Int32)), (.ref r2_nb), (.int (0 : Int32)), (.ref a2)])) rfl (by rw [hml]; rfl) rfl (hb hby own_d3_89) (by decide) (W := 0) (by show 2 * 0 + _ ≤ _; exact Nat.le_of_eq rfl) (by decide)
  refine OE.of st11 ?_
  have U11 : Arv Z h11 r2_nb r2_kn .byte (32768 : Int32) [(.int x0), (.int x1)] (.int (0 : Int32)) := (V11).pad (own_pad 32767 32768 (by decide))
  show OE _ p e below s _ _ _ T11 (mkF m 92 #[.val (.ref a1), .val (.ref a2), .val (.int (32767 : Int32)), .val (.int (((1 : Int32) <<< ((15 : Int32) &&& 31)) + (0 : Int32)))] [])
  refine OE.aloadN X11 hx hby own_d3_92 rfl rfl ?_
  refine OE.dup X11 hx hby own_d3_93 rfl ?_
  have f12 : Fld Z h11 a1 "com/example/corbel/corbel/ByteSlices" "blockUsed" "I" (.int (0 : Int32)) := (q2_2.keep K11 (ninS ne_a1_r2_nb nin0))
  obtain ⟨T13, X13, e13, st13⟩ := getF X11 hx hZ hown (host := "") (Or.inl (hw _ (List.mem_of_getElem? (i := 14) rfl))) Via.refl e11 f12 (g := (mkF m 94 #[.val (.ref a1), .val (.ref a2), .val (.int (32767 : Int32)), .val (.int (((1 : Int32) <<< ((15 : Int32) &&& 31)) + (0 : Int32)))] [(.ref a1), (.ref a1)])) rfl rfl (hb hby own_d3_94)
  refine OE.of st13 ?_
  show OE _ p e below s _ _ _ T13 (mkF m 97 #[.val (.ref a1), .val (.ref a2), .val (.int (32767 : Int32)), .val (.int (((1 : Int32) <<< ((15 : Int32) &&& 31)) + (0 : Int32)))] [(.int (0 : Int32)), (.ref a1)])
  refine OE.iloadN X13 hx hby own_d3_97 rfl ?_
  refine OE.iadd X13 hx hby own_d3_98 ?_
  rw [(by decide : ((0 : Int32) + (32767 : Int32)) = (32767 : Int32))]
  have f14 : Exa Z h11 a1 "com/example/corbel/corbel/ByteSlices" := (q2_0.keep K11)
  obtain ⟨T15, h15, X15, e15, W15, st15⟩ := putF X13 hx hZ hown (host := "") (Or.inl (hw _ (List.mem_of_getElem? (i := 14) rfl))) Via.refl e13 f12 f14 (Or.inl (hw _ (List.mem_of_getElem? (i := 15) rfl))) (hw _ (List.mem_of_getElem? (i := 1) rfl)) (ty := .int) (by decide) rfl rfl (g := (mkF m 99 #[.val (.ref a1), .val (.ref a2), .val (.int (32767 : Int32)), .val (.int (((1 : Int32) <<< ((15 : Int32) &&& 31)) + (0 : Int32)))] [(.int (32767 : Int32)), (.ref a1)])) rfl rfl (hb hby own_d3_99)
  refine OE.of st15 ?_
  have N15 := Fr.snoc X15 N11 g_a1
  have Fw15 := f12.same W15
  show OE _ p e below s _ _ _ T15 (mkF m 102 #[.val (.ref a1), .val (.ref a2), .val (.int (32767 : Int32)), .val (.int (((1 : Int32) <<< ((15 : Int32) &&& 31)) + (0 : Int32)))] [])
  refine OE.iloadN X15 hx hby own_d3_102 rfl ?_
  refine OE.retI X15 hx Bd.returns Bd.notSynchronized (hb hby own_d3_103) (by decide) (by decide) ?_
  rw [e15]
  have K16 : Keep h0 h15 [a1, bl] := (Keep.wr (Keep.trans (Keep.trans (Keep.refl h0 [a1, bl]) K2 (allS (Or.inl (List.mem_of_getElem? (i := 0) rfl)) (allS (Or.inl (List.mem_of_getElem? (i := 1) rfl)) all0))) K11 (allS (Or.inr sz_r2_nb) all0)) W15 (Or.inl (List.mem_of_getElem? (i := 0) rfl)))
  have f17 : Exa Z h15 a1 "com/example/corbel/corbel/ByteSlices" := (f14.wr W15)
  have f18 : Fld Z h15 a1 "com/example/corbel/corbel/ByteSlices" "blocks" "[[B" (.ref bl) := ((q2_1.keep K11 (ninS ne_a1_r2_nb nin0)).other W15 (Or.inr (slot_ne (Or.inl (hw _ (List.mem_of_getElem? (i := 12) rfl))) (Or.inl (hw _ (List.mem_of_getElem? (i := 15) rfl))) (by decide) (t := (.array (.array .byte))) (t' := .int) (by decide) (by decide))))
  have f19 : Fld Z h15 a1 "com/example/corbel/corbel/ByteSlices" "blockCount" "I" (.int (2 : Int32)) := ((q2_3.keep K11 (ninS ne_a1_r2_nb nin0)).other W15 (Or.inr (slot_ne (Or.inl (hw _ (List.mem_of_getElem? (i := 27) rfl))) (Or.inl (hw _ (List.mem_of_getElem? (i := 15) rfl))) (by decide) (t := .int) (t' := .int) (by decide) (by decide))))
  have f20 : Fld Z h15 a1 "com/example/corbel/corbel/ByteSlices" "bytesUsed" "J" (.long (byu + ((32768 : Int32).toInt64))) := ((q2_4.keep K11 (ninS ne_a1_r2_nb nin0)).other W15 (Or.inr (slot_ne (Or.inl (hw _ (List.mem_of_getElem? (i := 31) rfl))) (Or.inl (hw _ (List.mem_of_getElem? (i := 15) rfl))) (by decide) (t := .long) (t' := .int) (by decide) (by decide))))
  have f21 : Arv Z h15 bl kb (.array .byte) (16 : Int32) [(.ref n0_), (.ref r2_nb), .null, .null, .null, .null, .null, .null, .null, .null, .null, .null, .null, .null, .null, .null] .null := ((q2_5.keep K11 (ninS ne_bl_r2_nb nin0)).other W15 ne_bl_a1)
  have f22 : Arv Z h15 r2_nb r2_kn .byte (32768 : Int32) [(.int x0), (.int x1)] (.int (0 : Int32)) := (U11.other W15 (Ne.symm ne_a1_r2_nb))
  exact ⟨r2_nb, r2_kn, rfl, N15, K16, f17, f18, Fw15, f19, f20, f21, f22, sz_r2_nb⟩
theorem own_d6_0 : decode prog_25_method_1_code 0 = .ok (.aload_n 0, 1) := by decide +kernel
theorem own_d6_1 : decode prog_25_method_1_code 1 = .ok (.aload_n 1, 1) := by decide +kernel
theorem own_d6_2 : decode prog_25_method_1_code 2 = .ok (.putfield 3, 3) := by decide +kernel
theorem own_d6_5 : decode prog_25_method_1_code 5 = .ok (.aload_n 0, 1) := by decide +kernel
theorem own_d6_6 : decode prog_25_method_1_code 6 = .ok (.invokespecial 9, 3) := by decide +kernel
theorem own_d6_9 : decode prog_25_method_1_code 9 = .ok (.return_, 1) := by decide +kernel
def own_Q6 (Z : State) (a1 : Addr) (a2 : Addr) (h0 : Heap) (n0 : Nat) (v : Option Value) (h : Heap) (L : List Loc) : Prop := v = none ∧ Fr n0 L ∧ Keep h0 h [a1] ∧ Exa Z h a1 "com/example/corbel/corbel/ByteSlices$Reader" ∧ Fld Z h a1 "com/example/corbel/corbel/ByteSlices$Reader" "this$0" "Lcom/example/corbel/corbel/ByteSlices;" (.ref a2) ∧ Fld Z h a1 "com/example/corbel/corbel/ByteSlices$Reader" "address" "I" (.int (0 : Int32)) ∧ Fld Z h a1 "com/example/corbel/corbel/ByteSlices$Reader" "limit" "I" (.int (0 : Int32)) ∧ Fld Z h a1 "com/example/corbel/corbel/ByteSlices$Reader" "level" "I" (.int (0 : Int32)) ∧ Fld Z h a1 "com/example/corbel/corbel/ByteSlices$Reader" "end" "I" (.int (0 : Int32)) ∧ Fld Z h a1 "com/example/corbel/corbel/ByteSlices$Reader" "block" "[B" .null
theorem own_pn2 : plainName "com/example/corbel/corbel/ByteSlices$Reader" = true := by first | (simp [plainName, overriddenIn]; done) | decide +kernel
theorem own_ef_own_rm6 (m : MethodId) (a1 : Addr) (a2 : Addr) : entryFrame m #[(.ref a1), (.ref a2)] 2 = mkF m 0 #[.val (.ref a1), .val (.ref a2)] [] := by first | (simp [entryFrame, mkF, argsToLocals, Value.category]; done) | rfl
set_option maxRecDepth 65536 in
set_option maxHeartbeats 40000000 in
theorem own_rm6 (l : Launch) (Z : State) (a0 : Array Value) (hw : ∀ d ∈ tables_1, d.before a0 Z = true) (ws : List Jvm.Cond) (a1 : Addr) (a2 : Addr) (h0 : Heap) (n0 : Nat) (Z0 : n0 ≤ h0.size) (E_a1 : Exa Z h0 a1 "com/example/corbel/corbel/ByteSlices$Reader") (F_this_0_a1 : Fld Z h0 a1 "com/example/corbel/corbel/ByteSlices$Reader" "this$0" "Lcom/example/corbel/corbel/ByteSlices;" .null) (F_address_a1 : Fld Z h0 a1 "com/example/corbel/corbel/ByteSlices$Reader" "address" "I" (.int (0 : Int32))) (F_limit_a1 : Fld Z h0 a1 "com/example/corbel/corbel/ByteSlices$Reader" "limit" "I" (.int (0 : Int32))) (F_level_a1 : Fld Z h0 a1 "com/example/corbel/corbel/ByteSlices$Reader" "level" "I" (.int (0 : Int32))) (F_end_a1 : Fld Z h0 a1 "com/example/corbel/corbel/ByteSlices$Reader" "end" "I" (.int (0 : Int32))) (F_block_a1 : Fld Z h0 a1 "com/example/corbel/corbel/ByteSlices$Reader" "block" "[B" .null) (g_a1 : n0 ≤ a1) :
    MetFree l (⟨"com/example/corbel/corbel/ByteSlices$Reader", "<init>", "(Lcom/example/corbel/corbel/ByteSlices;)V"⟩ : MethodName) (head1 (Jvm.Cond.code (⟨"com/example/corbel/corbel/ByteSlices$Reader", "<init>", "(Lcom/example/corbel/corbel/ByteSlices;)V"⟩ : MethodName) prog_25_method_1_code 2 none :: ws) ({ frames := 1, cells := 0, slots := 0, locals := 12 } : Room)) (fun a U => a = #[(.ref a1), (.ref a2)] ∧ Z.Warmed39 U.vm ∧ U.heap = h0) (fun _ _ _ _ _ => True) (fun _ U o U' => ∃ v L, o = .returned v ∧ own_Q6 Z a1 a2 h0 n0 v U'.heap L ∧ FrameEnd U o U' L ({ frames := 1, cells := 0, slots := 0, locals := 12 } : Room).cells ({ frames := 1, cells := 0, slots := 0, locals := 12 } : Room).slots) := by
  refine MetFree.of_bodySF (plainFor_of_name own_pn2) hisR ?_
  intro p e s m args below meth c s₁ Bd hml0 hP hK
  obtain ⟨rfl, hZ, hh⟩ := hP
  have hx := Bd.exec
  have hby := Bd.bytes
  have hml : c.maxLocals = 2 := hml0
  have hown : s.vm.findClass "com/example/corbel/corbel/ByteSlices$Reader" = some m.cls := findClass_of_methodNamed Bd.named
  have hnm := (name_of_methodNamed Bd.named Bd.method).1
  have X0 : Stand p l e ({ frames := 1, cells := 0, slots := 0, locals := 12 } : Room) s m #[(.ref a1), (.ref a2)] below meth c s₁ [] 0 0 := Stand.of_body Bd
  have e0 : s₁.heap = h0 := by rw [← hh, Bd.state]; rfl
  have N0 := Fr.nil n0
  show OE FrameEnd p e below s (own_Q6 Z a1 a2 h0 n0) ({ frames := 1, cells := 0, slots := 0, locals := 12 } : Room).cells ({ frames := 1, cells := 0, slots := 0, locals := 12 } : Room).slots s₁ (entryFrame m #[(.ref a1), (.ref a2)] 2)
  rw [own_ef_own_rm6]
  show OE _ p e below s _ _ _ s₁ (mkF m 0 #[.val (.ref a1), .val (.ref a2)] [])
  refine OE.aloadN X0 hx hby own_d6_0 rfl rfl ?_
  refine OE.aloadN X0 hx hby own_d6_1 rfl rfl ?_
  obtain ⟨T1, h1, X1, e1, W1, st1⟩ := putF X0 hx hZ hown (host := "") (Or.inl (hw _ (List.mem_of_getElem? (i := 46) rfl))) Via.refl e0 F_this_0_a1 E_a1 (Or.inr ⟨(hw _ (List.mem_of_getElem? (i := 47) rfl)), rfl, hnm⟩) (hw _ (List.mem_of_getElem? (i := 37) rfl)) (ty := (.object "com/example/corbel/corbel/ByteSlices")) (by decide) rfl rfl (g := (mkF m 2 #[.val (.ref a1), .val (.ref a2)] [(.ref a2), (.ref a1)])) rfl rfl (hb hby own_d6_2)
  refine OE.of st1 ?_
  have N1 := Fr.snoc X1 N0 g_a1
  have Fw1 := F_this_0_a1.same W1
  show OE _ p e below s _ _ _ T1 (mkF m 5 #[.val (.ref a1), .val (.ref a2)] [])
  refine OE.aloadN X1 hx hby own_d6_5 rfl rfl ?_
  obtain ⟨T2, X2, e2, st2⟩ := initO X1 hx hZ hown (hw _ (List.mem_of_getElem? (i := 48) rfl)) (hw _ (List.mem_of_getElem? (i := 7) rfl)) (hw _ (List.mem_of_getElem? (i := 8) rfl)) e1 (g := (mkF m 6 #[.val (.ref a1), .val (.ref a2)] [(.ref a1)])) rfl (by rw [hml]; rfl) rfl (hb hby own_d6_6) (by decide) (W := 0) (by show 2 * 0 + _ ≤ _; exact Nat.le_of_eq rfl) (by decide)
  refine OE.of st2 ?_
  show OE _ p e below s _ _ _ T2 (mkF m 9 #[.val (.ref a1), .val (.ref a2)] [])
  refine OE.ret0 X2 hx Bd.returns Bd.notSynchronized (hb hby own_d6_9) (by decide) (by decide) ?_
  rw [e2]
  have K3 : Keep h0 h1 [a1] := (Keep.wr (Keep.refl h0 [a1]) W1 (Or.inl (List.mem_of_getElem? (i := 0) rfl)))
  have f4 : Exa Z h1 a1 "com/example/corbel/corbel/ByteSlices$Reader" := (E_a1.wr W1)
  have f5 : Fld Z h1 a1 "com/example/corbel/corbel/ByteSlices$Reader" "address" "I" (.int (0 : Int32)) := (F_address_a1.other W1 (Or.inr (slot_ne (Or.inl (hw _ (List.mem_of_getElem? (i := 56) rfl))) (Or.inr (hw _ (List.mem_of_getElem? (i := 47) rfl))) (by decide) (t := .int) (t' := (.object "com/example/corbel/corbel/ByteSlices")) (by decide) (by decide))))
  have f6 : Fld Z h1 a1 "com/example/corbel/corbel/ByteSlices$Reader" "limit" "I" (.int (0 : Int32)) := (F_limit_a1.other W1 (Or.inr (slot_ne (Or.inl (hw _ (List.mem_of_getElem? (i := 58) rfl))) (Or.inr (hw _ (List.mem_of_getElem? (i := 47) rfl))) (by decide) (t := .int) (t' := (.object "com/example/corbel/corbel/ByteSlices")) (by decide) (by decide))))
  have f7 : Fld Z h1 a1 "com/example/corbel/corbel/ByteSlices$Reader" "level" "I" (.int (0 : Int32)) := (F_level_a1.other W1 (Or.inr (slot_ne (Or.inl (hw _ (List.mem_of_getElem? (i := 60) rfl))) (Or.inr (hw _ (List.mem_of_getElem? (i := 47) rfl))) (by decide) (t := .int) (t' := (.object "com/example/corbel/corbel/ByteSlices")) (by decide) (by decide))))
  have f8 : Fld Z h1 a1 "com/example/corbel/corbel/ByteSlices$Reader" "end" "I" (.int (0 : Int32)) := (F_end_a1.other W1 (Or.inr (slot_ne (Or.inl (hw _ (List.mem_of_getElem? (i := 62) rfl))) (Or.inr (hw _ (List.mem_of_getElem? (i := 47) rfl))) (by decide) (t := .int) (t' := (.object "com/example/corbel/corbel/ByteSlices")) (by decide) (by decide))))
  have f9 : Fld Z h1 a1 "com/example/corbel/corbel/ByteSlices$Reader" "block" "[B" .null := (F_block_a1.other W1 (Or.inr (slot_ne (Or.inl (hw _ (List.mem_of_getElem? (i := 65) rfl))) (Or.inr (hw _ (List.mem_of_getElem? (i := 47) rfl))) (by decide) (t := (.array .byte)) (t' := (.object "com/example/corbel/corbel/ByteSlices")) (by decide) (by decide))))
  exact ⟨rfl, N1, K3, f4, Fw1, f5, f6, f7, f8, f9⟩
theorem own_d7_0 : decode prog_25_method_3_code 0 = .ok (.aload_n 0, 1) := by decide +kernel
theorem own_d7_1 : decode prog_25_method_3_code 1 = .ok (.iload_n 1, 1) := by decide +kernel
theorem own_d7_2 : decode prog_25_method_3_code 2 = .ok (.putfield 23, 3) := by decide +kernel
theorem own_d7_5 : decode prog_25_method_3_code 5 = .ok (.aload_n 0, 1) := by decide +kernel
theorem own_d7_6 : decode prog_25_method_3_code 6 = .ok (.iload_n 2, 1) := by decide +kernel
theorem own_d7_7 : decode prog_25_method_3_code 7 = .ok (.putfield 27, 3) := by decide +kernel
theorem own_d7_10 : decode prog_25_method_3_code 10 = .ok (.aload_n 0, 1) := by decide +kernel
theorem own_d7_11 : decode prog_25_method_3_code 11 = .ok (.iload_n 3, 1) := by decide +kernel
theorem own_d7_12 : decode prog_25_method_3_code 12 = .ok (.putfield 30, 3) := by decide +kernel
theorem own_d7_15 : decode prog_25_method_3_code 15 = .ok (.aload_n 0, 1) := by decide +kernel
theorem own_d7_16 : decode prog_25_method_3_code 16 = .ok (.iload 4, 2) := by decide +kernel
theorem own_d7_18 : decode prog_25_method_3_code 18 = .ok (.putfield 33, 3) := by decide +kernel
theorem own_d7_21 : decode prog_25_method_3_code 21 = .ok (.aload_n 0, 1) := by decide +kernel
theorem own_d7_22 : decode prog_25_method_3_code 22 = .ok (.aload_n 0, 1) := by decide +kernel
theorem own_d7_23 : decode prog_25_method_3_code 23 = .ok (.getfield 3, 3) := by decide +kernel
theorem own_d7_26 : decode prog_25_method_3_code 26 = .ok (.getfield 36, 3) := by decide +kernel
theorem own_d7_29 : decode prog_25_method_3_code 29 = .ok (.iload_n 1, 1) := by decide +kernel
theorem own_d7_30 : decode prog_25_method_3_code 30 = .ok (.bipush 15, 2) := by decide +kernel
theorem own_d7_32 : decode prog_25_method_3_code 32 = .ok (.iushr, 1) := by decide +kernel
theorem own_d7_33 : decode prog_25_method_3_code 33 = .ok (.aaload, 1) := by decide +kernel
theorem own_d7_34 : decode prog_25_method_3_code 34 = .ok (.putfield 40, 3) := by decide +kernel
theorem own_d7_37 : decode prog_25_method_3_code 37 = .ok (.return_, 1) := by decide +kernel
def own_Q7_0 (Z : State) (a1 : Addr) (p2 : Int32) (p3 : Int32) (p4 : Int32) (p5 : Int32) (bs : Addr) (bl : Addr) (kb : ClassId) (n0_ : Addr) (n1_ : Addr) (h0 : Heap) (n0 : Nat) (v : Option Value) (h : Heap) (L : List Loc) : Prop := v = none ∧ Fr n0 L ∧ Keep h0 h [a1] ∧ Exa Z h a1 "com/example/corbel/corbel/ByteSlices$Reader" ∧ Fld Z h a1 "com/example/corbel/corbel/ByteSlices$Reader" "address" "I" (.int p2) ∧ Fld Z h a1 "com/example/corbel/corbel/ByteSlices$Reader" "limit" "I" (.int p3) ∧ Fld Z h a1 "com/example/corbel/corbel/ByteSlices$Reader" "level" "I" (.int p4) ∧ Fld Z h a1 "com/example/corbel/corbel/ByteSlices$Reader" "end" "I" (.int p5) ∧ Fld Z h a1 "com/example/corbel/corbel/ByteSlices$Reader" "block" "[B" (.ref n0_)
theorem own_ef_own_rm7_0 (m : MethodId) (a1 : Addr) (p2 : Int32) (p3 : Int32) (p4 : Int32) (p5 : Int32) : entryFrame m #[(.ref a1), (.int p2), (.int p3), (.int p4), (.int p5)] 5 = mkF m 0 #[.val (.ref a1), .val (.int p2), .val (.int p3), .val (.int p4), .val (.int p5)] [] := by first | (simp [entryFrame, mkF, argsToLocals, Value.category]; done) | rfl
set_option maxRecDepth 65536 in
set_option maxHeartbeats 40000000 in
theorem own_rm7_0 (l : Launch) (Z : State) (a0 : Array Value) (hw : ∀ d ∈ tables_1, d.before a0 Z = true) (ws : List Jvm.Cond) (a1 : Addr) (p2 : Int32) (p3 : Int32) (p4 : Int32) (p5 : Int32) (bs : Addr) (bl : Addr) (kb : ClassId) (n0_ : Addr) (n1_ : Addr) (h0 : Heap) (n0 : Nat) (Z0 : n0 ≤ h0.size) (E_a1 : Exa Z h0 a1 "com/example/corbel/corbel/ByteSlices$Reader") (F_this_0_a1 : Fld Z h0 a1 "com/example/corbel/corbel/ByteSlices$Reader" "this$0" "Lcom/example/corbel/corbel/ByteSlices;" (.ref bs)) (F_address_a1 : Fld Z h0 a1 "com/example/corbel/corbel/ByteSlices$Reader" "address" "I" (.int (0 : Int32))) (F_limit_a1 : Fld Z h0 a1 "com/example/corbel/corbel/ByteSlices$Reader" "limit" "I" (.int (0 : Int32))) (F_level_a1 : Fld Z h0 a1 "com/example/corbel/corbel/ByteSlices$Reader" "level" "I" (.int (0 : Int32))) (F_end_a1 : Fld Z h0 a1 "com/example/corbel/corbel/ByteSlices$Reader" "end" "I" (.int (0 : Int32))) (F_block_a1 : Fld Z h0 a1 "com/example/corbel/corbel/ByteSlices$Reader" "block" "[B" .null) (F_blocks_bs : Fld Z h0 bs "com/example/corbel/corbel/ByteSlices" "blocks" "[[B" (.ref bl)) (V_bl : Arv Z h0 bl kb (.array .byte) (16 : Int32) [(.ref n0_), (.ref n1_), .null, .null, .null, .null, .null, .null, .null, .null, .null, .null, .null, .null, .null, .null] .null) (g_a1 : n0 ≤ a1) (ne_bs_a1 : bs ≠ a1) (ne_bl_a1 : bl ≠ a1) (hix : ((p2.toUInt32 >>> ((15 : Int32) &&& 31).toUInt32).toInt32) = (0 : Int32)) :
    MetFree l (⟨"com/example/corbel/corbel/ByteSlices$Reader", "resume", "(IIII)V"⟩ : MethodName) (head1 (Jvm.Cond.code (⟨"com/example/corbel/corbel/ByteSlices$Reader", "resume", "(IIII)V"⟩ : MethodName) prog_25_method_3_code 5 none :: ws) ({ frames := 0, cells := 0, slots := 0, locals := 0 } : Room)) (fun a U => a = #[(.ref a1), (.int p2), (.int p3), (.int p4), (.int p5)] ∧ Z.Warmed39 U.vm ∧ U.heap = h0) (fun _ _ _ _ _ => True) (fun _ U o U' => ∃ v L, o = .returned v ∧ own_Q7_0 Z a1 p2 p3 p4 p5 bs bl kb n0_ n1_ h0 n0 v U'.heap L ∧ FrameEnd U o U' L ({ frames := 0, cells := 0, slots := 0, locals := 0 } : Room).cells ({ frames := 0, cells := 0, slots := 0, locals := 0 } : Room).slots) := by
  refine MetFree.of_bodySF (plainFor_of_name own_pn2) hisR ?_
  intro p e s m args below meth c s₁ Bd hml0 hP hK
  obtain ⟨rfl, hZ, hh⟩ := hP
  have hx := Bd.exec
  have hby := Bd.bytes
  have hml : c.maxLocals = 5 := hml0
  have hown : s.vm.findClass "com/example/corbel/corbel/ByteSlices$Reader" = some m.cls := findClass_of_methodNamed Bd.named
  have hnm := (name_of_methodNamed Bd.named Bd.method).1
  have X0 : Stand p l e ({ frames := 0, cells := 0, slots := 0, locals := 0 } : Room) s m #[(.ref a1), (.int p2), (.int p3), (.int p4), (.int p5)] below meth c s₁ [] 0 0 := Stand.of_body Bd
  have e0 : s₁.heap = h0 := by rw [← hh, Bd.state]; rfl
  have N0 := Fr.nil n0
  show OE FrameEnd p e below s (own_Q7_0 Z a1 p2 p3 p4 p5 bs bl kb n0_ n1_ h0 n0) ({ frames := 0, cells := 0, slots := 0, locals := 0 } : Room).cells ({ frames := 0, cells := 0, slots := 0, locals := 0 } : Room).slots s₁ (entryFrame m #[(.ref a1), (.int p2), (.int p3), (.int p4), (.int p5)] 5)
  rw [own_ef_own_rm7_0]
  show OE _ p e below s _ _ _ s₁ (mkF m 0 #[.val (.ref a1), .val (.int p2), .val (.int p3), .val (.int p4), .val (.int p5)] [])
  refine OE.aloadN X0 hx hby own_d7_0 rfl rfl ?_
  refine OE.iloadN X0 hx hby own_d7_1 rfl ?_
  obtain ⟨T1, h1, X1, e1, W1, st1⟩ := putF X0 hx hZ hown (host := "") (Or.inl (hw _ (List.mem_of_getElem? (i := 55) rfl))) Via.refl e0 F_address_a1 E_a1 (Or.inl (hw _ (List.mem_of_getElem? (i := 56) rfl))) (hw _ (List.mem_of_getElem? (i := 37) rfl)) (ty := .int) (by decide) rfl rfl (g := (mkF m 2 #[.val (.ref a1), .val (.int p2), .val (.int p3), .val (.int p4), .val (.int p5)] [(.int p2), (.ref a1)])) rfl rfl (hb hby own_d7_2)
  refine OE.of st1 ?_
  have N1 := Fr.snoc X1 N0 g_a1
  have Fw1 := F_address_a1.same W1
  show OE _ p e below s _ _ _ T1 (mkF m 5 #[.val (.ref a1), .val (.int p2), .val (.int p3), .val (.int p4), .val (.int p5)] [])
  refine OE.aloadN X1 hx hby own_d7_5 rfl rfl ?_
  refine OE.iloadN X1 hx hby own_d7_6 rfl ?_
  have f2 : Exa Z h1 a1 "com/example/corbel/corbel/ByteSlices$Reader" := (E_a1.wr W1)
  have f3 : Fld Z h1 a1 "com/example/corbel/corbel/ByteSlices$Reader" "limit" "I" (.int (0 : Int32)) := (F_limit_a1.other W1 (Or.inr (slot_ne (Or.inl (hw _ (List.mem_of_getElem? (i := 58) rfl))) (Or.inl (hw _ (List.mem_of_getElem? (i := 56) rfl))) (by decide) (t := .int) (t' := .int) (by decide) (by decide))))
  obtain ⟨T4, h4, X4, e4, W4, st4⟩ := putF X1 hx hZ hown (host := "") (Or.inl (hw _ (List.mem_of_getElem? (i := 57) rfl))) Via.refl e1 f3 f2 (Or.inl (hw _ (List.mem_of_getElem? (i := 58) rfl))) (hw _ (List.mem_of_getElem? (i := 37) rfl)) (ty := .int) (by decide) rfl rfl (g := (mkF m 7 #[.val (.ref a1), .val (.int p2), .val (.int p3), .val (.int p4), .val (.int p5)] [(.int p3), (.ref a1)])) rfl rfl (hb hby own_d7_7)
  refine OE.of st4 ?_
  have N4 := Fr.snoc X4 N1 g_a1
  have Fw4 := f3.same W4
  show OE _ p e below s _ _ _ T4 (mkF m 10 #[.val (.ref a1), .val (.int p2), .val (.int p3), .val (.int p4), .val (.int p5)] [])
  refine OE.aloadN X4 hx hby own_d7_10 rfl rfl ?_
  refine OE.iloadN X4 hx hby own_d7_11 rfl ?_
  have f5 : Exa Z h4 a1 "com/example/corbel/corbel/ByteSlices$Reader" := (f2.wr W4)
  have f6 : Fld Z h4 a1 "com/example/corbel/corbel/ByteSlices$Reader" "level" "I" (.int (0 : Int32)) := ((F_level_a1.other W1 (Or.inr (slot_ne (Or.inl (hw _ (List.mem_of_getElem? (i := 60) rfl))) (Or.inl (hw _ (List.mem_of_getElem? (i := 56) rfl))) (by decide) (t := .int) (t' := .int) (by decide) (by decide)))).other W4 (Or.inr (slot_ne (Or.inl (hw _ (List.mem_of_getElem? (i := 60) rfl))) (Or.inl (hw _ (List.mem_of_getElem? (i := 58) rfl))) (by decide) (t := .int) (t' := .int) (by decide) (by decide))))
  obtain ⟨T7, h7, X7, e7, W7, st7⟩ := putF X4 hx hZ hown (host := "") (Or.inl (hw _ (List.mem_of_getElem? (i := 59) rfl))) Via.refl e4 f6 f5 (Or.inl (hw _ (List.mem_of_getElem? (i := 60) rfl))) (hw _ (List.mem_of_getElem? (i := 37) rfl)) (ty := .int) (by decide) rfl rfl (g := (mkF m 12 #[.val (.ref a1), .val (.int p2), .val (.int p3), .val (.int p4), .val (.int p5)] [(.int p4), (.ref a1)])) rfl rfl (hb hby own_d7_12)
  refine OE.of st7 ?_
  have N7 := Fr.snoc X7 N4 g_a1
  have Fw7 := f6.same W7
  show OE _ p e below s _ _ _ T7 (mkF m 15 #[.val (.ref a1), .val (.int p2), .val (.int p3), .val (.int p4), .val (.int p5)] [])
  refine OE.aloadN X7 hx hby own_d7_15 rfl rfl ?_
  refine OE.iload X7 hx hby own_d7_16 rfl ?_
  have f8 : Exa Z h7 a1 "com/example/corbel/corbel/ByteSlices$Reader" := (f5.wr W7)
  have f9 : Fld Z h7 a1 "com/example/corbel/corbel/ByteSlices$Reader" "end" "I" (.int (0 : Int32)) := (((F_end_a1.other W1 (Or.inr (slot_ne (Or.inl (hw _ (List.mem_of_getElem? (i := 62) rfl))) (Or.inl (hw _ (List.mem_of_getElem? (i := 56) rfl))) (by decide) (t := .int) (t' := .int) (by decide) (by decide)))).other W4 (Or.inr (slot_ne (Or.inl (hw _ (List.mem_of_getElem? (i := 62) rfl))) (Or.inl (hw _ (List.mem_of_getElem? (i := 58) rfl))) (by decide) (t := .int) (t' := .int) (by decide) (by decide)))).other W7 (Or.inr (slot_ne (Or.inl (hw _ (List.mem_of_getElem? (i := 62) rfl))) (Or.inl (hw _ (List.mem_of_getElem? (i := 60) rfl))) (by decide) (t := .int) (t' := .int) (by decide) (by decide))))
  obtain ⟨T10, h10, X10, e10, W10, st10⟩ := putF X7 hx hZ hown (host := "") (Or.inl (hw _ (List.mem_of_getElem? (i := 61) rfl))) Via.refl e7 f9 f8 (Or.inl (hw _ (List.mem_of_getElem? (i := 62) rfl))) (hw _ (List.mem_of_getElem? (i := 37) rfl)) (ty := .int) (by decide) rfl rfl (g := (mkF m 18 #[.val (.ref a1), .val (.int p2), .val (.int p3), .val (.int p4), .val (.int p5)] [(.int p5), (.ref a1)])) rfl rfl (hb hby own_d7_18)
  refine OE.of st10 ?_
  have N10 := Fr.snoc X10 N7 g_a1
  have Fw10 := f9.same W10
  show OE _ p e below s _ _ _ T10 (mkF m 21 #[.val (.ref a1), .val (.int p2), .val (.int p3), .val (.int p4), .val (.int p5)] [])
  refine OE.aloadN X10 hx hby own_d7_21 rfl rfl ?_
  refine OE.aloadN X10 hx hby own_d7_22 rfl rfl ?_
  have f11 : Fld Z h10 a1 "com/example/corbel/corbel/ByteSlices$Reader" "this$0" "Lcom/example/corbel/corbel/ByteSlices;" (.ref bs) := ((((F_this_0_a1.other W1 (Or.inr (slot_ne (Or.inr (hw _ (List.mem_of_getElem? (i := 47) rfl))) (Or.inl (hw _ (List.mem_of_getElem? (i := 56) rfl))) (by decide) (t := (.object "com/example/corbel/corbel/ByteSlices")) (t' := .int) (by decide) (by decide)))).other W4 (Or.inr (slot_ne (Or.inr (hw _ (List.mem_of_getElem? (i := 47) rfl))) (Or.inl (hw _ (List.mem_of_getElem? (i := 58) rfl))) (by decide) (t := (.object "com/example/corbel/corbel/ByteSlices")) (t' := .int) (by decide) (by decide)))).other W7 (Or.inr (slot_ne (Or.inr (hw _ (List.mem_of_getElem? (i := 47) rfl))) (Or.inl (hw _ (List.mem_of_getElem? (i := 60) rfl))) (by decide) (t := (.object "com/example/corbel/corbel/ByteSlices")) (t' := .int) (by decide) (by decide)))).other W10 (Or.inr (slot_ne (Or.inr (hw _ (List.mem_of_getElem? (i := 47) rfl))) (Or.inl (hw _ (List.mem_of_getElem? (i := 62) rfl))) (by decide) (t := (.object "com/example/corbel/corbel/ByteSlices")) (t' := .int) (by decide) (by decide))))
  obtain ⟨T12, X12, e12, st12⟩ := getF X10 hx hZ hown (host := "") (Or.inl (hw _ (List.mem_of_getElem? (i := 46) rfl))) Via.refl e10 f11 (g := (mkF m 23 #[.val (.ref a1), .val (.int p2), .val (.int p3), .val (.int p4), .val (.int p5)] [(.ref a1), (.ref a1)])) rfl rfl (hb hby own_d7_23)
  refine OE.of st12 ?_
  show OE _ p e below s _ _ _ T12 (mkF m 26 #[.val (.ref a1), .val (.int p2), .val (.int p3), .val (.int p4), .val (.int p5)] [(.ref bs), (.ref a1)])
  have f13 : Fld Z h10 bs "com/example/corbel/corbel/ByteSlices" "blocks" "[[B" (.ref bl) := ((((F_blocks_bs.other W1 (Or.inl ne_bs_a1)).other W4 (Or.inl ne_bs_a1)).other W7 (Or.inl ne_bs_a1)).other W10 (Or.inl ne_bs_a1))
  obtain ⟨T14, X14, e14, st14⟩ := getF X12 hx hZ hown (Or.inr (hw _ (List.mem_of_getElem? (i := 63) rfl))) Via.refl e12 f13 (g := (mkF m 26 #[.val (.ref a1), .val (.int p2), .val (.int p3), .val (.int p4), .val (.int p5)] [(.ref bs), (.ref a1)])) rfl rfl (hb hby own_d7_26)
  refine OE.of st14 ?_
  show OE _ p e below s _ _ _ T14 (mkF m 29 #[.val (.ref a1), .val (.int p2), .val (.int p3), .val (.int p4), .val (.int p5)] [(.ref bl), (.ref a1)])
  refine OE.iloadN X14 hx hby own_d7_29 rfl ?_
  refine OE.bipush X14 hx hby own_d7_30 (15 : Int32) rfl ?_
  refine OE.iushr X14 hx hby own_d7_32 ?_
  rw [(hix : ((p2.toUInt32 >>> ((15 : Int32) &&& 31).toUInt32).toInt32) = (0 : Int32))]
  show OE _ p e below s _ _ _ T14 (mkF m 33 #[.val (.ref a1), .val (.int p2), .val (.int p3), .val (.int p4), .val (.int p5)] [(.int (0 : Int32)), (.ref bl), (.ref a1)])
  have f15 : Arv Z h10 bl kb (.array .byte) (16 : Int32) [(.ref n0_), (.ref n1_), .null, .null, .null, .null, .null, .null, .null, .null, .null, .null, .null, .null, .null, .null] .null := ((((V_bl.other W1 ne_bl_a1).other W4 ne_bl_a1).other W7 ne_bl_a1).other W10 ne_bl_a1)
  have Vo16 := f15
  obtain ⟨cl16, Ar16, -, Sz16, Nz16, Hz16, Gz16⟩ := Vo16
  have hin16 : ¬ ((0 : Int32) < 0 ∨ cl16.slots.size ≤ ((0 : Int32)).toNatClampNeg) := inb_of Sz16 ⟨by decide, by decide⟩
  have hat16 : cl16.slots[((0 : Int32)).toNatClampNeg]? = some (.ref n0_) := Has.at Hz16 hin16 rfl
  refine OE.of (X14.aaload hx (j := (0 : Int32)) (v := (.ref n0_)) (by rw [e14]; exact Ar16.1) (State.isArrayOf_alike hZ.alike Ar16.2.1) rfl Ar16.2.2 hin16 hat16 (g := (mkF m 33 #[.val (.ref a1), .val (.int p2), .val (.int p3), .val (.int p4), .val (.int p5)] [(.int (0 : Int32)), (.ref bl), (.ref a1)])) rfl rfl (hb hby own_d7_33)) ?_
  show OE _ p e below s _ _ _ T14 (mkF m 34 #[.val (.ref a1), .val (.int p2), .val (.int p3), .val (.int p4), .val (.int p5)] [(.ref n0_), (.ref a1)])
  have f17 : Exa Z h10 a1 "com/example/corbel/corbel/ByteSlices$Reader" := (f8.wr W10)
  have f18 : Fld Z h10 a1 "com/example/corbel/corbel/ByteSlices$Reader" "block" "[B" .null := ((((F_block_a1.other W1 (Or.inr (slot_ne (Or.inl (hw _ (List.mem_of_getElem? (i := 65) rfl))) (Or.inl (hw _ (List.mem_of_getElem? (i := 56) rfl))) (by decide) (t := (.array .byte)) (t' := .int) (by decide) (by decide)))).other W4 (Or.inr (slot_ne (Or.inl (hw _ (List.mem_of_getElem? (i := 65) rfl))) (Or.inl (hw _ (List.mem_of_getElem? (i := 58) rfl))) (by decide) (t := (.array .byte)) (t' := .int) (by decide) (by decide)))).other W7 (Or.inr (slot_ne (Or.inl (hw _ (List.mem_of_getElem? (i := 65) rfl))) (Or.inl (hw _ (List.mem_of_getElem? (i := 60) rfl))) (by decide) (t := (.array .byte)) (t' := .int) (by decide) (by decide)))).other W10 (Or.inr (slot_ne (Or.inl (hw _ (List.mem_of_getElem? (i := 65) rfl))) (Or.inl (hw _ (List.mem_of_getElem? (i := 62) rfl))) (by decide) (t := (.array .byte)) (t' := .int) (by decide) (by decide))))
  obtain ⟨T19, h19, X19, e19, W19, st19⟩ := putF X14 hx hZ hown (host := "") (Or.inl (hw _ (List.mem_of_getElem? (i := 64) rfl))) Via.refl e14 f18 f17 (Or.inl (hw _ (List.mem_of_getElem? (i := 65) rfl))) (hw _ (List.mem_of_getElem? (i := 37) rfl)) (ty := (.array .byte)) (by decide) rfl rfl (g := (mkF m 34 #[.val (.ref a1), .val (.int p2), .val (.int p3), .val (.int p4), .val (.int p5)] [(.ref n0_), (.ref a1)])) rfl rfl (hb hby own_d7_34)
  refine OE.of st19 ?_
  have N19 := Fr.snoc X19 N10 g_a1
  have Fw19 := f18.same W19
  show OE _ p e below s _ _ _ T19 (mkF m 37 #[.val (.ref a1), .val (.int p2), .val (.int p3), .val (.int p4), .val (.int p5)] [])
  refine OE.ret0 X19 hx Bd.returns Bd.notSynchronized (hb hby own_d7_37) (by decide) (by decide) ?_
  rw [e19]
  have K20 : Keep h0 h19 [a1] := (Keep.wr (Keep.wr (Keep.wr (Keep.wr (Keep.wr (Keep.refl h0 [a1]) W1 (Or.inl (List.mem_of_getElem? (i := 0) rfl))) W4 (Or.inl (List.mem_of_getElem? (i := 0) rfl))) W7 (Or.inl (List.mem_of_getElem? (i := 0) rfl))) W10 (Or.inl (List.mem_of_getElem? (i := 0) rfl))) W19 (Or.inl (List.mem_of_getElem? (i := 0) rfl)))
  have f21 : Exa Z h19 a1 "com/example/corbel/corbel/ByteSlices$Reader" := (f17.wr W19)
  have f22 : Fld Z h19 a1 "com/example/corbel/corbel/ByteSlices$Reader" "address" "I" (.int p2) := ((((Fw1.other W4 (Or.inr (slot_ne (Or.inl (hw _ (List.mem_of_getElem? (i := 56) rfl))) (Or.inl (hw _ (List.mem_of_getElem? (i := 58) rfl))) (by decide) (t := .int) (t' := .int) (by decide) (by decide)))).other W7 (Or.inr (slot_ne (Or.inl (hw _ (List.mem_of_getElem? (i := 56) rfl))) (Or.inl (hw _ (List.mem_of_getElem? (i := 60) rfl))) (by decide) (t := .int) (t' := .int) (by decide) (by decide)))).other W10 (Or.inr (slot_ne (Or.inl (hw _ (List.mem_of_getElem? (i := 56) rfl))) (Or.inl (hw _ (List.mem_of_getElem? (i := 62) rfl))) (by decide) (t := .int) (t' := .int) (by decide) (by decide)))).other W19 (Or.inr (slot_ne (Or.inl (hw _ (List.mem_of_getElem? (i := 56) rfl))) (Or.inl (hw _ (List.mem_of_getElem? (i := 65) rfl))) (by decide) (t := .int) (t' := (.array .byte)) (by decide) (by decide))))
  have f23 : Fld Z h19 a1 "com/example/corbel/corbel/ByteSlices$Reader" "limit" "I" (.int p3) := (((Fw4.other W7 (Or.inr (slot_ne (Or.inl (hw _ (List.mem_of_getElem? (i := 58) rfl))) (Or.inl (hw _ (List.mem_of_getElem? (i := 60) rfl))) (by decide) (t := .int) (t' := .int) (by decide) (by decide)))).other W10 (Or.inr (slot_ne (Or.inl (hw _ (List.mem_of_getElem? (i := 58) rfl))) (Or.inl (hw _ (List.mem_of_getElem? (i := 62) rfl))) (by decide) (t := .int) (t' := .int) (by decide) (by decide)))).other W19 (Or.inr (slot_ne (Or.inl (hw _ (List.mem_of_getElem? (i := 58) rfl))) (Or.inl (hw _ (List.mem_of_getElem? (i := 65) rfl))) (by decide) (t := .int) (t' := (.array .byte)) (by decide) (by decide))))
  have f24 : Fld Z h19 a1 "com/example/corbel/corbel/ByteSlices$Reader" "level" "I" (.int p4) := ((Fw7.other W10 (Or.inr (slot_ne (Or.inl (hw _ (List.mem_of_getElem? (i := 60) rfl))) (Or.inl (hw _ (List.mem_of_getElem? (i := 62) rfl))) (by decide) (t := .int) (t' := .int) (by decide) (by decide)))).other W19 (Or.inr (slot_ne (Or.inl (hw _ (List.mem_of_getElem? (i := 60) rfl))) (Or.inl (hw _ (List.mem_of_getElem? (i := 65) rfl))) (by decide) (t := .int) (t' := (.array .byte)) (by decide) (by decide))))
  have f25 : Fld Z h19 a1 "com/example/corbel/corbel/ByteSlices$Reader" "end" "I" (.int p5) := (Fw10.other W19 (Or.inr (slot_ne (Or.inl (hw _ (List.mem_of_getElem? (i := 62) rfl))) (Or.inl (hw _ (List.mem_of_getElem? (i := 65) rfl))) (by decide) (t := .int) (t' := (.array .byte)) (by decide) (by decide))))
  exact ⟨rfl, N19, K20, f21, f22, f23, f24, f25, Fw19⟩
def own_Q7_1 (Z : State) (a1 : Addr) (p2 : Int32) (p3 : Int32) (p4 : Int32) (p5 : Int32) (bs : Addr) (bl : Addr) (kb : ClassId) (n0_ : Addr) (n1_ : Addr) (h0 : Heap) (n0 : Nat) (v : Option Value) (h : Heap) (L : List Loc) : Prop := v = none ∧ Fr n0 L ∧ Keep h0 h [a1] ∧ Exa Z h a1 "com/example/corbel/corbel/ByteSlices$Reader" ∧ Fld Z h a1 "com/example/corbel/corbel/ByteSlices$Reader" "address" "I" (.int p2) ∧ Fld Z h a1 "com/example/corbel/corbel/ByteSlices$Reader" "limit" "I" (.int p3) ∧ Fld Z h a1 "com/example/corbel/corbel/ByteSlices$Reader" "level" "I" (.int p4) ∧ Fld Z h a1 "com/example/corbel/corbel/ByteSlices$Reader" "end" "I" (.int p5) ∧ Fld Z h a1 "com/example/corbel/corbel/ByteSlices$Reader" "block" "[B" (.ref n1_)
theorem own_ef_own_rm7_1 (m : MethodId) (a1 : Addr) (p2 : Int32) (p3 : Int32) (p4 : Int32) (p5 : Int32) : entryFrame m #[(.ref a1), (.int p2), (.int p3), (.int p4), (.int p5)] 5 = mkF m 0 #[.val (.ref a1), .val (.int p2), .val (.int p3), .val (.int p4), .val (.int p5)] [] := by first | (simp [entryFrame, mkF, argsToLocals, Value.category]; done) | rfl
set_option maxRecDepth 65536 in
set_option maxHeartbeats 40000000 in
theorem own_rm7_1 (l : Launch) (Z : State) (a0 : Array Value) (hw : ∀ d ∈ tables_1, d.before a0 Z = true) (ws : List Jvm.Cond) (a1 : Addr) (p2 : Int32) (p3 : Int32) (p4 : Int32) (p5 : Int32) (bs : Addr) (bl : Addr) (kb : ClassId) (n0_ : Addr) (n1_ : Addr) (h0 : Heap) (n0 : Nat) (Z0 : n0 ≤ h0.size) (E_a1 : Exa Z h0 a1 "com/example/corbel/corbel/ByteSlices$Reader") (F_this_0_a1 : Fld Z h0 a1 "com/example/corbel/corbel/ByteSlices$Reader" "this$0" "Lcom/example/corbel/corbel/ByteSlices;" (.ref bs)) (F_address_a1 : Fld Z h0 a1 "com/example/corbel/corbel/ByteSlices$Reader" "address" "I" (.int (0 : Int32))) (F_limit_a1 : Fld Z h0 a1 "com/example/corbel/corbel/ByteSlices$Reader" "limit" "I" (.int (0 : Int32))) (F_level_a1 : Fld Z h0 a1 "com/example/corbel/corbel/ByteSlices$Reader" "level" "I" (.int (0 : Int32))) (F_end_a1 : Fld Z h0 a1 "com/example/corbel/corbel/ByteSlices$Reader" "end" "I" (.int (0 : Int32))) (F_block_a1 : Fld Z h0 a1 "com/example/corbel/corbel/ByteSlices$Reader" "block" "[B" .null) (F_blocks_bs : Fld Z h0 bs "com/example/corbel/corbel/ByteSlices" "blocks" "[[B" (.ref bl)) (V_bl : Arv Z h0 bl kb (.array .byte) (16 : Int32) [(.ref n0_), (.ref n1_), .null, .null, .null, .null, .null, .null, .null, .null, .null, .null, .null, .null, .null, .null] .null) (g_a1 : n0 ≤ a1) (ne_bs_a1 : bs ≠ a1) (ne_bl_a1 : bl ≠ a1) (hix : ((p2.toUInt32 >>> ((15 : Int32) &&& 31).toUInt32).toInt32) = (1 : Int32)) :
    MetFree l (⟨"com/example/corbel/corbel/ByteSlices$Reader", "resume", "(IIII)V"⟩ : MethodName) (head1 (Jvm.Cond.code (⟨"com/example/corbel/corbel/ByteSlices$Reader", "resume", "(IIII)V"⟩ : MethodName) prog_25_method_3_code 5 none :: ws) ({ frames := 0, cells := 0, slots := 0, locals := 0 } : Room)) (fun a U => a = #[(.ref a1), (.int p2), (.int p3), (.int p4), (.int p5)] ∧ Z.Warmed39 U.vm ∧ U.heap = h0) (fun _ _ _ _ _ => True) (fun _ U o U' => ∃ v L, o = .returned v ∧ own_Q7_1 Z a1 p2 p3 p4 p5 bs bl kb n0_ n1_ h0 n0 v U'.heap L ∧ FrameEnd U o U' L ({ frames := 0, cells := 0, slots := 0, locals := 0 } : Room).cells ({ frames := 0, cells := 0, slots := 0, locals := 0 } : Room).slots) := by
  refine MetFree.of_bodySF (plainFor_of_name own_pn2) hisR ?_
  intro p e s m args below meth c s₁ Bd hml0 hP hK
  obtain ⟨rfl, hZ, hh⟩ := hP
  have hx := Bd.exec
  have hby := Bd.bytes
  have hml : c.maxLocals = 5 := hml0
  have hown : s.vm.findClass "com/example/corbel/corbel/ByteSlices$Reader" = some m.cls := findClass_of_methodNamed Bd.named
  have hnm := (name_of_methodNamed Bd.named Bd.method).1
  have X0 : Stand p l e ({ frames := 0, cells := 0, slots := 0, locals := 0 } : Room) s m #[(.ref a1), (.int p2), (.int p3), (.int p4), (.int p5)] below meth c s₁ [] 0 0 := Stand.of_body Bd
  have e0 : s₁.heap = h0 := by rw [← hh, Bd.state]; rfl
  have N0 := Fr.nil n0
  show OE FrameEnd p e below s (own_Q7_1 Z a1 p2 p3 p4 p5 bs bl kb n0_ n1_ h0 n0) ({ frames := 0, cells := 0, slots := 0, locals := 0 } : Room).cells ({ frames := 0, cells := 0, slots := 0, locals := 0 } : Room).slots s₁ (entryFrame m #[(.ref a1), (.int p2), (.int p3), (.int p4), (.int p5)] 5)
  rw [own_ef_own_rm7_1]
  show OE _ p e below s _ _ _ s₁ (mkF m 0 #[.val (.ref a1), .val (.int p2), .val (.int p3), .val (.int p4), .val (.int p5)] [])
  refine OE.aloadN X0 hx hby own_d7_0 rfl rfl ?_
  refine OE.iloadN X0 hx hby own_d7_1 rfl ?_
  obtain ⟨T1, h1, X1, e1, W1, st1⟩ := putF X0 hx hZ hown (host := "") (Or.inl (hw _ (List.mem_of_getElem? (i := 55) rfl))) Via.refl e0 F_address_a1 E_a1 (Or.inl (hw _ (List.mem_of_getElem? (i := 56) rfl))) (hw _ (List.mem_of_getElem? (i := 37) rfl)) (ty := .int) (by decide) rfl rfl (g := (mkF m 2 #[.val (.ref a1), .val (.int p2), .val (.int p3), .val (.int p4), .val (.int p5)] [(.int p2), (.ref a1)])) rfl rfl (hb hby own_d7_2)
  refine OE.of st1 ?_
  have N1 := Fr.snoc X1 N0 g_a1
  have Fw1 := F_address_a1.same W1
  show OE _ p e below s _ _ _ T1 (mkF m 5 #[.val (.ref a1), .val (.int p2), .val (.int p3), .val (.int p4), .val (.int p5)] [])
  refine OE.aloadN X1 hx hby own_d7_5 rfl rfl ?_
  refine OE.iloadN X1 hx hby own_d7_6 rfl ?_
  have f2 : Exa Z h1 a1 "com/example/corbel/corbel/ByteSlices$Reader" := (E_a1.wr W1)
  have f3 : Fld Z h1 a1 "com/example/corbel/corbel/ByteSlices$Reader" "limit" "I" (.int (0 : Int32)) := (F_limit_a1.other W1 (Or.inr (slot_ne (Or.inl (hw _ (List.mem_of_getElem? (i := 58) rfl))) (Or.inl (hw _ (List.mem_of_getElem? (i := 56) rfl))) (by decide) (t := .int) (t' := .int) (by decide) (by decide))))
  obtain ⟨T4, h4, X4, e4, W4, st4⟩ := putF X1 hx hZ hown (host := "") (Or.inl (hw _ (List.mem_of_getElem? (i := 57) rfl))) Via.refl e1 f3 f2 (Or.inl (hw _ (List.mem_of_getElem? (i := 58) rfl))) (hw _ (List.mem_of_getElem? (i := 37) rfl)) (ty := .int) (by decide) rfl rfl (g := (mkF m 7 #[.val (.ref a1), .val (.int p2), .val (.int p3), .val (.int p4), .val (.int p5)] [(.int p3), (.ref a1)])) rfl rfl (hb hby own_d7_7)
  refine OE.of st4 ?_
  have N4 := Fr.snoc X4 N1 g_a1
  have Fw4 := f3.same W4
  show OE _ p e below s _ _ _ T4 (mkF m 10 #[.val (.ref a1), .val (.int p2), .val (.int p3), .val (.int p4), .val (.int p5)] [])
  refine OE.aloadN X4 hx hby own_d7_10 rfl rfl ?_
  refine OE.iloadN X4 hx hby own_d7_11 rfl ?_
  have f5 : Exa Z h4 a1 "com/example/corbel/corbel/ByteSlices$Reader" := (f2.wr W4)
  have f6 : Fld Z h4 a1 "com/example/corbel/corbel/ByteSlices$Reader" "level" "I" (.int (0 : Int32)) := ((F_level_a1.other W1 (Or.inr (slot_ne (Or.inl (hw _ (List.mem_of_getElem? (i := 60) rfl))) (Or.inl (hw _ (List.mem_of_getElem? (i := 56) rfl))) (by decide) (t := .int) (t' := .int) (by decide) (by decide)))).other W4 (Or.inr (slot_ne (Or.inl (hw _ (List.mem_of_getElem? (i := 60) rfl))) (Or.inl (hw _ (List.mem_of_getElem? (i := 58) rfl))) (by decide) (t := .int) (t' := .int) (by decide) (by decide))))
  obtain ⟨T7, h7, X7, e7, W7, st7⟩ := putF X4 hx hZ hown (host := "") (Or.inl (hw _ (List.mem_of_getElem? (i := 59) rfl))) Via.refl e4 f6 f5 (Or.inl (hw _ (List.mem_of_getElem? (i := 60) rfl))) (hw _ (List.mem_of_getElem? (i := 37) rfl)) (ty := .int) (by decide) rfl rfl (g := (mkF m 12 #[.val (.ref a1), .val (.int p2), .val (.int p3), .val (.int p4), .val (.int p5)] [(.int p4), (.ref a1)])) rfl rfl (hb hby own_d7_12)
  refine OE.of st7 ?_
  have N7 := Fr.snoc X7 N4 g_a1
  have Fw7 := f6.same W7
  show OE _ p e below s _ _ _ T7 (mkF m 15 #[.val (.ref a1), .val (.int p2), .val (.int p3), .val (.int p4), .val (.int p5)] [])
  refine OE.aloadN X7 hx hby own_d7_15 rfl rfl ?_
  refine OE.iload X7 hx hby own_d7_16 rfl ?_
  have f8 : Exa Z h7 a1 "com/example/corbel/corbel/ByteSlices$Reader" := (f5.wr W7)
  have f9 : Fld Z h7 a1 "com/example/corbel/corbel/ByteSlices$Reader" "end" "I" (.int (0 : Int32)) := (((F_end_a1.other W1 (Or.inr (slot_ne (Or.inl (hw _ (List.mem_of_getElem? (i := 62) rfl))) (Or.inl (hw _ (List.mem_of_getElem? (i := 56) rfl))) (by decide) (t := .int) (t' := .int) (by decide) (by decide)))).other W4 (Or.inr (slot_ne (Or.inl (hw _ (List.mem_of_getElem? (i := 62) rfl))) (Or.inl (hw _ (List.mem_of_getElem? (i := 58) rfl))) (by decide) (t := .int) (t' := .int) (by decide) (by decide)))).other W7 (Or.inr (slot_ne (Or.inl (hw _ (List.mem_of_getElem? (i := 62) rfl))) (Or.inl (hw _ (List.mem_of_getElem? (i := 60) rfl))) (by decide) (t := .int) (t' := .int) (by decide) (by decide))))
  obtain ⟨T10, h10, X10, e10, W10, st10⟩ := putF X7 hx hZ hown (host := "") (Or.inl (hw _ (List.mem_of_getElem? (i := 61) rfl))) Via.refl e7 f9 f8 (Or.inl (hw _ (List.mem_of_getElem? (i := 62) rfl))) (hw _ (List.mem_of_getElem? (i := 37) rfl)) (ty := .int) (by decide) rfl rfl (g := (mkF m 18 #[.val (.ref a1), .val (.int p2), .val (.int p3), .val (.int p4), .val (.int p5)] [(.int p5), (.ref a1)])) rfl rfl (hb hby own_d7_18)
  refine OE.of st10 ?_
  have N10 := Fr.snoc X10 N7 g_a1
  have Fw10 := f9.same W10
  show OE _ p e below s _ _ _ T10 (mkF m 21 #[.val (.ref a1), .val (.int p2), .val (.int p3), .val (.int p4), .val (.int p5)] [])
  refine OE.aloadN X10 hx hby own_d7_21 rfl rfl ?_
  refine OE.aloadN X10 hx hby own_d7_22 rfl rfl ?_
  have f11 : Fld Z h10 a1 "com/example/corbel/corbel/ByteSlices$Reader" "this$0" "Lcom/example/corbel/corbel/ByteSlices;" (.ref bs) := ((((F_this_0_a1.other W1 (Or.inr (slot_ne (Or.inr (hw _ (List.mem_of_getElem? (i := 47) rfl))) (Or.inl (hw _ (List.mem_of_getElem? (i := 56) rfl))) (by decide) (t := (.object "com/example/corbel/corbel/ByteSlices")) (t' := .int) (by decide) (by decide)))).other W4 (Or.inr (slot_ne (Or.inr (hw _ (List.mem_of_getElem? (i := 47) rfl))) (Or.inl (hw _ (List.mem_of_getElem? (i := 58) rfl))) (by decide) (t := (.object "com/example/corbel/corbel/ByteSlices")) (t' := .int) (by decide) (by decide)))).other W7 (Or.inr (slot_ne (Or.inr (hw _ (List.mem_of_getElem? (i := 47) rfl))) (Or.inl (hw _ (List.mem_of_getElem? (i := 60) rfl))) (by decide) (t := (.object "com/example/corbel/corbel/ByteSlices")) (t' := .int) (by decide) (by decide)))).other W10 (Or.inr (slot_ne (Or.inr (hw _ (List.mem_of_getElem? (i := 47) rfl))) (Or.inl (hw _ (List.mem_of_getElem? (i := 62) rfl))) (by decide) (t := (.object "com/example/corbel/corbel/ByteSlices")) (t' := .int) (by decide) (by decide))))
  obtain ⟨T12, X12, e12, st12⟩ := getF X10 hx hZ hown (host := "") (Or.inl (hw _ (List.mem_of_getElem? (i := 46) rfl))) Via.refl e10 f11 (g := (mkF m 23 #[.val (.ref a1), .val (.int p2), .val (.int p3), .val (.int p4), .val (.int p5)] [(.ref a1), (.ref a1)])) rfl rfl (hb hby own_d7_23)
  refine OE.of st12 ?_
  show OE _ p e below s _ _ _ T12 (mkF m 26 #[.val (.ref a1), .val (.int p2), .val (.int p3), .val (.int p4), .val (.int p5)] [(.ref bs), (.ref a1)])
  have f13 : Fld Z h10 bs "com/example/corbel/corbel/ByteSlices" "blocks" "[[B" (.ref bl) := ((((F_blocks_bs.other W1 (Or.inl ne_bs_a1)).other W4 (Or.inl ne_bs_a1)).other W7 (Or.inl ne_bs_a1)).other W10 (Or.inl ne_bs_a1))
  obtain ⟨T14, X14, e14, st14⟩ := getF X12 hx hZ hown (Or.inr (hw _ (List.mem_of_getElem? (i := 63) rfl))) Via.refl e12 f13 (g := (mkF m 26 #[.val (.ref a1), .val (.int p2), .val (.int p3), .val (.int p4), .val (.int p5)] [(.ref bs), (.ref a1)])) rfl rfl (hb hby own_d7_26)
  refine OE.of st14 ?_
  show OE _ p e below s _ _ _ T14 (mkF m 29 #[.val (.ref a1), .val (.int p2), .val (.int p3), .val (.int p4), .val (.int p5)] [(.ref bl), (.ref a1)])
  refine OE.iloadN X14 hx hby own_d7_29 rfl ?_
  refine OE.bipush X14 hx hby own_d7_30 (15 : Int32) rfl ?_
  refine OE.iushr X14 hx hby own_d7_32 ?_
  rw [(hix : ((p2.toUInt32 >>> ((15 : Int32) &&& 31).toUInt32).toInt32) = (1 : Int32))]
  show OE _ p e below s _ _ _ T14 (mkF m 33 #[.val (.ref a1), .val (.int p2), .val (.int p3), .val (.int p4), .val (.int p5)] [(.int (1 : Int32)), (.ref bl), (.ref a1)])
  have f15 : Arv Z h10 bl kb (.array .byte) (16 : Int32) [(.ref n0_), (.ref n1_), .null, .null, .null, .null, .null, .null, .null, .null, .null, .null, .null, .null, .null, .null] .null := ((((V_bl.other W1 ne_bl_a1).other W4 ne_bl_a1).other W7 ne_bl_a1).other W10 ne_bl_a1)
  have Vo16 := f15
  obtain ⟨cl16, Ar16, -, Sz16, Nz16, Hz16, Gz16⟩ := Vo16
  have hin16 : ¬ ((1 : Int32) < 0 ∨ cl16.slots.size ≤ ((1 : Int32)).toNatClampNeg) := inb_of Sz16 ⟨by decide, by decide⟩
  have hat16 : cl16.slots[((1 : Int32)).toNatClampNeg]? = some (.ref n1_) := Has.at Hz16 hin16 rfl
  refine OE.of (X14.aaload hx (j := (1 : Int32)) (v := (.ref n1_)) (by rw [e14]; exact Ar16.1) (State.isArrayOf_alike hZ.alike Ar16.2.1) rfl Ar16.2.2 hin16 hat16 (g := (mkF m 33 #[.val (.ref a1), .val (.int p2), .val (.int p3), .val (.int p4), .val (.int p5)] [(.int (1 : Int32)), (.ref bl), (.ref a1)])) rfl rfl (hb hby own_d7_33)) ?_
  show OE _ p e below s _ _ _ T14 (mkF m 34 #[.val (.ref a1), .val (.int p2), .val (.int p3), .val (.int p4), .val (.int p5)] [(.ref n1_), (.ref a1)])
  have f17 : Exa Z h10 a1 "com/example/corbel/corbel/ByteSlices$Reader" := (f8.wr W10)
  have f18 : Fld Z h10 a1 "com/example/corbel/corbel/ByteSlices$Reader" "block" "[B" .null := ((((F_block_a1.other W1 (Or.inr (slot_ne (Or.inl (hw _ (List.mem_of_getElem? (i := 65) rfl))) (Or.inl (hw _ (List.mem_of_getElem? (i := 56) rfl))) (by decide) (t := (.array .byte)) (t' := .int) (by decide) (by decide)))).other W4 (Or.inr (slot_ne (Or.inl (hw _ (List.mem_of_getElem? (i := 65) rfl))) (Or.inl (hw _ (List.mem_of_getElem? (i := 58) rfl))) (by decide) (t := (.array .byte)) (t' := .int) (by decide) (by decide)))).other W7 (Or.inr (slot_ne (Or.inl (hw _ (List.mem_of_getElem? (i := 65) rfl))) (Or.inl (hw _ (List.mem_of_getElem? (i := 60) rfl))) (by decide) (t := (.array .byte)) (t' := .int) (by decide) (by decide)))).other W10 (Or.inr (slot_ne (Or.inl (hw _ (List.mem_of_getElem? (i := 65) rfl))) (Or.inl (hw _ (List.mem_of_getElem? (i := 62) rfl))) (by decide) (t := (.array .byte)) (t' := .int) (by decide) (by decide))))
  obtain ⟨T19, h19, X19, e19, W19, st19⟩ := putF X14 hx hZ hown (host := "") (Or.inl (hw _ (List.mem_of_getElem? (i := 64) rfl))) Via.refl e14 f18 f17 (Or.inl (hw _ (List.mem_of_getElem? (i := 65) rfl))) (hw _ (List.mem_of_getElem? (i := 37) rfl)) (ty := (.array .byte)) (by decide) rfl rfl (g := (mkF m 34 #[.val (.ref a1), .val (.int p2), .val (.int p3), .val (.int p4), .val (.int p5)] [(.ref n1_), (.ref a1)])) rfl rfl (hb hby own_d7_34)
  refine OE.of st19 ?_
  have N19 := Fr.snoc X19 N10 g_a1
  have Fw19 := f18.same W19
  show OE _ p e below s _ _ _ T19 (mkF m 37 #[.val (.ref a1), .val (.int p2), .val (.int p3), .val (.int p4), .val (.int p5)] [])
  refine OE.ret0 X19 hx Bd.returns Bd.notSynchronized (hb hby own_d7_37) (by decide) (by decide) ?_
  rw [e19]
  have K20 : Keep h0 h19 [a1] := (Keep.wr (Keep.wr (Keep.wr (Keep.wr (Keep.wr (Keep.refl h0 [a1]) W1 (Or.inl (List.mem_of_getElem? (i := 0) rfl))) W4 (Or.inl (List.mem_of_getElem? (i := 0) rfl))) W7 (Or.inl (List.mem_of_getElem? (i := 0) rfl))) W10 (Or.inl (List.mem_of_getElem? (i := 0) rfl))) W19 (Or.inl (List.mem_of_getElem? (i := 0) rfl)))
  have f21 : Exa Z h19 a1 "com/example/corbel/corbel/ByteSlices$Reader" := (f17.wr W19)
  have f22 : Fld Z h19 a1 "com/example/corbel/corbel/ByteSlices$Reader" "address" "I" (.int p2) := ((((Fw1.other W4 (Or.inr (slot_ne (Or.inl (hw _ (List.mem_of_getElem? (i := 56) rfl))) (Or.inl (hw _ (List.mem_of_getElem? (i := 58) rfl))) (by decide) (t := .int) (t' := .int) (by decide) (by decide)))).other W7 (Or.inr (slot_ne (Or.inl (hw _ (List.mem_of_getElem? (i := 56) rfl))) (Or.inl (hw _ (List.mem_of_getElem? (i := 60) rfl))) (by decide) (t := .int) (t' := .int) (by decide) (by decide)))).other W10 (Or.inr (slot_ne (Or.inl (hw _ (List.mem_of_getElem? (i := 56) rfl))) (Or.inl (hw _ (List.mem_of_getElem? (i := 62) rfl))) (by decide) (t := .int) (t' := .int) (by decide) (by decide)))).other W19 (Or.inr (slot_ne (Or.inl (hw _ (List.mem_of_getElem? (i := 56) rfl))) (Or.inl (hw _ (List.mem_of_getElem? (i := 65) rfl))) (by decide) (t := .int) (t' := (.array .byte)) (by decide) (by decide))))
  have f23 : Fld Z h19 a1 "com/example/corbel/corbel/ByteSlices$Reader" "limit" "I" (.int p3) := (((Fw4.other W7 (Or.inr (slot_ne (Or.inl (hw _ (List.mem_of_getElem? (i := 58) rfl))) (Or.inl (hw _ (List.mem_of_getElem? (i := 60) rfl))) (by decide) (t := .int) (t' := .int) (by decide) (by decide)))).other W10 (Or.inr (slot_ne (Or.inl (hw _ (List.mem_of_getElem? (i := 58) rfl))) (Or.inl (hw _ (List.mem_of_getElem? (i := 62) rfl))) (by decide) (t := .int) (t' := .int) (by decide) (by decide)))).other W19 (Or.inr (slot_ne (Or.inl (hw _ (List.mem_of_getElem? (i := 58) rfl))) (Or.inl (hw _ (List.mem_of_getElem? (i := 65) rfl))) (by decide) (t := .int) (t' := (.array .byte)) (by decide) (by decide))))
  have f24 : Fld Z h19 a1 "com/example/corbel/corbel/ByteSlices$Reader" "level" "I" (.int p4) := ((Fw7.other W10 (Or.inr (slot_ne (Or.inl (hw _ (List.mem_of_getElem? (i := 60) rfl))) (Or.inl (hw _ (List.mem_of_getElem? (i := 62) rfl))) (by decide) (t := .int) (t' := .int) (by decide) (by decide)))).other W19 (Or.inr (slot_ne (Or.inl (hw _ (List.mem_of_getElem? (i := 60) rfl))) (Or.inl (hw _ (List.mem_of_getElem? (i := 65) rfl))) (by decide) (t := .int) (t' := (.array .byte)) (by decide) (by decide))))
  have f25 : Fld Z h19 a1 "com/example/corbel/corbel/ByteSlices$Reader" "end" "I" (.int p5) := (Fw10.other W19 (Or.inr (slot_ne (Or.inl (hw _ (List.mem_of_getElem? (i := 62) rfl))) (Or.inl (hw _ (List.mem_of_getElem? (i := 65) rfl))) (by decide) (t := .int) (t' := (.array .byte)) (by decide) (by decide))))
  exact ⟨rfl, N19, K20, f21, f22, f23, f24, f25, Fw19⟩
theorem own_d8_0 : decode prog_25_method_5_code 0 = .ok (.aload_n 0, 1) := by decide +kernel
theorem own_d8_1 : decode prog_25_method_5_code 1 = .ok (.getfield 23, 3) := by decide +kernel
theorem own_d8_4 : decode prog_25_method_5_code 4 = .ok (.ireturn, 1) := by decide +kernel
def own_Q8 (Z : State) (a1 : Addr) (w_address_a1 : Int32) (h0 : Heap) (n0 : Nat) (v : Option Value) (h : Heap) (L : List Loc) : Prop := v = some (.int w_address_a1) ∧ Fr n0 L ∧ h = h0
theorem own_ef_own_rm8 (m : MethodId) (a1 : Addr) : entryFrame m #[(.ref a1)] 1 = mkF m 0 #[.val (.ref a1)] [] := by first | (simp [entryFrame, mkF, argsToLocals, Value.category]; done) | rfl
set_option maxRecDepth 65536 in
set_option maxHeartbeats 40000000 in
theorem own_rm8 (l : Launch) (Z : State) (a0 : Array Value) (hw : ∀ d ∈ tables_1, d.before a0 Z = true) (ws : List Jvm.Cond) (a1 : Addr) (w_address_a1 : Int32) (h0 : Heap) (n0 : Nat) (Z0 : n0 ≤ h0.size) (F_address_a1 : Fld Z h0 a1 "com/example/corbel/corbel/ByteSlices$Reader" "address" "I" (.int w_address_a1)) :
    MetFree l (⟨"com/example/corbel/corbel/ByteSlices$Reader", "address", "()I"⟩ : MethodName) (head1 (Jvm.Cond.code (⟨"com/example/corbel/corbel/ByteSlices$Reader", "address", "()I"⟩ : MethodName) prog_25_method_5_code 1 (some .int) :: ws) ({ frames := 0, cells := 0, slots := 0, locals := 0 } : Room)) (fun a U => a = #[(.ref a1)] ∧ Z.Warmed39 U.vm ∧ U.heap = h0) (fun _ _ _ _ _ => True) (fun _ U o U' => ∃ v L, o = .returned v ∧ own_Q8 Z a1 w_address_a1 h0 n0 v U'.heap L ∧ FrameEnd U o U' L ({ frames := 0, cells := 0, slots := 0, locals := 0 } : Room).cells ({ frames := 0, cells := 0, slots := 0, locals := 0 } : Room).slots) := by
  refine MetFree.of_bodySF (plainFor_of_name own_pn2) hisR ?_
  intro p e s m args below meth c s₁ Bd hml0 hP hK
  obtain ⟨rfl, hZ, hh⟩ := hP
  have hx := Bd.exec
  have hby := Bd.bytes
  have hml : c.maxLocals = 1 := hml0
  have hown : s.vm.findClass "com/example/corbel/corbel/ByteSlices$Reader" = some m.cls := findClass_of_methodNamed Bd.named
  have hnm := (name_of_methodNamed Bd.named Bd.method).1
  have X0 : Stand p l e ({ frames := 0, cells := 0, slots := 0, locals := 0 } : Room) s m #[(.ref a1)] below meth c s₁ [] 0 0 := Stand.of_body Bd
  have e0 : s₁.heap = h0 := by rw [← hh, Bd.state]; rfl
  have N0 := Fr.nil n0
  show OE FrameEnd p e below s (own_Q8 Z a1 w_address_a1 h0 n0) ({ frames := 0, cells := 0, slots := 0, locals := 0 } : Room).cells ({ frames := 0, cells := 0, slots := 0, locals := 0 } : Room).slots s₁ (entryFrame m #[(.ref a1)] 1)
  rw [own_ef_own_rm8]
  show OE _ p e below s _ _ _ s₁ (mkF m 0 #[.val (.ref a1)] [])
  refine OE.aloadN X0 hx hby own_d8_0 rfl rfl ?_
  obtain ⟨T1, X1, e1, st1⟩ := getF X0 hx hZ hown (host := "") (Or.inl (hw _ (List.mem_of_getElem? (i := 55) rfl))) Via.refl e0 F_address_a1 (g := (mkF m 1 #[.val (.ref a1)] [(.ref a1)])) rfl rfl (hb hby own_d8_1)
  refine OE.of st1 ?_
  show OE _ p e below s _ _ _ T1 (mkF m 4 #[.val (.ref a1)] [(.int w_address_a1)])
  refine OE.retI X1 hx Bd.returns Bd.notSynchronized (hb hby own_d8_4) (by decide) (by decide) ?_
  rw [e1]
  exact ⟨rfl, N0, rfl⟩
theorem own_d9_0 : decode prog_25_method_6_code 0 = .ok (.aload_n 0, 1) := by decide +kernel
theorem own_d9_1 : decode prog_25_method_6_code 1 = .ok (.getfield 27, 3) := by decide +kernel
theorem own_d9_4 : decode prog_25_method_6_code 4 = .ok (.ireturn, 1) := by decide +kernel
def own_Q9 (Z : State) (a1 : Addr) (w_limit_a1 : Int32) (h0 : Heap) (n0 : Nat) (v : Option Value) (h : Heap) (L : List Loc) : Prop := v = some (.int w_limit_a1) ∧ Fr n0 L ∧ h = h0
theorem own_ef_own_rm9 (m : MethodId) (a1 : Addr) : entryFrame m #[(.ref a1)] 1 = mkF m 0 #[.val (.ref a1)] [] := by first | (simp [entryFrame, mkF, argsToLocals, Value.category]; done) | rfl
set_option maxRecDepth 65536 in
set_option maxHeartbeats 40000000 in
theorem own_rm9 (l : Launch) (Z : State) (a0 : Array Value) (hw : ∀ d ∈ tables_1, d.before a0 Z = true) (ws : List Jvm.Cond) (a1 : Addr) (w_limit_a1 : Int32) (h0 : Heap) (n0 : Nat) (Z0 : n0 ≤ h0.size) (F_limit_a1 : Fld Z h0 a1 "com/example/corbel/corbel/ByteSlices$Reader" "limit" "I" (.int w_limit_a1)) :
    MetFree l (⟨"com/example/corbel/corbel/ByteSlices$Reader", "limit", "()I"⟩ : MethodName) (head1 (Jvm.Cond.code (⟨"com/example/corbel/corbel/ByteSlices$Reader", "limit", "()I"⟩ : MethodName) prog_25_method_6_code 1 (some .int) :: ws) ({ frames := 0, cells := 0, slots := 0, locals := 0 } : Room)) (fun a U => a = #[(.ref a1)] ∧ Z.Warmed39 U.vm ∧ U.heap = h0) (fun _ _ _ _ _ => True) (fun _ U o U' => ∃ v L, o = .returned v ∧ own_Q9 Z a1 w_limit_a1 h0 n0 v U'.heap L ∧ FrameEnd U o U' L ({ frames := 0, cells := 0, slots := 0, locals := 0 } : Room).cells ({ frames := 0, cells := 0, slots := 0, locals := 0 } : Room).slots) := by
  refine MetFree.of_bodySF (plainFor_of_name own_pn2) hisR ?_
  intro p e s m args below meth c s₁ Bd hml0 hP hK
  obtain ⟨rfl, hZ, hh⟩ := hP
  have hx := Bd.exec
  have hby := Bd.bytes
  have hml : c.maxLocals = 1 := hml0
  have hown : s.vm.findClass "com/example/corbel/corbel/ByteSlices$Reader" = some m.cls := findClass_of_methodNamed Bd.named
  have hnm := (name_of_methodNamed Bd.named Bd.method).1
  have X0 : Stand p l e ({ frames := 0, cells := 0, slots := 0, locals := 0 } : Room) s m #[(.ref a1)] below meth c s₁ [] 0 0 := Stand.of_body Bd
  have e0 : s₁.heap = h0 := by rw [← hh, Bd.state]; rfl
  have N0 := Fr.nil n0
  show OE FrameEnd p e below s (own_Q9 Z a1 w_limit_a1 h0 n0) ({ frames := 0, cells := 0, slots := 0, locals := 0 } : Room).cells ({ frames := 0, cells := 0, slots := 0, locals := 0 } : Room).slots s₁ (entryFrame m #[(.ref a1)] 1)
  rw [own_ef_own_rm9]
  show OE _ p e below s _ _ _ s₁ (mkF m 0 #[.val (.ref a1)] [])
  refine OE.aloadN X0 hx hby own_d9_0 rfl rfl ?_
  obtain ⟨T1, X1, e1, st1⟩ := getF X0 hx hZ hown (host := "") (Or.inl (hw _ (List.mem_of_getElem? (i := 57) rfl))) Via.refl e0 F_limit_a1 (g := (mkF m 1 #[.val (.ref a1)] [(.ref a1)])) rfl rfl (hb hby own_d9_1)
  refine OE.of st1 ?_
  show OE _ p e below s _ _ _ T1 (mkF m 4 #[.val (.ref a1)] [(.int w_limit_a1)])
  refine OE.retI X1 hx Bd.returns Bd.notSynchronized (hb hby own_d9_4) (by decide) (by decide) ?_
  rw [e1]
  exact ⟨rfl, N0, rfl⟩
theorem own_d10_0 : decode prog_25_method_7_code 0 = .ok (.aload_n 0, 1) := by decide +kernel
theorem own_d10_1 : decode prog_25_method_7_code 1 = .ok (.getfield 30, 3) := by decide +kernel
theorem own_d10_4 : decode prog_25_method_7_code 4 = .ok (.ireturn, 1) := by decide +kernel
def own_Q10 (Z : State) (a1 : Addr) (w_level_a1 : Int32) (h0 : Heap) (n0 : Nat) (v : Option Value) (h : Heap) (L : List Loc) : Prop := v = some (.int w_level_a1) ∧ Fr n0 L ∧ h = h0
theorem own_ef_own_rm10 (m : MethodId) (a1 : Addr) : entryFrame m #[(.ref a1)] 1 = mkF m 0 #[.val (.ref a1)] [] := by first | (simp [entryFrame, mkF, argsToLocals, Value.category]; done) | rfl
set_option maxRecDepth 65536 in
set_option maxHeartbeats 40000000 in
theorem own_rm10 (l : Launch) (Z : State) (a0 : Array Value) (hw : ∀ d ∈ tables_1, d.before a0 Z = true) (ws : List Jvm.Cond) (a1 : Addr) (w_level_a1 : Int32) (h0 : Heap) (n0 : Nat) (Z0 : n0 ≤ h0.size) (F_level_a1 : Fld Z h0 a1 "com/example/corbel/corbel/ByteSlices$Reader" "level" "I" (.int w_level_a1)) :
    MetFree l (⟨"com/example/corbel/corbel/ByteSlices$Reader", "level", "()I"⟩ : MethodName) (head1 (Jvm.Cond.code (⟨"com/example/corbel/corbel/ByteSlices$Reader", "level", "()I"⟩ : MethodName) prog_25_method_7_code 1 (some .int) :: ws) ({ frames := 0, cells := 0, slots := 0, locals := 0 } : Room)) (fun a U => a = #[(.ref a1)] ∧ Z.Warmed39 U.vm ∧ U.heap = h0) (fun _ _ _ _ _ => True) (fun _ U o U' => ∃ v L, o = .returned v ∧ own_Q10 Z a1 w_level_a1 h0 n0 v U'.heap L ∧ FrameEnd U o U' L ({ frames := 0, cells := 0, slots := 0, locals := 0 } : Room).cells ({ frames := 0, cells := 0, slots := 0, locals := 0 } : Room).slots) := by
  refine MetFree.of_bodySF (plainFor_of_name own_pn2) hisR ?_
  intro p e s m args below meth c s₁ Bd hml0 hP hK
  obtain ⟨rfl, hZ, hh⟩ := hP
  have hx := Bd.exec
  have hby := Bd.bytes
  have hml : c.maxLocals = 1 := hml0
  have hown : s.vm.findClass "com/example/corbel/corbel/ByteSlices$Reader" = some m.cls := findClass_of_methodNamed Bd.named
  have hnm := (name_of_methodNamed Bd.named Bd.method).1
  have X0 : Stand p l e ({ frames := 0, cells := 0, slots := 0, locals := 0 } : Room) s m #[(.ref a1)] below meth c s₁ [] 0 0 := Stand.of_body Bd
  have e0 : s₁.heap = h0 := by rw [← hh, Bd.state]; rfl
  have N0 := Fr.nil n0
  show OE FrameEnd p e below s (own_Q10 Z a1 w_level_a1 h0 n0) ({ frames := 0, cells := 0, slots := 0, locals := 0 } : Room).cells ({ frames := 0, cells := 0, slots := 0, locals := 0 } : Room).slots s₁ (entryFrame m #[(.ref a1)] 1)
  rw [own_ef_own_rm10]
  show OE _ p e below s _ _ _ s₁ (mkF m 0 #[.val (.ref a1)] [])
  refine OE.aloadN X0 hx hby own_d10_0 rfl rfl ?_
  obtain ⟨T1, X1, e1, st1⟩ := getF X0 hx hZ hown (host := "") (Or.inl (hw _ (List.mem_of_getElem? (i := 59) rfl))) Via.refl e0 F_level_a1 (g := (mkF m 1 #[.val (.ref a1)] [(.ref a1)])) rfl rfl (hb hby own_d10_1)
  refine OE.of st1 ?_
  show OE _ p e below s _ _ _ T1 (mkF m 4 #[.val (.ref a1)] [(.int w_level_a1)])
  refine OE.retI X1 hx Bd.returns Bd.notSynchronized (hb hby own_d10_4) (by decide) (by decide) ?_
  rw [e1]
  exact ⟨rfl, N0, rfl⟩
theorem own_d11_0 : decode prog_25_method_4_code 0 = .ok (.aload_n 0, 1) := by decide +kernel
theorem own_d11_1 : decode prog_25_method_4_code 1 = .ok (.getfield 23, 3) := by decide +kernel
theorem own_d11_4 : decode prog_25_method_4_code 4 = .ok (.aload_n 0, 1) := by decide +kernel
theorem own_d11_5 : decode prog_25_method_4_code 5 = .ok (.getfield 33, 3) := by decide +kernel
theorem own_d11_8 : decode prog_25_method_4_code 8 = .ok (.if_icmp .ne 7, 3) := by decide +kernel
theorem own_d11_11 : decode prog_25_method_4_code 11 = .ok (.iconst 1, 1) := by decide +kernel
theorem own_d11_12 : decode prog_25_method_4_code 12 = .ok (.goto 4, 3) := by decide +kernel
theorem own_d11_16 : decode prog_25_method_4_code 16 = .ok (.ireturn, 1) := by decide +kernel
theorem own_d11_15 : decode prog_25_method_4_code 15 = .ok (.iconst 0, 1) := by decide +kernel
def own_Q11 (Z : State) (a1 : Addr) (w_address_a1 : Int32) (w_end_a1 : Int32) (h0 : Heap) (n0 : Nat) (v : Option Value) (h : Heap) (L : List Loc) : Prop := v = some (.int (if w_address_a1 = w_end_a1 then (1 : Int32) else (0 : Int32))) ∧ Fr n0 L ∧ h = h0
theorem own_ef_own_rm11 (m : MethodId) (a1 : Addr) : entryFrame m #[(.ref a1)] 1 = mkF m 0 #[.val (.ref a1)] [] := by first | (simp [entryFrame, mkF, argsToLocals, Value.category]; done) | rfl
set_option maxRecDepth 65536 in
set_option maxHeartbeats 40000000 in
theorem own_rm11 (l : Launch) (Z : State) (a0 : Array Value) (hw : ∀ d ∈ tables_1, d.before a0 Z = true) (ws : List Jvm.Cond) (a1 : Addr) (w_address_a1 : Int32) (w_end_a1 : Int32) (h0 : Heap) (n0 : Nat) (Z0 : n0 ≤ h0.size) (F_address_a1 : Fld Z h0 a1 "com/example/corbel/corbel/ByteSlices$Reader" "address" "I" (.int w_address_a1)) (F_end_a1 : Fld Z h0 a1 "com/example/corbel/corbel/ByteSlices$Reader" "end" "I" (.int w_end_a1)) :
    MetFree l (⟨"com/example/corbel/corbel/ByteSlices$Reader", "atEnd", "()Z"⟩ : MethodName) (head1 (Jvm.Cond.code (⟨"com/example/corbel/corbel/ByteSlices$Reader", "atEnd", "()Z"⟩ : MethodName) prog_25_method_4_code 1 (some .boolean) :: ws) ({ frames := 0, cells := 0, slots := 0, locals := 0 } : Room)) (fun a U => a = #[(.ref a1)] ∧ Z.Warmed39 U.vm ∧ U.heap = h0) (fun _ _ _ _ _ => True) (fun _ U o U' => ∃ v L, o = .returned v ∧ own_Q11 Z a1 w_address_a1 w_end_a1 h0 n0 v U'.heap L ∧ FrameEnd U o U' L ({ frames := 0, cells := 0, slots := 0, locals := 0 } : Room).cells ({ frames := 0, cells := 0, slots := 0, locals := 0 } : Room).slots) := by
  refine MetFree.of_bodySF (plainFor_of_name own_pn2) hisR ?_
  intro p e s m args below meth c s₁ Bd hml0 hP hK
  obtain ⟨rfl, hZ, hh⟩ := hP
  have hx := Bd.exec
  have hby := Bd.bytes
  have hml : c.maxLocals = 1 := hml0
  have hown : s.vm.findClass "com/example/corbel/corbel/ByteSlices$Reader" = some m.cls := findClass_of_methodNamed Bd.named
  have hnm := (name_of_methodNamed Bd.named Bd.method).1
  have X0 : Stand p l e ({ frames := 0, cells := 0, slots := 0, locals := 0 } : Room) s m #[(.ref a1)] below meth c s₁ [] 0 0 := Stand.of_body Bd
  have e0 : s₁.heap = h0 := by rw [← hh, Bd.state]; rfl
  have N0 := Fr.nil n0
  show OE FrameEnd p e below s (own_Q11 Z a1 w_address_a1 w_end_a1 h0 n0) ({ frames := 0, cells := 0, slots := 0, locals := 0 } : Room).cells ({ frames := 0, cells := 0, slots := 0, locals := 0 } : Room).slots s₁ (entryFrame m #[(.ref a1)] 1)
  rw [own_ef_own_rm11]
  show OE _ p e below s _ _ _ s₁ (mkF m 0 #[.val (.ref a1)] [])
  refine OE.aloadN X0 hx hby own_d11_0 rfl rfl ?_
  obtain ⟨T1, X1, e1, st1⟩ := getF X0 hx hZ hown (host := "") (Or.inl (hw _ (List.mem_of_getElem? (i := 55) rfl))) Via.refl e0 F_address_a1 (g := (mkF m 1 #[.val (.ref a1)] [(.ref a1)])) rfl rfl (hb hby own_d11_1)
  refine OE.of st1 ?_
  show OE _ p e below s _ _ _ T1 (mkF m 4 #[.val (.ref a1)] [(.int w_address_a1)])
  refine OE.aloadN X1 hx hby own_d11_4 rfl rfl ?_
  obtain ⟨T2, X2, e2, st2⟩ := getF X1 hx hZ hown (host := "") (Or.inl (hw _ (List.mem_of_getElem? (i := 61) rfl))) Via.refl e1 F_end_a1 (g := (mkF m 5 #[.val (.ref a1)] [(.ref a1), (.int w_address_a1)])) rfl rfl (hb hby own_d11_5)
  refine OE.of st2 ?_
  show OE _ p e below s _ _ _ T2 (mkF m 8 #[.val (.ref a1)] [(.int w_end_a1), (.int w_address_a1)])
  by_cases hc8 : w_address_a1 = w_end_a1
  · skip
    refine OE.icmpNo X2 hx hby own_d11_8 (teq hc8).2 ?_
    refine OE.iconst X2 hx hby own_d11_11 (1 : Int32) rfl ?_
    refine OE.goto X2 hx hby (pc' := 16) own_d11_12 (h := ?_)
    refine OE.retN X2 hx (t := .boolean) Bd.returns (by simp) Bd.notSynchronized (hb hby own_d11_16) (by decide) (by decide) ?_
    rw [e2]
    exact ⟨(congrArg (fun z => some (Value.int z)) (show (1 : Int32) = (if w_address_a1 = w_end_a1 then (1 : Int32) else (0 : Int32)) from by rw [if_pos hc8])), N0, rfl⟩
  · skip
    refine OE.icmpYes X2 hx hby (pc' := 15) own_d11_8 (feq hc8).2 (h := ?_)
    refine OE.iconst X2 hx hby own_d11_15 (0 : Int32) rfl ?_
    refine OE.retN X2 hx (t := .boolean) Bd.returns (by simp) Bd.notSynchronized (hb hby own_d11_16) (by decide) (by decide) ?_
    rw [e2]
    exact ⟨(congrArg (fun z => some (Value.int z)) (show (0 : Int32) = (if w_address_a1 = w_end_a1 then (1 : Int32) else (0 : Int32)) from by rw [if_neg hc8])), N0, rfl⟩
theorem own_d12_0 : decode prog_25_method_8_code 0 = .ok (.aload_n 0, 1) := by decide +kernel
theorem own_d12_1 : decode prog_25_method_8_code 1 = .ok (.getfield 23, 3) := by decide +kernel
theorem own_d12_4 : decode prog_25_method_8_code 4 = .ok (.aload_n 0, 1) := by decide +kernel
theorem own_d12_5 : decode prog_25_method_8_code 5 = .ok (.getfield 27, 3) := by decide +kernel
theorem own_d12_8 : decode prog_25_method_8_code 8 = .ok (.if_icmp .ne 122, 3) := by decide +kernel
theorem own_d12_130 : decode prog_25_method_8_code 130 = .ok (.aload_n 0, 1) := by decide +kernel
theorem own_d12_131 : decode prog_25_method_8_code 131 = .ok (.getfield 40, 3) := by decide +kernel
theorem own_d12_134 : decode prog_25_method_8_code 134 = .ok (.aload_n 0, 1) := by decide +kernel
theorem own_d12_135 : decode prog_25_method_8_code 135 = .ok (.dup, 1) := by decide +kernel
theorem own_d12_136 : decode prog_25_method_8_code 136 = .ok (.getfield 23, 3) := by decide +kernel
theorem own_d12_139 : decode prog_25_method_8_code 139 = .ok (.dup_x1, 1) := by decide +kernel
theorem own_d12_140 : decode prog_25_method_8_code 140 = .ok (.iconst 1, 1) := by decide +kernel
theorem own_d12_141 : decode prog_25_method_8_code 141 = .ok (.iadd, 1) := by decide +kernel
theorem own_d12_142 : decode prog_25_method_8_code 142 = .ok (.putfield 23, 3) := by decide +kernel
theorem own_d12_145 : decode prog_25_method_8_code 145 = .ok (.sipush 32767, 3) := by decide +kernel
theorem own_d12_148 : decode prog_25_method_8_code 148 = .ok (.iand, 1) := by decide +kernel
theorem own_d12_149 : decode prog_25_method_8_code 149 = .ok (.baload, 1) := by decide +kernel
theorem own_d12_150 : decode prog_25_method_8_code 150 = .ok (.sipush 255, 3) := by decide +kernel
theorem own_d12_153 : decode prog_25_method_8_code 153 = .ok (.iand, 1) := by decide +kernel
theorem own_d12_154 : decode prog_25_method_8_code 154 = .ok (.ireturn, 1) := by decide +kernel
def own_Q12 (Z : State) (a1 : Addr) (w_address_a1 : Int32) (w_limit_a1 : Int32) (nb : Addr) (k_nb : ClassId) (vs_nb : List Value) (x : Int32) (h0 : Heap) (n0 : Nat) (v : Option Value) (h : Heap) (L : List Loc) : Prop := v = some (.int (x &&& (255 : Int32))) ∧ Fr n0 L ∧ Keep h0 h [a1] ∧ Exa Z h a1 "com/example/corbel/corbel/ByteSlices$Reader"
theorem own_ef_own_rm12 (m : MethodId) (a1 : Addr) : entryFrame m #[(.ref a1)] 2 = mkF m 0 #[.val (.ref a1), .unset] [] := by first | (simp [entryFrame, mkF, argsToLocals, Value.category]; done) | rfl
set_option maxRecDepth 65536 in
set_option maxHeartbeats 40000000 in
theorem own_rm12 (l : Launch) (Z : State) (a0 : Array Value) (hw : ∀ d ∈ tables_1, d.before a0 Z = true) (ws : List Jvm.Cond) (a1 : Addr) (w_address_a1 : Int32) (w_limit_a1 : Int32) (nb : Addr) (k_nb : ClassId) (vs_nb : List Value) (x : Int32) (h0 : Heap) (n0 : Nat) (Z0 : n0 ≤ h0.size) (E_a1 : Exa Z h0 a1 "com/example/corbel/corbel/ByteSlices$Reader") (F_address_a1 : Fld Z h0 a1 "com/example/corbel/corbel/ByteSlices$Reader" "address" "I" (.int w_address_a1)) (F_limit_a1 : Fld Z h0 a1 "com/example/corbel/corbel/ByteSlices$Reader" "limit" "I" (.int w_limit_a1)) (F_block_a1 : Fld Z h0 a1 "com/example/corbel/corbel/ByteSlices$Reader" "block" "[B" (.ref nb)) (V_nb : Arv Z h0 nb k_nb .byte (32768 : Int32) vs_nb (.int (0 : Int32))) (g_a1 : n0 ≤ a1) (ne_nb_a1 : nb ≠ a1) (hne : ¬ w_address_a1 = w_limit_a1) (hin : ¬ (w_address_a1 &&& (32767 : Int32)) < 0 ∧ (w_address_a1 &&& (32767 : Int32)) < (32768 : Int32)) (hat : vs_nb.getD (w_address_a1 &&& (32767 : Int32)).toNatClampNeg (.int (0 : Int32)) = (.int x)) :
    MetFree l (⟨"com/example/corbel/corbel/ByteSlices$Reader", "readByte", "()I"⟩ : MethodName) (head1 (Jvm.Cond.code (⟨"com/example/corbel/corbel/ByteSlices$Reader", "readByte", "()I"⟩ : MethodName) prog_25_method_8_code 2 (some .int) :: ws) ({ frames := 0, cells := 0, slots := 0, locals := 0 } : Room)) (fun a U => a = #[(.ref a1)] ∧ Z.Warmed39 U.vm ∧ U.heap = h0) (fun _ _ _ _ _ => True) (fun _ U o U' => ∃ v L, o = .returned v ∧ own_Q12 Z a1 w_address_a1 w_limit_a1 nb k_nb vs_nb x h0 n0 v U'.heap L ∧ FrameEnd U o U' L ({ frames := 0, cells := 0, slots := 0, locals := 0 } : Room).cells ({ frames := 0, cells := 0, slots := 0, locals := 0 } : Room).slots) := by
  refine MetFree.of_bodySF (plainFor_of_name own_pn2) hisR ?_
  intro p e s m args below meth c s₁ Bd hml0 hP hK
  obtain ⟨rfl, hZ, hh⟩ := hP
  have hx := Bd.exec
  have hby := Bd.bytes
  have hml : c.maxLocals = 2 := hml0
  have hown : s.vm.findClass "com/example/corbel/corbel/ByteSlices$Reader" = some m.cls := findClass_of_methodNamed Bd.named
  have hnm := (name_of_methodNamed Bd.named Bd.method).1
  have X0 : Stand p l e ({ frames := 0, cells := 0, slots := 0, locals := 0 } : Room) s m #[(.ref a1)] below meth c s₁ [] 0 0 := Stand.of_body Bd
  have e0 : s₁.heap = h0 := by rw [← hh, Bd.state]; rfl
  have N0 := Fr.nil n0
  show OE FrameEnd p e below s (own_Q12 Z a1 w_address_a1 w_limit_a1 nb k_nb vs_nb x h0 n0) ({ frames := 0, cells := 0, slots := 0, locals := 0 } : Room).cells ({ frames := 0, cells := 0, slots := 0, locals := 0 } : Room).slots s₁ (entryFrame m #[(.ref a1)] 2)
  rw [own_ef_own_rm12]
  show OE _ p e below s _ _ _ s₁ (mkF m 0 #[.val (.ref a1), .unset] [])
  refine OE.aloadN X0 hx hby own_d12_0 rfl rfl ?_
  obtain ⟨T1, X1, e1, st1⟩ := getF X0 hx hZ hown (host := "") (Or.inl (hw _ (List.mem_of_getElem? (i := 55) rfl))) Via.refl e0 F_address_a1 (g := (mkF m 1 #[.val (.ref a1), .unset] [(.ref a1)])) rfl rfl (hb hby own_d12_1)
  refine OE.of st1 ?_
  show OE _ p e below s _ _ _ T1 (mkF m 4 #[.val (.ref a1), .unset] [(.int w_address_a1)])
  refine OE.aloadN X1 hx hby own_d12_4 rfl rfl ?_
  obtain ⟨T2, X2, e2, st2⟩ := getF X1 hx hZ hown (host := "") (Or.inl (hw _ (List.mem_of_getElem? (i := 57) rfl))) Via.refl e1 F_limit_a1 (g := (mkF m 5 #[.val (.ref a1), .unset] [(.ref a1), (.int w_address_a1)])) rfl rfl (hb hby own_d12_5)
  refine OE.of st2 ?_
  show OE _ p e below s _ _ _ T2 (mkF m 8 #[.val (.ref a1), .unset] [(.int w_limit_a1), (.int w_address_a1)])
  refine OE.icmpYes X2 hx hby (pc' := 130) own_d12_8 (feq (hne : ¬ (w_address_a1 = w_limit_a1))).2 (h := ?_)
  refine OE.aloadN X2 hx hby own_d12_130 rfl rfl ?_
  obtain ⟨T3, X3, e3, st3⟩ := getF X2 hx hZ hown (host := "") (Or.inl (hw _ (List.mem_of_getElem? (i := 64) rfl))) Via.refl e2 F_block_a1 (g := (mkF m 131 #[.val (.ref a1), .unset] [(.ref a1)])) rfl rfl (hb hby own_d12_131)
  refine OE.of st3 ?_
  show OE _ p e below s _ _ _ T3 (mkF m 134 #[.val (.ref a1), .unset] [(.ref nb)])
  refine OE.aloadN X3 hx hby own_d12_134 rfl rfl ?_
  refine OE.dup X3 hx hby own_d12_135 rfl ?_
  obtain ⟨T4, X4, e4, st4⟩ := getF X3 hx hZ hown (host := "") (Or.inl (hw _ (List.mem_of_getElem? (i := 55) rfl))) Via.refl e3 F_address_a1 (g := (mkF m 136 #[.val (.ref a1), .unset] [(.ref a1), (.ref a1), (.ref nb)])) rfl rfl (hb hby own_d12_136)
  refine OE.of st4 ?_
  show OE _ p e below s _ _ _ T4 (mkF m 139 #[.val (.ref a1), .unset] [(.int w_address_a1), (.ref a1), (.ref nb)])
  refine OE.dupX1 X4 hx hby own_d12_139 rfl rfl ?_
  refine OE.iconst X4 hx hby own_d12_140 (1 : Int32) rfl ?_
  refine OE.iadd X4 hx hby own_d12_141 ?_
  obtain ⟨T5, h5, X5, e5, W5, st5⟩ := putF X4 hx hZ hown (host := "") (Or.inl (hw _ (List.mem_of_getElem? (i := 55) rfl))) Via.refl e4 F_address_a1 E_a1 (Or.inl (hw _ (List.mem_of_getElem? (i := 56) rfl))) (hw _ (List.mem_of_getElem? (i := 37) rfl)) (ty := .int) (by decide) rfl rfl (g := (mkF m 142 #[.val (.ref a1), .unset] [(.int (w_address_a1 + (1 : Int32))), (.ref a1), (.int w_address_a1), (.ref nb)])) rfl rfl (hb hby own_d12_142)
  refine OE.of st5 ?_
  have N5 := Fr.snoc X5 N0 g_a1
  have Fw5 := F_address_a1.same W5
  show OE _ p e below s _ _ _ T5 (mkF m 145 #[.val (.ref a1), .unset] [(.int w_address_a1), (.ref nb)])
  refine OE.sipush X5 hx hby own_d12_145 (32767 : Int32) rfl ?_
  refine OE.iand X5 hx hby own_d12_148 ?_
  have f6 : Arv Z h5 nb k_nb .byte (32768 : Int32) vs_nb (.int (0 : Int32)) := (V_nb.other W5 ne_nb_a1)
  have Vo7 := f6
  obtain ⟨cl7, Ar7, -, Sz7, Nz7, Hz7, Gz7⟩ := Vo7
  have hin7 : ¬ ((w_address_a1 &&& (32767 : Int32)) < 0 ∨ cl7.slots.size ≤ ((w_address_a1 &&& (32767 : Int32))).toNatClampNeg) := inb_of Sz7 hin
  have hat7 : cl7.slots[((w_address_a1 &&& (32767 : Int32))).toNatClampNeg]? = some (.int x) := Has.at Hz7 hin7 hat
  refine OE.of (X5.baloadBytes hx (j := (w_address_a1 &&& (32767 : Int32))) (v := (.int x)) (by rw [e5]; exact Ar7.1) (State.isArrayOf_alike hZ.alike Ar7.2.1) Ar7.2.2 hin7 hat7 (g := (mkF m 149 #[.val (.ref a1), .unset] [(.int (w_address_a1 &&& (32767 : Int32))), (.ref nb)])) rfl rfl (hb hby own_d12_149)) ?_
  show OE _ p e below s _ _ _ T5 (mkF m 150 #[.val (.ref a1), .unset] [(.int x)])
  refine OE.sipush X5 hx hby own_d12_150 (255 : Int32) rfl ?_
  refine OE.iand X5 hx hby own_d12_153 ?_
  refine OE.retI X5 hx Bd.returns Bd.notSynchronized (hb hby own_d12_154) (by decide) (by decide) ?_
  rw [e5]
  have K8 : Keep h0 h5 [a1] := (Keep.wr (Keep.refl h0 [a1]) W5 (Or.inl (List.mem_of_getElem? (i := 0) rfl)))
  have f9 : Exa Z h5 a1 "com/example/corbel/corbel/ByteSlices$Reader" := (E_a1.wr W5)
  exact ⟨rfl, N5, K8, f9⟩
theorem own_a (x : Int32) : ((((x &&& (65535 : Int32)).toUInt32 >>> ((15 : Int32) &&& 31).toUInt32).toInt32) = 0 ∨ (((x &&& (65535 : Int32)).toUInt32 >>> ((15 : Int32) &&& 31).toUInt32).toInt32) = 1) ∧ (¬ ((x &&& (65535 : Int32)) &&& (32767 : Int32)) < 0 ∧ ((x &&& (65535 : Int32)) &&& (32767 : Int32)) < (32768 : Int32)) := by
  have hv := c_and x 65535 (by decide)
  generalize (x &&& (65535 : Int32)) = a at *
  have h1 : (65535 : Int32).toInt = 65535 := by decide
  have h2 : (32767 : Int32).toInt = 32767 := by decide
  have h3 : (32768 : Int32).toInt = 32768 := by decide
  have h0 : (0 : Int32).toInt = 0 := by decide
  have h4 : (1 : Int32).toInt = 1 := by decide
  rw [h1] at hv
  have s := c_iushr a 15 15 (by decide) (by decide)
  have hw := c_and a 32767 (by decide)
  rw [h2] at hw
  refine ⟨?_, ?_, ?_⟩
  · have q : ((a.toUInt32 >>> ((15 : Int32) &&& 31).toUInt32).toInt32).toInt = 0 ∨ ((a.toUInt32 >>> ((15 : Int32) &&& 31).toUInt32).toInt32).toInt = 1 := by rw [s]; omega
    rcases q with q | q
    · exact Or.inl (Int32.toInt_inj.mp (by rw [q, h0]))
    · exact Or.inr (Int32.toInt_inj.mp (by rw [q, h4]))
  · rw [Int32.lt_iff_toInt_lt]; omega
  · rw [Int32.lt_iff_toInt_lt]; omega
theorem own_o {o : Int32} (h : ¬ o < 0) (h2 : o < (2 : Int32)) : o = 0 ∨ o = 1 := by
  rw [Int32.lt_iff_toInt_lt] at h h2
  have e0 : (0 : Int32).toInt = 0 := by decide
  have e1 : (1 : Int32).toInt = 1 := by decide
  have e2 : (2 : Int32).toInt = 2 := by decide
  have q : o.toInt = 0 ∨ o.toInt = 1 := by omega
  rcases q with q | q
  · exact Or.inl (Int32.toInt_inj.mp (by rw [q, e0]))
  · exact Or.inr (Int32.toInt_inj.mp (by rw [q, e1]))
theorem own_far {o : Int32} {x y d : Value} (h : ¬ o < 0) (h2 : ¬ o < (2 : Int32)) : [x, y].getD o.toNatClampNeg d = d := by
  rw [Int32.lt_iff_toInt_lt] at h h2
  have e0 : (0 : Int32).toInt = 0 := by decide
  have e2 : (2 : Int32).toInt = 2 := by decide
  rw [List.getD_eq_getElem?_getD, List.getElem?_eq_none (by simp only [List.length_cons, List.length_nil, Int32.toNatClampNeg]; omega)]; rfl
theorem own_b (w : Int32) : ((w.toInt8.toInt32).toInt8.toInt32 &&& (255 : Int32)) = w &&& (255 : Int32) := by
  apply Int32.toInt_inj.mp
  have a := c_i2b w
  have b := c_i2b w.toInt8.toInt32
  rw [c_mask _ 255 8 (by decide) (by decide), c_mask w 255 8 (by decide) (by decide)]
  omega
theorem own_0 (v : Int32) : ((v.toUInt32 >>> ((0 : Int32) &&& 31).toUInt32).toInt32) = v := by
  apply Int32.toBitVec_inj.mp
  first | (simp; done) | (simp; rfl)
theorem own_pd1 : parseMethodDescriptor "()V" = some ⟨[], none⟩ := by decide +kernel
theorem own_pd2 : parseMethodDescriptor "([BI)I" = some ⟨[(.array .byte), .int], some .int⟩ := by decide +kernel
theorem own_pd3 : parseMethodDescriptor "(Ljava/lang/Object;)Ljava/lang/Object;" = some ⟨[(.object "java/lang/Object")], some (.object "java/lang/Object")⟩ := by decide +kernel
theorem own_pd4 : parseMethodDescriptor "(Lcom/example/corbel/corbel/ByteSlices;)V" = some ⟨[(.object "com/example/corbel/corbel/ByteSlices")], none⟩ := by decide +kernel
theorem own_pd5 : parseMethodDescriptor "(IIII)V" = some ⟨[.int, .int, .int, .int], none⟩ := by decide +kernel
theorem own_pd6 : parseMethodDescriptor "()I" = some ⟨[], some .int⟩ := by decide +kernel
theorem own_pd7 : parseMethodDescriptor "()Z" = some ⟨[], some .boolean⟩ := by decide +kernel
def own_Q0 (Z : State) (p1 : Int32) (p2 : Int32) (p3 : Int32) (p4 : Int32) (p5 : Int32) (p6 : Int32) (h0 : Heap) (n0 : Nat) (v : Option Value) (h : Heap) (L : List Loc) : Prop := v = some (.int (1 : Int32)) ∧ Fr n0 L
theorem own_pn3 : plainName "com/example/corbel/corbel/ByteSlicesResumePinLaw" = true := by first | (simp [plainName, overriddenIn]; done) | decide +kernel
theorem own_ef_own_rm0 (m : MethodId) (p1 : Int32) (p2 : Int32) (p3 : Int32) (p4 : Int32) (p5 : Int32) (p6 : Int32) : entryFrame m #[(.int p1), (.int p2), (.int p3), (.int p4), (.int p5), (.int p6)] maxLocals = mkF m 0 #[.val (.int p1), .val (.int p2), .val (.int p3), .val (.int p4), .val (.int p5), .val (.int p6), .unset, .unset, .unset, .unset, .unset, .unset, .unset, .unset, .unset, .unset, .unset] [] := by first | (simp [entryFrame, mkF, argsToLocals, Value.category, maxLocals]; done) | rfl
set_option maxRecDepth 65536 in
set_option maxHeartbeats 40000000 in
theorem own_rm0 (l : Launch) (Z : State) (a0 : Array Value) (hw : ∀ d ∈ tables_1, d.before a0 Z = true) (ws : List Jvm.Cond) (p1 : Int32) (p2 : Int32) (p3 : Int32) (p4 : Int32) (p5 : Int32) (p6 : Int32) (h0 : Heap) (n0 : Nat) (Z0 : n0 ≤ h0.size) :
    MetFree l x (head1 (Jvm.Cond.code x code maxLocals ret :: ws) room_1) (fun a U => a = #[(.int p1), (.int p2), (.int p3), (.int p4), (.int p5), (.int p6)] ∧ Z.Warmed39 U.vm ∧ U.heap = h0) (fun _ _ _ _ _ => True) (fun _ U o U' => ∃ v L, o = .returned v ∧ own_Q0 Z p1 p2 p3 p4 p5 p6 h0 n0 v U'.heap L ∧ FrameEnd U o U' L room_1.cells room_1.slots) := by
  refine MetFree.of_bodySF (plainFor_of_name own_pn3) hisR ?_
  intro p e s m args below meth c s₁ Bd hml0 hP hK
  obtain ⟨rfl, hZ, hh⟩ := hP
  have hx := Bd.exec
  have hby := Bd.bytes
  have hml : c.maxLocals = 17 := hml0
  have hown : s.vm.findClass "com/example/corbel/corbel/ByteSlicesResumePinLaw" = some m.cls := findClass_of_methodNamed Bd.named
  have hnm := (name_of_methodNamed Bd.named Bd.method).1
  have X0 : Stand p l e room_1 s m #[(.int p1), (.int p2), (.int p3), (.int p4), (.int p5), (.int p6)] below meth c s₁ [] 0 0 := Stand.of_body Bd
  have e0 : s₁.heap = h0 := by rw [← hh, Bd.state]; rfl
  have N0 := Fr.nil n0
  show OE FrameEnd p e below s (own_Q0 Z p1 p2 p3 p4 p5 p6 h0 n0) room_1.cells room_1.slots s₁ (entryFrame m #[(.int p1), (.int p2), (.int p3), (.int p4), (.int p5), (.int p6)] maxLocals)
  rw [own_ef_own_rm0]
  show OE _ p e below s _ _ _ s₁ (mkF m 0 #[.val (.int p1), .val (.int p2), .val (.int p3), .val (.int p4), .val (.int p5), .val (.int p6), .unset, .unset, .unset, .unset, .unset, .unset, .unset, .unset, .unset, .unset, .unset] [])
  obtain ⟨T1, h1, X1, e1, E1, A1, D1, -, st1⟩ := newO X0 hx hZ hown (hw _ (List.mem_of_getElem? (i := 0) rfl)) (hw _ (List.mem_of_getElem? (i := 1) rfl)) (hw _ (List.mem_of_getElem? (i := 2) rfl)) e0 (g := (mkF m 0 #[.val (.int p1), .val (.int p2), .val (.int p3), .val (.int p4), .val (.int p5), .val (.int p6), .unset, .unset, .unset, .unset, .unset, .unset, .unset, .unset, .unset, .unset, .unset] [])) rfl (hb hby at_0) (by decide) (by decide)
  refine OE.of st1 ?_
  obtain ⟨b1, g1⟩ : ∃ z, z = h0.size := ⟨_, rfl⟩
  rw [← g1] at A1 D1 ⊢
  have g_b1 : n0 ≤ b1 := Nat.le_trans Z0 (Nat.le_of_eq g1.symm)
  have sz_b1 : h0.size ≤ b1 := Nat.le_trans (Keep.refl h0 []).1 (Nat.le_of_eq g1.symm)
  have F1_blocks : Fld Z h1 b1 "com/example/corbel/corbel/ByteSlices" "blocks" "[[B" .null := D1 (Or.inl (hw _ (List.mem_of_getElem? (i := 12) rfl))) (ty := (.array (.array .byte))) (by decide)
  have F1_blockUsed : Fld Z h1 b1 "com/example/corbel/corbel/ByteSlices" "blockUsed" "I" (.int (0 : Int32)) := D1 (Or.inl (hw _ (List.mem_of_getElem? (i := 15) rfl))) (ty := .int) (by decide)
  have F1_blockCount : Fld Z h1 b1 "com/example/corbel/corbel/ByteSlices" "blockCount" "I" (.int (0 : Int32)) := D1 (Or.inl (hw _ (List.mem_of_getElem? (i := 27) rfl))) (ty := .int) (by decide)
  have F1_bytesUsed : Fld Z h1 b1 "com/example/corbel/corbel/ByteSlices" "bytesUsed" "J" (.long (0 : Int64)) := D1 (Or.inl (hw _ (List.mem_of_getElem? (i := 31) rfl))) (ty := .long) (by decide)
  show OE _ p e below s _ _ _ T1 (mkF m 3 #[.val (.int p1), .val (.int p2), .val (.int p3), .val (.int p4), .val (.int p5), .val (.int p6), .unset, .unset, .unset, .unset, .unset, .unset, .unset, .unset, .unset, .unset, .unset] [(.ref b1)])
  refine OE.dup X1 hx hby at_3 rfl ?_
  have z2 : n0 ≤ h1.size := (Nat.le_trans Z0 E1.1)
  obtain ⟨_, _, ⟨T3, L3, k3, n3⟩, -, X3, ⟨Lc3, hQ3, l3, y3, z3⟩, st3⟩ := X1.specialBack hx (y := (⟨"com/example/corbel/corbel/ByteSlices", "<init>", "()V"⟩ : MethodName)) rfl hown (mvT hZ (hw _ (List.mem_of_getElem? (i := 3) rfl))) (mvT hZ (hw _ (List.mem_of_getElem? (i := 4) rfl))) (mvT hZ (hw _ (List.mem_of_getElem? (i := 5) rfl))) (by decide) (backOf (W := 1) (own_rm1 l Z a0 hw [] b1 h1 n0 z2 A1 F1_blocks F1_blockUsed F1_blockCount F1_bytesUsed g_b1) hZ (hw _ (List.mem_of_getElem? (i := 5) rfl)) (hw _ (List.mem_of_getElem? (i := 2) rfl)) (by decide) (by decide)) (g := (mkF m 4 #[.val (.int p1), .val (.int p2), .val (.int p3), .val (.int p4), .val (.int p5), .val (.int p6), .unset, .unset, .unset, .unset, .unset, .unset, .unset, .unset, .unset, .unset, .unset] [(.ref b1), (.ref b1)])) rfl (by rw [hml]; rfl) (Steps.refl _) (a := b1) (argsL := []) (rest := [(.ref b1)]) (lenOf own_pd1 rfl) rfl (by show 2 * 0 + _ ≤ _; exact Nat.le_of_eq rfl) (hb hby at_4) (fun _ _ => ⟨rfl, e1, (by decide : 1 + 1 ≤ _), (by decide : 4 + 16 ≤ _)⟩)
  dsimp only [Pt.U, Pt.locs, Pt.cells, Pt.slots] at X3 l3 y3 z3 st3 hQ3
  subst l3 y3 z3
  obtain ⟨r3_bl, r3_kb, rfl, Nq3, K3, q3_0, q3_1, q3_2, q3_3, q3_4, q3_5, h3_sb, h3_ob⟩ := hQ3
  refine OE.of (fun _ k => st3.trans k) ?_
  have N3 := Fr.app N0 Nq3
  have ne_b1_r3_bl : b1 ≠ r3_bl := Nat.ne_of_lt (Nat.lt_of_lt_of_le A1.lt h3_sb)
  have g_r3_bl : n0 ≤ r3_bl := Nat.le_trans z2 h3_sb
  have K4 : Keep h0 h1 [] := (Keep.ext (Keep.refl h0 []) E1)
  have sz_r3_bl : h0.size ≤ r3_bl := Nat.le_trans K4.1 h3_sb
  show OE _ p e below s _ _ _ T3 (mkF m 7 #[.val (.int p1), .val (.int p2), .val (.int p3), .val (.int p4), .val (.int p5), .val (.int p6), .unset, .unset, .unset, .unset, .unset, .unset, .unset, .unset, .unset, .unset, .unset] [(.ref b1)])
  have ob1 := h3_ob
  refine OE.astore X3 hx hby at_7 rfl (l' := #[.val (.int p1), .val (.int p2), .val (.int p3), .val (.int p4), .val (.int p5), .val (.int p6), .val (.ref b1), .unset, .unset, .unset, .unset, .unset, .unset, .unset, .unset, .unset, .unset]) rfl ?_
  refine OE.iconst X3 hx hby at_9 (2 : Int32) rfl ?_
  obtain ⟨T5, h5, k5, X5, e5, E5, A5, B5, st5⟩ := newPE X3 hx hZ (hw _ (List.mem_of_getElem? (i := 16) rfl)) rfl (g := (mkF m 10 #[.val (.int p1), .val (.int p2), .val (.int p3), .val (.int p4), .val (.int p5), .val (.int p6), .val (.ref b1), .unset, .unset, .unset, .unset, .unset, .unset, .unset, .unset, .unset, .unset] [(.int (2 : Int32))])) rfl (hb hby at_10) rfl (by decide) (cap := 2) (by decide) (by decide) (by decide) (by decide) (ad := "[B") (by decide)
  refine OE.of st5 ?_
  obtain ⟨b5, g5⟩ : ∃ z, z = T3.heap.size := ⟨_, rfl⟩
  rw [← g5] at A5 B5 ⊢
  have ne_b1_b5 : b1 ≠ b5 := Nat.ne_of_lt (Nat.lt_of_lt_of_le q3_0.lt (Nat.le_of_eq g5.symm))
  have ne_r3_bl_b5 : r3_bl ≠ b5 := Nat.ne_of_lt (Nat.lt_of_lt_of_le q3_5.lt (Nat.le_of_eq g5.symm))
  have z6 : n0 ≤ T3.heap.size := (Nat.le_trans z2 K3.1)
  have g_b5 : n0 ≤ b5 := Nat.le_trans z6 (Nat.le_of_eq g5.symm)
  have K7 : Keep h0 T3.heap [] := (Keep.trans K4 K3 (allS (Or.inr sz_b1) all0))
  have sz_b5 : h0.size ≤ b5 := Nat.le_trans K7.1 (Nat.le_of_eq g5.symm)
  have V5 : Arv Z h5 b5 k5 .byte (2 : Int32) [(.int (0 : Int32)), (.int (0 : Int32))] (.int (0 : Int32)) := (Arv.new A5 (by decide)).pad (pad_rep [] (.int (0 : Int32)) 2)
  show OE _ p e below s _ _ _ T5 (mkF m 12 #[.val (.int p1), .val (.int p2), .val (.int p3), .val (.int p4), .val (.int p5), .val (.int p6), .val (.ref b1), .unset, .unset, .unset, .unset, .unset, .unset, .unset, .unset, .unset, .unset] [(.ref b5)])
  refine OE.astore X5 hx hby at_12 rfl (l' := #[.val (.int p1), .val (.int p2), .val (.int p3), .val (.int p4), .val (.int p5), .val (.int p6), .val (.ref b1), .val (.ref b5), .unset, .unset, .unset, .unset, .unset, .unset, .unset, .unset, .unset]) rfl ?_
  refine OE.aload X5 hx hby at_14 rfl rfl ?_
  refine OE.iconst X5 hx hby at_16 (0 : Int32) rfl ?_
  refine OE.iload X5 hx hby at_17 rfl ?_
  refine OE.i2b X5 hx hby at_19 ?_
  have Vo8 := V5
  obtain ⟨cl8, Ar8, qz8, Sz8, Nz8, Hz8, Gz8⟩ := Vo8
  have hin8 : ¬ ((0 : Int32) < 0 ∨ cl8.slots.size ≤ ((0 : Int32)).toNatClampNeg) := inb_of Sz8 ⟨by decide, by decide⟩
  obtain ⟨T8, h8, X8, e8, W8, st8⟩ := stB X5 hx hZ e5 Ar8 (j := (0 : Int32)) hin8 (g := (mkF m 20 #[.val (.int p1), .val (.int p2), .val (.int p3), .val (.int p4), .val (.int p5), .val (.int p6), .val (.ref b1), .val (.ref b5), .unset, .unset, .unset, .unset, .unset, .unset, .unset, .unset, .unset] [(.int (p5.toInt8.toInt32)), (.int (0 : Int32)), (.ref b5)])) rfl rfl (hb hby at_20)
  refine OE.of st8 ?_
  have V8 : Arv Z h8 b5 k5 .byte (2 : Int32) [(.int (p5.toInt8.toInt32).toInt8.toInt32), (.int (0 : Int32))] (.int (0 : Int32)) := Arv.set Ar8 qz8 Sz8 Nz8 Hz8 Gz8 (fits_nar_byte _) W8 0 rfl (Nat.le_of_ble_eq_true rfl)
  have N8 := Fr.snoc X8 N3 g_b5
  show OE _ p e below s _ _ _ T8 (mkF m 21 #[.val (.int p1), .val (.int p2), .val (.int p3), .val (.int p4), .val (.int p5), .val (.int p6), .val (.ref b1), .val (.ref b5), .unset, .unset, .unset, .unset, .unset, .unset, .unset, .unset, .unset] [])
  refine OE.aload X8 hx hby at_21 rfl rfl ?_
  refine OE.iconst X8 hx hby at_23 (1 : Int32) rfl ?_
  refine OE.iload X8 hx hby at_24 rfl ?_
  refine OE.bipush X8 hx hby at_26 (8 : Int32) rfl ?_
  refine OE.iushr X8 hx hby at_28 ?_
  refine OE.i2b X8 hx hby at_29 ?_
  have Vo9 := V8
  obtain ⟨cl9, Ar9, qz9, Sz9, Nz9, Hz9, Gz9⟩ := Vo9
  have hin9 : ¬ ((1 : Int32) < 0 ∨ cl9.slots.size ≤ ((1 : Int32)).toNatClampNeg) := inb_of Sz9 ⟨by decide, by decide⟩
  obtain ⟨T9, h9, X9, e9, W9, st9⟩ := stB X8 hx hZ e8 Ar9 (j := (1 : Int32)) hin9 (g := (mkF m 30 #[.val (.int p1), .val (.int p2), .val (.int p3), .val (.int p4), .val (.int p5), .val (.int p6), .val (.ref b1), .val (.ref b5), .unset, .unset, .unset, .unset, .unset, .unset, .unset, .unset, .unset] [(.int (((p5.toUInt32 >>> ((8 : Int32) &&& 31).toUInt32).toInt32).toInt8.toInt32)), (.int (1 : Int32)), (.ref b5)])) rfl rfl (hb hby at_30)
  refine OE.of st9 ?_
  have V9 : Arv Z h9 b5 k5 .byte (2 : Int32) [(.int (p5.toInt8.toInt32).toInt8.toInt32), (.int (((p5.toUInt32 >>> ((8 : Int32) &&& 31).toUInt32).toInt32).toInt8.toInt32).toInt8.toInt32)] (.int (0 : Int32)) := Arv.set Ar9 qz9 Sz9 Nz9 Hz9 Gz9 (fits_nar_byte _) W9 1 rfl (Nat.le_of_ble_eq_true rfl)
  have N9 := Fr.snoc X9 N8 g_b5
  show OE _ p e below s _ _ _ T9 (mkF m 31 #[.val (.int p1), .val (.int p2), .val (.int p3), .val (.int p4), .val (.int p5), .val (.int p6), .val (.ref b1), .val (.ref b5), .unset, .unset, .unset, .unset, .unset, .unset, .unset, .unset, .unset] [])
  refine OE.sipush X9 hx hby at_31 (32767 : Int32) rfl ?_
  obtain ⟨T10, h10, k10, X10, e10, E10, A10, B10, st10⟩ := newPE X9 hx hZ (hw _ (List.mem_of_getElem? (i := 16) rfl)) e9 (g := (mkF m 34 #[.val (.int p1), .val (.int p2), .val (.int p3), .val (.int p4), .val (.int p5), .val (.int p6), .val (.ref b1), .val (.ref b5), .unset, .unset, .unset, .unset, .unset, .unset, .unset, .unset, .unset] [(.int (32767 : Int32))])) rfl (hb hby at_34) rfl (by decide) (cap := 32767) (by decide) (by decide) (by decide) (by decide) (ad := "[B") (by decide)
  refine OE.of st10 ?_
  obtain ⟨b10, g10⟩ : ∃ z, z = h9.size := ⟨_, rfl⟩
  rw [← g10] at A10 B10 ⊢
  have f11 : Exa Z h9 b1 "com/example/corbel/corbel/ByteSlices" := (((q3_0.ext E5).wr W8).wr W9)
  have ne_b1_b10 : b1 ≠ b10 := Nat.ne_of_lt (Nat.lt_of_lt_of_le f11.lt (Nat.le_of_eq g10.symm))
  have ne_b5_b10 : b5 ≠ b10 := Nat.ne_of_lt (Nat.lt_of_lt_of_le V9.lt (Nat.le_of_eq g10.symm))
  have f12 : Arv Z h9 r3_bl r3_kb (.array .byte) (16 : Int32) [.null, .null, .null, .null, .null, .null, .null, .null, .null, .null, .null, .null, .null, .null, .null, .null] .null := (((q3_5.ext E5).other W8 ne_r3_bl_b5).other W9 ne_r3_bl_b5)
  have ne_r3_bl_b10 : r3_bl ≠ b10 := Nat.ne_of_lt (Nat.lt_of_lt_of_le f12.lt (Nat.le_of_eq g10.symm))
  have z13 : n0 ≤ h9.size := (Nat.le_trans (Nat.le_trans (Nat.le_trans z6 E5.1) (Nat.le_of_eq W8.size.symm)) (Nat.le_of_eq W9.size.symm))
  have g_b10 : n0 ≤ b10 := Nat.le_trans z13 (Nat.le_of_eq g10.symm)
  have K14 : Keep h0 h9 [] := (Keep.wr (Keep.wr (Keep.ext K7 E5) W8 (Or.inr sz_b5)) W9 (Or.inr sz_b5))
  have sz_b10 : h0.size ≤ b10 := Nat.le_trans K14.1 (Nat.le_of_eq g10.symm)
  have V10 : Arv Z h10 b10 k10 .byte (32767 : Int32) [] (.int (0 : Int32)) := Arv.new A10 (by decide)
  show OE _ p e below s _ _ _ T10 (mkF m 36 #[.val (.int p1), .val (.int p2), .val (.int p3), .val (.int p4), .val (.int p5), .val (.int p6), .val (.ref b1), .val (.ref b5), .unset, .unset, .unset, .unset, .unset, .unset, .unset, .unset, .unset] [(.ref b10)])
  refine OE.astore X10 hx hby at_36 rfl (l' := #[.val (.int p1), .val (.int p2), .val (.int p3), .val (.int p4), .val (.int p5), .val (.int p6), .val (.ref b1), .val (.ref b5), .val (.ref b10), .unset, .unset, .unset, .unset, .unset, .unset, .unset, .unset]) rfl ?_
  refine OE.aload X10 hx hby at_38 rfl rfl ?_
  refine OE.iconst X10 hx hby at_40 (0 : Int32) rfl ?_
  refine OE.iload X10 hx hby at_41 rfl ?_
  refine OE.bipush X10 hx hby at_43 (16 : Int32) rfl ?_
  refine OE.iushr X10 hx hby at_45 ?_
  refine OE.i2b X10 hx hby at_46 ?_
  have R15 : Arv Z h10 b10 k10 .byte (32767 : Int32) [(.int (0 : Int32)), (.int (0 : Int32))] (.int (0 : Int32)) := (V10).pad (pad_rep [] (.int (0 : Int32)) 2)
  have Vo16 := R15
  obtain ⟨cl16, Ar16, qz16, Sz16, Nz16, Hz16, Gz16⟩ := Vo16
  have hin16 : ¬ ((0 : Int32) < 0 ∨ cl16.slots.size ≤ ((0 : Int32)).toNatClampNeg) := inb_of Sz16 ⟨by decide, by decide⟩
  obtain ⟨T16, h16, X16, e16, W16, st16⟩ := stB X10 hx hZ e10 Ar16 (j := (0 : Int32)) hin16 (g := (mkF m 47 #[.val (.int p1), .val (.int p2), .val (.int p3), .val (.int p4), .val (.int p5), .val (.int p6), .val (.ref b1), .val (.ref b5), .val (.ref b10), .unset, .unset, .unset, .unset, .unset, .unset, .unset, .unset] [(.int (((p5.toUInt32 >>> ((16 : Int32) &&& 31).toUInt32).toInt32).toInt8.toInt32)), (.int (0 : Int32)), (.ref b10)])) rfl rfl (hb hby at_47)
  refine OE.of st16 ?_
  have V16 : Arv Z h16 b10 k10 .byte (32767 : Int32) [(.int (((p5.toUInt32 >>> ((16 : Int32) &&& 31).toUInt32).toInt32).toInt8.toInt32).toInt8.toInt32), (.int (0 : Int32))] (.int (0 : Int32)) := Arv.set Ar16 qz16 Sz16 Nz16 Hz16 Gz16 (fits_nar_byte _) W16 0 rfl (Nat.le_of_ble_eq_true rfl)
  have N16 := Fr.snoc X16 N9 g_b10
  show OE _ p e below s _ _ _ T16 (mkF m 48 #[.val (.int p1), .val (.int p2), .val (.int p3), .val (.int p4), .val (.int p5), .val (.int p6), .val (.ref b1), .val (.ref b5), .val (.ref b10), .unset, .unset, .unset, .unset, .unset, .unset, .unset, .unset] [])
  refine OE.aload X16 hx hby at_48 rfl rfl ?_
  refine OE.iconst X16 hx hby at_50 (1 : Int32) rfl ?_
  refine OE.iload X16 hx hby at_51 rfl ?_
  refine OE.bipush X16 hx hby at_53 (24 : Int32) rfl ?_
  refine OE.iushr X16 hx hby at_55 ?_
  refine OE.i2b X16 hx hby at_56 ?_
  have Vo17 := V16
  obtain ⟨cl17, Ar17, qz17, Sz17, Nz17, Hz17, Gz17⟩ := Vo17
  have hin17 : ¬ ((1 : Int32) < 0 ∨ cl17.slots.size ≤ ((1 : Int32)).toNatClampNeg) := inb_of Sz17 ⟨by decide, by decide⟩
  obtain ⟨T17, h17, X17, e17, W17, st17⟩ := stB X16 hx hZ e16 Ar17 (j := (1 : Int32)) hin17 (g := (mkF m 57 #[.val (.int p1), .val (.int p2), .val (.int p3), .val (.int p4), .val (.int p5), .val (.int p6), .val (.ref b1), .val (.ref b5), .val (.ref b10), .unset, .unset, .unset, .unset, .unset, .unset, .unset, .unset] [(.int (((p5.toUInt32 >>> ((24 : Int32) &&& 31).toUInt32).toInt32).toInt8.toInt32)), (.int (1 : Int32)), (.ref b10)])) rfl rfl (hb hby at_57)
  refine OE.of st17 ?_
  have V17 : Arv Z h17 b10 k10 .byte (32767 : Int32) [(.int (((p5.toUInt32 >>> ((16 : Int32) &&& 31).toUInt32).toInt32).toInt8.toInt32).toInt8.toInt32), (.int (((p5.toUInt32 >>> ((24 : Int32) &&& 31).toUInt32).toInt32).toInt8.toInt32).toInt8.toInt32)] (.int (0 : Int32)) := Arv.set Ar17 qz17 Sz17 Nz17 Hz17 Gz17 (fits_nar_byte _) W17 1 rfl (Nat.le_of_ble_eq_true rfl)
  have N17 := Fr.snoc X17 N16 g_b10
  show OE _ p e below s _ _ _ T17 (mkF m 58 #[.val (.int p1), .val (.int p2), .val (.int p3), .val (.int p4), .val (.int p5), .val (.int p6), .val (.ref b1), .val (.ref b5), .val (.ref b10), .unset, .unset, .unset, .unset, .unset, .unset, .unset, .unset] [])
  have f18 : Arv Z h17 b5 k5 .byte (2 : Int32) [(.int (p5.toInt8.toInt32).toInt8.toInt32), (.int (((p5.toUInt32 >>> ((8 : Int32) &&& 31).toUInt32).toInt32).toInt8.toInt32).toInt8.toInt32)] (.int (0 : Int32)) := (((V9.ext E10).other W16 ne_b5_b10).other W17 ne_b5_b10)
  obtain ⟨v0, ev0⟩ : ∃ z, z = (p5.toInt8.toInt32).toInt8.toInt32 := ⟨_, rfl⟩
  obtain ⟨v1, ev1⟩ : ∃ z, z = (((p5.toUInt32 >>> ((8 : Int32) &&& 31).toUInt32).toInt32).toInt8.toInt32).toInt8.toInt32 := ⟨_, rfl⟩
  have R19 : Arv Z h17 b5 k5 .byte (2 : Int32) [(.int v0), (.int v1)] (.int (0 : Int32)) := (by rw [ev0, ev1]; exact f18)
  obtain ⟨v2, ev2⟩ : ∃ z, z = (((p5.toUInt32 >>> ((16 : Int32) &&& 31).toUInt32).toInt32).toInt8.toInt32).toInt8.toInt32 := ⟨_, rfl⟩
  obtain ⟨v3, ev3⟩ : ∃ z, z = (((p5.toUInt32 >>> ((24 : Int32) &&& 31).toUInt32).toInt32).toInt8.toInt32).toInt8.toInt32 := ⟨_, rfl⟩
  have R20 : Arv Z h17 b10 k10 .byte (32767 : Int32) [(.int v2), (.int v3)] (.int (0 : Int32)) := (by rw [ev2, ev3]; exact V17)
  refine OE.aload X17 hx hby at_58 rfl rfl ?_
  refine OE.aload X17 hx hby at_60 rfl rfl ?_
  refine OE.iconst X17 hx hby at_62 (2 : Int32) rfl ?_
  have f21 : Exa Z h17 b1 "com/example/corbel/corbel/ByteSlices" := (((f11.ext E10).wr W16).wr W17)
  have f22 : Fld Z h17 b1 "com/example/corbel/corbel/ByteSlices" "blocks" "[[B" (.ref r3_bl) := ((((((q3_1.ext E5).other W8 (Or.inl ne_b1_b5)).other W9 (Or.inl ne_b1_b5)).ext E10).other W16 (Or.inl ne_b1_b10)).other W17 (Or.inl ne_b1_b10))
  have f23 : Fld Z h17 b1 "com/example/corbel/corbel/ByteSlices" "blockCount" "I" (.int (0 : Int32)) := ((((((q3_3.ext E5).other W8 (Or.inl ne_b1_b5)).other W9 (Or.inl ne_b1_b5)).ext E10).other W16 (Or.inl ne_b1_b10)).other W17 (Or.inl ne_b1_b10))
  have f24 : Fld Z h17 b1 "com/example/corbel/corbel/ByteSlices" "bytesUsed" "J" (.long (0 : Int64)) := ((((((q3_4.ext E5).other W8 (Or.inl ne_b1_b5)).other W9 (Or.inl ne_b1_b5)).ext E10).other W16 (Or.inl ne_b1_b10)).other W17 (Or.inl ne_b1_b10))
  have f25 : Arv Z h17 r3_bl r3_kb (.array .byte) (16 : Int32) [.null, .null, .null, .null, .null, .null, .null, .null, .null, .null, .null, .null, .null, .null, .null, .null] .null := (((f12.ext E10).other W16 ne_r3_bl_b10).other W17 ne_r3_bl_b10)
  have f26 : Fld Z h17 b1 "com/example/corbel/corbel/ByteSlices" "blockUsed" "I" (.int (32768 : Int32)) := ((((((q3_2.ext E5).other W8 (Or.inl ne_b1_b5)).other W9 (Or.inl ne_b1_b5)).ext E10).other W16 (Or.inl ne_b1_b10)).other W17 (Or.inl ne_b1_b10))
  have z27 : n0 ≤ h17.size := (Nat.le_trans (Nat.le_trans (Nat.le_trans z13 E10.1) (Nat.le_of_eq W16.size.symm)) (Nat.le_of_eq W17.size.symm))
  obtain ⟨cq28, kq28, qa28, qb28, qc28⟩ := isOf hZ e17 f21
  obtain ⟨_, _, ⟨T28, L28, k28, n28⟩, -, X28, ⟨Lc28, hQ28, l28, y28, z28⟩, st28⟩ := X17.virtualBack hx (y := (⟨"com/example/corbel/corbel/ByteSlices", "store", "([BI)I"⟩ : MethodName)) (z := (⟨"com/example/corbel/corbel/ByteSlices", "store", "([BI)I"⟩ : MethodName)) hown (mvT hZ (hw _ (List.mem_of_getElem? (i := 17) rfl))) (mvT hZ (hw _ (List.mem_of_getElem? (i := 18) rfl))) (notFace_of_selects (args := #[]) (mvT hZ (hw _ (List.mem_of_getElem? (i := 20) rfl)))) (mvT hZ (hw _ (List.mem_of_getElem? (i := 20) rfl))) (mvT hZ (hw _ (List.mem_of_getElem? (i := 19) rfl))) (by decide) (backOf (W := 0) (own_rm3_0 l Z a0 hw [] b1 b5 r3_bl r3_kb (0 : Int64) v0 v1 k5 h17 n0 z27 f21 f22 f23 f24 f25 g_b1 g_r3_bl (Ne.symm ne_b1_r3_bl) ob1 f26 R19 (Ne.symm ne_b1_b5) (Ne.symm ne_r3_bl_b5)) hZ (hw _ (List.mem_of_getElem? (i := 21) rfl)) (hw _ (List.mem_of_getElem? (i := 2) rfl)) (by decide) (by decide)) qa28 qc28 (g := (mkF m 63 #[.val (.int p1), .val (.int p2), .val (.int p3), .val (.int p4), .val (.int p5), .val (.int p6), .val (.ref b1), .val (.ref b5), .val (.ref b10), .unset, .unset, .unset, .unset, .unset, .unset, .unset, .unset] [(.int (2 : Int32)), (.ref b5), (.ref b1)])) rfl (by rw [hml]; rfl) (Steps.refl _) (argsL := [(.ref b5), (.int (2 : Int32))]) (rest := []) (lenOf own_pd2 rfl) rfl (by show 2 * 0 + _ ≤ _; exact Nat.le_of_eq rfl) (hb hby at_63) (fun _ _ => ⟨rfl, e17, (by decide : 4 + 1 ≤ _), (by decide : 32789 + 32768 ≤ _)⟩)
  dsimp only [Pt.U, Pt.locs, Pt.cells, Pt.slots] at X28 l28 y28 z28 st28 hQ28
  subst l28 y28 z28
  obtain ⟨r28_nb, r28_kn, rfl, Nq28, K28, q28_0, q28_1, q28_2, q28_3, q28_4, q28_5, q28_6, h28_sn⟩ := hQ28
  refine OE.of (fun _ k => st28.trans k) ?_
  have N28 := Fr.app N17 Nq28
  have ne_b1_r28_nb : b1 ≠ r28_nb := Nat.ne_of_lt (Nat.lt_of_lt_of_le f21.lt h28_sn)
  have ne_b10_r28_nb : b10 ≠ r28_nb := Nat.ne_of_lt (Nat.lt_of_lt_of_le R20.lt h28_sn)
  have ne_b5_r28_nb : b5 ≠ r28_nb := Nat.ne_of_lt (Nat.lt_of_lt_of_le R19.lt h28_sn)
  have ne_r3_bl_r28_nb : r3_bl ≠ r28_nb := Nat.ne_of_lt (Nat.lt_of_lt_of_le f25.lt h28_sn)
  have g_r28_nb : n0 ≤ r28_nb := Nat.le_trans z27 h28_sn
  have K29 : Keep h0 h17 [] := (Keep.wr (Keep.wr (Keep.ext K14 E10) W16 (Or.inr sz_b10)) W17 (Or.inr sz_b10))
  have sz_r28_nb : h0.size ≤ r28_nb := Nat.le_trans K29.1 h28_sn
  show OE _ p e below s _ _ _ T28 (mkF m 66 #[.val (.int p1), .val (.int p2), .val (.int p3), .val (.int p4), .val (.int p5), .val (.int p6), .val (.ref b1), .val (.ref b5), .val (.ref b10), .unset, .unset, .unset, .unset, .unset, .unset, .unset, .unset] [(.int (((0 : Int32) <<< ((15 : Int32) &&& 31)) + (0 : Int32)))])
  refine OE.pop X28 hx hby at_66 rfl ?_
  refine OE.aload X28 hx hby at_67 rfl rfl ?_
  refine OE.aload X28 hx hby at_69 rfl rfl ?_
  refine OE.sipush X28 hx hby at_71 (32767 : Int32) rfl ?_
  have f30 : Arv Z T28.heap b10 k10 .byte (32767 : Int32) [(.int v2), (.int v3)] (.int (0 : Int32)) := (R20.keep K28 (ninS (Ne.symm ne_b1_b10) (ninS (Ne.symm ne_r3_bl_b10) nin0)))
  have z31 : n0 ≤ T28.heap.size := (Nat.le_trans z27 K28.1)
  obtain ⟨cq32, kq32, qa32, qb32, qc32⟩ := isOf hZ rfl q28_0
  obtain ⟨_, _, ⟨T32, L32, k32, n32⟩, -, X32, ⟨Lc32, hQ32, l32, y32, z32⟩, st32⟩ := X28.virtualBack hx (y := (⟨"com/example/corbel/corbel/ByteSlices", "store", "([BI)I"⟩ : MethodName)) (z := (⟨"com/example/corbel/corbel/ByteSlices", "store", "([BI)I"⟩ : MethodName)) hown (mvT hZ (hw _ (List.mem_of_getElem? (i := 17) rfl))) (mvT hZ (hw _ (List.mem_of_getElem? (i := 18) rfl))) (notFace_of_selects (args := #[]) (mvT hZ (hw _ (List.mem_of_getElem? (i := 20) rfl)))) (mvT hZ (hw _ (List.mem_of_getElem? (i := 20) rfl))) (mvT hZ (hw _ (List.mem_of_getElem? (i := 19) rfl))) (by decide) (backOf (W := 0) (own_rm3_1 l Z a0 hw [] b1 b10 r3_bl r3_kb ((0 : Int64) + ((32768 : Int32).toInt64)) r28_nb v2 v3 k10 T28.heap n0 z31 q28_0 q28_1 q28_3 q28_4 q28_5 g_b1 g_r3_bl (Ne.symm ne_b1_r3_bl) ob1 q28_2 f30 (Ne.symm ne_b1_b10) (Ne.symm ne_r3_bl_b10)) hZ (hw _ (List.mem_of_getElem? (i := 21) rfl)) (hw _ (List.mem_of_getElem? (i := 2) rfl)) (by decide) (by decide)) qa32 qc32 (g := (mkF m 74 #[.val (.int p1), .val (.int p2), .val (.int p3), .val (.int p4), .val (.int p5), .val (.int p6), .val (.ref b1), .val (.ref b5), .val (.ref b10), .unset, .unset, .unset, .unset, .unset, .unset, .unset, .unset] [(.int (32767 : Int32)), (.ref b10), (.ref b1)])) rfl (by rw [hml]; rfl) (Steps.refl _) (argsL := [(.ref b10), (.int (32767 : Int32))]) (rest := []) (lenOf own_pd2 rfl) rfl (by show 2 * 0 + _ ≤ _; exact Nat.le_of_eq rfl) (hb hby at_74) (fun _ _ => ⟨rfl, rfl, (by decide : 5 + 1 ≤ _), (by decide : 65557 + 32768 ≤ _)⟩)
  dsimp only [Pt.U, Pt.locs, Pt.cells, Pt.slots] at X32 l32 y32 z32 st32 hQ32
  subst l32 y32 z32
  obtain ⟨r32_nb, r32_kn, rfl, Nq32, K32, q32_0, q32_1, q32_2, q32_3, q32_4, q32_5, q32_6, h32_sn⟩ := hQ32
  refine OE.of (fun _ k => st32.trans k) ?_
  have N32 := Fr.app N28 Nq32
  have ne_b1_r32_nb : b1 ≠ r32_nb := Nat.ne_of_lt (Nat.lt_of_lt_of_le q28_0.lt h32_sn)
  have ne_b10_r32_nb : b10 ≠ r32_nb := Nat.ne_of_lt (Nat.lt_of_lt_of_le f30.lt h32_sn)
  have f33 : Arv Z T28.heap b5 k5 .byte (2 : Int32) [(.int v0), (.int v1)] (.int (0 : Int32)) := (R19.keep K28 (ninS (Ne.symm ne_b1_b5) (ninS (Ne.symm ne_r3_bl_b5) nin0)))
  have ne_b5_r32_nb : b5 ≠ r32_nb := Nat.ne_of_lt (Nat.lt_of_lt_of_le f33.lt h32_sn)
  have ne_r28_nb_r32_nb : r28_nb ≠ r32_nb := Nat.ne_of_lt (Nat.lt_of_lt_of_le q28_6.lt h32_sn)
  have ne_r3_bl_r32_nb : r3_bl ≠ r32_nb := Nat.ne_of_lt (Nat.lt_of_lt_of_le q28_5.lt h32_sn)
  have g_r32_nb : n0 ≤ r32_nb := Nat.le_trans z31 h32_sn
  have K34 : Keep h0 T28.heap [] := (Keep.trans K29 K28 (allS (Or.inr sz_b1) (allS (Or.inr sz_r3_bl) all0)))
  have sz_r32_nb : h0.size ≤ r32_nb := Nat.le_trans K34.1 h32_sn
  show OE _ p e below s _ _ _ T32 (mkF m 77 #[.val (.int p1), .val (.int p2), .val (.int p3), .val (.int p4), .val (.int p5), .val (.int p6), .val (.ref b1), .val (.ref b5), .val (.ref b10), .unset, .unset, .unset, .unset, .unset, .unset, .unset, .unset] [(.int (((1 : Int32) <<< ((15 : Int32) &&& 31)) + (0 : Int32)))])
  refine OE.pop X32 hx hby at_77 rfl ?_
  obtain ⟨T35, h35, X35, e35, E35, A35, D35, -, st35⟩ := newO X32 hx hZ hown (hw _ (List.mem_of_getElem? (i := 36) rfl)) (hw _ (List.mem_of_getElem? (i := 37) rfl)) (hw _ (List.mem_of_getElem? (i := 38) rfl)) rfl (g := (mkF m 78 #[.val (.int p1), .val (.int p2), .val (.int p3), .val (.int p4), .val (.int p5), .val (.int p6), .val (.ref b1), .val (.ref b5), .val (.ref b10), .unset, .unset, .unset, .unset, .unset, .unset, .unset, .unset] [])) rfl (hb hby at_78) (by decide) (by decide)
  refine OE.of st35 ?_
  obtain ⟨b35, g35⟩ : ∃ z, z = T32.heap.size := ⟨_, rfl⟩
  rw [← g35] at A35 D35 ⊢
  have ne_b1_b35 : b1 ≠ b35 := Nat.ne_of_lt (Nat.lt_of_lt_of_le q32_0.lt (Nat.le_of_eq g35.symm))
  have f36 : Arv Z T32.heap b10 k10 .byte (32767 : Int32) [(.int v2), (.int v3)] (.int (0 : Int32)) := (f30.keep K32 (ninS (Ne.symm ne_b1_b10) (ninS (Ne.symm ne_r3_bl_b10) nin0)))
  have ne_b10_b35 : b10 ≠ b35 := Nat.ne_of_lt (Nat.lt_of_lt_of_le f36.lt (Nat.le_of_eq g35.symm))
  have f37 : Arv Z T32.heap b5 k5 .byte (2 : Int32) [(.int v0), (.int v1)] (.int (0 : Int32)) := (f33.keep K32 (ninS (Ne.symm ne_b1_b5) (ninS (Ne.symm ne_r3_bl_b5) nin0)))
  have ne_b5_b35 : b5 ≠ b35 := Nat.ne_of_lt (Nat.lt_of_lt_of_le f37.lt (Nat.le_of_eq g35.symm))
  have f38 : Arv Z T32.heap r28_nb r28_kn .byte (32768 : Int32) [(.int v0), (.int v1)] (.int (0 : Int32)) := (q28_6.keep K32 (ninS (Ne.symm ne_b1_r28_nb) (ninS (Ne.symm ne_r3_bl_r28_nb) nin0)))
  have ne_r28_nb_b35 : r28_nb ≠ b35 := Nat.ne_of_lt (Nat.lt_of_lt_of_le f38.lt (Nat.le_of_eq g35.symm))
  have ne_r32_nb_b35 : r32_nb ≠ b35 := Nat.ne_of_lt (Nat.lt_of_lt_of_le q32_6.lt (Nat.le_of_eq g35.symm))
  have ne_r3_bl_b35 : r3_bl ≠ b35 := Nat.ne_of_lt (Nat.lt_of_lt_of_le q32_5.lt (Nat.le_of_eq g35.symm))
  have z39 : n0 ≤ T32.heap.size := (Nat.le_trans z31 K32.1)
  have g_b35 : n0 ≤ b35 := Nat.le_trans z39 (Nat.le_of_eq g35.symm)
  have K40 : Keep h0 T32.heap [] := (Keep.trans K34 K32 (allS (Or.inr sz_b1) (allS (Or.inr sz_r3_bl) all0)))
  have sz_b35 : h0.size ≤ b35 := Nat.le_trans K40.1 (Nat.le_of_eq g35.symm)
  have F35_this_0 : Fld Z h35 b35 "com/example/corbel/corbel/ByteSlices$Reader" "this$0" "Lcom/example/corbel/corbel/ByteSlices;" .null := D35 (Or.inr (hw _ (List.mem_of_getElem? (i := 47) rfl))) (ty := (.object "com/example/corbel/corbel/ByteSlices")) (by decide)
  have F35_address : Fld Z h35 b35 "com/example/corbel/corbel/ByteSlices$Reader" "address" "I" (.int (0 : Int32)) := D35 (Or.inl (hw _ (List.mem_of_getElem? (i := 56) rfl))) (ty := .int) (by decide)
  have F35_limit : Fld Z h35 b35 "com/example/corbel/corbel/ByteSlices$Reader" "limit" "I" (.int (0 : Int32)) := D35 (Or.inl (hw _ (List.mem_of_getElem? (i := 58) rfl))) (ty := .int) (by decide)
  have F35_level : Fld Z h35 b35 "com/example/corbel/corbel/ByteSlices$Reader" "level" "I" (.int (0 : Int32)) := D35 (Or.inl (hw _ (List.mem_of_getElem? (i := 60) rfl))) (ty := .int) (by decide)
  have F35_end : Fld Z h35 b35 "com/example/corbel/corbel/ByteSlices$Reader" "end" "I" (.int (0 : Int32)) := D35 (Or.inl (hw _ (List.mem_of_getElem? (i := 62) rfl))) (ty := .int) (by decide)
  have F35_block : Fld Z h35 b35 "com/example/corbel/corbel/ByteSlices$Reader" "block" "[B" .null := D35 (Or.inl (hw _ (List.mem_of_getElem? (i := 65) rfl))) (ty := (.array .byte)) (by decide)
  show OE _ p e below s _ _ _ T35 (mkF m 81 #[.val (.int p1), .val (.int p2), .val (.int p3), .val (.int p4), .val (.int p5), .val (.int p6), .val (.ref b1), .val (.ref b5), .val (.ref b10), .unset, .unset, .unset, .unset, .unset, .unset, .unset, .unset] [(.ref b35)])
  refine OE.dup X35 hx hby at_81 rfl ?_
  refine OE.aload X35 hx hby at_82 rfl rfl ?_
  refine OE.dup X35 hx hby at_84 rfl ?_
  have z41 : n0 ≤ h35.size := (Nat.le_trans z39 E35.1)
  obtain ⟨_, _, ⟨T42, L42, k42, n42⟩, -, X42, ⟨Lc42, hQ42, l42, y42, z42⟩, st42⟩ := Jvm.LawKit.callS X35 hx (y := (⟨"java/util/Objects", "requireNonNull", "(Ljava/lang/Object;)Ljava/lang/Object;"⟩ : MethodName)) hown (mvT hZ (hw _ (List.mem_of_getElem? (i := 39) rfl))) (mvT hZ (hw _ (List.mem_of_getElem? (i := 40) rfl))) (mvT hZ (hw _ (List.mem_of_getElem? (i := 41) rfl))) (mvT hZ (hw _ (List.mem_of_getElem? (i := 42) rfl))) (by decide) (backOf (W := 3) (own_rm5 l Z a0 hw [] b1 h35 n0 z41 ) hZ (hw _ (List.mem_of_getElem? (i := 42) rfl)) (hw _ (List.mem_of_getElem? (i := 41) rfl)) (by decide) (by decide)) (g := (mkF m 85 #[.val (.int p1), .val (.int p2), .val (.int p3), .val (.int p4), .val (.int p5), .val (.int p6), .val (.ref b1), .val (.ref b5), .val (.ref b10), .unset, .unset, .unset, .unset, .unset, .unset, .unset, .unset] [(.ref b1), (.ref b1), (.ref b35), (.ref b35)])) rfl (by rw [hml]; rfl) (argsL := [(.ref b1)]) (rest := [(.ref b1), (.ref b35), (.ref b35)]) (lenOf own_pd3 rfl) rfl (by show 2 * 0 + _ ≤ _; exact Nat.le_of_eq rfl) (hb hby at_85) (fun _ _ => ⟨rfl, e35, (by decide : 7 + 0 ≤ _), (by decide : 98331 + 0 ≤ _)⟩)
  dsimp only [Pt.U, Pt.locs, Pt.cells, Pt.slots] at X42 l42 y42 z42 st42 hQ42
  subst l42 y42 z42
  obtain ⟨rfl, Nq42, eq42⟩ := hQ42
  refine OE.of (fun _ k => st42 _ k) ?_
  have N42 := Fr.app N32 Nq42
  show OE _ p e below s _ _ _ T42 (mkF m 88 #[.val (.int p1), .val (.int p2), .val (.int p3), .val (.int p4), .val (.int p5), .val (.int p6), .val (.ref b1), .val (.ref b5), .val (.ref b10), .unset, .unset, .unset, .unset, .unset, .unset, .unset, .unset] [(.ref b1), (.ref b1), (.ref b35), (.ref b35)])
  refine OE.pop X42 hx hby at_88 rfl ?_
  obtain ⟨_, _, ⟨T43, L43, k43, n43⟩, -, X43, ⟨Lc43, hQ43, l43, y43, z43⟩, st43⟩ := X42.specialBack hx (y := (⟨"com/example/corbel/corbel/ByteSlices$Reader", "<init>", "(Lcom/example/corbel/corbel/ByteSlices;)V"⟩ : MethodName)) rfl hown (mvT hZ (hw _ (List.mem_of_getElem? (i := 43) rfl))) (mvT hZ (hw _ (List.mem_of_getElem? (i := 44) rfl))) (mvT hZ (hw _ (List.mem_of_getElem? (i := 45) rfl))) (by decide) (backOf (W := 1) (own_rm6 l Z a0 hw [] b35 b1 h35 n0 z41 A35 F35_this_0 F35_address F35_limit F35_level F35_end F35_block g_b35) hZ (hw _ (List.mem_of_getElem? (i := 45) rfl)) (hw _ (List.mem_of_getElem? (i := 38) rfl)) (by decide) (by decide)) (g := (mkF m 89 #[.val (.int p1), .val (.int p2), .val (.int p3), .val (.int p4), .val (.int p5), .val (.int p6), .val (.ref b1), .val (.ref b5), .val (.ref b10), .unset, .unset, .unset, .unset, .unset, .unset, .unset, .unset] [(.ref b1), (.ref b35), (.ref b35)])) rfl (by rw [hml]; rfl) (Steps.refl _) (a := b35) (argsL := [(.ref b1)]) (rest := [(.ref b35)]) (lenOf own_pd4 rfl) rfl (by show 2 * 0 + _ ≤ _; exact Nat.le_of_eq rfl) (hb hby at_89) (fun _ _ => ⟨rfl, eq42, (by decide : 7 + 0 ≤ _), (by decide : 98331 + 0 ≤ _)⟩)
  dsimp only [Pt.U, Pt.locs, Pt.cells, Pt.slots] at X43 l43 y43 z43 st43 hQ43
  subst l43 y43 z43
  obtain ⟨rfl, Nq43, K43, q43_0, q43_1, q43_2, q43_3, q43_4, q43_5, q43_6⟩ := hQ43
  refine OE.of (fun _ k => st43.trans k) ?_
  have N43 := Fr.app N42 Nq43
  show OE _ p e below s _ _ _ T43 (mkF m 92 #[.val (.int p1), .val (.int p2), .val (.int p3), .val (.int p4), .val (.int p5), .val (.int p6), .val (.ref b1), .val (.ref b5), .val (.ref b10), .unset, .unset, .unset, .unset, .unset, .unset, .unset, .unset] [(.ref b35)])
  refine OE.astore X43 hx hby at_92 rfl (l' := #[.val (.int p1), .val (.int p2), .val (.int p3), .val (.int p4), .val (.int p5), .val (.int p6), .val (.ref b1), .val (.ref b5), .val (.ref b10), .val (.ref b35), .unset, .unset, .unset, .unset, .unset, .unset, .unset]) rfl ?_
  refine OE.iloadN X43 hx hby at_94 rfl ?_
  refine OE.of (X43.ldcInt hx hown (mvT hZ (hw _ (List.mem_of_getElem? (i := 49) rfl))) (g := (mkF m 95 #[.val (.int p1), .val (.int p2), .val (.int p3), .val (.int p4), .val (.int p5), .val (.int p6), .val (.ref b1), .val (.ref b5), .val (.ref b10), .val (.ref b35), .unset, .unset, .unset, .unset, .unset, .unset, .unset] [(.int p1)])) rfl (hb hby at_95)) ?_
  show OE _ p e below s _ _ _ T43 (mkF m 97 #[.val (.int p1), .val (.int p2), .val (.int p3), .val (.int p4), .val (.int p5), .val (.int p6), .val (.ref b1), .val (.ref b5), .val (.ref b10), .val (.ref b35), .unset, .unset, .unset, .unset, .unset, .unset, .unset] [(.int (65535 : Int32)), (.int p1)])
  refine OE.iand X43 hx hby at_97 ?_
  have ha := own_a p1
  obtain ⟨a, e_a⟩ : ∃ z, z = (p1 &&& (65535 : Int32)) := ⟨_, rfl⟩
  rw [← e_a]
  rw [← e_a] at ha
  show OE _ p e below s _ _ _ T43 (mkF m 98 #[.val (.int p1), .val (.int p2), .val (.int p3), .val (.int p4), .val (.int p5), .val (.int p6), .val (.ref b1), .val (.ref b5), .val (.ref b10), .val (.ref b35), .unset, .unset, .unset, .unset, .unset, .unset, .unset] [(.int a)])
  have f44 : Arv Z T43.heap r3_bl r3_kb (.array .byte) (16 : Int32) [(.ref r28_nb), (.ref r32_nb), .null, .null, .null, .null, .null, .null, .null, .null, .null, .null, .null, .null, .null, .null] .null := ((q32_5.ext E35).keep K43 (ninS ne_r3_bl_b35 nin0))
  have f45 : Fld Z T43.heap b1 "com/example/corbel/corbel/ByteSlices" "blocks" "[[B" (.ref r3_bl) := ((q32_1.ext E35).keep K43 (ninS ne_b1_b35 nin0))
  have f46 : Arv Z T43.heap r28_nb r28_kn .byte (32768 : Int32) [(.int v0), (.int v1)] (.int (0 : Int32)) := ((f38.ext E35).keep K43 (ninS ne_r28_nb_b35 nin0))
  have f47 : Arv Z T43.heap r32_nb r32_kn .byte (32768 : Int32) [(.int v2), (.int v3)] (.int (0 : Int32)) := ((q32_6.ext E35).keep K43 (ninS ne_r32_nb_b35 nin0))
  have cut130 : ∀ (lim : Int32) (en : Int32) (T48 : State) (H48 : Heap) (locs48 : List Loc) (cells48 : Nat) (slots48 : Nat), Stand p l e room_1 s m #[(.int p1), (.int p2), (.int p3), (.int p4), (.int p5), (.int p6)] below meth c T48 locs48 cells48 slots48 → T48.heap = H48 → Fr n0 locs48 → cells48 ≤ 7 → slots48 ≤ 98331 → n0 ≤ H48.size → Keep h0 H48 [] → Exa Z H48 b35 "com/example/corbel/corbel/ByteSlices$Reader" → Fld Z H48 b35 "com/example/corbel/corbel/ByteSlices$Reader" "this$0" "Lcom/example/corbel/corbel/ByteSlices;" (.ref b1) → Fld Z H48 b35 "com/example/corbel/corbel/ByteSlices$Reader" "address" "I" (.int (0 : Int32)) → Fld Z H48 b35 "com/example/corbel/corbel/ByteSlices$Reader" "limit" "I" (.int (0 : Int32)) → Fld Z H48 b35 "com/example/corbel/corbel/ByteSlices$Reader" "level" "I" (.int (0 : Int32)) → Fld Z H48 b35 "com/example/corbel/corbel/ByteSlices$Reader" "end" "I" (.int (0 : Int32)) → Fld Z H48 b35 "com/example/corbel/corbel/ByteSlices$Reader" "block" "[B" .null → Fld Z H48 b1 "com/example/corbel/corbel/ByteSlices" "blocks" "[[B" (.ref r3_bl) → Arv Z H48 r3_bl r3_kb (.array .byte) (16 : Int32) [(.ref r28_nb), (.ref r32_nb), .null, .null, .null, .null, .null, .null, .null, .null, .null, .null, .null, .null, .null, .null] .null → Arv Z H48 r28_nb r28_kn .byte (32768 : Int32) [(.int v0), (.int v1)] (.int (0 : Int32)) → Arv Z H48 r32_nb r32_kn .byte (32768 : Int32) [(.int v2), (.int v3)] (.int (0 : Int32)) → n0 ≤ b35 → h0.size ≤ b35 → OE FrameEnd p e below s (own_Q0 Z p1 p2 p3 p4 p5 p6 h0 n0) room_1.cells room_1.slots T48 (mkF m 130 #[.val (.int p1), .val (.int p2), .val (.int p3), .val (.int p4), .val (.int p5), .val (.int p6), .val (.ref b1), .val (.ref b5), .val (.ref b10), .val (.ref b35), .val (.int a), .val (.int lim), .val (.int en), .unset, .unset, .unset, .unset] []) := by
    intro lim en T48 H48 locs48 cells48 slots48 X48 e48 N48 hcl48 hsl48 z48 K48 u0 u1 u2 u3 u4 u5 u6 u7 u8 u9 u10 g_48_b35 sz_48_b35
    show OE _ p e below s _ _ _ T48 (mkF m 130 #[.val (.int p1), .val (.int p2), .val (.int p3), .val (.int p4), .val (.int p5), .val (.int p6), .val (.ref b1), .val (.ref b5), .val (.ref b10), .val (.ref b35), .val (.int a), .val (.int lim), .val (.int en), .unset, .unset, .unset, .unset] [])
    obtain ⟨hix, hin⟩ := ha
    rcases hix with hix | hix
    · skip
      refine OE.aload X48 hx hby at_130 rfl rfl ?_
      refine OE.iload X48 hx hby at_132 rfl ?_
      refine OE.iload X48 hx hby at_134 rfl ?_
      refine OE.iloadN X48 hx hby at_136 rfl ?_
      refine OE.iload X48 hx hby at_137 rfl ?_
      obtain ⟨cq49, kq49, qa49, qb49, qc49⟩ := isOf hZ e48 u0
      obtain ⟨_, _, ⟨T49, L49, k49, n49⟩, -, X49, ⟨Lc49, hQ49, l49, y49, z49⟩, st49⟩ := X48.virtualBack hx (y := (⟨"com/example/corbel/corbel/ByteSlices$Reader", "resume", "(IIII)V"⟩ : MethodName)) (z := (⟨"com/example/corbel/corbel/ByteSlices$Reader", "resume", "(IIII)V"⟩ : MethodName)) hown (mvT hZ (hw _ (List.mem_of_getElem? (i := 50) rfl))) (mvT hZ (hw _ (List.mem_of_getElem? (i := 51) rfl))) (notFace_of_selects (args := #[]) (mvT hZ (hw _ (List.mem_of_getElem? (i := 53) rfl)))) (mvT hZ (hw _ (List.mem_of_getElem? (i := 53) rfl))) (mvT hZ (hw _ (List.mem_of_getElem? (i := 52) rfl))) (by decide) (backOf (W := 0) (own_rm7_0 l Z a0 hw [] b35 a lim p3 en b1 r3_bl r3_kb r28_nb r32_nb H48 n0 z48 u0 u1 u2 u3 u4 u5 u6 u7 u8 g_48_b35 ne_b1_b35 ne_r3_bl_b35 hix) hZ (hw _ (List.mem_of_getElem? (i := 54) rfl)) (hw _ (List.mem_of_getElem? (i := 38) rfl)) (by decide) (by decide)) qa49 qc49 (g := (mkF m 139 #[.val (.int p1), .val (.int p2), .val (.int p3), .val (.int p4), .val (.int p5), .val (.int p6), .val (.ref b1), .val (.ref b5), .val (.ref b10), .val (.ref b35), .val (.int a), .val (.int lim), .val (.int en), .unset, .unset, .unset, .unset] [(.int en), (.int p3), (.int lim), (.int a), (.ref b35)])) rfl (by rw [hml]; rfl) (Steps.refl _) (argsL := [(.int a), (.int lim), (.int p3), (.int en)]) (rest := []) (lenOf own_pd5 rfl) rfl (by show 2 * 0 + _ ≤ _; exact Nat.le_of_eq rfl) (hb hby at_139) (fun _ _ => ⟨rfl, e48, (Nat.le_trans (Nat.add_le_add_right hcl48 0) (by decide)), (Nat.le_trans (Nat.add_le_add_right hsl48 0) (by decide))⟩)
      dsimp only [Pt.U, Pt.locs, Pt.cells, Pt.slots] at X49 l49 y49 z49 st49 hQ49
      subst l49 y49 z49
      obtain ⟨rfl, Nq49, K49, q49_0, q49_1, q49_2, q49_3, q49_4, q49_5⟩ := hQ49
      refine OE.of (fun _ k => st49.trans k) ?_
      have N49 := Fr.app N48 Nq49
      show OE _ p e below s _ _ _ T49 (mkF m 142 #[.val (.int p1), .val (.int p2), .val (.int p3), .val (.int p4), .val (.int p5), .val (.int p6), .val (.ref b1), .val (.ref b5), .val (.ref b10), .val (.ref b35), .val (.int a), .val (.int lim), .val (.int en), .unset, .unset, .unset, .unset] [])
      refine OE.aload X49 hx hby at_142 rfl rfl ?_
      have z50 : n0 ≤ T49.heap.size := (Nat.le_trans z48 K49.1)
      obtain ⟨cq51, kq51, qa51, qb51, qc51⟩ := isOf hZ rfl q49_0
      obtain ⟨_, _, ⟨T51, L51, k51, n51⟩, -, X51, ⟨Lc51, hQ51, l51, y51, z51⟩, st51⟩ := X49.virtualBack hx (y := (⟨"com/example/corbel/corbel/ByteSlices$Reader", "address", "()I"⟩ : MethodName)) (z := (⟨"com/example/corbel/corbel/ByteSlices$Reader", "address", "()I"⟩ : MethodName)) hown (mvT hZ (hw _ (List.mem_of_getElem? (i := 66) rfl))) (mvT hZ (hw _ (List.mem_of_getElem? (i := 67) rfl))) (notFace_of_selects (args := #[]) (mvT hZ (hw _ (List.mem_of_getElem? (i := 69) rfl)))) (mvT hZ (hw _ (List.mem_of_getElem? (i := 69) rfl))) (mvT hZ (hw _ (List.mem_of_getElem? (i := 68) rfl))) (by decide) (backOf (W := 0) (own_rm8 l Z a0 hw [] b35 a T49.heap n0 z50 q49_1) hZ (hw _ (List.mem_of_getElem? (i := 70) rfl)) (hw _ (List.mem_of_getElem? (i := 38) rfl)) (by decide) (by decide)) qa51 qc51 (g := (mkF m 144 #[.val (.int p1), .val (.int p2), .val (.int p3), .val (.int p4), .val (.int p5), .val (.int p6), .val (.ref b1), .val (.ref b5), .val (.ref b10), .val (.ref b35), .val (.int a), .val (.int lim), .val (.int en), .unset, .unset, .unset, .unset] [(.ref b35)])) rfl (by rw [hml]; rfl) (Steps.refl _) (argsL := []) (rest := []) (lenOf own_pd6 rfl) rfl (by show 2 * 0 + _ ≤ _; exact Nat.le_of_eq rfl) (hb hby at_144) (fun _ _ => ⟨rfl, rfl, (Nat.le_trans (Nat.add_le_add_right (Nat.add_le_add_right hcl48 0) 0) (by decide)), (Nat.le_trans (Nat.add_le_add_right (Nat.add_le_add_right hsl48 0) 0) (by decide))⟩)
      dsimp only [Pt.U, Pt.locs, Pt.cells, Pt.slots] at X51 l51 y51 z51 st51 hQ51
      subst l51 y51 z51
      obtain ⟨rfl, Nq51, eq51⟩ := hQ51
      refine OE.of (fun _ k => st51.trans k) ?_
      have N51 := Fr.app N49 Nq51
      show OE _ p e below s _ _ _ T51 (mkF m 147 #[.val (.int p1), .val (.int p2), .val (.int p3), .val (.int p4), .val (.int p5), .val (.int p6), .val (.ref b1), .val (.ref b5), .val (.ref b10), .val (.ref b35), .val (.int a), .val (.int lim), .val (.int en), .unset, .unset, .unset, .unset] [(.int a)])
      refine OE.iload X51 hx hby at_147 rfl ?_
      refine OE.icmpNo X51 hx hby at_149 (teq (rfl : a = a)).2 ?_
      refine OE.aload X51 hx hby at_152 rfl rfl ?_
      obtain ⟨cq52, kq52, qa52, qb52, qc52⟩ := isOf hZ eq51 q49_0
      obtain ⟨_, _, ⟨T52, L52, k52, n52⟩, -, X52, ⟨Lc52, hQ52, l52, y52, z52⟩, st52⟩ := X51.virtualBack hx (y := (⟨"com/example/corbel/corbel/ByteSlices$Reader", "limit", "()I"⟩ : MethodName)) (z := (⟨"com/example/corbel/corbel/ByteSlices$Reader", "limit", "()I"⟩ : MethodName)) hown (mvT hZ (hw _ (List.mem_of_getElem? (i := 71) rfl))) (mvT hZ (hw _ (List.mem_of_getElem? (i := 72) rfl))) (notFace_of_selects (args := #[]) (mvT hZ (hw _ (List.mem_of_getElem? (i := 74) rfl)))) (mvT hZ (hw _ (List.mem_of_getElem? (i := 74) rfl))) (mvT hZ (hw _ (List.mem_of_getElem? (i := 73) rfl))) (by decide) (backOf (W := 0) (own_rm9 l Z a0 hw [] b35 lim T49.heap n0 z50 q49_2) hZ (hw _ (List.mem_of_getElem? (i := 75) rfl)) (hw _ (List.mem_of_getElem? (i := 38) rfl)) (by decide) (by decide)) qa52 qc52 (g := (mkF m 154 #[.val (.int p1), .val (.int p2), .val (.int p3), .val (.int p4), .val (.int p5), .val (.int p6), .val (.ref b1), .val (.ref b5), .val (.ref b10), .val (.ref b35), .val (.int a), .val (.int lim), .val (.int en), .unset, .unset, .unset, .unset] [(.ref b35)])) rfl (by rw [hml]; rfl) (Steps.refl _) (argsL := []) (rest := []) (lenOf own_pd6 rfl) rfl (by show 2 * 0 + _ ≤ _; exact Nat.le_of_eq rfl) (hb hby at_154) (fun _ _ => ⟨rfl, eq51, (Nat.le_trans (Nat.add_le_add_right (Nat.add_le_add_right (Nat.add_le_add_right hcl48 0) 0) 0) (by decide)), (Nat.le_trans (Nat.add_le_add_right (Nat.add_le_add_right (Nat.add_le_add_right hsl48 0) 0) 0) (by decide))⟩)
      dsimp only [Pt.U, Pt.locs, Pt.cells, Pt.slots] at X52 l52 y52 z52 st52 hQ52
      subst l52 y52 z52
      obtain ⟨rfl, Nq52, eq52⟩ := hQ52
      refine OE.of (fun _ k => st52.trans k) ?_
      have N52 := Fr.app N51 Nq52
      show OE _ p e below s _ _ _ T52 (mkF m 157 #[.val (.int p1), .val (.int p2), .val (.int p3), .val (.int p4), .val (.int p5), .val (.int p6), .val (.ref b1), .val (.ref b5), .val (.ref b10), .val (.ref b35), .val (.int a), .val (.int lim), .val (.int en), .unset, .unset, .unset, .unset] [(.int lim)])
      refine OE.iload X52 hx hby at_157 rfl ?_
      refine OE.icmpNo X52 hx hby at_159 (teq (rfl : lim = lim)).2 ?_
      refine OE.aload X52 hx hby at_162 rfl rfl ?_
      obtain ⟨cq53, kq53, qa53, qb53, qc53⟩ := isOf hZ eq52 q49_0
      obtain ⟨_, _, ⟨T53, L53, k53, n53⟩, -, X53, ⟨Lc53, hQ53, l53, y53, z53⟩, st53⟩ := X52.virtualBack hx (y := (⟨"com/example/corbel/corbel/ByteSlices$Reader", "level", "()I"⟩ : MethodName)) (z := (⟨"com/example/corbel/corbel/ByteSlices$Reader", "level", "()I"⟩ : MethodName)) hown (mvT hZ (hw _ (List.mem_of_getElem? (i := 76) rfl))) (mvT hZ (hw _ (List.mem_of_getElem? (i := 77) rfl))) (notFace_of_selects (args := #[]) (mvT hZ (hw _ (List.mem_of_getElem? (i := 79) rfl)))) (mvT hZ (hw _ (List.mem_of_getElem? (i := 79) rfl))) (mvT hZ (hw _ (List.mem_of_getElem? (i := 78) rfl))) (by decide) (backOf (W := 0) (own_rm10 l Z a0 hw [] b35 p3 T49.heap n0 z50 q49_3) hZ (hw _ (List.mem_of_getElem? (i := 80) rfl)) (hw _ (List.mem_of_getElem? (i := 38) rfl)) (by decide) (by decide)) qa53 qc53 (g := (mkF m 164 #[.val (.int p1), .val (.int p2), .val (.int p3), .val (.int p4), .val (.int p5), .val (.int p6), .val (.ref b1), .val (.ref b5), .val (.ref b10), .val (.ref b35), .val (.int a), .val (.int lim), .val (.int en), .unset, .unset, .unset, .unset] [(.ref b35)])) rfl (by rw [hml]; rfl) (Steps.refl _) (argsL := []) (rest := []) (lenOf own_pd6 rfl) rfl (by show 2 * 0 + _ ≤ _; exact Nat.le_of_eq rfl) (hb hby at_164) (fun _ _ => ⟨rfl, eq52, (Nat.le_trans (Nat.add_le_add_right (Nat.add_le_add_right (Nat.add_le_add_right (Nat.add_le_add_right hcl48 0) 0) 0) 0) (by decide)), (Nat.le_trans (Nat.add_le_add_right (Nat.add_le_add_right (Nat.add_le_add_right (Nat.add_le_add_right hsl48 0) 0) 0) 0) (by decide))⟩)
      dsimp only [Pt.U, Pt.locs, Pt.cells, Pt.slots] at X53 l53 y53 z53 st53 hQ53
      subst l53 y53 z53
      obtain ⟨rfl, Nq53, eq53⟩ := hQ53
      refine OE.of (fun _ k => st53.trans k) ?_
      have N53 := Fr.app N52 Nq53
      show OE _ p e below s _ _ _ T53 (mkF m 167 #[.val (.int p1), .val (.int p2), .val (.int p3), .val (.int p4), .val (.int p5), .val (.int p6), .val (.ref b1), .val (.ref b5), .val (.ref b10), .val (.ref b35), .val (.int a), .val (.int lim), .val (.int en), .unset, .unset, .unset, .unset] [(.int p3)])
      refine OE.iloadN X53 hx hby at_167 rfl ?_
      refine OE.icmpNo X53 hx hby at_168 (teq (rfl : p3 = p3)).2 ?_
      refine OE.aload X53 hx hby at_171 rfl rfl ?_
      obtain ⟨cq54, kq54, qa54, qb54, qc54⟩ := isOf hZ eq53 q49_0
      obtain ⟨_, _, ⟨T54, L54, k54, n54⟩, -, X54, ⟨Lc54, hQ54, l54, y54, z54⟩, st54⟩ := X53.virtualBack hx (y := (⟨"com/example/corbel/corbel/ByteSlices$Reader", "atEnd", "()Z"⟩ : MethodName)) (z := (⟨"com/example/corbel/corbel/ByteSlices$Reader", "atEnd", "()Z"⟩ : MethodName)) hown (mvT hZ (hw _ (List.mem_of_getElem? (i := 81) rfl))) (mvT hZ (hw _ (List.mem_of_getElem? (i := 82) rfl))) (notFace_of_selects (args := #[]) (mvT hZ (hw _ (List.mem_of_getElem? (i := 84) rfl)))) (mvT hZ (hw _ (List.mem_of_getElem? (i := 84) rfl))) (mvT hZ (hw _ (List.mem_of_getElem? (i := 83) rfl))) (by decide) (backOf (W := 0) (own_rm11 l Z a0 hw [] b35 a en T49.heap n0 z50 q49_1 q49_4) hZ (hw _ (List.mem_of_getElem? (i := 85) rfl)) (hw _ (List.mem_of_getElem? (i := 38) rfl)) (by decide) (by decide)) qa54 qc54 (g := (mkF m 173 #[.val (.int p1), .val (.int p2), .val (.int p3), .val (.int p4), .val (.int p5), .val (.int p6), .val (.ref b1), .val (.ref b5), .val (.ref b10), .val (.ref b35), .val (.int a), .val (.int lim), .val (.int en), .unset, .unset, .unset, .unset] [(.ref b35)])) rfl (by rw [hml]; rfl) (Steps.refl _) (argsL := []) (rest := []) (lenOf own_pd7 rfl) rfl (by show 2 * 0 + _ ≤ _; exact Nat.le_of_eq rfl) (hb hby at_173) (fun _ _ => ⟨rfl, eq53, (Nat.le_trans (Nat.add_le_add_right (Nat.add_le_add_right (Nat.add_le_add_right (Nat.add_le_add_right (Nat.add_le_add_right hcl48 0) 0) 0) 0) 0) (by decide)), (Nat.le_trans (Nat.add_le_add_right (Nat.add_le_add_right (Nat.add_le_add_right (Nat.add_le_add_right (Nat.add_le_add_right hsl48 0) 0) 0) 0) 0) (by decide))⟩)
      dsimp only [Pt.U, Pt.locs, Pt.cells, Pt.slots] at X54 l54 y54 z54 st54 hQ54
      subst l54 y54 z54
      obtain ⟨rfl, Nq54, eq54⟩ := hQ54
      refine OE.of (fun _ k => st54.trans k) ?_
      have N54 := Fr.app N53 Nq54
      show OE _ p e below s _ _ _ T54 (mkF m 176 #[.val (.int p1), .val (.int p2), .val (.int p3), .val (.int p4), .val (.int p5), .val (.int p6), .val (.ref b1), .val (.ref b5), .val (.ref b10), .val (.ref b35), .val (.int a), .val (.int lim), .val (.int en), .unset, .unset, .unset, .unset] [(.int (if a = en then (1 : Int32) else (0 : Int32)))])
      by_cases hl55 : a = en
      · skip
        rw [if_pos (show a = en from hl55)]
        show OE _ p e below s _ _ _ T54 (mkF m 176 #[.val (.int p1), .val (.int p2), .val (.int p3), .val (.int p4), .val (.int p5), .val (.int p6), .val (.ref b1), .val (.ref b5), .val (.ref b10), .val (.ref b35), .val (.int a), .val (.int lim), .val (.int en), .unset, .unset, .unset, .unset] [(.int (1 : Int32))])
        refine OE.iload X54 hx hby at_176 rfl ?_
        refine OE.iload X54 hx hby at_178 rfl ?_
        refine OE.icmpNo X54 hx hby at_180 (teq (hl55 : a = en)).2 ?_
        refine OE.iconst X54 hx hby at_183 (1 : Int32) rfl ?_
        refine OE.goto X54 hx hby (pc' := 188) at_184 (h := ?_)
        refine OE.icmpNo X54 hx hby at_188 (teq (by decide : (1 : Int32) = (1 : Int32))).2 ?_
        refine OE.iconst X54 hx hby at_191 (1 : Int32) rfl ?_
        refine OE.goto X54 hx hby (pc' := 196) at_192 (h := ?_)
        refine OE.istore X54 hx hby at_196 (l' := #[.val (.int p1), .val (.int p2), .val (.int p3), .val (.int p4), .val (.int p5), .val (.int p6), .val (.ref b1), .val (.ref b5), .val (.ref b10), .val (.ref b35), .val (.int a), .val (.int lim), .val (.int en), .val (.int (1 : Int32)), .unset, .unset, .unset]) rfl ?_
        refine OE.iload X54 hx hby at_198 rfl ?_
        refine OE.ifYes X54 hx hby (pc' := 205) at_200 (feq (by decide : ¬ ((1 : Int32) = (0 : Int32)))).2 (h := ?_)
        refine OE.iload X54 hx hby at_205 rfl ?_
        refine OE.iload X54 hx hby at_207 rfl ?_
        by_cases hc209 : lim = a
        · skip
          refine OE.icmpNo X54 hx hby at_209 (teq hc209).2 ?_
          refine OE.iconst X54 hx hby at_212 (1 : Int32) rfl ?_
          refine OE.retN X54 hx (t := .boolean) Bd.returns (by simp) Bd.notSynchronized (hb hby at_213) (Nat.le_trans (Nat.add_le_add_right (Nat.add_le_add_right (Nat.add_le_add_right (Nat.add_le_add_right (Nat.add_le_add_right hcl48 0) 0) 0) 0) 0) (by decide)) (Nat.le_trans (Nat.add_le_add_right (Nat.add_le_add_right (Nat.add_le_add_right (Nat.add_le_add_right (Nat.add_le_add_right hsl48 0) 0) 0) 0) 0) (by decide)) ?_
          rw [eq54]
          exact ⟨rfl, N54⟩
        · skip
          refine OE.icmpYes X54 hx hby (pc' := 214) at_209 (feq hc209).2 (h := ?_)
          refine OE.iload X54 hx hby at_214 rfl ?_
          refine OE.bipush X54 hx hby at_216 (15 : Int32) rfl ?_
          refine OE.iushr X54 hx hby at_218 ?_
          refine OE.iconst X54 hx hby at_219 (1 : Int32) rfl ?_
          refine OE.iand X54 hx hby at_220 ?_
          rw [hix]
          rw [(by decide : ((0 : Int32) &&& (1 : Int32)) = (0 : Int32))]
          show OE _ p e below s _ _ _ T54 (mkF m 221 #[.val (.int p1), .val (.int p2), .val (.int p3), .val (.int p4), .val (.int p5), .val (.int p6), .val (.ref b1), .val (.ref b5), .val (.ref b10), .val (.ref b35), .val (.int a), .val (.int lim), .val (.int en), .val (.int (1 : Int32)), .unset, .unset, .unset] [(.int (0 : Int32))])
          refine OE.istore X54 hx hby at_221 (l' := #[.val (.int p1), .val (.int p2), .val (.int p3), .val (.int p4), .val (.int p5), .val (.int p6), .val (.ref b1), .val (.ref b5), .val (.ref b10), .val (.ref b35), .val (.int a), .val (.int lim), .val (.int en), .val (.int (1 : Int32)), .val (.int (0 : Int32)), .unset, .unset]) rfl ?_
          refine OE.iload X54 hx hby at_223 rfl ?_
          refine OE.sipush X54 hx hby at_225 (32767 : Int32) rfl ?_
          refine OE.iand X54 hx hby at_228 ?_
          obtain ⟨off, e_off⟩ : ∃ z, z = (a &&& (32767 : Int32)) := ⟨_, rfl⟩
          rw [← e_off]
          have hin2 := hin
          rw [← e_off] at hin2
          show OE _ p e below s _ _ _ T54 (mkF m 229 #[.val (.int p1), .val (.int p2), .val (.int p3), .val (.int p4), .val (.int p5), .val (.int p6), .val (.ref b1), .val (.ref b5), .val (.ref b10), .val (.ref b35), .val (.int a), .val (.int lim), .val (.int en), .val (.int (1 : Int32)), .val (.int (0 : Int32)), .unset, .unset] [(.int off)])
          refine OE.istore X54 hx hby at_229 (l' := #[.val (.int p1), .val (.int p2), .val (.int p3), .val (.int p4), .val (.int p5), .val (.int p6), .val (.ref b1), .val (.ref b5), .val (.ref b10), .val (.ref b35), .val (.int a), .val (.int lim), .val (.int en), .val (.int (1 : Int32)), .val (.int (0 : Int32)), .val (.int off), .unset]) rfl ?_
          refine OE.iconst X54 hx hby at_231 (0 : Int32) rfl ?_
          refine OE.istore X54 hx hby at_232 (l' := #[.val (.int p1), .val (.int p2), .val (.int p3), .val (.int p4), .val (.int p5), .val (.int p6), .val (.ref b1), .val (.ref b5), .val (.ref b10), .val (.ref b35), .val (.int a), .val (.int lim), .val (.int en), .val (.int (1 : Int32)), .val (.int (0 : Int32)), .val (.int off), .val (.int (0 : Int32))]) rfl ?_
          refine OE.iload X54 hx hby at_234 rfl ?_
          refine OE.iconst X54 hx hby at_236 (2 : Int32) rfl ?_
          by_cases hc237 : off < (2 : Int32)
          · skip
            rcases own_o hin2.1 hc237 with ho | ho
            · skip
              refine OE.icmpNo X54 hx hby at_237 (tlt hc237).2.1 ?_
              rw [ho]
              show OE _ p e below s _ _ _ T54 (mkF m 240 #[.val (.int p1), .val (.int p2), .val (.int p3), .val (.int p4), .val (.int p5), .val (.int p6), .val (.ref b1), .val (.ref b5), .val (.ref b10), .val (.ref b35), .val (.int a), .val (.int lim), .val (.int en), .val (.int (1 : Int32)), .val (.int (0 : Int32)), .val (.int (0 : Int32)), .val (.int (0 : Int32))] [])
              refine OE.iload X54 hx hby at_240 rfl ?_
              refine OE.iload X54 hx hby at_242 rfl ?_
              refine OE.bipush X54 hx hby at_244 (16 : Int32) rfl ?_
              refine OE.imul X54 hx hby at_246 ?_
              rw [(by decide : ((0 : Int32) * (16 : Int32)) = (0 : Int32))]
              refine OE.iload X54 hx hby at_247 rfl ?_
              refine OE.bipush X54 hx hby at_249 (8 : Int32) rfl ?_
              refine OE.imul X54 hx hby at_251 ?_
              rw [(by decide : ((0 : Int32) * (8 : Int32)) = (0 : Int32))]
              refine OE.iadd X54 hx hby at_252 ?_
              rw [(by decide : ((0 : Int32) + (0 : Int32)) = (0 : Int32))]
              refine OE.iushr X54 hx hby at_253 ?_
              refine OE.sipush X54 hx hby at_254 (255 : Int32) rfl ?_
              refine OE.iand X54 hx hby at_257 ?_
              refine OE.istore X54 hx hby at_258 (l' := #[.val (.int p1), .val (.int p2), .val (.int p3), .val (.int p4), .val (.int p5), .val (.int p6), .val (.ref b1), .val (.ref b5), .val (.ref b10), .val (.ref b35), .val (.int a), .val (.int lim), .val (.int en), .val (.int (1 : Int32)), .val (.int (0 : Int32)), .val (.int (0 : Int32)), .val (.int (((p5.toUInt32 >>> ((0 : Int32) &&& 31).toUInt32).toInt32) &&& (255 : Int32)))]) rfl ?_
              refine OE.aload X54 hx hby at_260 rfl rfl ?_
              have f56 : Arv Z T49.heap r28_nb r28_kn .byte (32768 : Int32) [(.int v0), (.int v1)] (.int (0 : Int32)) := (u9.keep K49 (ninS ne_r28_nb_b35 nin0))
              obtain ⟨cq57, kq57, qa57, qb57, qc57⟩ := isOf hZ eq54 q49_0
              obtain ⟨_, _, ⟨T57, L57, k57, n57⟩, -, X57, ⟨Lc57, hQ57, l57, y57, z57⟩, st57⟩ := X54.virtualBack hx (y := (⟨"com/example/corbel/corbel/ByteSlices$Reader", "readByte", "()I"⟩ : MethodName)) (z := (⟨"com/example/corbel/corbel/ByteSlices$Reader", "readByte", "()I"⟩ : MethodName)) hown (mvT hZ (hw _ (List.mem_of_getElem? (i := 86) rfl))) (mvT hZ (hw _ (List.mem_of_getElem? (i := 87) rfl))) (notFace_of_selects (args := #[]) (mvT hZ (hw _ (List.mem_of_getElem? (i := 89) rfl)))) (mvT hZ (hw _ (List.mem_of_getElem? (i := 89) rfl))) (mvT hZ (hw _ (List.mem_of_getElem? (i := 88) rfl))) (by decide) (backOf (W := 0) (own_rm12 l Z a0 hw [] b35 a lim r28_nb r28_kn [(.int v0), (.int v1)] v0 T49.heap n0 z50 q49_0 q49_1 q49_2 q49_5 f56 g_48_b35 ne_r28_nb_b35 (fun q => hc209 q.symm) hin (by rw [← e_off, ho]; rfl)) hZ (hw _ (List.mem_of_getElem? (i := 90) rfl)) (hw _ (List.mem_of_getElem? (i := 38) rfl)) (by decide) (by decide)) qa57 qc57 (g := (mkF m 262 #[.val (.int p1), .val (.int p2), .val (.int p3), .val (.int p4), .val (.int p5), .val (.int p6), .val (.ref b1), .val (.ref b5), .val (.ref b10), .val (.ref b35), .val (.int a), .val (.int lim), .val (.int en), .val (.int (1 : Int32)), .val (.int (0 : Int32)), .val (.int (0 : Int32)), .val (.int (((p5.toUInt32 >>> ((0 : Int32) &&& 31).toUInt32).toInt32) &&& (255 : Int32)))] [(.ref b35)])) rfl (by rw [hml]; rfl) (Steps.refl _) (argsL := []) (rest := []) (lenOf own_pd6 rfl) rfl (by show 2 * 0 + _ ≤ _; exact Nat.le_of_eq rfl) (hb hby at_262) (fun _ _ => ⟨rfl, eq54, (Nat.le_trans (Nat.add_le_add_right (Nat.add_le_add_right (Nat.add_le_add_right (Nat.add_le_add_right (Nat.add_le_add_right (Nat.add_le_add_right hcl48 0) 0) 0) 0) 0) 0) (by decide)), (Nat.le_trans (Nat.add_le_add_right (Nat.add_le_add_right (Nat.add_le_add_right (Nat.add_le_add_right (Nat.add_le_add_right (Nat.add_le_add_right hsl48 0) 0) 0) 0) 0) 0) (by decide))⟩)
              dsimp only [Pt.U, Pt.locs, Pt.cells, Pt.slots] at X57 l57 y57 z57 st57 hQ57
              subst l57 y57 z57
              obtain ⟨rfl, Nq57, K57, q57_0⟩ := hQ57
              refine OE.of (fun _ k => st57.trans k) ?_
              have N57 := Fr.app N54 Nq57
              show OE _ p e below s _ _ _ T57 (mkF m 265 #[.val (.int p1), .val (.int p2), .val (.int p3), .val (.int p4), .val (.int p5), .val (.int p6), .val (.ref b1), .val (.ref b5), .val (.ref b10), .val (.ref b35), .val (.int a), .val (.int lim), .val (.int en), .val (.int (1 : Int32)), .val (.int (0 : Int32)), .val (.int (0 : Int32)), .val (.int (((p5.toUInt32 >>> ((0 : Int32) &&& 31).toUInt32).toInt32) &&& (255 : Int32)))] [(.int (v0 &&& (255 : Int32)))])
              refine OE.iload X57 hx hby at_265 rfl ?_
              refine OE.icmpNo X57 hx hby at_267 (teq ((by rw [ev0, own_b, own_0]) : (v0 &&& (255 : Int32)) = (((p5.toUInt32 >>> ((0 : Int32) &&& 31).toUInt32).toInt32) &&& (255 : Int32)))).2 ?_
              refine OE.iconst X57 hx hby at_270 (1 : Int32) rfl ?_
              refine OE.goto X57 hx hby (pc' := 275) at_271 (h := ?_)
              refine OE.retN X57 hx (t := .boolean) Bd.returns (by simp) Bd.notSynchronized (hb hby at_275) (Nat.le_trans (Nat.add_le_add_right (Nat.add_le_add_right (Nat.add_le_add_right (Nat.add_le_add_right (Nat.add_le_add_right (Nat.add_le_add_right hcl48 0) 0) 0) 0) 0) 0) (by decide)) (Nat.le_trans (Nat.add_le_add_right (Nat.add_le_add_right (Nat.add_le_add_right (Nat.add_le_add_right (Nat.add_le_add_right (Nat.add_le_add_right hsl48 0) 0) 0) 0) 0) 0) (by decide)) ?_
              exact ⟨rfl, N57⟩
            · skip
              refine OE.icmpNo X54 hx hby at_237 (tlt hc237).2.1 ?_
              rw [ho]
              show OE _ p e below s _ _ _ T54 (mkF m 240 #[.val (.int p1), .val (.int p2), .val (.int p3), .val (.int p4), .val (.int p5), .val (.int p6), .val (.ref b1), .val (.ref b5), .val (.ref b10), .val (.ref b35), .val (.int a), .val (.int lim), .val (.int en), .val (.int (1 : Int32)), .val (.int (0 : Int32)), .val (.int (1 : Int32)), .val (.int (0 : Int32))] [])
              refine OE.iload X54 hx hby at_240 rfl ?_
              refine OE.iload X54 hx hby at_242 rfl ?_
              refine OE.bipush X54 hx hby at_244 (16 : Int32) rfl ?_
              refine OE.imul X54 hx hby at_246 ?_
              rw [(by decide : ((0 : Int32) * (16 : Int32)) = (0 : Int32))]
              refine OE.iload X54 hx hby at_247 rfl ?_
              refine OE.bipush X54 hx hby at_249 (8 : Int32) rfl ?_
              refine OE.imul X54 hx hby at_251 ?_
              rw [(by decide : ((1 : Int32) * (8 : Int32)) = (8 : Int32))]
              refine OE.iadd X54 hx hby at_252 ?_
              rw [(by decide : ((0 : Int32) + (8 : Int32)) = (8 : Int32))]
              refine OE.iushr X54 hx hby at_253 ?_
              refine OE.sipush X54 hx hby at_254 (255 : Int32) rfl ?_
              refine OE.iand X54 hx hby at_257 ?_
              refine OE.istore X54 hx hby at_258 (l' := #[.val (.int p1), .val (.int p2), .val (.int p3), .val (.int p4), .val (.int p5), .val (.int p6), .val (.ref b1), .val (.ref b5), .val (.ref b10), .val (.ref b35), .val (.int a), .val (.int lim), .val (.int en), .val (.int (1 : Int32)), .val (.int (0 : Int32)), .val (.int (1 : Int32)), .val (.int (((p5.toUInt32 >>> ((8 : Int32) &&& 31).toUInt32).toInt32) &&& (255 : Int32)))]) rfl ?_
              refine OE.aload X54 hx hby at_260 rfl rfl ?_
              have f58 : Arv Z T49.heap r28_nb r28_kn .byte (32768 : Int32) [(.int v0), (.int v1)] (.int (0 : Int32)) := (u9.keep K49 (ninS ne_r28_nb_b35 nin0))
              obtain ⟨cq59, kq59, qa59, qb59, qc59⟩ := isOf hZ eq54 q49_0
              obtain ⟨_, _, ⟨T59, L59, k59, n59⟩, -, X59, ⟨Lc59, hQ59, l59, y59, z59⟩, st59⟩ := X54.virtualBack hx (y := (⟨"com/example/corbel/corbel/ByteSlices$Reader", "readByte", "()I"⟩ : MethodName)) (z := (⟨"com/example/corbel/corbel/ByteSlices$Reader", "readByte", "()I"⟩ : MethodName)) hown (mvT hZ (hw _ (List.mem_of_getElem? (i := 86) rfl))) (mvT hZ (hw _ (List.mem_of_getElem? (i := 87) rfl))) (notFace_of_selects (args := #[]) (mvT hZ (hw _ (List.mem_of_getElem? (i := 89) rfl)))) (mvT hZ (hw _ (List.mem_of_getElem? (i := 89) rfl))) (mvT hZ (hw _ (List.mem_of_getElem? (i := 88) rfl))) (by decide) (backOf (W := 0) (own_rm12 l Z a0 hw [] b35 a lim r28_nb r28_kn [(.int v0), (.int v1)] v1 T49.heap n0 z50 q49_0 q49_1 q49_2 q49_5 f58 g_48_b35 ne_r28_nb_b35 (fun q => hc209 q.symm) hin (by rw [← e_off, ho]; rfl)) hZ (hw _ (List.mem_of_getElem? (i := 90) rfl)) (hw _ (List.mem_of_getElem? (i := 38) rfl)) (by decide) (by decide)) qa59 qc59 (g := (mkF m 262 #[.val (.int p1), .val (.int p2), .val (.int p3), .val (.int p4), .val (.int p5), .val (.int p6), .val (.ref b1), .val (.ref b5), .val (.ref b10), .val (.ref b35), .val (.int a), .val (.int lim), .val (.int en), .val (.int (1 : Int32)), .val (.int (0 : Int32)), .val (.int (1 : Int32)), .val (.int (((p5.toUInt32 >>> ((8 : Int32) &&& 31).toUInt32).toInt32) &&& (255 : Int32)))] [(.ref b35)])) rfl (by rw [hml]; rfl) (Steps.refl _) (argsL := []) (rest := []) (lenOf own_pd6 rfl) rfl (by show 2 * 0 + _ ≤ _; exact Nat.le_of_eq rfl) (hb hby at_262) (fun _ _ => ⟨rfl, eq54, (Nat.le_trans (Nat.add_le_add_right (Nat.add_le_add_right (Nat.add_le_add_right (Nat.add_le_add_right (Nat.add_le_add_right (Nat.add_le_add_right hcl48 0) 0) 0) 0) 0) 0) (by decide)), (Nat.le_trans (Nat.add_le_add_right (Nat.add_le_add_right (Nat.add_le_add_right (Nat.add_le_add_right (Nat.add_le_add_right (Nat.add_le_add_right hsl48 0) 0) 0) 0) 0) 0) (by decide))⟩)
              dsimp only [Pt.U, Pt.locs, Pt.cells, Pt.slots] at X59 l59 y59 z59 st59 hQ59
              subst l59 y59 z59
              obtain ⟨rfl, Nq59, K59, q59_0⟩ := hQ59
              refine OE.of (fun _ k => st59.trans k) ?_
              have N59 := Fr.app N54 Nq59
              show OE _ p e below s _ _ _ T59 (mkF m 265 #[.val (.int p1), .val (.int p2), .val (.int p3), .val (.int p4), .val (.int p5), .val (.int p6), .val (.ref b1), .val (.ref b5), .val (.ref b10), .val (.ref b35), .val (.int a), .val (.int lim), .val (.int en), .val (.int (1 : Int32)), .val (.int (0 : Int32)), .val (.int (1 : Int32)), .val (.int (((p5.toUInt32 >>> ((8 : Int32) &&& 31).toUInt32).toInt32) &&& (255 : Int32)))] [(.int (v1 &&& (255 : Int32)))])
              refine OE.iload X59 hx hby at_265 rfl ?_
              refine OE.icmpNo X59 hx hby at_267 (teq ((by rw [ev1]; exact own_b _) : (v1 &&& (255 : Int32)) = (((p5.toUInt32 >>> ((8 : Int32) &&& 31).toUInt32).toInt32) &&& (255 : Int32)))).2 ?_
              refine OE.iconst X59 hx hby at_270 (1 : Int32) rfl ?_
              refine OE.goto X59 hx hby (pc' := 275) at_271 (h := ?_)
              refine OE.retN X59 hx (t := .boolean) Bd.returns (by simp) Bd.notSynchronized (hb hby at_275) (Nat.le_trans (Nat.add_le_add_right (Nat.add_le_add_right (Nat.add_le_add_right (Nat.add_le_add_right (Nat.add_le_add_right (Nat.add_le_add_right hcl48 0) 0) 0) 0) 0) 0) (by decide)) (Nat.le_trans (Nat.add_le_add_right (Nat.add_le_add_right (Nat.add_le_add_right (Nat.add_le_add_right (Nat.add_le_add_right (Nat.add_le_add_right hsl48 0) 0) 0) 0) 0) 0) (by decide)) ?_
              exact ⟨rfl, N59⟩
          · skip
            refine OE.icmpYes X54 hx hby (pc' := 260) at_237 (flt hc237).2.1 (h := ?_)
            show OE _ p e below s _ _ _ T54 (mkF m 260 #[.val (.int p1), .val (.int p2), .val (.int p3), .val (.int p4), .val (.int p5), .val (.int p6), .val (.ref b1), .val (.ref b5), .val (.ref b10), .val (.ref b35), .val (.int a), .val (.int lim), .val (.int en), .val (.int (1 : Int32)), .val (.int (0 : Int32)), .val (.int off), .val (.int (0 : Int32))] [])
            refine OE.aload X54 hx hby at_260 rfl rfl ?_
            have f60 : Arv Z T49.heap r28_nb r28_kn .byte (32768 : Int32) [(.int v0), (.int v1)] (.int (0 : Int32)) := (u9.keep K49 (ninS ne_r28_nb_b35 nin0))
            obtain ⟨cq61, kq61, qa61, qb61, qc61⟩ := isOf hZ eq54 q49_0
            obtain ⟨_, _, ⟨T61, L61, k61, n61⟩, -, X61, ⟨Lc61, hQ61, l61, y61, z61⟩, st61⟩ := X54.virtualBack hx (y := (⟨"com/example/corbel/corbel/ByteSlices$Reader", "readByte", "()I"⟩ : MethodName)) (z := (⟨"com/example/corbel/corbel/ByteSlices$Reader", "readByte", "()I"⟩ : MethodName)) hown (mvT hZ (hw _ (List.mem_of_getElem? (i := 86) rfl))) (mvT hZ (hw _ (List.mem_of_getElem? (i := 87) rfl))) (notFace_of_selects (args := #[]) (mvT hZ (hw _ (List.mem_of_getElem? (i := 89) rfl)))) (mvT hZ (hw _ (List.mem_of_getElem? (i := 89) rfl))) (mvT hZ (hw _ (List.mem_of_getElem? (i := 88) rfl))) (by decide) (backOf (W := 0) (own_rm12 l Z a0 hw [] b35 a lim r28_nb r28_kn [(.int v0), (.int v1)] (0 : Int32) T49.heap n0 z50 q49_0 q49_1 q49_2 q49_5 f60 g_48_b35 ne_r28_nb_b35 (fun q => hc209 q.symm) hin (by rw [← e_off]; exact own_far hin2.1 hc237)) hZ (hw _ (List.mem_of_getElem? (i := 90) rfl)) (hw _ (List.mem_of_getElem? (i := 38) rfl)) (by decide) (by decide)) qa61 qc61 (g := (mkF m 262 #[.val (.int p1), .val (.int p2), .val (.int p3), .val (.int p4), .val (.int p5), .val (.int p6), .val (.ref b1), .val (.ref b5), .val (.ref b10), .val (.ref b35), .val (.int a), .val (.int lim), .val (.int en), .val (.int (1 : Int32)), .val (.int (0 : Int32)), .val (.int off), .val (.int (0 : Int32))] [(.ref b35)])) rfl (by rw [hml]; rfl) (Steps.refl _) (argsL := []) (rest := []) (lenOf own_pd6 rfl) rfl (by show 2 * 0 + _ ≤ _; exact Nat.le_of_eq rfl) (hb hby at_262) (fun _ _ => ⟨rfl, eq54, (Nat.le_trans (Nat.add_le_add_right (Nat.add_le_add_right (Nat.add_le_add_right (Nat.add_le_add_right (Nat.add_le_add_right (Nat.add_le_add_right hcl48 0) 0) 0) 0) 0) 0) (by decide)), (Nat.le_trans (Nat.add_le_add_right (Nat.add_le_add_right (Nat.add_le_add_right (Nat.add_le_add_right (Nat.add_le_add_right (Nat.add_le_add_right hsl48 0) 0) 0) 0) 0) 0) (by decide))⟩)
            dsimp only [Pt.U, Pt.locs, Pt.cells, Pt.slots] at X61 l61 y61 z61 st61 hQ61
            subst l61 y61 z61
            obtain ⟨rfl, Nq61, K61, q61_0⟩ := hQ61
            refine OE.of (fun _ k => st61.trans k) ?_
            have N61 := Fr.app N54 Nq61
            show OE _ p e below s _ _ _ T61 (mkF m 265 #[.val (.int p1), .val (.int p2), .val (.int p3), .val (.int p4), .val (.int p5), .val (.int p6), .val (.ref b1), .val (.ref b5), .val (.ref b10), .val (.ref b35), .val (.int a), .val (.int lim), .val (.int en), .val (.int (1 : Int32)), .val (.int (0 : Int32)), .val (.int off), .val (.int (0 : Int32))] [(.int ((0 : Int32) &&& (255 : Int32)))])
            refine OE.iload X61 hx hby at_265 rfl ?_
            refine OE.icmpNo X61 hx hby at_267 (teq (by decide)).2 ?_
            refine OE.iconst X61 hx hby at_270 (1 : Int32) rfl ?_
            refine OE.goto X61 hx hby (pc' := 275) at_271 (h := ?_)
            refine OE.retN X61 hx (t := .boolean) Bd.returns (by simp) Bd.notSynchronized (hb hby at_275) (Nat.le_trans (Nat.add_le_add_right (Nat.add_le_add_right (Nat.add_le_add_right (Nat.add_le_add_right (Nat.add_le_add_right (Nat.add_le_add_right hcl48 0) 0) 0) 0) 0) 0) (by decide)) (Nat.le_trans (Nat.add_le_add_right (Nat.add_le_add_right (Nat.add_le_add_right (Nat.add_le_add_right (Nat.add_le_add_right (Nat.add_le_add_right hsl48 0) 0) 0) 0) 0) 0) (by decide)) ?_
            exact ⟨rfl, N61⟩
      · skip
        rw [if_neg (show ¬ (a = en) from hl55)]
        show OE _ p e below s _ _ _ T54 (mkF m 176 #[.val (.int p1), .val (.int p2), .val (.int p3), .val (.int p4), .val (.int p5), .val (.int p6), .val (.ref b1), .val (.ref b5), .val (.ref b10), .val (.ref b35), .val (.int a), .val (.int lim), .val (.int en), .unset, .unset, .unset, .unset] [(.int (0 : Int32))])
        refine OE.iload X54 hx hby at_176 rfl ?_
        refine OE.iload X54 hx hby at_178 rfl ?_
        refine OE.icmpYes X54 hx hby (pc' := 187) at_180 (feq (hl55 : ¬ (a = en))).2 (h := ?_)
        refine OE.iconst X54 hx hby at_187 (0 : Int32) rfl ?_
        refine OE.icmpNo X54 hx hby at_188 (teq (by decide : (0 : Int32) = (0 : Int32))).2 ?_
        refine OE.iconst X54 hx hby at_191 (1 : Int32) rfl ?_
        refine OE.goto X54 hx hby (pc' := 196) at_192 (h := ?_)
        refine OE.istore X54 hx hby at_196 (l' := #[.val (.int p1), .val (.int p2), .val (.int p3), .val (.int p4), .val (.int p5), .val (.int p6), .val (.ref b1), .val (.ref b5), .val (.ref b10), .val (.ref b35), .val (.int a), .val (.int lim), .val (.int en), .val (.int (1 : Int32)), .unset, .unset, .unset]) rfl ?_
        refine OE.iload X54 hx hby at_198 rfl ?_
        refine OE.ifYes X54 hx hby (pc' := 205) at_200 (feq (by decide : ¬ ((1 : Int32) = (0 : Int32)))).2 (h := ?_)
        refine OE.iload X54 hx hby at_205 rfl ?_
        refine OE.iload X54 hx hby at_207 rfl ?_
        by_cases hc209 : lim = a
        · skip
          refine OE.icmpNo X54 hx hby at_209 (teq hc209).2 ?_
          refine OE.iconst X54 hx hby at_212 (1 : Int32) rfl ?_
          refine OE.retN X54 hx (t := .boolean) Bd.returns (by simp) Bd.notSynchronized (hb hby at_213) (Nat.le_trans (Nat.add_le_add_right (Nat.add_le_add_right (Nat.add_le_add_right (Nat.add_le_add_right (Nat.add_le_add_right hcl48 0) 0) 0) 0) 0) (by decide)) (Nat.le_trans (Nat.add_le_add_right (Nat.add_le_add_right (Nat.add_le_add_right (Nat.add_le_add_right (Nat.add_le_add_right hsl48 0) 0) 0) 0) 0) (by decide)) ?_
          rw [eq54]
          exact ⟨rfl, N54⟩
        · skip
          refine OE.icmpYes X54 hx hby (pc' := 214) at_209 (feq hc209).2 (h := ?_)
          refine OE.iload X54 hx hby at_214 rfl ?_
          refine OE.bipush X54 hx hby at_216 (15 : Int32) rfl ?_
          refine OE.iushr X54 hx hby at_218 ?_
          refine OE.iconst X54 hx hby at_219 (1 : Int32) rfl ?_
          refine OE.iand X54 hx hby at_220 ?_
          rw [hix]
          rw [(by decide : ((0 : Int32) &&& (1 : Int32)) = (0 : Int32))]
          show OE _ p e below s _ _ _ T54 (mkF m 221 #[.val (.int p1), .val (.int p2), .val (.int p3), .val (.int p4), .val (.int p5), .val (.int p6), .val (.ref b1), .val (.ref b5), .val (.ref b10), .val (.ref b35), .val (.int a), .val (.int lim), .val (.int en), .val (.int (1 : Int32)), .unset, .unset, .unset] [(.int (0 : Int32))])
          refine OE.istore X54 hx hby at_221 (l' := #[.val (.int p1), .val (.int p2), .val (.int p3), .val (.int p4), .val (.int p5), .val (.int p6), .val (.ref b1), .val (.ref b5), .val (.ref b10), .val (.ref b35), .val (.int a), .val (.int lim), .val (.int en), .val (.int (1 : Int32)), .val (.int (0 : Int32)), .unset, .unset]) rfl ?_
          refine OE.iload X54 hx hby at_223 rfl ?_
          refine OE.sipush X54 hx hby at_225 (32767 : Int32) rfl ?_
          refine OE.iand X54 hx hby at_228 ?_
          obtain ⟨off, e_off⟩ : ∃ z, z = (a &&& (32767 : Int32)) := ⟨_, rfl⟩
          rw [← e_off]
          have hin2 := hin
          rw [← e_off] at hin2
          show OE _ p e below s _ _ _ T54 (mkF m 229 #[.val (.int p1), .val (.int p2), .val (.int p3), .val (.int p4), .val (.int p5), .val (.int p6), .val (.ref b1), .val (.ref b5), .val (.ref b10), .val (.ref b35), .val (.int a), .val (.int lim), .val (.int en), .val (.int (1 : Int32)), .val (.int (0 : Int32)), .unset, .unset] [(.int off)])
          refine OE.istore X54 hx hby at_229 (l' := #[.val (.int p1), .val (.int p2), .val (.int p3), .val (.int p4), .val (.int p5), .val (.int p6), .val (.ref b1), .val (.ref b5), .val (.ref b10), .val (.ref b35), .val (.int a), .val (.int lim), .val (.int en), .val (.int (1 : Int32)), .val (.int (0 : Int32)), .val (.int off), .unset]) rfl ?_
          refine OE.iconst X54 hx hby at_231 (0 : Int32) rfl ?_
          refine OE.istore X54 hx hby at_232 (l' := #[.val (.int p1), .val (.int p2), .val (.int p3), .val (.int p4), .val (.int p5), .val (.int p6), .val (.ref b1), .val (.ref b5), .val (.ref b10), .val (.ref b35), .val (.int a), .val (.int lim), .val (.int en), .val (.int (1 : Int32)), .val (.int (0 : Int32)), .val (.int off), .val (.int (0 : Int32))]) rfl ?_
          refine OE.iload X54 hx hby at_234 rfl ?_
          refine OE.iconst X54 hx hby at_236 (2 : Int32) rfl ?_
          by_cases hc237 : off < (2 : Int32)
          · skip
            rcases own_o hin2.1 hc237 with ho | ho
            · skip
              refine OE.icmpNo X54 hx hby at_237 (tlt hc237).2.1 ?_
              rw [ho]
              show OE _ p e below s _ _ _ T54 (mkF m 240 #[.val (.int p1), .val (.int p2), .val (.int p3), .val (.int p4), .val (.int p5), .val (.int p6), .val (.ref b1), .val (.ref b5), .val (.ref b10), .val (.ref b35), .val (.int a), .val (.int lim), .val (.int en), .val (.int (1 : Int32)), .val (.int (0 : Int32)), .val (.int (0 : Int32)), .val (.int (0 : Int32))] [])
              refine OE.iload X54 hx hby at_240 rfl ?_
              refine OE.iload X54 hx hby at_242 rfl ?_
              refine OE.bipush X54 hx hby at_244 (16 : Int32) rfl ?_
              refine OE.imul X54 hx hby at_246 ?_
              rw [(by decide : ((0 : Int32) * (16 : Int32)) = (0 : Int32))]
              refine OE.iload X54 hx hby at_247 rfl ?_
              refine OE.bipush X54 hx hby at_249 (8 : Int32) rfl ?_
              refine OE.imul X54 hx hby at_251 ?_
              rw [(by decide : ((0 : Int32) * (8 : Int32)) = (0 : Int32))]
              refine OE.iadd X54 hx hby at_252 ?_
              rw [(by decide : ((0 : Int32) + (0 : Int32)) = (0 : Int32))]
              refine OE.iushr X54 hx hby at_253 ?_
              refine OE.sipush X54 hx hby at_254 (255 : Int32) rfl ?_
              refine OE.iand X54 hx hby at_257 ?_
              refine OE.istore X54 hx hby at_258 (l' := #[.val (.int p1), .val (.int p2), .val (.int p3), .val (.int p4), .val (.int p5), .val (.int p6), .val (.ref b1), .val (.ref b5), .val (.ref b10), .val (.ref b35), .val (.int a), .val (.int lim), .val (.int en), .val (.int (1 : Int32)), .val (.int (0 : Int32)), .val (.int (0 : Int32)), .val (.int (((p5.toUInt32 >>> ((0 : Int32) &&& 31).toUInt32).toInt32) &&& (255 : Int32)))]) rfl ?_
              refine OE.aload X54 hx hby at_260 rfl rfl ?_
              have f62 : Arv Z T49.heap r28_nb r28_kn .byte (32768 : Int32) [(.int v0), (.int v1)] (.int (0 : Int32)) := (u9.keep K49 (ninS ne_r28_nb_b35 nin0))
              obtain ⟨cq63, kq63, qa63, qb63, qc63⟩ := isOf hZ eq54 q49_0
              obtain ⟨_, _, ⟨T63, L63, k63, n63⟩, -, X63, ⟨Lc63, hQ63, l63, y63, z63⟩, st63⟩ := X54.virtualBack hx (y := (⟨"com/example/corbel/corbel/ByteSlices$Reader", "readByte", "()I"⟩ : MethodName)) (z := (⟨"com/example/corbel/corbel/ByteSlices$Reader", "readByte", "()I"⟩ : MethodName)) hown (mvT hZ (hw _ (List.mem_of_getElem? (i := 86) rfl))) (mvT hZ (hw _ (List.mem_of_getElem? (i := 87) rfl))) (notFace_of_selects (args := #[]) (mvT hZ (hw _ (List.mem_of_getElem? (i := 89) rfl)))) (mvT hZ (hw _ (List.mem_of_getElem? (i := 89) rfl))) (mvT hZ (hw _ (List.mem_of_getElem? (i := 88) rfl))) (by decide) (backOf (W := 0) (own_rm12 l Z a0 hw [] b35 a lim r28_nb r28_kn [(.int v0), (.int v1)] v0 T49.heap n0 z50 q49_0 q49_1 q49_2 q49_5 f62 g_48_b35 ne_r28_nb_b35 (fun q => hc209 q.symm) hin (by rw [← e_off, ho]; rfl)) hZ (hw _ (List.mem_of_getElem? (i := 90) rfl)) (hw _ (List.mem_of_getElem? (i := 38) rfl)) (by decide) (by decide)) qa63 qc63 (g := (mkF m 262 #[.val (.int p1), .val (.int p2), .val (.int p3), .val (.int p4), .val (.int p5), .val (.int p6), .val (.ref b1), .val (.ref b5), .val (.ref b10), .val (.ref b35), .val (.int a), .val (.int lim), .val (.int en), .val (.int (1 : Int32)), .val (.int (0 : Int32)), .val (.int (0 : Int32)), .val (.int (((p5.toUInt32 >>> ((0 : Int32) &&& 31).toUInt32).toInt32) &&& (255 : Int32)))] [(.ref b35)])) rfl (by rw [hml]; rfl) (Steps.refl _) (argsL := []) (rest := []) (lenOf own_pd6 rfl) rfl (by show 2 * 0 + _ ≤ _; exact Nat.le_of_eq rfl) (hb hby at_262) (fun _ _ => ⟨rfl, eq54, (Nat.le_trans (Nat.add_le_add_right (Nat.add_le_add_right (Nat.add_le_add_right (Nat.add_le_add_right (Nat.add_le_add_right (Nat.add_le_add_right hcl48 0) 0) 0) 0) 0) 0) (by decide)), (Nat.le_trans (Nat.add_le_add_right (Nat.add_le_add_right (Nat.add_le_add_right (Nat.add_le_add_right (Nat.add_le_add_right (Nat.add_le_add_right hsl48 0) 0) 0) 0) 0) 0) (by decide))⟩)
              dsimp only [Pt.U, Pt.locs, Pt.cells, Pt.slots] at X63 l63 y63 z63 st63 hQ63
              subst l63 y63 z63
              obtain ⟨rfl, Nq63, K63, q63_0⟩ := hQ63
              refine OE.of (fun _ k => st63.trans k) ?_
              have N63 := Fr.app N54 Nq63
              show OE _ p e below s _ _ _ T63 (mkF m 265 #[.val (.int p1), .val (.int p2), .val (.int p3), .val (.int p4), .val (.int p5), .val (.int p6), .val (.ref b1), .val (.ref b5), .val (.ref b10), .val (.ref b35), .val (.int a), .val (.int lim), .val (.int en), .val (.int (1 : Int32)), .val (.int (0 : Int32)), .val (.int (0 : Int32)), .val (.int (((p5.toUInt32 >>> ((0 : Int32) &&& 31).toUInt32).toInt32) &&& (255 : Int32)))] [(.int (v0 &&& (255 : Int32)))])
              refine OE.iload X63 hx hby at_265 rfl ?_
              refine OE.icmpNo X63 hx hby at_267 (teq ((by rw [ev0, own_b, own_0]) : (v0 &&& (255 : Int32)) = (((p5.toUInt32 >>> ((0 : Int32) &&& 31).toUInt32).toInt32) &&& (255 : Int32)))).2 ?_
              refine OE.iconst X63 hx hby at_270 (1 : Int32) rfl ?_
              refine OE.goto X63 hx hby (pc' := 275) at_271 (h := ?_)
              refine OE.retN X63 hx (t := .boolean) Bd.returns (by simp) Bd.notSynchronized (hb hby at_275) (Nat.le_trans (Nat.add_le_add_right (Nat.add_le_add_right (Nat.add_le_add_right (Nat.add_le_add_right (Nat.add_le_add_right (Nat.add_le_add_right hcl48 0) 0) 0) 0) 0) 0) (by decide)) (Nat.le_trans (Nat.add_le_add_right (Nat.add_le_add_right (Nat.add_le_add_right (Nat.add_le_add_right (Nat.add_le_add_right (Nat.add_le_add_right hsl48 0) 0) 0) 0) 0) 0) (by decide)) ?_
              exact ⟨rfl, N63⟩
            · skip
              refine OE.icmpNo X54 hx hby at_237 (tlt hc237).2.1 ?_
              rw [ho]
              show OE _ p e below s _ _ _ T54 (mkF m 240 #[.val (.int p1), .val (.int p2), .val (.int p3), .val (.int p4), .val (.int p5), .val (.int p6), .val (.ref b1), .val (.ref b5), .val (.ref b10), .val (.ref b35), .val (.int a), .val (.int lim), .val (.int en), .val (.int (1 : Int32)), .val (.int (0 : Int32)), .val (.int (1 : Int32)), .val (.int (0 : Int32))] [])
              refine OE.iload X54 hx hby at_240 rfl ?_
              refine OE.iload X54 hx hby at_242 rfl ?_
              refine OE.bipush X54 hx hby at_244 (16 : Int32) rfl ?_
              refine OE.imul X54 hx hby at_246 ?_
              rw [(by decide : ((0 : Int32) * (16 : Int32)) = (0 : Int32))]
              refine OE.iload X54 hx hby at_247 rfl ?_
              refine OE.bipush X54 hx hby at_249 (8 : Int32) rfl ?_
              refine OE.imul X54 hx hby at_251 ?_
              rw [(by decide : ((1 : Int32) * (8 : Int32)) = (8 : Int32))]
              refine OE.iadd X54 hx hby at_252 ?_
              rw [(by decide : ((0 : Int32) + (8 : Int32)) = (8 : Int32))]
              refine OE.iushr X54 hx hby at_253 ?_
              refine OE.sipush X54 hx hby at_254 (255 : Int32) rfl ?_
              refine OE.iand X54 hx hby at_257 ?_
              refine OE.istore X54 hx hby at_258 (l' := #[.val (.int p1), .val (.int p2), .val (.int p3), .val (.int p4), .val (.int p5), .val (.int p6), .val (.ref b1), .val (.ref b5), .val (.ref b10), .val (.ref b35), .val (.int a), .val (.int lim), .val (.int en), .val (.int (1 : Int32)), .val (.int (0 : Int32)), .val (.int (1 : Int32)), .val (.int (((p5.toUInt32 >>> ((8 : Int32) &&& 31).toUInt32).toInt32) &&& (255 : Int32)))]) rfl ?_
              refine OE.aload X54 hx hby at_260 rfl rfl ?_
              have f64 : Arv Z T49.heap r28_nb r28_kn .byte (32768 : Int32) [(.int v0), (.int v1)] (.int (0 : Int32)) := (u9.keep K49 (ninS ne_r28_nb_b35 nin0))
              obtain ⟨cq65, kq65, qa65, qb65, qc65⟩ := isOf hZ eq54 q49_0
              obtain ⟨_, _, ⟨T65, L65, k65, n65⟩, -, X65, ⟨Lc65, hQ65, l65, y65, z65⟩, st65⟩ := X54.virtualBack hx (y := (⟨"com/example/corbel/corbel/ByteSlices$Reader", "readByte", "()I"⟩ : MethodName)) (z := (⟨"com/example/corbel/corbel/ByteSlices$Reader", "readByte", "()I"⟩ : MethodName)) hown (mvT hZ (hw _ (List.mem_of_getElem? (i := 86) rfl))) (mvT hZ (hw _ (List.mem_of_getElem? (i := 87) rfl))) (notFace_of_selects (args := #[]) (mvT hZ (hw _ (List.mem_of_getElem? (i := 89) rfl)))) (mvT hZ (hw _ (List.mem_of_getElem? (i := 89) rfl))) (mvT hZ (hw _ (List.mem_of_getElem? (i := 88) rfl))) (by decide) (backOf (W := 0) (own_rm12 l Z a0 hw [] b35 a lim r28_nb r28_kn [(.int v0), (.int v1)] v1 T49.heap n0 z50 q49_0 q49_1 q49_2 q49_5 f64 g_48_b35 ne_r28_nb_b35 (fun q => hc209 q.symm) hin (by rw [← e_off, ho]; rfl)) hZ (hw _ (List.mem_of_getElem? (i := 90) rfl)) (hw _ (List.mem_of_getElem? (i := 38) rfl)) (by decide) (by decide)) qa65 qc65 (g := (mkF m 262 #[.val (.int p1), .val (.int p2), .val (.int p3), .val (.int p4), .val (.int p5), .val (.int p6), .val (.ref b1), .val (.ref b5), .val (.ref b10), .val (.ref b35), .val (.int a), .val (.int lim), .val (.int en), .val (.int (1 : Int32)), .val (.int (0 : Int32)), .val (.int (1 : Int32)), .val (.int (((p5.toUInt32 >>> ((8 : Int32) &&& 31).toUInt32).toInt32) &&& (255 : Int32)))] [(.ref b35)])) rfl (by rw [hml]; rfl) (Steps.refl _) (argsL := []) (rest := []) (lenOf own_pd6 rfl) rfl (by show 2 * 0 + _ ≤ _; exact Nat.le_of_eq rfl) (hb hby at_262) (fun _ _ => ⟨rfl, eq54, (Nat.le_trans (Nat.add_le_add_right (Nat.add_le_add_right (Nat.add_le_add_right (Nat.add_le_add_right (Nat.add_le_add_right (Nat.add_le_add_right hcl48 0) 0) 0) 0) 0) 0) (by decide)), (Nat.le_trans (Nat.add_le_add_right (Nat.add_le_add_right (Nat.add_le_add_right (Nat.add_le_add_right (Nat.add_le_add_right (Nat.add_le_add_right hsl48 0) 0) 0) 0) 0) 0) (by decide))⟩)
              dsimp only [Pt.U, Pt.locs, Pt.cells, Pt.slots] at X65 l65 y65 z65 st65 hQ65
              subst l65 y65 z65
              obtain ⟨rfl, Nq65, K65, q65_0⟩ := hQ65
              refine OE.of (fun _ k => st65.trans k) ?_
              have N65 := Fr.app N54 Nq65
              show OE _ p e below s _ _ _ T65 (mkF m 265 #[.val (.int p1), .val (.int p2), .val (.int p3), .val (.int p4), .val (.int p5), .val (.int p6), .val (.ref b1), .val (.ref b5), .val (.ref b10), .val (.ref b35), .val (.int a), .val (.int lim), .val (.int en), .val (.int (1 : Int32)), .val (.int (0 : Int32)), .val (.int (1 : Int32)), .val (.int (((p5.toUInt32 >>> ((8 : Int32) &&& 31).toUInt32).toInt32) &&& (255 : Int32)))] [(.int (v1 &&& (255 : Int32)))])
              refine OE.iload X65 hx hby at_265 rfl ?_
              refine OE.icmpNo X65 hx hby at_267 (teq ((by rw [ev1]; exact own_b _) : (v1 &&& (255 : Int32)) = (((p5.toUInt32 >>> ((8 : Int32) &&& 31).toUInt32).toInt32) &&& (255 : Int32)))).2 ?_
              refine OE.iconst X65 hx hby at_270 (1 : Int32) rfl ?_
              refine OE.goto X65 hx hby (pc' := 275) at_271 (h := ?_)
              refine OE.retN X65 hx (t := .boolean) Bd.returns (by simp) Bd.notSynchronized (hb hby at_275) (Nat.le_trans (Nat.add_le_add_right (Nat.add_le_add_right (Nat.add_le_add_right (Nat.add_le_add_right (Nat.add_le_add_right (Nat.add_le_add_right hcl48 0) 0) 0) 0) 0) 0) (by decide)) (Nat.le_trans (Nat.add_le_add_right (Nat.add_le_add_right (Nat.add_le_add_right (Nat.add_le_add_right (Nat.add_le_add_right (Nat.add_le_add_right hsl48 0) 0) 0) 0) 0) 0) (by decide)) ?_
              exact ⟨rfl, N65⟩
          · skip
            refine OE.icmpYes X54 hx hby (pc' := 260) at_237 (flt hc237).2.1 (h := ?_)
            show OE _ p e below s _ _ _ T54 (mkF m 260 #[.val (.int p1), .val (.int p2), .val (.int p3), .val (.int p4), .val (.int p5), .val (.int p6), .val (.ref b1), .val (.ref b5), .val (.ref b10), .val (.ref b35), .val (.int a), .val (.int lim), .val (.int en), .val (.int (1 : Int32)), .val (.int (0 : Int32)), .val (.int off), .val (.int (0 : Int32))] [])
            refine OE.aload X54 hx hby at_260 rfl rfl ?_
            have f66 : Arv Z T49.heap r28_nb r28_kn .byte (32768 : Int32) [(.int v0), (.int v1)] (.int (0 : Int32)) := (u9.keep K49 (ninS ne_r28_nb_b35 nin0))
            obtain ⟨cq67, kq67, qa67, qb67, qc67⟩ := isOf hZ eq54 q49_0
            obtain ⟨_, _, ⟨T67, L67, k67, n67⟩, -, X67, ⟨Lc67, hQ67, l67, y67, z67⟩, st67⟩ := X54.virtualBack hx (y := (⟨"com/example/corbel/corbel/ByteSlices$Reader", "readByte", "()I"⟩ : MethodName)) (z := (⟨"com/example/corbel/corbel/ByteSlices$Reader", "readByte", "()I"⟩ : MethodName)) hown (mvT hZ (hw _ (List.mem_of_getElem? (i := 86) rfl))) (mvT hZ (hw _ (List.mem_of_getElem? (i := 87) rfl))) (notFace_of_selects (args := #[]) (mvT hZ (hw _ (List.mem_of_getElem? (i := 89) rfl)))) (mvT hZ (hw _ (List.mem_of_getElem? (i := 89) rfl))) (mvT hZ (hw _ (List.mem_of_getElem? (i := 88) rfl))) (by decide) (backOf (W := 0) (own_rm12 l Z a0 hw [] b35 a lim r28_nb r28_kn [(.int v0), (.int v1)] (0 : Int32) T49.heap n0 z50 q49_0 q49_1 q49_2 q49_5 f66 g_48_b35 ne_r28_nb_b35 (fun q => hc209 q.symm) hin (by rw [← e_off]; exact own_far hin2.1 hc237)) hZ (hw _ (List.mem_of_getElem? (i := 90) rfl)) (hw _ (List.mem_of_getElem? (i := 38) rfl)) (by decide) (by decide)) qa67 qc67 (g := (mkF m 262 #[.val (.int p1), .val (.int p2), .val (.int p3), .val (.int p4), .val (.int p5), .val (.int p6), .val (.ref b1), .val (.ref b5), .val (.ref b10), .val (.ref b35), .val (.int a), .val (.int lim), .val (.int en), .val (.int (1 : Int32)), .val (.int (0 : Int32)), .val (.int off), .val (.int (0 : Int32))] [(.ref b35)])) rfl (by rw [hml]; rfl) (Steps.refl _) (argsL := []) (rest := []) (lenOf own_pd6 rfl) rfl (by show 2 * 0 + _ ≤ _; exact Nat.le_of_eq rfl) (hb hby at_262) (fun _ _ => ⟨rfl, eq54, (Nat.le_trans (Nat.add_le_add_right (Nat.add_le_add_right (Nat.add_le_add_right (Nat.add_le_add_right (Nat.add_le_add_right (Nat.add_le_add_right hcl48 0) 0) 0) 0) 0) 0) (by decide)), (Nat.le_trans (Nat.add_le_add_right (Nat.add_le_add_right (Nat.add_le_add_right (Nat.add_le_add_right (Nat.add_le_add_right (Nat.add_le_add_right hsl48 0) 0) 0) 0) 0) 0) (by decide))⟩)
            dsimp only [Pt.U, Pt.locs, Pt.cells, Pt.slots] at X67 l67 y67 z67 st67 hQ67
            subst l67 y67 z67
            obtain ⟨rfl, Nq67, K67, q67_0⟩ := hQ67
            refine OE.of (fun _ k => st67.trans k) ?_
            have N67 := Fr.app N54 Nq67
            show OE _ p e below s _ _ _ T67 (mkF m 265 #[.val (.int p1), .val (.int p2), .val (.int p3), .val (.int p4), .val (.int p5), .val (.int p6), .val (.ref b1), .val (.ref b5), .val (.ref b10), .val (.ref b35), .val (.int a), .val (.int lim), .val (.int en), .val (.int (1 : Int32)), .val (.int (0 : Int32)), .val (.int off), .val (.int (0 : Int32))] [(.int ((0 : Int32) &&& (255 : Int32)))])
            refine OE.iload X67 hx hby at_265 rfl ?_
            refine OE.icmpNo X67 hx hby at_267 (teq (by decide)).2 ?_
            refine OE.iconst X67 hx hby at_270 (1 : Int32) rfl ?_
            refine OE.goto X67 hx hby (pc' := 275) at_271 (h := ?_)
            refine OE.retN X67 hx (t := .boolean) Bd.returns (by simp) Bd.notSynchronized (hb hby at_275) (Nat.le_trans (Nat.add_le_add_right (Nat.add_le_add_right (Nat.add_le_add_right (Nat.add_le_add_right (Nat.add_le_add_right (Nat.add_le_add_right hcl48 0) 0) 0) 0) 0) 0) (by decide)) (Nat.le_trans (Nat.add_le_add_right (Nat.add_le_add_right (Nat.add_le_add_right (Nat.add_le_add_right (Nat.add_le_add_right (Nat.add_le_add_right hsl48 0) 0) 0) 0) 0) 0) (by decide)) ?_
            exact ⟨rfl, N67⟩
    · skip
      refine OE.aload X48 hx hby at_130 rfl rfl ?_
      refine OE.iload X48 hx hby at_132 rfl ?_
      refine OE.iload X48 hx hby at_134 rfl ?_
      refine OE.iloadN X48 hx hby at_136 rfl ?_
      refine OE.iload X48 hx hby at_137 rfl ?_
      obtain ⟨cq68, kq68, qa68, qb68, qc68⟩ := isOf hZ e48 u0
      obtain ⟨_, _, ⟨T68, L68, k68, n68⟩, -, X68, ⟨Lc68, hQ68, l68, y68, z68⟩, st68⟩ := X48.virtualBack hx (y := (⟨"com/example/corbel/corbel/ByteSlices$Reader", "resume", "(IIII)V"⟩ : MethodName)) (z := (⟨"com/example/corbel/corbel/ByteSlices$Reader", "resume", "(IIII)V"⟩ : MethodName)) hown (mvT hZ (hw _ (List.mem_of_getElem? (i := 50) rfl))) (mvT hZ (hw _ (List.mem_of_getElem? (i := 51) rfl))) (notFace_of_selects (args := #[]) (mvT hZ (hw _ (List.mem_of_getElem? (i := 53) rfl)))) (mvT hZ (hw _ (List.mem_of_getElem? (i := 53) rfl))) (mvT hZ (hw _ (List.mem_of_getElem? (i := 52) rfl))) (by decide) (backOf (W := 0) (own_rm7_1 l Z a0 hw [] b35 a lim p3 en b1 r3_bl r3_kb r28_nb r32_nb H48 n0 z48 u0 u1 u2 u3 u4 u5 u6 u7 u8 g_48_b35 ne_b1_b35 ne_r3_bl_b35 hix) hZ (hw _ (List.mem_of_getElem? (i := 54) rfl)) (hw _ (List.mem_of_getElem? (i := 38) rfl)) (by decide) (by decide)) qa68 qc68 (g := (mkF m 139 #[.val (.int p1), .val (.int p2), .val (.int p3), .val (.int p4), .val (.int p5), .val (.int p6), .val (.ref b1), .val (.ref b5), .val (.ref b10), .val (.ref b35), .val (.int a), .val (.int lim), .val (.int en), .unset, .unset, .unset, .unset] [(.int en), (.int p3), (.int lim), (.int a), (.ref b35)])) rfl (by rw [hml]; rfl) (Steps.refl _) (argsL := [(.int a), (.int lim), (.int p3), (.int en)]) (rest := []) (lenOf own_pd5 rfl) rfl (by show 2 * 0 + _ ≤ _; exact Nat.le_of_eq rfl) (hb hby at_139) (fun _ _ => ⟨rfl, e48, (Nat.le_trans (Nat.add_le_add_right hcl48 0) (by decide)), (Nat.le_trans (Nat.add_le_add_right hsl48 0) (by decide))⟩)
      dsimp only [Pt.U, Pt.locs, Pt.cells, Pt.slots] at X68 l68 y68 z68 st68 hQ68
      subst l68 y68 z68
      obtain ⟨rfl, Nq68, K68, q68_0, q68_1, q68_2, q68_3, q68_4, q68_5⟩ := hQ68
      refine OE.of (fun _ k => st68.trans k) ?_
      have N68 := Fr.app N48 Nq68
      show OE _ p e below s _ _ _ T68 (mkF m 142 #[.val (.int p1), .val (.int p2), .val (.int p3), .val (.int p4), .val (.int p5), .val (.int p6), .val (.ref b1), .val (.ref b5), .val (.ref b10), .val (.ref b35), .val (.int a), .val (.int lim), .val (.int en), .unset, .unset, .unset, .unset] [])
      refine OE.aload X68 hx hby at_142 rfl rfl ?_
      have z69 : n0 ≤ T68.heap.size := (Nat.le_trans z48 K68.1)
      obtain ⟨cq70, kq70, qa70, qb70, qc70⟩ := isOf hZ rfl q68_0
      obtain ⟨_, _, ⟨T70, L70, k70, n70⟩, -, X70, ⟨Lc70, hQ70, l70, y70, z70⟩, st70⟩ := X68.virtualBack hx (y := (⟨"com/example/corbel/corbel/ByteSlices$Reader", "address", "()I"⟩ : MethodName)) (z := (⟨"com/example/corbel/corbel/ByteSlices$Reader", "address", "()I"⟩ : MethodName)) hown (mvT hZ (hw _ (List.mem_of_getElem? (i := 66) rfl))) (mvT hZ (hw _ (List.mem_of_getElem? (i := 67) rfl))) (notFace_of_selects (args := #[]) (mvT hZ (hw _ (List.mem_of_getElem? (i := 69) rfl)))) (mvT hZ (hw _ (List.mem_of_getElem? (i := 69) rfl))) (mvT hZ (hw _ (List.mem_of_getElem? (i := 68) rfl))) (by decide) (backOf (W := 0) (own_rm8 l Z a0 hw [] b35 a T68.heap n0 z69 q68_1) hZ (hw _ (List.mem_of_getElem? (i := 70) rfl)) (hw _ (List.mem_of_getElem? (i := 38) rfl)) (by decide) (by decide)) qa70 qc70 (g := (mkF m 144 #[.val (.int p1), .val (.int p2), .val (.int p3), .val (.int p4), .val (.int p5), .val (.int p6), .val (.ref b1), .val (.ref b5), .val (.ref b10), .val (.ref b35), .val (.int a), .val (.int lim), .val (.int en), .unset, .unset, .unset, .unset] [(.ref b35)])) rfl (by rw [hml]; rfl) (Steps.refl _) (argsL := []) (rest := []) (lenOf own_pd6 rfl) rfl (by show 2 * 0 + _ ≤ _; exact Nat.le_of_eq rfl) (hb hby at_144) (fun _ _ => ⟨rfl, rfl, (Nat.le_trans (Nat.add_le_add_right (Nat.add_le_add_right hcl48 0) 0) (by decide)), (Nat.le_trans (Nat.add_le_add_right (Nat.add_le_add_right hsl48 0) 0) (by decide))⟩)
      dsimp only [Pt.U, Pt.locs, Pt.cells, Pt.slots] at X70 l70 y70 z70 st70 hQ70
      subst l70 y70 z70
      obtain ⟨rfl, Nq70, eq70⟩ := hQ70
      refine OE.of (fun _ k => st70.trans k) ?_
      have N70 := Fr.app N68 Nq70
      show OE _ p e below s _ _ _ T70 (mkF m 147 #[.val (.int p1), .val (.int p2), .val (.int p3), .val (.int p4), .val (.int p5), .val (.int p6), .val (.ref b1), .val (.ref b5), .val (.ref b10), .val (.ref b35), .val (.int a), .val (.int lim), .val (.int en), .unset, .unset, .unset, .unset] [(.int a)])
      refine OE.iload X70 hx hby at_147 rfl ?_
      refine OE.icmpNo X70 hx hby at_149 (teq (rfl : a = a)).2 ?_
      refine OE.aload X70 hx hby at_152 rfl rfl ?_
      obtain ⟨cq71, kq71, qa71, qb71, qc71⟩ := isOf hZ eq70 q68_0
      obtain ⟨_, _, ⟨T71, L71, k71, n71⟩, -, X71, ⟨Lc71, hQ71, l71, y71, z71⟩, st71⟩ := X70.virtualBack hx (y := (⟨"com/example/corbel/corbel/ByteSlices$Reader", "limit", "()I"⟩ : MethodName)) (z := (⟨"com/example/corbel/corbel/ByteSlices$Reader", "limit", "()I"⟩ : MethodName)) hown (mvT hZ (hw _ (List.mem_of_getElem? (i := 71) rfl))) (mvT hZ (hw _ (List.mem_of_getElem? (i := 72) rfl))) (notFace_of_selects (args := #[]) (mvT hZ (hw _ (List.mem_of_getElem? (i := 74) rfl)))) (mvT hZ (hw _ (List.mem_of_getElem? (i := 74) rfl))) (mvT hZ (hw _ (List.mem_of_getElem? (i := 73) rfl))) (by decide) (backOf (W := 0) (own_rm9 l Z a0 hw [] b35 lim T68.heap n0 z69 q68_2) hZ (hw _ (List.mem_of_getElem? (i := 75) rfl)) (hw _ (List.mem_of_getElem? (i := 38) rfl)) (by decide) (by decide)) qa71 qc71 (g := (mkF m 154 #[.val (.int p1), .val (.int p2), .val (.int p3), .val (.int p4), .val (.int p5), .val (.int p6), .val (.ref b1), .val (.ref b5), .val (.ref b10), .val (.ref b35), .val (.int a), .val (.int lim), .val (.int en), .unset, .unset, .unset, .unset] [(.ref b35)])) rfl (by rw [hml]; rfl) (Steps.refl _) (argsL := []) (rest := []) (lenOf own_pd6 rfl) rfl (by show 2 * 0 + _ ≤ _; exact Nat.le_of_eq rfl) (hb hby at_154) (fun _ _ => ⟨rfl, eq70, (Nat.le_trans (Nat.add_le_add_right (Nat.add_le_add_right (Nat.add_le_add_right hcl48 0) 0) 0) (by decide)), (Nat.le_trans (Nat.add_le_add_right (Nat.add_le_add_right (Nat.add_le_add_right hsl48 0) 0) 0) (by decide))⟩)
      dsimp only [Pt.U, Pt.locs, Pt.cells, Pt.slots] at X71 l71 y71 z71 st71 hQ71
      subst l71 y71 z71
      obtain ⟨rfl, Nq71, eq71⟩ := hQ71
      refine OE.of (fun _ k => st71.trans k) ?_
      have N71 := Fr.app N70 Nq71
      show OE _ p e below s _ _ _ T71 (mkF m 157 #[.val (.int p1), .val (.int p2), .val (.int p3), .val (.int p4), .val (.int p5), .val (.int p6), .val (.ref b1), .val (.ref b5), .val (.ref b10), .val (.ref b35), .val (.int a), .val (.int lim), .val (.int en), .unset, .unset, .unset, .unset] [(.int lim)])
      refine OE.iload X71 hx hby at_157 rfl ?_
      refine OE.icmpNo X71 hx hby at_159 (teq (rfl : lim = lim)).2 ?_
      refine OE.aload X71 hx hby at_162 rfl rfl ?_
      obtain ⟨cq72, kq72, qa72, qb72, qc72⟩ := isOf hZ eq71 q68_0
      obtain ⟨_, _, ⟨T72, L72, k72, n72⟩, -, X72, ⟨Lc72, hQ72, l72, y72, z72⟩, st72⟩ := X71.virtualBack hx (y := (⟨"com/example/corbel/corbel/ByteSlices$Reader", "level", "()I"⟩ : MethodName)) (z := (⟨"com/example/corbel/corbel/ByteSlices$Reader", "level", "()I"⟩ : MethodName)) hown (mvT hZ (hw _ (List.mem_of_getElem? (i := 76) rfl))) (mvT hZ (hw _ (List.mem_of_getElem? (i := 77) rfl))) (notFace_of_selects (args := #[]) (mvT hZ (hw _ (List.mem_of_getElem? (i := 79) rfl)))) (mvT hZ (hw _ (List.mem_of_getElem? (i := 79) rfl))) (mvT hZ (hw _ (List.mem_of_getElem? (i := 78) rfl))) (by decide) (backOf (W := 0) (own_rm10 l Z a0 hw [] b35 p3 T68.heap n0 z69 q68_3) hZ (hw _ (List.mem_of_getElem? (i := 80) rfl)) (hw _ (List.mem_of_getElem? (i := 38) rfl)) (by decide) (by decide)) qa72 qc72 (g := (mkF m 164 #[.val (.int p1), .val (.int p2), .val (.int p3), .val (.int p4), .val (.int p5), .val (.int p6), .val (.ref b1), .val (.ref b5), .val (.ref b10), .val (.ref b35), .val (.int a), .val (.int lim), .val (.int en), .unset, .unset, .unset, .unset] [(.ref b35)])) rfl (by rw [hml]; rfl) (Steps.refl _) (argsL := []) (rest := []) (lenOf own_pd6 rfl) rfl (by show 2 * 0 + _ ≤ _; exact Nat.le_of_eq rfl) (hb hby at_164) (fun _ _ => ⟨rfl, eq71, (Nat.le_trans (Nat.add_le_add_right (Nat.add_le_add_right (Nat.add_le_add_right (Nat.add_le_add_right hcl48 0) 0) 0) 0) (by decide)), (Nat.le_trans (Nat.add_le_add_right (Nat.add_le_add_right (Nat.add_le_add_right (Nat.add_le_add_right hsl48 0) 0) 0) 0) (by decide))⟩)
      dsimp only [Pt.U, Pt.locs, Pt.cells, Pt.slots] at X72 l72 y72 z72 st72 hQ72
      subst l72 y72 z72
      obtain ⟨rfl, Nq72, eq72⟩ := hQ72
      refine OE.of (fun _ k => st72.trans k) ?_
      have N72 := Fr.app N71 Nq72
      show OE _ p e below s _ _ _ T72 (mkF m 167 #[.val (.int p1), .val (.int p2), .val (.int p3), .val (.int p4), .val (.int p5), .val (.int p6), .val (.ref b1), .val (.ref b5), .val (.ref b10), .val (.ref b35), .val (.int a), .val (.int lim), .val (.int en), .unset, .unset, .unset, .unset] [(.int p3)])
      refine OE.iloadN X72 hx hby at_167 rfl ?_
      refine OE.icmpNo X72 hx hby at_168 (teq (rfl : p3 = p3)).2 ?_
      refine OE.aload X72 hx hby at_171 rfl rfl ?_
      obtain ⟨cq73, kq73, qa73, qb73, qc73⟩ := isOf hZ eq72 q68_0
      obtain ⟨_, _, ⟨T73, L73, k73, n73⟩, -, X73, ⟨Lc73, hQ73, l73, y73, z73⟩, st73⟩ := X72.virtualBack hx (y := (⟨"com/example/corbel/corbel/ByteSlices$Reader", "atEnd", "()Z"⟩ : MethodName)) (z := (⟨"com/example/corbel/corbel/ByteSlices$Reader", "atEnd", "()Z"⟩ : MethodName)) hown (mvT hZ (hw _ (List.mem_of_getElem? (i := 81) rfl))) (mvT hZ (hw _ (List.mem_of_getElem? (i := 82) rfl))) (notFace_of_selects (args := #[]) (mvT hZ (hw _ (List.mem_of_getElem? (i := 84) rfl)))) (mvT hZ (hw _ (List.mem_of_getElem? (i := 84) rfl))) (mvT hZ (hw _ (List.mem_of_getElem? (i := 83) rfl))) (by decide) (backOf (W := 0) (own_rm11 l Z a0 hw [] b35 a en T68.heap n0 z69 q68_1 q68_4) hZ (hw _ (List.mem_of_getElem? (i := 85) rfl)) (hw _ (List.mem_of_getElem? (i := 38) rfl)) (by decide) (by decide)) qa73 qc73 (g := (mkF m 173 #[.val (.int p1), .val (.int p2), .val (.int p3), .val (.int p4), .val (.int p5), .val (.int p6), .val (.ref b1), .val (.ref b5), .val (.ref b10), .val (.ref b35), .val (.int a), .val (.int lim), .val (.int en), .unset, .unset, .unset, .unset] [(.ref b35)])) rfl (by rw [hml]; rfl) (Steps.refl _) (argsL := []) (rest := []) (lenOf own_pd7 rfl) rfl (by show 2 * 0 + _ ≤ _; exact Nat.le_of_eq rfl) (hb hby at_173) (fun _ _ => ⟨rfl, eq72, (Nat.le_trans (Nat.add_le_add_right (Nat.add_le_add_right (Nat.add_le_add_right (Nat.add_le_add_right (Nat.add_le_add_right hcl48 0) 0) 0) 0) 0) (by decide)), (Nat.le_trans (Nat.add_le_add_right (Nat.add_le_add_right (Nat.add_le_add_right (Nat.add_le_add_right (Nat.add_le_add_right hsl48 0) 0) 0) 0) 0) (by decide))⟩)
      dsimp only [Pt.U, Pt.locs, Pt.cells, Pt.slots] at X73 l73 y73 z73 st73 hQ73
      subst l73 y73 z73
      obtain ⟨rfl, Nq73, eq73⟩ := hQ73
      refine OE.of (fun _ k => st73.trans k) ?_
      have N73 := Fr.app N72 Nq73
      show OE _ p e below s _ _ _ T73 (mkF m 176 #[.val (.int p1), .val (.int p2), .val (.int p3), .val (.int p4), .val (.int p5), .val (.int p6), .val (.ref b1), .val (.ref b5), .val (.ref b10), .val (.ref b35), .val (.int a), .val (.int lim), .val (.int en), .unset, .unset, .unset, .unset] [(.int (if a = en then (1 : Int32) else (0 : Int32)))])
      by_cases hl74 : a = en
      · skip
        rw [if_pos (show a = en from hl74)]
        show OE _ p e below s _ _ _ T73 (mkF m 176 #[.val (.int p1), .val (.int p2), .val (.int p3), .val (.int p4), .val (.int p5), .val (.int p6), .val (.ref b1), .val (.ref b5), .val (.ref b10), .val (.ref b35), .val (.int a), .val (.int lim), .val (.int en), .unset, .unset, .unset, .unset] [(.int (1 : Int32))])
        refine OE.iload X73 hx hby at_176 rfl ?_
        refine OE.iload X73 hx hby at_178 rfl ?_
        refine OE.icmpNo X73 hx hby at_180 (teq (hl74 : a = en)).2 ?_
        refine OE.iconst X73 hx hby at_183 (1 : Int32) rfl ?_
        refine OE.goto X73 hx hby (pc' := 188) at_184 (h := ?_)
        refine OE.icmpNo X73 hx hby at_188 (teq (by decide : (1 : Int32) = (1 : Int32))).2 ?_
        refine OE.iconst X73 hx hby at_191 (1 : Int32) rfl ?_
        refine OE.goto X73 hx hby (pc' := 196) at_192 (h := ?_)
        refine OE.istore X73 hx hby at_196 (l' := #[.val (.int p1), .val (.int p2), .val (.int p3), .val (.int p4), .val (.int p5), .val (.int p6), .val (.ref b1), .val (.ref b5), .val (.ref b10), .val (.ref b35), .val (.int a), .val (.int lim), .val (.int en), .val (.int (1 : Int32)), .unset, .unset, .unset]) rfl ?_
        refine OE.iload X73 hx hby at_198 rfl ?_
        refine OE.ifYes X73 hx hby (pc' := 205) at_200 (feq (by decide : ¬ ((1 : Int32) = (0 : Int32)))).2 (h := ?_)
        refine OE.iload X73 hx hby at_205 rfl ?_
        refine OE.iload X73 hx hby at_207 rfl ?_
        by_cases hc209 : lim = a
        · skip
          refine OE.icmpNo X73 hx hby at_209 (teq hc209).2 ?_
          refine OE.iconst X73 hx hby at_212 (1 : Int32) rfl ?_
          refine OE.retN X73 hx (t := .boolean) Bd.returns (by simp) Bd.notSynchronized (hb hby at_213) (Nat.le_trans (Nat.add_le_add_right (Nat.add_le_add_right (Nat.add_le_add_right (Nat.add_le_add_right (Nat.add_le_add_right hcl48 0) 0) 0) 0) 0) (by decide)) (Nat.le_trans (Nat.add_le_add_right (Nat.add_le_add_right (Nat.add_le_add_right (Nat.add_le_add_right (Nat.add_le_add_right hsl48 0) 0) 0) 0) 0) (by decide)) ?_
          rw [eq73]
          exact ⟨rfl, N73⟩
        · skip
          refine OE.icmpYes X73 hx hby (pc' := 214) at_209 (feq hc209).2 (h := ?_)
          refine OE.iload X73 hx hby at_214 rfl ?_
          refine OE.bipush X73 hx hby at_216 (15 : Int32) rfl ?_
          refine OE.iushr X73 hx hby at_218 ?_
          refine OE.iconst X73 hx hby at_219 (1 : Int32) rfl ?_
          refine OE.iand X73 hx hby at_220 ?_
          rw [hix]
          rw [(by decide : ((1 : Int32) &&& (1 : Int32)) = (1 : Int32))]
          show OE _ p e below s _ _ _ T73 (mkF m 221 #[.val (.int p1), .val (.int p2), .val (.int p3), .val (.int p4), .val (.int p5), .val (.int p6), .val (.ref b1), .val (.ref b5), .val (.ref b10), .val (.ref b35), .val (.int a), .val (.int lim), .val (.int en), .val (.int (1 : Int32)), .unset, .unset, .unset] [(.int (1 : Int32))])
          refine OE.istore X73 hx hby at_221 (l' := #[.val (.int p1), .val (.int p2), .val (.int p3), .val (.int p4), .val (.int p5), .val (.int p6), .val (.ref b1), .val (.ref b5), .val (.ref b10), .val (.ref b35), .val (.int a), .val (.int lim), .val (.int en), .val (.int (1 : Int32)), .val (.int (1 : Int32)), .unset, .unset]) rfl ?_
          refine OE.iload X73 hx hby at_223 rfl ?_
          refine OE.sipush X73 hx hby at_225 (32767 : Int32) rfl ?_
          refine OE.iand X73 hx hby at_228 ?_
          obtain ⟨off, e_off⟩ : ∃ z, z = (a &&& (32767 : Int32)) := ⟨_, rfl⟩
          rw [← e_off]
          have hin2 := hin
          rw [← e_off] at hin2
          show OE _ p e below s _ _ _ T73 (mkF m 229 #[.val (.int p1), .val (.int p2), .val (.int p3), .val (.int p4), .val (.int p5), .val (.int p6), .val (.ref b1), .val (.ref b5), .val (.ref b10), .val (.ref b35), .val (.int a), .val (.int lim), .val (.int en), .val (.int (1 : Int32)), .val (.int (1 : Int32)), .unset, .unset] [(.int off)])
          refine OE.istore X73 hx hby at_229 (l' := #[.val (.int p1), .val (.int p2), .val (.int p3), .val (.int p4), .val (.int p5), .val (.int p6), .val (.ref b1), .val (.ref b5), .val (.ref b10), .val (.ref b35), .val (.int a), .val (.int lim), .val (.int en), .val (.int (1 : Int32)), .val (.int (1 : Int32)), .val (.int off), .unset]) rfl ?_
          refine OE.iconst X73 hx hby at_231 (0 : Int32) rfl ?_
          refine OE.istore X73 hx hby at_232 (l' := #[.val (.int p1), .val (.int p2), .val (.int p3), .val (.int p4), .val (.int p5), .val (.int p6), .val (.ref b1), .val (.ref b5), .val (.ref b10), .val (.ref b35), .val (.int a), .val (.int lim), .val (.int en), .val (.int (1 : Int32)), .val (.int (1 : Int32)), .val (.int off), .val (.int (0 : Int32))]) rfl ?_
          refine OE.iload X73 hx hby at_234 rfl ?_
          refine OE.iconst X73 hx hby at_236 (2 : Int32) rfl ?_
          by_cases hc237 : off < (2 : Int32)
          · skip
            rcases own_o hin2.1 hc237 with ho | ho
            · skip
              refine OE.icmpNo X73 hx hby at_237 (tlt hc237).2.1 ?_
              rw [ho]
              show OE _ p e below s _ _ _ T73 (mkF m 240 #[.val (.int p1), .val (.int p2), .val (.int p3), .val (.int p4), .val (.int p5), .val (.int p6), .val (.ref b1), .val (.ref b5), .val (.ref b10), .val (.ref b35), .val (.int a), .val (.int lim), .val (.int en), .val (.int (1 : Int32)), .val (.int (1 : Int32)), .val (.int (0 : Int32)), .val (.int (0 : Int32))] [])
              refine OE.iload X73 hx hby at_240 rfl ?_
              refine OE.iload X73 hx hby at_242 rfl ?_
              refine OE.bipush X73 hx hby at_244 (16 : Int32) rfl ?_
              refine OE.imul X73 hx hby at_246 ?_
              rw [(by decide : ((1 : Int32) * (16 : Int32)) = (16 : Int32))]
              refine OE.iload X73 hx hby at_247 rfl ?_
              refine OE.bipush X73 hx hby at_249 (8 : Int32) rfl ?_
              refine OE.imul X73 hx hby at_251 ?_
              rw [(by decide : ((0 : Int32) * (8 : Int32)) = (0 : Int32))]
              refine OE.iadd X73 hx hby at_252 ?_
              rw [(by decide : ((16 : Int32) + (0 : Int32)) = (16 : Int32))]
              refine OE.iushr X73 hx hby at_253 ?_
              refine OE.sipush X73 hx hby at_254 (255 : Int32) rfl ?_
              refine OE.iand X73 hx hby at_257 ?_
              refine OE.istore X73 hx hby at_258 (l' := #[.val (.int p1), .val (.int p2), .val (.int p3), .val (.int p4), .val (.int p5), .val (.int p6), .val (.ref b1), .val (.ref b5), .val (.ref b10), .val (.ref b35), .val (.int a), .val (.int lim), .val (.int en), .val (.int (1 : Int32)), .val (.int (1 : Int32)), .val (.int (0 : Int32)), .val (.int (((p5.toUInt32 >>> ((16 : Int32) &&& 31).toUInt32).toInt32) &&& (255 : Int32)))]) rfl ?_
              refine OE.aload X73 hx hby at_260 rfl rfl ?_
              have f75 : Arv Z T68.heap r32_nb r32_kn .byte (32768 : Int32) [(.int v2), (.int v3)] (.int (0 : Int32)) := (u10.keep K68 (ninS ne_r32_nb_b35 nin0))
              obtain ⟨cq76, kq76, qa76, qb76, qc76⟩ := isOf hZ eq73 q68_0
              obtain ⟨_, _, ⟨T76, L76, k76, n76⟩, -, X76, ⟨Lc76, hQ76, l76, y76, z76⟩, st76⟩ := X73.virtualBack hx (y := (⟨"com/example/corbel/corbel/ByteSlices$Reader", "readByte", "()I"⟩ : MethodName)) (z := (⟨"com/example/corbel/corbel/ByteSlices$Reader", "readByte", "()I"⟩ : MethodName)) hown (mvT hZ (hw _ (List.mem_of_getElem? (i := 86) rfl))) (mvT hZ (hw _ (List.mem_of_getElem? (i := 87) rfl))) (notFace_of_selects (args := #[]) (mvT hZ (hw _ (List.mem_of_getElem? (i := 89) rfl)))) (mvT hZ (hw _ (List.mem_of_getElem? (i := 89) rfl))) (mvT hZ (hw _ (List.mem_of_getElem? (i := 88) rfl))) (by decide) (backOf (W := 0) (own_rm12 l Z a0 hw [] b35 a lim r32_nb r32_kn [(.int v2), (.int v3)] v2 T68.heap n0 z69 q68_0 q68_1 q68_2 q68_5 f75 g_48_b35 ne_r32_nb_b35 (fun q => hc209 q.symm) hin (by rw [← e_off, ho]; rfl)) hZ (hw _ (List.mem_of_getElem? (i := 90) rfl)) (hw _ (List.mem_of_getElem? (i := 38) rfl)) (by decide) (by decide)) qa76 qc76 (g := (mkF m 262 #[.val (.int p1), .val (.int p2), .val (.int p3), .val (.int p4), .val (.int p5), .val (.int p6), .val (.ref b1), .val (.ref b5), .val (.ref b10), .val (.ref b35), .val (.int a), .val (.int lim), .val (.int en), .val (.int (1 : Int32)), .val (.int (1 : Int32)), .val (.int (0 : Int32)), .val (.int (((p5.toUInt32 >>> ((16 : Int32) &&& 31).toUInt32).toInt32) &&& (255 : Int32)))] [(.ref b35)])) rfl (by rw [hml]; rfl) (Steps.refl _) (argsL := []) (rest := []) (lenOf own_pd6 rfl) rfl (by show 2 * 0 + _ ≤ _; exact Nat.le_of_eq rfl) (hb hby at_262) (fun _ _ => ⟨rfl, eq73, (Nat.le_trans (Nat.add_le_add_right (Nat.add_le_add_right (Nat.add_le_add_right (Nat.add_le_add_right (Nat.add_le_add_right (Nat.add_le_add_right hcl48 0) 0) 0) 0) 0) 0) (by decide)), (Nat.le_trans (Nat.add_le_add_right (Nat.add_le_add_right (Nat.add_le_add_right (Nat.add_le_add_right (Nat.add_le_add_right (Nat.add_le_add_right hsl48 0) 0) 0) 0) 0) 0) (by decide))⟩)
              dsimp only [Pt.U, Pt.locs, Pt.cells, Pt.slots] at X76 l76 y76 z76 st76 hQ76
              subst l76 y76 z76
              obtain ⟨rfl, Nq76, K76, q76_0⟩ := hQ76
              refine OE.of (fun _ k => st76.trans k) ?_
              have N76 := Fr.app N73 Nq76
              show OE _ p e below s _ _ _ T76 (mkF m 265 #[.val (.int p1), .val (.int p2), .val (.int p3), .val (.int p4), .val (.int p5), .val (.int p6), .val (.ref b1), .val (.ref b5), .val (.ref b10), .val (.ref b35), .val (.int a), .val (.int lim), .val (.int en), .val (.int (1 : Int32)), .val (.int (1 : Int32)), .val (.int (0 : Int32)), .val (.int (((p5.toUInt32 >>> ((16 : Int32) &&& 31).toUInt32).toInt32) &&& (255 : Int32)))] [(.int (v2 &&& (255 : Int32)))])
              refine OE.iload X76 hx hby at_265 rfl ?_
              refine OE.icmpNo X76 hx hby at_267 (teq ((by rw [ev2]; exact own_b _) : (v2 &&& (255 : Int32)) = (((p5.toUInt32 >>> ((16 : Int32) &&& 31).toUInt32).toInt32) &&& (255 : Int32)))).2 ?_
              refine OE.iconst X76 hx hby at_270 (1 : Int32) rfl ?_
              refine OE.goto X76 hx hby (pc' := 275) at_271 (h := ?_)
              refine OE.retN X76 hx (t := .boolean) Bd.returns (by simp) Bd.notSynchronized (hb hby at_275) (Nat.le_trans (Nat.add_le_add_right (Nat.add_le_add_right (Nat.add_le_add_right (Nat.add_le_add_right (Nat.add_le_add_right (Nat.add_le_add_right hcl48 0) 0) 0) 0) 0) 0) (by decide)) (Nat.le_trans (Nat.add_le_add_right (Nat.add_le_add_right (Nat.add_le_add_right (Nat.add_le_add_right (Nat.add_le_add_right (Nat.add_le_add_right hsl48 0) 0) 0) 0) 0) 0) (by decide)) ?_
              exact ⟨rfl, N76⟩
            · skip
              refine OE.icmpNo X73 hx hby at_237 (tlt hc237).2.1 ?_
              rw [ho]
              show OE _ p e below s _ _ _ T73 (mkF m 240 #[.val (.int p1), .val (.int p2), .val (.int p3), .val (.int p4), .val (.int p5), .val (.int p6), .val (.ref b1), .val (.ref b5), .val (.ref b10), .val (.ref b35), .val (.int a), .val (.int lim), .val (.int en), .val (.int (1 : Int32)), .val (.int (1 : Int32)), .val (.int (1 : Int32)), .val (.int (0 : Int32))] [])
              refine OE.iload X73 hx hby at_240 rfl ?_
              refine OE.iload X73 hx hby at_242 rfl ?_
              refine OE.bipush X73 hx hby at_244 (16 : Int32) rfl ?_
              refine OE.imul X73 hx hby at_246 ?_
              rw [(by decide : ((1 : Int32) * (16 : Int32)) = (16 : Int32))]
              refine OE.iload X73 hx hby at_247 rfl ?_
              refine OE.bipush X73 hx hby at_249 (8 : Int32) rfl ?_
              refine OE.imul X73 hx hby at_251 ?_
              rw [(by decide : ((1 : Int32) * (8 : Int32)) = (8 : Int32))]
              refine OE.iadd X73 hx hby at_252 ?_
              rw [(by decide : ((16 : Int32) + (8 : Int32)) = (24 : Int32))]
              refine OE.iushr X73 hx hby at_253 ?_
              refine OE.sipush X73 hx hby at_254 (255 : Int32) rfl ?_
              refine OE.iand X73 hx hby at_257 ?_
              refine OE.istore X73 hx hby at_258 (l' := #[.val (.int p1), .val (.int p2), .val (.int p3), .val (.int p4), .val (.int p5), .val (.int p6), .val (.ref b1), .val (.ref b5), .val (.ref b10), .val (.ref b35), .val (.int a), .val (.int lim), .val (.int en), .val (.int (1 : Int32)), .val (.int (1 : Int32)), .val (.int (1 : Int32)), .val (.int (((p5.toUInt32 >>> ((24 : Int32) &&& 31).toUInt32).toInt32) &&& (255 : Int32)))]) rfl ?_
              refine OE.aload X73 hx hby at_260 rfl rfl ?_
              have f77 : Arv Z T68.heap r32_nb r32_kn .byte (32768 : Int32) [(.int v2), (.int v3)] (.int (0 : Int32)) := (u10.keep K68 (ninS ne_r32_nb_b35 nin0))
              obtain ⟨cq78, kq78, qa78, qb78, qc78⟩ := isOf hZ eq73 q68_0
              obtain ⟨_, _, ⟨T78, L78, k78, n78⟩, -, X78, ⟨Lc78, hQ78, l78, y78, z78⟩, st78⟩ := X73.virtualBack hx (y := (⟨"com/example/corbel/corbel/ByteSlices$Reader", "readByte", "()I"⟩ : MethodName)) (z := (⟨"com/example/corbel/corbel/ByteSlices$Reader", "readByte", "()I"⟩ : MethodName)) hown (mvT hZ (hw _ (List.mem_of_getElem? (i := 86) rfl))) (mvT hZ (hw _ (List.mem_of_getElem? (i := 87) rfl))) (notFace_of_selects (args := #[]) (mvT hZ (hw _ (List.mem_of_getElem? (i := 89) rfl)))) (mvT hZ (hw _ (List.mem_of_getElem? (i := 89) rfl))) (mvT hZ (hw _ (List.mem_of_getElem? (i := 88) rfl))) (by decide) (backOf (W := 0) (own_rm12 l Z a0 hw [] b35 a lim r32_nb r32_kn [(.int v2), (.int v3)] v3 T68.heap n0 z69 q68_0 q68_1 q68_2 q68_5 f77 g_48_b35 ne_r32_nb_b35 (fun q => hc209 q.symm) hin (by rw [← e_off, ho]; rfl)) hZ (hw _ (List.mem_of_getElem? (i := 90) rfl)) (hw _ (List.mem_of_getElem? (i := 38) rfl)) (by decide) (by decide)) qa78 qc78 (g := (mkF m 262 #[.val (.int p1), .val (.int p2), .val (.int p3), .val (.int p4), .val (.int p5), .val (.int p6), .val (.ref b1), .val (.ref b5), .val (.ref b10), .val (.ref b35), .val (.int a), .val (.int lim), .val (.int en), .val (.int (1 : Int32)), .val (.int (1 : Int32)), .val (.int (1 : Int32)), .val (.int (((p5.toUInt32 >>> ((24 : Int32) &&& 31).toUInt32).toInt32) &&& (255 : Int32)))] [(.ref b35)])) rfl (by rw [hml]; rfl) (Steps.refl _) (argsL := []) (rest := []) (lenOf own_pd6 rfl) rfl (by show 2 * 0 + _ ≤ _; exact Nat.le_of_eq rfl) (hb hby at_262) (fun _ _ => ⟨rfl, eq73, (Nat.le_trans (Nat.add_le_add_right (Nat.add_le_add_right (Nat.add_le_add_right (Nat.add_le_add_right (Nat.add_le_add_right (Nat.add_le_add_right hcl48 0) 0) 0) 0) 0) 0) (by decide)), (Nat.le_trans (Nat.add_le_add_right (Nat.add_le_add_right (Nat.add_le_add_right (Nat.add_le_add_right (Nat.add_le_add_right (Nat.add_le_add_right hsl48 0) 0) 0) 0) 0) 0) (by decide))⟩)
              dsimp only [Pt.U, Pt.locs, Pt.cells, Pt.slots] at X78 l78 y78 z78 st78 hQ78
              subst l78 y78 z78
              obtain ⟨rfl, Nq78, K78, q78_0⟩ := hQ78
              refine OE.of (fun _ k => st78.trans k) ?_
              have N78 := Fr.app N73 Nq78
              show OE _ p e below s _ _ _ T78 (mkF m 265 #[.val (.int p1), .val (.int p2), .val (.int p3), .val (.int p4), .val (.int p5), .val (.int p6), .val (.ref b1), .val (.ref b5), .val (.ref b10), .val (.ref b35), .val (.int a), .val (.int lim), .val (.int en), .val (.int (1 : Int32)), .val (.int (1 : Int32)), .val (.int (1 : Int32)), .val (.int (((p5.toUInt32 >>> ((24 : Int32) &&& 31).toUInt32).toInt32) &&& (255 : Int32)))] [(.int (v3 &&& (255 : Int32)))])
              refine OE.iload X78 hx hby at_265 rfl ?_
              refine OE.icmpNo X78 hx hby at_267 (teq ((by rw [ev3]; exact own_b _) : (v3 &&& (255 : Int32)) = (((p5.toUInt32 >>> ((24 : Int32) &&& 31).toUInt32).toInt32) &&& (255 : Int32)))).2 ?_
              refine OE.iconst X78 hx hby at_270 (1 : Int32) rfl ?_
              refine OE.goto X78 hx hby (pc' := 275) at_271 (h := ?_)
              refine OE.retN X78 hx (t := .boolean) Bd.returns (by simp) Bd.notSynchronized (hb hby at_275) (Nat.le_trans (Nat.add_le_add_right (Nat.add_le_add_right (Nat.add_le_add_right (Nat.add_le_add_right (Nat.add_le_add_right (Nat.add_le_add_right hcl48 0) 0) 0) 0) 0) 0) (by decide)) (Nat.le_trans (Nat.add_le_add_right (Nat.add_le_add_right (Nat.add_le_add_right (Nat.add_le_add_right (Nat.add_le_add_right (Nat.add_le_add_right hsl48 0) 0) 0) 0) 0) 0) (by decide)) ?_
              exact ⟨rfl, N78⟩
          · skip
            refine OE.icmpYes X73 hx hby (pc' := 260) at_237 (flt hc237).2.1 (h := ?_)
            show OE _ p e below s _ _ _ T73 (mkF m 260 #[.val (.int p1), .val (.int p2), .val (.int p3), .val (.int p4), .val (.int p5), .val (.int p6), .val (.ref b1), .val (.ref b5), .val (.ref b10), .val (.ref b35), .val (.int a), .val (.int lim), .val (.int en), .val (.int (1 : Int32)), .val (.int (1 : Int32)), .val (.int off), .val (.int (0 : Int32))] [])
            refine OE.aload X73 hx hby at_260 rfl rfl ?_
            have f79 : Arv Z T68.heap r32_nb r32_kn .byte (32768 : Int32) [(.int v2), (.int v3)] (.int (0 : Int32)) := (u10.keep K68 (ninS ne_r32_nb_b35 nin0))
            obtain ⟨cq80, kq80, qa80, qb80, qc80⟩ := isOf hZ eq73 q68_0
            obtain ⟨_, _, ⟨T80, L80, k80, n80⟩, -, X80, ⟨Lc80, hQ80, l80, y80, z80⟩, st80⟩ := X73.virtualBack hx (y := (⟨"com/example/corbel/corbel/ByteSlices$Reader", "readByte", "()I"⟩ : MethodName)) (z := (⟨"com/example/corbel/corbel/ByteSlices$Reader", "readByte", "()I"⟩ : MethodName)) hown (mvT hZ (hw _ (List.mem_of_getElem? (i := 86) rfl))) (mvT hZ (hw _ (List.mem_of_getElem? (i := 87) rfl))) (notFace_of_selects (args := #[]) (mvT hZ (hw _ (List.mem_of_getElem? (i := 89) rfl)))) (mvT hZ (hw _ (List.mem_of_getElem? (i := 89) rfl))) (mvT hZ (hw _ (List.mem_of_getElem? (i := 88) rfl))) (by decide) (backOf (W := 0) (own_rm12 l Z a0 hw [] b35 a lim r32_nb r32_kn [(.int v2), (.int v3)] (0 : Int32) T68.heap n0 z69 q68_0 q68_1 q68_2 q68_5 f79 g_48_b35 ne_r32_nb_b35 (fun q => hc209 q.symm) hin (by rw [← e_off]; exact own_far hin2.1 hc237)) hZ (hw _ (List.mem_of_getElem? (i := 90) rfl)) (hw _ (List.mem_of_getElem? (i := 38) rfl)) (by decide) (by decide)) qa80 qc80 (g := (mkF m 262 #[.val (.int p1), .val (.int p2), .val (.int p3), .val (.int p4), .val (.int p5), .val (.int p6), .val (.ref b1), .val (.ref b5), .val (.ref b10), .val (.ref b35), .val (.int a), .val (.int lim), .val (.int en), .val (.int (1 : Int32)), .val (.int (1 : Int32)), .val (.int off), .val (.int (0 : Int32))] [(.ref b35)])) rfl (by rw [hml]; rfl) (Steps.refl _) (argsL := []) (rest := []) (lenOf own_pd6 rfl) rfl (by show 2 * 0 + _ ≤ _; exact Nat.le_of_eq rfl) (hb hby at_262) (fun _ _ => ⟨rfl, eq73, (Nat.le_trans (Nat.add_le_add_right (Nat.add_le_add_right (Nat.add_le_add_right (Nat.add_le_add_right (Nat.add_le_add_right (Nat.add_le_add_right hcl48 0) 0) 0) 0) 0) 0) (by decide)), (Nat.le_trans (Nat.add_le_add_right (Nat.add_le_add_right (Nat.add_le_add_right (Nat.add_le_add_right (Nat.add_le_add_right (Nat.add_le_add_right hsl48 0) 0) 0) 0) 0) 0) (by decide))⟩)
            dsimp only [Pt.U, Pt.locs, Pt.cells, Pt.slots] at X80 l80 y80 z80 st80 hQ80
            subst l80 y80 z80
            obtain ⟨rfl, Nq80, K80, q80_0⟩ := hQ80
            refine OE.of (fun _ k => st80.trans k) ?_
            have N80 := Fr.app N73 Nq80
            show OE _ p e below s _ _ _ T80 (mkF m 265 #[.val (.int p1), .val (.int p2), .val (.int p3), .val (.int p4), .val (.int p5), .val (.int p6), .val (.ref b1), .val (.ref b5), .val (.ref b10), .val (.ref b35), .val (.int a), .val (.int lim), .val (.int en), .val (.int (1 : Int32)), .val (.int (1 : Int32)), .val (.int off), .val (.int (0 : Int32))] [(.int ((0 : Int32) &&& (255 : Int32)))])
            refine OE.iload X80 hx hby at_265 rfl ?_
            refine OE.icmpNo X80 hx hby at_267 (teq (by decide)).2 ?_
            refine OE.iconst X80 hx hby at_270 (1 : Int32) rfl ?_
            refine OE.goto X80 hx hby (pc' := 275) at_271 (h := ?_)
            refine OE.retN X80 hx (t := .boolean) Bd.returns (by simp) Bd.notSynchronized (hb hby at_275) (Nat.le_trans (Nat.add_le_add_right (Nat.add_le_add_right (Nat.add_le_add_right (Nat.add_le_add_right (Nat.add_le_add_right (Nat.add_le_add_right hcl48 0) 0) 0) 0) 0) 0) (by decide)) (Nat.le_trans (Nat.add_le_add_right (Nat.add_le_add_right (Nat.add_le_add_right (Nat.add_le_add_right (Nat.add_le_add_right (Nat.add_le_add_right hsl48 0) 0) 0) 0) 0) 0) (by decide)) ?_
            exact ⟨rfl, N80⟩
      · skip
        rw [if_neg (show ¬ (a = en) from hl74)]
        show OE _ p e below s _ _ _ T73 (mkF m 176 #[.val (.int p1), .val (.int p2), .val (.int p3), .val (.int p4), .val (.int p5), .val (.int p6), .val (.ref b1), .val (.ref b5), .val (.ref b10), .val (.ref b35), .val (.int a), .val (.int lim), .val (.int en), .unset, .unset, .unset, .unset] [(.int (0 : Int32))])
        refine OE.iload X73 hx hby at_176 rfl ?_
        refine OE.iload X73 hx hby at_178 rfl ?_
        refine OE.icmpYes X73 hx hby (pc' := 187) at_180 (feq (hl74 : ¬ (a = en))).2 (h := ?_)
        refine OE.iconst X73 hx hby at_187 (0 : Int32) rfl ?_
        refine OE.icmpNo X73 hx hby at_188 (teq (by decide : (0 : Int32) = (0 : Int32))).2 ?_
        refine OE.iconst X73 hx hby at_191 (1 : Int32) rfl ?_
        refine OE.goto X73 hx hby (pc' := 196) at_192 (h := ?_)
        refine OE.istore X73 hx hby at_196 (l' := #[.val (.int p1), .val (.int p2), .val (.int p3), .val (.int p4), .val (.int p5), .val (.int p6), .val (.ref b1), .val (.ref b5), .val (.ref b10), .val (.ref b35), .val (.int a), .val (.int lim), .val (.int en), .val (.int (1 : Int32)), .unset, .unset, .unset]) rfl ?_
        refine OE.iload X73 hx hby at_198 rfl ?_
        refine OE.ifYes X73 hx hby (pc' := 205) at_200 (feq (by decide : ¬ ((1 : Int32) = (0 : Int32)))).2 (h := ?_)
        refine OE.iload X73 hx hby at_205 rfl ?_
        refine OE.iload X73 hx hby at_207 rfl ?_
        by_cases hc209 : lim = a
        · skip
          refine OE.icmpNo X73 hx hby at_209 (teq hc209).2 ?_
          refine OE.iconst X73 hx hby at_212 (1 : Int32) rfl ?_
          refine OE.retN X73 hx (t := .boolean) Bd.returns (by simp) Bd.notSynchronized (hb hby at_213) (Nat.le_trans (Nat.add_le_add_right (Nat.add_le_add_right (Nat.add_le_add_right (Nat.add_le_add_right (Nat.add_le_add_right hcl48 0) 0) 0) 0) 0) (by decide)) (Nat.le_trans (Nat.add_le_add_right (Nat.add_le_add_right (Nat.add_le_add_right (Nat.add_le_add_right (Nat.add_le_add_right hsl48 0) 0) 0) 0) 0) (by decide)) ?_
          rw [eq73]
          exact ⟨rfl, N73⟩
        · skip
          refine OE.icmpYes X73 hx hby (pc' := 214) at_209 (feq hc209).2 (h := ?_)
          refine OE.iload X73 hx hby at_214 rfl ?_
          refine OE.bipush X73 hx hby at_216 (15 : Int32) rfl ?_
          refine OE.iushr X73 hx hby at_218 ?_
          refine OE.iconst X73 hx hby at_219 (1 : Int32) rfl ?_
          refine OE.iand X73 hx hby at_220 ?_
          rw [hix]
          rw [(by decide : ((1 : Int32) &&& (1 : Int32)) = (1 : Int32))]
          show OE _ p e below s _ _ _ T73 (mkF m 221 #[.val (.int p1), .val (.int p2), .val (.int p3), .val (.int p4), .val (.int p5), .val (.int p6), .val (.ref b1), .val (.ref b5), .val (.ref b10), .val (.ref b35), .val (.int a), .val (.int lim), .val (.int en), .val (.int (1 : Int32)), .unset, .unset, .unset] [(.int (1 : Int32))])
          refine OE.istore X73 hx hby at_221 (l' := #[.val (.int p1), .val (.int p2), .val (.int p3), .val (.int p4), .val (.int p5), .val (.int p6), .val (.ref b1), .val (.ref b5), .val (.ref b10), .val (.ref b35), .val (.int a), .val (.int lim), .val (.int en), .val (.int (1 : Int32)), .val (.int (1 : Int32)), .unset, .unset]) rfl ?_
          refine OE.iload X73 hx hby at_223 rfl ?_
          refine OE.sipush X73 hx hby at_225 (32767 : Int32) rfl ?_
          refine OE.iand X73 hx hby at_228 ?_
          obtain ⟨off, e_off⟩ : ∃ z, z = (a &&& (32767 : Int32)) := ⟨_, rfl⟩
          rw [← e_off]
          have hin2 := hin
          rw [← e_off] at hin2
          show OE _ p e below s _ _ _ T73 (mkF m 229 #[.val (.int p1), .val (.int p2), .val (.int p3), .val (.int p4), .val (.int p5), .val (.int p6), .val (.ref b1), .val (.ref b5), .val (.ref b10), .val (.ref b35), .val (.int a), .val (.int lim), .val (.int en), .val (.int (1 : Int32)), .val (.int (1 : Int32)), .unset, .unset] [(.int off)])
          refine OE.istore X73 hx hby at_229 (l' := #[.val (.int p1), .val (.int p2), .val (.int p3), .val (.int p4), .val (.int p5), .val (.int p6), .val (.ref b1), .val (.ref b5), .val (.ref b10), .val (.ref b35), .val (.int a), .val (.int lim), .val (.int en), .val (.int (1 : Int32)), .val (.int (1 : Int32)), .val (.int off), .unset]) rfl ?_
          refine OE.iconst X73 hx hby at_231 (0 : Int32) rfl ?_
          refine OE.istore X73 hx hby at_232 (l' := #[.val (.int p1), .val (.int p2), .val (.int p3), .val (.int p4), .val (.int p5), .val (.int p6), .val (.ref b1), .val (.ref b5), .val (.ref b10), .val (.ref b35), .val (.int a), .val (.int lim), .val (.int en), .val (.int (1 : Int32)), .val (.int (1 : Int32)), .val (.int off), .val (.int (0 : Int32))]) rfl ?_
          refine OE.iload X73 hx hby at_234 rfl ?_
          refine OE.iconst X73 hx hby at_236 (2 : Int32) rfl ?_
          by_cases hc237 : off < (2 : Int32)
          · skip
            rcases own_o hin2.1 hc237 with ho | ho
            · skip
              refine OE.icmpNo X73 hx hby at_237 (tlt hc237).2.1 ?_
              rw [ho]
              show OE _ p e below s _ _ _ T73 (mkF m 240 #[.val (.int p1), .val (.int p2), .val (.int p3), .val (.int p4), .val (.int p5), .val (.int p6), .val (.ref b1), .val (.ref b5), .val (.ref b10), .val (.ref b35), .val (.int a), .val (.int lim), .val (.int en), .val (.int (1 : Int32)), .val (.int (1 : Int32)), .val (.int (0 : Int32)), .val (.int (0 : Int32))] [])
              refine OE.iload X73 hx hby at_240 rfl ?_
              refine OE.iload X73 hx hby at_242 rfl ?_
              refine OE.bipush X73 hx hby at_244 (16 : Int32) rfl ?_
              refine OE.imul X73 hx hby at_246 ?_
              rw [(by decide : ((1 : Int32) * (16 : Int32)) = (16 : Int32))]
              refine OE.iload X73 hx hby at_247 rfl ?_
              refine OE.bipush X73 hx hby at_249 (8 : Int32) rfl ?_
              refine OE.imul X73 hx hby at_251 ?_
              rw [(by decide : ((0 : Int32) * (8 : Int32)) = (0 : Int32))]
              refine OE.iadd X73 hx hby at_252 ?_
              rw [(by decide : ((16 : Int32) + (0 : Int32)) = (16 : Int32))]
              refine OE.iushr X73 hx hby at_253 ?_
              refine OE.sipush X73 hx hby at_254 (255 : Int32) rfl ?_
              refine OE.iand X73 hx hby at_257 ?_
              refine OE.istore X73 hx hby at_258 (l' := #[.val (.int p1), .val (.int p2), .val (.int p3), .val (.int p4), .val (.int p5), .val (.int p6), .val (.ref b1), .val (.ref b5), .val (.ref b10), .val (.ref b35), .val (.int a), .val (.int lim), .val (.int en), .val (.int (1 : Int32)), .val (.int (1 : Int32)), .val (.int (0 : Int32)), .val (.int (((p5.toUInt32 >>> ((16 : Int32) &&& 31).toUInt32).toInt32) &&& (255 : Int32)))]) rfl ?_
              refine OE.aload X73 hx hby at_260 rfl rfl ?_
              have f81 : Arv Z T68.heap r32_nb r32_kn .byte (32768 : Int32) [(.int v2), (.int v3)] (.int (0 : Int32)) := (u10.keep K68 (ninS ne_r32_nb_b35 nin0))
              obtain ⟨cq82, kq82, qa82, qb82, qc82⟩ := isOf hZ eq73 q68_0
              obtain ⟨_, _, ⟨T82, L82, k82, n82⟩, -, X82, ⟨Lc82, hQ82, l82, y82, z82⟩, st82⟩ := X73.virtualBack hx (y := (⟨"com/example/corbel/corbel/ByteSlices$Reader", "readByte", "()I"⟩ : MethodName)) (z := (⟨"com/example/corbel/corbel/ByteSlices$Reader", "readByte", "()I"⟩ : MethodName)) hown (mvT hZ (hw _ (List.mem_of_getElem? (i := 86) rfl))) (mvT hZ (hw _ (List.mem_of_getElem? (i := 87) rfl))) (notFace_of_selects (args := #[]) (mvT hZ (hw _ (List.mem_of_getElem? (i := 89) rfl)))) (mvT hZ (hw _ (List.mem_of_getElem? (i := 89) rfl))) (mvT hZ (hw _ (List.mem_of_getElem? (i := 88) rfl))) (by decide) (backOf (W := 0) (own_rm12 l Z a0 hw [] b35 a lim r32_nb r32_kn [(.int v2), (.int v3)] v2 T68.heap n0 z69 q68_0 q68_1 q68_2 q68_5 f81 g_48_b35 ne_r32_nb_b35 (fun q => hc209 q.symm) hin (by rw [← e_off, ho]; rfl)) hZ (hw _ (List.mem_of_getElem? (i := 90) rfl)) (hw _ (List.mem_of_getElem? (i := 38) rfl)) (by decide) (by decide)) qa82 qc82 (g := (mkF m 262 #[.val (.int p1), .val (.int p2), .val (.int p3), .val (.int p4), .val (.int p5), .val (.int p6), .val (.ref b1), .val (.ref b5), .val (.ref b10), .val (.ref b35), .val (.int a), .val (.int lim), .val (.int en), .val (.int (1 : Int32)), .val (.int (1 : Int32)), .val (.int (0 : Int32)), .val (.int (((p5.toUInt32 >>> ((16 : Int32) &&& 31).toUInt32).toInt32) &&& (255 : Int32)))] [(.ref b35)])) rfl (by rw [hml]; rfl) (Steps.refl _) (argsL := []) (rest := []) (lenOf own_pd6 rfl) rfl (by show 2 * 0 + _ ≤ _; exact Nat.le_of_eq rfl) (hb hby at_262) (fun _ _ => ⟨rfl, eq73, (Nat.le_trans (Nat.add_le_add_right (Nat.add_le_add_right (Nat.add_le_add_right (Nat.add_le_add_right (Nat.add_le_add_right (Nat.add_le_add_right hcl48 0) 0) 0) 0) 0) 0) (by decide)), (Nat.le_trans (Nat.add_le_add_right (Nat.add_le_add_right (Nat.add_le_add_right (Nat.add_le_add_right (Nat.add_le_add_right (Nat.add_le_add_right hsl48 0) 0) 0) 0) 0) 0) (by decide))⟩)
              dsimp only [Pt.U, Pt.locs, Pt.cells, Pt.slots] at X82 l82 y82 z82 st82 hQ82
              subst l82 y82 z82
              obtain ⟨rfl, Nq82, K82, q82_0⟩ := hQ82
              refine OE.of (fun _ k => st82.trans k) ?_
              have N82 := Fr.app N73 Nq82
              show OE _ p e below s _ _ _ T82 (mkF m 265 #[.val (.int p1), .val (.int p2), .val (.int p3), .val (.int p4), .val (.int p5), .val (.int p6), .val (.ref b1), .val (.ref b5), .val (.ref b10), .val (.ref b35), .val (.int a), .val (.int lim), .val (.int en), .val (.int (1 : Int32)), .val (.int (1 : Int32)), .val (.int (0 : Int32)), .val (.int (((p5.toUInt32 >>> ((16 : Int32) &&& 31).toUInt32).toInt32) &&& (255 : Int32)))] [(.int (v2 &&& (255 : Int32)))])
              refine OE.iload X82 hx hby at_265 rfl ?_
              refine OE.icmpNo X82 hx hby at_267 (teq ((by rw [ev2]; exact own_b _) : (v2 &&& (255 : Int32)) = (((p5.toUInt32 >>> ((16 : Int32) &&& 31).toUInt32).toInt32) &&& (255 : Int32)))).2 ?_
              refine OE.iconst X82 hx hby at_270 (1 : Int32) rfl ?_
              refine OE.goto X82 hx hby (pc' := 275) at_271 (h := ?_)
              refine OE.retN X82 hx (t := .boolean) Bd.returns (by simp) Bd.notSynchronized (hb hby at_275) (Nat.le_trans (Nat.add_le_add_right (Nat.add_le_add_right (Nat.add_le_add_right (Nat.add_le_add_right (Nat.add_le_add_right (Nat.add_le_add_right hcl48 0) 0) 0) 0) 0) 0) (by decide)) (Nat.le_trans (Nat.add_le_add_right (Nat.add_le_add_right (Nat.add_le_add_right (Nat.add_le_add_right (Nat.add_le_add_right (Nat.add_le_add_right hsl48 0) 0) 0) 0) 0) 0) (by decide)) ?_
              exact ⟨rfl, N82⟩
            · skip
              refine OE.icmpNo X73 hx hby at_237 (tlt hc237).2.1 ?_
              rw [ho]
              show OE _ p e below s _ _ _ T73 (mkF m 240 #[.val (.int p1), .val (.int p2), .val (.int p3), .val (.int p4), .val (.int p5), .val (.int p6), .val (.ref b1), .val (.ref b5), .val (.ref b10), .val (.ref b35), .val (.int a), .val (.int lim), .val (.int en), .val (.int (1 : Int32)), .val (.int (1 : Int32)), .val (.int (1 : Int32)), .val (.int (0 : Int32))] [])
              refine OE.iload X73 hx hby at_240 rfl ?_
              refine OE.iload X73 hx hby at_242 rfl ?_
              refine OE.bipush X73 hx hby at_244 (16 : Int32) rfl ?_
              refine OE.imul X73 hx hby at_246 ?_
              rw [(by decide : ((1 : Int32) * (16 : Int32)) = (16 : Int32))]
              refine OE.iload X73 hx hby at_247 rfl ?_
              refine OE.bipush X73 hx hby at_249 (8 : Int32) rfl ?_
              refine OE.imul X73 hx hby at_251 ?_
              rw [(by decide : ((1 : Int32) * (8 : Int32)) = (8 : Int32))]
              refine OE.iadd X73 hx hby at_252 ?_
              rw [(by decide : ((16 : Int32) + (8 : Int32)) = (24 : Int32))]
              refine OE.iushr X73 hx hby at_253 ?_
              refine OE.sipush X73 hx hby at_254 (255 : Int32) rfl ?_
              refine OE.iand X73 hx hby at_257 ?_
              refine OE.istore X73 hx hby at_258 (l' := #[.val (.int p1), .val (.int p2), .val (.int p3), .val (.int p4), .val (.int p5), .val (.int p6), .val (.ref b1), .val (.ref b5), .val (.ref b10), .val (.ref b35), .val (.int a), .val (.int lim), .val (.int en), .val (.int (1 : Int32)), .val (.int (1 : Int32)), .val (.int (1 : Int32)), .val (.int (((p5.toUInt32 >>> ((24 : Int32) &&& 31).toUInt32).toInt32) &&& (255 : Int32)))]) rfl ?_
              refine OE.aload X73 hx hby at_260 rfl rfl ?_
              have f83 : Arv Z T68.heap r32_nb r32_kn .byte (32768 : Int32) [(.int v2), (.int v3)] (.int (0 : Int32)) := (u10.keep K68 (ninS ne_r32_nb_b35 nin0))
              obtain ⟨cq84, kq84, qa84, qb84, qc84⟩ := isOf hZ eq73 q68_0
              obtain ⟨_, _, ⟨T84, L84, k84, n84⟩, -, X84, ⟨Lc84, hQ84, l84, y84, z84⟩, st84⟩ := X73.virtualBack hx (y := (⟨"com/example/corbel/corbel/ByteSlices$Reader", "readByte", "()I"⟩ : MethodName)) (z := (⟨"com/example/corbel/corbel/ByteSlices$Reader", "readByte", "()I"⟩ : MethodName)) hown (mvT hZ (hw _ (List.mem_of_getElem? (i := 86) rfl))) (mvT hZ (hw _ (List.mem_of_getElem? (i := 87) rfl))) (notFace_of_selects (args := #[]) (mvT hZ (hw _ (List.mem_of_getElem? (i := 89) rfl)))) (mvT hZ (hw _ (List.mem_of_getElem? (i := 89) rfl))) (mvT hZ (hw _ (List.mem_of_getElem? (i := 88) rfl))) (by decide) (backOf (W := 0) (own_rm12 l Z a0 hw [] b35 a lim r32_nb r32_kn [(.int v2), (.int v3)] v3 T68.heap n0 z69 q68_0 q68_1 q68_2 q68_5 f83 g_48_b35 ne_r32_nb_b35 (fun q => hc209 q.symm) hin (by rw [← e_off, ho]; rfl)) hZ (hw _ (List.mem_of_getElem? (i := 90) rfl)) (hw _ (List.mem_of_getElem? (i := 38) rfl)) (by decide) (by decide)) qa84 qc84 (g := (mkF m 262 #[.val (.int p1), .val (.int p2), .val (.int p3), .val (.int p4), .val (.int p5), .val (.int p6), .val (.ref b1), .val (.ref b5), .val (.ref b10), .val (.ref b35), .val (.int a), .val (.int lim), .val (.int en), .val (.int (1 : Int32)), .val (.int (1 : Int32)), .val (.int (1 : Int32)), .val (.int (((p5.toUInt32 >>> ((24 : Int32) &&& 31).toUInt32).toInt32) &&& (255 : Int32)))] [(.ref b35)])) rfl (by rw [hml]; rfl) (Steps.refl _) (argsL := []) (rest := []) (lenOf own_pd6 rfl) rfl (by show 2 * 0 + _ ≤ _; exact Nat.le_of_eq rfl) (hb hby at_262) (fun _ _ => ⟨rfl, eq73, (Nat.le_trans (Nat.add_le_add_right (Nat.add_le_add_right (Nat.add_le_add_right (Nat.add_le_add_right (Nat.add_le_add_right (Nat.add_le_add_right hcl48 0) 0) 0) 0) 0) 0) (by decide)), (Nat.le_trans (Nat.add_le_add_right (Nat.add_le_add_right (Nat.add_le_add_right (Nat.add_le_add_right (Nat.add_le_add_right (Nat.add_le_add_right hsl48 0) 0) 0) 0) 0) 0) (by decide))⟩)
              dsimp only [Pt.U, Pt.locs, Pt.cells, Pt.slots] at X84 l84 y84 z84 st84 hQ84
              subst l84 y84 z84
              obtain ⟨rfl, Nq84, K84, q84_0⟩ := hQ84
              refine OE.of (fun _ k => st84.trans k) ?_
              have N84 := Fr.app N73 Nq84
              show OE _ p e below s _ _ _ T84 (mkF m 265 #[.val (.int p1), .val (.int p2), .val (.int p3), .val (.int p4), .val (.int p5), .val (.int p6), .val (.ref b1), .val (.ref b5), .val (.ref b10), .val (.ref b35), .val (.int a), .val (.int lim), .val (.int en), .val (.int (1 : Int32)), .val (.int (1 : Int32)), .val (.int (1 : Int32)), .val (.int (((p5.toUInt32 >>> ((24 : Int32) &&& 31).toUInt32).toInt32) &&& (255 : Int32)))] [(.int (v3 &&& (255 : Int32)))])
              refine OE.iload X84 hx hby at_265 rfl ?_
              refine OE.icmpNo X84 hx hby at_267 (teq ((by rw [ev3]; exact own_b _) : (v3 &&& (255 : Int32)) = (((p5.toUInt32 >>> ((24 : Int32) &&& 31).toUInt32).toInt32) &&& (255 : Int32)))).2 ?_
              refine OE.iconst X84 hx hby at_270 (1 : Int32) rfl ?_
              refine OE.goto X84 hx hby (pc' := 275) at_271 (h := ?_)
              refine OE.retN X84 hx (t := .boolean) Bd.returns (by simp) Bd.notSynchronized (hb hby at_275) (Nat.le_trans (Nat.add_le_add_right (Nat.add_le_add_right (Nat.add_le_add_right (Nat.add_le_add_right (Nat.add_le_add_right (Nat.add_le_add_right hcl48 0) 0) 0) 0) 0) 0) (by decide)) (Nat.le_trans (Nat.add_le_add_right (Nat.add_le_add_right (Nat.add_le_add_right (Nat.add_le_add_right (Nat.add_le_add_right (Nat.add_le_add_right hsl48 0) 0) 0) 0) 0) 0) (by decide)) ?_
              exact ⟨rfl, N84⟩
          · skip
            refine OE.icmpYes X73 hx hby (pc' := 260) at_237 (flt hc237).2.1 (h := ?_)
            show OE _ p e below s _ _ _ T73 (mkF m 260 #[.val (.int p1), .val (.int p2), .val (.int p3), .val (.int p4), .val (.int p5), .val (.int p6), .val (.ref b1), .val (.ref b5), .val (.ref b10), .val (.ref b35), .val (.int a), .val (.int lim), .val (.int en), .val (.int (1 : Int32)), .val (.int (1 : Int32)), .val (.int off), .val (.int (0 : Int32))] [])
            refine OE.aload X73 hx hby at_260 rfl rfl ?_
            have f85 : Arv Z T68.heap r32_nb r32_kn .byte (32768 : Int32) [(.int v2), (.int v3)] (.int (0 : Int32)) := (u10.keep K68 (ninS ne_r32_nb_b35 nin0))
            obtain ⟨cq86, kq86, qa86, qb86, qc86⟩ := isOf hZ eq73 q68_0
            obtain ⟨_, _, ⟨T86, L86, k86, n86⟩, -, X86, ⟨Lc86, hQ86, l86, y86, z86⟩, st86⟩ := X73.virtualBack hx (y := (⟨"com/example/corbel/corbel/ByteSlices$Reader", "readByte", "()I"⟩ : MethodName)) (z := (⟨"com/example/corbel/corbel/ByteSlices$Reader", "readByte", "()I"⟩ : MethodName)) hown (mvT hZ (hw _ (List.mem_of_getElem? (i := 86) rfl))) (mvT hZ (hw _ (List.mem_of_getElem? (i := 87) rfl))) (notFace_of_selects (args := #[]) (mvT hZ (hw _ (List.mem_of_getElem? (i := 89) rfl)))) (mvT hZ (hw _ (List.mem_of_getElem? (i := 89) rfl))) (mvT hZ (hw _ (List.mem_of_getElem? (i := 88) rfl))) (by decide) (backOf (W := 0) (own_rm12 l Z a0 hw [] b35 a lim r32_nb r32_kn [(.int v2), (.int v3)] (0 : Int32) T68.heap n0 z69 q68_0 q68_1 q68_2 q68_5 f85 g_48_b35 ne_r32_nb_b35 (fun q => hc209 q.symm) hin (by rw [← e_off]; exact own_far hin2.1 hc237)) hZ (hw _ (List.mem_of_getElem? (i := 90) rfl)) (hw _ (List.mem_of_getElem? (i := 38) rfl)) (by decide) (by decide)) qa86 qc86 (g := (mkF m 262 #[.val (.int p1), .val (.int p2), .val (.int p3), .val (.int p4), .val (.int p5), .val (.int p6), .val (.ref b1), .val (.ref b5), .val (.ref b10), .val (.ref b35), .val (.int a), .val (.int lim), .val (.int en), .val (.int (1 : Int32)), .val (.int (1 : Int32)), .val (.int off), .val (.int (0 : Int32))] [(.ref b35)])) rfl (by rw [hml]; rfl) (Steps.refl _) (argsL := []) (rest := []) (lenOf own_pd6 rfl) rfl (by show 2 * 0 + _ ≤ _; exact Nat.le_of_eq rfl) (hb hby at_262) (fun _ _ => ⟨rfl, eq73, (Nat.le_trans (Nat.add_le_add_right (Nat.add_le_add_right (Nat.add_le_add_right (Nat.add_le_add_right (Nat.add_le_add_right (Nat.add_le_add_right hcl48 0) 0) 0) 0) 0) 0) (by decide)), (Nat.le_trans (Nat.add_le_add_right (Nat.add_le_add_right (Nat.add_le_add_right (Nat.add_le_add_right (Nat.add_le_add_right (Nat.add_le_add_right hsl48 0) 0) 0) 0) 0) 0) (by decide))⟩)
            dsimp only [Pt.U, Pt.locs, Pt.cells, Pt.slots] at X86 l86 y86 z86 st86 hQ86
            subst l86 y86 z86
            obtain ⟨rfl, Nq86, K86, q86_0⟩ := hQ86
            refine OE.of (fun _ k => st86.trans k) ?_
            have N86 := Fr.app N73 Nq86
            show OE _ p e below s _ _ _ T86 (mkF m 265 #[.val (.int p1), .val (.int p2), .val (.int p3), .val (.int p4), .val (.int p5), .val (.int p6), .val (.ref b1), .val (.ref b5), .val (.ref b10), .val (.ref b35), .val (.int a), .val (.int lim), .val (.int en), .val (.int (1 : Int32)), .val (.int (1 : Int32)), .val (.int off), .val (.int (0 : Int32))] [(.int ((0 : Int32) &&& (255 : Int32)))])
            refine OE.iload X86 hx hby at_265 rfl ?_
            refine OE.icmpNo X86 hx hby at_267 (teq (by decide)).2 ?_
            refine OE.iconst X86 hx hby at_270 (1 : Int32) rfl ?_
            refine OE.goto X86 hx hby (pc' := 275) at_271 (h := ?_)
            refine OE.retN X86 hx (t := .boolean) Bd.returns (by simp) Bd.notSynchronized (hb hby at_275) (Nat.le_trans (Nat.add_le_add_right (Nat.add_le_add_right (Nat.add_le_add_right (Nat.add_le_add_right (Nat.add_le_add_right (Nat.add_le_add_right hcl48 0) 0) 0) 0) 0) 0) (by decide)) (Nat.le_trans (Nat.add_le_add_right (Nat.add_le_add_right (Nat.add_le_add_right (Nat.add_le_add_right (Nat.add_le_add_right (Nat.add_le_add_right hsl48 0) 0) 0) 0) 0) 0) (by decide)) ?_
            exact ⟨rfl, N86⟩
  refine OE.istore X43 hx hby at_98 (l' := #[.val (.int p1), .val (.int p2), .val (.int p3), .val (.int p4), .val (.int p5), .val (.int p6), .val (.ref b1), .val (.ref b5), .val (.ref b10), .val (.ref b35), .val (.int a), .unset, .unset, .unset, .unset, .unset, .unset]) rfl ?_
  refine OE.iload X43 hx hby at_100 rfl ?_
  refine OE.iconst X43 hx hby at_102 (2 : Int32) rfl ?_
  refine OE.iand X43 hx hby at_103 ?_
  by_cases hc104 : (p6 &&& (2 : Int32)) = (0 : Int32)
  · skip
    refine OE.ifYes X43 hx hby (pc' := 112) at_104 (teq hc104).1 (h := ?_)
    refine OE.iloadN X43 hx hby at_112 rfl ?_
    refine OE.istore X43 hx hby at_113 (l' := #[.val (.int p1), .val (.int p2), .val (.int p3), .val (.int p4), .val (.int p5), .val (.int p6), .val (.ref b1), .val (.ref b5), .val (.ref b10), .val (.ref b35), .val (.int a), .val (.int p2), .unset, .unset, .unset, .unset, .unset]) rfl ?_
    refine OE.iload X43 hx hby at_115 rfl ?_
    refine OE.iconst X43 hx hby at_117 (1 : Int32) rfl ?_
    refine OE.iand X43 hx hby at_118 ?_
    by_cases hc119 : (p6 &&& (1 : Int32)) = (0 : Int32)
    · skip
      refine OE.ifYes X43 hx hby (pc' := 127) at_119 (teq hc119).1 (h := ?_)
      refine OE.iloadN X43 hx hby at_127 rfl ?_
      refine OE.istore X43 hx hby at_128 (l' := #[.val (.int p1), .val (.int p2), .val (.int p3), .val (.int p4), .val (.int p5), .val (.int p6), .val (.ref b1), .val (.ref b5), .val (.ref b10), .val (.ref b35), .val (.int a), .val (.int p2), .val (.int p4), .unset, .unset, .unset, .unset]) rfl ?_
      have z87 : n0 ≤ T43.heap.size := (Nat.le_trans z41 K43.1)
      have K88 : Keep h0 T43.heap [] := (Keep.trans (Keep.ext K40 E35) K43 (allS (Or.inr sz_b35) all0))
      exact cut130 p2 p4 _ _ _ _ _ X43 rfl N43 (by decide) (by decide) z87 K88 q43_0 q43_1 q43_2 q43_3 q43_4 q43_5 q43_6 f45 f44 f46 f47 g_b35 sz_b35
    · skip
      refine OE.ifNo X43 hx hby at_119 (feq hc119).1 ?_
      refine OE.iload X43 hx hby at_122 rfl ?_
      refine OE.goto X43 hx hby (pc' := 128) at_124 (h := ?_)
      refine OE.istore X43 hx hby at_128 (l' := #[.val (.int p1), .val (.int p2), .val (.int p3), .val (.int p4), .val (.int p5), .val (.int p6), .val (.ref b1), .val (.ref b5), .val (.ref b10), .val (.ref b35), .val (.int a), .val (.int p2), .val (.int a), .unset, .unset, .unset, .unset]) rfl ?_
      have z89 : n0 ≤ T43.heap.size := (Nat.le_trans z41 K43.1)
      have K90 : Keep h0 T43.heap [] := (Keep.trans (Keep.ext K40 E35) K43 (allS (Or.inr sz_b35) all0))
      exact cut130 p2 a _ _ _ _ _ X43 rfl N43 (by decide) (by decide) z89 K90 q43_0 q43_1 q43_2 q43_3 q43_4 q43_5 q43_6 f45 f44 f46 f47 g_b35 sz_b35
  · skip
    refine OE.ifNo X43 hx hby at_104 (feq hc104).1 ?_
    refine OE.iload X43 hx hby at_107 rfl ?_
    refine OE.goto X43 hx hby (pc' := 113) at_109 (h := ?_)
    refine OE.istore X43 hx hby at_113 (l' := #[.val (.int p1), .val (.int p2), .val (.int p3), .val (.int p4), .val (.int p5), .val (.int p6), .val (.ref b1), .val (.ref b5), .val (.ref b10), .val (.ref b35), .val (.int a), .val (.int a), .unset, .unset, .unset, .unset, .unset]) rfl ?_
    refine OE.iload X43 hx hby at_115 rfl ?_
    refine OE.iconst X43 hx hby at_117 (1 : Int32) rfl ?_
    refine OE.iand X43 hx hby at_118 ?_
    by_cases hc119 : (p6 &&& (1 : Int32)) = (0 : Int32)
    · skip
      refine OE.ifYes X43 hx hby (pc' := 127) at_119 (teq hc119).1 (h := ?_)
      refine OE.iloadN X43 hx hby at_127 rfl ?_
      refine OE.istore X43 hx hby at_128 (l' := #[.val (.int p1), .val (.int p2), .val (.int p3), .val (.int p4), .val (.int p5), .val (.int p6), .val (.ref b1), .val (.ref b5), .val (.ref b10), .val (.ref b35), .val (.int a), .val (.int a), .val (.int p4), .unset, .unset, .unset, .unset]) rfl ?_
      have z91 : n0 ≤ T43.heap.size := (Nat.le_trans z41 K43.1)
      have K92 : Keep h0 T43.heap [] := (Keep.trans (Keep.ext K40 E35) K43 (allS (Or.inr sz_b35) all0))
      exact cut130 a p4 _ _ _ _ _ X43 rfl N43 (by decide) (by decide) z91 K92 q43_0 q43_1 q43_2 q43_3 q43_4 q43_5 q43_6 f45 f44 f46 f47 g_b35 sz_b35
    · skip
      refine OE.ifNo X43 hx hby at_119 (feq hc119).1 ?_
      refine OE.iload X43 hx hby at_122 rfl ?_
      refine OE.goto X43 hx hby (pc' := 128) at_124 (h := ?_)
      refine OE.istore X43 hx hby at_128 (l' := #[.val (.int p1), .val (.int p2), .val (.int p3), .val (.int p4), .val (.int p5), .val (.int p6), .val (.ref b1), .val (.ref b5), .val (.ref b10), .val (.ref b35), .val (.int a), .val (.int a), .val (.int a), .unset, .unset, .unset, .unset]) rfl ?_
      have z93 : n0 ≤ T43.heap.size := (Nat.le_trans z41 K43.1)
      have K94 : Keep h0 T43.heap [] := (Keep.trans (Keep.ext K40 E35) K43 (allS (Or.inr sz_b35) all0))
      exact cut130 a a _ _ _ _ _ X43 rfl N43 (by decide) (by decide) z93 K94 q43_0 q43_1 q43_2 q43_3 q43_4 q43_5 q43_6 f45 f44 f46 f47 g_b35 sz_b35
set_option maxRecDepth 65536 in
set_option maxHeartbeats 40000000 in
theorem comes_1 {Post : Tables → Env → Array Value → State → Outcome → State → Prop} (hpost : ∀ tb e args s v u, (limb_1_1.after args s (.returned v) u = true ∧ limb_1_2.after args s (.returned v) u = true ∧ True) → FrameEnd s (.returned v) u (Jvm.fieldLocs frame_1_writes args s ++ Jvm.arrayLocs frame_1_arrays args s ++ Jvm.staticLocs frame_1_statics s) 24 196736 → Post tb e args s (.returned v) u) :
    ArmFor flags0 classFile x code maxLocals ret World_1 tables_1 room_1 Calls_1 rest_1 Pre_1 Post := by
  intro l hfl _ _ p e ha hc hk s m args below hf hA hF happ hP
  obtain ⟨hcalls, hrest, hpre⟩ := hP
  obtain ⟨-, -, -, hnamed, -, -, -, hat⟩ := (Spec.applies_iff hf).mp happ
  obtain ⟨hg, hn⟩ := and_e (Cond.before_iff.mp (show (Jvm.Cond.and given_1 narrow_1).before args s = true from hpre))
  obtain ⟨g1, g2⟩ := and_e hg
  obtain ⟨g3, g4⟩ := and_e g2
  obtain ⟨g5, g6⟩ := and_e g4
  obtain ⟨g7, g8⟩ := and_e g6
  obtain ⟨g9, g10⟩ := and_e g8
  obtain ⟨g11, g12⟩ := and_e g10
  obtain ⟨w0, w1, w2, w3, w4, w5, rfl⟩ : ∃ w0 w1 w2 w3 w4 w5 : Value, args = #[w0, w1, w2, w3, w4, w5] := by
    have hs : args.size = 6 := by simpa [Cond.value, given_1] using g1
    obtain ⟨L⟩ := args
    match L, hs with
    | [w0, w1, w2, w3, w4, w5], _ => exact ⟨w0, w1, w2, w3, w4, w5, rfl⟩
  have hw := fun d (hd : d ∈ tables_1) => atoms_spec (ws := Jvm.Cond.code x code maxLocals ret :: tables_1) hat d (List.mem_cons_of_mem _ hd)
  have hfit : Fit s := fun {y c} hc i hi => by
    obtain ⟨ha, rfl⟩ := Array.getElem?_eq_some_iff.mp hc
    have q := List.all_eq_true.mp ((Array.all_eq_true_iff_forall_mem.mp hF) _ (Array.getElem_mem ha)) i (List.mem_range.mpr hi)
    simpa [Array.getElem?_eq_getElem hi] using q
  obtain ⟨i0, ei0⟩ := is_v g3
  obtain rfl : w0 = (.int i0) := Option.some.inj ei0
  obtain ⟨i1, ei1⟩ := is_v g5
  obtain rfl : w1 = (.int i1) := Option.some.inj ei1
  obtain ⟨i2, ei2⟩ := is_v g7
  obtain rfl : w2 = (.int i2) := Option.some.inj ei2
  obtain ⟨i3, ei3⟩ := is_v g9
  obtain rfl : w3 = (.int i3) := Option.some.inj ei3
  obtain ⟨i4, ei4⟩ := is_v g11
  obtain rfl : w4 = (.int i4) := Option.some.inj ei4
  obtain ⟨i5, ei5⟩ := is_v g12
  obtain rfl : w5 = (.int i5) := Option.some.inj ei5
  obtain ⟨n, o, h1, h2, h3, _, L, rfl, ⟨rfl, N⟩, hq⟩ := own_rm0 l s _ hw tables_1 i0 i1 i2 i3 i4 i5 s.heap s.heap.size (Nat.le_refl _)  p e ha hc hk s m _ below hf ((Spec.applies_iff_loose hf).mp happ).1 ⟨rfl, State.Warmed39.refl s, rfl⟩ trivial
  refine ⟨n, _, h1, h2, h3, hpost _ _ _ _ _ _ ⟨Cond.after_iff.mpr rfl, Cond.after_iff.mpr (eq_i res_at (Term.int_eval (1)) rfl), trivial⟩ ⟨hq.1, hq.2.1, (hq.2.2.sift fun y hy => Or.inr (N y hy)).mono (by decide) (by decide)⟩⟩
theorem main_1_1 : Claimed_1_1 := comes_1 fun _ _ _ _ _ _ h hF => ⟨h.1, hF⟩
theorem main_1_2 : Claimed_1_2 := comes_1 fun _ _ _ _ _ _ h hF => ⟨h.2.1, hF⟩
end Jvm.Pilot.@@N@@
namespace Jvm.Pilot.@@N@@
open Jvm Jvm.ClassFile Sem Op Lib Jvm.Free Jvm.Stand Jvm.Pilot.@@N@@.Jvm.D
/-! MADE BY PROGRAM (witnessworld.py) out of the Statement's table words and the real class files: 12 classes; the members and pool entries that the words name. The judged class is class 1, her method 1. -/
namespace start1
open Jvm.ClassFile
def u (s : String) : CpInfo := .utf8 (stringToUtf16 s)
/-- a pool by its gaps: so many unusable entries, then the entry; so many at the end -/
def gap : Nat → List CpInfo → List CpInfo
  | 0, r => r
  | n + 1, r => .unusable :: gap n r
def poolList (es : List (Nat × CpInfo)) (last : Nat) : List CpInfo := es.foldr (fun e r => gap e.1 (e.2 :: r)) (gap last [])
def pool (es : List (Nat × CpInfo)) (last : Nat) : Array CpInfo := ⟨poolList es last⟩
def fileOf (pool : Array CpInfo) (this : Nat) (attrs : Array Attribute := #[]) (ms : Array MethodInfo := #[]) (fl : Nat := 33) (sup : Nat := 0) (ifs : Array Nat := #[]) (fds : Array FieldInfo := #[]) : ClassFile where
  minorVersion := 0
  majorVersion := 65
  constantPool := pool
  accessFlags := fl
  thisClass := this
  superClass := sup
  interfaces := ifs
  fields := fds
  methods := ms
  attributes := attrs
def plain (name : String) (sup : Option ClassId) : Class where
  name := name
  kind := .ordinary
  loader := none
  accessFlags := 33
  super := sup
  interfaces := #[]
  cf := none
  fields := #[]
  methods := #[]
  instanceTypes := #[]
  staticTypes := #[]
  resolved := #[]
  callSites := []
  init := .initialized
  statics := none
  mirror := none

def pool0 : Array CpInfo := pool [(5, u "<init>"), (0, u "()V"), (1, .class_ 10), (1, u "java/lang/Object")] 113

def k0c0 : Code := { maxStack := 0, maxLocals := 1, code := object_method_1_code, exceptionTable := #[], attributes := #[] }
def k0m0 : Method := { name := "<init>", desc := "()V", sig := { parameters := [], returnType := none }, accessFlags := 1, code := some k0c0 }
/-- java/lang/Object -/
def k0 : Class := { plain "java/lang/Object" none with
  accessFlags := 33
  interfaces := #[]
  cf := some (fileOf pool0 8 #[] #[{ accessFlags := 1, nameIndex := 5, descriptorIndex := 6, attributes := #[] }] 33 0 #[] #[])
  fields := #[]
  methods := #[k0m0]
  instanceTypes := #[]
  staticTypes := #[]
  resolved := Array.replicate 124 none
  statics := none }

def pool1 : Array CpInfo := pool [(2, .class_ 4), (0, .nameAndType 5 6), (0, u "java/lang/Object"), (0, u "<init>"), (0, u "()V"), (0, .class_ 8), (0, u "com/example/corbel/corbel/ByteSlices"), (0, .methodref 7 3), (0, .methodref 7 11), (0, .nameAndType 12 13), (0, u "store"), (0, u "([BI)I"), (0, .class_ 15), (0, u "com/example/corbel/corbel/ByteSlices$Reader"), (0, .methodref 17 18), (0, .class_ 19), (0, .nameAndType 20 21), (0, u "java/util/Objects"), (0, u "requireNonNull"), (0, u "(Ljava/lang/Object;)Ljava/lang/Object;"), (0, .methodref 14 23), (0, .nameAndType 5 24), (0, u "(Lcom/example/corbel/corbel/ByteSlices;)V"), (0, .integer 65535), (0, .methodref 14 27), (0, .nameAndType 28 29), (0, u "resume"), (0, u "(IIII)V"), (0, .methodref 14 31), (0, .nameAndType 32 33), (0, u "address"), (0, u "()I"), (0, .methodref 14 35), (0, .nameAndType 36 33), (0, u "limit"), (0, .methodref 14 38), (0, .nameAndType 39 33), (0, u "level"), (0, .methodref 14 41), (0, .nameAndType 42 43), (0, u "atEnd"), (0, u "()Z"), (0, .methodref 14 45), (0, .nameAndType 46 33), (0, u "readByte"), (0, .class_ 48), (0, u "com/example/corbel/corbel/ByteSlicesResumePinLaw"), (2, u "law"), (0, u "(IIIIII)Z")] 7

def k1m0 : Method := { name := "<init>", desc := "()V", sig := { parameters := [], returnType := none }, accessFlags := 1, code := none }
def k1c1 : Code := { maxStack := 5, maxLocals := 17, code := code, exceptionTable := #[], attributes := #[] }
def k1m1 : Method := { name := "law", desc := "(IIIIII)Z", sig := { parameters := [.int, .int, .int, .int, .int, .int], returnType := some .boolean }, accessFlags := 9, code := some k1c1 }
/-- com/example/corbel/corbel/ByteSlicesResumePinLaw -/
def k1 : Class := { plain "com/example/corbel/corbel/ByteSlicesResumePinLaw" (some 0) with
  accessFlags := 49
  interfaces := #[]
  cf := some (fileOf pool1 47 #[] #[{ accessFlags := 1, nameIndex := 5, descriptorIndex := 6, attributes := #[] }, { accessFlags := 9, nameIndex := 51, descriptorIndex := 52, attributes := #[] }] 49 2 #[] #[])
  fields := #[]
  methods := #[k1m0, k1m1]
  instanceTypes := #[]
  staticTypes := #[]
  resolved := Array.replicate 60 none
  statics := none }

def pool2 : Array CpInfo := pool [(1, .class_ 2), (0, u "com/example/corbel/corbel/ByteSlices"), (2, .methodref 6 7), (0, .class_ 8), (0, .nameAndType 9 10), (0, u "java/lang/Object"), (0, u "<init>"), (0, u "()V"), (0, .class_ 12), (0, u "[B"), (0, .fieldref 1 14), (0, .nameAndType 15 16), (0, u "blocks"), (0, u "[[B"), (0, .integer 32768), (0, .fieldref 1 19), (0, .nameAndType 20 21), (0, u "blockUsed"), (0, u "I"), (0, .fieldref 1 23), (0, .nameAndType 24 25), (0, u "bytesUsed"), (0, u "J"), (2, .methodref 1 29), (0, .nameAndType 30 31), (0, u "newBlock"), (0, u "(I)I"), (0, .fieldref 1 33), (0, .nameAndType 34 21), (0, u "blockCount"), (0, .methodref 36 37), (0, .class_ 38), (0, .nameAndType 39 40), (0, u "java/lang/System"), (0, u "arraycopy"), (0, u "(Ljava/lang/Object;ILjava/lang/Object;II)V"), (22, .integer 65536), (14, u "BLOCK_BITS"), (2, u "BLOCK_SIZE"), (0, u "ADDRESS_BYTES"), (1, u "FIRST_SLICE"), (1, u "LARGEST_SLICE"), (1, u "TOP_LEVEL"), (1, u "MOST_BLOCKS"), (3, u "store"), (0, u "([BI)I"), (10, .class_ 107), (0, u "com/example/corbel/corbel/ByteSlices$Reader")] 2

def k2c0 : Code := { maxStack := 2, maxLocals := 1, code := prog_24_method_1_code, exceptionTable := #[], attributes := #[] }
def k2m0 : Method := { name := "<init>", desc := "()V", sig := { parameters := [], returnType := none }, accessFlags := 0, code := some k2c0 }
def k2c1 : Code := { maxStack := 5, maxLocals := 4, code := prog_24_method_3_code, exceptionTable := #[], attributes := #[] }
def k2m1 : Method := { name := "store", desc := "([BI)I", sig := { parameters := [(.array .byte), .int], returnType := some .int }, accessFlags := 0, code := some k2c1 }
def k2c2 : Code := { maxStack := 5, maxLocals := 2, code := prog_24_method_12_code, exceptionTable := #[], attributes := #[] }
def k2m2 : Method := { name := "newBlock", desc := "(I)I", sig := { parameters := [.int], returnType := some .int }, accessFlags := 2, code := some k2c2 }
/-- com/example/corbel/corbel/ByteSlices -/
def k2 : Class := { plain "com/example/corbel/corbel/ByteSlices" (some 0) with
  accessFlags := 48
  interfaces := #[]
  cf := some (fileOf pool2 1 #[.nestMembers #[106]] #[{ accessFlags := 0, nameIndex := 9, descriptorIndex := 10, attributes := #[] }, { accessFlags := 0, nameIndex := 94, descriptorIndex := 95, attributes := #[] }, { accessFlags := 2, nameIndex := 30, descriptorIndex := 31, attributes := #[] }] 48 6 #[] #[{ accessFlags := 26, nameIndex := 78, descriptorIndex := 21, attributes := #[] }, { accessFlags := 26, nameIndex := 81, descriptorIndex := 21, attributes := #[] }, { accessFlags := 26, nameIndex := 82, descriptorIndex := 21, attributes := #[] }, { accessFlags := 26, nameIndex := 84, descriptorIndex := 21, attributes := #[] }, { accessFlags := 26, nameIndex := 86, descriptorIndex := 21, attributes := #[] }, { accessFlags := 26, nameIndex := 88, descriptorIndex := 21, attributes := #[] }, { accessFlags := 26, nameIndex := 90, descriptorIndex := 21, attributes := #[] }, { accessFlags := 2, nameIndex := 15, descriptorIndex := 16, attributes := #[] }, { accessFlags := 2, nameIndex := 34, descriptorIndex := 21, attributes := #[] }, { accessFlags := 2, nameIndex := 20, descriptorIndex := 21, attributes := #[] }, { accessFlags := 2, nameIndex := 24, descriptorIndex := 25, attributes := #[] }])
  fields := #[{ name := "BLOCK_BITS", type := .int, accessFlags := 26, slot := 0, constantValue := 0 }, { name := "BLOCK_SIZE", type := .int, accessFlags := 26, slot := 1, constantValue := 0 }, { name := "ADDRESS_BYTES", type := .int, accessFlags := 26, slot := 2, constantValue := 0 }, { name := "FIRST_SLICE", type := .int, accessFlags := 26, slot := 3, constantValue := 0 }, { name := "LARGEST_SLICE", type := .int, accessFlags := 26, slot := 4, constantValue := 0 }, { name := "TOP_LEVEL", type := .int, accessFlags := 26, slot := 5, constantValue := 0 }, { name := "MOST_BLOCKS", type := .int, accessFlags := 26, slot := 6, constantValue := 0 }, { name := "blocks", type := (.array (.array .byte)), accessFlags := 2, slot := 0, constantValue := 0 }, { name := "blockCount", type := .int, accessFlags := 2, slot := 1, constantValue := 0 }, { name := "blockUsed", type := .int, accessFlags := 2, slot := 2, constantValue := 0 }, { name := "bytesUsed", type := .long, accessFlags := 2, slot := 3, constantValue := 0 }]
  methods := #[k2m0, k2m1, k2m2]
  instanceTypes := #[(.array (.array .byte)), .int, .int, .long]
  staticTypes := #[.int, .int, .int, .int, .int, .int, .int]
  resolved := Array.replicate 110 none
  statics := none }

def pool3 : Array CpInfo := pool [(2, .class_ 4), (1, u "java/lang/Object"), (0, u "<init>"), (0, u "()V"), (1, .class_ 10), (1, u "java/lang/System"), (0, u "allowSecurityManager"), (0, u "I"), (16, u "cons"), (0, u "Ljava/io/Console;"), (77, .class_ 110), (1, u "java/lang/System$CallersHolder"), (43, u "initialErrStream"), (0, u "Ljava/io/PrintStream;"), (19, u "security"), (0, u "Ljava/lang/SecurityManager;"), (31, .class_ 209), (0, u "java/lang/System$1"), (7, u "props"), (0, u "Ljava/util/Properties;"), (2, u "lineSeparator"), (0, u "Ljava/lang/String;"), (96, .class_ 321), (1, u "java/lang/System$LoggerFinder"), (5, .class_ 328), (0, u "java/lang/System$Logger"), (67, u "err"), (2, u "out"), (91, u "notSupportedJnuEncoding"), (15, u "in"), (17, u "initialIn"), (0, u "Ljava/io/InputStream;"), (35, u "bootLayer"), (0, u "Ljava/lang/ModuleLayer;"), (99, .class_ 664), (0, u "java/lang/System$2"), (9, u "NEVER"), (2, u "MAYBE"), (49, u "arraycopy"), (0, u "(Ljava/lang/Object;ILjava/lang/Object;II)V"), (72, .class_ 802), (0, u "java/lang/System$Logger$Level")] 31

def k3m0 : Method := { name := "<init>", desc := "()V", sig := { parameters := [], returnType := none }, accessFlags := 2, code := none }
def k3m1 : Method := { name := "arraycopy", desc := "(Ljava/lang/Object;ILjava/lang/Object;II)V", sig := { parameters := [(.object "java/lang/Object"), .int, (.object "java/lang/Object"), .int, .int], returnType := none }, accessFlags := 265, code := none }
/-- java/lang/System -/
def k3 : Class := { plain "java/lang/System" (some 0) with
  accessFlags := 49
  interfaces := #[]
  cf := some (fileOf pool3 8 #[.nestMembers #[319, 327, 801, 108, 663, 208]] #[{ accessFlags := 2, nameIndex := 5, descriptorIndex := 6, attributes := #[] }, { accessFlags := 265, nameIndex := 727, descriptorIndex := 728, attributes := #[] }] 49 2 #[] #[{ accessFlags := 25, nameIndex := 507, descriptorIndex := 526, attributes := #[] }, { accessFlags := 25, nameIndex := 399, descriptorIndex := 155, attributes := #[] }, { accessFlags := 25, nameIndex := 396, descriptorIndex := 155, attributes := #[] }, { accessFlags := 10, nameIndex := 525, descriptorIndex := 526, attributes := #[] }, { accessFlags := 26, nameIndex := 674, descriptorIndex := 12, attributes := #[] }, { accessFlags := 26, nameIndex := 677, descriptorIndex := 12, attributes := #[] }, { accessFlags := 10, nameIndex := 11, descriptorIndex := 12, attributes := #[] }, { accessFlags := 74, nameIndex := 175, descriptorIndex := 176, attributes := #[] }, { accessFlags := 10, nameIndex := 491, descriptorIndex := 222, attributes := #[] }, { accessFlags := 74, nameIndex := 29, descriptorIndex := 30, attributes := #[] }, { accessFlags := 74, nameIndex := 154, descriptorIndex := 155, attributes := #[] }, { accessFlags := 10, nameIndex := 217, descriptorIndex := 218, attributes := #[] }, { accessFlags := 10, nameIndex := 221, descriptorIndex := 222, attributes := #[] }, { accessFlags := 8, nameIndex := 562, descriptorIndex := 563, attributes := #[] }])
  fields := #[{ name := "in", type := (.object "java/io/InputStream"), accessFlags := 25, slot := 0, constantValue := 0 }, { name := "out", type := (.object "java/io/PrintStream"), accessFlags := 25, slot := 1, constantValue := 0 }, { name := "err", type := (.object "java/io/PrintStream"), accessFlags := 25, slot := 2, constantValue := 0 }, { name := "initialIn", type := (.object "java/io/InputStream"), accessFlags := 10, slot := 3, constantValue := 0 }, { name := "NEVER", type := .int, accessFlags := 26, slot := 4, constantValue := 0 }, { name := "MAYBE", type := .int, accessFlags := 26, slot := 5, constantValue := 0 }, { name := "allowSecurityManager", type := .int, accessFlags := 10, slot := 6, constantValue := 0 }, { name := "security", type := (.object "java/lang/SecurityManager"), accessFlags := 74, slot := 7, constantValue := 0 }, { name := "notSupportedJnuEncoding", type := (.object "java/lang/String"), accessFlags := 10, slot := 8, constantValue := 0 }, { name := "cons", type := (.object "java/io/Console"), accessFlags := 74, slot := 9, constantValue := 0 }, { name := "initialErrStream", type := (.object "java/io/PrintStream"), accessFlags := 74, slot := 10, constantValue := 0 }, { name := "props", type := (.object "java/util/Properties"), accessFlags := 10, slot := 11, constantValue := 0 }, { name := "lineSeparator", type := (.object "java/lang/String"), accessFlags := 10, slot := 12, constantValue := 0 }, { name := "bootLayer", type := (.object "java/lang/ModuleLayer"), accessFlags := 8, slot := 13, constantValue := 0 }]
  methods := #[k3m0, k3m1]
  instanceTypes := #[]
  staticTypes := #[(.object "java/io/InputStream"), (.object "java/io/PrintStream"), (.object "java/io/PrintStream"), (.object "java/io/InputStream"), .int, .int, .int, (.object "java/lang/SecurityManager"), (.object "java/lang/String"), (.object "java/io/Console"), (.object "java/io/PrintStream"), (.object "java/util/Properties"), (.object "java/lang/String"), (.object "java/lang/ModuleLayer")]
  resolved := Array.replicate 834 none
  statics := none }

def pool4 : Array CpInfo := pool [(1, .class_ 2), (0, u "com/example/corbel/corbel/ByteSlices"), (0, .fieldref 4 5), (0, .class_ 6), (0, .nameAndType 7 8), (0, u "com/example/corbel/corbel/ByteSlices$Reader"), (0, u "this$0"), (0, u "Lcom/example/corbel/corbel/ByteSlices;"), (0, .methodref 10 11), (0, .class_ 12), (0, .nameAndType 13 14), (0, u "java/lang/Object"), (0, u "<init>"), (0, u "()V"), (6, u "resume"), (0, u "(IIII)V"), (0, .fieldref 4 24), (0, .nameAndType 25 26), (0, u "address"), (0, u "I"), (0, .fieldref 4 28), (0, .nameAndType 29 26), (0, u "limit"), (0, .fieldref 4 31), (0, .nameAndType 32 26), (0, u "level"), (0, .fieldref 4 34), (0, .nameAndType 35 26), (0, u "end"), (0, .fieldref 1 37), (0, .nameAndType 38 39), (0, u "blocks"), (0, u "[[B"), (0, .fieldref 4 41), (0, .nameAndType 42 43), (0, u "block"), (0, u "[B"), (5, u "readByte"), (0, u "()I"), (0, u "(Lcom/example/corbel/corbel/ByteSlices;)V"), (5, u "atEnd"), (0, u "()Z")] 7

def k4c0 : Code := { maxStack := 2, maxLocals := 2, code := prog_25_method_1_code, exceptionTable := #[], attributes := #[] }
def k4m0 : Method := { name := "<init>", desc := "(Lcom/example/corbel/corbel/ByteSlices;)V", sig := { parameters := [(.object "com/example/corbel/corbel/ByteSlices")], returnType := none }, accessFlags := 0, code := some k4c0 }
def k4c1 : Code := { maxStack := 4, maxLocals := 5, code := prog_25_method_3_code, exceptionTable := #[], attributes := #[] }
def k4m1 : Method := { name := "resume", desc := "(IIII)V", sig := { parameters := [.int, .int, .int, .int], returnType := none }, accessFlags := 0, code := some k4c1 }
def k4c2 : Code := { maxStack := 2, maxLocals := 1, code := prog_25_method_4_code, exceptionTable := #[], attributes := #[] }
def k4m2 : Method := { name := "atEnd", desc := "()Z", sig := { parameters := [], returnType := some .boolean }, accessFlags := 0, code := some k4c2 }
def k4c3 : Code := { maxStack := 1, maxLocals := 1, code := prog_25_method_5_code, exceptionTable := #[], attributes := #[] }
def k4m3 : Method := { name := "address", desc := "()I", sig := { parameters := [], returnType := some .int }, accessFlags := 0, code := some k4c3 }
def k4c4 : Code := { maxStack := 1, maxLocals := 1, code := prog_25_method_6_code, exceptionTable := #[], attributes := #[] }
def k4m4 : Method := { name := "limit", desc := "()I", sig := { parameters := [], returnType := some .int }, accessFlags := 0, code := some k4c4 }
def k4c5 : Code := { maxStack := 1, maxLocals := 1, code := prog_25_method_7_code, exceptionTable := #[], attributes := #[] }
def k4m5 : Method := { name := "level", desc := "()I", sig := { parameters := [], returnType := some .int }, accessFlags := 0, code := some k4c5 }
def k4c6 : Code := { maxStack := 5, maxLocals := 2, code := prog_25_method_8_code, exceptionTable := #[], attributes := #[] }
def k4m6 : Method := { name := "readByte", desc := "()I", sig := { parameters := [], returnType := some .int }, accessFlags := 0, code := some k4c6 }
/-- com/example/corbel/corbel/ByteSlices$Reader -/
def k4 : Class := { plain "com/example/corbel/corbel/ByteSlices$Reader" (some 0) with
  accessFlags := 48
  interfaces := #[]
  cf := some (fileOf pool4 4 #[.nestHost 1] #[{ accessFlags := 0, nameIndex := 13, descriptorIndex := 51, attributes := #[] }, { accessFlags := 0, nameIndex := 21, descriptorIndex := 22, attributes := #[] }, { accessFlags := 0, nameIndex := 57, descriptorIndex := 58, attributes := #[] }, { accessFlags := 0, nameIndex := 25, descriptorIndex := 50, attributes := #[] }, { accessFlags := 0, nameIndex := 29, descriptorIndex := 50, attributes := #[] }, { accessFlags := 0, nameIndex := 32, descriptorIndex := 50, attributes := #[] }, { accessFlags := 0, nameIndex := 49, descriptorIndex := 50, attributes := #[] }] 48 10 #[] #[{ accessFlags := 2, nameIndex := 25, descriptorIndex := 26, attributes := #[] }, { accessFlags := 2, nameIndex := 29, descriptorIndex := 26, attributes := #[] }, { accessFlags := 2, nameIndex := 32, descriptorIndex := 26, attributes := #[] }, { accessFlags := 2, nameIndex := 35, descriptorIndex := 26, attributes := #[] }, { accessFlags := 2, nameIndex := 42, descriptorIndex := 43, attributes := #[] }, { accessFlags := 4112, nameIndex := 7, descriptorIndex := 8, attributes := #[] }])
  fields := #[{ name := "address", type := .int, accessFlags := 2, slot := 0, constantValue := 0 }, { name := "limit", type := .int, accessFlags := 2, slot := 1, constantValue := 0 }, { name := "level", type := .int, accessFlags := 2, slot := 2, constantValue := 0 }, { name := "end", type := .int, accessFlags := 2, slot := 3, constantValue := 0 }, { name := "block", type := (.array .byte), accessFlags := 2, slot := 4, constantValue := 0 }, { name := "this$0", type := (.object "com/example/corbel/corbel/ByteSlices"), accessFlags := 4112, slot := 5, constantValue := 0 }]
  methods := #[k4m0, k4m1, k4m2, k4m3, k4m4, k4m5, k4m6]
  instanceTypes := #[.int, .int, .int, .int, (.array .byte), (.object "com/example/corbel/corbel/ByteSlices")]
  staticTypes := #[]
  resolved := Array.replicate 66 none
  statics := none }

def pool5 : Array CpInfo := pool [(2, .class_ 4), (1, u "java/lang/Object"), (0, u "<init>"), (0, u "()V"), (35, .class_ 44), (1, u "java/util/Objects"), (0, u "requireNonNull"), (0, u "(Ljava/lang/Object;)Ljava/lang/Object;")] 137

def k5m0 : Method := { name := "<init>", desc := "()V", sig := { parameters := [], returnType := none }, accessFlags := 2, code := none }
def k5c1 : Code := { maxStack := 2, maxLocals := 1, code := jdk_31_method_10_code, exceptionTable := #[], attributes := #[] }
def k5m1 : Method := { name := "requireNonNull", desc := "(Ljava/lang/Object;)Ljava/lang/Object;", sig := { parameters := [(.object "java/lang/Object")], returnType := some (.object "java/lang/Object") }, accessFlags := 9, code := some k5c1 }
/-- java/util/Objects -/
def k5 : Class := { plain "java/util/Objects" (some 0) with
  accessFlags := 49
  interfaces := #[]
  cf := some (fileOf pool5 42 #[] #[{ accessFlags := 2, nameIndex := 5, descriptorIndex := 6, attributes := #[] }, { accessFlags := 9, nameIndex := 45, descriptorIndex := 46, attributes := #[] }] 49 2 #[] #[])
  fields := #[]
  methods := #[k5m0, k5m1]
  instanceTypes := #[]
  staticTypes := #[]
  resolved := Array.replicate 184 none
  statics := none }

def pool6 : Array CpInfo := pool [(1, u "java/lang/Cloneable"), (0, .class_ 1), (0, u "java/lang/Object"), (0, .class_ 3)] 3

/-- java/lang/Cloneable -/
def k6 : Class := { plain "java/lang/Cloneable" (some 0) with
  accessFlags := 1537
  interfaces := #[]
  cf := some (fileOf pool6 2 #[] #[] 1537 4 #[] #[])
  fields := #[]
  methods := #[]
  instanceTypes := #[]
  staticTypes := #[]
  resolved := Array.replicate 8 none
  statics := none }

def pool7 : Array CpInfo := pool [(1, u "java/io/Serializable"), (0, .class_ 1), (0, u "java/lang/Object"), (0, .class_ 3)] 3

/-- java/io/Serializable -/
def k7 : Class := { plain "java/io/Serializable" (some 0) with
  accessFlags := 1537
  interfaces := #[]
  cf := some (fileOf pool7 2 #[] #[] 1537 4 #[] #[])
  fields := #[]
  methods := #[]
  instanceTypes := #[]
  staticTypes := #[]
  resolved := Array.replicate 8 none
  statics := none }

/-- the primitive byte -/
def k8 : Class := { plain "byte" none with kind := .primitive 'B', accessFlags := 0x411 }
/-- [B -/
def k9 : Class := { plain "[B" (some 0) with kind := .array 8 .byte, interfaces := #[6, 7], accessFlags := 1041 }

/-- the primitive int -/
def k10 : Class := { plain "int" none with kind := .primitive 'I', accessFlags := 0x411 }
/-- [I -/
def k11 : Class := { plain "[I" (some 0) with kind := .array 10 .int, interfaces := #[6, 7], accessFlags := 1041 }

/-- [[B -/
def k12 : Class := { plain "[[B" (some 0) with kind := .array 9 (.array .byte), interfaces := #[6, 7], accessFlags := 1041 }

def heap : Heap := #[]
def classes : Array Class := #[k0, k1, k2, k3, k4, k5, k6, k7, k8, k9, k10, k11, k12]
def interned : List (Array UInt16 × Addr) := []
def slotsUsed : Nat := 0
def theMethod : MethodId := ⟨1, 1⟩
def args0 : Array Value := #[.int 5, .int 7, .int 1, .int 2, .int 3, .int 4]
def aboutOver (below : List Frame) : State where
  vm := { classes := classes, interned := interned.toArray }
  heap := heap
  slotsUsed := slotsUsed
  threads := #[{ frames := .invoking theMethod args0 :: below }]
def below0 : List Frame := [.native { method := ⟨0, 0⟩, args := #[] }]
def about1 : State := aboutOver below0
def p0 : Program := .bare "" "" ""
def e0 : Env := launch0.env 0 0 0
theorem w_frames : about1.frames = Frame.invoking theMethod args0 :: below0 := rfl
set_option maxRecDepth 65536 in
theorem w_args : argsFit about1.vm theMethod args0 = true := by decide +kernel
set_option maxRecDepth 65536 in
theorem w_heap : heapFits about1 = true := by decide +kernel
set_option maxRecDepth 65536 in
theorem w_runnable : about1.curStatus? = some .runnable := by decide +kernel
set_option maxRecDepth 65536 in
theorem w_alone : about1.alone = true := by decide +kernel
set_option maxRecDepth 65536 in
theorem w_named : about1.methodNamed? x = some theMethod := by decide +kernel
set_option maxRecDepth 65536 in
theorem w_hears : about1.hears theMethod below0 = true := by decide +kernel
set_option maxRecDepth 65536 in
theorem w_ripe : about1.ripe theMethod args0 below0 = true := by decide +kernel
theorem w_running : about1.status = .running := rfl
set_option maxRecDepth 65536 in
theorem w_room : about1.hasRoom e0.platform room_1 = true :=
  launch0.hasRoom_least _ room_1 (by decide +kernel) (by decide +kernel) (by decide +kernel) (by decide +kernel) (by decide +kernel) (by decide +kernel)
theorem allAtoms_all (ts : List Jvm.Cond) (a : Array Jvm.Value) (st : Jvm.State) : (allAtoms ts).before a st = ts.all (fun c => c.before a st) := by
  induction ts with
  | nil => rfl
  | cons c t ih =>
    show (Jvm.Cond.and c (allAtoms t)).before a st = _
    rw [Jvm.Cond.before_and, ih, List.all_cons]
def words1 : List Jvm.Cond := Jvm.Cond.code x code maxLocals ret :: tables_1
/-- a 'code' word, met by the world's own term for the bytes: nothing is compared byte by byte -/
theorem code_word {y : MethodName} {bytes : ByteArray} {mx : Nat} {rt : Option FieldType} {a : Array Value} {s : State} {m : MethodId} {meth : Method} {c : Code} (h1 : s.methodNamed? y = some m) (h2 : s.vm.method? m = some meth) (h3 : meth.code = some c) (h4 : c.code = bytes)
    (h5 : (c.maxLocals == mx && c.exceptionTable.isEmpty && decide (c.maxStack ≤ mostOperands) && decide (meth.sig.returnType = rt) && !meth.locks && decide (parseMethodDescriptor y.desc = some meth.sig)) = true) : (Jvm.Cond.code y bytes mx rt).before a s = true := by
  simp only [Bool.and_eq_true, beq_iff_eq, Bool.not_eq_true', decide_eq_true_eq] at h5
  obtain ⟨⟨⟨⟨⟨g1, g2⟩, g3⟩, g4⟩, g5⟩, g6⟩ := h5
  simp [Cond.before, Cond.holds, Cond.value, h1, h2, h3, h4, g1, g2, g3, g4, g5, g6]
def isCode : Jvm.Cond → Bool
  | .code _ _ _ _ => true
  | _ => false
theorem all_split {L : List Jvm.Cond} {P : Jvm.Cond → Bool} (h1 : L.all (fun c => isCode c || P c) = true) (h2 : ∀ c ∈ L.filter isCode, P c = true) : L.all P = true := by
  refine List.all_eq_true.mpr fun c hc => ?_
  have h := List.all_eq_true.mp h1 c hc
  rcases Bool.eq_false_or_eq_true (isCode c) with hi | hi
  · exact h2 c (List.mem_filter.mpr ⟨hc, hi⟩)
  · simpa [hi] using h
set_option maxRecDepth 65536 in
theorem w_c0 : (Jvm.Cond.code x code maxLocals ret).before args0 about1 = true := code_word (m := ⟨1, 1⟩) (meth := k1m1) (c := k1c1) (by decide +kernel) rfl rfl rfl (by decide +kernel)
set_option maxRecDepth 65536 in
theorem w_c1 : (Jvm.Cond.code ({ cls := "com/example/corbel/corbel/ByteSlices", name := "<init>", desc := "()V" } : Jvm.MethodName) prog_24_method_1_code (1 : Nat) (Option.none : Option Jvm.ClassFile.FieldType)).before args0 about1 = true := code_word (m := ⟨2, 0⟩) (meth := k2m0) (c := k2c0) (by decide +kernel) rfl rfl rfl (by decide +kernel)
set_option maxRecDepth 65536 in
theorem w_c2 : (Jvm.Cond.code ({ cls := "java/lang/Object", name := "<init>", desc := "()V" } : Jvm.MethodName) object_method_1_code (1 : Nat) (Option.none : Option Jvm.ClassFile.FieldType)).before args0 about1 = true := code_word (m := ⟨0, 0⟩) (meth := k0m0) (c := k0c0) (by decide +kernel) rfl rfl rfl (by decide +kernel)
set_option maxRecDepth 65536 in
theorem w_c3 : (Jvm.Cond.code ({ cls := "com/example/corbel/corbel/ByteSlices", name := "store", desc := "([BI)I" } : Jvm.MethodName) prog_24_method_3_code (4 : Nat) (Option.some Jvm.ClassFile.FieldType.int)).before args0 about1 = true := code_word (m := ⟨2, 1⟩) (meth := k2m1) (c := k2c1) (by decide +kernel) rfl rfl rfl (by decide +kernel)
set_option maxRecDepth 65536 in
theorem w_c4 : (Jvm.Cond.code ({ cls := "com/example/corbel/corbel/ByteSlices", name := "newBlock", desc := "(I)I" } : Jvm.MethodName) prog_24_method_12_code (2 : Nat) (Option.some Jvm.ClassFile.FieldType.int)).before args0 about1 = true := code_word (m := ⟨2, 2⟩) (meth := k2m2) (c := k2c2) (by decide +kernel) rfl rfl rfl (by decide +kernel)
set_option maxRecDepth 65536 in
theorem w_c5 : (Jvm.Cond.code ({ cls := "java/util/Objects", name := "requireNonNull", desc := "(Ljava/lang/Object;)Ljava/lang/Object;" } : Jvm.MethodName) jdk_31_method_10_code (1 : Nat) (Option.some (Jvm.ClassFile.FieldType.object "java/lang/Object"))).before args0 about1 = true := code_word (m := ⟨5, 1⟩) (meth := k5m1) (c := k5c1) (by decide +kernel) rfl rfl rfl (by decide +kernel)
set_option maxRecDepth 65536 in
theorem w_c6 : (Jvm.Cond.code ({ cls := "com/example/corbel/corbel/ByteSlices$Reader", name := "<init>", desc := "(Lcom/example/corbel/corbel/ByteSlices;)V" } : Jvm.MethodName) prog_25_method_1_code (2 : Nat) (Option.none : Option Jvm.ClassFile.FieldType)).before args0 about1 = true := code_word (m := ⟨4, 0⟩) (meth := k4m0) (c := k4c0) (by decide +kernel) rfl rfl rfl (by decide +kernel)
set_option maxRecDepth 65536 in
theorem w_c7 : (Jvm.Cond.code ({ cls := "com/example/corbel/corbel/ByteSlices$Reader", name := "resume", desc := "(IIII)V" } : Jvm.MethodName) prog_25_method_3_code (5 : Nat) (Option.none : Option Jvm.ClassFile.FieldType)).before args0 about1 = true := code_word (m := ⟨4, 1⟩) (meth := k4m1) (c := k4c1) (by decide +kernel) rfl rfl rfl (by decide +kernel)
set_option maxRecDepth 65536 in
theorem w_c8 : (Jvm.Cond.code ({ cls := "com/example/corbel/corbel/ByteSlices$Reader", name := "address", desc := "()I" } : Jvm.MethodName) prog_25_method_5_code (1 : Nat) (Option.some Jvm.ClassFile.FieldType.int)).before args0 about1 = true := code_word (m := ⟨4, 3⟩) (meth := k4m3) (c := k4c3) (by decide +kernel) rfl rfl rfl (by decide +kernel)
set_option maxRecDepth 65536 in
theorem w_c9 : (Jvm.Cond.code ({ cls := "com/example/corbel/corbel/ByteSlices$Reader", name := "limit", desc := "()I" } : Jvm.MethodName) prog_25_method_6_code (1 : Nat) (Option.some Jvm.ClassFile.FieldType.int)).before args0 about1 = true := code_word (m := ⟨4, 4⟩) (meth := k4m4) (c := k4c4) (by decide +kernel) rfl rfl rfl (by decide +kernel)
set_option maxRecDepth 65536 in
theorem w_c10 : (Jvm.Cond.code ({ cls := "com/example/corbel/corbel/ByteSlices$Reader", name := "level", desc := "()I" } : Jvm.MethodName) prog_25_method_7_code (1 : Nat) (Option.some Jvm.ClassFile.FieldType.int)).before args0 about1 = true := code_word (m := ⟨4, 5⟩) (meth := k4m5) (c := k4c5) (by decide +kernel) rfl rfl rfl (by decide +kernel)
set_option maxRecDepth 65536 in
theorem w_c11 : (Jvm.Cond.code ({ cls := "com/example/corbel/corbel/ByteSlices$Reader", name := "atEnd", desc := "()Z" } : Jvm.MethodName) prog_25_method_4_code (1 : Nat) (Option.some Jvm.ClassFile.FieldType.boolean)).before args0 about1 = true := code_word (m := ⟨4, 2⟩) (meth := k4m2) (c := k4c2) (by decide +kernel) rfl rfl rfl (by decide +kernel)
set_option maxRecDepth 65536 in
theorem w_c12 : (Jvm.Cond.code ({ cls := "com/example/corbel/corbel/ByteSlices$Reader", name := "readByte", desc := "()I" } : Jvm.MethodName) prog_25_method_8_code (2 : Nat) (Option.some Jvm.ClassFile.FieldType.int)).before args0 about1 = true := code_word (m := ⟨4, 6⟩) (meth := k4m6) (c := k4c6) (by decide +kernel) rfl rfl rfl (by decide +kernel)
def codes1 : List Jvm.Cond := [Jvm.Cond.code x code maxLocals ret, Jvm.Cond.code ({ cls := "com/example/corbel/corbel/ByteSlices", name := "<init>", desc := "()V" } : Jvm.MethodName) prog_24_method_1_code (1 : Nat) (Option.none : Option Jvm.ClassFile.FieldType), Jvm.Cond.code ({ cls := "java/lang/Object", name := "<init>", desc := "()V" } : Jvm.MethodName) object_method_1_code (1 : Nat) (Option.none : Option Jvm.ClassFile.FieldType), Jvm.Cond.code ({ cls := "com/example/corbel/corbel/ByteSlices", name := "store", desc := "([BI)I" } : Jvm.MethodName) prog_24_method_3_code (4 : Nat) (Option.some Jvm.ClassFile.FieldType.int), Jvm.Cond.code ({ cls := "com/example/corbel/corbel/ByteSlices", name := "newBlock", desc := "(I)I" } : Jvm.MethodName) prog_24_method_12_code (2 : Nat) (Option.some Jvm.ClassFile.FieldType.int), Jvm.Cond.code ({ cls := "java/util/Objects", name := "requireNonNull", desc := "(Ljava/lang/Object;)Ljava/lang/Object;" } : Jvm.MethodName) jdk_31_method_10_code (1 : Nat) (Option.some (Jvm.ClassFile.FieldType.object "java/lang/Object")), Jvm.Cond.code ({ cls := "com/example/corbel/corbel/ByteSlices$Reader", name := "<init>", desc := "(Lcom/example/corbel/corbel/ByteSlices;)V" } : Jvm.MethodName) prog_25_method_1_code (2 : Nat) (Option.none : Option Jvm.ClassFile.FieldType), Jvm.Cond.code ({ cls := "com/example/corbel/corbel/ByteSlices$Reader", name := "resume", desc := "(IIII)V" } : Jvm.MethodName) prog_25_method_3_code (5 : Nat) (Option.none : Option Jvm.ClassFile.FieldType), Jvm.Cond.code ({ cls := "com/example/corbel/corbel/ByteSlices$Reader", name := "address", desc := "()I" } : Jvm.MethodName) prog_25_method_5_code (1 : Nat) (Option.some Jvm.ClassFile.FieldType.int), Jvm.Cond.code ({ cls := "com/example/corbel/corbel/ByteSlices$Reader", name := "limit", desc := "()I" } : Jvm.MethodName) prog_25_method_6_code (1 : Nat) (Option.some Jvm.ClassFile.FieldType.int), Jvm.Cond.code ({ cls := "com/example/corbel/corbel/ByteSlices$Reader", name := "level", desc := "()I" } : Jvm.MethodName) prog_25_method_7_code (1 : Nat) (Option.some Jvm.ClassFile.FieldType.int), Jvm.Cond.code ({ cls := "com/example/corbel/corbel/ByteSlices$Reader", name := "atEnd", desc := "()Z" } : Jvm.MethodName) prog_25_method_4_code (1 : Nat) (Option.some Jvm.ClassFile.FieldType.boolean), Jvm.Cond.code ({ cls := "com/example/corbel/corbel/ByteSlices$Reader", name := "readByte", desc := "()I" } : Jvm.MethodName) prog_25_method_8_code (2 : Nat) (Option.some Jvm.ClassFile.FieldType.int)]
set_option maxRecDepth 65536 in
theorem codes_eq : words1.filter isCode = codes1 := rfl
theorem w_codes : ∀ c ∈ words1.filter isCode, c.before args0 about1 = true := by
  rw [codes_eq]
  intro c hc
  simp only [codes1, List.mem_cons, List.not_mem_nil, or_false] at hc
  rcases hc with rfl | rfl | rfl | rfl | rfl | rfl | rfl | rfl | rfl | rfl | rfl | rfl | rfl
  · exact w_c0
  · exact w_c1
  · exact w_c2
  · exact w_c3
  · exact w_c4
  · exact w_c5
  · exact w_c6
  · exact w_c7
  · exact w_c8
  · exact w_c9
  · exact w_c10
  · exact w_c11
  · exact w_c12
set_option maxRecDepth 65536 in
theorem w_t1 : (words1.take 24).all (fun c => isCode c || c.before args0 about1) = true := by decide +kernel
set_option maxRecDepth 65536 in
theorem w_t2 : ((words1.drop 24).take 24).all (fun c => isCode c || c.before args0 about1) = true := by decide +kernel
set_option maxRecDepth 65536 in
theorem w_t3 : (((words1.drop 24).drop 24).take 24).all (fun c => isCode c || c.before args0 about1) = true := by decide +kernel
set_option maxRecDepth 65536 in
theorem w_t4 : (((words1.drop 24).drop 24).drop 24).all (fun c => isCode c || c.before args0 about1) = true := by decide +kernel
theorem w_tables : (allAtoms (Jvm.Cond.code x code maxLocals ret :: tables_1)).before args0 about1 = true := by
  rw [allAtoms_all]
  show words1.all (fun c => c.before args0 about1) = true
  refine all_split ?_ w_codes
  rw [← List.take_append_drop 24 words1, List.all_append, w_t1, ← List.take_append_drop 24 (words1.drop 24), List.all_append, w_t2, ← List.take_append_drop 24 ((words1.drop 24).drop 24), List.all_append, w_t3, w_t4]
  rfl
set_option maxRecDepth 65536 in
theorem w_case : (Jvm.Cond.and given_1 narrow_1).before args0 about1 = true := by decide +kernel
theorem w_applies : (headSpec (Jvm.Cond.code x code maxLocals ret :: tables_1) room_1).applies x e0.platform about1 = true :=
  (Spec.applies_iff w_frames).mpr ⟨w_running, w_runnable, w_alone, w_named, w_hears, w_ripe, w_room, w_tables⟩
theorem atStart : AtStart classFile x code maxLocals ret World_1 tables_1 room_1 Calls_1 rest_1 Pre_1 launch0 p0 e0 about1 theMethod args0 below0 :=
  ⟨lists_1, trivial, launch0.admits_env _ _ _, launch0.least_env, fairChoices_fair.cas, fairChoices_fair.clock, w_frames, w_args, w_heap, w_applies, trivial, trivial, w_case⟩
end start1
theorem witness_1 : WitnessClaimed_1 := ⟨start1.p0, start1.e0, start1.about1, start1.theMethod, start1.args0, start1.below0, start1.atStart⟩
end Jvm.Pilot.@@N@@
