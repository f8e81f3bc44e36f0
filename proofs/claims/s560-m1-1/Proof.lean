import JvmDerived
import JvmDerived.Pilot.@@N@@Statement
import JvmDerived.Pilot.@@N@@Code
set_option linter.unusedVariables false
set_option linter.unusedSimpArgs false
namespace Jvm.RoadKit
open Sem ClassFile Op Lib Jvm.Stand Jvm.Free Jvm.LawKit
section New
variable {p : Program} {l : Launch} {e : Env} {R : Room} {s : State} {m : MethodId} {args : Array Value} {below : List Frame} {meth : Method} {c : Code} {T : State} {locs : List Loc} {cells slots : Nat}
theorem retI (X : Stand p l e R s m args below meth c T locs cells slots) (hx : p.tables.exec = Jvm.exec) {pc : Nat} {Ls : Array Slot} {z : Int32} {rest : List Value} (hret : meth.sig.returnType = some .int) (hd : decode c.code pc = .ok (.ireturn, 1)) {fs : List Frame}
    (hl : ∀ (f : JFrame) (acts : List Action), f.method = m → f.locked = none → f.entered = [] → (doReturn e (T.setTop f) acts (some (.int z))).1 = T.setFrames fs) : Steps p.tables e below (T.setTop (mkF m pc Ls (.int z :: rest))) (T.setFrames fs) := by
  have hm' : T.vm.method? m = some meth := X.method'
  have hn : narrow .int (.int z) = .int z := rfl
  show Steps p.tables e below (T.setTop { method := m, pc := pc, locals := Ls, stack := _ :: rest, locked := none }) _
  jvm_step X.here [X.here.top, hx, hd, hm', hret, hn]
  first | (intro acts; rw [hl _ acts rfl rfl rfl]) | rw [hl _ _ rfl rfl rfl]
  exact Steps.refl _
/-- the walk that stands at g in T comes to its end, with Q -/
def OE (FE : State → Outcome → State → List Loc → Nat → Nat → Prop) (p : Program) (e : Env) (below : List Frame) (s : State) (Q : Option Value → Heap → List Loc → Prop) (kc ks : Nat) (T : State) (g : JFrame) : Prop :=
  ∃ s₂ o, Steps p.tables e below (T.setTop g) s₂ ∧ s₂.status = .running ∧ Ended s₂ below o ∧ ∃ v L, o = .returned v ∧ Q v s₂.heap L ∧ FE s o s₂ L kc ks
variable {FE : State → Outcome → State → List Loc → Nat → Nat → Prop} {Q : Option Value → Heap → List Loc → Prop} {kc ks : Nat} {s' : State}
theorem OE.of {T' : State} {g g' : JFrame} (k : ∀ t, Steps p.tables e below (T'.setTop g') t → Steps p.tables e below (T.setTop g) t) (h : OE FE p e below s Q kc ks T' g') : OE FE p e below s Q kc ks T g := by
  obtain ⟨s₂, o, h1, h2⟩ := h
  exact ⟨s₂, o, k _ h1, h2⟩
theorem OE.retN (X : Stand p l e R s m args below meth c T locs cells slots) (hx : p.tables.exec = Jvm.exec) {pc : Nat} {Ls : Array Slot} {z : Int32} {t : FieldType} {rest : List Value} (hret : meth.sig.returnType = some t) (ht : t = .boolean ∨ t = .byte ∨ t = .char ∨ t = .short) (hlk : meth.locks = false)
    (hd : decode c.code pc = .ok (.ireturn, 1)) (hc : cells ≤ kc) (hs : slots ≤ ks) (hQ : Q (some (.int (nar t z))) T.heap locs) : OE FrameEnd p e below s Q kc ks T (mkF m pc Ls (.int z :: rest)) := by
  obtain ⟨fs, hr, hrun, hended, hW, hsame⟩ := X.leave (v := some (.int (nar t z))) (fun h => by rw [hret] at h; cases h) hlk
  exact ⟨_, _, Jvm.RoadKit.retN X hx hret ht hd hr, hrun, hended, _, _, rfl, hQ, ⟨_, rfl⟩, hW, hsame.mono hc hs⟩
theorem OE.retI (X : Stand p l e R s m args below meth c T locs cells slots) (hx : p.tables.exec = Jvm.exec) {pc : Nat} {Ls : Array Slot} {z : Int32} {rest : List Value} (hret : meth.sig.returnType = some .int) (hlk : meth.locks = false)
    (hd : decode c.code pc = .ok (.ireturn, 1)) (hc : cells ≤ kc) (hs : slots ≤ ks) (hQ : Q (some (.int z)) T.heap locs) : OE FrameEnd p e below s Q kc ks T (mkF m pc Ls (.int z :: rest)) := by
  obtain ⟨fs, hr, hrun, hended, hW, hsame⟩ := X.leave (v := some (.int z)) (fun h => by rw [hret] at h; cases h) hlk
  exact ⟨_, _, Jvm.RoadKit.retI X hx hret hd hr, hrun, hended, _, _, rfl, hQ, ⟨_, rfl⟩, hW, hsame.mono hc hs⟩
theorem OE.retJ (X : Stand p l e R s m args below meth c T locs cells slots) (hx : p.tables.exec = Jvm.exec) {pc : Nat} {Ls : Array Slot} {z : Int64} (hret : meth.sig.returnType = some .long) (hlk : meth.locks = false)
    (hd : decode c.code pc = .ok (.lreturn, 1)) (hc : cells ≤ kc) (hs : slots ≤ ks) (hQ : Q (some (.long z)) T.heap locs) : OE FrameEnd p e below s Q kc ks T (mkF m pc Ls [.long z]) := by
  obtain ⟨fs, hr, hrun, hended, hW, hsame⟩ := X.leave (v := some (.long z)) (fun h => by rw [hret] at h; cases h) hlk
  exact ⟨_, _, X.lreturnOut hx hret hd hr, hrun, hended, _, _, rfl, hQ, ⟨_, rfl⟩, hW, hsame.mono hc hs⟩
theorem OE.retA (X : Stand p l e R s m args below meth c T locs cells slots) (hx : p.tables.exec = Jvm.exec) {pc : Nat} {Ls : Array Slot} {w : Value} {t : FieldType} (hw : w.isRef = true) (hret : meth.sig.returnType = some t) (ht : t.isReference = true) (hlk : meth.locks = false)
    (hd : decode c.code pc = .ok (.areturn, 1)) (hc : cells ≤ kc) (hs : slots ≤ ks) (hQ : Q (some w) T.heap locs) : OE FrameEnd p e below s Q kc ks T (mkF m pc Ls [w]) := by
  obtain ⟨fs, hr, hrun, hended, hW, hsame⟩ := X.leave (v := some w) (fun h => by rw [hret] at h; cases h) hlk
  exact ⟨_, _, X.areturnOut hx hw hret ht hd hr, hrun, hended, _, _, rfl, hQ, ⟨_, rfl⟩, hW, hsame.mono hc hs⟩
theorem OE.ret0 (X : Stand p l e R s m args below meth c T locs cells slots) (hx : p.tables.exec = Jvm.exec) {pc : Nat} {Ls : Array Slot} (hret : meth.sig.returnType = none) (hlk : meth.locks = false)
    (hd : decode c.code pc = .ok (.return_, 1)) (hc : cells ≤ kc) (hs : slots ≤ ks) (hQ : Q none T.heap locs) : OE FrameEnd p e below s Q kc ks T (mkF m pc Ls []) := by
  obtain ⟨fs, hr, hrun, hended, hW, hsame⟩ := X.leave (v := none) (fun _ => rfl) hlk
  exact ⟨_, _, X.returnOut hx hret hd hr, hrun, hended, _, _, rfl, hQ, ⟨_, rfl⟩, hW, hsame.mono hc hs⟩
theorem own_monoW {o : Outcome} {t : State} {L : List Loc} {k n : Nat} (h : ReturnedEndW s o t L k n) (hc : k ≤ kc) (hs : n ≤ ks) : ReturnedEndW s o t L kc ks := ⟨h.1, h.2.1, h.2.2.1, h.2.2.2.mono hc hs⟩
variable {vm1 : Vm} {kS : Nat}
theorem OE.retNW (hS : s.Since vm1 kS) (hk : kS ≤ T.heap.size) (X : Stand p l e R (s.setVm vm1) m args below meth c T locs cells slots) (hx : p.tables.exec = Jvm.exec) {pc : Nat} {Ls : Array Slot} {z : Int32} {t : FieldType} {rest : List Value} (hret : meth.sig.returnType = some t) (ht : t = .boolean ∨ t = .byte ∨ t = .char ∨ t = .short) (hlk : meth.locks = false)
    (hd : decode c.code pc = .ok (.ireturn, 1)) (hc : cells ≤ kc) (hs : slots ≤ ks) (hQ : Q (some (.int (nar t z))) T.heap locs) : OE ReturnedEndW p e below s Q kc ks T (mkF m pc Ls (.int z :: rest)) := by
  obtain ⟨fs, hr, hrun, hended, hW⟩ := X.leaveW hS hk (v := some (.int (nar t z))) (fun h => by rw [hret] at h; cases h) hlk
  exact ⟨_, _, Jvm.RoadKit.retN X hx hret ht hd hr, hrun, hended, _, _, rfl, hQ, own_monoW hW hc hs⟩
theorem OE.retIW (hS : s.Since vm1 kS) (hk : kS ≤ T.heap.size) (X : Stand p l e R (s.setVm vm1) m args below meth c T locs cells slots) (hx : p.tables.exec = Jvm.exec) {pc : Nat} {Ls : Array Slot} {z : Int32} {rest : List Value} (hret : meth.sig.returnType = some .int) (hlk : meth.locks = false)
    (hd : decode c.code pc = .ok (.ireturn, 1)) (hc : cells ≤ kc) (hs : slots ≤ ks) (hQ : Q (some (.int z)) T.heap locs) : OE ReturnedEndW p e below s Q kc ks T (mkF m pc Ls (.int z :: rest)) := by
  obtain ⟨fs, hr, hrun, hended, hW⟩ := X.leaveW hS hk (v := some (.int z)) (fun h => by rw [hret] at h; cases h) hlk
  exact ⟨_, _, Jvm.RoadKit.retI X hx hret hd hr, hrun, hended, _, _, rfl, hQ, own_monoW hW hc hs⟩
theorem OE.ret0W (hS : s.Since vm1 kS) (hk : kS ≤ T.heap.size) (X : Stand p l e R (s.setVm vm1) m args below meth c T locs cells slots) (hx : p.tables.exec = Jvm.exec) {pc : Nat} {Ls : Array Slot} (hret : meth.sig.returnType = none) (hlk : meth.locks = false)
    (hd : decode c.code pc = .ok (.return_, 1)) (hc : cells ≤ kc) (hs : slots ≤ ks) (hQ : Q none T.heap locs) : OE ReturnedEndW p e below s Q kc ks T (mkF m pc Ls []) := by
  obtain ⟨fs, hr, hrun, hended, hW⟩ := X.leaveW hS hk (v := none) (fun _ => rfl) hlk
  exact ⟨_, _, X.returnOut hx hret hd hr, hrun, hended, _, _, rfl, hQ, own_monoW hW hc hs⟩
theorem OE.iload (X : Stand p l e R s' m args below meth c T locs cells slots) (hx : p.tables.exec = Jvm.exec) {code : ByteArray} (hby : c.code = code) {pc : Nat} {Ls : Array Slot} {k : Nat} {v : Int32} {st : List Value} (hd : decode code pc = .ok (.iload k, 2)) (hl : Ls[k]? = some (.val (.int v))) (h : OE FE p e below s Q kc ks T (mkF m (pc + 2) Ls (.int v :: st))) : OE FE p e below s Q kc ks T (mkF m pc Ls (st)) := OE.of (fun _ k' => XS.iload X.here hx rfl (hb hby hd) hl k') h
theorem OE.iloadN (X : Stand p l e R s' m args below meth c T locs cells slots) (hx : p.tables.exec = Jvm.exec) {code : ByteArray} (hby : c.code = code) {pc : Nat} {Ls : Array Slot} {k : Fin 4} {v : Int32} {st : List Value} (hd : decode code pc = .ok (.iload_n k, 1)) (hl : Ls[k.val]? = some (.val (.int v))) (h : OE FE p e below s Q kc ks T (mkF m (pc + 1) Ls (.int v :: st))) : OE FE p e below s Q kc ks T (mkF m pc Ls (st)) := OE.of (fun _ k' => XS.iloadN X.here hx rfl (hb hby hd) hl k') h
theorem OE.lload (X : Stand p l e R s' m args below meth c T locs cells slots) (hx : p.tables.exec = Jvm.exec) {code : ByteArray} (hby : c.code = code) {pc : Nat} {Ls : Array Slot} {k : Nat} {v : Int64} {st : List Value} (hd : decode code pc = .ok (.lload k, 2)) (hl : Ls[k]? = some (.val (.long v))) (h : OE FE p e below s Q kc ks T (mkF m (pc + 2) Ls (.long v :: st))) : OE FE p e below s Q kc ks T (mkF m pc Ls (st)) := OE.of (fun _ k' => XS.lload X.here hx rfl (hb hby hd) hl k') h
theorem OE.lloadN (X : Stand p l e R s' m args below meth c T locs cells slots) (hx : p.tables.exec = Jvm.exec) {code : ByteArray} (hby : c.code = code) {pc : Nat} {Ls : Array Slot} {k : Fin 4} {v : Int64} {st : List Value} (hd : decode code pc = .ok (.lload_n k, 1)) (hl : Ls[k.val]? = some (.val (.long v))) (h : OE FE p e below s Q kc ks T (mkF m (pc + 1) Ls (.long v :: st))) : OE FE p e below s Q kc ks T (mkF m pc Ls (st)) := OE.of (fun _ k' => XS.lloadN X.here hx rfl (hb hby hd) hl k') h
theorem OE.aload (X : Stand p l e R s' m args below meth c T locs cells slots) (hx : p.tables.exec = Jvm.exec) {code : ByteArray} (hby : c.code = code) {pc : Nat} {Ls : Array Slot} {k : Nat} {v : Value} {st : List Value} (hd : decode code pc = .ok (.aload k, 2)) (hl : Ls[k]? = some (.val v)) (hv : v.isRef = true) (h : OE FE p e below s Q kc ks T (mkF m (pc + 2) Ls (v :: st))) : OE FE p e below s Q kc ks T (mkF m pc Ls (st)) := OE.of (fun _ k' => XS.aload X.here hx rfl (hb hby hd) hl hv k') h
theorem OE.aloadN (X : Stand p l e R s' m args below meth c T locs cells slots) (hx : p.tables.exec = Jvm.exec) {code : ByteArray} (hby : c.code = code) {pc : Nat} {Ls : Array Slot} {k : Fin 4} {v : Value} {st : List Value} (hd : decode code pc = .ok (.aload_n k, 1)) (hl : Ls[k.val]? = some (.val v)) (hv : v.isRef = true) (h : OE FE p e below s Q kc ks T (mkF m (pc + 1) Ls (v :: st))) : OE FE p e below s Q kc ks T (mkF m pc Ls (st)) := OE.of (fun _ k' => XS.aloadN X.here hx rfl (hb hby hd) hl hv k') h
theorem OE.istore (X : Stand p l e R s' m args below meth c T locs cells slots) (hx : p.tables.exec = Jvm.exec) {code : ByteArray} (hby : c.code = code) {pc : Nat} {Ls : Array Slot} {k : Nat} {v : Int32} {st : List Value} {l' : Array Slot} (hd : decode code pc = .ok (.istore k, 2)) (hl : storeLocals Ls k (.int v) = some l') (h : OE FE p e below s Q kc ks T (mkF m (pc + 2) l' (st))) : OE FE p e below s Q kc ks T (mkF m pc Ls (.int v :: st)) := OE.of (fun _ k' => XS.istore X.here hx rfl (hb hby hd) rfl hl k') h
theorem OE.istoreN (X : Stand p l e R s' m args below meth c T locs cells slots) (hx : p.tables.exec = Jvm.exec) {code : ByteArray} (hby : c.code = code) {pc : Nat} {Ls : Array Slot} {k : Fin 4} {v : Int32} {st : List Value} {l' : Array Slot} (hd : decode code pc = .ok (.istore_n k, 1)) (hl : storeLocals Ls k.val (.int v) = some l') (h : OE FE p e below s Q kc ks T (mkF m (pc + 1) l' (st))) : OE FE p e below s Q kc ks T (mkF m pc Ls (.int v :: st)) := OE.of (fun _ k' => XS.istoreN X.here hx rfl (hb hby hd) rfl hl k') h
theorem OE.lstore (X : Stand p l e R s' m args below meth c T locs cells slots) (hx : p.tables.exec = Jvm.exec) {code : ByteArray} (hby : c.code = code) {pc : Nat} {Ls : Array Slot} {k : Nat} {v : Int64} {st : List Value} {l' : Array Slot} (hd : decode code pc = .ok (.lstore k, 2)) (hl : storeLocals Ls k (.long v) = some l') (h : OE FE p e below s Q kc ks T (mkF m (pc + 2) l' (st))) : OE FE p e below s Q kc ks T (mkF m pc Ls (.long v :: st)) := OE.of (fun _ k' => XS.lstore X.here hx rfl (hb hby hd) rfl hl k') h
theorem OE.lstoreN (X : Stand p l e R s' m args below meth c T locs cells slots) (hx : p.tables.exec = Jvm.exec) {code : ByteArray} (hby : c.code = code) {pc : Nat} {Ls : Array Slot} {k : Fin 4} {v : Int64} {st : List Value} {l' : Array Slot} (hd : decode code pc = .ok (.lstore_n k, 1)) (hl : storeLocals Ls k.val (.long v) = some l') (h : OE FE p e below s Q kc ks T (mkF m (pc + 1) l' (st))) : OE FE p e below s Q kc ks T (mkF m pc Ls (.long v :: st)) := OE.of (fun _ k' => XS.lstoreN X.here hx rfl (hb hby hd) rfl hl k') h
theorem OE.astore (X : Stand p l e R s' m args below meth c T locs cells slots) (hx : p.tables.exec = Jvm.exec) {code : ByteArray} (hby : c.code = code) {pc : Nat} {Ls : Array Slot} {k : Nat} {v : Value} {st : List Value} {l' : Array Slot} (hd : decode code pc = .ok (.astore k, 2)) (hv : v.isRef = true) (hl : storeLocals Ls k v = some l') (h : OE FE p e below s Q kc ks T (mkF m (pc + 2) l' (st))) : OE FE p e below s Q kc ks T (mkF m pc Ls (v :: st)) := OE.of (fun _ k' => XS.astore X.here hx rfl (hb hby hd) rfl hv hl k') h
theorem OE.astoreN (X : Stand p l e R s' m args below meth c T locs cells slots) (hx : p.tables.exec = Jvm.exec) {code : ByteArray} (hby : c.code = code) {pc : Nat} {Ls : Array Slot} {k : Fin 4} {v : Value} {st : List Value} {l' : Array Slot} (hd : decode code pc = .ok (.astore_n k, 1)) (hv : v.isRef = true) (hl : storeLocals Ls k.val v = some l') (h : OE FE p e below s Q kc ks T (mkF m (pc + 1) l' (st))) : OE FE p e below s Q kc ks T (mkF m pc Ls (v :: st)) := OE.of (fun _ k' => XS.astoreN X.here hx rfl (hb hby hd) rfl hv hl k') h
theorem OE.iconst (X : Stand p l e R s' m args below meth c T locs cells slots) (hx : p.tables.exec = Jvm.exec) {code : ByteArray} (hby : c.code = code) {pc : Nat} {Ls : Array Slot} {i : Int} {st : List Value} (hd : decode code pc = .ok (.iconst i, 1)) (z : Int32) (hz : Int32.ofInt i = z) (h : OE FE p e below s Q kc ks T (mkF m (pc + 1) Ls (.int z :: st))) : OE FE p e below s Q kc ks T (mkF m pc Ls (st)) := OE.of (fun _ k' => XS.iconst X.here hx rfl (hb hby hd) (by subst hz; exact k')) h
theorem OE.bipush (X : Stand p l e R s' m args below meth c T locs cells slots) (hx : p.tables.exec = Jvm.exec) {code : ByteArray} (hby : c.code = code) {pc : Nat} {Ls : Array Slot} {i : Int} {st : List Value} (hd : decode code pc = .ok (.bipush i, 2)) (z : Int32) (hz : (Int8.ofInt i).toInt32 = z) (h : OE FE p e below s Q kc ks T (mkF m (pc + 2) Ls (.int z :: st))) : OE FE p e below s Q kc ks T (mkF m pc Ls (st)) := OE.of (fun _ k' => XS.bipush X.here hx rfl (hb hby hd) (by subst hz; exact k')) h
theorem OE.sipush (X : Stand p l e R s' m args below meth c T locs cells slots) (hx : p.tables.exec = Jvm.exec) {code : ByteArray} (hby : c.code = code) {pc : Nat} {Ls : Array Slot} {i : Int} {st : List Value} (hd : decode code pc = .ok (.sipush i, 3)) (z : Int32) (hz : (Int16.ofInt i).toInt32 = z) (h : OE FE p e below s Q kc ks T (mkF m (pc + 3) Ls (.int z :: st))) : OE FE p e below s Q kc ks T (mkF m pc Ls (st)) := OE.of (fun _ k' => XS.sipush X.here hx rfl (hb hby hd) (by subst hz; exact k')) h
theorem OE.lconst (X : Stand p l e R s' m args below meth c T locs cells slots) (hx : p.tables.exec = Jvm.exec) {code : ByteArray} (hby : c.code = code) {pc : Nat} {Ls : Array Slot} {i : Fin 2} {st : List Value} (hd : decode code pc = .ok (.lconst i, 1)) (z : Int64) (hz : Int64.ofNat i = z) (h : OE FE p e below s Q kc ks T (mkF m (pc + 1) Ls (.long z :: st))) : OE FE p e below s Q kc ks T (mkF m pc Ls (st)) := OE.of (fun _ k' => XS.lconst X.here hx rfl (hb hby hd) (by subst hz; exact k')) h
theorem OE.aconstNull (X : Stand p l e R s' m args below meth c T locs cells slots) (hx : p.tables.exec = Jvm.exec) {code : ByteArray} (hby : c.code = code) {pc : Nat} {Ls : Array Slot} {st : List Value} (hd : decode code pc = .ok (.aconst_null, 1))  (h : OE FE p e below s Q kc ks T (mkF m (pc + 1) Ls (.null :: st))) : OE FE p e below s Q kc ks T (mkF m pc Ls (st)) := OE.of (fun _ k' => XS.aconstNull X.here hx rfl (hb hby hd) k') h
theorem OE.iadd (X : Stand p l e R s' m args below meth c T locs cells slots) (hx : p.tables.exec = Jvm.exec) {code : ByteArray} (hby : c.code = code) {pc : Nat} {Ls : Array Slot} {x y : Int32} {st : List Value} (hd : decode code pc = .ok (.iadd, 1))  (h : OE FE p e below s Q kc ks T (mkF m (pc + 1) Ls (.int (x + y) :: st))) : OE FE p e below s Q kc ks T (mkF m pc Ls (.int y :: .int x :: st)) := OE.of (fun _ k' => XS.iadd X.here hx rfl (hb hby hd) rfl k') h
theorem OE.ladd (X : Stand p l e R s' m args below meth c T locs cells slots) (hx : p.tables.exec = Jvm.exec) {code : ByteArray} (hby : c.code = code) {pc : Nat} {Ls : Array Slot} {x y : Int64} {st : List Value} (hd : decode code pc = .ok (.ladd, 1))  (h : OE FE p e below s Q kc ks T (mkF m (pc + 1) Ls (.long (x + y) :: st))) : OE FE p e below s Q kc ks T (mkF m pc Ls (.long y :: .long x :: st)) := OE.of (fun _ k' => XS.ladd X.here hx rfl (hb hby hd) rfl k') h
theorem OE.isub (X : Stand p l e R s' m args below meth c T locs cells slots) (hx : p.tables.exec = Jvm.exec) {code : ByteArray} (hby : c.code = code) {pc : Nat} {Ls : Array Slot} {x y : Int32} {st : List Value} (hd : decode code pc = .ok (.isub, 1))  (h : OE FE p e below s Q kc ks T (mkF m (pc + 1) Ls (.int (x - y) :: st))) : OE FE p e below s Q kc ks T (mkF m pc Ls (.int y :: .int x :: st)) := OE.of (fun _ k' => XS.isub X.here hx rfl (hb hby hd) rfl k') h
theorem OE.lsub (X : Stand p l e R s' m args below meth c T locs cells slots) (hx : p.tables.exec = Jvm.exec) {code : ByteArray} (hby : c.code = code) {pc : Nat} {Ls : Array Slot} {x y : Int64} {st : List Value} (hd : decode code pc = .ok (.lsub, 1))  (h : OE FE p e below s Q kc ks T (mkF m (pc + 1) Ls (.long (x - y) :: st))) : OE FE p e below s Q kc ks T (mkF m pc Ls (.long y :: .long x :: st)) := OE.of (fun _ k' => XS.lsub X.here hx rfl (hb hby hd) rfl k') h
theorem OE.imul (X : Stand p l e R s' m args below meth c T locs cells slots) (hx : p.tables.exec = Jvm.exec) {code : ByteArray} (hby : c.code = code) {pc : Nat} {Ls : Array Slot} {x y : Int32} {st : List Value} (hd : decode code pc = .ok (.imul, 1))  (h : OE FE p e below s Q kc ks T (mkF m (pc + 1) Ls (.int (x * y) :: st))) : OE FE p e below s Q kc ks T (mkF m pc Ls (.int y :: .int x :: st)) := OE.of (fun _ k' => XS.imul X.here hx rfl (hb hby hd) rfl k') h
theorem OE.lmul (X : Stand p l e R s' m args below meth c T locs cells slots) (hx : p.tables.exec = Jvm.exec) {code : ByteArray} (hby : c.code = code) {pc : Nat} {Ls : Array Slot} {x y : Int64} {st : List Value} (hd : decode code pc = .ok (.lmul, 1))  (h : OE FE p e below s Q kc ks T (mkF m (pc + 1) Ls (.long (x * y) :: st))) : OE FE p e below s Q kc ks T (mkF m pc Ls (.long y :: .long x :: st)) := OE.of (fun _ k' => XS.lmul X.here hx rfl (hb hby hd) rfl k') h
theorem OE.iand (X : Stand p l e R s' m args below meth c T locs cells slots) (hx : p.tables.exec = Jvm.exec) {code : ByteArray} (hby : c.code = code) {pc : Nat} {Ls : Array Slot} {x y : Int32} {st : List Value} (hd : decode code pc = .ok (.iand, 1))  (h : OE FE p e below s Q kc ks T (mkF m (pc + 1) Ls (.int (x &&& y) :: st))) : OE FE p e below s Q kc ks T (mkF m pc Ls (.int y :: .int x :: st)) := OE.of (fun _ k' => XS.iand X.here hx rfl (hb hby hd) rfl k') h
theorem OE.land (X : Stand p l e R s' m args below meth c T locs cells slots) (hx : p.tables.exec = Jvm.exec) {code : ByteArray} (hby : c.code = code) {pc : Nat} {Ls : Array Slot} {x y : Int64} {st : List Value} (hd : decode code pc = .ok (.land, 1))  (h : OE FE p e below s Q kc ks T (mkF m (pc + 1) Ls (.long (x &&& y) :: st))) : OE FE p e below s Q kc ks T (mkF m pc Ls (.long y :: .long x :: st)) := OE.of (fun _ k' => XS.land X.here hx rfl (hb hby hd) rfl k') h
theorem OE.ior (X : Stand p l e R s' m args below meth c T locs cells slots) (hx : p.tables.exec = Jvm.exec) {code : ByteArray} (hby : c.code = code) {pc : Nat} {Ls : Array Slot} {x y : Int32} {st : List Value} (hd : decode code pc = .ok (.ior, 1))  (h : OE FE p e below s Q kc ks T (mkF m (pc + 1) Ls (.int (x ||| y) :: st))) : OE FE p e below s Q kc ks T (mkF m pc Ls (.int y :: .int x :: st)) := OE.of (fun _ k' => XS.ior X.here hx rfl (hb hby hd) rfl k') h
theorem OE.lor (X : Stand p l e R s' m args below meth c T locs cells slots) (hx : p.tables.exec = Jvm.exec) {code : ByteArray} (hby : c.code = code) {pc : Nat} {Ls : Array Slot} {x y : Int64} {st : List Value} (hd : decode code pc = .ok (.lor, 1))  (h : OE FE p e below s Q kc ks T (mkF m (pc + 1) Ls (.long (x ||| y) :: st))) : OE FE p e below s Q kc ks T (mkF m pc Ls (.long y :: .long x :: st)) := OE.of (fun _ k' => XS.lor X.here hx rfl (hb hby hd) rfl k') h
theorem OE.ixor (X : Stand p l e R s' m args below meth c T locs cells slots) (hx : p.tables.exec = Jvm.exec) {code : ByteArray} (hby : c.code = code) {pc : Nat} {Ls : Array Slot} {x y : Int32} {st : List Value} (hd : decode code pc = .ok (.ixor, 1))  (h : OE FE p e below s Q kc ks T (mkF m (pc + 1) Ls (.int (x ^^^ y) :: st))) : OE FE p e below s Q kc ks T (mkF m pc Ls (.int y :: .int x :: st)) := OE.of (fun _ k' => XS.ixor X.here hx rfl (hb hby hd) rfl k') h
theorem OE.lxor (X : Stand p l e R s' m args below meth c T locs cells slots) (hx : p.tables.exec = Jvm.exec) {code : ByteArray} (hby : c.code = code) {pc : Nat} {Ls : Array Slot} {x y : Int64} {st : List Value} (hd : decode code pc = .ok (.lxor, 1))  (h : OE FE p e below s Q kc ks T (mkF m (pc + 1) Ls (.long (x ^^^ y) :: st))) : OE FE p e below s Q kc ks T (mkF m pc Ls (.long y :: .long x :: st)) := OE.of (fun _ k' => XS.lxor X.here hx rfl (hb hby hd) rfl k') h
theorem OE.ishl (X : Stand p l e R s' m args below meth c T locs cells slots) (hx : p.tables.exec = Jvm.exec) {code : ByteArray} (hby : c.code = code) {pc : Nat} {Ls : Array Slot} {x y : Int32} {st : List Value} (hd : decode code pc = .ok (.ishl, 1))  (h : OE FE p e below s Q kc ks T (mkF m (pc + 1) Ls (.int (x <<< (y &&& 31)) :: st))) : OE FE p e below s Q kc ks T (mkF m pc Ls (.int y :: .int x :: st)) := OE.of (fun _ k' => XS.ishl X.here hx rfl (hb hby hd) rfl k') h
theorem OE.ishr (X : Stand p l e R s' m args below meth c T locs cells slots) (hx : p.tables.exec = Jvm.exec) {code : ByteArray} (hby : c.code = code) {pc : Nat} {Ls : Array Slot} {x y : Int32} {st : List Value} (hd : decode code pc = .ok (.ishr, 1))  (h : OE FE p e below s Q kc ks T (mkF m (pc + 1) Ls (.int (x >>> (y &&& 31)) :: st))) : OE FE p e below s Q kc ks T (mkF m pc Ls (.int y :: .int x :: st)) := OE.of (fun _ k' => XS.ishr X.here hx rfl (hb hby hd) rfl k') h
theorem OE.iushr (X : Stand p l e R s' m args below meth c T locs cells slots) (hx : p.tables.exec = Jvm.exec) {code : ByteArray} (hby : c.code = code) {pc : Nat} {Ls : Array Slot} {x y : Int32} {st : List Value} (hd : decode code pc = .ok (.iushr, 1))  (h : OE FE p e below s Q kc ks T (mkF m (pc + 1) Ls (.int ((x.toUInt32 >>> (y &&& 31).toUInt32).toInt32) :: st))) : OE FE p e below s Q kc ks T (mkF m pc Ls (.int y :: .int x :: st)) := OE.of (fun _ k' => XS.iushr X.here hx rfl (hb hby hd) rfl k') h
theorem OE.lshl (X : Stand p l e R s' m args below meth c T locs cells slots) (hx : p.tables.exec = Jvm.exec) {code : ByteArray} (hby : c.code = code) {pc : Nat} {Ls : Array Slot} {x : Int64} {y : Int32} {st : List Value} (hd : decode code pc = .ok (.lshl, 1))  (h : OE FE p e below s Q kc ks T (mkF m (pc + 1) Ls (.long (x <<< (y &&& 0x3f).toInt64) :: st))) : OE FE p e below s Q kc ks T (mkF m pc Ls (.int y :: .long x :: st)) := OE.of (fun _ k' => XS.lshl X.here hx rfl (hb hby hd) rfl k') h
theorem OE.lshr (X : Stand p l e R s' m args below meth c T locs cells slots) (hx : p.tables.exec = Jvm.exec) {code : ByteArray} (hby : c.code = code) {pc : Nat} {Ls : Array Slot} {x : Int64} {y : Int32} {st : List Value} (hd : decode code pc = .ok (.lshr, 1))  (h : OE FE p e below s Q kc ks T (mkF m (pc + 1) Ls (.long (x >>> (y &&& 0x3f).toInt64) :: st))) : OE FE p e below s Q kc ks T (mkF m pc Ls (.int y :: .long x :: st)) := OE.of (fun _ k' => XS.lshr X.here hx rfl (hb hby hd) rfl k') h
theorem OE.lushr (X : Stand p l e R s' m args below meth c T locs cells slots) (hx : p.tables.exec = Jvm.exec) {code : ByteArray} (hby : c.code = code) {pc : Nat} {Ls : Array Slot} {x : Int64} {y : Int32} {st : List Value} (hd : decode code pc = .ok (.lushr, 1))  (h : OE FE p e below s Q kc ks T (mkF m (pc + 1) Ls (.long ((x.toUInt64 >>> (y &&& 0x3f).toInt64.toUInt64).toInt64) :: st))) : OE FE p e below s Q kc ks T (mkF m pc Ls (.int y :: .long x :: st)) := OE.of (fun _ k' => XS.lushr X.here hx rfl (hb hby hd) rfl k') h
theorem OE.ineg (X : Stand p l e R s' m args below meth c T locs cells slots) (hx : p.tables.exec = Jvm.exec) {code : ByteArray} (hby : c.code = code) {pc : Nat} {Ls : Array Slot} {x : Int32} {st : List Value} (hd : decode code pc = .ok (.ineg, 1))  (h : OE FE p e below s Q kc ks T (mkF m (pc + 1) Ls (.int (-x) :: st))) : OE FE p e below s Q kc ks T (mkF m pc Ls (.int x :: st)) := OE.of (fun _ k' => XS.ineg X.here hx rfl (hb hby hd) rfl k') h
theorem OE.lneg (X : Stand p l e R s' m args below meth c T locs cells slots) (hx : p.tables.exec = Jvm.exec) {code : ByteArray} (hby : c.code = code) {pc : Nat} {Ls : Array Slot} {x : Int64} {st : List Value} (hd : decode code pc = .ok (.lneg, 1))  (h : OE FE p e below s Q kc ks T (mkF m (pc + 1) Ls (.long (-x) :: st))) : OE FE p e below s Q kc ks T (mkF m pc Ls (.long x :: st)) := OE.of (fun _ k' => XS.lneg X.here hx rfl (hb hby hd) rfl k') h
theorem OE.i2l (X : Stand p l e R s' m args below meth c T locs cells slots) (hx : p.tables.exec = Jvm.exec) {code : ByteArray} (hby : c.code = code) {pc : Nat} {Ls : Array Slot} {x : Int32} {st : List Value} (hd : decode code pc = .ok (.i2l, 1))  (h : OE FE p e below s Q kc ks T (mkF m (pc + 1) Ls (.long x.toInt64 :: st))) : OE FE p e below s Q kc ks T (mkF m pc Ls (.int x :: st)) := OE.of (fun _ k' => XS.i2l X.here hx rfl (hb hby hd) rfl k') h
theorem OE.l2i (X : Stand p l e R s' m args below meth c T locs cells slots) (hx : p.tables.exec = Jvm.exec) {code : ByteArray} (hby : c.code = code) {pc : Nat} {Ls : Array Slot} {x : Int64} {st : List Value} (hd : decode code pc = .ok (.l2i, 1))  (h : OE FE p e below s Q kc ks T (mkF m (pc + 1) Ls (.int x.toInt32 :: st))) : OE FE p e below s Q kc ks T (mkF m pc Ls (.long x :: st)) := OE.of (fun _ k' => XS.l2i X.here hx rfl (hb hby hd) rfl k') h
theorem OE.i2b (X : Stand p l e R s' m args below meth c T locs cells slots) (hx : p.tables.exec = Jvm.exec) {code : ByteArray} (hby : c.code = code) {pc : Nat} {Ls : Array Slot} {x : Int32} {st : List Value} (hd : decode code pc = .ok (.i2b, 1))  (h : OE FE p e below s Q kc ks T (mkF m (pc + 1) Ls (.int x.toInt8.toInt32 :: st))) : OE FE p e below s Q kc ks T (mkF m pc Ls (.int x :: st)) := OE.of (fun _ k' => XS.i2b X.here hx rfl (hb hby hd) rfl k') h
theorem OE.i2s (X : Stand p l e R s' m args below meth c T locs cells slots) (hx : p.tables.exec = Jvm.exec) {code : ByteArray} (hby : c.code = code) {pc : Nat} {Ls : Array Slot} {x : Int32} {st : List Value} (hd : decode code pc = .ok (.i2s, 1))  (h : OE FE p e below s Q kc ks T (mkF m (pc + 1) Ls (.int x.toInt16.toInt32 :: st))) : OE FE p e below s Q kc ks T (mkF m pc Ls (.int x :: st)) := OE.of (fun _ k' => XS.i2s X.here hx rfl (hb hby hd) rfl k') h
theorem OE.i2c (X : Stand p l e R s' m args below meth c T locs cells slots) (hx : p.tables.exec = Jvm.exec) {code : ByteArray} (hby : c.code = code) {pc : Nat} {Ls : Array Slot} {x : Int32} {st : List Value} (hd : decode code pc = .ok (.i2c, 1))  (h : OE FE p e below s Q kc ks T (mkF m (pc + 1) Ls (.int x.toUInt32.toUInt16.toUInt32.toInt32 :: st))) : OE FE p e below s Q kc ks T (mkF m pc Ls (.int x :: st)) := OE.of (fun _ k' => XS.i2c X.here hx rfl (hb hby hd) rfl k') h
theorem OE.lcmp (X : Stand p l e R s' m args below meth c T locs cells slots) (hx : p.tables.exec = Jvm.exec) {code : ByteArray} (hby : c.code = code) {pc : Nat} {Ls : Array Slot} {x y : Int64} {st : List Value} (hd : decode code pc = .ok (.lcmp, 1))  (h : OE FE p e below s Q kc ks T (mkF m (pc + 1) Ls (.int (lcmpW x y) :: st))) : OE FE p e below s Q kc ks T (mkF m pc Ls (.long y :: .long x :: st)) := OE.of (fun _ k' => XS.lcmp X.here hx rfl (hb hby hd) rfl k') h
theorem OE.idiv (X : Stand p l e R s' m args below meth c T locs cells slots) (hx : p.tables.exec = Jvm.exec) {code : ByteArray} (hby : c.code = code) {pc : Nat} {Ls : Array Slot} {x y : Int32} {st : List Value} (hd : decode code pc = .ok (.idiv, 1)) (hy : y ≠ 0) (h : OE FE p e below s Q kc ks T (mkF m (pc + 1) Ls (.int (x / y) :: st))) : OE FE p e below s Q kc ks T (mkF m pc Ls (.int y :: .int x :: st)) := OE.of (fun _ k' => XS.idiv X.here hx rfl (hb hby hd) rfl hy k') h
theorem OE.irem (X : Stand p l e R s' m args below meth c T locs cells slots) (hx : p.tables.exec = Jvm.exec) {code : ByteArray} (hby : c.code = code) {pc : Nat} {Ls : Array Slot} {x y : Int32} {st : List Value} (hd : decode code pc = .ok (.irem, 1)) (hy : y ≠ 0) (h : OE FE p e below s Q kc ks T (mkF m (pc + 1) Ls (.int (x % y) :: st))) : OE FE p e below s Q kc ks T (mkF m pc Ls (.int y :: .int x :: st)) := OE.of (fun _ k' => XS.irem X.here hx rfl (hb hby hd) rfl hy (by rw [irem_eq_mod]; exact k')) h
theorem OE.ldiv (X : Stand p l e R s' m args below meth c T locs cells slots) (hx : p.tables.exec = Jvm.exec) {code : ByteArray} (hby : c.code = code) {pc : Nat} {Ls : Array Slot} {x y : Int64} {st : List Value} (hd : decode code pc = .ok (.ldiv, 1)) (hy : y ≠ 0) (h : OE FE p e below s Q kc ks T (mkF m (pc + 1) Ls (.long (x / y) :: st))) : OE FE p e below s Q kc ks T (mkF m pc Ls (.long y :: .long x :: st)) := OE.of (fun _ k' => XS.ldiv X.here hx rfl (hb hby hd) rfl hy k') h
theorem OE.lrem (X : Stand p l e R s' m args below meth c T locs cells slots) (hx : p.tables.exec = Jvm.exec) {code : ByteArray} (hby : c.code = code) {pc : Nat} {Ls : Array Slot} {x y : Int64} {st : List Value} (hd : decode code pc = .ok (.lrem, 1)) (hy : y ≠ 0) (h : OE FE p e below s Q kc ks T (mkF m (pc + 1) Ls (.long (x % y) :: st))) : OE FE p e below s Q kc ks T (mkF m pc Ls (.long y :: .long x :: st)) := OE.of (fun _ k' => XS.lrem X.here hx rfl (hb hby hd) rfl hy (by rw [lrem_mod]; exact k')) h
theorem OE.iinc (X : Stand p l e R s' m args below meth c T locs cells slots) (hx : p.tables.exec = Jvm.exec) {code : ByteArray} (hby : c.code = code) {pc : Nat} {Ls : Array Slot} {k : Nat} {cst : Int} {x : Int32} {l' : Array Slot} {st : List Value} (hd : decode code pc = .ok (.iinc k cst, 3)) (hl : Ls[k]? = some (.val (.int x))) (hl' : storeLocals Ls k (.int (x + Int32.ofInt cst)) = some l') (h : OE FE p e below s Q kc ks T (mkF m (pc + 3) l' (st))) : OE FE p e below s Q kc ks T (mkF m pc Ls (st)) := OE.of (fun _ k' => XS.iinc X.here hx rfl (hb hby hd) hl hl' k') h
theorem OE.dup (X : Stand p l e R s' m args below meth c T locs cells slots) (hx : p.tables.exec = Jvm.exec) {code : ByteArray} (hby : c.code = code) {pc : Nat} {Ls : Array Slot} {v : Value} {st : List Value} (hd : decode code pc = .ok (.dup, 1)) (hc : v.category = 1) (h : OE FE p e below s Q kc ks T (mkF m (pc + 1) Ls (v :: v :: st))) : OE FE p e below s Q kc ks T (mkF m pc Ls (v :: st)) := OE.of (fun _ k' => XS.dup X.here hx rfl (hb hby hd) rfl hc k') h
theorem OE.pop (X : Stand p l e R s' m args below meth c T locs cells slots) (hx : p.tables.exec = Jvm.exec) {code : ByteArray} (hby : c.code = code) {pc : Nat} {Ls : Array Slot} {v : Value} {st : List Value} (hd : decode code pc = .ok (.pop, 1)) (hc : v.category = 1) (h : OE FE p e below s Q kc ks T (mkF m (pc + 1) Ls (st))) : OE FE p e below s Q kc ks T (mkF m pc Ls (v :: st)) := OE.of (fun _ k' => XS.pop X.here hx rfl (hb hby hd) rfl hc k') h
theorem OE.dupX1 (X : Stand p l e R s' m args below meth c T locs cells slots) (hx : p.tables.exec = Jvm.exec) {code : ByteArray} (hby : c.code = code) {pc : Nat} {Ls : Array Slot} {v w : Value} {st : List Value} (hd : decode code pc = .ok (.dup_x1, 1)) (hc : v.category = 1) (hc' : w.category = 1) (h : OE FE p e below s Q kc ks T (mkF m (pc + 1) Ls (v :: w :: v :: st))) : OE FE p e below s Q kc ks T (mkF m pc Ls (v :: w :: st)) := OE.of (fun _ k' => XS.dupX1 X.here hx rfl (hb hby hd) rfl hc hc' k') h
theorem OE.dup2 (X : Stand p l e R s' m args below meth c T locs cells slots) (hx : p.tables.exec = Jvm.exec) {code : ByteArray} (hby : c.code = code) {pc : Nat} {Ls : Array Slot} {v w : Value} {st : List Value} (hd : decode code pc = .ok (.dup2, 1)) (hc : v.category = 1) (hc' : w.category = 1) (h : OE FE p e below s Q kc ks T (mkF m (pc + 1) Ls (v :: w :: v :: w :: st))) : OE FE p e below s Q kc ks T (mkF m pc Ls (v :: w :: st)) := OE.of (fun _ k' => Jvm.Free.XT.dup2 X.here hx rfl (hb hby hd) rfl hc hc' k') h
theorem OE.dup2L (X : Stand p l e R s' m args below meth c T locs cells slots) (hx : p.tables.exec = Jvm.exec) {code : ByteArray} (hby : c.code = code) {pc : Nat} {Ls : Array Slot} {v : Int64} {st : List Value} (hd : decode code pc = .ok (.dup2, 1))  (h : OE FE p e below s Q kc ks T (mkF m (pc + 1) Ls (.long v :: .long v :: st))) : OE FE p e below s Q kc ks T (mkF m pc Ls (.long v :: st)) := OE.of (fun _ k' => Jvm.Free.XT.dup2L X.here hx rfl (hb hby hd) rfl k') h
theorem OE.goto (X : Stand p l e R s' m args below meth c T locs cells slots) (hx : p.tables.exec = Jvm.exec) {code : ByteArray} (hby : c.code = code) {pc : Nat} {Ls : Array Slot} {o : Int} (pc' : Nat) {st : List Value} (hd : decode code pc = .ok (.goto o, 3)) (ho : 0 ≤ (pc : Int) + o := by decide) (hp : ((pc : Int) + o).toNat = pc' := by decide) (h : OE FE p e below s Q kc ks T (mkF m pc' Ls (st))) : OE FE p e below s Q kc ks T (mkF m pc Ls (st)) := OE.of (fun _ k' => XS.goto X.here hx rfl rfl (hb hby hd) ho hp k') h
theorem OE.ifYes (X : Stand p l e R s' m args below meth c T locs cells slots) (hx : p.tables.exec = Jvm.exec) {code : ByteArray} (hby : c.code = code) {pc : Nat} {Ls : Array Slot} {cd : ClassFile.Cond} {x : Int32} {o : Int} (pc' : Nat) {st : List Value} (hd : decode code pc = .ok (.ifCond cd o, 3)) (hc : if_icmp.holds cd x 0 = true) (ho : 0 ≤ (pc : Int) + o := by decide) (hp : ((pc : Int) + o).toNat = pc' := by decide) (h : OE FE p e below s Q kc ks T (mkF m pc' Ls (st))) : OE FE p e below s Q kc ks T (mkF m pc Ls (.int x :: st)) := OE.of (fun _ k' => XS.ifYes X.here hx rfl rfl (hb hby hd) rfl ((if0 _ _).trans hc) ho hp k') h
theorem OE.ifNo (X : Stand p l e R s' m args below meth c T locs cells slots) (hx : p.tables.exec = Jvm.exec) {code : ByteArray} (hby : c.code = code) {pc : Nat} {Ls : Array Slot} {cd : ClassFile.Cond} {x : Int32} {o : Int} {st : List Value} (hd : decode code pc = .ok (.ifCond cd o, 3)) (hc : if_icmp.holds cd x 0 = false) (h : OE FE p e below s Q kc ks T (mkF m (pc + 3) Ls (st))) : OE FE p e below s Q kc ks T (mkF m pc Ls (.int x :: st)) := OE.of (fun _ k' => XS.ifNo X.here hx rfl (hb hby hd) rfl ((if0 _ _).trans hc) k') h
theorem OE.icmpYes (X : Stand p l e R s' m args below meth c T locs cells slots) (hx : p.tables.exec = Jvm.exec) {code : ByteArray} (hby : c.code = code) {pc : Nat} {Ls : Array Slot} {cd : ClassFile.Cond} {x y : Int32} {o : Int} (pc' : Nat) {st : List Value} (hd : decode code pc = .ok (.if_icmp cd o, 3)) (hc : if_icmp.holds cd x y = true) (ho : 0 ≤ (pc : Int) + o := by decide) (hp : ((pc : Int) + o).toNat = pc' := by decide) (h : OE FE p e below s Q kc ks T (mkF m pc' Ls (st))) : OE FE p e below s Q kc ks T (mkF m pc Ls (.int y :: .int x :: st)) := OE.of (fun _ k' => XS.icmpYes X.here hx rfl rfl (hb hby hd) rfl hc ho hp k') h
theorem OE.icmpNo (X : Stand p l e R s' m args below meth c T locs cells slots) (hx : p.tables.exec = Jvm.exec) {code : ByteArray} (hby : c.code = code) {pc : Nat} {Ls : Array Slot} {cd : ClassFile.Cond} {x y : Int32} {o : Int} {st : List Value} (hd : decode code pc = .ok (.if_icmp cd o, 3)) (hc : if_icmp.holds cd x y = false) (h : OE FE p e below s Q kc ks T (mkF m (pc + 3) Ls (st))) : OE FE p e below s Q kc ks T (mkF m pc Ls (.int y :: .int x :: st)) := OE.of (fun _ k' => XS.icmpNo X.here hx rfl (hb hby hd) rfl hc k') h
theorem OE.ifnullYes (X : Stand p l e R s' m args below meth c T locs cells slots) (hx : p.tables.exec = Jvm.exec) {code : ByteArray} (hby : c.code = code) {pc : Nat} {Ls : Array Slot} {o : Int} (pc' : Nat) {st : List Value} (hd : decode code pc = .ok (.ifnull o, 3)) (ho : 0 ≤ (pc : Int) + o := by decide) (hp : ((pc : Int) + o).toNat = pc' := by decide) (h : OE FE p e below s Q kc ks T (mkF m pc' Ls (st))) : OE FE p e below s Q kc ks T (mkF m pc Ls (.null :: st)) := OE.of (fun _ k' => XS.ifnullYes X.here hx rfl rfl (hb hby hd) rfl ho hp k') h
theorem OE.ifnullNo (X : Stand p l e R s' m args below meth c T locs cells slots) (hx : p.tables.exec = Jvm.exec) {code : ByteArray} (hby : c.code = code) {pc : Nat} {Ls : Array Slot} {b : Addr} {o : Int} {st : List Value} (hd : decode code pc = .ok (.ifnull o, 3))  (h : OE FE p e below s Q kc ks T (mkF m (pc + 3) Ls (st))) : OE FE p e below s Q kc ks T (mkF m pc Ls (.ref b :: st)) := OE.of (fun _ k' => XS.ifnullNo X.here hx rfl (hb hby hd) rfl k') h
theorem OE.ifnonnullYes (X : Stand p l e R s' m args below meth c T locs cells slots) (hx : p.tables.exec = Jvm.exec) {code : ByteArray} (hby : c.code = code) {pc : Nat} {Ls : Array Slot} {b : Addr} {o : Int} (pc' : Nat) {st : List Value} (hd : decode code pc = .ok (.ifnonnull o, 3)) (ho : 0 ≤ (pc : Int) + o := by decide) (hp : ((pc : Int) + o).toNat = pc' := by decide) (h : OE FE p e below s Q kc ks T (mkF m pc' Ls (st))) : OE FE p e below s Q kc ks T (mkF m pc Ls (.ref b :: st)) := OE.of (fun _ k' => XS.ifnonnullYes X.here hx rfl rfl (hb hby hd) rfl ho hp k') h
theorem OE.ifnonnullNo (X : Stand p l e R s' m args below meth c T locs cells slots) (hx : p.tables.exec = Jvm.exec) {code : ByteArray} (hby : c.code = code) {pc : Nat} {Ls : Array Slot} {o : Int} {st : List Value} (hd : decode code pc = .ok (.ifnonnull o, 3))  (h : OE FE p e below s Q kc ks T (mkF m (pc + 3) Ls (st))) : OE FE p e below s Q kc ks T (mkF m pc Ls (.null :: st)) := OE.of (fun _ k' => XS.ifnonnullNo X.here hx rfl (hb hby hd) rfl k') h
end New
end Jvm.RoadKit
namespace Jvm.Pilot.@@N@@
open Jvm Jvm.ClassFile Sem Op Lib Jvm.Free Jvm.Stand Jvm.LawKit Jvm.RoadKit Bundle Jvm.Pilot.@@N@@.Jvm.D
theorem own_wS {Z : State} {a0 : Array Value} (hw : ∀ d ∈ tables_1, d.before a0 Z = true) : ∀ a ∈ Bundle.stringAtoms, a.before a0 Z = true := (List.forall_mem_cons.mpr ⟨(hw _ (List.mem_of_getElem? (i := 32) rfl)), (List.forall_mem_cons.mpr ⟨(hw _ (List.mem_of_getElem? (i := 33) rfl)), (List.forall_mem_cons.mpr ⟨(hw _ (List.mem_of_getElem? (i := 1) rfl)), (List.forall_mem_cons.mpr ⟨(hw _ (List.mem_of_getElem? (i := 34) rfl)), (List.forall_mem_cons.mpr ⟨(hw _ (List.mem_of_getElem? (i := 35) rfl)), (List.forall_mem_cons.mpr ⟨(hw _ (List.mem_of_getElem? (i := 36) rfl)), (List.forall_mem_cons.mpr ⟨(hw _ (List.mem_of_getElem? (i := 37) rfl)), (fun _ h => nomatch h)⟩)⟩)⟩)⟩)⟩)⟩)⟩)
theorem own_d4_0 : decode jdk_31_method_11_code 0 = .ok (.aload_n 0, 1) := by decide +kernel
theorem own_d4_1 : decode jdk_31_method_11_code 1 = .ok (.ifnonnull 12, 3) := by decide +kernel
theorem own_d4_13 : decode jdk_31_method_11_code 13 = .ok (.aload_n 0, 1) := by decide +kernel
theorem own_d4_14 : decode jdk_31_method_11_code 14 = .ok (.areturn, 1) := by decide +kernel
def own_Q4 (Z : State) (a1 : Addr) (a2 : Addr) (h0 : Heap) (n0 : Nat) (v : Option Value) (h : Heap) (L : List Loc) : Prop := v = some (.ref a1) ∧ Fr n0 L ∧ h = h0
theorem own_pn0 : plainName "java/util/Objects" = true := by first | (simp [plainName, overriddenIn]; done) | decide +kernel
theorem own_ef_own_rm4 (m : MethodId) (a1 : Addr) (a2 : Addr) : entryFrame m #[(.ref a1), (.ref a2)] 2 = mkF m 0 #[.val (.ref a1), .val (.ref a2)] [] := by first | (simp [entryFrame, mkF, argsToLocals, Value.category]; done) | rfl
set_option maxRecDepth 65536 in
set_option maxHeartbeats 40000000 in
theorem own_rm4 (l : Launch) (Z : State) (a0 : Array Value) (hw : ∀ d ∈ tables_1, d.before a0 Z = true) (ws : List Jvm.Cond) (a1 : Addr) (a2 : Addr) (h0 : Heap) (n0 : Nat) (Z0 : n0 ≤ h0.size) :
    MetFree l (⟨"java/util/Objects", "requireNonNull", "(Ljava/lang/Object;Ljava/lang/String;)Ljava/lang/Object;"⟩ : MethodName) (head1 (Jvm.Cond.code (⟨"java/util/Objects", "requireNonNull", "(Ljava/lang/Object;Ljava/lang/String;)Ljava/lang/Object;"⟩ : MethodName) jdk_31_method_11_code 2 (some (.object "java/lang/Object")) :: ws) ({ frames := 0, cells := 0, slots := 0, locals := 0 } : Room)) (fun a U => a = #[(.ref a1), (.ref a2)] ∧ Z.Warmed39 U.vm ∧ U.heap = h0) (fun _ _ _ _ _ => True) (fun _ U o U' => ∃ v L, o = .returned v ∧ own_Q4 Z a1 a2 h0 n0 v U'.heap L ∧ FrameEnd U o U' L ({ frames := 0, cells := 0, slots := 0, locals := 0 } : Room).cells ({ frames := 0, cells := 0, slots := 0, locals := 0 } : Room).slots) := by
  refine MetFree.of_bodySF (plainFor_of_name own_pn0) hisR ?_
  intro p e s m args below meth c s₁ Bd hml0 hP hK
  obtain ⟨rfl, hZ, hh⟩ := hP
  have hx := Bd.exec
  have hby := Bd.bytes
  have hml : c.maxLocals = 2 := hml0
  have hown : s.vm.findClass "java/util/Objects" = some m.cls := findClass_of_methodNamed Bd.named
  have hnm := (name_of_methodNamed Bd.named Bd.method).1
  have X0 : Stand p l e ({ frames := 0, cells := 0, slots := 0, locals := 0 } : Room) s m #[(.ref a1), (.ref a2)] below meth c s₁ [] 0 0 := Stand.of_body Bd
  have e0 : s₁.heap = h0 := by rw [← hh, Bd.state]; rfl
  have N0 := Fr.nil n0
  show OE FrameEnd p e below s (own_Q4 Z a1 a2 h0 n0) ({ frames := 0, cells := 0, slots := 0, locals := 0 } : Room).cells ({ frames := 0, cells := 0, slots := 0, locals := 0 } : Room).slots s₁ (entryFrame m #[(.ref a1), (.ref a2)] 2)
  rw [own_ef_own_rm4]
  show OE _ p e below s _ _ _ s₁ (mkF m 0 #[.val (.ref a1), .val (.ref a2)] [])
  refine OE.aloadN X0 hx hby own_d4_0 rfl rfl ?_
  refine OE.ifnonnullYes X0 hx hby (pc' := 13) own_d4_1 (h := ?_)
  refine OE.aloadN X0 hx hby own_d4_13 rfl rfl ?_
  refine OE.retA X0 hx rfl Bd.returns rfl Bd.notSynchronized (hb hby own_d4_14) (by decide) (by decide) ?_
  rw [e0]
  exact ⟨rfl, N0, rfl⟩
theorem own_d2_0 : decode prog_5_method_2_code 0 = .ok (.aload_n 0, 1) := by decide +kernel
theorem own_d2_1 : decode prog_5_method_2_code 1 = .ok (.invokespecial 13, 3) := by decide +kernel
theorem own_d2_4 : decode prog_5_method_2_code 4 = .ok (.iload_n 1, 1) := by decide +kernel
theorem own_d2_5 : decode prog_5_method_2_code 5 = .ok (.ifCond .lt 9, 3) := by decide +kernel
theorem own_d2_8 : decode prog_5_method_2_code 8 = .ok (.iload_n 1, 1) := by decide +kernel
theorem own_d2_9 : decode prog_5_method_2_code 9 = .ok (.ldc 18, 2) := by decide +kernel
theorem own_d2_11 : decode prog_5_method_2_code 11 = .ok (.if_icmp .le 17, 3) := by decide +kernel
theorem own_d2_28 : decode prog_5_method_2_code 28 = .ok (.iload_n 1, 1) := by decide +kernel
theorem own_d2_29 : decode prog_5_method_2_code 29 = .ok (.sipush 16128, 3) := by decide +kernel
theorem own_d2_32 : decode prog_5_method_2_code 32 = .ok (.if_icmp .eq 16, 3) := by decide +kernel
theorem own_d2_35 : decode prog_5_method_2_code 35 = .ok (.iload_n 1, 1) := by decide +kernel
theorem own_d2_36 : decode prog_5_method_2_code 36 = .ok (.sipush 16383, 3) := by decide +kernel
theorem own_d2_39 : decode prog_5_method_2_code 39 = .ok (.if_icmp .eq 9, 3) := by decide +kernel
theorem own_d2_42 : decode prog_5_method_2_code 42 = .ok (.iload_n 1, 1) := by decide +kernel
theorem own_d2_43 : decode prog_5_method_2_code 43 = .ok (.ldc 18, 2) := by decide +kernel
theorem own_d2_45 : decode prog_5_method_2_code 45 = .ok (.if_icmp .ne 27, 3) := by decide +kernel
theorem own_d2_72 : decode prog_5_method_2_code 72 = .ok (.aload_n 2, 1) := by decide +kernel
theorem own_d2_73 : decode prog_5_method_2_code 73 = .ok (.arraylength, 1) := by decide +kernel
theorem own_d2_74 : decode prog_5_method_2_code 74 = .ok (.ldc 18, 2) := by decide +kernel
theorem own_d2_76 : decode prog_5_method_2_code 76 = .ok (.if_icmp .le 18, 3) := by decide +kernel
theorem own_d2_94 : decode prog_5_method_2_code 94 = .ok (.aload_n 0, 1) := by decide +kernel
theorem own_d2_95 : decode prog_5_method_2_code 95 = .ok (.iload_n 1, 1) := by decide +kernel
theorem own_d2_96 : decode prog_5_method_2_code 96 = .ok (.putfield 43, 3) := by decide +kernel
theorem own_d2_99 : decode prog_5_method_2_code 99 = .ok (.aload_n 0, 1) := by decide +kernel
theorem own_d2_100 : decode prog_5_method_2_code 100 = .ok (.aload_n 2, 1) := by decide +kernel
theorem own_d2_101 : decode prog_5_method_2_code 101 = .ok (.invokevirtual 47, 3) := by decide +kernel
theorem own_d2_104 : decode prog_5_method_2_code 104 = .ok (.checkcast 48, 3) := by decide +kernel
theorem own_d2_107 : decode prog_5_method_2_code 107 = .ok (.putfield 53, 3) := by decide +kernel
theorem own_d2_110 : decode prog_5_method_2_code 110 = .ok (.aload_n 0, 1) := by decide +kernel
theorem own_d2_111 : decode prog_5_method_2_code 111 = .ok (.aload_n 3, 1) := by decide +kernel
theorem own_d2_112 : decode prog_5_method_2_code 112 = .ok (.ldc 56, 2) := by decide +kernel
theorem own_d2_114 : decode prog_5_method_2_code 114 = .ok (.invokestatic 58, 3) := by decide +kernel
theorem own_pd0 : parseMethodDescriptor "(Ljava/lang/Object;Ljava/lang/String;)Ljava/lang/Object;" = some ⟨[(.object "java/lang/Object"), (.object "java/lang/String")], some (.object "java/lang/Object")⟩ := by decide +kernel
theorem own_d2_117 : decode prog_5_method_2_code 117 = .ok (.checkcast 2, 3) := by decide +kernel
theorem own_d2_120 : decode prog_5_method_2_code 120 = .ok (.putfield 64, 3) := by decide +kernel
theorem own_d2_123 : decode prog_5_method_2_code 123 = .ok (.aload_n 0, 1) := by decide +kernel
theorem own_d2_124 : decode prog_5_method_2_code 124 = .ok (.aload 4, 2) := by decide +kernel
theorem own_d2_126 : decode prog_5_method_2_code 126 = .ok (.ldc 66, 2) := by decide +kernel
theorem own_d2_128 : decode prog_5_method_2_code 128 = .ok (.invokestatic 58, 3) := by decide +kernel
theorem own_d2_131 : decode prog_5_method_2_code 131 = .ok (.checkcast 2, 3) := by decide +kernel
theorem own_d2_134 : decode prog_5_method_2_code 134 = .ok (.putfield 68, 3) := by decide +kernel
theorem own_d2_137 : decode prog_5_method_2_code 137 = .ok (.return_, 1) := by decide +kernel
def own_Q2 (Z : State) (a1 : Addr) (p2 : Int32) (a3 : Addr) (a4 : Addr) (a5 : Addr) (k_a3 : ClassId) (n_a3 : Int32) (vs_a3 : List Value) (h0 : Heap) (n0 : Nat) (v : Option Value) (h : Heap) (L : List Loc) : Prop := v = none ∧ Fr n0 L ∧ Keep h0 h [a1] ∧ Exa Z h a1 "com/example/sigillum/sigillum/card/ElementaryFile" ∧ Fld Z h a1 "com/example/sigillum/sigillum/card/ElementaryFile" "fid" "I" (.int p2)
theorem own_pn1 : plainName "com/example/sigillum/sigillum/card/ElementaryFile" = true := by first | (simp [plainName, overriddenIn]; done) | decide +kernel
theorem own_ef_own_rm2 (m : MethodId) (a1 : Addr) (p2 : Int32) (a3 : Addr) (a4 : Addr) (a5 : Addr) : entryFrame m #[(.ref a1), (.int p2), (.ref a3), (.ref a4), (.ref a5)] 5 = mkF m 0 #[.val (.ref a1), .val (.int p2), .val (.ref a3), .val (.ref a4), .val (.ref a5)] [] := by first | (simp [entryFrame, mkF, argsToLocals, Value.category]; done) | rfl
set_option maxRecDepth 65536 in
set_option maxHeartbeats 40000000 in
theorem own_rm2 (l : Launch) (Z : State) (a0 : Array Value) (hw : ∀ d ∈ tables_1, d.before a0 Z = true) (ws : List Jvm.Cond) (a1 : Addr) (p2 : Int32) (a3 : Addr) (a4 : Addr) (a5 : Addr) (k_a3 : ClassId) (n_a3 : Int32) (vs_a3 : List Value) (h0 : Heap) (n0 : Nat) (Z0 : n0 ≤ h0.size) (E_a1 : Exa Z h0 a1 "com/example/sigillum/sigillum/card/ElementaryFile") (F_fid_a1 : Fld Z h0 a1 "com/example/sigillum/sigillum/card/ElementaryFile" "fid" "I" (.int (0 : Int32))) (F_content_a1 : Fld Z h0 a1 "com/example/sigillum/sigillum/card/ElementaryFile" "content" "[B" .null) (F_readCondition_a1 : Fld Z h0 a1 "com/example/sigillum/sigillum/card/ElementaryFile" "readCondition" "Lcom/example/sigillum/sigillum/card/AccessCondition;" .null) (F_updateCondition_a1 : Fld Z h0 a1 "com/example/sigillum/sigillum/card/ElementaryFile" "updateCondition" "Lcom/example/sigillum/sigillum/card/AccessCondition;" .null) (V_a3 : Arv Z h0 a3 k_a3 .byte n_a3 vs_a3 (.int (0 : Int32))) (E_a3 : Exa Z h0 a3 "[B") (g_a1 : n0 ≤ a1) (ne_a3_a1 : a3 ≠ a1) (hp0 : ¬ p2 < (0 : Int32)) (hp1 : ¬ (65535 : Int32) < p2) (h1 : ¬ p2 = (16128 : Int32)) (h2 : ¬ p2 = (16383 : Int32)) (h3 : ¬ p2 = (65535 : Int32)) (hn : ¬ (65535 : Int32) < n_a3) (hcap : n_a3.toNatClampNeg ≤ 3) (E_a4 : Exa Z h0 a4 "com/example/sigillum/sigillum/card/AccessCondition") (E_a5 : Exa Z h0 a5 "com/example/sigillum/sigillum/card/AccessCondition") :
    MetFree l (⟨"com/example/sigillum/sigillum/card/ElementaryFile", "<init>", "(I[BLcom/example/sigillum/sigillum/card/AccessCondition;Lcom/example/sigillum/sigillum/card/AccessCondition;)V"⟩ : MethodName) (head1 (Jvm.Cond.code (⟨"com/example/sigillum/sigillum/card/ElementaryFile", "<init>", "(I[BLcom/example/sigillum/sigillum/card/AccessCondition;Lcom/example/sigillum/sigillum/card/AccessCondition;)V"⟩ : MethodName) prog_5_method_2_code 5 none :: ws) ({ frames := 1, cells := 5, slots := 123, locals := 15 } : Room)) (fun a U => a = #[(.ref a1), (.int p2), (.ref a3), (.ref a4), (.ref a5)] ∧ Z.Warmed39 U.vm ∧ U.heap = h0) (fun _ _ _ _ _ => True) (fun _ U o U' => ∃ v L, o = .returned v ∧ own_Q2 Z a1 p2 a3 a4 a5 k_a3 n_a3 vs_a3 h0 n0 v U'.heap L ∧ ReturnedEndW U o U' L ({ frames := 1, cells := 5, slots := 123, locals := 15 } : Room).cells ({ frames := 1, cells := 5, slots := 123, locals := 15 } : Room).slots) := by
  refine MetFree.of_bodySF (plainFor_of_name own_pn1) hisR ?_
  intro p e s m args below meth c s₁ Bd hml0 hP hK
  obtain ⟨rfl, hZ, hh⟩ := hP
  have hx := Bd.exec
  have hby := Bd.bytes
  have hml : c.maxLocals = 5 := hml0
  have hown : s.vm.findClass "com/example/sigillum/sigillum/card/ElementaryFile" = some m.cls := findClass_of_methodNamed Bd.named
  have hnm := (name_of_methodNamed Bd.named Bd.method).1
  have X0 : Stand p l e ({ frames := 1, cells := 5, slots := 123, locals := 15 } : Room) s m #[(.ref a1), (.int p2), (.ref a3), (.ref a4), (.ref a5)] below meth c s₁ [] 0 0 := Stand.of_body Bd
  have e0 : s₁.heap = h0 := by rw [← hh, Bd.state]; rfl
  have N0 := Fr.nil n0
  have hS0 : s.Since s.vm 0 := (State.WarmedH.refl s).since 0
  show OE ReturnedEndW p e below s (own_Q2 Z a1 p2 a3 a4 a5 k_a3 n_a3 vs_a3 h0 n0) ({ frames := 1, cells := 5, slots := 123, locals := 15 } : Room).cells ({ frames := 1, cells := 5, slots := 123, locals := 15 } : Room).slots s₁ (entryFrame m #[(.ref a1), (.int p2), (.ref a3), (.ref a4), (.ref a5)] 5)
  rw [own_ef_own_rm2]
  show OE _ p e below s _ _ _ s₁ (mkF m 0 #[.val (.ref a1), .val (.int p2), .val (.ref a3), .val (.ref a4), .val (.ref a5)] [])
  refine OE.aloadN X0 hx hby own_d2_0 rfl rfl ?_
  obtain ⟨T1, X1, e1, st1⟩ := initO X0 hx hZ hown (hw _ (List.mem_of_getElem? (i := 14) rfl)) (hw _ (List.mem_of_getElem? (i := 15) rfl)) (hw _ (List.mem_of_getElem? (i := 16) rfl)) e0 (g := (mkF m 1 #[.val (.ref a1), .val (.int p2), .val (.ref a3), .val (.ref a4), .val (.ref a5)] [(.ref a1)])) rfl (by rw [hml]; rfl) rfl (hb hby own_d2_1) (by decide) (W := 0) (by show 2 * 0 + _ ≤ _; exact Nat.le_of_eq rfl) (by decide)
  refine OE.of st1 ?_
  show OE _ p e below s _ _ _ T1 (mkF m 4 #[.val (.ref a1), .val (.int p2), .val (.ref a3), .val (.ref a4), .val (.ref a5)] [])
  refine OE.iloadN X1 hx hby own_d2_4 rfl ?_
  refine OE.ifNo X1 hx hby own_d2_5 (flt (hp0 : ¬ (p2 < (0 : Int32)))).1 ?_
  refine OE.iloadN X1 hx hby own_d2_8 rfl ?_
  refine OE.of (X1.ldcInt hx hown (mvT hZ (hw _ (List.mem_of_getElem? (i := 17) rfl))) (g := (mkF m 9 #[.val (.ref a1), .val (.int p2), .val (.ref a3), .val (.ref a4), .val (.ref a5)] [(.int p2)])) rfl (hb hby own_d2_9)) ?_
  show OE _ p e below s _ _ _ T1 (mkF m 11 #[.val (.ref a1), .val (.int p2), .val (.ref a3), .val (.ref a4), .val (.ref a5)] [(.int (65535 : Int32)), (.int p2)])
  refine OE.icmpYes X1 hx hby (pc' := 28) own_d2_11 (flt (hp1 : ¬ ((65535 : Int32) < p2))).2.2.2 (h := ?_)
  refine OE.iloadN X1 hx hby own_d2_28 rfl ?_
  refine OE.sipush X1 hx hby own_d2_29 (16128 : Int32) rfl ?_
  refine OE.icmpNo X1 hx hby own_d2_32 (feq (h1 : ¬ (p2 = (16128 : Int32)))).1 ?_
  refine OE.iloadN X1 hx hby own_d2_35 rfl ?_
  refine OE.sipush X1 hx hby own_d2_36 (16383 : Int32) rfl ?_
  refine OE.icmpNo X1 hx hby own_d2_39 (feq (h2 : ¬ (p2 = (16383 : Int32)))).1 ?_
  refine OE.iloadN X1 hx hby own_d2_42 rfl ?_
  refine OE.of (X1.ldcInt hx hown (mvT hZ (hw _ (List.mem_of_getElem? (i := 17) rfl))) (g := (mkF m 43 #[.val (.ref a1), .val (.int p2), .val (.ref a3), .val (.ref a4), .val (.ref a5)] [(.int p2)])) rfl (hb hby own_d2_43)) ?_
  show OE _ p e below s _ _ _ T1 (mkF m 45 #[.val (.ref a1), .val (.int p2), .val (.ref a3), .val (.ref a4), .val (.ref a5)] [(.int (65535 : Int32)), (.int p2)])
  refine OE.icmpYes X1 hx hby (pc' := 72) own_d2_45 (feq (h3 : ¬ (p2 = (65535 : Int32)))).2 (h := ?_)
  refine OE.aloadN X1 hx hby own_d2_72 rfl rfl ?_
  have Vo2 := V_a3
  obtain ⟨cl2, Ar2, -, Sz2, Nz2, -, -⟩ := Vo2
  refine OE.of (X1.arraylength hx (by rw [e1]; exact Ar2.1) (State.isArrayOf_alike hZ.alike Ar2.2.1) (g := (mkF m 73 #[.val (.ref a1), .val (.int p2), .val (.ref a3), .val (.ref a4), .val (.ref a5)] [(.ref a3)])) rfl rfl (hb hby own_d2_73)) ?_
  rw [len_of Sz2 Nz2]
  show OE _ p e below s _ _ _ T1 (mkF m 74 #[.val (.ref a1), .val (.int p2), .val (.ref a3), .val (.ref a4), .val (.ref a5)] [(.int n_a3)])
  refine OE.of (X1.ldcInt hx hown (mvT hZ (hw _ (List.mem_of_getElem? (i := 17) rfl))) (g := (mkF m 74 #[.val (.ref a1), .val (.int p2), .val (.ref a3), .val (.ref a4), .val (.ref a5)] [(.int n_a3)])) rfl (hb hby own_d2_74)) ?_
  show OE _ p e below s _ _ _ T1 (mkF m 76 #[.val (.ref a1), .val (.int p2), .val (.ref a3), .val (.ref a4), .val (.ref a5)] [(.int (65535 : Int32)), (.int n_a3)])
  refine OE.icmpYes X1 hx hby (pc' := 94) own_d2_76 (flt (hn : ¬ ((65535 : Int32) < n_a3))).2.2.2 (h := ?_)
  refine OE.aloadN X1 hx hby own_d2_94 rfl rfl ?_
  refine OE.iloadN X1 hx hby own_d2_95 rfl ?_
  obtain ⟨T3, h3, X3, e3, W3, st3⟩ := putF X1 hx hZ hown (host := "") (Or.inl (hw _ (List.mem_of_getElem? (i := 18) rfl))) Via.refl e1 F_fid_a1 E_a1 (Or.inr ⟨(hw _ (List.mem_of_getElem? (i := 19) rfl)), rfl, hnm⟩) (hw _ (List.mem_of_getElem? (i := 3) rfl)) (ty := .int) (by decide) rfl rfl (g := (mkF m 96 #[.val (.ref a1), .val (.int p2), .val (.ref a3), .val (.ref a4), .val (.ref a5)] [(.int p2), (.ref a1)])) rfl rfl (hb hby own_d2_96)
  refine OE.of st3 ?_
  have N3 := Fr.snoc X3 N0 g_a1
  have Fw3 := F_fid_a1.same W3
  show OE _ p e below s _ _ _ T3 (mkF m 99 #[.val (.ref a1), .val (.int p2), .val (.ref a3), .val (.ref a4), .val (.ref a5)] [])
  refine OE.aloadN X3 hx hby own_d2_99 rfl rfl ?_
  refine OE.aloadN X3 hx hby own_d2_100 rfl rfl ?_
  have f4 : Arv Z h3 a3 k_a3 .byte n_a3 vs_a3 (.int (0 : Int32)) := (V_a3.other W3 ne_a3_a1)
  have f5 : Exa Z h3 a3 "[B" := (E_a3.wr W3)
  obtain ⟨T6, h6, X6, e6, E6, A6, B6, st6⟩ := cloneH X3 hx hZ hown (hw _ (List.mem_of_getElem? (i := 20) rfl)) (hw _ (List.mem_of_getElem? (i := 21) rfl)) (hw _ (List.mem_of_getElem? (i := 25) rfl)) (hw _ (List.mem_of_getElem? (i := 23) rfl)) (hw _ (List.mem_of_getElem? (i := 24) rfl)) (hw _ (List.mem_of_getElem? (i := 26) rfl)) e3 (Arv.arh f4) f5 (g := (mkF m 101 #[.val (.ref a1), .val (.int p2), .val (.ref a3), .val (.ref a4), .val (.ref a5)] [(.ref a3), (.ref a1)])) rfl (by rw [hml]; rfl) rfl (hb hby own_d2_101) (by decide) (W := 1) (by show 2 * 0 + _ ≤ _; exact Nat.le_of_eq rfl) (by decide) (cap := 3) hcap (by decide) (by decide)
  refine OE.of st6 ?_
  obtain ⟨b6, g6⟩ : ∃ z, z = h3.size := ⟨_, rfl⟩
  rw [← g6] at A6 B6 ⊢
  have f7 : Exa Z h3 a1 "com/example/sigillum/sigillum/card/ElementaryFile" := (E_a1.wr W3)
  have ne_a1_b6 : a1 ≠ b6 := Nat.ne_of_lt (Nat.lt_of_lt_of_le f7.lt (Nat.le_of_eq g6.symm))
  have ne_a3_b6 : a3 ≠ b6 := Nat.ne_of_lt (Nat.lt_of_lt_of_le f4.lt (Nat.le_of_eq g6.symm))
  have f8 : Exa Z h3 a4 "com/example/sigillum/sigillum/card/AccessCondition" := (E_a4.wr W3)
  have ne_a4_b6 : a4 ≠ b6 := Nat.ne_of_lt (Nat.lt_of_lt_of_le f8.lt (Nat.le_of_eq g6.symm))
  have f9 : Exa Z h3 a5 "com/example/sigillum/sigillum/card/AccessCondition" := (E_a5.wr W3)
  have ne_a5_b6 : a5 ≠ b6 := Nat.ne_of_lt (Nat.lt_of_lt_of_le f9.lt (Nat.le_of_eq g6.symm))
  have z10 : n0 ≤ h3.size := (Nat.le_trans Z0 (Nat.le_of_eq W3.size.symm))
  have g_b6 : n0 ≤ b6 := Nat.le_trans z10 (Nat.le_of_eq g6.symm)
  have K11 : Keep h0 h3 [a1] := (Keep.wr (Keep.refl h0 [a1]) W3 (Or.inl (List.mem_of_getElem? (i := 0) rfl)))
  have sz_b6 : h0.size ≤ b6 := Nat.le_trans K11.1 (Nat.le_of_eq g6.symm)
  have V6 : Arv Z h6 b6 k_a3 .byte n_a3 vs_a3 (.int (0 : Int32)) := A6
  show OE _ p e below s _ _ _ T6 (mkF m 104 #[.val (.ref a1), .val (.int p2), .val (.ref a3), .val (.ref a4), .val (.ref a5)] [(.ref b6), (.ref a1)])
  obtain ⟨T12, X12, e12, st12⟩ := castY X6 hx hZ hown (hw _ (List.mem_of_getElem? (i := 27) rfl)) e6 (Ins.self B6) (g := (mkF m 104 #[.val (.ref a1), .val (.int p2), .val (.ref a3), .val (.ref a4), .val (.ref a5)] [(.ref b6), (.ref a1)])) rfl rfl (hb hby own_d2_104)
  refine OE.of st12 ?_
  show OE _ p e below s _ _ _ T12 (mkF m 107 #[.val (.ref a1), .val (.int p2), .val (.ref a3), .val (.ref a4), .val (.ref a5)] [(.ref b6), (.ref a1)])
  have f13 : Exa Z h6 a1 "com/example/sigillum/sigillum/card/ElementaryFile" := (f7.ext E6)
  have f14 : Fld Z h6 a1 "com/example/sigillum/sigillum/card/ElementaryFile" "content" "[B" .null := ((F_content_a1.other W3 (Or.inr (slot_ne (Or.inr (hw _ (List.mem_of_getElem? (i := 30) rfl))) (Or.inr (hw _ (List.mem_of_getElem? (i := 19) rfl))) (by decide) (t := (.array .byte)) (t' := .int) (by decide) (by decide)))).ext E6)
  obtain ⟨T15, h15, X15, e15, W15, st15⟩ := putF X12 hx hZ hown (host := "") (Or.inl (hw _ (List.mem_of_getElem? (i := 29) rfl))) Via.refl e12 f14 f13 (Or.inr ⟨(hw _ (List.mem_of_getElem? (i := 30) rfl)), rfl, hnm⟩) (hw _ (List.mem_of_getElem? (i := 3) rfl)) (ty := (.array .byte)) (by decide) rfl rfl (g := (mkF m 107 #[.val (.ref a1), .val (.int p2), .val (.ref a3), .val (.ref a4), .val (.ref a5)] [(.ref b6), (.ref a1)])) rfl rfl (hb hby own_d2_107)
  refine OE.of st15 ?_
  have N15 := Fr.snoc X15 N3 g_a1
  have Fw15 := f14.same W15
  show OE _ p e below s _ _ _ T15 (mkF m 110 #[.val (.ref a1), .val (.int p2), .val (.ref a3), .val (.ref a4), .val (.ref a5)] [])
  refine OE.aloadN X15 hx hby own_d2_110 rfl rfl ?_
  refine OE.aloadN X15 hx hby own_d2_111 rfl rfl ?_
  have zs17 : 0 ≤ h15.size := (Nat.le_trans (Nat.le_trans (Nat.le_trans (Nat.zero_le _) (Nat.le_of_eq W3.size.symm)) E6.1) (Nat.le_of_eq W15.size.symm))
  obtain ⟨sa16, T16, h16, k16, X16, e16, E16, hS16, hkS16, hZ16, hown16, st16⟩ := ldcS (s := s) (vm0 := s.vm) X15 hx hZ hown (hw _ (List.mem_of_getElem? (i := 31) rfl)) (own_wS hw) e15 hS0 zs17 (g := (mkF m 112 #[.val (.ref a1), .val (.int p2), .val (.ref a3), .val (.ref a4), .val (.ref a5)] [(.ref a4), (.ref a1)])) rfl (hb hby own_d2_112) (n := 52) (by decide) (by decide) (by decide) (by decide)
  refine OE.of st16 ?_
  show OE _ p e below s _ _ _ T16 (mkF m 114 #[.val (.ref a1), .val (.int p2), .val (.ref a3), .val (.ref a4), .val (.ref a5)] [(.ref sa16), (.ref a4), (.ref a1)])
  have z18 : n0 ≤ h16.size := (Nat.le_trans (Nat.le_trans (Nat.le_trans z10 E6.1) (Nat.le_of_eq W15.size.symm)) E16.1)
  obtain ⟨_, _, ⟨T19, L19, k19, n19⟩, -, X19, ⟨Lc19, hQ19, l19, y19, z19⟩, st19⟩ := Jvm.LawKit.callS X16 hx (y := (⟨"java/util/Objects", "requireNonNull", "(Ljava/lang/Object;Ljava/lang/String;)Ljava/lang/Object;"⟩ : MethodName)) hown16 (mvT hZ16 (hw _ (List.mem_of_getElem? (i := 38) rfl))) (mvT hZ16 (hw _ (List.mem_of_getElem? (i := 39) rfl))) (mvT hZ16 (hw _ (List.mem_of_getElem? (i := 40) rfl))) (mvT hZ16 (hw _ (List.mem_of_getElem? (i := 41) rfl))) (by decide) (backOf (W := 1) (own_rm4 l Z a0 hw [] a4 sa16 h16 n0 z18 ) hZ16 (hw _ (List.mem_of_getElem? (i := 41) rfl)) (hw _ (List.mem_of_getElem? (i := 40) rfl)) (by decide) (by decide)) (g := (mkF m 114 #[.val (.ref a1), .val (.int p2), .val (.ref a3), .val (.ref a4), .val (.ref a5)] [(.ref sa16), (.ref a4), (.ref a1)])) rfl (by rw [hml]; rfl) (argsL := [(.ref a4), (.ref sa16)]) (rest := [(.ref a1)]) (lenOf own_pd0 rfl) rfl (by show 2 * 0 + _ ≤ _; exact Nat.le_of_eq rfl) (hb hby own_d2_114) (fun _ _ => ⟨rfl, e16, (by decide : 3 + 0 ≤ _), (by decide : 59 + 0 ≤ _)⟩)
  dsimp only [Pt.U, Pt.locs, Pt.cells, Pt.slots] at X19 l19 y19 z19 st19 hQ19
  subst l19 y19 z19
  obtain ⟨rfl, Nq19, eq19⟩ := hQ19
  refine OE.of (fun _ k => st19 _ k) ?_
  have N19 := Fr.app N15 Nq19
  show OE _ p e below s _ _ _ T19 (mkF m 117 #[.val (.ref a1), .val (.int p2), .val (.ref a3), .val (.ref a4), .val (.ref a5)] [(.ref a4), (.ref a1)])
  have f20 : Exa Z h16 a4 "com/example/sigillum/sigillum/card/AccessCondition" := (((f8.ext E6).wr W15).ext E16)
  obtain ⟨T21, X21, e21, st21⟩ := castY X19 hx hZ16 hown16 (hw _ (List.mem_of_getElem? (i := 42) rfl)) eq19 (Ins.self f20) (g := (mkF m 117 #[.val (.ref a1), .val (.int p2), .val (.ref a3), .val (.ref a4), .val (.ref a5)] [(.ref a4), (.ref a1)])) rfl rfl (hb hby own_d2_117)
  refine OE.of st21 ?_
  show OE _ p e below s _ _ _ T21 (mkF m 120 #[.val (.ref a1), .val (.int p2), .val (.ref a3), .val (.ref a4), .val (.ref a5)] [(.ref a4), (.ref a1)])
  have f22 : Exa Z h16 a1 "com/example/sigillum/sigillum/card/ElementaryFile" := ((f13.wr W15).ext E16)
  have f23 : Fld Z h16 a1 "com/example/sigillum/sigillum/card/ElementaryFile" "readCondition" "Lcom/example/sigillum/sigillum/card/AccessCondition;" .null := ((((F_readCondition_a1.other W3 (Or.inr (slot_ne (Or.inr (hw _ (List.mem_of_getElem? (i := 45) rfl))) (Or.inr (hw _ (List.mem_of_getElem? (i := 19) rfl))) (by decide) (t := (.object "com/example/sigillum/sigillum/card/AccessCondition")) (t' := .int) (by decide) (by decide)))).ext E6).other W15 (Or.inr (slot_ne (Or.inr (hw _ (List.mem_of_getElem? (i := 45) rfl))) (Or.inr (hw _ (List.mem_of_getElem? (i := 30) rfl))) (by decide) (t := (.object "com/example/sigillum/sigillum/card/AccessCondition")) (t' := (.array .byte)) (by decide) (by decide)))).ext E16)
  obtain ⟨T24, h24, X24, e24, W24, st24⟩ := putF X21 hx hZ16 hown16 (host := "") (Or.inl (hw _ (List.mem_of_getElem? (i := 44) rfl))) Via.refl e21 f23 f22 (Or.inr ⟨(hw _ (List.mem_of_getElem? (i := 45) rfl)), rfl, hnm⟩) (hw _ (List.mem_of_getElem? (i := 3) rfl)) (ty := (.object "com/example/sigillum/sigillum/card/AccessCondition")) (by decide) rfl rfl (g := (mkF m 120 #[.val (.ref a1), .val (.int p2), .val (.ref a3), .val (.ref a4), .val (.ref a5)] [(.ref a4), (.ref a1)])) rfl rfl (hb hby own_d2_120)
  refine OE.of st24 ?_
  have N24 := Fr.snoc X24 N19 g_a1
  have Fw24 := f23.same W24
  show OE _ p e below s _ _ _ T24 (mkF m 123 #[.val (.ref a1), .val (.int p2), .val (.ref a3), .val (.ref a4), .val (.ref a5)] [])
  refine OE.aloadN X24 hx hby own_d2_123 rfl rfl ?_
  refine OE.aload X24 hx hby own_d2_124 rfl rfl ?_
  have zs26 : k16 ≤ h24.size := (Nat.le_trans hkS16 (Nat.le_of_eq W24.size.symm))
  obtain ⟨sa25, T25, h25, k25, X25, e25, E25, hS25, hkS25, hZ25, hown25, st25⟩ := ldcS (s := s) (vm0 := T16.vm) X24 hx hZ16 hown16 (hw _ (List.mem_of_getElem? (i := 46) rfl)) (own_wS hw) e24 hS16 zs26 (g := (mkF m 126 #[.val (.ref a1), .val (.int p2), .val (.ref a3), .val (.ref a4), .val (.ref a5)] [(.ref a5), (.ref a1)])) rfl (hb hby own_d2_126) (n := 60) (by decide) (by decide) (by decide) (by decide)
  refine OE.of st25 ?_
  show OE _ p e below s _ _ _ T25 (mkF m 128 #[.val (.ref a1), .val (.int p2), .val (.ref a3), .val (.ref a4), .val (.ref a5)] [(.ref sa25), (.ref a5), (.ref a1)])
  have z27 : n0 ≤ h25.size := (Nat.le_trans (Nat.le_trans z18 (Nat.le_of_eq W24.size.symm)) E25.1)
  obtain ⟨_, _, ⟨T28, L28, k28, n28⟩, -, X28, ⟨Lc28, hQ28, l28, y28, z28⟩, st28⟩ := Jvm.LawKit.callS X25 hx (y := (⟨"java/util/Objects", "requireNonNull", "(Ljava/lang/Object;Ljava/lang/String;)Ljava/lang/Object;"⟩ : MethodName)) hown25 (mvT hZ25 (hw _ (List.mem_of_getElem? (i := 38) rfl))) (mvT hZ25 (hw _ (List.mem_of_getElem? (i := 39) rfl))) (mvT hZ25 (hw _ (List.mem_of_getElem? (i := 40) rfl))) (mvT hZ25 (hw _ (List.mem_of_getElem? (i := 41) rfl))) (by decide) (backOf (W := 1) (own_rm4 l Z a0 hw [] a5 sa25 h25 n0 z27 ) hZ25 (hw _ (List.mem_of_getElem? (i := 41) rfl)) (hw _ (List.mem_of_getElem? (i := 40) rfl)) (by decide) (by decide)) (g := (mkF m 128 #[.val (.ref a1), .val (.int p2), .val (.ref a3), .val (.ref a4), .val (.ref a5)] [(.ref sa25), (.ref a5), (.ref a1)])) rfl (by rw [hml]; rfl) (argsL := [(.ref a5), (.ref sa25)]) (rest := [(.ref a1)]) (lenOf own_pd0 rfl) rfl (by show 2 * 0 + _ ≤ _; exact Nat.le_of_eq rfl) (hb hby own_d2_128) (fun _ _ => ⟨rfl, e25, (by decide : 5 + 0 ≤ _), (by decide : 123 + 0 ≤ _)⟩)
  dsimp only [Pt.U, Pt.locs, Pt.cells, Pt.slots] at X28 l28 y28 z28 st28 hQ28
  subst l28 y28 z28
  obtain ⟨rfl, Nq28, eq28⟩ := hQ28
  refine OE.of (fun _ k => st28 _ k) ?_
  have N28 := Fr.app N24 Nq28
  show OE _ p e below s _ _ _ T28 (mkF m 131 #[.val (.ref a1), .val (.int p2), .val (.ref a3), .val (.ref a4), .val (.ref a5)] [(.ref a5), (.ref a1)])
  have f29 : Exa Z h25 a5 "com/example/sigillum/sigillum/card/AccessCondition" := (((((f9.ext E6).wr W15).ext E16).wr W24).ext E25)
  obtain ⟨T30, X30, e30, st30⟩ := castY X28 hx hZ25 hown25 (hw _ (List.mem_of_getElem? (i := 42) rfl)) eq28 (Ins.self f29) (g := (mkF m 131 #[.val (.ref a1), .val (.int p2), .val (.ref a3), .val (.ref a4), .val (.ref a5)] [(.ref a5), (.ref a1)])) rfl rfl (hb hby own_d2_131)
  refine OE.of st30 ?_
  show OE _ p e below s _ _ _ T30 (mkF m 134 #[.val (.ref a1), .val (.int p2), .val (.ref a3), .val (.ref a4), .val (.ref a5)] [(.ref a5), (.ref a1)])
  have f31 : Exa Z h25 a1 "com/example/sigillum/sigillum/card/ElementaryFile" := ((f22.wr W24).ext E25)
  have f32 : Fld Z h25 a1 "com/example/sigillum/sigillum/card/ElementaryFile" "updateCondition" "Lcom/example/sigillum/sigillum/card/AccessCondition;" .null := ((((((F_updateCondition_a1.other W3 (Or.inr (slot_ne (Or.inr (hw _ (List.mem_of_getElem? (i := 48) rfl))) (Or.inr (hw _ (List.mem_of_getElem? (i := 19) rfl))) (by decide) (t := (.object "com/example/sigillum/sigillum/card/AccessCondition")) (t' := .int) (by decide) (by decide)))).ext E6).other W15 (Or.inr (slot_ne (Or.inr (hw _ (List.mem_of_getElem? (i := 48) rfl))) (Or.inr (hw _ (List.mem_of_getElem? (i := 30) rfl))) (by decide) (t := (.object "com/example/sigillum/sigillum/card/AccessCondition")) (t' := (.array .byte)) (by decide) (by decide)))).ext E16).other W24 (Or.inr (slot_ne (Or.inr (hw _ (List.mem_of_getElem? (i := 48) rfl))) (Or.inr (hw _ (List.mem_of_getElem? (i := 45) rfl))) (by decide) (t := (.object "com/example/sigillum/sigillum/card/AccessCondition")) (t' := (.object "com/example/sigillum/sigillum/card/AccessCondition")) (by decide) (by decide)))).ext E25)
  obtain ⟨T33, h33, X33, e33, W33, st33⟩ := putF X30 hx hZ25 hown25 (host := "") (Or.inl (hw _ (List.mem_of_getElem? (i := 47) rfl))) Via.refl e30 f32 f31 (Or.inr ⟨(hw _ (List.mem_of_getElem? (i := 48) rfl)), rfl, hnm⟩) (hw _ (List.mem_of_getElem? (i := 3) rfl)) (ty := (.object "com/example/sigillum/sigillum/card/AccessCondition")) (by decide) rfl rfl (g := (mkF m 134 #[.val (.ref a1), .val (.int p2), .val (.ref a3), .val (.ref a4), .val (.ref a5)] [(.ref a5), (.ref a1)])) rfl rfl (hb hby own_d2_134)
  refine OE.of st33 ?_
  have N33 := Fr.snoc X33 N28 g_a1
  have Fw33 := f32.same W33
  show OE _ p e below s _ _ _ T33 (mkF m 137 #[.val (.ref a1), .val (.int p2), .val (.ref a3), .val (.ref a4), .val (.ref a5)] [])
  have zs34 : k25 ≤ h33.size := (Nat.le_trans hkS25 (Nat.le_of_eq W33.size.symm))
  refine OE.ret0W (s := s) (vm1 := T25.vm) hS25 (by rw [e33]; exact zs34) X33 hx Bd.returns Bd.notSynchronized (hb hby own_d2_137) (by decide) (by decide) ?_
  rw [e33]
  have K35 : Keep h0 h33 [a1] := (Keep.wr (Keep.ext (Keep.wr (Keep.ext (Keep.wr (Keep.ext K11 E6) W15 (Or.inl (List.mem_of_getElem? (i := 0) rfl))) E16) W24 (Or.inl (List.mem_of_getElem? (i := 0) rfl))) E25) W33 (Or.inl (List.mem_of_getElem? (i := 0) rfl)))
  have f36 : Exa Z h33 a1 "com/example/sigillum/sigillum/card/ElementaryFile" := (f31.wr W33)
  have f37 : Fld Z h33 a1 "com/example/sigillum/sigillum/card/ElementaryFile" "fid" "I" (.int p2) := ((((((Fw3.ext E6).other W15 (Or.inr (slot_ne (Or.inr (hw _ (List.mem_of_getElem? (i := 19) rfl))) (Or.inr (hw _ (List.mem_of_getElem? (i := 30) rfl))) (by decide) (t := .int) (t' := (.array .byte)) (by decide) (by decide)))).ext E16).other W24 (Or.inr (slot_ne (Or.inr (hw _ (List.mem_of_getElem? (i := 19) rfl))) (Or.inr (hw _ (List.mem_of_getElem? (i := 45) rfl))) (by decide) (t := .int) (t' := (.object "com/example/sigillum/sigillum/card/AccessCondition")) (by decide) (by decide)))).ext E25).other W33 (Or.inr (slot_ne (Or.inr (hw _ (List.mem_of_getElem? (i := 19) rfl))) (Or.inr (hw _ (List.mem_of_getElem? (i := 48) rfl))) (by decide) (t := .int) (t' := (.object "com/example/sigillum/sigillum/card/AccessCondition")) (by decide) (by decide))))
  exact ⟨rfl, N33, K35, f36, f37⟩
theorem own_d1_0 : decode prog_5_method_1_code 0 = .ok (.aload_n 0, 1) := by decide +kernel
theorem own_d1_1 : decode prog_5_method_1_code 1 = .ok (.iload_n 1, 1) := by decide +kernel
theorem own_d1_2 : decode prog_5_method_1_code 2 = .ok (.aload_n 2, 1) := by decide +kernel
theorem own_d1_3 : decode prog_5_method_1_code 3 = .ok (.getstatic 1, 3) := by decide +kernel
theorem own_d1_6 : decode prog_5_method_1_code 6 = .ok (.getstatic 1, 3) := by decide +kernel
theorem own_d1_9 : decode prog_5_method_1_code 9 = .ok (.invokespecial 7, 3) := by decide +kernel
theorem own_pd1 : parseMethodDescriptor "(I[BLcom/example/sigillum/sigillum/card/AccessCondition;Lcom/example/sigillum/sigillum/card/AccessCondition;)V" = some ⟨[.int, (.array .byte), (.object "com/example/sigillum/sigillum/card/AccessCondition"), (.object "com/example/sigillum/sigillum/card/AccessCondition")], none⟩ := by decide +kernel
theorem own_d1_12 : decode prog_5_method_1_code 12 = .ok (.return_, 1) := by decide +kernel
def own_Q1 (Z : State) (a1 : Addr) (p2 : Int32) (a3 : Addr) (k_a3 : ClassId) (n_a3 : Int32) (vs_a3 : List Value) (aA : Addr) (h0 : Heap) (n0 : Nat) (v : Option Value) (h : Heap) (L : List Loc) : Prop := v = none ∧ Fr n0 L ∧ Keep h0 h [a1] ∧ Exa Z h a1 "com/example/sigillum/sigillum/card/ElementaryFile" ∧ Fld Z h a1 "com/example/sigillum/sigillum/card/ElementaryFile" "fid" "I" (.int p2)
theorem own_ef_own_rm1 (m : MethodId) (a1 : Addr) (p2 : Int32) (a3 : Addr) : entryFrame m #[(.ref a1), (.int p2), (.ref a3)] 3 = mkF m 0 #[.val (.ref a1), .val (.int p2), .val (.ref a3)] [] := by first | (simp [entryFrame, mkF, argsToLocals, Value.category]; done) | rfl
set_option maxRecDepth 65536 in
set_option maxHeartbeats 40000000 in
theorem own_rm1 (l : Launch) (Z : State) (a0 : Array Value) (hw : ∀ d ∈ tables_1, d.before a0 Z = true) (ws : List Jvm.Cond) (a1 : Addr) (p2 : Int32) (a3 : Addr) (k_a3 : ClassId) (n_a3 : Int32) (vs_a3 : List Value) (aA : Addr) (h0 : Heap) (n0 : Nat) (Z0 : n0 ≤ h0.size) (E_a1 : Exa Z h0 a1 "com/example/sigillum/sigillum/card/ElementaryFile") (F_fid_a1 : Fld Z h0 a1 "com/example/sigillum/sigillum/card/ElementaryFile" "fid" "I" (.int (0 : Int32))) (F_content_a1 : Fld Z h0 a1 "com/example/sigillum/sigillum/card/ElementaryFile" "content" "[B" .null) (F_readCondition_a1 : Fld Z h0 a1 "com/example/sigillum/sigillum/card/ElementaryFile" "readCondition" "Lcom/example/sigillum/sigillum/card/AccessCondition;" .null) (F_updateCondition_a1 : Fld Z h0 a1 "com/example/sigillum/sigillum/card/ElementaryFile" "updateCondition" "Lcom/example/sigillum/sigillum/card/AccessCondition;" .null) (V_a3 : Arv Z h0 a3 k_a3 .byte n_a3 vs_a3 (.int (0 : Int32))) (E_a3 : Exa Z h0 a3 "[B") (g_a1 : n0 ≤ a1) (ne_a3_a1 : a3 ≠ a1) (hp0 : ¬ p2 < (0 : Int32)) (hp1 : ¬ (65535 : Int32) < p2) (h1 : ¬ p2 = (16128 : Int32)) (h2 : ¬ p2 = (16383 : Int32)) (h3 : ¬ p2 = (65535 : Int32)) (hn : ¬ (65535 : Int32) < n_a3) (hcap : n_a3.toNatClampNeg ≤ 3) (S_A : Sta Z h0 "com/example/sigillum/sigillum/card/AccessCondition" "ALWAYS" "Lcom/example/sigillum/sigillum/card/AccessCondition;" (.ref aA)) (E_aA : Exa Z h0 aA "com/example/sigillum/sigillum/card/AccessCondition") :
    MetFree l (⟨"com/example/sigillum/sigillum/card/ElementaryFile", "<init>", "(I[B)V"⟩ : MethodName) (head1 (Jvm.Cond.code (⟨"com/example/sigillum/sigillum/card/ElementaryFile", "<init>", "(I[B)V"⟩ : MethodName) prog_5_method_1_code 3 none :: ws) ({ frames := 2, cells := 5, slots := 123, locals := 31 } : Room)) (fun a U => a = #[(.ref a1), (.int p2), (.ref a3)] ∧ Z.Warmed39 U.vm ∧ U.heap = h0) (fun _ _ _ _ _ => True) (fun _ U o U' => ∃ v L, o = .returned v ∧ own_Q1 Z a1 p2 a3 k_a3 n_a3 vs_a3 aA h0 n0 v U'.heap L ∧ ReturnedEndW U o U' L ({ frames := 2, cells := 5, slots := 123, locals := 31 } : Room).cells ({ frames := 2, cells := 5, slots := 123, locals := 31 } : Room).slots) := by
  refine MetFree.of_bodySF (plainFor_of_name own_pn1) hisR ?_
  intro p e s m args below meth c s₁ Bd hml0 hP hK
  obtain ⟨rfl, hZ, hh⟩ := hP
  have hx := Bd.exec
  have hby := Bd.bytes
  have hml : c.maxLocals = 3 := hml0
  have hown : s.vm.findClass "com/example/sigillum/sigillum/card/ElementaryFile" = some m.cls := findClass_of_methodNamed Bd.named
  have hnm := (name_of_methodNamed Bd.named Bd.method).1
  have X0 : Stand p l e ({ frames := 2, cells := 5, slots := 123, locals := 31 } : Room) s m #[(.ref a1), (.int p2), (.ref a3)] below meth c s₁ [] 0 0 := Stand.of_body Bd
  have e0 : s₁.heap = h0 := by rw [← hh, Bd.state]; rfl
  have N0 := Fr.nil n0
  have hS0 : s.Since s.vm 0 := (State.WarmedH.refl s).since 0
  show OE ReturnedEndW p e below s (own_Q1 Z a1 p2 a3 k_a3 n_a3 vs_a3 aA h0 n0) ({ frames := 2, cells := 5, slots := 123, locals := 31 } : Room).cells ({ frames := 2, cells := 5, slots := 123, locals := 31 } : Room).slots s₁ (entryFrame m #[(.ref a1), (.int p2), (.ref a3)] 3)
  rw [own_ef_own_rm1]
  show OE _ p e below s _ _ _ s₁ (mkF m 0 #[.val (.ref a1), .val (.int p2), .val (.ref a3)] [])
  refine OE.aloadN X0 hx hby own_d1_0 rfl rfl ?_
  refine OE.iloadN X0 hx hby own_d1_1 rfl ?_
  refine OE.aloadN X0 hx hby own_d1_2 rfl rfl ?_
  obtain ⟨T1, X1, e1, st1⟩ := getS2 X0 hx hZ hown (host := "") (Or.inl (hw _ (List.mem_of_getElem? (i := 8) rfl))) Via.refl e0 S_A (g := (mkF m 3 #[.val (.ref a1), .val (.int p2), .val (.ref a3)] [(.ref a3), (.int p2), (.ref a1)])) rfl (hb hby own_d1_3)
  refine OE.of st1 ?_
  show OE _ p e below s _ _ _ T1 (mkF m 6 #[.val (.ref a1), .val (.int p2), .val (.ref a3)] [(.ref aA), (.ref a3), (.int p2), (.ref a1)])
  obtain ⟨T2, X2, e2, st2⟩ := getS2 X1 hx hZ hown (host := "") (Or.inl (hw _ (List.mem_of_getElem? (i := 8) rfl))) Via.refl e1 S_A (g := (mkF m 6 #[.val (.ref a1), .val (.int p2), .val (.ref a3)] [(.ref aA), (.ref a3), (.int p2), (.ref a1)])) rfl (hb hby own_d1_6)
  refine OE.of st2 ?_
  show OE _ p e below s _ _ _ T2 (mkF m 9 #[.val (.ref a1), .val (.int p2), .val (.ref a3)] [(.ref aA), (.ref aA), (.ref a3), (.int p2), (.ref a1)])
  obtain ⟨_, _, ⟨T3, L3, k3, n3⟩, -, X3, hs3, hgr3, ⟨Lc3, hQ3, l3, y3, z3⟩, st3⟩ := X2.specialBackS hx (y := (⟨"com/example/sigillum/sigillum/card/ElementaryFile", "<init>", "(I[BLcom/example/sigillum/sigillum/card/AccessCondition;Lcom/example/sigillum/sigillum/card/AccessCondition;)V"⟩ : MethodName)) rfl hown (mvT hZ (hw _ (List.mem_of_getElem? (i := 11) rfl))) (mvT hZ (hw _ (List.mem_of_getElem? (i := 12) rfl))) (mvT hZ (hw _ (List.mem_of_getElem? (i := 13) rfl))) (by decide) (backOfS (W := 0) (own_rm2 l Z a0 hw [] a1 p2 a3 aA aA k_a3 n_a3 vs_a3 h0 n0 Z0 E_a1 F_fid_a1 F_content_a1 F_readCondition_a1 F_updateCondition_a1 V_a3 E_a3 g_a1 ne_a3_a1 hp0 hp1 h1 h2 h3 hn hcap E_aA E_aA) hZ (hw _ (List.mem_of_getElem? (i := 13) rfl)) (hw _ (List.mem_of_getElem? (i := 4) rfl)) (by decide) (by decide)) (g := (mkF m 9 #[.val (.ref a1), .val (.int p2), .val (.ref a3)] [(.ref aA), (.ref aA), (.ref a3), (.int p2), (.ref a1)])) rfl (by rw [hml]; rfl) (Steps.refl _) (a := a1) (argsL := [(.int p2), (.ref a3), (.ref aA), (.ref aA)]) (rest := []) (lenOf own_pd1 rfl) rfl (by show 2 * 0 + _ ≤ _; exact Nat.le_of_eq rfl) (hb hby own_d1_9) (fun _ _ => ⟨rfl, e2, (by decide : 0 + 5 ≤ _), (by decide : 0 + 123 ≤ _)⟩)
  dsimp only [Pt.U, Pt.locs, Pt.cells, Pt.slots] at X3 l3 y3 z3 st3 hQ3
  subst l3 y3 z3
  obtain ⟨Y3, hS3, hZ3, hown3⟩ := rebS (s := s) (vm0 := s.vm) (vm1 := T3.vm) hS0 (by rw [e2]; exact (Nat.zero_le _)) X3 hs3 hgr3 hZ hown
  obtain ⟨rfl, Nq3, K3, q3_0, q3_1⟩ := hQ3
  refine OE.of (fun _ k => st3.trans k) ?_
  have N3 := Fr.app N0 Nq3
  show OE _ p e below s _ _ _ T3 (mkF m 12 #[.val (.ref a1), .val (.int p2), .val (.ref a3)] [])
  refine OE.ret0W (s := s) (vm1 := T3.vm) hS3 (Nat.le_refl _) Y3 hx Bd.returns Bd.notSynchronized (hb hby own_d1_12) (by decide) (by decide) ?_
  have K4 : Keep h0 T3.heap [a1] := (Keep.trans (Keep.refl h0 [a1]) K3 (allS (Or.inl (List.mem_of_getElem? (i := 0) rfl)) all0))
  exact ⟨rfl, N3, K4, q3_0, q3_1⟩
theorem own_d5_0 : decode prog_5_method_4_code 0 = .ok (.aload_n 0, 1) := by decide +kernel
theorem own_d5_1 : decode prog_5_method_4_code 1 = .ok (.getfield 43, 3) := by decide +kernel
theorem own_d5_4 : decode prog_5_method_4_code 4 = .ok (.bipush 31, 2) := by decide +kernel
theorem own_d5_6 : decode prog_5_method_4_code 6 = .ok (.iand, 1) := by decide +kernel
theorem own_d5_7 : decode prog_5_method_4_code 7 = .ok (.istore_n 1, 1) := by decide +kernel
theorem own_d5_8 : decode prog_5_method_4_code 8 = .ok (.iload_n 1, 1) := by decide +kernel
theorem own_d5_9 : decode prog_5_method_4_code 9 = .ok (.bipush 31, 2) := by decide +kernel
theorem own_d5_11 : decode prog_5_method_4_code 11 = .ok (.if_icmp .ne 7, 3) := by decide +kernel
theorem own_d5_14 : decode prog_5_method_4_code 14 = .ok (.iconst 0, 1) := by decide +kernel
theorem own_d5_15 : decode prog_5_method_4_code 15 = .ok (.goto 4, 3) := by decide +kernel
theorem own_d5_19 : decode prog_5_method_4_code 19 = .ok (.ireturn, 1) := by decide +kernel
theorem own_d5_18 : decode prog_5_method_4_code 18 = .ok (.iload_n 1, 1) := by decide +kernel
def own_Q5 (Z : State) (a1 : Addr) (w_fid_a1 : Int32) (h0 : Heap) (n0 : Nat) (v : Option Value) (h : Heap) (L : List Loc) : Prop := v = some (.int (if (w_fid_a1 &&& (31 : Int32)) = (31 : Int32) then (0 : Int32) else (w_fid_a1 &&& (31 : Int32)))) ∧ Fr n0 L ∧ h = h0
theorem own_ef_own_rm5 (m : MethodId) (a1 : Addr) : entryFrame m #[(.ref a1)] 2 = mkF m 0 #[.val (.ref a1), .unset] [] := by first | (simp [entryFrame, mkF, argsToLocals, Value.category]; done) | rfl
set_option maxRecDepth 65536 in
set_option maxHeartbeats 40000000 in
theorem own_rm5 (l : Launch) (Z : State) (a0 : Array Value) (hw : ∀ d ∈ tables_1, d.before a0 Z = true) (ws : List Jvm.Cond) (a1 : Addr) (w_fid_a1 : Int32) (h0 : Heap) (n0 : Nat) (Z0 : n0 ≤ h0.size) (F_fid_a1 : Fld Z h0 a1 "com/example/sigillum/sigillum/card/ElementaryFile" "fid" "I" (.int w_fid_a1)) :
    MetFree l (⟨"com/example/sigillum/sigillum/card/ElementaryFile", "sfi", "()I"⟩ : MethodName) (head1 (Jvm.Cond.code (⟨"com/example/sigillum/sigillum/card/ElementaryFile", "sfi", "()I"⟩ : MethodName) prog_5_method_4_code 2 (some .int) :: ws) ({ frames := 0, cells := 0, slots := 0, locals := 0 } : Room)) (fun a U => a = #[(.ref a1)] ∧ Z.Warmed39 U.vm ∧ U.heap = h0) (fun _ _ _ _ _ => True) (fun _ U o U' => ∃ v L, o = .returned v ∧ own_Q5 Z a1 w_fid_a1 h0 n0 v U'.heap L ∧ FrameEnd U o U' L ({ frames := 0, cells := 0, slots := 0, locals := 0 } : Room).cells ({ frames := 0, cells := 0, slots := 0, locals := 0 } : Room).slots) := by
  refine MetFree.of_bodySF (plainFor_of_name own_pn1) hisR ?_
  intro p e s m args below meth c s₁ Bd hml0 hP hK
  obtain ⟨rfl, hZ, hh⟩ := hP
  have hx := Bd.exec
  have hby := Bd.bytes
  have hml : c.maxLocals = 2 := hml0
  have hown : s.vm.findClass "com/example/sigillum/sigillum/card/ElementaryFile" = some m.cls := findClass_of_methodNamed Bd.named
  have hnm := (name_of_methodNamed Bd.named Bd.method).1
  have X0 : Stand p l e ({ frames := 0, cells := 0, slots := 0, locals := 0 } : Room) s m #[(.ref a1)] below meth c s₁ [] 0 0 := Stand.of_body Bd
  have e0 : s₁.heap = h0 := by rw [← hh, Bd.state]; rfl
  have N0 := Fr.nil n0
  show OE FrameEnd p e below s (own_Q5 Z a1 w_fid_a1 h0 n0) ({ frames := 0, cells := 0, slots := 0, locals := 0 } : Room).cells ({ frames := 0, cells := 0, slots := 0, locals := 0 } : Room).slots s₁ (entryFrame m #[(.ref a1)] 2)
  rw [own_ef_own_rm5]
  show OE _ p e below s _ _ _ s₁ (mkF m 0 #[.val (.ref a1), .unset] [])
  refine OE.aloadN X0 hx hby own_d5_0 rfl rfl ?_
  obtain ⟨T1, X1, e1, st1⟩ := getF X0 hx hZ hown (host := "") (Or.inl (hw _ (List.mem_of_getElem? (i := 18) rfl))) Via.refl e0 F_fid_a1 (g := (mkF m 1 #[.val (.ref a1), .unset] [(.ref a1)])) rfl rfl (hb hby own_d5_1)
  refine OE.of st1 ?_
  show OE _ p e below s _ _ _ T1 (mkF m 4 #[.val (.ref a1), .unset] [(.int w_fid_a1)])
  refine OE.bipush X1 hx hby own_d5_4 (31 : Int32) rfl ?_
  refine OE.iand X1 hx hby own_d5_6 ?_
  refine OE.istoreN X1 hx hby own_d5_7 (l' := #[.val (.ref a1), .val (.int (w_fid_a1 &&& (31 : Int32)))]) rfl ?_
  refine OE.iloadN X1 hx hby own_d5_8 rfl ?_
  refine OE.bipush X1 hx hby own_d5_9 (31 : Int32) rfl ?_
  by_cases hc11 : (w_fid_a1 &&& (31 : Int32)) = (31 : Int32)
  · skip
    refine OE.icmpNo X1 hx hby own_d5_11 (teq hc11).2 ?_
    refine OE.iconst X1 hx hby own_d5_14 (0 : Int32) rfl ?_
    refine OE.goto X1 hx hby (pc' := 19) own_d5_15 (h := ?_)
    refine OE.retI X1 hx Bd.returns Bd.notSynchronized (hb hby own_d5_19) (by decide) (by decide) ?_
    rw [e1]
    exact ⟨(congrArg (fun z => some (Value.int z)) (show (0 : Int32) = (if (w_fid_a1 &&& (31 : Int32)) = (31 : Int32) then (0 : Int32) else (w_fid_a1 &&& (31 : Int32))) from by rw [if_pos hc11])), N0, rfl⟩
  · skip
    refine OE.icmpYes X1 hx hby (pc' := 18) own_d5_11 (feq hc11).2 (h := ?_)
    refine OE.iloadN X1 hx hby own_d5_18 rfl ?_
    refine OE.retI X1 hx Bd.returns Bd.notSynchronized (hb hby own_d5_19) (by decide) (by decide) ?_
    rw [e1]
    exact ⟨(congrArg (fun z => some (Value.int z)) (show (w_fid_a1 &&& (31 : Int32)) = (if (w_fid_a1 &&& (31 : Int32)) = (31 : Int32) then (0 : Int32) else (w_fid_a1 &&& (31 : Int32))) from by rw [if_neg hc11])), N0, rfl⟩
theorem own_f (x : Int32) : ¬ (x &&& (65535 : Int32)) < 0 ∧ ¬ (65535 : Int32) < (x &&& (65535 : Int32)) ∧ (x &&& (65535 : Int32)) % (32 : Int32) = (x &&& (65535 : Int32)) &&& (31 : Int32) := by
  have hv := c_and x 65535 (by decide)
  generalize (x &&& (65535 : Int32)) = v at *
  have h1 : (65535 : Int32).toInt = 65535 := by decide
  have h0 : (0 : Int32).toInt = 0 := by decide
  rw [h1] at hv
  refine ⟨?_, ?_, ?_⟩
  · rw [Int32.lt_iff_toInt_lt]; omega
  · rw [Int32.lt_iff_toInt_lt]; omega
  · apply Int32.toInt_inj.mp
    have h2 := (c_irem v 32 32 (by decide)).1 hv.1
    have m1 := c_mask v 31 5 (by decide) (by decide)
    rw [h2, m1]; rfl
theorem own_q (x : Int32) : ¬ (x &&& (31 : Int32)) < 0 ∧ (¬ (x &&& (31 : Int32)) = 31 → ¬ (30 : Int32) < (x &&& (31 : Int32))) := by
  have hv := c_and x 31 (by decide)
  generalize (x &&& (31 : Int32)) = v at *
  have h1 : (31 : Int32).toInt = 31 := by decide
  have h2 : (30 : Int32).toInt = 30 := by decide
  have h0 : (0 : Int32).toInt = 0 := by decide
  rw [h1] at hv
  refine ⟨?_, fun hne => ?_⟩
  · rw [Int32.lt_iff_toInt_lt]; omega
  · rw [Int32.lt_iff_toInt_lt]
    have : v.toInt ≠ (31 : Int32).toInt := fun q => hne (Int32.toInt_inj.mp q)
    omega
theorem own_n (x : Int32) : ¬ (x &&& (3 : Int32)) < 0 ∧ (x &&& (3 : Int32)).toNatClampNeg ≤ 3 ∧ ¬ (65535 : Int32) < (x &&& (3 : Int32)) := by
  have hv := c_and x 3 (by decide)
  generalize (x &&& (3 : Int32)) = v at *
  have h1 : (3 : Int32).toInt = 3 := by decide
  have h2 : (65535 : Int32).toInt = 65535 := by decide
  have h0 : (0 : Int32).toInt = 0 := by decide
  rw [h1] at hv
  refine ⟨?_, ?_, ?_⟩
  · rw [Int32.lt_iff_toInt_lt]; omega
  · simp only [Int32.toNatClampNeg]; omega
  · rw [Int32.lt_iff_toInt_lt]; omega
theorem own_pd2 : parseMethodDescriptor "(I[B)V" = some ⟨[.int, (.array .byte)], none⟩ := by decide +kernel
theorem own_pd3 : parseMethodDescriptor "()I" = some ⟨[], some .int⟩ := by decide +kernel
def own_Q0 (Z : State) (p1 : Int32) (p2 : Int32) (aA : Addr) (h0 : Heap) (n0 : Nat) (v : Option Value) (h : Heap) (L : List Loc) : Prop := v = some (.int (1 : Int32)) ∧ Fr n0 L
theorem own_pn2 : plainName "com/example/sigillum/sigillum/card/ElementaryFileSfiPinLaw" = true := by first | (simp [plainName, overriddenIn]; done) | decide +kernel
theorem own_ef_own_rm0 (m : MethodId) (p1 : Int32) (p2 : Int32) : entryFrame m #[(.int p1), (.int p2)] maxLocals = mkF m 0 #[.val (.int p1), .val (.int p2), .unset, .unset, .unset, .unset, .unset] [] := by first | (simp [entryFrame, mkF, argsToLocals, Value.category, maxLocals]; done) | rfl
set_option maxRecDepth 65536 in
set_option maxHeartbeats 40000000 in
theorem own_rm0 (l : Launch) (Z : State) (a0 : Array Value) (hw : ∀ d ∈ tables_1, d.before a0 Z = true) (ws : List Jvm.Cond) (p1 : Int32) (p2 : Int32) (aA : Addr) (h0 : Heap) (n0 : Nat) (Z0 : n0 ≤ h0.size) (S_A : Sta Z h0 "com/example/sigillum/sigillum/card/AccessCondition" "ALWAYS" "Lcom/example/sigillum/sigillum/card/AccessCondition;" (.ref aA)) (E_aA : Exa Z h0 aA "com/example/sigillum/sigillum/card/AccessCondition") :
    MetFree l x (head1 (Jvm.Cond.code x code maxLocals ret :: ws) room_1) (fun a U => a = #[(.int p1), (.int p2)] ∧ Z.Warmed39 U.vm ∧ U.heap = h0) (fun _ _ _ _ _ => True) (fun _ U o U' => ∃ v L, o = .returned v ∧ own_Q0 Z p1 p2 aA h0 n0 v U'.heap L ∧ ReturnedEndW U o U' L room_1.cells room_1.slots) := by
  refine MetFree.of_bodySF (plainFor_of_name own_pn2) hisR ?_
  intro p e s m args below meth c s₁ Bd hml0 hP hK
  obtain ⟨rfl, hZ, hh⟩ := hP
  have hx := Bd.exec
  have hby := Bd.bytes
  have hml : c.maxLocals = 7 := hml0
  have hown : s.vm.findClass "com/example/sigillum/sigillum/card/ElementaryFileSfiPinLaw" = some m.cls := findClass_of_methodNamed Bd.named
  have hnm := (name_of_methodNamed Bd.named Bd.method).1
  have X0 : Stand p l e room_1 s m #[(.int p1), (.int p2)] below meth c s₁ [] 0 0 := Stand.of_body Bd
  have e0 : s₁.heap = h0 := by rw [← hh, Bd.state]; rfl
  have N0 := Fr.nil n0
  have hS0 : s.Since s.vm 0 := (State.WarmedH.refl s).since 0
  show OE ReturnedEndW p e below s (own_Q0 Z p1 p2 aA h0 n0) room_1.cells room_1.slots s₁ (entryFrame m #[(.int p1), (.int p2)] maxLocals)
  rw [own_ef_own_rm0]
  show OE _ p e below s _ _ _ s₁ (mkF m 0 #[.val (.int p1), .val (.int p2), .unset, .unset, .unset, .unset, .unset] [])
  refine OE.iloadN X0 hx hby at_0 rfl ?_
  refine OE.of (X0.ldcInt hx hown (mvT hZ (hw _ (List.mem_of_getElem? (i := 0) rfl))) (g := (mkF m 1 #[.val (.int p1), .val (.int p2), .unset, .unset, .unset, .unset, .unset] [(.int p1)])) rfl (hb hby at_1)) ?_
  show OE _ p e below s _ _ _ s₁ (mkF m 3 #[.val (.int p1), .val (.int p2), .unset, .unset, .unset, .unset, .unset] [(.int (65535 : Int32)), (.int p1)])
  refine OE.iand X0 hx hby at_3 ?_
  have hf := own_f p1
  obtain ⟨f, e_f⟩ : ∃ z, z = (p1 &&& (65535 : Int32)) := ⟨_, rfl⟩
  rw [← e_f]
  rw [← e_f] at hf
  show OE _ p e below s _ _ _ s₁ (mkF m 4 #[.val (.int p1), .val (.int p2), .unset, .unset, .unset, .unset, .unset] [(.int f)])
  refine OE.istoreN X0 hx hby at_4 (l' := #[.val (.int p1), .val (.int p2), .val (.int f), .unset, .unset, .unset, .unset]) rfl ?_
  refine OE.iloadN X0 hx hby at_5 rfl ?_
  refine OE.sipush X0 hx hby at_6 (16128 : Int32) rfl ?_
  by_cases hc9 : f = (16128 : Int32)
  · skip
    refine OE.icmpYes X0 hx hby (pc' := 25) at_9 (teq hc9).1 (h := ?_)
    refine OE.iconst X0 hx hby at_25 (1 : Int32) rfl ?_
    refine OE.retNW (s := s) (vm1 := s.vm) hS0 (by rw [e0]; exact (Nat.zero_le _)) X0 hx (t := .boolean) Bd.returns (by simp) Bd.notSynchronized (hb hby at_26) (by decide) (by decide) ?_
    rw [e0]
    exact ⟨rfl, N0⟩
  · skip
    refine OE.icmpNo X0 hx hby at_9 (feq hc9).1 ?_
    refine OE.iloadN X0 hx hby at_12 rfl ?_
    refine OE.sipush X0 hx hby at_13 (16383 : Int32) rfl ?_
    by_cases hc16 : f = (16383 : Int32)
    · skip
      refine OE.icmpYes X0 hx hby (pc' := 25) at_16 (teq hc16).1 (h := ?_)
      refine OE.iconst X0 hx hby at_25 (1 : Int32) rfl ?_
      refine OE.retNW (s := s) (vm1 := s.vm) hS0 (by rw [e0]; exact (Nat.zero_le _)) X0 hx (t := .boolean) Bd.returns (by simp) Bd.notSynchronized (hb hby at_26) (by decide) (by decide) ?_
      rw [e0]
      exact ⟨rfl, N0⟩
    · skip
      refine OE.icmpNo X0 hx hby at_16 (feq hc16).1 ?_
      refine OE.iloadN X0 hx hby at_19 rfl ?_
      refine OE.of (X0.ldcInt hx hown (mvT hZ (hw _ (List.mem_of_getElem? (i := 0) rfl))) (g := (mkF m 20 #[.val (.int p1), .val (.int p2), .val (.int f), .unset, .unset, .unset, .unset] [(.int f)])) rfl (hb hby at_20)) ?_
      show OE _ p e below s _ _ _ s₁ (mkF m 22 #[.val (.int p1), .val (.int p2), .val (.int f), .unset, .unset, .unset, .unset] [(.int (65535 : Int32)), (.int f)])
      by_cases hc22 : f = (65535 : Int32)
      · skip
        refine OE.icmpNo X0 hx hby at_22 (teq hc22).2 ?_
        refine OE.iconst X0 hx hby at_25 (1 : Int32) rfl ?_
        refine OE.retNW (s := s) (vm1 := s.vm) hS0 (by rw [e0]; exact (Nat.zero_le _)) X0 hx (t := .boolean) Bd.returns (by simp) Bd.notSynchronized (hb hby at_26) (by decide) (by decide) ?_
        rw [e0]
        exact ⟨rfl, N0⟩
      · skip
        refine OE.icmpYes X0 hx hby (pc' := 27) at_22 (feq hc22).2 (h := ?_)
        refine OE.iloadN X0 hx hby at_27 rfl ?_
        refine OE.iconst X0 hx hby at_28 (3 : Int32) rfl ?_
        refine OE.iand X0 hx hby at_29 ?_
        obtain ⟨T1, h1, k1, X1, e1, E1, A1, B1, st1⟩ := newPE X0 hx hZ (hw _ (List.mem_of_getElem? (i := 1) rfl)) e0 (g := (mkF m 30 #[.val (.int p1), .val (.int p2), .val (.int f), .unset, .unset, .unset, .unset] [(.int (p2 &&& (3 : Int32)))])) rfl (hb hby at_30) rfl (own_n p2).1 (cap := 3) (own_n p2).2.1 (by decide) (by decide) (by decide) (ad := "[B") (by decide)
        refine OE.of st1 ?_
        obtain ⟨b1, g1⟩ : ∃ z, z = h0.size := ⟨_, rfl⟩
        rw [← g1] at A1 B1 ⊢
        have ne_aA_b1 : aA ≠ b1 := Nat.ne_of_lt (Nat.lt_of_lt_of_le E_aA.lt (Nat.le_of_eq g1.symm))
        have g_b1 : n0 ≤ b1 := Nat.le_trans Z0 (Nat.le_of_eq g1.symm)
        have sz_b1 : h0.size ≤ b1 := Nat.le_trans (Keep.refl h0 []).1 (Nat.le_of_eq g1.symm)
        have V1 : Arv Z h1 b1 k1 .byte (p2 &&& (3 : Int32)) [] (.int (0 : Int32)) := Arv.new A1 (own_n p2).1
        show OE _ p e below s _ _ _ T1 (mkF m 32 #[.val (.int p1), .val (.int p2), .val (.int f), .unset, .unset, .unset, .unset] [(.ref b1)])
        refine OE.astoreN X1 hx hby at_32 rfl (l' := #[.val (.int p1), .val (.int p2), .val (.int f), .val (.ref b1), .unset, .unset, .unset]) rfl ?_
        obtain ⟨T2, h2, X2, e2, E2, A2, D2, -, st2⟩ := newO X1 hx hZ hown (hw _ (List.mem_of_getElem? (i := 2) rfl)) (hw _ (List.mem_of_getElem? (i := 3) rfl)) (hw _ (List.mem_of_getElem? (i := 4) rfl)) e1 (g := (mkF m 33 #[.val (.int p1), .val (.int p2), .val (.int f), .val (.ref b1), .unset, .unset, .unset] [])) rfl (hb hby at_33) (by decide) (by decide)
        refine OE.of st2 ?_
        obtain ⟨b2, g2⟩ : ∃ z, z = h1.size := ⟨_, rfl⟩
        rw [← g2] at A2 D2 ⊢
        have f3 : Exa Z h1 aA "com/example/sigillum/sigillum/card/AccessCondition" := (E_aA.ext E1)
        have ne_aA_b2 : aA ≠ b2 := Nat.ne_of_lt (Nat.lt_of_lt_of_le f3.lt (Nat.le_of_eq g2.symm))
        have ne_b1_b2 : b1 ≠ b2 := Nat.ne_of_lt (Nat.lt_of_lt_of_le V1.lt (Nat.le_of_eq g2.symm))
        have z4 : n0 ≤ h1.size := (Nat.le_trans Z0 E1.1)
        have g_b2 : n0 ≤ b2 := Nat.le_trans z4 (Nat.le_of_eq g2.symm)
        have K5 : Keep h0 h1 [] := (Keep.ext (Keep.refl h0 []) E1)
        have sz_b2 : h0.size ≤ b2 := Nat.le_trans K5.1 (Nat.le_of_eq g2.symm)
        have F2_fid : Fld Z h2 b2 "com/example/sigillum/sigillum/card/ElementaryFile" "fid" "I" (.int (0 : Int32)) := D2 (Or.inr (hw _ (List.mem_of_getElem? (i := 19) rfl))) (ty := .int) (by decide)
        have F2_content : Fld Z h2 b2 "com/example/sigillum/sigillum/card/ElementaryFile" "content" "[B" .null := D2 (Or.inr (hw _ (List.mem_of_getElem? (i := 30) rfl))) (ty := (.array .byte)) (by decide)
        have F2_readCondition : Fld Z h2 b2 "com/example/sigillum/sigillum/card/ElementaryFile" "readCondition" "Lcom/example/sigillum/sigillum/card/AccessCondition;" .null := D2 (Or.inr (hw _ (List.mem_of_getElem? (i := 45) rfl))) (ty := (.object "com/example/sigillum/sigillum/card/AccessCondition")) (by decide)
        have F2_updateCondition : Fld Z h2 b2 "com/example/sigillum/sigillum/card/ElementaryFile" "updateCondition" "Lcom/example/sigillum/sigillum/card/AccessCondition;" .null := D2 (Or.inr (hw _ (List.mem_of_getElem? (i := 48) rfl))) (ty := (.object "com/example/sigillum/sigillum/card/AccessCondition")) (by decide)
        show OE _ p e below s _ _ _ T2 (mkF m 36 #[.val (.int p1), .val (.int p2), .val (.int f), .val (.ref b1), .unset, .unset, .unset] [(.ref b2)])
        refine OE.dup X2 hx hby at_36 rfl ?_
        refine OE.iloadN X2 hx hby at_37 rfl ?_
        refine OE.aloadN X2 hx hby at_38 rfl rfl ?_
        have f6 : Arv Z h2 b1 k1 .byte (p2 &&& (3 : Int32)) [] (.int (0 : Int32)) := (V1.ext E2)
        have f7 : Exa Z h2 b1 "[B" := (B1.ext E2)
        have f8 : Sta Z h2 "com/example/sigillum/sigillum/card/AccessCondition" "ALWAYS" "Lcom/example/sigillum/sigillum/card/AccessCondition;" (.ref aA) := ((S_A.ext E1).ext E2)
        have f9 : Exa Z h2 aA "com/example/sigillum/sigillum/card/AccessCondition" := (f3.ext E2)
        have z10 : n0 ≤ h2.size := (Nat.le_trans z4 E2.1)
        obtain ⟨_, _, ⟨T11, L11, k11, n11⟩, -, X11, hs11, hgr11, ⟨Lc11, hQ11, l11, y11, z11⟩, st11⟩ := X2.specialBackS hx (y := (⟨"com/example/sigillum/sigillum/card/ElementaryFile", "<init>", "(I[B)V"⟩ : MethodName)) rfl hown (mvT hZ (hw _ (List.mem_of_getElem? (i := 5) rfl))) (mvT hZ (hw _ (List.mem_of_getElem? (i := 6) rfl))) (mvT hZ (hw _ (List.mem_of_getElem? (i := 7) rfl))) (by decide) (backOfS (W := 1) (own_rm1 l Z a0 hw [] b2 f b1 k1 (p2 &&& (3 : Int32)) [] aA h2 n0 z10 A2 F2_fid F2_content F2_readCondition F2_updateCondition f6 f7 g_b2 ne_b1_b2 hf.1 hf.2.1 hc9 hc16 hc22 (own_n p2).2.2 (own_n p2).2.1 f8 f9) hZ (hw _ (List.mem_of_getElem? (i := 7) rfl)) (hw _ (List.mem_of_getElem? (i := 4) rfl)) (by decide) (by decide)) (g := (mkF m 39 #[.val (.int p1), .val (.int p2), .val (.int f), .val (.ref b1), .unset, .unset, .unset] [(.ref b1), (.int f), (.ref b2), (.ref b2)])) rfl (by rw [hml]; rfl) (Steps.refl _) (a := b2) (argsL := [(.int f), (.ref b1)]) (rest := [(.ref b2)]) (lenOf own_pd2 rfl) rfl (by show 2 * 0 + _ ≤ _; exact Nat.le_of_eq rfl) (hb hby at_39) (fun _ _ => ⟨rfl, e2, (by decide : 2 + 5 ≤ _), (by decide : 7 + 123 ≤ _)⟩)
        dsimp only [Pt.U, Pt.locs, Pt.cells, Pt.slots] at X11 l11 y11 z11 st11 hQ11
        subst l11 y11 z11
        have zs12 : 0 ≤ h2.size := (Nat.le_trans (Nat.le_trans (Nat.zero_le _) E1.1) E2.1)
        obtain ⟨Y11, hS11, hZ11, hown11⟩ := rebS (s := s) (vm0 := s.vm) (vm1 := T11.vm) hS0 (by rw [e2]; exact zs12) X11 hs11 hgr11 hZ hown
        obtain ⟨rfl, Nq11, K11, q11_0, q11_1⟩ := hQ11
        refine OE.of (fun _ k => st11.trans k) ?_
        have N11 := Fr.app N0 Nq11
        show OE _ p e below s _ _ _ T11 (mkF m 42 #[.val (.int p1), .val (.int p2), .val (.int f), .val (.ref b1), .unset, .unset, .unset] [(.ref b2)])
        refine OE.astore Y11 hx hby at_42 rfl (l' := #[.val (.int p1), .val (.int p2), .val (.int f), .val (.ref b1), .val (.ref b2), .unset, .unset]) rfl ?_
        refine OE.aload Y11 hx hby at_44 rfl rfl ?_
        have z13 : n0 ≤ T11.heap.size := (Nat.le_trans z10 K11.1)
        obtain ⟨cq14, kq14, qa14, qb14, qc14⟩ := isOf hZ11 rfl q11_0
        obtain ⟨_, _, ⟨T14, L14, k14, n14⟩, -, X14, ⟨Lc14, hQ14, l14, y14, z14⟩, st14⟩ := Y11.virtualBack hx (y := (⟨"com/example/sigillum/sigillum/card/ElementaryFile", "sfi", "()I"⟩ : MethodName)) (z := (⟨"com/example/sigillum/sigillum/card/ElementaryFile", "sfi", "()I"⟩ : MethodName)) hown11 (mvT hZ11 (hw _ (List.mem_of_getElem? (i := 49) rfl))) (mvT hZ11 (hw _ (List.mem_of_getElem? (i := 50) rfl))) (notFace_of_selects (args := #[]) (mvT hZ11 (hw _ (List.mem_of_getElem? (i := 52) rfl)))) (mvT hZ11 (hw _ (List.mem_of_getElem? (i := 52) rfl))) (mvT hZ11 (hw _ (List.mem_of_getElem? (i := 51) rfl))) (by decide) (backOf (W := 0) (own_rm5 l Z a0 hw [] b2 f T11.heap n0 z13 q11_1) hZ11 (hw _ (List.mem_of_getElem? (i := 53) rfl)) (hw _ (List.mem_of_getElem? (i := 4) rfl)) (by decide) (by decide)) qa14 qc14 (g := (mkF m 46 #[.val (.int p1), .val (.int p2), .val (.int f), .val (.ref b1), .val (.ref b2), .unset, .unset] [(.ref b2)])) rfl (by rw [hml]; rfl) (Steps.refl _) (argsL := []) (rest := []) (lenOf own_pd3 rfl) rfl (by show 2 * 0 + _ ≤ _; exact Nat.le_of_eq rfl) (hb hby at_46) (fun _ _ => ⟨rfl, rfl, (by decide : 7 + 0 ≤ _), (by decide : 130 + 0 ≤ _)⟩)
        dsimp only [Pt.U, Pt.locs, Pt.cells, Pt.slots] at X14 l14 y14 z14 st14 hQ14
        subst l14 y14 z14
        obtain ⟨rfl, Nq14, eq14⟩ := hQ14
        refine OE.of (fun _ k => st14.trans k) ?_
        have N14 := Fr.app N11 Nq14
        show OE _ p e below s _ _ _ T14 (mkF m 49 #[.val (.int p1), .val (.int p2), .val (.int f), .val (.ref b1), .val (.ref b2), .unset, .unset] [(.int (if (f &&& (31 : Int32)) = (31 : Int32) then (0 : Int32) else (f &&& (31 : Int32))))])
        have hq := own_q f
        by_cases hl15 : (f &&& (31 : Int32)) = (31 : Int32)
        · skip
          rw [if_pos (show (f &&& (31 : Int32)) = (31 : Int32) from hl15)]
          show OE _ p e below s _ _ _ T14 (mkF m 49 #[.val (.int p1), .val (.int p2), .val (.int f), .val (.ref b1), .val (.ref b2), .unset, .unset] [(.int (0 : Int32))])
          refine OE.istore X14 hx hby at_49 (l' := #[.val (.int p1), .val (.int p2), .val (.int f), .val (.ref b1), .val (.ref b2), .val (.int (0 : Int32)), .unset]) rfl ?_
          refine OE.iloadN X14 hx hby at_51 rfl ?_
          refine OE.bipush X14 hx hby at_52 (32 : Int32) rfl ?_
          refine OE.irem X14 hx hby at_54 (by decide) ?_
          rw [(hf.2.2 : (f % (32 : Int32)) = (f &&& (31 : Int32)))]
          show OE _ p e below s _ _ _ T14 (mkF m 55 #[.val (.int p1), .val (.int p2), .val (.int f), .val (.ref b1), .val (.ref b2), .val (.int (0 : Int32)), .unset] [(.int (f &&& (31 : Int32)))])
          refine OE.istore X14 hx hby at_55 (l' := #[.val (.int p1), .val (.int p2), .val (.int f), .val (.ref b1), .val (.ref b2), .val (.int (0 : Int32)), .val (.int (f &&& (31 : Int32)))]) rfl ?_
          refine OE.iload X14 hx hby at_57 rfl ?_
          refine OE.ifNo X14 hx hby at_59 (flt (by decide : ¬ ((0 : Int32) < (0 : Int32)))).1 ?_
          refine OE.iload X14 hx hby at_62 rfl ?_
          refine OE.bipush X14 hx hby at_64 (30 : Int32) rfl ?_
          refine OE.icmpYes X14 hx hby (pc' := 71) at_66 (flt (by decide : ¬ ((30 : Int32) < (0 : Int32)))).2.2.2 (h := ?_)
          refine OE.iload X14 hx hby at_71 rfl ?_
          refine OE.ifYes X14 hx hby (pc' := 89) at_73 (teq (by decide : (0 : Int32) = (0 : Int32))).1 (h := ?_)
          refine OE.iload X14 hx hby at_89 rfl ?_
          refine OE.ifNo X14 hx hby at_91 (feq ((fun q => absurd (hl15.symm.trans q) (by decide)) : ¬ ((f &&& (31 : Int32)) = (0 : Int32)))).1 ?_
          refine OE.iload X14 hx hby at_94 rfl ?_
          refine OE.bipush X14 hx hby at_96 (31 : Int32) rfl ?_
          refine OE.icmpNo X14 hx hby at_98 (teq (hl15 : (f &&& (31 : Int32)) = (31 : Int32))).2 ?_
          refine OE.iconst X14 hx hby at_101 (1 : Int32) rfl ?_
          refine OE.goto X14 hx hby (pc' := 106) at_102 (h := ?_)
          refine OE.retNW (s := s) (vm1 := T11.vm) hS11 (by rw [eq14]; exact (Nat.le_refl _)) X14 hx (t := .boolean) Bd.returns (by simp) Bd.notSynchronized (hb hby at_106) (by decide) (by decide) ?_
          rw [eq14]
          exact ⟨rfl, N14⟩
        · skip
          rw [if_neg (show ¬ ((f &&& (31 : Int32)) = (31 : Int32)) from hl15)]
          show OE _ p e below s _ _ _ T14 (mkF m 49 #[.val (.int p1), .val (.int p2), .val (.int f), .val (.ref b1), .val (.ref b2), .unset, .unset] [(.int (f &&& (31 : Int32)))])
          refine OE.istore X14 hx hby at_49 (l' := #[.val (.int p1), .val (.int p2), .val (.int f), .val (.ref b1), .val (.ref b2), .val (.int (f &&& (31 : Int32))), .unset]) rfl ?_
          refine OE.iloadN X14 hx hby at_51 rfl ?_
          refine OE.bipush X14 hx hby at_52 (32 : Int32) rfl ?_
          refine OE.irem X14 hx hby at_54 (by decide) ?_
          rw [(hf.2.2 : (f % (32 : Int32)) = (f &&& (31 : Int32)))]
          show OE _ p e below s _ _ _ T14 (mkF m 55 #[.val (.int p1), .val (.int p2), .val (.int f), .val (.ref b1), .val (.ref b2), .val (.int (f &&& (31 : Int32))), .unset] [(.int (f &&& (31 : Int32)))])
          refine OE.istore X14 hx hby at_55 (l' := #[.val (.int p1), .val (.int p2), .val (.int f), .val (.ref b1), .val (.ref b2), .val (.int (f &&& (31 : Int32))), .val (.int (f &&& (31 : Int32)))]) rfl ?_
          refine OE.iload X14 hx hby at_57 rfl ?_
          refine OE.ifNo X14 hx hby at_59 (flt (hq.1 : ¬ ((f &&& (31 : Int32)) < (0 : Int32)))).1 ?_
          refine OE.iload X14 hx hby at_62 rfl ?_
          refine OE.bipush X14 hx hby at_64 (30 : Int32) rfl ?_
          refine OE.icmpYes X14 hx hby (pc' := 71) at_66 (flt ((hq.2 hl15) : ¬ ((30 : Int32) < (f &&& (31 : Int32))))).2.2.2 (h := ?_)
          refine OE.iload X14 hx hby at_71 rfl ?_
          by_cases hc73 : (f &&& (31 : Int32)) = (0 : Int32)
          · skip
            refine OE.ifYes X14 hx hby (pc' := 89) at_73 (teq hc73).1 (h := ?_)
            refine OE.iload X14 hx hby at_89 rfl ?_
            refine OE.ifYes X14 hx hby (pc' := 101) at_91 (teq (hc73 : (f &&& (31 : Int32)) = (0 : Int32))).1 (h := ?_)
            refine OE.iconst X14 hx hby at_101 (1 : Int32) rfl ?_
            refine OE.goto X14 hx hby (pc' := 106) at_102 (h := ?_)
            refine OE.retNW (s := s) (vm1 := T11.vm) hS11 (by rw [eq14]; exact (Nat.le_refl _)) X14 hx (t := .boolean) Bd.returns (by simp) Bd.notSynchronized (hb hby at_106) (by decide) (by decide) ?_
            rw [eq14]
            exact ⟨rfl, N14⟩
          · skip
            refine OE.ifNo X14 hx hby at_73 (feq hc73).1 ?_
            refine OE.iload X14 hx hby at_76 rfl ?_
            refine OE.iload X14 hx hby at_78 rfl ?_
            refine OE.icmpNo X14 hx hby at_80 (teq (rfl : (f &&& (31 : Int32)) = (f &&& (31 : Int32)))).2 ?_
            refine OE.iconst X14 hx hby at_83 (1 : Int32) rfl ?_
            refine OE.goto X14 hx hby (pc' := 88) at_84 (h := ?_)
            refine OE.retNW (s := s) (vm1 := T11.vm) hS11 (by rw [eq14]; exact (Nat.le_refl _)) X14 hx (t := .boolean) Bd.returns (by simp) Bd.notSynchronized (hb hby at_88) (by decide) (by decide) ?_
            rw [eq14]
            exact ⟨rfl, N14⟩
set_option maxRecDepth 65536 in
set_option maxHeartbeats 40000000 in
theorem comes_1 {Post : Tables → Env → Array Value → State → Outcome → State → Prop} (hpost : ∀ tb e args s v u, (limb_1_1.after args s (.returned v) u = true ∧ limb_1_2.after args s (.returned v) u = true ∧ True) → ReturnedEndW s (.returned v) u (Jvm.fieldLocs frame_1_writes args s ++ Jvm.arrayLocs frame_1_arrays args s ++ Jvm.staticLocs frame_1_statics s) 24 2176 → Post tb e args s (.returned v) u) :
    ArmFor flags0 classFile x code maxLocals ret World_1 tables_1 room_1 Calls_1 rest_1 Pre_1 Post := by
  intro l hfl _ _ p e ha hc hk s m args below hf hA hF happ hP
  obtain ⟨hcalls, hrest, hpre⟩ := hP
  obtain ⟨-, -, -, hnamed, -, -, -, hat⟩ := (Spec.applies_iff hf).mp happ
  obtain ⟨hg, hn⟩ := and_e (Cond.before_iff.mp (show (Jvm.Cond.and given_1 narrow_1).before args s = true from hpre))
  obtain ⟨g1, g2⟩ := and_e hg
  obtain ⟨g3, g4⟩ := and_e g2
  obtain ⟨w0, w1, rfl⟩ : ∃ w0 w1 : Value, args = #[w0, w1] := by
    have hs : args.size = 2 := by simpa [Cond.value, given_1] using g1
    obtain ⟨L⟩ := args
    match L, hs with
    | [w0, w1], _ => exact ⟨w0, w1, rfl⟩
  have hw := fun d (hd : d ∈ tables_1) => atoms_spec (ws := Jvm.Cond.code x code maxLocals ret :: tables_1) hat d (List.mem_cons_of_mem _ hd)
  have hfit : Fit s := fun {y c} hc i hi => by
    obtain ⟨ha, rfl⟩ := Array.getElem?_eq_some_iff.mp hc
    have q := List.all_eq_true.mp ((Array.all_eq_true_iff_forall_mem.mp hF) _ (Array.getElem_mem ha)) i (List.mem_range.mpr hi)
    simpa [Array.getElem?_eq_getElem hi] using q
  obtain ⟨i0, ei0⟩ := is_v g3
  obtain rfl : w0 = (.int i0) := Option.some.inj ei0
  obtain ⟨i1, ei1⟩ := is_v g4
  obtain rfl : w1 = (.int i1) := Option.some.inj ei1
  obtain ⟨aA, eA⟩ := exa_v hn
  have S_A : Sta s s.heap "com/example/sigillum/sigillum/card/AccessCondition" "ALWAYS" "Lcom/example/sigillum/sigillum/card/AccessCondition;" (.ref aA) := Sta.start eA (Or.inr ⟨(hw _ (List.mem_of_getElem? (i := 9) rfl)), (hw _ (List.mem_of_getElem? (i := 10) rfl))⟩)
  have E_A : Exa s s.heap aA "com/example/sigillum/sigillum/card/AccessCondition" := Exa.start eA hn
  obtain ⟨n, o, h1, h2, h3, _, L, rfl, ⟨rfl, N⟩, hq⟩ := own_rm0 l s _ hw tables_1 i0 i1 aA s.heap s.heap.size (Nat.le_refl _) S_A E_A p e ha hc hk s m _ below hf ((Spec.applies_iff_loose hf).mp happ).1 ⟨rfl, State.Warmed39.refl s, rfl⟩ trivial
  refine ⟨n, _, h1, h2, h3, hpost _ _ _ _ _ _ ⟨Cond.after_iff.mpr rfl, Cond.after_iff.mpr (eq_i res_at (Term.int_eval (1)) rfl), trivial⟩ ⟨hq.1, hq.2.1, hq.2.2.1, (hq.2.2.2.sift fun y hy => Or.inr (N y hy)).mono (by decide) (by decide)⟩⟩
theorem main_1_1 : Claimed_1_1 := comes_1 fun _ _ _ _ _ _ h hF => ⟨h.1, hF⟩
theorem main_1_2 : Claimed_1_2 := comes_1 fun _ _ _ _ _ _ h hF => ⟨h.2.1, hF⟩
end Jvm.Pilot.@@N@@
namespace Jvm.Pilot.@@N@@
open Jvm Jvm.ClassFile Sem Op Lib Jvm.Free Jvm.Stand Jvm.Pilot.@@N@@.Jvm.D
/-! MADE BY PROGRAM (witnessworld.py) out of the Statement's table words and the real class files: 16 classes; the members and pool entries that the words name. The judged class is class 1, her method 1. -/
namespace start1
open Jvm.ClassFile
def u (s : String) : CpInfo := .utf8 (stringToUtf16 s)
/-- a pool by its gaps: so many unusable entries, then the entry; so many at the end -/
def gap : Nat → List CpInfo → List CpInfo
  | 0, r => r
  | n + 1, r => .unusable :: gap n r
def poolList (es : List (Nat × CpInfo)) (last : Nat) : List CpInfo := es.foldr (fun e r => gap e.1 (e.2 :: r)) (gap last [])
def pool (es : List (Nat × CpInfo)) (last : Nat) : Array CpInfo := ⟨poolList es last⟩
def fileOf (pool : Array CpInfo) (this : Nat) (attrs : Array Attribute := #[]) (ms : Array MethodInfo := #[]) (fl : Nat := 33) (sup : Nat := 0) (ifs : Array Nat := #[]) (fds : Array FieldInfo := #[]) : ClassFile where
  minorVersion := 0
  majorVersion := 65
  constantPool := pool
  accessFlags := fl
  thisClass := this
  superClass := sup
  interfaces := ifs
  fields := fds
  methods := ms
  attributes := attrs
def plain (name : String) (sup : Option ClassId) : Class where
  name := name
  kind := .ordinary
  loader := none
  accessFlags := 33
  super := sup
  interfaces := #[]
  cf := none
  fields := #[]
  methods := #[]
  instanceTypes := #[]
  staticTypes := #[]
  resolved := #[]
  callSites := []
  init := .initialized
  statics := none
  mirror := none

def pool0 : Array CpInfo := pool [(5, u "<init>"), (0, u "()V"), (1, .class_ 10), (1, u "java/lang/Object"), (85, u "clone"), (0, u "()Ljava/lang/Object;")] 26

def k0c0 : Code := { maxStack := 0, maxLocals := 1, code := object_method_1_code, exceptionTable := #[], attributes := #[] }
def k0m0 : Method := { name := "<init>", desc := "()V", sig := { parameters := [], returnType := none }, accessFlags := 1, code := some k0c0 }
def k0m1 : Method := { name := "clone", desc := "()Ljava/lang/Object;", sig := { parameters := [], returnType := some (.object "java/lang/Object") }, accessFlags := 260, code := none }
/-- java/lang/Object -/
def k0 : Class := { plain "java/lang/Object" none with
  accessFlags := 33
  interfaces := #[]
  cf := some (fileOf pool0 8 #[] #[{ accessFlags := 1, nameIndex := 5, descriptorIndex := 6, attributes := #[] }, { accessFlags := 260, nameIndex := 96, descriptorIndex := 97, attributes := #[] }] 33 0 #[] #[])
  fields := #[]
  methods := #[k0m0, k0m1]
  instanceTypes := #[]
  staticTypes := #[]
  resolved := Array.replicate 124 none
  statics := none }

def pool1 : Array CpInfo := pool [(2, .class_ 4), (1, u "java/lang/Object"), (0, u "<init>"), (0, u "()V"), (0, .integer 65535), (0, .class_ 9), (0, u "com/example/sigillum/sigillum/card/ElementaryFile"), (0, .methodref 8 11), (0, .nameAndType 5 12), (0, u "(I[B)V"), (0, .methodref 8 14), (0, .nameAndType 15 16), (0, u "sfi"), (0, u "()I"), (0, .class_ 18), (0, u "com/example/sigillum/sigillum/card/ElementaryFileSfiPinLaw"), (2, u "law"), (0, u "(II)Z")] 5

def k1m0 : Method := { name := "<init>", desc := "()V", sig := { parameters := [], returnType := none }, accessFlags := 1, code := none }
def k1c1 : Code := { maxStack := 4, maxLocals := 7, code := code, exceptionTable := #[], attributes := #[] }
def k1m1 : Method := { name := "law", desc := "(II)Z", sig := { parameters := [.int, .int], returnType := some .boolean }, accessFlags := 9, code := some k1c1 }
/-- com/example/sigillum/sigillum/card/ElementaryFileSfiPinLaw -/
def k1 : Class := { plain "com/example/sigillum/sigillum/card/ElementaryFileSfiPinLaw" (some 0) with
  accessFlags := 49
  interfaces := #[]
  cf := some (fileOf pool1 17 #[] #[{ accessFlags := 1, nameIndex := 5, descriptorIndex := 6, attributes := #[] }, { accessFlags := 9, nameIndex := 21, descriptorIndex := 22, attributes := #[] }] 49 2 #[] #[])
  fields := #[]
  methods := #[k1m0, k1m1]
  instanceTypes := #[]
  staticTypes := #[]
  resolved := Array.replicate 28 none
  statics := none }

def pool2 : Array CpInfo := pool [(1, .fieldref 2 3), (0, .class_ 4), (0, .nameAndType 5 6), (0, u "com/example/sigillum/sigillum/card/AccessCondition"), (0, u "ALWAYS"), (0, u "Lcom/example/sigillum/sigillum/card/AccessCondition;"), (0, .methodref 8 9), (0, .class_ 10), (0, .nameAndType 11 12), (0, u "com/example/sigillum/sigillum/card/ElementaryFile"), (0, u "<init>"), (0, u "(I[BLcom/example/sigillum/sigillum/card/AccessCondition;Lcom/example/sigillum/sigillum/card/AccessCondition;)V"), (0, .methodref 14 15), (0, .class_ 16), (0, .nameAndType 11 17), (0, u "java/lang/Object"), (0, u "()V"), (0, .integer 65535), (24, .fieldref 8 44), (0, .nameAndType 45 46), (0, u "fid"), (0, u "I"), (0, .methodref 48 49), (0, .class_ 50), (0, .nameAndType 51 52), (0, u "[B"), (0, u "clone"), (0, u "()Ljava/lang/Object;"), (0, .fieldref 8 54), (0, .nameAndType 55 50), (0, u "content"), (0, .string 57), (0, u "readCondition"), (0, .methodref 59 60), (0, .class_ 61), (0, .nameAndType 62 63), (0, u "java/util/Objects"), (0, u "requireNonNull"), (0, u "(Ljava/lang/Object;Ljava/lang/String;)Ljava/lang/Object;"), (0, .fieldref 8 65), (0, .nameAndType 57 6), (0, .string 67), (0, u "updateCondition"), (0, .fieldref 8 69), (0, .nameAndType 67 6), (18, u "MAX_SIZE"), (1, u "MF"), (1, u "PATH_SELECTION"), (1, u "RESERVED"), (0, u "SFI_BITS"), (1, u "NO_SFI"), (1, u "(I[B)V"), (3, u "()I"), (0, u "sfi")] 26

def k2c0 : Code := { maxStack := 5, maxLocals := 3, code := prog_5_method_1_code, exceptionTable := #[], attributes := #[] }
def k2m0 : Method := { name := "<init>", desc := "(I[B)V", sig := { parameters := [.int, (.array .byte)], returnType := none }, accessFlags := 1, code := some k2c0 }
def k2c1 : Code := { maxStack := 7, maxLocals := 5, code := prog_5_method_2_code, exceptionTable := #[], attributes := #[] }
def k2m1 : Method := { name := "<init>", desc := "(I[BLcom/example/sigillum/sigillum/card/AccessCondition;Lcom/example/sigillum/sigillum/card/AccessCondition;)V", sig := { parameters := [.int, (.array .byte), (.object "com/example/sigillum/sigillum/card/AccessCondition"), (.object "com/example/sigillum/sigillum/card/AccessCondition")], returnType := none }, accessFlags := 1, code := some k2c1 }
def k2c2 : Code := { maxStack := 2, maxLocals := 2, code := prog_5_method_4_code, exceptionTable := #[], attributes := #[] }
def k2m2 : Method := { name := "sfi", desc := "()I", sig := { parameters := [], returnType := some .int }, accessFlags := 1, code := some k2c2 }
/-- com/example/sigillum/sigillum/card/ElementaryFile -/
def k2 : Class := { plain "com/example/sigillum/sigillum/card/ElementaryFile" (some 0) with
  accessFlags := 49
  interfaces := #[]
  cf := some (fileOf pool2 8 #[] #[{ accessFlags := 1, nameIndex := 11, descriptorIndex := 99, attributes := #[] }, { accessFlags := 1, nameIndex := 11, descriptorIndex := 12, attributes := #[] }, { accessFlags := 1, nameIndex := 104, descriptorIndex := 103, attributes := #[] }] 49 14 #[] #[{ accessFlags := 25, nameIndex := 88, descriptorIndex := 46, attributes := #[] }, { accessFlags := 26, nameIndex := 90, descriptorIndex := 46, attributes := #[] }, { accessFlags := 26, nameIndex := 92, descriptorIndex := 46, attributes := #[] }, { accessFlags := 26, nameIndex := 94, descriptorIndex := 46, attributes := #[] }, { accessFlags := 26, nameIndex := 95, descriptorIndex := 46, attributes := #[] }, { accessFlags := 26, nameIndex := 97, descriptorIndex := 46, attributes := #[] }, { accessFlags := 18, nameIndex := 45, descriptorIndex := 46, attributes := #[] }, { accessFlags := 18, nameIndex := 55, descriptorIndex := 50, attributes := #[] }, { accessFlags := 18, nameIndex := 57, descriptorIndex := 6, attributes := #[] }, { accessFlags := 18, nameIndex := 67, descriptorIndex := 6, attributes := #[] }])
  fields := #[{ name := "MAX_SIZE", type := .int, accessFlags := 25, slot := 0, constantValue := 0 }, { name := "MF", type := .int, accessFlags := 26, slot := 1, constantValue := 0 }, { name := "PATH_SELECTION", type := .int, accessFlags := 26, slot := 2, constantValue := 0 }, { name := "RESERVED", type := .int, accessFlags := 26, slot := 3, constantValue := 0 }, { name := "SFI_BITS", type := .int, accessFlags := 26, slot := 4, constantValue := 0 }, { name := "NO_SFI", type := .int, accessFlags := 26, slot := 5, constantValue := 0 }, { name := "fid", type := .int, accessFlags := 18, slot := 0, constantValue := 0 }, { name := "content", type := (.array .byte), accessFlags := 18, slot := 1, constantValue := 0 }, { name := "readCondition", type := (.object "com/example/sigillum/sigillum/card/AccessCondition"), accessFlags := 18, slot := 2, constantValue := 0 }, { name := "updateCondition", type := (.object "com/example/sigillum/sigillum/card/AccessCondition"), accessFlags := 18, slot := 3, constantValue := 0 }]
  methods := #[k2m0, k2m1, k2m2]
  instanceTypes := #[.int, (.array .byte), (.object "com/example/sigillum/sigillum/card/AccessCondition"), (.object "com/example/sigillum/sigillum/card/AccessCondition")]
  staticTypes := #[.int, .int, .int, .int, .int, .int]
  resolved := Array.replicate 131 none
  statics := none }

def pool3 : Array CpInfo := pool [(2, .class_ 4), (1, u "java/lang/Object"), (3, .class_ 10), (1, u "com/example/sigillum/sigillum/card/AccessCondition"), (0, u "kind"), (0, u "Lcom/example/sigillum/sigillum/card/AccessCondition$Kind;"), (2, u "reference"), (0, u "I"), (1, .class_ 20), (1, u "com/example/sigillum/sigillum/card/AccessCondition$Kind"), (10, u "ALWAYS"), (28, u "Lcom/example/sigillum/sigillum/card/AccessCondition;"), (0, u "REFERENCE_BITS"), (2, u "NUMBER_BITS")] 18

/-- com/example/sigillum/sigillum/card/AccessCondition -/
def k3 : Class := { plain "com/example/sigillum/sigillum/card/AccessCondition" (some 0) with
  accessFlags := 49
  interfaces := #[]
  cf := some (fileOf pool3 8 #[.nestMembers #[18]] #[] 49 2 #[] #[{ accessFlags := 25, nameIndex := 31, descriptorIndex := 60, attributes := #[] }, { accessFlags := 26, nameIndex := 61, descriptorIndex := 16, attributes := #[] }, { accessFlags := 26, nameIndex := 64, descriptorIndex := 16, attributes := #[] }, { accessFlags := 18, nameIndex := 11, descriptorIndex := 12, attributes := #[] }, { accessFlags := 18, nameIndex := 15, descriptorIndex := 16, attributes := #[] }])
  fields := #[{ name := "ALWAYS", type := (.object "com/example/sigillum/sigillum/card/AccessCondition"), accessFlags := 25, slot := 0, constantValue := 0 }, { name := "REFERENCE_BITS", type := .int, accessFlags := 26, slot := 1, constantValue := 0 }, { name := "NUMBER_BITS", type := .int, accessFlags := 26, slot := 2, constantValue := 0 }, { name := "kind", type := (.object "com/example/sigillum/sigillum/card/AccessCondition$Kind"), accessFlags := 18, slot := 0, constantValue := 0 }, { name := "reference", type := .int, accessFlags := 18, slot := 1, constantValue := 0 }]
  methods := #[]
  instanceTypes := #[(.object "com/example/sigillum/sigillum/card/AccessCondition$Kind"), .int]
  staticTypes := #[(.object "com/example/sigillum/sigillum/card/AccessCondition"), .int, .int]
  resolved := Array.replicate 83 none
  statics := some 0 }

def pool4 : Array CpInfo := pool [(1, .class_ 2), (0, u "java/lang/Cloneable"), (0, .class_ 4), (0, u "java/lang/Object")] 2

/-- java/lang/Cloneable -/
def k4 : Class := { plain "java/lang/Cloneable" (some 0) with
  accessFlags := 1537
  interfaces := #[]
  cf := some (fileOf pool4 1 #[] #[] 1537 3 #[] #[])
  fields := #[]
  methods := #[]
  instanceTypes := #[]
  staticTypes := #[]
  resolved := Array.replicate 7 none
  statics := none }

def pool5 : Array CpInfo := pool [(1, .class_ 2), (0, u "java/io/Serializable"), (0, .class_ 4), (0, u "java/lang/Object")] 2

/-- java/io/Serializable -/
def k5 : Class := { plain "java/io/Serializable" (some 0) with
  accessFlags := 1537
  interfaces := #[]
  cf := some (fileOf pool5 1 #[] #[] 1537 3 #[] #[])
  fields := #[]
  methods := #[]
  instanceTypes := #[]
  staticTypes := #[]
  resolved := Array.replicate 7 none
  statics := none }

def pool6 : Array CpInfo := pool [(1, .class_ 2), (0, u "java/lang/Comparable"), (0, .class_ 4), (0, u "java/lang/Object")] 7

/-- java/lang/Comparable -/
def k6 : Class := { plain "java/lang/Comparable" (some 0) with
  accessFlags := 1537
  interfaces := #[]
  cf := some (fileOf pool6 1 #[] #[] 1537 3 #[] #[])
  fields := #[]
  methods := #[]
  instanceTypes := #[]
  staticTypes := #[]
  resolved := Array.replicate 12 none
  statics := none }

def pool7 : Array CpInfo := pool [(2, .class_ 4), (1, u "java/lang/CharSequence"), (42, .class_ 48), (0, u "java/lang/CharSequence$1CodePointIterator"), (10, .class_ 60), (0, u "java/lang/CharSequence$1CharIterator"), (5, .class_ 67), (0, u "java/lang/Object")] 63

/-- java/lang/CharSequence -/
def k7 : Class := { plain "java/lang/CharSequence" (some 0) with
  accessFlags := 1537
  interfaces := #[]
  cf := some (fileOf pool7 2 #[.nestMembers #[47, 59]] #[] 1537 66 #[] #[])
  fields := #[]
  methods := #[]
  instanceTypes := #[]
  staticTypes := #[]
  resolved := Array.replicate 131 none
  statics := none }

def pool8 : Array CpInfo := pool [(1, .class_ 2), (0, u "java/lang/constant/Constable"), (0, .class_ 4), (0, u "java/lang/Object")] 6

/-- java/lang/constant/Constable -/
def k8 : Class := { plain "java/lang/constant/Constable" (some 0) with
  accessFlags := 1537
  interfaces := #[]
  cf := some (fileOf pool8 1 #[] #[] 1537 3 #[] #[])
  fields := #[]
  methods := #[]
  instanceTypes := #[]
  staticTypes := #[]
  resolved := Array.replicate 11 none
  statics := none }

def pool9 : Array CpInfo := pool [(1, .class_ 2), (0, u "java/lang/constant/ConstantDesc"), (0, .class_ 4), (0, u "java/lang/Object")] 32

/-- java/lang/constant/ConstantDesc -/
def k9 : Class := { plain "java/lang/constant/ConstantDesc" (some 0) with
  accessFlags := 1537
  interfaces := #[]
  cf := some (fileOf pool9 1 #[] #[] 1537 3 #[] #[])
  fields := #[]
  methods := #[]
  instanceTypes := #[]
  staticTypes := #[]
  resolved := Array.replicate 37 none
  statics := none }

def pool10 : Array CpInfo := pool [(2, .class_ 4), (1, u "java/lang/Object"), (0, u "<init>"), (0, u "()V"), (3, .class_ 12), (1, u "java/lang/String"), (0, u "value"), (0, u "[B"), (2, u "coder"), (0, u "B"), (2, u "hash"), (0, u "I"), (2, u "hashIsZero"), (0, u "Z"), (13, u "COMPACT_STRINGS"), (534, .class_ 576), (0, u "java/lang/CharSequence"), (22, u "CASE_INSENSITIVE_ORDER"), (0, u "Ljava/util/Comparator;"), (500, u "serialPersistentFields"), (0, u "[Ljava/io/ObjectStreamField;"), (0, .class_ 1104), (0, u "java/lang/String$CaseInsensitiveComparator"), (1, .class_ 1107), (0, u "java/io/Serializable"), (0, .class_ 1109), (0, u "java/lang/Comparable"), (0, .class_ 1111), (0, u "java/lang/constant/Constable"), (0, .class_ 1113), (0, u "java/lang/constant/ConstantDesc"), (2, u "serialVersionUID"), (0, u "J"), (3, u "REPL"), (0, u "C"), (2, u "LATIN1"), (1, u "UTF16")] 323

def k10m0 : Method := { name := "<init>", desc := "()V", sig := { parameters := [], returnType := none }, accessFlags := 1, code := none }
/-- java/lang/String -/
def k10 : Class := { plain "java/lang/String" (some 0) with
  accessFlags := 49
  interfaces := #[5, 6, 7, 8, 9]
  cf := some (fileOf pool10 10 #[.nestMembers #[1103]] #[{ accessFlags := 1, nameIndex := 5, descriptorIndex := 6, attributes := #[] }] 49 2 #[1106, 1108, 575, 1110, 1112] #[{ accessFlags := 18, nameIndex := 13, descriptorIndex := 14, attributes := #[] }, { accessFlags := 18, nameIndex := 17, descriptorIndex := 18, attributes := #[] }, { accessFlags := 2, nameIndex := 21, descriptorIndex := 22, attributes := #[] }, { accessFlags := 2, nameIndex := 25, descriptorIndex := 26, attributes := #[] }, { accessFlags := 26, nameIndex := 1116, descriptorIndex := 1117, attributes := #[] }, { accessFlags := 24, nameIndex := 40, descriptorIndex := 26, attributes := #[] }, { accessFlags := 26, nameIndex := 1101, descriptorIndex := 1102, attributes := #[] }, { accessFlags := 26, nameIndex := 1121, descriptorIndex := 1122, attributes := #[] }, { accessFlags := 25, nameIndex := 599, descriptorIndex := 600, attributes := #[] }, { accessFlags := 24, nameIndex := 1125, descriptorIndex := 18, attributes := #[] }, { accessFlags := 24, nameIndex := 1127, descriptorIndex := 18, attributes := #[] }])
  fields := #[{ name := "value", type := (.array .byte), accessFlags := 18, slot := 0, constantValue := 0 }, { name := "coder", type := .byte, accessFlags := 18, slot := 1, constantValue := 0 }, { name := "hash", type := .int, accessFlags := 2, slot := 2, constantValue := 0 }, { name := "hashIsZero", type := .boolean, accessFlags := 2, slot := 3, constantValue := 0 }, { name := "serialVersionUID", type := .long, accessFlags := 26, slot := 0, constantValue := 0 }, { name := "COMPACT_STRINGS", type := .boolean, accessFlags := 24, slot := 1, constantValue := 0 }, { name := "serialPersistentFields", type := (.array (.object "java/io/ObjectStreamField")), accessFlags := 26, slot := 2, constantValue := 0 }, { name := "REPL", type := .char, accessFlags := 26, slot := 3, constantValue := 0 }, { name := "CASE_INSENSITIVE_ORDER", type := (.object "java/util/Comparator"), accessFlags := 25, slot := 4, constantValue := 0 }, { name := "LATIN1", type := .byte, accessFlags := 24, slot := 5, constantValue := 0 }, { name := "UTF16", type := .byte, accessFlags := 24, slot := 6, constantValue := 0 }]
  methods := #[k10m0]
  instanceTypes := #[(.array .byte), .byte, .int, .boolean]
  staticTypes := #[.long, .boolean, (.array (.object "java/io/ObjectStreamField")), .char, (.object "java/util/Comparator"), .byte, .byte]
  resolved := Array.replicate 1451 none
  statics := none }

def pool11 : Array CpInfo := pool [(2, .class_ 4), (1, u "java/lang/Object"), (0, u "<init>"), (0, u "()V"), (35, .class_ 44), (1, u "java/util/Objects"), (0, u "requireNonNull"), (48, u "(Ljava/lang/Object;Ljava/lang/String;)Ljava/lang/Object;")] 89

def k11m0 : Method := { name := "<init>", desc := "()V", sig := { parameters := [], returnType := none }, accessFlags := 2, code := none }
def k11c1 : Code := { maxStack := 3, maxLocals := 2, code := jdk_31_method_11_code, exceptionTable := #[], attributes := #[] }
def k11m1 : Method := { name := "requireNonNull", desc := "(Ljava/lang/Object;Ljava/lang/String;)Ljava/lang/Object;", sig := { parameters := [(.object "java/lang/Object"), (.object "java/lang/String")], returnType := some (.object "java/lang/Object") }, accessFlags := 9, code := some k11c1 }
/-- java/util/Objects -/
def k11 : Class := { plain "java/util/Objects" (some 0) with
  accessFlags := 49
  interfaces := #[]
  cf := some (fileOf pool11 42 #[] #[{ accessFlags := 2, nameIndex := 5, descriptorIndex := 6, attributes := #[] }, { accessFlags := 9, nameIndex := 45, descriptorIndex := 94, attributes := #[] }] 49 2 #[] #[])
  fields := #[]
  methods := #[k11m0, k11m1]
  instanceTypes := #[]
  staticTypes := #[]
  resolved := Array.replicate 184 none
  statics := none }

/-- the primitive byte -/
def k12 : Class := { plain "byte" none with kind := .primitive 'B', accessFlags := 0x411 }
/-- [B -/
def k13 : Class := { plain "[B" (some 0) with kind := .array 12 .byte, interfaces := #[4, 5], accessFlags := 1041 }

/-- the primitive int -/
def k14 : Class := { plain "int" none with kind := .primitive 'I', accessFlags := 0x411 }
/-- [I -/
def k15 : Class := { plain "[I" (some 0) with kind := .array 14 .int, interfaces := #[4, 5], accessFlags := 1041 }

def heap : Heap := #[{ cls := 3, slots := #[.ref 1, .int 0, .int 0], vm := .statics 3 },
  { cls := 3, slots := #[.null, .int 0], vm := .none }]
def classes : Array Class := #[k0, k1, k2, k3, k4, k5, k6, k7, k8, k9, k10, k11, k12, k13, k14, k15]
def interned : List (Array UInt16 × Addr) := []
def slotsUsed : Nat := 5
def theMethod : MethodId := ⟨1, 1⟩
def args0 : Array Value := #[.int 5, .int 7]
def aboutOver (below : List Frame) : State where
  vm := { classes := classes, interned := interned.toArray }
  heap := heap
  slotsUsed := slotsUsed
  threads := #[{ frames := .invoking theMethod args0 :: below }]
def below0 : List Frame := [.native { method := ⟨0, 0⟩, args := #[] }]
def about1 : State := aboutOver below0
def p0 : Program := .bare "" "" ""
def e0 : Env := launch0.env 0 0 0
theorem w_frames : about1.frames = Frame.invoking theMethod args0 :: below0 := rfl
set_option maxRecDepth 65536 in
theorem w_args : argsFit about1.vm theMethod args0 = true := by decide +kernel
set_option maxRecDepth 65536 in
theorem w_heap : heapFits about1 = true := by decide +kernel
set_option maxRecDepth 65536 in
theorem w_runnable : about1.curStatus? = some .runnable := by decide +kernel
set_option maxRecDepth 65536 in
theorem w_alone : about1.alone = true := by decide +kernel
set_option maxRecDepth 65536 in
theorem w_named : about1.methodNamed? x = some theMethod := by decide +kernel
set_option maxRecDepth 65536 in
theorem w_hears : about1.hears theMethod below0 = true := by decide +kernel
set_option maxRecDepth 65536 in
theorem w_ripe : about1.ripe theMethod args0 below0 = true := by decide +kernel
theorem w_running : about1.status = .running := rfl
set_option maxRecDepth 65536 in
theorem w_room : about1.hasRoom e0.platform room_1 = true :=
  launch0.hasRoom_least _ room_1 (by decide +kernel) (by decide +kernel) (by decide +kernel) (by decide +kernel) (by decide +kernel) (by decide +kernel)
theorem allAtoms_all (ts : List Jvm.Cond) (a : Array Jvm.Value) (st : Jvm.State) : (allAtoms ts).before a st = ts.all (fun c => c.before a st) := by
  induction ts with
  | nil => rfl
  | cons c t ih =>
    show (Jvm.Cond.and c (allAtoms t)).before a st = _
    rw [Jvm.Cond.before_and, ih, List.all_cons]
def words1 : List Jvm.Cond := Jvm.Cond.code x code maxLocals ret :: tables_1
/-- a 'code' word, met by the world's own term for the bytes: nothing is compared byte by byte -/
theorem code_word {y : MethodName} {bytes : ByteArray} {mx : Nat} {rt : Option FieldType} {a : Array Value} {s : State} {m : MethodId} {meth : Method} {c : Code} (h1 : s.methodNamed? y = some m) (h2 : s.vm.method? m = some meth) (h3 : meth.code = some c) (h4 : c.code = bytes)
    (h5 : (c.maxLocals == mx && c.exceptionTable.isEmpty && decide (c.maxStack ≤ mostOperands) && decide (meth.sig.returnType = rt) && !meth.locks && decide (parseMethodDescriptor y.desc = some meth.sig)) = true) : (Jvm.Cond.code y bytes mx rt).before a s = true := by
  simp only [Bool.and_eq_true, beq_iff_eq, Bool.not_eq_true', decide_eq_true_eq] at h5
  obtain ⟨⟨⟨⟨⟨g1, g2⟩, g3⟩, g4⟩, g5⟩, g6⟩ := h5
  simp [Cond.before, Cond.holds, Cond.value, h1, h2, h3, h4, g1, g2, g3, g4, g5, g6]
def isCode : Jvm.Cond → Bool
  | .code _ _ _ _ => true
  | _ => false
theorem all_split {L : List Jvm.Cond} {P : Jvm.Cond → Bool} (h1 : L.all (fun c => isCode c || P c) = true) (h2 : ∀ c ∈ L.filter isCode, P c = true) : L.all P = true := by
  refine List.all_eq_true.mpr fun c hc => ?_
  have h := List.all_eq_true.mp h1 c hc
  rcases Bool.eq_false_or_eq_true (isCode c) with hi | hi
  · exact h2 c (List.mem_filter.mpr ⟨hc, hi⟩)
  · simpa [hi] using h
set_option maxRecDepth 65536 in
theorem w_c0 : (Jvm.Cond.code x code maxLocals ret).before args0 about1 = true := code_word (m := ⟨1, 1⟩) (meth := k1m1) (c := k1c1) (by decide +kernel) rfl rfl rfl (by decide +kernel)
set_option maxRecDepth 65536 in
theorem w_c1 : (Jvm.Cond.code ({ cls := "com/example/sigillum/sigillum/card/ElementaryFile", name := "<init>", desc := "(I[B)V" } : Jvm.MethodName) prog_5_method_1_code (3 : Nat) (Option.none : Option Jvm.ClassFile.FieldType)).before args0 about1 = true := code_word (m := ⟨2, 0⟩) (meth := k2m0) (c := k2c0) (by decide +kernel) rfl rfl rfl (by decide +kernel)
set_option maxRecDepth 65536 in
theorem w_c2 : (Jvm.Cond.code ({ cls := "com/example/sigillum/sigillum/card/ElementaryFile", name := "<init>", desc := "(I[BLcom/example/sigillum/sigillum/card/AccessCondition;Lcom/example/sigillum/sigillum/card/AccessCondition;)V" } : Jvm.MethodName) prog_5_method_2_code (5 : Nat) (Option.none : Option Jvm.ClassFile.FieldType)).before args0 about1 = true := code_word (m := ⟨2, 1⟩) (meth := k2m1) (c := k2c1) (by decide +kernel) rfl rfl rfl (by decide +kernel)
set_option maxRecDepth 65536 in
theorem w_c3 : (Jvm.Cond.code ({ cls := "java/lang/Object", name := "<init>", desc := "()V" } : Jvm.MethodName) object_method_1_code (1 : Nat) (Option.none : Option Jvm.ClassFile.FieldType)).before args0 about1 = true := code_word (m := ⟨0, 0⟩) (meth := k0m0) (c := k0c0) (by decide +kernel) rfl rfl rfl (by decide +kernel)
set_option maxRecDepth 65536 in
theorem w_c4 : (Jvm.Cond.code ({ cls := "java/util/Objects", name := "requireNonNull", desc := "(Ljava/lang/Object;Ljava/lang/String;)Ljava/lang/Object;" } : Jvm.MethodName) jdk_31_method_11_code (2 : Nat) (Option.some (Jvm.ClassFile.FieldType.object "java/lang/Object"))).before args0 about1 = true := code_word (m := ⟨11, 1⟩) (meth := k11m1) (c := k11c1) (by decide +kernel) rfl rfl rfl (by decide +kernel)
set_option maxRecDepth 65536 in
theorem w_c5 : (Jvm.Cond.code ({ cls := "com/example/sigillum/sigillum/card/ElementaryFile", name := "sfi", desc := "()I" } : Jvm.MethodName) prog_5_method_4_code (2 : Nat) (Option.some Jvm.ClassFile.FieldType.int)).before args0 about1 = true := code_word (m := ⟨2, 2⟩) (meth := k2m2) (c := k2c2) (by decide +kernel) rfl rfl rfl (by decide +kernel)
def codes1 : List Jvm.Cond := [Jvm.Cond.code x code maxLocals ret, Jvm.Cond.code ({ cls := "com/example/sigillum/sigillum/card/ElementaryFile", name := "<init>", desc := "(I[B)V" } : Jvm.MethodName) prog_5_method_1_code (3 : Nat) (Option.none : Option Jvm.ClassFile.FieldType), Jvm.Cond.code ({ cls := "com/example/sigillum/sigillum/card/ElementaryFile", name := "<init>", desc := "(I[BLcom/example/sigillum/sigillum/card/AccessCondition;Lcom/example/sigillum/sigillum/card/AccessCondition;)V" } : Jvm.MethodName) prog_5_method_2_code (5 : Nat) (Option.none : Option Jvm.ClassFile.FieldType), Jvm.Cond.code ({ cls := "java/lang/Object", name := "<init>", desc := "()V" } : Jvm.MethodName) object_method_1_code (1 : Nat) (Option.none : Option Jvm.ClassFile.FieldType), Jvm.Cond.code ({ cls := "java/util/Objects", name := "requireNonNull", desc := "(Ljava/lang/Object;Ljava/lang/String;)Ljava/lang/Object;" } : Jvm.MethodName) jdk_31_method_11_code (2 : Nat) (Option.some (Jvm.ClassFile.FieldType.object "java/lang/Object")), Jvm.Cond.code ({ cls := "com/example/sigillum/sigillum/card/ElementaryFile", name := "sfi", desc := "()I" } : Jvm.MethodName) prog_5_method_4_code (2 : Nat) (Option.some Jvm.ClassFile.FieldType.int)]
set_option maxRecDepth 65536 in
theorem codes_eq : words1.filter isCode = codes1 := rfl
theorem w_codes : ∀ c ∈ words1.filter isCode, c.before args0 about1 = true := by
  rw [codes_eq]
  intro c hc
  simp only [codes1, List.mem_cons, List.not_mem_nil, or_false] at hc
  rcases hc with rfl | rfl | rfl | rfl | rfl | rfl
  · exact w_c0
  · exact w_c1
  · exact w_c2
  · exact w_c3
  · exact w_c4
  · exact w_c5
set_option maxRecDepth 65536 in
theorem w_t1 : (words1.take 24).all (fun c => isCode c || c.before args0 about1) = true := by decide +kernel
set_option maxRecDepth 65536 in
theorem w_t2 : ((words1.drop 24).take 24).all (fun c => isCode c || c.before args0 about1) = true := by decide +kernel
set_option maxRecDepth 65536 in
theorem w_t3 : ((words1.drop 24).drop 24).all (fun c => isCode c || c.before args0 about1) = true := by decide +kernel
theorem w_tables : (allAtoms (Jvm.Cond.code x code maxLocals ret :: tables_1)).before args0 about1 = true := by
  rw [allAtoms_all]
  show words1.all (fun c => c.before args0 about1) = true
  refine all_split ?_ w_codes
  rw [← List.take_append_drop 24 words1, List.all_append, w_t1, ← List.take_append_drop 24 (words1.drop 24), List.all_append, w_t2, w_t3]
  rfl
set_option maxRecDepth 65536 in
theorem w_case : (Jvm.Cond.and given_1 narrow_1).before args0 about1 = true := by decide +kernel
theorem w_applies : (headSpec (Jvm.Cond.code x code maxLocals ret :: tables_1) room_1).applies x e0.platform about1 = true :=
  (Spec.applies_iff w_frames).mpr ⟨w_running, w_runnable, w_alone, w_named, w_hears, w_ripe, w_room, w_tables⟩
theorem atStart : AtStart classFile x code maxLocals ret World_1 tables_1 room_1 Calls_1 rest_1 Pre_1 launch0 p0 e0 about1 theMethod args0 below0 :=
  ⟨lists_1, trivial, launch0.admits_env _ _ _, launch0.least_env, fairChoices_fair.cas, fairChoices_fair.clock, w_frames, w_args, w_heap, w_applies, trivial, trivial, w_case⟩
end start1
theorem witness_1 : WitnessClaimed_1 := ⟨start1.p0, start1.e0, start1.about1, start1.theMethod, start1.args0, start1.below0, start1.atStart⟩
end Jvm.Pilot.@@N@@
