import JvmDerived
import JvmDerived.Pilot.@@N@@Statement
import JvmDerived.Pilot.@@N@@Code
set_option linter.unusedVariables false
set_option linter.unusedSimpArgs false
namespace Jvm.RoadKit
open Sem ClassFile Op Lib Jvm.Stand Jvm.Free Jvm.LawKit
section New
variable {p : Program} {l : Launch} {e : Env} {R : Room} {s : State} {m : MethodId} {args : Array Value} {below : List Frame} {meth : Method} {c : Code} {T : State} {locs : List Loc} {cells slots : Nat}
theorem retI (X : Stand p l e R s m args below meth c T locs cells slots) (hx : p.tables.exec = Jvm.exec) {pc : Nat} {Ls : Array Slot} {z : Int32} {rest : List Value} (hret : meth.sig.returnType = some .int) (hd : decode c.code pc = .ok (.ireturn, 1)) {fs : List Frame}
    (hl : ∀ (f : JFrame) (acts : List Action), f.method = m → f.locked = none → f.entered = [] → (doReturn e (T.setTop f) acts (some (.int z))).1 = T.setFrames fs) : Steps p.tables e below (T.setTop (mkF m pc Ls (.int z :: rest))) (T.setFrames fs) := by
  have hm' : T.vm.method? m = some meth := X.method'
  have hn : narrow .int (.int z) = .int z := rfl
  show Steps p.tables e below (T.setTop { method := m, pc := pc, locals := Ls, stack := _ :: rest, locked := none }) _
  jvm_step X.here [X.here.top, hx, hd, hm', hret, hn]
  first | (intro acts; rw [hl _ acts rfl rfl rfl]) | rw [hl _ _ rfl rfl rfl]
  exact Steps.refl _
/-- the walk that stands at g in T comes to its end, with Q -/
def OE (FE : State → Outcome → State → List Loc → Nat → Nat → Prop) (p : Program) (e : Env) (below : List Frame) (s : State) (Q : Option Value → Heap → List Loc → Prop) (kc ks : Nat) (T : State) (g : JFrame) : Prop :=
  ∃ s₂ o, Steps p.tables e below (T.setTop g) s₂ ∧ s₂.status = .running ∧ Ended s₂ below o ∧ ∃ v L, o = .returned v ∧ Q v s₂.heap L ∧ FE s o s₂ L kc ks
variable {FE : State → Outcome → State → List Loc → Nat → Nat → Prop} {Q : Option Value → Heap → List Loc → Prop} {kc ks : Nat} {s' : State}
theorem OE.of {T' : State} {g g' : JFrame} (k : ∀ t, Steps p.tables e below (T'.setTop g') t → Steps p.tables e below (T.setTop g) t) (h : OE FE p e below s Q kc ks T' g') : OE FE p e below s Q kc ks T g := by
  obtain ⟨s₂, o, h1, h2⟩ := h
  exact ⟨s₂, o, k _ h1, h2⟩
theorem OE.retN (X : Stand p l e R s m args below meth c T locs cells slots) (hx : p.tables.exec = Jvm.exec) {pc : Nat} {Ls : Array Slot} {z : Int32} {t : FieldType} {rest : List Value} (hret : meth.sig.returnType = some t) (ht : t = .boolean ∨ t = .byte ∨ t = .char ∨ t = .short) (hlk : meth.locks = false)
    (hd : decode c.code pc = .ok (.ireturn, 1)) (hc : cells ≤ kc) (hs : slots ≤ ks) (hQ : Q (some (.int (nar t z))) T.heap locs) : OE FrameEnd p e below s Q kc ks T (mkF m pc Ls (.int z :: rest)) := by
  obtain ⟨fs, hr, hrun, hended, hW, hsame⟩ := X.leave (v := some (.int (nar t z))) (fun h => by rw [hret] at h; cases h) hlk
  exact ⟨_, _, Jvm.RoadKit.retN X hx hret ht hd hr, hrun, hended, _, _, rfl, hQ, ⟨_, rfl⟩, hW, hsame.mono hc hs⟩
theorem OE.retI (X : Stand p l e R s m args below meth c T locs cells slots) (hx : p.tables.exec = Jvm.exec) {pc : Nat} {Ls : Array Slot} {z : Int32} {rest : List Value} (hret : meth.sig.returnType = some .int) (hlk : meth.locks = false)
    (hd : decode c.code pc = .ok (.ireturn, 1)) (hc : cells ≤ kc) (hs : slots ≤ ks) (hQ : Q (some (.int z)) T.heap locs) : OE FrameEnd p e below s Q kc ks T (mkF m pc Ls (.int z :: rest)) := by
  obtain ⟨fs, hr, hrun, hended, hW, hsame⟩ := X.leave (v := some (.int z)) (fun h => by rw [hret] at h; cases h) hlk
  exact ⟨_, _, Jvm.RoadKit.retI X hx hret hd hr, hrun, hended, _, _, rfl, hQ, ⟨_, rfl⟩, hW, hsame.mono hc hs⟩
theorem OE.retJ (X : Stand p l e R s m args below meth c T locs cells slots) (hx : p.tables.exec = Jvm.exec) {pc : Nat} {Ls : Array Slot} {z : Int64} (hret : meth.sig.returnType = some .long) (hlk : meth.locks = false)
    (hd : decode c.code pc = .ok (.lreturn, 1)) (hc : cells ≤ kc) (hs : slots ≤ ks) (hQ : Q (some (.long z)) T.heap locs) : OE FrameEnd p e below s Q kc ks T (mkF m pc Ls [.long z]) := by
  obtain ⟨fs, hr, hrun, hended, hW, hsame⟩ := X.leave (v := some (.long z)) (fun h => by rw [hret] at h; cases h) hlk
  exact ⟨_, _, X.lreturnOut hx hret hd hr, hrun, hended, _, _, rfl, hQ, ⟨_, rfl⟩, hW, hsame.mono hc hs⟩
theorem OE.retA (X : Stand p l e R s m args below meth c T locs cells slots) (hx : p.tables.exec = Jvm.exec) {pc : Nat} {Ls : Array Slot} {w : Value} {t : FieldType} (hw : w.isRef = true) (hret : meth.sig.returnType = some t) (ht : t.isReference = true) (hlk : meth.locks = false)
    (hd : decode c.code pc = .ok (.areturn, 1)) (hc : cells ≤ kc) (hs : slots ≤ ks) (hQ : Q (some w) T.heap locs) : OE FrameEnd p e below s Q kc ks T (mkF m pc Ls [w]) := by
  obtain ⟨fs, hr, hrun, hended, hW, hsame⟩ := X.leave (v := some w) (fun h => by rw [hret] at h; cases h) hlk
  exact ⟨_, _, X.areturnOut hx hw hret ht hd hr, hrun, hended, _, _, rfl, hQ, ⟨_, rfl⟩, hW, hsame.mono hc hs⟩
theorem OE.ret0 (X : Stand p l e R s m args below meth c T locs cells slots) (hx : p.tables.exec = Jvm.exec) {pc : Nat} {Ls : Array Slot} (hret : meth.sig.returnType = none) (hlk : meth.locks = false)
    (hd : decode c.code pc = .ok (.return_, 1)) (hc : cells ≤ kc) (hs : slots ≤ ks) (hQ : Q none T.heap locs) : OE FrameEnd p e below s Q kc ks T (mkF m pc Ls []) := by
  obtain ⟨fs, hr, hrun, hended, hW, hsame⟩ := X.leave (v := none) (fun _ => rfl) hlk
  exact ⟨_, _, X.returnOut hx hret hd hr, hrun, hended, _, _, rfl, hQ, ⟨_, rfl⟩, hW, hsame.mono hc hs⟩
theorem own_monoW {o : Outcome} {t : State} {L : List Loc} {k n : Nat} (h : ReturnedEndW s o t L k n) (hc : k ≤ kc) (hs : n ≤ ks) : ReturnedEndW s o t L kc ks := ⟨h.1, h.2.1, h.2.2.1, h.2.2.2.mono hc hs⟩
variable {vm1 : Vm} {kS : Nat}
theorem OE.retNW (hS : s.Since vm1 kS) (hk : kS ≤ T.heap.size) (X : Stand p l e R (s.setVm vm1) m args below meth c T locs cells slots) (hx : p.tables.exec = Jvm.exec) {pc : Nat} {Ls : Array Slot} {z : Int32} {t : FieldType} {rest : List Value} (hret : meth.sig.returnType = some t) (ht : t = .boolean ∨ t = .byte ∨ t = .char ∨ t = .short) (hlk : meth.locks = false)
    (hd : decode c.code pc = .ok (.ireturn, 1)) (hc : cells ≤ kc) (hs : slots ≤ ks) (hQ : Q (some (.int (nar t z))) T.heap locs) : OE ReturnedEndW p e below s Q kc ks T (mkF m pc Ls (.int z :: rest)) := by
  obtain ⟨fs, hr, hrun, hended, hW⟩ := X.leaveW hS hk (v := some (.int (nar t z))) (fun h => by rw [hret] at h; cases h) hlk
  exact ⟨_, _, Jvm.RoadKit.retN X hx hret ht hd hr, hrun, hended, _, _, rfl, hQ, own_monoW hW hc hs⟩
theorem OE.retIW (hS : s.Since vm1 kS) (hk : kS ≤ T.heap.size) (X : Stand p l e R (s.setVm vm1) m args below meth c T locs cells slots) (hx : p.tables.exec = Jvm.exec) {pc : Nat} {Ls : Array Slot} {z : Int32} {rest : List Value} (hret : meth.sig.returnType = some .int) (hlk : meth.locks = false)
    (hd : decode c.code pc = .ok (.ireturn, 1)) (hc : cells ≤ kc) (hs : slots ≤ ks) (hQ : Q (some (.int z)) T.heap locs) : OE ReturnedEndW p e below s Q kc ks T (mkF m pc Ls (.int z :: rest)) := by
  obtain ⟨fs, hr, hrun, hended, hW⟩ := X.leaveW hS hk (v := some (.int z)) (fun h => by rw [hret] at h; cases h) hlk
  exact ⟨_, _, Jvm.RoadKit.retI X hx hret hd hr, hrun, hended, _, _, rfl, hQ, own_monoW hW hc hs⟩
theorem OE.ret0W (hS : s.Since vm1 kS) (hk : kS ≤ T.heap.size) (X : Stand p l e R (s.setVm vm1) m args below meth c T locs cells slots) (hx : p.tables.exec = Jvm.exec) {pc : Nat} {Ls : Array Slot} (hret : meth.sig.returnType = none) (hlk : meth.locks = false)
    (hd : decode c.code pc = .ok (.return_, 1)) (hc : cells ≤ kc) (hs : slots ≤ ks) (hQ : Q none T.heap locs) : OE ReturnedEndW p e below s Q kc ks T (mkF m pc Ls []) := by
  obtain ⟨fs, hr, hrun, hended, hW⟩ := X.leaveW hS hk (v := none) (fun _ => rfl) hlk
  exact ⟨_, _, X.returnOut hx hret hd hr, hrun, hended, _, _, rfl, hQ, own_monoW hW hc hs⟩
theorem OE.iload (X : Stand p l e R s' m args below meth c T locs cells slots) (hx : p.tables.exec = Jvm.exec) {code : ByteArray} (hby : c.code = code) {pc : Nat} {Ls : Array Slot} {k : Nat} {v : Int32} {st : List Value} (hd : decode code pc = .ok (.iload k, 2)) (hl : Ls[k]? = some (.val (.int v))) (h : OE FE p e below s Q kc ks T (mkF m (pc + 2) Ls (.int v :: st))) : OE FE p e below s Q kc ks T (mkF m pc Ls (st)) := OE.of (fun _ k' => XS.iload X.here hx rfl (hb hby hd) hl k') h
theorem OE.iloadN (X : Stand p l e R s' m args below meth c T locs cells slots) (hx : p.tables.exec = Jvm.exec) {code : ByteArray} (hby : c.code = code) {pc : Nat} {Ls : Array Slot} {k : Fin 4} {v : Int32} {st : List Value} (hd : decode code pc = .ok (.iload_n k, 1)) (hl : Ls[k.val]? = some (.val (.int v))) (h : OE FE p e below s Q kc ks T (mkF m (pc + 1) Ls (.int v :: st))) : OE FE p e below s Q kc ks T (mkF m pc Ls (st)) := OE.of (fun _ k' => XS.iloadN X.here hx rfl (hb hby hd) hl k') h
theorem OE.lload (X : Stand p l e R s' m args below meth c T locs cells slots) (hx : p.tables.exec = Jvm.exec) {code : ByteArray} (hby : c.code = code) {pc : Nat} {Ls : Array Slot} {k : Nat} {v : Int64} {st : List Value} (hd : decode code pc = .ok (.lload k, 2)) (hl : Ls[k]? = some (.val (.long v))) (h : OE FE p e below s Q kc ks T (mkF m (pc + 2) Ls (.long v :: st))) : OE FE p e below s Q kc ks T (mkF m pc Ls (st)) := OE.of (fun _ k' => XS.lload X.here hx rfl (hb hby hd) hl k') h
theorem OE.lloadN (X : Stand p l e R s' m args below meth c T locs cells slots) (hx : p.tables.exec = Jvm.exec) {code : ByteArray} (hby : c.code = code) {pc : Nat} {Ls : Array Slot} {k : Fin 4} {v : Int64} {st : List Value} (hd : decode code pc = .ok (.lload_n k, 1)) (hl : Ls[k.val]? = some (.val (.long v))) (h : OE FE p e below s Q kc ks T (mkF m (pc + 1) Ls (.long v :: st))) : OE FE p e below s Q kc ks T (mkF m pc Ls (st)) := OE.of (fun _ k' => XS.lloadN X.here hx rfl (hb hby hd) hl k') h
theorem OE.aload (X : Stand p l e R s' m args below meth c T locs cells slots) (hx : p.tables.exec = Jvm.exec) {code : ByteArray} (hby : c.code = code) {pc : Nat} {Ls : Array Slot} {k : Nat} {v : Value} {st : List Value} (hd : decode code pc = .ok (.aload k, 2)) (hl : Ls[k]? = some (.val v)) (hv : v.isRef = true) (h : OE FE p e below s Q kc ks T (mkF m (pc + 2) Ls (v :: st))) : OE FE p e below s Q kc ks T (mkF m pc Ls (st)) := OE.of (fun _ k' => XS.aload X.here hx rfl (hb hby hd) hl hv k') h
theorem OE.aloadN (X : Stand p l e R s' m args below meth c T locs cells slots) (hx : p.tables.exec = Jvm.exec) {code : ByteArray} (hby : c.code = code) {pc : Nat} {Ls : Array Slot} {k : Fin 4} {v : Value} {st : List Value} (hd : decode code pc = .ok (.aload_n k, 1)) (hl : Ls[k.val]? = some (.val v)) (hv : v.isRef = true) (h : OE FE p e below s Q kc ks T (mkF m (pc + 1) Ls (v :: st))) : OE FE p e below s Q kc ks T (mkF m pc Ls (st)) := OE.of (fun _ k' => XS.aloadN X.here hx rfl (hb hby hd) hl hv k') h
theorem OE.istore (X : Stand p l e R s' m args below meth c T locs cells slots) (hx : p.tables.exec = Jvm.exec) {code : ByteArray} (hby : c.code = code) {pc : Nat} {Ls : Array Slot} {k : Nat} {v : Int32} {st : List Value} {l' : Array Slot} (hd : decode code pc = .ok (.istore k, 2)) (hl : storeLocals Ls k (.int v) = some l') (h : OE FE p e below s Q kc ks T (mkF m (pc + 2) l' (st))) : OE FE p e below s Q kc ks T (mkF m pc Ls (.int v :: st)) := OE.of (fun _ k' => XS.istore X.here hx rfl (hb hby hd) rfl hl k') h
theorem OE.istoreN (X : Stand p l e R s' m args below meth c T locs cells slots) (hx : p.tables.exec = Jvm.exec) {code : ByteArray} (hby : c.code = code) {pc : Nat} {Ls : Array Slot} {k : Fin 4} {v : Int32} {st : List Value} {l' : Array Slot} (hd : decode code pc = .ok (.istore_n k, 1)) (hl : storeLocals Ls k.val (.int v) = some l') (h : OE FE p e below s Q kc ks T (mkF m (pc + 1) l' (st))) : OE FE p e below s Q kc ks T (mkF m pc Ls (.int v :: st)) := OE.of (fun _ k' => XS.istoreN X.here hx rfl (hb hby hd) rfl hl k') h
theorem OE.lstore (X : Stand p l e R s' m args below meth c T locs cells slots) (hx : p.tables.exec = Jvm.exec) {code : ByteArray} (hby : c.code = code) {pc : Nat} {Ls : Array Slot} {k : Nat} {v : Int64} {st : List Value} {l' : Array Slot} (hd : decode code pc = .ok (.lstore k, 2)) (hl : storeLocals Ls k (.long v) = some l') (h : OE FE p e below s Q kc ks T (mkF m (pc + 2) l' (st))) : OE FE p e below s Q kc ks T (mkF m pc Ls (.long v :: st)) := OE.of (fun _ k' => XS.lstore X.here hx rfl (hb hby hd) rfl hl k') h
theorem OE.lstoreN (X : Stand p l e R s' m args below meth c T locs cells slots) (hx : p.tables.exec = Jvm.exec) {code : ByteArray} (hby : c.code = code) {pc : Nat} {Ls : Array Slot} {k : Fin 4} {v : Int64} {st : List Value} {l' : Array Slot} (hd : decode code pc = .ok (.lstore_n k, 1)) (hl : storeLocals Ls k.val (.long v) = some l') (h : OE FE p e below s Q kc ks T (mkF m (pc + 1) l' (st))) : OE FE p e below s Q kc ks T (mkF m pc Ls (.long v :: st)) := OE.of (fun _ k' => XS.lstoreN X.here hx rfl (hb hby hd) rfl hl k') h
theorem OE.astore (X : Stand p l e R s' m args below meth c T locs cells slots) (hx : p.tables.exec = Jvm.exec) {code : ByteArray} (hby : c.code = code) {pc : Nat} {Ls : Array Slot} {k : Nat} {v : Value} {st : List Value} {l' : Array Slot} (hd : decode code pc = .ok (.astore k, 2)) (hv : v.isRef = true) (hl : storeLocals Ls k v = some l') (h : OE FE p e below s Q kc ks T (mkF m (pc + 2) l' (st))) : OE FE p e below s Q kc ks T (mkF m pc Ls (v :: st)) := OE.of (fun _ k' => XS.astore X.here hx rfl (hb hby hd) rfl hv hl k') h
theorem OE.astoreN (X : Stand p l e R s' m args below meth c T locs cells slots) (hx : p.tables.exec = Jvm.exec) {code : ByteArray} (hby : c.code = code) {pc : Nat} {Ls : Array Slot} {k : Fin 4} {v : Value} {st : List Value} {l' : Array Slot} (hd : decode code pc = .ok (.astore_n k, 1)) (hv : v.isRef = true) (hl : storeLocals Ls k.val v = some l') (h : OE FE p e below s Q kc ks T (mkF m (pc + 1) l' (st))) : OE FE p e below s Q kc ks T (mkF m pc Ls (v :: st)) := OE.of (fun _ k' => XS.astoreN X.here hx rfl (hb hby hd) rfl hv hl k') h
theorem OE.iconst (X : Stand p l e R s' m args below meth c T locs cells slots) (hx : p.tables.exec = Jvm.exec) {code : ByteArray} (hby : c.code = code) {pc : Nat} {Ls : Array Slot} {i : Int} {st : List Value} (hd : decode code pc = .ok (.iconst i, 1)) (z : Int32) (hz : Int32.ofInt i = z) (h : OE FE p e below s Q kc ks T (mkF m (pc + 1) Ls (.int z :: st))) : OE FE p e below s Q kc ks T (mkF m pc Ls (st)) := OE.of (fun _ k' => XS.iconst X.here hx rfl (hb hby hd) (by subst hz; exact k')) h
theorem OE.bipush (X : Stand p l e R s' m args below meth c T locs cells slots) (hx : p.tables.exec = Jvm.exec) {code : ByteArray} (hby : c.code = code) {pc : Nat} {Ls : Array Slot} {i : Int} {st : List Value} (hd : decode code pc = .ok (.bipush i, 2)) (z : Int32) (hz : (Int8.ofInt i).toInt32 = z) (h : OE FE p e below s Q kc ks T (mkF m (pc + 2) Ls (.int z :: st))) : OE FE p e below s Q kc ks T (mkF m pc Ls (st)) := OE.of (fun _ k' => XS.bipush X.here hx rfl (hb hby hd) (by subst hz; exact k')) h
theorem OE.sipush (X : Stand p l e R s' m args below meth c T locs cells slots) (hx : p.tables.exec = Jvm.exec) {code : ByteArray} (hby : c.code = code) {pc : Nat} {Ls : Array Slot} {i : Int} {st : List Value} (hd : decode code pc = .ok (.sipush i, 3)) (z : Int32) (hz : (Int16.ofInt i).toInt32 = z) (h : OE FE p e below s Q kc ks T (mkF m (pc + 3) Ls (.int z :: st))) : OE FE p e below s Q kc ks T (mkF m pc Ls (st)) := OE.of (fun _ k' => XS.sipush X.here hx rfl (hb hby hd) (by subst hz; exact k')) h
theorem OE.lconst (X : Stand p l e R s' m args below meth c T locs cells slots) (hx : p.tables.exec = Jvm.exec) {code : ByteArray} (hby : c.code = code) {pc : Nat} {Ls : Array Slot} {i : Fin 2} {st : List Value} (hd : decode code pc = .ok (.lconst i, 1)) (z : Int64) (hz : Int64.ofNat i = z) (h : OE FE p e below s Q kc ks T (mkF m (pc + 1) Ls (.long z :: st))) : OE FE p e below s Q kc ks T (mkF m pc Ls (st)) := OE.of (fun _ k' => XS.lconst X.here hx rfl (hb hby hd) (by subst hz; exact k')) h
theorem OE.aconstNull (X : Stand p l e R s' m args below meth c T locs cells slots) (hx : p.tables.exec = Jvm.exec) {code : ByteArray} (hby : c.code = code) {pc : Nat} {Ls : Array Slot} {st : List Value} (hd : decode code pc = .ok (.aconst_null, 1))  (h : OE FE p e below s Q kc ks T (mkF m (pc + 1) Ls (.null :: st))) : OE FE p e below s Q kc ks T (mkF m pc Ls (st)) := OE.of (fun _ k' => XS.aconstNull X.here hx rfl (hb hby hd) k') h
theorem OE.iadd (X : Stand p l e R s' m args below meth c T locs cells slots) (hx : p.tables.exec = Jvm.exec) {code : ByteArray} (hby : c.code = code) {pc : Nat} {Ls : Array Slot} {x y : Int32} {st : List Value} (hd : decode code pc = .ok (.iadd, 1))  (h : OE FE p e below s Q kc ks T (mkF m (pc + 1) Ls (.int (x + y) :: st))) : OE FE p e below s Q kc ks T (mkF m pc Ls (.int y :: .int x :: st)) := OE.of (fun _ k' => XS.iadd X.here hx rfl (hb hby hd) rfl k') h
theorem OE.ladd (X : Stand p l e R s' m args below meth c T locs cells slots) (hx : p.tables.exec = Jvm.exec) {code : ByteArray} (hby : c.code = code) {pc : Nat} {Ls : Array Slot} {x y : Int64} {st : List Value} (hd : decode code pc = .ok (.ladd, 1))  (h : OE FE p e below s Q kc ks T (mkF m (pc + 1) Ls (.long (x + y) :: st))) : OE FE p e below s Q kc ks T (mkF m pc Ls (.long y :: .long x :: st)) := OE.of (fun _ k' => XS.ladd X.here hx rfl (hb hby hd) rfl k') h
theorem OE.isub (X : Stand p l e R s' m args below meth c T locs cells slots) (hx : p.tables.exec = Jvm.exec) {code : ByteArray} (hby : c.code = code) {pc : Nat} {Ls : Array Slot} {x y : Int32} {st : List Value} (hd : decode code pc = .ok (.isub, 1))  (h : OE FE p e below s Q kc ks T (mkF m (pc + 1) Ls (.int (x - y) :: st))) : OE FE p e below s Q kc ks T (mkF m pc Ls (.int y :: .int x :: st)) := OE.of (fun _ k' => XS.isub X.here hx rfl (hb hby hd) rfl k') h
theorem OE.lsub (X : Stand p l e R s' m args below meth c T locs cells slots) (hx : p.tables.exec = Jvm.exec) {code : ByteArray} (hby : c.code = code) {pc : Nat} {Ls : Array Slot} {x y : Int64} {st : List Value} (hd : decode code pc = .ok (.lsub, 1))  (h : OE FE p e below s Q kc ks T (mkF m (pc + 1) Ls (.long (x - y) :: st))) : OE FE p e below s Q kc ks T (mkF m pc Ls (.long y :: .long x :: st)) := OE.of (fun _ k' => XS.lsub X.here hx rfl (hb hby hd) rfl k') h
theorem OE.imul (X : Stand p l e R s' m args below meth c T locs cells slots) (hx : p.tables.exec = Jvm.exec) {code : ByteArray} (hby : c.code = code) {pc : Nat} {Ls : Array Slot} {x y : Int32} {st : List Value} (hd : decode code pc = .ok (.imul, 1))  (h : OE FE p e below s Q kc ks T (mkF m (pc + 1) Ls (.int (x * y) :: st))) : OE FE p e below s Q kc ks T (mkF m pc Ls (.int y :: .int x :: st)) := OE.of (fun _ k' => XS.imul X.here hx rfl (hb hby hd) rfl k') h
theorem OE.lmul (X : Stand p l e R s' m args below meth c T locs cells slots) (hx : p.tables.exec = Jvm.exec) {code : ByteArray} (hby : c.code = code) {pc : Nat} {Ls : Array Slot} {x y : Int64} {st : List Value} (hd : decode code pc = .ok (.lmul, 1))  (h : OE FE p e below s Q kc ks T (mkF m (pc + 1) Ls (.long (x * y) :: st))) : OE FE p e below s Q kc ks T (mkF m pc Ls (.long y :: .long x :: st)) := OE.of (fun _ k' => XS.lmul X.here hx rfl (hb hby hd) rfl k') h
theorem OE.iand (X : Stand p l e R s' m args below meth c T locs cells slots) (hx : p.tables.exec = Jvm.exec) {code : ByteArray} (hby : c.code = code) {pc : Nat} {Ls : Array Slot} {x y : Int32} {st : List Value} (hd : decode code pc = .ok (.iand, 1))  (h : OE FE p e below s Q kc ks T (mkF m (pc + 1) Ls (.int (x &&& y) :: st))) : OE FE p e below s Q kc ks T (mkF m pc Ls (.int y :: .int x :: st)) := OE.of (fun _ k' => XS.iand X.here hx rfl (hb hby hd) rfl k') h
theorem OE.land (X : Stand p l e R s' m args below meth c T locs cells slots) (hx : p.tables.exec = Jvm.exec) {code : ByteArray} (hby : c.code = code) {pc : Nat} {Ls : Array Slot} {x y : Int64} {st : List Value} (hd : decode code pc = .ok (.land, 1))  (h : OE FE p e below s Q kc ks T (mkF m (pc + 1) Ls (.long (x &&& y) :: st))) : OE FE p e below s Q kc ks T (mkF m pc Ls (.long y :: .long x :: st)) := OE.of (fun _ k' => XS.land X.here hx rfl (hb hby hd) rfl k') h
theorem OE.ior (X : Stand p l e R s' m args below meth c T locs cells slots) (hx : p.tables.exec = Jvm.exec) {code : ByteArray} (hby : c.code = code) {pc : Nat} {Ls : Array Slot} {x y : Int32} {st : List Value} (hd : decode code pc = .ok (.ior, 1))  (h : OE FE p e below s Q kc ks T (mkF m (pc + 1) Ls (.int (x ||| y) :: st))) : OE FE p e below s Q kc ks T (mkF m pc Ls (.int y :: .int x :: st)) := OE.of (fun _ k' => XS.ior X.here hx rfl (hb hby hd) rfl k') h
theorem OE.lor (X : Stand p l e R s' m args below meth c T locs cells slots) (hx : p.tables.exec = Jvm.exec) {code : ByteArray} (hby : c.code = code) {pc : Nat} {Ls : Array Slot} {x y : Int64} {st : List Value} (hd : decode code pc = .ok (.lor, 1))  (h : OE FE p e below s Q kc ks T (mkF m (pc + 1) Ls (.long (x ||| y) :: st))) : OE FE p e below s Q kc ks T (mkF m pc Ls (.long y :: .long x :: st)) := OE.of (fun _ k' => XS.lor X.here hx rfl (hb hby hd) rfl k') h
theorem OE.ixor (X : Stand p l e R s' m args below meth c T locs cells slots) (hx : p.tables.exec = Jvm.exec) {code : ByteArray} (hby : c.code = code) {pc : Nat} {Ls : Array Slot} {x y : Int32} {st : List Value} (hd : decode code pc = .ok (.ixor, 1))  (h : OE FE p e below s Q kc ks T (mkF m (pc + 1) Ls (.int (x ^^^ y) :: st))) : OE FE p e below s Q kc ks T (mkF m pc Ls (.int y :: .int x :: st)) := OE.of (fun _ k' => XS.ixor X.here hx rfl (hb hby hd) rfl k') h
theorem OE.lxor (X : Stand p l e R s' m args below meth c T locs cells slots) (hx : p.tables.exec = Jvm.exec) {code : ByteArray} (hby : c.code = code) {pc : Nat} {Ls : Array Slot} {x y : Int64} {st : List Value} (hd : decode code pc = .ok (.lxor, 1))  (h : OE FE p e below s Q kc ks T (mkF m (pc + 1) Ls (.long (x ^^^ y) :: st))) : OE FE p e below s Q kc ks T (mkF m pc Ls (.long y :: .long x :: st)) := OE.of (fun _ k' => XS.lxor X.here hx rfl (hb hby hd) rfl k') h
theorem OE.ishl (X : Stand p l e R s' m args below meth c T locs cells slots) (hx : p.tables.exec = Jvm.exec) {code : ByteArray} (hby : c.code = code) {pc : Nat} {Ls : Array Slot} {x y : Int32} {st : List Value} (hd : decode code pc = .ok (.ishl, 1))  (h : OE FE p e below s Q kc ks T (mkF m (pc + 1) Ls (.int (x <<< (y &&& 31)) :: st))) : OE FE p e below s Q kc ks T (mkF m pc Ls (.int y :: .int x :: st)) := OE.of (fun _ k' => XS.ishl X.here hx rfl (hb hby hd) rfl k') h
theorem OE.ishr (X : Stand p l e R s' m args below meth c T locs cells slots) (hx : p.tables.exec = Jvm.exec) {code : ByteArray} (hby : c.code = code) {pc : Nat} {Ls : Array Slot} {x y : Int32} {st : List Value} (hd : decode code pc = .ok (.ishr, 1))  (h : OE FE p e below s Q kc ks T (mkF m (pc + 1) Ls (.int (x >>> (y &&& 31)) :: st))) : OE FE p e below s Q kc ks T (mkF m pc Ls (.int y :: .int x :: st)) := OE.of (fun _ k' => XS.ishr X.here hx rfl (hb hby hd) rfl k') h
theorem OE.iushr (X : Stand p l e R s' m args below meth c T locs cells slots) (hx : p.tables.exec = Jvm.exec) {code : ByteArray} (hby : c.code = code) {pc : Nat} {Ls : Array Slot} {x y : Int32} {st : List Value} (hd : decode code pc = .ok (.iushr, 1))  (h : OE FE p e below s Q kc ks T (mkF m (pc + 1) Ls (.int ((x.toUInt32 >>> (y &&& 31).toUInt32).toInt32) :: st))) : OE FE p e below s Q kc ks T (mkF m pc Ls (.int y :: .int x :: st)) := OE.of (fun _ k' => XS.iushr X.here hx rfl (hb hby hd) rfl k') h
theorem OE.lshl (X : Stand p l e R s' m args below meth c T locs cells slots) (hx : p.tables.exec = Jvm.exec) {code : ByteArray} (hby : c.code = code) {pc : Nat} {Ls : Array Slot} {x : Int64} {y : Int32} {st : List Value} (hd : decode code pc = .ok (.lshl, 1))  (h : OE FE p e below s Q kc ks T (mkF m (pc + 1) Ls (.long (x <<< (y &&& 0x3f).toInt64) :: st))) : OE FE p e below s Q kc ks T (mkF m pc Ls (.int y :: .long x :: st)) := OE.of (fun _ k' => XS.lshl X.here hx rfl (hb hby hd) rfl k') h
theorem OE.lshr (X : Stand p l e R s' m args below meth c T locs cells slots) (hx : p.tables.exec = Jvm.exec) {code : ByteArray} (hby : c.code = code) {pc : Nat} {Ls : Array Slot} {x : Int64} {y : Int32} {st : List Value} (hd : decode code pc = .ok (.lshr, 1))  (h : OE FE p e below s Q kc ks T (mkF m (pc + 1) Ls (.long (x >>> (y &&& 0x3f).toInt64) :: st))) : OE FE p e below s Q kc ks T (mkF m pc Ls (.int y :: .long x :: st)) := OE.of (fun _ k' => XS.lshr X.here hx rfl (hb hby hd) rfl k') h
theorem OE.lushr (X : Stand p l e R s' m args below meth c T locs cells slots) (hx : p.tables.exec = Jvm.exec) {code : ByteArray} (hby : c.code = code) {pc : Nat} {Ls : Array Slot} {x : Int64} {y : Int32} {st : List Value} (hd : decode code pc = .ok (.lushr, 1))  (h : OE FE p e below s Q kc ks T (mkF m (pc + 1) Ls (.long ((x.toUInt64 >>> (y &&& 0x3f).toInt64.toUInt64).toInt64) :: st))) : OE FE p e below s Q kc ks T (mkF m pc Ls (.int y :: .long x :: st)) := OE.of (fun _ k' => XS.lushr X.here hx rfl (hb hby hd) rfl k') h
theorem OE.ineg (X : Stand p l e R s' m args below meth c T locs cells slots) (hx : p.tables.exec = Jvm.exec) {code : ByteArray} (hby : c.code = code) {pc : Nat} {Ls : Array Slot} {x : Int32} {st : List Value} (hd : decode code pc = .ok (.ineg, 1))  (h : OE FE p e below s Q kc ks T (mkF m (pc + 1) Ls (.int (-x) :: st))) : OE FE p e below s Q kc ks T (mkF m pc Ls (.int x :: st)) := OE.of (fun _ k' => XS.ineg X.here hx rfl (hb hby hd) rfl k') h
theorem OE.lneg (X : Stand p l e R s' m args below meth c T locs cells slots) (hx : p.tables.exec = Jvm.exec) {code : ByteArray} (hby : c.code = code) {pc : Nat} {Ls : Array Slot} {x : Int64} {st : List Value} (hd : decode code pc = .ok (.lneg, 1))  (h : OE FE p e below s Q kc ks T (mkF m (pc + 1) Ls (.long (-x) :: st))) : OE FE p e below s Q kc ks T (mkF m pc Ls (.long x :: st)) := OE.of (fun _ k' => XS.lneg X.here hx rfl (hb hby hd) rfl k') h
theorem OE.i2l (X : Stand p l e R s' m args below meth c T locs cells slots) (hx : p.tables.exec = Jvm.exec) {code : ByteArray} (hby : c.code = code) {pc : Nat} {Ls : Array Slot} {x : Int32} {st : List Value} (hd : decode code pc = .ok (.i2l, 1))  (h : OE FE p e below s Q kc ks T (mkF m (pc + 1) Ls (.long x.toInt64 :: st))) : OE FE p e below s Q kc ks T (mkF m pc Ls (.int x :: st)) := OE.of (fun _ k' => XS.i2l X.here hx rfl (hb hby hd) rfl k') h
theorem OE.l2i (X : Stand p l e R s' m args below meth c T locs cells slots) (hx : p.tables.exec = Jvm.exec) {code : ByteArray} (hby : c.code = code) {pc : Nat} {Ls : Array Slot} {x : Int64} {st : List Value} (hd : decode code pc = .ok (.l2i, 1))  (h : OE FE p e below s Q kc ks T (mkF m (pc + 1) Ls (.int x.toInt32 :: st))) : OE FE p e below s Q kc ks T (mkF m pc Ls (.long x :: st)) := OE.of (fun _ k' => XS.l2i X.here hx rfl (hb hby hd) rfl k') h
theorem OE.i2b (X : Stand p l e R s' m args below meth c T locs cells slots) (hx : p.tables.exec = Jvm.exec) {code : ByteArray} (hby : c.code = code) {pc : Nat} {Ls : Array Slot} {x : Int32} {st : List Value} (hd : decode code pc = .ok (.i2b, 1))  (h : OE FE p e below s Q kc ks T (mkF m (pc + 1) Ls (.int x.toInt8.toInt32 :: st))) : OE FE p e below s Q kc ks T (mkF m pc Ls (.int x :: st)) := OE.of (fun _ k' => XS.i2b X.here hx rfl (hb hby hd) rfl k') h
theorem OE.i2s (X : Stand p l e R s' m args below meth c T locs cells slots) (hx : p.tables.exec = Jvm.exec) {code : ByteArray} (hby : c.code = code) {pc : Nat} {Ls : Array Slot} {x : Int32} {st : List Value} (hd : decode code pc = .ok (.i2s, 1))  (h : OE FE p e below s Q kc ks T (mkF m (pc + 1) Ls (.int x.toInt16.toInt32 :: st))) : OE FE p e below s Q kc ks T (mkF m pc Ls (.int x :: st)) := OE.of (fun _ k' => XS.i2s X.here hx rfl (hb hby hd) rfl k') h
theorem OE.i2c (X : Stand p l e R s' m args below meth c T locs cells slots) (hx : p.tables.exec = Jvm.exec) {code : ByteArray} (hby : c.code = code) {pc : Nat} {Ls : Array Slot} {x : Int32} {st : List Value} (hd : decode code pc = .ok (.i2c, 1))  (h : OE FE p e below s Q kc ks T (mkF m (pc + 1) Ls (.int x.toUInt32.toUInt16.toUInt32.toInt32 :: st))) : OE FE p e below s Q kc ks T (mkF m pc Ls (.int x :: st)) := OE.of (fun _ k' => XS.i2c X.here hx rfl (hb hby hd) rfl k') h
theorem OE.lcmp (X : Stand p l e R s' m args below meth c T locs cells slots) (hx : p.tables.exec = Jvm.exec) {code : ByteArray} (hby : c.code = code) {pc : Nat} {Ls : Array Slot} {x y : Int64} {st : List Value} (hd : decode code pc = .ok (.lcmp, 1))  (h : OE FE p e below s Q kc ks T (mkF m (pc + 1) Ls (.int (lcmpW x y) :: st))) : OE FE p e below s Q kc ks T (mkF m pc Ls (.long y :: .long x :: st)) := OE.of (fun _ k' => XS.lcmp X.here hx rfl (hb hby hd) rfl k') h
theorem OE.idiv (X : Stand p l e R s' m args below meth c T locs cells slots) (hx : p.tables.exec = Jvm.exec) {code : ByteArray} (hby : c.code = code) {pc : Nat} {Ls : Array Slot} {x y : Int32} {st : List Value} (hd : decode code pc = .ok (.idiv, 1)) (hy : y ≠ 0) (h : OE FE p e below s Q kc ks T (mkF m (pc + 1) Ls (.int (x / y) :: st))) : OE FE p e below s Q kc ks T (mkF m pc Ls (.int y :: .int x :: st)) := OE.of (fun _ k' => XS.idiv X.here hx rfl (hb hby hd) rfl hy k') h
theorem OE.irem (X : Stand p l e R s' m args below meth c T locs cells slots) (hx : p.tables.exec = Jvm.exec) {code : ByteArray} (hby : c.code = code) {pc : Nat} {Ls : Array Slot} {x y : Int32} {st : List Value} (hd : decode code pc = .ok (.irem, 1)) (hy : y ≠ 0) (h : OE FE p e below s Q kc ks T (mkF m (pc + 1) Ls (.int (x % y) :: st))) : OE FE p e below s Q kc ks T (mkF m pc Ls (.int y :: .int x :: st)) := OE.of (fun _ k' => XS.irem X.here hx rfl (hb hby hd) rfl hy (by rw [irem_eq_mod]; exact k')) h
theorem OE.ldiv (X : Stand p l e R s' m args below meth c T locs cells slots) (hx : p.tables.exec = Jvm.exec) {code : ByteArray} (hby : c.code = code) {pc : Nat} {Ls : Array Slot} {x y : Int64} {st : List Value} (hd : decode code pc = .ok (.ldiv, 1)) (hy : y ≠ 0) (h : OE FE p e below s Q kc ks T (mkF m (pc + 1) Ls (.long (x / y) :: st))) : OE FE p e below s Q kc ks T (mkF m pc Ls (.long y :: .long x :: st)) := OE.of (fun _ k' => XS.ldiv X.here hx rfl (hb hby hd) rfl hy k') h
theorem OE.lrem (X : Stand p l e R s' m args below meth c T locs cells slots) (hx : p.tables.exec = Jvm.exec) {code : ByteArray} (hby : c.code = code) {pc : Nat} {Ls : Array Slot} {x y : Int64} {st : List Value} (hd : decode code pc = .ok (.lrem, 1)) (hy : y ≠ 0) (h : OE FE p e below s Q kc ks T (mkF m (pc + 1) Ls (.long (x % y) :: st))) : OE FE p e below s Q kc ks T (mkF m pc Ls (.long y :: .long x :: st)) := OE.of (fun _ k' => XS.lrem X.here hx rfl (hb hby hd) rfl hy (by rw [lrem_mod]; exact k')) h
theorem OE.iinc (X : Stand p l e R s' m args below meth c T locs cells slots) (hx : p.tables.exec = Jvm.exec) {code : ByteArray} (hby : c.code = code) {pc : Nat} {Ls : Array Slot} {k : Nat} {cst : Int} {x : Int32} {l' : Array Slot} {st : List Value} (hd : decode code pc = .ok (.iinc k cst, 3)) (hl : Ls[k]? = some (.val (.int x))) (hl' : storeLocals Ls k (.int (x + Int32.ofInt cst)) = some l') (h : OE FE p e below s Q kc ks T (mkF m (pc + 3) l' (st))) : OE FE p e below s Q kc ks T (mkF m pc Ls (st)) := OE.of (fun _ k' => XS.iinc X.here hx rfl (hb hby hd) hl hl' k') h
theorem OE.dup (X : Stand p l e R s' m args below meth c T locs cells slots) (hx : p.tables.exec = Jvm.exec) {code : ByteArray} (hby : c.code = code) {pc : Nat} {Ls : Array Slot} {v : Value} {st : List Value} (hd : decode code pc = .ok (.dup, 1)) (hc : v.category = 1) (h : OE FE p e below s Q kc ks T (mkF m (pc + 1) Ls (v :: v :: st))) : OE FE p e below s Q kc ks T (mkF m pc Ls (v :: st)) := OE.of (fun _ k' => XS.dup X.here hx rfl (hb hby hd) rfl hc k') h
theorem OE.pop (X : Stand p l e R s' m args below meth c T locs cells slots) (hx : p.tables.exec = Jvm.exec) {code : ByteArray} (hby : c.code = code) {pc : Nat} {Ls : Array Slot} {v : Value} {st : List Value} (hd : decode code pc = .ok (.pop, 1)) (hc : v.category = 1) (h : OE FE p e below s Q kc ks T (mkF m (pc + 1) Ls (st))) : OE FE p e below s Q kc ks T (mkF m pc Ls (v :: st)) := OE.of (fun _ k' => XS.pop X.here hx rfl (hb hby hd) rfl hc k') h
theorem OE.dupX1 (X : Stand p l e R s' m args below meth c T locs cells slots) (hx : p.tables.exec = Jvm.exec) {code : ByteArray} (hby : c.code = code) {pc : Nat} {Ls : Array Slot} {v w : Value} {st : List Value} (hd : decode code pc = .ok (.dup_x1, 1)) (hc : v.category = 1) (hc' : w.category = 1) (h : OE FE p e below s Q kc ks T (mkF m (pc + 1) Ls (v :: w :: v :: st))) : OE FE p e below s Q kc ks T (mkF m pc Ls (v :: w :: st)) := OE.of (fun _ k' => XS.dupX1 X.here hx rfl (hb hby hd) rfl hc hc' k') h
theorem OE.dup2 (X : Stand p l e R s' m args below meth c T locs cells slots) (hx : p.tables.exec = Jvm.exec) {code : ByteArray} (hby : c.code = code) {pc : Nat} {Ls : Array Slot} {v w : Value} {st : List Value} (hd : decode code pc = .ok (.dup2, 1)) (hc : v.category = 1) (hc' : w.category = 1) (h : OE FE p e below s Q kc ks T (mkF m (pc + 1) Ls (v :: w :: v :: w :: st))) : OE FE p e below s Q kc ks T (mkF m pc Ls (v :: w :: st)) := OE.of (fun _ k' => Jvm.Free.XT.dup2 X.here hx rfl (hb hby hd) rfl hc hc' k') h
theorem OE.dup2L (X : Stand p l e R s' m args below meth c T locs cells slots) (hx : p.tables.exec = Jvm.exec) {code : ByteArray} (hby : c.code = code) {pc : Nat} {Ls : Array Slot} {v : Int64} {st : List Value} (hd : decode code pc = .ok (.dup2, 1))  (h : OE FE p e below s Q kc ks T (mkF m (pc + 1) Ls (.long v :: .long v :: st))) : OE FE p e below s Q kc ks T (mkF m pc Ls (.long v :: st)) := OE.of (fun _ k' => Jvm.Free.XT.dup2L X.here hx rfl (hb hby hd) rfl k') h
theorem OE.goto (X : Stand p l e R s' m args below meth c T locs cells slots) (hx : p.tables.exec = Jvm.exec) {code : ByteArray} (hby : c.code = code) {pc : Nat} {Ls : Array Slot} {o : Int} (pc' : Nat) {st : List Value} (hd : decode code pc = .ok (.goto o, 3)) (ho : 0 ≤ (pc : Int) + o := by decide) (hp : ((pc : Int) + o).toNat = pc' := by decide) (h : OE FE p e below s Q kc ks T (mkF m pc' Ls (st))) : OE FE p e below s Q kc ks T (mkF m pc Ls (st)) := OE.of (fun _ k' => XS.goto X.here hx rfl rfl (hb hby hd) ho hp k') h
theorem OE.ifYes (X : Stand p l e R s' m args below meth c T locs cells slots) (hx : p.tables.exec = Jvm.exec) {code : ByteArray} (hby : c.code = code) {pc : Nat} {Ls : Array Slot} {cd : ClassFile.Cond} {x : Int32} {o : Int} (pc' : Nat) {st : List Value} (hd : decode code pc = .ok (.ifCond cd o, 3)) (hc : if_icmp.holds cd x 0 = true) (ho : 0 ≤ (pc : Int) + o := by decide) (hp : ((pc : Int) + o).toNat = pc' := by decide) (h : OE FE p e below s Q kc ks T (mkF m pc' Ls (st))) : OE FE p e below s Q kc ks T (mkF m pc Ls (.int x :: st)) := OE.of (fun _ k' => XS.ifYes X.here hx rfl rfl (hb hby hd) rfl ((if0 _ _).trans hc) ho hp k') h
theorem OE.ifNo (X : Stand p l e R s' m args below meth c T locs cells slots) (hx : p.tables.exec = Jvm.exec) {code : ByteArray} (hby : c.code = code) {pc : Nat} {Ls : Array Slot} {cd : ClassFile.Cond} {x : Int32} {o : Int} {st : List Value} (hd : decode code pc = .ok (.ifCond cd o, 3)) (hc : if_icmp.holds cd x 0 = false) (h : OE FE p e below s Q kc ks T (mkF m (pc + 3) Ls (st))) : OE FE p e below s Q kc ks T (mkF m pc Ls (.int x :: st)) := OE.of (fun _ k' => XS.ifNo X.here hx rfl (hb hby hd) rfl ((if0 _ _).trans hc) k') h
theorem OE.icmpYes (X : Stand p l e R s' m args below meth c T locs cells slots) (hx : p.tables.exec = Jvm.exec) {code : ByteArray} (hby : c.code = code) {pc : Nat} {Ls : Array Slot} {cd : ClassFile.Cond} {x y : Int32} {o : Int} (pc' : Nat) {st : List Value} (hd : decode code pc = .ok (.if_icmp cd o, 3)) (hc : if_icmp.holds cd x y = true) (ho : 0 ≤ (pc : Int) + o := by decide) (hp : ((pc : Int) + o).toNat = pc' := by decide) (h : OE FE p e below s Q kc ks T (mkF m pc' Ls (st))) : OE FE p e below s Q kc ks T (mkF m pc Ls (.int y :: .int x :: st)) := OE.of (fun _ k' => XS.icmpYes X.here hx rfl rfl (hb hby hd) rfl hc ho hp k') h
theorem OE.icmpNo (X : Stand p l e R s' m args below meth c T locs cells slots) (hx : p.tables.exec = Jvm.exec) {code : ByteArray} (hby : c.code = code) {pc : Nat} {Ls : Array Slot} {cd : ClassFile.Cond} {x y : Int32} {o : Int} {st : List Value} (hd : decode code pc = .ok (.if_icmp cd o, 3)) (hc : if_icmp.holds cd x y = false) (h : OE FE p e below s Q kc ks T (mkF m (pc + 3) Ls (st))) : OE FE p e below s Q kc ks T (mkF m pc Ls (.int y :: .int x :: st)) := OE.of (fun _ k' => XS.icmpNo X.here hx rfl (hb hby hd) rfl hc k') h
theorem OE.ifnullYes (X : Stand p l e R s' m args below meth c T locs cells slots) (hx : p.tables.exec = Jvm.exec) {code : ByteArray} (hby : c.code = code) {pc : Nat} {Ls : Array Slot} {o : Int} (pc' : Nat) {st : List Value} (hd : decode code pc = .ok (.ifnull o, 3)) (ho : 0 ≤ (pc : Int) + o := by decide) (hp : ((pc : Int) + o).toNat = pc' := by decide) (h : OE FE p e below s Q kc ks T (mkF m pc' Ls (st))) : OE FE p e below s Q kc ks T (mkF m pc Ls (.null :: st)) := OE.of (fun _ k' => XS.ifnullYes X.here hx rfl rfl (hb hby hd) rfl ho hp k') h
theorem OE.ifnullNo (X : Stand p l e R s' m args below meth c T locs cells slots) (hx : p.tables.exec = Jvm.exec) {code : ByteArray} (hby : c.code = code) {pc : Nat} {Ls : Array Slot} {b : Addr} {o : Int} {st : List Value} (hd : decode code pc = .ok (.ifnull o, 3))  (h : OE FE p e below s Q kc ks T (mkF m (pc + 3) Ls (st))) : OE FE p e below s Q kc ks T (mkF m pc Ls (.ref b :: st)) := OE.of (fun _ k' => XS.ifnullNo X.here hx rfl (hb hby hd) rfl k') h
theorem OE.ifnonnullYes (X : Stand p l e R s' m args below meth c T locs cells slots) (hx : p.tables.exec = Jvm.exec) {code : ByteArray} (hby : c.code = code) {pc : Nat} {Ls : Array Slot} {b : Addr} {o : Int} (pc' : Nat) {st : List Value} (hd : decode code pc = .ok (.ifnonnull o, 3)) (ho : 0 ≤ (pc : Int) + o := by decide) (hp : ((pc : Int) + o).toNat = pc' := by decide) (h : OE FE p e below s Q kc ks T (mkF m pc' Ls (st))) : OE FE p e below s Q kc ks T (mkF m pc Ls (.ref b :: st)) := OE.of (fun _ k' => XS.ifnonnullYes X.here hx rfl rfl (hb hby hd) rfl ho hp k') h
theorem OE.ifnonnullNo (X : Stand p l e R s' m args below meth c T locs cells slots) (hx : p.tables.exec = Jvm.exec) {code : ByteArray} (hby : c.code = code) {pc : Nat} {Ls : Array Slot} {o : Int} {st : List Value} (hd : decode code pc = .ok (.ifnonnull o, 3))  (h : OE FE p e below s Q kc ks T (mkF m (pc + 3) Ls (st))) : OE FE p e below s Q kc ks T (mkF m pc Ls (.null :: st)) := OE.of (fun _ k' => XS.ifnonnullNo X.here hx rfl (hb hby hd) rfl k') h
end New
end Jvm.RoadKit
namespace Jvm.RoadKit
open Sem ClassFile Op Lib Jvm.Stand Jvm.Free Jvm.LawKit
/-- a private method of a plain class is what a call of it selects -/
theorem own_sel {args a1 a2 : Array Value} {s : State} {y : MethodName} {k : Nat} (hi : (Cond.instanceMethod y).before a1 s = true) (hp : s.PrivateAt y) (hk : (Cond.instantiable y.cls k).before a2 s = true)
    (hy : y.cls ≠ "java/lang/invoke/MethodHandle" ∧ y.cls ≠ "java/lang/invoke/VarHandle") : (Cond.selects y.cls y y).before args s = true := by
  obtain ⟨mk, meth, hn, hm, -, -⟩ := Cond.instanceMethod_spec hi
  obtain ⟨c, k', h1, h2, h3, h4, -, -⟩ := Cond.instantiable_spec hk
  have hf := State.methodFound?_of_named hn hy
  have hc := findClass_of_methodNamed hn
  cases h1.symm.trans hc
  have hs : selectMethod {} s.vm mk.cls mk = .method mk := selectMethod_private hm (hp mk meth hn hm)
  have h5 : k'.isInterface = false := by
    cases hq : k'.isInterface
    · rfl
    · rw [hq] at h4; cases h4
  simp [Cond.before, Cond.holds, Cond.value, hc, hf, hn, hs, h2, h5]
end Jvm.RoadKit
namespace Jvm.Pilot.@@N@@
open Jvm Jvm.ClassFile Sem Op Lib Jvm.Free Jvm.Stand Jvm.LawKit Jvm.RoadKit Bundle Jvm.Pilot.@@N@@.Jvm.D
theorem own_wS {Z : State} {a0 : Array Value} (hw : ∀ d ∈ tables_1, d.before a0 Z = true) : ∀ a ∈ Bundle.stringAtoms, a.before a0 Z = true := (List.forall_mem_cons.mpr ⟨(hw _ (List.mem_of_getElem? (i := 19) rfl)), (List.forall_mem_cons.mpr ⟨(hw _ (List.mem_of_getElem? (i := 20) rfl)), (List.forall_mem_cons.mpr ⟨(hw _ (List.mem_of_getElem? (i := 3) rfl)), (List.forall_mem_cons.mpr ⟨(hw _ (List.mem_of_getElem? (i := 21) rfl)), (List.forall_mem_cons.mpr ⟨(hw _ (List.mem_of_getElem? (i := 22) rfl)), (List.forall_mem_cons.mpr ⟨(hw _ (List.mem_of_getElem? (i := 23) rfl)), (List.forall_mem_cons.mpr ⟨(hw _ (List.mem_of_getElem? (i := 24) rfl)), (fun _ h => nomatch h)⟩)⟩)⟩)⟩)⟩)⟩)⟩)
theorem own_d3_0 : decode jdk_31_method_11_code 0 = .ok (.aload_n 0, 1) := by decide +kernel
theorem own_d3_1 : decode jdk_31_method_11_code 1 = .ok (.ifnonnull 12, 3) := by decide +kernel
theorem own_d3_13 : decode jdk_31_method_11_code 13 = .ok (.aload_n 0, 1) := by decide +kernel
theorem own_d3_14 : decode jdk_31_method_11_code 14 = .ok (.areturn, 1) := by decide +kernel
def own_Q3 (Z : State) (a1 : Addr) (a2 : Addr) (h0 : Heap) (n0 : Nat) (v : Option Value) (h : Heap) (L : List Loc) : Prop := v = some (.ref a1) ∧ Fr n0 L ∧ h = h0
theorem own_pn0 : plainName "java/util/Objects" = true := by first | (simp [plainName, overriddenIn]; done) | decide +kernel
theorem own_ef_own_rm3 (m : MethodId) (a1 : Addr) (a2 : Addr) : entryFrame m #[(.ref a1), (.ref a2)] 2 = mkF m 0 #[.val (.ref a1), .val (.ref a2)] [] := by first | (simp [entryFrame, mkF, argsToLocals, Value.category]; done) | rfl
set_option maxRecDepth 65536 in
set_option maxHeartbeats 40000000 in
theorem own_rm3 (l : Launch) (Z : State) (a0 : Array Value) (hw : ∀ d ∈ tables_1, d.before a0 Z = true) (ws : List Jvm.Cond) (a1 : Addr) (a2 : Addr) (h0 : Heap) (n0 : Nat) (Z0 : n0 ≤ h0.size) :
    MetFree l (⟨"java/util/Objects", "requireNonNull", "(Ljava/lang/Object;Ljava/lang/String;)Ljava/lang/Object;"⟩ : MethodName) (head1 (Jvm.Cond.code (⟨"java/util/Objects", "requireNonNull", "(Ljava/lang/Object;Ljava/lang/String;)Ljava/lang/Object;"⟩ : MethodName) jdk_31_method_11_code 2 (some (.object "java/lang/Object")) :: ws) ({ frames := 0, cells := 0, slots := 0, locals := 0 } : Room)) (fun a U => a = #[(.ref a1), (.ref a2)] ∧ Z.Warmed39 U.vm ∧ U.heap = h0) (fun _ _ _ _ _ => True) (fun _ U o U' => ∃ v L, o = .returned v ∧ own_Q3 Z a1 a2 h0 n0 v U'.heap L ∧ FrameEnd U o U' L ({ frames := 0, cells := 0, slots := 0, locals := 0 } : Room).cells ({ frames := 0, cells := 0, slots := 0, locals := 0 } : Room).slots) := by
  refine MetFree.of_bodySF (plainFor_of_name own_pn0) hisR ?_
  intro p e s m args below meth c s₁ Bd hml0 hP hK
  obtain ⟨rfl, hZ, hh⟩ := hP
  have hx := Bd.exec
  have hby := Bd.bytes
  have hml : c.maxLocals = 2 := hml0
  have hown : s.vm.findClass "java/util/Objects" = some m.cls := findClass_of_methodNamed Bd.named
  have hnm := (name_of_methodNamed Bd.named Bd.method).1
  have X0 : Stand p l e ({ frames := 0, cells := 0, slots := 0, locals := 0 } : Room) s m #[(.ref a1), (.ref a2)] below meth c s₁ [] 0 0 := Stand.of_body Bd
  have e0 : s₁.heap = h0 := by rw [← hh, Bd.state]; rfl
  have N0 := Fr.nil n0
  show OE FrameEnd p e below s (own_Q3 Z a1 a2 h0 n0) ({ frames := 0, cells := 0, slots := 0, locals := 0 } : Room).cells ({ frames := 0, cells := 0, slots := 0, locals := 0 } : Room).slots s₁ (entryFrame m #[(.ref a1), (.ref a2)] 2)
  rw [own_ef_own_rm3]
  show OE _ p e below s _ _ _ s₁ (mkF m 0 #[.val (.ref a1), .val (.ref a2)] [])
  refine OE.aloadN X0 hx hby own_d3_0 rfl rfl ?_
  refine OE.ifnonnullYes X0 hx hby (pc' := 13) own_d3_1 (h := ?_)
  refine OE.aloadN X0 hx hby own_d3_13 rfl rfl ?_
  refine OE.retA X0 hx rfl Bd.returns rfl Bd.notSynchronized (hb hby own_d3_14) (by decide) (by decide) ?_
  rw [e0]
  exact ⟨rfl, N0, rfl⟩
theorem own_d1_0 : decode prog_26_method_1_code 0 = .ok (.aload_n 0, 1) := by decide +kernel
theorem own_d1_1 : decode prog_26_method_1_code 1 = .ok (.invokespecial 1, 3) := by decide +kernel
theorem own_d1_4 : decode prog_26_method_1_code 4 = .ok (.aload_n 0, 1) := by decide +kernel
theorem own_d1_5 : decode prog_26_method_1_code 5 = .ok (.ldc2_w 9, 3) := by decide +kernel
theorem own_d1_8 : decode prog_26_method_1_code 8 = .ok (.putfield 11, 3) := by decide +kernel
theorem own_d1_11 : decode prog_26_method_1_code 11 = .ok (.aload_n 0, 1) := by decide +kernel
theorem own_d1_12 : decode prog_26_method_1_code 12 = .ok (.ldc 19, 2) := by decide +kernel
theorem own_d1_14 : decode prog_26_method_1_code 14 = .ok (.putfield 20, 3) := by decide +kernel
theorem own_d1_17 : decode prog_26_method_1_code 17 = .ok (.aload_n 0, 1) := by decide +kernel
theorem own_d1_18 : decode prog_26_method_1_code 18 = .ok (.aconst_null, 1) := by decide +kernel
theorem own_d1_19 : decode prog_26_method_1_code 19 = .ok (.putfield 24, 3) := by decide +kernel
theorem own_d1_22 : decode prog_26_method_1_code 22 = .ok (.aload_n 0, 1) := by decide +kernel
theorem own_d1_23 : decode prog_26_method_1_code 23 = .ok (.aload_n 1, 1) := by decide +kernel
theorem own_d1_24 : decode prog_26_method_1_code 24 = .ok (.ldc 28, 2) := by decide +kernel
theorem own_d1_26 : decode prog_26_method_1_code 26 = .ok (.invokestatic 30, 3) := by decide +kernel
theorem own_pd0 : parseMethodDescriptor "(Ljava/lang/Object;Ljava/lang/String;)Ljava/lang/Object;" = some ⟨[(.object "java/lang/Object"), (.object "java/lang/String")], some (.object "java/lang/Object")⟩ := by decide +kernel
theorem own_d1_29 : decode prog_26_method_1_code 29 = .ok (.checkcast 36, 3) := by decide +kernel
theorem own_d1_32 : decode prog_26_method_1_code 32 = .ok (.putfield 38, 3) := by decide +kernel
theorem own_d1_35 : decode prog_26_method_1_code 35 = .ok (.aload_n 0, 1) := by decide +kernel
theorem own_d1_36 : decode prog_26_method_1_code 36 = .ok (.aload_n 1, 1) := by decide +kernel
theorem own_d1_37 : decode prog_26_method_1_code 37 = .ok (.arraylength, 1) := by decide +kernel
theorem own_d1_38 : decode prog_26_method_1_code 38 = .ok (.putfield 41, 3) := by decide +kernel
theorem own_d1_41 : decode prog_26_method_1_code 41 = .ok (.aload_n 0, 1) := by decide +kernel
theorem own_d1_42 : decode prog_26_method_1_code 42 = .ok (.aload_n 1, 1) := by decide +kernel
theorem own_d1_43 : decode prog_26_method_1_code 43 = .ok (.arraylength, 1) := by decide +kernel
theorem own_d1_44 : decode prog_26_method_1_code 44 = .ok (.putfield 44, 3) := by decide +kernel
theorem own_d1_47 : decode prog_26_method_1_code 47 = .ok (.return_, 1) := by decide +kernel
def own_Q1 (Z : State) (a1 : Addr) (a2 : Addr) (k_a2 : ClassId) (n_a2 : Int32) (vs_a2 : List Value) (h0 : Heap) (n0 : Nat) (v : Option Value) (h : Heap) (L : List Loc) : Prop := v = none ∧ Fr n0 L ∧ Keep h0 h [a1] ∧ Exa Z h a1 "com/example/bytewright/bytewright/io/Input" ∧ Fld Z h a1 "com/example/bytewright/bytewright/io/Input" "end" "J" (.long (9223372036854775807 : Int64)) ∧ Fld Z h a1 "com/example/bytewright/bytewright/io/Input" "source" "Lcom/example/bytewright/bytewright/io/Input$Source;" .null ∧ Fld Z h a1 "com/example/bytewright/bytewright/io/Input" "limit" "I" (.int n_a2) ∧ Fld Z h a1 "com/example/bytewright/bytewright/io/Input" "filled" "I" (.int n_a2) ∧ Fld Z h a1 "com/example/bytewright/bytewright/io/Input" "position" "I" (.int (0 : Int32)) ∧ Fld Z h a1 "com/example/bytewright/bytewright/io/Input" "consumed" "J" (.long (0 : Int64))
theorem own_pn1 : plainName "com/example/bytewright/bytewright/io/Input" = true := by first | (simp [plainName, overriddenIn]; done) | decide +kernel
theorem own_ef_own_rm1 (m : MethodId) (a1 : Addr) (a2 : Addr) : entryFrame m #[(.ref a1), (.ref a2)] 2 = mkF m 0 #[.val (.ref a1), .val (.ref a2)] [] := by first | (simp [entryFrame, mkF, argsToLocals, Value.category]; done) | rfl
set_option maxRecDepth 65536 in
set_option maxHeartbeats 40000000 in
theorem own_rm1 (l : Launch) (Z : State) (a0 : Array Value) (hw : ∀ d ∈ tables_1, d.before a0 Z = true) (ws : List Jvm.Cond) (a1 : Addr) (a2 : Addr) (k_a2 : ClassId) (n_a2 : Int32) (vs_a2 : List Value) (h0 : Heap) (n0 : Nat) (Z0 : n0 ≤ h0.size) (E_a1 : Exa Z h0 a1 "com/example/bytewright/bytewright/io/Input") (F_end_a1 : Fld Z h0 a1 "com/example/bytewright/bytewright/io/Input" "end" "J" (.long (0 : Int64))) (F_maxArrayLength_a1 : Fld Z h0 a1 "com/example/bytewright/bytewright/io/Input" "maxArrayLength" "I" (.int (0 : Int32))) (F_source_a1 : Fld Z h0 a1 "com/example/bytewright/bytewright/io/Input" "source" "Lcom/example/bytewright/bytewright/io/Input$Source;" .null) (F_buffer_a1 : Fld Z h0 a1 "com/example/bytewright/bytewright/io/Input" "buffer" "[B" .null) (F_limit_a1 : Fld Z h0 a1 "com/example/bytewright/bytewright/io/Input" "limit" "I" (.int (0 : Int32))) (F_filled_a1 : Fld Z h0 a1 "com/example/bytewright/bytewright/io/Input" "filled" "I" (.int (0 : Int32))) (F_position_a1 : Fld Z h0 a1 "com/example/bytewright/bytewright/io/Input" "position" "I" (.int (0 : Int32))) (F_consumed_a1 : Fld Z h0 a1 "com/example/bytewright/bytewright/io/Input" "consumed" "J" (.long (0 : Int64))) (V_a2 : Arv Z h0 a2 k_a2 .byte n_a2 vs_a2 (.int (0 : Int32))) (E_a2 : Exa Z h0 a2 "[B") (g_a1 : n0 ≤ a1) (ne_a2_a1 : a2 ≠ a1) :
    MetFree l (⟨"com/example/bytewright/bytewright/io/Input", "<init>", "([B)V"⟩ : MethodName) (head1 (Jvm.Cond.code (⟨"com/example/bytewright/bytewright/io/Input", "<init>", "([B)V"⟩ : MethodName) prog_26_method_1_code 2 none :: ws) ({ frames := 1, cells := 2, slots := 24, locals := 14 } : Room)) (fun a U => a = #[(.ref a1), (.ref a2)] ∧ Z.Warmed39 U.vm ∧ U.heap = h0) (fun _ _ _ _ _ => True) (fun _ U o U' => ∃ v L, o = .returned v ∧ own_Q1 Z a1 a2 k_a2 n_a2 vs_a2 h0 n0 v U'.heap L ∧ ReturnedEndW U o U' L ({ frames := 1, cells := 2, slots := 24, locals := 14 } : Room).cells ({ frames := 1, cells := 2, slots := 24, locals := 14 } : Room).slots) := by
  refine MetFree.of_bodySF (plainFor_of_name own_pn1) hisR ?_
  intro p e s m args below meth c s₁ Bd hml0 hP hK
  obtain ⟨rfl, hZ, hh⟩ := hP
  have hx := Bd.exec
  have hby := Bd.bytes
  have hml : c.maxLocals = 2 := hml0
  have hown : s.vm.findClass "com/example/bytewright/bytewright/io/Input" = some m.cls := findClass_of_methodNamed Bd.named
  have hnm := (name_of_methodNamed Bd.named Bd.method).1
  have X0 : Stand p l e ({ frames := 1, cells := 2, slots := 24, locals := 14 } : Room) s m #[(.ref a1), (.ref a2)] below meth c s₁ [] 0 0 := Stand.of_body Bd
  have e0 : s₁.heap = h0 := by rw [← hh, Bd.state]; rfl
  have N0 := Fr.nil n0
  have hS0 : s.Since s.vm 0 := (State.WarmedH.refl s).since 0
  show OE ReturnedEndW p e below s (own_Q1 Z a1 a2 k_a2 n_a2 vs_a2 h0 n0) ({ frames := 1, cells := 2, slots := 24, locals := 14 } : Room).cells ({ frames := 1, cells := 2, slots := 24, locals := 14 } : Room).slots s₁ (entryFrame m #[(.ref a1), (.ref a2)] 2)
  rw [own_ef_own_rm1]
  show OE _ p e below s _ _ _ s₁ (mkF m 0 #[.val (.ref a1), .val (.ref a2)] [])
  refine OE.aloadN X0 hx hby own_d1_0 rfl rfl ?_
  obtain ⟨T1, X1, e1, st1⟩ := initO X0 hx hZ hown (hw _ (List.mem_of_getElem? (i := 7) rfl)) (hw _ (List.mem_of_getElem? (i := 8) rfl)) (hw _ (List.mem_of_getElem? (i := 9) rfl)) e0 (g := (mkF m 1 #[.val (.ref a1), .val (.ref a2)] [(.ref a1)])) rfl (by rw [hml]; rfl) rfl (hb hby own_d1_1) (by decide) (W := 0) (by show 2 * 0 + _ ≤ _; exact Nat.le_of_eq rfl) (by decide)
  refine OE.of st1 ?_
  show OE _ p e below s _ _ _ T1 (mkF m 4 #[.val (.ref a1), .val (.ref a2)] [])
  refine OE.aloadN X1 hx hby own_d1_4 rfl rfl ?_
  refine OE.of (X1.ldc2Long hx hown (mvT hZ (hw _ (List.mem_of_getElem? (i := 10) rfl))) (g := (mkF m 5 #[.val (.ref a1), .val (.ref a2)] [(.ref a1)])) rfl (hb hby own_d1_5)) ?_
  show OE _ p e below s _ _ _ T1 (mkF m 8 #[.val (.ref a1), .val (.ref a2)] [(.long (9223372036854775807 : Int64)), (.ref a1)])
  obtain ⟨T2, h2, X2, e2, W2, st2⟩ := putF X1 hx hZ hown (host := "") (Or.inl (hw _ (List.mem_of_getElem? (i := 11) rfl))) Via.refl e1 F_end_a1 E_a1 (Or.inl (hw _ (List.mem_of_getElem? (i := 12) rfl))) (hw _ (List.mem_of_getElem? (i := 1) rfl)) (ty := .long) (by decide) rfl rfl (g := (mkF m 8 #[.val (.ref a1), .val (.ref a2)] [(.long (9223372036854775807 : Int64)), (.ref a1)])) rfl rfl (hb hby own_d1_8)
  refine OE.of st2 ?_
  have N2 := Fr.snoc X2 N0 g_a1
  have Fw2 := F_end_a1.same W2
  show OE _ p e below s _ _ _ T2 (mkF m 11 #[.val (.ref a1), .val (.ref a2)] [])
  refine OE.aloadN X2 hx hby own_d1_11 rfl rfl ?_
  refine OE.of (X2.ldcInt hx hown (mvT hZ (hw _ (List.mem_of_getElem? (i := 13) rfl))) (g := (mkF m 12 #[.val (.ref a1), .val (.ref a2)] [(.ref a1)])) rfl (hb hby own_d1_12)) ?_
  show OE _ p e below s _ _ _ T2 (mkF m 14 #[.val (.ref a1), .val (.ref a2)] [(.int (2147483647 : Int32)), (.ref a1)])
  have f3 : Exa Z h2 a1 "com/example/bytewright/bytewright/io/Input" := (E_a1.wr W2)
  have f4 : Fld Z h2 a1 "com/example/bytewright/bytewright/io/Input" "maxArrayLength" "I" (.int (0 : Int32)) := (F_maxArrayLength_a1.other W2 (Or.inr (slot_ne (Or.inl (hw _ (List.mem_of_getElem? (i := 15) rfl))) (Or.inl (hw _ (List.mem_of_getElem? (i := 12) rfl))) (by decide) (t := .int) (t' := .long) (by decide) (by decide))))
  obtain ⟨T5, h5, X5, e5, W5, st5⟩ := putF X2 hx hZ hown (host := "") (Or.inl (hw _ (List.mem_of_getElem? (i := 14) rfl))) Via.refl e2 f4 f3 (Or.inl (hw _ (List.mem_of_getElem? (i := 15) rfl))) (hw _ (List.mem_of_getElem? (i := 1) rfl)) (ty := .int) (by decide) rfl rfl (g := (mkF m 14 #[.val (.ref a1), .val (.ref a2)] [(.int (2147483647 : Int32)), (.ref a1)])) rfl rfl (hb hby own_d1_14)
  refine OE.of st5 ?_
  have N5 := Fr.snoc X5 N2 g_a1
  have Fw5 := f4.same W5
  show OE _ p e below s _ _ _ T5 (mkF m 17 #[.val (.ref a1), .val (.ref a2)] [])
  refine OE.aloadN X5 hx hby own_d1_17 rfl rfl ?_
  refine OE.aconstNull X5 hx hby own_d1_18 ?_
  have f6 : Exa Z h5 a1 "com/example/bytewright/bytewright/io/Input" := (f3.wr W5)
  have f7 : Fld Z h5 a1 "com/example/bytewright/bytewright/io/Input" "source" "Lcom/example/bytewright/bytewright/io/Input$Source;" .null := ((F_source_a1.other W2 (Or.inr (slot_ne (Or.inr (hw _ (List.mem_of_getElem? (i := 17) rfl))) (Or.inl (hw _ (List.mem_of_getElem? (i := 12) rfl))) (by decide) (t := (.object "com/example/bytewright/bytewright/io/Input$Source")) (t' := .long) (by decide) (by decide)))).other W5 (Or.inr (slot_ne (Or.inr (hw _ (List.mem_of_getElem? (i := 17) rfl))) (Or.inl (hw _ (List.mem_of_getElem? (i := 15) rfl))) (by decide) (t := (.object "com/example/bytewright/bytewright/io/Input$Source")) (t' := .int) (by decide) (by decide))))
  obtain ⟨T8, h8, X8, e8, W8, st8⟩ := putF X5 hx hZ hown (host := "") (Or.inl (hw _ (List.mem_of_getElem? (i := 16) rfl))) Via.refl e5 f7 f6 (Or.inr ⟨(hw _ (List.mem_of_getElem? (i := 17) rfl)), rfl, hnm⟩) (hw _ (List.mem_of_getElem? (i := 1) rfl)) (ty := (.object "com/example/bytewright/bytewright/io/Input$Source")) (by decide) rfl rfl (g := (mkF m 19 #[.val (.ref a1), .val (.ref a2)] [.null, (.ref a1)])) rfl rfl (hb hby own_d1_19)
  refine OE.of st8 ?_
  have N8 := Fr.snoc X8 N5 g_a1
  have Fw8 := f7.same W8
  show OE _ p e below s _ _ _ T8 (mkF m 22 #[.val (.ref a1), .val (.ref a2)] [])
  refine OE.aloadN X8 hx hby own_d1_22 rfl rfl ?_
  refine OE.aloadN X8 hx hby own_d1_23 rfl rfl ?_
  have zs10 : 0 ≤ h8.size := (Nat.le_trans (Nat.le_trans (Nat.le_trans (Nat.zero_le _) (Nat.le_of_eq W2.size.symm)) (Nat.le_of_eq W5.size.symm)) (Nat.le_of_eq W8.size.symm))
  obtain ⟨sa9, T9, h9, k9, X9, e9, E9, hS9, hkS9, hZ9, hown9, st9⟩ := ldcS (s := s) (vm0 := s.vm) X8 hx hZ hown (hw _ (List.mem_of_getElem? (i := 18) rfl)) (own_wS hw) e8 hS0 zs10 (g := (mkF m 24 #[.val (.ref a1), .val (.ref a2)] [(.ref a2), (.ref a1)])) rfl (hb hby own_d1_24) (n := 20) (by decide) (by decide) (by decide) (by decide)
  refine OE.of st9 ?_
  show OE _ p e below s _ _ _ T9 (mkF m 26 #[.val (.ref a1), .val (.ref a2)] [(.ref sa9), (.ref a2), (.ref a1)])
  have z11 : n0 ≤ h9.size := (Nat.le_trans (Nat.le_trans (Nat.le_trans (Nat.le_trans Z0 (Nat.le_of_eq W2.size.symm)) (Nat.le_of_eq W5.size.symm)) (Nat.le_of_eq W8.size.symm)) E9.1)
  obtain ⟨_, _, ⟨T12, L12, k12, n12⟩, -, X12, ⟨Lc12, hQ12, l12, y12, z12⟩, st12⟩ := Jvm.LawKit.callS X9 hx (y := (⟨"java/util/Objects", "requireNonNull", "(Ljava/lang/Object;Ljava/lang/String;)Ljava/lang/Object;"⟩ : MethodName)) hown9 (mvT hZ9 (hw _ (List.mem_of_getElem? (i := 25) rfl))) (mvT hZ9 (hw _ (List.mem_of_getElem? (i := 26) rfl))) (mvT hZ9 (hw _ (List.mem_of_getElem? (i := 27) rfl))) (mvT hZ9 (hw _ (List.mem_of_getElem? (i := 28) rfl))) (by decide) (backOf (W := 1) (own_rm3 l Z a0 hw [] a2 sa9 h9 n0 z11 ) hZ9 (hw _ (List.mem_of_getElem? (i := 28) rfl)) (hw _ (List.mem_of_getElem? (i := 27) rfl)) (by decide) (by decide)) (g := (mkF m 26 #[.val (.ref a1), .val (.ref a2)] [(.ref sa9), (.ref a2), (.ref a1)])) rfl (by rw [hml]; rfl) (argsL := [(.ref a2), (.ref sa9)]) (rest := [(.ref a1)]) (lenOf own_pd0 rfl) rfl (by show 2 * 0 + _ ≤ _; exact Nat.le_of_eq rfl) (hb hby own_d1_26) (fun _ _ => ⟨rfl, e9, (by decide : 2 + 0 ≤ _), (by decide : 24 + 0 ≤ _)⟩)
  dsimp only [Pt.U, Pt.locs, Pt.cells, Pt.slots] at X12 l12 y12 z12 st12 hQ12
  subst l12 y12 z12
  obtain ⟨rfl, Nq12, eq12⟩ := hQ12
  refine OE.of (fun _ k => st12 _ k) ?_
  have N12 := Fr.app N8 Nq12
  show OE _ p e below s _ _ _ T12 (mkF m 29 #[.val (.ref a1), .val (.ref a2)] [(.ref a2), (.ref a1)])
  have f13 : Exa Z h9 a2 "[B" := ((((E_a2.wr W2).wr W5).wr W8).ext E9)
  obtain ⟨T14, X14, e14, st14⟩ := castY X12 hx hZ9 hown9 (hw _ (List.mem_of_getElem? (i := 29) rfl)) eq12 (Ins.self f13) (g := (mkF m 29 #[.val (.ref a1), .val (.ref a2)] [(.ref a2), (.ref a1)])) rfl rfl (hb hby own_d1_29)
  refine OE.of st14 ?_
  show OE _ p e below s _ _ _ T14 (mkF m 32 #[.val (.ref a1), .val (.ref a2)] [(.ref a2), (.ref a1)])
  have f15 : Exa Z h9 a1 "com/example/bytewright/bytewright/io/Input" := ((f6.wr W8).ext E9)
  have f16 : Fld Z h9 a1 "com/example/bytewright/bytewright/io/Input" "buffer" "[B" .null := ((((F_buffer_a1.other W2 (Or.inr (slot_ne (Or.inr (hw _ (List.mem_of_getElem? (i := 32) rfl))) (Or.inl (hw _ (List.mem_of_getElem? (i := 12) rfl))) (by decide) (t := (.array .byte)) (t' := .long) (by decide) (by decide)))).other W5 (Or.inr (slot_ne (Or.inr (hw _ (List.mem_of_getElem? (i := 32) rfl))) (Or.inl (hw _ (List.mem_of_getElem? (i := 15) rfl))) (by decide) (t := (.array .byte)) (t' := .int) (by decide) (by decide)))).other W8 (Or.inr (slot_ne (Or.inr (hw _ (List.mem_of_getElem? (i := 32) rfl))) (Or.inr (hw _ (List.mem_of_getElem? (i := 17) rfl))) (by decide) (t := (.array .byte)) (t' := (.object "com/example/bytewright/bytewright/io/Input$Source")) (by decide) (by decide)))).ext E9)
  obtain ⟨T17, h17, X17, e17, W17, st17⟩ := putF X14 hx hZ9 hown9 (host := "") (Or.inl (hw _ (List.mem_of_getElem? (i := 31) rfl))) Via.refl e14 f16 f15 (Or.inr ⟨(hw _ (List.mem_of_getElem? (i := 32) rfl)), rfl, hnm⟩) (hw _ (List.mem_of_getElem? (i := 1) rfl)) (ty := (.array .byte)) (by decide) rfl rfl (g := (mkF m 32 #[.val (.ref a1), .val (.ref a2)] [(.ref a2), (.ref a1)])) rfl rfl (hb hby own_d1_32)
  refine OE.of st17 ?_
  have N17 := Fr.snoc X17 N12 g_a1
  have Fw17 := f16.same W17
  show OE _ p e below s _ _ _ T17 (mkF m 35 #[.val (.ref a1), .val (.ref a2)] [])
  refine OE.aloadN X17 hx hby own_d1_35 rfl rfl ?_
  refine OE.aloadN X17 hx hby own_d1_36 rfl rfl ?_
  have f18 : Arv Z h17 a2 k_a2 .byte n_a2 vs_a2 (.int (0 : Int32)) := (((((V_a2.other W2 ne_a2_a1).other W5 ne_a2_a1).other W8 ne_a2_a1).ext E9).other W17 ne_a2_a1)
  have Vo19 := f18
  obtain ⟨cl19, Ar19, -, Sz19, Nz19, -, -⟩ := Vo19
  refine OE.of (X17.arraylength hx (by rw [e17]; exact Ar19.1) (State.isArrayOf_alike hZ9.alike Ar19.2.1) (g := (mkF m 37 #[.val (.ref a1), .val (.ref a2)] [(.ref a2), (.ref a1)])) rfl rfl (hb hby own_d1_37)) ?_
  rw [len_of Sz19 Nz19]
  show OE _ p e below s _ _ _ T17 (mkF m 38 #[.val (.ref a1), .val (.ref a2)] [(.int n_a2), (.ref a1)])
  have f20 : Exa Z h17 a1 "com/example/bytewright/bytewright/io/Input" := (f15.wr W17)
  have f21 : Fld Z h17 a1 "com/example/bytewright/bytewright/io/Input" "limit" "I" (.int (0 : Int32)) := (((((F_limit_a1.other W2 (Or.inr (slot_ne (Or.inl (hw _ (List.mem_of_getElem? (i := 34) rfl))) (Or.inl (hw _ (List.mem_of_getElem? (i := 12) rfl))) (by decide) (t := .int) (t' := .long) (by decide) (by decide)))).other W5 (Or.inr (slot_ne (Or.inl (hw _ (List.mem_of_getElem? (i := 34) rfl))) (Or.inl (hw _ (List.mem_of_getElem? (i := 15) rfl))) (by decide) (t := .int) (t' := .int) (by decide) (by decide)))).other W8 (Or.inr (slot_ne (Or.inl (hw _ (List.mem_of_getElem? (i := 34) rfl))) (Or.inr (hw _ (List.mem_of_getElem? (i := 17) rfl))) (by decide) (t := .int) (t' := (.object "com/example/bytewright/bytewright/io/Input$Source")) (by decide) (by decide)))).ext E9).other W17 (Or.inr (slot_ne (Or.inl (hw _ (List.mem_of_getElem? (i := 34) rfl))) (Or.inr (hw _ (List.mem_of_getElem? (i := 32) rfl))) (by decide) (t := .int) (t' := (.array .byte)) (by decide) (by decide))))
  obtain ⟨T22, h22, X22, e22, W22, st22⟩ := putF X17 hx hZ9 hown9 (host := "") (Or.inl (hw _ (List.mem_of_getElem? (i := 33) rfl))) Via.refl e17 f21 f20 (Or.inl (hw _ (List.mem_of_getElem? (i := 34) rfl))) (hw _ (List.mem_of_getElem? (i := 1) rfl)) (ty := .int) (by decide) rfl rfl (g := (mkF m 38 #[.val (.ref a1), .val (.ref a2)] [(.int n_a2), (.ref a1)])) rfl rfl (hb hby own_d1_38)
  refine OE.of st22 ?_
  have N22 := Fr.snoc X22 N17 g_a1
  have Fw22 := f21.same W22
  show OE _ p e below s _ _ _ T22 (mkF m 41 #[.val (.ref a1), .val (.ref a2)] [])
  refine OE.aloadN X22 hx hby own_d1_41 rfl rfl ?_
  refine OE.aloadN X22 hx hby own_d1_42 rfl rfl ?_
  have f23 : Arv Z h22 a2 k_a2 .byte n_a2 vs_a2 (.int (0 : Int32)) := (f18.other W22 ne_a2_a1)
  have Vo24 := f23
  obtain ⟨cl24, Ar24, -, Sz24, Nz24, -, -⟩ := Vo24
  refine OE.of (X22.arraylength hx (by rw [e22]; exact Ar24.1) (State.isArrayOf_alike hZ9.alike Ar24.2.1) (g := (mkF m 43 #[.val (.ref a1), .val (.ref a2)] [(.ref a2), (.ref a1)])) rfl rfl (hb hby own_d1_43)) ?_
  rw [len_of Sz24 Nz24]
  show OE _ p e below s _ _ _ T22 (mkF m 44 #[.val (.ref a1), .val (.ref a2)] [(.int n_a2), (.ref a1)])
  have f25 : Exa Z h22 a1 "com/example/bytewright/bytewright/io/Input" := (f20.wr W22)
  have f26 : Fld Z h22 a1 "com/example/bytewright/bytewright/io/Input" "filled" "I" (.int (0 : Int32)) := ((((((F_filled_a1.other W2 (Or.inr (slot_ne (Or.inl (hw _ (List.mem_of_getElem? (i := 36) rfl))) (Or.inl (hw _ (List.mem_of_getElem? (i := 12) rfl))) (by decide) (t := .int) (t' := .long) (by decide) (by decide)))).other W5 (Or.inr (slot_ne (Or.inl (hw _ (List.mem_of_getElem? (i := 36) rfl))) (Or.inl (hw _ (List.mem_of_getElem? (i := 15) rfl))) (by decide) (t := .int) (t' := .int) (by decide) (by decide)))).other W8 (Or.inr (slot_ne (Or.inl (hw _ (List.mem_of_getElem? (i := 36) rfl))) (Or.inr (hw _ (List.mem_of_getElem? (i := 17) rfl))) (by decide) (t := .int) (t' := (.object "com/example/bytewright/bytewright/io/Input$Source")) (by decide) (by decide)))).ext E9).other W17 (Or.inr (slot_ne (Or.inl (hw _ (List.mem_of_getElem? (i := 36) rfl))) (Or.inr (hw _ (List.mem_of_getElem? (i := 32) rfl))) (by decide) (t := .int) (t' := (.array .byte)) (by decide) (by decide)))).other W22 (Or.inr (slot_ne (Or.inl (hw _ (List.mem_of_getElem? (i := 36) rfl))) (Or.inl (hw _ (List.mem_of_getElem? (i := 34) rfl))) (by decide) (t := .int) (t' := .int) (by decide) (by decide))))
  obtain ⟨T27, h27, X27, e27, W27, st27⟩ := putF X22 hx hZ9 hown9 (host := "") (Or.inl (hw _ (List.mem_of_getElem? (i := 35) rfl))) Via.refl e22 f26 f25 (Or.inl (hw _ (List.mem_of_getElem? (i := 36) rfl))) (hw _ (List.mem_of_getElem? (i := 1) rfl)) (ty := .int) (by decide) rfl rfl (g := (mkF m 44 #[.val (.ref a1), .val (.ref a2)] [(.int n_a2), (.ref a1)])) rfl rfl (hb hby own_d1_44)
  refine OE.of st27 ?_
  have N27 := Fr.snoc X27 N22 g_a1
  have Fw27 := f26.same W27
  show OE _ p e below s _ _ _ T27 (mkF m 47 #[.val (.ref a1), .val (.ref a2)] [])
  have zs28 : k9 ≤ h27.size := (Nat.le_trans (Nat.le_trans (Nat.le_trans hkS9 (Nat.le_of_eq W17.size.symm)) (Nat.le_of_eq W22.size.symm)) (Nat.le_of_eq W27.size.symm))
  refine OE.ret0W (s := s) (vm1 := T9.vm) hS9 (by rw [e27]; exact zs28) X27 hx Bd.returns Bd.notSynchronized (hb hby own_d1_47) (by decide) (by decide) ?_
  rw [e27]
  have K29 : Keep h0 h27 [a1] := (Keep.wr (Keep.wr (Keep.wr (Keep.ext (Keep.wr (Keep.wr (Keep.wr (Keep.refl h0 [a1]) W2 (Or.inl (List.mem_of_getElem? (i := 0) rfl))) W5 (Or.inl (List.mem_of_getElem? (i := 0) rfl))) W8 (Or.inl (List.mem_of_getElem? (i := 0) rfl))) E9) W17 (Or.inl (List.mem_of_getElem? (i := 0) rfl))) W22 (Or.inl (List.mem_of_getElem? (i := 0) rfl))) W27 (Or.inl (List.mem_of_getElem? (i := 0) rfl)))
  have f30 : Exa Z h27 a1 "com/example/bytewright/bytewright/io/Input" := (f25.wr W27)
  have f31 : Fld Z h27 a1 "com/example/bytewright/bytewright/io/Input" "end" "J" (.long (9223372036854775807 : Int64)) := ((((((Fw2.other W5 (Or.inr (slot_ne (Or.inl (hw _ (List.mem_of_getElem? (i := 12) rfl))) (Or.inl (hw _ (List.mem_of_getElem? (i := 15) rfl))) (by decide) (t := .long) (t' := .int) (by decide) (by decide)))).other W8 (Or.inr (slot_ne (Or.inl (hw _ (List.mem_of_getElem? (i := 12) rfl))) (Or.inr (hw _ (List.mem_of_getElem? (i := 17) rfl))) (by decide) (t := .long) (t' := (.object "com/example/bytewright/bytewright/io/Input$Source")) (by decide) (by decide)))).ext E9).other W17 (Or.inr (slot_ne (Or.inl (hw _ (List.mem_of_getElem? (i := 12) rfl))) (Or.inr (hw _ (List.mem_of_getElem? (i := 32) rfl))) (by decide) (t := .long) (t' := (.array .byte)) (by decide) (by decide)))).other W22 (Or.inr (slot_ne (Or.inl (hw _ (List.mem_of_getElem? (i := 12) rfl))) (Or.inl (hw _ (List.mem_of_getElem? (i := 34) rfl))) (by decide) (t := .long) (t' := .int) (by decide) (by decide)))).other W27 (Or.inr (slot_ne (Or.inl (hw _ (List.mem_of_getElem? (i := 12) rfl))) (Or.inl (hw _ (List.mem_of_getElem? (i := 36) rfl))) (by decide) (t := .long) (t' := .int) (by decide) (by decide))))
  have f32 : Fld Z h27 a1 "com/example/bytewright/bytewright/io/Input" "source" "Lcom/example/bytewright/bytewright/io/Input$Source;" .null := ((((Fw8.ext E9).other W17 (Or.inr (slot_ne (Or.inr (hw _ (List.mem_of_getElem? (i := 17) rfl))) (Or.inr (hw _ (List.mem_of_getElem? (i := 32) rfl))) (by decide) (t := (.object "com/example/bytewright/bytewright/io/Input$Source")) (t' := (.array .byte)) (by decide) (by decide)))).other W22 (Or.inr (slot_ne (Or.inr (hw _ (List.mem_of_getElem? (i := 17) rfl))) (Or.inl (hw _ (List.mem_of_getElem? (i := 34) rfl))) (by decide) (t := (.object "com/example/bytewright/bytewright/io/Input$Source")) (t' := .int) (by decide) (by decide)))).other W27 (Or.inr (slot_ne (Or.inr (hw _ (List.mem_of_getElem? (i := 17) rfl))) (Or.inl (hw _ (List.mem_of_getElem? (i := 36) rfl))) (by decide) (t := (.object "com/example/bytewright/bytewright/io/Input$Source")) (t' := .int) (by decide) (by decide))))
  have f33 : Fld Z h27 a1 "com/example/bytewright/bytewright/io/Input" "limit" "I" (.int n_a2) := (Fw22.other W27 (Or.inr (slot_ne (Or.inl (hw _ (List.mem_of_getElem? (i := 34) rfl))) (Or.inl (hw _ (List.mem_of_getElem? (i := 36) rfl))) (by decide) (t := .int) (t' := .int) (by decide) (by decide))))
  have f34 : Fld Z h27 a1 "com/example/bytewright/bytewright/io/Input" "position" "I" (.int (0 : Int32)) := (((((((F_position_a1.other W2 (Or.inr (slot_ne (Or.inl (hw _ (List.mem_of_getElem? (i := 55) rfl))) (Or.inl (hw _ (List.mem_of_getElem? (i := 12) rfl))) (by decide) (t := .int) (t' := .long) (by decide) (by decide)))).other W5 (Or.inr (slot_ne (Or.inl (hw _ (List.mem_of_getElem? (i := 55) rfl))) (Or.inl (hw _ (List.mem_of_getElem? (i := 15) rfl))) (by decide) (t := .int) (t' := .int) (by decide) (by decide)))).other W8 (Or.inr (slot_ne (Or.inl (hw _ (List.mem_of_getElem? (i := 55) rfl))) (Or.inr (hw _ (List.mem_of_getElem? (i := 17) rfl))) (by decide) (t := .int) (t' := (.object "com/example/bytewright/bytewright/io/Input$Source")) (by decide) (by decide)))).ext E9).other W17 (Or.inr (slot_ne (Or.inl (hw _ (List.mem_of_getElem? (i := 55) rfl))) (Or.inr (hw _ (List.mem_of_getElem? (i := 32) rfl))) (by decide) (t := .int) (t' := (.array .byte)) (by decide) (by decide)))).other W22 (Or.inr (slot_ne (Or.inl (hw _ (List.mem_of_getElem? (i := 55) rfl))) (Or.inl (hw _ (List.mem_of_getElem? (i := 34) rfl))) (by decide) (t := .int) (t' := .int) (by decide) (by decide)))).other W27 (Or.inr (slot_ne (Or.inl (hw _ (List.mem_of_getElem? (i := 55) rfl))) (Or.inl (hw _ (List.mem_of_getElem? (i := 36) rfl))) (by decide) (t := .int) (t' := .int) (by decide) (by decide))))
  have f35 : Fld Z h27 a1 "com/example/bytewright/bytewright/io/Input" "consumed" "J" (.long (0 : Int64)) := (((((((F_consumed_a1.other W2 (Or.inr (slot_ne (Or.inl (hw _ (List.mem_of_getElem? (i := 62) rfl))) (Or.inl (hw _ (List.mem_of_getElem? (i := 12) rfl))) (by decide) (t := .long) (t' := .long) (by decide) (by decide)))).other W5 (Or.inr (slot_ne (Or.inl (hw _ (List.mem_of_getElem? (i := 62) rfl))) (Or.inl (hw _ (List.mem_of_getElem? (i := 15) rfl))) (by decide) (t := .long) (t' := .int) (by decide) (by decide)))).other W8 (Or.inr (slot_ne (Or.inl (hw _ (List.mem_of_getElem? (i := 62) rfl))) (Or.inr (hw _ (List.mem_of_getElem? (i := 17) rfl))) (by decide) (t := .long) (t' := (.object "com/example/bytewright/bytewright/io/Input$Source")) (by decide) (by decide)))).ext E9).other W17 (Or.inr (slot_ne (Or.inl (hw _ (List.mem_of_getElem? (i := 62) rfl))) (Or.inr (hw _ (List.mem_of_getElem? (i := 32) rfl))) (by decide) (t := .long) (t' := (.array .byte)) (by decide) (by decide)))).other W22 (Or.inr (slot_ne (Or.inl (hw _ (List.mem_of_getElem? (i := 62) rfl))) (Or.inl (hw _ (List.mem_of_getElem? (i := 34) rfl))) (by decide) (t := .long) (t' := .int) (by decide) (by decide)))).other W27 (Or.inr (slot_ne (Or.inl (hw _ (List.mem_of_getElem? (i := 62) rfl))) (Or.inl (hw _ (List.mem_of_getElem? (i := 36) rfl))) (by decide) (t := .long) (t' := .int) (by decide) (by decide))))
  exact ⟨rfl, N27, K29, f30, f31, f32, f33, Fw27, f34, f35⟩
theorem own_d10_0 : decode jdk_29_method_70_code 0 = .ok (.lload_n 0, 1) := by decide +kernel
theorem own_d10_1 : decode jdk_29_method_70_code 1 = .ok (.lload_n 2, 1) := by decide +kernel
theorem own_d10_2 : decode jdk_29_method_70_code 2 = .ok (.lcmp, 1) := by decide +kernel
theorem own_d10_3 : decode jdk_29_method_70_code 3 = .ok (.ifCond .gt 7, 3) := by decide +kernel
theorem own_d10_10 : decode jdk_29_method_70_code 10 = .ok (.lload_n 2, 1) := by decide +kernel
theorem own_d10_11 : decode jdk_29_method_70_code 11 = .ok (.lreturn, 1) := by decide +kernel
theorem own_d10_6 : decode jdk_29_method_70_code 6 = .ok (.lload_n 0, 1) := by decide +kernel
theorem own_d10_7 : decode jdk_29_method_70_code 7 = .ok (.goto 4, 3) := by decide +kernel
def own_Q10 (Z : State) (q1 : Int64) (q2 : Int64) (h0 : Heap) (n0 : Nat) (v : Option Value) (h : Heap) (L : List Loc) : Prop := v = some (.long (if (0 : Int32) < (lcmpW q1 q2) then q2 else q1)) ∧ Fr n0 L ∧ h = h0
theorem own_ef_own_rm10 (m : MethodId) (q1 : Int64) (q2 : Int64) : entryFrame m #[(.long q1), (.long q2)] 4 = mkF m 0 #[.val (.long q1), .second, .val (.long q2), .second] [] := by first | (simp [entryFrame, mkF, argsToLocals, Value.category]; done) | rfl
set_option maxRecDepth 65536 in
set_option maxHeartbeats 40000000 in
theorem own_rm10 (l : Launch) (Z : State) (a0 : Array Value) (hw : ∀ d ∈ tables_1, d.before a0 Z = true) (ws : List Jvm.Cond) (q1 : Int64) (q2 : Int64) (h0 : Heap) (n0 : Nat) (Z0 : n0 ≤ h0.size) :
    MetFree l (⟨"java/lang/Math", "min", "(JJ)J"⟩ : MethodName) (head1 (Jvm.Cond.code (⟨"java/lang/Math", "min", "(JJ)J"⟩ : MethodName) jdk_29_method_70_code 4 (some .long) :: ws) ({ frames := 0, cells := 0, slots := 0, locals := 0 } : Room)) (fun a U => a = #[(.long q1), (.long q2)] ∧ Z.Warmed39 U.vm ∧ U.heap = h0) (fun _ _ _ _ _ => True) (fun _ U o U' => ∃ v L, o = .returned v ∧ own_Q10 Z q1 q2 h0 n0 v U'.heap L ∧ FrameEnd U o U' L ({ frames := 0, cells := 0, slots := 0, locals := 0 } : Room).cells ({ frames := 0, cells := 0, slots := 0, locals := 0 } : Room).slots) := by
  refine MetFree.of_bodySF (Jvm.Free.JP.mathPlain rfl (by decide +kernel)) hisR ?_
  intro p e s m args below meth c s₁ Bd hml0 hP hK
  obtain ⟨rfl, hZ, hh⟩ := hP
  have hx := Bd.exec
  have hby := Bd.bytes
  have hml : c.maxLocals = 4 := hml0
  have hown : s.vm.findClass "java/lang/Math" = some m.cls := findClass_of_methodNamed Bd.named
  have hnm := (name_of_methodNamed Bd.named Bd.method).1
  have X0 : Stand p l e ({ frames := 0, cells := 0, slots := 0, locals := 0 } : Room) s m #[(.long q1), (.long q2)] below meth c s₁ [] 0 0 := Stand.of_body Bd
  have e0 : s₁.heap = h0 := by rw [← hh, Bd.state]; rfl
  have N0 := Fr.nil n0
  show OE FrameEnd p e below s (own_Q10 Z q1 q2 h0 n0) ({ frames := 0, cells := 0, slots := 0, locals := 0 } : Room).cells ({ frames := 0, cells := 0, slots := 0, locals := 0 } : Room).slots s₁ (entryFrame m #[(.long q1), (.long q2)] 4)
  rw [own_ef_own_rm10]
  show OE _ p e below s _ _ _ s₁ (mkF m 0 #[.val (.long q1), .second, .val (.long q2), .second] [])
  refine OE.lloadN X0 hx hby own_d10_0 rfl ?_
  refine OE.lloadN X0 hx hby own_d10_1 rfl ?_
  refine OE.lcmp X0 hx hby own_d10_2 ?_
  by_cases hc3 : (0 : Int32) < (lcmpW q1 q2)
  · skip
    refine OE.ifYes X0 hx hby (pc' := 10) own_d10_3 (tlt hc3).2.2.1 (h := ?_)
    refine OE.lloadN X0 hx hby own_d10_10 rfl ?_
    refine OE.retJ X0 hx Bd.returns Bd.notSynchronized (hb hby own_d10_11) (by decide) (by decide) ?_
    rw [e0]
    exact ⟨(congrArg (fun z => some (Value.long z)) (show q2 = (if (0 : Int32) < (lcmpW q1 q2) then q2 else q1) from by rw [if_pos hc3])), N0, rfl⟩
  · skip
    refine OE.ifNo X0 hx hby own_d10_3 (flt hc3).2.2.1 ?_
    refine OE.lloadN X0 hx hby own_d10_6 rfl ?_
    refine OE.goto X0 hx hby (pc' := 11) own_d10_7 (h := ?_)
    refine OE.retJ X0 hx Bd.returns Bd.notSynchronized (hb hby own_d10_11) (by decide) (by decide) ?_
    rw [e0]
    exact ⟨(congrArg (fun z => some (Value.long z)) (show q1 = (if (0 : Int32) < (lcmpW q1 q2) then q2 else q1) from by rw [if_neg hc3])), N0, rfl⟩
theorem own_d11_0 : decode jdk_29_method_69_code 0 = .ok (.iload_n 0, 1) := by decide +kernel
theorem own_d11_1 : decode jdk_29_method_69_code 1 = .ok (.iload_n 1, 1) := by decide +kernel
theorem own_d11_2 : decode jdk_29_method_69_code 2 = .ok (.if_icmp .gt 7, 3) := by decide +kernel
theorem own_d11_9 : decode jdk_29_method_69_code 9 = .ok (.iload_n 1, 1) := by decide +kernel
theorem own_d11_10 : decode jdk_29_method_69_code 10 = .ok (.ireturn, 1) := by decide +kernel
theorem own_d11_5 : decode jdk_29_method_69_code 5 = .ok (.iload_n 0, 1) := by decide +kernel
theorem own_d11_6 : decode jdk_29_method_69_code 6 = .ok (.goto 4, 3) := by decide +kernel
def own_Q11 (Z : State) (p1 : Int32) (p2 : Int32) (h0 : Heap) (n0 : Nat) (v : Option Value) (h : Heap) (L : List Loc) : Prop := v = some (.int (if p2 < p1 then p2 else p1)) ∧ Fr n0 L ∧ h = h0
theorem own_ef_own_rm11 (m : MethodId) (p1 : Int32) (p2 : Int32) : entryFrame m #[(.int p1), (.int p2)] 2 = mkF m 0 #[.val (.int p1), .val (.int p2)] [] := by first | (simp [entryFrame, mkF, argsToLocals, Value.category]; done) | rfl
set_option maxRecDepth 65536 in
set_option maxHeartbeats 40000000 in
theorem own_rm11 (l : Launch) (Z : State) (a0 : Array Value) (hw : ∀ d ∈ tables_1, d.before a0 Z = true) (ws : List Jvm.Cond) (p1 : Int32) (p2 : Int32) (h0 : Heap) (n0 : Nat) (Z0 : n0 ≤ h0.size) :
    MetFree l (⟨"java/lang/Math", "min", "(II)I"⟩ : MethodName) (head1 (Jvm.Cond.code (⟨"java/lang/Math", "min", "(II)I"⟩ : MethodName) jdk_29_method_69_code 2 (some .int) :: ws) ({ frames := 0, cells := 0, slots := 0, locals := 0 } : Room)) (fun a U => a = #[(.int p1), (.int p2)] ∧ Z.Warmed39 U.vm ∧ U.heap = h0) (fun _ _ _ _ _ => True) (fun _ U o U' => ∃ v L, o = .returned v ∧ own_Q11 Z p1 p2 h0 n0 v U'.heap L ∧ FrameEnd U o U' L ({ frames := 0, cells := 0, slots := 0, locals := 0 } : Room).cells ({ frames := 0, cells := 0, slots := 0, locals := 0 } : Room).slots) := by
  refine MetFree.of_bodySF (Jvm.Free.JP.mathPlain rfl (by decide +kernel)) hisR ?_
  intro p e s m args below meth c s₁ Bd hml0 hP hK
  obtain ⟨rfl, hZ, hh⟩ := hP
  have hx := Bd.exec
  have hby := Bd.bytes
  have hml : c.maxLocals = 2 := hml0
  have hown : s.vm.findClass "java/lang/Math" = some m.cls := findClass_of_methodNamed Bd.named
  have hnm := (name_of_methodNamed Bd.named Bd.method).1
  have X0 : Stand p l e ({ frames := 0, cells := 0, slots := 0, locals := 0 } : Room) s m #[(.int p1), (.int p2)] below meth c s₁ [] 0 0 := Stand.of_body Bd
  have e0 : s₁.heap = h0 := by rw [← hh, Bd.state]; rfl
  have N0 := Fr.nil n0
  show OE FrameEnd p e below s (own_Q11 Z p1 p2 h0 n0) ({ frames := 0, cells := 0, slots := 0, locals := 0 } : Room).cells ({ frames := 0, cells := 0, slots := 0, locals := 0 } : Room).slots s₁ (entryFrame m #[(.int p1), (.int p2)] 2)
  rw [own_ef_own_rm11]
  show OE _ p e below s _ _ _ s₁ (mkF m 0 #[.val (.int p1), .val (.int p2)] [])
  refine OE.iloadN X0 hx hby own_d11_0 rfl ?_
  refine OE.iloadN X0 hx hby own_d11_1 rfl ?_
  by_cases hc2 : p2 < p1
  · skip
    refine OE.icmpYes X0 hx hby (pc' := 9) own_d11_2 (tlt hc2).2.2.1 (h := ?_)
    refine OE.iloadN X0 hx hby own_d11_9 rfl ?_
    refine OE.retI X0 hx Bd.returns Bd.notSynchronized (hb hby own_d11_10) (by decide) (by decide) ?_
    rw [e0]
    exact ⟨(congrArg (fun z => some (Value.int z)) (show p2 = (if p2 < p1 then p2 else p1) from by rw [if_pos hc2])), N0, rfl⟩
  · skip
    refine OE.icmpNo X0 hx hby own_d11_2 (flt hc2).2.2.1 ?_
    refine OE.iloadN X0 hx hby own_d11_5 rfl ?_
    refine OE.goto X0 hx hby (pc' := 10) own_d11_6 (h := ?_)
    refine OE.retI X0 hx Bd.returns Bd.notSynchronized (hb hby own_d11_10) (by decide) (by decide) ?_
    rw [e0]
    exact ⟨(congrArg (fun z => some (Value.int z)) (show p1 = (if p2 < p1 then p2 else p1) from by rw [if_neg hc2])), N0, rfl⟩
theorem own_d7_0 : decode prog_26_method_30_code 0 = .ok (.aload_n 0, 1) := by decide +kernel
theorem own_d7_1 : decode prog_26_method_30_code 1 = .ok (.getfield 290, 3) := by decide +kernel
theorem own_d7_4 : decode prog_26_method_30_code 4 = .ok (.aload_n 0, 1) := by decide +kernel
theorem own_d7_5 : decode prog_26_method_30_code 5 = .ok (.getfield 88, 3) := by decide +kernel
theorem own_d7_8 : decode prog_26_method_30_code 8 = .ok (.i2l, 1) := by decide +kernel
theorem own_d7_9 : decode prog_26_method_30_code 9 = .ok (.ladd, 1) := by decide +kernel
theorem own_d7_10 : decode prog_26_method_30_code 10 = .ok (.lreturn, 1) := by decide +kernel
def own_Q7 (Z : State) (a1 : Addr) (w_consumed_a1 : Int64) (w_position_a1 : Int32) (h0 : Heap) (n0 : Nat) (v : Option Value) (h : Heap) (L : List Loc) : Prop := v = some (.long (w_consumed_a1 + (w_position_a1.toInt64))) ∧ Fr n0 L ∧ h = h0
theorem own_ef_own_rm7 (m : MethodId) (a1 : Addr) : entryFrame m #[(.ref a1)] 1 = mkF m 0 #[.val (.ref a1)] [] := by first | (simp [entryFrame, mkF, argsToLocals, Value.category]; done) | rfl
set_option maxRecDepth 65536 in
set_option maxHeartbeats 40000000 in
theorem own_rm7 (l : Launch) (Z : State) (a0 : Array Value) (hw : ∀ d ∈ tables_1, d.before a0 Z = true) (ws : List Jvm.Cond) (a1 : Addr) (w_consumed_a1 : Int64) (w_position_a1 : Int32) (h0 : Heap) (n0 : Nat) (Z0 : n0 ≤ h0.size) (F_consumed_a1 : Fld Z h0 a1 "com/example/bytewright/bytewright/io/Input" "consumed" "J" (.long w_consumed_a1)) (F_position_a1 : Fld Z h0 a1 "com/example/bytewright/bytewright/io/Input" "position" "I" (.int w_position_a1)) :
    MetFree l (⟨"com/example/bytewright/bytewright/io/Input", "total", "()J"⟩ : MethodName) (head1 (Jvm.Cond.code (⟨"com/example/bytewright/bytewright/io/Input", "total", "()J"⟩ : MethodName) prog_26_method_30_code 1 (some .long) :: ws) ({ frames := 0, cells := 0, slots := 0, locals := 0 } : Room)) (fun a U => a = #[(.ref a1)] ∧ Z.Warmed39 U.vm ∧ U.heap = h0) (fun _ _ _ _ _ => True) (fun _ U o U' => ∃ v L, o = .returned v ∧ own_Q7 Z a1 w_consumed_a1 w_position_a1 h0 n0 v U'.heap L ∧ FrameEnd U o U' L ({ frames := 0, cells := 0, slots := 0, locals := 0 } : Room).cells ({ frames := 0, cells := 0, slots := 0, locals := 0 } : Room).slots) := by
  refine MetFree.of_bodySF (plainFor_of_name own_pn1) hisR ?_
  intro p e s m args below meth c s₁ Bd hml0 hP hK
  obtain ⟨rfl, hZ, hh⟩ := hP
  have hx := Bd.exec
  have hby := Bd.bytes
  have hml : c.maxLocals = 1 := hml0
  have hown : s.vm.findClass "com/example/bytewright/bytewright/io/Input" = some m.cls := findClass_of_methodNamed Bd.named
  have hnm := (name_of_methodNamed Bd.named Bd.method).1
  have X0 : Stand p l e ({ frames := 0, cells := 0, slots := 0, locals := 0 } : Room) s m #[(.ref a1)] below meth c s₁ [] 0 0 := Stand.of_body Bd
  have e0 : s₁.heap = h0 := by rw [← hh, Bd.state]; rfl
  have N0 := Fr.nil n0
  show OE FrameEnd p e below s (own_Q7 Z a1 w_consumed_a1 w_position_a1 h0 n0) ({ frames := 0, cells := 0, slots := 0, locals := 0 } : Room).cells ({ frames := 0, cells := 0, slots := 0, locals := 0 } : Room).slots s₁ (entryFrame m #[(.ref a1)] 1)
  rw [own_ef_own_rm7]
  show OE _ p e below s _ _ _ s₁ (mkF m 0 #[.val (.ref a1)] [])
  refine OE.aloadN X0 hx hby own_d7_0 rfl rfl ?_
  obtain ⟨T1, X1, e1, st1⟩ := getF X0 hx hZ hown (host := "") (Or.inl (hw _ (List.mem_of_getElem? (i := 61) rfl))) Via.refl e0 F_consumed_a1 (g := (mkF m 1 #[.val (.ref a1)] [(.ref a1)])) rfl rfl (hb hby own_d7_1)
  refine OE.of st1 ?_
  show OE _ p e below s _ _ _ T1 (mkF m 4 #[.val (.ref a1)] [(.long w_consumed_a1)])
  refine OE.aloadN X1 hx hby own_d7_4 rfl rfl ?_
  obtain ⟨T2, X2, e2, st2⟩ := getF X1 hx hZ hown (host := "") (Or.inl (hw _ (List.mem_of_getElem? (i := 54) rfl))) Via.refl e1 F_position_a1 (g := (mkF m 5 #[.val (.ref a1)] [(.ref a1), (.long w_consumed_a1)])) rfl rfl (hb hby own_d7_5)
  refine OE.of st2 ?_
  show OE _ p e below s _ _ _ T2 (mkF m 8 #[.val (.ref a1)] [(.int w_position_a1), (.long w_consumed_a1)])
  refine OE.i2l X2 hx hby own_d7_8 ?_
  refine OE.ladd X2 hx hby own_d7_9 ?_
  refine OE.retJ X2 hx Bd.returns Bd.notSynchronized (hb hby own_d7_10) (by decide) (by decide) ?_
  rw [e2]
  exact ⟨rfl, N0, rfl⟩
theorem own_d6_0 : decode prog_26_method_38_code 0 = .ok (.aload_n 0, 1) := by decide +kernel
theorem own_d6_1 : decode prog_26_method_38_code 1 = .ok (.getfield 24, 3) := by decide +kernel
theorem own_d6_4 : decode prog_26_method_38_code 4 = .ok (.ifnonnull 7, 3) := by decide +kernel
theorem own_d6_7 : decode prog_26_method_38_code 7 = .ok (.lconst 0, 1) := by decide +kernel
theorem own_d6_8 : decode prog_26_method_38_code 8 = .ok (.goto 12, 3) := by decide +kernel
theorem own_d6_20 : decode prog_26_method_38_code 20 = .ok (.lstore_n 1, 1) := by decide +kernel
theorem own_d6_21 : decode prog_26_method_38_code 21 = .ok (.lload_n 1, 1) := by decide +kernel
theorem own_d6_22 : decode prog_26_method_38_code 22 = .ok (.lconst 0, 1) := by decide +kernel
theorem own_d6_23 : decode prog_26_method_38_code 23 = .ok (.lcmp, 1) := by decide +kernel
theorem own_d6_24 : decode prog_26_method_38_code 24 = .ok (.ifCond .ge 9, 3) := by decide +kernel
theorem own_d6_33 : decode prog_26_method_38_code 33 = .ok (.aload_n 0, 1) := by decide +kernel
theorem own_d6_34 : decode prog_26_method_38_code 34 = .ok (.getfield 44, 3) := by decide +kernel
theorem own_d6_37 : decode prog_26_method_38_code 37 = .ok (.aload_n 0, 1) := by decide +kernel
theorem own_d6_38 : decode prog_26_method_38_code 38 = .ok (.getfield 88, 3) := by decide +kernel
theorem own_d6_41 : decode prog_26_method_38_code 41 = .ok (.isub, 1) := by decide +kernel
theorem own_d6_42 : decode prog_26_method_38_code 42 = .ok (.i2l, 1) := by decide +kernel
theorem own_d6_43 : decode prog_26_method_38_code 43 = .ok (.lload_n 1, 1) := by decide +kernel
theorem own_d6_44 : decode prog_26_method_38_code 44 = .ok (.ladd, 1) := by decide +kernel
theorem own_d6_45 : decode prog_26_method_38_code 45 = .ok (.lreturn, 1) := by decide +kernel
def own_Q6 (Z : State) (a1 : Addr) (w_filled_a1 : Int32) (w_position_a1 : Int32) (h0 : Heap) (n0 : Nat) (v : Option Value) (h : Heap) (L : List Loc) : Prop := v = some (.long (((w_filled_a1 - w_position_a1).toInt64) + (0 : Int64))) ∧ Fr n0 L ∧ h = h0
theorem own_ef_own_rm6 (m : MethodId) (a1 : Addr) : entryFrame m #[(.ref a1)] 3 = mkF m 0 #[.val (.ref a1), .unset, .unset] [] := by first | (simp [entryFrame, mkF, argsToLocals, Value.category]; done) | rfl
set_option maxRecDepth 65536 in
set_option maxHeartbeats 40000000 in
theorem own_rm6 (l : Launch) (Z : State) (a0 : Array Value) (hw : ∀ d ∈ tables_1, d.before a0 Z = true) (ws : List Jvm.Cond) (a1 : Addr) (w_filled_a1 : Int32) (w_position_a1 : Int32) (h0 : Heap) (n0 : Nat) (Z0 : n0 ≤ h0.size) (F_source_a1 : Fld Z h0 a1 "com/example/bytewright/bytewright/io/Input" "source" "Lcom/example/bytewright/bytewright/io/Input$Source;" .null) (F_filled_a1 : Fld Z h0 a1 "com/example/bytewright/bytewright/io/Input" "filled" "I" (.int w_filled_a1)) (F_position_a1 : Fld Z h0 a1 "com/example/bytewright/bytewright/io/Input" "position" "I" (.int w_position_a1)) :
    MetFree l (⟨"com/example/bytewright/bytewright/io/Input", "bytesLeft", "()J"⟩ : MethodName) (head1 (Jvm.Cond.code (⟨"com/example/bytewright/bytewright/io/Input", "bytesLeft", "()J"⟩ : MethodName) prog_26_method_38_code 3 (some .long) :: ws) ({ frames := 0, cells := 0, slots := 0, locals := 0 } : Room)) (fun a U => a = #[(.ref a1)] ∧ Z.Warmed39 U.vm ∧ U.heap = h0) (fun _ _ _ _ _ => True) (fun _ U o U' => ∃ v L, o = .returned v ∧ own_Q6 Z a1 w_filled_a1 w_position_a1 h0 n0 v U'.heap L ∧ FrameEnd U o U' L ({ frames := 0, cells := 0, slots := 0, locals := 0 } : Room).cells ({ frames := 0, cells := 0, slots := 0, locals := 0 } : Room).slots) := by
  refine MetFree.of_bodySF (plainFor_of_name own_pn1) hisR ?_
  intro p e s m args below meth c s₁ Bd hml0 hP hK
  obtain ⟨rfl, hZ, hh⟩ := hP
  have hx := Bd.exec
  have hby := Bd.bytes
  have hml : c.maxLocals = 3 := hml0
  have hown : s.vm.findClass "com/example/bytewright/bytewright/io/Input" = some m.cls := findClass_of_methodNamed Bd.named
  have hnm := (name_of_methodNamed Bd.named Bd.method).1
  have X0 : Stand p l e ({ frames := 0, cells := 0, slots := 0, locals := 0 } : Room) s m #[(.ref a1)] below meth c s₁ [] 0 0 := Stand.of_body Bd
  have e0 : s₁.heap = h0 := by rw [← hh, Bd.state]; rfl
  have N0 := Fr.nil n0
  show OE FrameEnd p e below s (own_Q6 Z a1 w_filled_a1 w_position_a1 h0 n0) ({ frames := 0, cells := 0, slots := 0, locals := 0 } : Room).cells ({ frames := 0, cells := 0, slots := 0, locals := 0 } : Room).slots s₁ (entryFrame m #[(.ref a1)] 3)
  rw [own_ef_own_rm6]
  show OE _ p e below s _ _ _ s₁ (mkF m 0 #[.val (.ref a1), .unset, .unset] [])
  refine OE.aloadN X0 hx hby own_d6_0 rfl rfl ?_
  obtain ⟨T1, X1, e1, st1⟩ := getF X0 hx hZ hown (host := "") (Or.inl (hw _ (List.mem_of_getElem? (i := 16) rfl))) Via.refl e0 F_source_a1 (g := (mkF m 1 #[.val (.ref a1), .unset, .unset] [(.ref a1)])) rfl rfl (hb hby own_d6_1)
  refine OE.of st1 ?_
  show OE _ p e below s _ _ _ T1 (mkF m 4 #[.val (.ref a1), .unset, .unset] [.null])
  refine OE.ifnonnullNo X1 hx hby own_d6_4 ?_
  refine OE.lconst X1 hx hby own_d6_7 (0 : Int64) rfl ?_
  refine OE.goto X1 hx hby (pc' := 20) own_d6_8 (h := ?_)
  refine OE.lstoreN X1 hx hby own_d6_20 (l' := #[.val (.ref a1), .val (.long (0 : Int64)), .second]) rfl ?_
  refine OE.lloadN X1 hx hby own_d6_21 rfl ?_
  refine OE.lconst X1 hx hby own_d6_22 (0 : Int64) rfl ?_
  refine OE.lcmp X1 hx hby own_d6_23 ?_
  refine OE.ifYes X1 hx hby (pc' := 33) own_d6_24 (flt (by decide)).2.1 (h := ?_)
  refine OE.aloadN X1 hx hby own_d6_33 rfl rfl ?_
  obtain ⟨T2, X2, e2, st2⟩ := getF X1 hx hZ hown (host := "") (Or.inl (hw _ (List.mem_of_getElem? (i := 35) rfl))) Via.refl e1 F_filled_a1 (g := (mkF m 34 #[.val (.ref a1), .val (.long (0 : Int64)), .second] [(.ref a1)])) rfl rfl (hb hby own_d6_34)
  refine OE.of st2 ?_
  show OE _ p e below s _ _ _ T2 (mkF m 37 #[.val (.ref a1), .val (.long (0 : Int64)), .second] [(.int w_filled_a1)])
  refine OE.aloadN X2 hx hby own_d6_37 rfl rfl ?_
  obtain ⟨T3, X3, e3, st3⟩ := getF X2 hx hZ hown (host := "") (Or.inl (hw _ (List.mem_of_getElem? (i := 54) rfl))) Via.refl e2 F_position_a1 (g := (mkF m 38 #[.val (.ref a1), .val (.long (0 : Int64)), .second] [(.ref a1), (.int w_filled_a1)])) rfl rfl (hb hby own_d6_38)
  refine OE.of st3 ?_
  show OE _ p e below s _ _ _ T3 (mkF m 41 #[.val (.ref a1), .val (.long (0 : Int64)), .second] [(.int w_position_a1), (.int w_filled_a1)])
  refine OE.isub X3 hx hby own_d6_41 ?_
  refine OE.i2l X3 hx hby own_d6_42 ?_
  refine OE.lloadN X3 hx hby own_d6_43 rfl ?_
  refine OE.ladd X3 hx hby own_d6_44 ?_
  refine OE.retJ X3 hx Bd.returns Bd.notSynchronized (hb hby own_d6_45) (by decide) (by decide) ?_
  rw [e3]
  exact ⟨rfl, N0, rfl⟩
theorem own_d5_0 : decode prog_26_method_42_code 0 = .ok (.aload_n 0, 1) := by decide +kernel
theorem own_d5_1 : decode prog_26_method_42_code 1 = .ok (.invokevirtual 325, 3) := by decide +kernel
theorem own_pd1 : parseMethodDescriptor "()J" = some ⟨[], some .long⟩ := by decide +kernel
theorem own_d5_4 : decode prog_26_method_42_code 4 = .ok (.lstore 7, 2) := by decide +kernel
theorem own_d5_6 : decode prog_26_method_42_code 6 = .ok (.lload 7, 2) := by decide +kernel
theorem own_d5_8 : decode prog_26_method_42_code 8 = .ok (.lconst 0, 1) := by decide +kernel
theorem own_d5_9 : decode prog_26_method_42_code 9 = .ok (.lcmp, 1) := by decide +kernel
theorem own_d5_10 : decode prog_26_method_42_code 10 = .ok (.ifCond .lt 38, 3) := by decide +kernel
theorem own_d5_48 : decode prog_26_method_42_code 48 = .ok (.lload_n 1, 1) := by decide +kernel
theorem own_d5_49 : decode prog_26_method_42_code 49 = .ok (.aload_n 0, 1) := by decide +kernel
theorem own_d5_50 : decode prog_26_method_42_code 50 = .ok (.getfield 11, 3) := by decide +kernel
theorem own_d5_53 : decode prog_26_method_42_code 53 = .ok (.aload_n 0, 1) := by decide +kernel
theorem own_d5_54 : decode prog_26_method_42_code 54 = .ok (.invokevirtual 91, 3) := by decide +kernel
theorem own_d5_57 : decode prog_26_method_42_code 57 = .ok (.lsub, 1) := by decide +kernel
theorem own_d5_58 : decode prog_26_method_42_code 58 = .ok (.lcmp, 1) := by decide +kernel
theorem own_d5_59 : decode prog_26_method_42_code 59 = .ok (.ifCond .le 33, 3) := by decide +kernel
theorem own_d5_92 : decode prog_26_method_42_code 92 = .ok (.return_, 1) := by decide +kernel
theorem own_d5_13 : decode prog_26_method_42_code 13 = .ok (.lload_n 1, 1) := by decide +kernel
theorem own_d5_14 : decode prog_26_method_42_code 14 = .ok (.lload 7, 2) := by decide +kernel
theorem own_d5_16 : decode prog_26_method_42_code 16 = .ok (.lcmp, 1) := by decide +kernel
theorem own_d5_17 : decode prog_26_method_42_code 17 = .ok (.ifCond .le 31, 3) := by decide +kernel
def own_Q5 (Z : State) (a1 : Addr) (q2 : Int64) (a3 : Addr) (q4 : Int64) (a5 : Addr) (w_filled_a1 : Int32) (w_position_a1 : Int32) (w_consumed_a1 : Int64) (w_end_a1 : Int64) (h0 : Heap) (n0 : Nat) (v : Option Value) (h : Heap) (L : List Loc) : Prop := v = none ∧ Fr n0 L ∧ h = h0
theorem own_ef_own_rm5 (m : MethodId) (a1 : Addr) (q2 : Int64) (a3 : Addr) (q4 : Int64) (a5 : Addr) : entryFrame m #[(.ref a1), (.long q2), (.ref a3), (.long q4), (.ref a5)] 9 = mkF m 0 #[.val (.ref a1), .val (.long q2), .second, .val (.ref a3), .val (.long q4), .second, .val (.ref a5), .unset, .unset] [] := by first | (simp [entryFrame, mkF, argsToLocals, Value.category]; done) | rfl
set_option maxRecDepth 65536 in
set_option maxHeartbeats 40000000 in
theorem own_rm5 (l : Launch) (Z : State) (a0 : Array Value) (hw : ∀ d ∈ tables_1, d.before a0 Z = true) (ws : List Jvm.Cond) (a1 : Addr) (q2 : Int64) (a3 : Addr) (q4 : Int64) (a5 : Addr) (w_filled_a1 : Int32) (w_position_a1 : Int32) (w_consumed_a1 : Int64) (w_end_a1 : Int64) (h0 : Heap) (n0 : Nat) (Z0 : n0 ≤ h0.size) (E_a1 : Exa Z h0 a1 "com/example/bytewright/bytewright/io/Input") (F_source_a1 : Fld Z h0 a1 "com/example/bytewright/bytewright/io/Input" "source" "Lcom/example/bytewright/bytewright/io/Input$Source;" .null) (F_filled_a1 : Fld Z h0 a1 "com/example/bytewright/bytewright/io/Input" "filled" "I" (.int w_filled_a1)) (F_position_a1 : Fld Z h0 a1 "com/example/bytewright/bytewright/io/Input" "position" "I" (.int w_position_a1)) (F_consumed_a1 : Fld Z h0 a1 "com/example/bytewright/bytewright/io/Input" "consumed" "J" (.long w_consumed_a1)) (F_end_a1 : Fld Z h0 a1 "com/example/bytewright/bytewright/io/Input" "end" "J" (.long w_end_a1)) (h1 : ¬ (0 : Int32) < (lcmpW q2 (((w_filled_a1 - w_position_a1).toInt64) + (0 : Int64)))) (h2 : ¬ (0 : Int32) < (lcmpW q2 (w_end_a1 - (w_consumed_a1 + (w_position_a1.toInt64))))) :
    MetFree l (⟨"com/example/bytewright/bytewright/io/Input", "requireDeclared", "(JLjava/lang/String;JLjava/lang/String;)V"⟩ : MethodName) (head1 (Jvm.Cond.code (⟨"com/example/bytewright/bytewright/io/Input", "requireDeclared", "(JLjava/lang/String;JLjava/lang/String;)V"⟩ : MethodName) prog_26_method_42_code 9 none :: ws) ({ frames := 1, cells := 0, slots := 0, locals := 16 } : Room)) (fun a U => a = #[(.ref a1), (.long q2), (.ref a3), (.long q4), (.ref a5)] ∧ Z.Warmed39 U.vm ∧ U.heap = h0) (fun _ _ _ _ _ => True) (fun _ U o U' => ∃ v L, o = .returned v ∧ own_Q5 Z a1 q2 a3 q4 a5 w_filled_a1 w_position_a1 w_consumed_a1 w_end_a1 h0 n0 v U'.heap L ∧ FrameEnd U o U' L ({ frames := 1, cells := 0, slots := 0, locals := 16 } : Room).cells ({ frames := 1, cells := 0, slots := 0, locals := 16 } : Room).slots) := by
  refine MetFree.of_bodySF (plainFor_of_name own_pn1) hisR ?_
  intro p e s m args below meth c s₁ Bd hml0 hP hK
  obtain ⟨rfl, hZ, hh⟩ := hP
  have hx := Bd.exec
  have hby := Bd.bytes
  have hml : c.maxLocals = 9 := hml0
  have hown : s.vm.findClass "com/example/bytewright/bytewright/io/Input" = some m.cls := findClass_of_methodNamed Bd.named
  have hnm := (name_of_methodNamed Bd.named Bd.method).1
  have X0 : Stand p l e ({ frames := 1, cells := 0, slots := 0, locals := 16 } : Room) s m #[(.ref a1), (.long q2), (.ref a3), (.long q4), (.ref a5)] below meth c s₁ [] 0 0 := Stand.of_body Bd
  have e0 : s₁.heap = h0 := by rw [← hh, Bd.state]; rfl
  have N0 := Fr.nil n0
  show OE FrameEnd p e below s (own_Q5 Z a1 q2 a3 q4 a5 w_filled_a1 w_position_a1 w_consumed_a1 w_end_a1 h0 n0) ({ frames := 1, cells := 0, slots := 0, locals := 16 } : Room).cells ({ frames := 1, cells := 0, slots := 0, locals := 16 } : Room).slots s₁ (entryFrame m #[(.ref a1), (.long q2), (.ref a3), (.long q4), (.ref a5)] 9)
  rw [own_ef_own_rm5]
  show OE _ p e below s _ _ _ s₁ (mkF m 0 #[.val (.ref a1), .val (.long q2), .second, .val (.ref a3), .val (.long q4), .second, .val (.ref a5), .unset, .unset] [])
  refine OE.aloadN X0 hx hby own_d5_0 rfl rfl ?_
  obtain ⟨cq1, qa1, qb1⟩ := E_a1.cell
  obtain ⟨_, _, ⟨T1, L1, k1, n1⟩, -, X1, ⟨Lc1, hQ1, l1, y1, z1⟩, st1⟩ := X0.privateBack hx (y := (⟨"com/example/bytewright/bytewright/io/Input", "bytesLeft", "()J"⟩ : MethodName)) hown (mvT hZ (hw _ (List.mem_of_getElem? (i := 50) rfl))) (mvT hZ (hw _ (List.mem_of_getElem? (i := 51) rfl))) (own_sel (mvT hZ (hw _ (List.mem_of_getElem? (i := 51) rfl)) (args := #[])) (Cond.privateMethod_at (mvP hZ (hw _ (List.mem_of_getElem? (i := 52) rfl)) (args := #[]))) (mvT hZ (hw _ (List.mem_of_getElem? (i := 1) rfl)) (args := #[])) (by decide)) (Cond.privateMethod_at (mvP hZ (hw _ (List.mem_of_getElem? (i := 52) rfl)) (args := #[]))) (mvT hZ (hw _ (List.mem_of_getElem? (i := 53) rfl))) (by decide) (backOf (W := 0) (own_rm6 l Z a0 hw [] a1 w_filled_a1 w_position_a1 h0 n0 Z0 F_source_a1 F_filled_a1 F_position_a1) hZ (hw _ (List.mem_of_getElem? (i := 53) rfl)) (hw _ (List.mem_of_getElem? (i := 2) rfl)) (by decide) (by decide)) (g := (mkF m 1 #[.val (.ref a1), .val (.long q2), .second, .val (.ref a3), .val (.long q4), .second, .val (.ref a5), .unset, .unset] [(.ref a1)])) rfl (by rw [hml]; rfl) (Steps.refl _) (a := a1) (by rw [e0]; exact qa1) qb1 (argsL := []) (rest := []) (lenOf own_pd1 rfl) rfl (by show 2 * 0 + _ ≤ _; exact Nat.le_of_eq rfl) (hb hby own_d5_1) (fun _ _ => ⟨rfl, e0, (by decide : 0 + 0 ≤ _), (by decide : 0 + 0 ≤ _)⟩)
  dsimp only [Pt.U, Pt.locs, Pt.cells, Pt.slots] at X1 l1 y1 z1 st1 hQ1
  subst l1 y1 z1
  obtain ⟨rfl, Nq1, eq1⟩ := hQ1
  refine OE.of (fun _ k => st1.trans k) ?_
  have N1 := Fr.app N0 Nq1
  show OE _ p e below s _ _ _ T1 (mkF m 4 #[.val (.ref a1), .val (.long q2), .second, .val (.ref a3), .val (.long q4), .second, .val (.ref a5), .unset, .unset] [(.long (((w_filled_a1 - w_position_a1).toInt64) + (0 : Int64)))])
  refine OE.lstore X1 hx hby own_d5_4 (l' := #[.val (.ref a1), .val (.long q2), .second, .val (.ref a3), .val (.long q4), .second, .val (.ref a5), .val (.long (((w_filled_a1 - w_position_a1).toInt64) + (0 : Int64))), .second]) rfl ?_
  refine OE.lload X1 hx hby own_d5_6 rfl ?_
  refine OE.lconst X1 hx hby own_d5_8 (0 : Int64) rfl ?_
  refine OE.lcmp X1 hx hby own_d5_9 ?_
  by_cases hc10 : (lcmpW (((w_filled_a1 - w_position_a1).toInt64) + (0 : Int64)) (0 : Int64)) < (0 : Int32)
  · skip
    refine OE.ifYes X1 hx hby (pc' := 48) own_d5_10 (tlt hc10).1 (h := ?_)
    refine OE.lloadN X1 hx hby own_d5_48 rfl ?_
    refine OE.aloadN X1 hx hby own_d5_49 rfl rfl ?_
    obtain ⟨T2, X2, e2, st2⟩ := getF X1 hx hZ hown (host := "") (Or.inl (hw _ (List.mem_of_getElem? (i := 11) rfl))) Via.refl eq1 F_end_a1 (g := (mkF m 50 #[.val (.ref a1), .val (.long q2), .second, .val (.ref a3), .val (.long q4), .second, .val (.ref a5), .val (.long (((w_filled_a1 - w_position_a1).toInt64) + (0 : Int64))), .second] [(.ref a1), (.long q2)])) rfl rfl (hb hby own_d5_50)
    refine OE.of st2 ?_
    show OE _ p e below s _ _ _ T2 (mkF m 53 #[.val (.ref a1), .val (.long q2), .second, .val (.ref a3), .val (.long q4), .second, .val (.ref a5), .val (.long (((w_filled_a1 - w_position_a1).toInt64) + (0 : Int64))), .second] [(.long w_end_a1), (.long q2)])
    refine OE.aloadN X2 hx hby own_d5_53 rfl rfl ?_
    obtain ⟨cq3, kq3, qa3, qb3, qc3⟩ := isOf hZ e2 E_a1
    obtain ⟨_, _, ⟨T3, L3, k3, n3⟩, -, X3, ⟨Lc3, hQ3, l3, y3, z3⟩, st3⟩ := X2.virtualBack hx (y := (⟨"com/example/bytewright/bytewright/io/Input", "total", "()J"⟩ : MethodName)) (z := (⟨"com/example/bytewright/bytewright/io/Input", "total", "()J"⟩ : MethodName)) hown (mvT hZ (hw _ (List.mem_of_getElem? (i := 56) rfl))) (mvT hZ (hw _ (List.mem_of_getElem? (i := 57) rfl))) (notFace_of_selects (args := #[]) (mvT hZ (hw _ (List.mem_of_getElem? (i := 59) rfl)))) (mvT hZ (hw _ (List.mem_of_getElem? (i := 59) rfl))) (mvT hZ (hw _ (List.mem_of_getElem? (i := 58) rfl))) (by decide) (backOf (W := 4) (own_rm7 l Z a0 hw [] a1 w_consumed_a1 w_position_a1 h0 n0 Z0 F_consumed_a1 F_position_a1) hZ (hw _ (List.mem_of_getElem? (i := 60) rfl)) (hw _ (List.mem_of_getElem? (i := 2) rfl)) (by decide) (by decide)) qa3 qc3 (g := (mkF m 54 #[.val (.ref a1), .val (.long q2), .second, .val (.ref a3), .val (.long q4), .second, .val (.ref a5), .val (.long (((w_filled_a1 - w_position_a1).toInt64) + (0 : Int64))), .second] [(.ref a1), (.long w_end_a1), (.long q2)])) rfl (by rw [hml]; rfl) (Steps.refl _) (argsL := []) (rest := [(.long w_end_a1), (.long q2)]) (lenOf own_pd1 rfl) rfl (by show 2 * 0 + _ ≤ _; exact Nat.le_of_eq rfl) (hb hby own_d5_54) (fun _ _ => ⟨rfl, e2, (by decide : 0 + 0 ≤ _), (by decide : 0 + 0 ≤ _)⟩)
    dsimp only [Pt.U, Pt.locs, Pt.cells, Pt.slots] at X3 l3 y3 z3 st3 hQ3
    subst l3 y3 z3
    obtain ⟨rfl, Nq3, eq3⟩ := hQ3
    refine OE.of (fun _ k => st3.trans k) ?_
    have N3 := Fr.app N1 Nq3
    show OE _ p e below s _ _ _ T3 (mkF m 57 #[.val (.ref a1), .val (.long q2), .second, .val (.ref a3), .val (.long q4), .second, .val (.ref a5), .val (.long (((w_filled_a1 - w_position_a1).toInt64) + (0 : Int64))), .second] [(.long (w_consumed_a1 + (w_position_a1.toInt64))), (.long w_end_a1), (.long q2)])
    refine OE.lsub X3 hx hby own_d5_57 ?_
    refine OE.lcmp X3 hx hby own_d5_58 ?_
    refine OE.ifYes X3 hx hby (pc' := 92) own_d5_59 (flt (h2 : ¬ ((0 : Int32) < (lcmpW q2 (w_end_a1 - (w_consumed_a1 + (w_position_a1.toInt64))))))).2.2.2 (h := ?_)
    refine OE.ret0 X3 hx Bd.returns Bd.notSynchronized (hb hby own_d5_92) (by decide) (by decide) ?_
    rw [eq3]
    exact ⟨rfl, N3, rfl⟩
  · skip
    refine OE.ifNo X1 hx hby own_d5_10 (flt hc10).1 ?_
    refine OE.lloadN X1 hx hby own_d5_13 rfl ?_
    refine OE.lload X1 hx hby own_d5_14 rfl ?_
    refine OE.lcmp X1 hx hby own_d5_16 ?_
    refine OE.ifYes X1 hx hby (pc' := 48) own_d5_17 (flt (h1 : ¬ ((0 : Int32) < (lcmpW q2 (((w_filled_a1 - w_position_a1).toInt64) + (0 : Int64)))))).2.2.2 (h := ?_)
    refine OE.lloadN X1 hx hby own_d5_48 rfl ?_
    refine OE.aloadN X1 hx hby own_d5_49 rfl rfl ?_
    obtain ⟨T4, X4, e4, st4⟩ := getF X1 hx hZ hown (host := "") (Or.inl (hw _ (List.mem_of_getElem? (i := 11) rfl))) Via.refl eq1 F_end_a1 (g := (mkF m 50 #[.val (.ref a1), .val (.long q2), .second, .val (.ref a3), .val (.long q4), .second, .val (.ref a5), .val (.long (((w_filled_a1 - w_position_a1).toInt64) + (0 : Int64))), .second] [(.ref a1), (.long q2)])) rfl rfl (hb hby own_d5_50)
    refine OE.of st4 ?_
    show OE _ p e below s _ _ _ T4 (mkF m 53 #[.val (.ref a1), .val (.long q2), .second, .val (.ref a3), .val (.long q4), .second, .val (.ref a5), .val (.long (((w_filled_a1 - w_position_a1).toInt64) + (0 : Int64))), .second] [(.long w_end_a1), (.long q2)])
    refine OE.aloadN X4 hx hby own_d5_53 rfl rfl ?_
    obtain ⟨cq5, kq5, qa5, qb5, qc5⟩ := isOf hZ e4 E_a1
    obtain ⟨_, _, ⟨T5, L5, k5, n5⟩, -, X5, ⟨Lc5, hQ5, l5, y5, z5⟩, st5⟩ := X4.virtualBack hx (y := (⟨"com/example/bytewright/bytewright/io/Input", "total", "()J"⟩ : MethodName)) (z := (⟨"com/example/bytewright/bytewright/io/Input", "total", "()J"⟩ : MethodName)) hown (mvT hZ (hw _ (List.mem_of_getElem? (i := 56) rfl))) (mvT hZ (hw _ (List.mem_of_getElem? (i := 57) rfl))) (notFace_of_selects (args := #[]) (mvT hZ (hw _ (List.mem_of_getElem? (i := 59) rfl)))) (mvT hZ (hw _ (List.mem_of_getElem? (i := 59) rfl))) (mvT hZ (hw _ (List.mem_of_getElem? (i := 58) rfl))) (by decide) (backOf (W := 4) (own_rm7 l Z a0 hw [] a1 w_consumed_a1 w_position_a1 h0 n0 Z0 F_consumed_a1 F_position_a1) hZ (hw _ (List.mem_of_getElem? (i := 60) rfl)) (hw _ (List.mem_of_getElem? (i := 2) rfl)) (by decide) (by decide)) qa5 qc5 (g := (mkF m 54 #[.val (.ref a1), .val (.long q2), .second, .val (.ref a3), .val (.long q4), .second, .val (.ref a5), .val (.long (((w_filled_a1 - w_position_a1).toInt64) + (0 : Int64))), .second] [(.ref a1), (.long w_end_a1), (.long q2)])) rfl (by rw [hml]; rfl) (Steps.refl _) (argsL := []) (rest := [(.long w_end_a1), (.long q2)]) (lenOf own_pd1 rfl) rfl (by show 2 * 0 + _ ≤ _; exact Nat.le_of_eq rfl) (hb hby own_d5_54) (fun _ _ => ⟨rfl, e4, (by decide : 0 + 0 ≤ _), (by decide : 0 + 0 ≤ _)⟩)
    dsimp only [Pt.U, Pt.locs, Pt.cells, Pt.slots] at X5 l5 y5 z5 st5 hQ5
    subst l5 y5 z5
    obtain ⟨rfl, Nq5, eq5⟩ := hQ5
    refine OE.of (fun _ k => st5.trans k) ?_
    have N5 := Fr.app N1 Nq5
    show OE _ p e below s _ _ _ T5 (mkF m 57 #[.val (.ref a1), .val (.long q2), .second, .val (.ref a3), .val (.long q4), .second, .val (.ref a5), .val (.long (((w_filled_a1 - w_position_a1).toInt64) + (0 : Int64))), .second] [(.long (w_consumed_a1 + (w_position_a1.toInt64))), (.long w_end_a1), (.long q2)])
    refine OE.lsub X5 hx hby own_d5_57 ?_
    refine OE.lcmp X5 hx hby own_d5_58 ?_
    refine OE.ifYes X5 hx hby (pc' := 92) own_d5_59 (flt (h2 : ¬ ((0 : Int32) < (lcmpW q2 (w_end_a1 - (w_consumed_a1 + (w_position_a1.toInt64))))))).2.2.2 (h := ?_)
    refine OE.ret0 X5 hx Bd.returns Bd.notSynchronized (hb hby own_d5_92) (by decide) (by decide) ?_
    rw [eq5]
    exact ⟨rfl, N5, rfl⟩
theorem own_d12_0 : decode prog_26_method_39_code 0 = .ok (.aload_n 0, 1) := by decide +kernel
theorem own_d12_1 : decode prog_26_method_39_code 1 = .ok (.getfield 41, 3) := by decide +kernel
theorem own_d12_4 : decode prog_26_method_39_code 4 = .ok (.aload_n 0, 1) := by decide +kernel
theorem own_d12_5 : decode prog_26_method_39_code 5 = .ok (.getfield 88, 3) := by decide +kernel
theorem own_d12_8 : decode prog_26_method_39_code 8 = .ok (.isub, 1) := by decide +kernel
theorem own_d12_9 : decode prog_26_method_39_code 9 = .ok (.iload_n 1, 1) := by decide +kernel
theorem own_d12_10 : decode prog_26_method_39_code 10 = .ok (.if_icmp .ge 8, 3) := by decide +kernel
theorem own_d12_18 : decode prog_26_method_39_code 18 = .ok (.return_, 1) := by decide +kernel
def own_Q12 (Z : State) (a1 : Addr) (p2 : Int32) (w_limit_a1 : Int32) (w_position_a1 : Int32) (h0 : Heap) (n0 : Nat) (v : Option Value) (h : Heap) (L : List Loc) : Prop := v = none ∧ Fr n0 L ∧ h = h0
theorem own_ef_own_rm12 (m : MethodId) (a1 : Addr) (p2 : Int32) : entryFrame m #[(.ref a1), (.int p2)] 2 = mkF m 0 #[.val (.ref a1), .val (.int p2)] [] := by first | (simp [entryFrame, mkF, argsToLocals, Value.category]; done) | rfl
set_option maxRecDepth 65536 in
set_option maxHeartbeats 40000000 in
theorem own_rm12 (l : Launch) (Z : State) (a0 : Array Value) (hw : ∀ d ∈ tables_1, d.before a0 Z = true) (ws : List Jvm.Cond) (a1 : Addr) (p2 : Int32) (w_limit_a1 : Int32) (w_position_a1 : Int32) (h0 : Heap) (n0 : Nat) (Z0 : n0 ≤ h0.size) (F_limit_a1 : Fld Z h0 a1 "com/example/bytewright/bytewright/io/Input" "limit" "I" (.int w_limit_a1)) (F_position_a1 : Fld Z h0 a1 "com/example/bytewright/bytewright/io/Input" "position" "I" (.int w_position_a1)) (hr : ¬ (w_limit_a1 - w_position_a1) < p2) :
    MetFree l (⟨"com/example/bytewright/bytewright/io/Input", "require", "(I)V"⟩ : MethodName) (head1 (Jvm.Cond.code (⟨"com/example/bytewright/bytewright/io/Input", "require", "(I)V"⟩ : MethodName) prog_26_method_39_code 2 none :: ws) ({ frames := 0, cells := 0, slots := 0, locals := 0 } : Room)) (fun a U => a = #[(.ref a1), (.int p2)] ∧ Z.Warmed39 U.vm ∧ U.heap = h0) (fun _ _ _ _ _ => True) (fun _ U o U' => ∃ v L, o = .returned v ∧ own_Q12 Z a1 p2 w_limit_a1 w_position_a1 h0 n0 v U'.heap L ∧ FrameEnd U o U' L ({ frames := 0, cells := 0, slots := 0, locals := 0 } : Room).cells ({ frames := 0, cells := 0, slots := 0, locals := 0 } : Room).slots) := by
  refine MetFree.of_bodySF (plainFor_of_name own_pn1) hisR ?_
  intro p e s m args below meth c s₁ Bd hml0 hP hK
  obtain ⟨rfl, hZ, hh⟩ := hP
  have hx := Bd.exec
  have hby := Bd.bytes
  have hml : c.maxLocals = 2 := hml0
  have hown : s.vm.findClass "com/example/bytewright/bytewright/io/Input" = some m.cls := findClass_of_methodNamed Bd.named
  have hnm := (name_of_methodNamed Bd.named Bd.method).1
  have X0 : Stand p l e ({ frames := 0, cells := 0, slots := 0, locals := 0 } : Room) s m #[(.ref a1), (.int p2)] below meth c s₁ [] 0 0 := Stand.of_body Bd
  have e0 : s₁.heap = h0 := by rw [← hh, Bd.state]; rfl
  have N0 := Fr.nil n0
  show OE FrameEnd p e below s (own_Q12 Z a1 p2 w_limit_a1 w_position_a1 h0 n0) ({ frames := 0, cells := 0, slots := 0, locals := 0 } : Room).cells ({ frames := 0, cells := 0, slots := 0, locals := 0 } : Room).slots s₁ (entryFrame m #[(.ref a1), (.int p2)] 2)
  rw [own_ef_own_rm12]
  show OE _ p e below s _ _ _ s₁ (mkF m 0 #[.val (.ref a1), .val (.int p2)] [])
  refine OE.aloadN X0 hx hby own_d12_0 rfl rfl ?_
  obtain ⟨T1, X1, e1, st1⟩ := getF X0 hx hZ hown (host := "") (Or.inl (hw _ (List.mem_of_getElem? (i := 33) rfl))) Via.refl e0 F_limit_a1 (g := (mkF m 1 #[.val (.ref a1), .val (.int p2)] [(.ref a1)])) rfl rfl (hb hby own_d12_1)
  refine OE.of st1 ?_
  show OE _ p e below s _ _ _ T1 (mkF m 4 #[.val (.ref a1), .val (.int p2)] [(.int w_limit_a1)])
  refine OE.aloadN X1 hx hby own_d12_4 rfl rfl ?_
  obtain ⟨T2, X2, e2, st2⟩ := getF X1 hx hZ hown (host := "") (Or.inl (hw _ (List.mem_of_getElem? (i := 54) rfl))) Via.refl e1 F_position_a1 (g := (mkF m 5 #[.val (.ref a1), .val (.int p2)] [(.ref a1), (.int w_limit_a1)])) rfl rfl (hb hby own_d12_5)
  refine OE.of st2 ?_
  show OE _ p e below s _ _ _ T2 (mkF m 8 #[.val (.ref a1), .val (.int p2)] [(.int w_position_a1), (.int w_limit_a1)])
  refine OE.isub X2 hx hby own_d12_8 ?_
  refine OE.iloadN X2 hx hby own_d12_9 rfl ?_
  refine OE.icmpYes X2 hx hby (pc' := 18) own_d12_10 (flt (hr : ¬ ((w_limit_a1 - w_position_a1) < p2))).2.1 (h := ?_)
  refine OE.ret0 X2 hx Bd.returns Bd.notSynchronized (hb hby own_d12_18) (by decide) (by decide) ?_
  rw [e2]
  exact ⟨rfl, N0, rfl⟩
def own_MAX : Int := 9223372036854775807
theorem own_mx : (9223372036854775807 : Int64).toInt = 9223372036854775807 := by decide
theorem own_i0 : (0 : Int32).toInt = 0 := by decide
theorem own_i1 : (1 : Int32).toInt = 1 := by decide
theorem own_i8 : (8 : Int32).toInt = 8 := by decide
theorem own_j0 : (0 : Int64).toInt = 0 := by decide
theorem own_j8 : (8 : Int64).toInt = 8 := by decide
theorem own_gt (x y : Int64) : (0 : Int32) < lcmpW x y ↔ y.toInt < x.toInt := by rw [lw_gt, Int64.lt_iff_toInt_lt]
theorem own_lt (x y : Int64) : lcmpW x y < (0 : Int32) ↔ x.toInt < y.toInt := by rw [lw_lt, Int64.lt_iff_toInt_lt]
theorem own_eq (x y : Int64) : lcmpW x y = (0 : Int32) ↔ x.toInt = y.toInt := by rw [lw_eq, Int64.toInt_inj]
/-- what the Input holds at position P, end E, limit L where x more bytes may be read (x = the greatest long: no bound) -/
def own_inv (P L : Int32) (E x : Int64) : Prop := 0 ≤ P.toInt ∧ P.toInt ≤ 8 ∧ ((x.toInt = 9223372036854775807 ∧ E.toInt = 9223372036854775807 ∧ L.toInt = 8) ∨ (0 ≤ x.toInt ∧ x.toInt < 9223372036854775807 ∧ E.toInt = P.toInt + x.toInt ∧ E.toInt < 9223372036854775807 ∧ ((8 ≤ E.toInt ∧ L.toInt = 8) ∨ (E.toInt < 8 ∧ L.toInt = E.toInt))))
/-- j bytes may be skipped there -/
def own_may (P L : Int32) (E x : Int64) (j : Int32) : Prop := 0 ≤ j.toInt ∧ P.toInt + j.toInt ≤ 8 ∧ (x.toInt = 9223372036854775807 ∨ j.toInt ≤ x.toInt)
theorem own_sub (a b : Int32) (h : -2147483648 ≤ a.toInt - b.toInt ∧ a.toInt - b.toInt < 2147483648) : (a - b).toInt = a.toInt - b.toInt := by
  have := c_isub a b; have := rng32 (a - b); omega
theorem own_add (a b : Int32) (h : -2147483648 ≤ a.toInt + b.toInt ∧ a.toInt + b.toInt < 2147483648) : (a + b).toInt = a.toInt + b.toInt := by
  have := c_iadd a b; have := rng32 (a + b); omega
theorem own_lsub (a b : Int64) (h : -9223372036854775808 ≤ a.toInt - b.toInt ∧ a.toInt - b.toInt < 9223372036854775808) : (a - b).toInt = a.toInt - b.toInt := by
  have := c_lsub a b; have := rng64 (a - b); omega
theorem own_ladd (a b : Int64) (h : -9223372036854775808 ≤ a.toInt + b.toInt ∧ a.toInt + b.toInt < 9223372036854775808) : (a + b).toInt = a.toInt + b.toInt := by
  have := c_ladd a b; have := rng64 (a + b); omega
theorem own_l2i (a : Int64) (h : -2147483648 ≤ a.toInt ∧ a.toInt < 2147483648) : a.toInt32.toInt = a.toInt := by
  have := c_l2i a; have := rng32 a.toInt32; omega
theorem own_skip {P L p2 : Int32} {E x : Int64} (hi : own_inv P L E x) (hm : own_may P L E x p2) : ¬ p2 < (0 : Int32) ∧ ¬ (0 : Int32) < (lcmpW (p2.toInt64) ((((8 : Int32) - P).toInt64) + (0 : Int64))) ∧ ¬ (0 : Int32) < (lcmpW (p2.toInt64) (E - ((0 : Int64) + (P.toInt64)))) ∧ ¬ (L - P) < p2 ∧ ((0 : Int32) < p2 → ¬ (L - P) < (1 : Int32)) ∧ (p2 - p2) = (0 : Int32) := by
  unfold own_inv own_may at *
  obtain ⟨i1, i2, i3⟩ := hi
  obtain ⟨m1, m2, m3⟩ := hm
  have s1 := own_sub 8 P (by rw [own_i8]; omega)
  have s2 := own_sub L P (by omega)
  have e1 := c_i2l p2
  have e2 := c_i2l P
  have e3 := c_i2l ((8 : Int32) - P)
  have a1 := own_ladd ((8 : Int32) - P).toInt64 0 (by rw [e3, s1, own_i8, own_j0]; omega)
  have a2 := own_ladd 0 P.toInt64 (by rw [e2, own_j0]; omega)
  have a3 := own_lsub E (0 + P.toInt64) (by rw [a2, e2, own_j0]; omega)
  rw [own_gt, own_gt, a1, a3, a2, e1, e2, e3, s1]
  simp only [Int32.lt_iff_toInt_lt, s2, own_i0, own_i1, own_i8, own_j0]
  refine ⟨by omega, by omega, by omega, by omega, by omega, ?_⟩
  apply Int32.toInt_inj.mp
  rw [own_sub p2 p2 (by omega), own_i0]; omega
theorem own_d4_0 : decode prog_26_method_25_code 0 = .ok (.iload_n 1, 1) := by decide +kernel
theorem own_d4_1 : decode prog_26_method_25_code 1 = .ok (.ifCond .ge 12, 3) := by decide +kernel
theorem own_d4_13 : decode prog_26_method_25_code 13 = .ok (.aload_n 0, 1) := by decide +kernel
theorem own_d4_14 : decode prog_26_method_25_code 14 = .ok (.iload_n 1, 1) := by decide +kernel
theorem own_d4_15 : decode prog_26_method_25_code 15 = .ok (.i2l, 1) := by decide +kernel
theorem own_d4_16 : decode prog_26_method_25_code 16 = .ok (.ldc_w 281, 3) := by decide +kernel
theorem own_d4_19 : decode prog_26_method_25_code 19 = .ok (.iload_n 1, 1) := by decide +kernel
theorem own_d4_20 : decode prog_26_method_25_code 20 = .ok (.i2l, 1) := by decide +kernel
theorem own_d4_21 : decode prog_26_method_25_code 21 = .ok (.ldc_w 275, 3) := by decide +kernel
theorem own_d4_24 : decode prog_26_method_25_code 24 = .ok (.invokevirtual 237, 3) := by decide +kernel
theorem own_pd2 : parseMethodDescriptor "(JLjava/lang/String;JLjava/lang/String;)V" = some ⟨[.long, (.object "java/lang/String"), .long, (.object "java/lang/String")], none⟩ := by decide +kernel
theorem own_d4_27 : decode prog_26_method_25_code 27 = .ok (.iload_n 1, 1) := by decide +kernel
theorem own_d4_28 : decode prog_26_method_25_code 28 = .ok (.istore_n 2, 1) := by decide +kernel
theorem own_d4_29 : decode prog_26_method_25_code 29 = .ok (.iload_n 2, 1) := by decide +kernel
theorem own_d4_30 : decode prog_26_method_25_code 30 = .ok (.ifCond .le 39, 3) := by decide +kernel
theorem own_d4_33 : decode prog_26_method_25_code 33 = .ok (.aload_n 0, 1) := by decide +kernel
theorem own_d4_34 : decode prog_26_method_25_code 34 = .ok (.iconst 1, 1) := by decide +kernel
theorem own_d4_35 : decode prog_26_method_25_code 35 = .ok (.invokevirtual 84, 3) := by decide +kernel
theorem own_pd3 : parseMethodDescriptor "(I)V" = some ⟨[.int], none⟩ := by decide +kernel
theorem own_d4_38 : decode prog_26_method_25_code 38 = .ok (.iload_n 2, 1) := by decide +kernel
theorem own_d4_39 : decode prog_26_method_25_code 39 = .ok (.aload_n 0, 1) := by decide +kernel
theorem own_d4_40 : decode prog_26_method_25_code 40 = .ok (.getfield 41, 3) := by decide +kernel
theorem own_d4_43 : decode prog_26_method_25_code 43 = .ok (.aload_n 0, 1) := by decide +kernel
theorem own_d4_44 : decode prog_26_method_25_code 44 = .ok (.getfield 88, 3) := by decide +kernel
theorem own_d4_47 : decode prog_26_method_25_code 47 = .ok (.isub, 1) := by decide +kernel
theorem own_d4_48 : decode prog_26_method_25_code 48 = .ok (.invokestatic 60, 3) := by decide +kernel
theorem own_pd4 : parseMethodDescriptor "(II)I" = some ⟨[.int, .int], some .int⟩ := by decide +kernel
theorem own_d4_51 : decode prog_26_method_25_code 51 = .ok (.istore_n 3, 1) := by decide +kernel
theorem own_d4_52 : decode prog_26_method_25_code 52 = .ok (.aload_n 0, 1) := by decide +kernel
theorem own_d4_53 : decode prog_26_method_25_code 53 = .ok (.dup, 1) := by decide +kernel
theorem own_d4_54 : decode prog_26_method_25_code 54 = .ok (.getfield 88, 3) := by decide +kernel
theorem own_d4_57 : decode prog_26_method_25_code 57 = .ok (.iload_n 3, 1) := by decide +kernel
theorem own_d4_58 : decode prog_26_method_25_code 58 = .ok (.iadd, 1) := by decide +kernel
theorem own_d4_59 : decode prog_26_method_25_code 59 = .ok (.putfield 88, 3) := by decide +kernel
theorem own_d4_62 : decode prog_26_method_25_code 62 = .ok (.iload_n 2, 1) := by decide +kernel
theorem own_d4_63 : decode prog_26_method_25_code 63 = .ok (.iload_n 3, 1) := by decide +kernel
theorem own_d4_64 : decode prog_26_method_25_code 64 = .ok (.isub, 1) := by decide +kernel
theorem own_d4_65 : decode prog_26_method_25_code 65 = .ok (.istore_n 2, 1) := by decide +kernel
theorem own_d4_66 : decode prog_26_method_25_code 66 = .ok (.goto (-37), 3) := by decide +kernel
theorem own_d4_69 : decode prog_26_method_25_code 69 = .ok (.return_, 1) := by decide +kernel
def own_Q4 (Z : State) (a1 : Addr) (p2 : Int32) (w_position_a1 : Int32) (w_end_a1 : Int64) (w_limit_a1 : Int32) (x : Int64) (h0 : Heap) (n0 : Nat) (v : Option Value) (h : Heap) (L : List Loc) : Prop := v = none ∧ Fr n0 L ∧ Keep h0 h [a1] ∧ Exa Z h a1 "com/example/bytewright/bytewright/io/Input" ∧ Fld Z h a1 "com/example/bytewright/bytewright/io/Input" "position" "I" (.int (w_position_a1 + p2)) ∧ Fld Z h a1 "com/example/bytewright/bytewright/io/Input" "end" "J" (.long w_end_a1) ∧ Fld Z h a1 "com/example/bytewright/bytewright/io/Input" "limit" "I" (.int w_limit_a1) ∧ Fld Z h a1 "com/example/bytewright/bytewright/io/Input" "source" "Lcom/example/bytewright/bytewright/io/Input$Source;" .null ∧ Fld Z h a1 "com/example/bytewright/bytewright/io/Input" "filled" "I" (.int (8 : Int32)) ∧ Fld Z h a1 "com/example/bytewright/bytewright/io/Input" "consumed" "J" (.long (0 : Int64))
theorem own_ef_own_rm4 (m : MethodId) (a1 : Addr) (p2 : Int32) : entryFrame m #[(.ref a1), (.int p2)] 4 = mkF m 0 #[.val (.ref a1), .val (.int p2), .unset, .unset] [] := by first | (simp [entryFrame, mkF, argsToLocals, Value.category]; done) | rfl
set_option maxRecDepth 65536 in
set_option maxHeartbeats 40000000 in
theorem own_rm4 (l : Launch) (Z : State) (a0 : Array Value) (hw : ∀ d ∈ tables_1, d.before a0 Z = true) (ws : List Jvm.Cond) (a1 : Addr) (p2 : Int32) (w_position_a1 : Int32) (w_end_a1 : Int64) (w_limit_a1 : Int32) (x : Int64) (h0 : Heap) (n0 : Nat) (Z0 : n0 ≤ h0.size) (E_a1 : Exa Z h0 a1 "com/example/bytewright/bytewright/io/Input") (F_source_a1 : Fld Z h0 a1 "com/example/bytewright/bytewright/io/Input" "source" "Lcom/example/bytewright/bytewright/io/Input$Source;" .null) (F_filled_a1 : Fld Z h0 a1 "com/example/bytewright/bytewright/io/Input" "filled" "I" (.int (8 : Int32))) (F_consumed_a1 : Fld Z h0 a1 "com/example/bytewright/bytewright/io/Input" "consumed" "J" (.long (0 : Int64))) (F_position_a1 : Fld Z h0 a1 "com/example/bytewright/bytewright/io/Input" "position" "I" (.int w_position_a1)) (F_end_a1 : Fld Z h0 a1 "com/example/bytewright/bytewright/io/Input" "end" "J" (.long w_end_a1)) (F_limit_a1 : Fld Z h0 a1 "com/example/bytewright/bytewright/io/Input" "limit" "I" (.int w_limit_a1)) (g_a1 : n0 ≤ a1) (hi : own_inv w_position_a1 w_limit_a1 w_end_a1 x) (hm : own_may w_position_a1 w_limit_a1 w_end_a1 x p2) :
    MetFree l (⟨"com/example/bytewright/bytewright/io/Input", "skip", "(I)V"⟩ : MethodName) (head1 (Jvm.Cond.code (⟨"com/example/bytewright/bytewright/io/Input", "skip", "(I)V"⟩ : MethodName) prog_26_method_25_code 4 none :: ws) ({ frames := 2, cells := 4, slots := 44, locals := 36 } : Room)) (fun a U => a = #[(.ref a1), (.int p2)] ∧ Z.Warmed39 U.vm ∧ U.heap = h0) (fun _ _ _ _ _ => True) (fun _ U o U' => ∃ v L, o = .returned v ∧ own_Q4 Z a1 p2 w_position_a1 w_end_a1 w_limit_a1 x h0 n0 v U'.heap L ∧ ReturnedEndW U o U' L ({ frames := 2, cells := 4, slots := 44, locals := 36 } : Room).cells ({ frames := 2, cells := 4, slots := 44, locals := 36 } : Room).slots) := by
  refine MetFree.of_bodySF (plainFor_of_name own_pn1) hisR ?_
  intro p e s m args below meth c s₁ Bd hml0 hP hK
  obtain ⟨rfl, hZ, hh⟩ := hP
  have hx := Bd.exec
  have hby := Bd.bytes
  have hml : c.maxLocals = 4 := hml0
  have hown : s.vm.findClass "com/example/bytewright/bytewright/io/Input" = some m.cls := findClass_of_methodNamed Bd.named
  have hnm := (name_of_methodNamed Bd.named Bd.method).1
  have X0 : Stand p l e ({ frames := 2, cells := 4, slots := 44, locals := 36 } : Room) s m #[(.ref a1), (.int p2)] below meth c s₁ [] 0 0 := Stand.of_body Bd
  have e0 : s₁.heap = h0 := by rw [← hh, Bd.state]; rfl
  have N0 := Fr.nil n0
  have hS0 : s.Since s.vm 0 := (State.WarmedH.refl s).since 0
  show OE ReturnedEndW p e below s (own_Q4 Z a1 p2 w_position_a1 w_end_a1 w_limit_a1 x h0 n0) ({ frames := 2, cells := 4, slots := 44, locals := 36 } : Room).cells ({ frames := 2, cells := 4, slots := 44, locals := 36 } : Room).slots s₁ (entryFrame m #[(.ref a1), (.int p2)] 4)
  rw [own_ef_own_rm4]
  obtain ⟨u1, u2, u3, u4, u5, u6⟩ := own_skip hi hm
  show OE _ p e below s _ _ _ s₁ (mkF m 0 #[.val (.ref a1), .val (.int p2), .unset, .unset] [])
  refine OE.iloadN X0 hx hby own_d4_0 rfl ?_
  refine OE.ifYes X0 hx hby (pc' := 13) own_d4_1 (flt (u1 : ¬ (p2 < (0 : Int32)))).2.1 (h := ?_)
  refine OE.aloadN X0 hx hby own_d4_13 rfl rfl ?_
  refine OE.iloadN X0 hx hby own_d4_14 rfl ?_
  refine OE.i2l X0 hx hby own_d4_15 ?_
  obtain ⟨sa1, T1, h1, k1, X1, e1, E1, hS1, hkS1, hZ1, hown1, st1⟩ := ldcSW (s := s) (vm0 := s.vm) X0 hx hZ hown (hw _ (List.mem_of_getElem? (i := 44) rfl)) (own_wS hw) e0 hS0 (Nat.zero_le _) (g := (mkF m 16 #[.val (.ref a1), .val (.int p2), .unset, .unset] [(.long (p2.toInt64)), (.ref a1)])) rfl (hb hby own_d4_16) (n := 20) (by decide) (by decide) (by decide) (by decide)
  refine OE.of st1 ?_
  show OE _ p e below s _ _ _ T1 (mkF m 19 #[.val (.ref a1), .val (.int p2), .unset, .unset] [(.ref sa1), (.long (p2.toInt64)), (.ref a1)])
  refine OE.iloadN X1 hx hby own_d4_19 rfl ?_
  refine OE.i2l X1 hx hby own_d4_20 ?_
  obtain ⟨sa2, T2, h2, k2, X2, e2, E2, hS2, hkS2, hZ2, hown2, st2⟩ := ldcSW (s := s) (vm0 := T1.vm) X1 hx hZ1 hown1 (hw _ (List.mem_of_getElem? (i := 45) rfl)) (own_wS hw) e1 hS1 hkS1 (g := (mkF m 21 #[.val (.ref a1), .val (.int p2), .unset, .unset] [(.long (p2.toInt64)), (.ref sa1), (.long (p2.toInt64)), (.ref a1)])) rfl (hb hby own_d4_21) (n := 16) (by decide) (by decide) (by decide) (by decide)
  refine OE.of st2 ?_
  show OE _ p e below s _ _ _ T2 (mkF m 24 #[.val (.ref a1), .val (.int p2), .unset, .unset] [(.ref sa2), (.long (p2.toInt64)), (.ref sa1), (.long (p2.toInt64)), (.ref a1)])
  have f3 : Exa Z h2 a1 "com/example/bytewright/bytewright/io/Input" := ((E_a1.ext E1).ext E2)
  have f4 : Fld Z h2 a1 "com/example/bytewright/bytewright/io/Input" "source" "Lcom/example/bytewright/bytewright/io/Input$Source;" .null := ((F_source_a1.ext E1).ext E2)
  have f5 : Fld Z h2 a1 "com/example/bytewright/bytewright/io/Input" "filled" "I" (.int (8 : Int32)) := ((F_filled_a1.ext E1).ext E2)
  have f6 : Fld Z h2 a1 "com/example/bytewright/bytewright/io/Input" "position" "I" (.int w_position_a1) := ((F_position_a1.ext E1).ext E2)
  have f7 : Fld Z h2 a1 "com/example/bytewright/bytewright/io/Input" "consumed" "J" (.long (0 : Int64)) := ((F_consumed_a1.ext E1).ext E2)
  have f8 : Fld Z h2 a1 "com/example/bytewright/bytewright/io/Input" "end" "J" (.long w_end_a1) := ((F_end_a1.ext E1).ext E2)
  have z9 : n0 ≤ h2.size := (Nat.le_trans (Nat.le_trans Z0 E1.1) E2.1)
  obtain ⟨cq10, qa10, qb10⟩ := f3.cell
  obtain ⟨_, _, ⟨T10, L10, k10, n10⟩, -, X10, ⟨Lc10, hQ10, l10, y10, z10⟩, st10⟩ := X2.privateBack hx (y := (⟨"com/example/bytewright/bytewright/io/Input", "requireDeclared", "(JLjava/lang/String;JLjava/lang/String;)V"⟩ : MethodName)) hown2 (mvT hZ2 (hw _ (List.mem_of_getElem? (i := 46) rfl))) (mvT hZ2 (hw _ (List.mem_of_getElem? (i := 47) rfl))) (own_sel (mvT hZ2 (hw _ (List.mem_of_getElem? (i := 47) rfl)) (args := #[])) (Cond.privateMethod_at (mvP hZ2 (hw _ (List.mem_of_getElem? (i := 48) rfl)) (args := #[]))) (mvT hZ2 (hw _ (List.mem_of_getElem? (i := 1) rfl)) (args := #[])) (by decide)) (Cond.privateMethod_at (mvP hZ2 (hw _ (List.mem_of_getElem? (i := 48) rfl)) (args := #[]))) (mvT hZ2 (hw _ (List.mem_of_getElem? (i := 49) rfl))) (by decide) (backOf (W := 0) (own_rm5 l Z a0 hw [] a1 (p2.toInt64) sa1 (p2.toInt64) sa2 (8 : Int32) w_position_a1 (0 : Int64) w_end_a1 h2 n0 z9 f3 f4 f5 f6 f7 f8 u2 u3) hZ2 (hw _ (List.mem_of_getElem? (i := 49) rfl)) (hw _ (List.mem_of_getElem? (i := 2) rfl)) (by decide) (by decide)) (g := (mkF m 24 #[.val (.ref a1), .val (.int p2), .unset, .unset] [(.ref sa2), (.long (p2.toInt64)), (.ref sa1), (.long (p2.toInt64)), (.ref a1)])) rfl (by rw [hml]; rfl) (Steps.refl _) (a := a1) (by rw [e2]; exact qa10) qb10 (argsL := [(.long (p2.toInt64)), (.ref sa1), (.long (p2.toInt64)), (.ref sa2)]) (rest := []) (lenOf own_pd2 rfl) rfl (by show 2 * 0 + _ ≤ _; exact Nat.le_of_eq rfl) (hb hby own_d4_24) (fun _ _ => ⟨rfl, e2, (by decide : 4 + 0 ≤ _), (by decide : 44 + 0 ≤ _)⟩)
  dsimp only [Pt.U, Pt.locs, Pt.cells, Pt.slots] at X10 l10 y10 z10 st10 hQ10
  subst l10 y10 z10
  obtain ⟨rfl, Nq10, eq10⟩ := hQ10
  refine OE.of (fun _ k => st10.trans k) ?_
  have N10 := Fr.app N0 Nq10
  show OE _ p e below s _ _ _ T10 (mkF m 27 #[.val (.ref a1), .val (.int p2), .unset, .unset] [])
  refine OE.iloadN X10 hx hby own_d4_27 rfl ?_
  refine OE.istoreN X10 hx hby own_d4_28 (l' := #[.val (.ref a1), .val (.int p2), .val (.int p2), .unset]) rfl ?_
  refine OE.iloadN X10 hx hby own_d4_29 rfl ?_
  by_cases hc30 : (0 : Int32) < p2
  · skip
    refine OE.ifNo X10 hx hby own_d4_30 (tlt hc30).2.2.2 ?_
    refine OE.aloadN X10 hx hby own_d4_33 rfl rfl ?_
    refine OE.iconst X10 hx hby own_d4_34 (1 : Int32) rfl ?_
    have f11 : Fld Z h2 a1 "com/example/bytewright/bytewright/io/Input" "limit" "I" (.int w_limit_a1) := ((F_limit_a1.ext E1).ext E2)
    obtain ⟨cq12, qa12, qb12⟩ := f3.cell
    obtain ⟨_, _, ⟨T12, L12, k12, n12⟩, -, X12, ⟨Lc12, hQ12, l12, y12, z12⟩, st12⟩ := X10.privateBack hx (y := (⟨"com/example/bytewright/bytewright/io/Input", "require", "(I)V"⟩ : MethodName)) hown2 (mvT hZ2 (hw _ (List.mem_of_getElem? (i := 81) rfl))) (mvT hZ2 (hw _ (List.mem_of_getElem? (i := 82) rfl))) (own_sel (mvT hZ2 (hw _ (List.mem_of_getElem? (i := 82) rfl)) (args := #[])) (Cond.privateMethod_at (mvP hZ2 (hw _ (List.mem_of_getElem? (i := 83) rfl)) (args := #[]))) (mvT hZ2 (hw _ (List.mem_of_getElem? (i := 1) rfl)) (args := #[])) (by decide)) (Cond.privateMethod_at (mvP hZ2 (hw _ (List.mem_of_getElem? (i := 83) rfl)) (args := #[]))) (mvT hZ2 (hw _ (List.mem_of_getElem? (i := 84) rfl))) (by decide) (backOf (W := 0) (own_rm12 l Z a0 hw [] a1 (1 : Int32) w_limit_a1 w_position_a1 h2 n0 z9 f11 f6 (u5 hc30)) hZ2 (hw _ (List.mem_of_getElem? (i := 84) rfl)) (hw _ (List.mem_of_getElem? (i := 2) rfl)) (by decide) (by decide)) (g := (mkF m 35 #[.val (.ref a1), .val (.int p2), .val (.int p2), .unset] [(.int (1 : Int32)), (.ref a1)])) rfl (by rw [hml]; rfl) (Steps.refl _) (a := a1) (by rw [eq10]; exact qa12) qb12 (argsL := [(.int (1 : Int32))]) (rest := []) (lenOf own_pd3 rfl) rfl (by show 2 * 0 + _ ≤ _; exact Nat.le_of_eq rfl) (hb hby own_d4_35) (fun _ _ => ⟨rfl, eq10, (by decide : 4 + 0 ≤ _), (by decide : 44 + 0 ≤ _)⟩)
    dsimp only [Pt.U, Pt.locs, Pt.cells, Pt.slots] at X12 l12 y12 z12 st12 hQ12
    subst l12 y12 z12
    obtain ⟨rfl, Nq12, eq12⟩ := hQ12
    refine OE.of (fun _ k => st12.trans k) ?_
    have N12 := Fr.app N10 Nq12
    show OE _ p e below s _ _ _ T12 (mkF m 38 #[.val (.ref a1), .val (.int p2), .val (.int p2), .unset] [])
    refine OE.iloadN X12 hx hby own_d4_38 rfl ?_
    refine OE.aloadN X12 hx hby own_d4_39 rfl rfl ?_
    obtain ⟨T13, X13, e13, st13⟩ := getF X12 hx hZ2 hown2 (host := "") (Or.inl (hw _ (List.mem_of_getElem? (i := 33) rfl))) Via.refl eq12 f11 (g := (mkF m 40 #[.val (.ref a1), .val (.int p2), .val (.int p2), .unset] [(.ref a1), (.int p2)])) rfl rfl (hb hby own_d4_40)
    refine OE.of st13 ?_
    show OE _ p e below s _ _ _ T13 (mkF m 43 #[.val (.ref a1), .val (.int p2), .val (.int p2), .unset] [(.int w_limit_a1), (.int p2)])
    refine OE.aloadN X13 hx hby own_d4_43 rfl rfl ?_
    obtain ⟨T14, X14, e14, st14⟩ := getF X13 hx hZ2 hown2 (host := "") (Or.inl (hw _ (List.mem_of_getElem? (i := 54) rfl))) Via.refl e13 f6 (g := (mkF m 44 #[.val (.ref a1), .val (.int p2), .val (.int p2), .unset] [(.ref a1), (.int w_limit_a1), (.int p2)])) rfl rfl (hb hby own_d4_44)
    refine OE.of st14 ?_
    show OE _ p e below s _ _ _ T14 (mkF m 47 #[.val (.ref a1), .val (.int p2), .val (.int p2), .unset] [(.int w_position_a1), (.int w_limit_a1), (.int p2)])
    refine OE.isub X14 hx hby own_d4_47 ?_
    obtain ⟨_, _, ⟨T15, L15, k15, n15⟩, -, X15, ⟨Lc15, hQ15, l15, y15, z15⟩, st15⟩ := Jvm.LawKit.callS X14 hx (y := (⟨"java/lang/Math", "min", "(II)I"⟩ : MethodName)) hown2 (mvT hZ2 (hw _ (List.mem_of_getElem? (i := 85) rfl))) (mvT hZ2 (hw _ (List.mem_of_getElem? (i := 78) rfl))) (mvT hZ2 (hw _ (List.mem_of_getElem? (i := 74) rfl))) (mvT hZ2 (hw _ (List.mem_of_getElem? (i := 79) rfl))) (by decide) (backOf (W := 0) (own_rm11 l Z a0 hw [] p2 (w_limit_a1 - w_position_a1) h2 n0 z9 ) hZ2 (hw _ (List.mem_of_getElem? (i := 79) rfl)) (hw _ (List.mem_of_getElem? (i := 74) rfl)) (by decide) (by decide)) (g := (mkF m 48 #[.val (.ref a1), .val (.int p2), .val (.int p2), .unset] [(.int (w_limit_a1 - w_position_a1)), (.int p2)])) rfl (by rw [hml]; rfl) (argsL := [(.int p2), (.int (w_limit_a1 - w_position_a1))]) (rest := []) (lenOf own_pd4 rfl) rfl (by show 2 * 0 + _ ≤ _; exact Nat.le_of_eq rfl) (hb hby own_d4_48) (fun _ _ => ⟨rfl, e14, (by decide : 4 + 0 ≤ _), (by decide : 44 + 0 ≤ _)⟩)
    dsimp only [Pt.U, Pt.locs, Pt.cells, Pt.slots] at X15 l15 y15 z15 st15 hQ15
    subst l15 y15 z15
    obtain ⟨rfl, Nq15, eq15⟩ := hQ15
    refine OE.of (fun _ k => st15 _ k) ?_
    have N15 := Fr.app N12 Nq15
    show OE _ p e below s _ _ _ T15 (mkF m 51 #[.val (.ref a1), .val (.int p2), .val (.int p2), .unset] [(.int (if (w_limit_a1 - w_position_a1) < p2 then (w_limit_a1 - w_position_a1) else p2))])
    rw [if_neg (show ¬ ((w_limit_a1 - w_position_a1) < p2) from u4)]
    show OE _ p e below s _ _ _ T15 (mkF m 51 #[.val (.ref a1), .val (.int p2), .val (.int p2), .unset] [(.int p2)])
    refine OE.istoreN X15 hx hby own_d4_51 (l' := #[.val (.ref a1), .val (.int p2), .val (.int p2), .val (.int p2)]) rfl ?_
    refine OE.aloadN X15 hx hby own_d4_52 rfl rfl ?_
    refine OE.dup X15 hx hby own_d4_53 rfl ?_
    obtain ⟨T16, X16, e16, st16⟩ := getF X15 hx hZ2 hown2 (host := "") (Or.inl (hw _ (List.mem_of_getElem? (i := 54) rfl))) Via.refl eq15 f6 (g := (mkF m 54 #[.val (.ref a1), .val (.int p2), .val (.int p2), .val (.int p2)] [(.ref a1), (.ref a1)])) rfl rfl (hb hby own_d4_54)
    refine OE.of st16 ?_
    show OE _ p e below s _ _ _ T16 (mkF m 57 #[.val (.ref a1), .val (.int p2), .val (.int p2), .val (.int p2)] [(.int w_position_a1), (.ref a1)])
    refine OE.iloadN X16 hx hby own_d4_57 rfl ?_
    refine OE.iadd X16 hx hby own_d4_58 ?_
    obtain ⟨T17, h17, X17, e17, W17, st17⟩ := putF X16 hx hZ2 hown2 (host := "") (Or.inl (hw _ (List.mem_of_getElem? (i := 54) rfl))) Via.refl e16 f6 f3 (Or.inl (hw _ (List.mem_of_getElem? (i := 55) rfl))) (hw _ (List.mem_of_getElem? (i := 1) rfl)) (ty := .int) (by decide) rfl rfl (g := (mkF m 59 #[.val (.ref a1), .val (.int p2), .val (.int p2), .val (.int p2)] [(.int (w_position_a1 + p2)), (.ref a1)])) rfl rfl (hb hby own_d4_59)
    refine OE.of st17 ?_
    have N17 := Fr.snoc X17 N15 g_a1
    have Fw17 := f6.same W17
    show OE _ p e below s _ _ _ T17 (mkF m 62 #[.val (.ref a1), .val (.int p2), .val (.int p2), .val (.int p2)] [])
    refine OE.iloadN X17 hx hby own_d4_62 rfl ?_
    refine OE.iloadN X17 hx hby own_d4_63 rfl ?_
    refine OE.isub X17 hx hby own_d4_64 ?_
    refine OE.istoreN X17 hx hby own_d4_65 (l' := #[.val (.ref a1), .val (.int p2), .val (.int (p2 - p2)), .val (.int p2)]) rfl ?_
    refine OE.goto X17 hx hby (pc' := 29) own_d4_66 (h := ?_)
    refine OE.iloadN X17 hx hby own_d4_29 rfl ?_
    rw [(u6 : (p2 - p2) = (0 : Int32))]
    show OE _ p e below s _ _ _ T17 (mkF m 30 #[.val (.ref a1), .val (.int p2), .val (.int (0 : Int32)), .val (.int p2)] [(.int (0 : Int32))])
    refine OE.ifYes X17 hx hby (pc' := 69) own_d4_30 (flt (by decide : ¬ ((0 : Int32) < (0 : Int32)))).2.2.2 (h := ?_)
    have zs18 : k2 ≤ h17.size := (Nat.le_trans hkS2 (Nat.le_of_eq W17.size.symm))
    refine OE.ret0W (s := s) (vm1 := T2.vm) hS2 (by rw [e17]; exact zs18) X17 hx Bd.returns Bd.notSynchronized (hb hby own_d4_69) (by decide) (by decide) ?_
    rw [e17]
    have K19 : Keep h0 h17 [a1] := (Keep.wr (Keep.ext (Keep.ext (Keep.refl h0 [a1]) E1) E2) W17 (Or.inl (List.mem_of_getElem? (i := 0) rfl)))
    have f20 : Exa Z h17 a1 "com/example/bytewright/bytewright/io/Input" := (f3.wr W17)
    have f21 : Fld Z h17 a1 "com/example/bytewright/bytewright/io/Input" "end" "J" (.long w_end_a1) := (f8.other W17 (Or.inr (slot_ne (Or.inl (hw _ (List.mem_of_getElem? (i := 12) rfl))) (Or.inl (hw _ (List.mem_of_getElem? (i := 55) rfl))) (by decide) (t := .long) (t' := .int) (by decide) (by decide))))
    have f22 : Fld Z h17 a1 "com/example/bytewright/bytewright/io/Input" "limit" "I" (.int w_limit_a1) := (f11.other W17 (Or.inr (slot_ne (Or.inl (hw _ (List.mem_of_getElem? (i := 34) rfl))) (Or.inl (hw _ (List.mem_of_getElem? (i := 55) rfl))) (by decide) (t := .int) (t' := .int) (by decide) (by decide))))
    have f23 : Fld Z h17 a1 "com/example/bytewright/bytewright/io/Input" "source" "Lcom/example/bytewright/bytewright/io/Input$Source;" .null := (f4.other W17 (Or.inr (slot_ne (Or.inr (hw _ (List.mem_of_getElem? (i := 17) rfl))) (Or.inl (hw _ (List.mem_of_getElem? (i := 55) rfl))) (by decide) (t := (.object "com/example/bytewright/bytewright/io/Input$Source")) (t' := .int) (by decide) (by decide))))
    have f24 : Fld Z h17 a1 "com/example/bytewright/bytewright/io/Input" "filled" "I" (.int (8 : Int32)) := (f5.other W17 (Or.inr (slot_ne (Or.inl (hw _ (List.mem_of_getElem? (i := 36) rfl))) (Or.inl (hw _ (List.mem_of_getElem? (i := 55) rfl))) (by decide) (t := .int) (t' := .int) (by decide) (by decide))))
    have f25 : Fld Z h17 a1 "com/example/bytewright/bytewright/io/Input" "consumed" "J" (.long (0 : Int64)) := (f7.other W17 (Or.inr (slot_ne (Or.inl (hw _ (List.mem_of_getElem? (i := 62) rfl))) (Or.inl (hw _ (List.mem_of_getElem? (i := 55) rfl))) (by decide) (t := .long) (t' := .int) (by decide) (by decide))))
    exact ⟨rfl, N17, K19, f20, Fw17, f21, f22, f23, f24, f25⟩
  · skip
    refine OE.ifYes X10 hx hby (pc' := 69) own_d4_30 (flt hc30).2.2.2 (h := ?_)
    refine OE.ret0W (s := s) (vm1 := T2.vm) hS2 (by rw [eq10]; exact hkS2) X10 hx Bd.returns Bd.notSynchronized (hb hby own_d4_69) (by decide) (by decide) ?_
    rw [eq10]
    have hz : p2 = 0 := by
      unfold own_may at hm
      rw [Int32.lt_iff_toInt_lt, own_i0] at hc30
      exact Int32.toInt_inj.mp (by rw [own_i0]; omega)
    have hp : w_position_a1 + p2 = w_position_a1 := by rw [hz]; simp
    have K26 : Keep h0 h2 [a1] := (Keep.ext (Keep.ext (Keep.refl h0 [a1]) E1) E2)
    have f27 : Fld Z h2 a1 "com/example/bytewright/bytewright/io/Input" "limit" "I" (.int w_limit_a1) := ((F_limit_a1.ext E1).ext E2)
    exact ⟨rfl, N10, K26, f3, (hp.symm ▸ f6), f8, f27, f4, f5, f7⟩
theorem own_d9_0 : decode prog_26_method_36_code 0 = .ok (.aload_n 0, 1) := by decide +kernel
theorem own_d9_1 : decode prog_26_method_36_code 1 = .ok (.aload_n 0, 1) := by decide +kernel
theorem own_d9_2 : decode prog_26_method_36_code 2 = .ok (.getfield 44, 3) := by decide +kernel
theorem own_d9_5 : decode prog_26_method_36_code 5 = .ok (.i2l, 1) := by decide +kernel
theorem own_d9_6 : decode prog_26_method_36_code 6 = .ok (.aload_n 0, 1) := by decide +kernel
theorem own_d9_7 : decode prog_26_method_36_code 7 = .ok (.getfield 11, 3) := by decide +kernel
theorem own_d9_10 : decode prog_26_method_36_code 10 = .ok (.aload_n 0, 1) := by decide +kernel
theorem own_d9_11 : decode prog_26_method_36_code 11 = .ok (.getfield 290, 3) := by decide +kernel
theorem own_d9_14 : decode prog_26_method_36_code 14 = .ok (.lsub, 1) := by decide +kernel
theorem own_d9_15 : decode prog_26_method_36_code 15 = .ok (.invokestatic 334, 3) := by decide +kernel
theorem own_pd5 : parseMethodDescriptor "(JJ)J" = some ⟨[.long, .long], some .long⟩ := by decide +kernel
theorem own_d9_18 : decode prog_26_method_36_code 18 = .ok (.l2i, 1) := by decide +kernel
theorem own_d9_19 : decode prog_26_method_36_code 19 = .ok (.putfield 41, 3) := by decide +kernel
theorem own_d9_22 : decode prog_26_method_36_code 22 = .ok (.return_, 1) := by decide +kernel
def own_Q9 (Z : State) (a1 : Addr) (w_filled_a1 : Int32) (w_end_a1 : Int64) (w_consumed_a1 : Int64) (w_limit_a1 : Int32) (w_position_a1 : Int32) (h0 : Heap) (n0 : Nat) (v : Option Value) (h : Heap) (L : List Loc) : Prop := v = none ∧ Fr n0 L ∧ Keep h0 h [a1] ∧ Exa Z h a1 "com/example/bytewright/bytewright/io/Input" ∧ Fld Z h a1 "com/example/bytewright/bytewright/io/Input" "filled" "I" (.int w_filled_a1) ∧ Fld Z h a1 "com/example/bytewright/bytewright/io/Input" "end" "J" (.long w_end_a1) ∧ Fld Z h a1 "com/example/bytewright/bytewright/io/Input" "consumed" "J" (.long w_consumed_a1) ∧ Fld Z h a1 "com/example/bytewright/bytewright/io/Input" "position" "I" (.int w_position_a1) ∧ Fld Z h a1 "com/example/bytewright/bytewright/io/Input" "source" "Lcom/example/bytewright/bytewright/io/Input$Source;" .null ∧ Fld Z h a1 "com/example/bytewright/bytewright/io/Input" "limit" "I" (.int ((if (0 : Int32) < (lcmpW (w_filled_a1.toInt64) (w_end_a1 - w_consumed_a1)) then (w_end_a1 - w_consumed_a1) else (w_filled_a1.toInt64)).toInt32))
theorem own_ef_own_rm9 (m : MethodId) (a1 : Addr) : entryFrame m #[(.ref a1)] 1 = mkF m 0 #[.val (.ref a1)] [] := by first | (simp [entryFrame, mkF, argsToLocals, Value.category]; done) | rfl
set_option maxRecDepth 65536 in
set_option maxHeartbeats 40000000 in
theorem own_rm9 (l : Launch) (Z : State) (a0 : Array Value) (hw : ∀ d ∈ tables_1, d.before a0 Z = true) (ws : List Jvm.Cond) (a1 : Addr) (w_filled_a1 : Int32) (w_end_a1 : Int64) (w_consumed_a1 : Int64) (w_limit_a1 : Int32) (w_position_a1 : Int32) (h0 : Heap) (n0 : Nat) (Z0 : n0 ≤ h0.size) (E_a1 : Exa Z h0 a1 "com/example/bytewright/bytewright/io/Input") (F_filled_a1 : Fld Z h0 a1 "com/example/bytewright/bytewright/io/Input" "filled" "I" (.int w_filled_a1)) (F_end_a1 : Fld Z h0 a1 "com/example/bytewright/bytewright/io/Input" "end" "J" (.long w_end_a1)) (F_consumed_a1 : Fld Z h0 a1 "com/example/bytewright/bytewright/io/Input" "consumed" "J" (.long w_consumed_a1)) (F_limit_a1 : Fld Z h0 a1 "com/example/bytewright/bytewright/io/Input" "limit" "I" (.int w_limit_a1)) (F_position_a1 : Fld Z h0 a1 "com/example/bytewright/bytewright/io/Input" "position" "I" (.int w_position_a1)) (F_source_a1 : Fld Z h0 a1 "com/example/bytewright/bytewright/io/Input" "source" "Lcom/example/bytewright/bytewright/io/Input$Source;" .null) (g_a1 : n0 ≤ a1) :
    MetFree l (⟨"com/example/bytewright/bytewright/io/Input", "clampLimit", "()V"⟩ : MethodName) (head1 (Jvm.Cond.code (⟨"com/example/bytewright/bytewright/io/Input", "clampLimit", "()V"⟩ : MethodName) prog_26_method_36_code 1 none :: ws) ({ frames := 1, cells := 0, slots := 0, locals := 16 } : Room)) (fun a U => a = #[(.ref a1)] ∧ Z.Warmed39 U.vm ∧ U.heap = h0) (fun _ _ _ _ _ => True) (fun _ U o U' => ∃ v L, o = .returned v ∧ own_Q9 Z a1 w_filled_a1 w_end_a1 w_consumed_a1 w_limit_a1 w_position_a1 h0 n0 v U'.heap L ∧ FrameEnd U o U' L ({ frames := 1, cells := 0, slots := 0, locals := 16 } : Room).cells ({ frames := 1, cells := 0, slots := 0, locals := 16 } : Room).slots) := by
  refine MetFree.of_bodySF (plainFor_of_name own_pn1) hisR ?_
  intro p e s m args below meth c s₁ Bd hml0 hP hK
  obtain ⟨rfl, hZ, hh⟩ := hP
  have hx := Bd.exec
  have hby := Bd.bytes
  have hml : c.maxLocals = 1 := hml0
  have hown : s.vm.findClass "com/example/bytewright/bytewright/io/Input" = some m.cls := findClass_of_methodNamed Bd.named
  have hnm := (name_of_methodNamed Bd.named Bd.method).1
  have X0 : Stand p l e ({ frames := 1, cells := 0, slots := 0, locals := 16 } : Room) s m #[(.ref a1)] below meth c s₁ [] 0 0 := Stand.of_body Bd
  have e0 : s₁.heap = h0 := by rw [← hh, Bd.state]; rfl
  have N0 := Fr.nil n0
  show OE FrameEnd p e below s (own_Q9 Z a1 w_filled_a1 w_end_a1 w_consumed_a1 w_limit_a1 w_position_a1 h0 n0) ({ frames := 1, cells := 0, slots := 0, locals := 16 } : Room).cells ({ frames := 1, cells := 0, slots := 0, locals := 16 } : Room).slots s₁ (entryFrame m #[(.ref a1)] 1)
  rw [own_ef_own_rm9]
  show OE _ p e below s _ _ _ s₁ (mkF m 0 #[.val (.ref a1)] [])
  refine OE.aloadN X0 hx hby own_d9_0 rfl rfl ?_
  refine OE.aloadN X0 hx hby own_d9_1 rfl rfl ?_
  obtain ⟨T1, X1, e1, st1⟩ := getF X0 hx hZ hown (host := "") (Or.inl (hw _ (List.mem_of_getElem? (i := 35) rfl))) Via.refl e0 F_filled_a1 (g := (mkF m 2 #[.val (.ref a1)] [(.ref a1), (.ref a1)])) rfl rfl (hb hby own_d9_2)
  refine OE.of st1 ?_
  show OE _ p e below s _ _ _ T1 (mkF m 5 #[.val (.ref a1)] [(.int w_filled_a1), (.ref a1)])
  refine OE.i2l X1 hx hby own_d9_5 ?_
  refine OE.aloadN X1 hx hby own_d9_6 rfl rfl ?_
  obtain ⟨T2, X2, e2, st2⟩ := getF X1 hx hZ hown (host := "") (Or.inl (hw _ (List.mem_of_getElem? (i := 11) rfl))) Via.refl e1 F_end_a1 (g := (mkF m 7 #[.val (.ref a1)] [(.ref a1), (.long (w_filled_a1.toInt64)), (.ref a1)])) rfl rfl (hb hby own_d9_7)
  refine OE.of st2 ?_
  show OE _ p e below s _ _ _ T2 (mkF m 10 #[.val (.ref a1)] [(.long w_end_a1), (.long (w_filled_a1.toInt64)), (.ref a1)])
  refine OE.aloadN X2 hx hby own_d9_10 rfl rfl ?_
  obtain ⟨T3, X3, e3, st3⟩ := getF X2 hx hZ hown (host := "") (Or.inl (hw _ (List.mem_of_getElem? (i := 61) rfl))) Via.refl e2 F_consumed_a1 (g := (mkF m 11 #[.val (.ref a1)] [(.ref a1), (.long w_end_a1), (.long (w_filled_a1.toInt64)), (.ref a1)])) rfl rfl (hb hby own_d9_11)
  refine OE.of st3 ?_
  show OE _ p e below s _ _ _ T3 (mkF m 14 #[.val (.ref a1)] [(.long w_consumed_a1), (.long w_end_a1), (.long (w_filled_a1.toInt64)), (.ref a1)])
  refine OE.lsub X3 hx hby own_d9_14 ?_
  obtain ⟨_, _, ⟨T4, L4, k4, n4⟩, -, X4, ⟨Lc4, hQ4, l4, y4, z4⟩, st4⟩ := Jvm.LawKit.callS X3 hx (y := (⟨"java/lang/Math", "min", "(JJ)J"⟩ : MethodName)) hown (mvT hZ (hw _ (List.mem_of_getElem? (i := 72) rfl))) (mvT hZ (hw _ (List.mem_of_getElem? (i := 73) rfl))) (mvT hZ (hw _ (List.mem_of_getElem? (i := 74) rfl))) (mvT hZ (hw _ (List.mem_of_getElem? (i := 75) rfl))) (by decide) (backOf (W := 1) (own_rm10 l Z a0 hw [] (w_filled_a1.toInt64) (w_end_a1 - w_consumed_a1) h0 n0 Z0 ) hZ (hw _ (List.mem_of_getElem? (i := 75) rfl)) (hw _ (List.mem_of_getElem? (i := 74) rfl)) (by decide) (by decide)) (g := (mkF m 15 #[.val (.ref a1)] [(.long (w_end_a1 - w_consumed_a1)), (.long (w_filled_a1.toInt64)), (.ref a1)])) rfl (by rw [hml]; rfl) (argsL := [(.long (w_filled_a1.toInt64)), (.long (w_end_a1 - w_consumed_a1))]) (rest := [(.ref a1)]) (lenOf own_pd5 rfl) rfl (by show 2 * 0 + _ ≤ _; exact Nat.le_of_eq rfl) (hb hby own_d9_15) (fun _ _ => ⟨rfl, e3, (by decide : 0 + 0 ≤ _), (by decide : 0 + 0 ≤ _)⟩)
  dsimp only [Pt.U, Pt.locs, Pt.cells, Pt.slots] at X4 l4 y4 z4 st4 hQ4
  subst l4 y4 z4
  obtain ⟨rfl, Nq4, eq4⟩ := hQ4
  refine OE.of (fun _ k => st4 _ k) ?_
  have N4 := Fr.app N0 Nq4
  show OE _ p e below s _ _ _ T4 (mkF m 18 #[.val (.ref a1)] [(.long (if (0 : Int32) < (lcmpW (w_filled_a1.toInt64) (w_end_a1 - w_consumed_a1)) then (w_end_a1 - w_consumed_a1) else (w_filled_a1.toInt64))), (.ref a1)])
  refine OE.l2i X4 hx hby own_d9_18 ?_
  obtain ⟨T5, h5, X5, e5, W5, st5⟩ := putF X4 hx hZ hown (host := "") (Or.inl (hw _ (List.mem_of_getElem? (i := 33) rfl))) Via.refl eq4 F_limit_a1 E_a1 (Or.inl (hw _ (List.mem_of_getElem? (i := 34) rfl))) (hw _ (List.mem_of_getElem? (i := 1) rfl)) (ty := .int) (by decide) rfl rfl (g := (mkF m 19 #[.val (.ref a1)] [(.int ((if (0 : Int32) < (lcmpW (w_filled_a1.toInt64) (w_end_a1 - w_consumed_a1)) then (w_end_a1 - w_consumed_a1) else (w_filled_a1.toInt64)).toInt32)), (.ref a1)])) rfl rfl (hb hby own_d9_19)
  refine OE.of st5 ?_
  have N5 := Fr.snoc X5 N4 g_a1
  have Fw5 := F_limit_a1.same W5
  show OE _ p e below s _ _ _ T5 (mkF m 22 #[.val (.ref a1)] [])
  refine OE.ret0 X5 hx Bd.returns Bd.notSynchronized (hb hby own_d9_22) (by decide) (by decide) ?_
  rw [e5]
  have K6 : Keep h0 h5 [a1] := (Keep.wr (Keep.refl h0 [a1]) W5 (Or.inl (List.mem_of_getElem? (i := 0) rfl)))
  have f7 : Exa Z h5 a1 "com/example/bytewright/bytewright/io/Input" := (E_a1.wr W5)
  have f8 : Fld Z h5 a1 "com/example/bytewright/bytewright/io/Input" "filled" "I" (.int w_filled_a1) := (F_filled_a1.other W5 (Or.inr (slot_ne (Or.inl (hw _ (List.mem_of_getElem? (i := 36) rfl))) (Or.inl (hw _ (List.mem_of_getElem? (i := 34) rfl))) (by decide) (t := .int) (t' := .int) (by decide) (by decide))))
  have f9 : Fld Z h5 a1 "com/example/bytewright/bytewright/io/Input" "end" "J" (.long w_end_a1) := (F_end_a1.other W5 (Or.inr (slot_ne (Or.inl (hw _ (List.mem_of_getElem? (i := 12) rfl))) (Or.inl (hw _ (List.mem_of_getElem? (i := 34) rfl))) (by decide) (t := .long) (t' := .int) (by decide) (by decide))))
  have f10 : Fld Z h5 a1 "com/example/bytewright/bytewright/io/Input" "consumed" "J" (.long w_consumed_a1) := (F_consumed_a1.other W5 (Or.inr (slot_ne (Or.inl (hw _ (List.mem_of_getElem? (i := 62) rfl))) (Or.inl (hw _ (List.mem_of_getElem? (i := 34) rfl))) (by decide) (t := .long) (t' := .int) (by decide) (by decide))))
  have f11 : Fld Z h5 a1 "com/example/bytewright/bytewright/io/Input" "position" "I" (.int w_position_a1) := (F_position_a1.other W5 (Or.inr (slot_ne (Or.inl (hw _ (List.mem_of_getElem? (i := 55) rfl))) (Or.inl (hw _ (List.mem_of_getElem? (i := 34) rfl))) (by decide) (t := .int) (t' := .int) (by decide) (by decide))))
  have f12 : Fld Z h5 a1 "com/example/bytewright/bytewright/io/Input" "source" "Lcom/example/bytewright/bytewright/io/Input$Source;" .null := (F_source_a1.other W5 (Or.inr (slot_ne (Or.inr (hw _ (List.mem_of_getElem? (i := 17) rfl))) (Or.inl (hw _ (List.mem_of_getElem? (i := 34) rfl))) (by decide) (t := (.object "com/example/bytewright/bytewright/io/Input$Source")) (t' := .int) (by decide) (by decide))))
  exact ⟨rfl, N5, K6, f7, f8, f9, f10, f11, f12, Fw5⟩
theorem own_d8_0 : decode prog_26_method_26_code 0 = .ok (.lload_n 1, 1) := by decide +kernel
theorem own_d8_1 : decode prog_26_method_26_code 1 = .ok (.lconst 0, 1) := by decide +kernel
theorem own_d8_2 : decode prog_26_method_26_code 2 = .ok (.lcmp, 1) := by decide +kernel
theorem own_d8_3 : decode prog_26_method_26_code 3 = .ok (.ifCond .ge 17, 3) := by decide +kernel
theorem own_d8_20 : decode prog_26_method_26_code 20 = .ok (.aload_n 0, 1) := by decide +kernel
theorem own_d8_21 : decode prog_26_method_26_code 21 = .ok (.lload_n 1, 1) := by decide +kernel
theorem own_d8_22 : decode prog_26_method_26_code 22 = .ok (.ldc2_w 9, 3) := by decide +kernel
theorem own_d8_25 : decode prog_26_method_26_code 25 = .ok (.aload_n 0, 1) := by decide +kernel
theorem own_d8_26 : decode prog_26_method_26_code 26 = .ok (.invokevirtual 91, 3) := by decide +kernel
theorem own_d8_29 : decode prog_26_method_26_code 29 = .ok (.lsub, 1) := by decide +kernel
theorem own_d8_30 : decode prog_26_method_26_code 30 = .ok (.lcmp, 1) := by decide +kernel
theorem own_d8_31 : decode prog_26_method_26_code 31 = .ok (.ifCond .le 9, 3) := by decide +kernel
theorem own_d8_34 : decode prog_26_method_26_code 34 = .ok (.ldc2_w 9, 3) := by decide +kernel
theorem own_d8_37 : decode prog_26_method_26_code 37 = .ok (.goto 9, 3) := by decide +kernel
theorem own_d8_46 : decode prog_26_method_26_code 46 = .ok (.putfield 11, 3) := by decide +kernel
theorem own_d8_49 : decode prog_26_method_26_code 49 = .ok (.aload_n 0, 1) := by decide +kernel
theorem own_d8_50 : decode prog_26_method_26_code 50 = .ok (.invokevirtual 286, 3) := by decide +kernel
theorem own_pd6 : parseMethodDescriptor "()V" = some ⟨[], none⟩ := by decide +kernel
theorem own_d8_53 : decode prog_26_method_26_code 53 = .ok (.return_, 1) := by decide +kernel
def own_Q8_hi (Z : State) (a1 : Addr) (q2 : Int64) (w_position_a1 : Int32) (w_end_a1 : Int64) (w_limit_a1 : Int32) (h0 : Heap) (n0 : Nat) (v : Option Value) (h : Heap) (L : List Loc) : Prop := v = none ∧ Fr n0 L ∧ Keep h0 h [a1] ∧ Exa Z h a1 "com/example/bytewright/bytewright/io/Input" ∧ Fld Z h a1 "com/example/bytewright/bytewright/io/Input" "position" "I" (.int w_position_a1) ∧ Fld Z h a1 "com/example/bytewright/bytewright/io/Input" "end" "J" (.long (9223372036854775807 : Int64)) ∧ Fld Z h a1 "com/example/bytewright/bytewright/io/Input" "limit" "I" (.int ((if (0 : Int32) < (lcmpW ((8 : Int32).toInt64) ((9223372036854775807 : Int64) - (0 : Int64))) then ((9223372036854775807 : Int64) - (0 : Int64)) else ((8 : Int32).toInt64)).toInt32)) ∧ Fld Z h a1 "com/example/bytewright/bytewright/io/Input" "filled" "I" (.int (8 : Int32)) ∧ Fld Z h a1 "com/example/bytewright/bytewright/io/Input" "source" "Lcom/example/bytewright/bytewright/io/Input$Source;" .null ∧ Fld Z h a1 "com/example/bytewright/bytewright/io/Input" "consumed" "J" (.long (0 : Int64))
theorem own_ef_own_rm8_hi (m : MethodId) (a1 : Addr) (q2 : Int64) : entryFrame m #[(.ref a1), (.long q2)] 3 = mkF m 0 #[.val (.ref a1), .val (.long q2), .second] [] := by first | (simp [entryFrame, mkF, argsToLocals, Value.category]; done) | rfl
set_option maxRecDepth 65536 in
set_option maxHeartbeats 40000000 in
theorem own_rm8_hi (l : Launch) (Z : State) (a0 : Array Value) (hw : ∀ d ∈ tables_1, d.before a0 Z = true) (ws : List Jvm.Cond) (a1 : Addr) (q2 : Int64) (w_position_a1 : Int32) (w_end_a1 : Int64) (w_limit_a1 : Int32) (h0 : Heap) (n0 : Nat) (Z0 : n0 ≤ h0.size) (E_a1 : Exa Z h0 a1 "com/example/bytewright/bytewright/io/Input") (F_filled_a1 : Fld Z h0 a1 "com/example/bytewright/bytewright/io/Input" "filled" "I" (.int (8 : Int32))) (F_consumed_a1 : Fld Z h0 a1 "com/example/bytewright/bytewright/io/Input" "consumed" "J" (.long (0 : Int64))) (F_position_a1 : Fld Z h0 a1 "com/example/bytewright/bytewright/io/Input" "position" "I" (.int w_position_a1)) (F_end_a1 : Fld Z h0 a1 "com/example/bytewright/bytewright/io/Input" "end" "J" (.long w_end_a1)) (F_limit_a1 : Fld Z h0 a1 "com/example/bytewright/bytewright/io/Input" "limit" "I" (.int w_limit_a1)) (F_source_a1 : Fld Z h0 a1 "com/example/bytewright/bytewright/io/Input" "source" "Lcom/example/bytewright/bytewright/io/Input$Source;" .null) (g_a1 : n0 ≤ a1) (hq : ¬ (lcmpW q2 (0 : Int64)) < (0 : Int32)) (hbb : (0 : Int32) < (lcmpW q2 ((9223372036854775807 : Int64) - ((0 : Int64) + (w_position_a1.toInt64))))) :
    MetFree l (⟨"com/example/bytewright/bytewright/io/Input", "setMaxBytes", "(J)V"⟩ : MethodName) (head1 (Jvm.Cond.code (⟨"com/example/bytewright/bytewright/io/Input", "setMaxBytes", "(J)V"⟩ : MethodName) prog_26_method_26_code 3 none :: ws) ({ frames := 2, cells := 0, slots := 0, locals := 28 } : Room)) (fun a U => a = #[(.ref a1), (.long q2)] ∧ Z.Warmed39 U.vm ∧ U.heap = h0) (fun _ _ _ _ _ => True) (fun _ U o U' => ∃ v L, o = .returned v ∧ own_Q8_hi Z a1 q2 w_position_a1 w_end_a1 w_limit_a1 h0 n0 v U'.heap L ∧ FrameEnd U o U' L ({ frames := 2, cells := 0, slots := 0, locals := 28 } : Room).cells ({ frames := 2, cells := 0, slots := 0, locals := 28 } : Room).slots) := by
  refine MetFree.of_bodySF (plainFor_of_name own_pn1) hisR ?_
  intro p e s m args below meth c s₁ Bd hml0 hP hK
  obtain ⟨rfl, hZ, hh⟩ := hP
  have hx := Bd.exec
  have hby := Bd.bytes
  have hml : c.maxLocals = 3 := hml0
  have hown : s.vm.findClass "com/example/bytewright/bytewright/io/Input" = some m.cls := findClass_of_methodNamed Bd.named
  have hnm := (name_of_methodNamed Bd.named Bd.method).1
  have X0 : Stand p l e ({ frames := 2, cells := 0, slots := 0, locals := 28 } : Room) s m #[(.ref a1), (.long q2)] below meth c s₁ [] 0 0 := Stand.of_body Bd
  have e0 : s₁.heap = h0 := by rw [← hh, Bd.state]; rfl
  have N0 := Fr.nil n0
  show OE FrameEnd p e below s (own_Q8_hi Z a1 q2 w_position_a1 w_end_a1 w_limit_a1 h0 n0) ({ frames := 2, cells := 0, slots := 0, locals := 28 } : Room).cells ({ frames := 2, cells := 0, slots := 0, locals := 28 } : Room).slots s₁ (entryFrame m #[(.ref a1), (.long q2)] 3)
  rw [own_ef_own_rm8_hi]
  show OE _ p e below s _ _ _ s₁ (mkF m 0 #[.val (.ref a1), .val (.long q2), .second] [])
  refine OE.lloadN X0 hx hby own_d8_0 rfl ?_
  refine OE.lconst X0 hx hby own_d8_1 (0 : Int64) rfl ?_
  refine OE.lcmp X0 hx hby own_d8_2 ?_
  refine OE.ifYes X0 hx hby (pc' := 20) own_d8_3 (flt (hq : ¬ ((lcmpW q2 (0 : Int64)) < (0 : Int32)))).2.1 (h := ?_)
  refine OE.aloadN X0 hx hby own_d8_20 rfl rfl ?_
  refine OE.lloadN X0 hx hby own_d8_21 rfl ?_
  refine OE.of (X0.ldc2Long hx hown (mvT hZ (hw _ (List.mem_of_getElem? (i := 10) rfl))) (g := (mkF m 22 #[.val (.ref a1), .val (.long q2), .second] [(.long q2), (.ref a1)])) rfl (hb hby own_d8_22)) ?_
  show OE _ p e below s _ _ _ s₁ (mkF m 25 #[.val (.ref a1), .val (.long q2), .second] [(.long (9223372036854775807 : Int64)), (.long q2), (.ref a1)])
  refine OE.aloadN X0 hx hby own_d8_25 rfl rfl ?_
  obtain ⟨cq1, kq1, qa1, qb1, qc1⟩ := isOf hZ e0 E_a1
  obtain ⟨_, _, ⟨T1, L1, k1, n1⟩, -, X1, ⟨Lc1, hQ1, l1, y1, z1⟩, st1⟩ := X0.virtualBack hx (y := (⟨"com/example/bytewright/bytewright/io/Input", "total", "()J"⟩ : MethodName)) (z := (⟨"com/example/bytewright/bytewright/io/Input", "total", "()J"⟩ : MethodName)) hown (mvT hZ (hw _ (List.mem_of_getElem? (i := 56) rfl))) (mvT hZ (hw _ (List.mem_of_getElem? (i := 57) rfl))) (notFace_of_selects (args := #[]) (mvT hZ (hw _ (List.mem_of_getElem? (i := 59) rfl)))) (mvT hZ (hw _ (List.mem_of_getElem? (i := 59) rfl))) (mvT hZ (hw _ (List.mem_of_getElem? (i := 58) rfl))) (by decide) (backOf (W := 5) (own_rm7 l Z a0 hw [] a1 (0 : Int64) w_position_a1 h0 n0 Z0 F_consumed_a1 F_position_a1) hZ (hw _ (List.mem_of_getElem? (i := 60) rfl)) (hw _ (List.mem_of_getElem? (i := 2) rfl)) (by decide) (by decide)) qa1 qc1 (g := (mkF m 26 #[.val (.ref a1), .val (.long q2), .second] [(.ref a1), (.long (9223372036854775807 : Int64)), (.long q2), (.ref a1)])) rfl (by rw [hml]; rfl) (Steps.refl _) (argsL := []) (rest := [(.long (9223372036854775807 : Int64)), (.long q2), (.ref a1)]) (lenOf own_pd1 rfl) rfl (by show 2 * 0 + _ ≤ _; exact Nat.le_of_eq rfl) (hb hby own_d8_26) (fun _ _ => ⟨rfl, e0, (by decide : 0 + 0 ≤ _), (by decide : 0 + 0 ≤ _)⟩)
  dsimp only [Pt.U, Pt.locs, Pt.cells, Pt.slots] at X1 l1 y1 z1 st1 hQ1
  subst l1 y1 z1
  obtain ⟨rfl, Nq1, eq1⟩ := hQ1
  refine OE.of (fun _ k => st1.trans k) ?_
  have N1 := Fr.app N0 Nq1
  show OE _ p e below s _ _ _ T1 (mkF m 29 #[.val (.ref a1), .val (.long q2), .second] [(.long ((0 : Int64) + (w_position_a1.toInt64))), (.long (9223372036854775807 : Int64)), (.long q2), (.ref a1)])
  refine OE.lsub X1 hx hby own_d8_29 ?_
  refine OE.lcmp X1 hx hby own_d8_30 ?_
  refine OE.ifNo X1 hx hby own_d8_31 (tlt (hbb : (0 : Int32) < (lcmpW q2 ((9223372036854775807 : Int64) - ((0 : Int64) + (w_position_a1.toInt64)))))).2.2.2 ?_
  refine OE.of (X1.ldc2Long hx hown (mvT hZ (hw _ (List.mem_of_getElem? (i := 10) rfl))) (g := (mkF m 34 #[.val (.ref a1), .val (.long q2), .second] [(.ref a1)])) rfl (hb hby own_d8_34)) ?_
  show OE _ p e below s _ _ _ T1 (mkF m 37 #[.val (.ref a1), .val (.long q2), .second] [(.long (9223372036854775807 : Int64)), (.ref a1)])
  refine OE.goto X1 hx hby (pc' := 46) own_d8_37 (h := ?_)
  obtain ⟨T2, h2, X2, e2, W2, st2⟩ := putF X1 hx hZ hown (host := "") (Or.inl (hw _ (List.mem_of_getElem? (i := 11) rfl))) Via.refl eq1 F_end_a1 E_a1 (Or.inl (hw _ (List.mem_of_getElem? (i := 12) rfl))) (hw _ (List.mem_of_getElem? (i := 1) rfl)) (ty := .long) (by decide) rfl rfl (g := (mkF m 46 #[.val (.ref a1), .val (.long q2), .second] [(.long (9223372036854775807 : Int64)), (.ref a1)])) rfl rfl (hb hby own_d8_46)
  refine OE.of st2 ?_
  have N2 := Fr.snoc X2 N1 g_a1
  have Fw2 := F_end_a1.same W2
  show OE _ p e below s _ _ _ T2 (mkF m 49 #[.val (.ref a1), .val (.long q2), .second] [])
  refine OE.aloadN X2 hx hby own_d8_49 rfl rfl ?_
  have f3 : Exa Z h2 a1 "com/example/bytewright/bytewright/io/Input" := (E_a1.wr W2)
  have f4 : Fld Z h2 a1 "com/example/bytewright/bytewright/io/Input" "filled" "I" (.int (8 : Int32)) := (F_filled_a1.other W2 (Or.inr (slot_ne (Or.inl (hw _ (List.mem_of_getElem? (i := 36) rfl))) (Or.inl (hw _ (List.mem_of_getElem? (i := 12) rfl))) (by decide) (t := .int) (t' := .long) (by decide) (by decide))))
  have f5 : Fld Z h2 a1 "com/example/bytewright/bytewright/io/Input" "consumed" "J" (.long (0 : Int64)) := (F_consumed_a1.other W2 (Or.inr (slot_ne (Or.inl (hw _ (List.mem_of_getElem? (i := 62) rfl))) (Or.inl (hw _ (List.mem_of_getElem? (i := 12) rfl))) (by decide) (t := .long) (t' := .long) (by decide) (by decide))))
  have f6 : Fld Z h2 a1 "com/example/bytewright/bytewright/io/Input" "limit" "I" (.int w_limit_a1) := (F_limit_a1.other W2 (Or.inr (slot_ne (Or.inl (hw _ (List.mem_of_getElem? (i := 34) rfl))) (Or.inl (hw _ (List.mem_of_getElem? (i := 12) rfl))) (by decide) (t := .int) (t' := .long) (by decide) (by decide))))
  have f7 : Fld Z h2 a1 "com/example/bytewright/bytewright/io/Input" "position" "I" (.int w_position_a1) := (F_position_a1.other W2 (Or.inr (slot_ne (Or.inl (hw _ (List.mem_of_getElem? (i := 55) rfl))) (Or.inl (hw _ (List.mem_of_getElem? (i := 12) rfl))) (by decide) (t := .int) (t' := .long) (by decide) (by decide))))
  have f8 : Fld Z h2 a1 "com/example/bytewright/bytewright/io/Input" "source" "Lcom/example/bytewright/bytewright/io/Input$Source;" .null := (F_source_a1.other W2 (Or.inr (slot_ne (Or.inr (hw _ (List.mem_of_getElem? (i := 17) rfl))) (Or.inl (hw _ (List.mem_of_getElem? (i := 12) rfl))) (by decide) (t := (.object "com/example/bytewright/bytewright/io/Input$Source")) (t' := .long) (by decide) (by decide))))
  have z9 : n0 ≤ h2.size := (Nat.le_trans Z0 (Nat.le_of_eq W2.size.symm))
  obtain ⟨cq10, qa10, qb10⟩ := f3.cell
  obtain ⟨_, _, ⟨T10, L10, k10, n10⟩, -, X10, ⟨Lc10, hQ10, l10, y10, z10⟩, st10⟩ := X2.privateBack hx (y := (⟨"com/example/bytewright/bytewright/io/Input", "clampLimit", "()V"⟩ : MethodName)) hown (mvT hZ (hw _ (List.mem_of_getElem? (i := 68) rfl))) (mvT hZ (hw _ (List.mem_of_getElem? (i := 69) rfl))) (own_sel (mvT hZ (hw _ (List.mem_of_getElem? (i := 69) rfl)) (args := #[])) (Cond.privateMethod_at (mvP hZ (hw _ (List.mem_of_getElem? (i := 70) rfl)) (args := #[]))) (mvT hZ (hw _ (List.mem_of_getElem? (i := 1) rfl)) (args := #[])) (by decide)) (Cond.privateMethod_at (mvP hZ (hw _ (List.mem_of_getElem? (i := 70) rfl)) (args := #[]))) (mvT hZ (hw _ (List.mem_of_getElem? (i := 71) rfl))) (by decide) (backOf (W := 0) (own_rm9 l Z a0 hw [] a1 (8 : Int32) (9223372036854775807 : Int64) (0 : Int64) w_limit_a1 w_position_a1 h2 n0 z9 f3 f4 Fw2 f5 f6 f7 f8 g_a1) hZ (hw _ (List.mem_of_getElem? (i := 71) rfl)) (hw _ (List.mem_of_getElem? (i := 2) rfl)) (by decide) (by decide)) (g := (mkF m 50 #[.val (.ref a1), .val (.long q2), .second] [(.ref a1)])) rfl (by rw [hml]; rfl) (Steps.refl _) (a := a1) (by rw [e2]; exact qa10) qb10 (argsL := []) (rest := []) (lenOf own_pd6 rfl) rfl (by show 2 * 0 + _ ≤ _; exact Nat.le_of_eq rfl) (hb hby own_d8_50) (fun _ _ => ⟨rfl, e2, (by decide : 0 + 0 ≤ _), (by decide : 0 + 0 ≤ _)⟩)
  dsimp only [Pt.U, Pt.locs, Pt.cells, Pt.slots] at X10 l10 y10 z10 st10 hQ10
  subst l10 y10 z10
  obtain ⟨rfl, Nq10, K10, q10_0, q10_1, q10_2, q10_3, q10_4, q10_5, q10_6⟩ := hQ10
  refine OE.of (fun _ k => st10.trans k) ?_
  have N10 := Fr.app N2 Nq10
  show OE _ p e below s _ _ _ T10 (mkF m 53 #[.val (.ref a1), .val (.long q2), .second] [])
  refine OE.ret0 X10 hx Bd.returns Bd.notSynchronized (hb hby own_d8_53) (by decide) (by decide) ?_
  have K11 : Keep h0 T10.heap [a1] := (Keep.trans (Keep.wr (Keep.refl h0 [a1]) W2 (Or.inl (List.mem_of_getElem? (i := 0) rfl))) K10 (allS (Or.inl (List.mem_of_getElem? (i := 0) rfl)) all0))
  exact ⟨rfl, N10, K11, q10_0, q10_4, q10_2, q10_6, q10_1, q10_5, q10_3⟩
theorem own_d8_40 : decode prog_26_method_26_code 40 = .ok (.aload_n 0, 1) := by decide +kernel
theorem own_d8_41 : decode prog_26_method_26_code 41 = .ok (.invokevirtual 91, 3) := by decide +kernel
theorem own_d8_44 : decode prog_26_method_26_code 44 = .ok (.lload_n 1, 1) := by decide +kernel
theorem own_d8_45 : decode prog_26_method_26_code 45 = .ok (.ladd, 1) := by decide +kernel
def own_Q8_lo (Z : State) (a1 : Addr) (q2 : Int64) (w_position_a1 : Int32) (w_end_a1 : Int64) (w_limit_a1 : Int32) (h0 : Heap) (n0 : Nat) (v : Option Value) (h : Heap) (L : List Loc) : Prop := v = none ∧ Fr n0 L ∧ Keep h0 h [a1] ∧ Exa Z h a1 "com/example/bytewright/bytewright/io/Input" ∧ Fld Z h a1 "com/example/bytewright/bytewright/io/Input" "position" "I" (.int w_position_a1) ∧ Fld Z h a1 "com/example/bytewright/bytewright/io/Input" "end" "J" (.long (((0 : Int64) + (w_position_a1.toInt64)) + q2)) ∧ Fld Z h a1 "com/example/bytewright/bytewright/io/Input" "limit" "I" (.int ((if (0 : Int32) < (lcmpW ((8 : Int32).toInt64) ((((0 : Int64) + (w_position_a1.toInt64)) + q2) - (0 : Int64))) then ((((0 : Int64) + (w_position_a1.toInt64)) + q2) - (0 : Int64)) else ((8 : Int32).toInt64)).toInt32)) ∧ Fld Z h a1 "com/example/bytewright/bytewright/io/Input" "filled" "I" (.int (8 : Int32)) ∧ Fld Z h a1 "com/example/bytewright/bytewright/io/Input" "source" "Lcom/example/bytewright/bytewright/io/Input$Source;" .null ∧ Fld Z h a1 "com/example/bytewright/bytewright/io/Input" "consumed" "J" (.long (0 : Int64))
theorem own_ef_own_rm8_lo (m : MethodId) (a1 : Addr) (q2 : Int64) : entryFrame m #[(.ref a1), (.long q2)] 3 = mkF m 0 #[.val (.ref a1), .val (.long q2), .second] [] := by first | (simp [entryFrame, mkF, argsToLocals, Value.category]; done) | rfl
set_option maxRecDepth 65536 in
set_option maxHeartbeats 40000000 in
theorem own_rm8_lo (l : Launch) (Z : State) (a0 : Array Value) (hw : ∀ d ∈ tables_1, d.before a0 Z = true) (ws : List Jvm.Cond) (a1 : Addr) (q2 : Int64) (w_position_a1 : Int32) (w_end_a1 : Int64) (w_limit_a1 : Int32) (h0 : Heap) (n0 : Nat) (Z0 : n0 ≤ h0.size) (E_a1 : Exa Z h0 a1 "com/example/bytewright/bytewright/io/Input") (F_filled_a1 : Fld Z h0 a1 "com/example/bytewright/bytewright/io/Input" "filled" "I" (.int (8 : Int32))) (F_consumed_a1 : Fld Z h0 a1 "com/example/bytewright/bytewright/io/Input" "consumed" "J" (.long (0 : Int64))) (F_position_a1 : Fld Z h0 a1 "com/example/bytewright/bytewright/io/Input" "position" "I" (.int w_position_a1)) (F_end_a1 : Fld Z h0 a1 "com/example/bytewright/bytewright/io/Input" "end" "J" (.long w_end_a1)) (F_limit_a1 : Fld Z h0 a1 "com/example/bytewright/bytewright/io/Input" "limit" "I" (.int w_limit_a1)) (F_source_a1 : Fld Z h0 a1 "com/example/bytewright/bytewright/io/Input" "source" "Lcom/example/bytewright/bytewright/io/Input$Source;" .null) (g_a1 : n0 ≤ a1) (hq : ¬ (lcmpW q2 (0 : Int64)) < (0 : Int32)) (hbb : ¬ (0 : Int32) < (lcmpW q2 ((9223372036854775807 : Int64) - ((0 : Int64) + (w_position_a1.toInt64))))) :
    MetFree l (⟨"com/example/bytewright/bytewright/io/Input", "setMaxBytes", "(J)V"⟩ : MethodName) (head1 (Jvm.Cond.code (⟨"com/example/bytewright/bytewright/io/Input", "setMaxBytes", "(J)V"⟩ : MethodName) prog_26_method_26_code 3 none :: ws) ({ frames := 2, cells := 0, slots := 0, locals := 28 } : Room)) (fun a U => a = #[(.ref a1), (.long q2)] ∧ Z.Warmed39 U.vm ∧ U.heap = h0) (fun _ _ _ _ _ => True) (fun _ U o U' => ∃ v L, o = .returned v ∧ own_Q8_lo Z a1 q2 w_position_a1 w_end_a1 w_limit_a1 h0 n0 v U'.heap L ∧ FrameEnd U o U' L ({ frames := 2, cells := 0, slots := 0, locals := 28 } : Room).cells ({ frames := 2, cells := 0, slots := 0, locals := 28 } : Room).slots) := by
  refine MetFree.of_bodySF (plainFor_of_name own_pn1) hisR ?_
  intro p e s m args below meth c s₁ Bd hml0 hP hK
  obtain ⟨rfl, hZ, hh⟩ := hP
  have hx := Bd.exec
  have hby := Bd.bytes
  have hml : c.maxLocals = 3 := hml0
  have hown : s.vm.findClass "com/example/bytewright/bytewright/io/Input" = some m.cls := findClass_of_methodNamed Bd.named
  have hnm := (name_of_methodNamed Bd.named Bd.method).1
  have X0 : Stand p l e ({ frames := 2, cells := 0, slots := 0, locals := 28 } : Room) s m #[(.ref a1), (.long q2)] below meth c s₁ [] 0 0 := Stand.of_body Bd
  have e0 : s₁.heap = h0 := by rw [← hh, Bd.state]; rfl
  have N0 := Fr.nil n0
  show OE FrameEnd p e below s (own_Q8_lo Z a1 q2 w_position_a1 w_end_a1 w_limit_a1 h0 n0) ({ frames := 2, cells := 0, slots := 0, locals := 28 } : Room).cells ({ frames := 2, cells := 0, slots := 0, locals := 28 } : Room).slots s₁ (entryFrame m #[(.ref a1), (.long q2)] 3)
  rw [own_ef_own_rm8_lo]
  show OE _ p e below s _ _ _ s₁ (mkF m 0 #[.val (.ref a1), .val (.long q2), .second] [])
  refine OE.lloadN X0 hx hby own_d8_0 rfl ?_
  refine OE.lconst X0 hx hby own_d8_1 (0 : Int64) rfl ?_
  refine OE.lcmp X0 hx hby own_d8_2 ?_
  refine OE.ifYes X0 hx hby (pc' := 20) own_d8_3 (flt (hq : ¬ ((lcmpW q2 (0 : Int64)) < (0 : Int32)))).2.1 (h := ?_)
  refine OE.aloadN X0 hx hby own_d8_20 rfl rfl ?_
  refine OE.lloadN X0 hx hby own_d8_21 rfl ?_
  refine OE.of (X0.ldc2Long hx hown (mvT hZ (hw _ (List.mem_of_getElem? (i := 10) rfl))) (g := (mkF m 22 #[.val (.ref a1), .val (.long q2), .second] [(.long q2), (.ref a1)])) rfl (hb hby own_d8_22)) ?_
  show OE _ p e below s _ _ _ s₁ (mkF m 25 #[.val (.ref a1), .val (.long q2), .second] [(.long (9223372036854775807 : Int64)), (.long q2), (.ref a1)])
  refine OE.aloadN X0 hx hby own_d8_25 rfl rfl ?_
  obtain ⟨cq1, kq1, qa1, qb1, qc1⟩ := isOf hZ e0 E_a1
  obtain ⟨_, _, ⟨T1, L1, k1, n1⟩, -, X1, ⟨Lc1, hQ1, l1, y1, z1⟩, st1⟩ := X0.virtualBack hx (y := (⟨"com/example/bytewright/bytewright/io/Input", "total", "()J"⟩ : MethodName)) (z := (⟨"com/example/bytewright/bytewright/io/Input", "total", "()J"⟩ : MethodName)) hown (mvT hZ (hw _ (List.mem_of_getElem? (i := 56) rfl))) (mvT hZ (hw _ (List.mem_of_getElem? (i := 57) rfl))) (notFace_of_selects (args := #[]) (mvT hZ (hw _ (List.mem_of_getElem? (i := 59) rfl)))) (mvT hZ (hw _ (List.mem_of_getElem? (i := 59) rfl))) (mvT hZ (hw _ (List.mem_of_getElem? (i := 58) rfl))) (by decide) (backOf (W := 5) (own_rm7 l Z a0 hw [] a1 (0 : Int64) w_position_a1 h0 n0 Z0 F_consumed_a1 F_position_a1) hZ (hw _ (List.mem_of_getElem? (i := 60) rfl)) (hw _ (List.mem_of_getElem? (i := 2) rfl)) (by decide) (by decide)) qa1 qc1 (g := (mkF m 26 #[.val (.ref a1), .val (.long q2), .second] [(.ref a1), (.long (9223372036854775807 : Int64)), (.long q2), (.ref a1)])) rfl (by rw [hml]; rfl) (Steps.refl _) (argsL := []) (rest := [(.long (9223372036854775807 : Int64)), (.long q2), (.ref a1)]) (lenOf own_pd1 rfl) rfl (by show 2 * 0 + _ ≤ _; exact Nat.le_of_eq rfl) (hb hby own_d8_26) (fun _ _ => ⟨rfl, e0, (by decide : 0 + 0 ≤ _), (by decide : 0 + 0 ≤ _)⟩)
  dsimp only [Pt.U, Pt.locs, Pt.cells, Pt.slots] at X1 l1 y1 z1 st1 hQ1
  subst l1 y1 z1
  obtain ⟨rfl, Nq1, eq1⟩ := hQ1
  refine OE.of (fun _ k => st1.trans k) ?_
  have N1 := Fr.app N0 Nq1
  show OE _ p e below s _ _ _ T1 (mkF m 29 #[.val (.ref a1), .val (.long q2), .second] [(.long ((0 : Int64) + (w_position_a1.toInt64))), (.long (9223372036854775807 : Int64)), (.long q2), (.ref a1)])
  refine OE.lsub X1 hx hby own_d8_29 ?_
  refine OE.lcmp X1 hx hby own_d8_30 ?_
  refine OE.ifYes X1 hx hby (pc' := 40) own_d8_31 (flt (hbb : ¬ ((0 : Int32) < (lcmpW q2 ((9223372036854775807 : Int64) - ((0 : Int64) + (w_position_a1.toInt64))))))).2.2.2 (h := ?_)
  refine OE.aloadN X1 hx hby own_d8_40 rfl rfl ?_
  obtain ⟨cq2, kq2, qa2, qb2, qc2⟩ := isOf hZ eq1 E_a1
  obtain ⟨_, _, ⟨T2, L2, k2, n2⟩, -, X2, ⟨Lc2, hQ2, l2, y2, z2⟩, st2⟩ := X1.virtualBack hx (y := (⟨"com/example/bytewright/bytewright/io/Input", "total", "()J"⟩ : MethodName)) (z := (⟨"com/example/bytewright/bytewright/io/Input", "total", "()J"⟩ : MethodName)) hown (mvT hZ (hw _ (List.mem_of_getElem? (i := 56) rfl))) (mvT hZ (hw _ (List.mem_of_getElem? (i := 57) rfl))) (notFace_of_selects (args := #[]) (mvT hZ (hw _ (List.mem_of_getElem? (i := 59) rfl)))) (mvT hZ (hw _ (List.mem_of_getElem? (i := 59) rfl))) (mvT hZ (hw _ (List.mem_of_getElem? (i := 58) rfl))) (by decide) (backOf (W := 1) (own_rm7 l Z a0 hw [] a1 (0 : Int64) w_position_a1 h0 n0 Z0 F_consumed_a1 F_position_a1) hZ (hw _ (List.mem_of_getElem? (i := 60) rfl)) (hw _ (List.mem_of_getElem? (i := 2) rfl)) (by decide) (by decide)) qa2 qc2 (g := (mkF m 41 #[.val (.ref a1), .val (.long q2), .second] [(.ref a1), (.ref a1)])) rfl (by rw [hml]; rfl) (Steps.refl _) (argsL := []) (rest := [(.ref a1)]) (lenOf own_pd1 rfl) rfl (by show 2 * 0 + _ ≤ _; exact Nat.le_of_eq rfl) (hb hby own_d8_41) (fun _ _ => ⟨rfl, eq1, (by decide : 0 + 0 ≤ _), (by decide : 0 + 0 ≤ _)⟩)
  dsimp only [Pt.U, Pt.locs, Pt.cells, Pt.slots] at X2 l2 y2 z2 st2 hQ2
  subst l2 y2 z2
  obtain ⟨rfl, Nq2, eq2⟩ := hQ2
  refine OE.of (fun _ k => st2.trans k) ?_
  have N2 := Fr.app N1 Nq2
  show OE _ p e below s _ _ _ T2 (mkF m 44 #[.val (.ref a1), .val (.long q2), .second] [(.long ((0 : Int64) + (w_position_a1.toInt64))), (.ref a1)])
  refine OE.lloadN X2 hx hby own_d8_44 rfl ?_
  refine OE.ladd X2 hx hby own_d8_45 ?_
  obtain ⟨T3, h3, X3, e3, W3, st3⟩ := putF X2 hx hZ hown (host := "") (Or.inl (hw _ (List.mem_of_getElem? (i := 11) rfl))) Via.refl eq2 F_end_a1 E_a1 (Or.inl (hw _ (List.mem_of_getElem? (i := 12) rfl))) (hw _ (List.mem_of_getElem? (i := 1) rfl)) (ty := .long) (by decide) rfl rfl (g := (mkF m 46 #[.val (.ref a1), .val (.long q2), .second] [(.long (((0 : Int64) + (w_position_a1.toInt64)) + q2)), (.ref a1)])) rfl rfl (hb hby own_d8_46)
  refine OE.of st3 ?_
  have N3 := Fr.snoc X3 N2 g_a1
  have Fw3 := F_end_a1.same W3
  show OE _ p e below s _ _ _ T3 (mkF m 49 #[.val (.ref a1), .val (.long q2), .second] [])
  refine OE.aloadN X3 hx hby own_d8_49 rfl rfl ?_
  have f4 : Exa Z h3 a1 "com/example/bytewright/bytewright/io/Input" := (E_a1.wr W3)
  have f5 : Fld Z h3 a1 "com/example/bytewright/bytewright/io/Input" "filled" "I" (.int (8 : Int32)) := (F_filled_a1.other W3 (Or.inr (slot_ne (Or.inl (hw _ (List.mem_of_getElem? (i := 36) rfl))) (Or.inl (hw _ (List.mem_of_getElem? (i := 12) rfl))) (by decide) (t := .int) (t' := .long) (by decide) (by decide))))
  have f6 : Fld Z h3 a1 "com/example/bytewright/bytewright/io/Input" "consumed" "J" (.long (0 : Int64)) := (F_consumed_a1.other W3 (Or.inr (slot_ne (Or.inl (hw _ (List.mem_of_getElem? (i := 62) rfl))) (Or.inl (hw _ (List.mem_of_getElem? (i := 12) rfl))) (by decide) (t := .long) (t' := .long) (by decide) (by decide))))
  have f7 : Fld Z h3 a1 "com/example/bytewright/bytewright/io/Input" "limit" "I" (.int w_limit_a1) := (F_limit_a1.other W3 (Or.inr (slot_ne (Or.inl (hw _ (List.mem_of_getElem? (i := 34) rfl))) (Or.inl (hw _ (List.mem_of_getElem? (i := 12) rfl))) (by decide) (t := .int) (t' := .long) (by decide) (by decide))))
  have f8 : Fld Z h3 a1 "com/example/bytewright/bytewright/io/Input" "position" "I" (.int w_position_a1) := (F_position_a1.other W3 (Or.inr (slot_ne (Or.inl (hw _ (List.mem_of_getElem? (i := 55) rfl))) (Or.inl (hw _ (List.mem_of_getElem? (i := 12) rfl))) (by decide) (t := .int) (t' := .long) (by decide) (by decide))))
  have f9 : Fld Z h3 a1 "com/example/bytewright/bytewright/io/Input" "source" "Lcom/example/bytewright/bytewright/io/Input$Source;" .null := (F_source_a1.other W3 (Or.inr (slot_ne (Or.inr (hw _ (List.mem_of_getElem? (i := 17) rfl))) (Or.inl (hw _ (List.mem_of_getElem? (i := 12) rfl))) (by decide) (t := (.object "com/example/bytewright/bytewright/io/Input$Source")) (t' := .long) (by decide) (by decide))))
  have z10 : n0 ≤ h3.size := (Nat.le_trans Z0 (Nat.le_of_eq W3.size.symm))
  obtain ⟨cq11, qa11, qb11⟩ := f4.cell
  obtain ⟨_, _, ⟨T11, L11, k11, n11⟩, -, X11, ⟨Lc11, hQ11, l11, y11, z11⟩, st11⟩ := X3.privateBack hx (y := (⟨"com/example/bytewright/bytewright/io/Input", "clampLimit", "()V"⟩ : MethodName)) hown (mvT hZ (hw _ (List.mem_of_getElem? (i := 68) rfl))) (mvT hZ (hw _ (List.mem_of_getElem? (i := 69) rfl))) (own_sel (mvT hZ (hw _ (List.mem_of_getElem? (i := 69) rfl)) (args := #[])) (Cond.privateMethod_at (mvP hZ (hw _ (List.mem_of_getElem? (i := 70) rfl)) (args := #[]))) (mvT hZ (hw _ (List.mem_of_getElem? (i := 1) rfl)) (args := #[])) (by decide)) (Cond.privateMethod_at (mvP hZ (hw _ (List.mem_of_getElem? (i := 70) rfl)) (args := #[]))) (mvT hZ (hw _ (List.mem_of_getElem? (i := 71) rfl))) (by decide) (backOf (W := 0) (own_rm9 l Z a0 hw [] a1 (8 : Int32) (((0 : Int64) + (w_position_a1.toInt64)) + q2) (0 : Int64) w_limit_a1 w_position_a1 h3 n0 z10 f4 f5 Fw3 f6 f7 f8 f9 g_a1) hZ (hw _ (List.mem_of_getElem? (i := 71) rfl)) (hw _ (List.mem_of_getElem? (i := 2) rfl)) (by decide) (by decide)) (g := (mkF m 50 #[.val (.ref a1), .val (.long q2), .second] [(.ref a1)])) rfl (by rw [hml]; rfl) (Steps.refl _) (a := a1) (by rw [e3]; exact qa11) qb11 (argsL := []) (rest := []) (lenOf own_pd6 rfl) rfl (by show 2 * 0 + _ ≤ _; exact Nat.le_of_eq rfl) (hb hby own_d8_50) (fun _ _ => ⟨rfl, e3, (by decide : 0 + 0 ≤ _), (by decide : 0 + 0 ≤ _)⟩)
  dsimp only [Pt.U, Pt.locs, Pt.cells, Pt.slots] at X11 l11 y11 z11 st11 hQ11
  subst l11 y11 z11
  obtain ⟨rfl, Nq11, K11, q11_0, q11_1, q11_2, q11_3, q11_4, q11_5, q11_6⟩ := hQ11
  refine OE.of (fun _ k => st11.trans k) ?_
  have N11 := Fr.app N3 Nq11
  show OE _ p e below s _ _ _ T11 (mkF m 53 #[.val (.ref a1), .val (.long q2), .second] [])
  refine OE.ret0 X11 hx Bd.returns Bd.notSynchronized (hb hby own_d8_53) (by decide) (by decide) ?_
  have K12 : Keep h0 T11.heap [a1] := (Keep.trans (Keep.wr (Keep.refl h0 [a1]) W3 (Or.inl (List.mem_of_getElem? (i := 0) rfl))) K11 (allS (Or.inl (List.mem_of_getElem? (i := 0) rfl)) all0))
  exact ⟨rfl, N11, K12, q11_0, q11_4, q11_2, q11_6, q11_1, q11_5, q11_3⟩
theorem own_d13_0 : decode prog_26_method_27_code 0 = .ok (.aload_n 0, 1) := by decide +kernel
theorem own_d13_1 : decode prog_26_method_27_code 1 = .ok (.getfield 11, 3) := by decide +kernel
theorem own_d13_4 : decode prog_26_method_27_code 4 = .ok (.ldc2_w 9, 3) := by decide +kernel
theorem own_d13_7 : decode prog_26_method_27_code 7 = .ok (.lcmp, 1) := by decide +kernel
theorem own_d13_8 : decode prog_26_method_27_code 8 = .ok (.ifCond .ne 9, 3) := by decide +kernel
theorem own_d13_11 : decode prog_26_method_27_code 11 = .ok (.ldc2_w 9, 3) := by decide +kernel
theorem own_d13_14 : decode prog_26_method_27_code 14 = .ok (.goto 12, 3) := by decide +kernel
theorem own_d13_26 : decode prog_26_method_27_code 26 = .ok (.lreturn, 1) := by decide +kernel
theorem own_d13_17 : decode prog_26_method_27_code 17 = .ok (.aload_n 0, 1) := by decide +kernel
theorem own_d13_18 : decode prog_26_method_27_code 18 = .ok (.getfield 11, 3) := by decide +kernel
theorem own_d13_21 : decode prog_26_method_27_code 21 = .ok (.aload_n 0, 1) := by decide +kernel
theorem own_d13_22 : decode prog_26_method_27_code 22 = .ok (.invokevirtual 91, 3) := by decide +kernel
theorem own_d13_25 : decode prog_26_method_27_code 25 = .ok (.lsub, 1) := by decide +kernel
def own_Q13 (Z : State) (a1 : Addr) (w_end_a1 : Int64) (w_consumed_a1 : Int64) (w_position_a1 : Int32) (h0 : Heap) (n0 : Nat) (v : Option Value) (h : Heap) (L : List Loc) : Prop := v = some (.long (if (lcmpW w_end_a1 (9223372036854775807 : Int64)) = (0 : Int32) then (9223372036854775807 : Int64) else (w_end_a1 - (w_consumed_a1 + (w_position_a1.toInt64))))) ∧ Fr n0 L ∧ h = h0
theorem own_ef_own_rm13 (m : MethodId) (a1 : Addr) : entryFrame m #[(.ref a1)] 1 = mkF m 0 #[.val (.ref a1)] [] := by first | (simp [entryFrame, mkF, argsToLocals, Value.category]; done) | rfl
set_option maxRecDepth 65536 in
set_option maxHeartbeats 40000000 in
theorem own_rm13 (l : Launch) (Z : State) (a0 : Array Value) (hw : ∀ d ∈ tables_1, d.before a0 Z = true) (ws : List Jvm.Cond) (a1 : Addr) (w_end_a1 : Int64) (w_consumed_a1 : Int64) (w_position_a1 : Int32) (h0 : Heap) (n0 : Nat) (Z0 : n0 ≤ h0.size) (E_a1 : Exa Z h0 a1 "com/example/bytewright/bytewright/io/Input") (F_end_a1 : Fld Z h0 a1 "com/example/bytewright/bytewright/io/Input" "end" "J" (.long w_end_a1)) (F_consumed_a1 : Fld Z h0 a1 "com/example/bytewright/bytewright/io/Input" "consumed" "J" (.long w_consumed_a1)) (F_position_a1 : Fld Z h0 a1 "com/example/bytewright/bytewright/io/Input" "position" "I" (.int w_position_a1)) :
    MetFree l (⟨"com/example/bytewright/bytewright/io/Input", "getMaxBytes", "()J"⟩ : MethodName) (head1 (Jvm.Cond.code (⟨"com/example/bytewright/bytewright/io/Input", "getMaxBytes", "()J"⟩ : MethodName) prog_26_method_27_code 1 (some .long) :: ws) ({ frames := 1, cells := 0, slots := 0, locals := 14 } : Room)) (fun a U => a = #[(.ref a1)] ∧ Z.Warmed39 U.vm ∧ U.heap = h0) (fun _ _ _ _ _ => True) (fun _ U o U' => ∃ v L, o = .returned v ∧ own_Q13 Z a1 w_end_a1 w_consumed_a1 w_position_a1 h0 n0 v U'.heap L ∧ FrameEnd U o U' L ({ frames := 1, cells := 0, slots := 0, locals := 14 } : Room).cells ({ frames := 1, cells := 0, slots := 0, locals := 14 } : Room).slots) := by
  refine MetFree.of_bodySF (plainFor_of_name own_pn1) hisR ?_
  intro p e s m args below meth c s₁ Bd hml0 hP hK
  obtain ⟨rfl, hZ, hh⟩ := hP
  have hx := Bd.exec
  have hby := Bd.bytes
  have hml : c.maxLocals = 1 := hml0
  have hown : s.vm.findClass "com/example/bytewright/bytewright/io/Input" = some m.cls := findClass_of_methodNamed Bd.named
  have hnm := (name_of_methodNamed Bd.named Bd.method).1
  have X0 : Stand p l e ({ frames := 1, cells := 0, slots := 0, locals := 14 } : Room) s m #[(.ref a1)] below meth c s₁ [] 0 0 := Stand.of_body Bd
  have e0 : s₁.heap = h0 := by rw [← hh, Bd.state]; rfl
  have N0 := Fr.nil n0
  show OE FrameEnd p e below s (own_Q13 Z a1 w_end_a1 w_consumed_a1 w_position_a1 h0 n0) ({ frames := 1, cells := 0, slots := 0, locals := 14 } : Room).cells ({ frames := 1, cells := 0, slots := 0, locals := 14 } : Room).slots s₁ (entryFrame m #[(.ref a1)] 1)
  rw [own_ef_own_rm13]
  show OE _ p e below s _ _ _ s₁ (mkF m 0 #[.val (.ref a1)] [])
  refine OE.aloadN X0 hx hby own_d13_0 rfl rfl ?_
  obtain ⟨T1, X1, e1, st1⟩ := getF X0 hx hZ hown (host := "") (Or.inl (hw _ (List.mem_of_getElem? (i := 11) rfl))) Via.refl e0 F_end_a1 (g := (mkF m 1 #[.val (.ref a1)] [(.ref a1)])) rfl rfl (hb hby own_d13_1)
  refine OE.of st1 ?_
  show OE _ p e below s _ _ _ T1 (mkF m 4 #[.val (.ref a1)] [(.long w_end_a1)])
  refine OE.of (X1.ldc2Long hx hown (mvT hZ (hw _ (List.mem_of_getElem? (i := 10) rfl))) (g := (mkF m 4 #[.val (.ref a1)] [(.long w_end_a1)])) rfl (hb hby own_d13_4)) ?_
  show OE _ p e below s _ _ _ T1 (mkF m 7 #[.val (.ref a1)] [(.long (9223372036854775807 : Int64)), (.long w_end_a1)])
  refine OE.lcmp X1 hx hby own_d13_7 ?_
  by_cases hc8 : (lcmpW w_end_a1 (9223372036854775807 : Int64)) = (0 : Int32)
  · skip
    refine OE.ifNo X1 hx hby own_d13_8 (teq hc8).2 ?_
    refine OE.of (X1.ldc2Long hx hown (mvT hZ (hw _ (List.mem_of_getElem? (i := 10) rfl))) (g := (mkF m 11 #[.val (.ref a1)] [])) rfl (hb hby own_d13_11)) ?_
    show OE _ p e below s _ _ _ T1 (mkF m 14 #[.val (.ref a1)] [(.long (9223372036854775807 : Int64))])
    refine OE.goto X1 hx hby (pc' := 26) own_d13_14 (h := ?_)
    refine OE.retJ X1 hx Bd.returns Bd.notSynchronized (hb hby own_d13_26) (by decide) (by decide) ?_
    rw [e1]
    exact ⟨(congrArg (fun z => some (Value.long z)) (show (9223372036854775807 : Int64) = (if (lcmpW w_end_a1 (9223372036854775807 : Int64)) = (0 : Int32) then (9223372036854775807 : Int64) else (w_end_a1 - (w_consumed_a1 + (w_position_a1.toInt64)))) from by rw [if_pos hc8])), N0, rfl⟩
  · skip
    refine OE.ifYes X1 hx hby (pc' := 17) own_d13_8 (feq hc8).2 (h := ?_)
    refine OE.aloadN X1 hx hby own_d13_17 rfl rfl ?_
    obtain ⟨T2, X2, e2, st2⟩ := getF X1 hx hZ hown (host := "") (Or.inl (hw _ (List.mem_of_getElem? (i := 11) rfl))) Via.refl e1 F_end_a1 (g := (mkF m 18 #[.val (.ref a1)] [(.ref a1)])) rfl rfl (hb hby own_d13_18)
    refine OE.of st2 ?_
    show OE _ p e below s _ _ _ T2 (mkF m 21 #[.val (.ref a1)] [(.long w_end_a1)])
    refine OE.aloadN X2 hx hby own_d13_21 rfl rfl ?_
    obtain ⟨cq3, kq3, qa3, qb3, qc3⟩ := isOf hZ e2 E_a1
    obtain ⟨_, _, ⟨T3, L3, k3, n3⟩, -, X3, ⟨Lc3, hQ3, l3, y3, z3⟩, st3⟩ := X2.virtualBack hx (y := (⟨"com/example/bytewright/bytewright/io/Input", "total", "()J"⟩ : MethodName)) (z := (⟨"com/example/bytewright/bytewright/io/Input", "total", "()J"⟩ : MethodName)) hown (mvT hZ (hw _ (List.mem_of_getElem? (i := 56) rfl))) (mvT hZ (hw _ (List.mem_of_getElem? (i := 57) rfl))) (notFace_of_selects (args := #[]) (mvT hZ (hw _ (List.mem_of_getElem? (i := 59) rfl)))) (mvT hZ (hw _ (List.mem_of_getElem? (i := 59) rfl))) (mvT hZ (hw _ (List.mem_of_getElem? (i := 58) rfl))) (by decide) (backOf (W := 2) (own_rm7 l Z a0 hw [] a1 w_consumed_a1 w_position_a1 h0 n0 Z0 F_consumed_a1 F_position_a1) hZ (hw _ (List.mem_of_getElem? (i := 60) rfl)) (hw _ (List.mem_of_getElem? (i := 2) rfl)) (by decide) (by decide)) qa3 qc3 (g := (mkF m 22 #[.val (.ref a1)] [(.ref a1), (.long w_end_a1)])) rfl (by rw [hml]; rfl) (Steps.refl _) (argsL := []) (rest := [(.long w_end_a1)]) (lenOf own_pd1 rfl) rfl (by show 2 * 0 + _ ≤ _; exact Nat.le_of_eq rfl) (hb hby own_d13_22) (fun _ _ => ⟨rfl, e2, (by decide : 0 + 0 ≤ _), (by decide : 0 + 0 ≤ _)⟩)
    dsimp only [Pt.U, Pt.locs, Pt.cells, Pt.slots] at X3 l3 y3 z3 st3 hQ3
    subst l3 y3 z3
    obtain ⟨rfl, Nq3, eq3⟩ := hQ3
    refine OE.of (fun _ k => st3.trans k) ?_
    have N3 := Fr.app N0 Nq3
    show OE _ p e below s _ _ _ T3 (mkF m 25 #[.val (.ref a1)] [(.long (w_consumed_a1 + (w_position_a1.toInt64))), (.long w_end_a1)])
    refine OE.lsub X3 hx hby own_d13_25 ?_
    refine OE.retJ X3 hx Bd.returns Bd.notSynchronized (hb hby own_d13_26) (by decide) (by decide) ?_
    rw [eq3]
    exact ⟨(congrArg (fun z => some (Value.long z)) (show (w_end_a1 - (w_consumed_a1 + (w_position_a1.toInt64))) = (if (lcmpW w_end_a1 (9223372036854775807 : Int64)) = (0 : Int32) then (9223372036854775807 : Int64) else (w_end_a1 - (w_consumed_a1 + (w_position_a1.toInt64)))) from by rw [if_neg hc8])), N3, rfl⟩
theorem own_set_hi {P L q : Int32} {E x m : Int64} (hi : own_inv P L E x) (hb : (0 : Int32) < (lcmpW m ((9223372036854775807 : Int64) - ((0 : Int64) + (P.toInt64))))) : own_inv P ((if (0 : Int32) < (lcmpW ((8 : Int32).toInt64) ((9223372036854775807 : Int64) - (0 : Int64))) then ((9223372036854775807 : Int64) - (0 : Int64)) else ((8 : Int32).toInt64)).toInt32) (9223372036854775807 : Int64) (9223372036854775807 : Int64) ∧ ¬ (lcmpW m ((9223372036854775807 : Int64) - P.toInt64)) < (0 : Int32) := by
  have e : ((if (0 : Int32) < (lcmpW ((8 : Int32).toInt64) ((9223372036854775807 : Int64) - (0 : Int64))) then ((9223372036854775807 : Int64) - (0 : Int64)) else ((8 : Int32).toInt64)).toInt32) = 8 := by decide
  rw [e]
  unfold own_inv at *
  obtain ⟨i1, i2, i3⟩ := hi
  have e2 := c_i2l P
  have a2 := own_ladd 0 P.toInt64 (by rw [e2, own_j0]; omega)
  have a3 := own_lsub (9223372036854775807 : Int64) (0 + P.toInt64) (by rw [a2, e2, own_j0, own_mx]; omega)
  have a4 := own_lsub (9223372036854775807 : Int64) P.toInt64 (by rw [e2, own_mx]; omega)
  rw [own_gt, a3, a2, e2, own_j0, own_mx] at hb
  rw [own_lt, a4, e2, own_mx, own_i8]
  refine ⟨⟨i1, i2, Or.inl ⟨rfl, rfl, rfl⟩⟩, by omega⟩
theorem own_set_lo {P L : Int32} {E x m : Int64} (hi : own_inv P L E x) (hm : 0 ≤ m.toInt) (hb : ¬ (0 : Int32) < (lcmpW m ((9223372036854775807 : Int64) - ((0 : Int64) + (P.toInt64))))) :
    (own_inv P ((if (0 : Int32) < (lcmpW ((8 : Int32).toInt64) ((((0 : Int64) + (P.toInt64)) + m) - (0 : Int64))) then ((((0 : Int64) + (P.toInt64)) + m) - (0 : Int64)) else ((8 : Int32).toInt64)).toInt32) (((0 : Int64) + (P.toInt64)) + m) (if (lcmpW m ((9223372036854775807 : Int64) - P.toInt64)) < (0 : Int32) then m else (9223372036854775807 : Int64))) := by
  unfold own_inv at *
  obtain ⟨i1, i2, i3⟩ := hi
  have e2 := c_i2l P
  have e8 := c_i2l (8 : Int32)
  have a2 := own_ladd 0 P.toInt64 (by rw [e2, own_j0]; omega)
  have a3 := own_lsub (9223372036854775807 : Int64) (0 + P.toInt64) (by rw [a2, e2, own_j0, own_mx]; omega)
  have a4 := own_lsub (9223372036854775807 : Int64) P.toInt64 (by rw [e2, own_mx]; omega)
  rw [own_gt, a3, a2, e2, own_j0, own_mx] at hb
  have a5 := own_ladd (0 + P.toInt64) m (by rw [a2, e2, own_j0]; omega)
  have a6 := own_lsub ((0 + P.toInt64) + m) 0 (by rw [a5, a2, e2, own_j0]; omega)
  have hE : ((0 + P.toInt64) + m).toInt = P.toInt + m.toInt := by rw [a5, a2, e2, own_j0]; omega
  refine ⟨i1, i2, ?_⟩
  by_cases c1 : (lcmpW m ((9223372036854775807 : Int64) - P.toInt64)) < (0 : Int32)
  · rw [if_pos c1]
    rw [own_lt, a4, e2, own_mx] at c1
    refine Or.inr ⟨hm, by omega, by omega, by omega, ?_⟩
    by_cases c2 : (0 : Int32) < (lcmpW ((8 : Int32).toInt64) ((((0 : Int64) + (P.toInt64)) + m) - (0 : Int64)))
    · rw [if_pos c2]
      rw [own_gt, a6, e8, own_i8, own_j0] at c2
      refine Or.inr ⟨by omega, ?_⟩
      rw [own_l2i _ (by rw [a6, own_j0]; omega), a6, own_j0]; omega
    · rw [if_neg c2]
      rw [own_gt, a6, e8, own_i8, own_j0] at c2
      refine Or.inl ⟨by omega, ?_⟩
      rw [own_l2i _ (by rw [e8, own_i8]; omega), e8, own_i8]
  · rw [if_neg c1]
    rw [own_lt, a4, e2, own_mx] at c1
    refine Or.inl ⟨own_mx, by omega, ?_⟩
    have c2 : ¬ (0 : Int32) < (lcmpW ((8 : Int32).toInt64) ((((0 : Int64) + (P.toInt64)) + m) - (0 : Int64))) := by
      rw [own_gt, a6, e8, own_i8, own_j0]; omega
    rw [if_neg c2, own_l2i _ (by rw [e8, own_i8]; omega), e8, own_i8]
theorem own_j {P L j0 : Int32} {E x : Int64} (hi : own_inv P L E x) (h0 : 0 ≤ j0.toInt) (h1 : j0.toInt ≤ 8) : (((8 : Int64) - P.toInt64).toInt32).toInt = 8 - P.toInt := by
  unfold own_inv at hi
  have e2 := c_i2l P
  have a := own_lsub 8 P.toInt64 (by rw [e2, own_j8]; omega)
  rw [own_l2i _ (by rw [a, e2, own_j8]; omega), a, e2, own_j8]
theorem own_jm {P L j0 : Int32} {E x : Int64} (hi : own_inv P L E x) (h0 : 0 ≤ j0.toInt) (h1 : j0.toInt ≤ 8) : 0 ≤ ((if (((8 : Int64) - P.toInt64).toInt32) < j0 then (((8 : Int64) - P.toInt64).toInt32) else j0)).toInt ∧ P.toInt + ((if (((8 : Int64) - P.toInt64).toInt32) < j0 then (((8 : Int64) - P.toInt64).toInt32) else j0)).toInt ≤ 8 := by
  have e := own_j hi h0 h1
  unfold own_inv at hi
  by_cases c1 : (((8 : Int64) - P.toInt64).toInt32) < j0
  · rw [if_pos c1, e]; omega
  · rw [if_neg c1]
    rw [Int32.lt_iff_toInt_lt, e] at c1; omega
theorem own_jx {P L j : Int32} {E x : Int64} (hi : own_inv P L E x) (h0 : 0 ≤ j.toInt) (h1 : P.toInt + j.toInt ≤ 8) (hx : ¬ (lcmpW x (9223372036854775807 : Int64)) = (0 : Int32)) : own_may P L E x ((if (0 : Int32) < (lcmpW (j.toInt64) x) then x else (j.toInt64)).toInt32) := by
  rw [own_eq, own_mx] at hx
  unfold own_inv at hi
  unfold own_may
  have e := c_i2l j
  by_cases c1 : (0 : Int32) < (lcmpW (j.toInt64) x)
  · rw [if_pos c1]
    rw [own_gt, e] at c1
    rw [own_l2i _ (by omega)]; omega
  · rw [if_neg c1]
    rw [own_gt, e] at c1
    rw [own_l2i _ (by rw [e]; omega), e]; omega
theorem own_jn {P L j : Int32} {E x : Int64} (h0 : 0 ≤ j.toInt) (h1 : P.toInt + j.toInt ≤ 8) (hx : (lcmpW x (9223372036854775807 : Int64)) = (0 : Int32)) : own_may P L E x j := by
  rw [own_eq, own_mx] at hx
  exact ⟨h0, h1, Or.inl hx⟩
theorem own_after {P L j : Int32} {E x : Int64} (hi : own_inv P L E x) (hm : own_may P L E x j) (hx : ¬ (lcmpW x (9223372036854775807 : Int64)) = (0 : Int32)) : own_inv (P + j) L E (x - j.toInt64) := by
  rw [own_eq, own_mx] at hx
  unfold own_inv at *
  unfold own_may at hm
  have e := c_i2l j
  have a := own_add P j (by omega)
  have b := own_lsub x j.toInt64 (by rw [e]; omega)
  rw [a, b, e]
  omega
theorem own_aftn {P L j : Int32} {E x : Int64} (hi : own_inv P L E x) (hm : own_may P L E x j) (hx : (lcmpW x (9223372036854775807 : Int64)) = (0 : Int32)) : own_inv (P + j) L E x := by
  rw [own_eq, own_mx] at hx
  unfold own_inv at *
  unfold own_may at hm
  have a := own_add P j (by omega)
  rw [a]
  omega
theorem own_pos {P L j : Int32} {E x : Int64} (hi : own_inv P L E x) (hm : own_may P L E x j) : P.toInt64 + j.toInt64 = (P + j).toInt64 := by
  unfold own_inv at hi
  unfold own_may at hm
  apply Int64.toInt_inj.mp
  rw [own_ladd _ _ (by rw [c_i2l, c_i2l]; omega), c_i2l, c_i2l, c_i2l, own_add P j (by omega)]
theorem own_get {P L : Int32} {E x : Int64} (hi : own_inv P L E x) : (lcmpW (if (lcmpW E (9223372036854775807 : Int64)) = (0 : Int32) then (9223372036854775807 : Int64) else (E - ((0 : Int64) + (P.toInt64)))) x) = (0 : Int32) := by
  unfold own_inv at hi
  rw [own_eq]
  have e2 := c_i2l P
  have a2 := own_ladd 0 P.toInt64 (by rw [e2, own_j0]; omega)
  by_cases c1 : (lcmpW E (9223372036854775807 : Int64)) = (0 : Int32)
  · rw [if_pos c1]
    rw [own_eq, own_mx] at c1
    rw [own_mx]; omega
  · rw [if_neg c1]
    rw [own_eq, own_mx] at c1
    rw [own_lsub _ _ (by rw [a2, e2, own_j0]; omega), a2, e2, own_j0]; omega
theorem own_mod9 (x : Int32) : 0 ≤ ((x &&& (2147483647 : Int32)) % (9 : Int32)).toInt ∧ ((x &&& (2147483647 : Int32)) % (9 : Int32)).toInt ≤ 8 := by
  have hv := c_and x 2147483647 (by decide)
  have h2 := (c_irem (x &&& 2147483647) 9 9 (by decide)).1 hv.1
  rw [h2]; omega
theorem own_nn (m : Int64) : 0 ≤ (m &&& (9223372036854775807 : Int64)).toInt := by
  have hv := c_maskL m (9223372036854775807 : Int64) 63 (by decide) (by decide)
  rw [hv]; omega
theorem own_init {t : Int32} (h0 : 0 ≤ t.toInt) (h1 : t.toInt ≤ 8) : own_inv 0 8 (9223372036854775807 : Int64) (9223372036854775807 : Int64) ∧ own_may 0 8 (9223372036854775807 : Int64) (9223372036854775807 : Int64) t ∧ own_inv (0 + t) 8 (9223372036854775807 : Int64) (9223372036854775807 : Int64) := by
  have a := own_add 0 t (by rw [own_i0]; omega)
  unfold own_inv own_may
  rw [a, own_i0, own_i8, own_mx]
  omega
theorem own_pd7 : parseMethodDescriptor "([B)V" = some ⟨[(.array .byte)], none⟩ := by decide +kernel
theorem own_pd8 : parseMethodDescriptor "(J)V" = some ⟨[.long], none⟩ := by decide +kernel
def own_Q0 (Z : State) (p1 : Int32) (q2 : Int64) (p3 : Int32) (q4 : Int64) (p5 : Int32) (p6 : Int32) (h0 : Heap) (n0 : Nat) (v : Option Value) (h : Heap) (L : List Loc) : Prop := v = some (.int (1 : Int32)) ∧ Fr n0 L
theorem own_pn2 : plainName "com/example/bytewright/bytewright/io/InputGetMaxBytesPinLaw" = true := by first | (simp [plainName, overriddenIn]; done) | decide +kernel
theorem own_ef_own_rm0 (m : MethodId) (p1 : Int32) (q2 : Int64) (p3 : Int32) (q4 : Int64) (p5 : Int32) (p6 : Int32) : entryFrame m #[(.int p1), (.long q2), (.int p3), (.long q4), (.int p5), (.int p6)] maxLocals = mkF m 0 #[.val (.int p1), .val (.long q2), .second, .val (.int p3), .val (.long q4), .second, .val (.int p5), .val (.int p6), .unset, .unset, .unset, .unset, .unset, .unset, .unset, .unset, .unset, .unset, .unset, .unset, .unset, .unset, .unset, .unset, .unset] [] := by first | (simp [entryFrame, mkF, argsToLocals, Value.category, maxLocals]; done) | rfl
set_option maxRecDepth 65536 in
set_option maxHeartbeats 40000000 in
theorem own_rm0 (l : Launch) (Z : State) (a0 : Array Value) (hw : ∀ d ∈ tables_1, d.before a0 Z = true) (ws : List Jvm.Cond) (p1 : Int32) (q2 : Int64) (p3 : Int32) (q4 : Int64) (p5 : Int32) (p6 : Int32) (h0 : Heap) (n0 : Nat) (Z0 : n0 ≤ h0.size) :
    MetFree l x (head1 (Jvm.Cond.code x code maxLocals ret :: ws) room_1) (fun a U => a = #[(.int p1), (.long q2), (.int p3), (.long q4), (.int p5), (.int p6)] ∧ Z.Warmed39 U.vm ∧ U.heap = h0) (fun _ _ _ _ _ => True) (fun _ U o U' => ∃ v L, o = .returned v ∧ own_Q0 Z p1 q2 p3 q4 p5 p6 h0 n0 v U'.heap L ∧ ReturnedEndW U o U' L room_1.cells room_1.slots) := by
  refine MetFree.of_bodySF (plainFor_of_name own_pn2) hisR ?_
  intro p e s m args below meth c s₁ Bd hml0 hP hK
  obtain ⟨rfl, hZ, hh⟩ := hP
  have hx := Bd.exec
  have hby := Bd.bytes
  have hml : c.maxLocals = 25 := hml0
  have hown : s.vm.findClass "com/example/bytewright/bytewright/io/InputGetMaxBytesPinLaw" = some m.cls := findClass_of_methodNamed Bd.named
  have hnm := (name_of_methodNamed Bd.named Bd.method).1
  have X0 : Stand p l e room_1 s m #[(.int p1), (.long q2), (.int p3), (.long q4), (.int p5), (.int p6)] below meth c s₁ [] 0 0 := Stand.of_body Bd
  have e0 : s₁.heap = h0 := by rw [← hh, Bd.state]; rfl
  have N0 := Fr.nil n0
  have hS0 : s.Since s.vm 0 := (State.WarmedH.refl s).since 0
  show OE ReturnedEndW p e below s (own_Q0 Z p1 q2 p3 q4 p5 p6 h0 n0) room_1.cells room_1.slots s₁ (entryFrame m #[(.int p1), (.long q2), (.int p3), (.long q4), (.int p5), (.int p6)] maxLocals)
  rw [own_ef_own_rm0]
  show OE _ p e below s _ _ _ s₁ (mkF m 0 #[.val (.int p1), .val (.long q2), .second, .val (.int p3), .val (.long q4), .second, .val (.int p5), .val (.int p6), .unset, .unset, .unset, .unset, .unset, .unset, .unset, .unset, .unset, .unset, .unset, .unset, .unset, .unset, .unset, .unset, .unset] [])
  obtain ⟨T1, h1, X1, e1, E1, A1, D1, -, st1⟩ := newO X0 hx hZ hown (hw _ (List.mem_of_getElem? (i := 0) rfl)) (hw _ (List.mem_of_getElem? (i := 1) rfl)) (hw _ (List.mem_of_getElem? (i := 2) rfl)) e0 (g := (mkF m 0 #[.val (.int p1), .val (.long q2), .second, .val (.int p3), .val (.long q4), .second, .val (.int p5), .val (.int p6), .unset, .unset, .unset, .unset, .unset, .unset, .unset, .unset, .unset, .unset, .unset, .unset, .unset, .unset, .unset, .unset, .unset] [])) rfl (hb hby at_0) (by decide) (by decide)
  refine OE.of st1 ?_
  obtain ⟨b1, g1⟩ : ∃ z, z = h0.size := ⟨_, rfl⟩
  rw [← g1] at A1 D1 ⊢
  have g_b1 : n0 ≤ b1 := Nat.le_trans Z0 (Nat.le_of_eq g1.symm)
  have sz_b1 : h0.size ≤ b1 := Nat.le_trans (Keep.refl h0 []).1 (Nat.le_of_eq g1.symm)
  have F1_end : Fld Z h1 b1 "com/example/bytewright/bytewright/io/Input" "end" "J" (.long (0 : Int64)) := D1 (Or.inl (hw _ (List.mem_of_getElem? (i := 12) rfl))) (ty := .long) (by decide)
  have F1_maxArrayLength : Fld Z h1 b1 "com/example/bytewright/bytewright/io/Input" "maxArrayLength" "I" (.int (0 : Int32)) := D1 (Or.inl (hw _ (List.mem_of_getElem? (i := 15) rfl))) (ty := .int) (by decide)
  have F1_source : Fld Z h1 b1 "com/example/bytewright/bytewright/io/Input" "source" "Lcom/example/bytewright/bytewright/io/Input$Source;" .null := D1 (Or.inr (hw _ (List.mem_of_getElem? (i := 17) rfl))) (ty := (.object "com/example/bytewright/bytewright/io/Input$Source")) (by decide)
  have F1_buffer : Fld Z h1 b1 "com/example/bytewright/bytewright/io/Input" "buffer" "[B" .null := D1 (Or.inr (hw _ (List.mem_of_getElem? (i := 32) rfl))) (ty := (.array .byte)) (by decide)
  have F1_limit : Fld Z h1 b1 "com/example/bytewright/bytewright/io/Input" "limit" "I" (.int (0 : Int32)) := D1 (Or.inl (hw _ (List.mem_of_getElem? (i := 34) rfl))) (ty := .int) (by decide)
  have F1_filled : Fld Z h1 b1 "com/example/bytewright/bytewright/io/Input" "filled" "I" (.int (0 : Int32)) := D1 (Or.inl (hw _ (List.mem_of_getElem? (i := 36) rfl))) (ty := .int) (by decide)
  have F1_position : Fld Z h1 b1 "com/example/bytewright/bytewright/io/Input" "position" "I" (.int (0 : Int32)) := D1 (Or.inl (hw _ (List.mem_of_getElem? (i := 55) rfl))) (ty := .int) (by decide)
  have F1_consumed : Fld Z h1 b1 "com/example/bytewright/bytewright/io/Input" "consumed" "J" (.long (0 : Int64)) := D1 (Or.inl (hw _ (List.mem_of_getElem? (i := 62) rfl))) (ty := .long) (by decide)
  show OE _ p e below s _ _ _ T1 (mkF m 3 #[.val (.int p1), .val (.long q2), .second, .val (.int p3), .val (.long q4), .second, .val (.int p5), .val (.int p6), .unset, .unset, .unset, .unset, .unset, .unset, .unset, .unset, .unset, .unset, .unset, .unset, .unset, .unset, .unset, .unset, .unset] [(.ref b1)])
  refine OE.dup X1 hx hby at_3 rfl ?_
  refine OE.bipush X1 hx hby at_4 (8 : Int32) rfl ?_
  obtain ⟨T2, h2, k2, X2, e2, E2, A2, B2, st2⟩ := newPE X1 hx hZ (hw _ (List.mem_of_getElem? (i := 3) rfl)) e1 (g := (mkF m 6 #[.val (.int p1), .val (.long q2), .second, .val (.int p3), .val (.long q4), .second, .val (.int p5), .val (.int p6), .unset, .unset, .unset, .unset, .unset, .unset, .unset, .unset, .unset, .unset, .unset, .unset, .unset, .unset, .unset, .unset, .unset] [(.int (8 : Int32)), (.ref b1), (.ref b1)])) rfl (hb hby at_6) rfl (by decide) (cap := 8) (by decide) (by decide) (by decide) (by decide) (ad := "[B") (by decide)
  refine OE.of st2 ?_
  obtain ⟨b2, g2⟩ : ∃ z, z = h1.size := ⟨_, rfl⟩
  rw [← g2] at A2 B2 ⊢
  have ne_b1_b2 : b1 ≠ b2 := Nat.ne_of_lt (Nat.lt_of_lt_of_le A1.lt (Nat.le_of_eq g2.symm))
  have z3 : n0 ≤ h1.size := (Nat.le_trans Z0 E1.1)
  have g_b2 : n0 ≤ b2 := Nat.le_trans z3 (Nat.le_of_eq g2.symm)
  have K4 : Keep h0 h1 [] := (Keep.ext (Keep.refl h0 []) E1)
  have sz_b2 : h0.size ≤ b2 := Nat.le_trans K4.1 (Nat.le_of_eq g2.symm)
  have V2 : Arv Z h2 b2 k2 .byte (8 : Int32) [(.int (0 : Int32)), (.int (0 : Int32)), (.int (0 : Int32)), (.int (0 : Int32)), (.int (0 : Int32)), (.int (0 : Int32)), (.int (0 : Int32)), (.int (0 : Int32))] (.int (0 : Int32)) := (Arv.new A2 (by decide)).pad (pad_rep [] (.int (0 : Int32)) 8)
  show OE _ p e below s _ _ _ T2 (mkF m 8 #[.val (.int p1), .val (.long q2), .second, .val (.int p3), .val (.long q4), .second, .val (.int p5), .val (.int p6), .unset, .unset, .unset, .unset, .unset, .unset, .unset, .unset, .unset, .unset, .unset, .unset, .unset, .unset, .unset, .unset, .unset] [(.ref b2), (.ref b1), (.ref b1)])
  have f5 : Exa Z h2 b1 "com/example/bytewright/bytewright/io/Input" := (A1.ext E2)
  have f6 : Fld Z h2 b1 "com/example/bytewright/bytewright/io/Input" "end" "J" (.long (0 : Int64)) := (F1_end.ext E2)
  have f7 : Fld Z h2 b1 "com/example/bytewright/bytewright/io/Input" "maxArrayLength" "I" (.int (0 : Int32)) := (F1_maxArrayLength.ext E2)
  have f8 : Fld Z h2 b1 "com/example/bytewright/bytewright/io/Input" "source" "Lcom/example/bytewright/bytewright/io/Input$Source;" .null := (F1_source.ext E2)
  have f9 : Fld Z h2 b1 "com/example/bytewright/bytewright/io/Input" "buffer" "[B" .null := (F1_buffer.ext E2)
  have f10 : Fld Z h2 b1 "com/example/bytewright/bytewright/io/Input" "limit" "I" (.int (0 : Int32)) := (F1_limit.ext E2)
  have f11 : Fld Z h2 b1 "com/example/bytewright/bytewright/io/Input" "filled" "I" (.int (0 : Int32)) := (F1_filled.ext E2)
  have f12 : Fld Z h2 b1 "com/example/bytewright/bytewright/io/Input" "position" "I" (.int (0 : Int32)) := (F1_position.ext E2)
  have f13 : Fld Z h2 b1 "com/example/bytewright/bytewright/io/Input" "consumed" "J" (.long (0 : Int64)) := (F1_consumed.ext E2)
  have z14 : n0 ≤ h2.size := (Nat.le_trans z3 E2.1)
  obtain ⟨_, _, ⟨T15, L15, k15, n15⟩, -, X15, hs15, hgr15, ⟨Lc15, hQ15, l15, y15, z15⟩, st15⟩ := X2.specialBackS hx (y := (⟨"com/example/bytewright/bytewright/io/Input", "<init>", "([B)V"⟩ : MethodName)) rfl hown (mvT hZ (hw _ (List.mem_of_getElem? (i := 4) rfl))) (mvT hZ (hw _ (List.mem_of_getElem? (i := 5) rfl))) (mvT hZ (hw _ (List.mem_of_getElem? (i := 6) rfl))) (by decide) (backOfS (W := 1) (own_rm1 l Z a0 hw [] b1 b2 k2 (8 : Int32) [(.int (0 : Int32)), (.int (0 : Int32)), (.int (0 : Int32)), (.int (0 : Int32)), (.int (0 : Int32)), (.int (0 : Int32)), (.int (0 : Int32)), (.int (0 : Int32))] h2 n0 z14 f5 f6 f7 f8 f9 f10 f11 f12 f13 V2 B2 g_b1 (Ne.symm ne_b1_b2)) hZ (hw _ (List.mem_of_getElem? (i := 6) rfl)) (hw _ (List.mem_of_getElem? (i := 2) rfl)) (by decide) (by decide)) (g := (mkF m 8 #[.val (.int p1), .val (.long q2), .second, .val (.int p3), .val (.long q4), .second, .val (.int p5), .val (.int p6), .unset, .unset, .unset, .unset, .unset, .unset, .unset, .unset, .unset, .unset, .unset, .unset, .unset, .unset, .unset, .unset, .unset] [(.ref b2), (.ref b1), (.ref b1)])) rfl (by rw [hml]; rfl) (Steps.refl _) (a := b1) (argsL := [(.ref b2)]) (rest := [(.ref b1)]) (lenOf own_pd7 rfl) rfl (by show 2 * 0 + _ ≤ _; exact Nat.le_of_eq rfl) (hb hby at_8) (fun _ _ => ⟨rfl, e2, (by decide : 2 + 2 ≤ _), (by decide : 16 + 24 ≤ _)⟩)
  dsimp only [Pt.U, Pt.locs, Pt.cells, Pt.slots] at X15 l15 y15 z15 st15 hQ15
  subst l15 y15 z15
  have zs16 : 0 ≤ h2.size := (Nat.le_trans (Nat.le_trans (Nat.zero_le _) E1.1) E2.1)
  obtain ⟨Y15, hS15, hZ15, hown15⟩ := rebS (s := s) (vm0 := s.vm) (vm1 := T15.vm) hS0 (by rw [e2]; exact zs16) X15 hs15 hgr15 hZ hown
  obtain ⟨rfl, Nq15, K15, q15_0, q15_1, q15_2, q15_3, q15_4, q15_5, q15_6⟩ := hQ15
  refine OE.of (fun _ k => st15.trans k) ?_
  have N15 := Fr.app N0 Nq15
  show OE _ p e below s _ _ _ T15 (mkF m 11 #[.val (.int p1), .val (.long q2), .second, .val (.int p3), .val (.long q4), .second, .val (.int p5), .val (.int p6), .unset, .unset, .unset, .unset, .unset, .unset, .unset, .unset, .unset, .unset, .unset, .unset, .unset, .unset, .unset, .unset, .unset] [(.ref b1)])
  refine OE.astore Y15 hx hby at_11 rfl (l' := #[.val (.int p1), .val (.long q2), .second, .val (.int p3), .val (.long q4), .second, .val (.int p5), .val (.int p6), .val (.ref b1), .unset, .unset, .unset, .unset, .unset, .unset, .unset, .unset, .unset, .unset, .unset, .unset, .unset, .unset, .unset, .unset]) rfl ?_
  refine OE.iloadN Y15 hx hby at_13 rfl ?_
  refine OE.of (Y15.ldcInt hx hown15 (mvT hZ15 (hw _ (List.mem_of_getElem? (i := 37) rfl))) (g := (mkF m 14 #[.val (.int p1), .val (.long q2), .second, .val (.int p3), .val (.long q4), .second, .val (.int p5), .val (.int p6), .val (.ref b1), .unset, .unset, .unset, .unset, .unset, .unset, .unset, .unset, .unset, .unset, .unset, .unset, .unset, .unset, .unset, .unset] [(.int p1)])) rfl (hb hby at_14)) ?_
  show OE _ p e below s _ _ _ T15 (mkF m 16 #[.val (.int p1), .val (.long q2), .second, .val (.int p3), .val (.long q4), .second, .val (.int p5), .val (.int p6), .val (.ref b1), .unset, .unset, .unset, .unset, .unset, .unset, .unset, .unset, .unset, .unset, .unset, .unset, .unset, .unset, .unset, .unset] [(.int (2147483647 : Int32)), (.int p1)])
  refine OE.iand Y15 hx hby at_16 ?_
  refine OE.bipush Y15 hx hby at_17 (9 : Int32) rfl ?_
  refine OE.irem Y15 hx hby at_19 (by decide) ?_
  have ht := own_mod9 p1
  obtain ⟨t, e_t⟩ : ∃ z, z = ((p1 &&& (2147483647 : Int32)) % (9 : Int32)) := ⟨_, rfl⟩
  rw [← e_t]
  rw [← e_t] at ht
  show OE _ p e below s _ _ _ T15 (mkF m 20 #[.val (.int p1), .val (.long q2), .second, .val (.int p3), .val (.long q4), .second, .val (.int p5), .val (.int p6), .val (.ref b1), .unset, .unset, .unset, .unset, .unset, .unset, .unset, .unset, .unset, .unset, .unset, .unset, .unset, .unset, .unset, .unset] [(.int t)])
  refine OE.istore Y15 hx hby at_20 (l' := #[.val (.int p1), .val (.long q2), .second, .val (.int p3), .val (.long q4), .second, .val (.int p5), .val (.int p6), .val (.ref b1), .val (.int t), .unset, .unset, .unset, .unset, .unset, .unset, .unset, .unset, .unset, .unset, .unset, .unset, .unset, .unset, .unset]) rfl ?_
  have hj0 := own_mod9 p3
  obtain ⟨j0, e_j0⟩ : ∃ z, z = ((p3 &&& (2147483647 : Int32)) % (9 : Int32)) := ⟨_, rfl⟩
  rw [← e_j0] at hj0
  have hk0 := own_mod9 p5
  obtain ⟨k0, e_k0⟩ : ∃ z, z = ((p5 &&& (2147483647 : Int32)) % (9 : Int32)) := ⟨_, rfl⟩
  rw [← e_k0] at hk0
  have hA := own_nn q2
  obtain ⟨mA, e_mA⟩ : ∃ z, z = (q2 &&& (9223372036854775807 : Int64)) := ⟨_, rfl⟩
  rw [← e_mA] at hA
  have hB := own_nn q4
  obtain ⟨mB, e_mB⟩ : ∃ z, z = (q4 &&& (9223372036854775807 : Int64)) := ⟨_, rfl⟩
  rw [← e_mB] at hB
  have cut319 : ∀ (b : Addr) (P : Int32) (E : Int64) (Lm : Int32) (x : Int64) (f1 : Int32) (f2 : Int32) (j : Int32) (k : Int32) (vm17 : Vm) (kS17 : Nat) (T17 : State) (H17 : Heap) (locs17 : List Loc) (cells17 : Nat) (slots17 : Nat), Stand p l e room_1 (s.setVm vm17) m #[(.int p1), (.long q2), (.int p3), (.long q4), (.int p5), (.int p6)] below meth c T17 locs17 cells17 slots17 → T17.heap = H17 → Fr n0 locs17 → cells17 ≤ 16 → slots17 ≤ 200 → n0 ≤ H17.size → Keep h0 H17 [] → s.Since vm17 kS17 → kS17 ≤ H17.size → Z.Warmed39 (s.setVm vm17).vm → (s.setVm vm17).vm.findClass "com/example/bytewright/bytewright/io/InputGetMaxBytesPinLaw" = some m.cls → Exa Z H17 b "com/example/bytewright/bytewright/io/Input" → Fld Z H17 b "com/example/bytewright/bytewright/io/Input" "position" "I" (.int P) → Fld Z H17 b "com/example/bytewright/bytewright/io/Input" "end" "J" (.long E) → Fld Z H17 b "com/example/bytewright/bytewright/io/Input" "limit" "I" (.int Lm) → Fld Z H17 b "com/example/bytewright/bytewright/io/Input" "source" "Lcom/example/bytewright/bytewright/io/Input$Source;" .null → Fld Z H17 b "com/example/bytewright/bytewright/io/Input" "filled" "I" (.int (8 : Int32)) → Fld Z H17 b "com/example/bytewright/bytewright/io/Input" "consumed" "J" (.long (0 : Int64)) → n0 ≤ b → h0.size ≤ b → own_inv P Lm E x → OE ReturnedEndW p e below s (own_Q0 Z p1 q2 p3 q4 p5 p6 h0 n0) room_1.cells room_1.slots T17 (mkF m 319 #[.val (.int p1), .val (.long q2), .second, .val (.int p3), .val (.long q4), .second, .val (.int p5), .val (.int p6), .val (.ref b), .val (.int t), .val (.int f1), .val (.int f2), .val (.long mA), .second, .val (.long mB), .second, .val (.int j0), .val (.int k0), .val (.long (P.toInt64)), .second, .val (.long x), .second, .val (.int j), .val (.int (1 : Int32)), .val (.int k)] []) := by
    intro b P E Lm x f1 f2 j k vm17 kS17 T17 H17 locs17 cells17 slots17 X17 e17 N17 hcl17 hsl17 z17 K17 hS17 hkS17 hZ17 hown17 tE tP tEn tL tS tF tC g_17_b sz_17_b hi
    show OE _ p e below s _ _ _ T17 (mkF m 319 #[.val (.int p1), .val (.long q2), .second, .val (.int p3), .val (.long q4), .second, .val (.int p5), .val (.int p6), .val (.ref b), .val (.int t), .val (.int f1), .val (.int f2), .val (.long mA), .second, .val (.long mB), .second, .val (.int j0), .val (.int k0), .val (.long (P.toInt64)), .second, .val (.long x), .second, .val (.int j), .val (.int (1 : Int32)), .val (.int k)] [])
    refine OE.iload X17 hx hby at_319 rfl ?_
    refine OE.ifNo X17 hx hby at_321 (feq (by decide : ¬ ((1 : Int32) = (0 : Int32)))).1 ?_
    refine OE.aload X17 hx hby at_324 rfl rfl ?_
    obtain ⟨cq18, kq18, qa18, qb18, qc18⟩ := isOf hZ17 e17 tE
    obtain ⟨_, _, ⟨T18, L18, k18, n18⟩, -, X18, ⟨Lc18, hQ18, l18, y18, z18⟩, st18⟩ := X17.virtualBack hx (y := (⟨"com/example/bytewright/bytewright/io/Input", "getMaxBytes", "()J"⟩ : MethodName)) (z := (⟨"com/example/bytewright/bytewright/io/Input", "getMaxBytes", "()J"⟩ : MethodName)) hown17 (mvT hZ17 (hw _ (List.mem_of_getElem? (i := 86) rfl))) (mvT hZ17 (hw _ (List.mem_of_getElem? (i := 87) rfl))) (notFace_of_selects (args := #[]) (mvT hZ17 (hw _ (List.mem_of_getElem? (i := 89) rfl)))) (mvT hZ17 (hw _ (List.mem_of_getElem? (i := 89) rfl))) (mvT hZ17 (hw _ (List.mem_of_getElem? (i := 88) rfl))) (by decide) (backOf (W := 0) (own_rm13 l Z a0 hw [] b E (0 : Int64) P H17 n0 z17 tE tEn tC tP) hZ17 (hw _ (List.mem_of_getElem? (i := 90) rfl)) (hw _ (List.mem_of_getElem? (i := 2) rfl)) (by decide) (by decide)) qa18 qc18 (g := (mkF m 326 #[.val (.int p1), .val (.long q2), .second, .val (.int p3), .val (.long q4), .second, .val (.int p5), .val (.int p6), .val (.ref b), .val (.int t), .val (.int f1), .val (.int f2), .val (.long mA), .second, .val (.long mB), .second, .val (.int j0), .val (.int k0), .val (.long (P.toInt64)), .second, .val (.long x), .second, .val (.int j), .val (.int (1 : Int32)), .val (.int k)] [(.ref b)])) rfl (by rw [hml]; rfl) (Steps.refl _) (argsL := []) (rest := []) (lenOf own_pd1 rfl) rfl (by show 2 * 0 + _ ≤ _; exact Nat.le_of_eq rfl) (hb hby at_326) (fun _ _ => ⟨rfl, e17, (Nat.le_trans (Nat.add_le_add_right hcl17 0) (by decide)), (Nat.le_trans (Nat.add_le_add_right hsl17 0) (by decide))⟩)
    dsimp only [Pt.U, Pt.locs, Pt.cells, Pt.slots] at X18 l18 y18 z18 st18 hQ18
    subst l18 y18 z18
    obtain ⟨rfl, Nq18, eq18⟩ := hQ18
    refine OE.of (fun _ k => st18.trans k) ?_
    have N18 := Fr.app N17 Nq18
    show OE _ p e below s _ _ _ T18 (mkF m 329 #[.val (.int p1), .val (.long q2), .second, .val (.int p3), .val (.long q4), .second, .val (.int p5), .val (.int p6), .val (.ref b), .val (.int t), .val (.int f1), .val (.int f2), .val (.long mA), .second, .val (.long mB), .second, .val (.int j0), .val (.int k0), .val (.long (P.toInt64)), .second, .val (.long x), .second, .val (.int j), .val (.int (1 : Int32)), .val (.int k)] [(.long (if (lcmpW E (9223372036854775807 : Int64)) = (0 : Int32) then (9223372036854775807 : Int64) else (E - ((0 : Int64) + (P.toInt64)))))])
    refine OE.lload X18 hx hby at_329 rfl ?_
    refine OE.lcmp X18 hx hby at_331 ?_
    refine OE.ifNo X18 hx hby at_332 (teq (own_get hi : (lcmpW (if (lcmpW E (9223372036854775807 : Int64)) = (0 : Int32) then (9223372036854775807 : Int64) else (E - ((0 : Int64) + (P.toInt64)))) x) = (0 : Int32))).2 ?_
    refine OE.iconst X18 hx hby at_335 (1 : Int32) rfl ?_
    refine OE.goto X18 hx hby (pc' := 340) at_336 (h := ?_)
    refine OE.retNW (s := s) (vm1 := vm17) hS17 (by rw [eq18]; exact hkS17) X18 hx (t := .boolean) Bd.returns (by simp) Bd.notSynchronized (hb hby at_340) (Nat.le_trans (Nat.add_le_add_right hcl17 0) (by decide)) (Nat.le_trans (Nat.add_le_add_right hsl17 0) (by decide)) ?_
    rw [eq18]
    exact ⟨rfl, N18⟩
  have cut287 : ∀ (b : Addr) (P : Int32) (E : Int64) (Lm : Int32) (x : Int64) (f1 : Int32) (f2 : Int32) (j : Int32) (k : Int32) (vm19 : Vm) (kS19 : Nat) (T19 : State) (H19 : Heap) (locs19 : List Loc) (cells19 : Nat) (slots19 : Nat), Stand p l e room_1 (s.setVm vm19) m #[(.int p1), (.long q2), (.int p3), (.long q4), (.int p5), (.int p6)] below meth c T19 locs19 cells19 slots19 → T19.heap = H19 → Fr n0 locs19 → cells19 ≤ 12 → slots19 ≤ 150 → n0 ≤ H19.size → Keep h0 H19 [] → s.Since vm19 kS19 → kS19 ≤ H19.size → Z.Warmed39 (s.setVm vm19).vm → (s.setVm vm19).vm.findClass "com/example/bytewright/bytewright/io/InputGetMaxBytesPinLaw" = some m.cls → Exa Z H19 b "com/example/bytewright/bytewright/io/Input" → Fld Z H19 b "com/example/bytewright/bytewright/io/Input" "position" "I" (.int P) → Fld Z H19 b "com/example/bytewright/bytewright/io/Input" "end" "J" (.long E) → Fld Z H19 b "com/example/bytewright/bytewright/io/Input" "limit" "I" (.int Lm) → Fld Z H19 b "com/example/bytewright/bytewright/io/Input" "source" "Lcom/example/bytewright/bytewright/io/Input$Source;" .null → Fld Z H19 b "com/example/bytewright/bytewright/io/Input" "filled" "I" (.int (8 : Int32)) → Fld Z H19 b "com/example/bytewright/bytewright/io/Input" "consumed" "J" (.long (0 : Int64)) → n0 ≤ b → h0.size ≤ b → own_inv P Lm E x → own_may P Lm E x k → OE ReturnedEndW p e below s (own_Q0 Z p1 q2 p3 q4 p5 p6 h0 n0) room_1.cells room_1.slots T19 (mkF m 287 #[.val (.int p1), .val (.long q2), .second, .val (.int p3), .val (.long q4), .second, .val (.int p5), .val (.int p6), .val (.ref b), .val (.int t), .val (.int f1), .val (.int f2), .val (.long mA), .second, .val (.long mB), .second, .val (.int j0), .val (.int k0), .val (.long (P.toInt64)), .second, .val (.long x), .second, .val (.int j), .val (.int (1 : Int32)), .val (.int k)] []) := by
    intro b P E Lm x f1 f2 j k vm19 kS19 T19 H19 locs19 cells19 slots19 X19 e19 N19 hcl19 hsl19 z19 K19 hS19 hkS19 hZ19 hown19 tE tP tEn tL tS tF tC g_19_b sz_19_b hi hm
    show OE _ p e below s _ _ _ T19 (mkF m 287 #[.val (.int p1), .val (.long q2), .second, .val (.int p3), .val (.long q4), .second, .val (.int p5), .val (.int p6), .val (.ref b), .val (.int t), .val (.int f1), .val (.int f2), .val (.long mA), .second, .val (.long mB), .second, .val (.int j0), .val (.int k0), .val (.long (P.toInt64)), .second, .val (.long x), .second, .val (.int j), .val (.int (1 : Int32)), .val (.int k)] [])
    refine OE.aload X19 hx hby at_287 rfl rfl ?_
    refine OE.iload X19 hx hby at_289 rfl ?_
    obtain ⟨cq20, kq20, qa20, qb20, qc20⟩ := isOf hZ19 e19 tE
    obtain ⟨_, _, ⟨T20, L20, k20, n20⟩, -, X20, hs20, hgr20, ⟨Lc20, hQ20, l20, y20, z20⟩, st20⟩ := X19.virtualBackS hx (y := (⟨"com/example/bytewright/bytewright/io/Input", "skip", "(I)V"⟩ : MethodName)) (z := (⟨"com/example/bytewright/bytewright/io/Input", "skip", "(I)V"⟩ : MethodName)) hown19 (mvT hZ19 (hw _ (List.mem_of_getElem? (i := 39) rfl))) (mvT hZ19 (hw _ (List.mem_of_getElem? (i := 40) rfl))) (notFace_of_selects (args := #[]) (mvT hZ19 (hw _ (List.mem_of_getElem? (i := 42) rfl)))) (mvT hZ19 (hw _ (List.mem_of_getElem? (i := 42) rfl))) (mvT hZ19 (hw _ (List.mem_of_getElem? (i := 41) rfl))) (by decide) (backOfS (W := 0) (own_rm4 l Z a0 hw [] b k P E Lm x H19 n0 z19 tE tS tF tC tP tEn tL g_19_b hi hm) hZ19 (hw _ (List.mem_of_getElem? (i := 43) rfl)) (hw _ (List.mem_of_getElem? (i := 2) rfl)) (by decide) (by decide)) qa20 qc20 (g := (mkF m 291 #[.val (.int p1), .val (.long q2), .second, .val (.int p3), .val (.long q4), .second, .val (.int p5), .val (.int p6), .val (.ref b), .val (.int t), .val (.int f1), .val (.int f2), .val (.long mA), .second, .val (.long mB), .second, .val (.int j0), .val (.int k0), .val (.long (P.toInt64)), .second, .val (.long x), .second, .val (.int j), .val (.int (1 : Int32)), .val (.int k)] [(.int k), (.ref b)])) rfl (by rw [hml]; rfl) (Steps.refl _) (argsL := [(.int k)]) (rest := []) (lenOf own_pd3 rfl) rfl (by show 2 * 0 + _ ≤ _; exact Nat.le_of_eq rfl) (hb hby at_291) (fun _ _ => ⟨rfl, e19, (Nat.le_trans (Nat.add_le_add_right hcl19 4) (by decide)), (Nat.le_trans (Nat.add_le_add_right hsl19 44) (by decide))⟩)
    dsimp only [Pt.U, Pt.locs, Pt.cells, Pt.slots] at X20 l20 y20 z20 st20 hQ20
    subst l20 y20 z20
    obtain ⟨Y20, hS20, hZ20, hown20⟩ := rebS (s := s) (vm0 := vm19) (vm1 := T20.vm) hS19 (by rw [e19]; exact hkS19) X20 hs20 hgr20 hZ19 hown19
    obtain ⟨rfl, Nq20, K20, q20_0, q20_1, q20_2, q20_3, q20_4, q20_5, q20_6⟩ := hQ20
    refine OE.of (fun _ k => st20.trans k) ?_
    have N20 := Fr.app N19 Nq20
    show OE _ p e below s _ _ _ T20 (mkF m 294 #[.val (.int p1), .val (.long q2), .second, .val (.int p3), .val (.long q4), .second, .val (.int p5), .val (.int p6), .val (.ref b), .val (.int t), .val (.int f1), .val (.int f2), .val (.long mA), .second, .val (.long mB), .second, .val (.int j0), .val (.int k0), .val (.long (P.toInt64)), .second, .val (.long x), .second, .val (.int j), .val (.int (1 : Int32)), .val (.int k)] [])
    refine OE.lload Y20 hx hby at_294 rfl ?_
    refine OE.iload Y20 hx hby at_296 rfl ?_
    refine OE.i2l Y20 hx hby at_298 ?_
    refine OE.ladd Y20 hx hby at_299 ?_
    rw [(own_pos hi hm : ((P.toInt64) + (k.toInt64)) = ((P + k).toInt64))]
    show OE _ p e below s _ _ _ T20 (mkF m 300 #[.val (.int p1), .val (.long q2), .second, .val (.int p3), .val (.long q4), .second, .val (.int p5), .val (.int p6), .val (.ref b), .val (.int t), .val (.int f1), .val (.int f2), .val (.long mA), .second, .val (.long mB), .second, .val (.int j0), .val (.int k0), .val (.long (P.toInt64)), .second, .val (.long x), .second, .val (.int j), .val (.int (1 : Int32)), .val (.int k)] [(.long ((P + k).toInt64))])
    refine OE.lstore Y20 hx hby at_300 (l' := #[.val (.int p1), .val (.long q2), .second, .val (.int p3), .val (.long q4), .second, .val (.int p5), .val (.int p6), .val (.ref b), .val (.int t), .val (.int f1), .val (.int f2), .val (.long mA), .second, .val (.long mB), .second, .val (.int j0), .val (.int k0), .val (.long ((P + k).toInt64)), .second, .val (.long x), .second, .val (.int j), .val (.int (1 : Int32)), .val (.int k)]) rfl ?_
    refine OE.lload Y20 hx hby at_302 rfl ?_
    refine OE.of (Y20.ldc2Long hx hown20 (mvT hZ20 (hw _ (List.mem_of_getElem? (i := 38) rfl))) (g := (mkF m 304 #[.val (.int p1), .val (.long q2), .second, .val (.int p3), .val (.long q4), .second, .val (.int p5), .val (.int p6), .val (.ref b), .val (.int t), .val (.int f1), .val (.int f2), .val (.long mA), .second, .val (.long mB), .second, .val (.int j0), .val (.int k0), .val (.long ((P + k).toInt64)), .second, .val (.long x), .second, .val (.int j), .val (.int (1 : Int32)), .val (.int k)] [(.long x)])) rfl (hb hby at_304)) ?_
    show OE _ p e below s _ _ _ T20 (mkF m 307 #[.val (.int p1), .val (.long q2), .second, .val (.int p3), .val (.long q4), .second, .val (.int p5), .val (.int p6), .val (.ref b), .val (.int t), .val (.int f1), .val (.int f2), .val (.long mA), .second, .val (.long mB), .second, .val (.int j0), .val (.int k0), .val (.long ((P + k).toInt64)), .second, .val (.long x), .second, .val (.int j), .val (.int (1 : Int32)), .val (.int k)] [(.long (9223372036854775807 : Int64)), (.long x)])
    refine OE.lcmp Y20 hx hby at_307 ?_
    by_cases hc308 : (lcmpW x (9223372036854775807 : Int64)) = (0 : Int32)
    · skip
      refine OE.ifYes Y20 hx hby (pc' := 319) at_308 (teq hc308).1 (h := ?_)
      have z21 : n0 ≤ T20.heap.size := (Nat.le_trans z19 K20.1)
      have K22 : Keep h0 T20.heap [] := (Keep.trans K19 K20 (allS (Or.inr sz_19_b) all0))
      exact cut319 b (P + k) E Lm x f1 f2 j k T20.vm _ _ _ _ _ _ Y20 rfl N20 (Nat.le_trans (Nat.add_le_add_right hcl19 4) (by decide)) (Nat.le_trans (Nat.add_le_add_right hsl19 44) (by decide)) z21 K22 hS20 (Nat.le_refl _) hZ20 hown20 q20_0 q20_1 q20_2 q20_3 q20_4 q20_5 q20_6 g_19_b sz_19_b (own_aftn hi hm hc308)
    · skip
      refine OE.ifNo Y20 hx hby at_308 (feq hc308).1 ?_
      refine OE.lload Y20 hx hby at_311 rfl ?_
      refine OE.iload Y20 hx hby at_313 rfl ?_
      refine OE.i2l Y20 hx hby at_315 ?_
      refine OE.lsub Y20 hx hby at_316 ?_
      refine OE.lstore Y20 hx hby at_317 (l' := #[.val (.int p1), .val (.long q2), .second, .val (.int p3), .val (.long q4), .second, .val (.int p5), .val (.int p6), .val (.ref b), .val (.int t), .val (.int f1), .val (.int f2), .val (.long mA), .second, .val (.long mB), .second, .val (.int j0), .val (.int k0), .val (.long ((P + k).toInt64)), .second, .val (.long (x - (k.toInt64))), .second, .val (.int j), .val (.int (1 : Int32)), .val (.int k)]) rfl ?_
      have z23 : n0 ≤ T20.heap.size := (Nat.le_trans z19 K20.1)
      have K24 : Keep h0 T20.heap [] := (Keep.trans K19 K20 (allS (Or.inr sz_19_b) all0))
      exact cut319 b (P + k) E Lm (x - (k.toInt64)) f1 f2 j k T20.vm _ _ _ _ _ _ Y20 rfl N20 (Nat.le_trans (Nat.add_le_add_right hcl19 4) (by decide)) (Nat.le_trans (Nat.add_le_add_right hsl19 44) (by decide)) z23 K24 hS20 (Nat.le_refl _) hZ20 hown20 q20_0 q20_1 q20_2 q20_3 q20_4 q20_5 q20_6 g_19_b sz_19_b (own_after hi hm hc308)
  have cut253 : ∀ (b : Addr) (P : Int32) (E : Int64) (Lm : Int32) (x : Int64) (f1 : Int32) (f2 : Int32) (j : Int32) (vm25 : Vm) (kS25 : Nat) (T25 : State) (H25 : Heap) (locs25 : List Loc) (cells25 : Nat) (slots25 : Nat), Stand p l e room_1 (s.setVm vm25) m #[(.int p1), (.long q2), (.int p3), (.long q4), (.int p5), (.int p6)] below meth c T25 locs25 cells25 slots25 → T25.heap = H25 → Fr n0 locs25 → cells25 ≤ 12 → slots25 ≤ 150 → n0 ≤ H25.size → Keep h0 H25 [] → s.Since vm25 kS25 → kS25 ≤ H25.size → Z.Warmed39 (s.setVm vm25).vm → (s.setVm vm25).vm.findClass "com/example/bytewright/bytewright/io/InputGetMaxBytesPinLaw" = some m.cls → Exa Z H25 b "com/example/bytewright/bytewright/io/Input" → Fld Z H25 b "com/example/bytewright/bytewright/io/Input" "position" "I" (.int P) → Fld Z H25 b "com/example/bytewright/bytewright/io/Input" "end" "J" (.long E) → Fld Z H25 b "com/example/bytewright/bytewright/io/Input" "limit" "I" (.int Lm) → Fld Z H25 b "com/example/bytewright/bytewright/io/Input" "source" "Lcom/example/bytewright/bytewright/io/Input$Source;" .null → Fld Z H25 b "com/example/bytewright/bytewright/io/Input" "filled" "I" (.int (8 : Int32)) → Fld Z H25 b "com/example/bytewright/bytewright/io/Input" "consumed" "J" (.long (0 : Int64)) → n0 ≤ b → h0.size ≤ b → own_inv P Lm E x → OE ReturnedEndW p e below s (own_Q0 Z p1 q2 p3 q4 p5 p6 h0 n0) room_1.cells room_1.slots T25 (mkF m 253 #[.val (.int p1), .val (.long q2), .second, .val (.int p3), .val (.long q4), .second, .val (.int p5), .val (.int p6), .val (.ref b), .val (.int t), .val (.int f1), .val (.int f2), .val (.long mA), .second, .val (.long mB), .second, .val (.int j0), .val (.int k0), .val (.long (P.toInt64)), .second, .val (.long x), .second, .val (.int j), .val (.int (1 : Int32)), .unset] []) := by
    intro b P E Lm x f1 f2 j vm25 kS25 T25 H25 locs25 cells25 slots25 X25 e25 N25 hcl25 hsl25 z25 K25 hS25 hkS25 hZ25 hown25 tE tP tEn tL tS tF tC g_25_b sz_25_b hi
    show OE _ p e below s _ _ _ T25 (mkF m 253 #[.val (.int p1), .val (.long q2), .second, .val (.int p3), .val (.long q4), .second, .val (.int p5), .val (.int p6), .val (.ref b), .val (.int t), .val (.int f1), .val (.int f2), .val (.long mA), .second, .val (.long mB), .second, .val (.int j0), .val (.int k0), .val (.long (P.toInt64)), .second, .val (.long x), .second, .val (.int j), .val (.int (1 : Int32)), .unset] [])
    have hq := own_jm hi hk0.1 hk0.2
    refine OE.iload X25 hx hby at_253 rfl ?_
    refine OE.of (X25.ldc2Long hx hown25 (mvT hZ25 (hw _ (List.mem_of_getElem? (i := 76) rfl))) (g := (mkF m 255 #[.val (.int p1), .val (.long q2), .second, .val (.int p3), .val (.long q4), .second, .val (.int p5), .val (.int p6), .val (.ref b), .val (.int t), .val (.int f1), .val (.int f2), .val (.long mA), .second, .val (.long mB), .second, .val (.int j0), .val (.int k0), .val (.long (P.toInt64)), .second, .val (.long x), .second, .val (.int j), .val (.int (1 : Int32)), .unset] [(.int k0)])) rfl (hb hby at_255)) ?_
    show OE _ p e below s _ _ _ T25 (mkF m 258 #[.val (.int p1), .val (.long q2), .second, .val (.int p3), .val (.long q4), .second, .val (.int p5), .val (.int p6), .val (.ref b), .val (.int t), .val (.int f1), .val (.int f2), .val (.long mA), .second, .val (.long mB), .second, .val (.int j0), .val (.int k0), .val (.long (P.toInt64)), .second, .val (.long x), .second, .val (.int j), .val (.int (1 : Int32)), .unset] [(.long (8 : Int64)), (.int k0)])
    refine OE.lload X25 hx hby at_258 rfl ?_
    refine OE.lsub X25 hx hby at_260 ?_
    refine OE.l2i X25 hx hby at_261 ?_
    obtain ⟨_, _, ⟨T26, L26, k26, n26⟩, -, X26, ⟨Lc26, hQ26, l26, y26, z26⟩, st26⟩ := Jvm.LawKit.callS X25 hx (y := (⟨"java/lang/Math", "min", "(II)I"⟩ : MethodName)) hown25 (mvT hZ25 (hw _ (List.mem_of_getElem? (i := 77) rfl))) (mvT hZ25 (hw _ (List.mem_of_getElem? (i := 78) rfl))) (mvT hZ25 (hw _ (List.mem_of_getElem? (i := 74) rfl))) (mvT hZ25 (hw _ (List.mem_of_getElem? (i := 79) rfl))) (by decide) (backOf (W := 0) (own_rm11 l Z a0 hw [] k0 (((8 : Int64) - (P.toInt64)).toInt32) H25 n0 z25 ) hZ25 (hw _ (List.mem_of_getElem? (i := 79) rfl)) (hw _ (List.mem_of_getElem? (i := 74) rfl)) (by decide) (by decide)) (g := (mkF m 262 #[.val (.int p1), .val (.long q2), .second, .val (.int p3), .val (.long q4), .second, .val (.int p5), .val (.int p6), .val (.ref b), .val (.int t), .val (.int f1), .val (.int f2), .val (.long mA), .second, .val (.long mB), .second, .val (.int j0), .val (.int k0), .val (.long (P.toInt64)), .second, .val (.long x), .second, .val (.int j), .val (.int (1 : Int32)), .unset] [(.int (((8 : Int64) - (P.toInt64)).toInt32)), (.int k0)])) rfl (by rw [hml]; rfl) (argsL := [(.int k0), (.int (((8 : Int64) - (P.toInt64)).toInt32))]) (rest := []) (lenOf own_pd4 rfl) rfl (by show 2 * 0 + _ ≤ _; exact Nat.le_of_eq rfl) (hb hby at_262) (fun _ _ => ⟨rfl, e25, (Nat.le_trans (Nat.add_le_add_right hcl25 0) (by decide)), (Nat.le_trans (Nat.add_le_add_right hsl25 0) (by decide))⟩)
    dsimp only [Pt.U, Pt.locs, Pt.cells, Pt.slots] at X26 l26 y26 z26 st26 hQ26
    subst l26 y26 z26
    obtain ⟨rfl, Nq26, eq26⟩ := hQ26
    refine OE.of (fun _ k => st26 _ k) ?_
    have N26 := Fr.app N25 Nq26
    show OE _ p e below s _ _ _ T26 (mkF m 265 #[.val (.int p1), .val (.long q2), .second, .val (.int p3), .val (.long q4), .second, .val (.int p5), .val (.int p6), .val (.ref b), .val (.int t), .val (.int f1), .val (.int f2), .val (.long mA), .second, .val (.long mB), .second, .val (.int j0), .val (.int k0), .val (.long (P.toInt64)), .second, .val (.long x), .second, .val (.int j), .val (.int (1 : Int32)), .unset] [(.int (if (((8 : Int64) - (P.toInt64)).toInt32) < k0 then (((8 : Int64) - (P.toInt64)).toInt32) else k0))])
    obtain ⟨kz1, e_kz1⟩ : ∃ z, z = (if (((8 : Int64) - (P.toInt64)).toInt32) < k0 then (((8 : Int64) - (P.toInt64)).toInt32) else k0) := ⟨_, rfl⟩
    rw [← e_kz1]
    rw [← e_kz1] at hq
    show OE _ p e below s _ _ _ T26 (mkF m 265 #[.val (.int p1), .val (.long q2), .second, .val (.int p3), .val (.long q4), .second, .val (.int p5), .val (.int p6), .val (.ref b), .val (.int t), .val (.int f1), .val (.int f2), .val (.long mA), .second, .val (.long mB), .second, .val (.int j0), .val (.int k0), .val (.long (P.toInt64)), .second, .val (.long x), .second, .val (.int j), .val (.int (1 : Int32)), .unset] [(.int kz1)])
    refine OE.istore X26 hx hby at_265 (l' := #[.val (.int p1), .val (.long q2), .second, .val (.int p3), .val (.long q4), .second, .val (.int p5), .val (.int p6), .val (.ref b), .val (.int t), .val (.int f1), .val (.int f2), .val (.long mA), .second, .val (.long mB), .second, .val (.int j0), .val (.int k0), .val (.long (P.toInt64)), .second, .val (.long x), .second, .val (.int j), .val (.int (1 : Int32)), .val (.int kz1)]) rfl ?_
    refine OE.lload X26 hx hby at_267 rfl ?_
    refine OE.of (X26.ldc2Long hx hown25 (mvT hZ25 (hw _ (List.mem_of_getElem? (i := 38) rfl))) (g := (mkF m 269 #[.val (.int p1), .val (.long q2), .second, .val (.int p3), .val (.long q4), .second, .val (.int p5), .val (.int p6), .val (.ref b), .val (.int t), .val (.int f1), .val (.int f2), .val (.long mA), .second, .val (.long mB), .second, .val (.int j0), .val (.int k0), .val (.long (P.toInt64)), .second, .val (.long x), .second, .val (.int j), .val (.int (1 : Int32)), .val (.int kz1)] [(.long x)])) rfl (hb hby at_269)) ?_
    show OE _ p e below s _ _ _ T26 (mkF m 272 #[.val (.int p1), .val (.long q2), .second, .val (.int p3), .val (.long q4), .second, .val (.int p5), .val (.int p6), .val (.ref b), .val (.int t), .val (.int f1), .val (.int f2), .val (.long mA), .second, .val (.long mB), .second, .val (.int j0), .val (.int k0), .val (.long (P.toInt64)), .second, .val (.long x), .second, .val (.int j), .val (.int (1 : Int32)), .val (.int kz1)] [(.long (9223372036854775807 : Int64)), (.long x)])
    refine OE.lcmp X26 hx hby at_272 ?_
    by_cases hc273 : (lcmpW x (9223372036854775807 : Int64)) = (0 : Int32)
    · skip
      refine OE.ifYes X26 hx hby (pc' := 287) at_273 (teq hc273).1 (h := ?_)
      exact cut287 b P E Lm x f1 f2 j kz1 vm25 kS25 _ _ _ _ _ X26 eq26 N26 (Nat.le_trans (Nat.add_le_add_right hcl25 0) (by decide)) (Nat.le_trans (Nat.add_le_add_right hsl25 0) (by decide)) z25 K25 hS25 hkS25 hZ25 hown25 tE tP tEn tL tS tF tC g_25_b sz_25_b hi (own_jn hq.1 hq.2 hc273)
    · skip
      refine OE.ifNo X26 hx hby at_273 (feq hc273).1 ?_
      refine OE.iload X26 hx hby at_276 rfl ?_
      refine OE.i2l X26 hx hby at_278 ?_
      refine OE.lload X26 hx hby at_279 rfl ?_
      obtain ⟨_, _, ⟨T27, L27, k27, n27⟩, -, X27, ⟨Lc27, hQ27, l27, y27, z27⟩, st27⟩ := Jvm.LawKit.callS X26 hx (y := (⟨"java/lang/Math", "min", "(JJ)J"⟩ : MethodName)) hown25 (mvT hZ25 (hw _ (List.mem_of_getElem? (i := 80) rfl))) (mvT hZ25 (hw _ (List.mem_of_getElem? (i := 73) rfl))) (mvT hZ25 (hw _ (List.mem_of_getElem? (i := 74) rfl))) (mvT hZ25 (hw _ (List.mem_of_getElem? (i := 75) rfl))) (by decide) (backOf (W := 0) (own_rm10 l Z a0 hw [] (kz1.toInt64) x H25 n0 z25 ) hZ25 (hw _ (List.mem_of_getElem? (i := 75) rfl)) (hw _ (List.mem_of_getElem? (i := 74) rfl)) (by decide) (by decide)) (g := (mkF m 281 #[.val (.int p1), .val (.long q2), .second, .val (.int p3), .val (.long q4), .second, .val (.int p5), .val (.int p6), .val (.ref b), .val (.int t), .val (.int f1), .val (.int f2), .val (.long mA), .second, .val (.long mB), .second, .val (.int j0), .val (.int k0), .val (.long (P.toInt64)), .second, .val (.long x), .second, .val (.int j), .val (.int (1 : Int32)), .val (.int kz1)] [(.long x), (.long (kz1.toInt64))])) rfl (by rw [hml]; rfl) (argsL := [(.long (kz1.toInt64)), (.long x)]) (rest := []) (lenOf own_pd5 rfl) rfl (by show 2 * 0 + _ ≤ _; exact Nat.le_of_eq rfl) (hb hby at_281) (fun _ _ => ⟨rfl, eq26, (Nat.le_trans (Nat.add_le_add_right (Nat.add_le_add_right hcl25 0) 0) (by decide)), (Nat.le_trans (Nat.add_le_add_right (Nat.add_le_add_right hsl25 0) 0) (by decide))⟩)
      dsimp only [Pt.U, Pt.locs, Pt.cells, Pt.slots] at X27 l27 y27 z27 st27 hQ27
      subst l27 y27 z27
      obtain ⟨rfl, Nq27, eq27⟩ := hQ27
      refine OE.of (fun _ k => st27 _ k) ?_
      have N27 := Fr.app N26 Nq27
      show OE _ p e below s _ _ _ T27 (mkF m 284 #[.val (.int p1), .val (.long q2), .second, .val (.int p3), .val (.long q4), .second, .val (.int p5), .val (.int p6), .val (.ref b), .val (.int t), .val (.int f1), .val (.int f2), .val (.long mA), .second, .val (.long mB), .second, .val (.int j0), .val (.int k0), .val (.long (P.toInt64)), .second, .val (.long x), .second, .val (.int j), .val (.int (1 : Int32)), .val (.int kz1)] [(.long (if (0 : Int32) < (lcmpW (kz1.toInt64) x) then x else (kz1.toInt64)))])
      refine OE.l2i X27 hx hby at_284 ?_
      refine OE.istore X27 hx hby at_285 (l' := #[.val (.int p1), .val (.long q2), .second, .val (.int p3), .val (.long q4), .second, .val (.int p5), .val (.int p6), .val (.ref b), .val (.int t), .val (.int f1), .val (.int f2), .val (.long mA), .second, .val (.long mB), .second, .val (.int j0), .val (.int k0), .val (.long (P.toInt64)), .second, .val (.long x), .second, .val (.int j), .val (.int (1 : Int32)), .val (.int ((if (0 : Int32) < (lcmpW (kz1.toInt64) x) then x else (kz1.toInt64)).toInt32))]) rfl ?_
      exact cut287 b P E Lm x f1 f2 j ((if (0 : Int32) < (lcmpW (kz1.toInt64) x) then x else (kz1.toInt64)).toInt32) vm25 kS25 _ _ _ _ _ X27 eq27 N27 (Nat.le_trans (Nat.add_le_add_right (Nat.add_le_add_right hcl25 0) 0) (by decide)) (Nat.le_trans (Nat.add_le_add_right (Nat.add_le_add_right hsl25 0) 0) (by decide)) z25 K25 hS25 hkS25 hZ25 hown25 tE tP tEn tL tS tF tC g_25_b sz_25_b hi (own_jx hi hq.1 hq.2 hc273)
  have cut201 : ∀ (b : Addr) (P : Int32) (E : Int64) (Lm : Int32) (x : Int64) (f1 : Int32) (f2 : Int32) (j : Int32) (vm28 : Vm) (kS28 : Nat) (T28 : State) (H28 : Heap) (locs28 : List Loc) (cells28 : Nat) (slots28 : Nat), Stand p l e room_1 (s.setVm vm28) m #[(.int p1), (.long q2), (.int p3), (.long q4), (.int p5), (.int p6)] below meth c T28 locs28 cells28 slots28 → T28.heap = H28 → Fr n0 locs28 → cells28 ≤ 12 → slots28 ≤ 150 → n0 ≤ H28.size → Keep h0 H28 [] → s.Since vm28 kS28 → kS28 ≤ H28.size → Z.Warmed39 (s.setVm vm28).vm → (s.setVm vm28).vm.findClass "com/example/bytewright/bytewright/io/InputGetMaxBytesPinLaw" = some m.cls → Exa Z H28 b "com/example/bytewright/bytewright/io/Input" → Fld Z H28 b "com/example/bytewright/bytewright/io/Input" "position" "I" (.int P) → Fld Z H28 b "com/example/bytewright/bytewright/io/Input" "end" "J" (.long E) → Fld Z H28 b "com/example/bytewright/bytewright/io/Input" "limit" "I" (.int Lm) → Fld Z H28 b "com/example/bytewright/bytewright/io/Input" "source" "Lcom/example/bytewright/bytewright/io/Input$Source;" .null → Fld Z H28 b "com/example/bytewright/bytewright/io/Input" "filled" "I" (.int (8 : Int32)) → Fld Z H28 b "com/example/bytewright/bytewright/io/Input" "consumed" "J" (.long (0 : Int64)) → n0 ≤ b → h0.size ≤ b → own_inv P Lm E x → OE ReturnedEndW p e below s (own_Q0 Z p1 q2 p3 q4 p5 p6 h0 n0) room_1.cells room_1.slots T28 (mkF m 201 #[.val (.int p1), .val (.long q2), .second, .val (.int p3), .val (.long q4), .second, .val (.int p5), .val (.int p6), .val (.ref b), .val (.int t), .val (.int f1), .val (.int f2), .val (.long mA), .second, .val (.long mB), .second, .val (.int j0), .val (.int k0), .val (.long (P.toInt64)), .second, .val (.long x), .second, .val (.int j), .unset, .unset] []) := by
    intro b P E Lm x f1 f2 j vm28 kS28 T28 H28 locs28 cells28 slots28 X28 e28 N28 hcl28 hsl28 z28 K28 hS28 hkS28 hZ28 hown28 tE tP tEn tL tS tF tC g_28_b sz_28_b hi
    show OE _ p e below s _ _ _ T28 (mkF m 201 #[.val (.int p1), .val (.long q2), .second, .val (.int p3), .val (.long q4), .second, .val (.int p5), .val (.int p6), .val (.ref b), .val (.int t), .val (.int f1), .val (.int f2), .val (.long mA), .second, .val (.long mB), .second, .val (.int j0), .val (.int k0), .val (.long (P.toInt64)), .second, .val (.long x), .second, .val (.int j), .unset, .unset] [])
    refine OE.aload X28 hx hby at_201 rfl rfl ?_
    obtain ⟨cq29, kq29, qa29, qb29, qc29⟩ := isOf hZ28 e28 tE
    obtain ⟨_, _, ⟨T29, L29, k29, n29⟩, -, X29, ⟨Lc29, hQ29, l29, y29, z29⟩, st29⟩ := X28.virtualBack hx (y := (⟨"com/example/bytewright/bytewright/io/Input", "getMaxBytes", "()J"⟩ : MethodName)) (z := (⟨"com/example/bytewright/bytewright/io/Input", "getMaxBytes", "()J"⟩ : MethodName)) hown28 (mvT hZ28 (hw _ (List.mem_of_getElem? (i := 86) rfl))) (mvT hZ28 (hw _ (List.mem_of_getElem? (i := 87) rfl))) (notFace_of_selects (args := #[]) (mvT hZ28 (hw _ (List.mem_of_getElem? (i := 89) rfl)))) (mvT hZ28 (hw _ (List.mem_of_getElem? (i := 89) rfl))) (mvT hZ28 (hw _ (List.mem_of_getElem? (i := 88) rfl))) (by decide) (backOf (W := 0) (own_rm13 l Z a0 hw [] b E (0 : Int64) P H28 n0 z28 tE tEn tC tP) hZ28 (hw _ (List.mem_of_getElem? (i := 90) rfl)) (hw _ (List.mem_of_getElem? (i := 2) rfl)) (by decide) (by decide)) qa29 qc29 (g := (mkF m 203 #[.val (.int p1), .val (.long q2), .second, .val (.int p3), .val (.long q4), .second, .val (.int p5), .val (.int p6), .val (.ref b), .val (.int t), .val (.int f1), .val (.int f2), .val (.long mA), .second, .val (.long mB), .second, .val (.int j0), .val (.int k0), .val (.long (P.toInt64)), .second, .val (.long x), .second, .val (.int j), .unset, .unset] [(.ref b)])) rfl (by rw [hml]; rfl) (Steps.refl _) (argsL := []) (rest := []) (lenOf own_pd1 rfl) rfl (by show 2 * 0 + _ ≤ _; exact Nat.le_of_eq rfl) (hb hby at_203) (fun _ _ => ⟨rfl, e28, (Nat.le_trans (Nat.add_le_add_right hcl28 0) (by decide)), (Nat.le_trans (Nat.add_le_add_right hsl28 0) (by decide))⟩)
    dsimp only [Pt.U, Pt.locs, Pt.cells, Pt.slots] at X29 l29 y29 z29 st29 hQ29
    subst l29 y29 z29
    obtain ⟨rfl, Nq29, eq29⟩ := hQ29
    refine OE.of (fun _ k => st29.trans k) ?_
    have N29 := Fr.app N28 Nq29
    show OE _ p e below s _ _ _ T29 (mkF m 206 #[.val (.int p1), .val (.long q2), .second, .val (.int p3), .val (.long q4), .second, .val (.int p5), .val (.int p6), .val (.ref b), .val (.int t), .val (.int f1), .val (.int f2), .val (.long mA), .second, .val (.long mB), .second, .val (.int j0), .val (.int k0), .val (.long (P.toInt64)), .second, .val (.long x), .second, .val (.int j), .unset, .unset] [(.long (if (lcmpW E (9223372036854775807 : Int64)) = (0 : Int32) then (9223372036854775807 : Int64) else (E - ((0 : Int64) + (P.toInt64)))))])
    refine OE.lload X29 hx hby at_206 rfl ?_
    refine OE.lcmp X29 hx hby at_208 ?_
    refine OE.ifNo X29 hx hby at_209 (teq (own_get hi : (lcmpW (if (lcmpW E (9223372036854775807 : Int64)) = (0 : Int32) then (9223372036854775807 : Int64) else (E - ((0 : Int64) + (P.toInt64)))) x) = (0 : Int32))).2 ?_
    refine OE.iconst X29 hx hby at_212 (1 : Int32) rfl ?_
    refine OE.goto X29 hx hby (pc' := 217) at_213 (h := ?_)
    refine OE.istore X29 hx hby at_217 (l' := #[.val (.int p1), .val (.long q2), .second, .val (.int p3), .val (.long q4), .second, .val (.int p5), .val (.int p6), .val (.ref b), .val (.int t), .val (.int f1), .val (.int f2), .val (.long mA), .second, .val (.long mB), .second, .val (.int j0), .val (.int k0), .val (.long (P.toInt64)), .second, .val (.long x), .second, .val (.int j), .val (.int (1 : Int32)), .unset]) rfl ?_
    refine OE.iload X29 hx hby at_219 rfl ?_
    by_cases hc221 : f2 = (0 : Int32)
    · skip
      refine OE.ifYes X29 hx hby (pc' := 253) at_221 (teq hc221).1 (h := ?_)
      exact cut253 b P E Lm x f1 f2 j vm28 kS28 _ _ _ _ _ X29 eq29 N29 (Nat.le_trans (Nat.add_le_add_right hcl28 0) (by decide)) (Nat.le_trans (Nat.add_le_add_right hsl28 0) (by decide)) z28 K28 hS28 hkS28 hZ28 hown28 tE tP tEn tL tS tF tC g_28_b sz_28_b hi
    · skip
      refine OE.ifNo X29 hx hby at_221 (feq hc221).1 ?_
      refine OE.aload X29 hx hby at_224 rfl rfl ?_
      refine OE.lload X29 hx hby at_226 rfl ?_
      by_cases hsm : (0 : Int32) < (lcmpW mB ((9223372036854775807 : Int64) - ((0 : Int64) + (P.toInt64))))
      · skip
        obtain ⟨hi2, hge⟩ := own_set_hi (q := 0) hi hsm
        obtain ⟨cq30, kq30, qa30, qb30, qc30⟩ := isOf hZ28 eq29 tE
        obtain ⟨_, _, ⟨T30, L30, k30, n30⟩, -, X30, ⟨Lc30, hQ30, l30, y30, z30⟩, st30⟩ := X29.virtualBack hx (y := (⟨"com/example/bytewright/bytewright/io/Input", "setMaxBytes", "(J)V"⟩ : MethodName)) (z := (⟨"com/example/bytewright/bytewright/io/Input", "setMaxBytes", "(J)V"⟩ : MethodName)) hown28 (mvT hZ28 (hw _ (List.mem_of_getElem? (i := 63) rfl))) (mvT hZ28 (hw _ (List.mem_of_getElem? (i := 64) rfl))) (notFace_of_selects (args := #[]) (mvT hZ28 (hw _ (List.mem_of_getElem? (i := 66) rfl)))) (mvT hZ28 (hw _ (List.mem_of_getElem? (i := 66) rfl))) (mvT hZ28 (hw _ (List.mem_of_getElem? (i := 65) rfl))) (by decide) (backOf (W := 0) (own_rm8_hi l Z a0 hw [] b mB P E Lm H28 n0 z28 tE tF tC tP tEn tL tS g_28_b (by rw [own_lt, own_j0]; omega) hsm) hZ28 (hw _ (List.mem_of_getElem? (i := 67) rfl)) (hw _ (List.mem_of_getElem? (i := 2) rfl)) (by decide) (by decide)) qa30 qc30 (g := (mkF m 228 #[.val (.int p1), .val (.long q2), .second, .val (.int p3), .val (.long q4), .second, .val (.int p5), .val (.int p6), .val (.ref b), .val (.int t), .val (.int f1), .val (.int f2), .val (.long mA), .second, .val (.long mB), .second, .val (.int j0), .val (.int k0), .val (.long (P.toInt64)), .second, .val (.long x), .second, .val (.int j), .val (.int (1 : Int32)), .unset] [(.long mB), (.ref b)])) rfl (by rw [hml]; rfl) (Steps.refl _) (argsL := [(.long mB)]) (rest := []) (lenOf own_pd8 rfl) rfl (by show 2 * 0 + _ ≤ _; exact Nat.le_of_eq rfl) (hb hby at_228) (fun _ _ => ⟨rfl, eq29, (Nat.le_trans (Nat.add_le_add_right (Nat.add_le_add_right hcl28 0) 0) (by decide)), (Nat.le_trans (Nat.add_le_add_right (Nat.add_le_add_right hsl28 0) 0) (by decide))⟩)
        dsimp only [Pt.U, Pt.locs, Pt.cells, Pt.slots] at X30 l30 y30 z30 st30 hQ30
        subst l30 y30 z30
        obtain ⟨rfl, Nq30, K30, q30_0, q30_1, q30_2, q30_3, q30_4, q30_5, q30_6⟩ := hQ30
        refine OE.of (fun _ k => st30.trans k) ?_
        have N30 := Fr.app N29 Nq30
        show OE _ p e below s _ _ _ T30 (mkF m 231 #[.val (.int p1), .val (.long q2), .second, .val (.int p3), .val (.long q4), .second, .val (.int p5), .val (.int p6), .val (.ref b), .val (.int t), .val (.int f1), .val (.int f2), .val (.long mA), .second, .val (.long mB), .second, .val (.int j0), .val (.int k0), .val (.long (P.toInt64)), .second, .val (.long x), .second, .val (.int j), .val (.int (1 : Int32)), .unset] [])
        refine OE.lload X30 hx hby at_231 rfl ?_
        refine OE.of (X30.ldc2Long hx hown28 (mvT hZ28 (hw _ (List.mem_of_getElem? (i := 38) rfl))) (g := (mkF m 233 #[.val (.int p1), .val (.long q2), .second, .val (.int p3), .val (.long q4), .second, .val (.int p5), .val (.int p6), .val (.ref b), .val (.int t), .val (.int f1), .val (.int f2), .val (.long mA), .second, .val (.long mB), .second, .val (.int j0), .val (.int k0), .val (.long (P.toInt64)), .second, .val (.long x), .second, .val (.int j), .val (.int (1 : Int32)), .unset] [(.long mB)])) rfl (hb hby at_233)) ?_
        show OE _ p e below s _ _ _ T30 (mkF m 236 #[.val (.int p1), .val (.long q2), .second, .val (.int p3), .val (.long q4), .second, .val (.int p5), .val (.int p6), .val (.ref b), .val (.int t), .val (.int f1), .val (.int f2), .val (.long mA), .second, .val (.long mB), .second, .val (.int j0), .val (.int k0), .val (.long (P.toInt64)), .second, .val (.long x), .second, .val (.int j), .val (.int (1 : Int32)), .unset] [(.long (9223372036854775807 : Int64)), (.long mB)])
        refine OE.lload X30 hx hby at_236 rfl ?_
        refine OE.lsub X30 hx hby at_238 ?_
        refine OE.lcmp X30 hx hby at_239 ?_
        refine OE.ifNo X30 hx hby at_240 (flt (hge : ¬ ((lcmpW mB ((9223372036854775807 : Int64) - (P.toInt64))) < (0 : Int32)))).1 ?_
        refine OE.of (X30.ldc2Long hx hown28 (mvT hZ28 (hw _ (List.mem_of_getElem? (i := 38) rfl))) (g := (mkF m 243 #[.val (.int p1), .val (.long q2), .second, .val (.int p3), .val (.long q4), .second, .val (.int p5), .val (.int p6), .val (.ref b), .val (.int t), .val (.int f1), .val (.int f2), .val (.long mA), .second, .val (.long mB), .second, .val (.int j0), .val (.int k0), .val (.long (P.toInt64)), .second, .val (.long x), .second, .val (.int j), .val (.int (1 : Int32)), .unset] [])) rfl (hb hby at_243)) ?_
        show OE _ p e below s _ _ _ T30 (mkF m 246 #[.val (.int p1), .val (.long q2), .second, .val (.int p3), .val (.long q4), .second, .val (.int p5), .val (.int p6), .val (.ref b), .val (.int t), .val (.int f1), .val (.int f2), .val (.long mA), .second, .val (.long mB), .second, .val (.int j0), .val (.int k0), .val (.long (P.toInt64)), .second, .val (.long x), .second, .val (.int j), .val (.int (1 : Int32)), .unset] [(.long (9223372036854775807 : Int64))])
        refine OE.goto X30 hx hby (pc' := 251) at_246 (h := ?_)
        refine OE.lstore X30 hx hby at_251 (l' := #[.val (.int p1), .val (.long q2), .second, .val (.int p3), .val (.long q4), .second, .val (.int p5), .val (.int p6), .val (.ref b), .val (.int t), .val (.int f1), .val (.int f2), .val (.long mA), .second, .val (.long mB), .second, .val (.int j0), .val (.int k0), .val (.long (P.toInt64)), .second, .val (.long (9223372036854775807 : Int64)), .second, .val (.int j), .val (.int (1 : Int32)), .unset]) rfl ?_
        have z31 : n0 ≤ T30.heap.size := (Nat.le_trans z28 K30.1)
        have K32 : Keep h0 T30.heap [] := (Keep.trans K28 K30 (allS (Or.inr sz_28_b) all0))
        have zs33 : kS28 ≤ T30.heap.size := (Nat.le_trans hkS28 K30.1)
        exact cut253 b P (9223372036854775807 : Int64) ((if (0 : Int32) < (lcmpW ((8 : Int32).toInt64) ((9223372036854775807 : Int64) - (0 : Int64))) then ((9223372036854775807 : Int64) - (0 : Int64)) else ((8 : Int32).toInt64)).toInt32) (9223372036854775807 : Int64) f1 f2 j vm28 kS28 _ _ _ _ _ X30 rfl N30 (Nat.le_trans (Nat.add_le_add_right (Nat.add_le_add_right hcl28 0) 0) (by decide)) (Nat.le_trans (Nat.add_le_add_right (Nat.add_le_add_right hsl28 0) 0) (by decide)) z31 K32 hS28 zs33 hZ28 hown28 q30_0 q30_1 q30_2 q30_3 q30_5 q30_4 q30_6 g_28_b sz_28_b hi2
      · skip
        have hi2 := own_set_lo hi hB hsm
        obtain ⟨cq34, kq34, qa34, qb34, qc34⟩ := isOf hZ28 eq29 tE
        obtain ⟨_, _, ⟨T34, L34, k34, n34⟩, -, X34, ⟨Lc34, hQ34, l34, y34, z34⟩, st34⟩ := X29.virtualBack hx (y := (⟨"com/example/bytewright/bytewright/io/Input", "setMaxBytes", "(J)V"⟩ : MethodName)) (z := (⟨"com/example/bytewright/bytewright/io/Input", "setMaxBytes", "(J)V"⟩ : MethodName)) hown28 (mvT hZ28 (hw _ (List.mem_of_getElem? (i := 63) rfl))) (mvT hZ28 (hw _ (List.mem_of_getElem? (i := 64) rfl))) (notFace_of_selects (args := #[]) (mvT hZ28 (hw _ (List.mem_of_getElem? (i := 66) rfl)))) (mvT hZ28 (hw _ (List.mem_of_getElem? (i := 66) rfl))) (mvT hZ28 (hw _ (List.mem_of_getElem? (i := 65) rfl))) (by decide) (backOf (W := 0) (own_rm8_lo l Z a0 hw [] b mB P E Lm H28 n0 z28 tE tF tC tP tEn tL tS g_28_b (by rw [own_lt, own_j0]; omega) hsm) hZ28 (hw _ (List.mem_of_getElem? (i := 67) rfl)) (hw _ (List.mem_of_getElem? (i := 2) rfl)) (by decide) (by decide)) qa34 qc34 (g := (mkF m 228 #[.val (.int p1), .val (.long q2), .second, .val (.int p3), .val (.long q4), .second, .val (.int p5), .val (.int p6), .val (.ref b), .val (.int t), .val (.int f1), .val (.int f2), .val (.long mA), .second, .val (.long mB), .second, .val (.int j0), .val (.int k0), .val (.long (P.toInt64)), .second, .val (.long x), .second, .val (.int j), .val (.int (1 : Int32)), .unset] [(.long mB), (.ref b)])) rfl (by rw [hml]; rfl) (Steps.refl _) (argsL := [(.long mB)]) (rest := []) (lenOf own_pd8 rfl) rfl (by show 2 * 0 + _ ≤ _; exact Nat.le_of_eq rfl) (hb hby at_228) (fun _ _ => ⟨rfl, eq29, (Nat.le_trans (Nat.add_le_add_right (Nat.add_le_add_right hcl28 0) 0) (by decide)), (Nat.le_trans (Nat.add_le_add_right (Nat.add_le_add_right hsl28 0) 0) (by decide))⟩)
        dsimp only [Pt.U, Pt.locs, Pt.cells, Pt.slots] at X34 l34 y34 z34 st34 hQ34
        subst l34 y34 z34
        obtain ⟨rfl, Nq34, K34, q34_0, q34_1, q34_2, q34_3, q34_4, q34_5, q34_6⟩ := hQ34
        refine OE.of (fun _ k => st34.trans k) ?_
        have N34 := Fr.app N29 Nq34
        show OE _ p e below s _ _ _ T34 (mkF m 231 #[.val (.int p1), .val (.long q2), .second, .val (.int p3), .val (.long q4), .second, .val (.int p5), .val (.int p6), .val (.ref b), .val (.int t), .val (.int f1), .val (.int f2), .val (.long mA), .second, .val (.long mB), .second, .val (.int j0), .val (.int k0), .val (.long (P.toInt64)), .second, .val (.long x), .second, .val (.int j), .val (.int (1 : Int32)), .unset] [])
        refine OE.lload X34 hx hby at_231 rfl ?_
        refine OE.of (X34.ldc2Long hx hown28 (mvT hZ28 (hw _ (List.mem_of_getElem? (i := 38) rfl))) (g := (mkF m 233 #[.val (.int p1), .val (.long q2), .second, .val (.int p3), .val (.long q4), .second, .val (.int p5), .val (.int p6), .val (.ref b), .val (.int t), .val (.int f1), .val (.int f2), .val (.long mA), .second, .val (.long mB), .second, .val (.int j0), .val (.int k0), .val (.long (P.toInt64)), .second, .val (.long x), .second, .val (.int j), .val (.int (1 : Int32)), .unset] [(.long mB)])) rfl (hb hby at_233)) ?_
        show OE _ p e below s _ _ _ T34 (mkF m 236 #[.val (.int p1), .val (.long q2), .second, .val (.int p3), .val (.long q4), .second, .val (.int p5), .val (.int p6), .val (.ref b), .val (.int t), .val (.int f1), .val (.int f2), .val (.long mA), .second, .val (.long mB), .second, .val (.int j0), .val (.int k0), .val (.long (P.toInt64)), .second, .val (.long x), .second, .val (.int j), .val (.int (1 : Int32)), .unset] [(.long (9223372036854775807 : Int64)), (.long mB)])
        refine OE.lload X34 hx hby at_236 rfl ?_
        refine OE.lsub X34 hx hby at_238 ?_
        refine OE.lcmp X34 hx hby at_239 ?_
        by_cases hc240 : (lcmpW mB ((9223372036854775807 : Int64) - (P.toInt64))) < (0 : Int32)
        · skip
          refine OE.ifYes X34 hx hby (pc' := 249) at_240 (tlt hc240).1 (h := ?_)
          refine OE.lload X34 hx hby at_249 rfl ?_
          refine OE.lstore X34 hx hby at_251 (l' := #[.val (.int p1), .val (.long q2), .second, .val (.int p3), .val (.long q4), .second, .val (.int p5), .val (.int p6), .val (.ref b), .val (.int t), .val (.int f1), .val (.int f2), .val (.long mA), .second, .val (.long mB), .second, .val (.int j0), .val (.int k0), .val (.long (P.toInt64)), .second, .val (.long mB), .second, .val (.int j), .val (.int (1 : Int32)), .unset]) rfl ?_
          have z35 : n0 ≤ T34.heap.size := (Nat.le_trans z28 K34.1)
          have K36 : Keep h0 T34.heap [] := (Keep.trans K28 K34 (allS (Or.inr sz_28_b) all0))
          have zs37 : kS28 ≤ T34.heap.size := (Nat.le_trans hkS28 K34.1)
          exact cut253 b P (((0 : Int64) + (P.toInt64)) + mB) ((if (0 : Int32) < (lcmpW ((8 : Int32).toInt64) ((((0 : Int64) + (P.toInt64)) + mB) - (0 : Int64))) then ((((0 : Int64) + (P.toInt64)) + mB) - (0 : Int64)) else ((8 : Int32).toInt64)).toInt32) mB f1 f2 j vm28 kS28 _ _ _ _ _ X34 rfl N34 (Nat.le_trans (Nat.add_le_add_right (Nat.add_le_add_right hcl28 0) 0) (by decide)) (Nat.le_trans (Nat.add_le_add_right (Nat.add_le_add_right hsl28 0) 0) (by decide)) z35 K36 hS28 zs37 hZ28 hown28 q34_0 q34_1 q34_2 q34_3 q34_5 q34_4 q34_6 g_28_b sz_28_b (by rw [if_pos hc240] at hi2; exact hi2)
        · skip
          refine OE.ifNo X34 hx hby at_240 (flt hc240).1 ?_
          refine OE.of (X34.ldc2Long hx hown28 (mvT hZ28 (hw _ (List.mem_of_getElem? (i := 38) rfl))) (g := (mkF m 243 #[.val (.int p1), .val (.long q2), .second, .val (.int p3), .val (.long q4), .second, .val (.int p5), .val (.int p6), .val (.ref b), .val (.int t), .val (.int f1), .val (.int f2), .val (.long mA), .second, .val (.long mB), .second, .val (.int j0), .val (.int k0), .val (.long (P.toInt64)), .second, .val (.long x), .second, .val (.int j), .val (.int (1 : Int32)), .unset] [])) rfl (hb hby at_243)) ?_
          show OE _ p e below s _ _ _ T34 (mkF m 246 #[.val (.int p1), .val (.long q2), .second, .val (.int p3), .val (.long q4), .second, .val (.int p5), .val (.int p6), .val (.ref b), .val (.int t), .val (.int f1), .val (.int f2), .val (.long mA), .second, .val (.long mB), .second, .val (.int j0), .val (.int k0), .val (.long (P.toInt64)), .second, .val (.long x), .second, .val (.int j), .val (.int (1 : Int32)), .unset] [(.long (9223372036854775807 : Int64))])
          refine OE.goto X34 hx hby (pc' := 251) at_246 (h := ?_)
          refine OE.lstore X34 hx hby at_251 (l' := #[.val (.int p1), .val (.long q2), .second, .val (.int p3), .val (.long q4), .second, .val (.int p5), .val (.int p6), .val (.ref b), .val (.int t), .val (.int f1), .val (.int f2), .val (.long mA), .second, .val (.long mB), .second, .val (.int j0), .val (.int k0), .val (.long (P.toInt64)), .second, .val (.long (9223372036854775807 : Int64)), .second, .val (.int j), .val (.int (1 : Int32)), .unset]) rfl ?_
          have z38 : n0 ≤ T34.heap.size := (Nat.le_trans z28 K34.1)
          have K39 : Keep h0 T34.heap [] := (Keep.trans K28 K34 (allS (Or.inr sz_28_b) all0))
          have zs40 : kS28 ≤ T34.heap.size := (Nat.le_trans hkS28 K34.1)
          exact cut253 b P (((0 : Int64) + (P.toInt64)) + mB) ((if (0 : Int32) < (lcmpW ((8 : Int32).toInt64) ((((0 : Int64) + (P.toInt64)) + mB) - (0 : Int64))) then ((((0 : Int64) + (P.toInt64)) + mB) - (0 : Int64)) else ((8 : Int32).toInt64)).toInt32) (9223372036854775807 : Int64) f1 f2 j vm28 kS28 _ _ _ _ _ X34 rfl N34 (Nat.le_trans (Nat.add_le_add_right (Nat.add_le_add_right hcl28 0) 0) (by decide)) (Nat.le_trans (Nat.add_le_add_right (Nat.add_le_add_right hsl28 0) 0) (by decide)) z38 K39 hS28 zs40 hZ28 hown28 q34_0 q34_1 q34_2 q34_3 q34_5 q34_4 q34_6 g_28_b sz_28_b (by rw [if_neg hc240] at hi2; exact hi2)
  have cut169 : ∀ (b : Addr) (P : Int32) (E : Int64) (Lm : Int32) (x : Int64) (f1 : Int32) (f2 : Int32) (j : Int32) (vm41 : Vm) (kS41 : Nat) (T41 : State) (H41 : Heap) (locs41 : List Loc) (cells41 : Nat) (slots41 : Nat), Stand p l e room_1 (s.setVm vm41) m #[(.int p1), (.long q2), (.int p3), (.long q4), (.int p5), (.int p6)] below meth c T41 locs41 cells41 slots41 → T41.heap = H41 → Fr n0 locs41 → cells41 ≤ 8 → slots41 ≤ 100 → n0 ≤ H41.size → Keep h0 H41 [] → s.Since vm41 kS41 → kS41 ≤ H41.size → Z.Warmed39 (s.setVm vm41).vm → (s.setVm vm41).vm.findClass "com/example/bytewright/bytewright/io/InputGetMaxBytesPinLaw" = some m.cls → Exa Z H41 b "com/example/bytewright/bytewright/io/Input" → Fld Z H41 b "com/example/bytewright/bytewright/io/Input" "position" "I" (.int P) → Fld Z H41 b "com/example/bytewright/bytewright/io/Input" "end" "J" (.long E) → Fld Z H41 b "com/example/bytewright/bytewright/io/Input" "limit" "I" (.int Lm) → Fld Z H41 b "com/example/bytewright/bytewright/io/Input" "source" "Lcom/example/bytewright/bytewright/io/Input$Source;" .null → Fld Z H41 b "com/example/bytewright/bytewright/io/Input" "filled" "I" (.int (8 : Int32)) → Fld Z H41 b "com/example/bytewright/bytewright/io/Input" "consumed" "J" (.long (0 : Int64)) → n0 ≤ b → h0.size ≤ b → own_inv P Lm E x → own_may P Lm E x j → OE ReturnedEndW p e below s (own_Q0 Z p1 q2 p3 q4 p5 p6 h0 n0) room_1.cells room_1.slots T41 (mkF m 169 #[.val (.int p1), .val (.long q2), .second, .val (.int p3), .val (.long q4), .second, .val (.int p5), .val (.int p6), .val (.ref b), .val (.int t), .val (.int f1), .val (.int f2), .val (.long mA), .second, .val (.long mB), .second, .val (.int j0), .val (.int k0), .val (.long (P.toInt64)), .second, .val (.long x), .second, .val (.int j), .unset, .unset] []) := by
    intro b P E Lm x f1 f2 j vm41 kS41 T41 H41 locs41 cells41 slots41 X41 e41 N41 hcl41 hsl41 z41 K41 hS41 hkS41 hZ41 hown41 tE tP tEn tL tS tF tC g_41_b sz_41_b hi hm
    show OE _ p e below s _ _ _ T41 (mkF m 169 #[.val (.int p1), .val (.long q2), .second, .val (.int p3), .val (.long q4), .second, .val (.int p5), .val (.int p6), .val (.ref b), .val (.int t), .val (.int f1), .val (.int f2), .val (.long mA), .second, .val (.long mB), .second, .val (.int j0), .val (.int k0), .val (.long (P.toInt64)), .second, .val (.long x), .second, .val (.int j), .unset, .unset] [])
    refine OE.aload X41 hx hby at_169 rfl rfl ?_
    refine OE.iload X41 hx hby at_171 rfl ?_
    obtain ⟨cq42, kq42, qa42, qb42, qc42⟩ := isOf hZ41 e41 tE
    obtain ⟨_, _, ⟨T42, L42, k42, n42⟩, -, X42, hs42, hgr42, ⟨Lc42, hQ42, l42, y42, z42⟩, st42⟩ := X41.virtualBackS hx (y := (⟨"com/example/bytewright/bytewright/io/Input", "skip", "(I)V"⟩ : MethodName)) (z := (⟨"com/example/bytewright/bytewright/io/Input", "skip", "(I)V"⟩ : MethodName)) hown41 (mvT hZ41 (hw _ (List.mem_of_getElem? (i := 39) rfl))) (mvT hZ41 (hw _ (List.mem_of_getElem? (i := 40) rfl))) (notFace_of_selects (args := #[]) (mvT hZ41 (hw _ (List.mem_of_getElem? (i := 42) rfl)))) (mvT hZ41 (hw _ (List.mem_of_getElem? (i := 42) rfl))) (mvT hZ41 (hw _ (List.mem_of_getElem? (i := 41) rfl))) (by decide) (backOfS (W := 0) (own_rm4 l Z a0 hw [] b j P E Lm x H41 n0 z41 tE tS tF tC tP tEn tL g_41_b hi hm) hZ41 (hw _ (List.mem_of_getElem? (i := 43) rfl)) (hw _ (List.mem_of_getElem? (i := 2) rfl)) (by decide) (by decide)) qa42 qc42 (g := (mkF m 173 #[.val (.int p1), .val (.long q2), .second, .val (.int p3), .val (.long q4), .second, .val (.int p5), .val (.int p6), .val (.ref b), .val (.int t), .val (.int f1), .val (.int f2), .val (.long mA), .second, .val (.long mB), .second, .val (.int j0), .val (.int k0), .val (.long (P.toInt64)), .second, .val (.long x), .second, .val (.int j), .unset, .unset] [(.int j), (.ref b)])) rfl (by rw [hml]; rfl) (Steps.refl _) (argsL := [(.int j)]) (rest := []) (lenOf own_pd3 rfl) rfl (by show 2 * 0 + _ ≤ _; exact Nat.le_of_eq rfl) (hb hby at_173) (fun _ _ => ⟨rfl, e41, (Nat.le_trans (Nat.add_le_add_right hcl41 4) (by decide)), (Nat.le_trans (Nat.add_le_add_right hsl41 44) (by decide))⟩)
    dsimp only [Pt.U, Pt.locs, Pt.cells, Pt.slots] at X42 l42 y42 z42 st42 hQ42
    subst l42 y42 z42
    obtain ⟨Y42, hS42, hZ42, hown42⟩ := rebS (s := s) (vm0 := vm41) (vm1 := T42.vm) hS41 (by rw [e41]; exact hkS41) X42 hs42 hgr42 hZ41 hown41
    obtain ⟨rfl, Nq42, K42, q42_0, q42_1, q42_2, q42_3, q42_4, q42_5, q42_6⟩ := hQ42
    refine OE.of (fun _ k => st42.trans k) ?_
    have N42 := Fr.app N41 Nq42
    show OE _ p e below s _ _ _ T42 (mkF m 176 #[.val (.int p1), .val (.long q2), .second, .val (.int p3), .val (.long q4), .second, .val (.int p5), .val (.int p6), .val (.ref b), .val (.int t), .val (.int f1), .val (.int f2), .val (.long mA), .second, .val (.long mB), .second, .val (.int j0), .val (.int k0), .val (.long (P.toInt64)), .second, .val (.long x), .second, .val (.int j), .unset, .unset] [])
    refine OE.lload Y42 hx hby at_176 rfl ?_
    refine OE.iload Y42 hx hby at_178 rfl ?_
    refine OE.i2l Y42 hx hby at_180 ?_
    refine OE.ladd Y42 hx hby at_181 ?_
    rw [(own_pos hi hm : ((P.toInt64) + (j.toInt64)) = ((P + j).toInt64))]
    show OE _ p e below s _ _ _ T42 (mkF m 182 #[.val (.int p1), .val (.long q2), .second, .val (.int p3), .val (.long q4), .second, .val (.int p5), .val (.int p6), .val (.ref b), .val (.int t), .val (.int f1), .val (.int f2), .val (.long mA), .second, .val (.long mB), .second, .val (.int j0), .val (.int k0), .val (.long (P.toInt64)), .second, .val (.long x), .second, .val (.int j), .unset, .unset] [(.long ((P + j).toInt64))])
    refine OE.lstore Y42 hx hby at_182 (l' := #[.val (.int p1), .val (.long q2), .second, .val (.int p3), .val (.long q4), .second, .val (.int p5), .val (.int p6), .val (.ref b), .val (.int t), .val (.int f1), .val (.int f2), .val (.long mA), .second, .val (.long mB), .second, .val (.int j0), .val (.int k0), .val (.long ((P + j).toInt64)), .second, .val (.long x), .second, .val (.int j), .unset, .unset]) rfl ?_
    refine OE.lload Y42 hx hby at_184 rfl ?_
    refine OE.of (Y42.ldc2Long hx hown42 (mvT hZ42 (hw _ (List.mem_of_getElem? (i := 38) rfl))) (g := (mkF m 186 #[.val (.int p1), .val (.long q2), .second, .val (.int p3), .val (.long q4), .second, .val (.int p5), .val (.int p6), .val (.ref b), .val (.int t), .val (.int f1), .val (.int f2), .val (.long mA), .second, .val (.long mB), .second, .val (.int j0), .val (.int k0), .val (.long ((P + j).toInt64)), .second, .val (.long x), .second, .val (.int j), .unset, .unset] [(.long x)])) rfl (hb hby at_186)) ?_
    show OE _ p e below s _ _ _ T42 (mkF m 189 #[.val (.int p1), .val (.long q2), .second, .val (.int p3), .val (.long q4), .second, .val (.int p5), .val (.int p6), .val (.ref b), .val (.int t), .val (.int f1), .val (.int f2), .val (.long mA), .second, .val (.long mB), .second, .val (.int j0), .val (.int k0), .val (.long ((P + j).toInt64)), .second, .val (.long x), .second, .val (.int j), .unset, .unset] [(.long (9223372036854775807 : Int64)), (.long x)])
    refine OE.lcmp Y42 hx hby at_189 ?_
    by_cases hc190 : (lcmpW x (9223372036854775807 : Int64)) = (0 : Int32)
    · skip
      refine OE.ifYes Y42 hx hby (pc' := 201) at_190 (teq hc190).1 (h := ?_)
      have z43 : n0 ≤ T42.heap.size := (Nat.le_trans z41 K42.1)
      have K44 : Keep h0 T42.heap [] := (Keep.trans K41 K42 (allS (Or.inr sz_41_b) all0))
      exact cut201 b (P + j) E Lm x f1 f2 j T42.vm _ _ _ _ _ _ Y42 rfl N42 (Nat.le_trans (Nat.add_le_add_right hcl41 4) (by decide)) (Nat.le_trans (Nat.add_le_add_right hsl41 44) (by decide)) z43 K44 hS42 (Nat.le_refl _) hZ42 hown42 q42_0 q42_1 q42_2 q42_3 q42_4 q42_5 q42_6 g_41_b sz_41_b (own_aftn hi hm hc190)
    · skip
      refine OE.ifNo Y42 hx hby at_190 (feq hc190).1 ?_
      refine OE.lload Y42 hx hby at_193 rfl ?_
      refine OE.iload Y42 hx hby at_195 rfl ?_
      refine OE.i2l Y42 hx hby at_197 ?_
      refine OE.lsub Y42 hx hby at_198 ?_
      refine OE.lstore Y42 hx hby at_199 (l' := #[.val (.int p1), .val (.long q2), .second, .val (.int p3), .val (.long q4), .second, .val (.int p5), .val (.int p6), .val (.ref b), .val (.int t), .val (.int f1), .val (.int f2), .val (.long mA), .second, .val (.long mB), .second, .val (.int j0), .val (.int k0), .val (.long ((P + j).toInt64)), .second, .val (.long (x - (j.toInt64))), .second, .val (.int j), .unset, .unset]) rfl ?_
      have z45 : n0 ≤ T42.heap.size := (Nat.le_trans z41 K42.1)
      have K46 : Keep h0 T42.heap [] := (Keep.trans K41 K42 (allS (Or.inr sz_41_b) all0))
      exact cut201 b (P + j) E Lm (x - (j.toInt64)) f1 f2 j T42.vm _ _ _ _ _ _ Y42 rfl N42 (Nat.le_trans (Nat.add_le_add_right hcl41 4) (by decide)) (Nat.le_trans (Nat.add_le_add_right hsl41 44) (by decide)) z45 K46 hS42 (Nat.le_refl _) hZ42 hown42 q42_0 q42_1 q42_2 q42_3 q42_4 q42_5 q42_6 g_41_b sz_41_b (own_after hi hm hc190)
  have cut135 : ∀ (b : Addr) (P : Int32) (E : Int64) (Lm : Int32) (x : Int64) (f1 : Int32) (f2 : Int32) (vm47 : Vm) (kS47 : Nat) (T47 : State) (H47 : Heap) (locs47 : List Loc) (cells47 : Nat) (slots47 : Nat), Stand p l e room_1 (s.setVm vm47) m #[(.int p1), (.long q2), (.int p3), (.long q4), (.int p5), (.int p6)] below meth c T47 locs47 cells47 slots47 → T47.heap = H47 → Fr n0 locs47 → cells47 ≤ 8 → slots47 ≤ 100 → n0 ≤ H47.size → Keep h0 H47 [] → s.Since vm47 kS47 → kS47 ≤ H47.size → Z.Warmed39 (s.setVm vm47).vm → (s.setVm vm47).vm.findClass "com/example/bytewright/bytewright/io/InputGetMaxBytesPinLaw" = some m.cls → Exa Z H47 b "com/example/bytewright/bytewright/io/Input" → Fld Z H47 b "com/example/bytewright/bytewright/io/Input" "position" "I" (.int P) → Fld Z H47 b "com/example/bytewright/bytewright/io/Input" "end" "J" (.long E) → Fld Z H47 b "com/example/bytewright/bytewright/io/Input" "limit" "I" (.int Lm) → Fld Z H47 b "com/example/bytewright/bytewright/io/Input" "source" "Lcom/example/bytewright/bytewright/io/Input$Source;" .null → Fld Z H47 b "com/example/bytewright/bytewright/io/Input" "filled" "I" (.int (8 : Int32)) → Fld Z H47 b "com/example/bytewright/bytewright/io/Input" "consumed" "J" (.long (0 : Int64)) → n0 ≤ b → h0.size ≤ b → own_inv P Lm E x → OE ReturnedEndW p e below s (own_Q0 Z p1 q2 p3 q4 p5 p6 h0 n0) room_1.cells room_1.slots T47 (mkF m 135 #[.val (.int p1), .val (.long q2), .second, .val (.int p3), .val (.long q4), .second, .val (.int p5), .val (.int p6), .val (.ref b), .val (.int t), .val (.int f1), .val (.int f2), .val (.long mA), .second, .val (.long mB), .second, .val (.int j0), .val (.int k0), .val (.long (P.toInt64)), .second, .val (.long x), .second, .unset, .unset, .unset] []) := by
    intro b P E Lm x f1 f2 vm47 kS47 T47 H47 locs47 cells47 slots47 X47 e47 N47 hcl47 hsl47 z47 K47 hS47 hkS47 hZ47 hown47 tE tP tEn tL tS tF tC g_47_b sz_47_b hi
    show OE _ p e below s _ _ _ T47 (mkF m 135 #[.val (.int p1), .val (.long q2), .second, .val (.int p3), .val (.long q4), .second, .val (.int p5), .val (.int p6), .val (.ref b), .val (.int t), .val (.int f1), .val (.int f2), .val (.long mA), .second, .val (.long mB), .second, .val (.int j0), .val (.int k0), .val (.long (P.toInt64)), .second, .val (.long x), .second, .unset, .unset, .unset] [])
    have hq := own_jm hi hj0.1 hj0.2
    refine OE.iload X47 hx hby at_135 rfl ?_
    refine OE.of (X47.ldc2Long hx hown47 (mvT hZ47 (hw _ (List.mem_of_getElem? (i := 76) rfl))) (g := (mkF m 137 #[.val (.int p1), .val (.long q2), .second, .val (.int p3), .val (.long q4), .second, .val (.int p5), .val (.int p6), .val (.ref b), .val (.int t), .val (.int f1), .val (.int f2), .val (.long mA), .second, .val (.long mB), .second, .val (.int j0), .val (.int k0), .val (.long (P.toInt64)), .second, .val (.long x), .second, .unset, .unset, .unset] [(.int j0)])) rfl (hb hby at_137)) ?_
    show OE _ p e below s _ _ _ T47 (mkF m 140 #[.val (.int p1), .val (.long q2), .second, .val (.int p3), .val (.long q4), .second, .val (.int p5), .val (.int p6), .val (.ref b), .val (.int t), .val (.int f1), .val (.int f2), .val (.long mA), .second, .val (.long mB), .second, .val (.int j0), .val (.int k0), .val (.long (P.toInt64)), .second, .val (.long x), .second, .unset, .unset, .unset] [(.long (8 : Int64)), (.int j0)])
    refine OE.lload X47 hx hby at_140 rfl ?_
    refine OE.lsub X47 hx hby at_142 ?_
    refine OE.l2i X47 hx hby at_143 ?_
    obtain ⟨_, _, ⟨T48, L48, k48, n48⟩, -, X48, ⟨Lc48, hQ48, l48, y48, z48⟩, st48⟩ := Jvm.LawKit.callS X47 hx (y := (⟨"java/lang/Math", "min", "(II)I"⟩ : MethodName)) hown47 (mvT hZ47 (hw _ (List.mem_of_getElem? (i := 77) rfl))) (mvT hZ47 (hw _ (List.mem_of_getElem? (i := 78) rfl))) (mvT hZ47 (hw _ (List.mem_of_getElem? (i := 74) rfl))) (mvT hZ47 (hw _ (List.mem_of_getElem? (i := 79) rfl))) (by decide) (backOf (W := 0) (own_rm11 l Z a0 hw [] j0 (((8 : Int64) - (P.toInt64)).toInt32) H47 n0 z47 ) hZ47 (hw _ (List.mem_of_getElem? (i := 79) rfl)) (hw _ (List.mem_of_getElem? (i := 74) rfl)) (by decide) (by decide)) (g := (mkF m 144 #[.val (.int p1), .val (.long q2), .second, .val (.int p3), .val (.long q4), .second, .val (.int p5), .val (.int p6), .val (.ref b), .val (.int t), .val (.int f1), .val (.int f2), .val (.long mA), .second, .val (.long mB), .second, .val (.int j0), .val (.int k0), .val (.long (P.toInt64)), .second, .val (.long x), .second, .unset, .unset, .unset] [(.int (((8 : Int64) - (P.toInt64)).toInt32)), (.int j0)])) rfl (by rw [hml]; rfl) (argsL := [(.int j0), (.int (((8 : Int64) - (P.toInt64)).toInt32))]) (rest := []) (lenOf own_pd4 rfl) rfl (by show 2 * 0 + _ ≤ _; exact Nat.le_of_eq rfl) (hb hby at_144) (fun _ _ => ⟨rfl, e47, (Nat.le_trans (Nat.add_le_add_right hcl47 0) (by decide)), (Nat.le_trans (Nat.add_le_add_right hsl47 0) (by decide))⟩)
    dsimp only [Pt.U, Pt.locs, Pt.cells, Pt.slots] at X48 l48 y48 z48 st48 hQ48
    subst l48 y48 z48
    obtain ⟨rfl, Nq48, eq48⟩ := hQ48
    refine OE.of (fun _ k => st48 _ k) ?_
    have N48 := Fr.app N47 Nq48
    show OE _ p e below s _ _ _ T48 (mkF m 147 #[.val (.int p1), .val (.long q2), .second, .val (.int p3), .val (.long q4), .second, .val (.int p5), .val (.int p6), .val (.ref b), .val (.int t), .val (.int f1), .val (.int f2), .val (.long mA), .second, .val (.long mB), .second, .val (.int j0), .val (.int k0), .val (.long (P.toInt64)), .second, .val (.long x), .second, .unset, .unset, .unset] [(.int (if (((8 : Int64) - (P.toInt64)).toInt32) < j0 then (((8 : Int64) - (P.toInt64)).toInt32) else j0))])
    obtain ⟨j1, e_j1⟩ : ∃ z, z = (if (((8 : Int64) - (P.toInt64)).toInt32) < j0 then (((8 : Int64) - (P.toInt64)).toInt32) else j0) := ⟨_, rfl⟩
    rw [← e_j1]
    rw [← e_j1] at hq
    show OE _ p e below s _ _ _ T48 (mkF m 147 #[.val (.int p1), .val (.long q2), .second, .val (.int p3), .val (.long q4), .second, .val (.int p5), .val (.int p6), .val (.ref b), .val (.int t), .val (.int f1), .val (.int f2), .val (.long mA), .second, .val (.long mB), .second, .val (.int j0), .val (.int k0), .val (.long (P.toInt64)), .second, .val (.long x), .second, .unset, .unset, .unset] [(.int j1)])
    refine OE.istore X48 hx hby at_147 (l' := #[.val (.int p1), .val (.long q2), .second, .val (.int p3), .val (.long q4), .second, .val (.int p5), .val (.int p6), .val (.ref b), .val (.int t), .val (.int f1), .val (.int f2), .val (.long mA), .second, .val (.long mB), .second, .val (.int j0), .val (.int k0), .val (.long (P.toInt64)), .second, .val (.long x), .second, .val (.int j1), .unset, .unset]) rfl ?_
    refine OE.lload X48 hx hby at_149 rfl ?_
    refine OE.of (X48.ldc2Long hx hown47 (mvT hZ47 (hw _ (List.mem_of_getElem? (i := 38) rfl))) (g := (mkF m 151 #[.val (.int p1), .val (.long q2), .second, .val (.int p3), .val (.long q4), .second, .val (.int p5), .val (.int p6), .val (.ref b), .val (.int t), .val (.int f1), .val (.int f2), .val (.long mA), .second, .val (.long mB), .second, .val (.int j0), .val (.int k0), .val (.long (P.toInt64)), .second, .val (.long x), .second, .val (.int j1), .unset, .unset] [(.long x)])) rfl (hb hby at_151)) ?_
    show OE _ p e below s _ _ _ T48 (mkF m 154 #[.val (.int p1), .val (.long q2), .second, .val (.int p3), .val (.long q4), .second, .val (.int p5), .val (.int p6), .val (.ref b), .val (.int t), .val (.int f1), .val (.int f2), .val (.long mA), .second, .val (.long mB), .second, .val (.int j0), .val (.int k0), .val (.long (P.toInt64)), .second, .val (.long x), .second, .val (.int j1), .unset, .unset] [(.long (9223372036854775807 : Int64)), (.long x)])
    refine OE.lcmp X48 hx hby at_154 ?_
    by_cases hc155 : (lcmpW x (9223372036854775807 : Int64)) = (0 : Int32)
    · skip
      refine OE.ifYes X48 hx hby (pc' := 169) at_155 (teq hc155).1 (h := ?_)
      exact cut169 b P E Lm x f1 f2 j1 vm47 kS47 _ _ _ _ _ X48 eq48 N48 (Nat.le_trans (Nat.add_le_add_right hcl47 0) (by decide)) (Nat.le_trans (Nat.add_le_add_right hsl47 0) (by decide)) z47 K47 hS47 hkS47 hZ47 hown47 tE tP tEn tL tS tF tC g_47_b sz_47_b hi (own_jn hq.1 hq.2 hc155)
    · skip
      refine OE.ifNo X48 hx hby at_155 (feq hc155).1 ?_
      refine OE.iload X48 hx hby at_158 rfl ?_
      refine OE.i2l X48 hx hby at_160 ?_
      refine OE.lload X48 hx hby at_161 rfl ?_
      obtain ⟨_, _, ⟨T49, L49, k49, n49⟩, -, X49, ⟨Lc49, hQ49, l49, y49, z49⟩, st49⟩ := Jvm.LawKit.callS X48 hx (y := (⟨"java/lang/Math", "min", "(JJ)J"⟩ : MethodName)) hown47 (mvT hZ47 (hw _ (List.mem_of_getElem? (i := 80) rfl))) (mvT hZ47 (hw _ (List.mem_of_getElem? (i := 73) rfl))) (mvT hZ47 (hw _ (List.mem_of_getElem? (i := 74) rfl))) (mvT hZ47 (hw _ (List.mem_of_getElem? (i := 75) rfl))) (by decide) (backOf (W := 0) (own_rm10 l Z a0 hw [] (j1.toInt64) x H47 n0 z47 ) hZ47 (hw _ (List.mem_of_getElem? (i := 75) rfl)) (hw _ (List.mem_of_getElem? (i := 74) rfl)) (by decide) (by decide)) (g := (mkF m 163 #[.val (.int p1), .val (.long q2), .second, .val (.int p3), .val (.long q4), .second, .val (.int p5), .val (.int p6), .val (.ref b), .val (.int t), .val (.int f1), .val (.int f2), .val (.long mA), .second, .val (.long mB), .second, .val (.int j0), .val (.int k0), .val (.long (P.toInt64)), .second, .val (.long x), .second, .val (.int j1), .unset, .unset] [(.long x), (.long (j1.toInt64))])) rfl (by rw [hml]; rfl) (argsL := [(.long (j1.toInt64)), (.long x)]) (rest := []) (lenOf own_pd5 rfl) rfl (by show 2 * 0 + _ ≤ _; exact Nat.le_of_eq rfl) (hb hby at_163) (fun _ _ => ⟨rfl, eq48, (Nat.le_trans (Nat.add_le_add_right (Nat.add_le_add_right hcl47 0) 0) (by decide)), (Nat.le_trans (Nat.add_le_add_right (Nat.add_le_add_right hsl47 0) 0) (by decide))⟩)
      dsimp only [Pt.U, Pt.locs, Pt.cells, Pt.slots] at X49 l49 y49 z49 st49 hQ49
      subst l49 y49 z49
      obtain ⟨rfl, Nq49, eq49⟩ := hQ49
      refine OE.of (fun _ k => st49 _ k) ?_
      have N49 := Fr.app N48 Nq49
      show OE _ p e below s _ _ _ T49 (mkF m 166 #[.val (.int p1), .val (.long q2), .second, .val (.int p3), .val (.long q4), .second, .val (.int p5), .val (.int p6), .val (.ref b), .val (.int t), .val (.int f1), .val (.int f2), .val (.long mA), .second, .val (.long mB), .second, .val (.int j0), .val (.int k0), .val (.long (P.toInt64)), .second, .val (.long x), .second, .val (.int j1), .unset, .unset] [(.long (if (0 : Int32) < (lcmpW (j1.toInt64) x) then x else (j1.toInt64)))])
      refine OE.l2i X49 hx hby at_166 ?_
      refine OE.istore X49 hx hby at_167 (l' := #[.val (.int p1), .val (.long q2), .second, .val (.int p3), .val (.long q4), .second, .val (.int p5), .val (.int p6), .val (.ref b), .val (.int t), .val (.int f1), .val (.int f2), .val (.long mA), .second, .val (.long mB), .second, .val (.int j0), .val (.int k0), .val (.long (P.toInt64)), .second, .val (.long x), .second, .val (.int ((if (0 : Int32) < (lcmpW (j1.toInt64) x) then x else (j1.toInt64)).toInt32)), .unset, .unset]) rfl ?_
      exact cut169 b P E Lm x f1 f2 ((if (0 : Int32) < (lcmpW (j1.toInt64) x) then x else (j1.toInt64)).toInt32) vm47 kS47 _ _ _ _ _ X49 eq49 N49 (Nat.le_trans (Nat.add_le_add_right (Nat.add_le_add_right hcl47 0) 0) (by decide)) (Nat.le_trans (Nat.add_le_add_right (Nat.add_le_add_right hsl47 0) 0) (by decide)) z47 K47 hS47 hkS47 hZ47 hown47 tE tP tEn tL tS tF tC g_47_b sz_47_b hi (own_jx hi hq.1 hq.2 hc155)
  have cut101 : ∀ (b : Addr) (P : Int32) (E : Int64) (Lm : Int32) (x : Int64) (f1 : Int32) (f2 : Int32) (vm50 : Vm) (kS50 : Nat) (T50 : State) (H50 : Heap) (locs50 : List Loc) (cells50 : Nat) (slots50 : Nat), Stand p l e room_1 (s.setVm vm50) m #[(.int p1), (.long q2), (.int p3), (.long q4), (.int p5), (.int p6)] below meth c T50 locs50 cells50 slots50 → T50.heap = H50 → Fr n0 locs50 → cells50 ≤ 8 → slots50 ≤ 100 → n0 ≤ H50.size → Keep h0 H50 [] → s.Since vm50 kS50 → kS50 ≤ H50.size → Z.Warmed39 (s.setVm vm50).vm → (s.setVm vm50).vm.findClass "com/example/bytewright/bytewright/io/InputGetMaxBytesPinLaw" = some m.cls → Exa Z H50 b "com/example/bytewright/bytewright/io/Input" → Fld Z H50 b "com/example/bytewright/bytewright/io/Input" "position" "I" (.int P) → Fld Z H50 b "com/example/bytewright/bytewright/io/Input" "end" "J" (.long E) → Fld Z H50 b "com/example/bytewright/bytewright/io/Input" "limit" "I" (.int Lm) → Fld Z H50 b "com/example/bytewright/bytewright/io/Input" "source" "Lcom/example/bytewright/bytewright/io/Input$Source;" .null → Fld Z H50 b "com/example/bytewright/bytewright/io/Input" "filled" "I" (.int (8 : Int32)) → Fld Z H50 b "com/example/bytewright/bytewright/io/Input" "consumed" "J" (.long (0 : Int64)) → n0 ≤ b → h0.size ≤ b → own_inv P Lm E x → OE ReturnedEndW p e below s (own_Q0 Z p1 q2 p3 q4 p5 p6 h0 n0) room_1.cells room_1.slots T50 (mkF m 101 #[.val (.int p1), .val (.long q2), .second, .val (.int p3), .val (.long q4), .second, .val (.int p5), .val (.int p6), .val (.ref b), .val (.int t), .val (.int f1), .val (.int f2), .val (.long mA), .second, .val (.long mB), .second, .val (.int j0), .val (.int k0), .val (.long (P.toInt64)), .second, .val (.long x), .second, .unset, .unset, .unset] []) := by
    intro b P E Lm x f1 f2 vm50 kS50 T50 H50 locs50 cells50 slots50 X50 e50 N50 hcl50 hsl50 z50 K50 hS50 hkS50 hZ50 hown50 tE tP tEn tL tS tF tC g_50_b sz_50_b hi
    show OE _ p e below s _ _ _ T50 (mkF m 101 #[.val (.int p1), .val (.long q2), .second, .val (.int p3), .val (.long q4), .second, .val (.int p5), .val (.int p6), .val (.ref b), .val (.int t), .val (.int f1), .val (.int f2), .val (.long mA), .second, .val (.long mB), .second, .val (.int j0), .val (.int k0), .val (.long (P.toInt64)), .second, .val (.long x), .second, .unset, .unset, .unset] [])
    refine OE.iload X50 hx hby at_101 rfl ?_
    by_cases hc103 : f1 = (0 : Int32)
    · skip
      refine OE.ifYes X50 hx hby (pc' := 135) at_103 (teq hc103).1 (h := ?_)
      exact cut135 b P E Lm x f1 f2 vm50 kS50 _ _ _ _ _ X50 e50 N50 (Nat.le_trans hcl50 (by decide)) (Nat.le_trans hsl50 (by decide)) z50 K50 hS50 hkS50 hZ50 hown50 tE tP tEn tL tS tF tC g_50_b sz_50_b hi
    · skip
      refine OE.ifNo X50 hx hby at_103 (feq hc103).1 ?_
      refine OE.aload X50 hx hby at_106 rfl rfl ?_
      refine OE.lload X50 hx hby at_108 rfl ?_
      by_cases hsm : (0 : Int32) < (lcmpW mA ((9223372036854775807 : Int64) - ((0 : Int64) + (P.toInt64))))
      · skip
        obtain ⟨hi2, hge⟩ := own_set_hi (q := 0) hi hsm
        obtain ⟨cq51, kq51, qa51, qb51, qc51⟩ := isOf hZ50 e50 tE
        obtain ⟨_, _, ⟨T51, L51, k51, n51⟩, -, X51, ⟨Lc51, hQ51, l51, y51, z51⟩, st51⟩ := X50.virtualBack hx (y := (⟨"com/example/bytewright/bytewright/io/Input", "setMaxBytes", "(J)V"⟩ : MethodName)) (z := (⟨"com/example/bytewright/bytewright/io/Input", "setMaxBytes", "(J)V"⟩ : MethodName)) hown50 (mvT hZ50 (hw _ (List.mem_of_getElem? (i := 63) rfl))) (mvT hZ50 (hw _ (List.mem_of_getElem? (i := 64) rfl))) (notFace_of_selects (args := #[]) (mvT hZ50 (hw _ (List.mem_of_getElem? (i := 66) rfl)))) (mvT hZ50 (hw _ (List.mem_of_getElem? (i := 66) rfl))) (mvT hZ50 (hw _ (List.mem_of_getElem? (i := 65) rfl))) (by decide) (backOf (W := 0) (own_rm8_hi l Z a0 hw [] b mA P E Lm H50 n0 z50 tE tF tC tP tEn tL tS g_50_b (by rw [own_lt, own_j0]; omega) hsm) hZ50 (hw _ (List.mem_of_getElem? (i := 67) rfl)) (hw _ (List.mem_of_getElem? (i := 2) rfl)) (by decide) (by decide)) qa51 qc51 (g := (mkF m 110 #[.val (.int p1), .val (.long q2), .second, .val (.int p3), .val (.long q4), .second, .val (.int p5), .val (.int p6), .val (.ref b), .val (.int t), .val (.int f1), .val (.int f2), .val (.long mA), .second, .val (.long mB), .second, .val (.int j0), .val (.int k0), .val (.long (P.toInt64)), .second, .val (.long x), .second, .unset, .unset, .unset] [(.long mA), (.ref b)])) rfl (by rw [hml]; rfl) (Steps.refl _) (argsL := [(.long mA)]) (rest := []) (lenOf own_pd8 rfl) rfl (by show 2 * 0 + _ ≤ _; exact Nat.le_of_eq rfl) (hb hby at_110) (fun _ _ => ⟨rfl, e50, (Nat.le_trans (Nat.add_le_add_right hcl50 0) (by decide)), (Nat.le_trans (Nat.add_le_add_right hsl50 0) (by decide))⟩)
        dsimp only [Pt.U, Pt.locs, Pt.cells, Pt.slots] at X51 l51 y51 z51 st51 hQ51
        subst l51 y51 z51
        obtain ⟨rfl, Nq51, K51, q51_0, q51_1, q51_2, q51_3, q51_4, q51_5, q51_6⟩ := hQ51
        refine OE.of (fun _ k => st51.trans k) ?_
        have N51 := Fr.app N50 Nq51
        show OE _ p e below s _ _ _ T51 (mkF m 113 #[.val (.int p1), .val (.long q2), .second, .val (.int p3), .val (.long q4), .second, .val (.int p5), .val (.int p6), .val (.ref b), .val (.int t), .val (.int f1), .val (.int f2), .val (.long mA), .second, .val (.long mB), .second, .val (.int j0), .val (.int k0), .val (.long (P.toInt64)), .second, .val (.long x), .second, .unset, .unset, .unset] [])
        refine OE.lload X51 hx hby at_113 rfl ?_
        refine OE.of (X51.ldc2Long hx hown50 (mvT hZ50 (hw _ (List.mem_of_getElem? (i := 38) rfl))) (g := (mkF m 115 #[.val (.int p1), .val (.long q2), .second, .val (.int p3), .val (.long q4), .second, .val (.int p5), .val (.int p6), .val (.ref b), .val (.int t), .val (.int f1), .val (.int f2), .val (.long mA), .second, .val (.long mB), .second, .val (.int j0), .val (.int k0), .val (.long (P.toInt64)), .second, .val (.long x), .second, .unset, .unset, .unset] [(.long mA)])) rfl (hb hby at_115)) ?_
        show OE _ p e below s _ _ _ T51 (mkF m 118 #[.val (.int p1), .val (.long q2), .second, .val (.int p3), .val (.long q4), .second, .val (.int p5), .val (.int p6), .val (.ref b), .val (.int t), .val (.int f1), .val (.int f2), .val (.long mA), .second, .val (.long mB), .second, .val (.int j0), .val (.int k0), .val (.long (P.toInt64)), .second, .val (.long x), .second, .unset, .unset, .unset] [(.long (9223372036854775807 : Int64)), (.long mA)])
        refine OE.lload X51 hx hby at_118 rfl ?_
        refine OE.lsub X51 hx hby at_120 ?_
        refine OE.lcmp X51 hx hby at_121 ?_
        refine OE.ifNo X51 hx hby at_122 (flt (hge : ¬ ((lcmpW mA ((9223372036854775807 : Int64) - (P.toInt64))) < (0 : Int32)))).1 ?_
        refine OE.of (X51.ldc2Long hx hown50 (mvT hZ50 (hw _ (List.mem_of_getElem? (i := 38) rfl))) (g := (mkF m 125 #[.val (.int p1), .val (.long q2), .second, .val (.int p3), .val (.long q4), .second, .val (.int p5), .val (.int p6), .val (.ref b), .val (.int t), .val (.int f1), .val (.int f2), .val (.long mA), .second, .val (.long mB), .second, .val (.int j0), .val (.int k0), .val (.long (P.toInt64)), .second, .val (.long x), .second, .unset, .unset, .unset] [])) rfl (hb hby at_125)) ?_
        show OE _ p e below s _ _ _ T51 (mkF m 128 #[.val (.int p1), .val (.long q2), .second, .val (.int p3), .val (.long q4), .second, .val (.int p5), .val (.int p6), .val (.ref b), .val (.int t), .val (.int f1), .val (.int f2), .val (.long mA), .second, .val (.long mB), .second, .val (.int j0), .val (.int k0), .val (.long (P.toInt64)), .second, .val (.long x), .second, .unset, .unset, .unset] [(.long (9223372036854775807 : Int64))])
        refine OE.goto X51 hx hby (pc' := 133) at_128 (h := ?_)
        refine OE.lstore X51 hx hby at_133 (l' := #[.val (.int p1), .val (.long q2), .second, .val (.int p3), .val (.long q4), .second, .val (.int p5), .val (.int p6), .val (.ref b), .val (.int t), .val (.int f1), .val (.int f2), .val (.long mA), .second, .val (.long mB), .second, .val (.int j0), .val (.int k0), .val (.long (P.toInt64)), .second, .val (.long (9223372036854775807 : Int64)), .second, .unset, .unset, .unset]) rfl ?_
        have z52 : n0 ≤ T51.heap.size := (Nat.le_trans z50 K51.1)
        have K53 : Keep h0 T51.heap [] := (Keep.trans K50 K51 (allS (Or.inr sz_50_b) all0))
        have zs54 : kS50 ≤ T51.heap.size := (Nat.le_trans hkS50 K51.1)
        exact cut135 b P (9223372036854775807 : Int64) ((if (0 : Int32) < (lcmpW ((8 : Int32).toInt64) ((9223372036854775807 : Int64) - (0 : Int64))) then ((9223372036854775807 : Int64) - (0 : Int64)) else ((8 : Int32).toInt64)).toInt32) (9223372036854775807 : Int64) f1 f2 vm50 kS50 _ _ _ _ _ X51 rfl N51 (Nat.le_trans (Nat.add_le_add_right hcl50 0) (by decide)) (Nat.le_trans (Nat.add_le_add_right hsl50 0) (by decide)) z52 K53 hS50 zs54 hZ50 hown50 q51_0 q51_1 q51_2 q51_3 q51_5 q51_4 q51_6 g_50_b sz_50_b hi2
      · skip
        have hi2 := own_set_lo hi hA hsm
        obtain ⟨cq55, kq55, qa55, qb55, qc55⟩ := isOf hZ50 e50 tE
        obtain ⟨_, _, ⟨T55, L55, k55, n55⟩, -, X55, ⟨Lc55, hQ55, l55, y55, z55⟩, st55⟩ := X50.virtualBack hx (y := (⟨"com/example/bytewright/bytewright/io/Input", "setMaxBytes", "(J)V"⟩ : MethodName)) (z := (⟨"com/example/bytewright/bytewright/io/Input", "setMaxBytes", "(J)V"⟩ : MethodName)) hown50 (mvT hZ50 (hw _ (List.mem_of_getElem? (i := 63) rfl))) (mvT hZ50 (hw _ (List.mem_of_getElem? (i := 64) rfl))) (notFace_of_selects (args := #[]) (mvT hZ50 (hw _ (List.mem_of_getElem? (i := 66) rfl)))) (mvT hZ50 (hw _ (List.mem_of_getElem? (i := 66) rfl))) (mvT hZ50 (hw _ (List.mem_of_getElem? (i := 65) rfl))) (by decide) (backOf (W := 0) (own_rm8_lo l Z a0 hw [] b mA P E Lm H50 n0 z50 tE tF tC tP tEn tL tS g_50_b (by rw [own_lt, own_j0]; omega) hsm) hZ50 (hw _ (List.mem_of_getElem? (i := 67) rfl)) (hw _ (List.mem_of_getElem? (i := 2) rfl)) (by decide) (by decide)) qa55 qc55 (g := (mkF m 110 #[.val (.int p1), .val (.long q2), .second, .val (.int p3), .val (.long q4), .second, .val (.int p5), .val (.int p6), .val (.ref b), .val (.int t), .val (.int f1), .val (.int f2), .val (.long mA), .second, .val (.long mB), .second, .val (.int j0), .val (.int k0), .val (.long (P.toInt64)), .second, .val (.long x), .second, .unset, .unset, .unset] [(.long mA), (.ref b)])) rfl (by rw [hml]; rfl) (Steps.refl _) (argsL := [(.long mA)]) (rest := []) (lenOf own_pd8 rfl) rfl (by show 2 * 0 + _ ≤ _; exact Nat.le_of_eq rfl) (hb hby at_110) (fun _ _ => ⟨rfl, e50, (Nat.le_trans (Nat.add_le_add_right hcl50 0) (by decide)), (Nat.le_trans (Nat.add_le_add_right hsl50 0) (by decide))⟩)
        dsimp only [Pt.U, Pt.locs, Pt.cells, Pt.slots] at X55 l55 y55 z55 st55 hQ55
        subst l55 y55 z55
        obtain ⟨rfl, Nq55, K55, q55_0, q55_1, q55_2, q55_3, q55_4, q55_5, q55_6⟩ := hQ55
        refine OE.of (fun _ k => st55.trans k) ?_
        have N55 := Fr.app N50 Nq55
        show OE _ p e below s _ _ _ T55 (mkF m 113 #[.val (.int p1), .val (.long q2), .second, .val (.int p3), .val (.long q4), .second, .val (.int p5), .val (.int p6), .val (.ref b), .val (.int t), .val (.int f1), .val (.int f2), .val (.long mA), .second, .val (.long mB), .second, .val (.int j0), .val (.int k0), .val (.long (P.toInt64)), .second, .val (.long x), .second, .unset, .unset, .unset] [])
        refine OE.lload X55 hx hby at_113 rfl ?_
        refine OE.of (X55.ldc2Long hx hown50 (mvT hZ50 (hw _ (List.mem_of_getElem? (i := 38) rfl))) (g := (mkF m 115 #[.val (.int p1), .val (.long q2), .second, .val (.int p3), .val (.long q4), .second, .val (.int p5), .val (.int p6), .val (.ref b), .val (.int t), .val (.int f1), .val (.int f2), .val (.long mA), .second, .val (.long mB), .second, .val (.int j0), .val (.int k0), .val (.long (P.toInt64)), .second, .val (.long x), .second, .unset, .unset, .unset] [(.long mA)])) rfl (hb hby at_115)) ?_
        show OE _ p e below s _ _ _ T55 (mkF m 118 #[.val (.int p1), .val (.long q2), .second, .val (.int p3), .val (.long q4), .second, .val (.int p5), .val (.int p6), .val (.ref b), .val (.int t), .val (.int f1), .val (.int f2), .val (.long mA), .second, .val (.long mB), .second, .val (.int j0), .val (.int k0), .val (.long (P.toInt64)), .second, .val (.long x), .second, .unset, .unset, .unset] [(.long (9223372036854775807 : Int64)), (.long mA)])
        refine OE.lload X55 hx hby at_118 rfl ?_
        refine OE.lsub X55 hx hby at_120 ?_
        refine OE.lcmp X55 hx hby at_121 ?_
        by_cases hc122 : (lcmpW mA ((9223372036854775807 : Int64) - (P.toInt64))) < (0 : Int32)
        · skip
          refine OE.ifYes X55 hx hby (pc' := 131) at_122 (tlt hc122).1 (h := ?_)
          refine OE.lload X55 hx hby at_131 rfl ?_
          refine OE.lstore X55 hx hby at_133 (l' := #[.val (.int p1), .val (.long q2), .second, .val (.int p3), .val (.long q4), .second, .val (.int p5), .val (.int p6), .val (.ref b), .val (.int t), .val (.int f1), .val (.int f2), .val (.long mA), .second, .val (.long mB), .second, .val (.int j0), .val (.int k0), .val (.long (P.toInt64)), .second, .val (.long mA), .second, .unset, .unset, .unset]) rfl ?_
          have z56 : n0 ≤ T55.heap.size := (Nat.le_trans z50 K55.1)
          have K57 : Keep h0 T55.heap [] := (Keep.trans K50 K55 (allS (Or.inr sz_50_b) all0))
          have zs58 : kS50 ≤ T55.heap.size := (Nat.le_trans hkS50 K55.1)
          exact cut135 b P (((0 : Int64) + (P.toInt64)) + mA) ((if (0 : Int32) < (lcmpW ((8 : Int32).toInt64) ((((0 : Int64) + (P.toInt64)) + mA) - (0 : Int64))) then ((((0 : Int64) + (P.toInt64)) + mA) - (0 : Int64)) else ((8 : Int32).toInt64)).toInt32) mA f1 f2 vm50 kS50 _ _ _ _ _ X55 rfl N55 (Nat.le_trans (Nat.add_le_add_right hcl50 0) (by decide)) (Nat.le_trans (Nat.add_le_add_right hsl50 0) (by decide)) z56 K57 hS50 zs58 hZ50 hown50 q55_0 q55_1 q55_2 q55_3 q55_5 q55_4 q55_6 g_50_b sz_50_b (by rw [if_pos hc122] at hi2; exact hi2)
        · skip
          refine OE.ifNo X55 hx hby at_122 (flt hc122).1 ?_
          refine OE.of (X55.ldc2Long hx hown50 (mvT hZ50 (hw _ (List.mem_of_getElem? (i := 38) rfl))) (g := (mkF m 125 #[.val (.int p1), .val (.long q2), .second, .val (.int p3), .val (.long q4), .second, .val (.int p5), .val (.int p6), .val (.ref b), .val (.int t), .val (.int f1), .val (.int f2), .val (.long mA), .second, .val (.long mB), .second, .val (.int j0), .val (.int k0), .val (.long (P.toInt64)), .second, .val (.long x), .second, .unset, .unset, .unset] [])) rfl (hb hby at_125)) ?_
          show OE _ p e below s _ _ _ T55 (mkF m 128 #[.val (.int p1), .val (.long q2), .second, .val (.int p3), .val (.long q4), .second, .val (.int p5), .val (.int p6), .val (.ref b), .val (.int t), .val (.int f1), .val (.int f2), .val (.long mA), .second, .val (.long mB), .second, .val (.int j0), .val (.int k0), .val (.long (P.toInt64)), .second, .val (.long x), .second, .unset, .unset, .unset] [(.long (9223372036854775807 : Int64))])
          refine OE.goto X55 hx hby (pc' := 133) at_128 (h := ?_)
          refine OE.lstore X55 hx hby at_133 (l' := #[.val (.int p1), .val (.long q2), .second, .val (.int p3), .val (.long q4), .second, .val (.int p5), .val (.int p6), .val (.ref b), .val (.int t), .val (.int f1), .val (.int f2), .val (.long mA), .second, .val (.long mB), .second, .val (.int j0), .val (.int k0), .val (.long (P.toInt64)), .second, .val (.long (9223372036854775807 : Int64)), .second, .unset, .unset, .unset]) rfl ?_
          have z59 : n0 ≤ T55.heap.size := (Nat.le_trans z50 K55.1)
          have K60 : Keep h0 T55.heap [] := (Keep.trans K50 K55 (allS (Or.inr sz_50_b) all0))
          have zs61 : kS50 ≤ T55.heap.size := (Nat.le_trans hkS50 K55.1)
          exact cut135 b P (((0 : Int64) + (P.toInt64)) + mA) ((if (0 : Int32) < (lcmpW ((8 : Int32).toInt64) ((((0 : Int64) + (P.toInt64)) + mA) - (0 : Int64))) then ((((0 : Int64) + (P.toInt64)) + mA) - (0 : Int64)) else ((8 : Int32).toInt64)).toInt32) (9223372036854775807 : Int64) f1 f2 vm50 kS50 _ _ _ _ _ X55 rfl N55 (Nat.le_trans (Nat.add_le_add_right hcl50 0) (by decide)) (Nat.le_trans (Nat.add_le_add_right hsl50 0) (by decide)) z59 K60 hS50 zs61 hZ50 hown50 q55_0 q55_1 q55_2 q55_3 q55_5 q55_4 q55_6 g_50_b sz_50_b (by rw [if_neg hc122] at hi2; exact hi2)
  refine OE.iload Y15 hx hby at_22 rfl ?_
  refine OE.iconst Y15 hx hby at_24 (1 : Int32) rfl ?_
  refine OE.iand Y15 hx hby at_25 ?_
  by_cases hc26 : (p6 &&& (1 : Int32)) = (0 : Int32)
  · skip
    refine OE.ifYes Y15 hx hby (pc' := 33) at_26 (teq hc26).1 (h := ?_)
    refine OE.iconst Y15 hx hby at_33 (0 : Int32) rfl ?_
    refine OE.istore Y15 hx hby at_34 (l' := #[.val (.int p1), .val (.long q2), .second, .val (.int p3), .val (.long q4), .second, .val (.int p5), .val (.int p6), .val (.ref b1), .val (.int t), .val (.int (0 : Int32)), .unset, .unset, .unset, .unset, .unset, .unset, .unset, .unset, .unset, .unset, .unset, .unset, .unset, .unset]) rfl ?_
    refine OE.iload Y15 hx hby at_36 rfl ?_
    refine OE.iconst Y15 hx hby at_38 (2 : Int32) rfl ?_
    refine OE.iand Y15 hx hby at_39 ?_
    by_cases hc40 : (p6 &&& (2 : Int32)) = (0 : Int32)
    · skip
      refine OE.ifYes Y15 hx hby (pc' := 47) at_40 (teq hc40).1 (h := ?_)
      refine OE.iconst Y15 hx hby at_47 (0 : Int32) rfl ?_
      refine OE.istore Y15 hx hby at_48 (l' := #[.val (.int p1), .val (.long q2), .second, .val (.int p3), .val (.long q4), .second, .val (.int p5), .val (.int p6), .val (.ref b1), .val (.int t), .val (.int (0 : Int32)), .val (.int (0 : Int32)), .unset, .unset, .unset, .unset, .unset, .unset, .unset, .unset, .unset, .unset, .unset, .unset, .unset]) rfl ?_
      refine OE.lloadN Y15 hx hby at_50 rfl ?_
      refine OE.of (Y15.ldc2Long hx hown15 (mvT hZ15 (hw _ (List.mem_of_getElem? (i := 38) rfl))) (g := (mkF m 51 #[.val (.int p1), .val (.long q2), .second, .val (.int p3), .val (.long q4), .second, .val (.int p5), .val (.int p6), .val (.ref b1), .val (.int t), .val (.int (0 : Int32)), .val (.int (0 : Int32)), .unset, .unset, .unset, .unset, .unset, .unset, .unset, .unset, .unset, .unset, .unset, .unset, .unset] [(.long q2)])) rfl (hb hby at_51)) ?_
      show OE _ p e below s _ _ _ T15 (mkF m 54 #[.val (.int p1), .val (.long q2), .second, .val (.int p3), .val (.long q4), .second, .val (.int p5), .val (.int p6), .val (.ref b1), .val (.int t), .val (.int (0 : Int32)), .val (.int (0 : Int32)), .unset, .unset, .unset, .unset, .unset, .unset, .unset, .unset, .unset, .unset, .unset, .unset, .unset] [(.long (9223372036854775807 : Int64)), (.long q2)])
      refine OE.land Y15 hx hby at_54 ?_
      rw [← e_mA]
      show OE _ p e below s _ _ _ T15 (mkF m 55 #[.val (.int p1), .val (.long q2), .second, .val (.int p3), .val (.long q4), .second, .val (.int p5), .val (.int p6), .val (.ref b1), .val (.int t), .val (.int (0 : Int32)), .val (.int (0 : Int32)), .unset, .unset, .unset, .unset, .unset, .unset, .unset, .unset, .unset, .unset, .unset, .unset, .unset] [(.long mA)])
      refine OE.lstore Y15 hx hby at_55 (l' := #[.val (.int p1), .val (.long q2), .second, .val (.int p3), .val (.long q4), .second, .val (.int p5), .val (.int p6), .val (.ref b1), .val (.int t), .val (.int (0 : Int32)), .val (.int (0 : Int32)), .val (.long mA), .second, .unset, .unset, .unset, .unset, .unset, .unset, .unset, .unset, .unset, .unset, .unset]) rfl ?_
      refine OE.lload Y15 hx hby at_57 rfl ?_
      refine OE.of (Y15.ldc2Long hx hown15 (mvT hZ15 (hw _ (List.mem_of_getElem? (i := 38) rfl))) (g := (mkF m 59 #[.val (.int p1), .val (.long q2), .second, .val (.int p3), .val (.long q4), .second, .val (.int p5), .val (.int p6), .val (.ref b1), .val (.int t), .val (.int (0 : Int32)), .val (.int (0 : Int32)), .val (.long mA), .second, .unset, .unset, .unset, .unset, .unset, .unset, .unset, .unset, .unset, .unset, .unset] [(.long q4)])) rfl (hb hby at_59)) ?_
      show OE _ p e below s _ _ _ T15 (mkF m 62 #[.val (.int p1), .val (.long q2), .second, .val (.int p3), .val (.long q4), .second, .val (.int p5), .val (.int p6), .val (.ref b1), .val (.int t), .val (.int (0 : Int32)), .val (.int (0 : Int32)), .val (.long mA), .second, .unset, .unset, .unset, .unset, .unset, .unset, .unset, .unset, .unset, .unset, .unset] [(.long (9223372036854775807 : Int64)), (.long q4)])
      refine OE.land Y15 hx hby at_62 ?_
      rw [← e_mB]
      show OE _ p e below s _ _ _ T15 (mkF m 63 #[.val (.int p1), .val (.long q2), .second, .val (.int p3), .val (.long q4), .second, .val (.int p5), .val (.int p6), .val (.ref b1), .val (.int t), .val (.int (0 : Int32)), .val (.int (0 : Int32)), .val (.long mA), .second, .unset, .unset, .unset, .unset, .unset, .unset, .unset, .unset, .unset, .unset, .unset] [(.long mB)])
      refine OE.lstore Y15 hx hby at_63 (l' := #[.val (.int p1), .val (.long q2), .second, .val (.int p3), .val (.long q4), .second, .val (.int p5), .val (.int p6), .val (.ref b1), .val (.int t), .val (.int (0 : Int32)), .val (.int (0 : Int32)), .val (.long mA), .second, .val (.long mB), .second, .unset, .unset, .unset, .unset, .unset, .unset, .unset, .unset, .unset]) rfl ?_
      refine OE.iloadN Y15 hx hby at_65 rfl ?_
      refine OE.of (Y15.ldcInt hx hown15 (mvT hZ15 (hw _ (List.mem_of_getElem? (i := 37) rfl))) (g := (mkF m 66 #[.val (.int p1), .val (.long q2), .second, .val (.int p3), .val (.long q4), .second, .val (.int p5), .val (.int p6), .val (.ref b1), .val (.int t), .val (.int (0 : Int32)), .val (.int (0 : Int32)), .val (.long mA), .second, .val (.long mB), .second, .unset, .unset, .unset, .unset, .unset, .unset, .unset, .unset, .unset] [(.int p3)])) rfl (hb hby at_66)) ?_
      show OE _ p e below s _ _ _ T15 (mkF m 68 #[.val (.int p1), .val (.long q2), .second, .val (.int p3), .val (.long q4), .second, .val (.int p5), .val (.int p6), .val (.ref b1), .val (.int t), .val (.int (0 : Int32)), .val (.int (0 : Int32)), .val (.long mA), .second, .val (.long mB), .second, .unset, .unset, .unset, .unset, .unset, .unset, .unset, .unset, .unset] [(.int (2147483647 : Int32)), (.int p3)])
      refine OE.iand Y15 hx hby at_68 ?_
      refine OE.bipush Y15 hx hby at_69 (9 : Int32) rfl ?_
      refine OE.irem Y15 hx hby at_71 (by decide) ?_
      rw [← e_j0]
      show OE _ p e below s _ _ _ T15 (mkF m 72 #[.val (.int p1), .val (.long q2), .second, .val (.int p3), .val (.long q4), .second, .val (.int p5), .val (.int p6), .val (.ref b1), .val (.int t), .val (.int (0 : Int32)), .val (.int (0 : Int32)), .val (.long mA), .second, .val (.long mB), .second, .unset, .unset, .unset, .unset, .unset, .unset, .unset, .unset, .unset] [(.int j0)])
      refine OE.istore Y15 hx hby at_72 (l' := #[.val (.int p1), .val (.long q2), .second, .val (.int p3), .val (.long q4), .second, .val (.int p5), .val (.int p6), .val (.ref b1), .val (.int t), .val (.int (0 : Int32)), .val (.int (0 : Int32)), .val (.long mA), .second, .val (.long mB), .second, .val (.int j0), .unset, .unset, .unset, .unset, .unset, .unset, .unset, .unset]) rfl ?_
      refine OE.iload Y15 hx hby at_74 rfl ?_
      refine OE.of (Y15.ldcInt hx hown15 (mvT hZ15 (hw _ (List.mem_of_getElem? (i := 37) rfl))) (g := (mkF m 76 #[.val (.int p1), .val (.long q2), .second, .val (.int p3), .val (.long q4), .second, .val (.int p5), .val (.int p6), .val (.ref b1), .val (.int t), .val (.int (0 : Int32)), .val (.int (0 : Int32)), .val (.long mA), .second, .val (.long mB), .second, .val (.int j0), .unset, .unset, .unset, .unset, .unset, .unset, .unset, .unset] [(.int p5)])) rfl (hb hby at_76)) ?_
      show OE _ p e below s _ _ _ T15 (mkF m 78 #[.val (.int p1), .val (.long q2), .second, .val (.int p3), .val (.long q4), .second, .val (.int p5), .val (.int p6), .val (.ref b1), .val (.int t), .val (.int (0 : Int32)), .val (.int (0 : Int32)), .val (.long mA), .second, .val (.long mB), .second, .val (.int j0), .unset, .unset, .unset, .unset, .unset, .unset, .unset, .unset] [(.int (2147483647 : Int32)), (.int p5)])
      refine OE.iand Y15 hx hby at_78 ?_
      refine OE.bipush Y15 hx hby at_79 (9 : Int32) rfl ?_
      refine OE.irem Y15 hx hby at_81 (by decide) ?_
      rw [← e_k0]
      show OE _ p e below s _ _ _ T15 (mkF m 82 #[.val (.int p1), .val (.long q2), .second, .val (.int p3), .val (.long q4), .second, .val (.int p5), .val (.int p6), .val (.ref b1), .val (.int t), .val (.int (0 : Int32)), .val (.int (0 : Int32)), .val (.long mA), .second, .val (.long mB), .second, .val (.int j0), .unset, .unset, .unset, .unset, .unset, .unset, .unset, .unset] [(.int k0)])
      refine OE.istore Y15 hx hby at_82 (l' := #[.val (.int p1), .val (.long q2), .second, .val (.int p3), .val (.long q4), .second, .val (.int p5), .val (.int p6), .val (.ref b1), .val (.int t), .val (.int (0 : Int32)), .val (.int (0 : Int32)), .val (.long mA), .second, .val (.long mB), .second, .val (.int j0), .val (.int k0), .unset, .unset, .unset, .unset, .unset, .unset, .unset]) rfl ?_
      refine OE.aload Y15 hx hby at_84 rfl rfl ?_
      refine OE.iload Y15 hx hby at_86 rfl ?_
      have z62 : n0 ≤ T15.heap.size := (Nat.le_trans z14 K15.1)
      obtain ⟨cq63, kq63, qa63, qb63, qc63⟩ := isOf hZ15 rfl q15_0
      obtain ⟨_, _, ⟨T63, L63, k63, n63⟩, -, X63, hs63, hgr63, ⟨Lc63, hQ63, l63, y63, z63⟩, st63⟩ := Y15.virtualBackS hx (y := (⟨"com/example/bytewright/bytewright/io/Input", "skip", "(I)V"⟩ : MethodName)) (z := (⟨"com/example/bytewright/bytewright/io/Input", "skip", "(I)V"⟩ : MethodName)) hown15 (mvT hZ15 (hw _ (List.mem_of_getElem? (i := 39) rfl))) (mvT hZ15 (hw _ (List.mem_of_getElem? (i := 40) rfl))) (notFace_of_selects (args := #[]) (mvT hZ15 (hw _ (List.mem_of_getElem? (i := 42) rfl)))) (mvT hZ15 (hw _ (List.mem_of_getElem? (i := 42) rfl))) (mvT hZ15 (hw _ (List.mem_of_getElem? (i := 41) rfl))) (by decide) (backOfS (W := 0) (own_rm4 l Z a0 hw [] b1 t (0 : Int32) (9223372036854775807 : Int64) (8 : Int32) (9223372036854775807 : Int64) T15.heap n0 z62 q15_0 q15_2 q15_4 q15_6 q15_5 q15_1 q15_3 g_b1 (own_init ht.1 ht.2).1 (own_init ht.1 ht.2).2.1) hZ15 (hw _ (List.mem_of_getElem? (i := 43) rfl)) (hw _ (List.mem_of_getElem? (i := 2) rfl)) (by decide) (by decide)) qa63 qc63 (g := (mkF m 88 #[.val (.int p1), .val (.long q2), .second, .val (.int p3), .val (.long q4), .second, .val (.int p5), .val (.int p6), .val (.ref b1), .val (.int t), .val (.int (0 : Int32)), .val (.int (0 : Int32)), .val (.long mA), .second, .val (.long mB), .second, .val (.int j0), .val (.int k0), .unset, .unset, .unset, .unset, .unset, .unset, .unset] [(.int t), (.ref b1)])) rfl (by rw [hml]; rfl) (Steps.refl _) (argsL := [(.int t)]) (rest := []) (lenOf own_pd3 rfl) rfl (by show 2 * 0 + _ ≤ _; exact Nat.le_of_eq rfl) (hb hby at_88) (fun _ _ => ⟨rfl, rfl, (by decide : 4 + 4 ≤ _), (by decide : 40 + 44 ≤ _)⟩)
      dsimp only [Pt.U, Pt.locs, Pt.cells, Pt.slots] at X63 l63 y63 z63 st63 hQ63
      subst l63 y63 z63
      obtain ⟨Y63, hS63, hZ63, hown63⟩ := rebS (s := s) (vm0 := T15.vm) (vm1 := T63.vm) hS15 (Nat.le_refl _) X63 hs63 hgr63 hZ15 hown15
      obtain ⟨rfl, Nq63, K63, q63_0, q63_1, q63_2, q63_3, q63_4, q63_5, q63_6⟩ := hQ63
      refine OE.of (fun _ k => st63.trans k) ?_
      have N63 := Fr.app N15 Nq63
      show OE _ p e below s _ _ _ T63 (mkF m 91 #[.val (.int p1), .val (.long q2), .second, .val (.int p3), .val (.long q4), .second, .val (.int p5), .val (.int p6), .val (.ref b1), .val (.int t), .val (.int (0 : Int32)), .val (.int (0 : Int32)), .val (.long mA), .second, .val (.long mB), .second, .val (.int j0), .val (.int k0), .unset, .unset, .unset, .unset, .unset, .unset, .unset] [])
      refine OE.iload Y63 hx hby at_91 rfl ?_
      refine OE.i2l Y63 hx hby at_93 ?_
      rw [((by simp) : (t.toInt64) = (((0 : Int32) + t).toInt64))]
      show OE _ p e below s _ _ _ T63 (mkF m 94 #[.val (.int p1), .val (.long q2), .second, .val (.int p3), .val (.long q4), .second, .val (.int p5), .val (.int p6), .val (.ref b1), .val (.int t), .val (.int (0 : Int32)), .val (.int (0 : Int32)), .val (.long mA), .second, .val (.long mB), .second, .val (.int j0), .val (.int k0), .unset, .unset, .unset, .unset, .unset, .unset, .unset] [(.long (((0 : Int32) + t).toInt64))])
      refine OE.lstore Y63 hx hby at_94 (l' := #[.val (.int p1), .val (.long q2), .second, .val (.int p3), .val (.long q4), .second, .val (.int p5), .val (.int p6), .val (.ref b1), .val (.int t), .val (.int (0 : Int32)), .val (.int (0 : Int32)), .val (.long mA), .second, .val (.long mB), .second, .val (.int j0), .val (.int k0), .val (.long (((0 : Int32) + t).toInt64)), .second, .unset, .unset, .unset, .unset, .unset]) rfl ?_
      refine OE.of (Y63.ldc2Long hx hown63 (mvT hZ63 (hw _ (List.mem_of_getElem? (i := 38) rfl))) (g := (mkF m 96 #[.val (.int p1), .val (.long q2), .second, .val (.int p3), .val (.long q4), .second, .val (.int p5), .val (.int p6), .val (.ref b1), .val (.int t), .val (.int (0 : Int32)), .val (.int (0 : Int32)), .val (.long mA), .second, .val (.long mB), .second, .val (.int j0), .val (.int k0), .val (.long (((0 : Int32) + t).toInt64)), .second, .unset, .unset, .unset, .unset, .unset] [])) rfl (hb hby at_96)) ?_
      show OE _ p e below s _ _ _ T63 (mkF m 99 #[.val (.int p1), .val (.long q2), .second, .val (.int p3), .val (.long q4), .second, .val (.int p5), .val (.int p6), .val (.ref b1), .val (.int t), .val (.int (0 : Int32)), .val (.int (0 : Int32)), .val (.long mA), .second, .val (.long mB), .second, .val (.int j0), .val (.int k0), .val (.long (((0 : Int32) + t).toInt64)), .second, .unset, .unset, .unset, .unset, .unset] [(.long (9223372036854775807 : Int64))])
      refine OE.lstore Y63 hx hby at_99 (l' := #[.val (.int p1), .val (.long q2), .second, .val (.int p3), .val (.long q4), .second, .val (.int p5), .val (.int p6), .val (.ref b1), .val (.int t), .val (.int (0 : Int32)), .val (.int (0 : Int32)), .val (.long mA), .second, .val (.long mB), .second, .val (.int j0), .val (.int k0), .val (.long (((0 : Int32) + t).toInt64)), .second, .val (.long (9223372036854775807 : Int64)), .second, .unset, .unset, .unset]) rfl ?_
      have z64 : n0 ≤ T63.heap.size := (Nat.le_trans z62 K63.1)
      have K65 : Keep h0 T63.heap [] := (Keep.trans (Keep.trans (Keep.ext K4 E2) K15 (allS (Or.inr sz_b1) all0)) K63 (allS (Or.inr sz_b1) all0))
      exact cut101 b1 ((0 : Int32) + t) (9223372036854775807 : Int64) (8 : Int32) (9223372036854775807 : Int64) (0 : Int32) (0 : Int32) T63.vm _ _ _ _ _ _ Y63 rfl N63 (by decide) (by decide) z64 K65 hS63 (Nat.le_refl _) hZ63 hown63 q63_0 q63_1 q63_2 q63_3 q63_4 q63_5 q63_6 g_b1 sz_b1 (own_init ht.1 ht.2).2.2
    · skip
      refine OE.ifNo Y15 hx hby at_40 (feq hc40).1 ?_
      refine OE.iconst Y15 hx hby at_43 (1 : Int32) rfl ?_
      refine OE.goto Y15 hx hby (pc' := 48) at_44 (h := ?_)
      refine OE.istore Y15 hx hby at_48 (l' := #[.val (.int p1), .val (.long q2), .second, .val (.int p3), .val (.long q4), .second, .val (.int p5), .val (.int p6), .val (.ref b1), .val (.int t), .val (.int (0 : Int32)), .val (.int (1 : Int32)), .unset, .unset, .unset, .unset, .unset, .unset, .unset, .unset, .unset, .unset, .unset, .unset, .unset]) rfl ?_
      refine OE.lloadN Y15 hx hby at_50 rfl ?_
      refine OE.of (Y15.ldc2Long hx hown15 (mvT hZ15 (hw _ (List.mem_of_getElem? (i := 38) rfl))) (g := (mkF m 51 #[.val (.int p1), .val (.long q2), .second, .val (.int p3), .val (.long q4), .second, .val (.int p5), .val (.int p6), .val (.ref b1), .val (.int t), .val (.int (0 : Int32)), .val (.int (1 : Int32)), .unset, .unset, .unset, .unset, .unset, .unset, .unset, .unset, .unset, .unset, .unset, .unset, .unset] [(.long q2)])) rfl (hb hby at_51)) ?_
      show OE _ p e below s _ _ _ T15 (mkF m 54 #[.val (.int p1), .val (.long q2), .second, .val (.int p3), .val (.long q4), .second, .val (.int p5), .val (.int p6), .val (.ref b1), .val (.int t), .val (.int (0 : Int32)), .val (.int (1 : Int32)), .unset, .unset, .unset, .unset, .unset, .unset, .unset, .unset, .unset, .unset, .unset, .unset, .unset] [(.long (9223372036854775807 : Int64)), (.long q2)])
      refine OE.land Y15 hx hby at_54 ?_
      rw [← e_mA]
      show OE _ p e below s _ _ _ T15 (mkF m 55 #[.val (.int p1), .val (.long q2), .second, .val (.int p3), .val (.long q4), .second, .val (.int p5), .val (.int p6), .val (.ref b1), .val (.int t), .val (.int (0 : Int32)), .val (.int (1 : Int32)), .unset, .unset, .unset, .unset, .unset, .unset, .unset, .unset, .unset, .unset, .unset, .unset, .unset] [(.long mA)])
      refine OE.lstore Y15 hx hby at_55 (l' := #[.val (.int p1), .val (.long q2), .second, .val (.int p3), .val (.long q4), .second, .val (.int p5), .val (.int p6), .val (.ref b1), .val (.int t), .val (.int (0 : Int32)), .val (.int (1 : Int32)), .val (.long mA), .second, .unset, .unset, .unset, .unset, .unset, .unset, .unset, .unset, .unset, .unset, .unset]) rfl ?_
      refine OE.lload Y15 hx hby at_57 rfl ?_
      refine OE.of (Y15.ldc2Long hx hown15 (mvT hZ15 (hw _ (List.mem_of_getElem? (i := 38) rfl))) (g := (mkF m 59 #[.val (.int p1), .val (.long q2), .second, .val (.int p3), .val (.long q4), .second, .val (.int p5), .val (.int p6), .val (.ref b1), .val (.int t), .val (.int (0 : Int32)), .val (.int (1 : Int32)), .val (.long mA), .second, .unset, .unset, .unset, .unset, .unset, .unset, .unset, .unset, .unset, .unset, .unset] [(.long q4)])) rfl (hb hby at_59)) ?_
      show OE _ p e below s _ _ _ T15 (mkF m 62 #[.val (.int p1), .val (.long q2), .second, .val (.int p3), .val (.long q4), .second, .val (.int p5), .val (.int p6), .val (.ref b1), .val (.int t), .val (.int (0 : Int32)), .val (.int (1 : Int32)), .val (.long mA), .second, .unset, .unset, .unset, .unset, .unset, .unset, .unset, .unset, .unset, .unset, .unset] [(.long (9223372036854775807 : Int64)), (.long q4)])
      refine OE.land Y15 hx hby at_62 ?_
      rw [← e_mB]
      show OE _ p e below s _ _ _ T15 (mkF m 63 #[.val (.int p1), .val (.long q2), .second, .val (.int p3), .val (.long q4), .second, .val (.int p5), .val (.int p6), .val (.ref b1), .val (.int t), .val (.int (0 : Int32)), .val (.int (1 : Int32)), .val (.long mA), .second, .unset, .unset, .unset, .unset, .unset, .unset, .unset, .unset, .unset, .unset, .unset] [(.long mB)])
      refine OE.lstore Y15 hx hby at_63 (l' := #[.val (.int p1), .val (.long q2), .second, .val (.int p3), .val (.long q4), .second, .val (.int p5), .val (.int p6), .val (.ref b1), .val (.int t), .val (.int (0 : Int32)), .val (.int (1 : Int32)), .val (.long mA), .second, .val (.long mB), .second, .unset, .unset, .unset, .unset, .unset, .unset, .unset, .unset, .unset]) rfl ?_
      refine OE.iloadN Y15 hx hby at_65 rfl ?_
      refine OE.of (Y15.ldcInt hx hown15 (mvT hZ15 (hw _ (List.mem_of_getElem? (i := 37) rfl))) (g := (mkF m 66 #[.val (.int p1), .val (.long q2), .second, .val (.int p3), .val (.long q4), .second, .val (.int p5), .val (.int p6), .val (.ref b1), .val (.int t), .val (.int (0 : Int32)), .val (.int (1 : Int32)), .val (.long mA), .second, .val (.long mB), .second, .unset, .unset, .unset, .unset, .unset, .unset, .unset, .unset, .unset] [(.int p3)])) rfl (hb hby at_66)) ?_
      show OE _ p e below s _ _ _ T15 (mkF m 68 #[.val (.int p1), .val (.long q2), .second, .val (.int p3), .val (.long q4), .second, .val (.int p5), .val (.int p6), .val (.ref b1), .val (.int t), .val (.int (0 : Int32)), .val (.int (1 : Int32)), .val (.long mA), .second, .val (.long mB), .second, .unset, .unset, .unset, .unset, .unset, .unset, .unset, .unset, .unset] [(.int (2147483647 : Int32)), (.int p3)])
      refine OE.iand Y15 hx hby at_68 ?_
      refine OE.bipush Y15 hx hby at_69 (9 : Int32) rfl ?_
      refine OE.irem Y15 hx hby at_71 (by decide) ?_
      rw [← e_j0]
      show OE _ p e below s _ _ _ T15 (mkF m 72 #[.val (.int p1), .val (.long q2), .second, .val (.int p3), .val (.long q4), .second, .val (.int p5), .val (.int p6), .val (.ref b1), .val (.int t), .val (.int (0 : Int32)), .val (.int (1 : Int32)), .val (.long mA), .second, .val (.long mB), .second, .unset, .unset, .unset, .unset, .unset, .unset, .unset, .unset, .unset] [(.int j0)])
      refine OE.istore Y15 hx hby at_72 (l' := #[.val (.int p1), .val (.long q2), .second, .val (.int p3), .val (.long q4), .second, .val (.int p5), .val (.int p6), .val (.ref b1), .val (.int t), .val (.int (0 : Int32)), .val (.int (1 : Int32)), .val (.long mA), .second, .val (.long mB), .second, .val (.int j0), .unset, .unset, .unset, .unset, .unset, .unset, .unset, .unset]) rfl ?_
      refine OE.iload Y15 hx hby at_74 rfl ?_
      refine OE.of (Y15.ldcInt hx hown15 (mvT hZ15 (hw _ (List.mem_of_getElem? (i := 37) rfl))) (g := (mkF m 76 #[.val (.int p1), .val (.long q2), .second, .val (.int p3), .val (.long q4), .second, .val (.int p5), .val (.int p6), .val (.ref b1), .val (.int t), .val (.int (0 : Int32)), .val (.int (1 : Int32)), .val (.long mA), .second, .val (.long mB), .second, .val (.int j0), .unset, .unset, .unset, .unset, .unset, .unset, .unset, .unset] [(.int p5)])) rfl (hb hby at_76)) ?_
      show OE _ p e below s _ _ _ T15 (mkF m 78 #[.val (.int p1), .val (.long q2), .second, .val (.int p3), .val (.long q4), .second, .val (.int p5), .val (.int p6), .val (.ref b1), .val (.int t), .val (.int (0 : Int32)), .val (.int (1 : Int32)), .val (.long mA), .second, .val (.long mB), .second, .val (.int j0), .unset, .unset, .unset, .unset, .unset, .unset, .unset, .unset] [(.int (2147483647 : Int32)), (.int p5)])
      refine OE.iand Y15 hx hby at_78 ?_
      refine OE.bipush Y15 hx hby at_79 (9 : Int32) rfl ?_
      refine OE.irem Y15 hx hby at_81 (by decide) ?_
      rw [← e_k0]
      show OE _ p e below s _ _ _ T15 (mkF m 82 #[.val (.int p1), .val (.long q2), .second, .val (.int p3), .val (.long q4), .second, .val (.int p5), .val (.int p6), .val (.ref b1), .val (.int t), .val (.int (0 : Int32)), .val (.int (1 : Int32)), .val (.long mA), .second, .val (.long mB), .second, .val (.int j0), .unset, .unset, .unset, .unset, .unset, .unset, .unset, .unset] [(.int k0)])
      refine OE.istore Y15 hx hby at_82 (l' := #[.val (.int p1), .val (.long q2), .second, .val (.int p3), .val (.long q4), .second, .val (.int p5), .val (.int p6), .val (.ref b1), .val (.int t), .val (.int (0 : Int32)), .val (.int (1 : Int32)), .val (.long mA), .second, .val (.long mB), .second, .val (.int j0), .val (.int k0), .unset, .unset, .unset, .unset, .unset, .unset, .unset]) rfl ?_
      refine OE.aload Y15 hx hby at_84 rfl rfl ?_
      refine OE.iload Y15 hx hby at_86 rfl ?_
      have z66 : n0 ≤ T15.heap.size := (Nat.le_trans z14 K15.1)
      obtain ⟨cq67, kq67, qa67, qb67, qc67⟩ := isOf hZ15 rfl q15_0
      obtain ⟨_, _, ⟨T67, L67, k67, n67⟩, -, X67, hs67, hgr67, ⟨Lc67, hQ67, l67, y67, z67⟩, st67⟩ := Y15.virtualBackS hx (y := (⟨"com/example/bytewright/bytewright/io/Input", "skip", "(I)V"⟩ : MethodName)) (z := (⟨"com/example/bytewright/bytewright/io/Input", "skip", "(I)V"⟩ : MethodName)) hown15 (mvT hZ15 (hw _ (List.mem_of_getElem? (i := 39) rfl))) (mvT hZ15 (hw _ (List.mem_of_getElem? (i := 40) rfl))) (notFace_of_selects (args := #[]) (mvT hZ15 (hw _ (List.mem_of_getElem? (i := 42) rfl)))) (mvT hZ15 (hw _ (List.mem_of_getElem? (i := 42) rfl))) (mvT hZ15 (hw _ (List.mem_of_getElem? (i := 41) rfl))) (by decide) (backOfS (W := 0) (own_rm4 l Z a0 hw [] b1 t (0 : Int32) (9223372036854775807 : Int64) (8 : Int32) (9223372036854775807 : Int64) T15.heap n0 z66 q15_0 q15_2 q15_4 q15_6 q15_5 q15_1 q15_3 g_b1 (own_init ht.1 ht.2).1 (own_init ht.1 ht.2).2.1) hZ15 (hw _ (List.mem_of_getElem? (i := 43) rfl)) (hw _ (List.mem_of_getElem? (i := 2) rfl)) (by decide) (by decide)) qa67 qc67 (g := (mkF m 88 #[.val (.int p1), .val (.long q2), .second, .val (.int p3), .val (.long q4), .second, .val (.int p5), .val (.int p6), .val (.ref b1), .val (.int t), .val (.int (0 : Int32)), .val (.int (1 : Int32)), .val (.long mA), .second, .val (.long mB), .second, .val (.int j0), .val (.int k0), .unset, .unset, .unset, .unset, .unset, .unset, .unset] [(.int t), (.ref b1)])) rfl (by rw [hml]; rfl) (Steps.refl _) (argsL := [(.int t)]) (rest := []) (lenOf own_pd3 rfl) rfl (by show 2 * 0 + _ ≤ _; exact Nat.le_of_eq rfl) (hb hby at_88) (fun _ _ => ⟨rfl, rfl, (by decide : 4 + 4 ≤ _), (by decide : 40 + 44 ≤ _)⟩)
      dsimp only [Pt.U, Pt.locs, Pt.cells, Pt.slots] at X67 l67 y67 z67 st67 hQ67
      subst l67 y67 z67
      obtain ⟨Y67, hS67, hZ67, hown67⟩ := rebS (s := s) (vm0 := T15.vm) (vm1 := T67.vm) hS15 (Nat.le_refl _) X67 hs67 hgr67 hZ15 hown15
      obtain ⟨rfl, Nq67, K67, q67_0, q67_1, q67_2, q67_3, q67_4, q67_5, q67_6⟩ := hQ67
      refine OE.of (fun _ k => st67.trans k) ?_
      have N67 := Fr.app N15 Nq67
      show OE _ p e below s _ _ _ T67 (mkF m 91 #[.val (.int p1), .val (.long q2), .second, .val (.int p3), .val (.long q4), .second, .val (.int p5), .val (.int p6), .val (.ref b1), .val (.int t), .val (.int (0 : Int32)), .val (.int (1 : Int32)), .val (.long mA), .second, .val (.long mB), .second, .val (.int j0), .val (.int k0), .unset, .unset, .unset, .unset, .unset, .unset, .unset] [])
      refine OE.iload Y67 hx hby at_91 rfl ?_
      refine OE.i2l Y67 hx hby at_93 ?_
      rw [((by simp) : (t.toInt64) = (((0 : Int32) + t).toInt64))]
      show OE _ p e below s _ _ _ T67 (mkF m 94 #[.val (.int p1), .val (.long q2), .second, .val (.int p3), .val (.long q4), .second, .val (.int p5), .val (.int p6), .val (.ref b1), .val (.int t), .val (.int (0 : Int32)), .val (.int (1 : Int32)), .val (.long mA), .second, .val (.long mB), .second, .val (.int j0), .val (.int k0), .unset, .unset, .unset, .unset, .unset, .unset, .unset] [(.long (((0 : Int32) + t).toInt64))])
      refine OE.lstore Y67 hx hby at_94 (l' := #[.val (.int p1), .val (.long q2), .second, .val (.int p3), .val (.long q4), .second, .val (.int p5), .val (.int p6), .val (.ref b1), .val (.int t), .val (.int (0 : Int32)), .val (.int (1 : Int32)), .val (.long mA), .second, .val (.long mB), .second, .val (.int j0), .val (.int k0), .val (.long (((0 : Int32) + t).toInt64)), .second, .unset, .unset, .unset, .unset, .unset]) rfl ?_
      refine OE.of (Y67.ldc2Long hx hown67 (mvT hZ67 (hw _ (List.mem_of_getElem? (i := 38) rfl))) (g := (mkF m 96 #[.val (.int p1), .val (.long q2), .second, .val (.int p3), .val (.long q4), .second, .val (.int p5), .val (.int p6), .val (.ref b1), .val (.int t), .val (.int (0 : Int32)), .val (.int (1 : Int32)), .val (.long mA), .second, .val (.long mB), .second, .val (.int j0), .val (.int k0), .val (.long (((0 : Int32) + t).toInt64)), .second, .unset, .unset, .unset, .unset, .unset] [])) rfl (hb hby at_96)) ?_
      show OE _ p e below s _ _ _ T67 (mkF m 99 #[.val (.int p1), .val (.long q2), .second, .val (.int p3), .val (.long q4), .second, .val (.int p5), .val (.int p6), .val (.ref b1), .val (.int t), .val (.int (0 : Int32)), .val (.int (1 : Int32)), .val (.long mA), .second, .val (.long mB), .second, .val (.int j0), .val (.int k0), .val (.long (((0 : Int32) + t).toInt64)), .second, .unset, .unset, .unset, .unset, .unset] [(.long (9223372036854775807 : Int64))])
      refine OE.lstore Y67 hx hby at_99 (l' := #[.val (.int p1), .val (.long q2), .second, .val (.int p3), .val (.long q4), .second, .val (.int p5), .val (.int p6), .val (.ref b1), .val (.int t), .val (.int (0 : Int32)), .val (.int (1 : Int32)), .val (.long mA), .second, .val (.long mB), .second, .val (.int j0), .val (.int k0), .val (.long (((0 : Int32) + t).toInt64)), .second, .val (.long (9223372036854775807 : Int64)), .second, .unset, .unset, .unset]) rfl ?_
      have z68 : n0 ≤ T67.heap.size := (Nat.le_trans z66 K67.1)
      have K69 : Keep h0 T67.heap [] := (Keep.trans (Keep.trans (Keep.ext K4 E2) K15 (allS (Or.inr sz_b1) all0)) K67 (allS (Or.inr sz_b1) all0))
      exact cut101 b1 ((0 : Int32) + t) (9223372036854775807 : Int64) (8 : Int32) (9223372036854775807 : Int64) (0 : Int32) (1 : Int32) T67.vm _ _ _ _ _ _ Y67 rfl N67 (by decide) (by decide) z68 K69 hS67 (Nat.le_refl _) hZ67 hown67 q67_0 q67_1 q67_2 q67_3 q67_4 q67_5 q67_6 g_b1 sz_b1 (own_init ht.1 ht.2).2.2
  · skip
    refine OE.ifNo Y15 hx hby at_26 (feq hc26).1 ?_
    refine OE.iconst Y15 hx hby at_29 (1 : Int32) rfl ?_
    refine OE.goto Y15 hx hby (pc' := 34) at_30 (h := ?_)
    refine OE.istore Y15 hx hby at_34 (l' := #[.val (.int p1), .val (.long q2), .second, .val (.int p3), .val (.long q4), .second, .val (.int p5), .val (.int p6), .val (.ref b1), .val (.int t), .val (.int (1 : Int32)), .unset, .unset, .unset, .unset, .unset, .unset, .unset, .unset, .unset, .unset, .unset, .unset, .unset, .unset]) rfl ?_
    refine OE.iload Y15 hx hby at_36 rfl ?_
    refine OE.iconst Y15 hx hby at_38 (2 : Int32) rfl ?_
    refine OE.iand Y15 hx hby at_39 ?_
    by_cases hc40 : (p6 &&& (2 : Int32)) = (0 : Int32)
    · skip
      refine OE.ifYes Y15 hx hby (pc' := 47) at_40 (teq hc40).1 (h := ?_)
      refine OE.iconst Y15 hx hby at_47 (0 : Int32) rfl ?_
      refine OE.istore Y15 hx hby at_48 (l' := #[.val (.int p1), .val (.long q2), .second, .val (.int p3), .val (.long q4), .second, .val (.int p5), .val (.int p6), .val (.ref b1), .val (.int t), .val (.int (1 : Int32)), .val (.int (0 : Int32)), .unset, .unset, .unset, .unset, .unset, .unset, .unset, .unset, .unset, .unset, .unset, .unset, .unset]) rfl ?_
      refine OE.lloadN Y15 hx hby at_50 rfl ?_
      refine OE.of (Y15.ldc2Long hx hown15 (mvT hZ15 (hw _ (List.mem_of_getElem? (i := 38) rfl))) (g := (mkF m 51 #[.val (.int p1), .val (.long q2), .second, .val (.int p3), .val (.long q4), .second, .val (.int p5), .val (.int p6), .val (.ref b1), .val (.int t), .val (.int (1 : Int32)), .val (.int (0 : Int32)), .unset, .unset, .unset, .unset, .unset, .unset, .unset, .unset, .unset, .unset, .unset, .unset, .unset] [(.long q2)])) rfl (hb hby at_51)) ?_
      show OE _ p e below s _ _ _ T15 (mkF m 54 #[.val (.int p1), .val (.long q2), .second, .val (.int p3), .val (.long q4), .second, .val (.int p5), .val (.int p6), .val (.ref b1), .val (.int t), .val (.int (1 : Int32)), .val (.int (0 : Int32)), .unset, .unset, .unset, .unset, .unset, .unset, .unset, .unset, .unset, .unset, .unset, .unset, .unset] [(.long (9223372036854775807 : Int64)), (.long q2)])
      refine OE.land Y15 hx hby at_54 ?_
      rw [← e_mA]
      show OE _ p e below s _ _ _ T15 (mkF m 55 #[.val (.int p1), .val (.long q2), .second, .val (.int p3), .val (.long q4), .second, .val (.int p5), .val (.int p6), .val (.ref b1), .val (.int t), .val (.int (1 : Int32)), .val (.int (0 : Int32)), .unset, .unset, .unset, .unset, .unset, .unset, .unset, .unset, .unset, .unset, .unset, .unset, .unset] [(.long mA)])
      refine OE.lstore Y15 hx hby at_55 (l' := #[.val (.int p1), .val (.long q2), .second, .val (.int p3), .val (.long q4), .second, .val (.int p5), .val (.int p6), .val (.ref b1), .val (.int t), .val (.int (1 : Int32)), .val (.int (0 : Int32)), .val (.long mA), .second, .unset, .unset, .unset, .unset, .unset, .unset, .unset, .unset, .unset, .unset, .unset]) rfl ?_
      refine OE.lload Y15 hx hby at_57 rfl ?_
      refine OE.of (Y15.ldc2Long hx hown15 (mvT hZ15 (hw _ (List.mem_of_getElem? (i := 38) rfl))) (g := (mkF m 59 #[.val (.int p1), .val (.long q2), .second, .val (.int p3), .val (.long q4), .second, .val (.int p5), .val (.int p6), .val (.ref b1), .val (.int t), .val (.int (1 : Int32)), .val (.int (0 : Int32)), .val (.long mA), .second, .unset, .unset, .unset, .unset, .unset, .unset, .unset, .unset, .unset, .unset, .unset] [(.long q4)])) rfl (hb hby at_59)) ?_
      show OE _ p e below s _ _ _ T15 (mkF m 62 #[.val (.int p1), .val (.long q2), .second, .val (.int p3), .val (.long q4), .second, .val (.int p5), .val (.int p6), .val (.ref b1), .val (.int t), .val (.int (1 : Int32)), .val (.int (0 : Int32)), .val (.long mA), .second, .unset, .unset, .unset, .unset, .unset, .unset, .unset, .unset, .unset, .unset, .unset] [(.long (9223372036854775807 : Int64)), (.long q4)])
      refine OE.land Y15 hx hby at_62 ?_
      rw [← e_mB]
      show OE _ p e below s _ _ _ T15 (mkF m 63 #[.val (.int p1), .val (.long q2), .second, .val (.int p3), .val (.long q4), .second, .val (.int p5), .val (.int p6), .val (.ref b1), .val (.int t), .val (.int (1 : Int32)), .val (.int (0 : Int32)), .val (.long mA), .second, .unset, .unset, .unset, .unset, .unset, .unset, .unset, .unset, .unset, .unset, .unset] [(.long mB)])
      refine OE.lstore Y15 hx hby at_63 (l' := #[.val (.int p1), .val (.long q2), .second, .val (.int p3), .val (.long q4), .second, .val (.int p5), .val (.int p6), .val (.ref b1), .val (.int t), .val (.int (1 : Int32)), .val (.int (0 : Int32)), .val (.long mA), .second, .val (.long mB), .second, .unset, .unset, .unset, .unset, .unset, .unset, .unset, .unset, .unset]) rfl ?_
      refine OE.iloadN Y15 hx hby at_65 rfl ?_
      refine OE.of (Y15.ldcInt hx hown15 (mvT hZ15 (hw _ (List.mem_of_getElem? (i := 37) rfl))) (g := (mkF m 66 #[.val (.int p1), .val (.long q2), .second, .val (.int p3), .val (.long q4), .second, .val (.int p5), .val (.int p6), .val (.ref b1), .val (.int t), .val (.int (1 : Int32)), .val (.int (0 : Int32)), .val (.long mA), .second, .val (.long mB), .second, .unset, .unset, .unset, .unset, .unset, .unset, .unset, .unset, .unset] [(.int p3)])) rfl (hb hby at_66)) ?_
      show OE _ p e below s _ _ _ T15 (mkF m 68 #[.val (.int p1), .val (.long q2), .second, .val (.int p3), .val (.long q4), .second, .val (.int p5), .val (.int p6), .val (.ref b1), .val (.int t), .val (.int (1 : Int32)), .val (.int (0 : Int32)), .val (.long mA), .second, .val (.long mB), .second, .unset, .unset, .unset, .unset, .unset, .unset, .unset, .unset, .unset] [(.int (2147483647 : Int32)), (.int p3)])
      refine OE.iand Y15 hx hby at_68 ?_
      refine OE.bipush Y15 hx hby at_69 (9 : Int32) rfl ?_
      refine OE.irem Y15 hx hby at_71 (by decide) ?_
      rw [← e_j0]
      show OE _ p e below s _ _ _ T15 (mkF m 72 #[.val (.int p1), .val (.long q2), .second, .val (.int p3), .val (.long q4), .second, .val (.int p5), .val (.int p6), .val (.ref b1), .val (.int t), .val (.int (1 : Int32)), .val (.int (0 : Int32)), .val (.long mA), .second, .val (.long mB), .second, .unset, .unset, .unset, .unset, .unset, .unset, .unset, .unset, .unset] [(.int j0)])
      refine OE.istore Y15 hx hby at_72 (l' := #[.val (.int p1), .val (.long q2), .second, .val (.int p3), .val (.long q4), .second, .val (.int p5), .val (.int p6), .val (.ref b1), .val (.int t), .val (.int (1 : Int32)), .val (.int (0 : Int32)), .val (.long mA), .second, .val (.long mB), .second, .val (.int j0), .unset, .unset, .unset, .unset, .unset, .unset, .unset, .unset]) rfl ?_
      refine OE.iload Y15 hx hby at_74 rfl ?_
      refine OE.of (Y15.ldcInt hx hown15 (mvT hZ15 (hw _ (List.mem_of_getElem? (i := 37) rfl))) (g := (mkF m 76 #[.val (.int p1), .val (.long q2), .second, .val (.int p3), .val (.long q4), .second, .val (.int p5), .val (.int p6), .val (.ref b1), .val (.int t), .val (.int (1 : Int32)), .val (.int (0 : Int32)), .val (.long mA), .second, .val (.long mB), .second, .val (.int j0), .unset, .unset, .unset, .unset, .unset, .unset, .unset, .unset] [(.int p5)])) rfl (hb hby at_76)) ?_
      show OE _ p e below s _ _ _ T15 (mkF m 78 #[.val (.int p1), .val (.long q2), .second, .val (.int p3), .val (.long q4), .second, .val (.int p5), .val (.int p6), .val (.ref b1), .val (.int t), .val (.int (1 : Int32)), .val (.int (0 : Int32)), .val (.long mA), .second, .val (.long mB), .second, .val (.int j0), .unset, .unset, .unset, .unset, .unset, .unset, .unset, .unset] [(.int (2147483647 : Int32)), (.int p5)])
      refine OE.iand Y15 hx hby at_78 ?_
      refine OE.bipush Y15 hx hby at_79 (9 : Int32) rfl ?_
      refine OE.irem Y15 hx hby at_81 (by decide) ?_
      rw [← e_k0]
      show OE _ p e below s _ _ _ T15 (mkF m 82 #[.val (.int p1), .val (.long q2), .second, .val (.int p3), .val (.long q4), .second, .val (.int p5), .val (.int p6), .val (.ref b1), .val (.int t), .val (.int (1 : Int32)), .val (.int (0 : Int32)), .val (.long mA), .second, .val (.long mB), .second, .val (.int j0), .unset, .unset, .unset, .unset, .unset, .unset, .unset, .unset] [(.int k0)])
      refine OE.istore Y15 hx hby at_82 (l' := #[.val (.int p1), .val (.long q2), .second, .val (.int p3), .val (.long q4), .second, .val (.int p5), .val (.int p6), .val (.ref b1), .val (.int t), .val (.int (1 : Int32)), .val (.int (0 : Int32)), .val (.long mA), .second, .val (.long mB), .second, .val (.int j0), .val (.int k0), .unset, .unset, .unset, .unset, .unset, .unset, .unset]) rfl ?_
      refine OE.aload Y15 hx hby at_84 rfl rfl ?_
      refine OE.iload Y15 hx hby at_86 rfl ?_
      have z70 : n0 ≤ T15.heap.size := (Nat.le_trans z14 K15.1)
      obtain ⟨cq71, kq71, qa71, qb71, qc71⟩ := isOf hZ15 rfl q15_0
      obtain ⟨_, _, ⟨T71, L71, k71, n71⟩, -, X71, hs71, hgr71, ⟨Lc71, hQ71, l71, y71, z71⟩, st71⟩ := Y15.virtualBackS hx (y := (⟨"com/example/bytewright/bytewright/io/Input", "skip", "(I)V"⟩ : MethodName)) (z := (⟨"com/example/bytewright/bytewright/io/Input", "skip", "(I)V"⟩ : MethodName)) hown15 (mvT hZ15 (hw _ (List.mem_of_getElem? (i := 39) rfl))) (mvT hZ15 (hw _ (List.mem_of_getElem? (i := 40) rfl))) (notFace_of_selects (args := #[]) (mvT hZ15 (hw _ (List.mem_of_getElem? (i := 42) rfl)))) (mvT hZ15 (hw _ (List.mem_of_getElem? (i := 42) rfl))) (mvT hZ15 (hw _ (List.mem_of_getElem? (i := 41) rfl))) (by decide) (backOfS (W := 0) (own_rm4 l Z a0 hw [] b1 t (0 : Int32) (9223372036854775807 : Int64) (8 : Int32) (9223372036854775807 : Int64) T15.heap n0 z70 q15_0 q15_2 q15_4 q15_6 q15_5 q15_1 q15_3 g_b1 (own_init ht.1 ht.2).1 (own_init ht.1 ht.2).2.1) hZ15 (hw _ (List.mem_of_getElem? (i := 43) rfl)) (hw _ (List.mem_of_getElem? (i := 2) rfl)) (by decide) (by decide)) qa71 qc71 (g := (mkF m 88 #[.val (.int p1), .val (.long q2), .second, .val (.int p3), .val (.long q4), .second, .val (.int p5), .val (.int p6), .val (.ref b1), .val (.int t), .val (.int (1 : Int32)), .val (.int (0 : Int32)), .val (.long mA), .second, .val (.long mB), .second, .val (.int j0), .val (.int k0), .unset, .unset, .unset, .unset, .unset, .unset, .unset] [(.int t), (.ref b1)])) rfl (by rw [hml]; rfl) (Steps.refl _) (argsL := [(.int t)]) (rest := []) (lenOf own_pd3 rfl) rfl (by show 2 * 0 + _ ≤ _; exact Nat.le_of_eq rfl) (hb hby at_88) (fun _ _ => ⟨rfl, rfl, (by decide : 4 + 4 ≤ _), (by decide : 40 + 44 ≤ _)⟩)
      dsimp only [Pt.U, Pt.locs, Pt.cells, Pt.slots] at X71 l71 y71 z71 st71 hQ71
      subst l71 y71 z71
      obtain ⟨Y71, hS71, hZ71, hown71⟩ := rebS (s := s) (vm0 := T15.vm) (vm1 := T71.vm) hS15 (Nat.le_refl _) X71 hs71 hgr71 hZ15 hown15
      obtain ⟨rfl, Nq71, K71, q71_0, q71_1, q71_2, q71_3, q71_4, q71_5, q71_6⟩ := hQ71
      refine OE.of (fun _ k => st71.trans k) ?_
      have N71 := Fr.app N15 Nq71
      show OE _ p e below s _ _ _ T71 (mkF m 91 #[.val (.int p1), .val (.long q2), .second, .val (.int p3), .val (.long q4), .second, .val (.int p5), .val (.int p6), .val (.ref b1), .val (.int t), .val (.int (1 : Int32)), .val (.int (0 : Int32)), .val (.long mA), .second, .val (.long mB), .second, .val (.int j0), .val (.int k0), .unset, .unset, .unset, .unset, .unset, .unset, .unset] [])
      refine OE.iload Y71 hx hby at_91 rfl ?_
      refine OE.i2l Y71 hx hby at_93 ?_
      rw [((by simp) : (t.toInt64) = (((0 : Int32) + t).toInt64))]
      show OE _ p e below s _ _ _ T71 (mkF m 94 #[.val (.int p1), .val (.long q2), .second, .val (.int p3), .val (.long q4), .second, .val (.int p5), .val (.int p6), .val (.ref b1), .val (.int t), .val (.int (1 : Int32)), .val (.int (0 : Int32)), .val (.long mA), .second, .val (.long mB), .second, .val (.int j0), .val (.int k0), .unset, .unset, .unset, .unset, .unset, .unset, .unset] [(.long (((0 : Int32) + t).toInt64))])
      refine OE.lstore Y71 hx hby at_94 (l' := #[.val (.int p1), .val (.long q2), .second, .val (.int p3), .val (.long q4), .second, .val (.int p5), .val (.int p6), .val (.ref b1), .val (.int t), .val (.int (1 : Int32)), .val (.int (0 : Int32)), .val (.long mA), .second, .val (.long mB), .second, .val (.int j0), .val (.int k0), .val (.long (((0 : Int32) + t).toInt64)), .second, .unset, .unset, .unset, .unset, .unset]) rfl ?_
      refine OE.of (Y71.ldc2Long hx hown71 (mvT hZ71 (hw _ (List.mem_of_getElem? (i := 38) rfl))) (g := (mkF m 96 #[.val (.int p1), .val (.long q2), .second, .val (.int p3), .val (.long q4), .second, .val (.int p5), .val (.int p6), .val (.ref b1), .val (.int t), .val (.int (1 : Int32)), .val (.int (0 : Int32)), .val (.long mA), .second, .val (.long mB), .second, .val (.int j0), .val (.int k0), .val (.long (((0 : Int32) + t).toInt64)), .second, .unset, .unset, .unset, .unset, .unset] [])) rfl (hb hby at_96)) ?_
      show OE _ p e below s _ _ _ T71 (mkF m 99 #[.val (.int p1), .val (.long q2), .second, .val (.int p3), .val (.long q4), .second, .val (.int p5), .val (.int p6), .val (.ref b1), .val (.int t), .val (.int (1 : Int32)), .val (.int (0 : Int32)), .val (.long mA), .second, .val (.long mB), .second, .val (.int j0), .val (.int k0), .val (.long (((0 : Int32) + t).toInt64)), .second, .unset, .unset, .unset, .unset, .unset] [(.long (9223372036854775807 : Int64))])
      refine OE.lstore Y71 hx hby at_99 (l' := #[.val (.int p1), .val (.long q2), .second, .val (.int p3), .val (.long q4), .second, .val (.int p5), .val (.int p6), .val (.ref b1), .val (.int t), .val (.int (1 : Int32)), .val (.int (0 : Int32)), .val (.long mA), .second, .val (.long mB), .second, .val (.int j0), .val (.int k0), .val (.long (((0 : Int32) + t).toInt64)), .second, .val (.long (9223372036854775807 : Int64)), .second, .unset, .unset, .unset]) rfl ?_
      have z72 : n0 ≤ T71.heap.size := (Nat.le_trans z70 K71.1)
      have K73 : Keep h0 T71.heap [] := (Keep.trans (Keep.trans (Keep.ext K4 E2) K15 (allS (Or.inr sz_b1) all0)) K71 (allS (Or.inr sz_b1) all0))
      exact cut101 b1 ((0 : Int32) + t) (9223372036854775807 : Int64) (8 : Int32) (9223372036854775807 : Int64) (1 : Int32) (0 : Int32) T71.vm _ _ _ _ _ _ Y71 rfl N71 (by decide) (by decide) z72 K73 hS71 (Nat.le_refl _) hZ71 hown71 q71_0 q71_1 q71_2 q71_3 q71_4 q71_5 q71_6 g_b1 sz_b1 (own_init ht.1 ht.2).2.2
    · skip
      refine OE.ifNo Y15 hx hby at_40 (feq hc40).1 ?_
      refine OE.iconst Y15 hx hby at_43 (1 : Int32) rfl ?_
      refine OE.goto Y15 hx hby (pc' := 48) at_44 (h := ?_)
      refine OE.istore Y15 hx hby at_48 (l' := #[.val (.int p1), .val (.long q2), .second, .val (.int p3), .val (.long q4), .second, .val (.int p5), .val (.int p6), .val (.ref b1), .val (.int t), .val (.int (1 : Int32)), .val (.int (1 : Int32)), .unset, .unset, .unset, .unset, .unset, .unset, .unset, .unset, .unset, .unset, .unset, .unset, .unset]) rfl ?_
      refine OE.lloadN Y15 hx hby at_50 rfl ?_
      refine OE.of (Y15.ldc2Long hx hown15 (mvT hZ15 (hw _ (List.mem_of_getElem? (i := 38) rfl))) (g := (mkF m 51 #[.val (.int p1), .val (.long q2), .second, .val (.int p3), .val (.long q4), .second, .val (.int p5), .val (.int p6), .val (.ref b1), .val (.int t), .val (.int (1 : Int32)), .val (.int (1 : Int32)), .unset, .unset, .unset, .unset, .unset, .unset, .unset, .unset, .unset, .unset, .unset, .unset, .unset] [(.long q2)])) rfl (hb hby at_51)) ?_
      show OE _ p e below s _ _ _ T15 (mkF m 54 #[.val (.int p1), .val (.long q2), .second, .val (.int p3), .val (.long q4), .second, .val (.int p5), .val (.int p6), .val (.ref b1), .val (.int t), .val (.int (1 : Int32)), .val (.int (1 : Int32)), .unset, .unset, .unset, .unset, .unset, .unset, .unset, .unset, .unset, .unset, .unset, .unset, .unset] [(.long (9223372036854775807 : Int64)), (.long q2)])
      refine OE.land Y15 hx hby at_54 ?_
      rw [← e_mA]
      show OE _ p e below s _ _ _ T15 (mkF m 55 #[.val (.int p1), .val (.long q2), .second, .val (.int p3), .val (.long q4), .second, .val (.int p5), .val (.int p6), .val (.ref b1), .val (.int t), .val (.int (1 : Int32)), .val (.int (1 : Int32)), .unset, .unset, .unset, .unset, .unset, .unset, .unset, .unset, .unset, .unset, .unset, .unset, .unset] [(.long mA)])
      refine OE.lstore Y15 hx hby at_55 (l' := #[.val (.int p1), .val (.long q2), .second, .val (.int p3), .val (.long q4), .second, .val (.int p5), .val (.int p6), .val (.ref b1), .val (.int t), .val (.int (1 : Int32)), .val (.int (1 : Int32)), .val (.long mA), .second, .unset, .unset, .unset, .unset, .unset, .unset, .unset, .unset, .unset, .unset, .unset]) rfl ?_
      refine OE.lload Y15 hx hby at_57 rfl ?_
      refine OE.of (Y15.ldc2Long hx hown15 (mvT hZ15 (hw _ (List.mem_of_getElem? (i := 38) rfl))) (g := (mkF m 59 #[.val (.int p1), .val (.long q2), .second, .val (.int p3), .val (.long q4), .second, .val (.int p5), .val (.int p6), .val (.ref b1), .val (.int t), .val (.int (1 : Int32)), .val (.int (1 : Int32)), .val (.long mA), .second, .unset, .unset, .unset, .unset, .unset, .unset, .unset, .unset, .unset, .unset, .unset] [(.long q4)])) rfl (hb hby at_59)) ?_
      show OE _ p e below s _ _ _ T15 (mkF m 62 #[.val (.int p1), .val (.long q2), .second, .val (.int p3), .val (.long q4), .second, .val (.int p5), .val (.int p6), .val (.ref b1), .val (.int t), .val (.int (1 : Int32)), .val (.int (1 : Int32)), .val (.long mA), .second, .unset, .unset, .unset, .unset, .unset, .unset, .unset, .unset, .unset, .unset, .unset] [(.long (9223372036854775807 : Int64)), (.long q4)])
      refine OE.land Y15 hx hby at_62 ?_
      rw [← e_mB]
      show OE _ p e below s _ _ _ T15 (mkF m 63 #[.val (.int p1), .val (.long q2), .second, .val (.int p3), .val (.long q4), .second, .val (.int p5), .val (.int p6), .val (.ref b1), .val (.int t), .val (.int (1 : Int32)), .val (.int (1 : Int32)), .val (.long mA), .second, .unset, .unset, .unset, .unset, .unset, .unset, .unset, .unset, .unset, .unset, .unset] [(.long mB)])
      refine OE.lstore Y15 hx hby at_63 (l' := #[.val (.int p1), .val (.long q2), .second, .val (.int p3), .val (.long q4), .second, .val (.int p5), .val (.int p6), .val (.ref b1), .val (.int t), .val (.int (1 : Int32)), .val (.int (1 : Int32)), .val (.long mA), .second, .val (.long mB), .second, .unset, .unset, .unset, .unset, .unset, .unset, .unset, .unset, .unset]) rfl ?_
      refine OE.iloadN Y15 hx hby at_65 rfl ?_
      refine OE.of (Y15.ldcInt hx hown15 (mvT hZ15 (hw _ (List.mem_of_getElem? (i := 37) rfl))) (g := (mkF m 66 #[.val (.int p1), .val (.long q2), .second, .val (.int p3), .val (.long q4), .second, .val (.int p5), .val (.int p6), .val (.ref b1), .val (.int t), .val (.int (1 : Int32)), .val (.int (1 : Int32)), .val (.long mA), .second, .val (.long mB), .second, .unset, .unset, .unset, .unset, .unset, .unset, .unset, .unset, .unset] [(.int p3)])) rfl (hb hby at_66)) ?_
      show OE _ p e below s _ _ _ T15 (mkF m 68 #[.val (.int p1), .val (.long q2), .second, .val (.int p3), .val (.long q4), .second, .val (.int p5), .val (.int p6), .val (.ref b1), .val (.int t), .val (.int (1 : Int32)), .val (.int (1 : Int32)), .val (.long mA), .second, .val (.long mB), .second, .unset, .unset, .unset, .unset, .unset, .unset, .unset, .unset, .unset] [(.int (2147483647 : Int32)), (.int p3)])
      refine OE.iand Y15 hx hby at_68 ?_
      refine OE.bipush Y15 hx hby at_69 (9 : Int32) rfl ?_
      refine OE.irem Y15 hx hby at_71 (by decide) ?_
      rw [← e_j0]
      show OE _ p e below s _ _ _ T15 (mkF m 72 #[.val (.int p1), .val (.long q2), .second, .val (.int p3), .val (.long q4), .second, .val (.int p5), .val (.int p6), .val (.ref b1), .val (.int t), .val (.int (1 : Int32)), .val (.int (1 : Int32)), .val (.long mA), .second, .val (.long mB), .second, .unset, .unset, .unset, .unset, .unset, .unset, .unset, .unset, .unset] [(.int j0)])
      refine OE.istore Y15 hx hby at_72 (l' := #[.val (.int p1), .val (.long q2), .second, .val (.int p3), .val (.long q4), .second, .val (.int p5), .val (.int p6), .val (.ref b1), .val (.int t), .val (.int (1 : Int32)), .val (.int (1 : Int32)), .val (.long mA), .second, .val (.long mB), .second, .val (.int j0), .unset, .unset, .unset, .unset, .unset, .unset, .unset, .unset]) rfl ?_
      refine OE.iload Y15 hx hby at_74 rfl ?_
      refine OE.of (Y15.ldcInt hx hown15 (mvT hZ15 (hw _ (List.mem_of_getElem? (i := 37) rfl))) (g := (mkF m 76 #[.val (.int p1), .val (.long q2), .second, .val (.int p3), .val (.long q4), .second, .val (.int p5), .val (.int p6), .val (.ref b1), .val (.int t), .val (.int (1 : Int32)), .val (.int (1 : Int32)), .val (.long mA), .second, .val (.long mB), .second, .val (.int j0), .unset, .unset, .unset, .unset, .unset, .unset, .unset, .unset] [(.int p5)])) rfl (hb hby at_76)) ?_
      show OE _ p e below s _ _ _ T15 (mkF m 78 #[.val (.int p1), .val (.long q2), .second, .val (.int p3), .val (.long q4), .second, .val (.int p5), .val (.int p6), .val (.ref b1), .val (.int t), .val (.int (1 : Int32)), .val (.int (1 : Int32)), .val (.long mA), .second, .val (.long mB), .second, .val (.int j0), .unset, .unset, .unset, .unset, .unset, .unset, .unset, .unset] [(.int (2147483647 : Int32)), (.int p5)])
      refine OE.iand Y15 hx hby at_78 ?_
      refine OE.bipush Y15 hx hby at_79 (9 : Int32) rfl ?_
      refine OE.irem Y15 hx hby at_81 (by decide) ?_
      rw [← e_k0]
      show OE _ p e below s _ _ _ T15 (mkF m 82 #[.val (.int p1), .val (.long q2), .second, .val (.int p3), .val (.long q4), .second, .val (.int p5), .val (.int p6), .val (.ref b1), .val (.int t), .val (.int (1 : Int32)), .val (.int (1 : Int32)), .val (.long mA), .second, .val (.long mB), .second, .val (.int j0), .unset, .unset, .unset, .unset, .unset, .unset, .unset, .unset] [(.int k0)])
      refine OE.istore Y15 hx hby at_82 (l' := #[.val (.int p1), .val (.long q2), .second, .val (.int p3), .val (.long q4), .second, .val (.int p5), .val (.int p6), .val (.ref b1), .val (.int t), .val (.int (1 : Int32)), .val (.int (1 : Int32)), .val (.long mA), .second, .val (.long mB), .second, .val (.int j0), .val (.int k0), .unset, .unset, .unset, .unset, .unset, .unset, .unset]) rfl ?_
      refine OE.aload Y15 hx hby at_84 rfl rfl ?_
      refine OE.iload Y15 hx hby at_86 rfl ?_
      have z74 : n0 ≤ T15.heap.size := (Nat.le_trans z14 K15.1)
      obtain ⟨cq75, kq75, qa75, qb75, qc75⟩ := isOf hZ15 rfl q15_0
      obtain ⟨_, _, ⟨T75, L75, k75, n75⟩, -, X75, hs75, hgr75, ⟨Lc75, hQ75, l75, y75, z75⟩, st75⟩ := Y15.virtualBackS hx (y := (⟨"com/example/bytewright/bytewright/io/Input", "skip", "(I)V"⟩ : MethodName)) (z := (⟨"com/example/bytewright/bytewright/io/Input", "skip", "(I)V"⟩ : MethodName)) hown15 (mvT hZ15 (hw _ (List.mem_of_getElem? (i := 39) rfl))) (mvT hZ15 (hw _ (List.mem_of_getElem? (i := 40) rfl))) (notFace_of_selects (args := #[]) (mvT hZ15 (hw _ (List.mem_of_getElem? (i := 42) rfl)))) (mvT hZ15 (hw _ (List.mem_of_getElem? (i := 42) rfl))) (mvT hZ15 (hw _ (List.mem_of_getElem? (i := 41) rfl))) (by decide) (backOfS (W := 0) (own_rm4 l Z a0 hw [] b1 t (0 : Int32) (9223372036854775807 : Int64) (8 : Int32) (9223372036854775807 : Int64) T15.heap n0 z74 q15_0 q15_2 q15_4 q15_6 q15_5 q15_1 q15_3 g_b1 (own_init ht.1 ht.2).1 (own_init ht.1 ht.2).2.1) hZ15 (hw _ (List.mem_of_getElem? (i := 43) rfl)) (hw _ (List.mem_of_getElem? (i := 2) rfl)) (by decide) (by decide)) qa75 qc75 (g := (mkF m 88 #[.val (.int p1), .val (.long q2), .second, .val (.int p3), .val (.long q4), .second, .val (.int p5), .val (.int p6), .val (.ref b1), .val (.int t), .val (.int (1 : Int32)), .val (.int (1 : Int32)), .val (.long mA), .second, .val (.long mB), .second, .val (.int j0), .val (.int k0), .unset, .unset, .unset, .unset, .unset, .unset, .unset] [(.int t), (.ref b1)])) rfl (by rw [hml]; rfl) (Steps.refl _) (argsL := [(.int t)]) (rest := []) (lenOf own_pd3 rfl) rfl (by show 2 * 0 + _ ≤ _; exact Nat.le_of_eq rfl) (hb hby at_88) (fun _ _ => ⟨rfl, rfl, (by decide : 4 + 4 ≤ _), (by decide : 40 + 44 ≤ _)⟩)
      dsimp only [Pt.U, Pt.locs, Pt.cells, Pt.slots] at X75 l75 y75 z75 st75 hQ75
      subst l75 y75 z75
      obtain ⟨Y75, hS75, hZ75, hown75⟩ := rebS (s := s) (vm0 := T15.vm) (vm1 := T75.vm) hS15 (Nat.le_refl _) X75 hs75 hgr75 hZ15 hown15
      obtain ⟨rfl, Nq75, K75, q75_0, q75_1, q75_2, q75_3, q75_4, q75_5, q75_6⟩ := hQ75
      refine OE.of (fun _ k => st75.trans k) ?_
      have N75 := Fr.app N15 Nq75
      show OE _ p e below s _ _ _ T75 (mkF m 91 #[.val (.int p1), .val (.long q2), .second, .val (.int p3), .val (.long q4), .second, .val (.int p5), .val (.int p6), .val (.ref b1), .val (.int t), .val (.int (1 : Int32)), .val (.int (1 : Int32)), .val (.long mA), .second, .val (.long mB), .second, .val (.int j0), .val (.int k0), .unset, .unset, .unset, .unset, .unset, .unset, .unset] [])
      refine OE.iload Y75 hx hby at_91 rfl ?_
      refine OE.i2l Y75 hx hby at_93 ?_
      rw [((by simp) : (t.toInt64) = (((0 : Int32) + t).toInt64))]
      show OE _ p e below s _ _ _ T75 (mkF m 94 #[.val (.int p1), .val (.long q2), .second, .val (.int p3), .val (.long q4), .second, .val (.int p5), .val (.int p6), .val (.ref b1), .val (.int t), .val (.int (1 : Int32)), .val (.int (1 : Int32)), .val (.long mA), .second, .val (.long mB), .second, .val (.int j0), .val (.int k0), .unset, .unset, .unset, .unset, .unset, .unset, .unset] [(.long (((0 : Int32) + t).toInt64))])
      refine OE.lstore Y75 hx hby at_94 (l' := #[.val (.int p1), .val (.long q2), .second, .val (.int p3), .val (.long q4), .second, .val (.int p5), .val (.int p6), .val (.ref b1), .val (.int t), .val (.int (1 : Int32)), .val (.int (1 : Int32)), .val (.long mA), .second, .val (.long mB), .second, .val (.int j0), .val (.int k0), .val (.long (((0 : Int32) + t).toInt64)), .second, .unset, .unset, .unset, .unset, .unset]) rfl ?_
      refine OE.of (Y75.ldc2Long hx hown75 (mvT hZ75 (hw _ (List.mem_of_getElem? (i := 38) rfl))) (g := (mkF m 96 #[.val (.int p1), .val (.long q2), .second, .val (.int p3), .val (.long q4), .second, .val (.int p5), .val (.int p6), .val (.ref b1), .val (.int t), .val (.int (1 : Int32)), .val (.int (1 : Int32)), .val (.long mA), .second, .val (.long mB), .second, .val (.int j0), .val (.int k0), .val (.long (((0 : Int32) + t).toInt64)), .second, .unset, .unset, .unset, .unset, .unset] [])) rfl (hb hby at_96)) ?_
      show OE _ p e below s _ _ _ T75 (mkF m 99 #[.val (.int p1), .val (.long q2), .second, .val (.int p3), .val (.long q4), .second, .val (.int p5), .val (.int p6), .val (.ref b1), .val (.int t), .val (.int (1 : Int32)), .val (.int (1 : Int32)), .val (.long mA), .second, .val (.long mB), .second, .val (.int j0), .val (.int k0), .val (.long (((0 : Int32) + t).toInt64)), .second, .unset, .unset, .unset, .unset, .unset] [(.long (9223372036854775807 : Int64))])
      refine OE.lstore Y75 hx hby at_99 (l' := #[.val (.int p1), .val (.long q2), .second, .val (.int p3), .val (.long q4), .second, .val (.int p5), .val (.int p6), .val (.ref b1), .val (.int t), .val (.int (1 : Int32)), .val (.int (1 : Int32)), .val (.long mA), .second, .val (.long mB), .second, .val (.int j0), .val (.int k0), .val (.long (((0 : Int32) + t).toInt64)), .second, .val (.long (9223372036854775807 : Int64)), .second, .unset, .unset, .unset]) rfl ?_
      have z76 : n0 ≤ T75.heap.size := (Nat.le_trans z74 K75.1)
      have K77 : Keep h0 T75.heap [] := (Keep.trans (Keep.trans (Keep.ext K4 E2) K15 (allS (Or.inr sz_b1) all0)) K75 (allS (Or.inr sz_b1) all0))
      exact cut101 b1 ((0 : Int32) + t) (9223372036854775807 : Int64) (8 : Int32) (9223372036854775807 : Int64) (1 : Int32) (1 : Int32) T75.vm _ _ _ _ _ _ Y75 rfl N75 (by decide) (by decide) z76 K77 hS75 (Nat.le_refl _) hZ75 hown75 q75_0 q75_1 q75_2 q75_3 q75_4 q75_5 q75_6 g_b1 sz_b1 (own_init ht.1 ht.2).2.2
set_option maxRecDepth 65536 in
set_option maxHeartbeats 40000000 in
theorem comes_1 {Post : Tables → Env → Array Value → State → Outcome → State → Prop} (hpost : ∀ tb e args s v u, (limb_1_1.after args s (.returned v) u = true ∧ limb_1_2.after args s (.returned v) u = true ∧ True) → ReturnedEndW s (.returned v) u (Jvm.fieldLocs frame_1_writes args s ++ Jvm.arrayLocs frame_1_arrays args s ++ Jvm.staticLocs frame_1_statics s) 24 3200 → Post tb e args s (.returned v) u) :
    ArmFor flags0 classFile x code maxLocals ret World_1 tables_1 room_1 Calls_1 rest_1 Pre_1 Post := by
  intro l hfl _ _ p e ha hc hk s m args below hf hA hF happ hP
  obtain ⟨hcalls, hrest, hpre⟩ := hP
  obtain ⟨-, -, -, hnamed, -, -, -, hat⟩ := (Spec.applies_iff hf).mp happ
  obtain ⟨hg, hn⟩ := and_e (Cond.before_iff.mp (show (Jvm.Cond.and given_1 narrow_1).before args s = true from hpre))
  obtain ⟨g1, g2⟩ := and_e hg
  obtain ⟨g3, g4⟩ := and_e g2
  obtain ⟨g5, g6⟩ := and_e g4
  obtain ⟨g7, g8⟩ := and_e g6
  obtain ⟨g9, g10⟩ := and_e g8
  obtain ⟨g11, g12⟩ := and_e g10
  obtain ⟨w0, w1, w2, w3, w4, w5, rfl⟩ : ∃ w0 w1 w2 w3 w4 w5 : Value, args = #[w0, w1, w2, w3, w4, w5] := by
    have hs : args.size = 6 := by simpa [Cond.value, given_1] using g1
    obtain ⟨L⟩ := args
    match L, hs with
    | [w0, w1, w2, w3, w4, w5], _ => exact ⟨w0, w1, w2, w3, w4, w5, rfl⟩
  have hw := fun d (hd : d ∈ tables_1) => atoms_spec (ws := Jvm.Cond.code x code maxLocals ret :: tables_1) hat d (List.mem_cons_of_mem _ hd)
  have hfit : Fit s := fun {y c} hc i hi => by
    obtain ⟨ha, rfl⟩ := Array.getElem?_eq_some_iff.mp hc
    have q := List.all_eq_true.mp ((Array.all_eq_true_iff_forall_mem.mp hF) _ (Array.getElem_mem ha)) i (List.mem_range.mpr hi)
    simpa [Array.getElem?_eq_getElem hi] using q
  obtain ⟨i0, ei0⟩ := is_v g3
  obtain rfl : w0 = (.int i0) := Option.some.inj ei0
  obtain ⟨i1, ei1⟩ := isL_v g5
  obtain rfl : w1 = (.long i1) := Option.some.inj ei1
  obtain ⟨i2, ei2⟩ := is_v g7
  obtain rfl : w2 = (.int i2) := Option.some.inj ei2
  obtain ⟨i3, ei3⟩ := isL_v g9
  obtain rfl : w3 = (.long i3) := Option.some.inj ei3
  obtain ⟨i4, ei4⟩ := is_v g11
  obtain rfl : w4 = (.int i4) := Option.some.inj ei4
  obtain ⟨i5, ei5⟩ := is_v g12
  obtain rfl : w5 = (.int i5) := Option.some.inj ei5
  obtain ⟨n, o, h1, h2, h3, _, L, rfl, ⟨rfl, N⟩, hq⟩ := own_rm0 l s _ hw tables_1 i0 i1 i2 i3 i4 i5 s.heap s.heap.size (Nat.le_refl _)  p e ha hc hk s m _ below hf ((Spec.applies_iff_loose hf).mp happ).1 ⟨rfl, State.Warmed39.refl s, rfl⟩ trivial
  refine ⟨n, _, h1, h2, h3, hpost _ _ _ _ _ _ ⟨Cond.after_iff.mpr rfl, Cond.after_iff.mpr (eq_i res_at (Term.int_eval (1)) rfl), trivial⟩ ⟨hq.1, hq.2.1, hq.2.2.1, (hq.2.2.2.sift fun y hy => Or.inr (N y hy)).mono (by decide) (by decide)⟩⟩
theorem main_1_1 : Claimed_1_1 := comes_1 fun _ _ _ _ _ _ h hF => ⟨h.1, hF⟩
theorem main_1_2 : Claimed_1_2 := comes_1 fun _ _ _ _ _ _ h hF => ⟨h.2.1, hF⟩
end Jvm.Pilot.@@N@@
namespace Jvm.Pilot.@@N@@
open Jvm Jvm.ClassFile Sem Op Lib Jvm.Free Jvm.Stand Jvm.Pilot.@@N@@.Jvm.D
/-! MADE BY PROGRAM (witnessworld.py) out of the Statement's table words and the real class files: 16 classes; the members and pool entries that the words name. The judged class is class 1, her method 1. -/
namespace start1
open Jvm.ClassFile
def u (s : String) : CpInfo := .utf8 (stringToUtf16 s)
/-- a pool by its gaps: so many unusable entries, then the entry; so many at the end -/
def gap : Nat → List CpInfo → List CpInfo
  | 0, r => r
  | n + 1, r => .unusable :: gap n r
def poolList (es : List (Nat × CpInfo)) (last : Nat) : List CpInfo := es.foldr (fun e r => gap e.1 (e.2 :: r)) (gap last [])
def pool (es : List (Nat × CpInfo)) (last : Nat) : Array CpInfo := ⟨poolList es last⟩
def fileOf (pool : Array CpInfo) (this : Nat) (attrs : Array Attribute := #[]) (ms : Array MethodInfo := #[]) (fl : Nat := 33) (sup : Nat := 0) (ifs : Array Nat := #[]) (fds : Array FieldInfo := #[]) : ClassFile where
  minorVersion := 0
  majorVersion := 65
  constantPool := pool
  accessFlags := fl
  thisClass := this
  superClass := sup
  interfaces := ifs
  fields := fds
  methods := ms
  attributes := attrs
def plain (name : String) (sup : Option ClassId) : Class where
  name := name
  kind := .ordinary
  loader := none
  accessFlags := 33
  super := sup
  interfaces := #[]
  cf := none
  fields := #[]
  methods := #[]
  instanceTypes := #[]
  staticTypes := #[]
  resolved := #[]
  callSites := []
  init := .initialized
  statics := none
  mirror := none

def pool0 : Array CpInfo := pool [(5, u "<init>"), (0, u "()V"), (1, .class_ 10), (1, u "java/lang/Object")] 113

def k0c0 : Code := { maxStack := 0, maxLocals := 1, code := object_method_1_code, exceptionTable := #[], attributes := #[] }
def k0m0 : Method := { name := "<init>", desc := "()V", sig := { parameters := [], returnType := none }, accessFlags := 1, code := some k0c0 }
/-- java/lang/Object -/
def k0 : Class := { plain "java/lang/Object" none with
  accessFlags := 33
  interfaces := #[]
  cf := some (fileOf pool0 8 #[] #[{ accessFlags := 1, nameIndex := 5, descriptorIndex := 6, attributes := #[] }] 33 0 #[] #[])
  fields := #[]
  methods := #[k0m0]
  instanceTypes := #[]
  staticTypes := #[]
  resolved := Array.replicate 124 none
  statics := none }

def pool1 : Array CpInfo := pool [(2, .class_ 4), (1, u "java/lang/Object"), (0, u "<init>"), (0, u "()V"), (0, .class_ 8), (0, u "com/example/bytewright/bytewright/io/Input"), (0, .methodref 7 10), (0, .nameAndType 5 11), (0, u "([B)V"), (0, .integer 2147483647), (2, .long 9223372036854775807), (1, .methodref 7 18), (0, .nameAndType 19 20), (0, u "skip"), (0, u "(I)V"), (0, .methodref 7 22), (0, .nameAndType 23 24), (0, u "setMaxBytes"), (0, u "(J)V"), (0, .long 8), (1, .methodref 28 29), (0, .class_ 30), (0, .nameAndType 31 32), (0, u "java/lang/Math"), (0, u "min"), (0, u "(II)I"), (0, .methodref 28 34), (0, .nameAndType 31 35), (0, u "(JJ)J"), (0, .methodref 7 37), (0, .nameAndType 38 39), (0, u "getMaxBytes"), (0, u "()J"), (0, .class_ 41), (0, u "com/example/bytewright/bytewright/io/InputGetMaxBytesPinLaw"), (2, u "law"), (0, u "(IJIJII)Z")] 3

def k1m0 : Method := { name := "<init>", desc := "()V", sig := { parameters := [], returnType := none }, accessFlags := 1, code := none }
def k1c1 : Code := { maxStack := 6, maxLocals := 25, code := code, exceptionTable := #[], attributes := #[] }
def k1m1 : Method := { name := "law", desc := "(IJIJII)Z", sig := { parameters := [.int, .long, .int, .long, .int, .int], returnType := some .boolean }, accessFlags := 9, code := some k1c1 }
/-- com/example/bytewright/bytewright/io/InputGetMaxBytesPinLaw -/
def k1 : Class := { plain "com/example/bytewright/bytewright/io/InputGetMaxBytesPinLaw" (some 0) with
  accessFlags := 49
  interfaces := #[]
  cf := some (fileOf pool1 40 #[] #[{ accessFlags := 1, nameIndex := 5, descriptorIndex := 6, attributes := #[] }, { accessFlags := 9, nameIndex := 44, descriptorIndex := 45, attributes := #[] }] 49 2 #[] #[])
  fields := #[]
  methods := #[k1m0, k1m1]
  instanceTypes := #[]
  staticTypes := #[]
  resolved := Array.replicate 49 none
  statics := none }

def pool2 : Array CpInfo := pool [(1, .methodref 2 3), (0, .class_ 4), (0, .nameAndType 5 6), (0, u "java/lang/Object"), (0, u "<init>"), (0, u "()V"), (2, .long 9223372036854775807), (1, .fieldref 12 13), (0, .class_ 14), (0, .nameAndType 15 16), (0, u "com/example/bytewright/bytewright/io/Input"), (0, u "end"), (0, u "J"), (2, .integer 2147483647), (0, .fieldref 12 21), (0, .nameAndType 22 23), (0, u "maxArrayLength"), (0, u "I"), (0, .fieldref 12 25), (0, .nameAndType 26 27), (0, u "source"), (0, u "Lcom/example/bytewright/bytewright/io/Input$Source;"), (0, .string 29), (0, u "bytes"), (0, .methodref 31 32), (0, .class_ 33), (0, .nameAndType 34 35), (0, u "java/util/Objects"), (0, u "requireNonNull"), (0, u "(Ljava/lang/Object;Ljava/lang/String;)Ljava/lang/Object;"), (0, .class_ 37), (0, u "[B"), (0, .fieldref 12 39), (0, .nameAndType 40 37), (0, u "buffer"), (0, .fieldref 12 42), (0, .nameAndType 43 23), (0, u "limit"), (0, .fieldref 12 45), (0, .nameAndType 46 23), (0, u "filled"), (0, .class_ 48), (0, u "com/example/bytewright/bytewright/io/Input$ByteBufferSource"), (11, .methodref 61 62), (0, .class_ 63), (0, .nameAndType 64 65), (0, u "java/lang/Math"), (0, u "min"), (0, u "(II)I"), (3, .class_ 70), (0, u "com/example/bytewright/bytewright/io/Input$StreamSource"), (13, .methodref 12 85), (0, .nameAndType 86 87), (0, u "require"), (0, u "(I)V"), (0, .fieldref 12 89), (0, .nameAndType 90 23), (0, u "position"), (0, .methodref 12 92), (0, .nameAndType 93 94), (0, u "total"), (0, u "()J"), (142, .methodref 12 238), (0, .nameAndType 239 240), (0, u "requireDeclared"), (0, u "(JLjava/lang/String;JLjava/lang/String;)V"), (34, .string 276), (0, u "byte"), (4, .string 282), (0, u "A run"), (3, .methodref 12 287), (0, .nameAndType 288 6), (0, u "clampLimit"), (1, .fieldref 12 291), (0, .nameAndType 292 16), (0, u "consumed"), (21, u "SMALLEST_OF_WIDTH"), (0, u "[I"), (9, .methodref 12 326), (0, .nameAndType 327 94), (0, u "bytesLeft"), (5, u "(JJ)J"), (0, .methodref 61 335), (0, .nameAndType 64 333), (5, .class_ 343), (1, u "com/example/bytewright/bytewright/io/Input$Source"), (0, .long 18446744073709551615), (42, u "REPLACEMENT_CHARACTER"), (0, u "C"), (1, u "MAX_UTF8_BYTES"), (1, u "([B)V"), (35, u "skip"), (0, u "setMaxBytes"), (0, u "(J)V"), (0, u "getMaxBytes")] 60

def k2c0 : Code := { maxStack := 3, maxLocals := 2, code := prog_26_method_1_code, exceptionTable := #[], attributes := #[] }
def k2m0 : Method := { name := "<init>", desc := "([B)V", sig := { parameters := [(.array .byte)], returnType := none }, accessFlags := 1, code := some k2c0 }
def k2c1 : Code := { maxStack := 7, maxLocals := 4, code := prog_26_method_25_code, exceptionTable := #[], attributes := #[] }
def k2m1 : Method := { name := "skip", desc := "(I)V", sig := { parameters := [.int], returnType := none }, accessFlags := 1, code := some k2c1 }
def k2c2 : Code := { maxStack := 7, maxLocals := 3, code := prog_26_method_26_code, exceptionTable := #[], attributes := #[] }
def k2m2 : Method := { name := "setMaxBytes", desc := "(J)V", sig := { parameters := [.long], returnType := none }, accessFlags := 1, code := some k2c2 }
def k2c3 : Code := { maxStack := 4, maxLocals := 1, code := prog_26_method_27_code, exceptionTable := #[], attributes := #[] }
def k2m3 : Method := { name := "getMaxBytes", desc := "()J", sig := { parameters := [], returnType := some .long }, accessFlags := 1, code := some k2c3 }
def k2c4 : Code := { maxStack := 4, maxLocals := 1, code := prog_26_method_30_code, exceptionTable := #[], attributes := #[] }
def k2m4 : Method := { name := "total", desc := "()J", sig := { parameters := [], returnType := some .long }, accessFlags := 1, code := some k2c4 }
def k2c5 : Code := { maxStack := 7, maxLocals := 1, code := prog_26_method_36_code, exceptionTable := #[], attributes := #[] }
def k2m5 : Method := { name := "clampLimit", desc := "()V", sig := { parameters := [], returnType := none }, accessFlags := 2, code := some k2c5 }
def k2c6 : Code := { maxStack := 4, maxLocals := 3, code := prog_26_method_38_code, exceptionTable := #[], attributes := #[] }
def k2m6 : Method := { name := "bytesLeft", desc := "()J", sig := { parameters := [], returnType := some .long }, accessFlags := 2, code := some k2c6 }
def k2c7 : Code := { maxStack := 2, maxLocals := 2, code := prog_26_method_39_code, exceptionTable := #[], attributes := #[] }
def k2m7 : Method := { name := "require", desc := "(I)V", sig := { parameters := [.int], returnType := none }, accessFlags := 2, code := some k2c7 }
def k2c8 : Code := { maxStack := 9, maxLocals := 9, code := prog_26_method_42_code, exceptionTable := #[], attributes := #[] }
def k2m8 : Method := { name := "requireDeclared", desc := "(JLjava/lang/String;JLjava/lang/String;)V", sig := { parameters := [.long, (.object "java/lang/String"), .long, (.object "java/lang/String")], returnType := none }, accessFlags := 2, code := some k2c8 }
/-- com/example/bytewright/bytewright/io/Input -/
def k2 : Class := { plain "com/example/bytewright/bytewright/io/Input" (some 0) with
  accessFlags := 49
  interfaces := #[]
  cf := some (fileOf pool2 12 #[.nestMembers #[47, 69, 341]] #[{ accessFlags := 1, nameIndex := 5, descriptorIndex := 392, attributes := #[] }, { accessFlags := 1, nameIndex := 428, descriptorIndex := 87, attributes := #[] }, { accessFlags := 1, nameIndex := 429, descriptorIndex := 430, attributes := #[] }, { accessFlags := 1, nameIndex := 431, descriptorIndex := 94, attributes := #[] }, { accessFlags := 1, nameIndex := 93, descriptorIndex := 94, attributes := #[] }, { accessFlags := 2, nameIndex := 288, descriptorIndex := 6, attributes := #[] }, { accessFlags := 2, nameIndex := 327, descriptorIndex := 94, attributes := #[] }, { accessFlags := 2, nameIndex := 86, descriptorIndex := 87, attributes := #[] }, { accessFlags := 2, nameIndex := 239, descriptorIndex := 240, attributes := #[] }] 49 2 #[] #[{ accessFlags := 26, nameIndex := 387, descriptorIndex := 388, attributes := #[] }, { accessFlags := 26, nameIndex := 390, descriptorIndex := 23, attributes := #[] }, { accessFlags := 26, nameIndex := 314, descriptorIndex := 315, attributes := #[] }, { accessFlags := 18, nameIndex := 26, descriptorIndex := 27, attributes := #[] }, { accessFlags := 18, nameIndex := 40, descriptorIndex := 37, attributes := #[] }, { accessFlags := 2, nameIndex := 90, descriptorIndex := 23, attributes := #[] }, { accessFlags := 2, nameIndex := 43, descriptorIndex := 23, attributes := #[] }, { accessFlags := 2, nameIndex := 46, descriptorIndex := 23, attributes := #[] }, { accessFlags := 2, nameIndex := 292, descriptorIndex := 16, attributes := #[] }, { accessFlags := 2, nameIndex := 15, descriptorIndex := 16, attributes := #[] }, { accessFlags := 2, nameIndex := 22, descriptorIndex := 23, attributes := #[] }])
  fields := #[{ name := "REPLACEMENT_CHARACTER", type := .char, accessFlags := 26, slot := 0, constantValue := 0 }, { name := "MAX_UTF8_BYTES", type := .int, accessFlags := 26, slot := 1, constantValue := 0 }, { name := "SMALLEST_OF_WIDTH", type := (.array .int), accessFlags := 26, slot := 2, constantValue := 0 }, { name := "source", type := (.object "com/example/bytewright/bytewright/io/Input$Source"), accessFlags := 18, slot := 0, constantValue := 0 }, { name := "buffer", type := (.array .byte), accessFlags := 18, slot := 1, constantValue := 0 }, { name := "position", type := .int, accessFlags := 2, slot := 2, constantValue := 0 }, { name := "limit", type := .int, accessFlags := 2, slot := 3, constantValue := 0 }, { name := "filled", type := .int, accessFlags := 2, slot := 4, constantValue := 0 }, { name := "consumed", type := .long, accessFlags := 2, slot := 5, constantValue := 0 }, { name := "end", type := .long, accessFlags := 2, slot := 6, constantValue := 0 }, { name := "maxArrayLength", type := .int, accessFlags := 2, slot := 7, constantValue := 0 }]
  methods := #[k2m0, k2m1, k2m2, k2m3, k2m4, k2m5, k2m6, k2m7, k2m8]
  instanceTypes := #[(.object "com/example/bytewright/bytewright/io/Input$Source"), (.array .byte), .int, .int, .int, .long, .long, .int]
  staticTypes := #[.char, .int, (.array .int)]
  resolved := Array.replicate 492 none
  statics := none }

def pool3 : Array CpInfo := pool [(1, .class_ 2), (0, u "java/io/Serializable"), (0, .class_ 4), (0, u "java/lang/Object")] 2

/-- java/io/Serializable -/
def k3 : Class := { plain "java/io/Serializable" (some 0) with
  accessFlags := 1537
  interfaces := #[]
  cf := some (fileOf pool3 1 #[] #[] 1537 3 #[] #[])
  fields := #[]
  methods := #[]
  instanceTypes := #[]
  staticTypes := #[]
  resolved := Array.replicate 7 none
  statics := none }

def pool4 : Array CpInfo := pool [(1, .class_ 2), (0, u "java/lang/Comparable"), (0, .class_ 4), (0, u "java/lang/Object")] 7

/-- java/lang/Comparable -/
def k4 : Class := { plain "java/lang/Comparable" (some 0) with
  accessFlags := 1537
  interfaces := #[]
  cf := some (fileOf pool4 1 #[] #[] 1537 3 #[] #[])
  fields := #[]
  methods := #[]
  instanceTypes := #[]
  staticTypes := #[]
  resolved := Array.replicate 12 none
  statics := none }

def pool5 : Array CpInfo := pool [(2, .class_ 4), (1, u "java/lang/CharSequence"), (42, .class_ 48), (0, u "java/lang/CharSequence$1CodePointIterator"), (10, .class_ 60), (0, u "java/lang/CharSequence$1CharIterator"), (5, .class_ 67), (0, u "java/lang/Object")] 63

/-- java/lang/CharSequence -/
def k5 : Class := { plain "java/lang/CharSequence" (some 0) with
  accessFlags := 1537
  interfaces := #[]
  cf := some (fileOf pool5 2 #[.nestMembers #[47, 59]] #[] 1537 66 #[] #[])
  fields := #[]
  methods := #[]
  instanceTypes := #[]
  staticTypes := #[]
  resolved := Array.replicate 131 none
  statics := none }

def pool6 : Array CpInfo := pool [(1, .class_ 2), (0, u "java/lang/constant/Constable"), (0, .class_ 4), (0, u "java/lang/Object")] 6

/-- java/lang/constant/Constable -/
def k6 : Class := { plain "java/lang/constant/Constable" (some 0) with
  accessFlags := 1537
  interfaces := #[]
  cf := some (fileOf pool6 1 #[] #[] 1537 3 #[] #[])
  fields := #[]
  methods := #[]
  instanceTypes := #[]
  staticTypes := #[]
  resolved := Array.replicate 11 none
  statics := none }

def pool7 : Array CpInfo := pool [(1, .class_ 2), (0, u "java/lang/constant/ConstantDesc"), (0, .class_ 4), (0, u "java/lang/Object")] 32

/-- java/lang/constant/ConstantDesc -/
def k7 : Class := { plain "java/lang/constant/ConstantDesc" (some 0) with
  accessFlags := 1537
  interfaces := #[]
  cf := some (fileOf pool7 1 #[] #[] 1537 3 #[] #[])
  fields := #[]
  methods := #[]
  instanceTypes := #[]
  staticTypes := #[]
  resolved := Array.replicate 37 none
  statics := none }

def pool8 : Array CpInfo := pool [(2, .class_ 4), (1, u "java/lang/Object"), (0, u "<init>"), (0, u "()V"), (3, .class_ 12), (1, u "java/lang/String"), (0, u "value"), (0, u "[B"), (2, u "coder"), (0, u "B"), (2, u "hash"), (0, u "I"), (2, u "hashIsZero"), (0, u "Z"), (13, u "COMPACT_STRINGS"), (534, .class_ 576), (0, u "java/lang/CharSequence"), (22, u "CASE_INSENSITIVE_ORDER"), (0, u "Ljava/util/Comparator;"), (500, u "serialPersistentFields"), (0, u "[Ljava/io/ObjectStreamField;"), (0, .class_ 1104), (0, u "java/lang/String$CaseInsensitiveComparator"), (1, .class_ 1107), (0, u "java/io/Serializable"), (0, .class_ 1109), (0, u "java/lang/Comparable"), (0, .class_ 1111), (0, u "java/lang/constant/Constable"), (0, .class_ 1113), (0, u "java/lang/constant/ConstantDesc"), (2, u "serialVersionUID"), (0, u "J"), (3, u "REPL"), (0, u "C"), (2, u "LATIN1"), (1, u "UTF16")] 323

def k8m0 : Method := { name := "<init>", desc := "()V", sig := { parameters := [], returnType := none }, accessFlags := 1, code := none }
/-- java/lang/String -/
def k8 : Class := { plain "java/lang/String" (some 0) with
  accessFlags := 49
  interfaces := #[3, 4, 5, 6, 7]
  cf := some (fileOf pool8 10 #[.nestMembers #[1103]] #[{ accessFlags := 1, nameIndex := 5, descriptorIndex := 6, attributes := #[] }] 49 2 #[1106, 1108, 575, 1110, 1112] #[{ accessFlags := 18, nameIndex := 13, descriptorIndex := 14, attributes := #[] }, { accessFlags := 18, nameIndex := 17, descriptorIndex := 18, attributes := #[] }, { accessFlags := 2, nameIndex := 21, descriptorIndex := 22, attributes := #[] }, { accessFlags := 2, nameIndex := 25, descriptorIndex := 26, attributes := #[] }, { accessFlags := 26, nameIndex := 1116, descriptorIndex := 1117, attributes := #[] }, { accessFlags := 24, nameIndex := 40, descriptorIndex := 26, attributes := #[] }, { accessFlags := 26, nameIndex := 1101, descriptorIndex := 1102, attributes := #[] }, { accessFlags := 26, nameIndex := 1121, descriptorIndex := 1122, attributes := #[] }, { accessFlags := 25, nameIndex := 599, descriptorIndex := 600, attributes := #[] }, { accessFlags := 24, nameIndex := 1125, descriptorIndex := 18, attributes := #[] }, { accessFlags := 24, nameIndex := 1127, descriptorIndex := 18, attributes := #[] }])
  fields := #[{ name := "value", type := (.array .byte), accessFlags := 18, slot := 0, constantValue := 0 }, { name := "coder", type := .byte, accessFlags := 18, slot := 1, constantValue := 0 }, { name := "hash", type := .int, accessFlags := 2, slot := 2, constantValue := 0 }, { name := "hashIsZero", type := .boolean, accessFlags := 2, slot := 3, constantValue := 0 }, { name := "serialVersionUID", type := .long, accessFlags := 26, slot := 0, constantValue := 0 }, { name := "COMPACT_STRINGS", type := .boolean, accessFlags := 24, slot := 1, constantValue := 0 }, { name := "serialPersistentFields", type := (.array (.object "java/io/ObjectStreamField")), accessFlags := 26, slot := 2, constantValue := 0 }, { name := "REPL", type := .char, accessFlags := 26, slot := 3, constantValue := 0 }, { name := "CASE_INSENSITIVE_ORDER", type := (.object "java/util/Comparator"), accessFlags := 25, slot := 4, constantValue := 0 }, { name := "LATIN1", type := .byte, accessFlags := 24, slot := 5, constantValue := 0 }, { name := "UTF16", type := .byte, accessFlags := 24, slot := 6, constantValue := 0 }]
  methods := #[k8m0]
  instanceTypes := #[(.array .byte), .byte, .int, .boolean]
  staticTypes := #[.long, .boolean, (.array (.object "java/io/ObjectStreamField")), .char, (.object "java/util/Comparator"), .byte, .byte]
  resolved := Array.replicate 1451 none
  statics := none }

def pool9 : Array CpInfo := pool [(2, .class_ 4), (1, u "java/lang/Object"), (0, u "<init>"), (0, u "()V"), (35, .class_ 44), (1, u "java/util/Objects"), (0, u "requireNonNull"), (48, u "(Ljava/lang/Object;Ljava/lang/String;)Ljava/lang/Object;")] 89

def k9m0 : Method := { name := "<init>", desc := "()V", sig := { parameters := [], returnType := none }, accessFlags := 2, code := none }
def k9c1 : Code := { maxStack := 3, maxLocals := 2, code := jdk_31_method_11_code, exceptionTable := #[], attributes := #[] }
def k9m1 : Method := { name := "requireNonNull", desc := "(Ljava/lang/Object;Ljava/lang/String;)Ljava/lang/Object;", sig := { parameters := [(.object "java/lang/Object"), (.object "java/lang/String")], returnType := some (.object "java/lang/Object") }, accessFlags := 9, code := some k9c1 }
/-- java/util/Objects -/
def k9 : Class := { plain "java/util/Objects" (some 0) with
  accessFlags := 49
  interfaces := #[]
  cf := some (fileOf pool9 42 #[] #[{ accessFlags := 2, nameIndex := 5, descriptorIndex := 6, attributes := #[] }, { accessFlags := 9, nameIndex := 45, descriptorIndex := 94, attributes := #[] }] 49 2 #[] #[])
  fields := #[]
  methods := #[k9m0, k9m1]
  instanceTypes := #[]
  staticTypes := #[]
  resolved := Array.replicate 184 none
  statics := none }

def pool10 : Array CpInfo := pool [(1, .class_ 2), (0, u "java/lang/Math"), (1, .class_ 6), (1, u "java/lang/Object"), (0, u "<init>"), (0, u "()V"), (89, .class_ 100), (1, u "java/lang/Math$RandomNumberGeneratorHolder"), (20, u "(JJ)J"), (50, u "negativeZeroFloatBits"), (0, u "J"), (2, u "negativeZeroDoubleBits"), (24, u "min"), (43, u "$assertionsDisabled"), (0, u "Z"), (88, u "(II)I"), (2, u "twoToTheDoubleScaleDown"), (0, u "D"), (4, u "twoToTheDoubleScaleUp"), (9, u "E"), (3, u "PI"), (2, u "TAU"), (2, u "DEGREES_TO_RADIANS"), (0, u "RADIANS_TO_DEGREES")] 94

def k10m0 : Method := { name := "<init>", desc := "()V", sig := { parameters := [], returnType := none }, accessFlags := 2, code := none }
def k10c1 : Code := { maxStack := 2, maxLocals := 2, code := jdk_29_method_69_code, exceptionTable := #[], attributes := #[] }
def k10m1 : Method := { name := "min", desc := "(II)I", sig := { parameters := [.int, .int], returnType := some .int }, accessFlags := 9, code := some k10c1 }
def k10c2 : Code := { maxStack := 4, maxLocals := 4, code := jdk_29_method_70_code, exceptionTable := #[], attributes := #[] }
def k10m2 : Method := { name := "min", desc := "(JJ)J", sig := { parameters := [.long, .long], returnType := some .long }, accessFlags := 9, code := some k10c2 }
/-- java/lang/Math -/
def k10 : Class := { plain "java/lang/Math" (some 0) with
  accessFlags := 49
  interfaces := #[]
  cf := some (fileOf pool10 1 #[.nestMembers #[98]] #[{ accessFlags := 2, nameIndex := 7, descriptorIndex := 8, attributes := #[] }, { accessFlags := 9, nameIndex := 201, descriptorIndex := 335, attributes := #[] }, { accessFlags := 9, nameIndex := 201, descriptorIndex := 121, attributes := #[] }] 49 4 #[] #[{ accessFlags := 25, nameIndex := 354, descriptorIndex := 339, attributes := #[] }, { accessFlags := 25, nameIndex := 358, descriptorIndex := 339, attributes := #[] }, { accessFlags := 25, nameIndex := 361, descriptorIndex := 339, attributes := #[] }, { accessFlags := 26, nameIndex := 364, descriptorIndex := 339, attributes := #[] }, { accessFlags := 26, nameIndex := 365, descriptorIndex := 339, attributes := #[] }, { accessFlags := 26, nameIndex := 172, descriptorIndex := 173, attributes := #[] }, { accessFlags := 26, nameIndex := 176, descriptorIndex := 173, attributes := #[] }, { accessFlags := 8, nameIndex := 344, descriptorIndex := 339, attributes := #[] }, { accessFlags := 8, nameIndex := 338, descriptorIndex := 339, attributes := #[] }, { accessFlags := 4120, nameIndex := 245, descriptorIndex := 246, attributes := #[] }])
  fields := #[{ name := "E", type := .double, accessFlags := 25, slot := 0, constantValue := 0 }, { name := "PI", type := .double, accessFlags := 25, slot := 1, constantValue := 0 }, { name := "TAU", type := .double, accessFlags := 25, slot := 2, constantValue := 0 }, { name := "DEGREES_TO_RADIANS", type := .double, accessFlags := 26, slot := 3, constantValue := 0 }, { name := "RADIANS_TO_DEGREES", type := .double, accessFlags := 26, slot := 4, constantValue := 0 }, { name := "negativeZeroFloatBits", type := .long, accessFlags := 26, slot := 5, constantValue := 0 }, { name := "negativeZeroDoubleBits", type := .long, accessFlags := 26, slot := 6, constantValue := 0 }, { name := "twoToTheDoubleScaleUp", type := .double, accessFlags := 8, slot := 7, constantValue := 0 }, { name := "twoToTheDoubleScaleDown", type := .double, accessFlags := 8, slot := 8, constantValue := 0 }, { name := "$assertionsDisabled", type := .boolean, accessFlags := 4120, slot := 9, constantValue := 0 }]
  methods := #[k10m0, k10m1, k10m2]
  instanceTypes := #[]
  staticTypes := #[.double, .double, .double, .double, .double, .long, .long, .double, .double, .boolean]
  resolved := Array.replicate 460 none
  statics := none }

def pool11 : Array CpInfo := pool [(1, u "java/lang/Cloneable"), (0, .class_ 1), (0, u "java/lang/Object"), (0, .class_ 3)] 3

/-- java/lang/Cloneable -/
def k11 : Class := { plain "java/lang/Cloneable" (some 0) with
  accessFlags := 1537
  interfaces := #[]
  cf := some (fileOf pool11 2 #[] #[] 1537 4 #[] #[])
  fields := #[]
  methods := #[]
  instanceTypes := #[]
  staticTypes := #[]
  resolved := Array.replicate 8 none
  statics := none }

/-- the primitive byte -/
def k12 : Class := { plain "byte" none with kind := .primitive 'B', accessFlags := 0x411 }
/-- [B -/
def k13 : Class := { plain "[B" (some 0) with kind := .array 12 .byte, interfaces := #[11, 3], accessFlags := 1041 }

/-- the primitive int -/
def k14 : Class := { plain "int" none with kind := .primitive 'I', accessFlags := 0x411 }
/-- [I -/
def k15 : Class := { plain "[I" (some 0) with kind := .array 14 .int, interfaces := #[11, 3], accessFlags := 1041 }

def heap : Heap := #[]
def classes : Array Class := #[k0, k1, k2, k3, k4, k5, k6, k7, k8, k9, k10, k11, k12, k13, k14, k15]
def interned : List (Array UInt16 × Addr) := []
def slotsUsed : Nat := 0
def theMethod : MethodId := ⟨1, 1⟩
def args0 : Array Value := #[.int 5, .long 7, .int 1, .long 2, .int 3, .int 3]
def aboutOver (below : List Frame) : State where
  vm := { classes := classes, interned := interned.toArray }
  heap := heap
  slotsUsed := slotsUsed
  threads := #[{ frames := .invoking theMethod args0 :: below }]
def below0 : List Frame := [.native { method := ⟨0, 0⟩, args := #[] }]
def about1 : State := aboutOver below0
def p0 : Program := .bare "" "" ""
def e0 : Env := launch0.env 0 0 0
theorem w_frames : about1.frames = Frame.invoking theMethod args0 :: below0 := rfl
set_option maxRecDepth 65536 in
theorem w_args : argsFit about1.vm theMethod args0 = true := by decide +kernel
set_option maxRecDepth 65536 in
theorem w_heap : heapFits about1 = true := by decide +kernel
set_option maxRecDepth 65536 in
theorem w_runnable : about1.curStatus? = some .runnable := by decide +kernel
set_option maxRecDepth 65536 in
theorem w_alone : about1.alone = true := by decide +kernel
set_option maxRecDepth 65536 in
theorem w_named : about1.methodNamed? x = some theMethod := by decide +kernel
set_option maxRecDepth 65536 in
theorem w_hears : about1.hears theMethod below0 = true := by decide +kernel
set_option maxRecDepth 65536 in
theorem w_ripe : about1.ripe theMethod args0 below0 = true := by decide +kernel
theorem w_running : about1.status = .running := rfl
set_option maxRecDepth 65536 in
theorem w_room : about1.hasRoom e0.platform room_1 = true :=
  launch0.hasRoom_least _ room_1 (by decide +kernel) (by decide +kernel) (by decide +kernel) (by decide +kernel) (by decide +kernel) (by decide +kernel)
theorem allAtoms_all (ts : List Jvm.Cond) (a : Array Jvm.Value) (st : Jvm.State) : (allAtoms ts).before a st = ts.all (fun c => c.before a st) := by
  induction ts with
  | nil => rfl
  | cons c t ih =>
    show (Jvm.Cond.and c (allAtoms t)).before a st = _
    rw [Jvm.Cond.before_and, ih, List.all_cons]
def words1 : List Jvm.Cond := Jvm.Cond.code x code maxLocals ret :: tables_1
/-- a 'code' word, met by the world's own term for the bytes: nothing is compared byte by byte -/
theorem code_word {y : MethodName} {bytes : ByteArray} {mx : Nat} {rt : Option FieldType} {a : Array Value} {s : State} {m : MethodId} {meth : Method} {c : Code} (h1 : s.methodNamed? y = some m) (h2 : s.vm.method? m = some meth) (h3 : meth.code = some c) (h4 : c.code = bytes)
    (h5 : (c.maxLocals == mx && c.exceptionTable.isEmpty && decide (c.maxStack ≤ mostOperands) && decide (meth.sig.returnType = rt) && !meth.locks && decide (parseMethodDescriptor y.desc = some meth.sig)) = true) : (Jvm.Cond.code y bytes mx rt).before a s = true := by
  simp only [Bool.and_eq_true, beq_iff_eq, Bool.not_eq_true', decide_eq_true_eq] at h5
  obtain ⟨⟨⟨⟨⟨g1, g2⟩, g3⟩, g4⟩, g5⟩, g6⟩ := h5
  simp [Cond.before, Cond.holds, Cond.value, h1, h2, h3, h4, g1, g2, g3, g4, g5, g6]
def isCode : Jvm.Cond → Bool
  | .code _ _ _ _ => true
  | _ => false
theorem all_split {L : List Jvm.Cond} {P : Jvm.Cond → Bool} (h1 : L.all (fun c => isCode c || P c) = true) (h2 : ∀ c ∈ L.filter isCode, P c = true) : L.all P = true := by
  refine List.all_eq_true.mpr fun c hc => ?_
  have h := List.all_eq_true.mp h1 c hc
  rcases Bool.eq_false_or_eq_true (isCode c) with hi | hi
  · exact h2 c (List.mem_filter.mpr ⟨hc, hi⟩)
  · simpa [hi] using h
set_option maxRecDepth 65536 in
theorem w_c0 : (Jvm.Cond.code x code maxLocals ret).before args0 about1 = true := code_word (m := ⟨1, 1⟩) (meth := k1m1) (c := k1c1) (by decide +kernel) rfl rfl rfl (by decide +kernel)
set_option maxRecDepth 65536 in
theorem w_c1 : (Jvm.Cond.code ({ cls := "com/example/bytewright/bytewright/io/Input", name := "<init>", desc := "([B)V" } : Jvm.MethodName) prog_26_method_1_code (2 : Nat) (Option.none : Option Jvm.ClassFile.FieldType)).before args0 about1 = true := code_word (m := ⟨2, 0⟩) (meth := k2m0) (c := k2c0) (by decide +kernel) rfl rfl rfl (by decide +kernel)
set_option maxRecDepth 65536 in
theorem w_c2 : (Jvm.Cond.code ({ cls := "java/lang/Object", name := "<init>", desc := "()V" } : Jvm.MethodName) object_method_1_code (1 : Nat) (Option.none : Option Jvm.ClassFile.FieldType)).before args0 about1 = true := code_word (m := ⟨0, 0⟩) (meth := k0m0) (c := k0c0) (by decide +kernel) rfl rfl rfl (by decide +kernel)
set_option maxRecDepth 65536 in
theorem w_c3 : (Jvm.Cond.code ({ cls := "java/util/Objects", name := "requireNonNull", desc := "(Ljava/lang/Object;Ljava/lang/String;)Ljava/lang/Object;" } : Jvm.MethodName) jdk_31_method_11_code (2 : Nat) (Option.some (Jvm.ClassFile.FieldType.object "java/lang/Object"))).before args0 about1 = true := code_word (m := ⟨9, 1⟩) (meth := k9m1) (c := k9c1) (by decide +kernel) rfl rfl rfl (by decide +kernel)
set_option maxRecDepth 65536 in
theorem w_c4 : (Jvm.Cond.code ({ cls := "com/example/bytewright/bytewright/io/Input", name := "skip", desc := "(I)V" } : Jvm.MethodName) prog_26_method_25_code (4 : Nat) (Option.none : Option Jvm.ClassFile.FieldType)).before args0 about1 = true := code_word (m := ⟨2, 1⟩) (meth := k2m1) (c := k2c1) (by decide +kernel) rfl rfl rfl (by decide +kernel)
set_option maxRecDepth 65536 in
theorem w_c5 : (Jvm.Cond.code ({ cls := "com/example/bytewright/bytewright/io/Input", name := "requireDeclared", desc := "(JLjava/lang/String;JLjava/lang/String;)V" } : Jvm.MethodName) prog_26_method_42_code (9 : Nat) (Option.none : Option Jvm.ClassFile.FieldType)).before args0 about1 = true := code_word (m := ⟨2, 8⟩) (meth := k2m8) (c := k2c8) (by decide +kernel) rfl rfl rfl (by decide +kernel)
set_option maxRecDepth 65536 in
theorem w_c6 : (Jvm.Cond.code ({ cls := "com/example/bytewright/bytewright/io/Input", name := "bytesLeft", desc := "()J" } : Jvm.MethodName) prog_26_method_38_code (3 : Nat) (Option.some Jvm.ClassFile.FieldType.long)).before args0 about1 = true := code_word (m := ⟨2, 6⟩) (meth := k2m6) (c := k2c6) (by decide +kernel) rfl rfl rfl (by decide +kernel)
set_option maxRecDepth 65536 in
theorem w_c7 : (Jvm.Cond.code ({ cls := "com/example/bytewright/bytewright/io/Input", name := "total", desc := "()J" } : Jvm.MethodName) prog_26_method_30_code (1 : Nat) (Option.some Jvm.ClassFile.FieldType.long)).before args0 about1 = true := code_word (m := ⟨2, 4⟩) (meth := k2m4) (c := k2c4) (by decide +kernel) rfl rfl rfl (by decide +kernel)
set_option maxRecDepth 65536 in
theorem w_c8 : (Jvm.Cond.code ({ cls := "com/example/bytewright/bytewright/io/Input", name := "setMaxBytes", desc := "(J)V" } : Jvm.MethodName) prog_26_method_26_code (3 : Nat) (Option.none : Option Jvm.ClassFile.FieldType)).before args0 about1 = true := code_word (m := ⟨2, 2⟩) (meth := k2m2) (c := k2c2) (by decide +kernel) rfl rfl rfl (by decide +kernel)
set_option maxRecDepth 65536 in
theorem w_c9 : (Jvm.Cond.code ({ cls := "com/example/bytewright/bytewright/io/Input", name := "clampLimit", desc := "()V" } : Jvm.MethodName) prog_26_method_36_code (1 : Nat) (Option.none : Option Jvm.ClassFile.FieldType)).before args0 about1 = true := code_word (m := ⟨2, 5⟩) (meth := k2m5) (c := k2c5) (by decide +kernel) rfl rfl rfl (by decide +kernel)
set_option maxRecDepth 65536 in
theorem w_c10 : (Jvm.Cond.code ({ cls := "java/lang/Math", name := "min", desc := "(JJ)J" } : Jvm.MethodName) jdk_29_method_70_code (4 : Nat) (Option.some Jvm.ClassFile.FieldType.long)).before args0 about1 = true := code_word (m := ⟨10, 2⟩) (meth := k10m2) (c := k10c2) (by decide +kernel) rfl rfl rfl (by decide +kernel)
set_option maxRecDepth 65536 in
theorem w_c11 : (Jvm.Cond.code ({ cls := "java/lang/Math", name := "min", desc := "(II)I" } : Jvm.MethodName) jdk_29_method_69_code (2 : Nat) (Option.some Jvm.ClassFile.FieldType.int)).before args0 about1 = true := code_word (m := ⟨10, 1⟩) (meth := k10m1) (c := k10c1) (by decide +kernel) rfl rfl rfl (by decide +kernel)
set_option maxRecDepth 65536 in
theorem w_c12 : (Jvm.Cond.code ({ cls := "com/example/bytewright/bytewright/io/Input", name := "require", desc := "(I)V" } : Jvm.MethodName) prog_26_method_39_code (2 : Nat) (Option.none : Option Jvm.ClassFile.FieldType)).before args0 about1 = true := code_word (m := ⟨2, 7⟩) (meth := k2m7) (c := k2c7) (by decide +kernel) rfl rfl rfl (by decide +kernel)
set_option maxRecDepth 65536 in
theorem w_c13 : (Jvm.Cond.code ({ cls := "com/example/bytewright/bytewright/io/Input", name := "getMaxBytes", desc := "()J" } : Jvm.MethodName) prog_26_method_27_code (1 : Nat) (Option.some Jvm.ClassFile.FieldType.long)).before args0 about1 = true := code_word (m := ⟨2, 3⟩) (meth := k2m3) (c := k2c3) (by decide +kernel) rfl rfl rfl (by decide +kernel)
def codes1 : List Jvm.Cond := [Jvm.Cond.code x code maxLocals ret, Jvm.Cond.code ({ cls := "com/example/bytewright/bytewright/io/Input", name := "<init>", desc := "([B)V" } : Jvm.MethodName) prog_26_method_1_code (2 : Nat) (Option.none : Option Jvm.ClassFile.FieldType), Jvm.Cond.code ({ cls := "java/lang/Object", name := "<init>", desc := "()V" } : Jvm.MethodName) object_method_1_code (1 : Nat) (Option.none : Option Jvm.ClassFile.FieldType), Jvm.Cond.code ({ cls := "java/util/Objects", name := "requireNonNull", desc := "(Ljava/lang/Object;Ljava/lang/String;)Ljava/lang/Object;" } : Jvm.MethodName) jdk_31_method_11_code (2 : Nat) (Option.some (Jvm.ClassFile.FieldType.object "java/lang/Object")), Jvm.Cond.code ({ cls := "com/example/bytewright/bytewright/io/Input", name := "skip", desc := "(I)V" } : Jvm.MethodName) prog_26_method_25_code (4 : Nat) (Option.none : Option Jvm.ClassFile.FieldType), Jvm.Cond.code ({ cls := "com/example/bytewright/bytewright/io/Input", name := "requireDeclared", desc := "(JLjava/lang/String;JLjava/lang/String;)V" } : Jvm.MethodName) prog_26_method_42_code (9 : Nat) (Option.none : Option Jvm.ClassFile.FieldType), Jvm.Cond.code ({ cls := "com/example/bytewright/bytewright/io/Input", name := "bytesLeft", desc := "()J" } : Jvm.MethodName) prog_26_method_38_code (3 : Nat) (Option.some Jvm.ClassFile.FieldType.long), Jvm.Cond.code ({ cls := "com/example/bytewright/bytewright/io/Input", name := "total", desc := "()J" } : Jvm.MethodName) prog_26_method_30_code (1 : Nat) (Option.some Jvm.ClassFile.FieldType.long), Jvm.Cond.code ({ cls := "com/example/bytewright/bytewright/io/Input", name := "setMaxBytes", desc := "(J)V" } : Jvm.MethodName) prog_26_method_26_code (3 : Nat) (Option.none : Option Jvm.ClassFile.FieldType), Jvm.Cond.code ({ cls := "com/example/bytewright/bytewright/io/Input", name := "clampLimit", desc := "()V" } : Jvm.MethodName) prog_26_method_36_code (1 : Nat) (Option.none : Option Jvm.ClassFile.FieldType), Jvm.Cond.code ({ cls := "java/lang/Math", name := "min", desc := "(JJ)J" } : Jvm.MethodName) jdk_29_method_70_code (4 : Nat) (Option.some Jvm.ClassFile.FieldType.long), Jvm.Cond.code ({ cls := "java/lang/Math", name := "min", desc := "(II)I" } : Jvm.MethodName) jdk_29_method_69_code (2 : Nat) (Option.some Jvm.ClassFile.FieldType.int), Jvm.Cond.code ({ cls := "com/example/bytewright/bytewright/io/Input", name := "require", desc := "(I)V" } : Jvm.MethodName) prog_26_method_39_code (2 : Nat) (Option.none : Option Jvm.ClassFile.FieldType), Jvm.Cond.code ({ cls := "com/example/bytewright/bytewright/io/Input", name := "getMaxBytes", desc := "()J" } : Jvm.MethodName) prog_26_method_27_code (1 : Nat) (Option.some Jvm.ClassFile.FieldType.long)]
set_option maxRecDepth 65536 in
theorem codes_eq : words1.filter isCode = codes1 := rfl
theorem w_codes : ∀ c ∈ words1.filter isCode, c.before args0 about1 = true := by
  rw [codes_eq]
  intro c hc
  simp only [codes1, List.mem_cons, List.not_mem_nil, or_false] at hc
  rcases hc with rfl | rfl | rfl | rfl | rfl | rfl | rfl | rfl | rfl | rfl | rfl | rfl | rfl | rfl
  · exact w_c0
  · exact w_c1
  · exact w_c2
  · exact w_c3
  · exact w_c4
  · exact w_c5
  · exact w_c6
  · exact w_c7
  · exact w_c8
  · exact w_c9
  · exact w_c10
  · exact w_c11
  · exact w_c12
  · exact w_c13
set_option maxRecDepth 65536 in
theorem w_t1 : (words1.take 24).all (fun c => isCode c || c.before args0 about1) = true := by decide +kernel
set_option maxRecDepth 65536 in
theorem w_t2 : ((words1.drop 24).take 24).all (fun c => isCode c || c.before args0 about1) = true := by decide +kernel
set_option maxRecDepth 65536 in
theorem w_t3 : (((words1.drop 24).drop 24).take 24).all (fun c => isCode c || c.before args0 about1) = true := by decide +kernel
set_option maxRecDepth 65536 in
theorem w_t4 : (((words1.drop 24).drop 24).drop 24).all (fun c => isCode c || c.before args0 about1) = true := by decide +kernel
theorem w_tables : (allAtoms (Jvm.Cond.code x code maxLocals ret :: tables_1)).before args0 about1 = true := by
  rw [allAtoms_all]
  show words1.all (fun c => c.before args0 about1) = true
  refine all_split ?_ w_codes
  rw [← List.take_append_drop 24 words1, List.all_append, w_t1, ← List.take_append_drop 24 (words1.drop 24), List.all_append, w_t2, ← List.take_append_drop 24 ((words1.drop 24).drop 24), List.all_append, w_t3, w_t4]
  rfl
set_option maxRecDepth 65536 in
theorem w_case : (Jvm.Cond.and given_1 narrow_1).before args0 about1 = true := by decide +kernel
theorem w_applies : (headSpec (Jvm.Cond.code x code maxLocals ret :: tables_1) room_1).applies x e0.platform about1 = true :=
  (Spec.applies_iff w_frames).mpr ⟨w_running, w_runnable, w_alone, w_named, w_hears, w_ripe, w_room, w_tables⟩
theorem atStart : AtStart classFile x code maxLocals ret World_1 tables_1 room_1 Calls_1 rest_1 Pre_1 launch0 p0 e0 about1 theMethod args0 below0 :=
  ⟨lists_1, trivial, launch0.admits_env _ _ _, launch0.least_env, fairChoices_fair.cas, fairChoices_fair.clock, w_frames, w_args, w_heap, w_applies, trivial, trivial, w_case⟩
end start1
theorem witness_1 : WitnessClaimed_1 := ⟨start1.p0, start1.e0, start1.about1, start1.theMethod, start1.args0, start1.below0, start1.atStart⟩
end Jvm.Pilot.@@N@@
