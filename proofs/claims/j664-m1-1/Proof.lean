import JvmDerived
import JvmDerived.Pilot.@@N@@Statement
import JvmDerived.Pilot.@@N@@Code
set_option linter.unusedVariables false
set_option linter.unusedSimpArgs false
namespace Jvm.OwnKit
open Sem ClassFile Op Lib Jvm.Stand Jvm.Free Jvm.LawKit Jvm.RoadKit
section Own
variable {p : Program} {l : Launch} {e : Env} {R : Room} {s : State} {m : MethodId} {args : Array Value} {below : List Frame} {meth : Method} {c : Code} {T : State} {locs : List Loc} {cells slots : Nat} {Z : State} {a0 : Array Value} {h : Heap} {bytes : ByteArray} {pc : Nat} {Ls : Array Slot} {st : List Value} {cs ss : Nat} {Q : Option Value → Heap → List Loc → Prop}
/-- from the state T with the frame F on top the run comes to the method's end, returns, and Q holds of what it returned, of the heap and of the places written -/
def zEnds (p : Program) (e : Env) (below : List Frame) (s T : State) (F : JFrame) (cs ss : Nat) (Q : Option Value → Heap → List Loc → Prop) : Prop :=
  ∃ s₂ o, Steps p.tables e below (T.setTop F) s₂ ∧ s₂.status = .running ∧ Ended s₂ below o ∧ ∃ v L, o = .returned v ∧ Q v s₂.heap L ∧ FrameEnd s o s₂ L cs ss
theorem zstp {T T' : State} {F F' : JFrame} (st : ∀ target, Steps p.tables e below (T'.setTop F') target → Steps p.tables e below (T.setTop F) target) (k : zEnds p e below s T' F' cs ss Q) : zEnds p e below s T F cs ss Q := by
  obtain ⟨s2, o, h1, r⟩ := k; exact ⟨s2, o, st _ h1, r⟩
/-- what a callee promises: with these arguments, over this heap, it returns, and Q holds -/
def zCon (l : Launch) (Z : State) (y : MethodName) (bytes : ByteArray) (maxL : Nat) (ret : Option FieldType) (ws : List Jvm.Cond) (rm : Room) (as' : Array Value) (h0 : Heap) (Q : Option Value → Heap → List Loc → Prop) : Prop :=
  MetFree l y (head1 (Jvm.Cond.code y bytes maxL ret :: ws) rm) (fun a U => a = as' ∧ Z.Warmed39 U.vm ∧ U.heap = h0) (fun _ _ _ _ _ => True) (fun _ U o U' => ∃ v L, o = .returned v ∧ Q v U'.heap L ∧ FrameEnd U o U' L rm.cells rm.slots)
/-- a callee that writes nothing -/
def zSame (v : Option Value) (h0 : Heap) : Option Value → Heap → List Loc → Prop := fun v' h L => v' = v ∧ h = h0 ∧ L = []
theorem zenter {y : MethodName} {maxL : Nat} {ret : Option FieldType} {ws : List Jvm.Cond} {rm : Room} {as' : Array Value} {h0 : Heap} (hpl : plainFor y = true) {L0 : Array Slot} (hef : ∀ m, entryFrame m as' maxL = mkF m 0 L0 [])
    (H : ∀ (p : Program) (e : Env) (s : State) (m : MethodId) (below : List Frame) (meth : Method) (c : Code) (T : State), p.tables.exec = Jvm.exec → Z.Warmed39 s.vm → c.code = bytes → c.maxLocals = maxL → s.vm.findClass y.cls = some m.cls → meth.name = y.name → meth.sig.returnType = ret → meth.locks = false →
      Stand p l e rm s m as' below meth c T [] 0 0 → T.heap = h0 → zEnds p e below s T (mkF m 0 L0 []) rm.cells rm.slots Q) : zCon l Z y bytes maxL ret ws rm as' h0 Q := by
  refine MetFree.of_bodySF hpl hisR ?_
  intro p e s m args below meth c s₁ Bd hml0 hP hK
  obtain ⟨rfl, hZ, hh⟩ := hP
  have := H p e s m below meth c s₁ Bd.exec hZ Bd.bytes hml0 (findClass_of_methodNamed Bd.named) (name_of_methodNamed Bd.named Bd.method).1 Bd.returns Bd.notSynchronized (Stand.of_body Bd) (by rw [← hh, Bd.state]; rfl)
  rw [← hef m] at this
  exact this
theorem zCon.weak {y : MethodName} {maxL : Nat} {ret : Option FieldType} {ws : List Jvm.Cond} {rm : Room} {as' : Array Value} {h0 : Heap} {Q' : Option Value → Heap → List Loc → Prop} (C : zCon l Z y bytes maxL ret ws rm as' h0 Q) (q : ∀ v h L, Q v h L → Q' v h L) : zCon l Z y bytes maxL ret ws rm as' h0 Q' := by
  intro p e ha hc hk s m args below hf happ hP hK
  obtain ⟨n, o, h1, h2, h3, v, L, h4, h5, h6⟩ := C p e ha hc hk s m args below hf happ hP hK
  exact ⟨n, o, h1, h2, h3, v, L, h4, q v _ L h5, h6⟩
theorem zsameTo {T : State} {F : JFrame} {a b : Value} {h0 : Heap} (k : zEnds p e below s T F cs ss (zSame (some a) h0)) (q : a = b) : zEnds p e below s T F cs ss (zSame (some b) h0) := q ▸ k
/-! returns -/
theorem zretG {w : Value} {t : FieldType} {i : Instr} (X : Stand p l e R s m args below meth c T locs cells slots) (hx : p.tables.exec = Jvm.exec) (hby : c.code = bytes) (hd : decode bytes pc = .ok (i, 1)) (hret : meth.sig.returnType = some t) (hlk : meth.locks = false) (hn : narrow t w = w)
    (hi : (i = .ireturn ∧ (t = .int ∨ t = .boolean ∨ t = .byte ∨ t = .char ∨ t = .short) ∧ ∃ z, w = .int z) ∨ (i = .lreturn ∧ t = .long ∧ ∃ z, w = .long z) ∨ (i = .dreturn ∧ t = .double ∧ ∃ z, w = .double z) ∨ (i = .freturn ∧ t = .float ∧ ∃ z, w = .float z) ∨ (i = .areturn ∧ t.isReference = true ∧ w.isRef = true))
    (hc : cells ≤ cs) (hs : slots ≤ ss) (hq : Q (some w) T.heap locs) : zEnds p e below s T (mkF m pc Ls (w :: st)) cs ss Q := by
  obtain ⟨fs, hr, hrun, hended, hW, hsame⟩ := X.leave (v := some w) (fun q => by rw [hret] at q; cases q) hlk
  exact ⟨_, _, retOut X hx hret hn hi (hb hby hd) hr, hrun, hended, _, _, rfl, hq, ⟨_, rfl⟩, hW, hsame.mono hc hs⟩
theorem zretI {z : Int32} (X : Stand p l e R s m args below meth c T locs cells slots) (hx : p.tables.exec = Jvm.exec) (hby : c.code = bytes) (hd : decode bytes pc = .ok (.ireturn, 1)) (hret : meth.sig.returnType = some .int) (hlk : meth.locks = false) (hc : cells ≤ cs) (hs : slots ≤ ss) (hq : Q (some (.int z)) T.heap locs) : zEnds p e below s T (mkF m pc Ls (.int z :: st)) cs ss Q :=
  zretG X hx hby hd hret hlk rfl (Or.inl ⟨rfl, Or.inl rfl, z, rfl⟩) hc hs hq
theorem zretZ {z : Int32} {t : FieldType} (X : Stand p l e R s m args below meth c T locs cells slots) (hx : p.tables.exec = Jvm.exec) (hby : c.code = bytes) (hd : decode bytes pc = .ok (.ireturn, 1)) (hret : meth.sig.returnType = some t) (hlk : meth.locks = false) (ht : t = .boolean ∨ t = .byte ∨ t = .char ∨ t = .short) (hn : narrow t (.int z) = .int z) (hc : cells ≤ cs) (hs : slots ≤ ss) (hq : Q (some (.int z)) T.heap locs) : zEnds p e below s T (mkF m pc Ls (.int z :: st)) cs ss Q :=
  zretG X hx hby hd hret hlk hn (Or.inl ⟨rfl, Or.inr ht, z, rfl⟩) hc hs hq
theorem zretL {z : Int64} (X : Stand p l e R s m args below meth c T locs cells slots) (hx : p.tables.exec = Jvm.exec) (hby : c.code = bytes) (hd : decode bytes pc = .ok (.lreturn, 1)) (hret : meth.sig.returnType = some .long) (hlk : meth.locks = false) (hc : cells ≤ cs) (hs : slots ≤ ss) (hq : Q (some (.long z)) T.heap locs) : zEnds p e below s T (mkF m pc Ls (.long z :: st)) cs ss Q :=
  zretG X hx hby hd hret hlk rfl (Or.inr (Or.inl ⟨rfl, rfl, z, rfl⟩)) hc hs hq
theorem zretA {w : Value} {t : FieldType} (X : Stand p l e R s m args below meth c T locs cells slots) (hx : p.tables.exec = Jvm.exec) (hby : c.code = bytes) (hd : decode bytes pc = .ok (.areturn, 1)) (hret : meth.sig.returnType = some t) (hlk : meth.locks = false) (ht : t.isReference = true) (hw : w.isRef = true) (hn : narrow t w = w) (hc : cells ≤ cs) (hs : slots ≤ ss) (hq : Q (some w) T.heap locs) : zEnds p e below s T (mkF m pc Ls (w :: st)) cs ss Q :=
  zretG X hx hby hd hret hlk hn (Or.inr (Or.inr (Or.inr (Or.inr ⟨rfl, ht, hw⟩)))) hc hs hq
theorem zretV (X : Stand p l e R s m args below meth c T locs cells slots) (hx : p.tables.exec = Jvm.exec) (hby : c.code = bytes) (hd : decode bytes pc = .ok (.return_, 1)) (hret : meth.sig.returnType = none) (hlk : meth.locks = false) (hc : cells ≤ cs) (hs : slots ≤ ss) (hq : Q none T.heap locs) : zEnds p e below s T (mkF m pc Ls []) cs ss Q := by
  obtain ⟨fs, hr, hrun, hended, hW, hsame⟩ := X.leave (v := none) (fun _ => rfl) hlk
  exact ⟨_, _, X.returnOut hx hret (hb hby hd) hr, hrun, hended, _, _, rfl, hq, ⟨_, rfl⟩, hW, hsame.mono hc hs⟩
/-! single steps -/

theorem ziloadN (X : Stand p l e R s m args below meth c T locs cells slots) (hx : p.tables.exec = Jvm.exec) (hby : c.code = bytes) {k : Fin 4} {v : Int32} (hd : decode bytes pc = .ok (.iload_n k, 1)) (hl : Ls[k.val]? = some (.val (.int v))) (r : zEnds p e below s T (mkF m (pc + 1) Ls (.int v :: st)) cs ss Q) : zEnds p e below s T (mkF m pc Ls st) cs ss Q := zstp (fun _ k => XS.iloadN X.here hx rfl (hb hby hd) hl k) r
theorem ziload (X : Stand p l e R s m args below meth c T locs cells slots) (hx : p.tables.exec = Jvm.exec) (hby : c.code = bytes) {k : Nat} {v : Int32} (hd : decode bytes pc = .ok (.iload k, 2)) (hl : Ls[k]? = some (.val (.int v))) (r : zEnds p e below s T (mkF m (pc + 2) Ls (.int v :: st)) cs ss Q) : zEnds p e below s T (mkF m pc Ls st) cs ss Q := zstp (fun _ k => XS.iload X.here hx rfl (hb hby hd) hl k) r
theorem zlloadN (X : Stand p l e R s m args below meth c T locs cells slots) (hx : p.tables.exec = Jvm.exec) (hby : c.code = bytes) {k : Fin 4} {v : Int64} (hd : decode bytes pc = .ok (.lload_n k, 1)) (hl : Ls[k.val]? = some (.val (.long v))) (r : zEnds p e below s T (mkF m (pc + 1) Ls (.long v :: st)) cs ss Q) : zEnds p e below s T (mkF m pc Ls st) cs ss Q := zstp (fun _ k => XS.lloadN X.here hx rfl (hb hby hd) hl k) r
theorem zlload (X : Stand p l e R s m args below meth c T locs cells slots) (hx : p.tables.exec = Jvm.exec) (hby : c.code = bytes) {k : Nat} {v : Int64} (hd : decode bytes pc = .ok (.lload k, 2)) (hl : Ls[k]? = some (.val (.long v))) (r : zEnds p e below s T (mkF m (pc + 2) Ls (.long v :: st)) cs ss Q) : zEnds p e below s T (mkF m pc Ls st) cs ss Q := zstp (fun _ k => XS.lload X.here hx rfl (hb hby hd) hl k) r
theorem zaloadN (X : Stand p l e R s m args below meth c T locs cells slots) (hx : p.tables.exec = Jvm.exec) (hby : c.code = bytes) {k : Fin 4} {v : Value} (hd : decode bytes pc = .ok (.aload_n k, 1)) (hl : Ls[k.val]? = some (.val v)) (hv : v.isRef = true) (r : zEnds p e below s T (mkF m (pc + 1) Ls (v :: st)) cs ss Q) : zEnds p e below s T (mkF m pc Ls st) cs ss Q := zstp (fun _ k => XS.aloadN X.here hx rfl (hb hby hd) hl hv k) r
theorem zaload (X : Stand p l e R s m args below meth c T locs cells slots) (hx : p.tables.exec = Jvm.exec) (hby : c.code = bytes) {k : Nat} {v : Value} (hd : decode bytes pc = .ok (.aload k, 2)) (hl : Ls[k]? = some (.val v)) (hv : v.isRef = true) (r : zEnds p e below s T (mkF m (pc + 2) Ls (v :: st)) cs ss Q) : zEnds p e below s T (mkF m pc Ls st) cs ss Q := zstp (fun _ k => XS.aload X.here hx rfl (hb hby hd) hl hv k) r
theorem zistoreN (X : Stand p l e R s m args below meth c T locs cells slots) (hx : p.tables.exec = Jvm.exec) (hby : c.code = bytes) {k : Fin 4} {v : Int32} (hd : decode bytes pc = .ok (.istore_n k, 1)) (L' : Array Slot) (hl : storeLocals Ls k.val (.int v) = some L') (r : zEnds p e below s T (mkF m (pc + 1) L' st) cs ss Q) : zEnds p e below s T (mkF m pc Ls (.int v :: st)) cs ss Q := zstp (fun _ k => XS.istoreN X.here hx rfl (hb hby hd) rfl hl k) r
theorem zistore (X : Stand p l e R s m args below meth c T locs cells slots) (hx : p.tables.exec = Jvm.exec) (hby : c.code = bytes) {k : Nat} {v : Int32} (hd : decode bytes pc = .ok (.istore k, 2)) (L' : Array Slot) (hl : storeLocals Ls k (.int v) = some L') (r : zEnds p e below s T (mkF m (pc + 2) L' st) cs ss Q) : zEnds p e below s T (mkF m pc Ls (.int v :: st)) cs ss Q := zstp (fun _ k => XS.istore X.here hx rfl (hb hby hd) rfl hl k) r
theorem zlstoreN (X : Stand p l e R s m args below meth c T locs cells slots) (hx : p.tables.exec = Jvm.exec) (hby : c.code = bytes) {k : Fin 4} {v : Int64} (hd : decode bytes pc = .ok (.lstore_n k, 1)) (L' : Array Slot) (hl : storeLocals Ls k.val (.long v) = some L') (r : zEnds p e below s T (mkF m (pc + 1) L' st) cs ss Q) : zEnds p e below s T (mkF m pc Ls (.long v :: st)) cs ss Q := zstp (fun _ k => XS.lstoreN X.here hx rfl (hb hby hd) rfl hl k) r
theorem zlstore (X : Stand p l e R s m args below meth c T locs cells slots) (hx : p.tables.exec = Jvm.exec) (hby : c.code = bytes) {k : Nat} {v : Int64} (hd : decode bytes pc = .ok (.lstore k, 2)) (L' : Array Slot) (hl : storeLocals Ls k (.long v) = some L') (r : zEnds p e below s T (mkF m (pc + 2) L' st) cs ss Q) : zEnds p e below s T (mkF m pc Ls (.long v :: st)) cs ss Q := zstp (fun _ k => XS.lstore X.here hx rfl (hb hby hd) rfl hl k) r
theorem zastoreN (X : Stand p l e R s m args below meth c T locs cells slots) (hx : p.tables.exec = Jvm.exec) (hby : c.code = bytes) {k : Fin 4} {v : Value} (hd : decode bytes pc = .ok (.astore_n k, 1)) (L' : Array Slot) (hv : v.isRef = true) (hl : storeLocals Ls k.val v = some L') (r : zEnds p e below s T (mkF m (pc + 1) L' st) cs ss Q) : zEnds p e below s T (mkF m pc Ls (v :: st)) cs ss Q := zstp (fun _ k => XS.astoreN X.here hx rfl (hb hby hd) rfl hv hl k) r
theorem zastore (X : Stand p l e R s m args below meth c T locs cells slots) (hx : p.tables.exec = Jvm.exec) (hby : c.code = bytes) {k : Nat} {v : Value} (hd : decode bytes pc = .ok (.astore k, 2)) (L' : Array Slot) (hv : v.isRef = true) (hl : storeLocals Ls k v = some L') (r : zEnds p e below s T (mkF m (pc + 2) L' st) cs ss Q) : zEnds p e below s T (mkF m pc Ls (v :: st)) cs ss Q := zstp (fun _ k => XS.astore X.here hx rfl (hb hby hd) rfl hv hl k) r
theorem ziconst (X : Stand p l e R s m args below meth c T locs cells slots) (hx : p.tables.exec = Jvm.exec) (hby : c.code = bytes) {i : Int} (hd : decode bytes pc = .ok (.iconst i, 1)) (z : Int32) (hz : Int32.ofInt i = z) (r : zEnds p e below s T (mkF m (pc + 1) Ls (.int z :: st)) cs ss Q) : zEnds p e below s T (mkF m pc Ls st) cs ss Q := zstp (fun _ k => XS.iconst X.here hx rfl (hb hby hd) (hz ▸ k)) r
theorem zbipush (X : Stand p l e R s m args below meth c T locs cells slots) (hx : p.tables.exec = Jvm.exec) (hby : c.code = bytes) {i : Int} (hd : decode bytes pc = .ok (.bipush i, 2)) (z : Int32) (hz : (Int8.ofInt i).toInt32 = z) (r : zEnds p e below s T (mkF m (pc + 2) Ls (.int z :: st)) cs ss Q) : zEnds p e below s T (mkF m pc Ls st) cs ss Q := zstp (fun _ k => XS.bipush X.here hx rfl (hb hby hd) (hz ▸ k)) r
theorem zsipush (X : Stand p l e R s m args below meth c T locs cells slots) (hx : p.tables.exec = Jvm.exec) (hby : c.code = bytes) {i : Int} (hd : decode bytes pc = .ok (.sipush i, 3)) (z : Int32) (hz : (Int16.ofInt i).toInt32 = z) (r : zEnds p e below s T (mkF m (pc + 3) Ls (.int z :: st)) cs ss Q) : zEnds p e below s T (mkF m pc Ls st) cs ss Q := zstp (fun _ k => XS.sipush X.here hx rfl (hb hby hd) (hz ▸ k)) r
theorem zlconst (X : Stand p l e R s m args below meth c T locs cells slots) (hx : p.tables.exec = Jvm.exec) (hby : c.code = bytes) {i : Fin 2} (hd : decode bytes pc = .ok (.lconst i, 1)) (z : Int64) (hz : Int64.ofNat i = z) (r : zEnds p e below s T (mkF m (pc + 1) Ls (.long z :: st)) cs ss Q) : zEnds p e below s T (mkF m pc Ls st) cs ss Q := zstp (fun _ k => XS.lconst X.here hx rfl (hb hby hd) (hz ▸ k)) r
theorem zaconstNull (X : Stand p l e R s m args below meth c T locs cells slots) (hx : p.tables.exec = Jvm.exec) (hby : c.code = bytes)  (hd : decode bytes pc = .ok (.aconst_null, 1))  (r : zEnds p e below s T (mkF m (pc + 1) Ls (.null :: st)) cs ss Q) : zEnds p e below s T (mkF m pc Ls st) cs ss Q := zstp (fun _ k => XS.aconstNull X.here hx rfl (hb hby hd) k) r
theorem ziadd (X : Stand p l e R s m args below meth c T locs cells slots) (hx : p.tables.exec = Jvm.exec) (hby : c.code = bytes) {x y : Int32} (hd : decode bytes pc = .ok (.iadd, 1)) (z : Int32) (hz : x + y = z) (r : zEnds p e below s T (mkF m (pc + 1) Ls (.int z :: st)) cs ss Q) : zEnds p e below s T (mkF m pc Ls (.int y :: .int x :: st)) cs ss Q := zstp (fun _ k => XS.iadd X.here hx rfl (hb hby hd) rfl (hz ▸ k)) r
theorem zisub (X : Stand p l e R s m args below meth c T locs cells slots) (hx : p.tables.exec = Jvm.exec) (hby : c.code = bytes) {x y : Int32} (hd : decode bytes pc = .ok (.isub, 1)) (z : Int32) (hz : x - y = z) (r : zEnds p e below s T (mkF m (pc + 1) Ls (.int z :: st)) cs ss Q) : zEnds p e below s T (mkF m pc Ls (.int y :: .int x :: st)) cs ss Q := zstp (fun _ k => XS.isub X.here hx rfl (hb hby hd) rfl (hz ▸ k)) r
theorem zimul (X : Stand p l e R s m args below meth c T locs cells slots) (hx : p.tables.exec = Jvm.exec) (hby : c.code = bytes) {x y : Int32} (hd : decode bytes pc = .ok (.imul, 1)) (z : Int32) (hz : x * y = z) (r : zEnds p e below s T (mkF m (pc + 1) Ls (.int z :: st)) cs ss Q) : zEnds p e below s T (mkF m pc Ls (.int y :: .int x :: st)) cs ss Q := zstp (fun _ k => XS.imul X.here hx rfl (hb hby hd) rfl (hz ▸ k)) r
theorem ziand (X : Stand p l e R s m args below meth c T locs cells slots) (hx : p.tables.exec = Jvm.exec) (hby : c.code = bytes) {x y : Int32} (hd : decode bytes pc = .ok (.iand, 1)) (z : Int32) (hz : x &&& y = z) (r : zEnds p e below s T (mkF m (pc + 1) Ls (.int z :: st)) cs ss Q) : zEnds p e below s T (mkF m pc Ls (.int y :: .int x :: st)) cs ss Q := zstp (fun _ k => XS.iand X.here hx rfl (hb hby hd) rfl (hz ▸ k)) r
theorem zior (X : Stand p l e R s m args below meth c T locs cells slots) (hx : p.tables.exec = Jvm.exec) (hby : c.code = bytes) {x y : Int32} (hd : decode bytes pc = .ok (.ior, 1)) (z : Int32) (hz : x ||| y = z) (r : zEnds p e below s T (mkF m (pc + 1) Ls (.int z :: st)) cs ss Q) : zEnds p e below s T (mkF m pc Ls (.int y :: .int x :: st)) cs ss Q := zstp (fun _ k => XS.ior X.here hx rfl (hb hby hd) rfl (hz ▸ k)) r
theorem zixor (X : Stand p l e R s m args below meth c T locs cells slots) (hx : p.tables.exec = Jvm.exec) (hby : c.code = bytes) {x y : Int32} (hd : decode bytes pc = .ok (.ixor, 1)) (z : Int32) (hz : x ^^^ y = z) (r : zEnds p e below s T (mkF m (pc + 1) Ls (.int z :: st)) cs ss Q) : zEnds p e below s T (mkF m pc Ls (.int y :: .int x :: st)) cs ss Q := zstp (fun _ k => XS.ixor X.here hx rfl (hb hby hd) rfl (hz ▸ k)) r
theorem zishl (X : Stand p l e R s m args below meth c T locs cells slots) (hx : p.tables.exec = Jvm.exec) (hby : c.code = bytes) {x y : Int32} (hd : decode bytes pc = .ok (.ishl, 1)) (z : Int32) (hz : x <<< (y &&& 31) = z) (r : zEnds p e below s T (mkF m (pc + 1) Ls (.int z :: st)) cs ss Q) : zEnds p e below s T (mkF m pc Ls (.int y :: .int x :: st)) cs ss Q := zstp (fun _ k => XS.ishl X.here hx rfl (hb hby hd) rfl (hz ▸ k)) r
theorem zishr (X : Stand p l e R s m args below meth c T locs cells slots) (hx : p.tables.exec = Jvm.exec) (hby : c.code = bytes) {x y : Int32} (hd : decode bytes pc = .ok (.ishr, 1)) (z : Int32) (hz : x >>> (y &&& 31) = z) (r : zEnds p e below s T (mkF m (pc + 1) Ls (.int z :: st)) cs ss Q) : zEnds p e below s T (mkF m pc Ls (.int y :: .int x :: st)) cs ss Q := zstp (fun _ k => XS.ishr X.here hx rfl (hb hby hd) rfl (hz ▸ k)) r
theorem ziushr (X : Stand p l e R s m args below meth c T locs cells slots) (hx : p.tables.exec = Jvm.exec) (hby : c.code = bytes) {x y : Int32} (hd : decode bytes pc = .ok (.iushr, 1)) (z : Int32) (hz : (x.toUInt32 >>> (y &&& 31).toUInt32).toInt32 = z) (r : zEnds p e below s T (mkF m (pc + 1) Ls (.int z :: st)) cs ss Q) : zEnds p e below s T (mkF m pc Ls (.int y :: .int x :: st)) cs ss Q := zstp (fun _ k => XS.iushr X.here hx rfl (hb hby hd) rfl (hz ▸ k)) r
theorem zladd (X : Stand p l e R s m args below meth c T locs cells slots) (hx : p.tables.exec = Jvm.exec) (hby : c.code = bytes) {x y : Int64} (hd : decode bytes pc = .ok (.ladd, 1)) (z : Int64) (hz : x + y = z) (r : zEnds p e below s T (mkF m (pc + 1) Ls (.long z :: st)) cs ss Q) : zEnds p e below s T (mkF m pc Ls (.long y :: .long x :: st)) cs ss Q := zstp (fun _ k => XS.ladd X.here hx rfl (hb hby hd) rfl (hz ▸ k)) r
theorem zlsub (X : Stand p l e R s m args below meth c T locs cells slots) (hx : p.tables.exec = Jvm.exec) (hby : c.code = bytes) {x y : Int64} (hd : decode bytes pc = .ok (.lsub, 1)) (z : Int64) (hz : x - y = z) (r : zEnds p e below s T (mkF m (pc + 1) Ls (.long z :: st)) cs ss Q) : zEnds p e below s T (mkF m pc Ls (.long y :: .long x :: st)) cs ss Q := zstp (fun _ k => XS.lsub X.here hx rfl (hb hby hd) rfl (hz ▸ k)) r
theorem zlmul (X : Stand p l e R s m args below meth c T locs cells slots) (hx : p.tables.exec = Jvm.exec) (hby : c.code = bytes) {x y : Int64} (hd : decode bytes pc = .ok (.lmul, 1)) (z : Int64) (hz : x * y = z) (r : zEnds p e below s T (mkF m (pc + 1) Ls (.long z :: st)) cs ss Q) : zEnds p e below s T (mkF m pc Ls (.long y :: .long x :: st)) cs ss Q := zstp (fun _ k => XS.lmul X.here hx rfl (hb hby hd) rfl (hz ▸ k)) r
theorem zland (X : Stand p l e R s m args below meth c T locs cells slots) (hx : p.tables.exec = Jvm.exec) (hby : c.code = bytes) {x y : Int64} (hd : decode bytes pc = .ok (.land, 1)) (z : Int64) (hz : x &&& y = z) (r : zEnds p e below s T (mkF m (pc + 1) Ls (.long z :: st)) cs ss Q) : zEnds p e below s T (mkF m pc Ls (.long y :: .long x :: st)) cs ss Q := zstp (fun _ k => XS.land X.here hx rfl (hb hby hd) rfl (hz ▸ k)) r
theorem zlor (X : Stand p l e R s m args below meth c T locs cells slots) (hx : p.tables.exec = Jvm.exec) (hby : c.code = bytes) {x y : Int64} (hd : decode bytes pc = .ok (.lor, 1)) (z : Int64) (hz : x ||| y = z) (r : zEnds p e below s T (mkF m (pc + 1) Ls (.long z :: st)) cs ss Q) : zEnds p e below s T (mkF m pc Ls (.long y :: .long x :: st)) cs ss Q := zstp (fun _ k => XS.lor X.here hx rfl (hb hby hd) rfl (hz ▸ k)) r
theorem zlxor (X : Stand p l e R s m args below meth c T locs cells slots) (hx : p.tables.exec = Jvm.exec) (hby : c.code = bytes) {x y : Int64} (hd : decode bytes pc = .ok (.lxor, 1)) (z : Int64) (hz : x ^^^ y = z) (r : zEnds p e below s T (mkF m (pc + 1) Ls (.long z :: st)) cs ss Q) : zEnds p e below s T (mkF m pc Ls (.long y :: .long x :: st)) cs ss Q := zstp (fun _ k => XS.lxor X.here hx rfl (hb hby hd) rfl (hz ▸ k)) r
theorem zlshl (X : Stand p l e R s m args below meth c T locs cells slots) (hx : p.tables.exec = Jvm.exec) (hby : c.code = bytes) {x : Int64} {y : Int32} (hd : decode bytes pc = .ok (.lshl, 1)) (z : Int64) (hz : x <<< (y &&& 0x3f).toInt64 = z) (r : zEnds p e below s T (mkF m (pc + 1) Ls (.long z :: st)) cs ss Q) : zEnds p e below s T (mkF m pc Ls (.int y :: .long x :: st)) cs ss Q := zstp (fun _ k => XS.lshl X.here hx rfl (hb hby hd) rfl (hz ▸ k)) r
theorem zlshr (X : Stand p l e R s m args below meth c T locs cells slots) (hx : p.tables.exec = Jvm.exec) (hby : c.code = bytes) {x : Int64} {y : Int32} (hd : decode bytes pc = .ok (.lshr, 1)) (z : Int64) (hz : x >>> (y &&& 0x3f).toInt64 = z) (r : zEnds p e below s T (mkF m (pc + 1) Ls (.long z :: st)) cs ss Q) : zEnds p e below s T (mkF m pc Ls (.int y :: .long x :: st)) cs ss Q := zstp (fun _ k => XS.lshr X.here hx rfl (hb hby hd) rfl (hz ▸ k)) r
theorem zlushr (X : Stand p l e R s m args below meth c T locs cells slots) (hx : p.tables.exec = Jvm.exec) (hby : c.code = bytes) {x : Int64} {y : Int32} (hd : decode bytes pc = .ok (.lushr, 1)) (z : Int64) (hz : (x.toUInt64 >>> (y &&& 0x3f).toInt64.toUInt64).toInt64 = z) (r : zEnds p e below s T (mkF m (pc + 1) Ls (.long z :: st)) cs ss Q) : zEnds p e below s T (mkF m pc Ls (.int y :: .long x :: st)) cs ss Q := zstp (fun _ k => XS.lushr X.here hx rfl (hb hby hd) rfl (hz ▸ k)) r
theorem zineg (X : Stand p l e R s m args below meth c T locs cells slots) (hx : p.tables.exec = Jvm.exec) (hby : c.code = bytes) {x : Int32} (hd : decode bytes pc = .ok (.ineg, 1)) (z : Int32) (hz : -x = z) (r : zEnds p e below s T (mkF m (pc + 1) Ls (.int z :: st)) cs ss Q) : zEnds p e below s T (mkF m pc Ls (.int x :: st)) cs ss Q := zstp (fun _ k => XS.ineg X.here hx rfl (hb hby hd) rfl (hz ▸ k)) r
theorem zlneg (X : Stand p l e R s m args below meth c T locs cells slots) (hx : p.tables.exec = Jvm.exec) (hby : c.code = bytes) {x : Int64} (hd : decode bytes pc = .ok (.lneg, 1)) (z : Int64) (hz : -x = z) (r : zEnds p e below s T (mkF m (pc + 1) Ls (.long z :: st)) cs ss Q) : zEnds p e below s T (mkF m pc Ls (.long x :: st)) cs ss Q := zstp (fun _ k => XS.lneg X.here hx rfl (hb hby hd) rfl (hz ▸ k)) r
theorem zidiv (X : Stand p l e R s m args below meth c T locs cells slots) (hx : p.tables.exec = Jvm.exec) (hby : c.code = bytes) {x y : Int32} (hd : decode bytes pc = .ok (.idiv, 1)) (z : Int32) (hy : y ≠ 0) (hz : x / y = z) (r : zEnds p e below s T (mkF m (pc + 1) Ls (.int z :: st)) cs ss Q) : zEnds p e below s T (mkF m pc Ls (.int y :: .int x :: st)) cs ss Q := zstp (fun _ k => XS.idiv X.here hx rfl (hb hby hd) rfl hy (hz ▸ k)) r
theorem zirem (X : Stand p l e R s m args below meth c T locs cells slots) (hx : p.tables.exec = Jvm.exec) (hby : c.code = bytes) {x y : Int32} (hd : decode bytes pc = .ok (.irem, 1)) (z : Int32) (hy : y ≠ 0) (hz : x % y = z) (r : zEnds p e below s T (mkF m (pc + 1) Ls (.int z :: st)) cs ss Q) : zEnds p e below s T (mkF m pc Ls (.int y :: .int x :: st)) cs ss Q := zstp (fun _ k => iremM X hx rfl (hb hby hd) rfl hy (hz ▸ k)) r
theorem zldiv (X : Stand p l e R s m args below meth c T locs cells slots) (hx : p.tables.exec = Jvm.exec) (hby : c.code = bytes) {x y : Int64} (hd : decode bytes pc = .ok (.ldiv, 1)) (z : Int64) (hy : y ≠ 0) (hz : x / y = z) (r : zEnds p e below s T (mkF m (pc + 1) Ls (.long z :: st)) cs ss Q) : zEnds p e below s T (mkF m pc Ls (.long y :: .long x :: st)) cs ss Q := zstp (fun _ k => XS.ldiv X.here hx rfl (hb hby hd) rfl hy (hz ▸ k)) r
theorem zlrem (X : Stand p l e R s m args below meth c T locs cells slots) (hx : p.tables.exec = Jvm.exec) (hby : c.code = bytes) {x y : Int64} (hd : decode bytes pc = .ok (.lrem, 1)) (z : Int64) (hy : y ≠ 0) (hz : x % y = z) (r : zEnds p e below s T (mkF m (pc + 1) Ls (.long z :: st)) cs ss Q) : zEnds p e below s T (mkF m pc Ls (.long y :: .long x :: st)) cs ss Q := zstp (fun _ k => XS.lrem X.here hx rfl (hb hby hd) rfl hy (by rw [lrem_mod, hz]; exact k)) r
theorem zi2l (X : Stand p l e R s m args below meth c T locs cells slots) (hx : p.tables.exec = Jvm.exec) (hby : c.code = bytes) {v : Int32} (hd : decode bytes pc = .ok (.i2l, 1)) (z : Int64) (hz : v.toInt64 = z) (r : zEnds p e below s T (mkF m (pc + 1) Ls (.long z :: st)) cs ss Q) : zEnds p e below s T (mkF m pc Ls (.int v :: st)) cs ss Q := zstp (fun _ k => XS.i2l X.here hx rfl (hb hby hd) rfl (hz ▸ k)) r
theorem zl2i (X : Stand p l e R s m args below meth c T locs cells slots) (hx : p.tables.exec = Jvm.exec) (hby : c.code = bytes) {v : Int64} (hd : decode bytes pc = .ok (.l2i, 1)) (z : Int32) (hz : v.toInt32 = z) (r : zEnds p e below s T (mkF m (pc + 1) Ls (.int z :: st)) cs ss Q) : zEnds p e below s T (mkF m pc Ls (.long v :: st)) cs ss Q := zstp (fun _ k => XS.l2i X.here hx rfl (hb hby hd) rfl (hz ▸ k)) r
theorem zi2b (X : Stand p l e R s m args below meth c T locs cells slots) (hx : p.tables.exec = Jvm.exec) (hby : c.code = bytes) {v : Int32} (hd : decode bytes pc = .ok (.i2b, 1)) (z : Int32) (hz : v.toInt8.toInt32 = z) (r : zEnds p e below s T (mkF m (pc + 1) Ls (.int z :: st)) cs ss Q) : zEnds p e below s T (mkF m pc Ls (.int v :: st)) cs ss Q := zstp (fun _ k => XS.i2b X.here hx rfl (hb hby hd) rfl (hz ▸ k)) r
theorem zi2c (X : Stand p l e R s m args below meth c T locs cells slots) (hx : p.tables.exec = Jvm.exec) (hby : c.code = bytes) {v : Int32} (hd : decode bytes pc = .ok (.i2c, 1)) (z : Int32) (hz : v.toUInt32.toUInt16.toUInt32.toInt32 = z) (r : zEnds p e below s T (mkF m (pc + 1) Ls (.int z :: st)) cs ss Q) : zEnds p e below s T (mkF m pc Ls (.int v :: st)) cs ss Q := zstp (fun _ k => XS.i2c X.here hx rfl (hb hby hd) rfl (hz ▸ k)) r
theorem zi2s (X : Stand p l e R s m args below meth c T locs cells slots) (hx : p.tables.exec = Jvm.exec) (hby : c.code = bytes) {v : Int32} (hd : decode bytes pc = .ok (.i2s, 1)) (z : Int32) (hz : v.toInt16.toInt32 = z) (r : zEnds p e below s T (mkF m (pc + 1) Ls (.int z :: st)) cs ss Q) : zEnds p e below s T (mkF m pc Ls (.int v :: st)) cs ss Q := zstp (fun _ k => XS.i2s X.here hx rfl (hb hby hd) rfl (hz ▸ k)) r
theorem zlcmp (X : Stand p l e R s m args below meth c T locs cells slots) (hx : p.tables.exec = Jvm.exec) (hby : c.code = bytes) {x y : Int64} (hd : decode bytes pc = .ok (.lcmp, 1)) (z : Int32) (hz : lcmpW x y = z) (r : zEnds p e below s T (mkF m (pc + 1) Ls (.int z :: st)) cs ss Q) : zEnds p e below s T (mkF m pc Ls (.long y :: .long x :: st)) cs ss Q := zstp (fun _ k => XS.lcmp X.here hx rfl (hb hby hd) rfl (by subst hz; exact k)) r
theorem zdup (X : Stand p l e R s m args below meth c T locs cells slots) (hx : p.tables.exec = Jvm.exec) (hby : c.code = bytes) {x : Value} (hd : decode bytes pc = .ok (.dup, 1)) (hc : x.category = 1) (r : zEnds p e below s T (mkF m (pc + 1) Ls (x :: x :: st)) cs ss Q) : zEnds p e below s T (mkF m pc Ls (x :: st)) cs ss Q := zstp (fun _ k => XS.dup X.here hx rfl (hb hby hd) rfl hc k) r
theorem zpop (X : Stand p l e R s m args below meth c T locs cells slots) (hx : p.tables.exec = Jvm.exec) (hby : c.code = bytes) {x : Value} (hd : decode bytes pc = .ok (.pop, 1)) (hc : x.category = 1) (r : zEnds p e below s T (mkF m (pc + 1) Ls st) cs ss Q) : zEnds p e below s T (mkF m pc Ls (x :: st)) cs ss Q := zstp (fun _ k => XS.pop X.here hx rfl (hb hby hd) rfl hc k) r
theorem zdupX1 (X : Stand p l e R s m args below meth c T locs cells slots) (hx : p.tables.exec = Jvm.exec) (hby : c.code = bytes) {x y : Value} (hd : decode bytes pc = .ok (.dup_x1, 1)) (hc : x.category = 1) (hc' : y.category = 1) (r : zEnds p e below s T (mkF m (pc + 1) Ls (x :: y :: x :: st)) cs ss Q) : zEnds p e below s T (mkF m pc Ls (x :: y :: st)) cs ss Q := zstp (fun _ k => XS.dupX1 X.here hx rfl (hb hby hd) rfl hc hc' k) r
theorem ziinc (X : Stand p l e R s m args below meth c T locs cells slots) (hx : p.tables.exec = Jvm.exec) (hby : c.code = bytes) {k : Nat} {i : Int} {x : Int32} (hd : decode bytes pc = .ok (.iinc k i, 3)) (L' : Array Slot) (hl : Ls[k]? = some (.val (.int x))) (hl' : storeLocals Ls k (.int (x + Int32.ofInt i)) = some L') (r : zEnds p e below s T (mkF m (pc + 3) L' st) cs ss Q) : zEnds p e below s T (mkF m pc Ls st) cs ss Q := zstp (fun _ k => XS.iinc X.here hx rfl (hb hby hd) hl hl' k) r
theorem zgoto (X : Stand p l e R s m args below meth c T locs cells slots) (hx : p.tables.exec = Jvm.exec) (hby : c.code = bytes) {o : Int} (hd : decode bytes pc = .ok (.goto o, 3)) (pc' : Nat) (ho : 0 ≤ (pc : Int) + o) (hp : ((pc : Int) + o).toNat = pc') (r : zEnds p e below s T (mkF m pc' Ls st) cs ss Q) : zEnds p e below s T (mkF m pc Ls st) cs ss Q := zstp (fun _ k => XS.goto X.here hx rfl rfl (hb hby hd) ho hp k) r
theorem zifYes (X : Stand p l e R s m args below meth c T locs cells slots) (hx : p.tables.exec = Jvm.exec) (hby : c.code = bytes) {cd : ClassFile.Cond} {x : Int32} {o : Int} (hd : decode bytes pc = .ok (.ifCond cd o, 3)) (pc' : Nat) (hc : ifCond.holds cd x = true) (ho : 0 ≤ (pc : Int) + o) (hp : ((pc : Int) + o).toNat = pc') (r : zEnds p e below s T (mkF m pc' Ls st) cs ss Q) : zEnds p e below s T (mkF m pc Ls (.int x :: st)) cs ss Q := zstp (fun _ k => XS.ifYes X.here hx rfl rfl (hb hby hd) rfl hc ho hp k) r
theorem zifNo (X : Stand p l e R s m args below meth c T locs cells slots) (hx : p.tables.exec = Jvm.exec) (hby : c.code = bytes) {cd : ClassFile.Cond} {x : Int32} {o : Int} (hd : decode bytes pc = .ok (.ifCond cd o, 3)) (hc : ifCond.holds cd x = false) (r : zEnds p e below s T (mkF m (pc + 3) Ls st) cs ss Q) : zEnds p e below s T (mkF m pc Ls (.int x :: st)) cs ss Q := zstp (fun _ k => XS.ifNo X.here hx rfl (hb hby hd) rfl hc k) r
theorem zicmpYes (X : Stand p l e R s m args below meth c T locs cells slots) (hx : p.tables.exec = Jvm.exec) (hby : c.code = bytes) {cd : ClassFile.Cond} {x y : Int32} {o : Int} (hd : decode bytes pc = .ok (.if_icmp cd o, 3)) (pc' : Nat) (hc : if_icmp.holds cd x y = true) (ho : 0 ≤ (pc : Int) + o) (hp : ((pc : Int) + o).toNat = pc') (r : zEnds p e below s T (mkF m pc' Ls st) cs ss Q) : zEnds p e below s T (mkF m pc Ls (.int y :: .int x :: st)) cs ss Q := zstp (fun _ k => XS.icmpYes X.here hx rfl rfl (hb hby hd) rfl hc ho hp k) r
theorem zicmpNo (X : Stand p l e R s m args below meth c T locs cells slots) (hx : p.tables.exec = Jvm.exec) (hby : c.code = bytes) {cd : ClassFile.Cond} {x y : Int32} {o : Int} (hd : decode bytes pc = .ok (.if_icmp cd o, 3)) (hc : if_icmp.holds cd x y = false) (r : zEnds p e below s T (mkF m (pc + 3) Ls st) cs ss Q) : zEnds p e below s T (mkF m pc Ls (.int y :: .int x :: st)) cs ss Q := zstp (fun _ k => XS.icmpNo X.here hx rfl (hb hby hd) rfl hc k) r
theorem zifnullYes (X : Stand p l e R s m args below meth c T locs cells slots) (hx : p.tables.exec = Jvm.exec) (hby : c.code = bytes) {o : Int} (hd : decode bytes pc = .ok (.ifnull o, 3)) (pc' : Nat) (ho : 0 ≤ (pc : Int) + o) (hp : ((pc : Int) + o).toNat = pc') (r : zEnds p e below s T (mkF m pc' Ls st) cs ss Q) : zEnds p e below s T (mkF m pc Ls (.null :: st)) cs ss Q := zstp (fun _ k => XS.ifnullYes X.here hx rfl rfl (hb hby hd) rfl ho hp k) r
theorem zifnullNo (X : Stand p l e R s m args below meth c T locs cells slots) (hx : p.tables.exec = Jvm.exec) (hby : c.code = bytes) {b : Addr} {o : Int} (hd : decode bytes pc = .ok (.ifnull o, 3))  (r : zEnds p e below s T (mkF m (pc + 3) Ls st) cs ss Q) : zEnds p e below s T (mkF m pc Ls (.ref b :: st)) cs ss Q := zstp (fun _ k => XS.ifnullNo X.here hx rfl (hb hby hd) rfl k) r
theorem zifnonnullYes (X : Stand p l e R s m args below meth c T locs cells slots) (hx : p.tables.exec = Jvm.exec) (hby : c.code = bytes) {b : Addr} {o : Int} (hd : decode bytes pc = .ok (.ifnonnull o, 3)) (pc' : Nat) (ho : 0 ≤ (pc : Int) + o) (hp : ((pc : Int) + o).toNat = pc') (r : zEnds p e below s T (mkF m pc' Ls st) cs ss Q) : zEnds p e below s T (mkF m pc Ls (.ref b :: st)) cs ss Q := zstp (fun _ k => XS.ifnonnullYes X.here hx rfl rfl (hb hby hd) rfl ho hp k) r
theorem zifnonnullNo (X : Stand p l e R s m args below meth c T locs cells slots) (hx : p.tables.exec = Jvm.exec) (hby : c.code = bytes) {o : Int} (hd : decode bytes pc = .ok (.ifnonnull o, 3))  (r : zEnds p e below s T (mkF m (pc + 3) Ls st) cs ss Q) : zEnds p e below s T (mkF m pc Ls (.null :: st)) cs ss Q := zstp (fun _ k => XS.ifnonnullNo X.here hx rfl (hb hby hd) rfl k) r
theorem zacmp (X : Stand p l e R s m args below meth c T locs cells slots) (hx : p.tables.exec = Jvm.exec) (hby : c.code = bytes) {cd : ACond} {x y : Value} {o : Int} (hd : decode bytes pc = .ok (.if_acmp cd o, 3)) (pc' : Nat) (same : Bool) (h1 : x.isRef = true) (h2 : y.isRef = true) (hq : decide (x = y) = same) (ho : 0 ≤ (pc : Int) + o) (hp : pc' = if acV cd same = true then ((pc : Int) + o).toNat else pc + 3) (r : zEnds p e below s T (mkF m pc' Ls st) cs ss Q) : zEnds p e below s T (mkF m pc Ls (y :: x :: st)) cs ss Q := zstp (fun _ k => Jvm.RoadKit.acmp X hx rfl h1 h2 rfl (hb hby hd) rfl hq ho hp k) r
theorem ztswIn (X : Stand p l e R s m args below meth c T locs cells slots) (hx : p.tables.exec = Jvm.exec) (hby : c.code = bytes) {dflt low high o : Int} {offs : Array Int} {len : Nat} {i : Int32} (hd : decode bytes pc = .ok (.tableswitch dflt low high offs, len)) (pc' : Nat) (hin : ¬ (i.toInt < low ∨ i.toInt > high)) (hoff : offs[(i.toInt - low).toNat]? = some o) (ho : 0 ≤ (pc : Int) + o) (hp : ((pc : Int) + o).toNat = pc') (r : zEnds p e below s T (mkF m pc' Ls st) cs ss Q) : zEnds p e below s T (mkF m pc Ls (.int i :: st)) cs ss Q := zstp (fun _ k => XS.tswIn X.here hx rfl rfl (hb hby hd) rfl hin hoff ho hp k) r
theorem ztswOut (X : Stand p l e R s m args below meth c T locs cells slots) (hx : p.tables.exec = Jvm.exec) (hby : c.code = bytes) {dflt low high : Int} {offs : Array Int} {len : Nat} {i : Int32} (hd : decode bytes pc = .ok (.tableswitch dflt low high offs, len)) (pc' : Nat) (hout : i.toInt < low ∨ i.toInt > high) (ho : 0 ≤ (pc : Int) + dflt) (hp : ((pc : Int) + dflt).toNat = pc') (r : zEnds p e below s T (mkF m pc' Ls st) cs ss Q) : zEnds p e below s T (mkF m pc Ls (.int i :: st)) cs ss Q := zstp (fun _ k => XS.tswOut X.here hx rfl rfl (hb hby hd) rfl hout ho hp k) r
theorem zldcI (X : Stand p l e R s m args below meth c T locs cells slots) (hx : p.tables.exec = Jvm.exec) (hby : c.code = bytes) {own : String} {i : Nat} (hd : decode bytes pc = .ok (.ldc i, 2)) (z : Int32) (hZ : Z.Warmed39 s.vm) (hown : s.vm.findClass own = some m.cls) (w : (Jvm.Cond.constant own i z).before a0 Z = true) (r : zEnds p e below s T (mkF m (pc + 2) Ls (.int z :: st)) cs ss Q) : zEnds p e below s T (mkF m pc Ls st) cs ss Q := zstp (fun _ k => X.ldcInt hx hown (mvT hZ w) (g := mkF m pc Ls st) rfl (hb hby hd) _ k) r
theorem zldcwI (X : Stand p l e R s m args below meth c T locs cells slots) (hx : p.tables.exec = Jvm.exec) (hby : c.code = bytes) {own : String} {i : Nat} (hd : decode bytes pc = .ok (.ldc_w i, 3)) (z : Int32) (hZ : Z.Warmed39 s.vm) (hown : s.vm.findClass own = some m.cls) (w : (Jvm.Cond.constant own i z).before a0 Z = true) (r : zEnds p e below s T (mkF m (pc + 3) Ls (.int z :: st)) cs ss Q) : zEnds p e below s T (mkF m pc Ls st) cs ss Q := zstp (fun _ k => X.ldcwInt hx hown (mvT hZ w) (g := mkF m pc Ls st) rfl (hb hby hd) _ k) r
theorem zldc2J (X : Stand p l e R s m args below meth c T locs cells slots) (hx : p.tables.exec = Jvm.exec) (hby : c.code = bytes) {own : String} {i : Nat} (hd : decode bytes pc = .ok (.ldc2_w i, 3)) (z : Int64) (hZ : Z.Warmed39 s.vm) (hown : s.vm.findClass own = some m.cls) (w : (Jvm.Cond.constantLong own i z).before a0 Z = true) (r : zEnds p e below s T (mkF m (pc + 3) Ls (.long z :: st)) cs ss Q) : zEnds p e below s T (mkF m pc Ls st) cs ss Q := zstp (fun _ k => X.ldc2Long hx hown (mvT hZ w) (g := mkF m pc Ls st) rfl (hb hby hd) _ k) r
/-! steps that hand back a new state -/
theorem zgetstat (X : Stand p l e R s m args below meth c T locs cells slots) (hx : p.tables.exec = Jvm.exec) (hby : c.code = bytes) {own R0 O n d host : String} {i : Nat} (hd : decode bytes pc = .ok (.getstatic i, 3)) (hZ : Z.Warmed39 s.vm) (hown : s.vm.findClass own = some m.cls) (w : (Jvm.Cond.fieldLink own i R0 n d).before a0 Z = true ∨ (Jvm.Cond.fieldLinkNest own i R0 n d host).before a0 Z = true) (via : Via Z R0 O n d) (eT : T.heap = h) {v : Value} (F : Sta Z h O n d v)
    (r : ∀ T', Stand p l e R s m args below meth c T' locs cells slots → T'.heap = h → zEnds p e below s T' (mkF m (pc + 3) Ls (v :: st)) cs ss Q) : zEnds p e below s T (mkF m pc Ls st) cs ss Q := by
  obtain ⟨T', X', e', k⟩ := getS2 X hx hZ hown w via eT F (g := mkF m pc Ls st) rfl (hb hby hd)
  exact zstp k (r T' X' e')
theorem zgetfld (X : Stand p l e R s m args below meth c T locs cells slots) (hx : p.tables.exec = Jvm.exec) (hby : c.code = bytes) {own R0 O n d host : String} {i : Nat} (hd : decode bytes pc = .ok (.getfield i, 3)) (hZ : Z.Warmed39 s.vm) (hown : s.vm.findClass own = some m.cls) (w : (Jvm.Cond.fieldLink own i R0 n d).before a0 Z = true ∨ (Jvm.Cond.fieldLinkNest own i R0 n d host).before a0 Z = true) (via : Via Z R0 O n d) (eT : T.heap = h) {a : Addr} {v : Value} (F : Fld Z h a O n d v)
    (r : ∀ T', Stand p l e R s m args below meth c T' locs cells slots → T'.heap = h → zEnds p e below s T' (mkF m (pc + 3) Ls (v :: st)) cs ss Q) : zEnds p e below s T (mkF m pc Ls (.ref a :: st)) cs ss Q := by
  obtain ⟨T', X', e', k⟩ := getF X hx hZ hown w via eT F (g := mkF m pc Ls (.ref a :: st)) rfl rfl (hb hby hd)
  exact zstp k (r T' X' e')
theorem zputfld (X : Stand p l e R s m args below meth c T locs cells slots) (hx : p.tables.exec = Jvm.exec) (hby : c.code = bytes) {own R0 O n d host C : String} {i kk : Nat} {ty : FieldType} (hd : decode bytes pc = .ok (.putfield i, 3)) (hZ : Z.Warmed39 s.vm) (hown : s.vm.findClass own = some m.cls) (w : (Jvm.Cond.fieldLink own i R0 n d).before a0 Z = true ∨ (Jvm.Cond.fieldLinkNest own i R0 n d host).before a0 Z = true) (via : Via Z R0 O n d) (eT : T.heap = h) {a : Addr} {v old : Value} (F : Fld Z h a O n d old) (E : Exa Z h a C) (L : (Jvm.Cond.lays C O n d).before a0 Z = true ∨ ((Jvm.Cond.laysFinal C O n d).before a0 Z = true ∧ own = O ∧ meth.name = "<init>")) (wi : (Jvm.Cond.instantiable C kk).before a0 Z = true) (hty : parseFieldDescriptor d = some ty) (hn : narrow ty v = v) (hf : fits ty v = true)
    (r : ∀ T' h', Stand p l e R s m args below meth c T' (locs ++ [⟨a, Jvm.RoadKit.slotOf Z O n d⟩]) cells slots → T'.heap = h' → Wr h h' a (Jvm.RoadKit.slotOf Z O n d) v → zEnds p e below s T' (mkF m (pc + 3) Ls st) cs ss Q) : zEnds p e below s T (mkF m pc Ls (v :: .ref a :: st)) cs ss Q := by
  obtain ⟨T', h', X', e', W, k⟩ := putF X hx hZ hown w via eT F E L wi hty hn hf (g := mkF m pc Ls (v :: .ref a :: st)) rfl rfl (hb hby hd)
  exact zstp k (r T' h' X' e' W)
theorem znewobj (X : Stand p l e R s m args below meth c T locs cells slots) (hx : p.tables.exec = Jvm.exec) (hby : c.code = bytes) {own C : String} {i n : Nat} (hd : decode bytes pc = .ok (.new i, 3)) (hZ : Z.Warmed39 s.vm) (hown : s.vm.findClass own = some m.cls) (w : (Jvm.Cond.classLink own i C).before a0 Z = true) (wi : (Jvm.Cond.instantiable C n).before a0 Z = true) (wz : (Jvm.Cond.initialized C).before a0 Z = true) (eT : T.heap = h) (hc : cells + 1 ≤ R.cells) (hl : slots + n ≤ R.slots)
    (r : ∀ T' h' b, Stand p l e R s m args below meth c T' locs (cells + 1) (slots + n) → T'.heap = h' → b = h.size → Ext h h' → Exa Z h' b C → (∀ {O nm d : String} {ty : FieldType}, Laid Z a0 C O nm d → parseFieldDescriptor d = some ty → Fld Z h' b O nm d (defaultValue ty)) → zEnds p e below s T' (mkF m (pc + 3) Ls (.ref b :: st)) cs ss Q) : zEnds p e below s T (mkF m pc Ls st) cs ss Q := by
  obtain ⟨T', h', X', e', E, A, D, -, k⟩ := newO X hx hZ hown w wi wz eT (g := mkF m pc Ls st) rfl (hb hby hd) hc hl
  exact zstp k (r T' h' _ X' e' rfl E A D)
theorem zobjinit (X : Stand p l e R s m args below meth c T locs cells slots) (hx : p.tables.exec = Jvm.exec) (hby : c.code = bytes) {own : String} {i : Nat} (hd : decode bytes pc = .ok (.invokespecial i, 3)) (hZ : Z.Warmed39 s.vm) (hown : s.vm.findClass own = some m.cls) (w1 : (Jvm.Cond.methodLink own i Lib.objectInit).before a0 Z = true) (w2 : (Jvm.Cond.instanceMethod Lib.objectInit).before a0 Z = true) (w3 : (Jvm.Cond.code Lib.objectInit ⟨#[0xb1]⟩ 1 none).before a0 Z = true) (eT : T.heap = h) (hml : Ls.size = c.maxLocals) (W : Nat) (hW : (st.map fun v => v.category).sum ≤ W) (hf : 1 ≤ R.frames) (hl : W + 12 ≤ R.locals) {a : Addr}
    (r : ∀ T', Stand p l e R s m args below meth c T' locs cells slots → T'.heap = h → zEnds p e below s T' (mkF m (pc + 3) Ls st) cs ss Q) : zEnds p e below s T (mkF m pc Ls (.ref a :: st)) cs ss Q := by
  obtain ⟨T', X', e', k⟩ := initO X hx hZ hown w1 w2 w3 eT (g := mkF m pc Ls (.ref a :: st)) rfl hml rfl (hb hby hd) hf (W := W) (by show 2 * 0 + _ ≤ _; rw [Nat.mul_zero, Nat.zero_add]; exact hW) hl
  exact zstp k (r T' X' e')
/-- the array at a holds just these values -/
def zLst (Z : State) (h : Heap) (a : Addr) (ty : FieldType) (vs : List Value) : Prop := ∃ cl : Cell, Arr Z h a cl ty ∧ cl.slots.toList = vs
theorem zLst.ext {h' : Heap} {a : Addr} {ty : FieldType} {vs : List Value} (F : zLst Z h a ty vs) (E : Ext h h') : zLst Z h' a ty vs := by obtain ⟨c, A, r⟩ := F; exact ⟨c, A.ext E, r⟩
theorem zLst.lt {a : Addr} {ty : FieldType} {vs : List Value} (F : zLst Z h a ty vs) : a < h.size := by obtain ⟨c, A, r⟩ := F; exact A.lt
theorem zLst.other {h' : Heap} {a b : Addr} {sl : Nat} {v : Value} {ty : FieldType} {vs : List Value} (F : zLst Z h b ty vs) (W : Wr h h' a sl v) (q : b ≠ a) : zLst Z h' b ty vs := by obtain ⟨c, A, r⟩ := F; exact ⟨c, A.other W q, r⟩
theorem zLst.keep {h' : Heap} {a : Addr} {ty : FieldType} {vs : List Value} {ws : List Addr} (F : zLst Z h a ty vs) (K : Keep h h' ws) (q : a ∉ ws) : zLst Z h' a ty vs := by obtain ⟨c, A, r⟩ := F; exact ⟨c, ⟨K.2.1 a c A.1 q, A.2⟩, r⟩
theorem zLst.same {h' : Heap} {a : Addr} {sl : Nat} {v : Value} {ty : FieldType} {vs : List Value} (F : zLst Z h a ty vs) (W : Wr h h' a sl v) : zLst Z h' a ty (vs.set sl v) := by
  obtain ⟨c, A, r⟩ := F
  refine ⟨_, A.same W, ?_⟩
  show (c.slots.setIfInBounds sl v).toList = _
  rw [Array.toList_setIfInBounds, r]
theorem zlst_in {cl : Cell} {vs : List Value} {j : Int32} (r : cl.slots.toList = vs) (hj : ¬ j < 0) (hlt : j.toNatClampNeg < vs.length) : ¬ (j < 0 ∨ cl.slots.size ≤ j.toNatClampNeg) := by
  rintro (q | q)
  · exact hj q
  · rw [← r, Array.length_toList] at hlt; exact absurd q (Nat.not_le.mpr hlt)
theorem zlst_at {cl : Cell} {vs : List Value} {k : Nat} {v : Value} (r : cl.slots.toList = vs) (hv : vs[k]? = some v) : cl.slots[k]? = some v := by
  rw [← r, Array.getElem?_toList] at hv; exact hv
theorem znewprim (X : Stand p l e R s m args below meth c T locs cells slots) (hx : p.tables.exec = Jvm.exec) (hby : c.code = bytes) {aty : ArrayType} (hd : decode bytes pc = .ok (.newarray aty, 2)) (hZ : Z.Warmed39 s.vm) (w : (Jvm.Cond.arrayClass (newarray.typeOf aty)).before a0 Z = true) (eT : T.heap = h) {n : Int32} (hn : ¬ n < 0) (cap : Nat) (hcap : n.toNatClampNeg ≤ cap) (hb8 : cap * 8 ≤ 536870912) (hc : cells + 1 ≤ R.cells) (hl : slots + cap ≤ R.slots)
    (r : ∀ T' h' b, Stand p l e R s m args below meth c T' locs (cells + 1) (slots + cap) → T'.heap = h' → b = h.size → Ext h h' → zLst Z h' b (newarray.typeOf aty) (List.replicate n.toNatClampNeg (defaultValue (newarray.typeOf aty))) → zEnds p e below s T' (mkF m (pc + 2) Ls (.ref b :: st)) cs ss Q) : zEnds p e below s T (mkF m pc Ls (.int n :: st)) cs ss Q := by
  obtain ⟨T', h', cA, X', e', E, A, k⟩ := newP X hx hZ w eT (g := mkF m pc Ls (.int n :: st)) rfl (hb hby hd) rfl hn hcap hb8 hc hl
  exact zstp k (r T' h' _ X' e' rfl E ⟨_, A, by simp [newA]⟩)
theorem zbaload (X : Stand p l e R s m args below meth c T locs cells slots) (hx : p.tables.exec = Jvm.exec) (hby : c.code = bytes) (hd : decode bytes pc = .ok (.baload, 1)) (hZ : Z.Warmed39 s.vm) (eT : T.heap = h) {a : Addr} {vs : List Value} (A : zLst Z h a .byte vs) {j : Int32} (hj : ¬ j < 0) {v : Value} (hv : vs[j.toNatClampNeg]? = some v)
    (r : zEnds p e below s T (mkF m (pc + 1) Ls (v :: st)) cs ss Q) : zEnds p e below s T (mkF m pc Ls (.int j :: .ref a :: st)) cs ss Q := by
  obtain ⟨cl, A, q⟩ := A
  exact zstp (fun _ k => X.baloadBytes hx (by rw [eT]; exact A.1) (State.isArrayOf_alike hZ.alike A.2.1) A.2.2 (zlst_in q hj (List.getElem?_eq_some_iff.mp hv).1) (zlst_at q hv) (g := mkF m pc Ls (.int j :: .ref a :: st)) rfl rfl (hb hby hd) _ k) r
theorem zlaload (X : Stand p l e R s m args below meth c T locs cells slots) (hx : p.tables.exec = Jvm.exec) (hby : c.code = bytes) (hd : decode bytes pc = .ok (.laload, 1)) (hZ : Z.Warmed39 s.vm) (eT : T.heap = h) {a : Addr} {vs : List Value} (A : zLst Z h a .long vs) {j : Int32} (hj : ¬ j < 0) {v : Value} (hv : vs[j.toNatClampNeg]? = some v)
    (r : zEnds p e below s T (mkF m (pc + 1) Ls (v :: st)) cs ss Q) : zEnds p e below s T (mkF m pc Ls (.int j :: .ref a :: st)) cs ss Q := by
  obtain ⟨cl, A, q⟩ := A
  exact zstp (fun _ k => X.laload hx (by rw [eT]; exact A.1) (State.isArrayOf_alike hZ.alike A.2.1) A.2.2 (zlst_in q hj (List.getElem?_eq_some_iff.mp hv).1) (zlst_at q hv) (g := mkF m pc Ls (.int j :: .ref a :: st)) rfl rfl (hb hby hd) _ k) r
theorem zaaload (X : Stand p l e R s m args below meth c T locs cells slots) (hx : p.tables.exec = Jvm.exec) (hby : c.code = bytes) (hd : decode bytes pc = .ok (.aaload, 1)) (hZ : Z.Warmed39 s.vm) (eT : T.heap = h) {a : Addr} {vs : List Value} {ty : FieldType} (hty : ty.isReference = true) (A : zLst Z h a ty vs) {j : Int32} (hj : ¬ j < 0) {v : Value} (hv : vs[j.toNatClampNeg]? = some v)
    (r : zEnds p e below s T (mkF m (pc + 1) Ls (v :: st)) cs ss Q) : zEnds p e below s T (mkF m pc Ls (.int j :: .ref a :: st)) cs ss Q := by
  obtain ⟨cl, A, q⟩ := A
  exact zstp (fun _ k => X.aaload hx (by rw [eT]; exact A.1) (State.isArrayOf_alike hZ.alike A.2.1) hty A.2.2 (zlst_in q hj (List.getElem?_eq_some_iff.mp hv).1) (zlst_at q hv) (g := mkF m pc Ls (.int j :: .ref a :: st)) rfl rfl (hb hby hd) _ k) r
theorem zialoadC (X : Stand p l e R s m args below meth c T locs cells slots) (hx : p.tables.exec = Jvm.exec) (hby : c.code = bytes) (hd : decode bytes pc = .ok (.iaload, 1)) (hZ : Z.Warmed39 s.vm) (eT : T.heap = h) {a : Addr} {cl : Cell} (A : Arr Z h a cl .int) {j : Int32} {v : Value} (hv : ¬ (j < 0 ∨ cl.slots.size ≤ j.toNatClampNeg) ∧ cl.slots[j.toNatClampNeg]? = some v)
    (r : zEnds p e below s T (mkF m (pc + 1) Ls (v :: st)) cs ss Q) : zEnds p e below s T (mkF m pc Ls (.int j :: .ref a :: st)) cs ss Q :=
  zstp (fun _ k => X.iaload hx (by rw [eT]; exact A.1) (State.isArrayOf_alike hZ.alike A.2.1) A.2.2 hv.1 hv.2 (g := mkF m pc Ls (.int j :: .ref a :: st)) rfl rfl (hb hby hd) _ k) r
theorem zalenC (X : Stand p l e R s m args below meth c T locs cells slots) (hx : p.tables.exec = Jvm.exec) (hby : c.code = bytes) (hd : decode bytes pc = .ok (.arraylength, 1)) (hZ : Z.Warmed39 s.vm) (eT : T.heap = h) {a : Addr} {cl : Cell} {ty : FieldType} (A : Arr Z h a cl ty) (z : Int32) (hz : cl.slots.size.toInt32 = z)
    (r : zEnds p e below s T (mkF m (pc + 1) Ls (.int z :: st)) cs ss Q) : zEnds p e below s T (mkF m pc Ls (.ref a :: st)) cs ss Q :=
  zstp (fun _ k => X.arraylength hx (by rw [eT]; exact A.1) (State.isArrayOf_alike hZ.alike A.2.1) (g := mkF m pc Ls (.ref a :: st)) rfl rfl (hb hby hd) _ (hz ▸ k)) r
theorem zbastore (X : Stand p l e R s m args below meth c T locs cells slots) (hx : p.tables.exec = Jvm.exec) (hby : c.code = bytes) (hd : decode bytes pc = .ok (.bastore, 1)) (hZ : Z.Warmed39 s.vm) (eT : T.heap = h) {a : Addr} {vs : List Value} (A : zLst Z h a .byte vs) {j x : Int32} (hj : ¬ j < 0) (hlt : j.toNatClampNeg < vs.length) (x' : Int32) (hx' : nar .byte x = x')
    (r : ∀ T' h', Stand p l e R s m args below meth c T' (locs ++ [⟨a, j.toNatClampNeg⟩]) cells slots → T'.heap = h' → Wr h h' a j.toNatClampNeg (.int x') → zLst Z h' a .byte (vs.set j.toNatClampNeg (.int x')) → zEnds p e below s T' (mkF m (pc + 1) Ls st) cs ss Q) : zEnds p e below s T (mkF m pc Ls (.int x :: .int j :: .ref a :: st)) cs ss Q := by
  obtain ⟨cl, A', q⟩ := A
  subst hx'
  obtain ⟨T', h', X', e', W, k⟩ := stB X hx hZ eT A' (j := j) (x := x) (zlst_in q hj hlt) (g := mkF m pc Ls (.int x :: .int j :: .ref a :: st)) rfl rfl (hb hby hd)
  exact zstp k (r T' h' X' e' W (zLst.same ⟨cl, A', q⟩ W))
theorem zlastore (X : Stand p l e R s m args below meth c T locs cells slots) (hx : p.tables.exec = Jvm.exec) (hby : c.code = bytes) (hd : decode bytes pc = .ok (.lastore, 1)) (hZ : Z.Warmed39 s.vm) (eT : T.heap = h) {a : Addr} {vs : List Value} (A : zLst Z h a .long vs) {j : Int32} {x : Int64} (hj : ¬ j < 0) (hlt : j.toNatClampNeg < vs.length)
    (r : ∀ T' h', Stand p l e R s m args below meth c T' (locs ++ [⟨a, j.toNatClampNeg⟩]) cells slots → T'.heap = h' → Wr h h' a j.toNatClampNeg (.long x) → zLst Z h' a .long (vs.set j.toNatClampNeg (.long x)) → zEnds p e below s T' (mkF m (pc + 1) Ls st) cs ss Q) : zEnds p e below s T (mkF m pc Ls (.long x :: .int j :: .ref a :: st)) cs ss Q := by
  obtain ⟨cl, A', q⟩ := A
  obtain ⟨T', h', X', e', W, k⟩ := stJ X hx hZ eT A' (j := j) (x := x) (zlst_in q hj hlt) (g := mkF m pc Ls (.long x :: .int j :: .ref a :: st)) rfl rfl (hb hby hd)
  exact zstp k (r T' h' X' e' W (zLst.same ⟨cl, A', q⟩ W))
/-- an array of references over C that holds just these values -/
def zLstR (Z : State) (h : Heap) (a : Addr) (C : String) (vs : List Value) : Prop := ∃ cl : Cell, Arr Z h a cl (.object C) ∧ Ovr Z cl.cls C ∧ cl.slots.toList = vs
theorem zLstR.lst {a : Addr} {C : String} {vs : List Value} (F : zLstR Z h a C vs) : zLst Z h a (.object C) vs := by obtain ⟨c, A, -, r⟩ := F; exact ⟨c, A, r⟩
theorem zLstR.ext {h' : Heap} {a : Addr} {C : String} {vs : List Value} (F : zLstR Z h a C vs) (E : Ext h h') : zLstR Z h' a C vs := by obtain ⟨c, A, r⟩ := F; exact ⟨c, A.ext E, r⟩
theorem zLstR.lt {a : Addr} {C : String} {vs : List Value} (F : zLstR Z h a C vs) : a < h.size := by obtain ⟨c, A, r⟩ := F; exact A.lt
theorem zLstR.other {h' : Heap} {a b : Addr} {sl : Nat} {v : Value} {C : String} {vs : List Value} (F : zLstR Z h b C vs) (W : Wr h h' a sl v) (q : b ≠ a) : zLstR Z h' b C vs := by obtain ⟨c, A, r⟩ := F; exact ⟨c, A.other W q, r⟩
theorem zLstR.keep {h' : Heap} {a : Addr} {C : String} {vs : List Value} {ws : List Addr} (F : zLstR Z h a C vs) (K : Keep h h' ws) (q : a ∉ ws) : zLstR Z h' a C vs := by obtain ⟨c, A, r⟩ := F; exact ⟨c, ⟨K.2.1 a c A.1 q, A.2⟩, r⟩
theorem zLstR.same {h' : Heap} {a : Addr} {sl : Nat} {v : Value} {C : String} {vs : List Value} (F : zLstR Z h a C vs) (W : Wr h h' a sl v) : zLstR Z h' a C (vs.set sl v) := by
  obtain ⟨c, A, O, r⟩ := F
  refine ⟨_, A.same W, O, ?_⟩
  show (c.slots.setIfInBounds sl v).toList = _
  rw [Array.toList_setIfInBounds, r]
theorem znewref (X : Stand p l e R s m args below meth c T locs cells slots) (hx : p.tables.exec = Jvm.exec) (hby : c.code = bytes) {own C : String} {i : Nat} (hd : decode bytes pc = .ok (.anewarray i, 3)) (hZ : Z.Warmed39 s.vm) (hown : s.vm.findClass own = some m.cls) (w1 : (Jvm.Cond.classLink own i C).before a0 Z = true) (w2 : (Jvm.Cond.arrayOver (.object C)).before a0 Z = true) (eT : T.heap = h) {n : Int32} (hn : ¬ n < 0) (cap : Nat) (hcap : n.toNatClampNeg ≤ cap) (hb8 : cap * 8 ≤ 536870912) (hc : cells + 1 ≤ R.cells) (hl : slots + cap ≤ R.slots)
    (r : ∀ T' h' b, Stand p l e R s m args below meth c T' locs (cells + 1) (slots + cap) → T'.heap = h' → b = h.size → Ext h h' → zLstR Z h' b C (List.replicate n.toNatClampNeg .null) → zEnds p e below s T' (mkF m (pc + 3) Ls (.ref b :: st)) cs ss Q) : zEnds p e below s T (mkF m pc Ls (.int n :: st)) cs ss Q := by
  obtain ⟨T', h', cA, X', e', E, A, O, k⟩ := newR X hx hZ hown w1 w2 eT (g := mkF m pc Ls (.int n :: st)) rfl (hb hby hd) rfl hn hcap hb8 hc hl
  exact zstp k (r T' h' _ X' e' rfl E ⟨_, A, O, by simp [newA, defaultValue]⟩)
theorem zaastore (X : Stand p l e R s m args below meth c T locs cells slots) (hx : p.tables.exec = Jvm.exec) (hby : c.code = bytes) (hd : decode bytes pc = .ok (.aastore, 1)) (hZ : Z.Warmed39 s.vm) (eT : T.heap = h) {a y : Addr} {C : String} {vs : List Value} (A : zLstR Z h a C vs) {j : Int32} (hj : ¬ j < 0) (hlt : j.toNatClampNeg < vs.length) (I : Ins Z h y C true)
    (r : ∀ T' h', Stand p l e R s m args below meth c T' (locs ++ [⟨a, j.toNatClampNeg⟩]) cells slots → T'.heap = h' → Wr h h' a j.toNatClampNeg (.ref y) → zLstR Z h' a C (vs.set j.toNatClampNeg (.ref y)) → zEnds p e below s T' (mkF m (pc + 1) Ls st) cs ss Q) : zEnds p e below s T (mkF m pc Ls (.ref y :: .int j :: .ref a :: st)) cs ss Q := by
  obtain ⟨cl, A', O, q⟩ := A
  obtain ⟨T', h', X', e', W, k⟩ := stR X hx hZ eT A' (j := j) (v := .ref y) (zlst_in q hj hlt) rfl (Sto.of A' O I) (g := mkF m pc Ls (.ref y :: .int j :: .ref a :: st)) rfl rfl (hb hby hd)
  exact zstp k (r T' h' X' e' W (zLstR.same ⟨cl, A', O, q⟩ W))
/-! zcalls -/
theorem zcalls (X : Stand p l e R s m args below meth c T locs cells slots) (hx : p.tables.exec = Jvm.exec) (hby : c.code = bytes) {own : String} {i : Nat} {y : MethodName} {by' : ByteArray} {maxL : Nat} {rt : Option FieldType} {rm : Room} {argsL : List Value} {Q' : Option Value → Heap → List Loc → Prop} (hd : decode bytes pc = .ok (.invokestatic i, 3)) (hZ : Z.Warmed39 s.vm) (hown : s.vm.findClass own = some m.cls) (w1 : (Jvm.Cond.methodLink own i y).before a0 Z = true) (w2 : (Jvm.Cond.static y).before a0 Z = true) (w3 : (Jvm.Cond.initialized y.cls).before a0 Z = true) (w4 : (Jvm.Cond.code y by' maxL rt).before a0 Z = true) (eT : T.heap = h)
    (con : zCon l Z y by' maxL rt [] rm argsL.toArray h Q') (hy : y.cls ≠ "java/lang/invoke/MethodHandle" ∧ y.cls ≠ "java/lang/invoke/VarHandle") (hml : Ls.size = c.maxLocals) (W : Nat) (hW : (st.map fun v => v.category).sum ≤ W) (hf : rm.frames + 1 ≤ R.frames) (hl : W + (maxL + 11) + rm.locals ≤ R.locals) (hcl : cells + rm.cells ≤ R.cells) (hsl : slots + rm.slots ≤ R.slots) {ps : List FieldType} {rv : Option FieldType} (hp : parseMethodDescriptor y.desc = some ⟨ps, rv⟩) (hn : argsL.length = ps.length) {S0 : List Value} (hS : S0 = argsL.reverse ++ st)
    (r : ∀ T' h' v L, T'.heap = h' → Stand p l e R s m args below meth c T' (locs ++ L) (cells + rm.cells) (slots + rm.slots) → Q' v h' L → zEnds p e below s T' (mkF m (pc + 3) Ls (v.toList ++ st)) cs ss Q) : zEnds p e below s T (mkF m pc Ls S0) cs ss Q := by
  obtain ⟨v, _, ⟨T', L', k', n'⟩, -, X', ⟨L, hq, l1, l2, l3⟩, k⟩ := Jvm.LawKit.callS X hx (y := y) hown (mvT hZ w1) (mvT hZ w2) (mvT hZ w3) (mvT hZ w4) hy (backOf (W := W) con hZ w4 w3 hf hl) (g := mkF m pc Ls S0) rfl hml (argsL := argsL) (rest := st) (lenOf hp hn) hS (by show 2 * 0 + _ ≤ _; rw [Nat.mul_zero, Nat.zero_add]; exact hW) (hb hby hd) (fun _ _ => ⟨rfl, eT, hcl, hsl⟩)
  dsimp only [Pt.U, Pt.locs, Pt.cells, Pt.slots] at X' l1 l2 l3 k hq
  subst l1 l2 l3
  exact zstp k (r T' _ v L rfl X' hq)
theorem zcallv (X : Stand p l e R s m args below meth c T locs cells slots) (hx : p.tables.exec = Jvm.exec) (hby : c.code = bytes) {own C : String} {i : Nat} {y z : MethodName} {by' : ByteArray} {maxL : Nat} {rt : Option FieldType} {rm : Room} {a : Addr} {argsL : List Value} {Q' : Option Value → Heap → List Loc → Prop} (hd : decode bytes pc = .ok (.invokevirtual i, 3)) (hZ : Z.Warmed39 s.vm) (hown : s.vm.findClass own = some m.cls) (w1 : (Jvm.Cond.methodLink own i y).before a0 Z = true) (w2 : (Jvm.Cond.declares y).before a0 Z = true) (hnf : NotFace s y) (w3 : (Jvm.Cond.selects C y z).before a0 Z = true) (w4 : (Jvm.Cond.instanceMethod z).before a0 Z = true) (w5 : (Jvm.Cond.code z by' maxL rt).before a0 Z = true) (w6 : (Jvm.Cond.initialized z.cls).before a0 Z = true) (eT : T.heap = h) (E : Exa Z h a C)
    (con : zCon l Z z by' maxL rt [] rm (.ref a :: argsL).toArray h Q') (hy : y.cls ≠ "java/lang/invoke/MethodHandle" ∧ y.cls ≠ "java/lang/invoke/VarHandle") (hml : Ls.size = c.maxLocals) (W : Nat) (hW : (st.map fun v => v.category).sum ≤ W) (hf : rm.frames + 1 ≤ R.frames) (hl : W + (maxL + 11) + rm.locals ≤ R.locals) (hcl : cells + rm.cells ≤ R.cells) (hsl : slots + rm.slots ≤ R.slots) {ps : List FieldType} {rv : Option FieldType} (hp : parseMethodDescriptor y.desc = some ⟨ps, rv⟩) (hn : argsL.length = ps.length) {S0 : List Value} (hS : S0 = argsL.reverse ++ .ref a :: st)
    (r : ∀ T' h' v L, T'.heap = h' → Stand p l e R s m args below meth c T' (locs ++ L) (cells + rm.cells) (slots + rm.slots) → Q' v h' L → zEnds p e below s T' (mkF m (pc + 3) Ls (v.toList ++ st)) cs ss Q) : zEnds p e below s T (mkF m pc Ls S0) cs ss Q := by
  obtain ⟨_, _, qa, -, qc⟩ := isOf hZ eT E
  obtain ⟨v, _, ⟨T', L', k', n'⟩, -, X', ⟨L, hq, l1, l2, l3⟩, k⟩ := X.virtualBack hx (y := y) (z := z) hown (mvT hZ w1) (mvT hZ w2) hnf (mvT hZ w3) (mvT hZ w4) hy (backOf (W := W) con hZ w5 w6 hf hl) qa qc (g := mkF m pc Ls S0) rfl hml (Steps.refl _) (argsL := argsL) (rest := st) (lenOf hp hn) hS (by show 2 * 0 + _ ≤ _; rw [Nat.mul_zero, Nat.zero_add]; exact hW) (hb hby hd) (fun _ _ => ⟨rfl, eT, hcl, hsl⟩)
  dsimp only [Pt.U, Pt.locs, Pt.cells, Pt.slots] at X' l1 l2 l3 k hq
  subst l1 l2 l3
  exact zstp (fun _ q => k.trans q) (r T' _ v L rfl X' hq)
theorem zcallsp (X : Stand p l e R s m args below meth c T locs cells slots) (hx : p.tables.exec = Jvm.exec) (hby : c.code = bytes) {own : String} {i : Nat} {y : MethodName} {by' : ByteArray} {maxL : Nat} {rm : Room} {a : Addr} {argsL : List Value} {Q' : Option Value → Heap → List Loc → Prop} (hd : decode bytes pc = .ok (.invokespecial i, 3)) (hZ : Z.Warmed39 s.vm) (hown : s.vm.findClass own = some m.cls) (hyn : y.name = "<init>") (w1 : (Jvm.Cond.methodLink own i y).before a0 Z = true) (w2 : (Jvm.Cond.instanceMethod y).before a0 Z = true) (w3 : (Jvm.Cond.code y by' maxL none).before a0 Z = true) (w4 : (Jvm.Cond.initialized y.cls).before a0 Z = true) (eT : T.heap = h)
    (con : zCon l Z y by' maxL none [] rm (.ref a :: argsL).toArray h Q') (hy : y.cls ≠ "java/lang/invoke/MethodHandle" ∧ y.cls ≠ "java/lang/invoke/VarHandle") (hml : Ls.size = c.maxLocals) (W : Nat) (hW : (st.map fun v => v.category).sum ≤ W) (hf : rm.frames + 1 ≤ R.frames) (hl : W + (maxL + 11) + rm.locals ≤ R.locals) (hcl : cells + rm.cells ≤ R.cells) (hsl : slots + rm.slots ≤ R.slots) {ps : List FieldType} {rv : Option FieldType} (hp : parseMethodDescriptor y.desc = some ⟨ps, rv⟩) (hn : argsL.length = ps.length) {S0 : List Value} (hS : S0 = argsL.reverse ++ .ref a :: st)
    (r : ∀ T' h' v L, T'.heap = h' → Stand p l e R s m args below meth c T' (locs ++ L) (cells + rm.cells) (slots + rm.slots) → Q' v h' L → zEnds p e below s T' (mkF m (pc + 3) Ls (v.toList ++ st)) cs ss Q) : zEnds p e below s T (mkF m pc Ls S0) cs ss Q := by
  obtain ⟨v, _, ⟨T', L', k', n'⟩, -, X', ⟨L, hq, l1, l2, l3⟩, k⟩ := X.specialBack hx (y := y) hyn hown (mvT hZ w1) (mvT hZ w2) (mvT hZ w3) hy (backOf (W := W) con hZ w3 w4 hf hl) (g := mkF m pc Ls S0) rfl hml (Steps.refl _) (a := a) (argsL := argsL) (rest := st) (lenOf hp hn) hS (by show 2 * 0 + _ ≤ _; rw [Nat.mul_zero, Nat.zero_add]; exact hW) (hb hby hd) (fun _ _ => ⟨rfl, eT, hcl, hsl⟩)
  dsimp only [Pt.U, Pt.locs, Pt.cells, Pt.slots] at X' l1 l2 l3 k hq
  subst l1 l2 l3
  exact zstp (fun _ q => k.trans q) (r T' _ v L rfl X' hq)
theorem zcallup (X : Stand p l e R s m args below meth c T locs cells slots) (hx : p.tables.exec = Jvm.exec) (hby : c.code = bytes) {own C owner : String} {i : Nat} {x y : MethodName} {by' : ByteArray} {maxL : Nat} {rt : Option FieldType} {rm : Room} {a : Addr} {argsL : List Value} {Q' : Option Value → Heap → List Loc → Prop} (hd : decode bytes pc = .ok (.invokevirtual i, 3)) (hZ : Z.Warmed39 s.vm) (hown : s.vm.findClass own = some m.cls) (w1 : (Jvm.Cond.methodLink own i x).before a0 Z = true) (w2 : (Jvm.Cond.sameMethod x.cls owner x.name x.desc).before a0 Z = true) (w2' : (Jvm.Cond.declares ⟨owner, x.name, x.desc⟩).before a0 Z = true) (w3 : (Jvm.Cond.selects C x y).before a0 Z = true) (w4 : (Jvm.Cond.instanceMethod y).before a0 Z = true) (w5 : (Jvm.Cond.code y by' maxL rt).before a0 Z = true) (w6 : (Jvm.Cond.initialized y.cls).before a0 Z = true) (eT : T.heap = h) (E : Exa Z h a C)
    (con : zCon l Z y by' maxL rt [] rm (.ref a :: argsL).toArray h Q') (hy : owner ≠ "java/lang/invoke/MethodHandle" ∧ owner ≠ "java/lang/invoke/VarHandle") (hml : Ls.size = c.maxLocals) (W : Nat) (hW : (st.map fun v => v.category).sum ≤ W) (hf : rm.frames + 1 ≤ R.frames) (hl : W + (maxL + 11) + rm.locals ≤ R.locals) (hcl : cells + rm.cells ≤ R.cells) (hsl : slots + rm.slots ≤ R.slots) {ps : List FieldType} {rv : Option FieldType} (hp : parseMethodDescriptor x.desc = some ⟨ps, rv⟩) (hn : argsL.length = ps.length) {S0 : List Value} (hS : S0 = argsL.reverse ++ .ref a :: st)
    (r : ∀ T' h' v L, T'.heap = h' → Stand p l e R s m args below meth c T' (locs ++ L) (cells + rm.cells) (slots + rm.slots) → Q' v h' L → zEnds p e below s T' (mkF m (pc + 3) Ls (v.toList ++ st)) cs ss Q) : zEnds p e below s T (mkF m pc Ls S0) cs ss Q := by
  obtain ⟨_, _, qa, -, qc⟩ := isOf hZ eT E
  obtain ⟨v, _, ⟨T', L', k', n'⟩, -, X', ⟨L, hq, l1, l2, l3⟩, k⟩ := X.virtualBackUp hx (x := x) (y := y) hown (mvT hZ w1) (mvT hZ w2) (mvT hZ w2') hy (mvT hZ w3) (mvT hZ w4) (backOf (W := W) con hZ w5 w6 hf hl) qa qc (g := mkF m pc Ls S0) rfl hml (Steps.refl _) (argsL := argsL) (rest := st) (lenOf hp hn) hS (by show 2 * 0 + _ ≤ _; rw [Nat.mul_zero, Nat.zero_add]; exact hW) (hb hby hd) (fun _ _ => ⟨rfl, eT, hcl, hsl⟩)
  dsimp only [Pt.U, Pt.locs, Pt.cells, Pt.slots] at X' l1 l2 l3 k hq
  subst l1 l2 l3
  exact zstp (fun _ q => k.trans q) (r T' _ v L rfl X' hq)
/-- the continuation behind a callee that wrote nothing -/
theorem zpureK {w : Option Value} {rm : Room} (hr : rm.cells = 0 ∧ rm.slots = 0) (r : ∀ T', Stand p l e R s m args below meth c T' locs cells slots → T'.heap = h → zEnds p e below s T' (mkF m pc Ls (w.toList ++ st)) cs ss Q) :
    ∀ T' h' v L, T'.heap = h' → Stand p l e R s m args below meth c T' (locs ++ L) (cells + rm.cells) (slots + rm.slots) → zSame w h v h' L → zEnds p e below s T' (mkF m pc Ls (v.toList ++ st)) cs ss Q := by
  rintro T' h' v L e' X ⟨rfl, rfl, rfl⟩
  rw [hr.1, hr.2, List.append_nil] at X
  exact r T' X e'
/-! from the words of a case to facts -/
theorem zfld_int {t : Term} {x : Addr} {C n d : String} {k : Int32} {args : Array Value} {s : State} (ev : t.eval args s none [] s = some (.ref x)) (q : (Jvm.Cond.eq (Term.field t C n d) (Term.int k)).value args s none s [] = some true) : Fld s s.heap x C n d (.int k) := by
  obtain ⟨u, w, e1, e2, k1, k2⟩ := cmp_v (Or.inl q)
  rw [fld_at ev] at e1
  cases (Term.int_eval k).symm.trans e2
  obtain ⟨z, rfl⟩ := k2
  have h1 : (Term.field t C n d).eval args s none [] s = some (.int z) := (fld_at ev).trans e1
  have : z = k := by simpa [Jvm.Cond.value, h1, Term.int_eval] using q
  subst this
  exact Fld.start e1
theorem zelem_at0 {t : Term} {x : Addr} {i v : Int32} {cl : Cell} {args : Array Value} {s : State} (ev : t.eval args s none [] s = some (.ref x)) (hc : s.heap[x]? = some cl) (q : (Jvm.Cond.eq (Term.elem t (Term.int i)) (Term.int v)).value args s none s [] = some true) : ¬ (i < 0 ∨ cl.slots.size ≤ i.toNatClampNeg) ∧ cl.slots[i.toNatClampNeg]? = some (.int v) := by
  obtain ⟨u, w, e1, e2, k1, k2⟩ := cmp_v (Or.inl q)
  cases (Term.int_eval v).symm.trans e2
  obtain ⟨z, rfl⟩ := k2
  have : z = v := by simpa [Jvm.Cond.value, e1, Term.int_eval] using q
  subst this
  exact elem_in e1 ev (Term.int_eval i) hc
theorem zlen_is {t : Term} {x : Addr} {k : Int32} {cl : Cell} {ty : FieldType} {args : Array Value} {s : State} (ev : t.eval args s none [] s = some (.ref x)) (A : Arr s s.heap x cl ty) (q : (Jvm.Cond.eq (Term.length t) (Term.int k)).value args s none s [] = some true) : cl.slots.size.toInt32 = k := by
  obtain ⟨u, w, e1, e2, k1, k2⟩ := cmp_v (Or.inl q)
  cases (Term.int_eval k).symm.trans e2
  obtain ⟨z, rfl⟩ := k2
  have h0 : z = k := by simpa [Jvm.Cond.value, e1, Term.int_eval] using q
  subst h0
  have h1 : s.arrayAt? x = some cl := Arr.fin (Vm.Alike.refl _) A
  by_cases hl : cl.slots.size < 2 ^ 31
  · have := (len_f (args := args) (first := s) (o := none) (idx := []) ev h1 hl).symm.trans e1
    exact Value.int.inj (Option.some.inj this)
  · exfalso; simp [Term.eval, ev, h1, hl] at e1
theorem zfld_ref {t t' : Term} {x y : Addr} {C n d : String} {args : Array Value} {s : State} (ev : t.eval args s none [] s = some (.ref x)) (ev' : t'.eval args s none [] s = some (.ref y)) (q : (Jvm.Cond.eq (Term.field t C n d) t').value args s none s [] = some true) : Fld s s.heap x C n d (.ref y) := by
  obtain ⟨u, w, e1, e2, k1, k2⟩ := cmp_v (Or.inl q)
  cases ev'.symm.trans e2
  have k3 : u.isRef = true := k2.2
  have q2 := gotT (eq_R e1 ev' k3 rfl) q
  subst q2
  rw [fld_at ev] at e1
  exact Fld.start e1
end Own
end Jvm.OwnKit
namespace Jvm.Pilot.@@N@@
open Jvm Jvm.ClassFile Sem Op Lib Jvm.Free Jvm.Stand Jvm.LawKit Jvm.RoadKit Jvm.OwnKit Bundle Jvm.Pilot.@@N@@.Jvm.D
theorem w0 {Z : State} {a0 : Array Value} (hw : ∀ d ∈ tables_1, d.before a0 Z = true) : (Jvm.Cond.constant "com/example/kick/kick/value/PoolSpecBoundedPinLaw" (7 : Nat) (2147483647 : Int32)).before a0 Z = true := hw _ (List.mem_of_getElem? (i := 0) rfl)
theorem w1 {Z : State} {a0 : Array Value} (hw : ∀ d ∈ tables_1, d.before a0 Z = true) : (Jvm.Cond.methodLink "com/example/kick/kick/value/PoolSpecBoundedPinLaw" (8 : Nat) ({ cls := "java/lang/Math", name := "max", desc := "(II)I" } : Jvm.MethodName)).before a0 Z = true := hw _ (List.mem_of_getElem? (i := 1) rfl)
theorem w2 {Z : State} {a0 : Array Value} (hw : ∀ d ∈ tables_1, d.before a0 Z = true) : (Jvm.Cond.static ({ cls := "java/lang/Math", name := "max", desc := "(II)I" } : Jvm.MethodName)).before a0 Z = true := hw _ (List.mem_of_getElem? (i := 2) rfl)
theorem w3 {Z : State} {a0 : Array Value} (hw : ∀ d ∈ tables_1, d.before a0 Z = true) : (Jvm.Cond.initialized "java/lang/Math").before a0 Z = true := hw _ (List.mem_of_getElem? (i := 3) rfl)
theorem w4 {Z : State} {a0 : Array Value} (hw : ∀ d ∈ tables_1, d.before a0 Z = true) : (Jvm.Cond.code ({ cls := "java/lang/Math", name := "max", desc := "(II)I" } : Jvm.MethodName) jdk_29_method_65_code (2 : Nat) (Option.some Jvm.ClassFile.FieldType.int)).before a0 Z = true := hw _ (List.mem_of_getElem? (i := 4) rfl)
theorem w5 {Z : State} {a0 : Array Value} (hw : ∀ d ∈ tables_1, d.before a0 Z = true) : (Jvm.Cond.constantLong "com/example/kick/kick/value/PoolSpecBoundedPinLaw" (16 : Nat) (2147483647 : Int64)).before a0 Z = true := hw _ (List.mem_of_getElem? (i := 5) rfl)
theorem w6 {Z : State} {a0 : Array Value} (hw : ∀ d ∈ tables_1, d.before a0 Z = true) : (Jvm.Cond.methodLink "com/example/kick/kick/value/PoolSpecBoundedPinLaw" (18 : Nat) ({ cls := "com/example/kick/kick/value/PoolSpec", name := "bounded", desc := "(III)Lcom/example/kick/kick/value/PoolSpec;" } : Jvm.MethodName)).before a0 Z = true := hw _ (List.mem_of_getElem? (i := 6) rfl)
theorem w7 {Z : State} {a0 : Array Value} (hw : ∀ d ∈ tables_1, d.before a0 Z = true) : (Jvm.Cond.static ({ cls := "com/example/kick/kick/value/PoolSpec", name := "bounded", desc := "(III)Lcom/example/kick/kick/value/PoolSpec;" } : Jvm.MethodName)).before a0 Z = true := hw _ (List.mem_of_getElem? (i := 7) rfl)
theorem w8 {Z : State} {a0 : Array Value} (hw : ∀ d ∈ tables_1, d.before a0 Z = true) : (Jvm.Cond.initialized "com/example/kick/kick/value/PoolSpec").before a0 Z = true := hw _ (List.mem_of_getElem? (i := 8) rfl)
theorem w9 {Z : State} {a0 : Array Value} (hw : ∀ d ∈ tables_1, d.before a0 Z = true) : (Jvm.Cond.code ({ cls := "com/example/kick/kick/value/PoolSpec", name := "bounded", desc := "(III)Lcom/example/kick/kick/value/PoolSpec;" } : Jvm.MethodName) prog_13_method_2_code (3 : Nat) (Option.some (Jvm.ClassFile.FieldType.object "com/example/kick/kick/value/PoolSpec"))).before a0 Z = true := hw _ (List.mem_of_getElem? (i := 9) rfl)
theorem w10 {Z : State} {a0 : Array Value} (hw : ∀ d ∈ tables_1, d.before a0 Z = true) : (Jvm.Cond.classLink "com/example/kick/kick/value/PoolSpec" (8 : Nat) "com/example/kick/kick/value/PoolSpec").before a0 Z = true := hw _ (List.mem_of_getElem? (i := 10) rfl)
theorem w11 {Z : State} {a0 : Array Value} (hw : ∀ d ∈ tables_1, d.before a0 Z = true) : (Jvm.Cond.instantiable "com/example/kick/kick/value/PoolSpec" (6 : Nat)).before a0 Z = true := hw _ (List.mem_of_getElem? (i := 11) rfl)
theorem w12 {Z : State} {a0 : Array Value} (hw : ∀ d ∈ tables_1, d.before a0 Z = true) : (Jvm.Cond.fieldLink "com/example/kick/kick/value/PoolSpec" (44 : Nat) "com/example/kick/kick/value/Overflow" "CALLER_RUNS" "Lcom/example/kick/kick/value/Overflow;").before a0 Z = true := hw _ (List.mem_of_getElem? (i := 12) rfl)
theorem w13 {Z : State} {a0 : Array Value} (hw : ∀ d ∈ tables_1, d.before a0 Z = true) : (Jvm.Cond.initialized "com/example/kick/kick/value/Overflow").before a0 Z = true := hw _ (List.mem_of_getElem? (i := 13) rfl)
theorem w14 {Z : State} {a0 : Array Value} (hw : ∀ d ∈ tables_1, d.before a0 Z = true) : (Jvm.Cond.laysStatic "com/example/kick/kick/value/Overflow" "CALLER_RUNS" "Lcom/example/kick/kick/value/Overflow;").before a0 Z = true := hw _ (List.mem_of_getElem? (i := 14) rfl)
theorem w15 {Z : State} {a0 : Array Value} (hw : ∀ d ∈ tables_1, d.before a0 Z = true) : (Jvm.Cond.fieldLink "com/example/kick/kick/value/PoolSpec" (49 : Nat) "com/example/kick/kick/value/PoolSpec" "DEFAULT_KEEP_ALIVE" "Ljava/time/Duration;").before a0 Z = true := hw _ (List.mem_of_getElem? (i := 15) rfl)
theorem w16 {Z : State} {a0 : Array Value} (hw : ∀ d ∈ tables_1, d.before a0 Z = true) : (Jvm.Cond.laysStatic "com/example/kick/kick/value/PoolSpec" "DEFAULT_KEEP_ALIVE" "Ljava/time/Duration;").before a0 Z = true := hw _ (List.mem_of_getElem? (i := 16) rfl)
theorem w17 {Z : State} {a0 : Array Value} (hw : ∀ d ∈ tables_1, d.before a0 Z = true) : (Jvm.Cond.fieldLink "com/example/kick/kick/value/PoolSpec" (52 : Nat) "com/example/kick/kick/value/PoolSpec" "DEFAULT_CLOSE_WINDOW" "Ljava/time/Duration;").before a0 Z = true := hw _ (List.mem_of_getElem? (i := 17) rfl)
theorem w18 {Z : State} {a0 : Array Value} (hw : ∀ d ∈ tables_1, d.before a0 Z = true) : (Jvm.Cond.laysStatic "com/example/kick/kick/value/PoolSpec" "DEFAULT_CLOSE_WINDOW" "Ljava/time/Duration;").before a0 Z = true := hw _ (List.mem_of_getElem? (i := 18) rfl)
theorem w19 {Z : State} {a0 : Array Value} (hw : ∀ d ∈ tables_1, d.before a0 Z = true) : (Jvm.Cond.methodLink "com/example/kick/kick/value/PoolSpec" (55 : Nat) ({ cls := "com/example/kick/kick/value/PoolSpec", name := "<init>", desc := "(IIILcom/example/kick/kick/value/Overflow;Ljava/time/Duration;Ljava/time/Duration;)V" } : Jvm.MethodName)).before a0 Z = true := hw _ (List.mem_of_getElem? (i := 19) rfl)
theorem w20 {Z : State} {a0 : Array Value} (hw : ∀ d ∈ tables_1, d.before a0 Z = true) : (Jvm.Cond.instanceMethod ({ cls := "com/example/kick/kick/value/PoolSpec", name := "<init>", desc := "(IIILcom/example/kick/kick/value/Overflow;Ljava/time/Duration;Ljava/time/Duration;)V" } : Jvm.MethodName)).before a0 Z = true := hw _ (List.mem_of_getElem? (i := 20) rfl)
theorem w21 {Z : State} {a0 : Array Value} (hw : ∀ d ∈ tables_1, d.before a0 Z = true) : (Jvm.Cond.code ({ cls := "com/example/kick/kick/value/PoolSpec", name := "<init>", desc := "(IIILcom/example/kick/kick/value/Overflow;Ljava/time/Duration;Ljava/time/Duration;)V" } : Jvm.MethodName) prog_13_method_1_code (7 : Nat) (Option.none : Option Jvm.ClassFile.FieldType)).before a0 Z = true := hw _ (List.mem_of_getElem? (i := 21) rfl)
theorem w22 {Z : State} {a0 : Array Value} (hw : ∀ d ∈ tables_1, d.before a0 Z = true) : (Jvm.Cond.methodLink "com/example/kick/kick/value/PoolSpec" (1 : Nat) ({ cls := "java/lang/Object", name := "<init>", desc := "()V" } : Jvm.MethodName)).before a0 Z = true := hw _ (List.mem_of_getElem? (i := 22) rfl)
theorem w23 {Z : State} {a0 : Array Value} (hw : ∀ d ∈ tables_1, d.before a0 Z = true) : (Jvm.Cond.instanceMethod ({ cls := "java/lang/Object", name := "<init>", desc := "()V" } : Jvm.MethodName)).before a0 Z = true := hw _ (List.mem_of_getElem? (i := 23) rfl)
theorem w24 {Z : State} {a0 : Array Value} (hw : ∀ d ∈ tables_1, d.before a0 Z = true) : (Jvm.Cond.code ({ cls := "java/lang/Object", name := "<init>", desc := "()V" } : Jvm.MethodName) object_method_1_code (1 : Nat) (Option.none : Option Jvm.ClassFile.FieldType)).before a0 Z = true := hw _ (List.mem_of_getElem? (i := 24) rfl)
theorem w25 {Z : State} {a0 : Array Value} (hw : ∀ d ∈ tables_1, d.before a0 Z = true) : (Jvm.Cond.fieldLink "com/example/kick/kick/value/PoolSpec" (7 : Nat) "com/example/kick/kick/value/PoolSpec" "core" "I").before a0 Z = true := hw _ (List.mem_of_getElem? (i := 25) rfl)
theorem w26 {Z : State} {a0 : Array Value} (hw : ∀ d ∈ tables_1, d.before a0 Z = true) : (Jvm.Cond.laysFinal "com/example/kick/kick/value/PoolSpec" "com/example/kick/kick/value/PoolSpec" "core" "I").before a0 Z = true := hw _ (List.mem_of_getElem? (i := 26) rfl)
theorem w27 {Z : State} {a0 : Array Value} (hw : ∀ d ∈ tables_1, d.before a0 Z = true) : (Jvm.Cond.fieldLink "com/example/kick/kick/value/PoolSpec" (13 : Nat) "com/example/kick/kick/value/PoolSpec" "max" "I").before a0 Z = true := hw _ (List.mem_of_getElem? (i := 27) rfl)
theorem w28 {Z : State} {a0 : Array Value} (hw : ∀ d ∈ tables_1, d.before a0 Z = true) : (Jvm.Cond.laysFinal "com/example/kick/kick/value/PoolSpec" "com/example/kick/kick/value/PoolSpec" "max" "I").before a0 Z = true := hw _ (List.mem_of_getElem? (i := 28) rfl)
theorem w29 {Z : State} {a0 : Array Value} (hw : ∀ d ∈ tables_1, d.before a0 Z = true) : (Jvm.Cond.fieldLink "com/example/kick/kick/value/PoolSpec" (16 : Nat) "com/example/kick/kick/value/PoolSpec" "queue" "I").before a0 Z = true := hw _ (List.mem_of_getElem? (i := 29) rfl)
theorem w30 {Z : State} {a0 : Array Value} (hw : ∀ d ∈ tables_1, d.before a0 Z = true) : (Jvm.Cond.laysFinal "com/example/kick/kick/value/PoolSpec" "com/example/kick/kick/value/PoolSpec" "queue" "I").before a0 Z = true := hw _ (List.mem_of_getElem? (i := 30) rfl)
theorem w31 {Z : State} {a0 : Array Value} (hw : ∀ d ∈ tables_1, d.before a0 Z = true) : (Jvm.Cond.fieldLink "com/example/kick/kick/value/PoolSpec" (19 : Nat) "com/example/kick/kick/value/PoolSpec" "overflow" "Lcom/example/kick/kick/value/Overflow;").before a0 Z = true := hw _ (List.mem_of_getElem? (i := 31) rfl)
theorem w32 {Z : State} {a0 : Array Value} (hw : ∀ d ∈ tables_1, d.before a0 Z = true) : (Jvm.Cond.laysFinal "com/example/kick/kick/value/PoolSpec" "com/example/kick/kick/value/PoolSpec" "overflow" "Lcom/example/kick/kick/value/Overflow;").before a0 Z = true := hw _ (List.mem_of_getElem? (i := 32) rfl)
theorem w33 {Z : State} {a0 : Array Value} (hw : ∀ d ∈ tables_1, d.before a0 Z = true) : (Jvm.Cond.fieldLink "com/example/kick/kick/value/PoolSpec" (23 : Nat) "com/example/kick/kick/value/PoolSpec" "keepAlive" "Ljava/time/Duration;").before a0 Z = true := hw _ (List.mem_of_getElem? (i := 33) rfl)
theorem w34 {Z : State} {a0 : Array Value} (hw : ∀ d ∈ tables_1, d.before a0 Z = true) : (Jvm.Cond.laysFinal "com/example/kick/kick/value/PoolSpec" "com/example/kick/kick/value/PoolSpec" "keepAlive" "Ljava/time/Duration;").before a0 Z = true := hw _ (List.mem_of_getElem? (i := 34) rfl)
theorem w35 {Z : State} {a0 : Array Value} (hw : ∀ d ∈ tables_1, d.before a0 Z = true) : (Jvm.Cond.fieldLink "com/example/kick/kick/value/PoolSpec" (27 : Nat) "com/example/kick/kick/value/PoolSpec" "closeWindow" "Ljava/time/Duration;").before a0 Z = true := hw _ (List.mem_of_getElem? (i := 35) rfl)
theorem w36 {Z : State} {a0 : Array Value} (hw : ∀ d ∈ tables_1, d.before a0 Z = true) : (Jvm.Cond.laysFinal "com/example/kick/kick/value/PoolSpec" "com/example/kick/kick/value/PoolSpec" "closeWindow" "Ljava/time/Duration;").before a0 Z = true := hw _ (List.mem_of_getElem? (i := 36) rfl)
theorem w37 {Z : State} {a0 : Array Value} (hw : ∀ d ∈ tables_1, d.before a0 Z = true) : (Jvm.Cond.methodLink "com/example/kick/kick/value/PoolSpecBoundedPinLaw" (24 : Nat) ({ cls := "com/example/kick/kick/value/PoolSpec", name := "core", desc := "()I" } : Jvm.MethodName)).before a0 Z = true := hw _ (List.mem_of_getElem? (i := 37) rfl)
theorem w38 {Z : State} {a0 : Array Value} (hw : ∀ d ∈ tables_1, d.before a0 Z = true) : (Jvm.Cond.declares ({ cls := "com/example/kick/kick/value/PoolSpec", name := "core", desc := "()I" } : Jvm.MethodName)).before a0 Z = true := hw _ (List.mem_of_getElem? (i := 38) rfl)
theorem w39 {Z : State} {a0 : Array Value} (hw : ∀ d ∈ tables_1, d.before a0 Z = true) : (Jvm.Cond.instanceMethod ({ cls := "com/example/kick/kick/value/PoolSpec", name := "core", desc := "()I" } : Jvm.MethodName)).before a0 Z = true := hw _ (List.mem_of_getElem? (i := 39) rfl)
theorem w40 {Z : State} {a0 : Array Value} (hw : ∀ d ∈ tables_1, d.before a0 Z = true) : (Jvm.Cond.selects "com/example/kick/kick/value/PoolSpec" ({ cls := "com/example/kick/kick/value/PoolSpec", name := "core", desc := "()I" } : Jvm.MethodName) ({ cls := "com/example/kick/kick/value/PoolSpec", name := "core", desc := "()I" } : Jvm.MethodName)).before a0 Z = true := hw _ (List.mem_of_getElem? (i := 40) rfl)
theorem w41 {Z : State} {a0 : Array Value} (hw : ∀ d ∈ tables_1, d.before a0 Z = true) : (Jvm.Cond.code ({ cls := "com/example/kick/kick/value/PoolSpec", name := "core", desc := "()I" } : Jvm.MethodName) prog_13_method_6_code (1 : Nat) (Option.some Jvm.ClassFile.FieldType.int)).before a0 Z = true := hw _ (List.mem_of_getElem? (i := 41) rfl)
theorem w42 {Z : State} {a0 : Array Value} (hw : ∀ d ∈ tables_1, d.before a0 Z = true) : (Jvm.Cond.methodLink "com/example/kick/kick/value/PoolSpecBoundedPinLaw" (28 : Nat) ({ cls := "com/example/kick/kick/value/PoolSpec", name := "max", desc := "()I" } : Jvm.MethodName)).before a0 Z = true := hw _ (List.mem_of_getElem? (i := 42) rfl)
theorem w43 {Z : State} {a0 : Array Value} (hw : ∀ d ∈ tables_1, d.before a0 Z = true) : (Jvm.Cond.declares ({ cls := "com/example/kick/kick/value/PoolSpec", name := "max", desc := "()I" } : Jvm.MethodName)).before a0 Z = true := hw _ (List.mem_of_getElem? (i := 43) rfl)
theorem w44 {Z : State} {a0 : Array Value} (hw : ∀ d ∈ tables_1, d.before a0 Z = true) : (Jvm.Cond.instanceMethod ({ cls := "com/example/kick/kick/value/PoolSpec", name := "max", desc := "()I" } : Jvm.MethodName)).before a0 Z = true := hw _ (List.mem_of_getElem? (i := 44) rfl)
theorem w45 {Z : State} {a0 : Array Value} (hw : ∀ d ∈ tables_1, d.before a0 Z = true) : (Jvm.Cond.selects "com/example/kick/kick/value/PoolSpec" ({ cls := "com/example/kick/kick/value/PoolSpec", name := "max", desc := "()I" } : Jvm.MethodName) ({ cls := "com/example/kick/kick/value/PoolSpec", name := "max", desc := "()I" } : Jvm.MethodName)).before a0 Z = true := hw _ (List.mem_of_getElem? (i := 45) rfl)
theorem w46 {Z : State} {a0 : Array Value} (hw : ∀ d ∈ tables_1, d.before a0 Z = true) : (Jvm.Cond.code ({ cls := "com/example/kick/kick/value/PoolSpec", name := "max", desc := "()I" } : Jvm.MethodName) prog_13_method_7_code (1 : Nat) (Option.some Jvm.ClassFile.FieldType.int)).before a0 Z = true := hw _ (List.mem_of_getElem? (i := 46) rfl)
theorem w47 {Z : State} {a0 : Array Value} (hw : ∀ d ∈ tables_1, d.before a0 Z = true) : (Jvm.Cond.methodLink "com/example/kick/kick/value/PoolSpecBoundedPinLaw" (30 : Nat) ({ cls := "com/example/kick/kick/value/PoolSpec", name := "queue", desc := "()I" } : Jvm.MethodName)).before a0 Z = true := hw _ (List.mem_of_getElem? (i := 47) rfl)
theorem w48 {Z : State} {a0 : Array Value} (hw : ∀ d ∈ tables_1, d.before a0 Z = true) : (Jvm.Cond.declares ({ cls := "com/example/kick/kick/value/PoolSpec", name := "queue", desc := "()I" } : Jvm.MethodName)).before a0 Z = true := hw _ (List.mem_of_getElem? (i := 48) rfl)
theorem w49 {Z : State} {a0 : Array Value} (hw : ∀ d ∈ tables_1, d.before a0 Z = true) : (Jvm.Cond.instanceMethod ({ cls := "com/example/kick/kick/value/PoolSpec", name := "queue", desc := "()I" } : Jvm.MethodName)).before a0 Z = true := hw _ (List.mem_of_getElem? (i := 49) rfl)
theorem w50 {Z : State} {a0 : Array Value} (hw : ∀ d ∈ tables_1, d.before a0 Z = true) : (Jvm.Cond.selects "com/example/kick/kick/value/PoolSpec" ({ cls := "com/example/kick/kick/value/PoolSpec", name := "queue", desc := "()I" } : Jvm.MethodName) ({ cls := "com/example/kick/kick/value/PoolSpec", name := "queue", desc := "()I" } : Jvm.MethodName)).before a0 Z = true := hw _ (List.mem_of_getElem? (i := 50) rfl)
theorem w51 {Z : State} {a0 : Array Value} (hw : ∀ d ∈ tables_1, d.before a0 Z = true) : (Jvm.Cond.code ({ cls := "com/example/kick/kick/value/PoolSpec", name := "queue", desc := "()I" } : Jvm.MethodName) prog_13_method_8_code (1 : Nat) (Option.some Jvm.ClassFile.FieldType.int)).before a0 Z = true := hw _ (List.mem_of_getElem? (i := 51) rfl)
theorem w52 {Z : State} {a0 : Array Value} (hw : ∀ d ∈ tables_1, d.before a0 Z = true) : (Jvm.Cond.methodLink "com/example/kick/kick/value/PoolSpecBoundedPinLaw" (33 : Nat) ({ cls := "com/example/kick/kick/value/PoolSpec", name := "overflow", desc := "()Lcom/example/kick/kick/value/Overflow;" } : Jvm.MethodName)).before a0 Z = true := hw _ (List.mem_of_getElem? (i := 52) rfl)
theorem w53 {Z : State} {a0 : Array Value} (hw : ∀ d ∈ tables_1, d.before a0 Z = true) : (Jvm.Cond.declares ({ cls := "com/example/kick/kick/value/PoolSpec", name := "overflow", desc := "()Lcom/example/kick/kick/value/Overflow;" } : Jvm.MethodName)).before a0 Z = true := hw _ (List.mem_of_getElem? (i := 53) rfl)
theorem w54 {Z : State} {a0 : Array Value} (hw : ∀ d ∈ tables_1, d.before a0 Z = true) : (Jvm.Cond.instanceMethod ({ cls := "com/example/kick/kick/value/PoolSpec", name := "overflow", desc := "()Lcom/example/kick/kick/value/Overflow;" } : Jvm.MethodName)).before a0 Z = true := hw _ (List.mem_of_getElem? (i := 54) rfl)
theorem w55 {Z : State} {a0 : Array Value} (hw : ∀ d ∈ tables_1, d.before a0 Z = true) : (Jvm.Cond.selects "com/example/kick/kick/value/PoolSpec" ({ cls := "com/example/kick/kick/value/PoolSpec", name := "overflow", desc := "()Lcom/example/kick/kick/value/Overflow;" } : Jvm.MethodName) ({ cls := "com/example/kick/kick/value/PoolSpec", name := "overflow", desc := "()Lcom/example/kick/kick/value/Overflow;" } : Jvm.MethodName)).before a0 Z = true := hw _ (List.mem_of_getElem? (i := 55) rfl)
theorem w56 {Z : State} {a0 : Array Value} (hw : ∀ d ∈ tables_1, d.before a0 Z = true) : (Jvm.Cond.code ({ cls := "com/example/kick/kick/value/PoolSpec", name := "overflow", desc := "()Lcom/example/kick/kick/value/Overflow;" } : Jvm.MethodName) prog_13_method_9_code (1 : Nat) (Option.some (Jvm.ClassFile.FieldType.object "com/example/kick/kick/value/Overflow"))).before a0 Z = true := hw _ (List.mem_of_getElem? (i := 56) rfl)
theorem w57 {Z : State} {a0 : Array Value} (hw : ∀ d ∈ tables_1, d.before a0 Z = true) : (Jvm.Cond.fieldLink "com/example/kick/kick/value/PoolSpecBoundedPinLaw" (37 : Nat) "com/example/kick/kick/value/Overflow" "CALLER_RUNS" "Lcom/example/kick/kick/value/Overflow;").before a0 Z = true := hw _ (List.mem_of_getElem? (i := 57) rfl)
theorem w58 {Z : State} {a0 : Array Value} (hw : ∀ d ∈ tables_1, d.before a0 Z = true) : (Jvm.Cond.methodLink "com/example/kick/kick/value/PoolSpecBoundedPinLaw" (43 : Nat) ({ cls := "com/example/kick/kick/value/PoolSpec", name := "keepAlive", desc := "()Ljava/time/Duration;" } : Jvm.MethodName)).before a0 Z = true := hw _ (List.mem_of_getElem? (i := 58) rfl)
theorem w59 {Z : State} {a0 : Array Value} (hw : ∀ d ∈ tables_1, d.before a0 Z = true) : (Jvm.Cond.declares ({ cls := "com/example/kick/kick/value/PoolSpec", name := "keepAlive", desc := "()Ljava/time/Duration;" } : Jvm.MethodName)).before a0 Z = true := hw _ (List.mem_of_getElem? (i := 59) rfl)
theorem w60 {Z : State} {a0 : Array Value} (hw : ∀ d ∈ tables_1, d.before a0 Z = true) : (Jvm.Cond.instanceMethod ({ cls := "com/example/kick/kick/value/PoolSpec", name := "keepAlive", desc := "()Ljava/time/Duration;" } : Jvm.MethodName)).before a0 Z = true := hw _ (List.mem_of_getElem? (i := 60) rfl)
theorem w61 {Z : State} {a0 : Array Value} (hw : ∀ d ∈ tables_1, d.before a0 Z = true) : (Jvm.Cond.selects "com/example/kick/kick/value/PoolSpec" ({ cls := "com/example/kick/kick/value/PoolSpec", name := "keepAlive", desc := "()Ljava/time/Duration;" } : Jvm.MethodName) ({ cls := "com/example/kick/kick/value/PoolSpec", name := "keepAlive", desc := "()Ljava/time/Duration;" } : Jvm.MethodName)).before a0 Z = true := hw _ (List.mem_of_getElem? (i := 61) rfl)
theorem w62 {Z : State} {a0 : Array Value} (hw : ∀ d ∈ tables_1, d.before a0 Z = true) : (Jvm.Cond.code ({ cls := "com/example/kick/kick/value/PoolSpec", name := "keepAlive", desc := "()Ljava/time/Duration;" } : Jvm.MethodName) prog_13_method_10_code (1 : Nat) (Option.some (Jvm.ClassFile.FieldType.object "java/time/Duration"))).before a0 Z = true := hw _ (List.mem_of_getElem? (i := 62) rfl)
theorem w63 {Z : State} {a0 : Array Value} (hw : ∀ d ∈ tables_1, d.before a0 Z = true) : (Jvm.Cond.methodLink "com/example/kick/kick/value/PoolSpecBoundedPinLaw" (47 : Nat) ({ cls := "com/example/kick/kick/value/PoolSpec", name := "closeWindow", desc := "()Ljava/time/Duration;" } : Jvm.MethodName)).before a0 Z = true := hw _ (List.mem_of_getElem? (i := 63) rfl)
theorem w64 {Z : State} {a0 : Array Value} (hw : ∀ d ∈ tables_1, d.before a0 Z = true) : (Jvm.Cond.declares ({ cls := "com/example/kick/kick/value/PoolSpec", name := "closeWindow", desc := "()Ljava/time/Duration;" } : Jvm.MethodName)).before a0 Z = true := hw _ (List.mem_of_getElem? (i := 64) rfl)
theorem w65 {Z : State} {a0 : Array Value} (hw : ∀ d ∈ tables_1, d.before a0 Z = true) : (Jvm.Cond.instanceMethod ({ cls := "com/example/kick/kick/value/PoolSpec", name := "closeWindow", desc := "()Ljava/time/Duration;" } : Jvm.MethodName)).before a0 Z = true := hw _ (List.mem_of_getElem? (i := 65) rfl)
theorem w66 {Z : State} {a0 : Array Value} (hw : ∀ d ∈ tables_1, d.before a0 Z = true) : (Jvm.Cond.selects "com/example/kick/kick/value/PoolSpec" ({ cls := "com/example/kick/kick/value/PoolSpec", name := "closeWindow", desc := "()Ljava/time/Duration;" } : Jvm.MethodName) ({ cls := "com/example/kick/kick/value/PoolSpec", name := "closeWindow", desc := "()Ljava/time/Duration;" } : Jvm.MethodName)).before a0 Z = true := hw _ (List.mem_of_getElem? (i := 66) rfl)
theorem w67 {Z : State} {a0 : Array Value} (hw : ∀ d ∈ tables_1, d.before a0 Z = true) : (Jvm.Cond.code ({ cls := "com/example/kick/kick/value/PoolSpec", name := "closeWindow", desc := "()Ljava/time/Duration;" } : Jvm.MethodName) prog_13_method_11_code (1 : Nat) (Option.some (Jvm.ClassFile.FieldType.object "java/time/Duration"))).before a0 Z = true := hw _ (List.mem_of_getElem? (i := 67) rfl)
theorem d_jdk_29_method_65_0 : decode jdk_29_method_65_code 0 = .ok (.iload_n 0, 1) := by decide +kernel
theorem d_jdk_29_method_65_1 : decode jdk_29_method_65_code 1 = .ok (.iload_n 1, 1) := by decide +kernel
theorem d_jdk_29_method_65_2 : decode jdk_29_method_65_code 2 = .ok (.if_icmp .lt 7, 3) := by decide +kernel
theorem d_jdk_29_method_65_5 : decode jdk_29_method_65_code 5 = .ok (.iload_n 0, 1) := by decide +kernel
theorem d_jdk_29_method_65_6 : decode jdk_29_method_65_code 6 = .ok (.goto 4, 3) := by decide +kernel
theorem d_jdk_29_method_65_9 : decode jdk_29_method_65_code 9 = .ok (.iload_n 1, 1) := by decide +kernel
theorem d_jdk_29_method_65_10 : decode jdk_29_method_65_code 10 = .ok (.ireturn, 1) := by decide +kernel
theorem d_prog_13_method_10_0 : decode prog_13_method_10_code 0 = .ok (.aload_n 0, 1) := by decide +kernel
theorem d_prog_13_method_10_1 : decode prog_13_method_10_code 1 = .ok (.getfield 23, 3) := by decide +kernel
theorem d_prog_13_method_10_4 : decode prog_13_method_10_code 4 = .ok (.areturn, 1) := by decide +kernel
theorem d_prog_13_method_11_0 : decode prog_13_method_11_code 0 = .ok (.aload_n 0, 1) := by decide +kernel
theorem d_prog_13_method_11_1 : decode prog_13_method_11_code 1 = .ok (.getfield 27, 3) := by decide +kernel
theorem d_prog_13_method_11_4 : decode prog_13_method_11_code 4 = .ok (.areturn, 1) := by decide +kernel
theorem d_prog_13_method_1_0 : decode prog_13_method_1_code 0 = .ok (.aload_n 0, 1) := by decide +kernel
theorem d_prog_13_method_1_1 : decode prog_13_method_1_code 1 = .ok (.invokespecial 1, 3) := by decide +kernel
theorem d_prog_13_method_1_4 : decode prog_13_method_1_code 4 = .ok (.aload_n 0, 1) := by decide +kernel
theorem d_prog_13_method_1_5 : decode prog_13_method_1_code 5 = .ok (.iload_n 1, 1) := by decide +kernel
theorem d_prog_13_method_1_6 : decode prog_13_method_1_code 6 = .ok (.putfield 7, 3) := by decide +kernel
theorem d_prog_13_method_1_9 : decode prog_13_method_1_code 9 = .ok (.aload_n 0, 1) := by decide +kernel
theorem d_prog_13_method_1_10 : decode prog_13_method_1_code 10 = .ok (.iload_n 2, 1) := by decide +kernel
theorem d_prog_13_method_1_11 : decode prog_13_method_1_code 11 = .ok (.putfield 13, 3) := by decide +kernel
theorem d_prog_13_method_1_14 : decode prog_13_method_1_code 14 = .ok (.aload_n 0, 1) := by decide +kernel
theorem d_prog_13_method_1_15 : decode prog_13_method_1_code 15 = .ok (.iload_n 3, 1) := by decide +kernel
theorem d_prog_13_method_1_16 : decode prog_13_method_1_code 16 = .ok (.putfield 16, 3) := by decide +kernel
theorem d_prog_13_method_1_19 : decode prog_13_method_1_code 19 = .ok (.aload_n 0, 1) := by decide +kernel
theorem d_prog_13_method_1_20 : decode prog_13_method_1_code 20 = .ok (.aload 4, 2) := by decide +kernel
theorem d_prog_13_method_1_22 : decode prog_13_method_1_code 22 = .ok (.putfield 19, 3) := by decide +kernel
theorem d_prog_13_method_1_25 : decode prog_13_method_1_code 25 = .ok (.aload_n 0, 1) := by decide +kernel
theorem d_prog_13_method_1_26 : decode prog_13_method_1_code 26 = .ok (.aload 5, 2) := by decide +kernel
theorem d_prog_13_method_1_28 : decode prog_13_method_1_code 28 = .ok (.putfield 23, 3) := by decide +kernel
theorem d_prog_13_method_1_31 : decode prog_13_method_1_code 31 = .ok (.aload_n 0, 1) := by decide +kernel
theorem d_prog_13_method_1_32 : decode prog_13_method_1_code 32 = .ok (.aload 6, 2) := by decide +kernel
theorem d_prog_13_method_1_34 : decode prog_13_method_1_code 34 = .ok (.putfield 27, 3) := by decide +kernel
theorem d_prog_13_method_1_37 : decode prog_13_method_1_code 37 = .ok (.return_, 1) := by decide +kernel
theorem d_prog_13_method_2_0 : decode prog_13_method_2_code 0 = .ok (.iload_n 0, 1) := by decide +kernel
theorem d_prog_13_method_2_1 : decode prog_13_method_2_code 1 = .ok (.ifCond .ge 17, 3) := by decide +kernel
theorem d_prog_13_method_2_18 : decode prog_13_method_2_code 18 = .ok (.iload_n 1, 1) := by decide +kernel
theorem d_prog_13_method_2_19 : decode prog_13_method_2_code 19 = .ok (.iconst 1, 1) := by decide +kernel
theorem d_prog_13_method_2_20 : decode prog_13_method_2_code 20 = .ok (.if_icmp .ge 17, 3) := by decide +kernel
theorem d_prog_13_method_2_37 : decode prog_13_method_2_code 37 = .ok (.iload_n 1, 1) := by decide +kernel
theorem d_prog_13_method_2_38 : decode prog_13_method_2_code 38 = .ok (.iload_n 0, 1) := by decide +kernel
theorem d_prog_13_method_2_39 : decode prog_13_method_2_code 39 = .ok (.if_icmp .ge 18, 3) := by decide +kernel
theorem d_prog_13_method_2_57 : decode prog_13_method_2_code 57 = .ok (.iload_n 2, 1) := by decide +kernel
theorem d_prog_13_method_2_58 : decode prog_13_method_2_code 58 = .ok (.ifCond .ge 17, 3) := by decide +kernel
theorem d_prog_13_method_2_75 : decode prog_13_method_2_code 75 = .ok (.new 8, 3) := by decide +kernel
theorem d_prog_13_method_2_78 : decode prog_13_method_2_code 78 = .ok (.dup, 1) := by decide +kernel
theorem d_prog_13_method_2_79 : decode prog_13_method_2_code 79 = .ok (.iload_n 0, 1) := by decide +kernel
theorem d_prog_13_method_2_80 : decode prog_13_method_2_code 80 = .ok (.iload_n 1, 1) := by decide +kernel
theorem d_prog_13_method_2_81 : decode prog_13_method_2_code 81 = .ok (.iload_n 2, 1) := by decide +kernel
theorem d_prog_13_method_2_82 : decode prog_13_method_2_code 82 = .ok (.getstatic 44, 3) := by decide +kernel
theorem d_prog_13_method_2_85 : decode prog_13_method_2_code 85 = .ok (.getstatic 49, 3) := by decide +kernel
theorem d_prog_13_method_2_88 : decode prog_13_method_2_code 88 = .ok (.getstatic 52, 3) := by decide +kernel
theorem d_prog_13_method_2_91 : decode prog_13_method_2_code 91 = .ok (.invokespecial 55, 3) := by decide +kernel
theorem d_prog_13_method_2_94 : decode prog_13_method_2_code 94 = .ok (.areturn, 1) := by decide +kernel
theorem d_prog_13_method_6_0 : decode prog_13_method_6_code 0 = .ok (.aload_n 0, 1) := by decide +kernel
theorem d_prog_13_method_6_1 : decode prog_13_method_6_code 1 = .ok (.getfield 7, 3) := by decide +kernel
theorem d_prog_13_method_6_4 : decode prog_13_method_6_code 4 = .ok (.ireturn, 1) := by decide +kernel
theorem d_prog_13_method_7_0 : decode prog_13_method_7_code 0 = .ok (.aload_n 0, 1) := by decide +kernel
theorem d_prog_13_method_7_1 : decode prog_13_method_7_code 1 = .ok (.getfield 13, 3) := by decide +kernel
theorem d_prog_13_method_7_4 : decode prog_13_method_7_code 4 = .ok (.ireturn, 1) := by decide +kernel
theorem d_prog_13_method_8_0 : decode prog_13_method_8_code 0 = .ok (.aload_n 0, 1) := by decide +kernel
theorem d_prog_13_method_8_1 : decode prog_13_method_8_code 1 = .ok (.getfield 16, 3) := by decide +kernel
theorem d_prog_13_method_8_4 : decode prog_13_method_8_code 4 = .ok (.ireturn, 1) := by decide +kernel
theorem d_prog_13_method_9_0 : decode prog_13_method_9_code 0 = .ok (.aload_n 0, 1) := by decide +kernel
theorem d_prog_13_method_9_1 : decode prog_13_method_9_code 1 = .ok (.getfield 19, 3) := by decide +kernel
theorem d_prog_13_method_9_4 : decode prog_13_method_9_code 4 = .ok (.areturn, 1) := by decide +kernel
theorem pd_0 : parseMethodDescriptor "(II)I" = some ⟨[.int, .int], some .int⟩ := by decide +kernel
theorem pd_1 : parseMethodDescriptor "(IIILcom/example/kick/kick/value/Overflow;Ljava/time/Duration;Ljava/time/Duration;)V" = some ⟨[.int, .int, .int, (.object "com/example/kick/kick/value/Overflow"), (.object "java/time/Duration"), (.object "java/time/Duration")], none⟩ := by decide +kernel
theorem pd_2 : parseMethodDescriptor "(III)Lcom/example/kick/kick/value/PoolSpec;" = some ⟨[.int, .int, .int], some (.object "com/example/kick/kick/value/PoolSpec")⟩ := by decide +kernel
theorem pd_3 : parseMethodDescriptor "()I" = some ⟨[], some .int⟩ := by decide +kernel
theorem pd_4 : parseMethodDescriptor "()Lcom/example/kick/kick/value/Overflow;" = some ⟨[], some (.object "com/example/kick/kick/value/Overflow")⟩ := by decide +kernel
theorem pd_5 : parseMethodDescriptor "()Ljava/time/Duration;" = some ⟨[], some (.object "java/time/Duration")⟩ := by decide +kernel
theorem pn_0 : plainName "com/example/kick/kick/value/PoolSpec" = true := by first | (simp [plainName, overriddenIn]; done) | decide +kernel
theorem pn_1 : plainName "com/example/kick/kick/value/PoolSpecBoundedPinLaw" = true := by first | (simp [plainName, overriddenIn]; done) | decide +kernel
theorem own_nn (x : Int32) : ¬ ((x &&& (2147483647 : Int32)) < (0 : Int32)) := by
  have h := (c_and x 2147483647 (by decide)).1
  rw [Int32.lt_iff_toInt_lt]; exact Int.not_lt.mpr h
theorem own_lo1 {x : Int32} (h : (1 : Int32) < (x &&& (2147483647 : Int32))) : 1 ≤ (x &&& (2147483647 : Int32)).toInt64.toInt := by
  rw [c_i2l]; rw [Int32.lt_iff_toInt_lt] at h; have : (1 : Int32).toInt = 1 := rfl; omega
theorem own_lo2 (x : Int32) : x.toInt64.toInt ≤ 2147483647 := by rw [c_i2l]; have := rng32 x; omega
theorem own_span (L : Int32) (h1 : 1 ≤ L.toInt64.toInt) : ((2147483647 : Int64) - L.toInt64 + (1 : Int64)).toInt = 2147483648 - L.toInt64.toInt := by
  have h2 := own_lo2 L
  have a := c_lsub (2147483647 : Int64) L.toInt64
  have b := c_ladd ((2147483647 : Int64) - L.toInt64) (1 : Int64)
  have r1 := rng64 ((2147483647 : Int64) - L.toInt64); have r2 := rng64 ((2147483647 : Int64) - L.toInt64 + (1 : Int64))
  have e1 : (2147483647 : Int64).toInt = 2147483647 := rfl
  have e2 : (1 : Int64).toInt = 1 := rfl
  omega
theorem own_nz (L : Int32) (h1 : 1 ≤ L.toInt64.toInt) : ((2147483647 : Int64) - L.toInt64 + (1 : Int64)) ≠ 0 := by
  intro q
  have := own_span L h1; have h2 := own_lo2 L
  rw [q] at this; have e : (0 : Int64).toInt = 0 := rfl
  omega
theorem own_mx (L S1 : Int64) (m : Int32) (h1 : 1 ≤ L.toInt) (h2 : L.toInt ≤ 2147483647) (h3 : S1.toInt = 2147483648 - L.toInt) : L.toInt ≤ ((L + (m.toInt64 &&& (2147483647 : Int64)) % S1).toInt32).toInt := by
  have a0 : 0 ≤ (m.toInt64 &&& (2147483647 : Int64)).toInt := (c_andSL m.toInt64 2147483647).2.2 (by decide)
  have a1 : ((m.toInt64 &&& (2147483647 : Int64)) % S1).toInt = (m.toInt64 &&& (2147483647 : Int64)).toInt % S1.toInt := by
    have := (c_lrem (m.toInt64 &&& (2147483647 : Int64)) S1 S1.toInt rfl).1 a0
    rw [lrem_mod] at this; exact this
  have a2 := Int.emod_nonneg (m.toInt64 &&& (2147483647 : Int64)).toInt (show S1.toInt ≠ 0 by omega)
  have a3 := Int.emod_lt_of_pos (m.toInt64 &&& (2147483647 : Int64)).toInt (show 0 < S1.toInt by omega)
  rw [← a1] at a2 a3
  have b := c_ladd L ((m.toInt64 &&& (2147483647 : Int64)) % S1)
  have r := rng64 (L + (m.toInt64 &&& (2147483647 : Int64)) % S1)
  have c := c_l2i (L + (m.toInt64 &&& (2147483647 : Int64)) % S1)
  have r2 := rng32 (L + (m.toInt64 &&& (2147483647 : Int64)) % S1).toInt32
  omega
theorem own_ge1 {L : Int64} {z : Int32} (h : 1 ≤ L.toInt) (k : L.toInt ≤ z.toInt) : ¬ (z < (1 : Int32)) := by
  rw [Int32.lt_iff_toInt_lt]; have : (1 : Int32).toInt = 1 := rfl; omega
theorem own_geA {x z : Int32} (k : x.toInt64.toInt ≤ z.toInt) : ¬ (z < x) := by
  rw [c_i2l] at k; rw [Int32.lt_iff_toInt_lt]; omega
theorem own_geB {x z : Int32} (hb : ¬ ((1 : Int32) < x)) (k : (1 : Int64).toInt ≤ z.toInt) : ¬ (z < x) := by
  rw [Int32.lt_iff_toInt_lt] at hb ⊢; have e1 : (1 : Int32).toInt = 1 := rfl; have e2 : (1 : Int64).toInt = 1 := rfl; omega
def Ctx (Z : State) (w_CALLER_RUNS w_DEFAULT_KEEP_ALIVE w_DEFAULT_CLOSE_WINDOW : Addr) : Prop := Sta Z Z.heap "com/example/kick/kick/value/Overflow" "CALLER_RUNS" "Lcom/example/kick/kick/value/Overflow;" (.ref w_CALLER_RUNS) ∧ Sta Z Z.heap "com/example/kick/kick/value/PoolSpec" "DEFAULT_KEEP_ALIVE" "Ljava/time/Duration;" (.ref w_DEFAULT_KEEP_ALIVE) ∧ Sta Z Z.heap "com/example/kick/kick/value/PoolSpec" "DEFAULT_CLOSE_WINDOW" "Ljava/time/Duration;" (.ref w_DEFAULT_CLOSE_WINDOW) ∧ Exa Z Z.heap w_CALLER_RUNS "com/example/kick/kick/value/Overflow" ∧ Exa Z Z.heap w_DEFAULT_KEEP_ALIVE "java/time/Duration" ∧ Exa Z Z.heap w_DEFAULT_CLOSE_WINDOW "java/time/Duration"
set_option maxRecDepth 65536 in
set_option maxHeartbeats 40000000 in
theorem c1_max (l : Launch) {Z : State} {a0 : Array Value} (hw : ∀ d ∈ tables_1, d.before a0 Z = true) (ws : List Jvm.Cond) {w_CALLER_RUNS w_DEFAULT_KEEP_ALIVE w_DEFAULT_CLOSE_WINDOW : Addr} {n0 : Nat} {h0 : Heap} (C : Ctx Z w_CALLER_RUNS w_DEFAULT_KEEP_ALIVE w_DEFAULT_CLOSE_WINDOW) (O0 : Old Z n0 h0) (Z0 : n0 ≤ h0.size) (x1 : Int32) (k0 : (1 : Int32) < x1) : zCon l Z (⟨"java/lang/Math", "max", "(II)I"⟩ : MethodName) jdk_29_method_65_code 2 (some .int) ws ({ frames := 0, cells := 0, slots := 0, locals := 0 } : Room) #[(.int 1), (.int x1)] h0 (zSame (some (.int x1)) h0) := by
  obtain ⟨S_w_CALLER_RUNS, S_w_DEFAULT_KEEP_ALIVE, S_w_DEFAULT_CLOSE_WINDOW, E_w_CALLER_RUNS, E_w_DEFAULT_KEEP_ALIVE, E_w_DEFAULT_CLOSE_WINDOW⟩ := C
  refine zenter (Jvm.Free.JP.mathPlain rfl (by decide +kernel)) (L0 := #[iv 1, iv x1]) (fun m => by first | rfl | simp [entryFrame, mkF, argsToLocals, Value.category, maxLocals]) ?_
  intro p e s m below meth c T0 hx hZ hby hml hown0 hnm hret hlk X0 e0
  have hown : s.vm.findClass "java/lang/Math" = some m.cls := hown0
  have K0 := Keep.refl h0 []
  have N0 := Fr.nil n0
  show zEnds p e below s T0 (mkF m 0 #[iv 1, iv x1] []) _ _ _
  refine ziloadN X0 hx hby d_jdk_29_method_65_0 rfl (ziloadN X0 hx hby d_jdk_29_method_65_1 rfl (zicmpYes X0 hx hby d_jdk_29_method_65_2 9 (tlt k0).1 (by decide) (by decide) (ziloadN X0 hx hby d_jdk_29_method_65_9 rfl ?_)))
  show zEnds p e below s T0 (mkF m 10 #[iv 1, iv x1] [(.int x1)]) _ _ _
  exact zretI X0 hx hby d_jdk_29_method_65_10 hret hlk (by decide) (by decide) ⟨rfl, e0, rfl⟩
set_option maxRecDepth 65536 in
set_option maxHeartbeats 40000000 in
theorem c4_init (l : Launch) {Z : State} {a0 : Array Value} (hw : ∀ d ∈ tables_1, d.before a0 Z = true) (ws : List Jvm.Cond) {w_CALLER_RUNS w_DEFAULT_KEEP_ALIVE w_DEFAULT_CLOSE_WINDOW : Addr} {n0 : Nat} {h0 : Heap} (C : Ctx Z w_CALLER_RUNS w_DEFAULT_KEEP_ALIVE w_DEFAULT_CLOSE_WINDOW) (O0 : Old Z n0 h0) (Z0 : n0 ≤ h0.size) (x2 : Int32) (x3 : Int32) (x4 : Int32) (b900 : Addr) (g_b900 : n0 ≤ b900) (E_b900 : Exa Z h0 b900 "com/example/kick/kick/value/PoolSpec") (F_b900_closeWindow : Fld Z h0 b900 "com/example/kick/kick/value/PoolSpec" "closeWindow" "Ljava/time/Duration;" .null) (F_b900_core : Fld Z h0 b900 "com/example/kick/kick/value/PoolSpec" "core" "I" (.int 0)) (F_b900_keepAlive : Fld Z h0 b900 "com/example/kick/kick/value/PoolSpec" "keepAlive" "Ljava/time/Duration;" .null) (F_b900_max : Fld Z h0 b900 "com/example/kick/kick/value/PoolSpec" "max" "I" (.int 0)) (F_b900_overflow : Fld Z h0 b900 "com/example/kick/kick/value/PoolSpec" "overflow" "Lcom/example/kick/kick/value/Overflow;" .null) (F_b900_queue : Fld Z h0 b900 "com/example/kick/kick/value/PoolSpec" "queue" "I" (.int 0)) (k0 : ¬ (x4 < (0 : Int32))) : zCon l Z (⟨"com/example/kick/kick/value/PoolSpec", "<init>", "(IIILcom/example/kick/kick/value/Overflow;Ljava/time/Duration;Ljava/time/Duration;)V"⟩ : MethodName) prog_13_method_1_code 7 none ws ({ frames := 1, cells := 0, slots := 0, locals := 12 } : Room) #[(.ref b900), (.int x2), (.int x3), (.int x4), (.ref w_CALLER_RUNS), (.ref w_DEFAULT_KEEP_ALIVE), (.ref w_DEFAULT_CLOSE_WINDOW)] h0 (fun v h L => v = none ∧ Fr n0 L ∧ Keep h0 h [b900] ∧ Exa Z h b900 "com/example/kick/kick/value/PoolSpec" ∧ Fld Z h b900 "com/example/kick/kick/value/PoolSpec" "closeWindow" "Ljava/time/Duration;" (.ref w_DEFAULT_CLOSE_WINDOW) ∧ Fld Z h b900 "com/example/kick/kick/value/PoolSpec" "core" "I" (.int x2) ∧ Fld Z h b900 "com/example/kick/kick/value/PoolSpec" "keepAlive" "Ljava/time/Duration;" (.ref w_DEFAULT_KEEP_ALIVE) ∧ Fld Z h b900 "com/example/kick/kick/value/PoolSpec" "max" "I" (.int x3) ∧ Fld Z h b900 "com/example/kick/kick/value/PoolSpec" "overflow" "Lcom/example/kick/kick/value/Overflow;" (.ref w_CALLER_RUNS) ∧ Fld Z h b900 "com/example/kick/kick/value/PoolSpec" "queue" "I" (.int x4)) := by
  obtain ⟨S_w_CALLER_RUNS, S_w_DEFAULT_KEEP_ALIVE, S_w_DEFAULT_CLOSE_WINDOW, E_w_CALLER_RUNS, E_w_DEFAULT_KEEP_ALIVE, E_w_DEFAULT_CLOSE_WINDOW⟩ := C
  refine zenter (plainFor_of_name pn_0) (L0 := #[rv b900, iv x2, iv x3, iv x4, rv w_CALLER_RUNS, rv w_DEFAULT_KEEP_ALIVE, rv w_DEFAULT_CLOSE_WINDOW]) (fun m => by first | rfl | simp [entryFrame, mkF, argsToLocals, Value.category, maxLocals]) ?_
  intro p e s m below meth c T0 hx hZ hby hml hown0 hnm hret hlk X0 e0
  have hown : s.vm.findClass "com/example/kick/kick/value/PoolSpec" = some m.cls := hown0
  have K0 := Keep.refl h0 [b900]
  have N0 := Fr.nil n0
  show zEnds p e below s T0 (mkF m 0 #[rv b900, iv x2, iv x3, iv x4, rv w_CALLER_RUNS, rv w_DEFAULT_KEEP_ALIVE, rv w_DEFAULT_CLOSE_WINDOW] []) _ _ _
  refine zaloadN X0 hx hby d_prog_13_method_1_0 rfl rfl (zobjinit X0 hx hby d_prog_13_method_1_1 hZ hown (w22 hw) (w23 hw) (w24 hw) e0 (by rw [hml]; rfl) 0 (Nat.le_of_eq rfl) (by decide) (by decide) fun T1 X1 e1 => ?_)
  refine zaloadN X1 hx hby d_prog_13_method_1_4 rfl rfl (ziloadN X1 hx hby d_prog_13_method_1_5 rfl (zputfld X1 hx hby d_prog_13_method_1_6 hZ hown (host := "") (Or.inl (w25 hw)) Via.refl e1 F_b900_core E_b900 (Or.inr ⟨(w26 hw), rfl, hnm⟩) (w11 hw) (ty := .int) (by decide) rfl rfl fun T2 h2 X2 e2 W2 => ?_))
  have F2_b900_core : Fld Z h2 b900 "com/example/kick/kick/value/PoolSpec" "core" "I" (.int x2) := F_b900_core.same W2
  have F2_b900_closeWindow := F_b900_closeWindow.other W2 (Or.inr (slot_ne (Or.inr (w36 hw)) (Or.inr (w26 hw)) (by decide) (t := (.object "java/time/Duration")) (t' := .int) (by decide) (by decide)))
  have F2_b900_keepAlive := F_b900_keepAlive.other W2 (Or.inr (slot_ne (Or.inr (w34 hw)) (Or.inr (w26 hw)) (by decide) (t := (.object "java/time/Duration")) (t' := .int) (by decide) (by decide)))
  have F2_b900_max := F_b900_max.other W2 (Or.inr (slot_ne (Or.inr (w28 hw)) (Or.inr (w26 hw)) (by decide) (t := .int) (t' := .int) (by decide) (by decide)))
  have F2_b900_overflow := F_b900_overflow.other W2 (Or.inr (slot_ne (Or.inr (w32 hw)) (Or.inr (w26 hw)) (by decide) (t := (.object "com/example/kick/kick/value/Overflow")) (t' := .int) (by decide) (by decide)))
  have F2_b900_queue := F_b900_queue.other W2 (Or.inr (slot_ne (Or.inr (w30 hw)) (Or.inr (w26 hw)) (by decide) (t := .int) (t' := .int) (by decide) (by decide)))
  have E2_b900 := E_b900.wr W2
  have O2 := O0.wr W2 g_b900
  have K2 := Keep.wr K0 W2 (Or.inl (List.mem_of_getElem? (i := 0) rfl))
  have N2 := Fr.snoc X2 N0 g_b900
  refine zaloadN X2 hx hby d_prog_13_method_1_9 rfl rfl (ziloadN X2 hx hby d_prog_13_method_1_10 rfl (zputfld X2 hx hby d_prog_13_method_1_11 hZ hown (host := "") (Or.inl (w27 hw)) Via.refl e2 F2_b900_max E2_b900 (Or.inr ⟨(w28 hw), rfl, hnm⟩) (w11 hw) (ty := .int) (by decide) rfl rfl fun T3 h3 X3 e3 W3 => ?_))
  have F3_b900_max : Fld Z h3 b900 "com/example/kick/kick/value/PoolSpec" "max" "I" (.int x3) := F2_b900_max.same W3
  have F3_b900_closeWindow := F2_b900_closeWindow.other W3 (Or.inr (slot_ne (Or.inr (w36 hw)) (Or.inr (w28 hw)) (by decide) (t := (.object "java/time/Duration")) (t' := .int) (by decide) (by decide)))
  have F3_b900_core := F2_b900_core.other W3 (Or.inr (slot_ne (Or.inr (w26 hw)) (Or.inr (w28 hw)) (by decide) (t := .int) (t' := .int) (by decide) (by decide)))
  have F3_b900_keepAlive := F2_b900_keepAlive.other W3 (Or.inr (slot_ne (Or.inr (w34 hw)) (Or.inr (w28 hw)) (by decide) (t := (.object "java/time/Duration")) (t' := .int) (by decide) (by decide)))
  have F3_b900_overflow := F2_b900_overflow.other W3 (Or.inr (slot_ne (Or.inr (w32 hw)) (Or.inr (w28 hw)) (by decide) (t := (.object "com/example/kick/kick/value/Overflow")) (t' := .int) (by decide) (by decide)))
  have F3_b900_queue := F2_b900_queue.other W3 (Or.inr (slot_ne (Or.inr (w30 hw)) (Or.inr (w28 hw)) (by decide) (t := .int) (t' := .int) (by decide) (by decide)))
  have E3_b900 := E2_b900.wr W3
  have O3 := O2.wr W3 g_b900
  have K3 := Keep.wr K2 W3 (Or.inl (List.mem_of_getElem? (i := 0) rfl))
  have N3 := Fr.snoc X3 N2 g_b900
  refine zaloadN X3 hx hby d_prog_13_method_1_14 rfl rfl (ziloadN X3 hx hby d_prog_13_method_1_15 rfl (zputfld X3 hx hby d_prog_13_method_1_16 hZ hown (host := "") (Or.inl (w29 hw)) Via.refl e3 F3_b900_queue E3_b900 (Or.inr ⟨(w30 hw), rfl, hnm⟩) (w11 hw) (ty := .int) (by decide) rfl rfl fun T4 h4 X4 e4 W4 => ?_))
  have F4_b900_queue : Fld Z h4 b900 "com/example/kick/kick/value/PoolSpec" "queue" "I" (.int x4) := F3_b900_queue.same W4
  have F4_b900_closeWindow := F3_b900_closeWindow.other W4 (Or.inr (slot_ne (Or.inr (w36 hw)) (Or.inr (w30 hw)) (by decide) (t := (.object "java/time/Duration")) (t' := .int) (by decide) (by decide)))
  have F4_b900_core := F3_b900_core.other W4 (Or.inr (slot_ne (Or.inr (w26 hw)) (Or.inr (w30 hw)) (by decide) (t := .int) (t' := .int) (by decide) (by decide)))
  have F4_b900_keepAlive := F3_b900_keepAlive.other W4 (Or.inr (slot_ne (Or.inr (w34 hw)) (Or.inr (w30 hw)) (by decide) (t := (.object "java/time/Duration")) (t' := .int) (by decide) (by decide)))
  have F4_b900_max := F3_b900_max.other W4 (Or.inr (slot_ne (Or.inr (w28 hw)) (Or.inr (w30 hw)) (by decide) (t := .int) (t' := .int) (by decide) (by decide)))
  have F4_b900_overflow := F3_b900_overflow.other W4 (Or.inr (slot_ne (Or.inr (w32 hw)) (Or.inr (w30 hw)) (by decide) (t := (.object "com/example/kick/kick/value/Overflow")) (t' := .int) (by decide) (by decide)))
  have E4_b900 := E3_b900.wr W4
  have O4 := O3.wr W4 g_b900
  have K4 := Keep.wr K3 W4 (Or.inl (List.mem_of_getElem? (i := 0) rfl))
  have N4 := Fr.snoc X4 N3 g_b900
  refine zaloadN X4 hx hby d_prog_13_method_1_19 rfl rfl (zaload X4 hx hby d_prog_13_method_1_20 rfl rfl (zputfld X4 hx hby d_prog_13_method_1_22 hZ hown (host := "") (Or.inl (w31 hw)) Via.refl e4 F4_b900_overflow E4_b900 (Or.inr ⟨(w32 hw), rfl, hnm⟩) (w11 hw) (ty := (.object "com/example/kick/kick/value/Overflow")) (by decide) rfl rfl fun T5 h5 X5 e5 W5 => ?_))
  have F5_b900_overflow : Fld Z h5 b900 "com/example/kick/kick/value/PoolSpec" "overflow" "Lcom/example/kick/kick/value/Overflow;" (.ref w_CALLER_RUNS) := F4_b900_overflow.same W5
  have F5_b900_closeWindow := F4_b900_closeWindow.other W5 (Or.inr (slot_ne (Or.inr (w36 hw)) (Or.inr (w32 hw)) (by decide) (t := (.object "java/time/Duration")) (t' := (.object "com/example/kick/kick/value/Overflow")) (by decide) (by decide)))
  have F5_b900_core := F4_b900_core.other W5 (Or.inr (slot_ne (Or.inr (w26 hw)) (Or.inr (w32 hw)) (by decide) (t := .int) (t' := (.object "com/example/kick/kick/value/Overflow")) (by decide) (by decide)))
  have F5_b900_keepAlive := F4_b900_keepAlive.other W5 (Or.inr (slot_ne (Or.inr (w34 hw)) (Or.inr (w32 hw)) (by decide) (t := (.object "java/time/Duration")) (t' := (.object "com/example/kick/kick/value/Overflow")) (by decide) (by decide)))
  have F5_b900_max := F4_b900_max.other W5 (Or.inr (slot_ne (Or.inr (w28 hw)) (Or.inr (w32 hw)) (by decide) (t := .int) (t' := (.object "com/example/kick/kick/value/Overflow")) (by decide) (by decide)))
  have F5_b900_queue := F4_b900_queue.other W5 (Or.inr (slot_ne (Or.inr (w30 hw)) (Or.inr (w32 hw)) (by decide) (t := .int) (t' := (.object "com/example/kick/kick/value/Overflow")) (by decide) (by decide)))
  have E5_b900 := E4_b900.wr W5
  have O5 := O4.wr W5 g_b900
  have K5 := Keep.wr K4 W5 (Or.inl (List.mem_of_getElem? (i := 0) rfl))
  have N5 := Fr.snoc X5 N4 g_b900
  refine zaloadN X5 hx hby d_prog_13_method_1_25 rfl rfl (zaload X5 hx hby d_prog_13_method_1_26 rfl rfl (zputfld X5 hx hby d_prog_13_method_1_28 hZ hown (host := "") (Or.inl (w33 hw)) Via.refl e5 F5_b900_keepAlive E5_b900 (Or.inr ⟨(w34 hw), rfl, hnm⟩) (w11 hw) (ty := (.object "java/time/Duration")) (by decide) rfl rfl fun T6 h6 X6 e6 W6 => ?_))
  have F6_b900_keepAlive : Fld Z h6 b900 "com/example/kick/kick/value/PoolSpec" "keepAlive" "Ljava/time/Duration;" (.ref w_DEFAULT_KEEP_ALIVE) := F5_b900_keepAlive.same W6
  have F6_b900_closeWindow := F5_b900_closeWindow.other W6 (Or.inr (slot_ne (Or.inr (w36 hw)) (Or.inr (w34 hw)) (by decide) (t := (.object "java/time/Duration")) (t' := (.object "java/time/Duration")) (by decide) (by decide)))
  have F6_b900_core := F5_b900_core.other W6 (Or.inr (slot_ne (Or.inr (w26 hw)) (Or.inr (w34 hw)) (by decide) (t := .int) (t' := (.object "java/time/Duration")) (by decide) (by decide)))
  have F6_b900_max := F5_b900_max.other W6 (Or.inr (slot_ne (Or.inr (w28 hw)) (Or.inr (w34 hw)) (by decide) (t := .int) (t' := (.object "java/time/Duration")) (by decide) (by decide)))
  have F6_b900_overflow := F5_b900_overflow.other W6 (Or.inr (slot_ne (Or.inr (w32 hw)) (Or.inr (w34 hw)) (by decide) (t := (.object "com/example/kick/kick/value/Overflow")) (t' := (.object "java/time/Duration")) (by decide) (by decide)))
  have F6_b900_queue := F5_b900_queue.other W6 (Or.inr (slot_ne (Or.inr (w30 hw)) (Or.inr (w34 hw)) (by decide) (t := .int) (t' := (.object "java/time/Duration")) (by decide) (by decide)))
  have E6_b900 := E5_b900.wr W6
  have O6 := O5.wr W6 g_b900
  have K6 := Keep.wr K5 W6 (Or.inl (List.mem_of_getElem? (i := 0) rfl))
  have N6 := Fr.snoc X6 N5 g_b900
  refine zaloadN X6 hx hby d_prog_13_method_1_31 rfl rfl (zaload X6 hx hby d_prog_13_method_1_32 rfl rfl (zputfld X6 hx hby d_prog_13_method_1_34 hZ hown (host := "") (Or.inl (w35 hw)) Via.refl e6 F6_b900_closeWindow E6_b900 (Or.inr ⟨(w36 hw), rfl, hnm⟩) (w11 hw) (ty := (.object "java/time/Duration")) (by decide) rfl rfl fun T7 h7 X7 e7 W7 => ?_))
  have F7_b900_closeWindow : Fld Z h7 b900 "com/example/kick/kick/value/PoolSpec" "closeWindow" "Ljava/time/Duration;" (.ref w_DEFAULT_CLOSE_WINDOW) := F6_b900_closeWindow.same W7
  have F7_b900_core := F6_b900_core.other W7 (Or.inr (slot_ne (Or.inr (w26 hw)) (Or.inr (w36 hw)) (by decide) (t := .int) (t' := (.object "java/time/Duration")) (by decide) (by decide)))
  have F7_b900_keepAlive := F6_b900_keepAlive.other W7 (Or.inr (slot_ne (Or.inr (w34 hw)) (Or.inr (w36 hw)) (by decide) (t := (.object "java/time/Duration")) (t' := (.object "java/time/Duration")) (by decide) (by decide)))
  have F7_b900_max := F6_b900_max.other W7 (Or.inr (slot_ne (Or.inr (w28 hw)) (Or.inr (w36 hw)) (by decide) (t := .int) (t' := (.object "java/time/Duration")) (by decide) (by decide)))
  have F7_b900_overflow := F6_b900_overflow.other W7 (Or.inr (slot_ne (Or.inr (w32 hw)) (Or.inr (w36 hw)) (by decide) (t := (.object "com/example/kick/kick/value/Overflow")) (t' := (.object "java/time/Duration")) (by decide) (by decide)))
  have F7_b900_queue := F6_b900_queue.other W7 (Or.inr (slot_ne (Or.inr (w30 hw)) (Or.inr (w36 hw)) (by decide) (t := .int) (t' := (.object "java/time/Duration")) (by decide) (by decide)))
  have E7_b900 := E6_b900.wr W7
  have O7 := O6.wr W7 g_b900
  have K7 := Keep.wr K6 W7 (Or.inl (List.mem_of_getElem? (i := 0) rfl))
  have N7 := Fr.snoc X7 N6 g_b900
  show zEnds p e below s T7 (mkF m 37 #[rv b900, iv x2, iv x3, iv x4, rv w_CALLER_RUNS, rv w_DEFAULT_KEEP_ALIVE, rv w_DEFAULT_CLOSE_WINDOW] []) _ _ _
  exact zretV X7 hx hby d_prog_13_method_1_37 hret hlk (by decide) (by decide) (by rw [e7]; exact ⟨rfl, N7, K7, E7_b900, F7_b900_closeWindow, F7_b900_core, F7_b900_keepAlive, F7_b900_max, F7_b900_overflow, F7_b900_queue⟩)
set_option maxRecDepth 65536 in
set_option maxHeartbeats 40000000 in
theorem c3_bounded (l : Launch) {Z : State} {a0 : Array Value} (hw : ∀ d ∈ tables_1, d.before a0 Z = true) (ws : List Jvm.Cond) {w_CALLER_RUNS w_DEFAULT_KEEP_ALIVE w_DEFAULT_CLOSE_WINDOW : Addr} {n0 : Nat} {h0 : Heap} (C : Ctx Z w_CALLER_RUNS w_DEFAULT_KEEP_ALIVE w_DEFAULT_CLOSE_WINDOW) (O0 : Old Z n0 h0) (Z0 : n0 ≤ h0.size) (x1 : Int32) (x2 : Int32) (x3 : Int32) (k0 : (1 : Int32) < x1) (k1 : ¬ (x1 < (0 : Int32))) (k2 : ¬ (x2 < (1 : Int32))) (k3 : ¬ (x2 < x1)) (k4 : ¬ (x3 < (0 : Int32))) : zCon l Z (⟨"com/example/kick/kick/value/PoolSpec", "bounded", "(III)Lcom/example/kick/kick/value/PoolSpec;"⟩ : MethodName) prog_13_method_2_code 3 (some (.object "com/example/kick/kick/value/PoolSpec")) ws ({ frames := 2, cells := 1, slots := 6, locals := 31 } : Room) #[(.int x1), (.int x2), (.int x3)] h0 (fun v h L => ∃ b1 : Addr, v = some (.ref b1) ∧ Fr n0 L ∧ Keep h0 h [] ∧ n0 ≤ b1 ∧ h0.size ≤ b1 ∧ Exa Z h b1 "com/example/kick/kick/value/PoolSpec" ∧ Fld Z h b1 "com/example/kick/kick/value/PoolSpec" "closeWindow" "Ljava/time/Duration;" (.ref w_DEFAULT_CLOSE_WINDOW) ∧ Fld Z h b1 "com/example/kick/kick/value/PoolSpec" "core" "I" (.int x1) ∧ Fld Z h b1 "com/example/kick/kick/value/PoolSpec" "keepAlive" "Ljava/time/Duration;" (.ref w_DEFAULT_KEEP_ALIVE) ∧ Fld Z h b1 "com/example/kick/kick/value/PoolSpec" "max" "I" (.int x2) ∧ Fld Z h b1 "com/example/kick/kick/value/PoolSpec" "overflow" "Lcom/example/kick/kick/value/Overflow;" (.ref w_CALLER_RUNS) ∧ Fld Z h b1 "com/example/kick/kick/value/PoolSpec" "queue" "I" (.int x3)) := by
  obtain ⟨S_w_CALLER_RUNS, S_w_DEFAULT_KEEP_ALIVE, S_w_DEFAULT_CLOSE_WINDOW, E_w_CALLER_RUNS, E_w_DEFAULT_KEEP_ALIVE, E_w_DEFAULT_CLOSE_WINDOW⟩ := C
  refine zenter (plainFor_of_name pn_0) (L0 := #[iv x1, iv x2, iv x3]) (fun m => by first | rfl | simp [entryFrame, mkF, argsToLocals, Value.category, maxLocals]) ?_
  intro p e s m below meth c T0 hx hZ hby hml hown0 hnm hret hlk X0 e0
  have hown : s.vm.findClass "com/example/kick/kick/value/PoolSpec" = some m.cls := hown0
  have K0 := Keep.refl h0 []
  have N0 := Fr.nil n0
  show zEnds p e below s T0 (mkF m 0 #[iv x1, iv x2, iv x3] []) _ _ _
  refine ziloadN X0 hx hby d_prog_13_method_2_0 rfl (zifYes X0 hx hby d_prog_13_method_2_1 18 ((if0 _ _).trans (flt k1).2.1) (by decide) (by decide) (ziloadN X0 hx hby d_prog_13_method_2_18 rfl (ziconst X0 hx hby d_prog_13_method_2_19 (z := (1 : Int32)) rfl (zicmpYes X0 hx hby d_prog_13_method_2_20 37 (flt k2).2.1 (by decide) (by decide) (ziloadN X0 hx hby d_prog_13_method_2_37 rfl (ziloadN X0 hx hby d_prog_13_method_2_38 rfl (zicmpYes X0 hx hby d_prog_13_method_2_39 57 (flt k3).2.1 (by decide) (by decide) (ziloadN X0 hx hby d_prog_13_method_2_57 rfl (zifYes X0 hx hby d_prog_13_method_2_58 75 ((if0 _ _).trans (flt k4).2.1) (by decide) (by decide) ?_)))))))))
  show zEnds p e below s T0 (mkF m 75 #[iv x1, iv x2, iv x3] []) _ _ _
  refine znewobj X0 hx hby d_prog_13_method_2_75 hZ hown (w10 hw) (w11 hw) (w8 hw) e0 (by decide) (by decide) fun T1 h1 b1 X1 e1 y1 Ex1 E1_b1 D1 => ?_
  have O1 := O0.ext Ex1
  have K1 := Keep.ext K0 Ex1
  have g1 : n0 ≤ b1 := by rw [y1]; exact Nat.le_trans Z0 K0.1
  have z1 : h0.size ≤ b1 := by rw [y1]; exact K0.1
  have F1_b1_core : Fld Z h1 b1 "com/example/kick/kick/value/PoolSpec" "core" "I" (.int 0) := D1 (Or.inr (w26 hw)) (ty := .int) (by decide)
  have F1_b1_max : Fld Z h1 b1 "com/example/kick/kick/value/PoolSpec" "max" "I" (.int 0) := D1 (Or.inr (w28 hw)) (ty := .int) (by decide)
  have F1_b1_queue : Fld Z h1 b1 "com/example/kick/kick/value/PoolSpec" "queue" "I" (.int 0) := D1 (Or.inr (w30 hw)) (ty := .int) (by decide)
  have F1_b1_overflow : Fld Z h1 b1 "com/example/kick/kick/value/PoolSpec" "overflow" "Lcom/example/kick/kick/value/Overflow;" .null := D1 (Or.inr (w32 hw)) (ty := (.object "com/example/kick/kick/value/Overflow")) (by decide)
  have F1_b1_keepAlive : Fld Z h1 b1 "com/example/kick/kick/value/PoolSpec" "keepAlive" "Ljava/time/Duration;" .null := D1 (Or.inr (w34 hw)) (ty := (.object "java/time/Duration")) (by decide)
  have F1_b1_closeWindow : Fld Z h1 b1 "com/example/kick/kick/value/PoolSpec" "closeWindow" "Ljava/time/Duration;" .null := D1 (Or.inr (w36 hw)) (ty := (.object "java/time/Duration")) (by decide)
  refine zdup X1 hx hby d_prog_13_method_2_78 rfl (ziloadN X1 hx hby d_prog_13_method_2_79 rfl (ziloadN X1 hx hby d_prog_13_method_2_80 rfl (ziloadN X1 hx hby d_prog_13_method_2_81 rfl (zgetstat X1 hx hby d_prog_13_method_2_82 hZ hown (host := "") (Or.inl (w12 hw)) Via.refl e1 (S_w_CALLER_RUNS.ext O1.2) fun T2 X2 e2 => (zgetstat X2 hx hby d_prog_13_method_2_85 hZ hown (host := "") (Or.inl (w15 hw)) Via.refl e2 (S_w_DEFAULT_KEEP_ALIVE.ext O1.2) fun T3 X3 e3 => (zgetstat X3 hx hby d_prog_13_method_2_88 hZ hown (host := "") (Or.inl (w17 hw)) Via.refl e3 (S_w_DEFAULT_CLOSE_WINDOW.ext O1.2) fun T4 X4 e4 => (zcallsp X4 hx hby d_prog_13_method_2_91 hZ hown rfl (w19 hw) (w20 hw) (w21 hw) (w8 hw) e4 (c4_init l hw [] ⟨S_w_CALLER_RUNS, S_w_DEFAULT_KEEP_ALIVE, S_w_DEFAULT_CLOSE_WINDOW, E_w_CALLER_RUNS, E_w_DEFAULT_KEEP_ALIVE, E_w_DEFAULT_CLOSE_WINDOW⟩ O1 (Nat.le_trans Z0 K1.1) x1 x2 x3 b1 g1 E1_b1 F1_b1_closeWindow F1_b1_core F1_b1_keepAlive F1_b1_max F1_b1_overflow F1_b1_queue k4) (by decide) (by rw [hml]; rfl) 1 (Nat.le_of_eq rfl) (by decide) (by decide) (by decide) (by decide) pd_1 rfl (argsL := [(.int x1), (.int x2), (.int x3), (.ref w_CALLER_RUNS), (.ref w_DEFAULT_KEEP_ALIVE), (.ref w_DEFAULT_CLOSE_WINDOW)]) (st := [(.ref b1)]) rfl fun T5 h5 v5 L5 e5 X5 q5 => ?_)))))))
  obtain ⟨rfl, N5q, K5q, E5_b1, F5_b1_closeWindow, F5_b1_core, F5_b1_keepAlive, F5_b1_max, F5_b1_overflow, F5_b1_queue⟩ := q5
  have O5 := O1.keep K5q (allS g1 all0)
  have K5 := Keep.trans K1 K5q (allS (Or.inr z1) all0)
  have N5 := Fr.app N0 N5q
  show zEnds p e below s T5 (mkF m 94 #[iv x1, iv x2, iv x3] [(.ref b1)]) _ _ _
  exact zretA X5 hx hby d_prog_13_method_2_94 hret hlk rfl rfl rfl (by decide) (by decide) (by rw [e5]; exact ⟨b1, rfl, N5, K5, g1, z1, E5_b1, F5_b1_closeWindow, F5_b1_core, F5_b1_keepAlive, F5_b1_max, F5_b1_overflow, F5_b1_queue⟩)
set_option maxRecDepth 65536 in
set_option maxHeartbeats 40000000 in
theorem c7_core (l : Launch) {Z : State} {a0 : Array Value} (hw : ∀ d ∈ tables_1, d.before a0 Z = true) (ws : List Jvm.Cond) {w_CALLER_RUNS w_DEFAULT_KEEP_ALIVE w_DEFAULT_CLOSE_WINDOW : Addr} {n0 : Nat} {h0 : Heap} (C : Ctx Z w_CALLER_RUNS w_DEFAULT_KEEP_ALIVE w_DEFAULT_CLOSE_WINDOW) (O0 : Old Z n0 h0) (Z0 : n0 ≤ h0.size) (b900 : Addr) (x2 : Int32) (x3 : Int32) (x4 : Int32) (g_b900 : n0 ≤ b900) (E_b900 : Exa Z h0 b900 "com/example/kick/kick/value/PoolSpec") (F_b900_closeWindow : Fld Z h0 b900 "com/example/kick/kick/value/PoolSpec" "closeWindow" "Ljava/time/Duration;" (.ref w_DEFAULT_CLOSE_WINDOW)) (F_b900_core : Fld Z h0 b900 "com/example/kick/kick/value/PoolSpec" "core" "I" (.int x2)) (F_b900_keepAlive : Fld Z h0 b900 "com/example/kick/kick/value/PoolSpec" "keepAlive" "Ljava/time/Duration;" (.ref w_DEFAULT_KEEP_ALIVE)) (F_b900_max : Fld Z h0 b900 "com/example/kick/kick/value/PoolSpec" "max" "I" (.int x3)) (F_b900_overflow : Fld Z h0 b900 "com/example/kick/kick/value/PoolSpec" "overflow" "Lcom/example/kick/kick/value/Overflow;" (.ref w_CALLER_RUNS)) (F_b900_queue : Fld Z h0 b900 "com/example/kick/kick/value/PoolSpec" "queue" "I" (.int x4)) (k0 : (1 : Int32) < x2) (k1 : ¬ (x2 < (0 : Int32))) (k2 : ¬ (x3 < (1 : Int32))) (k3 : ¬ (x3 < x2)) (k4 : ¬ (x4 < (0 : Int32))) : zCon l Z (⟨"com/example/kick/kick/value/PoolSpec", "core", "()I"⟩ : MethodName) prog_13_method_6_code 1 (some .int) ws ({ frames := 0, cells := 0, slots := 0, locals := 0 } : Room) #[(.ref b900)] h0 (zSame (some (.int x2)) h0) := by
  obtain ⟨S_w_CALLER_RUNS, S_w_DEFAULT_KEEP_ALIVE, S_w_DEFAULT_CLOSE_WINDOW, E_w_CALLER_RUNS, E_w_DEFAULT_KEEP_ALIVE, E_w_DEFAULT_CLOSE_WINDOW⟩ := C
  refine zenter (plainFor_of_name pn_0) (L0 := #[rv b900]) (fun m => by first | rfl | simp [entryFrame, mkF, argsToLocals, Value.category, maxLocals]) ?_
  intro p e s m below meth c T0 hx hZ hby hml hown0 hnm hret hlk X0 e0
  have hown : s.vm.findClass "com/example/kick/kick/value/PoolSpec" = some m.cls := hown0
  have K0 := Keep.refl h0 []
  have N0 := Fr.nil n0
  show zEnds p e below s T0 (mkF m 0 #[rv b900] []) _ _ _
  refine zaloadN X0 hx hby d_prog_13_method_6_0 rfl rfl (zgetfld X0 hx hby d_prog_13_method_6_1 hZ hown (host := "") (Or.inl (w25 hw)) Via.refl e0 F_b900_core fun T1 X1 e1 => ?_)
  show zEnds p e below s T1 (mkF m 4 #[rv b900] [(.int x2)]) _ _ _
  exact zretI X1 hx hby d_prog_13_method_6_4 hret hlk (by decide) (by decide) ⟨rfl, e1, rfl⟩
set_option maxRecDepth 65536 in
set_option maxHeartbeats 40000000 in
theorem c9_max (l : Launch) {Z : State} {a0 : Array Value} (hw : ∀ d ∈ tables_1, d.before a0 Z = true) (ws : List Jvm.Cond) {w_CALLER_RUNS w_DEFAULT_KEEP_ALIVE w_DEFAULT_CLOSE_WINDOW : Addr} {n0 : Nat} {h0 : Heap} (C : Ctx Z w_CALLER_RUNS w_DEFAULT_KEEP_ALIVE w_DEFAULT_CLOSE_WINDOW) (O0 : Old Z n0 h0) (Z0 : n0 ≤ h0.size) (b900 : Addr) (x2 : Int32) (x3 : Int32) (x4 : Int32) (g_b900 : n0 ≤ b900) (E_b900 : Exa Z h0 b900 "com/example/kick/kick/value/PoolSpec") (F_b900_closeWindow : Fld Z h0 b900 "com/example/kick/kick/value/PoolSpec" "closeWindow" "Ljava/time/Duration;" (.ref w_DEFAULT_CLOSE_WINDOW)) (F_b900_core : Fld Z h0 b900 "com/example/kick/kick/value/PoolSpec" "core" "I" (.int x2)) (F_b900_keepAlive : Fld Z h0 b900 "com/example/kick/kick/value/PoolSpec" "keepAlive" "Ljava/time/Duration;" (.ref w_DEFAULT_KEEP_ALIVE)) (F_b900_max : Fld Z h0 b900 "com/example/kick/kick/value/PoolSpec" "max" "I" (.int x3)) (F_b900_overflow : Fld Z h0 b900 "com/example/kick/kick/value/PoolSpec" "overflow" "Lcom/example/kick/kick/value/Overflow;" (.ref w_CALLER_RUNS)) (F_b900_queue : Fld Z h0 b900 "com/example/kick/kick/value/PoolSpec" "queue" "I" (.int x4)) (k0 : (1 : Int32) < x2) (k1 : ¬ (x2 < (0 : Int32))) (k2 : ¬ (x3 < (1 : Int32))) (k3 : ¬ (x3 < x2)) (k4 : ¬ (x4 < (0 : Int32))) : zCon l Z (⟨"com/example/kick/kick/value/PoolSpec", "max", "()I"⟩ : MethodName) prog_13_method_7_code 1 (some .int) ws ({ frames := 0, cells := 0, slots := 0, locals := 0 } : Room) #[(.ref b900)] h0 (zSame (some (.int x3)) h0) := by
  obtain ⟨S_w_CALLER_RUNS, S_w_DEFAULT_KEEP_ALIVE, S_w_DEFAULT_CLOSE_WINDOW, E_w_CALLER_RUNS, E_w_DEFAULT_KEEP_ALIVE, E_w_DEFAULT_CLOSE_WINDOW⟩ := C
  refine zenter (plainFor_of_name pn_0) (L0 := #[rv b900]) (fun m => by first | rfl | simp [entryFrame, mkF, argsToLocals, Value.category, maxLocals]) ?_
  intro p e s m below meth c T0 hx hZ hby hml hown0 hnm hret hlk X0 e0
  have hown : s.vm.findClass "com/example/kick/kick/value/PoolSpec" = some m.cls := hown0
  have K0 := Keep.refl h0 []
  have N0 := Fr.nil n0
  show zEnds p e below s T0 (mkF m 0 #[rv b900] []) _ _ _
  refine zaloadN X0 hx hby d_prog_13_method_7_0 rfl rfl (zgetfld X0 hx hby d_prog_13_method_7_1 hZ hown (host := "") (Or.inl (w27 hw)) Via.refl e0 F_b900_max fun T1 X1 e1 => ?_)
  show zEnds p e below s T1 (mkF m 4 #[rv b900] [(.int x3)]) _ _ _
  exact zretI X1 hx hby d_prog_13_method_7_4 hret hlk (by decide) (by decide) ⟨rfl, e1, rfl⟩
set_option maxRecDepth 65536 in
set_option maxHeartbeats 40000000 in
theorem c11_queue (l : Launch) {Z : State} {a0 : Array Value} (hw : ∀ d ∈ tables_1, d.before a0 Z = true) (ws : List Jvm.Cond) {w_CALLER_RUNS w_DEFAULT_KEEP_ALIVE w_DEFAULT_CLOSE_WINDOW : Addr} {n0 : Nat} {h0 : Heap} (C : Ctx Z w_CALLER_RUNS w_DEFAULT_KEEP_ALIVE w_DEFAULT_CLOSE_WINDOW) (O0 : Old Z n0 h0) (Z0 : n0 ≤ h0.size) (b900 : Addr) (x2 : Int32) (x3 : Int32) (x4 : Int32) (g_b900 : n0 ≤ b900) (E_b900 : Exa Z h0 b900 "com/example/kick/kick/value/PoolSpec") (F_b900_closeWindow : Fld Z h0 b900 "com/example/kick/kick/value/PoolSpec" "closeWindow" "Ljava/time/Duration;" (.ref w_DEFAULT_CLOSE_WINDOW)) (F_b900_core : Fld Z h0 b900 "com/example/kick/kick/value/PoolSpec" "core" "I" (.int x2)) (F_b900_keepAlive : Fld Z h0 b900 "com/example/kick/kick/value/PoolSpec" "keepAlive" "Ljava/time/Duration;" (.ref w_DEFAULT_KEEP_ALIVE)) (F_b900_max : Fld Z h0 b900 "com/example/kick/kick/value/PoolSpec" "max" "I" (.int x3)) (F_b900_overflow : Fld Z h0 b900 "com/example/kick/kick/value/PoolSpec" "overflow" "Lcom/example/kick/kick/value/Overflow;" (.ref w_CALLER_RUNS)) (F_b900_queue : Fld Z h0 b900 "com/example/kick/kick/value/PoolSpec" "queue" "I" (.int x4)) (k0 : (1 : Int32) < x2) (k1 : ¬ (x2 < (0 : Int32))) (k2 : ¬ (x3 < (1 : Int32))) (k3 : ¬ (x3 < x2)) (k4 : ¬ (x4 < (0 : Int32))) : zCon l Z (⟨"com/example/kick/kick/value/PoolSpec", "queue", "()I"⟩ : MethodName) prog_13_method_8_code 1 (some .int) ws ({ frames := 0, cells := 0, slots := 0, locals := 0 } : Room) #[(.ref b900)] h0 (zSame (some (.int x4)) h0) := by
  obtain ⟨S_w_CALLER_RUNS, S_w_DEFAULT_KEEP_ALIVE, S_w_DEFAULT_CLOSE_WINDOW, E_w_CALLER_RUNS, E_w_DEFAULT_KEEP_ALIVE, E_w_DEFAULT_CLOSE_WINDOW⟩ := C
  refine zenter (plainFor_of_name pn_0) (L0 := #[rv b900]) (fun m => by first | rfl | simp [entryFrame, mkF, argsToLocals, Value.category, maxLocals]) ?_
  intro p e s m below meth c T0 hx hZ hby hml hown0 hnm hret hlk X0 e0
  have hown : s.vm.findClass "com/example/kick/kick/value/PoolSpec" = some m.cls := hown0
  have K0 := Keep.refl h0 []
  have N0 := Fr.nil n0
  show zEnds p e below s T0 (mkF m 0 #[rv b900] []) _ _ _
  refine zaloadN X0 hx hby d_prog_13_method_8_0 rfl rfl (zgetfld X0 hx hby d_prog_13_method_8_1 hZ hown (host := "") (Or.inl (w29 hw)) Via.refl e0 F_b900_queue fun T1 X1 e1 => ?_)
  show zEnds p e below s T1 (mkF m 4 #[rv b900] [(.int x4)]) _ _ _
  exact zretI X1 hx hby d_prog_13_method_8_4 hret hlk (by decide) (by decide) ⟨rfl, e1, rfl⟩
set_option maxRecDepth 65536 in
set_option maxHeartbeats 40000000 in
theorem c13_overflow (l : Launch) {Z : State} {a0 : Array Value} (hw : ∀ d ∈ tables_1, d.before a0 Z = true) (ws : List Jvm.Cond) {w_CALLER_RUNS w_DEFAULT_KEEP_ALIVE w_DEFAULT_CLOSE_WINDOW : Addr} {n0 : Nat} {h0 : Heap} (C : Ctx Z w_CALLER_RUNS w_DEFAULT_KEEP_ALIVE w_DEFAULT_CLOSE_WINDOW) (O0 : Old Z n0 h0) (Z0 : n0 ≤ h0.size) (b900 : Addr) (x2 : Int32) (x3 : Int32) (x4 : Int32) (g_b900 : n0 ≤ b900) (E_b900 : Exa Z h0 b900 "com/example/kick/kick/value/PoolSpec") (F_b900_closeWindow : Fld Z h0 b900 "com/example/kick/kick/value/PoolSpec" "closeWindow" "Ljava/time/Duration;" (.ref w_DEFAULT_CLOSE_WINDOW)) (F_b900_core : Fld Z h0 b900 "com/example/kick/kick/value/PoolSpec" "core" "I" (.int x2)) (F_b900_keepAlive : Fld Z h0 b900 "com/example/kick/kick/value/PoolSpec" "keepAlive" "Ljava/time/Duration;" (.ref w_DEFAULT_KEEP_ALIVE)) (F_b900_max : Fld Z h0 b900 "com/example/kick/kick/value/PoolSpec" "max" "I" (.int x3)) (F_b900_overflow : Fld Z h0 b900 "com/example/kick/kick/value/PoolSpec" "overflow" "Lcom/example/kick/kick/value/Overflow;" (.ref w_CALLER_RUNS)) (F_b900_queue : Fld Z h0 b900 "com/example/kick/kick/value/PoolSpec" "queue" "I" (.int x4)) (k0 : (1 : Int32) < x2) (k1 : ¬ (x2 < (0 : Int32))) (k2 : ¬ (x3 < (1 : Int32))) (k3 : ¬ (x3 < x2)) (k4 : ¬ (x4 < (0 : Int32))) : zCon l Z (⟨"com/example/kick/kick/value/PoolSpec", "overflow", "()Lcom/example/kick/kick/value/Overflow;"⟩ : MethodName) prog_13_method_9_code 1 (some (.object "com/example/kick/kick/value/Overflow")) ws ({ frames := 0, cells := 0, slots := 0, locals := 0 } : Room) #[(.ref b900)] h0 (zSame (some (.ref w_CALLER_RUNS)) h0) := by
  obtain ⟨S_w_CALLER_RUNS, S_w_DEFAULT_KEEP_ALIVE, S_w_DEFAULT_CLOSE_WINDOW, E_w_CALLER_RUNS, E_w_DEFAULT_KEEP_ALIVE, E_w_DEFAULT_CLOSE_WINDOW⟩ := C
  refine zenter (plainFor_of_name pn_0) (L0 := #[rv b900]) (fun m => by first | rfl | simp [entryFrame, mkF, argsToLocals, Value.category, maxLocals]) ?_
  intro p e s m below meth c T0 hx hZ hby hml hown0 hnm hret hlk X0 e0
  have hown : s.vm.findClass "com/example/kick/kick/value/PoolSpec" = some m.cls := hown0
  have K0 := Keep.refl h0 []
  have N0 := Fr.nil n0
  show zEnds p e below s T0 (mkF m 0 #[rv b900] []) _ _ _
  refine zaloadN X0 hx hby d_prog_13_method_9_0 rfl rfl (zgetfld X0 hx hby d_prog_13_method_9_1 hZ hown (host := "") (Or.inl (w31 hw)) Via.refl e0 F_b900_overflow fun T1 X1 e1 => ?_)
  show zEnds p e below s T1 (mkF m 4 #[rv b900] [(.ref w_CALLER_RUNS)]) _ _ _
  exact zretA X1 hx hby d_prog_13_method_9_4 hret hlk rfl rfl rfl (by decide) (by decide) ⟨rfl, e1, rfl⟩
set_option maxRecDepth 65536 in
set_option maxHeartbeats 40000000 in
theorem c15_keepAlive (l : Launch) {Z : State} {a0 : Array Value} (hw : ∀ d ∈ tables_1, d.before a0 Z = true) (ws : List Jvm.Cond) {w_CALLER_RUNS w_DEFAULT_KEEP_ALIVE w_DEFAULT_CLOSE_WINDOW : Addr} {n0 : Nat} {h0 : Heap} (C : Ctx Z w_CALLER_RUNS w_DEFAULT_KEEP_ALIVE w_DEFAULT_CLOSE_WINDOW) (O0 : Old Z n0 h0) (Z0 : n0 ≤ h0.size) (b900 : Addr) (x2 : Int32) (x3 : Int32) (x4 : Int32) (g_b900 : n0 ≤ b900) (E_b900 : Exa Z h0 b900 "com/example/kick/kick/value/PoolSpec") (F_b900_closeWindow : Fld Z h0 b900 "com/example/kick/kick/value/PoolSpec" "closeWindow" "Ljava/time/Duration;" (.ref w_DEFAULT_CLOSE_WINDOW)) (F_b900_core : Fld Z h0 b900 "com/example/kick/kick/value/PoolSpec" "core" "I" (.int x2)) (F_b900_keepAlive : Fld Z h0 b900 "com/example/kick/kick/value/PoolSpec" "keepAlive" "Ljava/time/Duration;" (.ref w_DEFAULT_KEEP_ALIVE)) (F_b900_max : Fld Z h0 b900 "com/example/kick/kick/value/PoolSpec" "max" "I" (.int x3)) (F_b900_overflow : Fld Z h0 b900 "com/example/kick/kick/value/PoolSpec" "overflow" "Lcom/example/kick/kick/value/Overflow;" (.ref w_CALLER_RUNS)) (F_b900_queue : Fld Z h0 b900 "com/example/kick/kick/value/PoolSpec" "queue" "I" (.int x4)) (k0 : (1 : Int32) < x2) (k1 : ¬ (x2 < (0 : Int32))) (k2 : ¬ (x3 < (1 : Int32))) (k3 : ¬ (x3 < x2)) (k4 : ¬ (x4 < (0 : Int32))) : zCon l Z (⟨"com/example/kick/kick/value/PoolSpec", "keepAlive", "()Ljava/time/Duration;"⟩ : MethodName) prog_13_method_10_code 1 (some (.object "java/time/Duration")) ws ({ frames := 0, cells := 0, slots := 0, locals := 0 } : Room) #[(.ref b900)] h0 (zSame (some (.ref w_DEFAULT_KEEP_ALIVE)) h0) := by
  obtain ⟨S_w_CALLER_RUNS, S_w_DEFAULT_KEEP_ALIVE, S_w_DEFAULT_CLOSE_WINDOW, E_w_CALLER_RUNS, E_w_DEFAULT_KEEP_ALIVE, E_w_DEFAULT_CLOSE_WINDOW⟩ := C
  refine zenter (plainFor_of_name pn_0) (L0 := #[rv b900]) (fun m => by first | rfl | simp [entryFrame, mkF, argsToLocals, Value.category, maxLocals]) ?_
  intro p e s m below meth c T0 hx hZ hby hml hown0 hnm hret hlk X0 e0
  have hown : s.vm.findClass "com/example/kick/kick/value/PoolSpec" = some m.cls := hown0
  have K0 := Keep.refl h0 []
  have N0 := Fr.nil n0
  show zEnds p e below s T0 (mkF m 0 #[rv b900] []) _ _ _
  refine zaloadN X0 hx hby d_prog_13_method_10_0 rfl rfl (zgetfld X0 hx hby d_prog_13_method_10_1 hZ hown (host := "") (Or.inl (w33 hw)) Via.refl e0 F_b900_keepAlive fun T1 X1 e1 => ?_)
  show zEnds p e below s T1 (mkF m 4 #[rv b900] [(.ref w_DEFAULT_KEEP_ALIVE)]) _ _ _
  exact zretA X1 hx hby d_prog_13_method_10_4 hret hlk rfl rfl rfl (by decide) (by decide) ⟨rfl, e1, rfl⟩
set_option maxRecDepth 65536 in
set_option maxHeartbeats 40000000 in
theorem c17_closeWindow (l : Launch) {Z : State} {a0 : Array Value} (hw : ∀ d ∈ tables_1, d.before a0 Z = true) (ws : List Jvm.Cond) {w_CALLER_RUNS w_DEFAULT_KEEP_ALIVE w_DEFAULT_CLOSE_WINDOW : Addr} {n0 : Nat} {h0 : Heap} (C : Ctx Z w_CALLER_RUNS w_DEFAULT_KEEP_ALIVE w_DEFAULT_CLOSE_WINDOW) (O0 : Old Z n0 h0) (Z0 : n0 ≤ h0.size) (b900 : Addr) (x2 : Int32) (x3 : Int32) (x4 : Int32) (g_b900 : n0 ≤ b900) (E_b900 : Exa Z h0 b900 "com/example/kick/kick/value/PoolSpec") (F_b900_closeWindow : Fld Z h0 b900 "com/example/kick/kick/value/PoolSpec" "closeWindow" "Ljava/time/Duration;" (.ref w_DEFAULT_CLOSE_WINDOW)) (F_b900_core : Fld Z h0 b900 "com/example/kick/kick/value/PoolSpec" "core" "I" (.int x2)) (F_b900_keepAlive : Fld Z h0 b900 "com/example/kick/kick/value/PoolSpec" "keepAlive" "Ljava/time/Duration;" (.ref w_DEFAULT_KEEP_ALIVE)) (F_b900_max : Fld Z h0 b900 "com/example/kick/kick/value/PoolSpec" "max" "I" (.int x3)) (F_b900_overflow : Fld Z h0 b900 "com/example/kick/kick/value/PoolSpec" "overflow" "Lcom/example/kick/kick/value/Overflow;" (.ref w_CALLER_RUNS)) (F_b900_queue : Fld Z h0 b900 "com/example/kick/kick/value/PoolSpec" "queue" "I" (.int x4)) (k0 : (1 : Int32) < x2) (k1 : ¬ (x2 < (0 : Int32))) (k2 : ¬ (x3 < (1 : Int32))) (k3 : ¬ (x3 < x2)) (k4 : ¬ (x4 < (0 : Int32))) : zCon l Z (⟨"com/example/kick/kick/value/PoolSpec", "closeWindow", "()Ljava/time/Duration;"⟩ : MethodName) prog_13_method_11_code 1 (some (.object "java/time/Duration")) ws ({ frames := 0, cells := 0, slots := 0, locals := 0 } : Room) #[(.ref b900)] h0 (zSame (some (.ref w_DEFAULT_CLOSE_WINDOW)) h0) := by
  obtain ⟨S_w_CALLER_RUNS, S_w_DEFAULT_KEEP_ALIVE, S_w_DEFAULT_CLOSE_WINDOW, E_w_CALLER_RUNS, E_w_DEFAULT_KEEP_ALIVE, E_w_DEFAULT_CLOSE_WINDOW⟩ := C
  refine zenter (plainFor_of_name pn_0) (L0 := #[rv b900]) (fun m => by first | rfl | simp [entryFrame, mkF, argsToLocals, Value.category, maxLocals]) ?_
  intro p e s m below meth c T0 hx hZ hby hml hown0 hnm hret hlk X0 e0
  have hown : s.vm.findClass "com/example/kick/kick/value/PoolSpec" = some m.cls := hown0
  have K0 := Keep.refl h0 []
  have N0 := Fr.nil n0
  show zEnds p e below s T0 (mkF m 0 #[rv b900] []) _ _ _
  refine zaloadN X0 hx hby d_prog_13_method_11_0 rfl rfl (zgetfld X0 hx hby d_prog_13_method_11_1 hZ hown (host := "") (Or.inl (w35 hw)) Via.refl e0 F_b900_closeWindow fun T1 X1 e1 => ?_)
  show zEnds p e below s T1 (mkF m 4 #[rv b900] [(.ref w_DEFAULT_CLOSE_WINDOW)]) _ _ _
  exact zretA X1 hx hby d_prog_13_method_11_4 hret hlk rfl rfl rfl (by decide) (by decide) ⟨rfl, e1, rfl⟩
set_option maxRecDepth 65536 in
set_option maxHeartbeats 40000000 in
theorem c19_max (l : Launch) {Z : State} {a0 : Array Value} (hw : ∀ d ∈ tables_1, d.before a0 Z = true) (ws : List Jvm.Cond) {w_CALLER_RUNS w_DEFAULT_KEEP_ALIVE w_DEFAULT_CLOSE_WINDOW : Addr} {n0 : Nat} {h0 : Heap} (C : Ctx Z w_CALLER_RUNS w_DEFAULT_KEEP_ALIVE w_DEFAULT_CLOSE_WINDOW) (O0 : Old Z n0 h0) (Z0 : n0 ≤ h0.size) (x1 : Int32) (k0 : ¬ ((1 : Int32) < x1)) : zCon l Z (⟨"java/lang/Math", "max", "(II)I"⟩ : MethodName) jdk_29_method_65_code 2 (some .int) ws ({ frames := 0, cells := 0, slots := 0, locals := 0 } : Room) #[(.int 1), (.int x1)] h0 (zSame (some (.int 1)) h0) := by
  obtain ⟨S_w_CALLER_RUNS, S_w_DEFAULT_KEEP_ALIVE, S_w_DEFAULT_CLOSE_WINDOW, E_w_CALLER_RUNS, E_w_DEFAULT_KEEP_ALIVE, E_w_DEFAULT_CLOSE_WINDOW⟩ := C
  refine zenter (Jvm.Free.JP.mathPlain rfl (by decide +kernel)) (L0 := #[iv 1, iv x1]) (fun m => by first | rfl | simp [entryFrame, mkF, argsToLocals, Value.category, maxLocals]) ?_
  intro p e s m below meth c T0 hx hZ hby hml hown0 hnm hret hlk X0 e0
  have hown : s.vm.findClass "java/lang/Math" = some m.cls := hown0
  have K0 := Keep.refl h0 []
  have N0 := Fr.nil n0
  show zEnds p e below s T0 (mkF m 0 #[iv 1, iv x1] []) _ _ _
  refine ziloadN X0 hx hby d_jdk_29_method_65_0 rfl (ziloadN X0 hx hby d_jdk_29_method_65_1 rfl (zicmpNo X0 hx hby d_jdk_29_method_65_2 (flt k0).1 (ziloadN X0 hx hby d_jdk_29_method_65_5 rfl (zgoto X0 hx hby d_jdk_29_method_65_6 10 (by decide) (by decide) ?_))))
  show zEnds p e below s T0 (mkF m 10 #[iv 1, iv x1] [(.int 1)]) _ _ _
  exact zretI X0 hx hby d_jdk_29_method_65_10 hret hlk (by decide) (by decide) ⟨rfl, e0, rfl⟩
set_option maxRecDepth 65536 in
set_option maxHeartbeats 40000000 in
theorem c21_bounded (l : Launch) {Z : State} {a0 : Array Value} (hw : ∀ d ∈ tables_1, d.before a0 Z = true) (ws : List Jvm.Cond) {w_CALLER_RUNS w_DEFAULT_KEEP_ALIVE w_DEFAULT_CLOSE_WINDOW : Addr} {n0 : Nat} {h0 : Heap} (C : Ctx Z w_CALLER_RUNS w_DEFAULT_KEEP_ALIVE w_DEFAULT_CLOSE_WINDOW) (O0 : Old Z n0 h0) (Z0 : n0 ≤ h0.size) (x1 : Int32) (x2 : Int32) (x3 : Int32) (k0 : ¬ ((1 : Int32) < x1)) (k1 : ¬ (x1 < (0 : Int32))) (k2 : ¬ (x2 < (1 : Int32))) (k3 : ¬ (x2 < x1)) (k4 : ¬ (x3 < (0 : Int32))) : zCon l Z (⟨"com/example/kick/kick/value/PoolSpec", "bounded", "(III)Lcom/example/kick/kick/value/PoolSpec;"⟩ : MethodName) prog_13_method_2_code 3 (some (.object "com/example/kick/kick/value/PoolSpec")) ws ({ frames := 2, cells := 1, slots := 6, locals := 31 } : Room) #[(.int x1), (.int x2), (.int x3)] h0 (fun v h L => ∃ b1 : Addr, v = some (.ref b1) ∧ Fr n0 L ∧ Keep h0 h [] ∧ n0 ≤ b1 ∧ h0.size ≤ b1 ∧ Exa Z h b1 "com/example/kick/kick/value/PoolSpec" ∧ Fld Z h b1 "com/example/kick/kick/value/PoolSpec" "closeWindow" "Ljava/time/Duration;" (.ref w_DEFAULT_CLOSE_WINDOW) ∧ Fld Z h b1 "com/example/kick/kick/value/PoolSpec" "core" "I" (.int x1) ∧ Fld Z h b1 "com/example/kick/kick/value/PoolSpec" "keepAlive" "Ljava/time/Duration;" (.ref w_DEFAULT_KEEP_ALIVE) ∧ Fld Z h b1 "com/example/kick/kick/value/PoolSpec" "max" "I" (.int x2) ∧ Fld Z h b1 "com/example/kick/kick/value/PoolSpec" "overflow" "Lcom/example/kick/kick/value/Overflow;" (.ref w_CALLER_RUNS) ∧ Fld Z h b1 "com/example/kick/kick/value/PoolSpec" "queue" "I" (.int x3)) := by
  obtain ⟨S_w_CALLER_RUNS, S_w_DEFAULT_KEEP_ALIVE, S_w_DEFAULT_CLOSE_WINDOW, E_w_CALLER_RUNS, E_w_DEFAULT_KEEP_ALIVE, E_w_DEFAULT_CLOSE_WINDOW⟩ := C
  refine zenter (plainFor_of_name pn_0) (L0 := #[iv x1, iv x2, iv x3]) (fun m => by first | rfl | simp [entryFrame, mkF, argsToLocals, Value.category, maxLocals]) ?_
  intro p e s m below meth c T0 hx hZ hby hml hown0 hnm hret hlk X0 e0
  have hown : s.vm.findClass "com/example/kick/kick/value/PoolSpec" = some m.cls := hown0
  have K0 := Keep.refl h0 []
  have N0 := Fr.nil n0
  show zEnds p e below s T0 (mkF m 0 #[iv x1, iv x2, iv x3] []) _ _ _
  refine ziloadN X0 hx hby d_prog_13_method_2_0 rfl (zifYes X0 hx hby d_prog_13_method_2_1 18 ((if0 _ _).trans (flt k1).2.1) (by decide) (by decide) (ziloadN X0 hx hby d_prog_13_method_2_18 rfl (ziconst X0 hx hby d_prog_13_method_2_19 (z := (1 : Int32)) rfl (zicmpYes X0 hx hby d_prog_13_method_2_20 37 (flt k2).2.1 (by decide) (by decide) (ziloadN X0 hx hby d_prog_13_method_2_37 rfl (ziloadN X0 hx hby d_prog_13_method_2_38 rfl (zicmpYes X0 hx hby d_prog_13_method_2_39 57 (flt k3).2.1 (by decide) (by decide) (ziloadN X0 hx hby d_prog_13_method_2_57 rfl (zifYes X0 hx hby d_prog_13_method_2_58 75 ((if0 _ _).trans (flt k4).2.1) (by decide) (by decide) ?_)))))))))
  show zEnds p e below s T0 (mkF m 75 #[iv x1, iv x2, iv x3] []) _ _ _
  refine znewobj X0 hx hby d_prog_13_method_2_75 hZ hown (w10 hw) (w11 hw) (w8 hw) e0 (by decide) (by decide) fun T1 h1 b1 X1 e1 y1 Ex1 E1_b1 D1 => ?_
  have O1 := O0.ext Ex1
  have K1 := Keep.ext K0 Ex1
  have g1 : n0 ≤ b1 := by rw [y1]; exact Nat.le_trans Z0 K0.1
  have z1 : h0.size ≤ b1 := by rw [y1]; exact K0.1
  have F1_b1_core : Fld Z h1 b1 "com/example/kick/kick/value/PoolSpec" "core" "I" (.int 0) := D1 (Or.inr (w26 hw)) (ty := .int) (by decide)
  have F1_b1_max : Fld Z h1 b1 "com/example/kick/kick/value/PoolSpec" "max" "I" (.int 0) := D1 (Or.inr (w28 hw)) (ty := .int) (by decide)
  have F1_b1_queue : Fld Z h1 b1 "com/example/kick/kick/value/PoolSpec" "queue" "I" (.int 0) := D1 (Or.inr (w30 hw)) (ty := .int) (by decide)
  have F1_b1_overflow : Fld Z h1 b1 "com/example/kick/kick/value/PoolSpec" "overflow" "Lcom/example/kick/kick/value/Overflow;" .null := D1 (Or.inr (w32 hw)) (ty := (.object "com/example/kick/kick/value/Overflow")) (by decide)
  have F1_b1_keepAlive : Fld Z h1 b1 "com/example/kick/kick/value/PoolSpec" "keepAlive" "Ljava/time/Duration;" .null := D1 (Or.inr (w34 hw)) (ty := (.object "java/time/Duration")) (by decide)
  have F1_b1_closeWindow : Fld Z h1 b1 "com/example/kick/kick/value/PoolSpec" "closeWindow" "Ljava/time/Duration;" .null := D1 (Or.inr (w36 hw)) (ty := (.object "java/time/Duration")) (by decide)
  refine zdup X1 hx hby d_prog_13_method_2_78 rfl (ziloadN X1 hx hby d_prog_13_method_2_79 rfl (ziloadN X1 hx hby d_prog_13_method_2_80 rfl (ziloadN X1 hx hby d_prog_13_method_2_81 rfl (zgetstat X1 hx hby d_prog_13_method_2_82 hZ hown (host := "") (Or.inl (w12 hw)) Via.refl e1 (S_w_CALLER_RUNS.ext O1.2) fun T2 X2 e2 => (zgetstat X2 hx hby d_prog_13_method_2_85 hZ hown (host := "") (Or.inl (w15 hw)) Via.refl e2 (S_w_DEFAULT_KEEP_ALIVE.ext O1.2) fun T3 X3 e3 => (zgetstat X3 hx hby d_prog_13_method_2_88 hZ hown (host := "") (Or.inl (w17 hw)) Via.refl e3 (S_w_DEFAULT_CLOSE_WINDOW.ext O1.2) fun T4 X4 e4 => (zcallsp X4 hx hby d_prog_13_method_2_91 hZ hown rfl (w19 hw) (w20 hw) (w21 hw) (w8 hw) e4 (c4_init l hw [] ⟨S_w_CALLER_RUNS, S_w_DEFAULT_KEEP_ALIVE, S_w_DEFAULT_CLOSE_WINDOW, E_w_CALLER_RUNS, E_w_DEFAULT_KEEP_ALIVE, E_w_DEFAULT_CLOSE_WINDOW⟩ O1 (Nat.le_trans Z0 K1.1) x1 x2 x3 b1 g1 E1_b1 F1_b1_closeWindow F1_b1_core F1_b1_keepAlive F1_b1_max F1_b1_overflow F1_b1_queue k4) (by decide) (by rw [hml]; rfl) 1 (Nat.le_of_eq rfl) (by decide) (by decide) (by decide) (by decide) pd_1 rfl (argsL := [(.int x1), (.int x2), (.int x3), (.ref w_CALLER_RUNS), (.ref w_DEFAULT_KEEP_ALIVE), (.ref w_DEFAULT_CLOSE_WINDOW)]) (st := [(.ref b1)]) rfl fun T5 h5 v5 L5 e5 X5 q5 => ?_)))))))
  obtain ⟨rfl, N5q, K5q, E5_b1, F5_b1_closeWindow, F5_b1_core, F5_b1_keepAlive, F5_b1_max, F5_b1_overflow, F5_b1_queue⟩ := q5
  have O5 := O1.keep K5q (allS g1 all0)
  have K5 := Keep.trans K1 K5q (allS (Or.inr z1) all0)
  have N5 := Fr.app N0 N5q
  show zEnds p e below s T5 (mkF m 94 #[iv x1, iv x2, iv x3] [(.ref b1)]) _ _ _
  exact zretA X5 hx hby d_prog_13_method_2_94 hret hlk rfl rfl rfl (by decide) (by decide) (by rw [e5]; exact ⟨b1, rfl, N5, K5, g1, z1, E5_b1, F5_b1_closeWindow, F5_b1_core, F5_b1_keepAlive, F5_b1_max, F5_b1_overflow, F5_b1_queue⟩)
set_option maxRecDepth 65536 in
set_option maxHeartbeats 40000000 in
theorem c23_core (l : Launch) {Z : State} {a0 : Array Value} (hw : ∀ d ∈ tables_1, d.before a0 Z = true) (ws : List Jvm.Cond) {w_CALLER_RUNS w_DEFAULT_KEEP_ALIVE w_DEFAULT_CLOSE_WINDOW : Addr} {n0 : Nat} {h0 : Heap} (C : Ctx Z w_CALLER_RUNS w_DEFAULT_KEEP_ALIVE w_DEFAULT_CLOSE_WINDOW) (O0 : Old Z n0 h0) (Z0 : n0 ≤ h0.size) (b900 : Addr) (x2 : Int32) (x3 : Int32) (x4 : Int32) (g_b900 : n0 ≤ b900) (E_b900 : Exa Z h0 b900 "com/example/kick/kick/value/PoolSpec") (F_b900_closeWindow : Fld Z h0 b900 "com/example/kick/kick/value/PoolSpec" "closeWindow" "Ljava/time/Duration;" (.ref w_DEFAULT_CLOSE_WINDOW)) (F_b900_core : Fld Z h0 b900 "com/example/kick/kick/value/PoolSpec" "core" "I" (.int x2)) (F_b900_keepAlive : Fld Z h0 b900 "com/example/kick/kick/value/PoolSpec" "keepAlive" "Ljava/time/Duration;" (.ref w_DEFAULT_KEEP_ALIVE)) (F_b900_max : Fld Z h0 b900 "com/example/kick/kick/value/PoolSpec" "max" "I" (.int x3)) (F_b900_overflow : Fld Z h0 b900 "com/example/kick/kick/value/PoolSpec" "overflow" "Lcom/example/kick/kick/value/Overflow;" (.ref w_CALLER_RUNS)) (F_b900_queue : Fld Z h0 b900 "com/example/kick/kick/value/PoolSpec" "queue" "I" (.int x4)) (k0 : ¬ ((1 : Int32) < x2)) (k1 : ¬ (x2 < (0 : Int32))) (k2 : ¬ (x3 < (1 : Int32))) (k3 : ¬ (x3 < x2)) (k4 : ¬ (x4 < (0 : Int32))) : zCon l Z (⟨"com/example/kick/kick/value/PoolSpec", "core", "()I"⟩ : MethodName) prog_13_method_6_code 1 (some .int) ws ({ frames := 0, cells := 0, slots := 0, locals := 0 } : Room) #[(.ref b900)] h0 (zSame (some (.int x2)) h0) := by
  obtain ⟨S_w_CALLER_RUNS, S_w_DEFAULT_KEEP_ALIVE, S_w_DEFAULT_CLOSE_WINDOW, E_w_CALLER_RUNS, E_w_DEFAULT_KEEP_ALIVE, E_w_DEFAULT_CLOSE_WINDOW⟩ := C
  refine zenter (plainFor_of_name pn_0) (L0 := #[rv b900]) (fun m => by first | rfl | simp [entryFrame, mkF, argsToLocals, Value.category, maxLocals]) ?_
  intro p e s m below meth c T0 hx hZ hby hml hown0 hnm hret hlk X0 e0
  have hown : s.vm.findClass "com/example/kick/kick/value/PoolSpec" = some m.cls := hown0
  have K0 := Keep.refl h0 []
  have N0 := Fr.nil n0
  show zEnds p e below s T0 (mkF m 0 #[rv b900] []) _ _ _
  refine zaloadN X0 hx hby d_prog_13_method_6_0 rfl rfl (zgetfld X0 hx hby d_prog_13_method_6_1 hZ hown (host := "") (Or.inl (w25 hw)) Via.refl e0 F_b900_core fun T1 X1 e1 => ?_)
  show zEnds p e below s T1 (mkF m 4 #[rv b900] [(.int x2)]) _ _ _
  exact zretI X1 hx hby d_prog_13_method_6_4 hret hlk (by decide) (by decide) ⟨rfl, e1, rfl⟩
set_option maxRecDepth 65536 in
set_option maxHeartbeats 40000000 in
theorem c25_max (l : Launch) {Z : State} {a0 : Array Value} (hw : ∀ d ∈ tables_1, d.before a0 Z = true) (ws : List Jvm.Cond) {w_CALLER_RUNS w_DEFAULT_KEEP_ALIVE w_DEFAULT_CLOSE_WINDOW : Addr} {n0 : Nat} {h0 : Heap} (C : Ctx Z w_CALLER_RUNS w_DEFAULT_KEEP_ALIVE w_DEFAULT_CLOSE_WINDOW) (O0 : Old Z n0 h0) (Z0 : n0 ≤ h0.size) (b900 : Addr) (x2 : Int32) (x3 : Int32) (x4 : Int32) (g_b900 : n0 ≤ b900) (E_b900 : Exa Z h0 b900 "com/example/kick/kick/value/PoolSpec") (F_b900_closeWindow : Fld Z h0 b900 "com/example/kick/kick/value/PoolSpec" "closeWindow" "Ljava/time/Duration;" (.ref w_DEFAULT_CLOSE_WINDOW)) (F_b900_core : Fld Z h0 b900 "com/example/kick/kick/value/PoolSpec" "core" "I" (.int x2)) (F_b900_keepAlive : Fld Z h0 b900 "com/example/kick/kick/value/PoolSpec" "keepAlive" "Ljava/time/Duration;" (.ref w_DEFAULT_KEEP_ALIVE)) (F_b900_max : Fld Z h0 b900 "com/example/kick/kick/value/PoolSpec" "max" "I" (.int x3)) (F_b900_overflow : Fld Z h0 b900 "com/example/kick/kick/value/PoolSpec" "overflow" "Lcom/example/kick/kick/value/Overflow;" (.ref w_CALLER_RUNS)) (F_b900_queue : Fld Z h0 b900 "com/example/kick/kick/value/PoolSpec" "queue" "I" (.int x4)) (k0 : ¬ ((1 : Int32) < x2)) (k1 : ¬ (x2 < (0 : Int32))) (k2 : ¬ (x3 < (1 : Int32))) (k3 : ¬ (x3 < x2)) (k4 : ¬ (x4 < (0 : Int32))) : zCon l Z (⟨"com/example/kick/kick/value/PoolSpec", "max", "()I"⟩ : MethodName) prog_13_method_7_code 1 (some .int) ws ({ frames := 0, cells := 0, slots := 0, locals := 0 } : Room) #[(.ref b900)] h0 (zSame (some (.int x3)) h0) := by
  obtain ⟨S_w_CALLER_RUNS, S_w_DEFAULT_KEEP_ALIVE, S_w_DEFAULT_CLOSE_WINDOW, E_w_CALLER_RUNS, E_w_DEFAULT_KEEP_ALIVE, E_w_DEFAULT_CLOSE_WINDOW⟩ := C
  refine zenter (plainFor_of_name pn_0) (L0 := #[rv b900]) (fun m => by first | rfl | simp [entryFrame, mkF, argsToLocals, Value.category, maxLocals]) ?_
  intro p e s m below meth c T0 hx hZ hby hml hown0 hnm hret hlk X0 e0
  have hown : s.vm.findClass "com/example/kick/kick/value/PoolSpec" = some m.cls := hown0
  have K0 := Keep.refl h0 []
  have N0 := Fr.nil n0
  show zEnds p e below s T0 (mkF m 0 #[rv b900] []) _ _ _
  refine zaloadN X0 hx hby d_prog_13_method_7_0 rfl rfl (zgetfld X0 hx hby d_prog_13_method_7_1 hZ hown (host := "") (Or.inl (w27 hw)) Via.refl e0 F_b900_max fun T1 X1 e1 => ?_)
  show zEnds p e below s T1 (mkF m 4 #[rv b900] [(.int x3)]) _ _ _
  exact zretI X1 hx hby d_prog_13_method_7_4 hret hlk (by decide) (by decide) ⟨rfl, e1, rfl⟩
set_option maxRecDepth 65536 in
set_option maxHeartbeats 40000000 in
theorem c27_queue (l : Launch) {Z : State} {a0 : Array Value} (hw : ∀ d ∈ tables_1, d.before a0 Z = true) (ws : List Jvm.Cond) {w_CALLER_RUNS w_DEFAULT_KEEP_ALIVE w_DEFAULT_CLOSE_WINDOW : Addr} {n0 : Nat} {h0 : Heap} (C : Ctx Z w_CALLER_RUNS w_DEFAULT_KEEP_ALIVE w_DEFAULT_CLOSE_WINDOW) (O0 : Old Z n0 h0) (Z0 : n0 ≤ h0.size) (b900 : Addr) (x2 : Int32) (x3 : Int32) (x4 : Int32) (g_b900 : n0 ≤ b900) (E_b900 : Exa Z h0 b900 "com/example/kick/kick/value/PoolSpec") (F_b900_closeWindow : Fld Z h0 b900 "com/example/kick/kick/value/PoolSpec" "closeWindow" "Ljava/time/Duration;" (.ref w_DEFAULT_CLOSE_WINDOW)) (F_b900_core : Fld Z h0 b900 "com/example/kick/kick/value/PoolSpec" "core" "I" (.int x2)) (F_b900_keepAlive : Fld Z h0 b900 "com/example/kick/kick/value/PoolSpec" "keepAlive" "Ljava/time/Duration;" (.ref w_DEFAULT_KEEP_ALIVE)) (F_b900_max : Fld Z h0 b900 "com/example/kick/kick/value/PoolSpec" "max" "I" (.int x3)) (F_b900_overflow : Fld Z h0 b900 "com/example/kick/kick/value/PoolSpec" "overflow" "Lcom/example/kick/kick/value/Overflow;" (.ref w_CALLER_RUNS)) (F_b900_queue : Fld Z h0 b900 "com/example/kick/kick/value/PoolSpec" "queue" "I" (.int x4)) (k0 : ¬ ((1 : Int32) < x2)) (k1 : ¬ (x2 < (0 : Int32))) (k2 : ¬ (x3 < (1 : Int32))) (k3 : ¬ (x3 < x2)) (k4 : ¬ (x4 < (0 : Int32))) : zCon l Z (⟨"com/example/kick/kick/value/PoolSpec", "queue", "()I"⟩ : MethodName) prog_13_method_8_code 1 (some .int) ws ({ frames := 0, cells := 0, slots := 0, locals := 0 } : Room) #[(.ref b900)] h0 (zSame (some (.int x4)) h0) := by
  obtain ⟨S_w_CALLER_RUNS, S_w_DEFAULT_KEEP_ALIVE, S_w_DEFAULT_CLOSE_WINDOW, E_w_CALLER_RUNS, E_w_DEFAULT_KEEP_ALIVE, E_w_DEFAULT_CLOSE_WINDOW⟩ := C
  refine zenter (plainFor_of_name pn_0) (L0 := #[rv b900]) (fun m => by first | rfl | simp [entryFrame, mkF, argsToLocals, Value.category, maxLocals]) ?_
  intro p e s m below meth c T0 hx hZ hby hml hown0 hnm hret hlk X0 e0
  have hown : s.vm.findClass "com/example/kick/kick/value/PoolSpec" = some m.cls := hown0
  have K0 := Keep.refl h0 []
  have N0 := Fr.nil n0
  show zEnds p e below s T0 (mkF m 0 #[rv b900] []) _ _ _
  refine zaloadN X0 hx hby d_prog_13_method_8_0 rfl rfl (zgetfld X0 hx hby d_prog_13_method_8_1 hZ hown (host := "") (Or.inl (w29 hw)) Via.refl e0 F_b900_queue fun T1 X1 e1 => ?_)
  show zEnds p e below s T1 (mkF m 4 #[rv b900] [(.int x4)]) _ _ _
  exact zretI X1 hx hby d_prog_13_method_8_4 hret hlk (by decide) (by decide) ⟨rfl, e1, rfl⟩
set_option maxRecDepth 65536 in
set_option maxHeartbeats 40000000 in
theorem c29_overflow (l : Launch) {Z : State} {a0 : Array Value} (hw : ∀ d ∈ tables_1, d.before a0 Z = true) (ws : List Jvm.Cond) {w_CALLER_RUNS w_DEFAULT_KEEP_ALIVE w_DEFAULT_CLOSE_WINDOW : Addr} {n0 : Nat} {h0 : Heap} (C : Ctx Z w_CALLER_RUNS w_DEFAULT_KEEP_ALIVE w_DEFAULT_CLOSE_WINDOW) (O0 : Old Z n0 h0) (Z0 : n0 ≤ h0.size) (b900 : Addr) (x2 : Int32) (x3 : Int32) (x4 : Int32) (g_b900 : n0 ≤ b900) (E_b900 : Exa Z h0 b900 "com/example/kick/kick/value/PoolSpec") (F_b900_closeWindow : Fld Z h0 b900 "com/example/kick/kick/value/PoolSpec" "closeWindow" "Ljava/time/Duration;" (.ref w_DEFAULT_CLOSE_WINDOW)) (F_b900_core : Fld Z h0 b900 "com/example/kick/kick/value/PoolSpec" "core" "I" (.int x2)) (F_b900_keepAlive : Fld Z h0 b900 "com/example/kick/kick/value/PoolSpec" "keepAlive" "Ljava/time/Duration;" (.ref w_DEFAULT_KEEP_ALIVE)) (F_b900_max : Fld Z h0 b900 "com/example/kick/kick/value/PoolSpec" "max" "I" (.int x3)) (F_b900_overflow : Fld Z h0 b900 "com/example/kick/kick/value/PoolSpec" "overflow" "Lcom/example/kick/kick/value/Overflow;" (.ref w_CALLER_RUNS)) (F_b900_queue : Fld Z h0 b900 "com/example/kick/kick/value/PoolSpec" "queue" "I" (.int x4)) (k0 : ¬ ((1 : Int32) < x2)) (k1 : ¬ (x2 < (0 : Int32))) (k2 : ¬ (x3 < (1 : Int32))) (k3 : ¬ (x3 < x2)) (k4 : ¬ (x4 < (0 : Int32))) : zCon l Z (⟨"com/example/kick/kick/value/PoolSpec", "overflow", "()Lcom/example/kick/kick/value/Overflow;"⟩ : MethodName) prog_13_method_9_code 1 (some (.object "com/example/kick/kick/value/Overflow")) ws ({ frames := 0, cells := 0, slots := 0, locals := 0 } : Room) #[(.ref b900)] h0 (zSame (some (.ref w_CALLER_RUNS)) h0) := by
  obtain ⟨S_w_CALLER_RUNS, S_w_DEFAULT_KEEP_ALIVE, S_w_DEFAULT_CLOSE_WINDOW, E_w_CALLER_RUNS, E_w_DEFAULT_KEEP_ALIVE, E_w_DEFAULT_CLOSE_WINDOW⟩ := C
  refine zenter (plainFor_of_name pn_0) (L0 := #[rv b900]) (fun m => by first | rfl | simp [entryFrame, mkF, argsToLocals, Value.category, maxLocals]) ?_
  intro p e s m below meth c T0 hx hZ hby hml hown0 hnm hret hlk X0 e0
  have hown : s.vm.findClass "com/example/kick/kick/value/PoolSpec" = some m.cls := hown0
  have K0 := Keep.refl h0 []
  have N0 := Fr.nil n0
  show zEnds p e below s T0 (mkF m 0 #[rv b900] []) _ _ _
  refine zaloadN X0 hx hby d_prog_13_method_9_0 rfl rfl (zgetfld X0 hx hby d_prog_13_method_9_1 hZ hown (host := "") (Or.inl (w31 hw)) Via.refl e0 F_b900_overflow fun T1 X1 e1 => ?_)
  show zEnds p e below s T1 (mkF m 4 #[rv b900] [(.ref w_CALLER_RUNS)]) _ _ _
  exact zretA X1 hx hby d_prog_13_method_9_4 hret hlk rfl rfl rfl (by decide) (by decide) ⟨rfl, e1, rfl⟩
set_option maxRecDepth 65536 in
set_option maxHeartbeats 40000000 in
theorem c31_keepAlive (l : Launch) {Z : State} {a0 : Array Value} (hw : ∀ d ∈ tables_1, d.before a0 Z = true) (ws : List Jvm.Cond) {w_CALLER_RUNS w_DEFAULT_KEEP_ALIVE w_DEFAULT_CLOSE_WINDOW : Addr} {n0 : Nat} {h0 : Heap} (C : Ctx Z w_CALLER_RUNS w_DEFAULT_KEEP_ALIVE w_DEFAULT_CLOSE_WINDOW) (O0 : Old Z n0 h0) (Z0 : n0 ≤ h0.size) (b900 : Addr) (x2 : Int32) (x3 : Int32) (x4 : Int32) (g_b900 : n0 ≤ b900) (E_b900 : Exa Z h0 b900 "com/example/kick/kick/value/PoolSpec") (F_b900_closeWindow : Fld Z h0 b900 "com/example/kick/kick/value/PoolSpec" "closeWindow" "Ljava/time/Duration;" (.ref w_DEFAULT_CLOSE_WINDOW)) (F_b900_core : Fld Z h0 b900 "com/example/kick/kick/value/PoolSpec" "core" "I" (.int x2)) (F_b900_keepAlive : Fld Z h0 b900 "com/example/kick/kick/value/PoolSpec" "keepAlive" "Ljava/time/Duration;" (.ref w_DEFAULT_KEEP_ALIVE)) (F_b900_max : Fld Z h0 b900 "com/example/kick/kick/value/PoolSpec" "max" "I" (.int x3)) (F_b900_overflow : Fld Z h0 b900 "com/example/kick/kick/value/PoolSpec" "overflow" "Lcom/example/kick/kick/value/Overflow;" (.ref w_CALLER_RUNS)) (F_b900_queue : Fld Z h0 b900 "com/example/kick/kick/value/PoolSpec" "queue" "I" (.int x4)) (k0 : ¬ ((1 : Int32) < x2)) (k1 : ¬ (x2 < (0 : Int32))) (k2 : ¬ (x3 < (1 : Int32))) (k3 : ¬ (x3 < x2)) (k4 : ¬ (x4 < (0 : Int32))) : zCon l Z (⟨"com/example/kick/kick/value/PoolSpec", "keepAlive", "()Ljava/time/Duration;"⟩ : MethodName) prog_13_method_10_code 1 (some (.object "java/time/Duration")) ws ({ frames := 0, cells := 0, slots := 0, locals := 0 } : Room) #[(.ref b900)] h0 (zSame (some (.ref w_DEFAULT_KEEP_ALIVE)) h0) := by
  obtain ⟨S_w_CALLER_RUNS, S_w_DEFAULT_KEEP_ALIVE, S_w_DEFAULT_CLOSE_WINDOW, E_w_CALLER_RUNS, E_w_DEFAULT_KEEP_ALIVE, E_w_DEFAULT_CLOSE_WINDOW⟩ := C
  refine zenter (plainFor_of_name pn_0) (L0 := #[rv b900]) (fun m => by first | rfl | simp [entryFrame, mkF, argsToLocals, Value.category, maxLocals]) ?_
  intro p e s m below meth c T0 hx hZ hby hml hown0 hnm hret hlk X0 e0
  have hown : s.vm.findClass "com/example/kick/kick/value/PoolSpec" = some m.cls := hown0
  have K0 := Keep.refl h0 []
  have N0 := Fr.nil n0
  show zEnds p e below s T0 (mkF m 0 #[rv b900] []) _ _ _
  refine zaloadN X0 hx hby d_prog_13_method_10_0 rfl rfl (zgetfld X0 hx hby d_prog_13_method_10_1 hZ hown (host := "") (Or.inl (w33 hw)) Via.refl e0 F_b900_keepAlive fun T1 X1 e1 => ?_)
  show zEnds p e below s T1 (mkF m 4 #[rv b900] [(.ref w_DEFAULT_KEEP_ALIVE)]) _ _ _
  exact zretA X1 hx hby d_prog_13_method_10_4 hret hlk rfl rfl rfl (by decide) (by decide) ⟨rfl, e1, rfl⟩
set_option maxRecDepth 65536 in
set_option maxHeartbeats 40000000 in
theorem c33_closeWindow (l : Launch) {Z : State} {a0 : Array Value} (hw : ∀ d ∈ tables_1, d.before a0 Z = true) (ws : List Jvm.Cond) {w_CALLER_RUNS w_DEFAULT_KEEP_ALIVE w_DEFAULT_CLOSE_WINDOW : Addr} {n0 : Nat} {h0 : Heap} (C : Ctx Z w_CALLER_RUNS w_DEFAULT_KEEP_ALIVE w_DEFAULT_CLOSE_WINDOW) (O0 : Old Z n0 h0) (Z0 : n0 ≤ h0.size) (b900 : Addr) (x2 : Int32) (x3 : Int32) (x4 : Int32) (g_b900 : n0 ≤ b900) (E_b900 : Exa Z h0 b900 "com/example/kick/kick/value/PoolSpec") (F_b900_closeWindow : Fld Z h0 b900 "com/example/kick/kick/value/PoolSpec" "closeWindow" "Ljava/time/Duration;" (.ref w_DEFAULT_CLOSE_WINDOW)) (F_b900_core : Fld Z h0 b900 "com/example/kick/kick/value/PoolSpec" "core" "I" (.int x2)) (F_b900_keepAlive : Fld Z h0 b900 "com/example/kick/kick/value/PoolSpec" "keepAlive" "Ljava/time/Duration;" (.ref w_DEFAULT_KEEP_ALIVE)) (F_b900_max : Fld Z h0 b900 "com/example/kick/kick/value/PoolSpec" "max" "I" (.int x3)) (F_b900_overflow : Fld Z h0 b900 "com/example/kick/kick/value/PoolSpec" "overflow" "Lcom/example/kick/kick/value/Overflow;" (.ref w_CALLER_RUNS)) (F_b900_queue : Fld Z h0 b900 "com/example/kick/kick/value/PoolSpec" "queue" "I" (.int x4)) (k0 : ¬ ((1 : Int32) < x2)) (k1 : ¬ (x2 < (0 : Int32))) (k2 : ¬ (x3 < (1 : Int32))) (k3 : ¬ (x3 < x2)) (k4 : ¬ (x4 < (0 : Int32))) : zCon l Z (⟨"com/example/kick/kick/value/PoolSpec", "closeWindow", "()Ljava/time/Duration;"⟩ : MethodName) prog_13_method_11_code 1 (some (.object "java/time/Duration")) ws ({ frames := 0, cells := 0, slots := 0, locals := 0 } : Room) #[(.ref b900)] h0 (zSame (some (.ref w_DEFAULT_CLOSE_WINDOW)) h0) := by
  obtain ⟨S_w_CALLER_RUNS, S_w_DEFAULT_KEEP_ALIVE, S_w_DEFAULT_CLOSE_WINDOW, E_w_CALLER_RUNS, E_w_DEFAULT_KEEP_ALIVE, E_w_DEFAULT_CLOSE_WINDOW⟩ := C
  refine zenter (plainFor_of_name pn_0) (L0 := #[rv b900]) (fun m => by first | rfl | simp [entryFrame, mkF, argsToLocals, Value.category, maxLocals]) ?_
  intro p e s m below meth c T0 hx hZ hby hml hown0 hnm hret hlk X0 e0
  have hown : s.vm.findClass "com/example/kick/kick/value/PoolSpec" = some m.cls := hown0
  have K0 := Keep.refl h0 []
  have N0 := Fr.nil n0
  show zEnds p e below s T0 (mkF m 0 #[rv b900] []) _ _ _
  refine zaloadN X0 hx hby d_prog_13_method_11_0 rfl rfl (zgetfld X0 hx hby d_prog_13_method_11_1 hZ hown (host := "") (Or.inl (w35 hw)) Via.refl e0 F_b900_closeWindow fun T1 X1 e1 => ?_)
  show zEnds p e below s T1 (mkF m 4 #[rv b900] [(.ref w_DEFAULT_CLOSE_WINDOW)]) _ _ _
  exact zretA X1 hx hby d_prog_13_method_11_4 hret hlk rfl rfl rfl (by decide) (by decide) ⟨rfl, e1, rfl⟩
set_option maxRecDepth 65536 in
set_option maxHeartbeats 40000000 in
theorem rm0 (l : Launch) {Z : State} {a0 : Array Value} (hw : ∀ d ∈ tables_1, d.before a0 Z = true) (ws : List Jvm.Cond) {w_CALLER_RUNS w_DEFAULT_KEEP_ALIVE w_DEFAULT_CLOSE_WINDOW : Addr} {n0 : Nat} {h0 : Heap} (C : Ctx Z w_CALLER_RUNS w_DEFAULT_KEEP_ALIVE w_DEFAULT_CLOSE_WINDOW) (O0 : Old Z n0 h0) (Z0 : n0 ≤ h0.size) (p1 : Int32) (p2 : Int32) (p3 : Int32) : zCon l Z x code maxLocals ret ws room_1 #[(.int p1), (.int p2), (.int p3)] h0 (fun v h L => v = some (.int (1 : Int32)) ∧ Fr n0 L) := by
  obtain ⟨S_w_CALLER_RUNS, S_w_DEFAULT_KEEP_ALIVE, S_w_DEFAULT_CLOSE_WINDOW, E_w_CALLER_RUNS, E_w_DEFAULT_KEEP_ALIVE, E_w_DEFAULT_CLOSE_WINDOW⟩ := C
  refine zenter (plainFor_of_name pn_1) (L0 := #[iv p1, iv p2, iv p3, .unset, .unset, .unset, .unset, .unset, .unset, .unset, .unset, .unset]) (fun m => by first | rfl | simp [entryFrame, mkF, argsToLocals, Value.category, maxLocals]) ?_
  intro p e s m below meth c T0 hx hZ hby hml hown0 hnm hret hlk X0 e0
  have hown : s.vm.findClass "com/example/kick/kick/value/PoolSpecBoundedPinLaw" = some m.cls := hown0
  have K0 := Keep.refl h0 []
  have N0 := Fr.nil n0
  show zEnds p e below s T0 (mkF m 0 #[iv p1, iv p2, iv p3, .unset, .unset, .unset, .unset, .unset, .unset, .unset, .unset, .unset] []) _ _ _
  refine ziloadN X0 hx hby at_0 rfl (zldcI X0 hx hby at_1 (2147483647 : Int32) hZ hown (w0 hw) (ziand X0 hx hby at_3 (p1 &&& (2147483647 : Int32)) rfl (zistoreN X0 hx hby at_4 (L' := #[iv p1, iv p2, iv p3, iv (p1 &&& (2147483647 : Int32)), .unset, .unset, .unset, .unset, .unset, .unset, .unset, .unset]) rfl (ziconst X0 hx hby at_5 (z := (1 : Int32)) rfl (ziloadN X0 hx hby at_6 rfl ?_)))))
  show zEnds p e below s T0 (mkF m 7 #[iv p1, iv p2, iv p3, iv (p1 &&& (2147483647 : Int32)), .unset, .unset, .unset, .unset, .unset, .unset, .unset, .unset] [(.int (p1 &&& (2147483647 : Int32))), (.int 1)]) _ _ _
  by_cases hb : (1 : Int32) < (p1 &&& (2147483647 : Int32))
  · show zEnds p e below s T0 (mkF m 7 #[iv p1, iv p2, iv p3, iv (p1 &&& (2147483647 : Int32)), .unset, .unset, .unset, .unset, .unset, .unset, .unset, .unset] [(.int (p1 &&& (2147483647 : Int32))), (.int 1)]) _ _ _
    refine zcalls X0 hx hby at_7 hZ hown (w1 hw) (w2 hw) (w3 hw) (w4 hw) e0 (c1_max l hw [] ⟨S_w_CALLER_RUNS, S_w_DEFAULT_KEEP_ALIVE, S_w_DEFAULT_CLOSE_WINDOW, E_w_CALLER_RUNS, E_w_DEFAULT_KEEP_ALIVE, E_w_DEFAULT_CLOSE_WINDOW⟩ O0 (Nat.le_trans Z0 K0.1) (p1 &&& (2147483647 : Int32)) hb) (by decide) (by rw [hml]; rfl) 0 (Nat.le_of_eq rfl) (by decide) (by decide) (by decide) (by decide) pd_0 rfl (argsL := [(.int 1), (.int (p1 &&& (2147483647 : Int32)))]) (st := []) rfl (zpureK ⟨rfl, rfl⟩ fun T1 X1 e1 => ?_)
    show zEnds p e below s T1 (mkF m 10 #[iv p1, iv p2, iv p3, iv (p1 &&& (2147483647 : Int32)), .unset, .unset, .unset, .unset, .unset, .unset, .unset, .unset] [(.int (p1 &&& (2147483647 : Int32)))]) _ _ _
    refine zistore X1 hx hby at_10 (L' := #[iv p1, iv p2, iv p3, iv (p1 &&& (2147483647 : Int32)), iv (p1 &&& (2147483647 : Int32)), .unset, .unset, .unset, .unset, .unset, .unset, .unset]) rfl (zldc2J X1 hx hby at_12 (2147483647 : Int64) hZ hown (w5 hw) (ziload X1 hx hby at_15 rfl (zi2l X1 hx hby at_17 ((p1 &&& (2147483647 : Int32)).toInt64) rfl (zlsub X1 hx hby at_18 ((2147483647 : Int64) - ((p1 &&& (2147483647 : Int32)).toInt64)) rfl (zlstore X1 hx hby at_19 (L' := #[iv p1, iv p2, iv p3, iv (p1 &&& (2147483647 : Int32)), iv (p1 &&& (2147483647 : Int32)), .val (.long ((2147483647 : Int64) - ((p1 &&& (2147483647 : Int32)).toInt64))), .second, .unset, .unset, .unset, .unset, .unset]) rfl (ziloadN X1 hx hby at_21 rfl (zi2l X1 hx hby at_22 (p2.toInt64) rfl (zldc2J X1 hx hby at_23 (2147483647 : Int64) hZ hown (w5 hw) (zland X1 hx hby at_26 ((p2.toInt64) &&& (2147483647 : Int64)) rfl ?_)))))))))
    show zEnds p e below s T1 (mkF m 27 #[iv p1, iv p2, iv p3, iv (p1 &&& (2147483647 : Int32)), iv (p1 &&& (2147483647 : Int32)), .val (.long ((2147483647 : Int64) - ((p1 &&& (2147483647 : Int32)).toInt64))), .second, .unset, .unset, .unset, .unset, .unset] [(.long ((p2.toInt64) &&& (2147483647 : Int64)))]) _ _ _
    refine zlload X1 hx hby at_27 rfl (zlconst X1 hx hby at_29 (z := (1 : Int64)) rfl (zladd X1 hx hby at_30 (((2147483647 : Int64) - ((p1 &&& (2147483647 : Int32)).toInt64)) + (1 : Int64)) rfl ?_))
    show zEnds p e below s T1 (mkF m 31 #[iv p1, iv p2, iv p3, iv (p1 &&& (2147483647 : Int32)), iv (p1 &&& (2147483647 : Int32)), .val (.long ((2147483647 : Int64) - ((p1 &&& (2147483647 : Int32)).toInt64))), .second, .unset, .unset, .unset, .unset, .unset] [(.long (((2147483647 : Int64) - ((p1 &&& (2147483647 : Int32)).toInt64)) + (1 : Int64))), (.long ((p2.toInt64) &&& (2147483647 : Int64)))]) _ _ _
    have nz : (((2147483647 : Int64) - ((p1 &&& (2147483647 : Int32)).toInt64)) + (1 : Int64)) ≠ 0 := own_nz _ (own_lo1 hb)
    refine zlrem X1 hx hby at_31 (((p2.toInt64) &&& (2147483647 : Int64)) % (((2147483647 : Int64) - ((p1 &&& (2147483647 : Int32)).toInt64)) + (1 : Int64))) nz rfl (zlstore X1 hx hby at_32 (L' := #[iv p1, iv p2, iv p3, iv (p1 &&& (2147483647 : Int32)), iv (p1 &&& (2147483647 : Int32)), .val (.long ((2147483647 : Int64) - ((p1 &&& (2147483647 : Int32)).toInt64))), .second, .val (.long (((p2.toInt64) &&& (2147483647 : Int64)) % (((2147483647 : Int64) - ((p1 &&& (2147483647 : Int32)).toInt64)) + (1 : Int64)))), .second, .unset, .unset, .unset]) rfl (ziload X1 hx hby at_34 rfl (zi2l X1 hx hby at_36 ((p1 &&& (2147483647 : Int32)).toInt64) rfl (zlload X1 hx hby at_37 rfl (zladd X1 hx hby at_39 (((p1 &&& (2147483647 : Int32)).toInt64) + (((p2.toInt64) &&& (2147483647 : Int64)) % (((2147483647 : Int64) - ((p1 &&& (2147483647 : Int32)).toInt64)) + (1 : Int64)))) rfl (zl2i X1 hx hby at_40 ((((p1 &&& (2147483647 : Int32)).toInt64) + (((p2.toInt64) &&& (2147483647 : Int64)) % (((2147483647 : Int64) - ((p1 &&& (2147483647 : Int32)).toInt64)) + (1 : Int64)))).toInt32) rfl (zistore X1 hx hby at_41 (L' := #[iv p1, iv p2, iv p3, iv (p1 &&& (2147483647 : Int32)), iv (p1 &&& (2147483647 : Int32)), .val (.long ((2147483647 : Int64) - ((p1 &&& (2147483647 : Int32)).toInt64))), .second, .val (.long (((p2.toInt64) &&& (2147483647 : Int64)) % (((2147483647 : Int64) - ((p1 &&& (2147483647 : Int32)).toInt64)) + (1 : Int64)))), .second, iv ((((p1 &&& (2147483647 : Int32)).toInt64) + (((p2.toInt64) &&& (2147483647 : Int64)) % (((2147483647 : Int64) - ((p1 &&& (2147483647 : Int32)).toInt64)) + (1 : Int64)))).toInt32), .unset, .unset]) rfl (ziloadN X1 hx hby at_43 rfl (zldcI X1 hx hby at_44 (2147483647 : Int32) hZ hown (w0 hw) ?_)))))))))
    show zEnds p e below s T1 (mkF m 46 #[iv p1, iv p2, iv p3, iv (p1 &&& (2147483647 : Int32)), iv (p1 &&& (2147483647 : Int32)), .val (.long ((2147483647 : Int64) - ((p1 &&& (2147483647 : Int32)).toInt64))), .second, .val (.long (((p2.toInt64) &&& (2147483647 : Int64)) % (((2147483647 : Int64) - ((p1 &&& (2147483647 : Int32)).toInt64)) + (1 : Int64)))), .second, iv ((((p1 &&& (2147483647 : Int32)).toInt64) + (((p2.toInt64) &&& (2147483647 : Int64)) % (((2147483647 : Int64) - ((p1 &&& (2147483647 : Int32)).toInt64)) + (1 : Int64)))).toInt32), .unset, .unset] [(.int 2147483647), (.int p3)]) _ _ _
    refine ziand X1 hx hby at_46 (p3 &&& (2147483647 : Int32)) rfl (zistore X1 hx hby at_47 (L' := #[iv p1, iv p2, iv p3, iv (p1 &&& (2147483647 : Int32)), iv (p1 &&& (2147483647 : Int32)), .val (.long ((2147483647 : Int64) - ((p1 &&& (2147483647 : Int32)).toInt64))), .second, .val (.long (((p2.toInt64) &&& (2147483647 : Int64)) % (((2147483647 : Int64) - ((p1 &&& (2147483647 : Int32)).toInt64)) + (1 : Int64)))), .second, iv ((((p1 &&& (2147483647 : Int32)).toInt64) + (((p2.toInt64) &&& (2147483647 : Int64)) % (((2147483647 : Int64) - ((p1 &&& (2147483647 : Int32)).toInt64)) + (1 : Int64)))).toInt32), iv (p3 &&& (2147483647 : Int32)), .unset]) rfl (ziloadN X1 hx hby at_49 rfl (ziload X1 hx hby at_50 rfl (ziload X1 hx hby at_52 rfl ?_))))
    show zEnds p e below s T1 (mkF m 54 #[iv p1, iv p2, iv p3, iv (p1 &&& (2147483647 : Int32)), iv (p1 &&& (2147483647 : Int32)), .val (.long ((2147483647 : Int64) - ((p1 &&& (2147483647 : Int32)).toInt64))), .second, .val (.long (((p2.toInt64) &&& (2147483647 : Int64)) % (((2147483647 : Int64) - ((p1 &&& (2147483647 : Int32)).toInt64)) + (1 : Int64)))), .second, iv ((((p1 &&& (2147483647 : Int32)).toInt64) + (((p2.toInt64) &&& (2147483647 : Int64)) % (((2147483647 : Int64) - ((p1 &&& (2147483647 : Int32)).toInt64)) + (1 : Int64)))).toInt32), iv (p3 &&& (2147483647 : Int32)), .unset] [(.int (p3 &&& (2147483647 : Int32))), (.int ((((p1 &&& (2147483647 : Int32)).toInt64) + (((p2.toInt64) &&& (2147483647 : Int64)) % (((2147483647 : Int64) - ((p1 &&& (2147483647 : Int32)).toInt64)) + (1 : Int64)))).toInt32)), (.int (p1 &&& (2147483647 : Int32)))]) _ _ _
    have kx := own_mx (p1 &&& (2147483647 : Int32)).toInt64 ((2147483647 : Int64) - (p1 &&& (2147483647 : Int32)).toInt64 + (1 : Int64)) p2 (own_lo1 hb) (own_lo2 _) (own_span _ (own_lo1 hb))
    have k1 : ¬ ((p1 &&& (2147483647 : Int32)) < (0 : Int32)) := own_nn p1
    have k2 : ¬ (((((p1 &&& (2147483647 : Int32)).toInt64) + (((p2.toInt64) &&& (2147483647 : Int64)) % (((2147483647 : Int64) - ((p1 &&& (2147483647 : Int32)).toInt64)) + (1 : Int64)))).toInt32) < (1 : Int32)) := own_ge1 (own_lo1 hb) kx
    have k3 : ¬ (((((p1 &&& (2147483647 : Int32)).toInt64) + (((p2.toInt64) &&& (2147483647 : Int64)) % (((2147483647 : Int64) - ((p1 &&& (2147483647 : Int32)).toInt64)) + (1 : Int64)))).toInt32) < (p1 &&& (2147483647 : Int32))) := own_geA kx
    have k4 : ¬ ((p3 &&& (2147483647 : Int32)) < (0 : Int32)) := own_nn p3
    refine zcalls X1 hx hby at_54 hZ hown (w6 hw) (w7 hw) (w8 hw) (w9 hw) e1 (c3_bounded l hw [] ⟨S_w_CALLER_RUNS, S_w_DEFAULT_KEEP_ALIVE, S_w_DEFAULT_CLOSE_WINDOW, E_w_CALLER_RUNS, E_w_DEFAULT_KEEP_ALIVE, E_w_DEFAULT_CLOSE_WINDOW⟩ O0 (Nat.le_trans Z0 K0.1) (p1 &&& (2147483647 : Int32)) ((((p1 &&& (2147483647 : Int32)).toInt64) + (((p2.toInt64) &&& (2147483647 : Int64)) % (((2147483647 : Int64) - ((p1 &&& (2147483647 : Int32)).toInt64)) + (1 : Int64)))).toInt32) (p3 &&& (2147483647 : Int32)) hb k1 k2 k3 k4) (by decide) (by rw [hml]; rfl) 0 (Nat.le_of_eq rfl) (by decide) (by decide) (by decide) (by decide) pd_2 rfl (argsL := [(.int (p1 &&& (2147483647 : Int32))), (.int ((((p1 &&& (2147483647 : Int32)).toInt64) + (((p2.toInt64) &&& (2147483647 : Int64)) % (((2147483647 : Int64) - ((p1 &&& (2147483647 : Int32)).toInt64)) + (1 : Int64)))).toInt32)), (.int (p3 &&& (2147483647 : Int32)))]) (st := []) rfl fun T2 h2 v2 L2 e2 X2 q2 => ?_
    obtain ⟨b2_b1, rfl, N2q, K2q, g2_b2_b1, y2_b2_b1, E2_b2_b1, F2_b2_b1_closeWindow, F2_b2_b1_core, F2_b2_b1_keepAlive, F2_b2_b1_max, F2_b2_b1_overflow, F2_b2_b1_queue⟩ := q2
    have O2 := O0.keep K2q all0
    have K2 := Keep.trans K0 K2q all0
    have z2_b2_b1 : h0.size ≤ b2_b1 := Nat.le_trans K0.1 y2_b2_b1
    have N2 := Fr.app N0 N2q
    show zEnds p e below s T2 (mkF m 57 #[iv p1, iv p2, iv p3, iv (p1 &&& (2147483647 : Int32)), iv (p1 &&& (2147483647 : Int32)), .val (.long ((2147483647 : Int64) - ((p1 &&& (2147483647 : Int32)).toInt64))), .second, .val (.long (((p2.toInt64) &&& (2147483647 : Int64)) % (((2147483647 : Int64) - ((p1 &&& (2147483647 : Int32)).toInt64)) + (1 : Int64)))), .second, iv ((((p1 &&& (2147483647 : Int32)).toInt64) + (((p2.toInt64) &&& (2147483647 : Int64)) % (((2147483647 : Int64) - ((p1 &&& (2147483647 : Int32)).toInt64)) + (1 : Int64)))).toInt32), iv (p3 &&& (2147483647 : Int32)), .unset] [(.ref b2_b1)]) _ _ _
    refine zastore X2 hx hby at_57 (hv := rfl) (L' := #[iv p1, iv p2, iv p3, iv (p1 &&& (2147483647 : Int32)), iv (p1 &&& (2147483647 : Int32)), .val (.long ((2147483647 : Int64) - ((p1 &&& (2147483647 : Int32)).toInt64))), .second, .val (.long (((p2.toInt64) &&& (2147483647 : Int64)) % (((2147483647 : Int64) - ((p1 &&& (2147483647 : Int32)).toInt64)) + (1 : Int64)))), .second, iv ((((p1 &&& (2147483647 : Int32)).toInt64) + (((p2.toInt64) &&& (2147483647 : Int64)) % (((2147483647 : Int64) - ((p1 &&& (2147483647 : Int32)).toInt64)) + (1 : Int64)))).toInt32), iv (p3 &&& (2147483647 : Int32)), rv b2_b1]) rfl (zaload X2 hx hby at_59 rfl rfl (zifnonnullYes X2 hx hby at_61 66 (by decide) (by decide) (zaload X2 hx hby at_66 rfl rfl (zcallv X2 hx hby at_68 hZ hown (w37 hw) (w38 hw) (notFace_of_selects (args := #[]) (mvT hZ (w40 hw))) (w40 hw) (w39 hw) (w41 hw) (w8 hw) e2 E2_b2_b1 (c7_core l hw [] ⟨S_w_CALLER_RUNS, S_w_DEFAULT_KEEP_ALIVE, S_w_DEFAULT_CLOSE_WINDOW, E_w_CALLER_RUNS, E_w_DEFAULT_KEEP_ALIVE, E_w_DEFAULT_CLOSE_WINDOW⟩ O2 (Nat.le_trans Z0 K2.1) b2_b1 (p1 &&& (2147483647 : Int32)) ((((p1 &&& (2147483647 : Int32)).toInt64) + (((p2.toInt64) &&& (2147483647 : Int64)) % (((2147483647 : Int64) - ((p1 &&& (2147483647 : Int32)).toInt64)) + (1 : Int64)))).toInt32) (p3 &&& (2147483647 : Int32)) g2_b2_b1 E2_b2_b1 F2_b2_b1_closeWindow F2_b2_b1_core F2_b2_b1_keepAlive F2_b2_b1_max F2_b2_b1_overflow F2_b2_b1_queue hb k1 k2 k3 k4) (by decide) (by rw [hml]; rfl) 0 (Nat.le_of_eq rfl) (by decide) (by decide) (by decide) (by decide) pd_3 rfl (argsL := []) (st := []) rfl (zpureK ⟨rfl, rfl⟩ fun T3 X3 e3 => ?_)))))
    show zEnds p e below s T3 (mkF m 71 #[iv p1, iv p2, iv p3, iv (p1 &&& (2147483647 : Int32)), iv (p1 &&& (2147483647 : Int32)), .val (.long ((2147483647 : Int64) - ((p1 &&& (2147483647 : Int32)).toInt64))), .second, .val (.long (((p2.toInt64) &&& (2147483647 : Int64)) % (((2147483647 : Int64) - ((p1 &&& (2147483647 : Int32)).toInt64)) + (1 : Int64)))), .second, iv ((((p1 &&& (2147483647 : Int32)).toInt64) + (((p2.toInt64) &&& (2147483647 : Int64)) % (((2147483647 : Int64) - ((p1 &&& (2147483647 : Int32)).toInt64)) + (1 : Int64)))).toInt32), iv (p3 &&& (2147483647 : Int32)), rv b2_b1] [(.int (p1 &&& (2147483647 : Int32)))]) _ _ _
    refine ziloadN X3 hx hby at_71 rfl (zicmpNo X3 hx hby at_72 (teq (rfl : (p1 &&& (2147483647 : Int32)) = (p1 &&& (2147483647 : Int32)))).2 (zaload X3 hx hby at_75 rfl rfl (zcallv X3 hx hby at_77 hZ hown (w42 hw) (w43 hw) (notFace_of_selects (args := #[]) (mvT hZ (w45 hw))) (w45 hw) (w44 hw) (w46 hw) (w8 hw) e3 E2_b2_b1 (c9_max l hw [] ⟨S_w_CALLER_RUNS, S_w_DEFAULT_KEEP_ALIVE, S_w_DEFAULT_CLOSE_WINDOW, E_w_CALLER_RUNS, E_w_DEFAULT_KEEP_ALIVE, E_w_DEFAULT_CLOSE_WINDOW⟩ O2 (Nat.le_trans Z0 K2.1) b2_b1 (p1 &&& (2147483647 : Int32)) ((((p1 &&& (2147483647 : Int32)).toInt64) + (((p2.toInt64) &&& (2147483647 : Int64)) % (((2147483647 : Int64) - ((p1 &&& (2147483647 : Int32)).toInt64)) + (1 : Int64)))).toInt32) (p3 &&& (2147483647 : Int32)) g2_b2_b1 E2_b2_b1 F2_b2_b1_closeWindow F2_b2_b1_core F2_b2_b1_keepAlive F2_b2_b1_max F2_b2_b1_overflow F2_b2_b1_queue hb k1 k2 k3 k4) (by decide) (by rw [hml]; rfl) 0 (Nat.le_of_eq rfl) (by decide) (by decide) (by decide) (by decide) pd_3 rfl (argsL := []) (st := []) rfl (zpureK ⟨rfl, rfl⟩ fun T4 X4 e4 => ?_))))
    show zEnds p e below s T4 (mkF m 80 #[iv p1, iv p2, iv p3, iv (p1 &&& (2147483647 : Int32)), iv (p1 &&& (2147483647 : Int32)), .val (.long ((2147483647 : Int64) - ((p1 &&& (2147483647 : Int32)).toInt64))), .second, .val (.long (((p2.toInt64) &&& (2147483647 : Int64)) % (((2147483647 : Int64) - ((p1 &&& (2147483647 : Int32)).toInt64)) + (1 : Int64)))), .second, iv ((((p1 &&& (2147483647 : Int32)).toInt64) + (((p2.toInt64) &&& (2147483647 : Int64)) % (((2147483647 : Int64) - ((p1 &&& (2147483647 : Int32)).toInt64)) + (1 : Int64)))).toInt32), iv (p3 &&& (2147483647 : Int32)), rv b2_b1] [(.int ((((p1 &&& (2147483647 : Int32)).toInt64) + (((p2.toInt64) &&& (2147483647 : Int64)) % (((2147483647 : Int64) - ((p1 &&& (2147483647 : Int32)).toInt64)) + (1 : Int64)))).toInt32))]) _ _ _
    refine ziload X4 hx hby at_80 rfl (zicmpNo X4 hx hby at_82 (teq (rfl : ((((p1 &&& (2147483647 : Int32)).toInt64) + (((p2.toInt64) &&& (2147483647 : Int64)) % (((2147483647 : Int64) - ((p1 &&& (2147483647 : Int32)).toInt64)) + (1 : Int64)))).toInt32) = ((((p1 &&& (2147483647 : Int32)).toInt64) + (((p2.toInt64) &&& (2147483647 : Int64)) % (((2147483647 : Int64) - ((p1 &&& (2147483647 : Int32)).toInt64)) + (1 : Int64)))).toInt32))).2 (zaload X4 hx hby at_85 rfl rfl (zcallv X4 hx hby at_87 hZ hown (w47 hw) (w48 hw) (notFace_of_selects (args := #[]) (mvT hZ (w50 hw))) (w50 hw) (w49 hw) (w51 hw) (w8 hw) e4 E2_b2_b1 (c11_queue l hw [] ⟨S_w_CALLER_RUNS, S_w_DEFAULT_KEEP_ALIVE, S_w_DEFAULT_CLOSE_WINDOW, E_w_CALLER_RUNS, E_w_DEFAULT_KEEP_ALIVE, E_w_DEFAULT_CLOSE_WINDOW⟩ O2 (Nat.le_trans Z0 K2.1) b2_b1 (p1 &&& (2147483647 : Int32)) ((((p1 &&& (2147483647 : Int32)).toInt64) + (((p2.toInt64) &&& (2147483647 : Int64)) % (((2147483647 : Int64) - ((p1 &&& (2147483647 : Int32)).toInt64)) + (1 : Int64)))).toInt32) (p3 &&& (2147483647 : Int32)) g2_b2_b1 E2_b2_b1 F2_b2_b1_closeWindow F2_b2_b1_core F2_b2_b1_keepAlive F2_b2_b1_max F2_b2_b1_overflow F2_b2_b1_queue hb k1 k2 k3 k4) (by decide) (by rw [hml]; rfl) 0 (Nat.le_of_eq rfl) (by decide) (by decide) (by decide) (by decide) pd_3 rfl (argsL := []) (st := []) rfl (zpureK ⟨rfl, rfl⟩ fun T5 X5 e5 => ?_))))
    show zEnds p e below s T5 (mkF m 90 #[iv p1, iv p2, iv p3, iv (p1 &&& (2147483647 : Int32)), iv (p1 &&& (2147483647 : Int32)), .val (.long ((2147483647 : Int64) - ((p1 &&& (2147483647 : Int32)).toInt64))), .second, .val (.long (((p2.toInt64) &&& (2147483647 : Int64)) % (((2147483647 : Int64) - ((p1 &&& (2147483647 : Int32)).toInt64)) + (1 : Int64)))), .second, iv ((((p1 &&& (2147483647 : Int32)).toInt64) + (((p2.toInt64) &&& (2147483647 : Int64)) % (((2147483647 : Int64) - ((p1 &&& (2147483647 : Int32)).toInt64)) + (1 : Int64)))).toInt32), iv (p3 &&& (2147483647 : Int32)), rv b2_b1] [(.int (p3 &&& (2147483647 : Int32)))]) _ _ _
    refine ziload X5 hx hby at_90 rfl (zicmpNo X5 hx hby at_92 (teq (rfl : (p3 &&& (2147483647 : Int32)) = (p3 &&& (2147483647 : Int32)))).2 (zaload X5 hx hby at_95 rfl rfl (zcallv X5 hx hby at_97 hZ hown (w52 hw) (w53 hw) (notFace_of_selects (args := #[]) (mvT hZ (w55 hw))) (w55 hw) (w54 hw) (w56 hw) (w8 hw) e5 E2_b2_b1 (c13_overflow l hw [] ⟨S_w_CALLER_RUNS, S_w_DEFAULT_KEEP_ALIVE, S_w_DEFAULT_CLOSE_WINDOW, E_w_CALLER_RUNS, E_w_DEFAULT_KEEP_ALIVE, E_w_DEFAULT_CLOSE_WINDOW⟩ O2 (Nat.le_trans Z0 K2.1) b2_b1 (p1 &&& (2147483647 : Int32)) ((((p1 &&& (2147483647 : Int32)).toInt64) + (((p2.toInt64) &&& (2147483647 : Int64)) % (((2147483647 : Int64) - ((p1 &&& (2147483647 : Int32)).toInt64)) + (1 : Int64)))).toInt32) (p3 &&& (2147483647 : Int32)) g2_b2_b1 E2_b2_b1 F2_b2_b1_closeWindow F2_b2_b1_core F2_b2_b1_keepAlive F2_b2_b1_max F2_b2_b1_overflow F2_b2_b1_queue hb k1 k2 k3 k4) (by decide) (by rw [hml]; rfl) 0 (Nat.le_of_eq rfl) (by decide) (by decide) (by decide) (by decide) pd_4 rfl (argsL := []) (st := []) rfl (zpureK ⟨rfl, rfl⟩ fun T6 X6 e6 => ?_))))
    show zEnds p e below s T6 (mkF m 100 #[iv p1, iv p2, iv p3, iv (p1 &&& (2147483647 : Int32)), iv (p1 &&& (2147483647 : Int32)), .val (.long ((2147483647 : Int64) - ((p1 &&& (2147483647 : Int32)).toInt64))), .second, .val (.long (((p2.toInt64) &&& (2147483647 : Int64)) % (((2147483647 : Int64) - ((p1 &&& (2147483647 : Int32)).toInt64)) + (1 : Int64)))), .second, iv ((((p1 &&& (2147483647 : Int32)).toInt64) + (((p2.toInt64) &&& (2147483647 : Int64)) % (((2147483647 : Int64) - ((p1 &&& (2147483647 : Int32)).toInt64)) + (1 : Int64)))).toInt32), iv (p3 &&& (2147483647 : Int32)), rv b2_b1] [(.ref w_CALLER_RUNS)]) _ _ _
    refine zgetstat X6 hx hby at_100 hZ hown (host := "") (Or.inl (w57 hw)) Via.refl e6 (S_w_CALLER_RUNS.ext O2.2) fun T7 X7 e7 => (zacmp X7 hx hby at_103 106 true rfl rfl (decide_eq_true rfl) (by decide) (by decide) (zaload X7 hx hby at_106 rfl rfl (zcallv X7 hx hby at_108 hZ hown (w58 hw) (w59 hw) (notFace_of_selects (args := #[]) (mvT hZ (w61 hw))) (w61 hw) (w60 hw) (w62 hw) (w8 hw) e7 E2_b2_b1 (c15_keepAlive l hw [] ⟨S_w_CALLER_RUNS, S_w_DEFAULT_KEEP_ALIVE, S_w_DEFAULT_CLOSE_WINDOW, E_w_CALLER_RUNS, E_w_DEFAULT_KEEP_ALIVE, E_w_DEFAULT_CLOSE_WINDOW⟩ O2 (Nat.le_trans Z0 K2.1) b2_b1 (p1 &&& (2147483647 : Int32)) ((((p1 &&& (2147483647 : Int32)).toInt64) + (((p2.toInt64) &&& (2147483647 : Int64)) % (((2147483647 : Int64) - ((p1 &&& (2147483647 : Int32)).toInt64)) + (1 : Int64)))).toInt32) (p3 &&& (2147483647 : Int32)) g2_b2_b1 E2_b2_b1 F2_b2_b1_closeWindow F2_b2_b1_core F2_b2_b1_keepAlive F2_b2_b1_max F2_b2_b1_overflow F2_b2_b1_queue hb k1 k2 k3 k4) (by decide) (by rw [hml]; rfl) 0 (Nat.le_of_eq rfl) (by decide) (by decide) (by decide) (by decide) pd_5 rfl (argsL := []) (st := []) rfl (zpureK ⟨rfl, rfl⟩ fun T8 X8 e8 => ?_))))
    show zEnds p e below s T8 (mkF m 111 #[iv p1, iv p2, iv p3, iv (p1 &&& (2147483647 : Int32)), iv (p1 &&& (2147483647 : Int32)), .val (.long ((2147483647 : Int64) - ((p1 &&& (2147483647 : Int32)).toInt64))), .second, .val (.long (((p2.toInt64) &&& (2147483647 : Int64)) % (((2147483647 : Int64) - ((p1 &&& (2147483647 : Int32)).toInt64)) + (1 : Int64)))), .second, iv ((((p1 &&& (2147483647 : Int32)).toInt64) + (((p2.toInt64) &&& (2147483647 : Int64)) % (((2147483647 : Int64) - ((p1 &&& (2147483647 : Int32)).toInt64)) + (1 : Int64)))).toInt32), iv (p3 &&& (2147483647 : Int32)), rv b2_b1] [(.ref w_DEFAULT_KEEP_ALIVE)]) _ _ _
    refine zifnullNo X8 hx hby at_111 (zaload X8 hx hby at_114 rfl rfl (zcallv X8 hx hby at_116 hZ hown (w63 hw) (w64 hw) (notFace_of_selects (args := #[]) (mvT hZ (w66 hw))) (w66 hw) (w65 hw) (w67 hw) (w8 hw) e8 E2_b2_b1 (c17_closeWindow l hw [] ⟨S_w_CALLER_RUNS, S_w_DEFAULT_KEEP_ALIVE, S_w_DEFAULT_CLOSE_WINDOW, E_w_CALLER_RUNS, E_w_DEFAULT_KEEP_ALIVE, E_w_DEFAULT_CLOSE_WINDOW⟩ O2 (Nat.le_trans Z0 K2.1) b2_b1 (p1 &&& (2147483647 : Int32)) ((((p1 &&& (2147483647 : Int32)).toInt64) + (((p2.toInt64) &&& (2147483647 : Int64)) % (((2147483647 : Int64) - ((p1 &&& (2147483647 : Int32)).toInt64)) + (1 : Int64)))).toInt32) (p3 &&& (2147483647 : Int32)) g2_b2_b1 E2_b2_b1 F2_b2_b1_closeWindow F2_b2_b1_core F2_b2_b1_keepAlive F2_b2_b1_max F2_b2_b1_overflow F2_b2_b1_queue hb k1 k2 k3 k4) (by decide) (by rw [hml]; rfl) 0 (Nat.le_of_eq rfl) (by decide) (by decide) (by decide) (by decide) pd_5 rfl (argsL := []) (st := []) rfl (zpureK ⟨rfl, rfl⟩ fun T9 X9 e9 => ?_)))
    show zEnds p e below s T9 (mkF m 119 #[iv p1, iv p2, iv p3, iv (p1 &&& (2147483647 : Int32)), iv (p1 &&& (2147483647 : Int32)), .val (.long ((2147483647 : Int64) - ((p1 &&& (2147483647 : Int32)).toInt64))), .second, .val (.long (((p2.toInt64) &&& (2147483647 : Int64)) % (((2147483647 : Int64) - ((p1 &&& (2147483647 : Int32)).toInt64)) + (1 : Int64)))), .second, iv ((((p1 &&& (2147483647 : Int32)).toInt64) + (((p2.toInt64) &&& (2147483647 : Int64)) % (((2147483647 : Int64) - ((p1 &&& (2147483647 : Int32)).toInt64)) + (1 : Int64)))).toInt32), iv (p3 &&& (2147483647 : Int32)), rv b2_b1] [(.ref w_DEFAULT_CLOSE_WINDOW)]) _ _ _
    refine zifnullNo X9 hx hby at_119 (ziconst X9 hx hby at_122 (z := (1 : Int32)) rfl (zgoto X9 hx hby at_123 127 (by decide) (by decide) ?_))
    show zEnds p e below s T9 (mkF m 127 #[iv p1, iv p2, iv p3, iv (p1 &&& (2147483647 : Int32)), iv (p1 &&& (2147483647 : Int32)), .val (.long ((2147483647 : Int64) - ((p1 &&& (2147483647 : Int32)).toInt64))), .second, .val (.long (((p2.toInt64) &&& (2147483647 : Int64)) % (((2147483647 : Int64) - ((p1 &&& (2147483647 : Int32)).toInt64)) + (1 : Int64)))), .second, iv ((((p1 &&& (2147483647 : Int32)).toInt64) + (((p2.toInt64) &&& (2147483647 : Int64)) % (((2147483647 : Int64) - ((p1 &&& (2147483647 : Int32)).toInt64)) + (1 : Int64)))).toInt32), iv (p3 &&& (2147483647 : Int32)), rv b2_b1] [(.int 1)]) _ _ _
    exact zretZ X9 hx hby at_127 hret hlk (by simp) rfl (by decide) (by decide) ⟨rfl, N2⟩
  · show zEnds p e below s T0 (mkF m 7 #[iv p1, iv p2, iv p3, iv (p1 &&& (2147483647 : Int32)), .unset, .unset, .unset, .unset, .unset, .unset, .unset, .unset] [(.int (p1 &&& (2147483647 : Int32))), (.int 1)]) _ _ _
    refine zcalls X0 hx hby at_7 hZ hown (w1 hw) (w2 hw) (w3 hw) (w4 hw) e0 (c19_max l hw [] ⟨S_w_CALLER_RUNS, S_w_DEFAULT_KEEP_ALIVE, S_w_DEFAULT_CLOSE_WINDOW, E_w_CALLER_RUNS, E_w_DEFAULT_KEEP_ALIVE, E_w_DEFAULT_CLOSE_WINDOW⟩ O0 (Nat.le_trans Z0 K0.1) (p1 &&& (2147483647 : Int32)) hb) (by decide) (by rw [hml]; rfl) 0 (Nat.le_of_eq rfl) (by decide) (by decide) (by decide) (by decide) pd_0 rfl (argsL := [(.int 1), (.int (p1 &&& (2147483647 : Int32)))]) (st := []) rfl (zpureK ⟨rfl, rfl⟩ fun T10 X10 e10 => ?_)
    show zEnds p e below s T10 (mkF m 10 #[iv p1, iv p2, iv p3, iv (p1 &&& (2147483647 : Int32)), .unset, .unset, .unset, .unset, .unset, .unset, .unset, .unset] [(.int 1)]) _ _ _
    refine zistore X10 hx hby at_10 (L' := #[iv p1, iv p2, iv p3, iv (p1 &&& (2147483647 : Int32)), iv 1, .unset, .unset, .unset, .unset, .unset, .unset, .unset]) rfl (zldc2J X10 hx hby at_12 (2147483647 : Int64) hZ hown (w5 hw) (ziload X10 hx hby at_15 rfl (zi2l X10 hx hby at_17 (1 : Int64) (by decide) (zlsub X10 hx hby at_18 (2147483646 : Int64) (by decide) (zlstore X10 hx hby at_19 (L' := #[iv p1, iv p2, iv p3, iv (p1 &&& (2147483647 : Int32)), iv 1, .val (.long 2147483646), .second, .unset, .unset, .unset, .unset, .unset]) rfl (ziloadN X10 hx hby at_21 rfl (zi2l X10 hx hby at_22 (p2.toInt64) rfl (zldc2J X10 hx hby at_23 (2147483647 : Int64) hZ hown (w5 hw) (zland X10 hx hby at_26 ((p2.toInt64) &&& (2147483647 : Int64)) rfl ?_)))))))))
    show zEnds p e below s T10 (mkF m 27 #[iv p1, iv p2, iv p3, iv (p1 &&& (2147483647 : Int32)), iv 1, .val (.long 2147483646), .second, .unset, .unset, .unset, .unset, .unset] [(.long ((p2.toInt64) &&& (2147483647 : Int64)))]) _ _ _
    refine zlload X10 hx hby at_27 rfl (zlconst X10 hx hby at_29 (z := (1 : Int64)) rfl (zladd X10 hx hby at_30 (2147483647 : Int64) (by decide) (zlrem X10 hx hby at_31 (((p2.toInt64) &&& (2147483647 : Int64)) % (2147483647 : Int64)) (by decide) rfl (zlstore X10 hx hby at_32 (L' := #[iv p1, iv p2, iv p3, iv (p1 &&& (2147483647 : Int32)), iv 1, .val (.long 2147483646), .second, .val (.long (((p2.toInt64) &&& (2147483647 : Int64)) % (2147483647 : Int64))), .second, .unset, .unset, .unset]) rfl (ziload X10 hx hby at_34 rfl (zi2l X10 hx hby at_36 (1 : Int64) (by decide) (zlload X10 hx hby at_37 rfl (zladd X10 hx hby at_39 ((1 : Int64) + (((p2.toInt64) &&& (2147483647 : Int64)) % (2147483647 : Int64))) rfl (zl2i X10 hx hby at_40 (((1 : Int64) + (((p2.toInt64) &&& (2147483647 : Int64)) % (2147483647 : Int64))).toInt32) rfl ?_)))))))))
    show zEnds p e below s T10 (mkF m 41 #[iv p1, iv p2, iv p3, iv (p1 &&& (2147483647 : Int32)), iv 1, .val (.long 2147483646), .second, .val (.long (((p2.toInt64) &&& (2147483647 : Int64)) % (2147483647 : Int64))), .second, .unset, .unset, .unset] [(.int (((1 : Int64) + (((p2.toInt64) &&& (2147483647 : Int64)) % (2147483647 : Int64))).toInt32))]) _ _ _
    refine zistore X10 hx hby at_41 (L' := #[iv p1, iv p2, iv p3, iv (p1 &&& (2147483647 : Int32)), iv 1, .val (.long 2147483646), .second, .val (.long (((p2.toInt64) &&& (2147483647 : Int64)) % (2147483647 : Int64))), .second, iv (((1 : Int64) + (((p2.toInt64) &&& (2147483647 : Int64)) % (2147483647 : Int64))).toInt32), .unset, .unset]) rfl (ziloadN X10 hx hby at_43 rfl (zldcI X10 hx hby at_44 (2147483647 : Int32) hZ hown (w0 hw) (ziand X10 hx hby at_46 (p3 &&& (2147483647 : Int32)) rfl (zistore X10 hx hby at_47 (L' := #[iv p1, iv p2, iv p3, iv (p1 &&& (2147483647 : Int32)), iv 1, .val (.long 2147483646), .second, .val (.long (((p2.toInt64) &&& (2147483647 : Int64)) % (2147483647 : Int64))), .second, iv (((1 : Int64) + (((p2.toInt64) &&& (2147483647 : Int64)) % (2147483647 : Int64))).toInt32), iv (p3 &&& (2147483647 : Int32)), .unset]) rfl (ziloadN X10 hx hby at_49 rfl (ziload X10 hx hby at_50 rfl (ziload X10 hx hby at_52 rfl ?_)))))))
    show zEnds p e below s T10 (mkF m 54 #[iv p1, iv p2, iv p3, iv (p1 &&& (2147483647 : Int32)), iv 1, .val (.long 2147483646), .second, .val (.long (((p2.toInt64) &&& (2147483647 : Int64)) % (2147483647 : Int64))), .second, iv (((1 : Int64) + (((p2.toInt64) &&& (2147483647 : Int64)) % (2147483647 : Int64))).toInt32), iv (p3 &&& (2147483647 : Int32)), .unset] [(.int (p3 &&& (2147483647 : Int32))), (.int (((1 : Int64) + (((p2.toInt64) &&& (2147483647 : Int64)) % (2147483647 : Int64))).toInt32)), (.int (p1 &&& (2147483647 : Int32)))]) _ _ _
    have kx := own_mx (1 : Int64) (2147483647 : Int64) p2 (by decide) (by decide) (by decide)
    have k1 : ¬ ((p1 &&& (2147483647 : Int32)) < (0 : Int32)) := own_nn p1
    have k2 : ¬ ((((1 : Int64) + (((p2.toInt64) &&& (2147483647 : Int64)) % (2147483647 : Int64))).toInt32) < (1 : Int32)) := own_ge1 (by decide) kx
    have k3 : ¬ ((((1 : Int64) + (((p2.toInt64) &&& (2147483647 : Int64)) % (2147483647 : Int64))).toInt32) < (p1 &&& (2147483647 : Int32))) := own_geB hb kx
    have k4 : ¬ ((p3 &&& (2147483647 : Int32)) < (0 : Int32)) := own_nn p3
    refine zcalls X10 hx hby at_54 hZ hown (w6 hw) (w7 hw) (w8 hw) (w9 hw) e10 (c21_bounded l hw [] ⟨S_w_CALLER_RUNS, S_w_DEFAULT_KEEP_ALIVE, S_w_DEFAULT_CLOSE_WINDOW, E_w_CALLER_RUNS, E_w_DEFAULT_KEEP_ALIVE, E_w_DEFAULT_CLOSE_WINDOW⟩ O0 (Nat.le_trans Z0 K0.1) (p1 &&& (2147483647 : Int32)) (((1 : Int64) + (((p2.toInt64) &&& (2147483647 : Int64)) % (2147483647 : Int64))).toInt32) (p3 &&& (2147483647 : Int32)) hb k1 k2 k3 k4) (by decide) (by rw [hml]; rfl) 0 (Nat.le_of_eq rfl) (by decide) (by decide) (by decide) (by decide) pd_2 rfl (argsL := [(.int (p1 &&& (2147483647 : Int32))), (.int (((1 : Int64) + (((p2.toInt64) &&& (2147483647 : Int64)) % (2147483647 : Int64))).toInt32)), (.int (p3 &&& (2147483647 : Int32)))]) (st := []) rfl fun T11 h11 v11 L11 e11 X11 q11 => ?_
    obtain ⟨b11_b1, rfl, N11q, K11q, g11_b11_b1, y11_b11_b1, E11_b11_b1, F11_b11_b1_closeWindow, F11_b11_b1_core, F11_b11_b1_keepAlive, F11_b11_b1_max, F11_b11_b1_overflow, F11_b11_b1_queue⟩ := q11
    have O11 := O0.keep K11q all0
    have K11 := Keep.trans K0 K11q all0
    have z11_b11_b1 : h0.size ≤ b11_b1 := Nat.le_trans K0.1 y11_b11_b1
    have N11 := Fr.app N0 N11q
    show zEnds p e below s T11 (mkF m 57 #[iv p1, iv p2, iv p3, iv (p1 &&& (2147483647 : Int32)), iv 1, .val (.long 2147483646), .second, .val (.long (((p2.toInt64) &&& (2147483647 : Int64)) % (2147483647 : Int64))), .second, iv (((1 : Int64) + (((p2.toInt64) &&& (2147483647 : Int64)) % (2147483647 : Int64))).toInt32), iv (p3 &&& (2147483647 : Int32)), .unset] [(.ref b11_b1)]) _ _ _
    refine zastore X11 hx hby at_57 (hv := rfl) (L' := #[iv p1, iv p2, iv p3, iv (p1 &&& (2147483647 : Int32)), iv 1, .val (.long 2147483646), .second, .val (.long (((p2.toInt64) &&& (2147483647 : Int64)) % (2147483647 : Int64))), .second, iv (((1 : Int64) + (((p2.toInt64) &&& (2147483647 : Int64)) % (2147483647 : Int64))).toInt32), iv (p3 &&& (2147483647 : Int32)), rv b11_b1]) rfl (zaload X11 hx hby at_59 rfl rfl (zifnonnullYes X11 hx hby at_61 66 (by decide) (by decide) (zaload X11 hx hby at_66 rfl rfl (zcallv X11 hx hby at_68 hZ hown (w37 hw) (w38 hw) (notFace_of_selects (args := #[]) (mvT hZ (w40 hw))) (w40 hw) (w39 hw) (w41 hw) (w8 hw) e11 E11_b11_b1 (c23_core l hw [] ⟨S_w_CALLER_RUNS, S_w_DEFAULT_KEEP_ALIVE, S_w_DEFAULT_CLOSE_WINDOW, E_w_CALLER_RUNS, E_w_DEFAULT_KEEP_ALIVE, E_w_DEFAULT_CLOSE_WINDOW⟩ O11 (Nat.le_trans Z0 K11.1) b11_b1 (p1 &&& (2147483647 : Int32)) (((1 : Int64) + (((p2.toInt64) &&& (2147483647 : Int64)) % (2147483647 : Int64))).toInt32) (p3 &&& (2147483647 : Int32)) g11_b11_b1 E11_b11_b1 F11_b11_b1_closeWindow F11_b11_b1_core F11_b11_b1_keepAlive F11_b11_b1_max F11_b11_b1_overflow F11_b11_b1_queue hb k1 k2 k3 k4) (by decide) (by rw [hml]; rfl) 0 (Nat.le_of_eq rfl) (by decide) (by decide) (by decide) (by decide) pd_3 rfl (argsL := []) (st := []) rfl (zpureK ⟨rfl, rfl⟩ fun T12 X12 e12 => ?_)))))
    show zEnds p e below s T12 (mkF m 71 #[iv p1, iv p2, iv p3, iv (p1 &&& (2147483647 : Int32)), iv 1, .val (.long 2147483646), .second, .val (.long (((p2.toInt64) &&& (2147483647 : Int64)) % (2147483647 : Int64))), .second, iv (((1 : Int64) + (((p2.toInt64) &&& (2147483647 : Int64)) % (2147483647 : Int64))).toInt32), iv (p3 &&& (2147483647 : Int32)), rv b11_b1] [(.int (p1 &&& (2147483647 : Int32)))]) _ _ _
    refine ziloadN X12 hx hby at_71 rfl (zicmpNo X12 hx hby at_72 (teq (rfl : (p1 &&& (2147483647 : Int32)) = (p1 &&& (2147483647 : Int32)))).2 (zaload X12 hx hby at_75 rfl rfl (zcallv X12 hx hby at_77 hZ hown (w42 hw) (w43 hw) (notFace_of_selects (args := #[]) (mvT hZ (w45 hw))) (w45 hw) (w44 hw) (w46 hw) (w8 hw) e12 E11_b11_b1 (c25_max l hw [] ⟨S_w_CALLER_RUNS, S_w_DEFAULT_KEEP_ALIVE, S_w_DEFAULT_CLOSE_WINDOW, E_w_CALLER_RUNS, E_w_DEFAULT_KEEP_ALIVE, E_w_DEFAULT_CLOSE_WINDOW⟩ O11 (Nat.le_trans Z0 K11.1) b11_b1 (p1 &&& (2147483647 : Int32)) (((1 : Int64) + (((p2.toInt64) &&& (2147483647 : Int64)) % (2147483647 : Int64))).toInt32) (p3 &&& (2147483647 : Int32)) g11_b11_b1 E11_b11_b1 F11_b11_b1_closeWindow F11_b11_b1_core F11_b11_b1_keepAlive F11_b11_b1_max F11_b11_b1_overflow F11_b11_b1_queue hb k1 k2 k3 k4) (by decide) (by rw [hml]; rfl) 0 (Nat.le_of_eq rfl) (by decide) (by decide) (by decide) (by decide) pd_3 rfl (argsL := []) (st := []) rfl (zpureK ⟨rfl, rfl⟩ fun T13 X13 e13 => ?_))))
    show zEnds p e below s T13 (mkF m 80 #[iv p1, iv p2, iv p3, iv (p1 &&& (2147483647 : Int32)), iv 1, .val (.long 2147483646), .second, .val (.long (((p2.toInt64) &&& (2147483647 : Int64)) % (2147483647 : Int64))), .second, iv (((1 : Int64) + (((p2.toInt64) &&& (2147483647 : Int64)) % (2147483647 : Int64))).toInt32), iv (p3 &&& (2147483647 : Int32)), rv b11_b1] [(.int (((1 : Int64) + (((p2.toInt64) &&& (2147483647 : Int64)) % (2147483647 : Int64))).toInt32))]) _ _ _
    refine ziload X13 hx hby at_80 rfl (zicmpNo X13 hx hby at_82 (teq (rfl : (((1 : Int64) + (((p2.toInt64) &&& (2147483647 : Int64)) % (2147483647 : Int64))).toInt32) = (((1 : Int64) + (((p2.toInt64) &&& (2147483647 : Int64)) % (2147483647 : Int64))).toInt32))).2 (zaload X13 hx hby at_85 rfl rfl (zcallv X13 hx hby at_87 hZ hown (w47 hw) (w48 hw) (notFace_of_selects (args := #[]) (mvT hZ (w50 hw))) (w50 hw) (w49 hw) (w51 hw) (w8 hw) e13 E11_b11_b1 (c27_queue l hw [] ⟨S_w_CALLER_RUNS, S_w_DEFAULT_KEEP_ALIVE, S_w_DEFAULT_CLOSE_WINDOW, E_w_CALLER_RUNS, E_w_DEFAULT_KEEP_ALIVE, E_w_DEFAULT_CLOSE_WINDOW⟩ O11 (Nat.le_trans Z0 K11.1) b11_b1 (p1 &&& (2147483647 : Int32)) (((1 : Int64) + (((p2.toInt64) &&& (2147483647 : Int64)) % (2147483647 : Int64))).toInt32) (p3 &&& (2147483647 : Int32)) g11_b11_b1 E11_b11_b1 F11_b11_b1_closeWindow F11_b11_b1_core F11_b11_b1_keepAlive F11_b11_b1_max F11_b11_b1_overflow F11_b11_b1_queue hb k1 k2 k3 k4) (by decide) (by rw [hml]; rfl) 0 (Nat.le_of_eq rfl) (by decide) (by decide) (by decide) (by decide) pd_3 rfl (argsL := []) (st := []) rfl (zpureK ⟨rfl, rfl⟩ fun T14 X14 e14 => ?_))))
    show zEnds p e below s T14 (mkF m 90 #[iv p1, iv p2, iv p3, iv (p1 &&& (2147483647 : Int32)), iv 1, .val (.long 2147483646), .second, .val (.long (((p2.toInt64) &&& (2147483647 : Int64)) % (2147483647 : Int64))), .second, iv (((1 : Int64) + (((p2.toInt64) &&& (2147483647 : Int64)) % (2147483647 : Int64))).toInt32), iv (p3 &&& (2147483647 : Int32)), rv b11_b1] [(.int (p3 &&& (2147483647 : Int32)))]) _ _ _
    refine ziload X14 hx hby at_90 rfl (zicmpNo X14 hx hby at_92 (teq (rfl : (p3 &&& (2147483647 : Int32)) = (p3 &&& (2147483647 : Int32)))).2 (zaload X14 hx hby at_95 rfl rfl (zcallv X14 hx hby at_97 hZ hown (w52 hw) (w53 hw) (notFace_of_selects (args := #[]) (mvT hZ (w55 hw))) (w55 hw) (w54 hw) (w56 hw) (w8 hw) e14 E11_b11_b1 (c29_overflow l hw [] ⟨S_w_CALLER_RUNS, S_w_DEFAULT_KEEP_ALIVE, S_w_DEFAULT_CLOSE_WINDOW, E_w_CALLER_RUNS, E_w_DEFAULT_KEEP_ALIVE, E_w_DEFAULT_CLOSE_WINDOW⟩ O11 (Nat.le_trans Z0 K11.1) b11_b1 (p1 &&& (2147483647 : Int32)) (((1 : Int64) + (((p2.toInt64) &&& (2147483647 : Int64)) % (2147483647 : Int64))).toInt32) (p3 &&& (2147483647 : Int32)) g11_b11_b1 E11_b11_b1 F11_b11_b1_closeWindow F11_b11_b1_core F11_b11_b1_keepAlive F11_b11_b1_max F11_b11_b1_overflow F11_b11_b1_queue hb k1 k2 k3 k4) (by decide) (by rw [hml]; rfl) 0 (Nat.le_of_eq rfl) (by decide) (by decide) (by decide) (by decide) pd_4 rfl (argsL := []) (st := []) rfl (zpureK ⟨rfl, rfl⟩ fun T15 X15 e15 => ?_))))
    show zEnds p e below s T15 (mkF m 100 #[iv p1, iv p2, iv p3, iv (p1 &&& (2147483647 : Int32)), iv 1, .val (.long 2147483646), .second, .val (.long (((p2.toInt64) &&& (2147483647 : Int64)) % (2147483647 : Int64))), .second, iv (((1 : Int64) + (((p2.toInt64) &&& (2147483647 : Int64)) % (2147483647 : Int64))).toInt32), iv (p3 &&& (2147483647 : Int32)), rv b11_b1] [(.ref w_CALLER_RUNS)]) _ _ _
    refine zgetstat X15 hx hby at_100 hZ hown (host := "") (Or.inl (w57 hw)) Via.refl e15 (S_w_CALLER_RUNS.ext O11.2) fun T16 X16 e16 => (zacmp X16 hx hby at_103 106 true rfl rfl (decide_eq_true rfl) (by decide) (by decide) (zaload X16 hx hby at_106 rfl rfl (zcallv X16 hx hby at_108 hZ hown (w58 hw) (w59 hw) (notFace_of_selects (args := #[]) (mvT hZ (w61 hw))) (w61 hw) (w60 hw) (w62 hw) (w8 hw) e16 E11_b11_b1 (c31_keepAlive l hw [] ⟨S_w_CALLER_RUNS, S_w_DEFAULT_KEEP_ALIVE, S_w_DEFAULT_CLOSE_WINDOW, E_w_CALLER_RUNS, E_w_DEFAULT_KEEP_ALIVE, E_w_DEFAULT_CLOSE_WINDOW⟩ O11 (Nat.le_trans Z0 K11.1) b11_b1 (p1 &&& (2147483647 : Int32)) (((1 : Int64) + (((p2.toInt64) &&& (2147483647 : Int64)) % (2147483647 : Int64))).toInt32) (p3 &&& (2147483647 : Int32)) g11_b11_b1 E11_b11_b1 F11_b11_b1_closeWindow F11_b11_b1_core F11_b11_b1_keepAlive F11_b11_b1_max F11_b11_b1_overflow F11_b11_b1_queue hb k1 k2 k3 k4) (by decide) (by rw [hml]; rfl) 0 (Nat.le_of_eq rfl) (by decide) (by decide) (by decide) (by decide) pd_5 rfl (argsL := []) (st := []) rfl (zpureK ⟨rfl, rfl⟩ fun T17 X17 e17 => ?_))))
    show zEnds p e below s T17 (mkF m 111 #[iv p1, iv p2, iv p3, iv (p1 &&& (2147483647 : Int32)), iv 1, .val (.long 2147483646), .second, .val (.long (((p2.toInt64) &&& (2147483647 : Int64)) % (2147483647 : Int64))), .second, iv (((1 : Int64) + (((p2.toInt64) &&& (2147483647 : Int64)) % (2147483647 : Int64))).toInt32), iv (p3 &&& (2147483647 : Int32)), rv b11_b1] [(.ref w_DEFAULT_KEEP_ALIVE)]) _ _ _
    refine zifnullNo X17 hx hby at_111 (zaload X17 hx hby at_114 rfl rfl (zcallv X17 hx hby at_116 hZ hown (w63 hw) (w64 hw) (notFace_of_selects (args := #[]) (mvT hZ (w66 hw))) (w66 hw) (w65 hw) (w67 hw) (w8 hw) e17 E11_b11_b1 (c33_closeWindow l hw [] ⟨S_w_CALLER_RUNS, S_w_DEFAULT_KEEP_ALIVE, S_w_DEFAULT_CLOSE_WINDOW, E_w_CALLER_RUNS, E_w_DEFAULT_KEEP_ALIVE, E_w_DEFAULT_CLOSE_WINDOW⟩ O11 (Nat.le_trans Z0 K11.1) b11_b1 (p1 &&& (2147483647 : Int32)) (((1 : Int64) + (((p2.toInt64) &&& (2147483647 : Int64)) % (2147483647 : Int64))).toInt32) (p3 &&& (2147483647 : Int32)) g11_b11_b1 E11_b11_b1 F11_b11_b1_closeWindow F11_b11_b1_core F11_b11_b1_keepAlive F11_b11_b1_max F11_b11_b1_overflow F11_b11_b1_queue hb k1 k2 k3 k4) (by decide) (by rw [hml]; rfl) 0 (Nat.le_of_eq rfl) (by decide) (by decide) (by decide) (by decide) pd_5 rfl (argsL := []) (st := []) rfl (zpureK ⟨rfl, rfl⟩ fun T18 X18 e18 => ?_)))
    show zEnds p e below s T18 (mkF m 119 #[iv p1, iv p2, iv p3, iv (p1 &&& (2147483647 : Int32)), iv 1, .val (.long 2147483646), .second, .val (.long (((p2.toInt64) &&& (2147483647 : Int64)) % (2147483647 : Int64))), .second, iv (((1 : Int64) + (((p2.toInt64) &&& (2147483647 : Int64)) % (2147483647 : Int64))).toInt32), iv (p3 &&& (2147483647 : Int32)), rv b11_b1] [(.ref w_DEFAULT_CLOSE_WINDOW)]) _ _ _
    refine zifnullNo X18 hx hby at_119 (ziconst X18 hx hby at_122 (z := (1 : Int32)) rfl (zgoto X18 hx hby at_123 127 (by decide) (by decide) ?_))
    show zEnds p e below s T18 (mkF m 127 #[iv p1, iv p2, iv p3, iv (p1 &&& (2147483647 : Int32)), iv 1, .val (.long 2147483646), .second, .val (.long (((p2.toInt64) &&& (2147483647 : Int64)) % (2147483647 : Int64))), .second, iv (((1 : Int64) + (((p2.toInt64) &&& (2147483647 : Int64)) % (2147483647 : Int64))).toInt32), iv (p3 &&& (2147483647 : Int32)), rv b11_b1] [(.int 1)]) _ _ _
    exact zretZ X18 hx hby at_127 hret hlk (by simp) rfl (by decide) (by decide) ⟨rfl, N11⟩
set_option maxRecDepth 65536 in
set_option maxHeartbeats 40000000 in
theorem comes_1 {Post : Tables → Env → Array Value → State → Outcome → State → Prop} (hpost : ∀ tb e args s v u, (limb_1_1.after args s (.returned v) u = true ∧ limb_1_2.after args s (.returned v) u = true ∧ True) → FrameEnd s (.returned v) u (Jvm.fieldLocs frame_1_writes args s ++ Jvm.arrayLocs frame_1_arrays args s ++ Jvm.staticLocs frame_1_statics s) 16 128 → Post tb e args s (.returned v) u) :
    ArmFor flags0 classFile x code maxLocals ret World_1 tables_1 room_1 Calls_1 rest_1 Pre_1 Post := by
  intro l hfl _ _ p e ha hc hk s m args below hf hA hF happ hP
  obtain ⟨hcalls, hrest, hpre⟩ := hP
  obtain ⟨-, -, -, hnamed, -, -, -, hat⟩ := (Spec.applies_iff hf).mp happ
  obtain ⟨hg, hn⟩ := and_e (Cond.before_iff.mp (show (Jvm.Cond.and given_1 narrow_1).before args s = true from hpre))
  obtain ⟨gc, hg⟩ := and_e hg
  obtain ⟨g0, hg⟩ := and_e hg
  obtain ⟨g1, hg⟩ := and_e hg
  obtain ⟨u0, u1, u2, rfl⟩ : ∃ u0 u1 u2 : Value, args = #[u0, u1, u2] := by
    have hs : args.size = 3 := by simpa [Cond.value, given_1] using gc
    obtain ⟨L⟩ := args
    match L, hs with
    | [u0, u1, u2], _ => exact ⟨u0, u1, u2, rfl⟩
  obtain ⟨i0, ei0⟩ := is_v g0
  obtain rfl : u0 = (.int i0) := Option.some.inj ei0
  obtain ⟨i1, ei1⟩ := is_v g1
  obtain rfl : u1 = (.int i1) := Option.some.inj ei1
  obtain ⟨i2, ei2⟩ := is_v hg
  obtain rfl : u2 = (.int i2) := Option.some.inj ei2
  have hw := fun d (hd : d ∈ tables_1) => atoms_spec (ws := Jvm.Cond.code x code maxLocals ret :: tables_1) hat d (List.mem_cons_of_mem _ hd)
  obtain ⟨n1, n2⟩ := and_e hn
  obtain ⟨n3, n4⟩ := and_e n2
  obtain ⟨w_CALLER_RUNS, v_w_CALLER_RUNS⟩ := exa_v n1
  have E_w_CALLER_RUNS := Exa.start v_w_CALLER_RUNS n1
  have S_w_CALLER_RUNS := Sta.start v_w_CALLER_RUNS (Or.inr ⟨(w13 hw), (w14 hw)⟩)
  obtain ⟨w_DEFAULT_KEEP_ALIVE, v_w_DEFAULT_KEEP_ALIVE⟩ := exa_v n3
  have E_w_DEFAULT_KEEP_ALIVE := Exa.start v_w_DEFAULT_KEEP_ALIVE n3
  have S_w_DEFAULT_KEEP_ALIVE := Sta.start v_w_DEFAULT_KEEP_ALIVE (Or.inr ⟨(w8 hw), (w16 hw)⟩)
  obtain ⟨w_DEFAULT_CLOSE_WINDOW, v_w_DEFAULT_CLOSE_WINDOW⟩ := exa_v n4
  have E_w_DEFAULT_CLOSE_WINDOW := Exa.start v_w_DEFAULT_CLOSE_WINDOW n4
  have S_w_DEFAULT_CLOSE_WINDOW := Sta.start v_w_DEFAULT_CLOSE_WINDOW (Or.inr ⟨(w8 hw), (w18 hw)⟩)
  obtain ⟨n, o, h1, h2, h3, _, L, rfl, ⟨rfl, N⟩, hq⟩ := rm0 l (Z := s) hw tables_1 (h0 := s.heap) (n0 := s.heap.size) ⟨S_w_CALLER_RUNS, S_w_DEFAULT_KEEP_ALIVE, S_w_DEFAULT_CLOSE_WINDOW, E_w_CALLER_RUNS, E_w_DEFAULT_KEEP_ALIVE, E_w_DEFAULT_CLOSE_WINDOW⟩ (Old.start s) (Nat.le_refl _) i0 i1 i2 p e ha hc hk s m _ below hf ((Spec.applies_iff_loose hf).mp happ).1 ⟨rfl, State.Warmed39.refl s, rfl⟩ trivial
  refine ⟨n, _, h1, h2, h3, hpost _ _ _ _ _ _ ⟨Cond.after_iff.mpr rfl, Cond.after_iff.mpr (eq_i res_at (Term.int_eval (1)) rfl), trivial⟩ ⟨hq.1, hq.2.1, (hq.2.2.sift fun y hy => Or.inr (N y hy)).mono (by decide) (by decide)⟩⟩
theorem main_1_1 : Claimed_1_1 := comes_1 fun _ _ _ _ _ _ h hF => ⟨h.1, hF⟩
theorem main_1_2 : Claimed_1_2 := comes_1 fun _ _ _ _ _ _ h hF => ⟨h.2.1, hF⟩
end Jvm.Pilot.@@N@@
namespace Jvm.Pilot.@@N@@
open Jvm Jvm.ClassFile Sem Op Lib Jvm.Free Jvm.Stand Jvm.Pilot.@@N@@.Jvm.D
/-! MADE BY PROGRAM (witnessworld.py) out of the Statement's table words and the real class files: 16 classes; the members and pool entries that the words name. The judged class is class 1, her method 1. -/
namespace start1
open Jvm.ClassFile
def u (s : String) : CpInfo := .utf8 (stringToUtf16 s)
/-- a pool by its gaps: so many unusable entries, then the entry; so many at the end -/
def gap : Nat → List CpInfo → List CpInfo
  | 0, r => r
  | n + 1, r => .unusable :: gap n r
def poolList (es : List (Nat × CpInfo)) (last : Nat) : List CpInfo := es.foldr (fun e r => gap e.1 (e.2 :: r)) (gap last [])
def pool (es : List (Nat × CpInfo)) (last : Nat) : Array CpInfo := ⟨poolList es last⟩
def fileOf (pool : Array CpInfo) (this : Nat) (attrs : Array Attribute := #[]) (ms : Array MethodInfo := #[]) (fl : Nat := 33) (sup : Nat := 0) (ifs : Array Nat := #[]) (fds : Array FieldInfo := #[]) : ClassFile where
  minorVersion := 0
  majorVersion := 65
  constantPool := pool
  accessFlags := fl
  thisClass := this
  superClass := sup
  interfaces := ifs
  fields := fds
  methods := ms
  attributes := attrs
def plain (name : String) (sup : Option ClassId) : Class where
  name := name
  kind := .ordinary
  loader := none
  accessFlags := 33
  super := sup
  interfaces := #[]
  cf := none
  fields := #[]
  methods := #[]
  instanceTypes := #[]
  staticTypes := #[]
  resolved := #[]
  callSites := []
  init := .initialized
  statics := none
  mirror := none

def pool0 : Array CpInfo := pool [(5, u "<init>"), (0, u "()V"), (1, .class_ 10), (1, u "java/lang/Object")] 113

def k0c0 : Code := { maxStack := 0, maxLocals := 1, code := object_method_1_code, exceptionTable := #[], attributes := #[] }
def k0m0 : Method := { name := "<init>", desc := "()V", sig := { parameters := [], returnType := none }, accessFlags := 1, code := some k0c0 }
/-- java/lang/Object -/
def k0 : Class := { plain "java/lang/Object" none with
  accessFlags := 33
  interfaces := #[]
  cf := some (fileOf pool0 8 #[] #[{ accessFlags := 1, nameIndex := 5, descriptorIndex := 6, attributes := #[] }] 33 0 #[] #[])
  fields := #[]
  methods := #[k0m0]
  instanceTypes := #[]
  staticTypes := #[]
  resolved := Array.replicate 124 none
  statics := none }

def pool1 : Array CpInfo := pool [(2, .class_ 4), (1, u "java/lang/Object"), (0, u "<init>"), (0, u "()V"), (0, .integer 2147483647), (0, .methodref 9 10), (0, .class_ 11), (0, .nameAndType 12 13), (0, u "java/lang/Math"), (0, u "max"), (0, u "(II)I"), (2, .long 2147483647), (1, .methodref 19 20), (0, .class_ 21), (0, .nameAndType 22 23), (0, u "com/example/kick/kick/value/PoolSpec"), (0, u "bounded"), (0, u "(III)Lcom/example/kick/kick/value/PoolSpec;"), (0, .methodref 19 25), (0, .nameAndType 26 27), (0, u "core"), (0, u "()I"), (0, .methodref 19 29), (0, .nameAndType 12 27), (0, .methodref 19 31), (0, .nameAndType 32 27), (0, u "queue"), (0, .methodref 19 34), (0, .nameAndType 35 36), (0, u "overflow"), (0, u "()Lcom/example/kick/kick/value/Overflow;"), (0, .fieldref 38 39), (0, .class_ 40), (0, .nameAndType 41 42), (0, u "com/example/kick/kick/value/Overflow"), (0, u "CALLER_RUNS"), (0, u "Lcom/example/kick/kick/value/Overflow;"), (0, .methodref 19 44), (0, .nameAndType 45 46), (0, u "keepAlive"), (0, u "()Ljava/time/Duration;"), (0, .methodref 19 48), (0, .nameAndType 49 46), (0, u "closeWindow"), (0, .class_ 51), (0, u "com/example/kick/kick/value/PoolSpecBoundedPinLaw"), (2, u "law"), (0, u "(III)Z")] 3

def k1m0 : Method := { name := "<init>", desc := "()V", sig := { parameters := [], returnType := none }, accessFlags := 1, code := none }
def k1c1 : Code := { maxStack := 6, maxLocals := 12, code := code, exceptionTable := #[], attributes := #[] }
def k1m1 : Method := { name := "law", desc := "(III)Z", sig := { parameters := [.int, .int, .int], returnType := some .boolean }, accessFlags := 9, code := some k1c1 }
/-- com/example/kick/kick/value/PoolSpecBoundedPinLaw -/
def k1 : Class := { plain "com/example/kick/kick/value/PoolSpecBoundedPinLaw" (some 0) with
  accessFlags := 49
  interfaces := #[]
  cf := some (fileOf pool1 50 #[] #[{ accessFlags := 1, nameIndex := 5, descriptorIndex := 6, attributes := #[] }, { accessFlags := 9, nameIndex := 54, descriptorIndex := 55, attributes := #[] }] 49 2 #[] #[])
  fields := #[]
  methods := #[k1m0, k1m1]
  instanceTypes := #[]
  staticTypes := #[]
  resolved := Array.replicate 59 none
  statics := none }

def pool2 : Array CpInfo := pool [(1, .class_ 2), (0, u "java/lang/Math"), (1, .class_ 6), (1, u "java/lang/Object"), (0, u "<init>"), (0, u "()V"), (89, .class_ 100), (1, u "java/lang/Math$RandomNumberGeneratorHolder"), (71, u "negativeZeroFloatBits"), (0, u "J"), (2, u "negativeZeroDoubleBits"), (21, u "max"), (46, u "$assertionsDisabled"), (0, u "Z"), (88, u "(II)I"), (2, u "twoToTheDoubleScaleDown"), (0, u "D"), (4, u "twoToTheDoubleScaleUp"), (9, u "E"), (3, u "PI"), (2, u "TAU"), (2, u "DEGREES_TO_RADIANS"), (0, u "RADIANS_TO_DEGREES")] 94

def k2m0 : Method := { name := "<init>", desc := "()V", sig := { parameters := [], returnType := none }, accessFlags := 2, code := none }
def k2c1 : Code := { maxStack := 2, maxLocals := 2, code := jdk_29_method_65_code, exceptionTable := #[], attributes := #[] }
def k2m1 : Method := { name := "max", desc := "(II)I", sig := { parameters := [.int, .int], returnType := some .int }, accessFlags := 9, code := some k2c1 }
/-- java/lang/Math -/
def k2 : Class := { plain "java/lang/Math" (some 0) with
  accessFlags := 49
  interfaces := #[]
  cf := some (fileOf pool2 1 #[.nestMembers #[98]] #[{ accessFlags := 2, nameIndex := 7, descriptorIndex := 8, attributes := #[] }, { accessFlags := 9, nameIndex := 198, descriptorIndex := 335, attributes := #[] }] 49 4 #[] #[{ accessFlags := 25, nameIndex := 354, descriptorIndex := 339, attributes := #[] }, { accessFlags := 25, nameIndex := 358, descriptorIndex := 339, attributes := #[] }, { accessFlags := 25, nameIndex := 361, descriptorIndex := 339, attributes := #[] }, { accessFlags := 26, nameIndex := 364, descriptorIndex := 339, attributes := #[] }, { accessFlags := 26, nameIndex := 365, descriptorIndex := 339, attributes := #[] }, { accessFlags := 26, nameIndex := 172, descriptorIndex := 173, attributes := #[] }, { accessFlags := 26, nameIndex := 176, descriptorIndex := 173, attributes := #[] }, { accessFlags := 8, nameIndex := 344, descriptorIndex := 339, attributes := #[] }, { accessFlags := 8, nameIndex := 338, descriptorIndex := 339, attributes := #[] }, { accessFlags := 4120, nameIndex := 245, descriptorIndex := 246, attributes := #[] }])
  fields := #[{ name := "E", type := .double, accessFlags := 25, slot := 0, constantValue := 0 }, { name := "PI", type := .double, accessFlags := 25, slot := 1, constantValue := 0 }, { name := "TAU", type := .double, accessFlags := 25, slot := 2, constantValue := 0 }, { name := "DEGREES_TO_RADIANS", type := .double, accessFlags := 26, slot := 3, constantValue := 0 }, { name := "RADIANS_TO_DEGREES", type := .double, accessFlags := 26, slot := 4, constantValue := 0 }, { name := "negativeZeroFloatBits", type := .long, accessFlags := 26, slot := 5, constantValue := 0 }, { name := "negativeZeroDoubleBits", type := .long, accessFlags := 26, slot := 6, constantValue := 0 }, { name := "twoToTheDoubleScaleUp", type := .double, accessFlags := 8, slot := 7, constantValue := 0 }, { name := "twoToTheDoubleScaleDown", type := .double, accessFlags := 8, slot := 8, constantValue := 0 }, { name := "$assertionsDisabled", type := .boolean, accessFlags := 4120, slot := 9, constantValue := 0 }]
  methods := #[k2m0, k2m1]
  instanceTypes := #[]
  staticTypes := #[.double, .double, .double, .double, .double, .long, .long, .double, .double, .boolean]
  resolved := Array.replicate 460 none
  statics := none }

def pool3 : Array CpInfo := pool [(1, .methodref 2 3), (0, .class_ 4), (0, .nameAndType 5 6), (0, u "java/lang/Object"), (0, u "<init>"), (0, u "()V"), (0, .fieldref 8 9), (0, .class_ 10), (0, .nameAndType 11 12), (0, u "com/example/kick/kick/value/PoolSpec"), (0, u "core"), (0, u "I"), (0, .fieldref 8 14), (0, .nameAndType 15 12), (0, u "max"), (0, .fieldref 8 17), (0, .nameAndType 18 12), (0, u "queue"), (0, .fieldref 8 20), (0, .nameAndType 21 22), (0, u "overflow"), (0, u "Lcom/example/kick/kick/value/Overflow;"), (0, .fieldref 8 24), (0, .nameAndType 25 26), (0, u "keepAlive"), (0, u "Ljava/time/Duration;"), (0, .fieldref 8 28), (0, .nameAndType 29 26), (0, u "closeWindow"), (14, .fieldref 45 46), (0, .class_ 47), (0, .nameAndType 48 22), (0, u "com/example/kick/kick/value/Overflow"), (0, u "CALLER_RUNS"), (0, .fieldref 8 50), (0, .nameAndType 51 26), (0, u "DEFAULT_KEEP_ALIVE"), (0, .fieldref 8 53), (0, .nameAndType 54 26), (0, u "DEFAULT_CLOSE_WINDOW"), (0, .methodref 8 56), (0, .nameAndType 5 57), (0, u "(IIILcom/example/kick/kick/value/Overflow;Ljava/time/Duration;Ljava/time/Duration;)V"), (54, u "bounded"), (0, u "(III)Lcom/example/kick/kick/value/PoolSpec;"), (3, u "()I"), (0, u "()Lcom/example/kick/kick/value/Overflow;"), (0, u "()Ljava/time/Duration;")] 31

def k3c0 : Code := { maxStack := 2, maxLocals := 7, code := prog_13_method_1_code, exceptionTable := #[], attributes := #[] }
def k3m0 : Method := { name := "<init>", desc := "(IIILcom/example/kick/kick/value/Overflow;Ljava/time/Duration;Ljava/time/Duration;)V", sig := { parameters := [.int, .int, .int, (.object "com/example/kick/kick/value/Overflow"), (.object "java/time/Duration"), (.object "java/time/Duration")], returnType := none }, accessFlags := 2, code := some k3c0 }
def k3c1 : Code := { maxStack := 8, maxLocals := 3, code := prog_13_method_2_code, exceptionTable := #[], attributes := #[] }
def k3m1 : Method := { name := "bounded", desc := "(III)Lcom/example/kick/kick/value/PoolSpec;", sig := { parameters := [.int, .int, .int], returnType := some (.object "com/example/kick/kick/value/PoolSpec") }, accessFlags := 9, code := some k3c1 }
def k3c2 : Code := { maxStack := 1, maxLocals := 1, code := prog_13_method_6_code, exceptionTable := #[], attributes := #[] }
def k3m2 : Method := { name := "core", desc := "()I", sig := { parameters := [], returnType := some .int }, accessFlags := 1, code := some k3c2 }
def k3c3 : Code := { maxStack := 1, maxLocals := 1, code := prog_13_method_7_code, exceptionTable := #[], attributes := #[] }
def k3m3 : Method := { name := "max", desc := "()I", sig := { parameters := [], returnType := some .int }, accessFlags := 1, code := some k3c3 }
def k3c4 : Code := { maxStack := 1, maxLocals := 1, code := prog_13_method_8_code, exceptionTable := #[], attributes := #[] }
def k3m4 : Method := { name := "queue", desc := "()I", sig := { parameters := [], returnType := some .int }, accessFlags := 1, code := some k3c4 }
def k3c5 : Code := { maxStack := 1, maxLocals := 1, code := prog_13_method_9_code, exceptionTable := #[], attributes := #[] }
def k3m5 : Method := { name := "overflow", desc := "()Lcom/example/kick/kick/value/Overflow;", sig := { parameters := [], returnType := some (.object "com/example/kick/kick/value/Overflow") }, accessFlags := 1, code := some k3c5 }
def k3c6 : Code := { maxStack := 1, maxLocals := 1, code := prog_13_method_10_code, exceptionTable := #[], attributes := #[] }
def k3m6 : Method := { name := "keepAlive", desc := "()Ljava/time/Duration;", sig := { parameters := [], returnType := some (.object "java/time/Duration") }, accessFlags := 1, code := some k3c6 }
def k3c7 : Code := { maxStack := 1, maxLocals := 1, code := prog_13_method_11_code, exceptionTable := #[], attributes := #[] }
def k3m7 : Method := { name := "closeWindow", desc := "()Ljava/time/Duration;", sig := { parameters := [], returnType := some (.object "java/time/Duration") }, accessFlags := 1, code := some k3c7 }
/-- com/example/kick/kick/value/PoolSpec -/
def k3 : Class := { plain "com/example/kick/kick/value/PoolSpec" (some 0) with
  accessFlags := 49
  interfaces := #[]
  cf := some (fileOf pool3 8 #[] #[{ accessFlags := 2, nameIndex := 5, descriptorIndex := 57, attributes := #[] }, { accessFlags := 9, nameIndex := 112, descriptorIndex := 113, attributes := #[] }, { accessFlags := 1, nameIndex := 11, descriptorIndex := 117, attributes := #[] }, { accessFlags := 1, nameIndex := 15, descriptorIndex := 117, attributes := #[] }, { accessFlags := 1, nameIndex := 18, descriptorIndex := 117, attributes := #[] }, { accessFlags := 1, nameIndex := 21, descriptorIndex := 118, attributes := #[] }, { accessFlags := 1, nameIndex := 25, descriptorIndex := 119, attributes := #[] }, { accessFlags := 1, nameIndex := 29, descriptorIndex := 119, attributes := #[] }] 49 2 #[] #[{ accessFlags := 26, nameIndex := 51, descriptorIndex := 26, attributes := #[] }, { accessFlags := 26, nameIndex := 54, descriptorIndex := 26, attributes := #[] }, { accessFlags := 18, nameIndex := 11, descriptorIndex := 12, attributes := #[] }, { accessFlags := 18, nameIndex := 15, descriptorIndex := 12, attributes := #[] }, { accessFlags := 18, nameIndex := 18, descriptorIndex := 12, attributes := #[] }, { accessFlags := 18, nameIndex := 21, descriptorIndex := 22, attributes := #[] }, { accessFlags := 18, nameIndex := 25, descriptorIndex := 26, attributes := #[] }, { accessFlags := 18, nameIndex := 29, descriptorIndex := 26, attributes := #[] }])
  fields := #[{ name := "DEFAULT_KEEP_ALIVE", type := (.object "java/time/Duration"), accessFlags := 26, slot := 0, constantValue := 0 }, { name := "DEFAULT_CLOSE_WINDOW", type := (.object "java/time/Duration"), accessFlags := 26, slot := 1, constantValue := 0 }, { name := "core", type := .int, accessFlags := 18, slot := 0, constantValue := 0 }, { name := "max", type := .int, accessFlags := 18, slot := 1, constantValue := 0 }, { name := "queue", type := .int, accessFlags := 18, slot := 2, constantValue := 0 }, { name := "overflow", type := (.object "com/example/kick/kick/value/Overflow"), accessFlags := 18, slot := 3, constantValue := 0 }, { name := "keepAlive", type := (.object "java/time/Duration"), accessFlags := 18, slot := 4, constantValue := 0 }, { name := "closeWindow", type := (.object "java/time/Duration"), accessFlags := 18, slot := 5, constantValue := 0 }]
  methods := #[k3m0, k3m1, k3m2, k3m3, k3m4, k3m5, k3m6, k3m7]
  instanceTypes := #[.int, .int, .int, (.object "com/example/kick/kick/value/Overflow"), (.object "java/time/Duration"), (.object "java/time/Duration")]
  staticTypes := #[(.object "java/time/Duration"), (.object "java/time/Duration")]
  resolved := Array.replicate 151 none
  statics := some 0 }

def pool4 : Array CpInfo := pool [(1, .class_ 2), (0, u "java/lang/constant/Constable"), (0, .class_ 4), (0, u "java/lang/Object")] 6

/-- java/lang/constant/Constable -/
def k4 : Class := { plain "java/lang/constant/Constable" (some 0) with
  accessFlags := 1537
  interfaces := #[]
  cf := some (fileOf pool4 1 #[] #[] 1537 3 #[] #[])
  fields := #[]
  methods := #[]
  instanceTypes := #[]
  staticTypes := #[]
  resolved := Array.replicate 11 none
  statics := none }

def pool5 : Array CpInfo := pool [(1, .class_ 2), (0, u "java/lang/Comparable"), (0, .class_ 4), (0, u "java/lang/Object")] 7

/-- java/lang/Comparable -/
def k5 : Class := { plain "java/lang/Comparable" (some 0) with
  accessFlags := 1537
  interfaces := #[]
  cf := some (fileOf pool5 1 #[] #[] 1537 3 #[] #[])
  fields := #[]
  methods := #[]
  instanceTypes := #[]
  staticTypes := #[]
  resolved := Array.replicate 12 none
  statics := none }

def pool6 : Array CpInfo := pool [(1, .class_ 2), (0, u "java/io/Serializable"), (0, .class_ 4), (0, u "java/lang/Object")] 2

/-- java/io/Serializable -/
def k6 : Class := { plain "java/io/Serializable" (some 0) with
  accessFlags := 1537
  interfaces := #[]
  cf := some (fileOf pool6 1 #[] #[] 1537 3 #[] #[])
  fields := #[]
  methods := #[]
  instanceTypes := #[]
  staticTypes := #[]
  resolved := Array.replicate 7 none
  statics := none }

def pool7 : Array CpInfo := pool [(2, .class_ 4), (1, u "java/lang/Enum"), (0, u "name"), (0, u "Ljava/lang/String;"), (2, u "ordinal"), (0, u "I"), (1, .class_ 14), (1, u "java/lang/Object"), (4, u "hash"), (86, .class_ 108), (1, u "java/lang/Enum$EnumDesc"), (2, .class_ 112), (0, u "java/lang/constant/Constable"), (0, .class_ 114), (0, u "java/lang/Comparable"), (0, .class_ 116), (0, u "java/io/Serializable")] 87

/-- java/lang/Enum -/
def k7 : Class := { plain "java/lang/Enum" (some 0) with
  accessFlags := 1057
  interfaces := #[4, 5, 6]
  cf := some (fileOf pool7 2 #[.nestMembers #[106]] #[] 1057 12 #[111, 113, 115] #[{ accessFlags := 18, nameIndex := 5, descriptorIndex := 6, attributes := #[] }, { accessFlags := 18, nameIndex := 9, descriptorIndex := 10, attributes := #[] }, { accessFlags := 2, nameIndex := 19, descriptorIndex := 10, attributes := #[] }])
  fields := #[{ name := "name", type := (.object "java/lang/String"), accessFlags := 18, slot := 0, constantValue := 0 }, { name := "ordinal", type := .int, accessFlags := 18, slot := 1, constantValue := 0 }, { name := "hash", type := .int, accessFlags := 2, slot := 2, constantValue := 0 }]
  methods := #[]
  instanceTypes := #[(.object "java/lang/String"), .int, .int]
  staticTypes := #[]
  resolved := Array.replicate 204 none
  statics := none }

def pool8 : Array CpInfo := pool [(1, .class_ 2), (0, u "com/example/kick/kick/value/Overflow"), (2, u "CALLER_RUNS"), (0, u "Lcom/example/kick/kick/value/Overflow;"), (2, u "ABORT"), (2, u "DISCARD"), (2, u "DISCARD_OLDEST"), (2, u "$VALUES"), (0, u "[Lcom/example/kick/kick/value/Overflow;"), (6, .class_ 28), (1, u "java/lang/Enum")] 26

/-- com/example/kick/kick/value/Overflow -/
def k8 : Class := { plain "com/example/kick/kick/value/Overflow" (some 7) with
  accessFlags := 16433
  interfaces := #[]
  cf := some (fileOf pool8 1 #[] #[] 16433 26 #[] #[{ accessFlags := 16409, nameIndex := 5, descriptorIndex := 6, attributes := #[] }, { accessFlags := 16409, nameIndex := 9, descriptorIndex := 6, attributes := #[] }, { accessFlags := 16409, nameIndex := 12, descriptorIndex := 6, attributes := #[] }, { accessFlags := 16409, nameIndex := 15, descriptorIndex := 6, attributes := #[] }, { accessFlags := 4122, nameIndex := 18, descriptorIndex := 19, attributes := #[] }])
  fields := #[{ name := "CALLER_RUNS", type := (.object "com/example/kick/kick/value/Overflow"), accessFlags := 16409, slot := 0, constantValue := 0 }, { name := "ABORT", type := (.object "com/example/kick/kick/value/Overflow"), accessFlags := 16409, slot := 1, constantValue := 0 }, { name := "DISCARD", type := (.object "com/example/kick/kick/value/Overflow"), accessFlags := 16409, slot := 2, constantValue := 0 }, { name := "DISCARD_OLDEST", type := (.object "com/example/kick/kick/value/Overflow"), accessFlags := 16409, slot := 3, constantValue := 0 }, { name := "$VALUES", type := (.array (.object "com/example/kick/kick/value/Overflow")), accessFlags := 4122, slot := 4, constantValue := 0 }]
  methods := #[]
  instanceTypes := #[(.object "java/lang/String"), .int, .int]
  staticTypes := #[(.object "com/example/kick/kick/value/Overflow"), (.object "com/example/kick/kick/value/Overflow"), (.object "com/example/kick/kick/value/Overflow"), (.object "com/example/kick/kick/value/Overflow"), (.array (.object "com/example/kick/kick/value/Overflow"))]
  resolved := Array.replicate 55 none
  statics := some 1 }

def pool9 : Array CpInfo := pool [(1, .class_ 2), (0, u "java/time/temporal/TemporalAmount"), (0, .class_ 4), (0, u "java/lang/Object")] 11

/-- java/time/temporal/TemporalAmount -/
def k9 : Class := { plain "java/time/temporal/TemporalAmount" (some 0) with
  accessFlags := 1537
  interfaces := #[]
  cf := some (fileOf pool9 1 #[] #[] 1537 3 #[] #[])
  fields := #[]
  methods := #[]
  instanceTypes := #[]
  staticTypes := #[]
  resolved := Array.replicate 16 none
  statics := none }

def pool10 : Array CpInfo := pool [(11, .class_ 13), (1, u "java/time/Duration"), (20, u "ZERO"), (0, u "Ljava/time/Duration;"), (13, .class_ 51), (1, u "java/time/temporal/TemporalAmount"), (27, .class_ 81), (1, u "java/time/Duration$Lazy"), (35, u "seconds"), (101, .class_ 220), (0, u "java/lang/Object"), (2, u "J"), (2, u "nanos"), (0, u "I"), (11, .class_ 241), (1, u "java/time/Duration$DurationUnits"), (27, .class_ 271), (1, u "java/time/Duration$1"), (91, u "BI_NANOS_PER_SECOND"), (0, u "Ljava/math/BigInteger;"), (120, .class_ 486), (0, u "java/lang/Comparable"), (0, .class_ 488), (0, u "java/io/Serializable"), (0, u "serialVersionUID")] 166

/-- java/time/Duration -/
def k10 : Class := { plain "java/time/Duration" (some 0) with
  accessFlags := 49
  interfaces := #[9, 5, 6]
  cf := some (fileOf pool10 11 #[.nestMembers #[269, 239, 79]] #[] 49 219 #[49, 485, 487] #[{ accessFlags := 25, nameIndex := 34, descriptorIndex := 35, attributes := #[] }, { accessFlags := 26, nameIndex := 489, descriptorIndex := 223, attributes := #[] }, { accessFlags := 26, nameIndex := 363, descriptorIndex := 364, attributes := #[] }, { accessFlags := 18, nameIndex := 117, descriptorIndex := 223, attributes := #[] }, { accessFlags := 18, nameIndex := 226, descriptorIndex := 227, attributes := #[] }])
  fields := #[{ name := "ZERO", type := (.object "java/time/Duration"), accessFlags := 25, slot := 0, constantValue := 0 }, { name := "serialVersionUID", type := .long, accessFlags := 26, slot := 1, constantValue := 0 }, { name := "BI_NANOS_PER_SECOND", type := (.object "java/math/BigInteger"), accessFlags := 26, slot := 2, constantValue := 0 }, { name := "seconds", type := .long, accessFlags := 18, slot := 0, constantValue := 0 }, { name := "nanos", type := .int, accessFlags := 18, slot := 1, constantValue := 0 }]
  methods := #[]
  instanceTypes := #[.long, .int]
  staticTypes := #[(.object "java/time/Duration"), .long, (.object "java/math/BigInteger")]
  resolved := Array.replicate 656 none
  statics := none }

def pool11 : Array CpInfo := pool [(1, u "java/lang/Cloneable"), (0, .class_ 1), (0, u "java/lang/Object"), (0, .class_ 3)] 3

/-- java/lang/Cloneable -/
def k11 : Class := { plain "java/lang/Cloneable" (some 0) with
  accessFlags := 1537
  interfaces := #[]
  cf := some (fileOf pool11 2 #[] #[] 1537 4 #[] #[])
  fields := #[]
  methods := #[]
  instanceTypes := #[]
  staticTypes := #[]
  resolved := Array.replicate 8 none
  statics := none }

/-- the primitive byte -/
def k12 : Class := { plain "byte" none with kind := .primitive 'B', accessFlags := 0x411 }
/-- [B -/
def k13 : Class := { plain "[B" (some 0) with kind := .array 12 .byte, interfaces := #[11, 6], accessFlags := 1041 }

/-- the primitive int -/
def k14 : Class := { plain "int" none with kind := .primitive 'I', accessFlags := 0x411 }
/-- [I -/
def k15 : Class := { plain "[I" (some 0) with kind := .array 14 .int, interfaces := #[11, 6], accessFlags := 1041 }

def heap : Heap := #[{ cls := 3, slots := #[.ref 3, .ref 4], vm := .statics 3 },
  { cls := 8, slots := #[.ref 2, .null, .null, .null, .null], vm := .statics 8 },
  { cls := 8, slots := #[.null, .int 0, .int 0], vm := .none },
  { cls := 10, slots := #[.long 1, .int 0], vm := .none },
  { cls := 10, slots := #[.long 1, .int 0], vm := .none }]
def classes : Array Class := #[k0, k1, k2, k3, k4, k5, k6, k7, k8, k9, k10, k11, k12, k13, k14, k15]
def interned : List (Array UInt16 × Addr) := []
def slotsUsed : Nat := 14
def theMethod : MethodId := ⟨1, 1⟩
def args0 : Array Value := #[.int 5, .int 6, .int 7]
def aboutOver (below : List Frame) : State where
  vm := { classes := classes, interned := interned.toArray }
  heap := heap
  slotsUsed := slotsUsed
  threads := #[{ frames := .invoking theMethod args0 :: below }]
def below0 : List Frame := [.native { method := ⟨0, 0⟩, args := #[] }]
def about1 : State := aboutOver below0
def p0 : Program := .bare "" "" ""
def e0 : Env := launch0.env 0 0 0
theorem w_frames : about1.frames = Frame.invoking theMethod args0 :: below0 := rfl
set_option maxRecDepth 65536 in
theorem w_args : argsFit about1.vm theMethod args0 = true := by decide +kernel
set_option maxRecDepth 65536 in
theorem w_heap : heapFits about1 = true := by decide +kernel
set_option maxRecDepth 65536 in
theorem w_runnable : about1.curStatus? = some .runnable := by decide +kernel
set_option maxRecDepth 65536 in
theorem w_alone : about1.alone = true := by decide +kernel
set_option maxRecDepth 65536 in
theorem w_named : about1.methodNamed? x = some theMethod := by decide +kernel
set_option maxRecDepth 65536 in
theorem w_hears : about1.hears theMethod below0 = true := by decide +kernel
set_option maxRecDepth 65536 in
theorem w_ripe : about1.ripe theMethod args0 below0 = true := by decide +kernel
theorem w_running : about1.status = .running := rfl
set_option maxRecDepth 65536 in
theorem w_room : about1.hasRoom e0.platform room_1 = true :=
  launch0.hasRoom_least _ room_1 (by decide +kernel) (by decide +kernel) (by decide +kernel) (by decide +kernel) (by decide +kernel) (by decide +kernel)
theorem allAtoms_all (ts : List Jvm.Cond) (a : Array Jvm.Value) (st : Jvm.State) : (allAtoms ts).before a st = ts.all (fun c => c.before a st) := by
  induction ts with
  | nil => rfl
  | cons c t ih =>
    show (Jvm.Cond.and c (allAtoms t)).before a st = _
    rw [Jvm.Cond.before_and, ih, List.all_cons]
def words1 : List Jvm.Cond := Jvm.Cond.code x code maxLocals ret :: tables_1
/-- a 'code' word, met by the world's own term for the bytes: nothing is compared byte by byte -/
theorem code_word {y : MethodName} {bytes : ByteArray} {mx : Nat} {rt : Option FieldType} {a : Array Value} {s : State} {m : MethodId} {meth : Method} {c : Code} (h1 : s.methodNamed? y = some m) (h2 : s.vm.method? m = some meth) (h3 : meth.code = some c) (h4 : c.code = bytes)
    (h5 : (c.maxLocals == mx && c.exceptionTable.isEmpty && decide (c.maxStack ≤ mostOperands) && decide (meth.sig.returnType = rt) && !meth.locks && decide (parseMethodDescriptor y.desc = some meth.sig)) = true) : (Jvm.Cond.code y bytes mx rt).before a s = true := by
  simp only [Bool.and_eq_true, beq_iff_eq, Bool.not_eq_true', decide_eq_true_eq] at h5
  obtain ⟨⟨⟨⟨⟨g1, g2⟩, g3⟩, g4⟩, g5⟩, g6⟩ := h5
  simp [Cond.before, Cond.holds, Cond.value, h1, h2, h3, h4, g1, g2, g3, g4, g5, g6]
def isCode : Jvm.Cond → Bool
  | .code _ _ _ _ => true
  | _ => false
theorem all_split {L : List Jvm.Cond} {P : Jvm.Cond → Bool} (h1 : L.all (fun c => isCode c || P c) = true) (h2 : ∀ c ∈ L.filter isCode, P c = true) : L.all P = true := by
  refine List.all_eq_true.mpr fun c hc => ?_
  have h := List.all_eq_true.mp h1 c hc
  rcases Bool.eq_false_or_eq_true (isCode c) with hi | hi
  · exact h2 c (List.mem_filter.mpr ⟨hc, hi⟩)
  · simpa [hi] using h
set_option maxRecDepth 65536 in
theorem w_c0 : (Jvm.Cond.code x code maxLocals ret).before args0 about1 = true := code_word (m := ⟨1, 1⟩) (meth := k1m1) (c := k1c1) (by decide +kernel) rfl rfl rfl (by decide +kernel)
set_option maxRecDepth 65536 in
theorem w_c1 : (Jvm.Cond.code ({ cls := "java/lang/Math", name := "max", desc := "(II)I" } : Jvm.MethodName) jdk_29_method_65_code (2 : Nat) (Option.some Jvm.ClassFile.FieldType.int)).before args0 about1 = true := code_word (m := ⟨2, 1⟩) (meth := k2m1) (c := k2c1) (by decide +kernel) rfl rfl rfl (by decide +kernel)
set_option maxRecDepth 65536 in
theorem w_c2 : (Jvm.Cond.code ({ cls := "com/example/kick/kick/value/PoolSpec", name := "bounded", desc := "(III)Lcom/example/kick/kick/value/PoolSpec;" } : Jvm.MethodName) prog_13_method_2_code (3 : Nat) (Option.some (Jvm.ClassFile.FieldType.object "com/example/kick/kick/value/PoolSpec"))).before args0 about1 = true := code_word (m := ⟨3, 1⟩) (meth := k3m1) (c := k3c1) (by decide +kernel) rfl rfl rfl (by decide +kernel)
set_option maxRecDepth 65536 in
theorem w_c3 : (Jvm.Cond.code ({ cls := "com/example/kick/kick/value/PoolSpec", name := "<init>", desc := "(IIILcom/example/kick/kick/value/Overflow;Ljava/time/Duration;Ljava/time/Duration;)V" } : Jvm.MethodName) prog_13_method_1_code (7 : Nat) (Option.none : Option Jvm.ClassFile.FieldType)).before args0 about1 = true := code_word (m := ⟨3, 0⟩) (meth := k3m0) (c := k3c0) (by decide +kernel) rfl rfl rfl (by decide +kernel)
set_option maxRecDepth 65536 in
theorem w_c4 : (Jvm.Cond.code ({ cls := "java/lang/Object", name := "<init>", desc := "()V" } : Jvm.MethodName) object_method_1_code (1 : Nat) (Option.none : Option Jvm.ClassFile.FieldType)).before args0 about1 = true := code_word (m := ⟨0, 0⟩) (meth := k0m0) (c := k0c0) (by decide +kernel) rfl rfl rfl (by decide +kernel)
set_option maxRecDepth 65536 in
theorem w_c5 : (Jvm.Cond.code ({ cls := "com/example/kick/kick/value/PoolSpec", name := "core", desc := "()I" } : Jvm.MethodName) prog_13_method_6_code (1 : Nat) (Option.some Jvm.ClassFile.FieldType.int)).before args0 about1 = true := code_word (m := ⟨3, 2⟩) (meth := k3m2) (c := k3c2) (by decide +kernel) rfl rfl rfl (by decide +kernel)
set_option maxRecDepth 65536 in
theorem w_c6 : (Jvm.Cond.code ({ cls := "com/example/kick/kick/value/PoolSpec", name := "max", desc := "()I" } : Jvm.MethodName) prog_13_method_7_code (1 : Nat) (Option.some Jvm.ClassFile.FieldType.int)).before args0 about1 = true := code_word (m := ⟨3, 3⟩) (meth := k3m3) (c := k3c3) (by decide +kernel) rfl rfl rfl (by decide +kernel)
set_option maxRecDepth 65536 in
theorem w_c7 : (Jvm.Cond.code ({ cls := "com/example/kick/kick/value/PoolSpec", name := "queue", desc := "()I" } : Jvm.MethodName) prog_13_method_8_code (1 : Nat) (Option.some Jvm.ClassFile.FieldType.int)).before args0 about1 = true := code_word (m := ⟨3, 4⟩) (meth := k3m4) (c := k3c4) (by decide +kernel) rfl rfl rfl (by decide +kernel)
set_option maxRecDepth 65536 in
theorem w_c8 : (Jvm.Cond.code ({ cls := "com/example/kick/kick/value/PoolSpec", name := "overflow", desc := "()Lcom/example/kick/kick/value/Overflow;" } : Jvm.MethodName) prog_13_method_9_code (1 : Nat) (Option.some (Jvm.ClassFile.FieldType.object "com/example/kick/kick/value/Overflow"))).before args0 about1 = true := code_word (m := ⟨3, 5⟩) (meth := k3m5) (c := k3c5) (by decide +kernel) rfl rfl rfl (by decide +kernel)
set_option maxRecDepth 65536 in
theorem w_c9 : (Jvm.Cond.code ({ cls := "com/example/kick/kick/value/PoolSpec", name := "keepAlive", desc := "()Ljava/time/Duration;" } : Jvm.MethodName) prog_13_method_10_code (1 : Nat) (Option.some (Jvm.ClassFile.FieldType.object "java/time/Duration"))).before args0 about1 = true := code_word (m := ⟨3, 6⟩) (meth := k3m6) (c := k3c6) (by decide +kernel) rfl rfl rfl (by decide +kernel)
set_option maxRecDepth 65536 in
theorem w_c10 : (Jvm.Cond.code ({ cls := "com/example/kick/kick/value/PoolSpec", name := "closeWindow", desc := "()Ljava/time/Duration;" } : Jvm.MethodName) prog_13_method_11_code (1 : Nat) (Option.some (Jvm.ClassFile.FieldType.object "java/time/Duration"))).before args0 about1 = true := code_word (m := ⟨3, 7⟩) (meth := k3m7) (c := k3c7) (by decide +kernel) rfl rfl rfl (by decide +kernel)
def codes1 : List Jvm.Cond := [Jvm.Cond.code x code maxLocals ret, Jvm.Cond.code ({ cls := "java/lang/Math", name := "max", desc := "(II)I" } : Jvm.MethodName) jdk_29_method_65_code (2 : Nat) (Option.some Jvm.ClassFile.FieldType.int), Jvm.Cond.code ({ cls := "com/example/kick/kick/value/PoolSpec", name := "bounded", desc := "(III)Lcom/example/kick/kick/value/PoolSpec;" } : Jvm.MethodName) prog_13_method_2_code (3 : Nat) (Option.some (Jvm.ClassFile.FieldType.object "com/example/kick/kick/value/PoolSpec")), Jvm.Cond.code ({ cls := "com/example/kick/kick/value/PoolSpec", name := "<init>", desc := "(IIILcom/example/kick/kick/value/Overflow;Ljava/time/Duration;Ljava/time/Duration;)V" } : Jvm.MethodName) prog_13_method_1_code (7 : Nat) (Option.none : Option Jvm.ClassFile.FieldType), Jvm.Cond.code ({ cls := "java/lang/Object", name := "<init>", desc := "()V" } : Jvm.MethodName) object_method_1_code (1 : Nat) (Option.none : Option Jvm.ClassFile.FieldType), Jvm.Cond.code ({ cls := "com/example/kick/kick/value/PoolSpec", name := "core", desc := "()I" } : Jvm.MethodName) prog_13_method_6_code (1 : Nat) (Option.some Jvm.ClassFile.FieldType.int), Jvm.Cond.code ({ cls := "com/example/kick/kick/value/PoolSpec", name := "max", desc := "()I" } : Jvm.MethodName) prog_13_method_7_code (1 : Nat) (Option.some Jvm.ClassFile.FieldType.int), Jvm.Cond.code ({ cls := "com/example/kick/kick/value/PoolSpec", name := "queue", desc := "()I" } : Jvm.MethodName) prog_13_method_8_code (1 : Nat) (Option.some Jvm.ClassFile.FieldType.int), Jvm.Cond.code ({ cls := "com/example/kick/kick/value/PoolSpec", name := "overflow", desc := "()Lcom/example/kick/kick/value/Overflow;" } : Jvm.MethodName) prog_13_method_9_code (1 : Nat) (Option.some (Jvm.ClassFile.FieldType.object "com/example/kick/kick/value/Overflow")), Jvm.Cond.code ({ cls := "com/example/kick/kick/value/PoolSpec", name := "keepAlive", desc := "()Ljava/time/Duration;" } : Jvm.MethodName) prog_13_method_10_code (1 : Nat) (Option.some (Jvm.ClassFile.FieldType.object "java/time/Duration")), Jvm.Cond.code ({ cls := "com/example/kick/kick/value/PoolSpec", name := "closeWindow", desc := "()Ljava/time/Duration;" } : Jvm.MethodName) prog_13_method_11_code (1 : Nat) (Option.some (Jvm.ClassFile.FieldType.object "java/time/Duration"))]
set_option maxRecDepth 65536 in
theorem codes_eq : words1.filter isCode = codes1 := rfl
theorem w_codes : ∀ c ∈ words1.filter isCode, c.before args0 about1 = true := by
  rw [codes_eq]
  intro c hc
  simp only [codes1, List.mem_cons, List.not_mem_nil, or_false] at hc
  rcases hc with rfl | rfl | rfl | rfl | rfl | rfl | rfl | rfl | rfl | rfl | rfl
  · exact w_c0
  · exact w_c1
  · exact w_c2
  · exact w_c3
  · exact w_c4
  · exact w_c5
  · exact w_c6
  · exact w_c7
  · exact w_c8
  · exact w_c9
  · exact w_c10
set_option maxRecDepth 65536 in
theorem w_t1 : (words1.take 24).all (fun c => isCode c || c.before args0 about1) = true := by decide +kernel
set_option maxRecDepth 65536 in
theorem w_t2 : ((words1.drop 24).take 24).all (fun c => isCode c || c.before args0 about1) = true := by decide +kernel
set_option maxRecDepth 65536 in
theorem w_t3 : ((words1.drop 24).drop 24).all (fun c => isCode c || c.before args0 about1) = true := by decide +kernel
theorem w_tables : (allAtoms (Jvm.Cond.code x code maxLocals ret :: tables_1)).before args0 about1 = true := by
  rw [allAtoms_all]
  show words1.all (fun c => c.before args0 about1) = true
  refine all_split ?_ w_codes
  rw [← List.take_append_drop 24 words1, List.all_append, w_t1, ← List.take_append_drop 24 (words1.drop 24), List.all_append, w_t2, w_t3]
  rfl
set_option maxRecDepth 65536 in
theorem w_case : (Jvm.Cond.and given_1 narrow_1).before args0 about1 = true := by decide +kernel
theorem w_applies : (headSpec (Jvm.Cond.code x code maxLocals ret :: tables_1) room_1).applies x e0.platform about1 = true :=
  (Spec.applies_iff w_frames).mpr ⟨w_running, w_runnable, w_alone, w_named, w_hears, w_ripe, w_room, w_tables⟩
theorem atStart : AtStart classFile x code maxLocals ret World_1 tables_1 room_1 Calls_1 rest_1 Pre_1 launch0 p0 e0 about1 theMethod args0 below0 :=
  ⟨lists_1, trivial, launch0.admits_env _ _ _, launch0.least_env, fairChoices_fair.cas, fairChoices_fair.clock, w_frames, w_args, w_heap, w_applies, trivial, trivial, w_case⟩
end start1
theorem witness_1 : WitnessClaimed_1 := ⟨start1.p0, start1.e0, start1.about1, start1.theMethod, start1.args0, start1.below0, start1.atStart⟩
end Jvm.Pilot.@@N@@
