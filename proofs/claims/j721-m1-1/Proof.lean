import JvmDerived
import JvmDerived.Pilot.@@N@@Statement
import JvmDerived.Pilot.@@N@@Code
set_option linter.unusedVariables false
set_option linter.unusedSimpArgs false
namespace Jvm.OwnKit
open Sem ClassFile Op Lib Jvm.Stand Jvm.Free Jvm.LawKit Jvm.RoadKit
section Own
variable {p : Program} {l : Launch} {e : Env} {R : Room} {s : State} {m : MethodId} {args : Array Value} {below : List Frame} {meth : Method} {c : Code} {T : State} {locs : List Loc} {cells slots : Nat} {Z : State} {a0 : Array Value} {h : Heap} {bytes : ByteArray} {pc : Nat} {Ls : Array Slot} {st : List Value} {cs ss : Nat} {Q : Option Value → Heap → List Loc → Prop}
/-- from the state T with the frame F on top the run comes to the method's end, returns, and Q holds of what it returned, of the heap and of the places written -/
def zEnds (p : Program) (e : Env) (below : List Frame) (s T : State) (F : JFrame) (cs ss : Nat) (Q : Option Value → Heap → List Loc → Prop) : Prop :=
  ∃ s₂ o, Steps p.tables e below (T.setTop F) s₂ ∧ s₂.status = .running ∧ Ended s₂ below o ∧ ∃ v L, o = .returned v ∧ Q v s₂.heap L ∧ FrameEnd s o s₂ L cs ss
theorem zstp {T T' : State} {F F' : JFrame} (st : ∀ target, Steps p.tables e below (T'.setTop F') target → Steps p.tables e below (T.setTop F) target) (k : zEnds p e below s T' F' cs ss Q) : zEnds p e below s T F cs ss Q := by
  obtain ⟨s2, o, h1, r⟩ := k; exact ⟨s2, o, st _ h1, r⟩
/-- what a callee promises: with these arguments, over this heap, it returns, and Q holds -/
def zCon (l : Launch) (Z : State) (y : MethodName) (bytes : ByteArray) (maxL : Nat) (ret : Option FieldType) (ws : List Jvm.Cond) (rm : Room) (as' : Array Value) (h0 : Heap) (Q : Option Value → Heap → List Loc → Prop) : Prop :=
  MetFree l y (head1 (Jvm.Cond.code y bytes maxL ret :: ws) rm) (fun a U => a = as' ∧ Z.Warmed39 U.vm ∧ U.heap = h0) (fun _ _ _ _ _ => True) (fun _ U o U' => ∃ v L, o = .returned v ∧ Q v U'.heap L ∧ FrameEnd U o U' L rm.cells rm.slots)
/-- a callee that writes nothing -/
def zSame (v : Option Value) (h0 : Heap) : Option Value → Heap → List Loc → Prop := fun v' h L => v' = v ∧ h = h0 ∧ L = []
theorem zenter {y : MethodName} {maxL : Nat} {ret : Option FieldType} {ws : List Jvm.Cond} {rm : Room} {as' : Array Value} {h0 : Heap} (hpl : plainFor y = true) {L0 : Array Slot} (hef : ∀ m, entryFrame m as' maxL = mkF m 0 L0 [])
    (H : ∀ (p : Program) (e : Env) (s : State) (m : MethodId) (below : List Frame) (meth : Method) (c : Code) (T : State), p.tables.exec = Jvm.exec → Z.Warmed39 s.vm → c.code = bytes → c.maxLocals = maxL → s.vm.findClass y.cls = some m.cls → meth.name = y.name → meth.sig.returnType = ret → meth.locks = false →
      Stand p l e rm s m as' below meth c T [] 0 0 → T.heap = h0 → zEnds p e below s T (mkF m 0 L0 []) rm.cells rm.slots Q) : zCon l Z y bytes maxL ret ws rm as' h0 Q := by
  refine MetFree.of_bodySF hpl hisR ?_
  intro p e s m args below meth c s₁ Bd hml0 hP hK
  obtain ⟨rfl, hZ, hh⟩ := hP
  have := H p e s m below meth c s₁ Bd.exec hZ Bd.bytes hml0 (findClass_of_methodNamed Bd.named) (name_of_methodNamed Bd.named Bd.method).1 Bd.returns Bd.notSynchronized (Stand.of_body Bd) (by rw [← hh, Bd.state]; rfl)
  rw [← hef m] at this
  exact this
theorem zCon.weak {y : MethodName} {maxL : Nat} {ret : Option FieldType} {ws : List Jvm.Cond} {rm : Room} {as' : Array Value} {h0 : Heap} {Q' : Option Value → Heap → List Loc → Prop} (C : zCon l Z y bytes maxL ret ws rm as' h0 Q) (q : ∀ v h L, Q v h L → Q' v h L) : zCon l Z y bytes maxL ret ws rm as' h0 Q' := by
  intro p e ha hc hk s m args below hf happ hP hK
  obtain ⟨n, o, h1, h2, h3, v, L, h4, h5, h6⟩ := C p e ha hc hk s m args below hf happ hP hK
  exact ⟨n, o, h1, h2, h3, v, L, h4, q v _ L h5, h6⟩
theorem zsameTo {T : State} {F : JFrame} {a b : Value} {h0 : Heap} (k : zEnds p e below s T F cs ss (zSame (some a) h0)) (q : a = b) : zEnds p e below s T F cs ss (zSame (some b) h0) := q ▸ k
/-! returns -/
theorem zretG {w : Value} {t : FieldType} {i : Instr} (X : Stand p l e R s m args below meth c T locs cells slots) (hx : p.tables.exec = Jvm.exec) (hby : c.code = bytes) (hd : decode bytes pc = .ok (i, 1)) (hret : meth.sig.returnType = some t) (hlk : meth.locks = false) (hn : narrow t w = w)
    (hi : (i = .ireturn ∧ (t = .int ∨ t = .boolean ∨ t = .byte ∨ t = .char ∨ t = .short) ∧ ∃ z, w = .int z) ∨ (i = .lreturn ∧ t = .long ∧ ∃ z, w = .long z) ∨ (i = .dreturn ∧ t = .double ∧ ∃ z, w = .double z) ∨ (i = .freturn ∧ t = .float ∧ ∃ z, w = .float z) ∨ (i = .areturn ∧ t.isReference = true ∧ w.isRef = true))
    (hc : cells ≤ cs) (hs : slots ≤ ss) (hq : Q (some w) T.heap locs) : zEnds p e below s T (mkF m pc Ls (w :: st)) cs ss Q := by
  obtain ⟨fs, hr, hrun, hended, hW, hsame⟩ := X.leave (v := some w) (fun q => by rw [hret] at q; cases q) hlk
  exact ⟨_, _, retOut X hx hret hn hi (hb hby hd) hr, hrun, hended, _, _, rfl, hq, ⟨_, rfl⟩, hW, hsame.mono hc hs⟩
theorem zretI {z : Int32} (X : Stand p l e R s m args below meth c T locs cells slots) (hx : p.tables.exec = Jvm.exec) (hby : c.code = bytes) (hd : decode bytes pc = .ok (.ireturn, 1)) (hret : meth.sig.returnType = some .int) (hlk : meth.locks = false) (hc : cells ≤ cs) (hs : slots ≤ ss) (hq : Q (some (.int z)) T.heap locs) : zEnds p e below s T (mkF m pc Ls (.int z :: st)) cs ss Q :=
  zretG X hx hby hd hret hlk rfl (Or.inl ⟨rfl, Or.inl rfl, z, rfl⟩) hc hs hq
theorem zretZ {z : Int32} {t : FieldType} (X : Stand p l e R s m args below meth c T locs cells slots) (hx : p.tables.exec = Jvm.exec) (hby : c.code = bytes) (hd : decode bytes pc = .ok (.ireturn, 1)) (hret : meth.sig.returnType = some t) (hlk : meth.locks = false) (ht : t = .boolean ∨ t = .byte ∨ t = .char ∨ t = .short) (hn : narrow t (.int z) = .int z) (hc : cells ≤ cs) (hs : slots ≤ ss) (hq : Q (some (.int z)) T.heap locs) : zEnds p e below s T (mkF m pc Ls (.int z :: st)) cs ss Q :=
  zretG X hx hby hd hret hlk hn (Or.inl ⟨rfl, Or.inr ht, z, rfl⟩) hc hs hq
theorem zretL {z : Int64} (X : Stand p l e R s m args below meth c T locs cells slots) (hx : p.tables.exec = Jvm.exec) (hby : c.code = bytes) (hd : decode bytes pc = .ok (.lreturn, 1)) (hret : meth.sig.returnType = some .long) (hlk : meth.locks = false) (hc : cells ≤ cs) (hs : slots ≤ ss) (hq : Q (some (.long z)) T.heap locs) : zEnds p e below s T (mkF m pc Ls (.long z :: st)) cs ss Q :=
  zretG X hx hby hd hret hlk rfl (Or.inr (Or.inl ⟨rfl, rfl, z, rfl⟩)) hc hs hq
theorem zretA {w : Value} {t : FieldType} (X : Stand p l e R s m args below meth c T locs cells slots) (hx : p.tables.exec = Jvm.exec) (hby : c.code = bytes) (hd : decode bytes pc = .ok (.areturn, 1)) (hret : meth.sig.returnType = some t) (hlk : meth.locks = false) (ht : t.isReference = true) (hw : w.isRef = true) (hn : narrow t w = w) (hc : cells ≤ cs) (hs : slots ≤ ss) (hq : Q (some w) T.heap locs) : zEnds p e below s T (mkF m pc Ls (w :: st)) cs ss Q :=
  zretG X hx hby hd hret hlk hn (Or.inr (Or.inr (Or.inr (Or.inr ⟨rfl, ht, hw⟩)))) hc hs hq
theorem zretV (X : Stand p l e R s m args below meth c T locs cells slots) (hx : p.tables.exec = Jvm.exec) (hby : c.code = bytes) (hd : decode bytes pc = .ok (.return_, 1)) (hret : meth.sig.returnType = none) (hlk : meth.locks = false) (hc : cells ≤ cs) (hs : slots ≤ ss) (hq : Q none T.heap locs) : zEnds p e below s T (mkF m pc Ls []) cs ss Q := by
  obtain ⟨fs, hr, hrun, hended, hW, hsame⟩ := X.leave (v := none) (fun _ => rfl) hlk
  exact ⟨_, _, X.returnOut hx hret (hb hby hd) hr, hrun, hended, _, _, rfl, hq, ⟨_, rfl⟩, hW, hsame.mono hc hs⟩
/-! single steps -/

theorem ziloadN (X : Stand p l e R s m args below meth c T locs cells slots) (hx : p.tables.exec = Jvm.exec) (hby : c.code = bytes) {k : Fin 4} {v : Int32} (hd : decode bytes pc = .ok (.iload_n k, 1)) (hl : Ls[k.val]? = some (.val (.int v))) (r : zEnds p e below s T (mkF m (pc + 1) Ls (.int v :: st)) cs ss Q) : zEnds p e below s T (mkF m pc Ls st) cs ss Q := zstp (fun _ k => XS.iloadN X.here hx rfl (hb hby hd) hl k) r
theorem ziload (X : Stand p l e R s m args below meth c T locs cells slots) (hx : p.tables.exec = Jvm.exec) (hby : c.code = bytes) {k : Nat} {v : Int32} (hd : decode bytes pc = .ok (.iload k, 2)) (hl : Ls[k]? = some (.val (.int v))) (r : zEnds p e below s T (mkF m (pc + 2) Ls (.int v :: st)) cs ss Q) : zEnds p e below s T (mkF m pc Ls st) cs ss Q := zstp (fun _ k => XS.iload X.here hx rfl (hb hby hd) hl k) r
theorem zlloadN (X : Stand p l e R s m args below meth c T locs cells slots) (hx : p.tables.exec = Jvm.exec) (hby : c.code = bytes) {k : Fin 4} {v : Int64} (hd : decode bytes pc = .ok (.lload_n k, 1)) (hl : Ls[k.val]? = some (.val (.long v))) (r : zEnds p e below s T (mkF m (pc + 1) Ls (.long v :: st)) cs ss Q) : zEnds p e below s T (mkF m pc Ls st) cs ss Q := zstp (fun _ k => XS.lloadN X.here hx rfl (hb hby hd) hl k) r
theorem zlload (X : Stand p l e R s m args below meth c T locs cells slots) (hx : p.tables.exec = Jvm.exec) (hby : c.code = bytes) {k : Nat} {v : Int64} (hd : decode bytes pc = .ok (.lload k, 2)) (hl : Ls[k]? = some (.val (.long v))) (r : zEnds p e below s T (mkF m (pc + 2) Ls (.long v :: st)) cs ss Q) : zEnds p e below s T (mkF m pc Ls st) cs ss Q := zstp (fun _ k => XS.lload X.here hx rfl (hb hby hd) hl k) r
theorem zaloadN (X : Stand p l e R s m args below meth c T locs cells slots) (hx : p.tables.exec = Jvm.exec) (hby : c.code = bytes) {k : Fin 4} {v : Value} (hd : decode bytes pc = .ok (.aload_n k, 1)) (hl : Ls[k.val]? = some (.val v)) (hv : v.isRef = true) (r : zEnds p e below s T (mkF m (pc + 1) Ls (v :: st)) cs ss Q) : zEnds p e below s T (mkF m pc Ls st) cs ss Q := zstp (fun _ k => XS.aloadN X.here hx rfl (hb hby hd) hl hv k) r
theorem zaload (X : Stand p l e R s m args below meth c T locs cells slots) (hx : p.tables.exec = Jvm.exec) (hby : c.code = bytes) {k : Nat} {v : Value} (hd : decode bytes pc = .ok (.aload k, 2)) (hl : Ls[k]? = some (.val v)) (hv : v.isRef = true) (r : zEnds p e below s T (mkF m (pc + 2) Ls (v :: st)) cs ss Q) : zEnds p e below s T (mkF m pc Ls st) cs ss Q := zstp (fun _ k => XS.aload X.here hx rfl (hb hby hd) hl hv k) r
theorem zistoreN (X : Stand p l e R s m args below meth c T locs cells slots) (hx : p.tables.exec = Jvm.exec) (hby : c.code = bytes) {k : Fin 4} {v : Int32} (hd : decode bytes pc = .ok (.istore_n k, 1)) (L' : Array Slot) (hl : storeLocals Ls k.val (.int v) = some L') (r : zEnds p e below s T (mkF m (pc + 1) L' st) cs ss Q) : zEnds p e below s T (mkF m pc Ls (.int v :: st)) cs ss Q := zstp (fun _ k => XS.istoreN X.here hx rfl (hb hby hd) rfl hl k) r
theorem zistore (X : Stand p l e R s m args below meth c T locs cells slots) (hx : p.tables.exec = Jvm.exec) (hby : c.code = bytes) {k : Nat} {v : Int32} (hd : decode bytes pc = .ok (.istore k, 2)) (L' : Array Slot) (hl : storeLocals Ls k (.int v) = some L') (r : zEnds p e below s T (mkF m (pc + 2) L' st) cs ss Q) : zEnds p e below s T (mkF m pc Ls (.int v :: st)) cs ss Q := zstp (fun _ k => XS.istore X.here hx rfl (hb hby hd) rfl hl k) r
theorem zlstoreN (X : Stand p l e R s m args below meth c T locs cells slots) (hx : p.tables.exec = Jvm.exec) (hby : c.code = bytes) {k : Fin 4} {v : Int64} (hd : decode bytes pc = .ok (.lstore_n k, 1)) (L' : Array Slot) (hl : storeLocals Ls k.val (.long v) = some L') (r : zEnds p e below s T (mkF m (pc + 1) L' st) cs ss Q) : zEnds p e below s T (mkF m pc Ls (.long v :: st)) cs ss Q := zstp (fun _ k => XS.lstoreN X.here hx rfl (hb hby hd) rfl hl k) r
theorem zlstore (X : Stand p l e R s m args below meth c T locs cells slots) (hx : p.tables.exec = Jvm.exec) (hby : c.code = bytes) {k : Nat} {v : Int64} (hd : decode bytes pc = .ok (.lstore k, 2)) (L' : Array Slot) (hl : storeLocals Ls k (.long v) = some L') (r : zEnds p e below s T (mkF m (pc + 2) L' st) cs ss Q) : zEnds p e below s T (mkF m pc Ls (.long v :: st)) cs ss Q := zstp (fun _ k => XS.lstore X.here hx rfl (hb hby hd) rfl hl k) r
theorem zastoreN (X : Stand p l e R s m args below meth c T locs cells slots) (hx : p.tables.exec = Jvm.exec) (hby : c.code = bytes) {k : Fin 4} {v : Value} (hd : decode bytes pc = .ok (.astore_n k, 1)) (L' : Array Slot) (hv : v.isRef = true) (hl : storeLocals Ls k.val v = some L') (r : zEnds p e below s T (mkF m (pc + 1) L' st) cs ss Q) : zEnds p e below s T (mkF m pc Ls (v :: st)) cs ss Q := zstp (fun _ k => XS.astoreN X.here hx rfl (hb hby hd) rfl hv hl k) r
theorem zastore (X : Stand p l e R s m args below meth c T locs cells slots) (hx : p.tables.exec = Jvm.exec) (hby : c.code = bytes) {k : Nat} {v : Value} (hd : decode bytes pc = .ok (.astore k, 2)) (L' : Array Slot) (hv : v.isRef = true) (hl : storeLocals Ls k v = some L') (r : zEnds p e below s T (mkF m (pc + 2) L' st) cs ss Q) : zEnds p e below s T (mkF m pc Ls (v :: st)) cs ss Q := zstp (fun _ k => XS.astore X.here hx rfl (hb hby hd) rfl hv hl k) r
theorem ziconst (X : Stand p l e R s m args below meth c T locs cells slots) (hx : p.tables.exec = Jvm.exec) (hby : c.code = bytes) {i : Int} (hd : decode bytes pc = .ok (.iconst i, 1)) (z : Int32) (hz : Int32.ofInt i = z) (r : zEnds p e below s T (mkF m (pc + 1) Ls (.int z :: st)) cs ss Q) : zEnds p e below s T (mkF m pc Ls st) cs ss Q := zstp (fun _ k => XS.iconst X.here hx rfl (hb hby hd) (hz ▸ k)) r
theorem zbipush (X : Stand p l e R s m args below meth c T locs cells slots) (hx : p.tables.exec = Jvm.exec) (hby : c.code = bytes) {i : Int} (hd : decode bytes pc = .ok (.bipush i, 2)) (z : Int32) (hz : (Int8.ofInt i).toInt32 = z) (r : zEnds p e below s T (mkF m (pc + 2) Ls (.int z :: st)) cs ss Q) : zEnds p e below s T (mkF m pc Ls st) cs ss Q := zstp (fun _ k => XS.bipush X.here hx rfl (hb hby hd) (hz ▸ k)) r
theorem zsipush (X : Stand p l e R s m args below meth c T locs cells slots) (hx : p.tables.exec = Jvm.exec) (hby : c.code = bytes) {i : Int} (hd : decode bytes pc = .ok (.sipush i, 3)) (z : Int32) (hz : (Int16.ofInt i).toInt32 = z) (r : zEnds p e below s T (mkF m (pc + 3) Ls (.int z :: st)) cs ss Q) : zEnds p e below s T (mkF m pc Ls st) cs ss Q := zstp (fun _ k => XS.sipush X.here hx rfl (hb hby hd) (hz ▸ k)) r
theorem zlconst (X : Stand p l e R s m args below meth c T locs cells slots) (hx : p.tables.exec = Jvm.exec) (hby : c.code = bytes) {i : Fin 2} (hd : decode bytes pc = .ok (.lconst i, 1)) (z : Int64) (hz : Int64.ofNat i = z) (r : zEnds p e below s T (mkF m (pc + 1) Ls (.long z :: st)) cs ss Q) : zEnds p e below s T (mkF m pc Ls st) cs ss Q := zstp (fun _ k => XS.lconst X.here hx rfl (hb hby hd) (hz ▸ k)) r
theorem zaconstNull (X : Stand p l e R s m args below meth c T locs cells slots) (hx : p.tables.exec = Jvm.exec) (hby : c.code = bytes)  (hd : decode bytes pc = .ok (.aconst_null, 1))  (r : zEnds p e below s T (mkF m (pc + 1) Ls (.null :: st)) cs ss Q) : zEnds p e below s T (mkF m pc Ls st) cs ss Q := zstp (fun _ k => XS.aconstNull X.here hx rfl (hb hby hd) k) r
theorem ziadd (X : Stand p l e R s m args below meth c T locs cells slots) (hx : p.tables.exec = Jvm.exec) (hby : c.code = bytes) {x y : Int32} (hd : decode bytes pc = .ok (.iadd, 1)) (z : Int32) (hz : x + y = z) (r : zEnds p e below s T (mkF m (pc + 1) Ls (.int z :: st)) cs ss Q) : zEnds p e below s T (mkF m pc Ls (.int y :: .int x :: st)) cs ss Q := zstp (fun _ k => XS.iadd X.here hx rfl (hb hby hd) rfl (hz ▸ k)) r
theorem zisub (X : Stand p l e R s m args below meth c T locs cells slots) (hx : p.tables.exec = Jvm.exec) (hby : c.code = bytes) {x y : Int32} (hd : decode bytes pc = .ok (.isub, 1)) (z : Int32) (hz : x - y = z) (r : zEnds p e below s T (mkF m (pc + 1) Ls (.int z :: st)) cs ss Q) : zEnds p e below s T (mkF m pc Ls (.int y :: .int x :: st)) cs ss Q := zstp (fun _ k => XS.isub X.here hx rfl (hb hby hd) rfl (hz ▸ k)) r
theorem zimul (X : Stand p l e R s m args below meth c T locs cells slots) (hx : p.tables.exec = Jvm.exec) (hby : c.code = bytes) {x y : Int32} (hd : decode bytes pc = .ok (.imul, 1)) (z : Int32) (hz : x * y = z) (r : zEnds p e below s T (mkF m (pc + 1) Ls (.int z :: st)) cs ss Q) : zEnds p e below s T (mkF m pc Ls (.int y :: .int x :: st)) cs ss Q := zstp (fun _ k => XS.imul X.here hx rfl (hb hby hd) rfl (hz ▸ k)) r
theorem ziand (X : Stand p l e R s m args below meth c T locs cells slots) (hx : p.tables.exec = Jvm.exec) (hby : c.code = bytes) {x y : Int32} (hd : decode bytes pc = .ok (.iand, 1)) (z : Int32) (hz : x &&& y = z) (r : zEnds p e below s T (mkF m (pc + 1) Ls (.int z :: st)) cs ss Q) : zEnds p e below s T (mkF m pc Ls (.int y :: .int x :: st)) cs ss Q := zstp (fun _ k => XS.iand X.here hx rfl (hb hby hd) rfl (hz ▸ k)) r
theorem zior (X : Stand p l e R s m args below meth c T locs cells slots) (hx : p.tables.exec = Jvm.exec) (hby : c.code = bytes) {x y : Int32} (hd : decode bytes pc = .ok (.ior, 1)) (z : Int32) (hz : x ||| y = z) (r : zEnds p e below s T (mkF m (pc + 1) Ls (.int z :: st)) cs ss Q) : zEnds p e below s T (mkF m pc Ls (.int y :: .int x :: st)) cs ss Q := zstp (fun _ k => XS.ior X.here hx rfl (hb hby hd) rfl (hz ▸ k)) r
theorem zixor (X : Stand p l e R s m args below meth c T locs cells slots) (hx : p.tables.exec = Jvm.exec) (hby : c.code = bytes) {x y : Int32} (hd : decode bytes pc = .ok (.ixor, 1)) (z : Int32) (hz : x ^^^ y = z) (r : zEnds p e below s T (mkF m (pc + 1) Ls (.int z :: st)) cs ss Q) : zEnds p e below s T (mkF m pc Ls (.int y :: .int x :: st)) cs ss Q := zstp (fun _ k => XS.ixor X.here hx rfl (hb hby hd) rfl (hz ▸ k)) r
theorem zishl (X : Stand p l e R s m args below meth c T locs cells slots) (hx : p.tables.exec = Jvm.exec) (hby : c.code = bytes) {x y : Int32} (hd : decode bytes pc = .ok (.ishl, 1)) (z : Int32) (hz : x <<< (y &&& 31) = z) (r : zEnds p e below s T (mkF m (pc + 1) Ls (.int z :: st)) cs ss Q) : zEnds p e below s T (mkF m pc Ls (.int y :: .int x :: st)) cs ss Q := zstp (fun _ k => XS.ishl X.here hx rfl (hb hby hd) rfl (hz ▸ k)) r
theorem zishr (X : Stand p l e R s m args below meth c T locs cells slots) (hx : p.tables.exec = Jvm.exec) (hby : c.code = bytes) {x y : Int32} (hd : decode bytes pc = .ok (.ishr, 1)) (z : Int32) (hz : x >>> (y &&& 31) = z) (r : zEnds p e below s T (mkF m (pc + 1) Ls (.int z :: st)) cs ss Q) : zEnds p e below s T (mkF m pc Ls (.int y :: .int x :: st)) cs ss Q := zstp (fun _ k => XS.ishr X.here hx rfl (hb hby hd) rfl (hz ▸ k)) r
theorem ziushr (X : Stand p l e R s m args below meth c T locs cells slots) (hx : p.tables.exec = Jvm.exec) (hby : c.code = bytes) {x y : Int32} (hd : decode bytes pc = .ok (.iushr, 1)) (z : Int32) (hz : (x.toUInt32 >>> (y &&& 31).toUInt32).toInt32 = z) (r : zEnds p e below s T (mkF m (pc + 1) Ls (.int z :: st)) cs ss Q) : zEnds p e below s T (mkF m pc Ls (.int y :: .int x :: st)) cs ss Q := zstp (fun _ k => XS.iushr X.here hx rfl (hb hby hd) rfl (hz ▸ k)) r
theorem zladd (X : Stand p l e R s m args below meth c T locs cells slots) (hx : p.tables.exec = Jvm.exec) (hby : c.code = bytes) {x y : Int64} (hd : decode bytes pc = .ok (.ladd, 1)) (z : Int64) (hz : x + y = z) (r : zEnds p e below s T (mkF m (pc + 1) Ls (.long z :: st)) cs ss Q) : zEnds p e below s T (mkF m pc Ls (.long y :: .long x :: st)) cs ss Q := zstp (fun _ k => XS.ladd X.here hx rfl (hb hby hd) rfl (hz ▸ k)) r
theorem zlsub (X : Stand p l e R s m args below meth c T locs cells slots) (hx : p.tables.exec = Jvm.exec) (hby : c.code = bytes) {x y : Int64} (hd : decode bytes pc = .ok (.lsub, 1)) (z : Int64) (hz : x - y = z) (r : zEnds p e below s T (mkF m (pc + 1) Ls (.long z :: st)) cs ss Q) : zEnds p e below s T (mkF m pc Ls (.long y :: .long x :: st)) cs ss Q := zstp (fun _ k => XS.lsub X.here hx rfl (hb hby hd) rfl (hz ▸ k)) r
theorem zlmul (X : Stand p l e R s m args below meth c T locs cells slots) (hx : p.tables.exec = Jvm.exec) (hby : c.code = bytes) {x y : Int64} (hd : decode bytes pc = .ok (.lmul, 1)) (z : Int64) (hz : x * y = z) (r : zEnds p e below s T (mkF m (pc + 1) Ls (.long z :: st)) cs ss Q) : zEnds p e below s T (mkF m pc Ls (.long y :: .long x :: st)) cs ss Q := zstp (fun _ k => XS.lmul X.here hx rfl (hb hby hd) rfl (hz ▸ k)) r
theorem zland (X : Stand p l e R s m args below meth c T locs cells slots) (hx : p.tables.exec = Jvm.exec) (hby : c.code = bytes) {x y : Int64} (hd : decode bytes pc = .ok (.land, 1)) (z : Int64) (hz : x &&& y = z) (r : zEnds p e below s T (mkF m (pc + 1) Ls (.long z :: st)) cs ss Q) : zEnds p e below s T (mkF m pc Ls (.long y :: .long x :: st)) cs ss Q := zstp (fun _ k => XS.land X.here hx rfl (hb hby hd) rfl (hz ▸ k)) r
theorem zlor (X : Stand p l e R s m args below meth c T locs cells slots) (hx : p.tables.exec = Jvm.exec) (hby : c.code = bytes) {x y : Int64} (hd : decode bytes pc = .ok (.lor, 1)) (z : Int64) (hz : x ||| y = z) (r : zEnds p e below s T (mkF m (pc + 1) Ls (.long z :: st)) cs ss Q) : zEnds p e below s T (mkF m pc Ls (.long y :: .long x :: st)) cs ss Q := zstp (fun _ k => XS.lor X.here hx rfl (hb hby hd) rfl (hz ▸ k)) r
theorem zlxor (X : Stand p l e R s m args below meth c T locs cells slots) (hx : p.tables.exec = Jvm.exec) (hby : c.code = bytes) {x y : Int64} (hd : decode bytes pc = .ok (.lxor, 1)) (z : Int64) (hz : x ^^^ y = z) (r : zEnds p e below s T (mkF m (pc + 1) Ls (.long z :: st)) cs ss Q) : zEnds p e below s T (mkF m pc Ls (.long y :: .long x :: st)) cs ss Q := zstp (fun _ k => XS.lxor X.here hx rfl (hb hby hd) rfl (hz ▸ k)) r
theorem zlshl (X : Stand p l e R s m args below meth c T locs cells slots) (hx : p.tables.exec = Jvm.exec) (hby : c.code = bytes) {x : Int64} {y : Int32} (hd : decode bytes pc = .ok (.lshl, 1)) (z : Int64) (hz : x <<< (y &&& 0x3f).toInt64 = z) (r : zEnds p e below s T (mkF m (pc + 1) Ls (.long z :: st)) cs ss Q) : zEnds p e below s T (mkF m pc Ls (.int y :: .long x :: st)) cs ss Q := zstp (fun _ k => XS.lshl X.here hx rfl (hb hby hd) rfl (hz ▸ k)) r
theorem zlshr (X : Stand p l e R s m args below meth c T locs cells slots) (hx : p.tables.exec = Jvm.exec) (hby : c.code = bytes) {x : Int64} {y : Int32} (hd : decode bytes pc = .ok (.lshr, 1)) (z : Int64) (hz : x >>> (y &&& 0x3f).toInt64 = z) (r : zEnds p e below s T (mkF m (pc + 1) Ls (.long z :: st)) cs ss Q) : zEnds p e below s T (mkF m pc Ls (.int y :: .long x :: st)) cs ss Q := zstp (fun _ k => XS.lshr X.here hx rfl (hb hby hd) rfl (hz ▸ k)) r
theorem zlushr (X : Stand p l e R s m args below meth c T locs cells slots) (hx : p.tables.exec = Jvm.exec) (hby : c.code = bytes) {x : Int64} {y : Int32} (hd : decode bytes pc = .ok (.lushr, 1)) (z : Int64) (hz : (x.toUInt64 >>> (y &&& 0x3f).toInt64.toUInt64).toInt64 = z) (r : zEnds p e below s T (mkF m (pc + 1) Ls (.long z :: st)) cs ss Q) : zEnds p e below s T (mkF m pc Ls (.int y :: .long x :: st)) cs ss Q := zstp (fun _ k => XS.lushr X.here hx rfl (hb hby hd) rfl (hz ▸ k)) r
theorem zineg (X : Stand p l e R s m args below meth c T locs cells slots) (hx : p.tables.exec = Jvm.exec) (hby : c.code = bytes) {x : Int32} (hd : decode bytes pc = .ok (.ineg, 1)) (z : Int32) (hz : -x = z) (r : zEnds p e below s T (mkF m (pc + 1) Ls (.int z :: st)) cs ss Q) : zEnds p e below s T (mkF m pc Ls (.int x :: st)) cs ss Q := zstp (fun _ k => XS.ineg X.here hx rfl (hb hby hd) rfl (hz ▸ k)) r
theorem zlneg (X : Stand p l e R s m args below meth c T locs cells slots) (hx : p.tables.exec = Jvm.exec) (hby : c.code = bytes) {x : Int64} (hd : decode bytes pc = .ok (.lneg, 1)) (z : Int64) (hz : -x = z) (r : zEnds p e below s T (mkF m (pc + 1) Ls (.long z :: st)) cs ss Q) : zEnds p e below s T (mkF m pc Ls (.long x :: st)) cs ss Q := zstp (fun _ k => XS.lneg X.here hx rfl (hb hby hd) rfl (hz ▸ k)) r
theorem zidiv (X : Stand p l e R s m args below meth c T locs cells slots) (hx : p.tables.exec = Jvm.exec) (hby : c.code = bytes) {x y : Int32} (hd : decode bytes pc = .ok (.idiv, 1)) (z : Int32) (hy : y ≠ 0) (hz : x / y = z) (r : zEnds p e below s T (mkF m (pc + 1) Ls (.int z :: st)) cs ss Q) : zEnds p e below s T (mkF m pc Ls (.int y :: .int x :: st)) cs ss Q := zstp (fun _ k => XS.idiv X.here hx rfl (hb hby hd) rfl hy (hz ▸ k)) r
theorem zirem (X : Stand p l e R s m args below meth c T locs cells slots) (hx : p.tables.exec = Jvm.exec) (hby : c.code = bytes) {x y : Int32} (hd : decode bytes pc = .ok (.irem, 1)) (z : Int32) (hy : y ≠ 0) (hz : x % y = z) (r : zEnds p e below s T (mkF m (pc + 1) Ls (.int z :: st)) cs ss Q) : zEnds p e below s T (mkF m pc Ls (.int y :: .int x :: st)) cs ss Q := zstp (fun _ k => iremM X hx rfl (hb hby hd) rfl hy (hz ▸ k)) r
theorem zldiv (X : Stand p l e R s m args below meth c T locs cells slots) (hx : p.tables.exec = Jvm.exec) (hby : c.code = bytes) {x y : Int64} (hd : decode bytes pc = .ok (.ldiv, 1)) (z : Int64) (hy : y ≠ 0) (hz : x / y = z) (r : zEnds p e below s T (mkF m (pc + 1) Ls (.long z :: st)) cs ss Q) : zEnds p e below s T (mkF m pc Ls (.long y :: .long x :: st)) cs ss Q := zstp (fun _ k => XS.ldiv X.here hx rfl (hb hby hd) rfl hy (hz ▸ k)) r
theorem zlrem (X : Stand p l e R s m args below meth c T locs cells slots) (hx : p.tables.exec = Jvm.exec) (hby : c.code = bytes) {x y : Int64} (hd : decode bytes pc = .ok (.lrem, 1)) (z : Int64) (hy : y ≠ 0) (hz : x % y = z) (r : zEnds p e below s T (mkF m (pc + 1) Ls (.long z :: st)) cs ss Q) : zEnds p e below s T (mkF m pc Ls (.long y :: .long x :: st)) cs ss Q := zstp (fun _ k => XS.lrem X.here hx rfl (hb hby hd) rfl hy (by rw [lrem_mod, hz]; exact k)) r
theorem zi2l (X : Stand p l e R s m args below meth c T locs cells slots) (hx : p.tables.exec = Jvm.exec) (hby : c.code = bytes) {v : Int32} (hd : decode bytes pc = .ok (.i2l, 1)) (z : Int64) (hz : v.toInt64 = z) (r : zEnds p e below s T (mkF m (pc + 1) Ls (.long z :: st)) cs ss Q) : zEnds p e below s T (mkF m pc Ls (.int v :: st)) cs ss Q := zstp (fun _ k => XS.i2l X.here hx rfl (hb hby hd) rfl (hz ▸ k)) r
theorem zl2i (X : Stand p l e R s m args below meth c T locs cells slots) (hx : p.tables.exec = Jvm.exec) (hby : c.code = bytes) {v : Int64} (hd : decode bytes pc = .ok (.l2i, 1)) (z : Int32) (hz : v.toInt32 = z) (r : zEnds p e below s T (mkF m (pc + 1) Ls (.int z :: st)) cs ss Q) : zEnds p e below s T (mkF m pc Ls (.long v :: st)) cs ss Q := zstp (fun _ k => XS.l2i X.here hx rfl (hb hby hd) rfl (hz ▸ k)) r
theorem zi2b (X : Stand p l e R s m args below meth c T locs cells slots) (hx : p.tables.exec = Jvm.exec) (hby : c.code = bytes) {v : Int32} (hd : decode bytes pc = .ok (.i2b, 1)) (z : Int32) (hz : v.toInt8.toInt32 = z) (r : zEnds p e below s T (mkF m (pc + 1) Ls (.int z :: st)) cs ss Q) : zEnds p e below s T (mkF m pc Ls (.int v :: st)) cs ss Q := zstp (fun _ k => XS.i2b X.here hx rfl (hb hby hd) rfl (hz ▸ k)) r
theorem zi2c (X : Stand p l e R s m args below meth c T locs cells slots) (hx : p.tables.exec = Jvm.exec) (hby : c.code = bytes) {v : Int32} (hd : decode bytes pc = .ok (.i2c, 1)) (z : Int32) (hz : v.toUInt32.toUInt16.toUInt32.toInt32 = z) (r : zEnds p e below s T (mkF m (pc + 1) Ls (.int z :: st)) cs ss Q) : zEnds p e below s T (mkF m pc Ls (.int v :: st)) cs ss Q := zstp (fun _ k => XS.i2c X.here hx rfl (hb hby hd) rfl (hz ▸ k)) r
theorem zi2s (X : Stand p l e R s m args below meth c T locs cells slots) (hx : p.tables.exec = Jvm.exec) (hby : c.code = bytes) {v : Int32} (hd : decode bytes pc = .ok (.i2s, 1)) (z : Int32) (hz : v.toInt16.toInt32 = z) (r : zEnds p e below s T (mkF m (pc + 1) Ls (.int z :: st)) cs ss Q) : zEnds p e below s T (mkF m pc Ls (.int v :: st)) cs ss Q := zstp (fun _ k => XS.i2s X.here hx rfl (hb hby hd) rfl (hz ▸ k)) r
theorem zlcmp (X : Stand p l e R s m args below meth c T locs cells slots) (hx : p.tables.exec = Jvm.exec) (hby : c.code = bytes) {x y : Int64} (hd : decode bytes pc = .ok (.lcmp, 1)) (z : Int32) (hz : lcmpW x y = z) (r : zEnds p e below s T (mkF m (pc + 1) Ls (.int z :: st)) cs ss Q) : zEnds p e below s T (mkF m pc Ls (.long y :: .long x :: st)) cs ss Q := zstp (fun _ k => XS.lcmp X.here hx rfl (hb hby hd) rfl (by subst hz; exact k)) r
theorem zdup (X : Stand p l e R s m args below meth c T locs cells slots) (hx : p.tables.exec = Jvm.exec) (hby : c.code = bytes) {x : Value} (hd : decode bytes pc = .ok (.dup, 1)) (hc : x.category = 1) (r : zEnds p e below s T (mkF m (pc + 1) Ls (x :: x :: st)) cs ss Q) : zEnds p e below s T (mkF m pc Ls (x :: st)) cs ss Q := zstp (fun _ k => XS.dup X.here hx rfl (hb hby hd) rfl hc k) r
theorem zpop (X : Stand p l e R s m args below meth c T locs cells slots) (hx : p.tables.exec = Jvm.exec) (hby : c.code = bytes) {x : Value} (hd : decode bytes pc = .ok (.pop, 1)) (hc : x.category = 1) (r : zEnds p e below s T (mkF m (pc + 1) Ls st) cs ss Q) : zEnds p e below s T (mkF m pc Ls (x :: st)) cs ss Q := zstp (fun _ k => XS.pop X.here hx rfl (hb hby hd) rfl hc k) r
theorem zdupX1 (X : Stand p l e R s m args below meth c T locs cells slots) (hx : p.tables.exec = Jvm.exec) (hby : c.code = bytes) {x y : Value} (hd : decode bytes pc = .ok (.dup_x1, 1)) (hc : x.category = 1) (hc' : y.category = 1) (r : zEnds p e below s T (mkF m (pc + 1) Ls (x :: y :: x :: st)) cs ss Q) : zEnds p e below s T (mkF m pc Ls (x :: y :: st)) cs ss Q := zstp (fun _ k => XS.dupX1 X.here hx rfl (hb hby hd) rfl hc hc' k) r
theorem ziinc (X : Stand p l e R s m args below meth c T locs cells slots) (hx : p.tables.exec = Jvm.exec) (hby : c.code = bytes) {k : Nat} {i : Int} {x : Int32} (hd : decode bytes pc = .ok (.iinc k i, 3)) (L' : Array Slot) (hl : Ls[k]? = some (.val (.int x))) (hl' : storeLocals Ls k (.int (x + Int32.ofInt i)) = some L') (r : zEnds p e below s T (mkF m (pc + 3) L' st) cs ss Q) : zEnds p e below s T (mkF m pc Ls st) cs ss Q := zstp (fun _ k => XS.iinc X.here hx rfl (hb hby hd) hl hl' k) r
theorem zgoto (X : Stand p l e R s m args below meth c T locs cells slots) (hx : p.tables.exec = Jvm.exec) (hby : c.code = bytes) {o : Int} (hd : decode bytes pc = .ok (.goto o, 3)) (pc' : Nat) (ho : 0 ≤ (pc : Int) + o) (hp : ((pc : Int) + o).toNat = pc') (r : zEnds p e below s T (mkF m pc' Ls st) cs ss Q) : zEnds p e below s T (mkF m pc Ls st) cs ss Q := zstp (fun _ k => XS.goto X.here hx rfl rfl (hb hby hd) ho hp k) r
theorem zifYes (X : Stand p l e R s m args below meth c T locs cells slots) (hx : p.tables.exec = Jvm.exec) (hby : c.code = bytes) {cd : ClassFile.Cond} {x : Int32} {o : Int} (hd : decode bytes pc = .ok (.ifCond cd o, 3)) (pc' : Nat) (hc : ifCond.holds cd x = true) (ho : 0 ≤ (pc : Int) + o) (hp : ((pc : Int) + o).toNat = pc') (r : zEnds p e below s T (mkF m pc' Ls st) cs ss Q) : zEnds p e below s T (mkF m pc Ls (.int x :: st)) cs ss Q := zstp (fun _ k => XS.ifYes X.here hx rfl rfl (hb hby hd) rfl hc ho hp k) r
theorem zifNo (X : Stand p l e R s m args below meth c T locs cells slots) (hx : p.tables.exec = Jvm.exec) (hby : c.code = bytes) {cd : ClassFile.Cond} {x : Int32} {o : Int} (hd : decode bytes pc = .ok (.ifCond cd o, 3)) (hc : ifCond.holds cd x = false) (r : zEnds p e below s T (mkF m (pc + 3) Ls st) cs ss Q) : zEnds p e below s T (mkF m pc Ls (.int x :: st)) cs ss Q := zstp (fun _ k => XS.ifNo X.here hx rfl (hb hby hd) rfl hc k) r
theorem zicmpYes (X : Stand p l e R s m args below meth c T locs cells slots) (hx : p.tables.exec = Jvm.exec) (hby : c.code = bytes) {cd : ClassFile.Cond} {x y : Int32} {o : Int} (hd : decode bytes pc = .ok (.if_icmp cd o, 3)) (pc' : Nat) (hc : if_icmp.holds cd x y = true) (ho : 0 ≤ (pc : Int) + o) (hp : ((pc : Int) + o).toNat = pc') (r : zEnds p e below s T (mkF m pc' Ls st) cs ss Q) : zEnds p e below s T (mkF m pc Ls (.int y :: .int x :: st)) cs ss Q := zstp (fun _ k => XS.icmpYes X.here hx rfl rfl (hb hby hd) rfl hc ho hp k) r
theorem zicmpNo (X : Stand p l e R s m args below meth c T locs cells slots) (hx : p.tables.exec = Jvm.exec) (hby : c.code = bytes) {cd : ClassFile.Cond} {x y : Int32} {o : Int} (hd : decode bytes pc = .ok (.if_icmp cd o, 3)) (hc : if_icmp.holds cd x y = false) (r : zEnds p e below s T (mkF m (pc + 3) Ls st) cs ss Q) : zEnds p e below s T (mkF m pc Ls (.int y :: .int x :: st)) cs ss Q := zstp (fun _ k => XS.icmpNo X.here hx rfl (hb hby hd) rfl hc k) r
theorem zifnullYes (X : Stand p l e R s m args below meth c T locs cells slots) (hx : p.tables.exec = Jvm.exec) (hby : c.code = bytes) {o : Int} (hd : decode bytes pc = .ok (.ifnull o, 3)) (pc' : Nat) (ho : 0 ≤ (pc : Int) + o) (hp : ((pc : Int) + o).toNat = pc') (r : zEnds p e below s T (mkF m pc' Ls st) cs ss Q) : zEnds p e below s T (mkF m pc Ls (.null :: st)) cs ss Q := zstp (fun _ k => XS.ifnullYes X.here hx rfl rfl (hb hby hd) rfl ho hp k) r
theorem zifnullNo (X : Stand p l e R s m args below meth c T locs cells slots) (hx : p.tables.exec = Jvm.exec) (hby : c.code = bytes) {b : Addr} {o : Int} (hd : decode bytes pc = .ok (.ifnull o, 3))  (r : zEnds p e below s T (mkF m (pc + 3) Ls st) cs ss Q) : zEnds p e below s T (mkF m pc Ls (.ref b :: st)) cs ss Q := zstp (fun _ k => XS.ifnullNo X.here hx rfl (hb hby hd) rfl k) r
theorem zifnonnullYes (X : Stand p l e R s m args below meth c T locs cells slots) (hx : p.tables.exec = Jvm.exec) (hby : c.code = bytes) {b : Addr} {o : Int} (hd : decode bytes pc = .ok (.ifnonnull o, 3)) (pc' : Nat) (ho : 0 ≤ (pc : Int) + o) (hp : ((pc : Int) + o).toNat = pc') (r : zEnds p e below s T (mkF m pc' Ls st) cs ss Q) : zEnds p e below s T (mkF m pc Ls (.ref b :: st)) cs ss Q := zstp (fun _ k => XS.ifnonnullYes X.here hx rfl rfl (hb hby hd) rfl ho hp k) r
theorem zifnonnullNo (X : Stand p l e R s m args below meth c T locs cells slots) (hx : p.tables.exec = Jvm.exec) (hby : c.code = bytes) {o : Int} (hd : decode bytes pc = .ok (.ifnonnull o, 3))  (r : zEnds p e below s T (mkF m (pc + 3) Ls st) cs ss Q) : zEnds p e below s T (mkF m pc Ls (.null :: st)) cs ss Q := zstp (fun _ k => XS.ifnonnullNo X.here hx rfl (hb hby hd) rfl k) r
theorem zacmp (X : Stand p l e R s m args below meth c T locs cells slots) (hx : p.tables.exec = Jvm.exec) (hby : c.code = bytes) {cd : ACond} {x y : Value} {o : Int} (hd : decode bytes pc = .ok (.if_acmp cd o, 3)) (pc' : Nat) (same : Bool) (h1 : x.isRef = true) (h2 : y.isRef = true) (hq : decide (x = y) = same) (ho : 0 ≤ (pc : Int) + o) (hp : pc' = if acV cd same = true then ((pc : Int) + o).toNat else pc + 3) (r : zEnds p e below s T (mkF m pc' Ls st) cs ss Q) : zEnds p e below s T (mkF m pc Ls (y :: x :: st)) cs ss Q := zstp (fun _ k => Jvm.RoadKit.acmp X hx rfl h1 h2 rfl (hb hby hd) rfl hq ho hp k) r
theorem ztswIn (X : Stand p l e R s m args below meth c T locs cells slots) (hx : p.tables.exec = Jvm.exec) (hby : c.code = bytes) {dflt low high o : Int} {offs : Array Int} {len : Nat} {i : Int32} (hd : decode bytes pc = .ok (.tableswitch dflt low high offs, len)) (pc' : Nat) (hin : ¬ (i.toInt < low ∨ i.toInt > high)) (hoff : offs[(i.toInt - low).toNat]? = some o) (ho : 0 ≤ (pc : Int) + o) (hp : ((pc : Int) + o).toNat = pc') (r : zEnds p e below s T (mkF m pc' Ls st) cs ss Q) : zEnds p e below s T (mkF m pc Ls (.int i :: st)) cs ss Q := zstp (fun _ k => XS.tswIn X.here hx rfl rfl (hb hby hd) rfl hin hoff ho hp k) r
theorem ztswOut (X : Stand p l e R s m args below meth c T locs cells slots) (hx : p.tables.exec = Jvm.exec) (hby : c.code = bytes) {dflt low high : Int} {offs : Array Int} {len : Nat} {i : Int32} (hd : decode bytes pc = .ok (.tableswitch dflt low high offs, len)) (pc' : Nat) (hout : i.toInt < low ∨ i.toInt > high) (ho : 0 ≤ (pc : Int) + dflt) (hp : ((pc : Int) + dflt).toNat = pc') (r : zEnds p e below s T (mkF m pc' Ls st) cs ss Q) : zEnds p e below s T (mkF m pc Ls (.int i :: st)) cs ss Q := zstp (fun _ k => XS.tswOut X.here hx rfl rfl (hb hby hd) rfl hout ho hp k) r
theorem zldcI (X : Stand p l e R s m args below meth c T locs cells slots) (hx : p.tables.exec = Jvm.exec) (hby : c.code = bytes) {own : String} {i : Nat} (hd : decode bytes pc = .ok (.ldc i, 2)) (z : Int32) (hZ : Z.Warmed39 s.vm) (hown : s.vm.findClass own = some m.cls) (w : (Jvm.Cond.constant own i z).before a0 Z = true) (r : zEnds p e below s T (mkF m (pc + 2) Ls (.int z :: st)) cs ss Q) : zEnds p e below s T (mkF m pc Ls st) cs ss Q := zstp (fun _ k => X.ldcInt hx hown (mvT hZ w) (g := mkF m pc Ls st) rfl (hb hby hd) _ k) r
theorem zldcwI (X : Stand p l e R s m args below meth c T locs cells slots) (hx : p.tables.exec = Jvm.exec) (hby : c.code = bytes) {own : String} {i : Nat} (hd : decode bytes pc = .ok (.ldc_w i, 3)) (z : Int32) (hZ : Z.Warmed39 s.vm) (hown : s.vm.findClass own = some m.cls) (w : (Jvm.Cond.constant own i z).before a0 Z = true) (r : zEnds p e below s T (mkF m (pc + 3) Ls (.int z :: st)) cs ss Q) : zEnds p e below s T (mkF m pc Ls st) cs ss Q := zstp (fun _ k => X.ldcwInt hx hown (mvT hZ w) (g := mkF m pc Ls st) rfl (hb hby hd) _ k) r
theorem zldc2J (X : Stand p l e R s m args below meth c T locs cells slots) (hx : p.tables.exec = Jvm.exec) (hby : c.code = bytes) {own : String} {i : Nat} (hd : decode bytes pc = .ok (.ldc2_w i, 3)) (z : Int64) (hZ : Z.Warmed39 s.vm) (hown : s.vm.findClass own = some m.cls) (w : (Jvm.Cond.constantLong own i z).before a0 Z = true) (r : zEnds p e below s T (mkF m (pc + 3) Ls (.long z :: st)) cs ss Q) : zEnds p e below s T (mkF m pc Ls st) cs ss Q := zstp (fun _ k => X.ldc2Long hx hown (mvT hZ w) (g := mkF m pc Ls st) rfl (hb hby hd) _ k) r
/-! steps that hand back a new state -/
theorem zgetstat (X : Stand p l e R s m args below meth c T locs cells slots) (hx : p.tables.exec = Jvm.exec) (hby : c.code = bytes) {own R0 O n d host : String} {i : Nat} (hd : decode bytes pc = .ok (.getstatic i, 3)) (hZ : Z.Warmed39 s.vm) (hown : s.vm.findClass own = some m.cls) (w : (Jvm.Cond.fieldLink own i R0 n d).before a0 Z = true ∨ (Jvm.Cond.fieldLinkNest own i R0 n d host).before a0 Z = true) (via : Via Z R0 O n d) (eT : T.heap = h) {v : Value} (F : Sta Z h O n d v)
    (r : ∀ T', Stand p l e R s m args below meth c T' locs cells slots → T'.heap = h → zEnds p e below s T' (mkF m (pc + 3) Ls (v :: st)) cs ss Q) : zEnds p e below s T (mkF m pc Ls st) cs ss Q := by
  obtain ⟨T', X', e', k⟩ := getS2 X hx hZ hown w via eT F (g := mkF m pc Ls st) rfl (hb hby hd)
  exact zstp k (r T' X' e')
theorem zgetfld (X : Stand p l e R s m args below meth c T locs cells slots) (hx : p.tables.exec = Jvm.exec) (hby : c.code = bytes) {own R0 O n d host : String} {i : Nat} (hd : decode bytes pc = .ok (.getfield i, 3)) (hZ : Z.Warmed39 s.vm) (hown : s.vm.findClass own = some m.cls) (w : (Jvm.Cond.fieldLink own i R0 n d).before a0 Z = true ∨ (Jvm.Cond.fieldLinkNest own i R0 n d host).before a0 Z = true) (via : Via Z R0 O n d) (eT : T.heap = h) {a : Addr} {v : Value} (F : Fld Z h a O n d v)
    (r : ∀ T', Stand p l e R s m args below meth c T' locs cells slots → T'.heap = h → zEnds p e below s T' (mkF m (pc + 3) Ls (v :: st)) cs ss Q) : zEnds p e below s T (mkF m pc Ls (.ref a :: st)) cs ss Q := by
  obtain ⟨T', X', e', k⟩ := getF X hx hZ hown w via eT F (g := mkF m pc Ls (.ref a :: st)) rfl rfl (hb hby hd)
  exact zstp k (r T' X' e')
theorem zputfld (X : Stand p l e R s m args below meth c T locs cells slots) (hx : p.tables.exec = Jvm.exec) (hby : c.code = bytes) {own R0 O n d host C : String} {i kk : Nat} {ty : FieldType} (hd : decode bytes pc = .ok (.putfield i, 3)) (hZ : Z.Warmed39 s.vm) (hown : s.vm.findClass own = some m.cls) (w : (Jvm.Cond.fieldLink own i R0 n d).before a0 Z = true ∨ (Jvm.Cond.fieldLinkNest own i R0 n d host).before a0 Z = true) (via : Via Z R0 O n d) (eT : T.heap = h) {a : Addr} {v old : Value} (F : Fld Z h a O n d old) (E : Exa Z h a C) (L : (Jvm.Cond.lays C O n d).before a0 Z = true ∨ ((Jvm.Cond.laysFinal C O n d).before a0 Z = true ∧ own = O ∧ meth.name = "<init>")) (wi : (Jvm.Cond.instantiable C kk).before a0 Z = true) (hty : parseFieldDescriptor d = some ty) (hn : narrow ty v = v) (hf : fits ty v = true)
    (r : ∀ T' h', Stand p l e R s m args below meth c T' (locs ++ [⟨a, Jvm.RoadKit.slotOf Z O n d⟩]) cells slots → T'.heap = h' → Wr h h' a (Jvm.RoadKit.slotOf Z O n d) v → zEnds p e below s T' (mkF m (pc + 3) Ls st) cs ss Q) : zEnds p e below s T (mkF m pc Ls (v :: .ref a :: st)) cs ss Q := by
  obtain ⟨T', h', X', e', W, k⟩ := putF X hx hZ hown w via eT F E L wi hty hn hf (g := mkF m pc Ls (v :: .ref a :: st)) rfl rfl (hb hby hd)
  exact zstp k (r T' h' X' e' W)
theorem znewobj (X : Stand p l e R s m args below meth c T locs cells slots) (hx : p.tables.exec = Jvm.exec) (hby : c.code = bytes) {own C : String} {i n : Nat} (hd : decode bytes pc = .ok (.new i, 3)) (hZ : Z.Warmed39 s.vm) (hown : s.vm.findClass own = some m.cls) (w : (Jvm.Cond.classLink own i C).before a0 Z = true) (wi : (Jvm.Cond.instantiable C n).before a0 Z = true) (wz : (Jvm.Cond.initialized C).before a0 Z = true) (eT : T.heap = h) (hc : cells + 1 ≤ R.cells) (hl : slots + n ≤ R.slots)
    (r : ∀ T' h' b, Stand p l e R s m args below meth c T' locs (cells + 1) (slots + n) → T'.heap = h' → b = h.size → Ext h h' → Exa Z h' b C → (∀ {O nm d : String} {ty : FieldType}, Laid Z a0 C O nm d → parseFieldDescriptor d = some ty → Fld Z h' b O nm d (defaultValue ty)) → zEnds p e below s T' (mkF m (pc + 3) Ls (.ref b :: st)) cs ss Q) : zEnds p e below s T (mkF m pc Ls st) cs ss Q := by
  obtain ⟨T', h', X', e', E, A, D, -, k⟩ := newO X hx hZ hown w wi wz eT (g := mkF m pc Ls st) rfl (hb hby hd) hc hl
  exact zstp k (r T' h' _ X' e' rfl E A D)
theorem zobjinit (X : Stand p l e R s m args below meth c T locs cells slots) (hx : p.tables.exec = Jvm.exec) (hby : c.code = bytes) {own : String} {i : Nat} (hd : decode bytes pc = .ok (.invokespecial i, 3)) (hZ : Z.Warmed39 s.vm) (hown : s.vm.findClass own = some m.cls) (w1 : (Jvm.Cond.methodLink own i Lib.objectInit).before a0 Z = true) (w2 : (Jvm.Cond.instanceMethod Lib.objectInit).before a0 Z = true) (w3 : (Jvm.Cond.code Lib.objectInit ⟨#[0xb1]⟩ 1 none).before a0 Z = true) (eT : T.heap = h) (hml : Ls.size = c.maxLocals) (W : Nat) (hW : (st.map fun v => v.category).sum ≤ W) (hf : 1 ≤ R.frames) (hl : W + 12 ≤ R.locals) {a : Addr}
    (r : ∀ T', Stand p l e R s m args below meth c T' locs cells slots → T'.heap = h → zEnds p e below s T' (mkF m (pc + 3) Ls st) cs ss Q) : zEnds p e below s T (mkF m pc Ls (.ref a :: st)) cs ss Q := by
  obtain ⟨T', X', e', k⟩ := initO X hx hZ hown w1 w2 w3 eT (g := mkF m pc Ls (.ref a :: st)) rfl hml rfl (hb hby hd) hf (W := W) (by show 2 * 0 + _ ≤ _; rw [Nat.mul_zero, Nat.zero_add]; exact hW) hl
  exact zstp k (r T' X' e')
/-- the array at a holds just these values -/
def zLst (Z : State) (h : Heap) (a : Addr) (ty : FieldType) (vs : List Value) : Prop := ∃ cl : Cell, Arr Z h a cl ty ∧ cl.slots.toList = vs
theorem zLst.ext {h' : Heap} {a : Addr} {ty : FieldType} {vs : List Value} (F : zLst Z h a ty vs) (E : Ext h h') : zLst Z h' a ty vs := by obtain ⟨c, A, r⟩ := F; exact ⟨c, A.ext E, r⟩
theorem zLst.lt {a : Addr} {ty : FieldType} {vs : List Value} (F : zLst Z h a ty vs) : a < h.size := by obtain ⟨c, A, r⟩ := F; exact A.lt
theorem zLst.other {h' : Heap} {a b : Addr} {sl : Nat} {v : Value} {ty : FieldType} {vs : List Value} (F : zLst Z h b ty vs) (W : Wr h h' a sl v) (q : b ≠ a) : zLst Z h' b ty vs := by obtain ⟨c, A, r⟩ := F; exact ⟨c, A.other W q, r⟩
theorem zLst.keep {h' : Heap} {a : Addr} {ty : FieldType} {vs : List Value} {ws : List Addr} (F : zLst Z h a ty vs) (K : Keep h h' ws) (q : a ∉ ws) : zLst Z h' a ty vs := by obtain ⟨c, A, r⟩ := F; exact ⟨c, ⟨K.2.1 a c A.1 q, A.2⟩, r⟩
theorem zLst.same {h' : Heap} {a : Addr} {sl : Nat} {v : Value} {ty : FieldType} {vs : List Value} (F : zLst Z h a ty vs) (W : Wr h h' a sl v) : zLst Z h' a ty (vs.set sl v) := by
  obtain ⟨c, A, r⟩ := F
  refine ⟨_, A.same W, ?_⟩
  show (c.slots.setIfInBounds sl v).toList = _
  rw [Array.toList_setIfInBounds, r]
theorem zlst_in {cl : Cell} {vs : List Value} {j : Int32} (r : cl.slots.toList = vs) (hj : ¬ j < 0) (hlt : j.toNatClampNeg < vs.length) : ¬ (j < 0 ∨ cl.slots.size ≤ j.toNatClampNeg) := by
  rintro (q | q)
  · exact hj q
  · rw [← r, Array.length_toList] at hlt; exact absurd q (Nat.not_le.mpr hlt)
theorem zlst_at {cl : Cell} {vs : List Value} {k : Nat} {v : Value} (r : cl.slots.toList = vs) (hv : vs[k]? = some v) : cl.slots[k]? = some v := by
  rw [← r, Array.getElem?_toList] at hv; exact hv
theorem znewprim (X : Stand p l e R s m args below meth c T locs cells slots) (hx : p.tables.exec = Jvm.exec) (hby : c.code = bytes) {aty : ArrayType} (hd : decode bytes pc = .ok (.newarray aty, 2)) (hZ : Z.Warmed39 s.vm) (w : (Jvm.Cond.arrayClass (newarray.typeOf aty)).before a0 Z = true) (eT : T.heap = h) {n : Int32} (hn : ¬ n < 0) (cap : Nat) (hcap : n.toNatClampNeg ≤ cap) (hb8 : cap * 8 ≤ 536870912) (hc : cells + 1 ≤ R.cells) (hl : slots + cap ≤ R.slots)
    (r : ∀ T' h' b, Stand p l e R s m args below meth c T' locs (cells + 1) (slots + cap) → T'.heap = h' → b = h.size → Ext h h' → zLst Z h' b (newarray.typeOf aty) (List.replicate n.toNatClampNeg (defaultValue (newarray.typeOf aty))) → zEnds p e below s T' (mkF m (pc + 2) Ls (.ref b :: st)) cs ss Q) : zEnds p e below s T (mkF m pc Ls (.int n :: st)) cs ss Q := by
  obtain ⟨T', h', cA, X', e', E, A, k⟩ := newP X hx hZ w eT (g := mkF m pc Ls (.int n :: st)) rfl (hb hby hd) rfl hn hcap hb8 hc hl
  exact zstp k (r T' h' _ X' e' rfl E ⟨_, A, by simp [newA]⟩)
theorem zbaload (X : Stand p l e R s m args below meth c T locs cells slots) (hx : p.tables.exec = Jvm.exec) (hby : c.code = bytes) (hd : decode bytes pc = .ok (.baload, 1)) (hZ : Z.Warmed39 s.vm) (eT : T.heap = h) {a : Addr} {vs : List Value} (A : zLst Z h a .byte vs) {j : Int32} (hj : ¬ j < 0) {v : Value} (hv : vs[j.toNatClampNeg]? = some v)
    (r : zEnds p e below s T (mkF m (pc + 1) Ls (v :: st)) cs ss Q) : zEnds p e below s T (mkF m pc Ls (.int j :: .ref a :: st)) cs ss Q := by
  obtain ⟨cl, A, q⟩ := A
  exact zstp (fun _ k => X.baloadBytes hx (by rw [eT]; exact A.1) (State.isArrayOf_alike hZ.alike A.2.1) A.2.2 (zlst_in q hj (List.getElem?_eq_some_iff.mp hv).1) (zlst_at q hv) (g := mkF m pc Ls (.int j :: .ref a :: st)) rfl rfl (hb hby hd) _ k) r
theorem zlaload (X : Stand p l e R s m args below meth c T locs cells slots) (hx : p.tables.exec = Jvm.exec) (hby : c.code = bytes) (hd : decode bytes pc = .ok (.laload, 1)) (hZ : Z.Warmed39 s.vm) (eT : T.heap = h) {a : Addr} {vs : List Value} (A : zLst Z h a .long vs) {j : Int32} (hj : ¬ j < 0) {v : Value} (hv : vs[j.toNatClampNeg]? = some v)
    (r : zEnds p e below s T (mkF m (pc + 1) Ls (v :: st)) cs ss Q) : zEnds p e below s T (mkF m pc Ls (.int j :: .ref a :: st)) cs ss Q := by
  obtain ⟨cl, A, q⟩ := A
  exact zstp (fun _ k => X.laload hx (by rw [eT]; exact A.1) (State.isArrayOf_alike hZ.alike A.2.1) A.2.2 (zlst_in q hj (List.getElem?_eq_some_iff.mp hv).1) (zlst_at q hv) (g := mkF m pc Ls (.int j :: .ref a :: st)) rfl rfl (hb hby hd) _ k) r
theorem zaaload (X : Stand p l e R s m args below meth c T locs cells slots) (hx : p.tables.exec = Jvm.exec) (hby : c.code = bytes) (hd : decode bytes pc = .ok (.aaload, 1)) (hZ : Z.Warmed39 s.vm) (eT : T.heap = h) {a : Addr} {vs : List Value} {ty : FieldType} (hty : ty.isReference = true) (A : zLst Z h a ty vs) {j : Int32} (hj : ¬ j < 0) {v : Value} (hv : vs[j.toNatClampNeg]? = some v)
    (r : zEnds p e below s T (mkF m (pc + 1) Ls (v :: st)) cs ss Q) : zEnds p e below s T (mkF m pc Ls (.int j :: .ref a :: st)) cs ss Q := by
  obtain ⟨cl, A, q⟩ := A
  exact zstp (fun _ k => X.aaload hx (by rw [eT]; exact A.1) (State.isArrayOf_alike hZ.alike A.2.1) hty A.2.2 (zlst_in q hj (List.getElem?_eq_some_iff.mp hv).1) (zlst_at q hv) (g := mkF m pc Ls (.int j :: .ref a :: st)) rfl rfl (hb hby hd) _ k) r
theorem zialoadC (X : Stand p l e R s m args below meth c T locs cells slots) (hx : p.tables.exec = Jvm.exec) (hby : c.code = bytes) (hd : decode bytes pc = .ok (.iaload, 1)) (hZ : Z.Warmed39 s.vm) (eT : T.heap = h) {a : Addr} {cl : Cell} (A : Arr Z h a cl .int) {j : Int32} {v : Value} (hv : ¬ (j < 0 ∨ cl.slots.size ≤ j.toNatClampNeg) ∧ cl.slots[j.toNatClampNeg]? = some v)
    (r : zEnds p e below s T (mkF m (pc + 1) Ls (v :: st)) cs ss Q) : zEnds p e below s T (mkF m pc Ls (.int j :: .ref a :: st)) cs ss Q :=
  zstp (fun _ k => X.iaload hx (by rw [eT]; exact A.1) (State.isArrayOf_alike hZ.alike A.2.1) A.2.2 hv.1 hv.2 (g := mkF m pc Ls (.int j :: .ref a :: st)) rfl rfl (hb hby hd) _ k) r
theorem zalenC (X : Stand p l e R s m args below meth c T locs cells slots) (hx : p.tables.exec = Jvm.exec) (hby : c.code = bytes) (hd : decode bytes pc = .ok (.arraylength, 1)) (hZ : Z.Warmed39 s.vm) (eT : T.heap = h) {a : Addr} {cl : Cell} {ty : FieldType} (A : Arr Z h a cl ty) (z : Int32) (hz : cl.slots.size.toInt32 = z)
    (r : zEnds p e below s T (mkF m (pc + 1) Ls (.int z :: st)) cs ss Q) : zEnds p e below s T (mkF m pc Ls (.ref a :: st)) cs ss Q :=
  zstp (fun _ k => X.arraylength hx (by rw [eT]; exact A.1) (State.isArrayOf_alike hZ.alike A.2.1) (g := mkF m pc Ls (.ref a :: st)) rfl rfl (hb hby hd) _ (hz ▸ k)) r
theorem zbastore (X : Stand p l e R s m args below meth c T locs cells slots) (hx : p.tables.exec = Jvm.exec) (hby : c.code = bytes) (hd : decode bytes pc = .ok (.bastore, 1)) (hZ : Z.Warmed39 s.vm) (eT : T.heap = h) {a : Addr} {vs : List Value} (A : zLst Z h a .byte vs) {j x : Int32} (hj : ¬ j < 0) (hlt : j.toNatClampNeg < vs.length) (x' : Int32) (hx' : nar .byte x = x')
    (r : ∀ T' h', Stand p l e R s m args below meth c T' (locs ++ [⟨a, j.toNatClampNeg⟩]) cells slots → T'.heap = h' → Wr h h' a j.toNatClampNeg (.int x') → zLst Z h' a .byte (vs.set j.toNatClampNeg (.int x')) → zEnds p e below s T' (mkF m (pc + 1) Ls st) cs ss Q) : zEnds p e below s T (mkF m pc Ls (.int x :: .int j :: .ref a :: st)) cs ss Q := by
  obtain ⟨cl, A', q⟩ := A
  subst hx'
  obtain ⟨T', h', X', e', W, k⟩ := stB X hx hZ eT A' (j := j) (x := x) (zlst_in q hj hlt) (g := mkF m pc Ls (.int x :: .int j :: .ref a :: st)) rfl rfl (hb hby hd)
  exact zstp k (r T' h' X' e' W (zLst.same ⟨cl, A', q⟩ W))
theorem zlastore (X : Stand p l e R s m args below meth c T locs cells slots) (hx : p.tables.exec = Jvm.exec) (hby : c.code = bytes) (hd : decode bytes pc = .ok (.lastore, 1)) (hZ : Z.Warmed39 s.vm) (eT : T.heap = h) {a : Addr} {vs : List Value} (A : zLst Z h a .long vs) {j : Int32} {x : Int64} (hj : ¬ j < 0) (hlt : j.toNatClampNeg < vs.length)
    (r : ∀ T' h', Stand p l e R s m args below meth c T' (locs ++ [⟨a, j.toNatClampNeg⟩]) cells slots → T'.heap = h' → Wr h h' a j.toNatClampNeg (.long x) → zLst Z h' a .long (vs.set j.toNatClampNeg (.long x)) → zEnds p e below s T' (mkF m (pc + 1) Ls st) cs ss Q) : zEnds p e below s T (mkF m pc Ls (.long x :: .int j :: .ref a :: st)) cs ss Q := by
  obtain ⟨cl, A', q⟩ := A
  obtain ⟨T', h', X', e', W, k⟩ := stJ X hx hZ eT A' (j := j) (x := x) (zlst_in q hj hlt) (g := mkF m pc Ls (.long x :: .int j :: .ref a :: st)) rfl rfl (hb hby hd)
  exact zstp k (r T' h' X' e' W (zLst.same ⟨cl, A', q⟩ W))
/-- an array of references over C that holds just these values -/
def zLstR (Z : State) (h : Heap) (a : Addr) (C : String) (vs : List Value) : Prop := ∃ cl : Cell, Arr Z h a cl (.object C) ∧ Ovr Z cl.cls C ∧ cl.slots.toList = vs
theorem zLstR.lst {a : Addr} {C : String} {vs : List Value} (F : zLstR Z h a C vs) : zLst Z h a (.object C) vs := by obtain ⟨c, A, -, r⟩ := F; exact ⟨c, A, r⟩
theorem zLstR.ext {h' : Heap} {a : Addr} {C : String} {vs : List Value} (F : zLstR Z h a C vs) (E : Ext h h') : zLstR Z h' a C vs := by obtain ⟨c, A, r⟩ := F; exact ⟨c, A.ext E, r⟩
theorem zLstR.lt {a : Addr} {C : String} {vs : List Value} (F : zLstR Z h a C vs) : a < h.size := by obtain ⟨c, A, r⟩ := F; exact A.lt
theorem zLstR.other {h' : Heap} {a b : Addr} {sl : Nat} {v : Value} {C : String} {vs : List Value} (F : zLstR Z h b C vs) (W : Wr h h' a sl v) (q : b ≠ a) : zLstR Z h' b C vs := by obtain ⟨c, A, r⟩ := F; exact ⟨c, A.other W q, r⟩
theorem zLstR.keep {h' : Heap} {a : Addr} {C : String} {vs : List Value} {ws : List Addr} (F : zLstR Z h a C vs) (K : Keep h h' ws) (q : a ∉ ws) : zLstR Z h' a C vs := by obtain ⟨c, A, r⟩ := F; exact ⟨c, ⟨K.2.1 a c A.1 q, A.2⟩, r⟩
theorem zLstR.same {h' : Heap} {a : Addr} {sl : Nat} {v : Value} {C : String} {vs : List Value} (F : zLstR Z h a C vs) (W : Wr h h' a sl v) : zLstR Z h' a C (vs.set sl v) := by
  obtain ⟨c, A, O, r⟩ := F
  refine ⟨_, A.same W, O, ?_⟩
  show (c.slots.setIfInBounds sl v).toList = _
  rw [Array.toList_setIfInBounds, r]
theorem znewref (X : Stand p l e R s m args below meth c T locs cells slots) (hx : p.tables.exec = Jvm.exec) (hby : c.code = bytes) {own C : String} {i : Nat} (hd : decode bytes pc = .ok (.anewarray i, 3)) (hZ : Z.Warmed39 s.vm) (hown : s.vm.findClass own = some m.cls) (w1 : (Jvm.Cond.classLink own i C).before a0 Z = true) (w2 : (Jvm.Cond.arrayOver (.object C)).before a0 Z = true) (eT : T.heap = h) {n : Int32} (hn : ¬ n < 0) (cap : Nat) (hcap : n.toNatClampNeg ≤ cap) (hb8 : cap * 8 ≤ 536870912) (hc : cells + 1 ≤ R.cells) (hl : slots + cap ≤ R.slots)
    (r : ∀ T' h' b, Stand p l e R s m args below meth c T' locs (cells + 1) (slots + cap) → T'.heap = h' → b = h.size → Ext h h' → zLstR Z h' b C (List.replicate n.toNatClampNeg .null) → zEnds p e below s T' (mkF m (pc + 3) Ls (.ref b :: st)) cs ss Q) : zEnds p e below s T (mkF m pc Ls (.int n :: st)) cs ss Q := by
  obtain ⟨T', h', cA, X', e', E, A, O, k⟩ := newR X hx hZ hown w1 w2 eT (g := mkF m pc Ls (.int n :: st)) rfl (hb hby hd) rfl hn hcap hb8 hc hl
  exact zstp k (r T' h' _ X' e' rfl E ⟨_, A, O, by simp [newA, defaultValue]⟩)
theorem zaastore (X : Stand p l e R s m args below meth c T locs cells slots) (hx : p.tables.exec = Jvm.exec) (hby : c.code = bytes) (hd : decode bytes pc = .ok (.aastore, 1)) (hZ : Z.Warmed39 s.vm) (eT : T.heap = h) {a y : Addr} {C : String} {vs : List Value} (A : zLstR Z h a C vs) {j : Int32} (hj : ¬ j < 0) (hlt : j.toNatClampNeg < vs.length) (I : Ins Z h y C true)
    (r : ∀ T' h', Stand p l e R s m args below meth c T' (locs ++ [⟨a, j.toNatClampNeg⟩]) cells slots → T'.heap = h' → Wr h h' a j.toNatClampNeg (.ref y) → zLstR Z h' a C (vs.set j.toNatClampNeg (.ref y)) → zEnds p e below s T' (mkF m (pc + 1) Ls st) cs ss Q) : zEnds p e below s T (mkF m pc Ls (.ref y :: .int j :: .ref a :: st)) cs ss Q := by
  obtain ⟨cl, A', O, q⟩ := A
  obtain ⟨T', h', X', e', W, k⟩ := stR X hx hZ eT A' (j := j) (v := .ref y) (zlst_in q hj hlt) rfl (Sto.of A' O I) (g := mkF m pc Ls (.ref y :: .int j :: .ref a :: st)) rfl rfl (hb hby hd)
  exact zstp k (r T' h' X' e' W (zLstR.same ⟨cl, A', O, q⟩ W))
/-! zcalls -/
theorem zcalls (X : Stand p l e R s m args below meth c T locs cells slots) (hx : p.tables.exec = Jvm.exec) (hby : c.code = bytes) {own : String} {i : Nat} {y : MethodName} {by' : ByteArray} {maxL : Nat} {rt : Option FieldType} {rm : Room} {argsL : List Value} {Q' : Option Value → Heap → List Loc → Prop} (hd : decode bytes pc = .ok (.invokestatic i, 3)) (hZ : Z.Warmed39 s.vm) (hown : s.vm.findClass own = some m.cls) (w1 : (Jvm.Cond.methodLink own i y).before a0 Z = true) (w2 : (Jvm.Cond.static y).before a0 Z = true) (w3 : (Jvm.Cond.initialized y.cls).before a0 Z = true) (w4 : (Jvm.Cond.code y by' maxL rt).before a0 Z = true) (eT : T.heap = h)
    (con : zCon l Z y by' maxL rt [] rm argsL.toArray h Q') (hy : y.cls ≠ "java/lang/invoke/MethodHandle" ∧ y.cls ≠ "java/lang/invoke/VarHandle") (hml : Ls.size = c.maxLocals) (W : Nat) (hW : (st.map fun v => v.category).sum ≤ W) (hf : rm.frames + 1 ≤ R.frames) (hl : W + (maxL + 11) + rm.locals ≤ R.locals) (hcl : cells + rm.cells ≤ R.cells) (hsl : slots + rm.slots ≤ R.slots) {ps : List FieldType} {rv : Option FieldType} (hp : parseMethodDescriptor y.desc = some ⟨ps, rv⟩) (hn : argsL.length = ps.length) {S0 : List Value} (hS : S0 = argsL.reverse ++ st)
    (r : ∀ T' h' v L, T'.heap = h' → Stand p l e R s m args below meth c T' (locs ++ L) (cells + rm.cells) (slots + rm.slots) → Q' v h' L → zEnds p e below s T' (mkF m (pc + 3) Ls (v.toList ++ st)) cs ss Q) : zEnds p e below s T (mkF m pc Ls S0) cs ss Q := by
  obtain ⟨v, _, ⟨T', L', k', n'⟩, -, X', ⟨L, hq, l1, l2, l3⟩, k⟩ := Jvm.LawKit.callS X hx (y := y) hown (mvT hZ w1) (mvT hZ w2) (mvT hZ w3) (mvT hZ w4) hy (backOf (W := W) con hZ w4 w3 hf hl) (g := mkF m pc Ls S0) rfl hml (argsL := argsL) (rest := st) (lenOf hp hn) hS (by show 2 * 0 + _ ≤ _; rw [Nat.mul_zero, Nat.zero_add]; exact hW) (hb hby hd) (fun _ _ => ⟨rfl, eT, hcl, hsl⟩)
  dsimp only [Pt.U, Pt.locs, Pt.cells, Pt.slots] at X' l1 l2 l3 k hq
  subst l1 l2 l3
  exact zstp k (r T' _ v L rfl X' hq)
theorem zcallv (X : Stand p l e R s m args below meth c T locs cells slots) (hx : p.tables.exec = Jvm.exec) (hby : c.code = bytes) {own C : String} {i : Nat} {y z : MethodName} {by' : ByteArray} {maxL : Nat} {rt : Option FieldType} {rm : Room} {a : Addr} {argsL : List Value} {Q' : Option Value → Heap → List Loc → Prop} (hd : decode bytes pc = .ok (.invokevirtual i, 3)) (hZ : Z.Warmed39 s.vm) (hown : s.vm.findClass own = some m.cls) (w1 : (Jvm.Cond.methodLink own i y).before a0 Z = true) (w2 : (Jvm.Cond.declares y).before a0 Z = true) (hnf : NotFace s y) (w3 : (Jvm.Cond.selects C y z).before a0 Z = true) (w4 : (Jvm.Cond.instanceMethod z).before a0 Z = true) (w5 : (Jvm.Cond.code z by' maxL rt).before a0 Z = true) (w6 : (Jvm.Cond.initialized z.cls).before a0 Z = true) (eT : T.heap = h) (E : Exa Z h a C)
    (con : zCon l Z z by' maxL rt [] rm (.ref a :: argsL).toArray h Q') (hy : y.cls ≠ "java/lang/invoke/MethodHandle" ∧ y.cls ≠ "java/lang/invoke/VarHandle") (hml : Ls.size = c.maxLocals) (W : Nat) (hW : (st.map fun v => v.category).sum ≤ W) (hf : rm.frames + 1 ≤ R.frames) (hl : W + (maxL + 11) + rm.locals ≤ R.locals) (hcl : cells + rm.cells ≤ R.cells) (hsl : slots + rm.slots ≤ R.slots) {ps : List FieldType} {rv : Option FieldType} (hp : parseMethodDescriptor y.desc = some ⟨ps, rv⟩) (hn : argsL.length = ps.length) {S0 : List Value} (hS : S0 = argsL.reverse ++ .ref a :: st)
    (r : ∀ T' h' v L, T'.heap = h' → Stand p l e R s m args below meth c T' (locs ++ L) (cells + rm.cells) (slots + rm.slots) → Q' v h' L → zEnds p e below s T' (mkF m (pc + 3) Ls (v.toList ++ st)) cs ss Q) : zEnds p e below s T (mkF m pc Ls S0) cs ss Q := by
  obtain ⟨_, _, qa, -, qc⟩ := isOf hZ eT E
  obtain ⟨v, _, ⟨T', L', k', n'⟩, -, X', ⟨L, hq, l1, l2, l3⟩, k⟩ := X.virtualBack hx (y := y) (z := z) hown (mvT hZ w1) (mvT hZ w2) hnf (mvT hZ w3) (mvT hZ w4) hy (backOf (W := W) con hZ w5 w6 hf hl) qa qc (g := mkF m pc Ls S0) rfl hml (Steps.refl _) (argsL := argsL) (rest := st) (lenOf hp hn) hS (by show 2 * 0 + _ ≤ _; rw [Nat.mul_zero, Nat.zero_add]; exact hW) (hb hby hd) (fun _ _ => ⟨rfl, eT, hcl, hsl⟩)
  dsimp only [Pt.U, Pt.locs, Pt.cells, Pt.slots] at X' l1 l2 l3 k hq
  subst l1 l2 l3
  exact zstp (fun _ q => k.trans q) (r T' _ v L rfl X' hq)
theorem zcallsp (X : Stand p l e R s m args below meth c T locs cells slots) (hx : p.tables.exec = Jvm.exec) (hby : c.code = bytes) {own : String} {i : Nat} {y : MethodName} {by' : ByteArray} {maxL : Nat} {rm : Room} {a : Addr} {argsL : List Value} {Q' : Option Value → Heap → List Loc → Prop} (hd : decode bytes pc = .ok (.invokespecial i, 3)) (hZ : Z.Warmed39 s.vm) (hown : s.vm.findClass own = some m.cls) (hyn : y.name = "<init>") (w1 : (Jvm.Cond.methodLink own i y).before a0 Z = true) (w2 : (Jvm.Cond.instanceMethod y).before a0 Z = true) (w3 : (Jvm.Cond.code y by' maxL none).before a0 Z = true) (w4 : (Jvm.Cond.initialized y.cls).before a0 Z = true) (eT : T.heap = h)
    (con : zCon l Z y by' maxL none [] rm (.ref a :: argsL).toArray h Q') (hy : y.cls ≠ "java/lang/invoke/MethodHandle" ∧ y.cls ≠ "java/lang/invoke/VarHandle") (hml : Ls.size = c.maxLocals) (W : Nat) (hW : (st.map fun v => v.category).sum ≤ W) (hf : rm.frames + 1 ≤ R.frames) (hl : W + (maxL + 11) + rm.locals ≤ R.locals) (hcl : cells + rm.cells ≤ R.cells) (hsl : slots + rm.slots ≤ R.slots) {ps : List FieldType} {rv : Option FieldType} (hp : parseMethodDescriptor y.desc = some ⟨ps, rv⟩) (hn : argsL.length = ps.length) {S0 : List Value} (hS : S0 = argsL.reverse ++ .ref a :: st)
    (r : ∀ T' h' v L, T'.heap = h' → Stand p l e R s m args below meth c T' (locs ++ L) (cells + rm.cells) (slots + rm.slots) → Q' v h' L → zEnds p e below s T' (mkF m (pc + 3) Ls (v.toList ++ st)) cs ss Q) : zEnds p e below s T (mkF m pc Ls S0) cs ss Q := by
  obtain ⟨v, _, ⟨T', L', k', n'⟩, -, X', ⟨L, hq, l1, l2, l3⟩, k⟩ := X.specialBack hx (y := y) hyn hown (mvT hZ w1) (mvT hZ w2) (mvT hZ w3) hy (backOf (W := W) con hZ w3 w4 hf hl) (g := mkF m pc Ls S0) rfl hml (Steps.refl _) (a := a) (argsL := argsL) (rest := st) (lenOf hp hn) hS (by show 2 * 0 + _ ≤ _; rw [Nat.mul_zero, Nat.zero_add]; exact hW) (hb hby hd) (fun _ _ => ⟨rfl, eT, hcl, hsl⟩)
  dsimp only [Pt.U, Pt.locs, Pt.cells, Pt.slots] at X' l1 l2 l3 k hq
  subst l1 l2 l3
  exact zstp (fun _ q => k.trans q) (r T' _ v L rfl X' hq)
theorem zcallup (X : Stand p l e R s m args below meth c T locs cells slots) (hx : p.tables.exec = Jvm.exec) (hby : c.code = bytes) {own C owner : String} {i : Nat} {x y : MethodName} {by' : ByteArray} {maxL : Nat} {rt : Option FieldType} {rm : Room} {a : Addr} {argsL : List Value} {Q' : Option Value → Heap → List Loc → Prop} (hd : decode bytes pc = .ok (.invokevirtual i, 3)) (hZ : Z.Warmed39 s.vm) (hown : s.vm.findClass own = some m.cls) (w1 : (Jvm.Cond.methodLink own i x).before a0 Z = true) (w2 : (Jvm.Cond.sameMethod x.cls owner x.name x.desc).before a0 Z = true) (w2' : (Jvm.Cond.declares ⟨owner, x.name, x.desc⟩).before a0 Z = true) (w3 : (Jvm.Cond.selects C x y).before a0 Z = true) (w4 : (Jvm.Cond.instanceMethod y).before a0 Z = true) (w5 : (Jvm.Cond.code y by' maxL rt).before a0 Z = true) (w6 : (Jvm.Cond.initialized y.cls).before a0 Z = true) (eT : T.heap = h) (E : Exa Z h a C)
    (con : zCon l Z y by' maxL rt [] rm (.ref a :: argsL).toArray h Q') (hy : owner ≠ "java/lang/invoke/MethodHandle" ∧ owner ≠ "java/lang/invoke/VarHandle") (hml : Ls.size = c.maxLocals) (W : Nat) (hW : (st.map fun v => v.category).sum ≤ W) (hf : rm.frames + 1 ≤ R.frames) (hl : W + (maxL + 11) + rm.locals ≤ R.locals) (hcl : cells + rm.cells ≤ R.cells) (hsl : slots + rm.slots ≤ R.slots) {ps : List FieldType} {rv : Option FieldType} (hp : parseMethodDescriptor x.desc = some ⟨ps, rv⟩) (hn : argsL.length = ps.length) {S0 : List Value} (hS : S0 = argsL.reverse ++ .ref a :: st)
    (r : ∀ T' h' v L, T'.heap = h' → Stand p l e R s m args below meth c T' (locs ++ L) (cells + rm.cells) (slots + rm.slots) → Q' v h' L → zEnds p e below s T' (mkF m (pc + 3) Ls (v.toList ++ st)) cs ss Q) : zEnds p e below s T (mkF m pc Ls S0) cs ss Q := by
  obtain ⟨_, _, qa, -, qc⟩ := isOf hZ eT E
  obtain ⟨v, _, ⟨T', L', k', n'⟩, -, X', ⟨L, hq, l1, l2, l3⟩, k⟩ := X.virtualBackUp hx (x := x) (y := y) hown (mvT hZ w1) (mvT hZ w2) (mvT hZ w2') hy (mvT hZ w3) (mvT hZ w4) (backOf (W := W) con hZ w5 w6 hf hl) qa qc (g := mkF m pc Ls S0) rfl hml (Steps.refl _) (argsL := argsL) (rest := st) (lenOf hp hn) hS (by show 2 * 0 + _ ≤ _; rw [Nat.mul_zero, Nat.zero_add]; exact hW) (hb hby hd) (fun _ _ => ⟨rfl, eT, hcl, hsl⟩)
  dsimp only [Pt.U, Pt.locs, Pt.cells, Pt.slots] at X' l1 l2 l3 k hq
  subst l1 l2 l3
  exact zstp (fun _ q => k.trans q) (r T' _ v L rfl X' hq)
/-- the continuation behind a callee that wrote nothing -/
theorem zpureK {w : Option Value} {rm : Room} (hr : rm.cells = 0 ∧ rm.slots = 0) (r : ∀ T', Stand p l e R s m args below meth c T' locs cells slots → T'.heap = h → zEnds p e below s T' (mkF m pc Ls (w.toList ++ st)) cs ss Q) :
    ∀ T' h' v L, T'.heap = h' → Stand p l e R s m args below meth c T' (locs ++ L) (cells + rm.cells) (slots + rm.slots) → zSame w h v h' L → zEnds p e below s T' (mkF m pc Ls (v.toList ++ st)) cs ss Q := by
  rintro T' h' v L e' X ⟨rfl, rfl, rfl⟩
  rw [hr.1, hr.2, List.append_nil] at X
  exact r T' X e'
/-! from the words of a case to facts -/
theorem zfld_int {t : Term} {x : Addr} {C n d : String} {k : Int32} {args : Array Value} {s : State} (ev : t.eval args s none [] s = some (.ref x)) (q : (Jvm.Cond.eq (Term.field t C n d) (Term.int k)).value args s none s [] = some true) : Fld s s.heap x C n d (.int k) := by
  obtain ⟨u, w, e1, e2, k1, k2⟩ := cmp_v (Or.inl q)
  rw [fld_at ev] at e1
  cases (Term.int_eval k).symm.trans e2
  obtain ⟨z, rfl⟩ := k2
  have h1 : (Term.field t C n d).eval args s none [] s = some (.int z) := (fld_at ev).trans e1
  have : z = k := by simpa [Jvm.Cond.value, h1, Term.int_eval] using q
  subst this
  exact Fld.start e1
theorem zelem_at0 {t : Term} {x : Addr} {i v : Int32} {cl : Cell} {args : Array Value} {s : State} (ev : t.eval args s none [] s = some (.ref x)) (hc : s.heap[x]? = some cl) (q : (Jvm.Cond.eq (Term.elem t (Term.int i)) (Term.int v)).value args s none s [] = some true) : ¬ (i < 0 ∨ cl.slots.size ≤ i.toNatClampNeg) ∧ cl.slots[i.toNatClampNeg]? = some (.int v) := by
  obtain ⟨u, w, e1, e2, k1, k2⟩ := cmp_v (Or.inl q)
  cases (Term.int_eval v).symm.trans e2
  obtain ⟨z, rfl⟩ := k2
  have : z = v := by simpa [Jvm.Cond.value, e1, Term.int_eval] using q
  subst this
  exact elem_in e1 ev (Term.int_eval i) hc
theorem zlen_is {t : Term} {x : Addr} {k : Int32} {cl : Cell} {ty : FieldType} {args : Array Value} {s : State} (ev : t.eval args s none [] s = some (.ref x)) (A : Arr s s.heap x cl ty) (q : (Jvm.Cond.eq (Term.length t) (Term.int k)).value args s none s [] = some true) : cl.slots.size.toInt32 = k := by
  obtain ⟨u, w, e1, e2, k1, k2⟩ := cmp_v (Or.inl q)
  cases (Term.int_eval k).symm.trans e2
  obtain ⟨z, rfl⟩ := k2
  have h0 : z = k := by simpa [Jvm.Cond.value, e1, Term.int_eval] using q
  subst h0
  have h1 : s.arrayAt? x = some cl := Arr.fin (Vm.Alike.refl _) A
  by_cases hl : cl.slots.size < 2 ^ 31
  · have := (len_f (args := args) (first := s) (o := none) (idx := []) ev h1 hl).symm.trans e1
    exact Value.int.inj (Option.some.inj this)
  · exfalso; simp [Term.eval, ev, h1, hl] at e1
theorem zfld_ref {t t' : Term} {x y : Addr} {C n d : String} {args : Array Value} {s : State} (ev : t.eval args s none [] s = some (.ref x)) (ev' : t'.eval args s none [] s = some (.ref y)) (q : (Jvm.Cond.eq (Term.field t C n d) t').value args s none s [] = some true) : Fld s s.heap x C n d (.ref y) := by
  obtain ⟨u, w, e1, e2, k1, k2⟩ := cmp_v (Or.inl q)
  cases ev'.symm.trans e2
  have k3 : u.isRef = true := k2.2
  have q2 := gotT (eq_R e1 ev' k3 rfl) q
  subst q2
  rw [fld_at ev] at e1
  exact Fld.start e1
end Own
end Jvm.OwnKit
namespace Jvm.Pilot.@@N@@
open Jvm Jvm.ClassFile Sem Op Lib Jvm.Free Jvm.Stand Jvm.LawKit Jvm.RoadKit Jvm.OwnKit Bundle Jvm.Pilot.@@N@@.Jvm.D
theorem w0 {Z : State} {a0 : Array Value} (hw : ∀ d ∈ tables_1, d.before a0 Z = true) : (Jvm.Cond.classLink "heapglass/core/wire/AllowanceSpendPinLaw" (7 : Nat) "heapglass/core/wire/Allowance").before a0 Z = true := hw _ (List.mem_of_getElem? (i := 0) rfl)
theorem w1 {Z : State} {a0 : Array Value} (hw : ∀ d ∈ tables_1, d.before a0 Z = true) : (Jvm.Cond.instantiable "heapglass/core/wire/Allowance" (1 : Nat)).before a0 Z = true := hw _ (List.mem_of_getElem? (i := 1) rfl)
theorem w2 {Z : State} {a0 : Array Value} (hw : ∀ d ∈ tables_1, d.before a0 Z = true) : (Jvm.Cond.initialized "heapglass/core/wire/Allowance").before a0 Z = true := hw _ (List.mem_of_getElem? (i := 2) rfl)
theorem w3 {Z : State} {a0 : Array Value} (hw : ∀ d ∈ tables_1, d.before a0 Z = true) : (Jvm.Cond.methodLink "heapglass/core/wire/AllowanceSpendPinLaw" (9 : Nat) ({ cls := "heapglass/core/wire/Allowance", name := "<init>", desc := "()V" } : Jvm.MethodName)).before a0 Z = true := hw _ (List.mem_of_getElem? (i := 3) rfl)
theorem w4 {Z : State} {a0 : Array Value} (hw : ∀ d ∈ tables_1, d.before a0 Z = true) : (Jvm.Cond.instanceMethod ({ cls := "heapglass/core/wire/Allowance", name := "<init>", desc := "()V" } : Jvm.MethodName)).before a0 Z = true := hw _ (List.mem_of_getElem? (i := 4) rfl)
theorem w5 {Z : State} {a0 : Array Value} (hw : ∀ d ∈ tables_1, d.before a0 Z = true) : (Jvm.Cond.code ({ cls := "heapglass/core/wire/Allowance", name := "<init>", desc := "()V" } : Jvm.MethodName) prog_9_method_1_code (1 : Nat) (Option.none : Option Jvm.ClassFile.FieldType)).before a0 Z = true := hw _ (List.mem_of_getElem? (i := 5) rfl)
theorem w6 {Z : State} {a0 : Array Value} (hw : ∀ d ∈ tables_1, d.before a0 Z = true) : (Jvm.Cond.methodLink "heapglass/core/wire/Allowance" (3 : Nat) ({ cls := "java/lang/Object", name := "<init>", desc := "()V" } : Jvm.MethodName)).before a0 Z = true := hw _ (List.mem_of_getElem? (i := 6) rfl)
theorem w7 {Z : State} {a0 : Array Value} (hw : ∀ d ∈ tables_1, d.before a0 Z = true) : (Jvm.Cond.instanceMethod ({ cls := "java/lang/Object", name := "<init>", desc := "()V" } : Jvm.MethodName)).before a0 Z = true := hw _ (List.mem_of_getElem? (i := 7) rfl)
theorem w8 {Z : State} {a0 : Array Value} (hw : ∀ d ∈ tables_1, d.before a0 Z = true) : (Jvm.Cond.code ({ cls := "java/lang/Object", name := "<init>", desc := "()V" } : Jvm.MethodName) object_method_1_code (1 : Nat) (Option.none : Option Jvm.ClassFile.FieldType)).before a0 Z = true := hw _ (List.mem_of_getElem? (i := 8) rfl)
theorem w9 {Z : State} {a0 : Array Value} (hw : ∀ d ∈ tables_1, d.before a0 Z = true) : (Jvm.Cond.constantLong "heapglass/core/wire/Allowance" (11 : Nat) (9223372036854775807 : Int64)).before a0 Z = true := hw _ (List.mem_of_getElem? (i := 9) rfl)
theorem w10 {Z : State} {a0 : Array Value} (hw : ∀ d ∈ tables_1, d.before a0 Z = true) : (Jvm.Cond.fieldLink "heapglass/core/wire/Allowance" (13 : Nat) "heapglass/core/wire/Allowance" "left" "J").before a0 Z = true := hw _ (List.mem_of_getElem? (i := 10) rfl)
theorem w11 {Z : State} {a0 : Array Value} (hw : ∀ d ∈ tables_1, d.before a0 Z = true) : (Jvm.Cond.lays "heapglass/core/wire/Allowance" "heapglass/core/wire/Allowance" "left" "J").before a0 Z = true := hw _ (List.mem_of_getElem? (i := 11) rfl)
theorem w12 {Z : State} {a0 : Array Value} (hw : ∀ d ∈ tables_1, d.before a0 Z = true) : (Jvm.Cond.methodLink "heapglass/core/wire/AllowanceSpendPinLaw" (23 : Nat) ({ cls := "heapglass/core/wire/Allowance", name := "spend", desc := "()V" } : Jvm.MethodName)).before a0 Z = true := hw _ (List.mem_of_getElem? (i := 12) rfl)
theorem w13 {Z : State} {a0 : Array Value} (hw : ∀ d ∈ tables_1, d.before a0 Z = true) : (Jvm.Cond.declares ({ cls := "heapglass/core/wire/Allowance", name := "spend", desc := "()V" } : Jvm.MethodName)).before a0 Z = true := hw _ (List.mem_of_getElem? (i := 13) rfl)
theorem w14 {Z : State} {a0 : Array Value} (hw : ∀ d ∈ tables_1, d.before a0 Z = true) : (Jvm.Cond.instanceMethod ({ cls := "heapglass/core/wire/Allowance", name := "spend", desc := "()V" } : Jvm.MethodName)).before a0 Z = true := hw _ (List.mem_of_getElem? (i := 14) rfl)
theorem w15 {Z : State} {a0 : Array Value} (hw : ∀ d ∈ tables_1, d.before a0 Z = true) : (Jvm.Cond.selects "heapglass/core/wire/Allowance" ({ cls := "heapglass/core/wire/Allowance", name := "spend", desc := "()V" } : Jvm.MethodName) ({ cls := "heapglass/core/wire/Allowance", name := "spend", desc := "()V" } : Jvm.MethodName)).before a0 Z = true := hw _ (List.mem_of_getElem? (i := 15) rfl)
theorem w16 {Z : State} {a0 : Array Value} (hw : ∀ d ∈ tables_1, d.before a0 Z = true) : (Jvm.Cond.code ({ cls := "heapglass/core/wire/Allowance", name := "spend", desc := "()V" } : Jvm.MethodName) prog_9_method_3_code (1 : Nat) (Option.none : Option Jvm.ClassFile.FieldType)).before a0 Z = true := hw _ (List.mem_of_getElem? (i := 16) rfl)
theorem w17 {Z : State} {a0 : Array Value} (hw : ∀ d ∈ tables_1, d.before a0 Z = true) : (Jvm.Cond.methodLink "heapglass/core/wire/AllowanceSpendPinLaw" (26 : Nat) ({ cls := "heapglass/core/wire/Allowance", name := "isSpent", desc := "()Z" } : Jvm.MethodName)).before a0 Z = true := hw _ (List.mem_of_getElem? (i := 17) rfl)
theorem w18 {Z : State} {a0 : Array Value} (hw : ∀ d ∈ tables_1, d.before a0 Z = true) : (Jvm.Cond.declares ({ cls := "heapglass/core/wire/Allowance", name := "isSpent", desc := "()Z" } : Jvm.MethodName)).before a0 Z = true := hw _ (List.mem_of_getElem? (i := 18) rfl)
theorem w19 {Z : State} {a0 : Array Value} (hw : ∀ d ∈ tables_1, d.before a0 Z = true) : (Jvm.Cond.instanceMethod ({ cls := "heapglass/core/wire/Allowance", name := "isSpent", desc := "()Z" } : Jvm.MethodName)).before a0 Z = true := hw _ (List.mem_of_getElem? (i := 19) rfl)
theorem w20 {Z : State} {a0 : Array Value} (hw : ∀ d ∈ tables_1, d.before a0 Z = true) : (Jvm.Cond.selects "heapglass/core/wire/Allowance" ({ cls := "heapglass/core/wire/Allowance", name := "isSpent", desc := "()Z" } : Jvm.MethodName) ({ cls := "heapglass/core/wire/Allowance", name := "isSpent", desc := "()Z" } : Jvm.MethodName)).before a0 Z = true := hw _ (List.mem_of_getElem? (i := 20) rfl)
theorem w21 {Z : State} {a0 : Array Value} (hw : ∀ d ∈ tables_1, d.before a0 Z = true) : (Jvm.Cond.code ({ cls := "heapglass/core/wire/Allowance", name := "isSpent", desc := "()Z" } : Jvm.MethodName) prog_9_method_4_code (1 : Nat) (Option.some Jvm.ClassFile.FieldType.boolean)).before a0 Z = true := hw _ (List.mem_of_getElem? (i := 21) rfl)
theorem w22 {Z : State} {a0 : Array Value} (hw : ∀ d ∈ tables_1, d.before a0 Z = true) : (Jvm.Cond.fieldLink "heapglass/core/wire/AllowanceSpendPinLaw" (20 : Nat) "heapglass/core/wire/Control" "STEP" "Lheapglass/core/wire/Control;").before a0 Z = true := hw _ (List.mem_of_getElem? (i := 22) rfl)
theorem w23 {Z : State} {a0 : Array Value} (hw : ∀ d ∈ tables_1, d.before a0 Z = true) : (Jvm.Cond.initialized "heapglass/core/wire/Control").before a0 Z = true := hw _ (List.mem_of_getElem? (i := 23) rfl)
theorem w24 {Z : State} {a0 : Array Value} (hw : ∀ d ∈ tables_1, d.before a0 Z = true) : (Jvm.Cond.laysStatic "heapglass/core/wire/Control" "STEP" "Lheapglass/core/wire/Control;").before a0 Z = true := hw _ (List.mem_of_getElem? (i := 24) rfl)
theorem w25 {Z : State} {a0 : Array Value} (hw : ∀ d ∈ tables_1, d.before a0 Z = true) : (Jvm.Cond.methodLink "heapglass/core/wire/AllowanceSpendPinLaw" (16 : Nat) ({ cls := "heapglass/core/wire/Allowance", name := "obey", desc := "(Lheapglass/core/wire/Control;)V" } : Jvm.MethodName)).before a0 Z = true := hw _ (List.mem_of_getElem? (i := 25) rfl)
theorem w26 {Z : State} {a0 : Array Value} (hw : ∀ d ∈ tables_1, d.before a0 Z = true) : (Jvm.Cond.declares ({ cls := "heapglass/core/wire/Allowance", name := "obey", desc := "(Lheapglass/core/wire/Control;)V" } : Jvm.MethodName)).before a0 Z = true := hw _ (List.mem_of_getElem? (i := 26) rfl)
theorem w27 {Z : State} {a0 : Array Value} (hw : ∀ d ∈ tables_1, d.before a0 Z = true) : (Jvm.Cond.instanceMethod ({ cls := "heapglass/core/wire/Allowance", name := "obey", desc := "(Lheapglass/core/wire/Control;)V" } : Jvm.MethodName)).before a0 Z = true := hw _ (List.mem_of_getElem? (i := 27) rfl)
theorem w28 {Z : State} {a0 : Array Value} (hw : ∀ d ∈ tables_1, d.before a0 Z = true) : (Jvm.Cond.selects "heapglass/core/wire/Allowance" ({ cls := "heapglass/core/wire/Allowance", name := "obey", desc := "(Lheapglass/core/wire/Control;)V" } : Jvm.MethodName) ({ cls := "heapglass/core/wire/Allowance", name := "obey", desc := "(Lheapglass/core/wire/Control;)V" } : Jvm.MethodName)).before a0 Z = true := hw _ (List.mem_of_getElem? (i := 28) rfl)
theorem w29 {Z : State} {a0 : Array Value} (hw : ∀ d ∈ tables_1, d.before a0 Z = true) : (Jvm.Cond.code ({ cls := "heapglass/core/wire/Allowance", name := "obey", desc := "(Lheapglass/core/wire/Control;)V" } : Jvm.MethodName) prog_9_method_2_code (2 : Nat) (Option.none : Option Jvm.ClassFile.FieldType)).before a0 Z = true := hw _ (List.mem_of_getElem? (i := 29) rfl)
theorem w30 {Z : State} {a0 : Array Value} (hw : ∀ d ∈ tables_1, d.before a0 Z = true) : (Jvm.Cond.fieldLink "heapglass/core/wire/Allowance" (17 : Nat) "heapglass/core/wire/Allowance$1" "$SwitchMap$heapglass$core$wire$Control" "[I").before a0 Z = true := hw _ (List.mem_of_getElem? (i := 30) rfl)
theorem w31 {Z : State} {a0 : Array Value} (hw : ∀ d ∈ tables_1, d.before a0 Z = true) : (Jvm.Cond.initialized "heapglass/core/wire/Allowance$1").before a0 Z = true := hw _ (List.mem_of_getElem? (i := 31) rfl)
theorem w32 {Z : State} {a0 : Array Value} (hw : ∀ d ∈ tables_1, d.before a0 Z = true) : (Jvm.Cond.laysStatic "heapglass/core/wire/Allowance$1" "$SwitchMap$heapglass$core$wire$Control" "[I").before a0 Z = true := hw _ (List.mem_of_getElem? (i := 32) rfl)
theorem w33 {Z : State} {a0 : Array Value} (hw : ∀ d ∈ tables_1, d.before a0 Z = true) : (Jvm.Cond.methodLink "heapglass/core/wire/Allowance" (23 : Nat) ({ cls := "heapglass/core/wire/Control", name := "ordinal", desc := "()I" } : Jvm.MethodName)).before a0 Z = true := hw _ (List.mem_of_getElem? (i := 33) rfl)
theorem w34 {Z : State} {a0 : Array Value} (hw : ∀ d ∈ tables_1, d.before a0 Z = true) : (Jvm.Cond.sameMethod "heapglass/core/wire/Control" "java/lang/Enum" "ordinal" "()I").before a0 Z = true := hw _ (List.mem_of_getElem? (i := 34) rfl)
theorem w35 {Z : State} {a0 : Array Value} (hw : ∀ d ∈ tables_1, d.before a0 Z = true) : (Jvm.Cond.declares ({ cls := "java/lang/Enum", name := "ordinal", desc := "()I" } : Jvm.MethodName)).before a0 Z = true := hw _ (List.mem_of_getElem? (i := 35) rfl)
theorem w36 {Z : State} {a0 : Array Value} (hw : ∀ d ∈ tables_1, d.before a0 Z = true) : (Jvm.Cond.instanceMethod ({ cls := "java/lang/Enum", name := "ordinal", desc := "()I" } : Jvm.MethodName)).before a0 Z = true := hw _ (List.mem_of_getElem? (i := 36) rfl)
theorem w37 {Z : State} {a0 : Array Value} (hw : ∀ d ∈ tables_1, d.before a0 Z = true) : (Jvm.Cond.selects "heapglass/core/wire/Control" ({ cls := "heapglass/core/wire/Control", name := "ordinal", desc := "()I" } : Jvm.MethodName) ({ cls := "java/lang/Enum", name := "ordinal", desc := "()I" } : Jvm.MethodName)).before a0 Z = true := hw _ (List.mem_of_getElem? (i := 37) rfl)
theorem w38 {Z : State} {a0 : Array Value} (hw : ∀ d ∈ tables_1, d.before a0 Z = true) : (Jvm.Cond.initialized "java/lang/Enum").before a0 Z = true := hw _ (List.mem_of_getElem? (i := 38) rfl)
theorem w39 {Z : State} {a0 : Array Value} (hw : ∀ d ∈ tables_1, d.before a0 Z = true) : (Jvm.Cond.code ({ cls := "java/lang/Enum", name := "ordinal", desc := "()I" } : Jvm.MethodName) jdk_37_method_2_code (1 : Nat) (Option.some Jvm.ClassFile.FieldType.int)).before a0 Z = true := hw _ (List.mem_of_getElem? (i := 39) rfl)
theorem w40 {Z : State} {a0 : Array Value} (hw : ∀ d ∈ tables_1, d.before a0 Z = true) : (Jvm.Cond.fieldLink "java/lang/Enum" (7 : Nat) "java/lang/Enum" "ordinal" "I").before a0 Z = true := hw _ (List.mem_of_getElem? (i := 40) rfl)
theorem w42 {Z : State} {a0 : Array Value} (hw : ∀ d ∈ tables_1, d.before a0 Z = true) : (Jvm.Cond.fieldLink "heapglass/core/wire/AllowanceSpendPinLaw" (10 : Nat) "heapglass/core/wire/Control" "PAUSE" "Lheapglass/core/wire/Control;").before a0 Z = true := hw _ (List.mem_of_getElem? (i := 42) rfl)
theorem w43 {Z : State} {a0 : Array Value} (hw : ∀ d ∈ tables_1, d.before a0 Z = true) : (Jvm.Cond.laysStatic "heapglass/core/wire/Control" "PAUSE" "Lheapglass/core/wire/Control;").before a0 Z = true := hw _ (List.mem_of_getElem? (i := 43) rfl)
theorem w44 {Z : State} {a0 : Array Value} (hw : ∀ d ∈ tables_1, d.before a0 Z = true) : (Jvm.Cond.methodLink "heapglass/core/wire/Allowance" (34 : Nat) ({ cls := "java/lang/Math", name := "min", desc := "(JJ)J" } : Jvm.MethodName)).before a0 Z = true := hw _ (List.mem_of_getElem? (i := 44) rfl)
theorem w45 {Z : State} {a0 : Array Value} (hw : ∀ d ∈ tables_1, d.before a0 Z = true) : (Jvm.Cond.static ({ cls := "java/lang/Math", name := "min", desc := "(JJ)J" } : Jvm.MethodName)).before a0 Z = true := hw _ (List.mem_of_getElem? (i := 45) rfl)
theorem w46 {Z : State} {a0 : Array Value} (hw : ∀ d ∈ tables_1, d.before a0 Z = true) : (Jvm.Cond.initialized "java/lang/Math").before a0 Z = true := hw _ (List.mem_of_getElem? (i := 46) rfl)
theorem w47 {Z : State} {a0 : Array Value} (hw : ∀ d ∈ tables_1, d.before a0 Z = true) : (Jvm.Cond.code ({ cls := "java/lang/Math", name := "min", desc := "(JJ)J" } : Jvm.MethodName) jdk_29_method_70_code (4 : Nat) (Option.some Jvm.ClassFile.FieldType.long)).before a0 Z = true := hw _ (List.mem_of_getElem? (i := 47) rfl)
theorem d_jdk_29_method_70_0 : decode jdk_29_method_70_code 0 = .ok (.lload_n 0, 1) := by decide +kernel
theorem d_jdk_29_method_70_1 : decode jdk_29_method_70_code 1 = .ok (.lload_n 2, 1) := by decide +kernel
theorem d_jdk_29_method_70_2 : decode jdk_29_method_70_code 2 = .ok (.lcmp, 1) := by decide +kernel
theorem d_jdk_29_method_70_3 : decode jdk_29_method_70_code 3 = .ok (.ifCond .gt 7, 3) := by decide +kernel
theorem d_jdk_29_method_70_10 : decode jdk_29_method_70_code 10 = .ok (.lload_n 2, 1) := by decide +kernel
theorem d_jdk_29_method_70_11 : decode jdk_29_method_70_code 11 = .ok (.lreturn, 1) := by decide +kernel
theorem d_jdk_37_method_2_0 : decode jdk_37_method_2_code 0 = .ok (.aload_n 0, 1) := by decide +kernel
theorem d_jdk_37_method_2_1 : decode jdk_37_method_2_code 1 = .ok (.getfield 7, 3) := by decide +kernel
theorem d_jdk_37_method_2_4 : decode jdk_37_method_2_code 4 = .ok (.ireturn, 1) := by decide +kernel
theorem d_prog_9_method_1_0 : decode prog_9_method_1_code 0 = .ok (.aload_n 0, 1) := by decide +kernel
theorem d_prog_9_method_1_1 : decode prog_9_method_1_code 1 = .ok (.invokespecial 3, 3) := by decide +kernel
theorem d_prog_9_method_1_4 : decode prog_9_method_1_code 4 = .ok (.aload_n 0, 1) := by decide +kernel
theorem d_prog_9_method_1_5 : decode prog_9_method_1_code 5 = .ok (.ldc2_w 11, 3) := by decide +kernel
theorem d_prog_9_method_1_8 : decode prog_9_method_1_code 8 = .ok (.putfield 13, 3) := by decide +kernel
theorem d_prog_9_method_1_11 : decode prog_9_method_1_code 11 = .ok (.return_, 1) := by decide +kernel
theorem d_prog_9_method_2_0 : decode prog_9_method_2_code 0 = .ok (.aload_n 0, 1) := by decide +kernel
theorem d_prog_9_method_2_1 : decode prog_9_method_2_code 1 = .ok (.getstatic 17, 3) := by decide +kernel
theorem d_prog_9_method_2_4 : decode prog_9_method_2_code 4 = .ok (.aload_n 1, 1) := by decide +kernel
theorem d_prog_9_method_2_5 : decode prog_9_method_2_code 5 = .ok (.invokevirtual 23, 3) := by decide +kernel
theorem d_prog_9_method_2_8 : decode prog_9_method_2_code 8 = .ok (.iaload, 1) := by decide +kernel
theorem d_prog_9_method_2_9 : decode prog_9_method_2_code 9 = .ok (.tableswitch 27 1 3 #[37, 48, 72], 27) := by decide +kernel
theorem d_prog_9_method_2_46 : decode prog_9_method_2_code 46 = .ok (.aload_n 0, 1) := by decide +kernel
theorem d_prog_9_method_2_47 : decode prog_9_method_2_code 47 = .ok (.getfield 13, 3) := by decide +kernel
theorem d_prog_9_method_2_50 : decode prog_9_method_2_code 50 = .ok (.lconst 1, 1) := by decide +kernel
theorem d_prog_9_method_2_51 : decode prog_9_method_2_code 51 = .ok (.invokestatic 34, 3) := by decide +kernel
theorem d_prog_9_method_2_54 : decode prog_9_method_2_code 54 = .ok (.goto 30, 3) := by decide +kernel
theorem d_prog_9_method_2_57 : decode prog_9_method_2_code 57 = .ok (.aload_n 0, 1) := by decide +kernel
theorem d_prog_9_method_2_58 : decode prog_9_method_2_code 58 = .ok (.getfield 13, 3) := by decide +kernel
theorem d_prog_9_method_2_61 : decode prog_9_method_2_code 61 = .ok (.ldc2_w 11, 3) := by decide +kernel
theorem d_prog_9_method_2_64 : decode prog_9_method_2_code 64 = .ok (.lcmp, 1) := by decide +kernel
theorem d_prog_9_method_2_65 : decode prog_9_method_2_code 65 = .ok (.ifCond .ne 7, 3) := by decide +kernel
theorem d_prog_9_method_2_68 : decode prog_9_method_2_code 68 = .ok (.lconst 1, 1) := by decide +kernel
theorem d_prog_9_method_2_69 : decode prog_9_method_2_code 69 = .ok (.goto 15, 3) := by decide +kernel
theorem d_prog_9_method_2_72 : decode prog_9_method_2_code 72 = .ok (.aload_n 0, 1) := by decide +kernel
theorem d_prog_9_method_2_73 : decode prog_9_method_2_code 73 = .ok (.getfield 13, 3) := by decide +kernel
theorem d_prog_9_method_2_76 : decode prog_9_method_2_code 76 = .ok (.lconst 1, 1) := by decide +kernel
theorem d_prog_9_method_2_77 : decode prog_9_method_2_code 77 = .ok (.ladd, 1) := by decide +kernel
theorem d_prog_9_method_2_78 : decode prog_9_method_2_code 78 = .ok (.goto 6, 3) := by decide +kernel
theorem d_prog_9_method_2_84 : decode prog_9_method_2_code 84 = .ok (.putfield 13, 3) := by decide +kernel
theorem d_prog_9_method_2_87 : decode prog_9_method_2_code 87 = .ok (.return_, 1) := by decide +kernel
theorem d_prog_9_method_3_0 : decode prog_9_method_3_code 0 = .ok (.aload_n 0, 1) := by decide +kernel
theorem d_prog_9_method_3_1 : decode prog_9_method_3_code 1 = .ok (.getfield 13, 3) := by decide +kernel
theorem d_prog_9_method_3_4 : decode prog_9_method_3_code 4 = .ok (.lconst 0, 1) := by decide +kernel
theorem d_prog_9_method_3_5 : decode prog_9_method_3_code 5 = .ok (.lcmp, 1) := by decide +kernel
theorem d_prog_9_method_3_6 : decode prog_9_method_3_code 6 = .ok (.ifCond .le 24, 3) := by decide +kernel
theorem d_prog_9_method_3_9 : decode prog_9_method_3_code 9 = .ok (.aload_n 0, 1) := by decide +kernel
theorem d_prog_9_method_3_10 : decode prog_9_method_3_code 10 = .ok (.getfield 13, 3) := by decide +kernel
theorem d_prog_9_method_3_13 : decode prog_9_method_3_code 13 = .ok (.ldc2_w 11, 3) := by decide +kernel
theorem d_prog_9_method_3_16 : decode prog_9_method_3_code 16 = .ok (.lcmp, 1) := by decide +kernel
theorem d_prog_9_method_3_17 : decode prog_9_method_3_code 17 = .ok (.ifCond .eq 13, 3) := by decide +kernel
theorem d_prog_9_method_3_20 : decode prog_9_method_3_code 20 = .ok (.aload_n 0, 1) := by decide +kernel
theorem d_prog_9_method_3_21 : decode prog_9_method_3_code 21 = .ok (.dup, 1) := by decide +kernel
theorem d_prog_9_method_3_22 : decode prog_9_method_3_code 22 = .ok (.getfield 13, 3) := by decide +kernel
theorem d_prog_9_method_3_25 : decode prog_9_method_3_code 25 = .ok (.lconst 1, 1) := by decide +kernel
theorem d_prog_9_method_3_26 : decode prog_9_method_3_code 26 = .ok (.lsub, 1) := by decide +kernel
theorem d_prog_9_method_3_27 : decode prog_9_method_3_code 27 = .ok (.putfield 13, 3) := by decide +kernel
theorem d_prog_9_method_3_30 : decode prog_9_method_3_code 30 = .ok (.return_, 1) := by decide +kernel
theorem d_prog_9_method_4_0 : decode prog_9_method_4_code 0 = .ok (.aload_n 0, 1) := by decide +kernel
theorem d_prog_9_method_4_1 : decode prog_9_method_4_code 1 = .ok (.getfield 13, 3) := by decide +kernel
theorem d_prog_9_method_4_4 : decode prog_9_method_4_code 4 = .ok (.lconst 0, 1) := by decide +kernel
theorem d_prog_9_method_4_5 : decode prog_9_method_4_code 5 = .ok (.lcmp, 1) := by decide +kernel
theorem d_prog_9_method_4_6 : decode prog_9_method_4_code 6 = .ok (.ifCond .ne 7, 3) := by decide +kernel
theorem d_prog_9_method_4_9 : decode prog_9_method_4_code 9 = .ok (.iconst 1, 1) := by decide +kernel
theorem d_prog_9_method_4_10 : decode prog_9_method_4_code 10 = .ok (.goto 4, 3) := by decide +kernel
theorem d_prog_9_method_4_13 : decode prog_9_method_4_code 13 = .ok (.iconst 0, 1) := by decide +kernel
theorem d_prog_9_method_4_14 : decode prog_9_method_4_code 14 = .ok (.ireturn, 1) := by decide +kernel
theorem pd_0 : parseMethodDescriptor "()V" = some ⟨[], none⟩ := by decide +kernel
theorem pd_1 : parseMethodDescriptor "()Z" = some ⟨[], some .boolean⟩ := by decide +kernel
theorem pd_2 : parseMethodDescriptor "()I" = some ⟨[], some .int⟩ := by decide +kernel
theorem pd_3 : parseMethodDescriptor "(Lheapglass/core/wire/Control;)V" = some ⟨[(.object "heapglass/core/wire/Control")], none⟩ := by decide +kernel
theorem pd_4 : parseMethodDescriptor "(JJ)J" = some ⟨[.long, .long], some .long⟩ := by decide +kernel
theorem pn_0 : plainName "heapglass/core/wire/Allowance" = true := by first | (simp [plainName, overriddenIn]; done) | decide +kernel
theorem pn_1 : plainName "java/lang/Enum" = true := by first | (simp [plainName, overriddenIn]; done) | decide +kernel
theorem pn_2 : plainName "heapglass/core/wire/AllowanceSpendPinLaw" = true := by first | (simp [plainName, overriddenIn]; done) | decide +kernel
theorem oneof_4 (z : Int32) (h1 : 0 ≤ z.toInt) (h2 : z.toInt < 4) : z = 0 ∨ z = 1 ∨ z = 2 ∨ z = 3 := by
  have q : z.toInt = 0 ∨ z.toInt = 1 ∨ z.toInt = 2 ∨ z.toInt = 3 := by omega
  rcases q with q | q | q | q
  · exact Or.inl (Int32.toInt_inj.mp (q.trans rfl))
  · exact Or.inr (Or.inl (Int32.toInt_inj.mp (q.trans rfl)))
  · exact Or.inr (Or.inr (Or.inl (Int32.toInt_inj.mp (q.trans rfl))))
  · exact Or.inr (Or.inr (Or.inr ((Int32.toInt_inj.mp (q.trans rfl)))))
theorem and_3 (x : Int32) : x &&& (3 : Int32) = (0 : Int32) ∨ x &&& (3 : Int32) = (1 : Int32) ∨ x &&& (3 : Int32) = (2 : Int32) ∨ x &&& (3 : Int32) = (3 : Int32) := by
  have p := c_and x 3 (by decide)
  have q : (3 : Int32).toInt = 3 := rfl
  exact oneof_4 _ p.1 (by omega)
def Ctx (Z : State) (w_STEP w_PAUSE w_arr0 : Addr) (cl_arr0 : Cell) : Prop := Sta Z Z.heap "heapglass/core/wire/Control" "STEP" "Lheapglass/core/wire/Control;" (.ref w_STEP) ∧ Sta Z Z.heap "heapglass/core/wire/Control" "PAUSE" "Lheapglass/core/wire/Control;" (.ref w_PAUSE) ∧ Exa Z Z.heap w_STEP "heapglass/core/wire/Control" ∧ Exa Z Z.heap w_PAUSE "heapglass/core/wire/Control" ∧ Fld Z Z.heap w_STEP "java/lang/Enum" "ordinal" "I" (.int 1) ∧ Fld Z Z.heap w_PAUSE "java/lang/Enum" "ordinal" "I" (.int 0) ∧ Sta Z Z.heap "heapglass/core/wire/Allowance$1" "$SwitchMap$heapglass$core$wire$Control" "[I" (.ref w_arr0) ∧ Arr Z Z.heap w_arr0 cl_arr0 .int ∧ (¬ ((1 : Int32) < 0 ∨ cl_arr0.slots.size ≤ (1 : Int32).toNatClampNeg) ∧ cl_arr0.slots[(1 : Int32).toNatClampNeg]? = some (.int (2 : Int32))) ∧ (¬ ((0 : Int32) < 0 ∨ cl_arr0.slots.size ≤ (0 : Int32).toNatClampNeg) ∧ cl_arr0.slots[(0 : Int32).toNatClampNeg]? = some (.int (1 : Int32))) ∧ (¬ ((2 : Int32) < 0 ∨ cl_arr0.slots.size ≤ (2 : Int32).toNatClampNeg) ∧ cl_arr0.slots[(2 : Int32).toNatClampNeg]? = some (.int (3 : Int32)))
set_option maxRecDepth 65536 in
set_option maxHeartbeats 40000000 in
theorem c1_init (l : Launch) {Z : State} {a0 : Array Value} (hw : ∀ d ∈ tables_1, d.before a0 Z = true) (ws : List Jvm.Cond) {w_STEP w_PAUSE w_arr0 : Addr} {cl_arr0 : Cell} {n0 : Nat} {h0 : Heap} (C : Ctx Z w_STEP w_PAUSE w_arr0 cl_arr0) (O0 : Old Z n0 h0) (Z0 : n0 ≤ h0.size) (b900 : Addr) (g_b900 : n0 ≤ b900) (E_b900 : Exa Z h0 b900 "heapglass/core/wire/Allowance") (F_b900_left : Fld Z h0 b900 "heapglass/core/wire/Allowance" "left" "J" (.long 0)) : zCon l Z (⟨"heapglass/core/wire/Allowance", "<init>", "()V"⟩ : MethodName) prog_9_method_1_code 1 none ws ({ frames := 1, cells := 0, slots := 0, locals := 12 } : Room) #[(.ref b900)] h0 (fun v h L => v = none ∧ Fr n0 L ∧ Keep h0 h [b900] ∧ Exa Z h b900 "heapglass/core/wire/Allowance" ∧ Fld Z h b900 "heapglass/core/wire/Allowance" "left" "J" (.long 9223372036854775807)) := by
  obtain ⟨S_w_STEP, S_w_PAUSE, E_w_STEP, E_w_PAUSE, F_w_STEP_ordinal, F_w_PAUSE_ordinal, S_w_arr0, A_w_arr0, A_w_arr0_1, A_w_arr0_0, A_w_arr0_2⟩ := C
  refine zenter (plainFor_of_name pn_0) (L0 := #[rv b900]) (fun m => by first | rfl | simp [entryFrame, mkF, argsToLocals, Value.category, maxLocals]) ?_
  intro p e s m below meth c T0 hx hZ hby hml hown0 hnm hret hlk X0 e0
  have hown : s.vm.findClass "heapglass/core/wire/Allowance" = some m.cls := hown0
  have K0 := Keep.refl h0 [b900]
  have N0 := Fr.nil n0
  show zEnds p e below s T0 (mkF m 0 #[rv b900] []) _ _ _
  refine zaloadN X0 hx hby d_prog_9_method_1_0 rfl rfl (zobjinit X0 hx hby d_prog_9_method_1_1 hZ hown (w6 hw) (w7 hw) (w8 hw) e0 (by rw [hml]; rfl) 0 (Nat.le_of_eq rfl) (by decide) (by decide) fun T1 X1 e1 => ?_)
  refine zaloadN X1 hx hby d_prog_9_method_1_4 rfl rfl (zldc2J X1 hx hby d_prog_9_method_1_5 (9223372036854775807 : Int64) hZ hown (w9 hw) (zputfld X1 hx hby d_prog_9_method_1_8 hZ hown (host := "") (Or.inl (w10 hw)) Via.refl e1 F_b900_left E_b900 (Or.inl (w11 hw)) (w1 hw) (ty := .long) (by decide) rfl rfl fun T2 h2 X2 e2 W2 => ?_))
  have F2_b900_left : Fld Z h2 b900 "heapglass/core/wire/Allowance" "left" "J" (.long 9223372036854775807) := F_b900_left.same W2
  have E2_b900 := E_b900.wr W2
  have O2 := O0.wr W2 g_b900
  have K2 := Keep.wr K0 W2 (Or.inl (List.mem_of_getElem? (i := 0) rfl))
  have N2 := Fr.snoc X2 N0 g_b900
  show zEnds p e below s T2 (mkF m 11 #[rv b900] []) _ _ _
  exact zretV X2 hx hby d_prog_9_method_1_11 hret hlk (by decide) (by decide) (by rw [e2]; exact ⟨rfl, N2, K2, E2_b900, F2_b900_left⟩)
set_option maxRecDepth 65536 in
set_option maxHeartbeats 40000000 in
theorem c3_isSpent (l : Launch) {Z : State} {a0 : Array Value} (hw : ∀ d ∈ tables_1, d.before a0 Z = true) (ws : List Jvm.Cond) {w_STEP w_PAUSE w_arr0 : Addr} {cl_arr0 : Cell} {n0 : Nat} {h0 : Heap} (C : Ctx Z w_STEP w_PAUSE w_arr0 cl_arr0) (O0 : Old Z n0 h0) (Z0 : n0 ≤ h0.size) (b900 : Addr) (g_b900 : n0 ≤ b900) (E_b900 : Exa Z h0 b900 "heapglass/core/wire/Allowance") (F_b900_left : Fld Z h0 b900 "heapglass/core/wire/Allowance" "left" "J" (.long 9223372036854775807)) : zCon l Z (⟨"heapglass/core/wire/Allowance", "isSpent", "()Z"⟩ : MethodName) prog_9_method_4_code 1 (some .boolean) ws ({ frames := 0, cells := 0, slots := 0, locals := 0 } : Room) #[(.ref b900)] h0 (zSame (some (.int 0)) h0) := by
  obtain ⟨S_w_STEP, S_w_PAUSE, E_w_STEP, E_w_PAUSE, F_w_STEP_ordinal, F_w_PAUSE_ordinal, S_w_arr0, A_w_arr0, A_w_arr0_1, A_w_arr0_0, A_w_arr0_2⟩ := C
  refine zenter (plainFor_of_name pn_0) (L0 := #[rv b900]) (fun m => by first | rfl | simp [entryFrame, mkF, argsToLocals, Value.category, maxLocals]) ?_
  intro p e s m below meth c T0 hx hZ hby hml hown0 hnm hret hlk X0 e0
  have hown : s.vm.findClass "heapglass/core/wire/Allowance" = some m.cls := hown0
  have K0 := Keep.refl h0 []
  have N0 := Fr.nil n0
  show zEnds p e below s T0 (mkF m 0 #[rv b900] []) _ _ _
  refine zaloadN X0 hx hby d_prog_9_method_4_0 rfl rfl (zgetfld X0 hx hby d_prog_9_method_4_1 hZ hown (host := "") (Or.inl (w10 hw)) Via.refl e0 F_b900_left fun T1 X1 e1 => (zlconst X1 hx hby d_prog_9_method_4_4 (z := (0 : Int64)) rfl (zlcmp X1 hx hby d_prog_9_method_4_5 (1 : Int32) (by decide) (zifYes X1 hx hby d_prog_9_method_4_6 13 (by decide) (by decide) (by decide) (ziconst X1 hx hby d_prog_9_method_4_13 (z := (0 : Int32)) rfl ?_)))))
  show zEnds p e below s T1 (mkF m 14 #[rv b900] [(.int 0)]) _ _ _
  exact zretZ X1 hx hby d_prog_9_method_4_14 hret hlk (by simp) rfl (by decide) (by decide) ⟨rfl, e1, rfl⟩
set_option maxRecDepth 65536 in
set_option maxHeartbeats 40000000 in
theorem c6_ordinal (l : Launch) {Z : State} {a0 : Array Value} (hw : ∀ d ∈ tables_1, d.before a0 Z = true) (ws : List Jvm.Cond) {w_STEP w_PAUSE w_arr0 : Addr} {cl_arr0 : Cell} {n0 : Nat} {h0 : Heap} (C : Ctx Z w_STEP w_PAUSE w_arr0 cl_arr0) (O0 : Old Z n0 h0) (Z0 : n0 ≤ h0.size)  : zCon l Z (⟨"java/lang/Enum", "ordinal", "()I"⟩ : MethodName) jdk_37_method_2_code 1 (some .int) ws ({ frames := 0, cells := 0, slots := 0, locals := 0 } : Room) #[(.ref w_STEP)] h0 (zSame (some (.int 1)) h0) := by
  obtain ⟨S_w_STEP, S_w_PAUSE, E_w_STEP, E_w_PAUSE, F_w_STEP_ordinal, F_w_PAUSE_ordinal, S_w_arr0, A_w_arr0, A_w_arr0_1, A_w_arr0_0, A_w_arr0_2⟩ := C
  refine zenter (plainFor_of_name pn_1) (L0 := #[rv w_STEP]) (fun m => by first | rfl | simp [entryFrame, mkF, argsToLocals, Value.category, maxLocals]) ?_
  intro p e s m below meth c T0 hx hZ hby hml hown0 hnm hret hlk X0 e0
  have hown : s.vm.findClass "java/lang/Enum" = some m.cls := hown0
  have K0 := Keep.refl h0 []
  have N0 := Fr.nil n0
  show zEnds p e below s T0 (mkF m 0 #[rv w_STEP] []) _ _ _
  refine zaloadN X0 hx hby d_jdk_37_method_2_0 rfl rfl (zgetfld X0 hx hby d_jdk_37_method_2_1 hZ hown (host := "") (Or.inl (w40 hw)) Via.refl e0 (F_w_STEP_ordinal.ext O0.2) fun T1 X1 e1 => ?_)
  show zEnds p e below s T1 (mkF m 4 #[rv w_STEP] [(.int 1)]) _ _ _
  exact zretI X1 hx hby d_jdk_37_method_2_4 hret hlk (by decide) (by decide) ⟨rfl, e1, rfl⟩
set_option maxRecDepth 65536 in
set_option maxHeartbeats 40000000 in
theorem c5_obey (l : Launch) {Z : State} {a0 : Array Value} (hw : ∀ d ∈ tables_1, d.before a0 Z = true) (ws : List Jvm.Cond) {w_STEP w_PAUSE w_arr0 : Addr} {cl_arr0 : Cell} {n0 : Nat} {h0 : Heap} (C : Ctx Z w_STEP w_PAUSE w_arr0 cl_arr0) (O0 : Old Z n0 h0) (Z0 : n0 ≤ h0.size) (b900 : Addr) (g_b900 : n0 ≤ b900) (E_b900 : Exa Z h0 b900 "heapglass/core/wire/Allowance") (F_b900_left : Fld Z h0 b900 "heapglass/core/wire/Allowance" "left" "J" (.long 9223372036854775807)) : zCon l Z (⟨"heapglass/core/wire/Allowance", "obey", "(Lheapglass/core/wire/Control;)V"⟩ : MethodName) prog_9_method_2_code 2 none ws ({ frames := 1, cells := 0, slots := 0, locals := 14 } : Room) #[(.ref b900), (.ref w_STEP)] h0 (fun v h L => v = none ∧ Fr n0 L ∧ Keep h0 h [b900] ∧ Exa Z h b900 "heapglass/core/wire/Allowance" ∧ Fld Z h b900 "heapglass/core/wire/Allowance" "left" "J" (.long 1)) := by
  obtain ⟨S_w_STEP, S_w_PAUSE, E_w_STEP, E_w_PAUSE, F_w_STEP_ordinal, F_w_PAUSE_ordinal, S_w_arr0, A_w_arr0, A_w_arr0_1, A_w_arr0_0, A_w_arr0_2⟩ := C
  refine zenter (plainFor_of_name pn_0) (L0 := #[rv b900, rv w_STEP]) (fun m => by first | rfl | simp [entryFrame, mkF, argsToLocals, Value.category, maxLocals]) ?_
  intro p e s m below meth c T0 hx hZ hby hml hown0 hnm hret hlk X0 e0
  have hown : s.vm.findClass "heapglass/core/wire/Allowance" = some m.cls := hown0
  have K0 := Keep.refl h0 [b900]
  have N0 := Fr.nil n0
  show zEnds p e below s T0 (mkF m 0 #[rv b900, rv w_STEP] []) _ _ _
  refine zaloadN X0 hx hby d_prog_9_method_2_0 rfl rfl (zgetstat X0 hx hby d_prog_9_method_2_1 hZ hown (host := "") (Or.inl (w30 hw)) Via.refl e0 (S_w_arr0.ext O0.2) fun T1 X1 e1 => (zaloadN X1 hx hby d_prog_9_method_2_4 rfl rfl (zcallup X1 hx hby d_prog_9_method_2_5 hZ hown (w33 hw) (w34 hw) (w35 hw) (w37 hw) (w36 hw) (w39 hw) (w38 hw) e1 (E_w_STEP.ext O0.2) (c6_ordinal l hw [] ⟨S_w_STEP, S_w_PAUSE, E_w_STEP, E_w_PAUSE, F_w_STEP_ordinal, F_w_PAUSE_ordinal, S_w_arr0, A_w_arr0, A_w_arr0_1, A_w_arr0_0, A_w_arr0_2⟩ O0 (Nat.le_trans Z0 K0.1) ) (by decide) (by rw [hml]; rfl) 2 (Nat.le_of_eq rfl) (by decide) (by decide) (by decide) (by decide) pd_2 rfl (argsL := []) (st := [(.ref w_arr0), (.ref b900)]) rfl (zpureK ⟨rfl, rfl⟩ fun T2 X2 e2 => ?_))))
  show zEnds p e below s T2 (mkF m 8 #[rv b900, rv w_STEP] [(.int 1), (.ref w_arr0), (.ref b900)]) _ _ _
  refine zialoadC X2 hx hby d_prog_9_method_2_8 hZ e2 (A_w_arr0.ext O0.2) A_w_arr0_1 (ztswIn X2 hx hby d_prog_9_method_2_9 57 (by decide) rfl (by decide) (by decide) (zaloadN X2 hx hby d_prog_9_method_2_57 rfl rfl (zgetfld X2 hx hby d_prog_9_method_2_58 hZ hown (host := "") (Or.inl (w10 hw)) Via.refl e2 F_b900_left fun T3 X3 e3 => (zldc2J X3 hx hby d_prog_9_method_2_61 (9223372036854775807 : Int64) hZ hown (w9 hw) (zlcmp X3 hx hby d_prog_9_method_2_64 (0 : Int32) (by decide) (zifNo X3 hx hby d_prog_9_method_2_65 (by decide) (zlconst X3 hx hby d_prog_9_method_2_68 (z := (1 : Int64)) rfl (zgoto X3 hx hby d_prog_9_method_2_69 84 (by decide) (by decide) (zputfld X3 hx hby d_prog_9_method_2_84 hZ hown (host := "") (Or.inl (w10 hw)) Via.refl e3 F_b900_left E_b900 (Or.inl (w11 hw)) (w1 hw) (ty := .long) (by decide) rfl rfl fun T4 h4 X4 e4 W4 => ?_)))))))))
  have F4_b900_left : Fld Z h4 b900 "heapglass/core/wire/Allowance" "left" "J" (.long 1) := F_b900_left.same W4
  have E4_b900 := E_b900.wr W4
  have O4 := O0.wr W4 g_b900
  have K4 := Keep.wr K0 W4 (Or.inl (List.mem_of_getElem? (i := 0) rfl))
  have N4 := Fr.snoc X4 N0 g_b900
  show zEnds p e below s T4 (mkF m 87 #[rv b900, rv w_STEP] []) _ _ _
  exact zretV X4 hx hby d_prog_9_method_2_87 hret hlk (by decide) (by decide) (by rw [e4]; exact ⟨rfl, N4, K4, E4_b900, F4_b900_left⟩)
set_option maxRecDepth 65536 in
set_option maxHeartbeats 40000000 in
theorem c9_isSpent (l : Launch) {Z : State} {a0 : Array Value} (hw : ∀ d ∈ tables_1, d.before a0 Z = true) (ws : List Jvm.Cond) {w_STEP w_PAUSE w_arr0 : Addr} {cl_arr0 : Cell} {n0 : Nat} {h0 : Heap} (C : Ctx Z w_STEP w_PAUSE w_arr0 cl_arr0) (O0 : Old Z n0 h0) (Z0 : n0 ≤ h0.size) (b900 : Addr) (g_b900 : n0 ≤ b900) (E_b900 : Exa Z h0 b900 "heapglass/core/wire/Allowance") (F_b900_left : Fld Z h0 b900 "heapglass/core/wire/Allowance" "left" "J" (.long 1)) : zCon l Z (⟨"heapglass/core/wire/Allowance", "isSpent", "()Z"⟩ : MethodName) prog_9_method_4_code 1 (some .boolean) ws ({ frames := 0, cells := 0, slots := 0, locals := 0 } : Room) #[(.ref b900)] h0 (zSame (some (.int 0)) h0) := by
  obtain ⟨S_w_STEP, S_w_PAUSE, E_w_STEP, E_w_PAUSE, F_w_STEP_ordinal, F_w_PAUSE_ordinal, S_w_arr0, A_w_arr0, A_w_arr0_1, A_w_arr0_0, A_w_arr0_2⟩ := C
  refine zenter (plainFor_of_name pn_0) (L0 := #[rv b900]) (fun m => by first | rfl | simp [entryFrame, mkF, argsToLocals, Value.category, maxLocals]) ?_
  intro p e s m below meth c T0 hx hZ hby hml hown0 hnm hret hlk X0 e0
  have hown : s.vm.findClass "heapglass/core/wire/Allowance" = some m.cls := hown0
  have K0 := Keep.refl h0 []
  have N0 := Fr.nil n0
  show zEnds p e below s T0 (mkF m 0 #[rv b900] []) _ _ _
  refine zaloadN X0 hx hby d_prog_9_method_4_0 rfl rfl (zgetfld X0 hx hby d_prog_9_method_4_1 hZ hown (host := "") (Or.inl (w10 hw)) Via.refl e0 F_b900_left fun T1 X1 e1 => (zlconst X1 hx hby d_prog_9_method_4_4 (z := (0 : Int64)) rfl (zlcmp X1 hx hby d_prog_9_method_4_5 (1 : Int32) (by decide) (zifYes X1 hx hby d_prog_9_method_4_6 13 (by decide) (by decide) (by decide) (ziconst X1 hx hby d_prog_9_method_4_13 (z := (0 : Int32)) rfl ?_)))))
  show zEnds p e below s T1 (mkF m 14 #[rv b900] [(.int 0)]) _ _ _
  exact zretZ X1 hx hby d_prog_9_method_4_14 hret hlk (by simp) rfl (by decide) (by decide) ⟨rfl, e1, rfl⟩
set_option maxRecDepth 65536 in
set_option maxHeartbeats 40000000 in
theorem c11_spend (l : Launch) {Z : State} {a0 : Array Value} (hw : ∀ d ∈ tables_1, d.before a0 Z = true) (ws : List Jvm.Cond) {w_STEP w_PAUSE w_arr0 : Addr} {cl_arr0 : Cell} {n0 : Nat} {h0 : Heap} (C : Ctx Z w_STEP w_PAUSE w_arr0 cl_arr0) (O0 : Old Z n0 h0) (Z0 : n0 ≤ h0.size) (b900 : Addr) (g_b900 : n0 ≤ b900) (E_b900 : Exa Z h0 b900 "heapglass/core/wire/Allowance") (F_b900_left : Fld Z h0 b900 "heapglass/core/wire/Allowance" "left" "J" (.long 1)) : zCon l Z (⟨"heapglass/core/wire/Allowance", "spend", "()V"⟩ : MethodName) prog_9_method_3_code 1 none ws ({ frames := 0, cells := 0, slots := 0, locals := 0 } : Room) #[(.ref b900)] h0 (fun v h L => v = none ∧ Fr n0 L ∧ Keep h0 h [b900] ∧ Exa Z h b900 "heapglass/core/wire/Allowance" ∧ Fld Z h b900 "heapglass/core/wire/Allowance" "left" "J" (.long 0)) := by
  obtain ⟨S_w_STEP, S_w_PAUSE, E_w_STEP, E_w_PAUSE, F_w_STEP_ordinal, F_w_PAUSE_ordinal, S_w_arr0, A_w_arr0, A_w_arr0_1, A_w_arr0_0, A_w_arr0_2⟩ := C
  refine zenter (plainFor_of_name pn_0) (L0 := #[rv b900]) (fun m => by first | rfl | simp [entryFrame, mkF, argsToLocals, Value.category, maxLocals]) ?_
  intro p e s m below meth c T0 hx hZ hby hml hown0 hnm hret hlk X0 e0
  have hown : s.vm.findClass "heapglass/core/wire/Allowance" = some m.cls := hown0
  have K0 := Keep.refl h0 [b900]
  have N0 := Fr.nil n0
  show zEnds p e below s T0 (mkF m 0 #[rv b900] []) _ _ _
  refine zaloadN X0 hx hby d_prog_9_method_3_0 rfl rfl (zgetfld X0 hx hby d_prog_9_method_3_1 hZ hown (host := "") (Or.inl (w10 hw)) Via.refl e0 F_b900_left fun T1 X1 e1 => (zlconst X1 hx hby d_prog_9_method_3_4 (z := (0 : Int64)) rfl (zlcmp X1 hx hby d_prog_9_method_3_5 (1 : Int32) (by decide) (zifNo X1 hx hby d_prog_9_method_3_6 (by decide) (zaloadN X1 hx hby d_prog_9_method_3_9 rfl rfl (zgetfld X1 hx hby d_prog_9_method_3_10 hZ hown (host := "") (Or.inl (w10 hw)) Via.refl e1 F_b900_left fun T2 X2 e2 => (zldc2J X2 hx hby d_prog_9_method_3_13 (9223372036854775807 : Int64) hZ hown (w9 hw) (zlcmp X2 hx hby d_prog_9_method_3_16 (-1 : Int32) (by decide) (zifNo X2 hx hby d_prog_9_method_3_17 (by decide) ?_)))))))))
  show zEnds p e below s T2 (mkF m 20 #[rv b900] []) _ _ _
  refine zaloadN X2 hx hby d_prog_9_method_3_20 rfl rfl (zdup X2 hx hby d_prog_9_method_3_21 rfl (zgetfld X2 hx hby d_prog_9_method_3_22 hZ hown (host := "") (Or.inl (w10 hw)) Via.refl e2 F_b900_left fun T3 X3 e3 => (zlconst X3 hx hby d_prog_9_method_3_25 (z := (1 : Int64)) rfl (zlsub X3 hx hby d_prog_9_method_3_26 (0 : Int64) (by decide) (zputfld X3 hx hby d_prog_9_method_3_27 hZ hown (host := "") (Or.inl (w10 hw)) Via.refl e3 F_b900_left E_b900 (Or.inl (w11 hw)) (w1 hw) (ty := .long) (by decide) rfl rfl fun T4 h4 X4 e4 W4 => ?_)))))
  have F4_b900_left : Fld Z h4 b900 "heapglass/core/wire/Allowance" "left" "J" (.long 0) := F_b900_left.same W4
  have E4_b900 := E_b900.wr W4
  have O4 := O0.wr W4 g_b900
  have K4 := Keep.wr K0 W4 (Or.inl (List.mem_of_getElem? (i := 0) rfl))
  have N4 := Fr.snoc X4 N0 g_b900
  show zEnds p e below s T4 (mkF m 30 #[rv b900] []) _ _ _
  exact zretV X4 hx hby d_prog_9_method_3_30 hret hlk (by decide) (by decide) (by rw [e4]; exact ⟨rfl, N4, K4, E4_b900, F4_b900_left⟩)
set_option maxRecDepth 65536 in
set_option maxHeartbeats 40000000 in
theorem c13_isSpent (l : Launch) {Z : State} {a0 : Array Value} (hw : ∀ d ∈ tables_1, d.before a0 Z = true) (ws : List Jvm.Cond) {w_STEP w_PAUSE w_arr0 : Addr} {cl_arr0 : Cell} {n0 : Nat} {h0 : Heap} (C : Ctx Z w_STEP w_PAUSE w_arr0 cl_arr0) (O0 : Old Z n0 h0) (Z0 : n0 ≤ h0.size) (b900 : Addr) (g_b900 : n0 ≤ b900) (E_b900 : Exa Z h0 b900 "heapglass/core/wire/Allowance") (F_b900_left : Fld Z h0 b900 "heapglass/core/wire/Allowance" "left" "J" (.long 0)) : zCon l Z (⟨"heapglass/core/wire/Allowance", "isSpent", "()Z"⟩ : MethodName) prog_9_method_4_code 1 (some .boolean) ws ({ frames := 0, cells := 0, slots := 0, locals := 0 } : Room) #[(.ref b900)] h0 (zSame (some (.int 1)) h0) := by
  obtain ⟨S_w_STEP, S_w_PAUSE, E_w_STEP, E_w_PAUSE, F_w_STEP_ordinal, F_w_PAUSE_ordinal, S_w_arr0, A_w_arr0, A_w_arr0_1, A_w_arr0_0, A_w_arr0_2⟩ := C
  refine zenter (plainFor_of_name pn_0) (L0 := #[rv b900]) (fun m => by first | rfl | simp [entryFrame, mkF, argsToLocals, Value.category, maxLocals]) ?_
  intro p e s m below meth c T0 hx hZ hby hml hown0 hnm hret hlk X0 e0
  have hown : s.vm.findClass "heapglass/core/wire/Allowance" = some m.cls := hown0
  have K0 := Keep.refl h0 []
  have N0 := Fr.nil n0
  show zEnds p e below s T0 (mkF m 0 #[rv b900] []) _ _ _
  refine zaloadN X0 hx hby d_prog_9_method_4_0 rfl rfl (zgetfld X0 hx hby d_prog_9_method_4_1 hZ hown (host := "") (Or.inl (w10 hw)) Via.refl e0 F_b900_left fun T1 X1 e1 => (zlconst X1 hx hby d_prog_9_method_4_4 (z := (0 : Int64)) rfl (zlcmp X1 hx hby d_prog_9_method_4_5 (0 : Int32) (by decide) (zifNo X1 hx hby d_prog_9_method_4_6 (by decide) (ziconst X1 hx hby d_prog_9_method_4_9 (z := (1 : Int32)) rfl (zgoto X1 hx hby d_prog_9_method_4_10 14 (by decide) (by decide) ?_))))))
  show zEnds p e below s T1 (mkF m 14 #[rv b900] [(.int 1)]) _ _ _
  exact zretZ X1 hx hby d_prog_9_method_4_14 hret hlk (by simp) rfl (by decide) (by decide) ⟨rfl, e1, rfl⟩
set_option maxRecDepth 65536 in
set_option maxHeartbeats 40000000 in
theorem c15_spend (l : Launch) {Z : State} {a0 : Array Value} (hw : ∀ d ∈ tables_1, d.before a0 Z = true) (ws : List Jvm.Cond) {w_STEP w_PAUSE w_arr0 : Addr} {cl_arr0 : Cell} {n0 : Nat} {h0 : Heap} (C : Ctx Z w_STEP w_PAUSE w_arr0 cl_arr0) (O0 : Old Z n0 h0) (Z0 : n0 ≤ h0.size) (b900 : Addr) (g_b900 : n0 ≤ b900) (E_b900 : Exa Z h0 b900 "heapglass/core/wire/Allowance") (F_b900_left : Fld Z h0 b900 "heapglass/core/wire/Allowance" "left" "J" (.long 9223372036854775807)) : zCon l Z (⟨"heapglass/core/wire/Allowance", "spend", "()V"⟩ : MethodName) prog_9_method_3_code 1 none ws ({ frames := 0, cells := 0, slots := 0, locals := 0 } : Room) #[(.ref b900)] h0 (zSame none h0) := by
  obtain ⟨S_w_STEP, S_w_PAUSE, E_w_STEP, E_w_PAUSE, F_w_STEP_ordinal, F_w_PAUSE_ordinal, S_w_arr0, A_w_arr0, A_w_arr0_1, A_w_arr0_0, A_w_arr0_2⟩ := C
  refine zenter (plainFor_of_name pn_0) (L0 := #[rv b900]) (fun m => by first | rfl | simp [entryFrame, mkF, argsToLocals, Value.category, maxLocals]) ?_
  intro p e s m below meth c T0 hx hZ hby hml hown0 hnm hret hlk X0 e0
  have hown : s.vm.findClass "heapglass/core/wire/Allowance" = some m.cls := hown0
  have K0 := Keep.refl h0 []
  have N0 := Fr.nil n0
  show zEnds p e below s T0 (mkF m 0 #[rv b900] []) _ _ _
  refine zaloadN X0 hx hby d_prog_9_method_3_0 rfl rfl (zgetfld X0 hx hby d_prog_9_method_3_1 hZ hown (host := "") (Or.inl (w10 hw)) Via.refl e0 F_b900_left fun T1 X1 e1 => (zlconst X1 hx hby d_prog_9_method_3_4 (z := (0 : Int64)) rfl (zlcmp X1 hx hby d_prog_9_method_3_5 (1 : Int32) (by decide) (zifNo X1 hx hby d_prog_9_method_3_6 (by decide) (zaloadN X1 hx hby d_prog_9_method_3_9 rfl rfl (zgetfld X1 hx hby d_prog_9_method_3_10 hZ hown (host := "") (Or.inl (w10 hw)) Via.refl e1 F_b900_left fun T2 X2 e2 => (zldc2J X2 hx hby d_prog_9_method_3_13 (9223372036854775807 : Int64) hZ hown (w9 hw) (zlcmp X2 hx hby d_prog_9_method_3_16 (0 : Int32) (by decide) (zifYes X2 hx hby d_prog_9_method_3_17 30 (by decide) (by decide) (by decide) ?_)))))))))
  show zEnds p e below s T2 (mkF m 30 #[rv b900] []) _ _ _
  exact zretV X2 hx hby d_prog_9_method_3_30 hret hlk (by decide) (by decide) ⟨rfl, e2, rfl⟩
set_option maxRecDepth 65536 in
set_option maxHeartbeats 40000000 in
theorem c18_ordinal (l : Launch) {Z : State} {a0 : Array Value} (hw : ∀ d ∈ tables_1, d.before a0 Z = true) (ws : List Jvm.Cond) {w_STEP w_PAUSE w_arr0 : Addr} {cl_arr0 : Cell} {n0 : Nat} {h0 : Heap} (C : Ctx Z w_STEP w_PAUSE w_arr0 cl_arr0) (O0 : Old Z n0 h0) (Z0 : n0 ≤ h0.size)  : zCon l Z (⟨"java/lang/Enum", "ordinal", "()I"⟩ : MethodName) jdk_37_method_2_code 1 (some .int) ws ({ frames := 0, cells := 0, slots := 0, locals := 0 } : Room) #[(.ref w_PAUSE)] h0 (zSame (some (.int 0)) h0) := by
  obtain ⟨S_w_STEP, S_w_PAUSE, E_w_STEP, E_w_PAUSE, F_w_STEP_ordinal, F_w_PAUSE_ordinal, S_w_arr0, A_w_arr0, A_w_arr0_1, A_w_arr0_0, A_w_arr0_2⟩ := C
  refine zenter (plainFor_of_name pn_1) (L0 := #[rv w_PAUSE]) (fun m => by first | rfl | simp [entryFrame, mkF, argsToLocals, Value.category, maxLocals]) ?_
  intro p e s m below meth c T0 hx hZ hby hml hown0 hnm hret hlk X0 e0
  have hown : s.vm.findClass "java/lang/Enum" = some m.cls := hown0
  have K0 := Keep.refl h0 []
  have N0 := Fr.nil n0
  show zEnds p e below s T0 (mkF m 0 #[rv w_PAUSE] []) _ _ _
  refine zaloadN X0 hx hby d_jdk_37_method_2_0 rfl rfl (zgetfld X0 hx hby d_jdk_37_method_2_1 hZ hown (host := "") (Or.inl (w40 hw)) Via.refl e0 (F_w_PAUSE_ordinal.ext O0.2) fun T1 X1 e1 => ?_)
  show zEnds p e below s T1 (mkF m 4 #[rv w_PAUSE] [(.int 0)]) _ _ _
  exact zretI X1 hx hby d_jdk_37_method_2_4 hret hlk (by decide) (by decide) ⟨rfl, e1, rfl⟩
set_option maxRecDepth 65536 in
set_option maxHeartbeats 40000000 in
theorem c20_min (l : Launch) {Z : State} {a0 : Array Value} (hw : ∀ d ∈ tables_1, d.before a0 Z = true) (ws : List Jvm.Cond) {w_STEP w_PAUSE w_arr0 : Addr} {cl_arr0 : Cell} {n0 : Nat} {h0 : Heap} (C : Ctx Z w_STEP w_PAUSE w_arr0 cl_arr0) (O0 : Old Z n0 h0) (Z0 : n0 ≤ h0.size)  : zCon l Z (⟨"java/lang/Math", "min", "(JJ)J"⟩ : MethodName) jdk_29_method_70_code 4 (some .long) ws ({ frames := 0, cells := 0, slots := 0, locals := 0 } : Room) #[(.long 9223372036854775807), (.long 1)] h0 (zSame (some (.long 1)) h0) := by
  obtain ⟨S_w_STEP, S_w_PAUSE, E_w_STEP, E_w_PAUSE, F_w_STEP_ordinal, F_w_PAUSE_ordinal, S_w_arr0, A_w_arr0, A_w_arr0_1, A_w_arr0_0, A_w_arr0_2⟩ := C
  refine zenter (Jvm.Free.JP.mathPlain rfl (by decide +kernel)) (L0 := #[.val (.long 9223372036854775807), .second, .val (.long 1), .second]) (fun m => by first | rfl | simp [entryFrame, mkF, argsToLocals, Value.category, maxLocals]) ?_
  intro p e s m below meth c T0 hx hZ hby hml hown0 hnm hret hlk X0 e0
  have hown : s.vm.findClass "java/lang/Math" = some m.cls := hown0
  have K0 := Keep.refl h0 []
  have N0 := Fr.nil n0
  show zEnds p e below s T0 (mkF m 0 #[.val (.long 9223372036854775807), .second, .val (.long 1), .second] []) _ _ _
  refine zlloadN X0 hx hby d_jdk_29_method_70_0 rfl (zlloadN X0 hx hby d_jdk_29_method_70_1 rfl (zlcmp X0 hx hby d_jdk_29_method_70_2 (1 : Int32) (by decide) (zifYes X0 hx hby d_jdk_29_method_70_3 10 (by decide) (by decide) (by decide) (zlloadN X0 hx hby d_jdk_29_method_70_10 rfl ?_))))
  show zEnds p e below s T0 (mkF m 11 #[.val (.long 9223372036854775807), .second, .val (.long 1), .second] [(.long 1)]) _ _ _
  exact zretL X0 hx hby d_jdk_29_method_70_11 hret hlk (by decide) (by decide) ⟨rfl, e0, rfl⟩
set_option maxRecDepth 65536 in
set_option maxHeartbeats 40000000 in
theorem c17_obey (l : Launch) {Z : State} {a0 : Array Value} (hw : ∀ d ∈ tables_1, d.before a0 Z = true) (ws : List Jvm.Cond) {w_STEP w_PAUSE w_arr0 : Addr} {cl_arr0 : Cell} {n0 : Nat} {h0 : Heap} (C : Ctx Z w_STEP w_PAUSE w_arr0 cl_arr0) (O0 : Old Z n0 h0) (Z0 : n0 ≤ h0.size) (b900 : Addr) (g_b900 : n0 ≤ b900) (E_b900 : Exa Z h0 b900 "heapglass/core/wire/Allowance") (F_b900_left : Fld Z h0 b900 "heapglass/core/wire/Allowance" "left" "J" (.long 9223372036854775807)) : zCon l Z (⟨"heapglass/core/wire/Allowance", "obey", "(Lheapglass/core/wire/Control;)V"⟩ : MethodName) prog_9_method_2_code 2 none ws ({ frames := 1, cells := 0, slots := 0, locals := 16 } : Room) #[(.ref b900), (.ref w_PAUSE)] h0 (fun v h L => v = none ∧ Fr n0 L ∧ Keep h0 h [b900] ∧ Exa Z h b900 "heapglass/core/wire/Allowance" ∧ Fld Z h b900 "heapglass/core/wire/Allowance" "left" "J" (.long 1)) := by
  obtain ⟨S_w_STEP, S_w_PAUSE, E_w_STEP, E_w_PAUSE, F_w_STEP_ordinal, F_w_PAUSE_ordinal, S_w_arr0, A_w_arr0, A_w_arr0_1, A_w_arr0_0, A_w_arr0_2⟩ := C
  refine zenter (plainFor_of_name pn_0) (L0 := #[rv b900, rv w_PAUSE]) (fun m => by first | rfl | simp [entryFrame, mkF, argsToLocals, Value.category, maxLocals]) ?_
  intro p e s m below meth c T0 hx hZ hby hml hown0 hnm hret hlk X0 e0
  have hown : s.vm.findClass "heapglass/core/wire/Allowance" = some m.cls := hown0
  have K0 := Keep.refl h0 [b900]
  have N0 := Fr.nil n0
  show zEnds p e below s T0 (mkF m 0 #[rv b900, rv w_PAUSE] []) _ _ _
  refine zaloadN X0 hx hby d_prog_9_method_2_0 rfl rfl (zgetstat X0 hx hby d_prog_9_method_2_1 hZ hown (host := "") (Or.inl (w30 hw)) Via.refl e0 (S_w_arr0.ext O0.2) fun T1 X1 e1 => (zaloadN X1 hx hby d_prog_9_method_2_4 rfl rfl (zcallup X1 hx hby d_prog_9_method_2_5 hZ hown (w33 hw) (w34 hw) (w35 hw) (w37 hw) (w36 hw) (w39 hw) (w38 hw) e1 (E_w_PAUSE.ext O0.2) (c18_ordinal l hw [] ⟨S_w_STEP, S_w_PAUSE, E_w_STEP, E_w_PAUSE, F_w_STEP_ordinal, F_w_PAUSE_ordinal, S_w_arr0, A_w_arr0, A_w_arr0_1, A_w_arr0_0, A_w_arr0_2⟩ O0 (Nat.le_trans Z0 K0.1) ) (by decide) (by rw [hml]; rfl) 2 (Nat.le_of_eq rfl) (by decide) (by decide) (by decide) (by decide) pd_2 rfl (argsL := []) (st := [(.ref w_arr0), (.ref b900)]) rfl (zpureK ⟨rfl, rfl⟩ fun T2 X2 e2 => ?_))))
  show zEnds p e below s T2 (mkF m 8 #[rv b900, rv w_PAUSE] [(.int 0), (.ref w_arr0), (.ref b900)]) _ _ _
  refine zialoadC X2 hx hby d_prog_9_method_2_8 hZ e2 (A_w_arr0.ext O0.2) A_w_arr0_0 (ztswIn X2 hx hby d_prog_9_method_2_9 46 (by decide) rfl (by decide) (by decide) (zaloadN X2 hx hby d_prog_9_method_2_46 rfl rfl (zgetfld X2 hx hby d_prog_9_method_2_47 hZ hown (host := "") (Or.inl (w10 hw)) Via.refl e2 F_b900_left fun T3 X3 e3 => (zlconst X3 hx hby d_prog_9_method_2_50 (z := (1 : Int64)) rfl (zcalls X3 hx hby d_prog_9_method_2_51 hZ hown (w44 hw) (w45 hw) (w46 hw) (w47 hw) e3 (c20_min l hw [] ⟨S_w_STEP, S_w_PAUSE, E_w_STEP, E_w_PAUSE, F_w_STEP_ordinal, F_w_PAUSE_ordinal, S_w_arr0, A_w_arr0, A_w_arr0_1, A_w_arr0_0, A_w_arr0_2⟩ O0 (Nat.le_trans Z0 K0.1) ) (by decide) (by rw [hml]; rfl) 1 (Nat.le_of_eq rfl) (by decide) (by decide) (by decide) (by decide) pd_4 rfl (argsL := [(.long 9223372036854775807), (.long 1)]) (st := [(.ref b900)]) rfl (zpureK ⟨rfl, rfl⟩ fun T4 X4 e4 => ?_))))))
  show zEnds p e below s T4 (mkF m 54 #[rv b900, rv w_PAUSE] [(.long 1), (.ref b900)]) _ _ _
  refine zgoto X4 hx hby d_prog_9_method_2_54 84 (by decide) (by decide) (zputfld X4 hx hby d_prog_9_method_2_84 hZ hown (host := "") (Or.inl (w10 hw)) Via.refl e4 F_b900_left E_b900 (Or.inl (w11 hw)) (w1 hw) (ty := .long) (by decide) rfl rfl fun T5 h5 X5 e5 W5 => ?_)
  have F5_b900_left : Fld Z h5 b900 "heapglass/core/wire/Allowance" "left" "J" (.long 1) := F_b900_left.same W5
  have E5_b900 := E_b900.wr W5
  have O5 := O0.wr W5 g_b900
  have K5 := Keep.wr K0 W5 (Or.inl (List.mem_of_getElem? (i := 0) rfl))
  have N5 := Fr.snoc X5 N0 g_b900
  show zEnds p e below s T5 (mkF m 87 #[rv b900, rv w_PAUSE] []) _ _ _
  exact zretV X5 hx hby d_prog_9_method_2_87 hret hlk (by decide) (by decide) (by rw [e5]; exact ⟨rfl, N5, K5, E5_b900, F5_b900_left⟩)
set_option maxRecDepth 65536 in
set_option maxHeartbeats 40000000 in
theorem c23_obey (l : Launch) {Z : State} {a0 : Array Value} (hw : ∀ d ∈ tables_1, d.before a0 Z = true) (ws : List Jvm.Cond) {w_STEP w_PAUSE w_arr0 : Addr} {cl_arr0 : Cell} {n0 : Nat} {h0 : Heap} (C : Ctx Z w_STEP w_PAUSE w_arr0 cl_arr0) (O0 : Old Z n0 h0) (Z0 : n0 ≤ h0.size) (b900 : Addr) (g_b900 : n0 ≤ b900) (E_b900 : Exa Z h0 b900 "heapglass/core/wire/Allowance") (F_b900_left : Fld Z h0 b900 "heapglass/core/wire/Allowance" "left" "J" (.long 1)) : zCon l Z (⟨"heapglass/core/wire/Allowance", "obey", "(Lheapglass/core/wire/Control;)V"⟩ : MethodName) prog_9_method_2_code 2 none ws ({ frames := 1, cells := 0, slots := 0, locals := 14 } : Room) #[(.ref b900), (.ref w_STEP)] h0 (fun v h L => v = none ∧ Fr n0 L ∧ Keep h0 h [b900] ∧ Exa Z h b900 "heapglass/core/wire/Allowance" ∧ Fld Z h b900 "heapglass/core/wire/Allowance" "left" "J" (.long 2)) := by
  obtain ⟨S_w_STEP, S_w_PAUSE, E_w_STEP, E_w_PAUSE, F_w_STEP_ordinal, F_w_PAUSE_ordinal, S_w_arr0, A_w_arr0, A_w_arr0_1, A_w_arr0_0, A_w_arr0_2⟩ := C
  refine zenter (plainFor_of_name pn_0) (L0 := #[rv b900, rv w_STEP]) (fun m => by first | rfl | simp [entryFrame, mkF, argsToLocals, Value.category, maxLocals]) ?_
  intro p e s m below meth c T0 hx hZ hby hml hown0 hnm hret hlk X0 e0
  have hown : s.vm.findClass "heapglass/core/wire/Allowance" = some m.cls := hown0
  have K0 := Keep.refl h0 [b900]
  have N0 := Fr.nil n0
  show zEnds p e below s T0 (mkF m 0 #[rv b900, rv w_STEP] []) _ _ _
  refine zaloadN X0 hx hby d_prog_9_method_2_0 rfl rfl (zgetstat X0 hx hby d_prog_9_method_2_1 hZ hown (host := "") (Or.inl (w30 hw)) Via.refl e0 (S_w_arr0.ext O0.2) fun T1 X1 e1 => (zaloadN X1 hx hby d_prog_9_method_2_4 rfl rfl (zcallup X1 hx hby d_prog_9_method_2_5 hZ hown (w33 hw) (w34 hw) (w35 hw) (w37 hw) (w36 hw) (w39 hw) (w38 hw) e1 (E_w_STEP.ext O0.2) (c6_ordinal l hw [] ⟨S_w_STEP, S_w_PAUSE, E_w_STEP, E_w_PAUSE, F_w_STEP_ordinal, F_w_PAUSE_ordinal, S_w_arr0, A_w_arr0, A_w_arr0_1, A_w_arr0_0, A_w_arr0_2⟩ O0 (Nat.le_trans Z0 K0.1) ) (by decide) (by rw [hml]; rfl) 2 (Nat.le_of_eq rfl) (by decide) (by decide) (by decide) (by decide) pd_2 rfl (argsL := []) (st := [(.ref w_arr0), (.ref b900)]) rfl (zpureK ⟨rfl, rfl⟩ fun T2 X2 e2 => ?_))))
  show zEnds p e below s T2 (mkF m 8 #[rv b900, rv w_STEP] [(.int 1), (.ref w_arr0), (.ref b900)]) _ _ _
  refine zialoadC X2 hx hby d_prog_9_method_2_8 hZ e2 (A_w_arr0.ext O0.2) A_w_arr0_1 (ztswIn X2 hx hby d_prog_9_method_2_9 57 (by decide) rfl (by decide) (by decide) (zaloadN X2 hx hby d_prog_9_method_2_57 rfl rfl (zgetfld X2 hx hby d_prog_9_method_2_58 hZ hown (host := "") (Or.inl (w10 hw)) Via.refl e2 F_b900_left fun T3 X3 e3 => (zldc2J X3 hx hby d_prog_9_method_2_61 (9223372036854775807 : Int64) hZ hown (w9 hw) (zlcmp X3 hx hby d_prog_9_method_2_64 (-1 : Int32) (by decide) (zifYes X3 hx hby d_prog_9_method_2_65 72 (by decide) (by decide) (by decide) (zaloadN X3 hx hby d_prog_9_method_2_72 rfl rfl (zgetfld X3 hx hby d_prog_9_method_2_73 hZ hown (host := "") (Or.inl (w10 hw)) Via.refl e3 F_b900_left fun T4 X4 e4 => (zlconst X4 hx hby d_prog_9_method_2_76 (z := (1 : Int64)) rfl ?_)))))))))
  show zEnds p e below s T4 (mkF m 77 #[rv b900, rv w_STEP] [(.long 1), (.long 1), (.ref b900)]) _ _ _
  refine zladd X4 hx hby d_prog_9_method_2_77 (2 : Int64) (by decide) (zgoto X4 hx hby d_prog_9_method_2_78 84 (by decide) (by decide) (zputfld X4 hx hby d_prog_9_method_2_84 hZ hown (host := "") (Or.inl (w10 hw)) Via.refl e4 F_b900_left E_b900 (Or.inl (w11 hw)) (w1 hw) (ty := .long) (by decide) rfl rfl fun T5 h5 X5 e5 W5 => ?_))
  have F5_b900_left : Fld Z h5 b900 "heapglass/core/wire/Allowance" "left" "J" (.long 2) := F_b900_left.same W5
  have E5_b900 := E_b900.wr W5
  have O5 := O0.wr W5 g_b900
  have K5 := Keep.wr K0 W5 (Or.inl (List.mem_of_getElem? (i := 0) rfl))
  have N5 := Fr.snoc X5 N0 g_b900
  show zEnds p e below s T5 (mkF m 87 #[rv b900, rv w_STEP] []) _ _ _
  exact zretV X5 hx hby d_prog_9_method_2_87 hret hlk (by decide) (by decide) (by rw [e5]; exact ⟨rfl, N5, K5, E5_b900, F5_b900_left⟩)
set_option maxRecDepth 65536 in
set_option maxHeartbeats 40000000 in
theorem c25_isSpent (l : Launch) {Z : State} {a0 : Array Value} (hw : ∀ d ∈ tables_1, d.before a0 Z = true) (ws : List Jvm.Cond) {w_STEP w_PAUSE w_arr0 : Addr} {cl_arr0 : Cell} {n0 : Nat} {h0 : Heap} (C : Ctx Z w_STEP w_PAUSE w_arr0 cl_arr0) (O0 : Old Z n0 h0) (Z0 : n0 ≤ h0.size) (b900 : Addr) (g_b900 : n0 ≤ b900) (E_b900 : Exa Z h0 b900 "heapglass/core/wire/Allowance") (F_b900_left : Fld Z h0 b900 "heapglass/core/wire/Allowance" "left" "J" (.long 2)) : zCon l Z (⟨"heapglass/core/wire/Allowance", "isSpent", "()Z"⟩ : MethodName) prog_9_method_4_code 1 (some .boolean) ws ({ frames := 0, cells := 0, slots := 0, locals := 0 } : Room) #[(.ref b900)] h0 (zSame (some (.int 0)) h0) := by
  obtain ⟨S_w_STEP, S_w_PAUSE, E_w_STEP, E_w_PAUSE, F_w_STEP_ordinal, F_w_PAUSE_ordinal, S_w_arr0, A_w_arr0, A_w_arr0_1, A_w_arr0_0, A_w_arr0_2⟩ := C
  refine zenter (plainFor_of_name pn_0) (L0 := #[rv b900]) (fun m => by first | rfl | simp [entryFrame, mkF, argsToLocals, Value.category, maxLocals]) ?_
  intro p e s m below meth c T0 hx hZ hby hml hown0 hnm hret hlk X0 e0
  have hown : s.vm.findClass "heapglass/core/wire/Allowance" = some m.cls := hown0
  have K0 := Keep.refl h0 []
  have N0 := Fr.nil n0
  show zEnds p e below s T0 (mkF m 0 #[rv b900] []) _ _ _
  refine zaloadN X0 hx hby d_prog_9_method_4_0 rfl rfl (zgetfld X0 hx hby d_prog_9_method_4_1 hZ hown (host := "") (Or.inl (w10 hw)) Via.refl e0 F_b900_left fun T1 X1 e1 => (zlconst X1 hx hby d_prog_9_method_4_4 (z := (0 : Int64)) rfl (zlcmp X1 hx hby d_prog_9_method_4_5 (1 : Int32) (by decide) (zifYes X1 hx hby d_prog_9_method_4_6 13 (by decide) (by decide) (by decide) (ziconst X1 hx hby d_prog_9_method_4_13 (z := (0 : Int32)) rfl ?_)))))
  show zEnds p e below s T1 (mkF m 14 #[rv b900] [(.int 0)]) _ _ _
  exact zretZ X1 hx hby d_prog_9_method_4_14 hret hlk (by simp) rfl (by decide) (by decide) ⟨rfl, e1, rfl⟩
set_option maxRecDepth 65536 in
set_option maxHeartbeats 40000000 in
theorem c27_spend (l : Launch) {Z : State} {a0 : Array Value} (hw : ∀ d ∈ tables_1, d.before a0 Z = true) (ws : List Jvm.Cond) {w_STEP w_PAUSE w_arr0 : Addr} {cl_arr0 : Cell} {n0 : Nat} {h0 : Heap} (C : Ctx Z w_STEP w_PAUSE w_arr0 cl_arr0) (O0 : Old Z n0 h0) (Z0 : n0 ≤ h0.size) (b900 : Addr) (g_b900 : n0 ≤ b900) (E_b900 : Exa Z h0 b900 "heapglass/core/wire/Allowance") (F_b900_left : Fld Z h0 b900 "heapglass/core/wire/Allowance" "left" "J" (.long 2)) : zCon l Z (⟨"heapglass/core/wire/Allowance", "spend", "()V"⟩ : MethodName) prog_9_method_3_code 1 none ws ({ frames := 0, cells := 0, slots := 0, locals := 0 } : Room) #[(.ref b900)] h0 (fun v h L => v = none ∧ Fr n0 L ∧ Keep h0 h [b900] ∧ Exa Z h b900 "heapglass/core/wire/Allowance" ∧ Fld Z h b900 "heapglass/core/wire/Allowance" "left" "J" (.long 1)) := by
  obtain ⟨S_w_STEP, S_w_PAUSE, E_w_STEP, E_w_PAUSE, F_w_STEP_ordinal, F_w_PAUSE_ordinal, S_w_arr0, A_w_arr0, A_w_arr0_1, A_w_arr0_0, A_w_arr0_2⟩ := C
  refine zenter (plainFor_of_name pn_0) (L0 := #[rv b900]) (fun m => by first | rfl | simp [entryFrame, mkF, argsToLocals, Value.category, maxLocals]) ?_
  intro p e s m below meth c T0 hx hZ hby hml hown0 hnm hret hlk X0 e0
  have hown : s.vm.findClass "heapglass/core/wire/Allowance" = some m.cls := hown0
  have K0 := Keep.refl h0 [b900]
  have N0 := Fr.nil n0
  show zEnds p e below s T0 (mkF m 0 #[rv b900] []) _ _ _
  refine zaloadN X0 hx hby d_prog_9_method_3_0 rfl rfl (zgetfld X0 hx hby d_prog_9_method_3_1 hZ hown (host := "") (Or.inl (w10 hw)) Via.refl e0 F_b900_left fun T1 X1 e1 => (zlconst X1 hx hby d_prog_9_method_3_4 (z := (0 : Int64)) rfl (zlcmp X1 hx hby d_prog_9_method_3_5 (1 : Int32) (by decide) (zifNo X1 hx hby d_prog_9_method_3_6 (by decide) (zaloadN X1 hx hby d_prog_9_method_3_9 rfl rfl (zgetfld X1 hx hby d_prog_9_method_3_10 hZ hown (host := "") (Or.inl (w10 hw)) Via.refl e1 F_b900_left fun T2 X2 e2 => (zldc2J X2 hx hby d_prog_9_method_3_13 (9223372036854775807 : Int64) hZ hown (w9 hw) (zlcmp X2 hx hby d_prog_9_method_3_16 (-1 : Int32) (by decide) (zifNo X2 hx hby d_prog_9_method_3_17 (by decide) ?_)))))))))
  show zEnds p e below s T2 (mkF m 20 #[rv b900] []) _ _ _
  refine zaloadN X2 hx hby d_prog_9_method_3_20 rfl rfl (zdup X2 hx hby d_prog_9_method_3_21 rfl (zgetfld X2 hx hby d_prog_9_method_3_22 hZ hown (host := "") (Or.inl (w10 hw)) Via.refl e2 F_b900_left fun T3 X3 e3 => (zlconst X3 hx hby d_prog_9_method_3_25 (z := (1 : Int64)) rfl (zlsub X3 hx hby d_prog_9_method_3_26 (1 : Int64) (by decide) (zputfld X3 hx hby d_prog_9_method_3_27 hZ hown (host := "") (Or.inl (w10 hw)) Via.refl e3 F_b900_left E_b900 (Or.inl (w11 hw)) (w1 hw) (ty := .long) (by decide) rfl rfl fun T4 h4 X4 e4 W4 => ?_)))))
  have F4_b900_left : Fld Z h4 b900 "heapglass/core/wire/Allowance" "left" "J" (.long 1) := F_b900_left.same W4
  have E4_b900 := E_b900.wr W4
  have O4 := O0.wr W4 g_b900
  have K4 := Keep.wr K0 W4 (Or.inl (List.mem_of_getElem? (i := 0) rfl))
  have N4 := Fr.snoc X4 N0 g_b900
  show zEnds p e below s T4 (mkF m 30 #[rv b900] []) _ _ _
  exact zretV X4 hx hby d_prog_9_method_3_30 hret hlk (by decide) (by decide) (by rw [e4]; exact ⟨rfl, N4, K4, E4_b900, F4_b900_left⟩)
set_option maxRecDepth 65536 in
set_option maxHeartbeats 40000000 in
theorem c29_obey (l : Launch) {Z : State} {a0 : Array Value} (hw : ∀ d ∈ tables_1, d.before a0 Z = true) (ws : List Jvm.Cond) {w_STEP w_PAUSE w_arr0 : Addr} {cl_arr0 : Cell} {n0 : Nat} {h0 : Heap} (C : Ctx Z w_STEP w_PAUSE w_arr0 cl_arr0) (O0 : Old Z n0 h0) (Z0 : n0 ≤ h0.size) (b900 : Addr) (g_b900 : n0 ≤ b900) (E_b900 : Exa Z h0 b900 "heapglass/core/wire/Allowance") (F_b900_left : Fld Z h0 b900 "heapglass/core/wire/Allowance" "left" "J" (.long 0)) : zCon l Z (⟨"heapglass/core/wire/Allowance", "obey", "(Lheapglass/core/wire/Control;)V"⟩ : MethodName) prog_9_method_2_code 2 none ws ({ frames := 1, cells := 0, slots := 0, locals := 14 } : Room) #[(.ref b900), (.ref w_STEP)] h0 (fun v h L => v = none ∧ Fr n0 L ∧ Keep h0 h [b900] ∧ Exa Z h b900 "heapglass/core/wire/Allowance" ∧ Fld Z h b900 "heapglass/core/wire/Allowance" "left" "J" (.long 1)) := by
  obtain ⟨S_w_STEP, S_w_PAUSE, E_w_STEP, E_w_PAUSE, F_w_STEP_ordinal, F_w_PAUSE_ordinal, S_w_arr0, A_w_arr0, A_w_arr0_1, A_w_arr0_0, A_w_arr0_2⟩ := C
  refine zenter (plainFor_of_name pn_0) (L0 := #[rv b900, rv w_STEP]) (fun m => by first | rfl | simp [entryFrame, mkF, argsToLocals, Value.category, maxLocals]) ?_
  intro p e s m below meth c T0 hx hZ hby hml hown0 hnm hret hlk X0 e0
  have hown : s.vm.findClass "heapglass/core/wire/Allowance" = some m.cls := hown0
  have K0 := Keep.refl h0 [b900]
  have N0 := Fr.nil n0
  show zEnds p e below s T0 (mkF m 0 #[rv b900, rv w_STEP] []) _ _ _
  refine zaloadN X0 hx hby d_prog_9_method_2_0 rfl rfl (zgetstat X0 hx hby d_prog_9_method_2_1 hZ hown (host := "") (Or.inl (w30 hw)) Via.refl e0 (S_w_arr0.ext O0.2) fun T1 X1 e1 => (zaloadN X1 hx hby d_prog_9_method_2_4 rfl rfl (zcallup X1 hx hby d_prog_9_method_2_5 hZ hown (w33 hw) (w34 hw) (w35 hw) (w37 hw) (w36 hw) (w39 hw) (w38 hw) e1 (E_w_STEP.ext O0.2) (c6_ordinal l hw [] ⟨S_w_STEP, S_w_PAUSE, E_w_STEP, E_w_PAUSE, F_w_STEP_ordinal, F_w_PAUSE_ordinal, S_w_arr0, A_w_arr0, A_w_arr0_1, A_w_arr0_0, A_w_arr0_2⟩ O0 (Nat.le_trans Z0 K0.1) ) (by decide) (by rw [hml]; rfl) 2 (Nat.le_of_eq rfl) (by decide) (by decide) (by decide) (by decide) pd_2 rfl (argsL := []) (st := [(.ref w_arr0), (.ref b900)]) rfl (zpureK ⟨rfl, rfl⟩ fun T2 X2 e2 => ?_))))
  show zEnds p e below s T2 (mkF m 8 #[rv b900, rv w_STEP] [(.int 1), (.ref w_arr0), (.ref b900)]) _ _ _
  refine zialoadC X2 hx hby d_prog_9_method_2_8 hZ e2 (A_w_arr0.ext O0.2) A_w_arr0_1 (ztswIn X2 hx hby d_prog_9_method_2_9 57 (by decide) rfl (by decide) (by decide) (zaloadN X2 hx hby d_prog_9_method_2_57 rfl rfl (zgetfld X2 hx hby d_prog_9_method_2_58 hZ hown (host := "") (Or.inl (w10 hw)) Via.refl e2 F_b900_left fun T3 X3 e3 => (zldc2J X3 hx hby d_prog_9_method_2_61 (9223372036854775807 : Int64) hZ hown (w9 hw) (zlcmp X3 hx hby d_prog_9_method_2_64 (-1 : Int32) (by decide) (zifYes X3 hx hby d_prog_9_method_2_65 72 (by decide) (by decide) (by decide) (zaloadN X3 hx hby d_prog_9_method_2_72 rfl rfl (zgetfld X3 hx hby d_prog_9_method_2_73 hZ hown (host := "") (Or.inl (w10 hw)) Via.refl e3 F_b900_left fun T4 X4 e4 => (zlconst X4 hx hby d_prog_9_method_2_76 (z := (1 : Int64)) rfl ?_)))))))))
  show zEnds p e below s T4 (mkF m 77 #[rv b900, rv w_STEP] [(.long 1), (.long 0), (.ref b900)]) _ _ _
  refine zladd X4 hx hby d_prog_9_method_2_77 (1 : Int64) (by decide) (zgoto X4 hx hby d_prog_9_method_2_78 84 (by decide) (by decide) (zputfld X4 hx hby d_prog_9_method_2_84 hZ hown (host := "") (Or.inl (w10 hw)) Via.refl e4 F_b900_left E_b900 (Or.inl (w11 hw)) (w1 hw) (ty := .long) (by decide) rfl rfl fun T5 h5 X5 e5 W5 => ?_))
  have F5_b900_left : Fld Z h5 b900 "heapglass/core/wire/Allowance" "left" "J" (.long 1) := F_b900_left.same W5
  have E5_b900 := E_b900.wr W5
  have O5 := O0.wr W5 g_b900
  have K5 := Keep.wr K0 W5 (Or.inl (List.mem_of_getElem? (i := 0) rfl))
  have N5 := Fr.snoc X5 N0 g_b900
  show zEnds p e below s T5 (mkF m 87 #[rv b900, rv w_STEP] []) _ _ _
  exact zretV X5 hx hby d_prog_9_method_2_87 hret hlk (by decide) (by decide) (by rw [e5]; exact ⟨rfl, N5, K5, E5_b900, F5_b900_left⟩)
set_option maxRecDepth 65536 in
set_option maxHeartbeats 40000000 in
theorem c31_spend (l : Launch) {Z : State} {a0 : Array Value} (hw : ∀ d ∈ tables_1, d.before a0 Z = true) (ws : List Jvm.Cond) {w_STEP w_PAUSE w_arr0 : Addr} {cl_arr0 : Cell} {n0 : Nat} {h0 : Heap} (C : Ctx Z w_STEP w_PAUSE w_arr0 cl_arr0) (O0 : Old Z n0 h0) (Z0 : n0 ≤ h0.size) (b900 : Addr) (g_b900 : n0 ≤ b900) (E_b900 : Exa Z h0 b900 "heapglass/core/wire/Allowance") (F_b900_left : Fld Z h0 b900 "heapglass/core/wire/Allowance" "left" "J" (.long 0)) : zCon l Z (⟨"heapglass/core/wire/Allowance", "spend", "()V"⟩ : MethodName) prog_9_method_3_code 1 none ws ({ frames := 0, cells := 0, slots := 0, locals := 0 } : Room) #[(.ref b900)] h0 (zSame none h0) := by
  obtain ⟨S_w_STEP, S_w_PAUSE, E_w_STEP, E_w_PAUSE, F_w_STEP_ordinal, F_w_PAUSE_ordinal, S_w_arr0, A_w_arr0, A_w_arr0_1, A_w_arr0_0, A_w_arr0_2⟩ := C
  refine zenter (plainFor_of_name pn_0) (L0 := #[rv b900]) (fun m => by first | rfl | simp [entryFrame, mkF, argsToLocals, Value.category, maxLocals]) ?_
  intro p e s m below meth c T0 hx hZ hby hml hown0 hnm hret hlk X0 e0
  have hown : s.vm.findClass "heapglass/core/wire/Allowance" = some m.cls := hown0
  have K0 := Keep.refl h0 []
  have N0 := Fr.nil n0
  show zEnds p e below s T0 (mkF m 0 #[rv b900] []) _ _ _
  refine zaloadN X0 hx hby d_prog_9_method_3_0 rfl rfl (zgetfld X0 hx hby d_prog_9_method_3_1 hZ hown (host := "") (Or.inl (w10 hw)) Via.refl e0 F_b900_left fun T1 X1 e1 => (zlconst X1 hx hby d_prog_9_method_3_4 (z := (0 : Int64)) rfl (zlcmp X1 hx hby d_prog_9_method_3_5 (0 : Int32) (by decide) (zifYes X1 hx hby d_prog_9_method_3_6 30 (by decide) (by decide) (by decide) ?_))))
  show zEnds p e below s T1 (mkF m 30 #[rv b900] []) _ _ _
  exact zretV X1 hx hby d_prog_9_method_3_30 hret hlk (by decide) (by decide) ⟨rfl, e1, rfl⟩
set_option maxRecDepth 65536 in
set_option maxHeartbeats 40000000 in
theorem c33_obey (l : Launch) {Z : State} {a0 : Array Value} (hw : ∀ d ∈ tables_1, d.before a0 Z = true) (ws : List Jvm.Cond) {w_STEP w_PAUSE w_arr0 : Addr} {cl_arr0 : Cell} {n0 : Nat} {h0 : Heap} (C : Ctx Z w_STEP w_PAUSE w_arr0 cl_arr0) (O0 : Old Z n0 h0) (Z0 : n0 ≤ h0.size) (b900 : Addr) (g_b900 : n0 ≤ b900) (E_b900 : Exa Z h0 b900 "heapglass/core/wire/Allowance") (F_b900_left : Fld Z h0 b900 "heapglass/core/wire/Allowance" "left" "J" (.long 2)) : zCon l Z (⟨"heapglass/core/wire/Allowance", "obey", "(Lheapglass/core/wire/Control;)V"⟩ : MethodName) prog_9_method_2_code 2 none ws ({ frames := 1, cells := 0, slots := 0, locals := 14 } : Room) #[(.ref b900), (.ref w_STEP)] h0 (fun v h L => v = none ∧ Fr n0 L ∧ Keep h0 h [b900] ∧ Exa Z h b900 "heapglass/core/wire/Allowance" ∧ Fld Z h b900 "heapglass/core/wire/Allowance" "left" "J" (.long 3)) := by
  obtain ⟨S_w_STEP, S_w_PAUSE, E_w_STEP, E_w_PAUSE, F_w_STEP_ordinal, F_w_PAUSE_ordinal, S_w_arr0, A_w_arr0, A_w_arr0_1, A_w_arr0_0, A_w_arr0_2⟩ := C
  refine zenter (plainFor_of_name pn_0) (L0 := #[rv b900, rv w_STEP]) (fun m => by first | rfl | simp [entryFrame, mkF, argsToLocals, Value.category, maxLocals]) ?_
  intro p e s m below meth c T0 hx hZ hby hml hown0 hnm hret hlk X0 e0
  have hown : s.vm.findClass "heapglass/core/wire/Allowance" = some m.cls := hown0
  have K0 := Keep.refl h0 [b900]
  have N0 := Fr.nil n0
  show zEnds p e below s T0 (mkF m 0 #[rv b900, rv w_STEP] []) _ _ _
  refine zaloadN X0 hx hby d_prog_9_method_2_0 rfl rfl (zgetstat X0 hx hby d_prog_9_method_2_1 hZ hown (host := "") (Or.inl (w30 hw)) Via.refl e0 (S_w_arr0.ext O0.2) fun T1 X1 e1 => (zaloadN X1 hx hby d_prog_9_method_2_4 rfl rfl (zcallup X1 hx hby d_prog_9_method_2_5 hZ hown (w33 hw) (w34 hw) (w35 hw) (w37 hw) (w36 hw) (w39 hw) (w38 hw) e1 (E_w_STEP.ext O0.2) (c6_ordinal l hw [] ⟨S_w_STEP, S_w_PAUSE, E_w_STEP, E_w_PAUSE, F_w_STEP_ordinal, F_w_PAUSE_ordinal, S_w_arr0, A_w_arr0, A_w_arr0_1, A_w_arr0_0, A_w_arr0_2⟩ O0 (Nat.le_trans Z0 K0.1) ) (by decide) (by rw [hml]; rfl) 2 (Nat.le_of_eq rfl) (by decide) (by decide) (by decide) (by decide) pd_2 rfl (argsL := []) (st := [(.ref w_arr0), (.ref b900)]) rfl (zpureK ⟨rfl, rfl⟩ fun T2 X2 e2 => ?_))))
  show zEnds p e below s T2 (mkF m 8 #[rv b900, rv w_STEP] [(.int 1), (.ref w_arr0), (.ref b900)]) _ _ _
  refine zialoadC X2 hx hby d_prog_9_method_2_8 hZ e2 (A_w_arr0.ext O0.2) A_w_arr0_1 (ztswIn X2 hx hby d_prog_9_method_2_9 57 (by decide) rfl (by decide) (by decide) (zaloadN X2 hx hby d_prog_9_method_2_57 rfl rfl (zgetfld X2 hx hby d_prog_9_method_2_58 hZ hown (host := "") (Or.inl (w10 hw)) Via.refl e2 F_b900_left fun T3 X3 e3 => (zldc2J X3 hx hby d_prog_9_method_2_61 (9223372036854775807 : Int64) hZ hown (w9 hw) (zlcmp X3 hx hby d_prog_9_method_2_64 (-1 : Int32) (by decide) (zifYes X3 hx hby d_prog_9_method_2_65 72 (by decide) (by decide) (by decide) (zaloadN X3 hx hby d_prog_9_method_2_72 rfl rfl (zgetfld X3 hx hby d_prog_9_method_2_73 hZ hown (host := "") (Or.inl (w10 hw)) Via.refl e3 F_b900_left fun T4 X4 e4 => (zlconst X4 hx hby d_prog_9_method_2_76 (z := (1 : Int64)) rfl ?_)))))))))
  show zEnds p e below s T4 (mkF m 77 #[rv b900, rv w_STEP] [(.long 1), (.long 2), (.ref b900)]) _ _ _
  refine zladd X4 hx hby d_prog_9_method_2_77 (3 : Int64) (by decide) (zgoto X4 hx hby d_prog_9_method_2_78 84 (by decide) (by decide) (zputfld X4 hx hby d_prog_9_method_2_84 hZ hown (host := "") (Or.inl (w10 hw)) Via.refl e4 F_b900_left E_b900 (Or.inl (w11 hw)) (w1 hw) (ty := .long) (by decide) rfl rfl fun T5 h5 X5 e5 W5 => ?_))
  have F5_b900_left : Fld Z h5 b900 "heapglass/core/wire/Allowance" "left" "J" (.long 3) := F_b900_left.same W5
  have E5_b900 := E_b900.wr W5
  have O5 := O0.wr W5 g_b900
  have K5 := Keep.wr K0 W5 (Or.inl (List.mem_of_getElem? (i := 0) rfl))
  have N5 := Fr.snoc X5 N0 g_b900
  show zEnds p e below s T5 (mkF m 87 #[rv b900, rv w_STEP] []) _ _ _
  exact zretV X5 hx hby d_prog_9_method_2_87 hret hlk (by decide) (by decide) (by rw [e5]; exact ⟨rfl, N5, K5, E5_b900, F5_b900_left⟩)
set_option maxRecDepth 65536 in
set_option maxHeartbeats 40000000 in
theorem c35_isSpent (l : Launch) {Z : State} {a0 : Array Value} (hw : ∀ d ∈ tables_1, d.before a0 Z = true) (ws : List Jvm.Cond) {w_STEP w_PAUSE w_arr0 : Addr} {cl_arr0 : Cell} {n0 : Nat} {h0 : Heap} (C : Ctx Z w_STEP w_PAUSE w_arr0 cl_arr0) (O0 : Old Z n0 h0) (Z0 : n0 ≤ h0.size) (b900 : Addr) (g_b900 : n0 ≤ b900) (E_b900 : Exa Z h0 b900 "heapglass/core/wire/Allowance") (F_b900_left : Fld Z h0 b900 "heapglass/core/wire/Allowance" "left" "J" (.long 3)) : zCon l Z (⟨"heapglass/core/wire/Allowance", "isSpent", "()Z"⟩ : MethodName) prog_9_method_4_code 1 (some .boolean) ws ({ frames := 0, cells := 0, slots := 0, locals := 0 } : Room) #[(.ref b900)] h0 (zSame (some (.int 0)) h0) := by
  obtain ⟨S_w_STEP, S_w_PAUSE, E_w_STEP, E_w_PAUSE, F_w_STEP_ordinal, F_w_PAUSE_ordinal, S_w_arr0, A_w_arr0, A_w_arr0_1, A_w_arr0_0, A_w_arr0_2⟩ := C
  refine zenter (plainFor_of_name pn_0) (L0 := #[rv b900]) (fun m => by first | rfl | simp [entryFrame, mkF, argsToLocals, Value.category, maxLocals]) ?_
  intro p e s m below meth c T0 hx hZ hby hml hown0 hnm hret hlk X0 e0
  have hown : s.vm.findClass "heapglass/core/wire/Allowance" = some m.cls := hown0
  have K0 := Keep.refl h0 []
  have N0 := Fr.nil n0
  show zEnds p e below s T0 (mkF m 0 #[rv b900] []) _ _ _
  refine zaloadN X0 hx hby d_prog_9_method_4_0 rfl rfl (zgetfld X0 hx hby d_prog_9_method_4_1 hZ hown (host := "") (Or.inl (w10 hw)) Via.refl e0 F_b900_left fun T1 X1 e1 => (zlconst X1 hx hby d_prog_9_method_4_4 (z := (0 : Int64)) rfl (zlcmp X1 hx hby d_prog_9_method_4_5 (1 : Int32) (by decide) (zifYes X1 hx hby d_prog_9_method_4_6 13 (by decide) (by decide) (by decide) (ziconst X1 hx hby d_prog_9_method_4_13 (z := (0 : Int32)) rfl ?_)))))
  show zEnds p e below s T1 (mkF m 14 #[rv b900] [(.int 0)]) _ _ _
  exact zretZ X1 hx hby d_prog_9_method_4_14 hret hlk (by simp) rfl (by decide) (by decide) ⟨rfl, e1, rfl⟩
set_option maxRecDepth 65536 in
set_option maxHeartbeats 40000000 in
theorem c37_spend (l : Launch) {Z : State} {a0 : Array Value} (hw : ∀ d ∈ tables_1, d.before a0 Z = true) (ws : List Jvm.Cond) {w_STEP w_PAUSE w_arr0 : Addr} {cl_arr0 : Cell} {n0 : Nat} {h0 : Heap} (C : Ctx Z w_STEP w_PAUSE w_arr0 cl_arr0) (O0 : Old Z n0 h0) (Z0 : n0 ≤ h0.size) (b900 : Addr) (g_b900 : n0 ≤ b900) (E_b900 : Exa Z h0 b900 "heapglass/core/wire/Allowance") (F_b900_left : Fld Z h0 b900 "heapglass/core/wire/Allowance" "left" "J" (.long 3)) : zCon l Z (⟨"heapglass/core/wire/Allowance", "spend", "()V"⟩ : MethodName) prog_9_method_3_code 1 none ws ({ frames := 0, cells := 0, slots := 0, locals := 0 } : Room) #[(.ref b900)] h0 (fun v h L => v = none ∧ Fr n0 L ∧ Keep h0 h [b900] ∧ Exa Z h b900 "heapglass/core/wire/Allowance" ∧ Fld Z h b900 "heapglass/core/wire/Allowance" "left" "J" (.long 2)) := by
  obtain ⟨S_w_STEP, S_w_PAUSE, E_w_STEP, E_w_PAUSE, F_w_STEP_ordinal, F_w_PAUSE_ordinal, S_w_arr0, A_w_arr0, A_w_arr0_1, A_w_arr0_0, A_w_arr0_2⟩ := C
  refine zenter (plainFor_of_name pn_0) (L0 := #[rv b900]) (fun m => by first | rfl | simp [entryFrame, mkF, argsToLocals, Value.category, maxLocals]) ?_
  intro p e s m below meth c T0 hx hZ hby hml hown0 hnm hret hlk X0 e0
  have hown : s.vm.findClass "heapglass/core/wire/Allowance" = some m.cls := hown0
  have K0 := Keep.refl h0 [b900]
  have N0 := Fr.nil n0
  show zEnds p e below s T0 (mkF m 0 #[rv b900] []) _ _ _
  refine zaloadN X0 hx hby d_prog_9_method_3_0 rfl rfl (zgetfld X0 hx hby d_prog_9_method_3_1 hZ hown (host := "") (Or.inl (w10 hw)) Via.refl e0 F_b900_left fun T1 X1 e1 => (zlconst X1 hx hby d_prog_9_method_3_4 (z := (0 : Int64)) rfl (zlcmp X1 hx hby d_prog_9_method_3_5 (1 : Int32) (by decide) (zifNo X1 hx hby d_prog_9_method_3_6 (by decide) (zaloadN X1 hx hby d_prog_9_method_3_9 rfl rfl (zgetfld X1 hx hby d_prog_9_method_3_10 hZ hown (host := "") (Or.inl (w10 hw)) Via.refl e1 F_b900_left fun T2 X2 e2 => (zldc2J X2 hx hby d_prog_9_method_3_13 (9223372036854775807 : Int64) hZ hown (w9 hw) (zlcmp X2 hx hby d_prog_9_method_3_16 (-1 : Int32) (by decide) (zifNo X2 hx hby d_prog_9_method_3_17 (by decide) ?_)))))))))
  show zEnds p e below s T2 (mkF m 20 #[rv b900] []) _ _ _
  refine zaloadN X2 hx hby d_prog_9_method_3_20 rfl rfl (zdup X2 hx hby d_prog_9_method_3_21 rfl (zgetfld X2 hx hby d_prog_9_method_3_22 hZ hown (host := "") (Or.inl (w10 hw)) Via.refl e2 F_b900_left fun T3 X3 e3 => (zlconst X3 hx hby d_prog_9_method_3_25 (z := (1 : Int64)) rfl (zlsub X3 hx hby d_prog_9_method_3_26 (2 : Int64) (by decide) (zputfld X3 hx hby d_prog_9_method_3_27 hZ hown (host := "") (Or.inl (w10 hw)) Via.refl e3 F_b900_left E_b900 (Or.inl (w11 hw)) (w1 hw) (ty := .long) (by decide) rfl rfl fun T4 h4 X4 e4 W4 => ?_)))))
  have F4_b900_left : Fld Z h4 b900 "heapglass/core/wire/Allowance" "left" "J" (.long 2) := F_b900_left.same W4
  have E4_b900 := E_b900.wr W4
  have O4 := O0.wr W4 g_b900
  have K4 := Keep.wr K0 W4 (Or.inl (List.mem_of_getElem? (i := 0) rfl))
  have N4 := Fr.snoc X4 N0 g_b900
  show zEnds p e below s T4 (mkF m 30 #[rv b900] []) _ _ _
  exact zretV X4 hx hby d_prog_9_method_3_30 hret hlk (by decide) (by decide) (by rw [e4]; exact ⟨rfl, N4, K4, E4_b900, F4_b900_left⟩)
set_option maxRecDepth 65536 in
set_option maxHeartbeats 40000000 in
theorem c39_obey (l : Launch) {Z : State} {a0 : Array Value} (hw : ∀ d ∈ tables_1, d.before a0 Z = true) (ws : List Jvm.Cond) {w_STEP w_PAUSE w_arr0 : Addr} {cl_arr0 : Cell} {n0 : Nat} {h0 : Heap} (C : Ctx Z w_STEP w_PAUSE w_arr0 cl_arr0) (O0 : Old Z n0 h0) (Z0 : n0 ≤ h0.size) (b900 : Addr) (g_b900 : n0 ≤ b900) (E_b900 : Exa Z h0 b900 "heapglass/core/wire/Allowance") (F_b900_left : Fld Z h0 b900 "heapglass/core/wire/Allowance" "left" "J" (.long 3)) : zCon l Z (⟨"heapglass/core/wire/Allowance", "obey", "(Lheapglass/core/wire/Control;)V"⟩ : MethodName) prog_9_method_2_code 2 none ws ({ frames := 1, cells := 0, slots := 0, locals := 14 } : Room) #[(.ref b900), (.ref w_STEP)] h0 (fun v h L => v = none ∧ Fr n0 L ∧ Keep h0 h [b900] ∧ Exa Z h b900 "heapglass/core/wire/Allowance" ∧ Fld Z h b900 "heapglass/core/wire/Allowance" "left" "J" (.long 4)) := by
  obtain ⟨S_w_STEP, S_w_PAUSE, E_w_STEP, E_w_PAUSE, F_w_STEP_ordinal, F_w_PAUSE_ordinal, S_w_arr0, A_w_arr0, A_w_arr0_1, A_w_arr0_0, A_w_arr0_2⟩ := C
  refine zenter (plainFor_of_name pn_0) (L0 := #[rv b900, rv w_STEP]) (fun m => by first | rfl | simp [entryFrame, mkF, argsToLocals, Value.category, maxLocals]) ?_
  intro p e s m below meth c T0 hx hZ hby hml hown0 hnm hret hlk X0 e0
  have hown : s.vm.findClass "heapglass/core/wire/Allowance" = some m.cls := hown0
  have K0 := Keep.refl h0 [b900]
  have N0 := Fr.nil n0
  show zEnds p e below s T0 (mkF m 0 #[rv b900, rv w_STEP] []) _ _ _
  refine zaloadN X0 hx hby d_prog_9_method_2_0 rfl rfl (zgetstat X0 hx hby d_prog_9_method_2_1 hZ hown (host := "") (Or.inl (w30 hw)) Via.refl e0 (S_w_arr0.ext O0.2) fun T1 X1 e1 => (zaloadN X1 hx hby d_prog_9_method_2_4 rfl rfl (zcallup X1 hx hby d_prog_9_method_2_5 hZ hown (w33 hw) (w34 hw) (w35 hw) (w37 hw) (w36 hw) (w39 hw) (w38 hw) e1 (E_w_STEP.ext O0.2) (c6_ordinal l hw [] ⟨S_w_STEP, S_w_PAUSE, E_w_STEP, E_w_PAUSE, F_w_STEP_ordinal, F_w_PAUSE_ordinal, S_w_arr0, A_w_arr0, A_w_arr0_1, A_w_arr0_0, A_w_arr0_2⟩ O0 (Nat.le_trans Z0 K0.1) ) (by decide) (by rw [hml]; rfl) 2 (Nat.le_of_eq rfl) (by decide) (by decide) (by decide) (by decide) pd_2 rfl (argsL := []) (st := [(.ref w_arr0), (.ref b900)]) rfl (zpureK ⟨rfl, rfl⟩ fun T2 X2 e2 => ?_))))
  show zEnds p e below s T2 (mkF m 8 #[rv b900, rv w_STEP] [(.int 1), (.ref w_arr0), (.ref b900)]) _ _ _
  refine zialoadC X2 hx hby d_prog_9_method_2_8 hZ e2 (A_w_arr0.ext O0.2) A_w_arr0_1 (ztswIn X2 hx hby d_prog_9_method_2_9 57 (by decide) rfl (by decide) (by decide) (zaloadN X2 hx hby d_prog_9_method_2_57 rfl rfl (zgetfld X2 hx hby d_prog_9_method_2_58 hZ hown (host := "") (Or.inl (w10 hw)) Via.refl e2 F_b900_left fun T3 X3 e3 => (zldc2J X3 hx hby d_prog_9_method_2_61 (9223372036854775807 : Int64) hZ hown (w9 hw) (zlcmp X3 hx hby d_prog_9_method_2_64 (-1 : Int32) (by decide) (zifYes X3 hx hby d_prog_9_method_2_65 72 (by decide) (by decide) (by decide) (zaloadN X3 hx hby d_prog_9_method_2_72 rfl rfl (zgetfld X3 hx hby d_prog_9_method_2_73 hZ hown (host := "") (Or.inl (w10 hw)) Via.refl e3 F_b900_left fun T4 X4 e4 => (zlconst X4 hx hby d_prog_9_method_2_76 (z := (1 : Int64)) rfl ?_)))))))))
  show zEnds p e below s T4 (mkF m 77 #[rv b900, rv w_STEP] [(.long 1), (.long 3), (.ref b900)]) _ _ _
  refine zladd X4 hx hby d_prog_9_method_2_77 (4 : Int64) (by decide) (zgoto X4 hx hby d_prog_9_method_2_78 84 (by decide) (by decide) (zputfld X4 hx hby d_prog_9_method_2_84 hZ hown (host := "") (Or.inl (w10 hw)) Via.refl e4 F_b900_left E_b900 (Or.inl (w11 hw)) (w1 hw) (ty := .long) (by decide) rfl rfl fun T5 h5 X5 e5 W5 => ?_))
  have F5_b900_left : Fld Z h5 b900 "heapglass/core/wire/Allowance" "left" "J" (.long 4) := F_b900_left.same W5
  have E5_b900 := E_b900.wr W5
  have O5 := O0.wr W5 g_b900
  have K5 := Keep.wr K0 W5 (Or.inl (List.mem_of_getElem? (i := 0) rfl))
  have N5 := Fr.snoc X5 N0 g_b900
  show zEnds p e below s T5 (mkF m 87 #[rv b900, rv w_STEP] []) _ _ _
  exact zretV X5 hx hby d_prog_9_method_2_87 hret hlk (by decide) (by decide) (by rw [e5]; exact ⟨rfl, N5, K5, E5_b900, F5_b900_left⟩)
set_option maxRecDepth 65536 in
set_option maxHeartbeats 40000000 in
theorem c41_isSpent (l : Launch) {Z : State} {a0 : Array Value} (hw : ∀ d ∈ tables_1, d.before a0 Z = true) (ws : List Jvm.Cond) {w_STEP w_PAUSE w_arr0 : Addr} {cl_arr0 : Cell} {n0 : Nat} {h0 : Heap} (C : Ctx Z w_STEP w_PAUSE w_arr0 cl_arr0) (O0 : Old Z n0 h0) (Z0 : n0 ≤ h0.size) (b900 : Addr) (g_b900 : n0 ≤ b900) (E_b900 : Exa Z h0 b900 "heapglass/core/wire/Allowance") (F_b900_left : Fld Z h0 b900 "heapglass/core/wire/Allowance" "left" "J" (.long 4)) : zCon l Z (⟨"heapglass/core/wire/Allowance", "isSpent", "()Z"⟩ : MethodName) prog_9_method_4_code 1 (some .boolean) ws ({ frames := 0, cells := 0, slots := 0, locals := 0 } : Room) #[(.ref b900)] h0 (zSame (some (.int 0)) h0) := by
  obtain ⟨S_w_STEP, S_w_PAUSE, E_w_STEP, E_w_PAUSE, F_w_STEP_ordinal, F_w_PAUSE_ordinal, S_w_arr0, A_w_arr0, A_w_arr0_1, A_w_arr0_0, A_w_arr0_2⟩ := C
  refine zenter (plainFor_of_name pn_0) (L0 := #[rv b900]) (fun m => by first | rfl | simp [entryFrame, mkF, argsToLocals, Value.category, maxLocals]) ?_
  intro p e s m below meth c T0 hx hZ hby hml hown0 hnm hret hlk X0 e0
  have hown : s.vm.findClass "heapglass/core/wire/Allowance" = some m.cls := hown0
  have K0 := Keep.refl h0 []
  have N0 := Fr.nil n0
  show zEnds p e below s T0 (mkF m 0 #[rv b900] []) _ _ _
  refine zaloadN X0 hx hby d_prog_9_method_4_0 rfl rfl (zgetfld X0 hx hby d_prog_9_method_4_1 hZ hown (host := "") (Or.inl (w10 hw)) Via.refl e0 F_b900_left fun T1 X1 e1 => (zlconst X1 hx hby d_prog_9_method_4_4 (z := (0 : Int64)) rfl (zlcmp X1 hx hby d_prog_9_method_4_5 (1 : Int32) (by decide) (zifYes X1 hx hby d_prog_9_method_4_6 13 (by decide) (by decide) (by decide) (ziconst X1 hx hby d_prog_9_method_4_13 (z := (0 : Int32)) rfl ?_)))))
  show zEnds p e below s T1 (mkF m 14 #[rv b900] [(.int 0)]) _ _ _
  exact zretZ X1 hx hby d_prog_9_method_4_14 hret hlk (by simp) rfl (by decide) (by decide) ⟨rfl, e1, rfl⟩
set_option maxRecDepth 65536 in
set_option maxHeartbeats 40000000 in
theorem c43_spend (l : Launch) {Z : State} {a0 : Array Value} (hw : ∀ d ∈ tables_1, d.before a0 Z = true) (ws : List Jvm.Cond) {w_STEP w_PAUSE w_arr0 : Addr} {cl_arr0 : Cell} {n0 : Nat} {h0 : Heap} (C : Ctx Z w_STEP w_PAUSE w_arr0 cl_arr0) (O0 : Old Z n0 h0) (Z0 : n0 ≤ h0.size) (b900 : Addr) (g_b900 : n0 ≤ b900) (E_b900 : Exa Z h0 b900 "heapglass/core/wire/Allowance") (F_b900_left : Fld Z h0 b900 "heapglass/core/wire/Allowance" "left" "J" (.long 4)) : zCon l Z (⟨"heapglass/core/wire/Allowance", "spend", "()V"⟩ : MethodName) prog_9_method_3_code 1 none ws ({ frames := 0, cells := 0, slots := 0, locals := 0 } : Room) #[(.ref b900)] h0 (fun v h L => v = none ∧ Fr n0 L ∧ Keep h0 h [b900] ∧ Exa Z h b900 "heapglass/core/wire/Allowance" ∧ Fld Z h b900 "heapglass/core/wire/Allowance" "left" "J" (.long 3)) := by
  obtain ⟨S_w_STEP, S_w_PAUSE, E_w_STEP, E_w_PAUSE, F_w_STEP_ordinal, F_w_PAUSE_ordinal, S_w_arr0, A_w_arr0, A_w_arr0_1, A_w_arr0_0, A_w_arr0_2⟩ := C
  refine zenter (plainFor_of_name pn_0) (L0 := #[rv b900]) (fun m => by first | rfl | simp [entryFrame, mkF, argsToLocals, Value.category, maxLocals]) ?_
  intro p e s m below meth c T0 hx hZ hby hml hown0 hnm hret hlk X0 e0
  have hown : s.vm.findClass "heapglass/core/wire/Allowance" = some m.cls := hown0
  have K0 := Keep.refl h0 [b900]
  have N0 := Fr.nil n0
  show zEnds p e below s T0 (mkF m 0 #[rv b900] []) _ _ _
  refine zaloadN X0 hx hby d_prog_9_method_3_0 rfl rfl (zgetfld X0 hx hby d_prog_9_method_3_1 hZ hown (host := "") (Or.inl (w10 hw)) Via.refl e0 F_b900_left fun T1 X1 e1 => (zlconst X1 hx hby d_prog_9_method_3_4 (z := (0 : Int64)) rfl (zlcmp X1 hx hby d_prog_9_method_3_5 (1 : Int32) (by decide) (zifNo X1 hx hby d_prog_9_method_3_6 (by decide) (zaloadN X1 hx hby d_prog_9_method_3_9 rfl rfl (zgetfld X1 hx hby d_prog_9_method_3_10 hZ hown (host := "") (Or.inl (w10 hw)) Via.refl e1 F_b900_left fun T2 X2 e2 => (zldc2J X2 hx hby d_prog_9_method_3_13 (9223372036854775807 : Int64) hZ hown (w9 hw) (zlcmp X2 hx hby d_prog_9_method_3_16 (-1 : Int32) (by decide) (zifNo X2 hx hby d_prog_9_method_3_17 (by decide) ?_)))))))))
  show zEnds p e below s T2 (mkF m 20 #[rv b900] []) _ _ _
  refine zaloadN X2 hx hby d_prog_9_method_3_20 rfl rfl (zdup X2 hx hby d_prog_9_method_3_21 rfl (zgetfld X2 hx hby d_prog_9_method_3_22 hZ hown (host := "") (Or.inl (w10 hw)) Via.refl e2 F_b900_left fun T3 X3 e3 => (zlconst X3 hx hby d_prog_9_method_3_25 (z := (1 : Int64)) rfl (zlsub X3 hx hby d_prog_9_method_3_26 (3 : Int64) (by decide) (zputfld X3 hx hby d_prog_9_method_3_27 hZ hown (host := "") (Or.inl (w10 hw)) Via.refl e3 F_b900_left E_b900 (Or.inl (w11 hw)) (w1 hw) (ty := .long) (by decide) rfl rfl fun T4 h4 X4 e4 W4 => ?_)))))
  have F4_b900_left : Fld Z h4 b900 "heapglass/core/wire/Allowance" "left" "J" (.long 3) := F_b900_left.same W4
  have E4_b900 := E_b900.wr W4
  have O4 := O0.wr W4 g_b900
  have K4 := Keep.wr K0 W4 (Or.inl (List.mem_of_getElem? (i := 0) rfl))
  have N4 := Fr.snoc X4 N0 g_b900
  show zEnds p e below s T4 (mkF m 30 #[rv b900] []) _ _ _
  exact zretV X4 hx hby d_prog_9_method_3_30 hret hlk (by decide) (by decide) (by rw [e4]; exact ⟨rfl, N4, K4, E4_b900, F4_b900_left⟩)
set_option maxRecDepth 65536 in
set_option maxHeartbeats 40000000 in
theorem rm0 (l : Launch) {Z : State} {a0 : Array Value} (hw : ∀ d ∈ tables_1, d.before a0 Z = true) (ws : List Jvm.Cond) {w_STEP w_PAUSE w_arr0 : Addr} {cl_arr0 : Cell} {n0 : Nat} {h0 : Heap} (C : Ctx Z w_STEP w_PAUSE w_arr0 cl_arr0) (O0 : Old Z n0 h0) (Z0 : n0 ≤ h0.size) (p1 : Int32) (p2 : Int32) : zCon l Z x code maxLocals ret ws room_1 #[(.int p1), (.int p2)] h0 (fun v h L => v = some (.int (1 : Int32)) ∧ Fr n0 L) := by
  obtain ⟨S_w_STEP, S_w_PAUSE, E_w_STEP, E_w_PAUSE, F_w_STEP_ordinal, F_w_PAUSE_ordinal, S_w_arr0, A_w_arr0, A_w_arr0_1, A_w_arr0_0, A_w_arr0_2⟩ := C
  refine zenter (plainFor_of_name pn_2) (L0 := #[iv p1, iv p2, .unset, .unset, .unset, .unset, .unset, .unset, .unset, .unset]) (fun m => by first | rfl | simp [entryFrame, mkF, argsToLocals, Value.category, maxLocals]) ?_
  intro p e s m below meth c T0 hx hZ hby hml hown0 hnm hret hlk X0 e0
  have hown : s.vm.findClass "heapglass/core/wire/AllowanceSpendPinLaw" = some m.cls := hown0
  have K0 := Keep.refl h0 []
  have N0 := Fr.nil n0
  show zEnds p e below s T0 (mkF m 0 #[iv p1, iv p2, .unset, .unset, .unset, .unset, .unset, .unset, .unset, .unset] []) _ _ _
  refine ziloadN X0 hx hby at_0 rfl (ziconst X0 hx hby at_1 (z := (3 : Int32)) rfl (ziand X0 hx hby at_2 (p1 &&& (3 : Int32)) rfl ?_))
  show zEnds p e below s T0 (mkF m 3 #[iv p1, iv p2, .unset, .unset, .unset, .unset, .unset, .unset, .unset, .unset] [(.int (p1 &&& (3 : Int32)))]) _ _ _
  rcases (and_3 p1) with q1 | q1 | q1 | q1
  · rw [q1]
    refine zistoreN X0 hx hby at_3 (L' := #[iv p1, iv p2, iv 0, .unset, .unset, .unset, .unset, .unset, .unset, .unset]) rfl (ziloadN X0 hx hby at_4 rfl (ziconst X0 hx hby at_5 (z := (3 : Int32)) rfl (ziand X0 hx hby at_6 (p2 &&& (3 : Int32)) rfl ?_)))
    show zEnds p e below s T0 (mkF m 7 #[iv p1, iv p2, iv 0, .unset, .unset, .unset, .unset, .unset, .unset, .unset] [(.int (p2 &&& (3 : Int32)))]) _ _ _
    rcases (and_3 p2) with q2 | q2 | q2 | q2
    · rw [q2]
      refine zistoreN X0 hx hby at_7 (L' := #[iv p1, iv p2, iv 0, iv 0, .unset, .unset, .unset, .unset, .unset, .unset]) rfl (znewobj X0 hx hby at_8 hZ hown (w0 hw) (w1 hw) (w2 hw) e0 (by decide) (by decide) fun T3 h3 b3 X3 e3 y3 Ex3 E3_b3 D3 => ?_)
      have O3 := O0.ext Ex3
      have K3 := Keep.ext K0 Ex3
      have g3 : n0 ≤ b3 := by rw [y3]; exact Nat.le_trans Z0 K0.1
      have z3 : h0.size ≤ b3 := by rw [y3]; exact K0.1
      have F3_b3_left : Fld Z h3 b3 "heapglass/core/wire/Allowance" "left" "J" (.long 0) := D3 (Or.inl (w11 hw)) (ty := .long) (by decide)
      refine zdup X3 hx hby at_11 rfl (zcallsp X3 hx hby at_12 hZ hown rfl (w3 hw) (w4 hw) (w5 hw) (w2 hw) e3 (c1_init l hw [] ⟨S_w_STEP, S_w_PAUSE, E_w_STEP, E_w_PAUSE, F_w_STEP_ordinal, F_w_PAUSE_ordinal, S_w_arr0, A_w_arr0, A_w_arr0_1, A_w_arr0_0, A_w_arr0_2⟩ O3 (Nat.le_trans Z0 K3.1) b3 g3 E3_b3 F3_b3_left) (by decide) (by rw [hml]; rfl) 1 (Nat.le_of_eq rfl) (by decide) (by decide) (by decide) (by decide) pd_0 rfl (argsL := []) (st := [(.ref b3)]) rfl fun T4 h4 v4 L4 e4 X4 q4 => ?_)
      obtain ⟨rfl, N4q, K4q, E4_b3, F4_b3_left⟩ := q4
      have O4 := O3.keep K4q (allS g3 all0)
      have K4 := Keep.trans K3 K4q (allS (Or.inr z3) all0)
      have N4 := Fr.app N0 N4q
      show zEnds p e below s T4 (mkF m 15 #[iv p1, iv p2, iv 0, iv 0, .unset, .unset, .unset, .unset, .unset, .unset] [(.ref b3)]) _ _ _
      refine zastore X4 hx hby at_15 (hv := rfl) (L' := #[iv p1, iv p2, iv 0, iv 0, rv b3, .unset, .unset, .unset, .unset, .unset]) rfl (ziloadN X4 hx hby at_17 rfl (ziconst X4 hx hby at_18 (z := (1 : Int32)) rfl (zicmpYes X4 hx hby at_19 30 (by decide) (by decide) (by decide) (ziloadN X4 hx hby at_30 rfl (ziconst X4 hx hby at_31 (z := (2 : Int32)) rfl (zicmpYes X4 hx hby at_32 43 (by decide) (by decide) (by decide) (ziloadN X4 hx hby at_43 rfl (ziconst X4 hx hby at_44 (z := (3 : Int32)) rfl (zicmpYes X4 hx hby at_45 56 (by decide) (by decide) (by decide) ?_)))))))))
      show zEnds p e below s T4 (mkF m 56 #[iv p1, iv p2, iv 0, iv 0, rv b3, .unset, .unset, .unset, .unset, .unset] []) _ _ _
      refine ziloadN X4 hx hby at_56 rfl (ziconst X4 hx hby at_57 (z := (1 : Int32)) rfl (zicmpYes X4 hx hby at_58 66 (by decide) (by decide) (by decide) (ziloadN X4 hx hby at_66 rfl (ziconst X4 hx hby at_67 (z := (2 : Int32)) rfl (zicmpYes X4 hx hby at_68 76 (by decide) (by decide) (by decide) (ziloadN X4 hx hby at_76 rfl (ziconst X4 hx hby at_77 (z := (3 : Int32)) rfl (zicmpYes X4 hx hby at_78 86 (by decide) (by decide) (by decide) (zaload X4 hx hby at_86 rfl rfl ?_)))))))))
      show zEnds p e below s T4 (mkF m 88 #[iv p1, iv p2, iv 0, iv 0, rv b3, .unset, .unset, .unset, .unset, .unset] [(.ref b3)]) _ _ _
      refine zcallv X4 hx hby at_88 hZ hown (w17 hw) (w18 hw) (notFace_of_selects (args := #[]) (mvT hZ (w20 hw))) (w20 hw) (w19 hw) (w21 hw) (w2 hw) e4 E4_b3 (c3_isSpent l hw [] ⟨S_w_STEP, S_w_PAUSE, E_w_STEP, E_w_PAUSE, F_w_STEP_ordinal, F_w_PAUSE_ordinal, S_w_arr0, A_w_arr0, A_w_arr0_1, A_w_arr0_0, A_w_arr0_2⟩ O4 (Nat.le_trans Z0 K4.1) b3 g3 E4_b3 F4_b3_left) (by decide) (by rw [hml]; rfl) 0 (Nat.le_of_eq rfl) (by decide) (by decide) (by decide) (by decide) pd_1 rfl (argsL := []) (st := []) rfl (zpureK ⟨rfl, rfl⟩ fun T5 X5 e5 => ?_)
      show zEnds p e below s T5 (mkF m 91 #[iv p1, iv p2, iv 0, iv 0, rv b3, .unset, .unset, .unset, .unset, .unset] [(.int 0)]) _ _ _
      refine zistore X5 hx hby at_91 (L' := #[iv p1, iv p2, iv 0, iv 0, rv b3, iv 0, .unset, .unset, .unset, .unset]) rfl (ziloadN X5 hx hby at_93 rfl (zifYes X5 hx hby at_94 106 (by decide) (by decide) (by decide) (ziconst X5 hx hby at_106 (z := (0 : Int32)) rfl (zistore X5 hx hby at_107 (L' := #[iv p1, iv p2, iv 0, iv 0, rv b3, iv 0, iv 0, .unset, .unset, .unset]) rfl (zaload X5 hx hby at_109 rfl rfl (zgetstat X5 hx hby at_111 hZ hown (host := "") (Or.inl (w22 hw)) Via.refl e5 (S_w_STEP.ext O4.2) fun T6 X6 e6 => (zcallv X6 hx hby at_114 hZ hown (w25 hw) (w26 hw) (notFace_of_selects (args := #[]) (mvT hZ (w28 hw))) (w28 hw) (w27 hw) (w29 hw) (w2 hw) e6 E4_b3 (c5_obey l hw [] ⟨S_w_STEP, S_w_PAUSE, E_w_STEP, E_w_PAUSE, F_w_STEP_ordinal, F_w_PAUSE_ordinal, S_w_arr0, A_w_arr0, A_w_arr0_1, A_w_arr0_0, A_w_arr0_2⟩ O4 (Nat.le_trans Z0 K4.1) b3 g3 E4_b3 F4_b3_left) (by decide) (by rw [hml]; rfl) 0 (Nat.le_of_eq rfl) (by decide) (by decide) (by decide) (by decide) pd_3 rfl (argsL := [(.ref w_STEP)]) (st := []) rfl fun T7 h7 v7 L7 e7 X7 q7 => ?_)))))))
      obtain ⟨rfl, N7q, K7q, E7_b3, F7_b3_left⟩ := q7
      have O7 := O4.keep K7q (allS g3 all0)
      have K7 := Keep.trans K4 K7q (allS (Or.inr z3) all0)
      have N7 := Fr.app N4 N7q
      show zEnds p e below s T7 (mkF m 117 #[iv p1, iv p2, iv 0, iv 0, rv b3, iv 0, iv 0, .unset, .unset, .unset] []) _ _ _
      refine zaload X7 hx hby at_117 rfl rfl (zcallv X7 hx hby at_119 hZ hown (w17 hw) (w18 hw) (notFace_of_selects (args := #[]) (mvT hZ (w20 hw))) (w20 hw) (w19 hw) (w21 hw) (w2 hw) e7 E7_b3 (c9_isSpent l hw [] ⟨S_w_STEP, S_w_PAUSE, E_w_STEP, E_w_PAUSE, F_w_STEP_ordinal, F_w_PAUSE_ordinal, S_w_arr0, A_w_arr0, A_w_arr0_1, A_w_arr0_0, A_w_arr0_2⟩ O7 (Nat.le_trans Z0 K7.1) b3 g3 E7_b3 F7_b3_left) (by decide) (by rw [hml]; rfl) 0 (Nat.le_of_eq rfl) (by decide) (by decide) (by decide) (by decide) pd_1 rfl (argsL := []) (st := []) rfl (zpureK ⟨rfl, rfl⟩ fun T8 X8 e8 => ?_))
      show zEnds p e below s T8 (mkF m 122 #[iv p1, iv p2, iv 0, iv 0, rv b3, iv 0, iv 0, .unset, .unset, .unset] [(.int 0)]) _ _ _
      refine zistore X8 hx hby at_122 (L' := #[iv p1, iv p2, iv 0, iv 0, rv b3, iv 0, iv 0, iv 0, .unset, .unset]) rfl (zaload X8 hx hby at_124 rfl rfl (zcallv X8 hx hby at_126 hZ hown (w12 hw) (w13 hw) (notFace_of_selects (args := #[]) (mvT hZ (w15 hw))) (w15 hw) (w14 hw) (w16 hw) (w2 hw) e8 E7_b3 (c11_spend l hw [] ⟨S_w_STEP, S_w_PAUSE, E_w_STEP, E_w_PAUSE, F_w_STEP_ordinal, F_w_PAUSE_ordinal, S_w_arr0, A_w_arr0, A_w_arr0_1, A_w_arr0_0, A_w_arr0_2⟩ O7 (Nat.le_trans Z0 K7.1) b3 g3 E7_b3 F7_b3_left) (by decide) (by rw [hml]; rfl) 0 (Nat.le_of_eq rfl) (by decide) (by decide) (by decide) (by decide) pd_0 rfl (argsL := []) (st := []) rfl fun T9 h9 v9 L9 e9 X9 q9 => ?_))
      obtain ⟨rfl, N9q, K9q, E9_b3, F9_b3_left⟩ := q9
      have O9 := O7.keep K9q (allS g3 all0)
      have K9 := Keep.trans K7 K9q (allS (Or.inr z3) all0)
      have N9 := Fr.app N7 N9q
      show zEnds p e below s T9 (mkF m 129 #[iv p1, iv p2, iv 0, iv 0, rv b3, iv 0, iv 0, iv 0, .unset, .unset] []) _ _ _
      refine zaload X9 hx hby at_129 rfl rfl (zcallv X9 hx hby at_131 hZ hown (w17 hw) (w18 hw) (notFace_of_selects (args := #[]) (mvT hZ (w20 hw))) (w20 hw) (w19 hw) (w21 hw) (w2 hw) e9 E9_b3 (c13_isSpent l hw [] ⟨S_w_STEP, S_w_PAUSE, E_w_STEP, E_w_PAUSE, F_w_STEP_ordinal, F_w_PAUSE_ordinal, S_w_arr0, A_w_arr0, A_w_arr0_1, A_w_arr0_0, A_w_arr0_2⟩ O9 (Nat.le_trans Z0 K9.1) b3 g3 E9_b3 F9_b3_left) (by decide) (by rw [hml]; rfl) 0 (Nat.le_of_eq rfl) (by decide) (by decide) (by decide) (by decide) pd_1 rfl (argsL := []) (st := []) rfl (zpureK ⟨rfl, rfl⟩ fun T10 X10 e10 => ?_))
      show zEnds p e below s T10 (mkF m 134 #[iv p1, iv p2, iv 0, iv 0, rv b3, iv 0, iv 0, iv 0, .unset, .unset] [(.int 1)]) _ _ _
      refine zistore X10 hx hby at_134 (L' := #[iv p1, iv p2, iv 0, iv 0, rv b3, iv 0, iv 0, iv 0, iv 1, .unset]) rfl (ziloadN X10 hx hby at_136 rfl (zifYes X10 hx hby at_137 145 (by decide) (by decide) (by decide) (ziconst X10 hx hby at_145 (z := (1 : Int32)) rfl (zgoto X10 hx hby at_146 150 (by decide) (by decide) (zistore X10 hx hby at_150 (L' := #[iv p1, iv p2, iv 0, iv 0, rv b3, iv 0, iv 0, iv 0, iv 1, iv 1]) rfl (ziload X10 hx hby at_152 rfl (ziload X10 hx hby at_154 rfl (zicmpNo X10 hx hby at_156 (by decide) (ziload X10 hx hby at_159 rfl ?_)))))))))
      show zEnds p e below s T10 (mkF m 161 #[iv p1, iv p2, iv 0, iv 0, rv b3, iv 0, iv 0, iv 0, iv 1, iv 1] [(.int 0)]) _ _ _
      refine zifNo X10 hx hby at_161 (by decide) (ziload X10 hx hby at_164 rfl (ziload X10 hx hby at_166 rfl (zicmpNo X10 hx hby at_168 (by decide) (ziconst X10 hx hby at_171 (z := (1 : Int32)) rfl (zgoto X10 hx hby at_172 176 (by decide) (by decide) ?_)))))
      show zEnds p e below s T10 (mkF m 176 #[iv p1, iv p2, iv 0, iv 0, rv b3, iv 0, iv 0, iv 0, iv 1, iv 1] [(.int 1)]) _ _ _
      exact zretZ X10 hx hby at_176 hret hlk (by simp) rfl (by decide) (by decide) ⟨rfl, N9⟩
    · rw [q2]
      refine zistoreN X0 hx hby at_7 (L' := #[iv p1, iv p2, iv 0, iv 1, .unset, .unset, .unset, .unset, .unset, .unset]) rfl (znewobj X0 hx hby at_8 hZ hown (w0 hw) (w1 hw) (w2 hw) e0 (by decide) (by decide) fun T11 h11 b11 X11 e11 y11 Ex11 E11_b11 D11 => ?_)
      have O11 := O0.ext Ex11
      have K11 := Keep.ext K0 Ex11
      have g11 : n0 ≤ b11 := by rw [y11]; exact Nat.le_trans Z0 K0.1
      have z11 : h0.size ≤ b11 := by rw [y11]; exact K0.1
      have F11_b11_left : Fld Z h11 b11 "heapglass/core/wire/Allowance" "left" "J" (.long 0) := D11 (Or.inl (w11 hw)) (ty := .long) (by decide)
      refine zdup X11 hx hby at_11 rfl (zcallsp X11 hx hby at_12 hZ hown rfl (w3 hw) (w4 hw) (w5 hw) (w2 hw) e11 (c1_init l hw [] ⟨S_w_STEP, S_w_PAUSE, E_w_STEP, E_w_PAUSE, F_w_STEP_ordinal, F_w_PAUSE_ordinal, S_w_arr0, A_w_arr0, A_w_arr0_1, A_w_arr0_0, A_w_arr0_2⟩ O11 (Nat.le_trans Z0 K11.1) b11 g11 E11_b11 F11_b11_left) (by decide) (by rw [hml]; rfl) 1 (Nat.le_of_eq rfl) (by decide) (by decide) (by decide) (by decide) pd_0 rfl (argsL := []) (st := [(.ref b11)]) rfl fun T12 h12 v12 L12 e12 X12 q12 => ?_)
      obtain ⟨rfl, N12q, K12q, E12_b11, F12_b11_left⟩ := q12
      have O12 := O11.keep K12q (allS g11 all0)
      have K12 := Keep.trans K11 K12q (allS (Or.inr z11) all0)
      have N12 := Fr.app N0 N12q
      show zEnds p e below s T12 (mkF m 15 #[iv p1, iv p2, iv 0, iv 1, .unset, .unset, .unset, .unset, .unset, .unset] [(.ref b11)]) _ _ _
      refine zastore X12 hx hby at_15 (hv := rfl) (L' := #[iv p1, iv p2, iv 0, iv 1, rv b11, .unset, .unset, .unset, .unset, .unset]) rfl (ziloadN X12 hx hby at_17 rfl (ziconst X12 hx hby at_18 (z := (1 : Int32)) rfl (zicmpYes X12 hx hby at_19 30 (by decide) (by decide) (by decide) (ziloadN X12 hx hby at_30 rfl (ziconst X12 hx hby at_31 (z := (2 : Int32)) rfl (zicmpYes X12 hx hby at_32 43 (by decide) (by decide) (by decide) (ziloadN X12 hx hby at_43 rfl (ziconst X12 hx hby at_44 (z := (3 : Int32)) rfl (zicmpYes X12 hx hby at_45 56 (by decide) (by decide) (by decide) ?_)))))))))
      show zEnds p e below s T12 (mkF m 56 #[iv p1, iv p2, iv 0, iv 1, rv b11, .unset, .unset, .unset, .unset, .unset] []) _ _ _
      refine ziloadN X12 hx hby at_56 rfl (ziconst X12 hx hby at_57 (z := (1 : Int32)) rfl (zicmpNo X12 hx hby at_58 (by decide) (zaload X12 hx hby at_61 rfl rfl (zcallv X12 hx hby at_63 hZ hown (w12 hw) (w13 hw) (notFace_of_selects (args := #[]) (mvT hZ (w15 hw))) (w15 hw) (w14 hw) (w16 hw) (w2 hw) e12 E12_b11 (c15_spend l hw [] ⟨S_w_STEP, S_w_PAUSE, E_w_STEP, E_w_PAUSE, F_w_STEP_ordinal, F_w_PAUSE_ordinal, S_w_arr0, A_w_arr0, A_w_arr0_1, A_w_arr0_0, A_w_arr0_2⟩ O12 (Nat.le_trans Z0 K12.1) b11 g11 E12_b11 F12_b11_left) (by decide) (by rw [hml]; rfl) 0 (Nat.le_of_eq rfl) (by decide) (by decide) (by decide) (by decide) pd_0 rfl (argsL := []) (st := []) rfl (zpureK ⟨rfl, rfl⟩ fun T13 X13 e13 => ?_)))))
      show zEnds p e below s T13 (mkF m 66 #[iv p1, iv p2, iv 0, iv 1, rv b11, .unset, .unset, .unset, .unset, .unset] []) _ _ _
      refine ziloadN X13 hx hby at_66 rfl (ziconst X13 hx hby at_67 (z := (2 : Int32)) rfl (zicmpYes X13 hx hby at_68 76 (by decide) (by decide) (by decide) (ziloadN X13 hx hby at_76 rfl (ziconst X13 hx hby at_77 (z := (3 : Int32)) rfl (zicmpYes X13 hx hby at_78 86 (by decide) (by decide) (by decide) (zaload X13 hx hby at_86 rfl rfl (zcallv X13 hx hby at_88 hZ hown (w17 hw) (w18 hw) (notFace_of_selects (args := #[]) (mvT hZ (w20 hw))) (w20 hw) (w19 hw) (w21 hw) (w2 hw) e13 E12_b11 (c3_isSpent l hw [] ⟨S_w_STEP, S_w_PAUSE, E_w_STEP, E_w_PAUSE, F_w_STEP_ordinal, F_w_PAUSE_ordinal, S_w_arr0, A_w_arr0, A_w_arr0_1, A_w_arr0_0, A_w_arr0_2⟩ O12 (Nat.le_trans Z0 K12.1) b11 g11 E12_b11 F12_b11_left) (by decide) (by rw [hml]; rfl) 0 (Nat.le_of_eq rfl) (by decide) (by decide) (by decide) (by decide) pd_1 rfl (argsL := []) (st := []) rfl (zpureK ⟨rfl, rfl⟩ fun T14 X14 e14 => ?_))))))))
      show zEnds p e below s T14 (mkF m 91 #[iv p1, iv p2, iv 0, iv 1, rv b11, .unset, .unset, .unset, .unset, .unset] [(.int 0)]) _ _ _
      refine zistore X14 hx hby at_91 (L' := #[iv p1, iv p2, iv 0, iv 1, rv b11, iv 0, .unset, .unset, .unset, .unset]) rfl (ziloadN X14 hx hby at_93 rfl (zifYes X14 hx hby at_94 106 (by decide) (by decide) (by decide) (ziconst X14 hx hby at_106 (z := (0 : Int32)) rfl (zistore X14 hx hby at_107 (L' := #[iv p1, iv p2, iv 0, iv 1, rv b11, iv 0, iv 0, .unset, .unset, .unset]) rfl (zaload X14 hx hby at_109 rfl rfl (zgetstat X14 hx hby at_111 hZ hown (host := "") (Or.inl (w22 hw)) Via.refl e14 (S_w_STEP.ext O12.2) fun T15 X15 e15 => (zcallv X15 hx hby at_114 hZ hown (w25 hw) (w26 hw) (notFace_of_selects (args := #[]) (mvT hZ (w28 hw))) (w28 hw) (w27 hw) (w29 hw) (w2 hw) e15 E12_b11 (c5_obey l hw [] ⟨S_w_STEP, S_w_PAUSE, E_w_STEP, E_w_PAUSE, F_w_STEP_ordinal, F_w_PAUSE_ordinal, S_w_arr0, A_w_arr0, A_w_arr0_1, A_w_arr0_0, A_w_arr0_2⟩ O12 (Nat.le_trans Z0 K12.1) b11 g11 E12_b11 F12_b11_left) (by decide) (by rw [hml]; rfl) 0 (Nat.le_of_eq rfl) (by decide) (by decide) (by decide) (by decide) pd_3 rfl (argsL := [(.ref w_STEP)]) (st := []) rfl fun T16 h16 v16 L16 e16 X16 q16 => ?_)))))))
      obtain ⟨rfl, N16q, K16q, E16_b11, F16_b11_left⟩ := q16
      have O16 := O12.keep K16q (allS g11 all0)
      have K16 := Keep.trans K12 K16q (allS (Or.inr z11) all0)
      have N16 := Fr.app N12 N16q
      show zEnds p e below s T16 (mkF m 117 #[iv p1, iv p2, iv 0, iv 1, rv b11, iv 0, iv 0, .unset, .unset, .unset] []) _ _ _
      refine zaload X16 hx hby at_117 rfl rfl (zcallv X16 hx hby at_119 hZ hown (w17 hw) (w18 hw) (notFace_of_selects (args := #[]) (mvT hZ (w20 hw))) (w20 hw) (w19 hw) (w21 hw) (w2 hw) e16 E16_b11 (c9_isSpent l hw [] ⟨S_w_STEP, S_w_PAUSE, E_w_STEP, E_w_PAUSE, F_w_STEP_ordinal, F_w_PAUSE_ordinal, S_w_arr0, A_w_arr0, A_w_arr0_1, A_w_arr0_0, A_w_arr0_2⟩ O16 (Nat.le_trans Z0 K16.1) b11 g11 E16_b11 F16_b11_left) (by decide) (by rw [hml]; rfl) 0 (Nat.le_of_eq rfl) (by decide) (by decide) (by decide) (by decide) pd_1 rfl (argsL := []) (st := []) rfl (zpureK ⟨rfl, rfl⟩ fun T17 X17 e17 => ?_))
      show zEnds p e below s T17 (mkF m 122 #[iv p1, iv p2, iv 0, iv 1, rv b11, iv 0, iv 0, .unset, .unset, .unset] [(.int 0)]) _ _ _
      refine zistore X17 hx hby at_122 (L' := #[iv p1, iv p2, iv 0, iv 1, rv b11, iv 0, iv 0, iv 0, .unset, .unset]) rfl (zaload X17 hx hby at_124 rfl rfl (zcallv X17 hx hby at_126 hZ hown (w12 hw) (w13 hw) (notFace_of_selects (args := #[]) (mvT hZ (w15 hw))) (w15 hw) (w14 hw) (w16 hw) (w2 hw) e17 E16_b11 (c11_spend l hw [] ⟨S_w_STEP, S_w_PAUSE, E_w_STEP, E_w_PAUSE, F_w_STEP_ordinal, F_w_PAUSE_ordinal, S_w_arr0, A_w_arr0, A_w_arr0_1, A_w_arr0_0, A_w_arr0_2⟩ O16 (Nat.le_trans Z0 K16.1) b11 g11 E16_b11 F16_b11_left) (by decide) (by rw [hml]; rfl) 0 (Nat.le_of_eq rfl) (by decide) (by decide) (by decide) (by decide) pd_0 rfl (argsL := []) (st := []) rfl fun T18 h18 v18 L18 e18 X18 q18 => ?_))
      obtain ⟨rfl, N18q, K18q, E18_b11, F18_b11_left⟩ := q18
      have O18 := O16.keep K18q (allS g11 all0)
      have K18 := Keep.trans K16 K18q (allS (Or.inr z11) all0)
      have N18 := Fr.app N16 N18q
      show zEnds p e below s T18 (mkF m 129 #[iv p1, iv p2, iv 0, iv 1, rv b11, iv 0, iv 0, iv 0, .unset, .unset] []) _ _ _
      refine zaload X18 hx hby at_129 rfl rfl (zcallv X18 hx hby at_131 hZ hown (w17 hw) (w18 hw) (notFace_of_selects (args := #[]) (mvT hZ (w20 hw))) (w20 hw) (w19 hw) (w21 hw) (w2 hw) e18 E18_b11 (c13_isSpent l hw [] ⟨S_w_STEP, S_w_PAUSE, E_w_STEP, E_w_PAUSE, F_w_STEP_ordinal, F_w_PAUSE_ordinal, S_w_arr0, A_w_arr0, A_w_arr0_1, A_w_arr0_0, A_w_arr0_2⟩ O18 (Nat.le_trans Z0 K18.1) b11 g11 E18_b11 F18_b11_left) (by decide) (by rw [hml]; rfl) 0 (Nat.le_of_eq rfl) (by decide) (by decide) (by decide) (by decide) pd_1 rfl (argsL := []) (st := []) rfl (zpureK ⟨rfl, rfl⟩ fun T19 X19 e19 => ?_))
      show zEnds p e below s T19 (mkF m 134 #[iv p1, iv p2, iv 0, iv 1, rv b11, iv 0, iv 0, iv 0, .unset, .unset] [(.int 1)]) _ _ _
      refine zistore X19 hx hby at_134 (L' := #[iv p1, iv p2, iv 0, iv 1, rv b11, iv 0, iv 0, iv 0, iv 1, .unset]) rfl (ziloadN X19 hx hby at_136 rfl (zifYes X19 hx hby at_137 145 (by decide) (by decide) (by decide) (ziconst X19 hx hby at_145 (z := (1 : Int32)) rfl (zgoto X19 hx hby at_146 150 (by decide) (by decide) (zistore X19 hx hby at_150 (L' := #[iv p1, iv p2, iv 0, iv 1, rv b11, iv 0, iv 0, iv 0, iv 1, iv 1]) rfl (ziload X19 hx hby at_152 rfl (ziload X19 hx hby at_154 rfl (zicmpNo X19 hx hby at_156 (by decide) (ziload X19 hx hby at_159 rfl ?_)))))))))
      show zEnds p e below s T19 (mkF m 161 #[iv p1, iv p2, iv 0, iv 1, rv b11, iv 0, iv 0, iv 0, iv 1, iv 1] [(.int 0)]) _ _ _
      refine zifNo X19 hx hby at_161 (by decide) (ziload X19 hx hby at_164 rfl (ziload X19 hx hby at_166 rfl (zicmpNo X19 hx hby at_168 (by decide) (ziconst X19 hx hby at_171 (z := (1 : Int32)) rfl (zgoto X19 hx hby at_172 176 (by decide) (by decide) ?_)))))
      show zEnds p e below s T19 (mkF m 176 #[iv p1, iv p2, iv 0, iv 1, rv b11, iv 0, iv 0, iv 0, iv 1, iv 1] [(.int 1)]) _ _ _
      exact zretZ X19 hx hby at_176 hret hlk (by simp) rfl (by decide) (by decide) ⟨rfl, N18⟩
    · rw [q2]
      refine zistoreN X0 hx hby at_7 (L' := #[iv p1, iv p2, iv 0, iv 2, .unset, .unset, .unset, .unset, .unset, .unset]) rfl (znewobj X0 hx hby at_8 hZ hown (w0 hw) (w1 hw) (w2 hw) e0 (by decide) (by decide) fun T20 h20 b20 X20 e20 y20 Ex20 E20_b20 D20 => ?_)
      have O20 := O0.ext Ex20
      have K20 := Keep.ext K0 Ex20
      have g20 : n0 ≤ b20 := by rw [y20]; exact Nat.le_trans Z0 K0.1
      have z20 : h0.size ≤ b20 := by rw [y20]; exact K0.1
      have F20_b20_left : Fld Z h20 b20 "heapglass/core/wire/Allowance" "left" "J" (.long 0) := D20 (Or.inl (w11 hw)) (ty := .long) (by decide)
      refine zdup X20 hx hby at_11 rfl (zcallsp X20 hx hby at_12 hZ hown rfl (w3 hw) (w4 hw) (w5 hw) (w2 hw) e20 (c1_init l hw [] ⟨S_w_STEP, S_w_PAUSE, E_w_STEP, E_w_PAUSE, F_w_STEP_ordinal, F_w_PAUSE_ordinal, S_w_arr0, A_w_arr0, A_w_arr0_1, A_w_arr0_0, A_w_arr0_2⟩ O20 (Nat.le_trans Z0 K20.1) b20 g20 E20_b20 F20_b20_left) (by decide) (by rw [hml]; rfl) 1 (Nat.le_of_eq rfl) (by decide) (by decide) (by decide) (by decide) pd_0 rfl (argsL := []) (st := [(.ref b20)]) rfl fun T21 h21 v21 L21 e21 X21 q21 => ?_)
      obtain ⟨rfl, N21q, K21q, E21_b20, F21_b20_left⟩ := q21
      have O21 := O20.keep K21q (allS g20 all0)
      have K21 := Keep.trans K20 K21q (allS (Or.inr z20) all0)
      have N21 := Fr.app N0 N21q
      show zEnds p e below s T21 (mkF m 15 #[iv p1, iv p2, iv 0, iv 2, .unset, .unset, .unset, .unset, .unset, .unset] [(.ref b20)]) _ _ _
      refine zastore X21 hx hby at_15 (hv := rfl) (L' := #[iv p1, iv p2, iv 0, iv 2, rv b20, .unset, .unset, .unset, .unset, .unset]) rfl (ziloadN X21 hx hby at_17 rfl (ziconst X21 hx hby at_18 (z := (1 : Int32)) rfl (zicmpYes X21 hx hby at_19 30 (by decide) (by decide) (by decide) (ziloadN X21 hx hby at_30 rfl (ziconst X21 hx hby at_31 (z := (2 : Int32)) rfl (zicmpYes X21 hx hby at_32 43 (by decide) (by decide) (by decide) (ziloadN X21 hx hby at_43 rfl (ziconst X21 hx hby at_44 (z := (3 : Int32)) rfl (zicmpYes X21 hx hby at_45 56 (by decide) (by decide) (by decide) ?_)))))))))
      show zEnds p e below s T21 (mkF m 56 #[iv p1, iv p2, iv 0, iv 2, rv b20, .unset, .unset, .unset, .unset, .unset] []) _ _ _
      refine ziloadN X21 hx hby at_56 rfl (ziconst X21 hx hby at_57 (z := (1 : Int32)) rfl (zicmpNo X21 hx hby at_58 (by decide) (zaload X21 hx hby at_61 rfl rfl (zcallv X21 hx hby at_63 hZ hown (w12 hw) (w13 hw) (notFace_of_selects (args := #[]) (mvT hZ (w15 hw))) (w15 hw) (w14 hw) (w16 hw) (w2 hw) e21 E21_b20 (c15_spend l hw [] ⟨S_w_STEP, S_w_PAUSE, E_w_STEP, E_w_PAUSE, F_w_STEP_ordinal, F_w_PAUSE_ordinal, S_w_arr0, A_w_arr0, A_w_arr0_1, A_w_arr0_0, A_w_arr0_2⟩ O21 (Nat.le_trans Z0 K21.1) b20 g20 E21_b20 F21_b20_left) (by decide) (by rw [hml]; rfl) 0 (Nat.le_of_eq rfl) (by decide) (by decide) (by decide) (by decide) pd_0 rfl (argsL := []) (st := []) rfl (zpureK ⟨rfl, rfl⟩ fun T22 X22 e22 => ?_)))))
      show zEnds p e below s T22 (mkF m 66 #[iv p1, iv p2, iv 0, iv 2, rv b20, .unset, .unset, .unset, .unset, .unset] []) _ _ _
      refine ziloadN X22 hx hby at_66 rfl (ziconst X22 hx hby at_67 (z := (2 : Int32)) rfl (zicmpNo X22 hx hby at_68 (by decide) (zaload X22 hx hby at_71 rfl rfl (zcallv X22 hx hby at_73 hZ hown (w12 hw) (w13 hw) (notFace_of_selects (args := #[]) (mvT hZ (w15 hw))) (w15 hw) (w14 hw) (w16 hw) (w2 hw) e22 E21_b20 (c15_spend l hw [] ⟨S_w_STEP, S_w_PAUSE, E_w_STEP, E_w_PAUSE, F_w_STEP_ordinal, F_w_PAUSE_ordinal, S_w_arr0, A_w_arr0, A_w_arr0_1, A_w_arr0_0, A_w_arr0_2⟩ O21 (Nat.le_trans Z0 K21.1) b20 g20 E21_b20 F21_b20_left) (by decide) (by rw [hml]; rfl) 0 (Nat.le_of_eq rfl) (by decide) (by decide) (by decide) (by decide) pd_0 rfl (argsL := []) (st := []) rfl (zpureK ⟨rfl, rfl⟩ fun T23 X23 e23 => ?_)))))
      show zEnds p e below s T23 (mkF m 76 #[iv p1, iv p2, iv 0, iv 2, rv b20, .unset, .unset, .unset, .unset, .unset] []) _ _ _
      refine ziloadN X23 hx hby at_76 rfl (ziconst X23 hx hby at_77 (z := (3 : Int32)) rfl (zicmpYes X23 hx hby at_78 86 (by decide) (by decide) (by decide) (zaload X23 hx hby at_86 rfl rfl (zcallv X23 hx hby at_88 hZ hown (w17 hw) (w18 hw) (notFace_of_selects (args := #[]) (mvT hZ (w20 hw))) (w20 hw) (w19 hw) (w21 hw) (w2 hw) e23 E21_b20 (c3_isSpent l hw [] ⟨S_w_STEP, S_w_PAUSE, E_w_STEP, E_w_PAUSE, F_w_STEP_ordinal, F_w_PAUSE_ordinal, S_w_arr0, A_w_arr0, A_w_arr0_1, A_w_arr0_0, A_w_arr0_2⟩ O21 (Nat.le_trans Z0 K21.1) b20 g20 E21_b20 F21_b20_left) (by decide) (by rw [hml]; rfl) 0 (Nat.le_of_eq rfl) (by decide) (by decide) (by decide) (by decide) pd_1 rfl (argsL := []) (st := []) rfl (zpureK ⟨rfl, rfl⟩ fun T24 X24 e24 => ?_)))))
      show zEnds p e below s T24 (mkF m 91 #[iv p1, iv p2, iv 0, iv 2, rv b20, .unset, .unset, .unset, .unset, .unset] [(.int 0)]) _ _ _
      refine zistore X24 hx hby at_91 (L' := #[iv p1, iv p2, iv 0, iv 2, rv b20, iv 0, .unset, .unset, .unset, .unset]) rfl (ziloadN X24 hx hby at_93 rfl (zifYes X24 hx hby at_94 106 (by decide) (by decide) (by decide) (ziconst X24 hx hby at_106 (z := (0 : Int32)) rfl (zistore X24 hx hby at_107 (L' := #[iv p1, iv p2, iv 0, iv 2, rv b20, iv 0, iv 0, .unset, .unset, .unset]) rfl (zaload X24 hx hby at_109 rfl rfl (zgetstat X24 hx hby at_111 hZ hown (host := "") (Or.inl (w22 hw)) Via.refl e24 (S_w_STEP.ext O21.2) fun T25 X25 e25 => (zcallv X25 hx hby at_114 hZ hown (w25 hw) (w26 hw) (notFace_of_selects (args := #[]) (mvT hZ (w28 hw))) (w28 hw) (w27 hw) (w29 hw) (w2 hw) e25 E21_b20 (c5_obey l hw [] ⟨S_w_STEP, S_w_PAUSE, E_w_STEP, E_w_PAUSE, F_w_STEP_ordinal, F_w_PAUSE_ordinal, S_w_arr0, A_w_arr0, A_w_arr0_1, A_w_arr0_0, A_w_arr0_2⟩ O21 (Nat.le_trans Z0 K21.1) b20 g20 E21_b20 F21_b20_left) (by decide) (by rw [hml]; rfl) 0 (Nat.le_of_eq rfl) (by decide) (by decide) (by decide) (by decide) pd_3 rfl (argsL := [(.ref w_STEP)]) (st := []) rfl fun T26 h26 v26 L26 e26 X26 q26 => ?_)))))))
      obtain ⟨rfl, N26q, K26q, E26_b20, F26_b20_left⟩ := q26
      have O26 := O21.keep K26q (allS g20 all0)
      have K26 := Keep.trans K21 K26q (allS (Or.inr z20) all0)
      have N26 := Fr.app N21 N26q
      show zEnds p e below s T26 (mkF m 117 #[iv p1, iv p2, iv 0, iv 2, rv b20, iv 0, iv 0, .unset, .unset, .unset] []) _ _ _
      refine zaload X26 hx hby at_117 rfl rfl (zcallv X26 hx hby at_119 hZ hown (w17 hw) (w18 hw) (notFace_of_selects (args := #[]) (mvT hZ (w20 hw))) (w20 hw) (w19 hw) (w21 hw) (w2 hw) e26 E26_b20 (c9_isSpent l hw [] ⟨S_w_STEP, S_w_PAUSE, E_w_STEP, E_w_PAUSE, F_w_STEP_ordinal, F_w_PAUSE_ordinal, S_w_arr0, A_w_arr0, A_w_arr0_1, A_w_arr0_0, A_w_arr0_2⟩ O26 (Nat.le_trans Z0 K26.1) b20 g20 E26_b20 F26_b20_left) (by decide) (by rw [hml]; rfl) 0 (Nat.le_of_eq rfl) (by decide) (by decide) (by decide) (by decide) pd_1 rfl (argsL := []) (st := []) rfl (zpureK ⟨rfl, rfl⟩ fun T27 X27 e27 => ?_))
      show zEnds p e below s T27 (mkF m 122 #[iv p1, iv p2, iv 0, iv 2, rv b20, iv 0, iv 0, .unset, .unset, .unset] [(.int 0)]) _ _ _
      refine zistore X27 hx hby at_122 (L' := #[iv p1, iv p2, iv 0, iv 2, rv b20, iv 0, iv 0, iv 0, .unset, .unset]) rfl (zaload X27 hx hby at_124 rfl rfl (zcallv X27 hx hby at_126 hZ hown (w12 hw) (w13 hw) (notFace_of_selects (args := #[]) (mvT hZ (w15 hw))) (w15 hw) (w14 hw) (w16 hw) (w2 hw) e27 E26_b20 (c11_spend l hw [] ⟨S_w_STEP, S_w_PAUSE, E_w_STEP, E_w_PAUSE, F_w_STEP_ordinal, F_w_PAUSE_ordinal, S_w_arr0, A_w_arr0, A_w_arr0_1, A_w_arr0_0, A_w_arr0_2⟩ O26 (Nat.le_trans Z0 K26.1) b20 g20 E26_b20 F26_b20_left) (by decide) (by rw [hml]; rfl) 0 (Nat.le_of_eq rfl) (by decide) (by decide) (by decide) (by decide) pd_0 rfl (argsL := []) (st := []) rfl fun T28 h28 v28 L28 e28 X28 q28 => ?_))
      obtain ⟨rfl, N28q, K28q, E28_b20, F28_b20_left⟩ := q28
      have O28 := O26.keep K28q (allS g20 all0)
      have K28 := Keep.trans K26 K28q (allS (Or.inr z20) all0)
      have N28 := Fr.app N26 N28q
      show zEnds p e below s T28 (mkF m 129 #[iv p1, iv p2, iv 0, iv 2, rv b20, iv 0, iv 0, iv 0, .unset, .unset] []) _ _ _
      refine zaload X28 hx hby at_129 rfl rfl (zcallv X28 hx hby at_131 hZ hown (w17 hw) (w18 hw) (notFace_of_selects (args := #[]) (mvT hZ (w20 hw))) (w20 hw) (w19 hw) (w21 hw) (w2 hw) e28 E28_b20 (c13_isSpent l hw [] ⟨S_w_STEP, S_w_PAUSE, E_w_STEP, E_w_PAUSE, F_w_STEP_ordinal, F_w_PAUSE_ordinal, S_w_arr0, A_w_arr0, A_w_arr0_1, A_w_arr0_0, A_w_arr0_2⟩ O28 (Nat.le_trans Z0 K28.1) b20 g20 E28_b20 F28_b20_left) (by decide) (by rw [hml]; rfl) 0 (Nat.le_of_eq rfl) (by decide) (by decide) (by decide) (by decide) pd_1 rfl (argsL := []) (st := []) rfl (zpureK ⟨rfl, rfl⟩ fun T29 X29 e29 => ?_))
      show zEnds p e below s T29 (mkF m 134 #[iv p1, iv p2, iv 0, iv 2, rv b20, iv 0, iv 0, iv 0, .unset, .unset] [(.int 1)]) _ _ _
      refine zistore X29 hx hby at_134 (L' := #[iv p1, iv p2, iv 0, iv 2, rv b20, iv 0, iv 0, iv 0, iv 1, .unset]) rfl (ziloadN X29 hx hby at_136 rfl (zifYes X29 hx hby at_137 145 (by decide) (by decide) (by decide) (ziconst X29 hx hby at_145 (z := (1 : Int32)) rfl (zgoto X29 hx hby at_146 150 (by decide) (by decide) (zistore X29 hx hby at_150 (L' := #[iv p1, iv p2, iv 0, iv 2, rv b20, iv 0, iv 0, iv 0, iv 1, iv 1]) rfl (ziload X29 hx hby at_152 rfl (ziload X29 hx hby at_154 rfl (zicmpNo X29 hx hby at_156 (by decide) (ziload X29 hx hby at_159 rfl ?_)))))))))
      show zEnds p e below s T29 (mkF m 161 #[iv p1, iv p2, iv 0, iv 2, rv b20, iv 0, iv 0, iv 0, iv 1, iv 1] [(.int 0)]) _ _ _
      refine zifNo X29 hx hby at_161 (by decide) (ziload X29 hx hby at_164 rfl (ziload X29 hx hby at_166 rfl (zicmpNo X29 hx hby at_168 (by decide) (ziconst X29 hx hby at_171 (z := (1 : Int32)) rfl (zgoto X29 hx hby at_172 176 (by decide) (by decide) ?_)))))
      show zEnds p e below s T29 (mkF m 176 #[iv p1, iv p2, iv 0, iv 2, rv b20, iv 0, iv 0, iv 0, iv 1, iv 1] [(.int 1)]) _ _ _
      exact zretZ X29 hx hby at_176 hret hlk (by simp) rfl (by decide) (by decide) ⟨rfl, N28⟩
    · rw [q2]
      refine zistoreN X0 hx hby at_7 (L' := #[iv p1, iv p2, iv 0, iv 3, .unset, .unset, .unset, .unset, .unset, .unset]) rfl (znewobj X0 hx hby at_8 hZ hown (w0 hw) (w1 hw) (w2 hw) e0 (by decide) (by decide) fun T30 h30 b30 X30 e30 y30 Ex30 E30_b30 D30 => ?_)
      have O30 := O0.ext Ex30
      have K30 := Keep.ext K0 Ex30
      have g30 : n0 ≤ b30 := by rw [y30]; exact Nat.le_trans Z0 K0.1
      have z30 : h0.size ≤ b30 := by rw [y30]; exact K0.1
      have F30_b30_left : Fld Z h30 b30 "heapglass/core/wire/Allowance" "left" "J" (.long 0) := D30 (Or.inl (w11 hw)) (ty := .long) (by decide)
      refine zdup X30 hx hby at_11 rfl (zcallsp X30 hx hby at_12 hZ hown rfl (w3 hw) (w4 hw) (w5 hw) (w2 hw) e30 (c1_init l hw [] ⟨S_w_STEP, S_w_PAUSE, E_w_STEP, E_w_PAUSE, F_w_STEP_ordinal, F_w_PAUSE_ordinal, S_w_arr0, A_w_arr0, A_w_arr0_1, A_w_arr0_0, A_w_arr0_2⟩ O30 (Nat.le_trans Z0 K30.1) b30 g30 E30_b30 F30_b30_left) (by decide) (by rw [hml]; rfl) 1 (Nat.le_of_eq rfl) (by decide) (by decide) (by decide) (by decide) pd_0 rfl (argsL := []) (st := [(.ref b30)]) rfl fun T31 h31 v31 L31 e31 X31 q31 => ?_)
      obtain ⟨rfl, N31q, K31q, E31_b30, F31_b30_left⟩ := q31
      have O31 := O30.keep K31q (allS g30 all0)
      have K31 := Keep.trans K30 K31q (allS (Or.inr z30) all0)
      have N31 := Fr.app N0 N31q
      show zEnds p e below s T31 (mkF m 15 #[iv p1, iv p2, iv 0, iv 3, .unset, .unset, .unset, .unset, .unset, .unset] [(.ref b30)]) _ _ _
      refine zastore X31 hx hby at_15 (hv := rfl) (L' := #[iv p1, iv p2, iv 0, iv 3, rv b30, .unset, .unset, .unset, .unset, .unset]) rfl (ziloadN X31 hx hby at_17 rfl (ziconst X31 hx hby at_18 (z := (1 : Int32)) rfl (zicmpYes X31 hx hby at_19 30 (by decide) (by decide) (by decide) (ziloadN X31 hx hby at_30 rfl (ziconst X31 hx hby at_31 (z := (2 : Int32)) rfl (zicmpYes X31 hx hby at_32 43 (by decide) (by decide) (by decide) (ziloadN X31 hx hby at_43 rfl (ziconst X31 hx hby at_44 (z := (3 : Int32)) rfl (zicmpYes X31 hx hby at_45 56 (by decide) (by decide) (by decide) ?_)))))))))
      show zEnds p e below s T31 (mkF m 56 #[iv p1, iv p2, iv 0, iv 3, rv b30, .unset, .unset, .unset, .unset, .unset] []) _ _ _
      refine ziloadN X31 hx hby at_56 rfl (ziconst X31 hx hby at_57 (z := (1 : Int32)) rfl (zicmpNo X31 hx hby at_58 (by decide) (zaload X31 hx hby at_61 rfl rfl (zcallv X31 hx hby at_63 hZ hown (w12 hw) (w13 hw) (notFace_of_selects (args := #[]) (mvT hZ (w15 hw))) (w15 hw) (w14 hw) (w16 hw) (w2 hw) e31 E31_b30 (c15_spend l hw [] ⟨S_w_STEP, S_w_PAUSE, E_w_STEP, E_w_PAUSE, F_w_STEP_ordinal, F_w_PAUSE_ordinal, S_w_arr0, A_w_arr0, A_w_arr0_1, A_w_arr0_0, A_w_arr0_2⟩ O31 (Nat.le_trans Z0 K31.1) b30 g30 E31_b30 F31_b30_left) (by decide) (by rw [hml]; rfl) 0 (Nat.le_of_eq rfl) (by decide) (by decide) (by decide) (by decide) pd_0 rfl (argsL := []) (st := []) rfl (zpureK ⟨rfl, rfl⟩ fun T32 X32 e32 => ?_)))))
      show zEnds p e below s T32 (mkF m 66 #[iv p1, iv p2, iv 0, iv 3, rv b30, .unset, .unset, .unset, .unset, .unset] []) _ _ _
      refine ziloadN X32 hx hby at_66 rfl (ziconst X32 hx hby at_67 (z := (2 : Int32)) rfl (zicmpNo X32 hx hby at_68 (by decide) (zaload X32 hx hby at_71 rfl rfl (zcallv X32 hx hby at_73 hZ hown (w12 hw) (w13 hw) (notFace_of_selects (args := #[]) (mvT hZ (w15 hw))) (w15 hw) (w14 hw) (w16 hw) (w2 hw) e32 E31_b30 (c15_spend l hw [] ⟨S_w_STEP, S_w_PAUSE, E_w_STEP, E_w_PAUSE, F_w_STEP_ordinal, F_w_PAUSE_ordinal, S_w_arr0, A_w_arr0, A_w_arr0_1, A_w_arr0_0, A_w_arr0_2⟩ O31 (Nat.le_trans Z0 K31.1) b30 g30 E31_b30 F31_b30_left) (by decide) (by rw [hml]; rfl) 0 (Nat.le_of_eq rfl) (by decide) (by decide) (by decide) (by decide) pd_0 rfl (argsL := []) (st := []) rfl (zpureK ⟨rfl, rfl⟩ fun T33 X33 e33 => ?_)))))
      show zEnds p e below s T33 (mkF m 76 #[iv p1, iv p2, iv 0, iv 3, rv b30, .unset, .unset, .unset, .unset, .unset] []) _ _ _
      refine ziloadN X33 hx hby at_76 rfl (ziconst X33 hx hby at_77 (z := (3 : Int32)) rfl (zicmpNo X33 hx hby at_78 (by decide) (zaload X33 hx hby at_81 rfl rfl (zcallv X33 hx hby at_83 hZ hown (w12 hw) (w13 hw) (notFace_of_selects (args := #[]) (mvT hZ (w15 hw))) (w15 hw) (w14 hw) (w16 hw) (w2 hw) e33 E31_b30 (c15_spend l hw [] ⟨S_w_STEP, S_w_PAUSE, E_w_STEP, E_w_PAUSE, F_w_STEP_ordinal, F_w_PAUSE_ordinal, S_w_arr0, A_w_arr0, A_w_arr0_1, A_w_arr0_0, A_w_arr0_2⟩ O31 (Nat.le_trans Z0 K31.1) b30 g30 E31_b30 F31_b30_left) (by decide) (by rw [hml]; rfl) 0 (Nat.le_of_eq rfl) (by decide) (by decide) (by decide) (by decide) pd_0 rfl (argsL := []) (st := []) rfl (zpureK ⟨rfl, rfl⟩ fun T34 X34 e34 => ?_)))))
      show zEnds p e below s T34 (mkF m 86 #[iv p1, iv p2, iv 0, iv 3, rv b30, .unset, .unset, .unset, .unset, .unset] []) _ _ _
      refine zaload X34 hx hby at_86 rfl rfl (zcallv X34 hx hby at_88 hZ hown (w17 hw) (w18 hw) (notFace_of_selects (args := #[]) (mvT hZ (w20 hw))) (w20 hw) (w19 hw) (w21 hw) (w2 hw) e34 E31_b30 (c3_isSpent l hw [] ⟨S_w_STEP, S_w_PAUSE, E_w_STEP, E_w_PAUSE, F_w_STEP_ordinal, F_w_PAUSE_ordinal, S_w_arr0, A_w_arr0, A_w_arr0_1, A_w_arr0_0, A_w_arr0_2⟩ O31 (Nat.le_trans Z0 K31.1) b30 g30 E31_b30 F31_b30_left) (by decide) (by rw [hml]; rfl) 0 (Nat.le_of_eq rfl) (by decide) (by decide) (by decide) (by decide) pd_1 rfl (argsL := []) (st := []) rfl (zpureK ⟨rfl, rfl⟩ fun T35 X35 e35 => ?_))
      show zEnds p e below s T35 (mkF m 91 #[iv p1, iv p2, iv 0, iv 3, rv b30, .unset, .unset, .unset, .unset, .unset] [(.int 0)]) _ _ _
      refine zistore X35 hx hby at_91 (L' := #[iv p1, iv p2, iv 0, iv 3, rv b30, iv 0, .unset, .unset, .unset, .unset]) rfl (ziloadN X35 hx hby at_93 rfl (zifYes X35 hx hby at_94 106 (by decide) (by decide) (by decide) (ziconst X35 hx hby at_106 (z := (0 : Int32)) rfl (zistore X35 hx hby at_107 (L' := #[iv p1, iv p2, iv 0, iv 3, rv b30, iv 0, iv 0, .unset, .unset, .unset]) rfl (zaload X35 hx hby at_109 rfl rfl (zgetstat X35 hx hby at_111 hZ hown (host := "") (Or.inl (w22 hw)) Via.refl e35 (S_w_STEP.ext O31.2) fun T36 X36 e36 => (zcallv X36 hx hby at_114 hZ hown (w25 hw) (w26 hw) (notFace_of_selects (args := #[]) (mvT hZ (w28 hw))) (w28 hw) (w27 hw) (w29 hw) (w2 hw) e36 E31_b30 (c5_obey l hw [] ⟨S_w_STEP, S_w_PAUSE, E_w_STEP, E_w_PAUSE, F_w_STEP_ordinal, F_w_PAUSE_ordinal, S_w_arr0, A_w_arr0, A_w_arr0_1, A_w_arr0_0, A_w_arr0_2⟩ O31 (Nat.le_trans Z0 K31.1) b30 g30 E31_b30 F31_b30_left) (by decide) (by rw [hml]; rfl) 0 (Nat.le_of_eq rfl) (by decide) (by decide) (by decide) (by decide) pd_3 rfl (argsL := [(.ref w_STEP)]) (st := []) rfl fun T37 h37 v37 L37 e37 X37 q37 => ?_)))))))
      obtain ⟨rfl, N37q, K37q, E37_b30, F37_b30_left⟩ := q37
      have O37 := O31.keep K37q (allS g30 all0)
      have K37 := Keep.trans K31 K37q (allS (Or.inr z30) all0)
      have N37 := Fr.app N31 N37q
      show zEnds p e below s T37 (mkF m 117 #[iv p1, iv p2, iv 0, iv 3, rv b30, iv 0, iv 0, .unset, .unset, .unset] []) _ _ _
      refine zaload X37 hx hby at_117 rfl rfl (zcallv X37 hx hby at_119 hZ hown (w17 hw) (w18 hw) (notFace_of_selects (args := #[]) (mvT hZ (w20 hw))) (w20 hw) (w19 hw) (w21 hw) (w2 hw) e37 E37_b30 (c9_isSpent l hw [] ⟨S_w_STEP, S_w_PAUSE, E_w_STEP, E_w_PAUSE, F_w_STEP_ordinal, F_w_PAUSE_ordinal, S_w_arr0, A_w_arr0, A_w_arr0_1, A_w_arr0_0, A_w_arr0_2⟩ O37 (Nat.le_trans Z0 K37.1) b30 g30 E37_b30 F37_b30_left) (by decide) (by rw [hml]; rfl) 0 (Nat.le_of_eq rfl) (by decide) (by decide) (by decide) (by decide) pd_1 rfl (argsL := []) (st := []) rfl (zpureK ⟨rfl, rfl⟩ fun T38 X38 e38 => ?_))
      show zEnds p e below s T38 (mkF m 122 #[iv p1, iv p2, iv 0, iv 3, rv b30, iv 0, iv 0, .unset, .unset, .unset] [(.int 0)]) _ _ _
      refine zistore X38 hx hby at_122 (L' := #[iv p1, iv p2, iv 0, iv 3, rv b30, iv 0, iv 0, iv 0, .unset, .unset]) rfl (zaload X38 hx hby at_124 rfl rfl (zcallv X38 hx hby at_126 hZ hown (w12 hw) (w13 hw) (notFace_of_selects (args := #[]) (mvT hZ (w15 hw))) (w15 hw) (w14 hw) (w16 hw) (w2 hw) e38 E37_b30 (c11_spend l hw [] ⟨S_w_STEP, S_w_PAUSE, E_w_STEP, E_w_PAUSE, F_w_STEP_ordinal, F_w_PAUSE_ordinal, S_w_arr0, A_w_arr0, A_w_arr0_1, A_w_arr0_0, A_w_arr0_2⟩ O37 (Nat.le_trans Z0 K37.1) b30 g30 E37_b30 F37_b30_left) (by decide) (by rw [hml]; rfl) 0 (Nat.le_of_eq rfl) (by decide) (by decide) (by decide) (by decide) pd_0 rfl (argsL := []) (st := []) rfl fun T39 h39 v39 L39 e39 X39 q39 => ?_))
      obtain ⟨rfl, N39q, K39q, E39_b30, F39_b30_left⟩ := q39
      have O39 := O37.keep K39q (allS g30 all0)
      have K39 := Keep.trans K37 K39q (allS (Or.inr z30) all0)
      have N39 := Fr.app N37 N39q
      show zEnds p e below s T39 (mkF m 129 #[iv p1, iv p2, iv 0, iv 3, rv b30, iv 0, iv 0, iv 0, .unset, .unset] []) _ _ _
      refine zaload X39 hx hby at_129 rfl rfl (zcallv X39 hx hby at_131 hZ hown (w17 hw) (w18 hw) (notFace_of_selects (args := #[]) (mvT hZ (w20 hw))) (w20 hw) (w19 hw) (w21 hw) (w2 hw) e39 E39_b30 (c13_isSpent l hw [] ⟨S_w_STEP, S_w_PAUSE, E_w_STEP, E_w_PAUSE, F_w_STEP_ordinal, F_w_PAUSE_ordinal, S_w_arr0, A_w_arr0, A_w_arr0_1, A_w_arr0_0, A_w_arr0_2⟩ O39 (Nat.le_trans Z0 K39.1) b30 g30 E39_b30 F39_b30_left) (by decide) (by rw [hml]; rfl) 0 (Nat.le_of_eq rfl) (by decide) (by decide) (by decide) (by decide) pd_1 rfl (argsL := []) (st := []) rfl (zpureK ⟨rfl, rfl⟩ fun T40 X40 e40 => ?_))
      show zEnds p e below s T40 (mkF m 134 #[iv p1, iv p2, iv 0, iv 3, rv b30, iv 0, iv 0, iv 0, .unset, .unset] [(.int 1)]) _ _ _
      refine zistore X40 hx hby at_134 (L' := #[iv p1, iv p2, iv 0, iv 3, rv b30, iv 0, iv 0, iv 0, iv 1, .unset]) rfl (ziloadN X40 hx hby at_136 rfl (zifYes X40 hx hby at_137 145 (by decide) (by decide) (by decide) (ziconst X40 hx hby at_145 (z := (1 : Int32)) rfl (zgoto X40 hx hby at_146 150 (by decide) (by decide) (zistore X40 hx hby at_150 (L' := #[iv p1, iv p2, iv 0, iv 3, rv b30, iv 0, iv 0, iv 0, iv 1, iv 1]) rfl (ziload X40 hx hby at_152 rfl (ziload X40 hx hby at_154 rfl (zicmpNo X40 hx hby at_156 (by decide) (ziload X40 hx hby at_159 rfl ?_)))))))))
      show zEnds p e below s T40 (mkF m 161 #[iv p1, iv p2, iv 0, iv 3, rv b30, iv 0, iv 0, iv 0, iv 1, iv 1] [(.int 0)]) _ _ _
      refine zifNo X40 hx hby at_161 (by decide) (ziload X40 hx hby at_164 rfl (ziload X40 hx hby at_166 rfl (zicmpNo X40 hx hby at_168 (by decide) (ziconst X40 hx hby at_171 (z := (1 : Int32)) rfl (zgoto X40 hx hby at_172 176 (by decide) (by decide) ?_)))))
      show zEnds p e below s T40 (mkF m 176 #[iv p1, iv p2, iv 0, iv 3, rv b30, iv 0, iv 0, iv 0, iv 1, iv 1] [(.int 1)]) _ _ _
      exact zretZ X40 hx hby at_176 hret hlk (by simp) rfl (by decide) (by decide) ⟨rfl, N39⟩
  · rw [q1]
    refine zistoreN X0 hx hby at_3 (L' := #[iv p1, iv p2, iv 1, .unset, .unset, .unset, .unset, .unset, .unset, .unset]) rfl (ziloadN X0 hx hby at_4 rfl (ziconst X0 hx hby at_5 (z := (3 : Int32)) rfl (ziand X0 hx hby at_6 (p2 &&& (3 : Int32)) rfl ?_)))
    show zEnds p e below s T0 (mkF m 7 #[iv p1, iv p2, iv 1, .unset, .unset, .unset, .unset, .unset, .unset, .unset] [(.int (p2 &&& (3 : Int32)))]) _ _ _
    rcases (and_3 p2) with q41 | q41 | q41 | q41
    · rw [q41]
      refine zistoreN X0 hx hby at_7 (L' := #[iv p1, iv p2, iv 1, iv 0, .unset, .unset, .unset, .unset, .unset, .unset]) rfl (znewobj X0 hx hby at_8 hZ hown (w0 hw) (w1 hw) (w2 hw) e0 (by decide) (by decide) fun T42 h42 b42 X42 e42 y42 Ex42 E42_b42 D42 => ?_)
      have O42 := O0.ext Ex42
      have K42 := Keep.ext K0 Ex42
      have g42 : n0 ≤ b42 := by rw [y42]; exact Nat.le_trans Z0 K0.1
      have z42 : h0.size ≤ b42 := by rw [y42]; exact K0.1
      have F42_b42_left : Fld Z h42 b42 "heapglass/core/wire/Allowance" "left" "J" (.long 0) := D42 (Or.inl (w11 hw)) (ty := .long) (by decide)
      refine zdup X42 hx hby at_11 rfl (zcallsp X42 hx hby at_12 hZ hown rfl (w3 hw) (w4 hw) (w5 hw) (w2 hw) e42 (c1_init l hw [] ⟨S_w_STEP, S_w_PAUSE, E_w_STEP, E_w_PAUSE, F_w_STEP_ordinal, F_w_PAUSE_ordinal, S_w_arr0, A_w_arr0, A_w_arr0_1, A_w_arr0_0, A_w_arr0_2⟩ O42 (Nat.le_trans Z0 K42.1) b42 g42 E42_b42 F42_b42_left) (by decide) (by rw [hml]; rfl) 1 (Nat.le_of_eq rfl) (by decide) (by decide) (by decide) (by decide) pd_0 rfl (argsL := []) (st := [(.ref b42)]) rfl fun T43 h43 v43 L43 e43 X43 q43 => ?_)
      obtain ⟨rfl, N43q, K43q, E43_b42, F43_b42_left⟩ := q43
      have O43 := O42.keep K43q (allS g42 all0)
      have K43 := Keep.trans K42 K43q (allS (Or.inr z42) all0)
      have N43 := Fr.app N0 N43q
      show zEnds p e below s T43 (mkF m 15 #[iv p1, iv p2, iv 1, iv 0, .unset, .unset, .unset, .unset, .unset, .unset] [(.ref b42)]) _ _ _
      refine zastore X43 hx hby at_15 (hv := rfl) (L' := #[iv p1, iv p2, iv 1, iv 0, rv b42, .unset, .unset, .unset, .unset, .unset]) rfl (ziloadN X43 hx hby at_17 rfl (ziconst X43 hx hby at_18 (z := (1 : Int32)) rfl (zicmpNo X43 hx hby at_19 (by decide) (zaload X43 hx hby at_22 rfl rfl (zgetstat X43 hx hby at_24 hZ hown (host := "") (Or.inl (w42 hw)) Via.refl e43 (S_w_PAUSE.ext O43.2) fun T44 X44 e44 => (zcallv X44 hx hby at_27 hZ hown (w25 hw) (w26 hw) (notFace_of_selects (args := #[]) (mvT hZ (w28 hw))) (w28 hw) (w27 hw) (w29 hw) (w2 hw) e44 E43_b42 (c17_obey l hw [] ⟨S_w_STEP, S_w_PAUSE, E_w_STEP, E_w_PAUSE, F_w_STEP_ordinal, F_w_PAUSE_ordinal, S_w_arr0, A_w_arr0, A_w_arr0_1, A_w_arr0_0, A_w_arr0_2⟩ O43 (Nat.le_trans Z0 K43.1) b42 g42 E43_b42 F43_b42_left) (by decide) (by rw [hml]; rfl) 0 (Nat.le_of_eq rfl) (by decide) (by decide) (by decide) (by decide) pd_3 rfl (argsL := [(.ref w_PAUSE)]) (st := []) rfl fun T45 h45 v45 L45 e45 X45 q45 => ?_))))))
      obtain ⟨rfl, N45q, K45q, E45_b42, F45_b42_left⟩ := q45
      have O45 := O43.keep K45q (allS g42 all0)
      have K45 := Keep.trans K43 K45q (allS (Or.inr z42) all0)
      have N45 := Fr.app N43 N45q
      show zEnds p e below s T45 (mkF m 30 #[iv p1, iv p2, iv 1, iv 0, rv b42, .unset, .unset, .unset, .unset, .unset] []) _ _ _
      refine ziloadN X45 hx hby at_30 rfl (ziconst X45 hx hby at_31 (z := (2 : Int32)) rfl (zicmpYes X45 hx hby at_32 43 (by decide) (by decide) (by decide) (ziloadN X45 hx hby at_43 rfl (ziconst X45 hx hby at_44 (z := (3 : Int32)) rfl (zicmpYes X45 hx hby at_45 56 (by decide) (by decide) (by decide) (ziloadN X45 hx hby at_56 rfl (ziconst X45 hx hby at_57 (z := (1 : Int32)) rfl (zicmpYes X45 hx hby at_58 66 (by decide) (by decide) (by decide) (ziloadN X45 hx hby at_66 rfl ?_)))))))))
      show zEnds p e below s T45 (mkF m 67 #[iv p1, iv p2, iv 1, iv 0, rv b42, .unset, .unset, .unset, .unset, .unset] [(.int 0)]) _ _ _
      refine ziconst X45 hx hby at_67 (z := (2 : Int32)) rfl (zicmpYes X45 hx hby at_68 76 (by decide) (by decide) (by decide) (ziloadN X45 hx hby at_76 rfl (ziconst X45 hx hby at_77 (z := (3 : Int32)) rfl (zicmpYes X45 hx hby at_78 86 (by decide) (by decide) (by decide) (zaload X45 hx hby at_86 rfl rfl (zcallv X45 hx hby at_88 hZ hown (w17 hw) (w18 hw) (notFace_of_selects (args := #[]) (mvT hZ (w20 hw))) (w20 hw) (w19 hw) (w21 hw) (w2 hw) e45 E45_b42 (c9_isSpent l hw [] ⟨S_w_STEP, S_w_PAUSE, E_w_STEP, E_w_PAUSE, F_w_STEP_ordinal, F_w_PAUSE_ordinal, S_w_arr0, A_w_arr0, A_w_arr0_1, A_w_arr0_0, A_w_arr0_2⟩ O45 (Nat.le_trans Z0 K45.1) b42 g42 E45_b42 F45_b42_left) (by decide) (by rw [hml]; rfl) 0 (Nat.le_of_eq rfl) (by decide) (by decide) (by decide) (by decide) pd_1 rfl (argsL := []) (st := []) rfl (zpureK ⟨rfl, rfl⟩ fun T46 X46 e46 => ?_)))))))
      show zEnds p e below s T46 (mkF m 91 #[iv p1, iv p2, iv 1, iv 0, rv b42, .unset, .unset, .unset, .unset, .unset] [(.int 0)]) _ _ _
      refine zistore X46 hx hby at_91 (L' := #[iv p1, iv p2, iv 1, iv 0, rv b42, iv 0, .unset, .unset, .unset, .unset]) rfl (ziloadN X46 hx hby at_93 rfl (zifNo X46 hx hby at_94 (by decide) (ziloadN X46 hx hby at_97 rfl (ziloadN X46 hx hby at_98 rfl (zicmpYes X46 hx hby at_99 106 (by decide) (by decide) (by decide) (ziconst X46 hx hby at_106 (z := (0 : Int32)) rfl (zistore X46 hx hby at_107 (L' := #[iv p1, iv p2, iv 1, iv 0, rv b42, iv 0, iv 0, .unset, .unset, .unset]) rfl (zaload X46 hx hby at_109 rfl rfl (zgetstat X46 hx hby at_111 hZ hown (host := "") (Or.inl (w22 hw)) Via.refl e46 (S_w_STEP.ext O45.2) fun T47 X47 e47 => ?_)))))))))
      show zEnds p e below s T47 (mkF m 114 #[iv p1, iv p2, iv 1, iv 0, rv b42, iv 0, iv 0, .unset, .unset, .unset] [(.ref w_STEP), (.ref b42)]) _ _ _
      refine zcallv X47 hx hby at_114 hZ hown (w25 hw) (w26 hw) (notFace_of_selects (args := #[]) (mvT hZ (w28 hw))) (w28 hw) (w27 hw) (w29 hw) (w2 hw) e47 E45_b42 (c23_obey l hw [] ⟨S_w_STEP, S_w_PAUSE, E_w_STEP, E_w_PAUSE, F_w_STEP_ordinal, F_w_PAUSE_ordinal, S_w_arr0, A_w_arr0, A_w_arr0_1, A_w_arr0_0, A_w_arr0_2⟩ O45 (Nat.le_trans Z0 K45.1) b42 g42 E45_b42 F45_b42_left) (by decide) (by rw [hml]; rfl) 0 (Nat.le_of_eq rfl) (by decide) (by decide) (by decide) (by decide) pd_3 rfl (argsL := [(.ref w_STEP)]) (st := []) rfl fun T48 h48 v48 L48 e48 X48 q48 => ?_
      obtain ⟨rfl, N48q, K48q, E48_b42, F48_b42_left⟩ := q48
      have O48 := O45.keep K48q (allS g42 all0)
      have K48 := Keep.trans K45 K48q (allS (Or.inr z42) all0)
      have N48 := Fr.app N45 N48q
      show zEnds p e below s T48 (mkF m 117 #[iv p1, iv p2, iv 1, iv 0, rv b42, iv 0, iv 0, .unset, .unset, .unset] []) _ _ _
      refine zaload X48 hx hby at_117 rfl rfl (zcallv X48 hx hby at_119 hZ hown (w17 hw) (w18 hw) (notFace_of_selects (args := #[]) (mvT hZ (w20 hw))) (w20 hw) (w19 hw) (w21 hw) (w2 hw) e48 E48_b42 (c25_isSpent l hw [] ⟨S_w_STEP, S_w_PAUSE, E_w_STEP, E_w_PAUSE, F_w_STEP_ordinal, F_w_PAUSE_ordinal, S_w_arr0, A_w_arr0, A_w_arr0_1, A_w_arr0_0, A_w_arr0_2⟩ O48 (Nat.le_trans Z0 K48.1) b42 g42 E48_b42 F48_b42_left) (by decide) (by rw [hml]; rfl) 0 (Nat.le_of_eq rfl) (by decide) (by decide) (by decide) (by decide) pd_1 rfl (argsL := []) (st := []) rfl (zpureK ⟨rfl, rfl⟩ fun T49 X49 e49 => ?_))
      show zEnds p e below s T49 (mkF m 122 #[iv p1, iv p2, iv 1, iv 0, rv b42, iv 0, iv 0, .unset, .unset, .unset] [(.int 0)]) _ _ _
      refine zistore X49 hx hby at_122 (L' := #[iv p1, iv p2, iv 1, iv 0, rv b42, iv 0, iv 0, iv 0, .unset, .unset]) rfl (zaload X49 hx hby at_124 rfl rfl (zcallv X49 hx hby at_126 hZ hown (w12 hw) (w13 hw) (notFace_of_selects (args := #[]) (mvT hZ (w15 hw))) (w15 hw) (w14 hw) (w16 hw) (w2 hw) e49 E48_b42 (c27_spend l hw [] ⟨S_w_STEP, S_w_PAUSE, E_w_STEP, E_w_PAUSE, F_w_STEP_ordinal, F_w_PAUSE_ordinal, S_w_arr0, A_w_arr0, A_w_arr0_1, A_w_arr0_0, A_w_arr0_2⟩ O48 (Nat.le_trans Z0 K48.1) b42 g42 E48_b42 F48_b42_left) (by decide) (by rw [hml]; rfl) 0 (Nat.le_of_eq rfl) (by decide) (by decide) (by decide) (by decide) pd_0 rfl (argsL := []) (st := []) rfl fun T50 h50 v50 L50 e50 X50 q50 => ?_))
      obtain ⟨rfl, N50q, K50q, E50_b42, F50_b42_left⟩ := q50
      have O50 := O48.keep K50q (allS g42 all0)
      have K50 := Keep.trans K48 K50q (allS (Or.inr z42) all0)
      have N50 := Fr.app N48 N50q
      show zEnds p e below s T50 (mkF m 129 #[iv p1, iv p2, iv 1, iv 0, rv b42, iv 0, iv 0, iv 0, .unset, .unset] []) _ _ _
      refine zaload X50 hx hby at_129 rfl rfl (zcallv X50 hx hby at_131 hZ hown (w17 hw) (w18 hw) (notFace_of_selects (args := #[]) (mvT hZ (w20 hw))) (w20 hw) (w19 hw) (w21 hw) (w2 hw) e50 E50_b42 (c9_isSpent l hw [] ⟨S_w_STEP, S_w_PAUSE, E_w_STEP, E_w_PAUSE, F_w_STEP_ordinal, F_w_PAUSE_ordinal, S_w_arr0, A_w_arr0, A_w_arr0_1, A_w_arr0_0, A_w_arr0_2⟩ O50 (Nat.le_trans Z0 K50.1) b42 g42 E50_b42 F50_b42_left) (by decide) (by rw [hml]; rfl) 0 (Nat.le_of_eq rfl) (by decide) (by decide) (by decide) (by decide) pd_1 rfl (argsL := []) (st := []) rfl (zpureK ⟨rfl, rfl⟩ fun T51 X51 e51 => ?_))
      show zEnds p e below s T51 (mkF m 134 #[iv p1, iv p2, iv 1, iv 0, rv b42, iv 0, iv 0, iv 0, .unset, .unset] [(.int 0)]) _ _ _
      refine zistore X51 hx hby at_134 (L' := #[iv p1, iv p2, iv 1, iv 0, rv b42, iv 0, iv 0, iv 0, iv 0, .unset]) rfl (ziloadN X51 hx hby at_136 rfl (zifNo X51 hx hby at_137 (by decide) (ziloadN X51 hx hby at_140 rfl (ziloadN X51 hx hby at_141 rfl (zicmpYes X51 hx hby at_142 149 (by decide) (by decide) (by decide) (ziconst X51 hx hby at_149 (z := (0 : Int32)) rfl (zistore X51 hx hby at_150 (L' := #[iv p1, iv p2, iv 1, iv 0, rv b42, iv 0, iv 0, iv 0, iv 0, iv 0]) rfl (ziload X51 hx hby at_152 rfl (ziload X51 hx hby at_154 rfl ?_)))))))))
      show zEnds p e below s T51 (mkF m 156 #[iv p1, iv p2, iv 1, iv 0, rv b42, iv 0, iv 0, iv 0, iv 0, iv 0] [(.int 0), (.int 0)]) _ _ _
      refine zicmpNo X51 hx hby at_156 (by decide) (ziload X51 hx hby at_159 rfl (zifNo X51 hx hby at_161 (by decide) (ziload X51 hx hby at_164 rfl (ziload X51 hx hby at_166 rfl (zicmpNo X51 hx hby at_168 (by decide) (ziconst X51 hx hby at_171 (z := (1 : Int32)) rfl (zgoto X51 hx hby at_172 176 (by decide) (by decide) ?_)))))))
      show zEnds p e below s T51 (mkF m 176 #[iv p1, iv p2, iv 1, iv 0, rv b42, iv 0, iv 0, iv 0, iv 0, iv 0] [(.int 1)]) _ _ _
      exact zretZ X51 hx hby at_176 hret hlk (by simp) rfl (by decide) (by decide) ⟨rfl, N50⟩
    · rw [q41]
      refine zistoreN X0 hx hby at_7 (L' := #[iv p1, iv p2, iv 1, iv 1, .unset, .unset, .unset, .unset, .unset, .unset]) rfl (znewobj X0 hx hby at_8 hZ hown (w0 hw) (w1 hw) (w2 hw) e0 (by decide) (by decide) fun T52 h52 b52 X52 e52 y52 Ex52 E52_b52 D52 => ?_)
      have O52 := O0.ext Ex52
      have K52 := Keep.ext K0 Ex52
      have g52 : n0 ≤ b52 := by rw [y52]; exact Nat.le_trans Z0 K0.1
      have z52 : h0.size ≤ b52 := by rw [y52]; exact K0.1
      have F52_b52_left : Fld Z h52 b52 "heapglass/core/wire/Allowance" "left" "J" (.long 0) := D52 (Or.inl (w11 hw)) (ty := .long) (by decide)
      refine zdup X52 hx hby at_11 rfl (zcallsp X52 hx hby at_12 hZ hown rfl (w3 hw) (w4 hw) (w5 hw) (w2 hw) e52 (c1_init l hw [] ⟨S_w_STEP, S_w_PAUSE, E_w_STEP, E_w_PAUSE, F_w_STEP_ordinal, F_w_PAUSE_ordinal, S_w_arr0, A_w_arr0, A_w_arr0_1, A_w_arr0_0, A_w_arr0_2⟩ O52 (Nat.le_trans Z0 K52.1) b52 g52 E52_b52 F52_b52_left) (by decide) (by rw [hml]; rfl) 1 (Nat.le_of_eq rfl) (by decide) (by decide) (by decide) (by decide) pd_0 rfl (argsL := []) (st := [(.ref b52)]) rfl fun T53 h53 v53 L53 e53 X53 q53 => ?_)
      obtain ⟨rfl, N53q, K53q, E53_b52, F53_b52_left⟩ := q53
      have O53 := O52.keep K53q (allS g52 all0)
      have K53 := Keep.trans K52 K53q (allS (Or.inr z52) all0)
      have N53 := Fr.app N0 N53q
      show zEnds p e below s T53 (mkF m 15 #[iv p1, iv p2, iv 1, iv 1, .unset, .unset, .unset, .unset, .unset, .unset] [(.ref b52)]) _ _ _
      refine zastore X53 hx hby at_15 (hv := rfl) (L' := #[iv p1, iv p2, iv 1, iv 1, rv b52, .unset, .unset, .unset, .unset, .unset]) rfl (ziloadN X53 hx hby at_17 rfl (ziconst X53 hx hby at_18 (z := (1 : Int32)) rfl (zicmpNo X53 hx hby at_19 (by decide) (zaload X53 hx hby at_22 rfl rfl (zgetstat X53 hx hby at_24 hZ hown (host := "") (Or.inl (w42 hw)) Via.refl e53 (S_w_PAUSE.ext O53.2) fun T54 X54 e54 => (zcallv X54 hx hby at_27 hZ hown (w25 hw) (w26 hw) (notFace_of_selects (args := #[]) (mvT hZ (w28 hw))) (w28 hw) (w27 hw) (w29 hw) (w2 hw) e54 E53_b52 (c17_obey l hw [] ⟨S_w_STEP, S_w_PAUSE, E_w_STEP, E_w_PAUSE, F_w_STEP_ordinal, F_w_PAUSE_ordinal, S_w_arr0, A_w_arr0, A_w_arr0_1, A_w_arr0_0, A_w_arr0_2⟩ O53 (Nat.le_trans Z0 K53.1) b52 g52 E53_b52 F53_b52_left) (by decide) (by rw [hml]; rfl) 0 (Nat.le_of_eq rfl) (by decide) (by decide) (by decide) (by decide) pd_3 rfl (argsL := [(.ref w_PAUSE)]) (st := []) rfl fun T55 h55 v55 L55 e55 X55 q55 => ?_))))))
      obtain ⟨rfl, N55q, K55q, E55_b52, F55_b52_left⟩ := q55
      have O55 := O53.keep K55q (allS g52 all0)
      have K55 := Keep.trans K53 K55q (allS (Or.inr z52) all0)
      have N55 := Fr.app N53 N55q
      show zEnds p e below s T55 (mkF m 30 #[iv p1, iv p2, iv 1, iv 1, rv b52, .unset, .unset, .unset, .unset, .unset] []) _ _ _
      refine ziloadN X55 hx hby at_30 rfl (ziconst X55 hx hby at_31 (z := (2 : Int32)) rfl (zicmpYes X55 hx hby at_32 43 (by decide) (by decide) (by decide) (ziloadN X55 hx hby at_43 rfl (ziconst X55 hx hby at_44 (z := (3 : Int32)) rfl (zicmpYes X55 hx hby at_45 56 (by decide) (by decide) (by decide) (ziloadN X55 hx hby at_56 rfl (ziconst X55 hx hby at_57 (z := (1 : Int32)) rfl (zicmpNo X55 hx hby at_58 (by decide) (zaload X55 hx hby at_61 rfl rfl ?_)))))))))
      show zEnds p e below s T55 (mkF m 63 #[iv p1, iv p2, iv 1, iv 1, rv b52, .unset, .unset, .unset, .unset, .unset] [(.ref b52)]) _ _ _
      refine zcallv X55 hx hby at_63 hZ hown (w12 hw) (w13 hw) (notFace_of_selects (args := #[]) (mvT hZ (w15 hw))) (w15 hw) (w14 hw) (w16 hw) (w2 hw) e55 E55_b52 (c11_spend l hw [] ⟨S_w_STEP, S_w_PAUSE, E_w_STEP, E_w_PAUSE, F_w_STEP_ordinal, F_w_PAUSE_ordinal, S_w_arr0, A_w_arr0, A_w_arr0_1, A_w_arr0_0, A_w_arr0_2⟩ O55 (Nat.le_trans Z0 K55.1) b52 g52 E55_b52 F55_b52_left) (by decide) (by rw [hml]; rfl) 0 (Nat.le_of_eq rfl) (by decide) (by decide) (by decide) (by decide) pd_0 rfl (argsL := []) (st := []) rfl fun T56 h56 v56 L56 e56 X56 q56 => ?_
      obtain ⟨rfl, N56q, K56q, E56_b52, F56_b52_left⟩ := q56
      have O56 := O55.keep K56q (allS g52 all0)
      have K56 := Keep.trans K55 K56q (allS (Or.inr z52) all0)
      have N56 := Fr.app N55 N56q
      show zEnds p e below s T56 (mkF m 66 #[iv p1, iv p2, iv 1, iv 1, rv b52, .unset, .unset, .unset, .unset, .unset] []) _ _ _
      refine ziloadN X56 hx hby at_66 rfl (ziconst X56 hx hby at_67 (z := (2 : Int32)) rfl (zicmpYes X56 hx hby at_68 76 (by decide) (by decide) (by decide) (ziloadN X56 hx hby at_76 rfl (ziconst X56 hx hby at_77 (z := (3 : Int32)) rfl (zicmpYes X56 hx hby at_78 86 (by decide) (by decide) (by decide) (zaload X56 hx hby at_86 rfl rfl (zcallv X56 hx hby at_88 hZ hown (w17 hw) (w18 hw) (notFace_of_selects (args := #[]) (mvT hZ (w20 hw))) (w20 hw) (w19 hw) (w21 hw) (w2 hw) e56 E56_b52 (c13_isSpent l hw [] ⟨S_w_STEP, S_w_PAUSE, E_w_STEP, E_w_PAUSE, F_w_STEP_ordinal, F_w_PAUSE_ordinal, S_w_arr0, A_w_arr0, A_w_arr0_1, A_w_arr0_0, A_w_arr0_2⟩ O56 (Nat.le_trans Z0 K56.1) b52 g52 E56_b52 F56_b52_left) (by decide) (by rw [hml]; rfl) 0 (Nat.le_of_eq rfl) (by decide) (by decide) (by decide) (by decide) pd_1 rfl (argsL := []) (st := []) rfl (zpureK ⟨rfl, rfl⟩ fun T57 X57 e57 => ?_))))))))
      show zEnds p e below s T57 (mkF m 91 #[iv p1, iv p2, iv 1, iv 1, rv b52, .unset, .unset, .unset, .unset, .unset] [(.int 1)]) _ _ _
      refine zistore X57 hx hby at_91 (L' := #[iv p1, iv p2, iv 1, iv 1, rv b52, iv 1, .unset, .unset, .unset, .unset]) rfl (ziloadN X57 hx hby at_93 rfl (zifNo X57 hx hby at_94 (by decide) (ziloadN X57 hx hby at_97 rfl (ziloadN X57 hx hby at_98 rfl (zicmpNo X57 hx hby at_99 (by decide) (ziconst X57 hx hby at_102 (z := (1 : Int32)) rfl (zgoto X57 hx hby at_103 107 (by decide) (by decide) (zistore X57 hx hby at_107 (L' := #[iv p1, iv p2, iv 1, iv 1, rv b52, iv 1, iv 1, .unset, .unset, .unset]) rfl (zaload X57 hx hby at_109 rfl rfl ?_)))))))))
      show zEnds p e below s T57 (mkF m 111 #[iv p1, iv p2, iv 1, iv 1, rv b52, iv 1, iv 1, .unset, .unset, .unset] [(.ref b52)]) _ _ _
      refine zgetstat X57 hx hby at_111 hZ hown (host := "") (Or.inl (w22 hw)) Via.refl e57 (S_w_STEP.ext O56.2) fun T58 X58 e58 => (zcallv X58 hx hby at_114 hZ hown (w25 hw) (w26 hw) (notFace_of_selects (args := #[]) (mvT hZ (w28 hw))) (w28 hw) (w27 hw) (w29 hw) (w2 hw) e58 E56_b52 (c29_obey l hw [] ⟨S_w_STEP, S_w_PAUSE, E_w_STEP, E_w_PAUSE, F_w_STEP_ordinal, F_w_PAUSE_ordinal, S_w_arr0, A_w_arr0, A_w_arr0_1, A_w_arr0_0, A_w_arr0_2⟩ O56 (Nat.le_trans Z0 K56.1) b52 g52 E56_b52 F56_b52_left) (by decide) (by rw [hml]; rfl) 0 (Nat.le_of_eq rfl) (by decide) (by decide) (by decide) (by decide) pd_3 rfl (argsL := [(.ref w_STEP)]) (st := []) rfl fun T59 h59 v59 L59 e59 X59 q59 => ?_)
      obtain ⟨rfl, N59q, K59q, E59_b52, F59_b52_left⟩ := q59
      have O59 := O56.keep K59q (allS g52 all0)
      have K59 := Keep.trans K56 K59q (allS (Or.inr z52) all0)
      have N59 := Fr.app N56 N59q
      show zEnds p e below s T59 (mkF m 117 #[iv p1, iv p2, iv 1, iv 1, rv b52, iv 1, iv 1, .unset, .unset, .unset] []) _ _ _
      refine zaload X59 hx hby at_117 rfl rfl (zcallv X59 hx hby at_119 hZ hown (w17 hw) (w18 hw) (notFace_of_selects (args := #[]) (mvT hZ (w20 hw))) (w20 hw) (w19 hw) (w21 hw) (w2 hw) e59 E59_b52 (c9_isSpent l hw [] ⟨S_w_STEP, S_w_PAUSE, E_w_STEP, E_w_PAUSE, F_w_STEP_ordinal, F_w_PAUSE_ordinal, S_w_arr0, A_w_arr0, A_w_arr0_1, A_w_arr0_0, A_w_arr0_2⟩ O59 (Nat.le_trans Z0 K59.1) b52 g52 E59_b52 F59_b52_left) (by decide) (by rw [hml]; rfl) 0 (Nat.le_of_eq rfl) (by decide) (by decide) (by decide) (by decide) pd_1 rfl (argsL := []) (st := []) rfl (zpureK ⟨rfl, rfl⟩ fun T60 X60 e60 => ?_))
      show zEnds p e below s T60 (mkF m 122 #[iv p1, iv p2, iv 1, iv 1, rv b52, iv 1, iv 1, .unset, .unset, .unset] [(.int 0)]) _ _ _
      refine zistore X60 hx hby at_122 (L' := #[iv p1, iv p2, iv 1, iv 1, rv b52, iv 1, iv 1, iv 0, .unset, .unset]) rfl (zaload X60 hx hby at_124 rfl rfl (zcallv X60 hx hby at_126 hZ hown (w12 hw) (w13 hw) (notFace_of_selects (args := #[]) (mvT hZ (w15 hw))) (w15 hw) (w14 hw) (w16 hw) (w2 hw) e60 E59_b52 (c11_spend l hw [] ⟨S_w_STEP, S_w_PAUSE, E_w_STEP, E_w_PAUSE, F_w_STEP_ordinal, F_w_PAUSE_ordinal, S_w_arr0, A_w_arr0, A_w_arr0_1, A_w_arr0_0, A_w_arr0_2⟩ O59 (Nat.le_trans Z0 K59.1) b52 g52 E59_b52 F59_b52_left) (by decide) (by rw [hml]; rfl) 0 (Nat.le_of_eq rfl) (by decide) (by decide) (by decide) (by decide) pd_0 rfl (argsL := []) (st := []) rfl fun T61 h61 v61 L61 e61 X61 q61 => ?_))
      obtain ⟨rfl, N61q, K61q, E61_b52, F61_b52_left⟩ := q61
      have O61 := O59.keep K61q (allS g52 all0)
      have K61 := Keep.trans K59 K61q (allS (Or.inr z52) all0)
      have N61 := Fr.app N59 N61q
      show zEnds p e below s T61 (mkF m 129 #[iv p1, iv p2, iv 1, iv 1, rv b52, iv 1, iv 1, iv 0, .unset, .unset] []) _ _ _
      refine zaload X61 hx hby at_129 rfl rfl (zcallv X61 hx hby at_131 hZ hown (w17 hw) (w18 hw) (notFace_of_selects (args := #[]) (mvT hZ (w20 hw))) (w20 hw) (w19 hw) (w21 hw) (w2 hw) e61 E61_b52 (c13_isSpent l hw [] ⟨S_w_STEP, S_w_PAUSE, E_w_STEP, E_w_PAUSE, F_w_STEP_ordinal, F_w_PAUSE_ordinal, S_w_arr0, A_w_arr0, A_w_arr0_1, A_w_arr0_0, A_w_arr0_2⟩ O61 (Nat.le_trans Z0 K61.1) b52 g52 E61_b52 F61_b52_left) (by decide) (by rw [hml]; rfl) 0 (Nat.le_of_eq rfl) (by decide) (by decide) (by decide) (by decide) pd_1 rfl (argsL := []) (st := []) rfl (zpureK ⟨rfl, rfl⟩ fun T62 X62 e62 => ?_))
      show zEnds p e below s T62 (mkF m 134 #[iv p1, iv p2, iv 1, iv 1, rv b52, iv 1, iv 1, iv 0, .unset, .unset] [(.int 1)]) _ _ _
      refine zistore X62 hx hby at_134 (L' := #[iv p1, iv p2, iv 1, iv 1, rv b52, iv 1, iv 1, iv 0, iv 1, .unset]) rfl (ziloadN X62 hx hby at_136 rfl (zifNo X62 hx hby at_137 (by decide) (ziloadN X62 hx hby at_140 rfl (ziloadN X62 hx hby at_141 rfl (zicmpNo X62 hx hby at_142 (by decide) (ziconst X62 hx hby at_145 (z := (1 : Int32)) rfl (zgoto X62 hx hby at_146 150 (by decide) (by decide) (zistore X62 hx hby at_150 (L' := #[iv p1, iv p2, iv 1, iv 1, rv b52, iv 1, iv 1, iv 0, iv 1, iv 1]) rfl (ziload X62 hx hby at_152 rfl ?_)))))))))
      show zEnds p e below s T62 (mkF m 154 #[iv p1, iv p2, iv 1, iv 1, rv b52, iv 1, iv 1, iv 0, iv 1, iv 1] [(.int 1)]) _ _ _
      refine ziload X62 hx hby at_154 rfl (zicmpNo X62 hx hby at_156 (by decide) (ziload X62 hx hby at_159 rfl (zifNo X62 hx hby at_161 (by decide) (ziload X62 hx hby at_164 rfl (ziload X62 hx hby at_166 rfl (zicmpNo X62 hx hby at_168 (by decide) (ziconst X62 hx hby at_171 (z := (1 : Int32)) rfl (zgoto X62 hx hby at_172 176 (by decide) (by decide) ?_))))))))
      show zEnds p e below s T62 (mkF m 176 #[iv p1, iv p2, iv 1, iv 1, rv b52, iv 1, iv 1, iv 0, iv 1, iv 1] [(.int 1)]) _ _ _
      exact zretZ X62 hx hby at_176 hret hlk (by simp) rfl (by decide) (by decide) ⟨rfl, N61⟩
    · rw [q41]
      refine zistoreN X0 hx hby at_7 (L' := #[iv p1, iv p2, iv 1, iv 2, .unset, .unset, .unset, .unset, .unset, .unset]) rfl (znewobj X0 hx hby at_8 hZ hown (w0 hw) (w1 hw) (w2 hw) e0 (by decide) (by decide) fun T63 h63 b63 X63 e63 y63 Ex63 E63_b63 D63 => ?_)
      have O63 := O0.ext Ex63
      have K63 := Keep.ext K0 Ex63
      have g63 : n0 ≤ b63 := by rw [y63]; exact Nat.le_trans Z0 K0.1
      have z63 : h0.size ≤ b63 := by rw [y63]; exact K0.1
      have F63_b63_left : Fld Z h63 b63 "heapglass/core/wire/Allowance" "left" "J" (.long 0) := D63 (Or.inl (w11 hw)) (ty := .long) (by decide)
      refine zdup X63 hx hby at_11 rfl (zcallsp X63 hx hby at_12 hZ hown rfl (w3 hw) (w4 hw) (w5 hw) (w2 hw) e63 (c1_init l hw [] ⟨S_w_STEP, S_w_PAUSE, E_w_STEP, E_w_PAUSE, F_w_STEP_ordinal, F_w_PAUSE_ordinal, S_w_arr0, A_w_arr0, A_w_arr0_1, A_w_arr0_0, A_w_arr0_2⟩ O63 (Nat.le_trans Z0 K63.1) b63 g63 E63_b63 F63_b63_left) (by decide) (by rw [hml]; rfl) 1 (Nat.le_of_eq rfl) (by decide) (by decide) (by decide) (by decide) pd_0 rfl (argsL := []) (st := [(.ref b63)]) rfl fun T64 h64 v64 L64 e64 X64 q64 => ?_)
      obtain ⟨rfl, N64q, K64q, E64_b63, F64_b63_left⟩ := q64
      have O64 := O63.keep K64q (allS g63 all0)
      have K64 := Keep.trans K63 K64q (allS (Or.inr z63) all0)
      have N64 := Fr.app N0 N64q
      show zEnds p e below s T64 (mkF m 15 #[iv p1, iv p2, iv 1, iv 2, .unset, .unset, .unset, .unset, .unset, .unset] [(.ref b63)]) _ _ _
      refine zastore X64 hx hby at_15 (hv := rfl) (L' := #[iv p1, iv p2, iv 1, iv 2, rv b63, .unset, .unset, .unset, .unset, .unset]) rfl (ziloadN X64 hx hby at_17 rfl (ziconst X64 hx hby at_18 (z := (1 : Int32)) rfl (zicmpNo X64 hx hby at_19 (by decide) (zaload X64 hx hby at_22 rfl rfl (zgetstat X64 hx hby at_24 hZ hown (host := "") (Or.inl (w42 hw)) Via.refl e64 (S_w_PAUSE.ext O64.2) fun T65 X65 e65 => (zcallv X65 hx hby at_27 hZ hown (w25 hw) (w26 hw) (notFace_of_selects (args := #[]) (mvT hZ (w28 hw))) (w28 hw) (w27 hw) (w29 hw) (w2 hw) e65 E64_b63 (c17_obey l hw [] ⟨S_w_STEP, S_w_PAUSE, E_w_STEP, E_w_PAUSE, F_w_STEP_ordinal, F_w_PAUSE_ordinal, S_w_arr0, A_w_arr0, A_w_arr0_1, A_w_arr0_0, A_w_arr0_2⟩ O64 (Nat.le_trans Z0 K64.1) b63 g63 E64_b63 F64_b63_left) (by decide) (by rw [hml]; rfl) 0 (Nat.le_of_eq rfl) (by decide) (by decide) (by decide) (by decide) pd_3 rfl (argsL := [(.ref w_PAUSE)]) (st := []) rfl fun T66 h66 v66 L66 e66 X66 q66 => ?_))))))
      obtain ⟨rfl, N66q, K66q, E66_b63, F66_b63_left⟩ := q66
      have O66 := O64.keep K66q (allS g63 all0)
      have K66 := Keep.trans K64 K66q (allS (Or.inr z63) all0)
      have N66 := Fr.app N64 N66q
      show zEnds p e below s T66 (mkF m 30 #[iv p1, iv p2, iv 1, iv 2, rv b63, .unset, .unset, .unset, .unset, .unset] []) _ _ _
      refine ziloadN X66 hx hby at_30 rfl (ziconst X66 hx hby at_31 (z := (2 : Int32)) rfl (zicmpYes X66 hx hby at_32 43 (by decide) (by decide) (by decide) (ziloadN X66 hx hby at_43 rfl (ziconst X66 hx hby at_44 (z := (3 : Int32)) rfl (zicmpYes X66 hx hby at_45 56 (by decide) (by decide) (by decide) (ziloadN X66 hx hby at_56 rfl (ziconst X66 hx hby at_57 (z := (1 : Int32)) rfl (zicmpNo X66 hx hby at_58 (by decide) (zaload X66 hx hby at_61 rfl rfl ?_)))))))))
      show zEnds p e below s T66 (mkF m 63 #[iv p1, iv p2, iv 1, iv 2, rv b63, .unset, .unset, .unset, .unset, .unset] [(.ref b63)]) _ _ _
      refine zcallv X66 hx hby at_63 hZ hown (w12 hw) (w13 hw) (notFace_of_selects (args := #[]) (mvT hZ (w15 hw))) (w15 hw) (w14 hw) (w16 hw) (w2 hw) e66 E66_b63 (c11_spend l hw [] ⟨S_w_STEP, S_w_PAUSE, E_w_STEP, E_w_PAUSE, F_w_STEP_ordinal, F_w_PAUSE_ordinal, S_w_arr0, A_w_arr0, A_w_arr0_1, A_w_arr0_0, A_w_arr0_2⟩ O66 (Nat.le_trans Z0 K66.1) b63 g63 E66_b63 F66_b63_left) (by decide) (by rw [hml]; rfl) 0 (Nat.le_of_eq rfl) (by decide) (by decide) (by decide) (by decide) pd_0 rfl (argsL := []) (st := []) rfl fun T67 h67 v67 L67 e67 X67 q67 => ?_
      obtain ⟨rfl, N67q, K67q, E67_b63, F67_b63_left⟩ := q67
      have O67 := O66.keep K67q (allS g63 all0)
      have K67 := Keep.trans K66 K67q (allS (Or.inr z63) all0)
      have N67 := Fr.app N66 N67q
      show zEnds p e below s T67 (mkF m 66 #[iv p1, iv p2, iv 1, iv 2, rv b63, .unset, .unset, .unset, .unset, .unset] []) _ _ _
      refine ziloadN X67 hx hby at_66 rfl (ziconst X67 hx hby at_67 (z := (2 : Int32)) rfl (zicmpNo X67 hx hby at_68 (by decide) (zaload X67 hx hby at_71 rfl rfl (zcallv X67 hx hby at_73 hZ hown (w12 hw) (w13 hw) (notFace_of_selects (args := #[]) (mvT hZ (w15 hw))) (w15 hw) (w14 hw) (w16 hw) (w2 hw) e67 E67_b63 (c31_spend l hw [] ⟨S_w_STEP, S_w_PAUSE, E_w_STEP, E_w_PAUSE, F_w_STEP_ordinal, F_w_PAUSE_ordinal, S_w_arr0, A_w_arr0, A_w_arr0_1, A_w_arr0_0, A_w_arr0_2⟩ O67 (Nat.le_trans Z0 K67.1) b63 g63 E67_b63 F67_b63_left) (by decide) (by rw [hml]; rfl) 0 (Nat.le_of_eq rfl) (by decide) (by decide) (by decide) (by decide) pd_0 rfl (argsL := []) (st := []) rfl (zpureK ⟨rfl, rfl⟩ fun T68 X68 e68 => ?_)))))
      show zEnds p e below s T68 (mkF m 76 #[iv p1, iv p2, iv 1, iv 2, rv b63, .unset, .unset, .unset, .unset, .unset] []) _ _ _
      refine ziloadN X68 hx hby at_76 rfl (ziconst X68 hx hby at_77 (z := (3 : Int32)) rfl (zicmpYes X68 hx hby at_78 86 (by decide) (by decide) (by decide) (zaload X68 hx hby at_86 rfl rfl (zcallv X68 hx hby at_88 hZ hown (w17 hw) (w18 hw) (notFace_of_selects (args := #[]) (mvT hZ (w20 hw))) (w20 hw) (w19 hw) (w21 hw) (w2 hw) e68 E67_b63 (c13_isSpent l hw [] ⟨S_w_STEP, S_w_PAUSE, E_w_STEP, E_w_PAUSE, F_w_STEP_ordinal, F_w_PAUSE_ordinal, S_w_arr0, A_w_arr0, A_w_arr0_1, A_w_arr0_0, A_w_arr0_2⟩ O67 (Nat.le_trans Z0 K67.1) b63 g63 E67_b63 F67_b63_left) (by decide) (by rw [hml]; rfl) 0 (Nat.le_of_eq rfl) (by decide) (by decide) (by decide) (by decide) pd_1 rfl (argsL := []) (st := []) rfl (zpureK ⟨rfl, rfl⟩ fun T69 X69 e69 => ?_)))))
      show zEnds p e below s T69 (mkF m 91 #[iv p1, iv p2, iv 1, iv 2, rv b63, .unset, .unset, .unset, .unset, .unset] [(.int 1)]) _ _ _
      refine zistore X69 hx hby at_91 (L' := #[iv p1, iv p2, iv 1, iv 2, rv b63, iv 1, .unset, .unset, .unset, .unset]) rfl (ziloadN X69 hx hby at_93 rfl (zifNo X69 hx hby at_94 (by decide) (ziloadN X69 hx hby at_97 rfl (ziloadN X69 hx hby at_98 rfl (zicmpNo X69 hx hby at_99 (by decide) (ziconst X69 hx hby at_102 (z := (1 : Int32)) rfl (zgoto X69 hx hby at_103 107 (by decide) (by decide) (zistore X69 hx hby at_107 (L' := #[iv p1, iv p2, iv 1, iv 2, rv b63, iv 1, iv 1, .unset, .unset, .unset]) rfl (zaload X69 hx hby at_109 rfl rfl ?_)))))))))
      show zEnds p e below s T69 (mkF m 111 #[iv p1, iv p2, iv 1, iv 2, rv b63, iv 1, iv 1, .unset, .unset, .unset] [(.ref b63)]) _ _ _
      refine zgetstat X69 hx hby at_111 hZ hown (host := "") (Or.inl (w22 hw)) Via.refl e69 (S_w_STEP.ext O67.2) fun T70 X70 e70 => (zcallv X70 hx hby at_114 hZ hown (w25 hw) (w26 hw) (notFace_of_selects (args := #[]) (mvT hZ (w28 hw))) (w28 hw) (w27 hw) (w29 hw) (w2 hw) e70 E67_b63 (c29_obey l hw [] ⟨S_w_STEP, S_w_PAUSE, E_w_STEP, E_w_PAUSE, F_w_STEP_ordinal, F_w_PAUSE_ordinal, S_w_arr0, A_w_arr0, A_w_arr0_1, A_w_arr0_0, A_w_arr0_2⟩ O67 (Nat.le_trans Z0 K67.1) b63 g63 E67_b63 F67_b63_left) (by decide) (by rw [hml]; rfl) 0 (Nat.le_of_eq rfl) (by decide) (by decide) (by decide) (by decide) pd_3 rfl (argsL := [(.ref w_STEP)]) (st := []) rfl fun T71 h71 v71 L71 e71 X71 q71 => ?_)
      obtain ⟨rfl, N71q, K71q, E71_b63, F71_b63_left⟩ := q71
      have O71 := O67.keep K71q (allS g63 all0)
      have K71 := Keep.trans K67 K71q (allS (Or.inr z63) all0)
      have N71 := Fr.app N67 N71q
      show zEnds p e below s T71 (mkF m 117 #[iv p1, iv p2, iv 1, iv 2, rv b63, iv 1, iv 1, .unset, .unset, .unset] []) _ _ _
      refine zaload X71 hx hby at_117 rfl rfl (zcallv X71 hx hby at_119 hZ hown (w17 hw) (w18 hw) (notFace_of_selects (args := #[]) (mvT hZ (w20 hw))) (w20 hw) (w19 hw) (w21 hw) (w2 hw) e71 E71_b63 (c9_isSpent l hw [] ⟨S_w_STEP, S_w_PAUSE, E_w_STEP, E_w_PAUSE, F_w_STEP_ordinal, F_w_PAUSE_ordinal, S_w_arr0, A_w_arr0, A_w_arr0_1, A_w_arr0_0, A_w_arr0_2⟩ O71 (Nat.le_trans Z0 K71.1) b63 g63 E71_b63 F71_b63_left) (by decide) (by rw [hml]; rfl) 0 (Nat.le_of_eq rfl) (by decide) (by decide) (by decide) (by decide) pd_1 rfl (argsL := []) (st := []) rfl (zpureK ⟨rfl, rfl⟩ fun T72 X72 e72 => ?_))
      show zEnds p e below s T72 (mkF m 122 #[iv p1, iv p2, iv 1, iv 2, rv b63, iv 1, iv 1, .unset, .unset, .unset] [(.int 0)]) _ _ _
      refine zistore X72 hx hby at_122 (L' := #[iv p1, iv p2, iv 1, iv 2, rv b63, iv 1, iv 1, iv 0, .unset, .unset]) rfl (zaload X72 hx hby at_124 rfl rfl (zcallv X72 hx hby at_126 hZ hown (w12 hw) (w13 hw) (notFace_of_selects (args := #[]) (mvT hZ (w15 hw))) (w15 hw) (w14 hw) (w16 hw) (w2 hw) e72 E71_b63 (c11_spend l hw [] ⟨S_w_STEP, S_w_PAUSE, E_w_STEP, E_w_PAUSE, F_w_STEP_ordinal, F_w_PAUSE_ordinal, S_w_arr0, A_w_arr0, A_w_arr0_1, A_w_arr0_0, A_w_arr0_2⟩ O71 (Nat.le_trans Z0 K71.1) b63 g63 E71_b63 F71_b63_left) (by decide) (by rw [hml]; rfl) 0 (Nat.le_of_eq rfl) (by decide) (by decide) (by decide) (by decide) pd_0 rfl (argsL := []) (st := []) rfl fun T73 h73 v73 L73 e73 X73 q73 => ?_))
      obtain ⟨rfl, N73q, K73q, E73_b63, F73_b63_left⟩ := q73
      have O73 := O71.keep K73q (allS g63 all0)
      have K73 := Keep.trans K71 K73q (allS (Or.inr z63) all0)
      have N73 := Fr.app N71 N73q
      show zEnds p e below s T73 (mkF m 129 #[iv p1, iv p2, iv 1, iv 2, rv b63, iv 1, iv 1, iv 0, .unset, .unset] []) _ _ _
      refine zaload X73 hx hby at_129 rfl rfl (zcallv X73 hx hby at_131 hZ hown (w17 hw) (w18 hw) (notFace_of_selects (args := #[]) (mvT hZ (w20 hw))) (w20 hw) (w19 hw) (w21 hw) (w2 hw) e73 E73_b63 (c13_isSpent l hw [] ⟨S_w_STEP, S_w_PAUSE, E_w_STEP, E_w_PAUSE, F_w_STEP_ordinal, F_w_PAUSE_ordinal, S_w_arr0, A_w_arr0, A_w_arr0_1, A_w_arr0_0, A_w_arr0_2⟩ O73 (Nat.le_trans Z0 K73.1) b63 g63 E73_b63 F73_b63_left) (by decide) (by rw [hml]; rfl) 0 (Nat.le_of_eq rfl) (by decide) (by decide) (by decide) (by decide) pd_1 rfl (argsL := []) (st := []) rfl (zpureK ⟨rfl, rfl⟩ fun T74 X74 e74 => ?_))
      show zEnds p e below s T74 (mkF m 134 #[iv p1, iv p2, iv 1, iv 2, rv b63, iv 1, iv 1, iv 0, .unset, .unset] [(.int 1)]) _ _ _
      refine zistore X74 hx hby at_134 (L' := #[iv p1, iv p2, iv 1, iv 2, rv b63, iv 1, iv 1, iv 0, iv 1, .unset]) rfl (ziloadN X74 hx hby at_136 rfl (zifNo X74 hx hby at_137 (by decide) (ziloadN X74 hx hby at_140 rfl (ziloadN X74 hx hby at_141 rfl (zicmpNo X74 hx hby at_142 (by decide) (ziconst X74 hx hby at_145 (z := (1 : Int32)) rfl (zgoto X74 hx hby at_146 150 (by decide) (by decide) (zistore X74 hx hby at_150 (L' := #[iv p1, iv p2, iv 1, iv 2, rv b63, iv 1, iv 1, iv 0, iv 1, iv 1]) rfl (ziload X74 hx hby at_152 rfl ?_)))))))))
      show zEnds p e below s T74 (mkF m 154 #[iv p1, iv p2, iv 1, iv 2, rv b63, iv 1, iv 1, iv 0, iv 1, iv 1] [(.int 1)]) _ _ _
      refine ziload X74 hx hby at_154 rfl (zicmpNo X74 hx hby at_156 (by decide) (ziload X74 hx hby at_159 rfl (zifNo X74 hx hby at_161 (by decide) (ziload X74 hx hby at_164 rfl (ziload X74 hx hby at_166 rfl (zicmpNo X74 hx hby at_168 (by decide) (ziconst X74 hx hby at_171 (z := (1 : Int32)) rfl (zgoto X74 hx hby at_172 176 (by decide) (by decide) ?_))))))))
      show zEnds p e below s T74 (mkF m 176 #[iv p1, iv p2, iv 1, iv 2, rv b63, iv 1, iv 1, iv 0, iv 1, iv 1] [(.int 1)]) _ _ _
      exact zretZ X74 hx hby at_176 hret hlk (by simp) rfl (by decide) (by decide) ⟨rfl, N73⟩
    · rw [q41]
      refine zistoreN X0 hx hby at_7 (L' := #[iv p1, iv p2, iv 1, iv 3, .unset, .unset, .unset, .unset, .unset, .unset]) rfl (znewobj X0 hx hby at_8 hZ hown (w0 hw) (w1 hw) (w2 hw) e0 (by decide) (by decide) fun T75 h75 b75 X75 e75 y75 Ex75 E75_b75 D75 => ?_)
      have O75 := O0.ext Ex75
      have K75 := Keep.ext K0 Ex75
      have g75 : n0 ≤ b75 := by rw [y75]; exact Nat.le_trans Z0 K0.1
      have z75 : h0.size ≤ b75 := by rw [y75]; exact K0.1
      have F75_b75_left : Fld Z h75 b75 "heapglass/core/wire/Allowance" "left" "J" (.long 0) := D75 (Or.inl (w11 hw)) (ty := .long) (by decide)
      refine zdup X75 hx hby at_11 rfl (zcallsp X75 hx hby at_12 hZ hown rfl (w3 hw) (w4 hw) (w5 hw) (w2 hw) e75 (c1_init l hw [] ⟨S_w_STEP, S_w_PAUSE, E_w_STEP, E_w_PAUSE, F_w_STEP_ordinal, F_w_PAUSE_ordinal, S_w_arr0, A_w_arr0, A_w_arr0_1, A_w_arr0_0, A_w_arr0_2⟩ O75 (Nat.le_trans Z0 K75.1) b75 g75 E75_b75 F75_b75_left) (by decide) (by rw [hml]; rfl) 1 (Nat.le_of_eq rfl) (by decide) (by decide) (by decide) (by decide) pd_0 rfl (argsL := []) (st := [(.ref b75)]) rfl fun T76 h76 v76 L76 e76 X76 q76 => ?_)
      obtain ⟨rfl, N76q, K76q, E76_b75, F76_b75_left⟩ := q76
      have O76 := O75.keep K76q (allS g75 all0)
      have K76 := Keep.trans K75 K76q (allS (Or.inr z75) all0)
      have N76 := Fr.app N0 N76q
      show zEnds p e below s T76 (mkF m 15 #[iv p1, iv p2, iv 1, iv 3, .unset, .unset, .unset, .unset, .unset, .unset] [(.ref b75)]) _ _ _
      refine zastore X76 hx hby at_15 (hv := rfl) (L' := #[iv p1, iv p2, iv 1, iv 3, rv b75, .unset, .unset, .unset, .unset, .unset]) rfl (ziloadN X76 hx hby at_17 rfl (ziconst X76 hx hby at_18 (z := (1 : Int32)) rfl (zicmpNo X76 hx hby at_19 (by decide) (zaload X76 hx hby at_22 rfl rfl (zgetstat X76 hx hby at_24 hZ hown (host := "") (Or.inl (w42 hw)) Via.refl e76 (S_w_PAUSE.ext O76.2) fun T77 X77 e77 => (zcallv X77 hx hby at_27 hZ hown (w25 hw) (w26 hw) (notFace_of_selects (args := #[]) (mvT hZ (w28 hw))) (w28 hw) (w27 hw) (w29 hw) (w2 hw) e77 E76_b75 (c17_obey l hw [] ⟨S_w_STEP, S_w_PAUSE, E_w_STEP, E_w_PAUSE, F_w_STEP_ordinal, F_w_PAUSE_ordinal, S_w_arr0, A_w_arr0, A_w_arr0_1, A_w_arr0_0, A_w_arr0_2⟩ O76 (Nat.le_trans Z0 K76.1) b75 g75 E76_b75 F76_b75_left) (by decide) (by rw [hml]; rfl) 0 (Nat.le_of_eq rfl) (by decide) (by decide) (by decide) (by decide) pd_3 rfl (argsL := [(.ref w_PAUSE)]) (st := []) rfl fun T78 h78 v78 L78 e78 X78 q78 => ?_))))))
      obtain ⟨rfl, N78q, K78q, E78_b75, F78_b75_left⟩ := q78
      have O78 := O76.keep K78q (allS g75 all0)
      have K78 := Keep.trans K76 K78q (allS (Or.inr z75) all0)
      have N78 := Fr.app N76 N78q
      show zEnds p e below s T78 (mkF m 30 #[iv p1, iv p2, iv 1, iv 3, rv b75, .unset, .unset, .unset, .unset, .unset] []) _ _ _
      refine ziloadN X78 hx hby at_30 rfl (ziconst X78 hx hby at_31 (z := (2 : Int32)) rfl (zicmpYes X78 hx hby at_32 43 (by decide) (by decide) (by decide) (ziloadN X78 hx hby at_43 rfl (ziconst X78 hx hby at_44 (z := (3 : Int32)) rfl (zicmpYes X78 hx hby at_45 56 (by decide) (by decide) (by decide) (ziloadN X78 hx hby at_56 rfl (ziconst X78 hx hby at_57 (z := (1 : Int32)) rfl (zicmpNo X78 hx hby at_58 (by decide) (zaload X78 hx hby at_61 rfl rfl ?_)))))))))
      show zEnds p e below s T78 (mkF m 63 #[iv p1, iv p2, iv 1, iv 3, rv b75, .unset, .unset, .unset, .unset, .unset] [(.ref b75)]) _ _ _
      refine zcallv X78 hx hby at_63 hZ hown (w12 hw) (w13 hw) (notFace_of_selects (args := #[]) (mvT hZ (w15 hw))) (w15 hw) (w14 hw) (w16 hw) (w2 hw) e78 E78_b75 (c11_spend l hw [] ⟨S_w_STEP, S_w_PAUSE, E_w_STEP, E_w_PAUSE, F_w_STEP_ordinal, F_w_PAUSE_ordinal, S_w_arr0, A_w_arr0, A_w_arr0_1, A_w_arr0_0, A_w_arr0_2⟩ O78 (Nat.le_trans Z0 K78.1) b75 g75 E78_b75 F78_b75_left) (by decide) (by rw [hml]; rfl) 0 (Nat.le_of_eq rfl) (by decide) (by decide) (by decide) (by decide) pd_0 rfl (argsL := []) (st := []) rfl fun T79 h79 v79 L79 e79 X79 q79 => ?_
      obtain ⟨rfl, N79q, K79q, E79_b75, F79_b75_left⟩ := q79
      have O79 := O78.keep K79q (allS g75 all0)
      have K79 := Keep.trans K78 K79q (allS (Or.inr z75) all0)
      have N79 := Fr.app N78 N79q
      show zEnds p e below s T79 (mkF m 66 #[iv p1, iv p2, iv 1, iv 3, rv b75, .unset, .unset, .unset, .unset, .unset] []) _ _ _
      refine ziloadN X79 hx hby at_66 rfl (ziconst X79 hx hby at_67 (z := (2 : Int32)) rfl (zicmpNo X79 hx hby at_68 (by decide) (zaload X79 hx hby at_71 rfl rfl (zcallv X79 hx hby at_73 hZ hown (w12 hw) (w13 hw) (notFace_of_selects (args := #[]) (mvT hZ (w15 hw))) (w15 hw) (w14 hw) (w16 hw) (w2 hw) e79 E79_b75 (c31_spend l hw [] ⟨S_w_STEP, S_w_PAUSE, E_w_STEP, E_w_PAUSE, F_w_STEP_ordinal, F_w_PAUSE_ordinal, S_w_arr0, A_w_arr0, A_w_arr0_1, A_w_arr0_0, A_w_arr0_2⟩ O79 (Nat.le_trans Z0 K79.1) b75 g75 E79_b75 F79_b75_left) (by decide) (by rw [hml]; rfl) 0 (Nat.le_of_eq rfl) (by decide) (by decide) (by decide) (by decide) pd_0 rfl (argsL := []) (st := []) rfl (zpureK ⟨rfl, rfl⟩ fun T80 X80 e80 => ?_)))))
      show zEnds p e below s T80 (mkF m 76 #[iv p1, iv p2, iv 1, iv 3, rv b75, .unset, .unset, .unset, .unset, .unset] []) _ _ _
      refine ziloadN X80 hx hby at_76 rfl (ziconst X80 hx hby at_77 (z := (3 : Int32)) rfl (zicmpNo X80 hx hby at_78 (by decide) (zaload X80 hx hby at_81 rfl rfl (zcallv X80 hx hby at_83 hZ hown (w12 hw) (w13 hw) (notFace_of_selects (args := #[]) (mvT hZ (w15 hw))) (w15 hw) (w14 hw) (w16 hw) (w2 hw) e80 E79_b75 (c31_spend l hw [] ⟨S_w_STEP, S_w_PAUSE, E_w_STEP, E_w_PAUSE, F_w_STEP_ordinal, F_w_PAUSE_ordinal, S_w_arr0, A_w_arr0, A_w_arr0_1, A_w_arr0_0, A_w_arr0_2⟩ O79 (Nat.le_trans Z0 K79.1) b75 g75 E79_b75 F79_b75_left) (by decide) (by rw [hml]; rfl) 0 (Nat.le_of_eq rfl) (by decide) (by decide) (by decide) (by decide) pd_0 rfl (argsL := []) (st := []) rfl (zpureK ⟨rfl, rfl⟩ fun T81 X81 e81 => ?_)))))
      show zEnds p e below s T81 (mkF m 86 #[iv p1, iv p2, iv 1, iv 3, rv b75, .unset, .unset, .unset, .unset, .unset] []) _ _ _
      refine zaload X81 hx hby at_86 rfl rfl (zcallv X81 hx hby at_88 hZ hown (w17 hw) (w18 hw) (notFace_of_selects (args := #[]) (mvT hZ (w20 hw))) (w20 hw) (w19 hw) (w21 hw) (w2 hw) e81 E79_b75 (c13_isSpent l hw [] ⟨S_w_STEP, S_w_PAUSE, E_w_STEP, E_w_PAUSE, F_w_STEP_ordinal, F_w_PAUSE_ordinal, S_w_arr0, A_w_arr0, A_w_arr0_1, A_w_arr0_0, A_w_arr0_2⟩ O79 (Nat.le_trans Z0 K79.1) b75 g75 E79_b75 F79_b75_left) (by decide) (by rw [hml]; rfl) 0 (Nat.le_of_eq rfl) (by decide) (by decide) (by decide) (by decide) pd_1 rfl (argsL := []) (st := []) rfl (zpureK ⟨rfl, rfl⟩ fun T82 X82 e82 => ?_))
      show zEnds p e below s T82 (mkF m 91 #[iv p1, iv p2, iv 1, iv 3, rv b75, .unset, .unset, .unset, .unset, .unset] [(.int 1)]) _ _ _
      refine zistore X82 hx hby at_91 (L' := #[iv p1, iv p2, iv 1, iv 3, rv b75, iv 1, .unset, .unset, .unset, .unset]) rfl (ziloadN X82 hx hby at_93 rfl (zifNo X82 hx hby at_94 (by decide) (ziloadN X82 hx hby at_97 rfl (ziloadN X82 hx hby at_98 rfl (zicmpNo X82 hx hby at_99 (by decide) (ziconst X82 hx hby at_102 (z := (1 : Int32)) rfl (zgoto X82 hx hby at_103 107 (by decide) (by decide) (zistore X82 hx hby at_107 (L' := #[iv p1, iv p2, iv 1, iv 3, rv b75, iv 1, iv 1, .unset, .unset, .unset]) rfl (zaload X82 hx hby at_109 rfl rfl ?_)))))))))
      show zEnds p e below s T82 (mkF m 111 #[iv p1, iv p2, iv 1, iv 3, rv b75, iv 1, iv 1, .unset, .unset, .unset] [(.ref b75)]) _ _ _
      refine zgetstat X82 hx hby at_111 hZ hown (host := "") (Or.inl (w22 hw)) Via.refl e82 (S_w_STEP.ext O79.2) fun T83 X83 e83 => (zcallv X83 hx hby at_114 hZ hown (w25 hw) (w26 hw) (notFace_of_selects (args := #[]) (mvT hZ (w28 hw))) (w28 hw) (w27 hw) (w29 hw) (w2 hw) e83 E79_b75 (c29_obey l hw [] ⟨S_w_STEP, S_w_PAUSE, E_w_STEP, E_w_PAUSE, F_w_STEP_ordinal, F_w_PAUSE_ordinal, S_w_arr0, A_w_arr0, A_w_arr0_1, A_w_arr0_0, A_w_arr0_2⟩ O79 (Nat.le_trans Z0 K79.1) b75 g75 E79_b75 F79_b75_left) (by decide) (by rw [hml]; rfl) 0 (Nat.le_of_eq rfl) (by decide) (by decide) (by decide) (by decide) pd_3 rfl (argsL := [(.ref w_STEP)]) (st := []) rfl fun T84 h84 v84 L84 e84 X84 q84 => ?_)
      obtain ⟨rfl, N84q, K84q, E84_b75, F84_b75_left⟩ := q84
      have O84 := O79.keep K84q (allS g75 all0)
      have K84 := Keep.trans K79 K84q (allS (Or.inr z75) all0)
      have N84 := Fr.app N79 N84q
      show zEnds p e below s T84 (mkF m 117 #[iv p1, iv p2, iv 1, iv 3, rv b75, iv 1, iv 1, .unset, .unset, .unset] []) _ _ _
      refine zaload X84 hx hby at_117 rfl rfl (zcallv X84 hx hby at_119 hZ hown (w17 hw) (w18 hw) (notFace_of_selects (args := #[]) (mvT hZ (w20 hw))) (w20 hw) (w19 hw) (w21 hw) (w2 hw) e84 E84_b75 (c9_isSpent l hw [] ⟨S_w_STEP, S_w_PAUSE, E_w_STEP, E_w_PAUSE, F_w_STEP_ordinal, F_w_PAUSE_ordinal, S_w_arr0, A_w_arr0, A_w_arr0_1, A_w_arr0_0, A_w_arr0_2⟩ O84 (Nat.le_trans Z0 K84.1) b75 g75 E84_b75 F84_b75_left) (by decide) (by rw [hml]; rfl) 0 (Nat.le_of_eq rfl) (by decide) (by decide) (by decide) (by decide) pd_1 rfl (argsL := []) (st := []) rfl (zpureK ⟨rfl, rfl⟩ fun T85 X85 e85 => ?_))
      show zEnds p e below s T85 (mkF m 122 #[iv p1, iv p2, iv 1, iv 3, rv b75, iv 1, iv 1, .unset, .unset, .unset] [(.int 0)]) _ _ _
      refine zistore X85 hx hby at_122 (L' := #[iv p1, iv p2, iv 1, iv 3, rv b75, iv 1, iv 1, iv 0, .unset, .unset]) rfl (zaload X85 hx hby at_124 rfl rfl (zcallv X85 hx hby at_126 hZ hown (w12 hw) (w13 hw) (notFace_of_selects (args := #[]) (mvT hZ (w15 hw))) (w15 hw) (w14 hw) (w16 hw) (w2 hw) e85 E84_b75 (c11_spend l hw [] ⟨S_w_STEP, S_w_PAUSE, E_w_STEP, E_w_PAUSE, F_w_STEP_ordinal, F_w_PAUSE_ordinal, S_w_arr0, A_w_arr0, A_w_arr0_1, A_w_arr0_0, A_w_arr0_2⟩ O84 (Nat.le_trans Z0 K84.1) b75 g75 E84_b75 F84_b75_left) (by decide) (by rw [hml]; rfl) 0 (Nat.le_of_eq rfl) (by decide) (by decide) (by decide) (by decide) pd_0 rfl (argsL := []) (st := []) rfl fun T86 h86 v86 L86 e86 X86 q86 => ?_))
      obtain ⟨rfl, N86q, K86q, E86_b75, F86_b75_left⟩ := q86
      have O86 := O84.keep K86q (allS g75 all0)
      have K86 := Keep.trans K84 K86q (allS (Or.inr z75) all0)
      have N86 := Fr.app N84 N86q
      show zEnds p e below s T86 (mkF m 129 #[iv p1, iv p2, iv 1, iv 3, rv b75, iv 1, iv 1, iv 0, .unset, .unset] []) _ _ _
      refine zaload X86 hx hby at_129 rfl rfl (zcallv X86 hx hby at_131 hZ hown (w17 hw) (w18 hw) (notFace_of_selects (args := #[]) (mvT hZ (w20 hw))) (w20 hw) (w19 hw) (w21 hw) (w2 hw) e86 E86_b75 (c13_isSpent l hw [] ⟨S_w_STEP, S_w_PAUSE, E_w_STEP, E_w_PAUSE, F_w_STEP_ordinal, F_w_PAUSE_ordinal, S_w_arr0, A_w_arr0, A_w_arr0_1, A_w_arr0_0, A_w_arr0_2⟩ O86 (Nat.le_trans Z0 K86.1) b75 g75 E86_b75 F86_b75_left) (by decide) (by rw [hml]; rfl) 0 (Nat.le_of_eq rfl) (by decide) (by decide) (by decide) (by decide) pd_1 rfl (argsL := []) (st := []) rfl (zpureK ⟨rfl, rfl⟩ fun T87 X87 e87 => ?_))
      show zEnds p e below s T87 (mkF m 134 #[iv p1, iv p2, iv 1, iv 3, rv b75, iv 1, iv 1, iv 0, .unset, .unset] [(.int 1)]) _ _ _
      refine zistore X87 hx hby at_134 (L' := #[iv p1, iv p2, iv 1, iv 3, rv b75, iv 1, iv 1, iv 0, iv 1, .unset]) rfl (ziloadN X87 hx hby at_136 rfl (zifNo X87 hx hby at_137 (by decide) (ziloadN X87 hx hby at_140 rfl (ziloadN X87 hx hby at_141 rfl (zicmpNo X87 hx hby at_142 (by decide) (ziconst X87 hx hby at_145 (z := (1 : Int32)) rfl (zgoto X87 hx hby at_146 150 (by decide) (by decide) (zistore X87 hx hby at_150 (L' := #[iv p1, iv p2, iv 1, iv 3, rv b75, iv 1, iv 1, iv 0, iv 1, iv 1]) rfl (ziload X87 hx hby at_152 rfl ?_)))))))))
      show zEnds p e below s T87 (mkF m 154 #[iv p1, iv p2, iv 1, iv 3, rv b75, iv 1, iv 1, iv 0, iv 1, iv 1] [(.int 1)]) _ _ _
      refine ziload X87 hx hby at_154 rfl (zicmpNo X87 hx hby at_156 (by decide) (ziload X87 hx hby at_159 rfl (zifNo X87 hx hby at_161 (by decide) (ziload X87 hx hby at_164 rfl (ziload X87 hx hby at_166 rfl (zicmpNo X87 hx hby at_168 (by decide) (ziconst X87 hx hby at_171 (z := (1 : Int32)) rfl (zgoto X87 hx hby at_172 176 (by decide) (by decide) ?_))))))))
      show zEnds p e below s T87 (mkF m 176 #[iv p1, iv p2, iv 1, iv 3, rv b75, iv 1, iv 1, iv 0, iv 1, iv 1] [(.int 1)]) _ _ _
      exact zretZ X87 hx hby at_176 hret hlk (by simp) rfl (by decide) (by decide) ⟨rfl, N86⟩
  · rw [q1]
    refine zistoreN X0 hx hby at_3 (L' := #[iv p1, iv p2, iv 2, .unset, .unset, .unset, .unset, .unset, .unset, .unset]) rfl (ziloadN X0 hx hby at_4 rfl (ziconst X0 hx hby at_5 (z := (3 : Int32)) rfl (ziand X0 hx hby at_6 (p2 &&& (3 : Int32)) rfl ?_)))
    show zEnds p e below s T0 (mkF m 7 #[iv p1, iv p2, iv 2, .unset, .unset, .unset, .unset, .unset, .unset, .unset] [(.int (p2 &&& (3 : Int32)))]) _ _ _
    rcases (and_3 p2) with q88 | q88 | q88 | q88
    · rw [q88]
      refine zistoreN X0 hx hby at_7 (L' := #[iv p1, iv p2, iv 2, iv 0, .unset, .unset, .unset, .unset, .unset, .unset]) rfl (znewobj X0 hx hby at_8 hZ hown (w0 hw) (w1 hw) (w2 hw) e0 (by decide) (by decide) fun T89 h89 b89 X89 e89 y89 Ex89 E89_b89 D89 => ?_)
      have O89 := O0.ext Ex89
      have K89 := Keep.ext K0 Ex89
      have g89 : n0 ≤ b89 := by rw [y89]; exact Nat.le_trans Z0 K0.1
      have z89 : h0.size ≤ b89 := by rw [y89]; exact K0.1
      have F89_b89_left : Fld Z h89 b89 "heapglass/core/wire/Allowance" "left" "J" (.long 0) := D89 (Or.inl (w11 hw)) (ty := .long) (by decide)
      refine zdup X89 hx hby at_11 rfl (zcallsp X89 hx hby at_12 hZ hown rfl (w3 hw) (w4 hw) (w5 hw) (w2 hw) e89 (c1_init l hw [] ⟨S_w_STEP, S_w_PAUSE, E_w_STEP, E_w_PAUSE, F_w_STEP_ordinal, F_w_PAUSE_ordinal, S_w_arr0, A_w_arr0, A_w_arr0_1, A_w_arr0_0, A_w_arr0_2⟩ O89 (Nat.le_trans Z0 K89.1) b89 g89 E89_b89 F89_b89_left) (by decide) (by rw [hml]; rfl) 1 (Nat.le_of_eq rfl) (by decide) (by decide) (by decide) (by decide) pd_0 rfl (argsL := []) (st := [(.ref b89)]) rfl fun T90 h90 v90 L90 e90 X90 q90 => ?_)
      obtain ⟨rfl, N90q, K90q, E90_b89, F90_b89_left⟩ := q90
      have O90 := O89.keep K90q (allS g89 all0)
      have K90 := Keep.trans K89 K90q (allS (Or.inr z89) all0)
      have N90 := Fr.app N0 N90q
      show zEnds p e below s T90 (mkF m 15 #[iv p1, iv p2, iv 2, iv 0, .unset, .unset, .unset, .unset, .unset, .unset] [(.ref b89)]) _ _ _
      refine zastore X90 hx hby at_15 (hv := rfl) (L' := #[iv p1, iv p2, iv 2, iv 0, rv b89, .unset, .unset, .unset, .unset, .unset]) rfl (ziloadN X90 hx hby at_17 rfl (ziconst X90 hx hby at_18 (z := (1 : Int32)) rfl (zicmpNo X90 hx hby at_19 (by decide) (zaload X90 hx hby at_22 rfl rfl (zgetstat X90 hx hby at_24 hZ hown (host := "") (Or.inl (w42 hw)) Via.refl e90 (S_w_PAUSE.ext O90.2) fun T91 X91 e91 => (zcallv X91 hx hby at_27 hZ hown (w25 hw) (w26 hw) (notFace_of_selects (args := #[]) (mvT hZ (w28 hw))) (w28 hw) (w27 hw) (w29 hw) (w2 hw) e91 E90_b89 (c17_obey l hw [] ⟨S_w_STEP, S_w_PAUSE, E_w_STEP, E_w_PAUSE, F_w_STEP_ordinal, F_w_PAUSE_ordinal, S_w_arr0, A_w_arr0, A_w_arr0_1, A_w_arr0_0, A_w_arr0_2⟩ O90 (Nat.le_trans Z0 K90.1) b89 g89 E90_b89 F90_b89_left) (by decide) (by rw [hml]; rfl) 0 (Nat.le_of_eq rfl) (by decide) (by decide) (by decide) (by decide) pd_3 rfl (argsL := [(.ref w_PAUSE)]) (st := []) rfl fun T92 h92 v92 L92 e92 X92 q92 => ?_))))))
      obtain ⟨rfl, N92q, K92q, E92_b89, F92_b89_left⟩ := q92
      have O92 := O90.keep K92q (allS g89 all0)
      have K92 := Keep.trans K90 K92q (allS (Or.inr z89) all0)
      have N92 := Fr.app N90 N92q
      show zEnds p e below s T92 (mkF m 30 #[iv p1, iv p2, iv 2, iv 0, rv b89, .unset, .unset, .unset, .unset, .unset] []) _ _ _
      refine ziloadN X92 hx hby at_30 rfl (ziconst X92 hx hby at_31 (z := (2 : Int32)) rfl (zicmpNo X92 hx hby at_32 (by decide) (zaload X92 hx hby at_35 rfl rfl (zgetstat X92 hx hby at_37 hZ hown (host := "") (Or.inl (w22 hw)) Via.refl e92 (S_w_STEP.ext O92.2) fun T93 X93 e93 => (zcallv X93 hx hby at_40 hZ hown (w25 hw) (w26 hw) (notFace_of_selects (args := #[]) (mvT hZ (w28 hw))) (w28 hw) (w27 hw) (w29 hw) (w2 hw) e93 E92_b89 (c23_obey l hw [] ⟨S_w_STEP, S_w_PAUSE, E_w_STEP, E_w_PAUSE, F_w_STEP_ordinal, F_w_PAUSE_ordinal, S_w_arr0, A_w_arr0, A_w_arr0_1, A_w_arr0_0, A_w_arr0_2⟩ O92 (Nat.le_trans Z0 K92.1) b89 g89 E92_b89 F92_b89_left) (by decide) (by rw [hml]; rfl) 0 (Nat.le_of_eq rfl) (by decide) (by decide) (by decide) (by decide) pd_3 rfl (argsL := [(.ref w_STEP)]) (st := []) rfl fun T94 h94 v94 L94 e94 X94 q94 => ?_)))))
      obtain ⟨rfl, N94q, K94q, E94_b89, F94_b89_left⟩ := q94
      have O94 := O92.keep K94q (allS g89 all0)
      have K94 := Keep.trans K92 K94q (allS (Or.inr z89) all0)
      have N94 := Fr.app N92 N94q
      show zEnds p e below s T94 (mkF m 43 #[iv p1, iv p2, iv 2, iv 0, rv b89, .unset, .unset, .unset, .unset, .unset] []) _ _ _
      refine ziloadN X94 hx hby at_43 rfl (ziconst X94 hx hby at_44 (z := (3 : Int32)) rfl (zicmpYes X94 hx hby at_45 56 (by decide) (by decide) (by decide) (ziloadN X94 hx hby at_56 rfl (ziconst X94 hx hby at_57 (z := (1 : Int32)) rfl (zicmpYes X94 hx hby at_58 66 (by decide) (by decide) (by decide) (ziloadN X94 hx hby at_66 rfl (ziconst X94 hx hby at_67 (z := (2 : Int32)) rfl (zicmpYes X94 hx hby at_68 76 (by decide) (by decide) (by decide) (ziloadN X94 hx hby at_76 rfl ?_)))))))))
      show zEnds p e below s T94 (mkF m 77 #[iv p1, iv p2, iv 2, iv 0, rv b89, .unset, .unset, .unset, .unset, .unset] [(.int 0)]) _ _ _
      refine ziconst X94 hx hby at_77 (z := (3 : Int32)) rfl (zicmpYes X94 hx hby at_78 86 (by decide) (by decide) (by decide) (zaload X94 hx hby at_86 rfl rfl (zcallv X94 hx hby at_88 hZ hown (w17 hw) (w18 hw) (notFace_of_selects (args := #[]) (mvT hZ (w20 hw))) (w20 hw) (w19 hw) (w21 hw) (w2 hw) e94 E94_b89 (c25_isSpent l hw [] ⟨S_w_STEP, S_w_PAUSE, E_w_STEP, E_w_PAUSE, F_w_STEP_ordinal, F_w_PAUSE_ordinal, S_w_arr0, A_w_arr0, A_w_arr0_1, A_w_arr0_0, A_w_arr0_2⟩ O94 (Nat.le_trans Z0 K94.1) b89 g89 E94_b89 F94_b89_left) (by decide) (by rw [hml]; rfl) 0 (Nat.le_of_eq rfl) (by decide) (by decide) (by decide) (by decide) pd_1 rfl (argsL := []) (st := []) rfl (zpureK ⟨rfl, rfl⟩ fun T95 X95 e95 => ?_))))
      show zEnds p e below s T95 (mkF m 91 #[iv p1, iv p2, iv 2, iv 0, rv b89, .unset, .unset, .unset, .unset, .unset] [(.int 0)]) _ _ _
      refine zistore X95 hx hby at_91 (L' := #[iv p1, iv p2, iv 2, iv 0, rv b89, iv 0, .unset, .unset, .unset, .unset]) rfl (ziloadN X95 hx hby at_93 rfl (zifNo X95 hx hby at_94 (by decide) (ziloadN X95 hx hby at_97 rfl (ziloadN X95 hx hby at_98 rfl (zicmpYes X95 hx hby at_99 106 (by decide) (by decide) (by decide) (ziconst X95 hx hby at_106 (z := (0 : Int32)) rfl (zistore X95 hx hby at_107 (L' := #[iv p1, iv p2, iv 2, iv 0, rv b89, iv 0, iv 0, .unset, .unset, .unset]) rfl (zaload X95 hx hby at_109 rfl rfl (zgetstat X95 hx hby at_111 hZ hown (host := "") (Or.inl (w22 hw)) Via.refl e95 (S_w_STEP.ext O94.2) fun T96 X96 e96 => ?_)))))))))
      show zEnds p e below s T96 (mkF m 114 #[iv p1, iv p2, iv 2, iv 0, rv b89, iv 0, iv 0, .unset, .unset, .unset] [(.ref w_STEP), (.ref b89)]) _ _ _
      refine zcallv X96 hx hby at_114 hZ hown (w25 hw) (w26 hw) (notFace_of_selects (args := #[]) (mvT hZ (w28 hw))) (w28 hw) (w27 hw) (w29 hw) (w2 hw) e96 E94_b89 (c33_obey l hw [] ⟨S_w_STEP, S_w_PAUSE, E_w_STEP, E_w_PAUSE, F_w_STEP_ordinal, F_w_PAUSE_ordinal, S_w_arr0, A_w_arr0, A_w_arr0_1, A_w_arr0_0, A_w_arr0_2⟩ O94 (Nat.le_trans Z0 K94.1) b89 g89 E94_b89 F94_b89_left) (by decide) (by rw [hml]; rfl) 0 (Nat.le_of_eq rfl) (by decide) (by decide) (by decide) (by decide) pd_3 rfl (argsL := [(.ref w_STEP)]) (st := []) rfl fun T97 h97 v97 L97 e97 X97 q97 => ?_
      obtain ⟨rfl, N97q, K97q, E97_b89, F97_b89_left⟩ := q97
      have O97 := O94.keep K97q (allS g89 all0)
      have K97 := Keep.trans K94 K97q (allS (Or.inr z89) all0)
      have N97 := Fr.app N94 N97q
      show zEnds p e below s T97 (mkF m 117 #[iv p1, iv p2, iv 2, iv 0, rv b89, iv 0, iv 0, .unset, .unset, .unset] []) _ _ _
      refine zaload X97 hx hby at_117 rfl rfl (zcallv X97 hx hby at_119 hZ hown (w17 hw) (w18 hw) (notFace_of_selects (args := #[]) (mvT hZ (w20 hw))) (w20 hw) (w19 hw) (w21 hw) (w2 hw) e97 E97_b89 (c35_isSpent l hw [] ⟨S_w_STEP, S_w_PAUSE, E_w_STEP, E_w_PAUSE, F_w_STEP_ordinal, F_w_PAUSE_ordinal, S_w_arr0, A_w_arr0, A_w_arr0_1, A_w_arr0_0, A_w_arr0_2⟩ O97 (Nat.le_trans Z0 K97.1) b89 g89 E97_b89 F97_b89_left) (by decide) (by rw [hml]; rfl) 0 (Nat.le_of_eq rfl) (by decide) (by decide) (by decide) (by decide) pd_1 rfl (argsL := []) (st := []) rfl (zpureK ⟨rfl, rfl⟩ fun T98 X98 e98 => ?_))
      show zEnds p e below s T98 (mkF m 122 #[iv p1, iv p2, iv 2, iv 0, rv b89, iv 0, iv 0, .unset, .unset, .unset] [(.int 0)]) _ _ _
      refine zistore X98 hx hby at_122 (L' := #[iv p1, iv p2, iv 2, iv 0, rv b89, iv 0, iv 0, iv 0, .unset, .unset]) rfl (zaload X98 hx hby at_124 rfl rfl (zcallv X98 hx hby at_126 hZ hown (w12 hw) (w13 hw) (notFace_of_selects (args := #[]) (mvT hZ (w15 hw))) (w15 hw) (w14 hw) (w16 hw) (w2 hw) e98 E97_b89 (c37_spend l hw [] ⟨S_w_STEP, S_w_PAUSE, E_w_STEP, E_w_PAUSE, F_w_STEP_ordinal, F_w_PAUSE_ordinal, S_w_arr0, A_w_arr0, A_w_arr0_1, A_w_arr0_0, A_w_arr0_2⟩ O97 (Nat.le_trans Z0 K97.1) b89 g89 E97_b89 F97_b89_left) (by decide) (by rw [hml]; rfl) 0 (Nat.le_of_eq rfl) (by decide) (by decide) (by decide) (by decide) pd_0 rfl (argsL := []) (st := []) rfl fun T99 h99 v99 L99 e99 X99 q99 => ?_))
      obtain ⟨rfl, N99q, K99q, E99_b89, F99_b89_left⟩ := q99
      have O99 := O97.keep K99q (allS g89 all0)
      have K99 := Keep.trans K97 K99q (allS (Or.inr z89) all0)
      have N99 := Fr.app N97 N99q
      show zEnds p e below s T99 (mkF m 129 #[iv p1, iv p2, iv 2, iv 0, rv b89, iv 0, iv 0, iv 0, .unset, .unset] []) _ _ _
      refine zaload X99 hx hby at_129 rfl rfl (zcallv X99 hx hby at_131 hZ hown (w17 hw) (w18 hw) (notFace_of_selects (args := #[]) (mvT hZ (w20 hw))) (w20 hw) (w19 hw) (w21 hw) (w2 hw) e99 E99_b89 (c25_isSpent l hw [] ⟨S_w_STEP, S_w_PAUSE, E_w_STEP, E_w_PAUSE, F_w_STEP_ordinal, F_w_PAUSE_ordinal, S_w_arr0, A_w_arr0, A_w_arr0_1, A_w_arr0_0, A_w_arr0_2⟩ O99 (Nat.le_trans Z0 K99.1) b89 g89 E99_b89 F99_b89_left) (by decide) (by rw [hml]; rfl) 0 (Nat.le_of_eq rfl) (by decide) (by decide) (by decide) (by decide) pd_1 rfl (argsL := []) (st := []) rfl (zpureK ⟨rfl, rfl⟩ fun T100 X100 e100 => ?_))
      show zEnds p e below s T100 (mkF m 134 #[iv p1, iv p2, iv 2, iv 0, rv b89, iv 0, iv 0, iv 0, .unset, .unset] [(.int 0)]) _ _ _
      refine zistore X100 hx hby at_134 (L' := #[iv p1, iv p2, iv 2, iv 0, rv b89, iv 0, iv 0, iv 0, iv 0, .unset]) rfl (ziloadN X100 hx hby at_136 rfl (zifNo X100 hx hby at_137 (by decide) (ziloadN X100 hx hby at_140 rfl (ziloadN X100 hx hby at_141 rfl (zicmpYes X100 hx hby at_142 149 (by decide) (by decide) (by decide) (ziconst X100 hx hby at_149 (z := (0 : Int32)) rfl (zistore X100 hx hby at_150 (L' := #[iv p1, iv p2, iv 2, iv 0, rv b89, iv 0, iv 0, iv 0, iv 0, iv 0]) rfl (ziload X100 hx hby at_152 rfl (ziload X100 hx hby at_154 rfl ?_)))))))))
      show zEnds p e below s T100 (mkF m 156 #[iv p1, iv p2, iv 2, iv 0, rv b89, iv 0, iv 0, iv 0, iv 0, iv 0] [(.int 0), (.int 0)]) _ _ _
      refine zicmpNo X100 hx hby at_156 (by decide) (ziload X100 hx hby at_159 rfl (zifNo X100 hx hby at_161 (by decide) (ziload X100 hx hby at_164 rfl (ziload X100 hx hby at_166 rfl (zicmpNo X100 hx hby at_168 (by decide) (ziconst X100 hx hby at_171 (z := (1 : Int32)) rfl (zgoto X100 hx hby at_172 176 (by decide) (by decide) ?_)))))))
      show zEnds p e below s T100 (mkF m 176 #[iv p1, iv p2, iv 2, iv 0, rv b89, iv 0, iv 0, iv 0, iv 0, iv 0] [(.int 1)]) _ _ _
      exact zretZ X100 hx hby at_176 hret hlk (by simp) rfl (by decide) (by decide) ⟨rfl, N99⟩
    · rw [q88]
      refine zistoreN X0 hx hby at_7 (L' := #[iv p1, iv p2, iv 2, iv 1, .unset, .unset, .unset, .unset, .unset, .unset]) rfl (znewobj X0 hx hby at_8 hZ hown (w0 hw) (w1 hw) (w2 hw) e0 (by decide) (by decide) fun T101 h101 b101 X101 e101 y101 Ex101 E101_b101 D101 => ?_)
      have O101 := O0.ext Ex101
      have K101 := Keep.ext K0 Ex101
      have g101 : n0 ≤ b101 := by rw [y101]; exact Nat.le_trans Z0 K0.1
      have z101 : h0.size ≤ b101 := by rw [y101]; exact K0.1
      have F101_b101_left : Fld Z h101 b101 "heapglass/core/wire/Allowance" "left" "J" (.long 0) := D101 (Or.inl (w11 hw)) (ty := .long) (by decide)
      refine zdup X101 hx hby at_11 rfl (zcallsp X101 hx hby at_12 hZ hown rfl (w3 hw) (w4 hw) (w5 hw) (w2 hw) e101 (c1_init l hw [] ⟨S_w_STEP, S_w_PAUSE, E_w_STEP, E_w_PAUSE, F_w_STEP_ordinal, F_w_PAUSE_ordinal, S_w_arr0, A_w_arr0, A_w_arr0_1, A_w_arr0_0, A_w_arr0_2⟩ O101 (Nat.le_trans Z0 K101.1) b101 g101 E101_b101 F101_b101_left) (by decide) (by rw [hml]; rfl) 1 (Nat.le_of_eq rfl) (by decide) (by decide) (by decide) (by decide) pd_0 rfl (argsL := []) (st := [(.ref b101)]) rfl fun T102 h102 v102 L102 e102 X102 q102 => ?_)
      obtain ⟨rfl, N102q, K102q, E102_b101, F102_b101_left⟩ := q102
      have O102 := O101.keep K102q (allS g101 all0)
      have K102 := Keep.trans K101 K102q (allS (Or.inr z101) all0)
      have N102 := Fr.app N0 N102q
      show zEnds p e below s T102 (mkF m 15 #[iv p1, iv p2, iv 2, iv 1, .unset, .unset, .unset, .unset, .unset, .unset] [(.ref b101)]) _ _ _
      refine zastore X102 hx hby at_15 (hv := rfl) (L' := #[iv p1, iv p2, iv 2, iv 1, rv b101, .unset, .unset, .unset, .unset, .unset]) rfl (ziloadN X102 hx hby at_17 rfl (ziconst X102 hx hby at_18 (z := (1 : Int32)) rfl (zicmpNo X102 hx hby at_19 (by decide) (zaload X102 hx hby at_22 rfl rfl (zgetstat X102 hx hby at_24 hZ hown (host := "") (Or.inl (w42 hw)) Via.refl e102 (S_w_PAUSE.ext O102.2) fun T103 X103 e103 => (zcallv X103 hx hby at_27 hZ hown (w25 hw) (w26 hw) (notFace_of_selects (args := #[]) (mvT hZ (w28 hw))) (w28 hw) (w27 hw) (w29 hw) (w2 hw) e103 E102_b101 (c17_obey l hw [] ⟨S_w_STEP, S_w_PAUSE, E_w_STEP, E_w_PAUSE, F_w_STEP_ordinal, F_w_PAUSE_ordinal, S_w_arr0, A_w_arr0, A_w_arr0_1, A_w_arr0_0, A_w_arr0_2⟩ O102 (Nat.le_trans Z0 K102.1) b101 g101 E102_b101 F102_b101_left) (by decide) (by rw [hml]; rfl) 0 (Nat.le_of_eq rfl) (by decide) (by decide) (by decide) (by decide) pd_3 rfl (argsL := [(.ref w_PAUSE)]) (st := []) rfl fun T104 h104 v104 L104 e104 X104 q104 => ?_))))))
      obtain ⟨rfl, N104q, K104q, E104_b101, F104_b101_left⟩ := q104
      have O104 := O102.keep K104q (allS g101 all0)
      have K104 := Keep.trans K102 K104q (allS (Or.inr z101) all0)
      have N104 := Fr.app N102 N104q
      show zEnds p e below s T104 (mkF m 30 #[iv p1, iv p2, iv 2, iv 1, rv b101, .unset, .unset, .unset, .unset, .unset] []) _ _ _
      refine ziloadN X104 hx hby at_30 rfl (ziconst X104 hx hby at_31 (z := (2 : Int32)) rfl (zicmpNo X104 hx hby at_32 (by decide) (zaload X104 hx hby at_35 rfl rfl (zgetstat X104 hx hby at_37 hZ hown (host := "") (Or.inl (w22 hw)) Via.refl e104 (S_w_STEP.ext O104.2) fun T105 X105 e105 => (zcallv X105 hx hby at_40 hZ hown (w25 hw) (w26 hw) (notFace_of_selects (args := #[]) (mvT hZ (w28 hw))) (w28 hw) (w27 hw) (w29 hw) (w2 hw) e105 E104_b101 (c23_obey l hw [] ⟨S_w_STEP, S_w_PAUSE, E_w_STEP, E_w_PAUSE, F_w_STEP_ordinal, F_w_PAUSE_ordinal, S_w_arr0, A_w_arr0, A_w_arr0_1, A_w_arr0_0, A_w_arr0_2⟩ O104 (Nat.le_trans Z0 K104.1) b101 g101 E104_b101 F104_b101_left) (by decide) (by rw [hml]; rfl) 0 (Nat.le_of_eq rfl) (by decide) (by decide) (by decide) (by decide) pd_3 rfl (argsL := [(.ref w_STEP)]) (st := []) rfl fun T106 h106 v106 L106 e106 X106 q106 => ?_)))))
      obtain ⟨rfl, N106q, K106q, E106_b101, F106_b101_left⟩ := q106
      have O106 := O104.keep K106q (allS g101 all0)
      have K106 := Keep.trans K104 K106q (allS (Or.inr z101) all0)
      have N106 := Fr.app N104 N106q
      show zEnds p e below s T106 (mkF m 43 #[iv p1, iv p2, iv 2, iv 1, rv b101, .unset, .unset, .unset, .unset, .unset] []) _ _ _
      refine ziloadN X106 hx hby at_43 rfl (ziconst X106 hx hby at_44 (z := (3 : Int32)) rfl (zicmpYes X106 hx hby at_45 56 (by decide) (by decide) (by decide) (ziloadN X106 hx hby at_56 rfl (ziconst X106 hx hby at_57 (z := (1 : Int32)) rfl (zicmpNo X106 hx hby at_58 (by decide) (zaload X106 hx hby at_61 rfl rfl (zcallv X106 hx hby at_63 hZ hown (w12 hw) (w13 hw) (notFace_of_selects (args := #[]) (mvT hZ (w15 hw))) (w15 hw) (w14 hw) (w16 hw) (w2 hw) e106 E106_b101 (c27_spend l hw [] ⟨S_w_STEP, S_w_PAUSE, E_w_STEP, E_w_PAUSE, F_w_STEP_ordinal, F_w_PAUSE_ordinal, S_w_arr0, A_w_arr0, A_w_arr0_1, A_w_arr0_0, A_w_arr0_2⟩ O106 (Nat.le_trans Z0 K106.1) b101 g101 E106_b101 F106_b101_left) (by decide) (by rw [hml]; rfl) 0 (Nat.le_of_eq rfl) (by decide) (by decide) (by decide) (by decide) pd_0 rfl (argsL := []) (st := []) rfl fun T107 h107 v107 L107 e107 X107 q107 => ?_)))))))
      obtain ⟨rfl, N107q, K107q, E107_b101, F107_b101_left⟩ := q107
      have O107 := O106.keep K107q (allS g101 all0)
      have K107 := Keep.trans K106 K107q (allS (Or.inr z101) all0)
      have N107 := Fr.app N106 N107q
      show zEnds p e below s T107 (mkF m 66 #[iv p1, iv p2, iv 2, iv 1, rv b101, .unset, .unset, .unset, .unset, .unset] []) _ _ _
      refine ziloadN X107 hx hby at_66 rfl (ziconst X107 hx hby at_67 (z := (2 : Int32)) rfl (zicmpYes X107 hx hby at_68 76 (by decide) (by decide) (by decide) (ziloadN X107 hx hby at_76 rfl (ziconst X107 hx hby at_77 (z := (3 : Int32)) rfl (zicmpYes X107 hx hby at_78 86 (by decide) (by decide) (by decide) (zaload X107 hx hby at_86 rfl rfl (zcallv X107 hx hby at_88 hZ hown (w17 hw) (w18 hw) (notFace_of_selects (args := #[]) (mvT hZ (w20 hw))) (w20 hw) (w19 hw) (w21 hw) (w2 hw) e107 E107_b101 (c9_isSpent l hw [] ⟨S_w_STEP, S_w_PAUSE, E_w_STEP, E_w_PAUSE, F_w_STEP_ordinal, F_w_PAUSE_ordinal, S_w_arr0, A_w_arr0, A_w_arr0_1, A_w_arr0_0, A_w_arr0_2⟩ O107 (Nat.le_trans Z0 K107.1) b101 g101 E107_b101 F107_b101_left) (by decide) (by rw [hml]; rfl) 0 (Nat.le_of_eq rfl) (by decide) (by decide) (by decide) (by decide) pd_1 rfl (argsL := []) (st := []) rfl (zpureK ⟨rfl, rfl⟩ fun T108 X108 e108 => ?_))))))))
      show zEnds p e below s T108 (mkF m 91 #[iv p1, iv p2, iv 2, iv 1, rv b101, .unset, .unset, .unset, .unset, .unset] [(.int 0)]) _ _ _
      refine zistore X108 hx hby at_91 (L' := #[iv p1, iv p2, iv 2, iv 1, rv b101, iv 0, .unset, .unset, .unset, .unset]) rfl (ziloadN X108 hx hby at_93 rfl (zifNo X108 hx hby at_94 (by decide) (ziloadN X108 hx hby at_97 rfl (ziloadN X108 hx hby at_98 rfl (zicmpYes X108 hx hby at_99 106 (by decide) (by decide) (by decide) (ziconst X108 hx hby at_106 (z := (0 : Int32)) rfl (zistore X108 hx hby at_107 (L' := #[iv p1, iv p2, iv 2, iv 1, rv b101, iv 0, iv 0, .unset, .unset, .unset]) rfl (zaload X108 hx hby at_109 rfl rfl (zgetstat X108 hx hby at_111 hZ hown (host := "") (Or.inl (w22 hw)) Via.refl e108 (S_w_STEP.ext O107.2) fun T109 X109 e109 => ?_)))))))))
      show zEnds p e below s T109 (mkF m 114 #[iv p1, iv p2, iv 2, iv 1, rv b101, iv 0, iv 0, .unset, .unset, .unset] [(.ref w_STEP), (.ref b101)]) _ _ _
      refine zcallv X109 hx hby at_114 hZ hown (w25 hw) (w26 hw) (notFace_of_selects (args := #[]) (mvT hZ (w28 hw))) (w28 hw) (w27 hw) (w29 hw) (w2 hw) e109 E107_b101 (c23_obey l hw [] ⟨S_w_STEP, S_w_PAUSE, E_w_STEP, E_w_PAUSE, F_w_STEP_ordinal, F_w_PAUSE_ordinal, S_w_arr0, A_w_arr0, A_w_arr0_1, A_w_arr0_0, A_w_arr0_2⟩ O107 (Nat.le_trans Z0 K107.1) b101 g101 E107_b101 F107_b101_left) (by decide) (by rw [hml]; rfl) 0 (Nat.le_of_eq rfl) (by decide) (by decide) (by decide) (by decide) pd_3 rfl (argsL := [(.ref w_STEP)]) (st := []) rfl fun T110 h110 v110 L110 e110 X110 q110 => ?_
      obtain ⟨rfl, N110q, K110q, E110_b101, F110_b101_left⟩ := q110
      have O110 := O107.keep K110q (allS g101 all0)
      have K110 := Keep.trans K107 K110q (allS (Or.inr z101) all0)
      have N110 := Fr.app N107 N110q
      show zEnds p e below s T110 (mkF m 117 #[iv p1, iv p2, iv 2, iv 1, rv b101, iv 0, iv 0, .unset, .unset, .unset] []) _ _ _
      refine zaload X110 hx hby at_117 rfl rfl (zcallv X110 hx hby at_119 hZ hown (w17 hw) (w18 hw) (notFace_of_selects (args := #[]) (mvT hZ (w20 hw))) (w20 hw) (w19 hw) (w21 hw) (w2 hw) e110 E110_b101 (c25_isSpent l hw [] ⟨S_w_STEP, S_w_PAUSE, E_w_STEP, E_w_PAUSE, F_w_STEP_ordinal, F_w_PAUSE_ordinal, S_w_arr0, A_w_arr0, A_w_arr0_1, A_w_arr0_0, A_w_arr0_2⟩ O110 (Nat.le_trans Z0 K110.1) b101 g101 E110_b101 F110_b101_left) (by decide) (by rw [hml]; rfl) 0 (Nat.le_of_eq rfl) (by decide) (by decide) (by decide) (by decide) pd_1 rfl (argsL := []) (st := []) rfl (zpureK ⟨rfl, rfl⟩ fun T111 X111 e111 => ?_))
      show zEnds p e below s T111 (mkF m 122 #[iv p1, iv p2, iv 2, iv 1, rv b101, iv 0, iv 0, .unset, .unset, .unset] [(.int 0)]) _ _ _
      refine zistore X111 hx hby at_122 (L' := #[iv p1, iv p2, iv 2, iv 1, rv b101, iv 0, iv 0, iv 0, .unset, .unset]) rfl (zaload X111 hx hby at_124 rfl rfl (zcallv X111 hx hby at_126 hZ hown (w12 hw) (w13 hw) (notFace_of_selects (args := #[]) (mvT hZ (w15 hw))) (w15 hw) (w14 hw) (w16 hw) (w2 hw) e111 E110_b101 (c27_spend l hw [] ⟨S_w_STEP, S_w_PAUSE, E_w_STEP, E_w_PAUSE, F_w_STEP_ordinal, F_w_PAUSE_ordinal, S_w_arr0, A_w_arr0, A_w_arr0_1, A_w_arr0_0, A_w_arr0_2⟩ O110 (Nat.le_trans Z0 K110.1) b101 g101 E110_b101 F110_b101_left) (by decide) (by rw [hml]; rfl) 0 (Nat.le_of_eq rfl) (by decide) (by decide) (by decide) (by decide) pd_0 rfl (argsL := []) (st := []) rfl fun T112 h112 v112 L112 e112 X112 q112 => ?_))
      obtain ⟨rfl, N112q, K112q, E112_b101, F112_b101_left⟩ := q112
      have O112 := O110.keep K112q (allS g101 all0)
      have K112 := Keep.trans K110 K112q (allS (Or.inr z101) all0)
      have N112 := Fr.app N110 N112q
      show zEnds p e below s T112 (mkF m 129 #[iv p1, iv p2, iv 2, iv 1, rv b101, iv 0, iv 0, iv 0, .unset, .unset] []) _ _ _
      refine zaload X112 hx hby at_129 rfl rfl (zcallv X112 hx hby at_131 hZ hown (w17 hw) (w18 hw) (notFace_of_selects (args := #[]) (mvT hZ (w20 hw))) (w20 hw) (w19 hw) (w21 hw) (w2 hw) e112 E112_b101 (c9_isSpent l hw [] ⟨S_w_STEP, S_w_PAUSE, E_w_STEP, E_w_PAUSE, F_w_STEP_ordinal, F_w_PAUSE_ordinal, S_w_arr0, A_w_arr0, A_w_arr0_1, A_w_arr0_0, A_w_arr0_2⟩ O112 (Nat.le_trans Z0 K112.1) b101 g101 E112_b101 F112_b101_left) (by decide) (by rw [hml]; rfl) 0 (Nat.le_of_eq rfl) (by decide) (by decide) (by decide) (by decide) pd_1 rfl (argsL := []) (st := []) rfl (zpureK ⟨rfl, rfl⟩ fun T113 X113 e113 => ?_))
      show zEnds p e below s T113 (mkF m 134 #[iv p1, iv p2, iv 2, iv 1, rv b101, iv 0, iv 0, iv 0, .unset, .unset] [(.int 0)]) _ _ _
      refine zistore X113 hx hby at_134 (L' := #[iv p1, iv p2, iv 2, iv 1, rv b101, iv 0, iv 0, iv 0, iv 0, .unset]) rfl (ziloadN X113 hx hby at_136 rfl (zifNo X113 hx hby at_137 (by decide) (ziloadN X113 hx hby at_140 rfl (ziloadN X113 hx hby at_141 rfl (zicmpYes X113 hx hby at_142 149 (by decide) (by decide) (by decide) (ziconst X113 hx hby at_149 (z := (0 : Int32)) rfl (zistore X113 hx hby at_150 (L' := #[iv p1, iv p2, iv 2, iv 1, rv b101, iv 0, iv 0, iv 0, iv 0, iv 0]) rfl (ziload X113 hx hby at_152 rfl (ziload X113 hx hby at_154 rfl ?_)))))))))
      show zEnds p e below s T113 (mkF m 156 #[iv p1, iv p2, iv 2, iv 1, rv b101, iv 0, iv 0, iv 0, iv 0, iv 0] [(.int 0), (.int 0)]) _ _ _
      refine zicmpNo X113 hx hby at_156 (by decide) (ziload X113 hx hby at_159 rfl (zifNo X113 hx hby at_161 (by decide) (ziload X113 hx hby at_164 rfl (ziload X113 hx hby at_166 rfl (zicmpNo X113 hx hby at_168 (by decide) (ziconst X113 hx hby at_171 (z := (1 : Int32)) rfl (zgoto X113 hx hby at_172 176 (by decide) (by decide) ?_)))))))
      show zEnds p e below s T113 (mkF m 176 #[iv p1, iv p2, iv 2, iv 1, rv b101, iv 0, iv 0, iv 0, iv 0, iv 0] [(.int 1)]) _ _ _
      exact zretZ X113 hx hby at_176 hret hlk (by simp) rfl (by decide) (by decide) ⟨rfl, N112⟩
    · rw [q88]
      refine zistoreN X0 hx hby at_7 (L' := #[iv p1, iv p2, iv 2, iv 2, .unset, .unset, .unset, .unset, .unset, .unset]) rfl (znewobj X0 hx hby at_8 hZ hown (w0 hw) (w1 hw) (w2 hw) e0 (by decide) (by decide) fun T114 h114 b114 X114 e114 y114 Ex114 E114_b114 D114 => ?_)
      have O114 := O0.ext Ex114
      have K114 := Keep.ext K0 Ex114
      have g114 : n0 ≤ b114 := by rw [y114]; exact Nat.le_trans Z0 K0.1
      have z114 : h0.size ≤ b114 := by rw [y114]; exact K0.1
      have F114_b114_left : Fld Z h114 b114 "heapglass/core/wire/Allowance" "left" "J" (.long 0) := D114 (Or.inl (w11 hw)) (ty := .long) (by decide)
      refine zdup X114 hx hby at_11 rfl (zcallsp X114 hx hby at_12 hZ hown rfl (w3 hw) (w4 hw) (w5 hw) (w2 hw) e114 (c1_init l hw [] ⟨S_w_STEP, S_w_PAUSE, E_w_STEP, E_w_PAUSE, F_w_STEP_ordinal, F_w_PAUSE_ordinal, S_w_arr0, A_w_arr0, A_w_arr0_1, A_w_arr0_0, A_w_arr0_2⟩ O114 (Nat.le_trans Z0 K114.1) b114 g114 E114_b114 F114_b114_left) (by decide) (by rw [hml]; rfl) 1 (Nat.le_of_eq rfl) (by decide) (by decide) (by decide) (by decide) pd_0 rfl (argsL := []) (st := [(.ref b114)]) rfl fun T115 h115 v115 L115 e115 X115 q115 => ?_)
      obtain ⟨rfl, N115q, K115q, E115_b114, F115_b114_left⟩ := q115
      have O115 := O114.keep K115q (allS g114 all0)
      have K115 := Keep.trans K114 K115q (allS (Or.inr z114) all0)
      have N115 := Fr.app N0 N115q
      show zEnds p e below s T115 (mkF m 15 #[iv p1, iv p2, iv 2, iv 2, .unset, .unset, .unset, .unset, .unset, .unset] [(.ref b114)]) _ _ _
      refine zastore X115 hx hby at_15 (hv := rfl) (L' := #[iv p1, iv p2, iv 2, iv 2, rv b114, .unset, .unset, .unset, .unset, .unset]) rfl (ziloadN X115 hx hby at_17 rfl (ziconst X115 hx hby at_18 (z := (1 : Int32)) rfl (zicmpNo X115 hx hby at_19 (by decide) (zaload X115 hx hby at_22 rfl rfl (zgetstat X115 hx hby at_24 hZ hown (host := "") (Or.inl (w42 hw)) Via.refl e115 (S_w_PAUSE.ext O115.2) fun T116 X116 e116 => (zcallv X116 hx hby at_27 hZ hown (w25 hw) (w26 hw) (notFace_of_selects (args := #[]) (mvT hZ (w28 hw))) (w28 hw) (w27 hw) (w29 hw) (w2 hw) e116 E115_b114 (c17_obey l hw [] ⟨S_w_STEP, S_w_PAUSE, E_w_STEP, E_w_PAUSE, F_w_STEP_ordinal, F_w_PAUSE_ordinal, S_w_arr0, A_w_arr0, A_w_arr0_1, A_w_arr0_0, A_w_arr0_2⟩ O115 (Nat.le_trans Z0 K115.1) b114 g114 E115_b114 F115_b114_left) (by decide) (by rw [hml]; rfl) 0 (Nat.le_of_eq rfl) (by decide) (by decide) (by decide) (by decide) pd_3 rfl (argsL := [(.ref w_PAUSE)]) (st := []) rfl fun T117 h117 v117 L117 e117 X117 q117 => ?_))))))
      obtain ⟨rfl, N117q, K117q, E117_b114, F117_b114_left⟩ := q117
      have O117 := O115.keep K117q (allS g114 all0)
      have K117 := Keep.trans K115 K117q (allS (Or.inr z114) all0)
      have N117 := Fr.app N115 N117q
      show zEnds p e below s T117 (mkF m 30 #[iv p1, iv p2, iv 2, iv 2, rv b114, .unset, .unset, .unset, .unset, .unset] []) _ _ _
      refine ziloadN X117 hx hby at_30 rfl (ziconst X117 hx hby at_31 (z := (2 : Int32)) rfl (zicmpNo X117 hx hby at_32 (by decide) (zaload X117 hx hby at_35 rfl rfl (zgetstat X117 hx hby at_37 hZ hown (host := "") (Or.inl (w22 hw)) Via.refl e117 (S_w_STEP.ext O117.2) fun T118 X118 e118 => (zcallv X118 hx hby at_40 hZ hown (w25 hw) (w26 hw) (notFace_of_selects (args := #[]) (mvT hZ (w28 hw))) (w28 hw) (w27 hw) (w29 hw) (w2 hw) e118 E117_b114 (c23_obey l hw [] ⟨S_w_STEP, S_w_PAUSE, E_w_STEP, E_w_PAUSE, F_w_STEP_ordinal, F_w_PAUSE_ordinal, S_w_arr0, A_w_arr0, A_w_arr0_1, A_w_arr0_0, A_w_arr0_2⟩ O117 (Nat.le_trans Z0 K117.1) b114 g114 E117_b114 F117_b114_left) (by decide) (by rw [hml]; rfl) 0 (Nat.le_of_eq rfl) (by decide) (by decide) (by decide) (by decide) pd_3 rfl (argsL := [(.ref w_STEP)]) (st := []) rfl fun T119 h119 v119 L119 e119 X119 q119 => ?_)))))
      obtain ⟨rfl, N119q, K119q, E119_b114, F119_b114_left⟩ := q119
      have O119 := O117.keep K119q (allS g114 all0)
      have K119 := Keep.trans K117 K119q (allS (Or.inr z114) all0)
      have N119 := Fr.app N117 N119q
      show zEnds p e below s T119 (mkF m 43 #[iv p1, iv p2, iv 2, iv 2, rv b114, .unset, .unset, .unset, .unset, .unset] []) _ _ _
      refine ziloadN X119 hx hby at_43 rfl (ziconst X119 hx hby at_44 (z := (3 : Int32)) rfl (zicmpYes X119 hx hby at_45 56 (by decide) (by decide) (by decide) (ziloadN X119 hx hby at_56 rfl (ziconst X119 hx hby at_57 (z := (1 : Int32)) rfl (zicmpNo X119 hx hby at_58 (by decide) (zaload X119 hx hby at_61 rfl rfl (zcallv X119 hx hby at_63 hZ hown (w12 hw) (w13 hw) (notFace_of_selects (args := #[]) (mvT hZ (w15 hw))) (w15 hw) (w14 hw) (w16 hw) (w2 hw) e119 E119_b114 (c27_spend l hw [] ⟨S_w_STEP, S_w_PAUSE, E_w_STEP, E_w_PAUSE, F_w_STEP_ordinal, F_w_PAUSE_ordinal, S_w_arr0, A_w_arr0, A_w_arr0_1, A_w_arr0_0, A_w_arr0_2⟩ O119 (Nat.le_trans Z0 K119.1) b114 g114 E119_b114 F119_b114_left) (by decide) (by rw [hml]; rfl) 0 (Nat.le_of_eq rfl) (by decide) (by decide) (by decide) (by decide) pd_0 rfl (argsL := []) (st := []) rfl fun T120 h120 v120 L120 e120 X120 q120 => ?_)))))))
      obtain ⟨rfl, N120q, K120q, E120_b114, F120_b114_left⟩ := q120
      have O120 := O119.keep K120q (allS g114 all0)
      have K120 := Keep.trans K119 K120q (allS (Or.inr z114) all0)
      have N120 := Fr.app N119 N120q
      show zEnds p e below s T120 (mkF m 66 #[iv p1, iv p2, iv 2, iv 2, rv b114, .unset, .unset, .unset, .unset, .unset] []) _ _ _
      refine ziloadN X120 hx hby at_66 rfl (ziconst X120 hx hby at_67 (z := (2 : Int32)) rfl (zicmpNo X120 hx hby at_68 (by decide) (zaload X120 hx hby at_71 rfl rfl (zcallv X120 hx hby at_73 hZ hown (w12 hw) (w13 hw) (notFace_of_selects (args := #[]) (mvT hZ (w15 hw))) (w15 hw) (w14 hw) (w16 hw) (w2 hw) e120 E120_b114 (c11_spend l hw [] ⟨S_w_STEP, S_w_PAUSE, E_w_STEP, E_w_PAUSE, F_w_STEP_ordinal, F_w_PAUSE_ordinal, S_w_arr0, A_w_arr0, A_w_arr0_1, A_w_arr0_0, A_w_arr0_2⟩ O120 (Nat.le_trans Z0 K120.1) b114 g114 E120_b114 F120_b114_left) (by decide) (by rw [hml]; rfl) 0 (Nat.le_of_eq rfl) (by decide) (by decide) (by decide) (by decide) pd_0 rfl (argsL := []) (st := []) rfl fun T121 h121 v121 L121 e121 X121 q121 => ?_))))
      obtain ⟨rfl, N121q, K121q, E121_b114, F121_b114_left⟩ := q121
      have O121 := O120.keep K121q (allS g114 all0)
      have K121 := Keep.trans K120 K121q (allS (Or.inr z114) all0)
      have N121 := Fr.app N120 N121q
      show zEnds p e below s T121 (mkF m 76 #[iv p1, iv p2, iv 2, iv 2, rv b114, .unset, .unset, .unset, .unset, .unset] []) _ _ _
      refine ziloadN X121 hx hby at_76 rfl (ziconst X121 hx hby at_77 (z := (3 : Int32)) rfl (zicmpYes X121 hx hby at_78 86 (by decide) (by decide) (by decide) (zaload X121 hx hby at_86 rfl rfl (zcallv X121 hx hby at_88 hZ hown (w17 hw) (w18 hw) (notFace_of_selects (args := #[]) (mvT hZ (w20 hw))) (w20 hw) (w19 hw) (w21 hw) (w2 hw) e121 E121_b114 (c13_isSpent l hw [] ⟨S_w_STEP, S_w_PAUSE, E_w_STEP, E_w_PAUSE, F_w_STEP_ordinal, F_w_PAUSE_ordinal, S_w_arr0, A_w_arr0, A_w_arr0_1, A_w_arr0_0, A_w_arr0_2⟩ O121 (Nat.le_trans Z0 K121.1) b114 g114 E121_b114 F121_b114_left) (by decide) (by rw [hml]; rfl) 0 (Nat.le_of_eq rfl) (by decide) (by decide) (by decide) (by decide) pd_1 rfl (argsL := []) (st := []) rfl (zpureK ⟨rfl, rfl⟩ fun T122 X122 e122 => ?_)))))
      show zEnds p e below s T122 (mkF m 91 #[iv p1, iv p2, iv 2, iv 2, rv b114, .unset, .unset, .unset, .unset, .unset] [(.int 1)]) _ _ _
      refine zistore X122 hx hby at_91 (L' := #[iv p1, iv p2, iv 2, iv 2, rv b114, iv 1, .unset, .unset, .unset, .unset]) rfl (ziloadN X122 hx hby at_93 rfl (zifNo X122 hx hby at_94 (by decide) (ziloadN X122 hx hby at_97 rfl (ziloadN X122 hx hby at_98 rfl (zicmpNo X122 hx hby at_99 (by decide) (ziconst X122 hx hby at_102 (z := (1 : Int32)) rfl (zgoto X122 hx hby at_103 107 (by decide) (by decide) (zistore X122 hx hby at_107 (L' := #[iv p1, iv p2, iv 2, iv 2, rv b114, iv 1, iv 1, .unset, .unset, .unset]) rfl (zaload X122 hx hby at_109 rfl rfl ?_)))))))))
      show zEnds p e below s T122 (mkF m 111 #[iv p1, iv p2, iv 2, iv 2, rv b114, iv 1, iv 1, .unset, .unset, .unset] [(.ref b114)]) _ _ _
      refine zgetstat X122 hx hby at_111 hZ hown (host := "") (Or.inl (w22 hw)) Via.refl e122 (S_w_STEP.ext O121.2) fun T123 X123 e123 => (zcallv X123 hx hby at_114 hZ hown (w25 hw) (w26 hw) (notFace_of_selects (args := #[]) (mvT hZ (w28 hw))) (w28 hw) (w27 hw) (w29 hw) (w2 hw) e123 E121_b114 (c29_obey l hw [] ⟨S_w_STEP, S_w_PAUSE, E_w_STEP, E_w_PAUSE, F_w_STEP_ordinal, F_w_PAUSE_ordinal, S_w_arr0, A_w_arr0, A_w_arr0_1, A_w_arr0_0, A_w_arr0_2⟩ O121 (Nat.le_trans Z0 K121.1) b114 g114 E121_b114 F121_b114_left) (by decide) (by rw [hml]; rfl) 0 (Nat.le_of_eq rfl) (by decide) (by decide) (by decide) (by decide) pd_3 rfl (argsL := [(.ref w_STEP)]) (st := []) rfl fun T124 h124 v124 L124 e124 X124 q124 => ?_)
      obtain ⟨rfl, N124q, K124q, E124_b114, F124_b114_left⟩ := q124
      have O124 := O121.keep K124q (allS g114 all0)
      have K124 := Keep.trans K121 K124q (allS (Or.inr z114) all0)
      have N124 := Fr.app N121 N124q
      show zEnds p e below s T124 (mkF m 117 #[iv p1, iv p2, iv 2, iv 2, rv b114, iv 1, iv 1, .unset, .unset, .unset] []) _ _ _
      refine zaload X124 hx hby at_117 rfl rfl (zcallv X124 hx hby at_119 hZ hown (w17 hw) (w18 hw) (notFace_of_selects (args := #[]) (mvT hZ (w20 hw))) (w20 hw) (w19 hw) (w21 hw) (w2 hw) e124 E124_b114 (c9_isSpent l hw [] ⟨S_w_STEP, S_w_PAUSE, E_w_STEP, E_w_PAUSE, F_w_STEP_ordinal, F_w_PAUSE_ordinal, S_w_arr0, A_w_arr0, A_w_arr0_1, A_w_arr0_0, A_w_arr0_2⟩ O124 (Nat.le_trans Z0 K124.1) b114 g114 E124_b114 F124_b114_left) (by decide) (by rw [hml]; rfl) 0 (Nat.le_of_eq rfl) (by decide) (by decide) (by decide) (by decide) pd_1 rfl (argsL := []) (st := []) rfl (zpureK ⟨rfl, rfl⟩ fun T125 X125 e125 => ?_))
      show zEnds p e below s T125 (mkF m 122 #[iv p1, iv p2, iv 2, iv 2, rv b114, iv 1, iv 1, .unset, .unset, .unset] [(.int 0)]) _ _ _
      refine zistore X125 hx hby at_122 (L' := #[iv p1, iv p2, iv 2, iv 2, rv b114, iv 1, iv 1, iv 0, .unset, .unset]) rfl (zaload X125 hx hby at_124 rfl rfl (zcallv X125 hx hby at_126 hZ hown (w12 hw) (w13 hw) (notFace_of_selects (args := #[]) (mvT hZ (w15 hw))) (w15 hw) (w14 hw) (w16 hw) (w2 hw) e125 E124_b114 (c11_spend l hw [] ⟨S_w_STEP, S_w_PAUSE, E_w_STEP, E_w_PAUSE, F_w_STEP_ordinal, F_w_PAUSE_ordinal, S_w_arr0, A_w_arr0, A_w_arr0_1, A_w_arr0_0, A_w_arr0_2⟩ O124 (Nat.le_trans Z0 K124.1) b114 g114 E124_b114 F124_b114_left) (by decide) (by rw [hml]; rfl) 0 (Nat.le_of_eq rfl) (by decide) (by decide) (by decide) (by decide) pd_0 rfl (argsL := []) (st := []) rfl fun T126 h126 v126 L126 e126 X126 q126 => ?_))
      obtain ⟨rfl, N126q, K126q, E126_b114, F126_b114_left⟩ := q126
      have O126 := O124.keep K126q (allS g114 all0)
      have K126 := Keep.trans K124 K126q (allS (Or.inr z114) all0)
      have N126 := Fr.app N124 N126q
      show zEnds p e below s T126 (mkF m 129 #[iv p1, iv p2, iv 2, iv 2, rv b114, iv 1, iv 1, iv 0, .unset, .unset] []) _ _ _
      refine zaload X126 hx hby at_129 rfl rfl (zcallv X126 hx hby at_131 hZ hown (w17 hw) (w18 hw) (notFace_of_selects (args := #[]) (mvT hZ (w20 hw))) (w20 hw) (w19 hw) (w21 hw) (w2 hw) e126 E126_b114 (c13_isSpent l hw [] ⟨S_w_STEP, S_w_PAUSE, E_w_STEP, E_w_PAUSE, F_w_STEP_ordinal, F_w_PAUSE_ordinal, S_w_arr0, A_w_arr0, A_w_arr0_1, A_w_arr0_0, A_w_arr0_2⟩ O126 (Nat.le_trans Z0 K126.1) b114 g114 E126_b114 F126_b114_left) (by decide) (by rw [hml]; rfl) 0 (Nat.le_of_eq rfl) (by decide) (by decide) (by decide) (by decide) pd_1 rfl (argsL := []) (st := []) rfl (zpureK ⟨rfl, rfl⟩ fun T127 X127 e127 => ?_))
      show zEnds p e below s T127 (mkF m 134 #[iv p1, iv p2, iv 2, iv 2, rv b114, iv 1, iv 1, iv 0, .unset, .unset] [(.int 1)]) _ _ _
      refine zistore X127 hx hby at_134 (L' := #[iv p1, iv p2, iv 2, iv 2, rv b114, iv 1, iv 1, iv 0, iv 1, .unset]) rfl (ziloadN X127 hx hby at_136 rfl (zifNo X127 hx hby at_137 (by decide) (ziloadN X127 hx hby at_140 rfl (ziloadN X127 hx hby at_141 rfl (zicmpNo X127 hx hby at_142 (by decide) (ziconst X127 hx hby at_145 (z := (1 : Int32)) rfl (zgoto X127 hx hby at_146 150 (by decide) (by decide) (zistore X127 hx hby at_150 (L' := #[iv p1, iv p2, iv 2, iv 2, rv b114, iv 1, iv 1, iv 0, iv 1, iv 1]) rfl (ziload X127 hx hby at_152 rfl ?_)))))))))
      show zEnds p e below s T127 (mkF m 154 #[iv p1, iv p2, iv 2, iv 2, rv b114, iv 1, iv 1, iv 0, iv 1, iv 1] [(.int 1)]) _ _ _
      refine ziload X127 hx hby at_154 rfl (zicmpNo X127 hx hby at_156 (by decide) (ziload X127 hx hby at_159 rfl (zifNo X127 hx hby at_161 (by decide) (ziload X127 hx hby at_164 rfl (ziload X127 hx hby at_166 rfl (zicmpNo X127 hx hby at_168 (by decide) (ziconst X127 hx hby at_171 (z := (1 : Int32)) rfl (zgoto X127 hx hby at_172 176 (by decide) (by decide) ?_))))))))
      show zEnds p e below s T127 (mkF m 176 #[iv p1, iv p2, iv 2, iv 2, rv b114, iv 1, iv 1, iv 0, iv 1, iv 1] [(.int 1)]) _ _ _
      exact zretZ X127 hx hby at_176 hret hlk (by simp) rfl (by decide) (by decide) ⟨rfl, N126⟩
    · rw [q88]
      refine zistoreN X0 hx hby at_7 (L' := #[iv p1, iv p2, iv 2, iv 3, .unset, .unset, .unset, .unset, .unset, .unset]) rfl (znewobj X0 hx hby at_8 hZ hown (w0 hw) (w1 hw) (w2 hw) e0 (by decide) (by decide) fun T128 h128 b128 X128 e128 y128 Ex128 E128_b128 D128 => ?_)
      have O128 := O0.ext Ex128
      have K128 := Keep.ext K0 Ex128
      have g128 : n0 ≤ b128 := by rw [y128]; exact Nat.le_trans Z0 K0.1
      have z128 : h0.size ≤ b128 := by rw [y128]; exact K0.1
      have F128_b128_left : Fld Z h128 b128 "heapglass/core/wire/Allowance" "left" "J" (.long 0) := D128 (Or.inl (w11 hw)) (ty := .long) (by decide)
      refine zdup X128 hx hby at_11 rfl (zcallsp X128 hx hby at_12 hZ hown rfl (w3 hw) (w4 hw) (w5 hw) (w2 hw) e128 (c1_init l hw [] ⟨S_w_STEP, S_w_PAUSE, E_w_STEP, E_w_PAUSE, F_w_STEP_ordinal, F_w_PAUSE_ordinal, S_w_arr0, A_w_arr0, A_w_arr0_1, A_w_arr0_0, A_w_arr0_2⟩ O128 (Nat.le_trans Z0 K128.1) b128 g128 E128_b128 F128_b128_left) (by decide) (by rw [hml]; rfl) 1 (Nat.le_of_eq rfl) (by decide) (by decide) (by decide) (by decide) pd_0 rfl (argsL := []) (st := [(.ref b128)]) rfl fun T129 h129 v129 L129 e129 X129 q129 => ?_)
      obtain ⟨rfl, N129q, K129q, E129_b128, F129_b128_left⟩ := q129
      have O129 := O128.keep K129q (allS g128 all0)
      have K129 := Keep.trans K128 K129q (allS (Or.inr z128) all0)
      have N129 := Fr.app N0 N129q
      show zEnds p e below s T129 (mkF m 15 #[iv p1, iv p2, iv 2, iv 3, .unset, .unset, .unset, .unset, .unset, .unset] [(.ref b128)]) _ _ _
      refine zastore X129 hx hby at_15 (hv := rfl) (L' := #[iv p1, iv p2, iv 2, iv 3, rv b128, .unset, .unset, .unset, .unset, .unset]) rfl (ziloadN X129 hx hby at_17 rfl (ziconst X129 hx hby at_18 (z := (1 : Int32)) rfl (zicmpNo X129 hx hby at_19 (by decide) (zaload X129 hx hby at_22 rfl rfl (zgetstat X129 hx hby at_24 hZ hown (host := "") (Or.inl (w42 hw)) Via.refl e129 (S_w_PAUSE.ext O129.2) fun T130 X130 e130 => (zcallv X130 hx hby at_27 hZ hown (w25 hw) (w26 hw) (notFace_of_selects (args := #[]) (mvT hZ (w28 hw))) (w28 hw) (w27 hw) (w29 hw) (w2 hw) e130 E129_b128 (c17_obey l hw [] ⟨S_w_STEP, S_w_PAUSE, E_w_STEP, E_w_PAUSE, F_w_STEP_ordinal, F_w_PAUSE_ordinal, S_w_arr0, A_w_arr0, A_w_arr0_1, A_w_arr0_0, A_w_arr0_2⟩ O129 (Nat.le_trans Z0 K129.1) b128 g128 E129_b128 F129_b128_left) (by decide) (by rw [hml]; rfl) 0 (Nat.le_of_eq rfl) (by decide) (by decide) (by decide) (by decide) pd_3 rfl (argsL := [(.ref w_PAUSE)]) (st := []) rfl fun T131 h131 v131 L131 e131 X131 q131 => ?_))))))
      obtain ⟨rfl, N131q, K131q, E131_b128, F131_b128_left⟩ := q131
      have O131 := O129.keep K131q (allS g128 all0)
      have K131 := Keep.trans K129 K131q (allS (Or.inr z128) all0)
      have N131 := Fr.app N129 N131q
      show zEnds p e below s T131 (mkF m 30 #[iv p1, iv p2, iv 2, iv 3, rv b128, .unset, .unset, .unset, .unset, .unset] []) _ _ _
      refine ziloadN X131 hx hby at_30 rfl (ziconst X131 hx hby at_31 (z := (2 : Int32)) rfl (zicmpNo X131 hx hby at_32 (by decide) (zaload X131 hx hby at_35 rfl rfl (zgetstat X131 hx hby at_37 hZ hown (host := "") (Or.inl (w22 hw)) Via.refl e131 (S_w_STEP.ext O131.2) fun T132 X132 e132 => (zcallv X132 hx hby at_40 hZ hown (w25 hw) (w26 hw) (notFace_of_selects (args := #[]) (mvT hZ (w28 hw))) (w28 hw) (w27 hw) (w29 hw) (w2 hw) e132 E131_b128 (c23_obey l hw [] ⟨S_w_STEP, S_w_PAUSE, E_w_STEP, E_w_PAUSE, F_w_STEP_ordinal, F_w_PAUSE_ordinal, S_w_arr0, A_w_arr0, A_w_arr0_1, A_w_arr0_0, A_w_arr0_2⟩ O131 (Nat.le_trans Z0 K131.1) b128 g128 E131_b128 F131_b128_left) (by decide) (by rw [hml]; rfl) 0 (Nat.le_of_eq rfl) (by decide) (by decide) (by decide) (by decide) pd_3 rfl (argsL := [(.ref w_STEP)]) (st := []) rfl fun T133 h133 v133 L133 e133 X133 q133 => ?_)))))
      obtain ⟨rfl, N133q, K133q, E133_b128, F133_b128_left⟩ := q133
      have O133 := O131.keep K133q (allS g128 all0)
      have K133 := Keep.trans K131 K133q (allS (Or.inr z128) all0)
      have N133 := Fr.app N131 N133q
      show zEnds p e below s T133 (mkF m 43 #[iv p1, iv p2, iv 2, iv 3, rv b128, .unset, .unset, .unset, .unset, .unset] []) _ _ _
      refine ziloadN X133 hx hby at_43 rfl (ziconst X133 hx hby at_44 (z := (3 : Int32)) rfl (zicmpYes X133 hx hby at_45 56 (by decide) (by decide) (by decide) (ziloadN X133 hx hby at_56 rfl (ziconst X133 hx hby at_57 (z := (1 : Int32)) rfl (zicmpNo X133 hx hby at_58 (by decide) (zaload X133 hx hby at_61 rfl rfl (zcallv X133 hx hby at_63 hZ hown (w12 hw) (w13 hw) (notFace_of_selects (args := #[]) (mvT hZ (w15 hw))) (w15 hw) (w14 hw) (w16 hw) (w2 hw) e133 E133_b128 (c27_spend l hw [] ⟨S_w_STEP, S_w_PAUSE, E_w_STEP, E_w_PAUSE, F_w_STEP_ordinal, F_w_PAUSE_ordinal, S_w_arr0, A_w_arr0, A_w_arr0_1, A_w_arr0_0, A_w_arr0_2⟩ O133 (Nat.le_trans Z0 K133.1) b128 g128 E133_b128 F133_b128_left) (by decide) (by rw [hml]; rfl) 0 (Nat.le_of_eq rfl) (by decide) (by decide) (by decide) (by decide) pd_0 rfl (argsL := []) (st := []) rfl fun T134 h134 v134 L134 e134 X134 q134 => ?_)))))))
      obtain ⟨rfl, N134q, K134q, E134_b128, F134_b128_left⟩ := q134
      have O134 := O133.keep K134q (allS g128 all0)
      have K134 := Keep.trans K133 K134q (allS (Or.inr z128) all0)
      have N134 := Fr.app N133 N134q
      show zEnds p e below s T134 (mkF m 66 #[iv p1, iv p2, iv 2, iv 3, rv b128, .unset, .unset, .unset, .unset, .unset] []) _ _ _
      refine ziloadN X134 hx hby at_66 rfl (ziconst X134 hx hby at_67 (z := (2 : Int32)) rfl (zicmpNo X134 hx hby at_68 (by decide) (zaload X134 hx hby at_71 rfl rfl (zcallv X134 hx hby at_73 hZ hown (w12 hw) (w13 hw) (notFace_of_selects (args := #[]) (mvT hZ (w15 hw))) (w15 hw) (w14 hw) (w16 hw) (w2 hw) e134 E134_b128 (c11_spend l hw [] ⟨S_w_STEP, S_w_PAUSE, E_w_STEP, E_w_PAUSE, F_w_STEP_ordinal, F_w_PAUSE_ordinal, S_w_arr0, A_w_arr0, A_w_arr0_1, A_w_arr0_0, A_w_arr0_2⟩ O134 (Nat.le_trans Z0 K134.1) b128 g128 E134_b128 F134_b128_left) (by decide) (by rw [hml]; rfl) 0 (Nat.le_of_eq rfl) (by decide) (by decide) (by decide) (by decide) pd_0 rfl (argsL := []) (st := []) rfl fun T135 h135 v135 L135 e135 X135 q135 => ?_))))
      obtain ⟨rfl, N135q, K135q, E135_b128, F135_b128_left⟩ := q135
      have O135 := O134.keep K135q (allS g128 all0)
      have K135 := Keep.trans K134 K135q (allS (Or.inr z128) all0)
      have N135 := Fr.app N134 N135q
      show zEnds p e below s T135 (mkF m 76 #[iv p1, iv p2, iv 2, iv 3, rv b128, .unset, .unset, .unset, .unset, .unset] []) _ _ _
      refine ziloadN X135 hx hby at_76 rfl (ziconst X135 hx hby at_77 (z := (3 : Int32)) rfl (zicmpNo X135 hx hby at_78 (by decide) (zaload X135 hx hby at_81 rfl rfl (zcallv X135 hx hby at_83 hZ hown (w12 hw) (w13 hw) (notFace_of_selects (args := #[]) (mvT hZ (w15 hw))) (w15 hw) (w14 hw) (w16 hw) (w2 hw) e135 E135_b128 (c31_spend l hw [] ⟨S_w_STEP, S_w_PAUSE, E_w_STEP, E_w_PAUSE, F_w_STEP_ordinal, F_w_PAUSE_ordinal, S_w_arr0, A_w_arr0, A_w_arr0_1, A_w_arr0_0, A_w_arr0_2⟩ O135 (Nat.le_trans Z0 K135.1) b128 g128 E135_b128 F135_b128_left) (by decide) (by rw [hml]; rfl) 0 (Nat.le_of_eq rfl) (by decide) (by decide) (by decide) (by decide) pd_0 rfl (argsL := []) (st := []) rfl (zpureK ⟨rfl, rfl⟩ fun T136 X136 e136 => ?_)))))
      show zEnds p e below s T136 (mkF m 86 #[iv p1, iv p2, iv 2, iv 3, rv b128, .unset, .unset, .unset, .unset, .unset] []) _ _ _
      refine zaload X136 hx hby at_86 rfl rfl (zcallv X136 hx hby at_88 hZ hown (w17 hw) (w18 hw) (notFace_of_selects (args := #[]) (mvT hZ (w20 hw))) (w20 hw) (w19 hw) (w21 hw) (w2 hw) e136 E135_b128 (c13_isSpent l hw [] ⟨S_w_STEP, S_w_PAUSE, E_w_STEP, E_w_PAUSE, F_w_STEP_ordinal, F_w_PAUSE_ordinal, S_w_arr0, A_w_arr0, A_w_arr0_1, A_w_arr0_0, A_w_arr0_2⟩ O135 (Nat.le_trans Z0 K135.1) b128 g128 E135_b128 F135_b128_left) (by decide) (by rw [hml]; rfl) 0 (Nat.le_of_eq rfl) (by decide) (by decide) (by decide) (by decide) pd_1 rfl (argsL := []) (st := []) rfl (zpureK ⟨rfl, rfl⟩ fun T137 X137 e137 => ?_))
      show zEnds p e below s T137 (mkF m 91 #[iv p1, iv p2, iv 2, iv 3, rv b128, .unset, .unset, .unset, .unset, .unset] [(.int 1)]) _ _ _
      refine zistore X137 hx hby at_91 (L' := #[iv p1, iv p2, iv 2, iv 3, rv b128, iv 1, .unset, .unset, .unset, .unset]) rfl (ziloadN X137 hx hby at_93 rfl (zifNo X137 hx hby at_94 (by decide) (ziloadN X137 hx hby at_97 rfl (ziloadN X137 hx hby at_98 rfl (zicmpNo X137 hx hby at_99 (by decide) (ziconst X137 hx hby at_102 (z := (1 : Int32)) rfl (zgoto X137 hx hby at_103 107 (by decide) (by decide) (zistore X137 hx hby at_107 (L' := #[iv p1, iv p2, iv 2, iv 3, rv b128, iv 1, iv 1, .unset, .unset, .unset]) rfl (zaload X137 hx hby at_109 rfl rfl ?_)))))))))
      show zEnds p e below s T137 (mkF m 111 #[iv p1, iv p2, iv 2, iv 3, rv b128, iv 1, iv 1, .unset, .unset, .unset] [(.ref b128)]) _ _ _
      refine zgetstat X137 hx hby at_111 hZ hown (host := "") (Or.inl (w22 hw)) Via.refl e137 (S_w_STEP.ext O135.2) fun T138 X138 e138 => (zcallv X138 hx hby at_114 hZ hown (w25 hw) (w26 hw) (notFace_of_selects (args := #[]) (mvT hZ (w28 hw))) (w28 hw) (w27 hw) (w29 hw) (w2 hw) e138 E135_b128 (c29_obey l hw [] ⟨S_w_STEP, S_w_PAUSE, E_w_STEP, E_w_PAUSE, F_w_STEP_ordinal, F_w_PAUSE_ordinal, S_w_arr0, A_w_arr0, A_w_arr0_1, A_w_arr0_0, A_w_arr0_2⟩ O135 (Nat.le_trans Z0 K135.1) b128 g128 E135_b128 F135_b128_left) (by decide) (by rw [hml]; rfl) 0 (Nat.le_of_eq rfl) (by decide) (by decide) (by decide) (by decide) pd_3 rfl (argsL := [(.ref w_STEP)]) (st := []) rfl fun T139 h139 v139 L139 e139 X139 q139 => ?_)
      obtain ⟨rfl, N139q, K139q, E139_b128, F139_b128_left⟩ := q139
      have O139 := O135.keep K139q (allS g128 all0)
      have K139 := Keep.trans K135 K139q (allS (Or.inr z128) all0)
      have N139 := Fr.app N135 N139q
      show zEnds p e below s T139 (mkF m 117 #[iv p1, iv p2, iv 2, iv 3, rv b128, iv 1, iv 1, .unset, .unset, .unset] []) _ _ _
      refine zaload X139 hx hby at_117 rfl rfl (zcallv X139 hx hby at_119 hZ hown (w17 hw) (w18 hw) (notFace_of_selects (args := #[]) (mvT hZ (w20 hw))) (w20 hw) (w19 hw) (w21 hw) (w2 hw) e139 E139_b128 (c9_isSpent l hw [] ⟨S_w_STEP, S_w_PAUSE, E_w_STEP, E_w_PAUSE, F_w_STEP_ordinal, F_w_PAUSE_ordinal, S_w_arr0, A_w_arr0, A_w_arr0_1, A_w_arr0_0, A_w_arr0_2⟩ O139 (Nat.le_trans Z0 K139.1) b128 g128 E139_b128 F139_b128_left) (by decide) (by rw [hml]; rfl) 0 (Nat.le_of_eq rfl) (by decide) (by decide) (by decide) (by decide) pd_1 rfl (argsL := []) (st := []) rfl (zpureK ⟨rfl, rfl⟩ fun T140 X140 e140 => ?_))
      show zEnds p e below s T140 (mkF m 122 #[iv p1, iv p2, iv 2, iv 3, rv b128, iv 1, iv 1, .unset, .unset, .unset] [(.int 0)]) _ _ _
      refine zistore X140 hx hby at_122 (L' := #[iv p1, iv p2, iv 2, iv 3, rv b128, iv 1, iv 1, iv 0, .unset, .unset]) rfl (zaload X140 hx hby at_124 rfl rfl (zcallv X140 hx hby at_126 hZ hown (w12 hw) (w13 hw) (notFace_of_selects (args := #[]) (mvT hZ (w15 hw))) (w15 hw) (w14 hw) (w16 hw) (w2 hw) e140 E139_b128 (c11_spend l hw [] ⟨S_w_STEP, S_w_PAUSE, E_w_STEP, E_w_PAUSE, F_w_STEP_ordinal, F_w_PAUSE_ordinal, S_w_arr0, A_w_arr0, A_w_arr0_1, A_w_arr0_0, A_w_arr0_2⟩ O139 (Nat.le_trans Z0 K139.1) b128 g128 E139_b128 F139_b128_left) (by decide) (by rw [hml]; rfl) 0 (Nat.le_of_eq rfl) (by decide) (by decide) (by decide) (by decide) pd_0 rfl (argsL := []) (st := []) rfl fun T141 h141 v141 L141 e141 X141 q141 => ?_))
      obtain ⟨rfl, N141q, K141q, E141_b128, F141_b128_left⟩ := q141
      have O141 := O139.keep K141q (allS g128 all0)
      have K141 := Keep.trans K139 K141q (allS (Or.inr z128) all0)
      have N141 := Fr.app N139 N141q
      show zEnds p e below s T141 (mkF m 129 #[iv p1, iv p2, iv 2, iv 3, rv b128, iv 1, iv 1, iv 0, .unset, .unset] []) _ _ _
      refine zaload X141 hx hby at_129 rfl rfl (zcallv X141 hx hby at_131 hZ hown (w17 hw) (w18 hw) (notFace_of_selects (args := #[]) (mvT hZ (w20 hw))) (w20 hw) (w19 hw) (w21 hw) (w2 hw) e141 E141_b128 (c13_isSpent l hw [] ⟨S_w_STEP, S_w_PAUSE, E_w_STEP, E_w_PAUSE, F_w_STEP_ordinal, F_w_PAUSE_ordinal, S_w_arr0, A_w_arr0, A_w_arr0_1, A_w_arr0_0, A_w_arr0_2⟩ O141 (Nat.le_trans Z0 K141.1) b128 g128 E141_b128 F141_b128_left) (by decide) (by rw [hml]; rfl) 0 (Nat.le_of_eq rfl) (by decide) (by decide) (by decide) (by decide) pd_1 rfl (argsL := []) (st := []) rfl (zpureK ⟨rfl, rfl⟩ fun T142 X142 e142 => ?_))
      show zEnds p e below s T142 (mkF m 134 #[iv p1, iv p2, iv 2, iv 3, rv b128, iv 1, iv 1, iv 0, .unset, .unset] [(.int 1)]) _ _ _
      refine zistore X142 hx hby at_134 (L' := #[iv p1, iv p2, iv 2, iv 3, rv b128, iv 1, iv 1, iv 0, iv 1, .unset]) rfl (ziloadN X142 hx hby at_136 rfl (zifNo X142 hx hby at_137 (by decide) (ziloadN X142 hx hby at_140 rfl (ziloadN X142 hx hby at_141 rfl (zicmpNo X142 hx hby at_142 (by decide) (ziconst X142 hx hby at_145 (z := (1 : Int32)) rfl (zgoto X142 hx hby at_146 150 (by decide) (by decide) (zistore X142 hx hby at_150 (L' := #[iv p1, iv p2, iv 2, iv 3, rv b128, iv 1, iv 1, iv 0, iv 1, iv 1]) rfl (ziload X142 hx hby at_152 rfl ?_)))))))))
      show zEnds p e below s T142 (mkF m 154 #[iv p1, iv p2, iv 2, iv 3, rv b128, iv 1, iv 1, iv 0, iv 1, iv 1] [(.int 1)]) _ _ _
      refine ziload X142 hx hby at_154 rfl (zicmpNo X142 hx hby at_156 (by decide) (ziload X142 hx hby at_159 rfl (zifNo X142 hx hby at_161 (by decide) (ziload X142 hx hby at_164 rfl (ziload X142 hx hby at_166 rfl (zicmpNo X142 hx hby at_168 (by decide) (ziconst X142 hx hby at_171 (z := (1 : Int32)) rfl (zgoto X142 hx hby at_172 176 (by decide) (by decide) ?_))))))))
      show zEnds p e below s T142 (mkF m 176 #[iv p1, iv p2, iv 2, iv 3, rv b128, iv 1, iv 1, iv 0, iv 1, iv 1] [(.int 1)]) _ _ _
      exact zretZ X142 hx hby at_176 hret hlk (by simp) rfl (by decide) (by decide) ⟨rfl, N141⟩
  · rw [q1]
    refine zistoreN X0 hx hby at_3 (L' := #[iv p1, iv p2, iv 3, .unset, .unset, .unset, .unset, .unset, .unset, .unset]) rfl (ziloadN X0 hx hby at_4 rfl (ziconst X0 hx hby at_5 (z := (3 : Int32)) rfl (ziand X0 hx hby at_6 (p2 &&& (3 : Int32)) rfl ?_)))
    show zEnds p e below s T0 (mkF m 7 #[iv p1, iv p2, iv 3, .unset, .unset, .unset, .unset, .unset, .unset, .unset] [(.int (p2 &&& (3 : Int32)))]) _ _ _
    rcases (and_3 p2) with q143 | q143 | q143 | q143
    · rw [q143]
      refine zistoreN X0 hx hby at_7 (L' := #[iv p1, iv p2, iv 3, iv 0, .unset, .unset, .unset, .unset, .unset, .unset]) rfl (znewobj X0 hx hby at_8 hZ hown (w0 hw) (w1 hw) (w2 hw) e0 (by decide) (by decide) fun T144 h144 b144 X144 e144 y144 Ex144 E144_b144 D144 => ?_)
      have O144 := O0.ext Ex144
      have K144 := Keep.ext K0 Ex144
      have g144 : n0 ≤ b144 := by rw [y144]; exact Nat.le_trans Z0 K0.1
      have z144 : h0.size ≤ b144 := by rw [y144]; exact K0.1
      have F144_b144_left : Fld Z h144 b144 "heapglass/core/wire/Allowance" "left" "J" (.long 0) := D144 (Or.inl (w11 hw)) (ty := .long) (by decide)
      refine zdup X144 hx hby at_11 rfl (zcallsp X144 hx hby at_12 hZ hown rfl (w3 hw) (w4 hw) (w5 hw) (w2 hw) e144 (c1_init l hw [] ⟨S_w_STEP, S_w_PAUSE, E_w_STEP, E_w_PAUSE, F_w_STEP_ordinal, F_w_PAUSE_ordinal, S_w_arr0, A_w_arr0, A_w_arr0_1, A_w_arr0_0, A_w_arr0_2⟩ O144 (Nat.le_trans Z0 K144.1) b144 g144 E144_b144 F144_b144_left) (by decide) (by rw [hml]; rfl) 1 (Nat.le_of_eq rfl) (by decide) (by decide) (by decide) (by decide) pd_0 rfl (argsL := []) (st := [(.ref b144)]) rfl fun T145 h145 v145 L145 e145 X145 q145 => ?_)
      obtain ⟨rfl, N145q, K145q, E145_b144, F145_b144_left⟩ := q145
      have O145 := O144.keep K145q (allS g144 all0)
      have K145 := Keep.trans K144 K145q (allS (Or.inr z144) all0)
      have N145 := Fr.app N0 N145q
      show zEnds p e below s T145 (mkF m 15 #[iv p1, iv p2, iv 3, iv 0, .unset, .unset, .unset, .unset, .unset, .unset] [(.ref b144)]) _ _ _
      refine zastore X145 hx hby at_15 (hv := rfl) (L' := #[iv p1, iv p2, iv 3, iv 0, rv b144, .unset, .unset, .unset, .unset, .unset]) rfl (ziloadN X145 hx hby at_17 rfl (ziconst X145 hx hby at_18 (z := (1 : Int32)) rfl (zicmpNo X145 hx hby at_19 (by decide) (zaload X145 hx hby at_22 rfl rfl (zgetstat X145 hx hby at_24 hZ hown (host := "") (Or.inl (w42 hw)) Via.refl e145 (S_w_PAUSE.ext O145.2) fun T146 X146 e146 => (zcallv X146 hx hby at_27 hZ hown (w25 hw) (w26 hw) (notFace_of_selects (args := #[]) (mvT hZ (w28 hw))) (w28 hw) (w27 hw) (w29 hw) (w2 hw) e146 E145_b144 (c17_obey l hw [] ⟨S_w_STEP, S_w_PAUSE, E_w_STEP, E_w_PAUSE, F_w_STEP_ordinal, F_w_PAUSE_ordinal, S_w_arr0, A_w_arr0, A_w_arr0_1, A_w_arr0_0, A_w_arr0_2⟩ O145 (Nat.le_trans Z0 K145.1) b144 g144 E145_b144 F145_b144_left) (by decide) (by rw [hml]; rfl) 0 (Nat.le_of_eq rfl) (by decide) (by decide) (by decide) (by decide) pd_3 rfl (argsL := [(.ref w_PAUSE)]) (st := []) rfl fun T147 h147 v147 L147 e147 X147 q147 => ?_))))))
      obtain ⟨rfl, N147q, K147q, E147_b144, F147_b144_left⟩ := q147
      have O147 := O145.keep K147q (allS g144 all0)
      have K147 := Keep.trans K145 K147q (allS (Or.inr z144) all0)
      have N147 := Fr.app N145 N147q
      show zEnds p e below s T147 (mkF m 30 #[iv p1, iv p2, iv 3, iv 0, rv b144, .unset, .unset, .unset, .unset, .unset] []) _ _ _
      refine ziloadN X147 hx hby at_30 rfl (ziconst X147 hx hby at_31 (z := (2 : Int32)) rfl (zicmpNo X147 hx hby at_32 (by decide) (zaload X147 hx hby at_35 rfl rfl (zgetstat X147 hx hby at_37 hZ hown (host := "") (Or.inl (w22 hw)) Via.refl e147 (S_w_STEP.ext O147.2) fun T148 X148 e148 => (zcallv X148 hx hby at_40 hZ hown (w25 hw) (w26 hw) (notFace_of_selects (args := #[]) (mvT hZ (w28 hw))) (w28 hw) (w27 hw) (w29 hw) (w2 hw) e148 E147_b144 (c23_obey l hw [] ⟨S_w_STEP, S_w_PAUSE, E_w_STEP, E_w_PAUSE, F_w_STEP_ordinal, F_w_PAUSE_ordinal, S_w_arr0, A_w_arr0, A_w_arr0_1, A_w_arr0_0, A_w_arr0_2⟩ O147 (Nat.le_trans Z0 K147.1) b144 g144 E147_b144 F147_b144_left) (by decide) (by rw [hml]; rfl) 0 (Nat.le_of_eq rfl) (by decide) (by decide) (by decide) (by decide) pd_3 rfl (argsL := [(.ref w_STEP)]) (st := []) rfl fun T149 h149 v149 L149 e149 X149 q149 => ?_)))))
      obtain ⟨rfl, N149q, K149q, E149_b144, F149_b144_left⟩ := q149
      have O149 := O147.keep K149q (allS g144 all0)
      have K149 := Keep.trans K147 K149q (allS (Or.inr z144) all0)
      have N149 := Fr.app N147 N149q
      show zEnds p e below s T149 (mkF m 43 #[iv p1, iv p2, iv 3, iv 0, rv b144, .unset, .unset, .unset, .unset, .unset] []) _ _ _
      refine ziloadN X149 hx hby at_43 rfl (ziconst X149 hx hby at_44 (z := (3 : Int32)) rfl (zicmpNo X149 hx hby at_45 (by decide) (zaload X149 hx hby at_48 rfl rfl (zgetstat X149 hx hby at_50 hZ hown (host := "") (Or.inl (w22 hw)) Via.refl e149 (S_w_STEP.ext O149.2) fun T150 X150 e150 => (zcallv X150 hx hby at_53 hZ hown (w25 hw) (w26 hw) (notFace_of_selects (args := #[]) (mvT hZ (w28 hw))) (w28 hw) (w27 hw) (w29 hw) (w2 hw) e150 E149_b144 (c33_obey l hw [] ⟨S_w_STEP, S_w_PAUSE, E_w_STEP, E_w_PAUSE, F_w_STEP_ordinal, F_w_PAUSE_ordinal, S_w_arr0, A_w_arr0, A_w_arr0_1, A_w_arr0_0, A_w_arr0_2⟩ O149 (Nat.le_trans Z0 K149.1) b144 g144 E149_b144 F149_b144_left) (by decide) (by rw [hml]; rfl) 0 (Nat.le_of_eq rfl) (by decide) (by decide) (by decide) (by decide) pd_3 rfl (argsL := [(.ref w_STEP)]) (st := []) rfl fun T151 h151 v151 L151 e151 X151 q151 => ?_)))))
      obtain ⟨rfl, N151q, K151q, E151_b144, F151_b144_left⟩ := q151
      have O151 := O149.keep K151q (allS g144 all0)
      have K151 := Keep.trans K149 K151q (allS (Or.inr z144) all0)
      have N151 := Fr.app N149 N151q
      show zEnds p e below s T151 (mkF m 56 #[iv p1, iv p2, iv 3, iv 0, rv b144, .unset, .unset, .unset, .unset, .unset] []) _ _ _
      refine ziloadN X151 hx hby at_56 rfl (ziconst X151 hx hby at_57 (z := (1 : Int32)) rfl (zicmpYes X151 hx hby at_58 66 (by decide) (by decide) (by decide) (ziloadN X151 hx hby at_66 rfl (ziconst X151 hx hby at_67 (z := (2 : Int32)) rfl (zicmpYes X151 hx hby at_68 76 (by decide) (by decide) (by decide) (ziloadN X151 hx hby at_76 rfl (ziconst X151 hx hby at_77 (z := (3 : Int32)) rfl (zicmpYes X151 hx hby at_78 86 (by decide) (by decide) (by decide) (zaload X151 hx hby at_86 rfl rfl ?_)))))))))
      show zEnds p e below s T151 (mkF m 88 #[iv p1, iv p2, iv 3, iv 0, rv b144, .unset, .unset, .unset, .unset, .unset] [(.ref b144)]) _ _ _
      refine zcallv X151 hx hby at_88 hZ hown (w17 hw) (w18 hw) (notFace_of_selects (args := #[]) (mvT hZ (w20 hw))) (w20 hw) (w19 hw) (w21 hw) (w2 hw) e151 E151_b144 (c35_isSpent l hw [] ⟨S_w_STEP, S_w_PAUSE, E_w_STEP, E_w_PAUSE, F_w_STEP_ordinal, F_w_PAUSE_ordinal, S_w_arr0, A_w_arr0, A_w_arr0_1, A_w_arr0_0, A_w_arr0_2⟩ O151 (Nat.le_trans Z0 K151.1) b144 g144 E151_b144 F151_b144_left) (by decide) (by rw [hml]; rfl) 0 (Nat.le_of_eq rfl) (by decide) (by decide) (by decide) (by decide) pd_1 rfl (argsL := []) (st := []) rfl (zpureK ⟨rfl, rfl⟩ fun T152 X152 e152 => ?_)
      show zEnds p e below s T152 (mkF m 91 #[iv p1, iv p2, iv 3, iv 0, rv b144, .unset, .unset, .unset, .unset, .unset] [(.int 0)]) _ _ _
      refine zistore X152 hx hby at_91 (L' := #[iv p1, iv p2, iv 3, iv 0, rv b144, iv 0, .unset, .unset, .unset, .unset]) rfl (ziloadN X152 hx hby at_93 rfl (zifNo X152 hx hby at_94 (by decide) (ziloadN X152 hx hby at_97 rfl (ziloadN X152 hx hby at_98 rfl (zicmpYes X152 hx hby at_99 106 (by decide) (by decide) (by decide) (ziconst X152 hx hby at_106 (z := (0 : Int32)) rfl (zistore X152 hx hby at_107 (L' := #[iv p1, iv p2, iv 3, iv 0, rv b144, iv 0, iv 0, .unset, .unset, .unset]) rfl (zaload X152 hx hby at_109 rfl rfl (zgetstat X152 hx hby at_111 hZ hown (host := "") (Or.inl (w22 hw)) Via.refl e152 (S_w_STEP.ext O151.2) fun T153 X153 e153 => ?_)))))))))
      show zEnds p e below s T153 (mkF m 114 #[iv p1, iv p2, iv 3, iv 0, rv b144, iv 0, iv 0, .unset, .unset, .unset] [(.ref w_STEP), (.ref b144)]) _ _ _
      refine zcallv X153 hx hby at_114 hZ hown (w25 hw) (w26 hw) (notFace_of_selects (args := #[]) (mvT hZ (w28 hw))) (w28 hw) (w27 hw) (w29 hw) (w2 hw) e153 E151_b144 (c39_obey l hw [] ⟨S_w_STEP, S_w_PAUSE, E_w_STEP, E_w_PAUSE, F_w_STEP_ordinal, F_w_PAUSE_ordinal, S_w_arr0, A_w_arr0, A_w_arr0_1, A_w_arr0_0, A_w_arr0_2⟩ O151 (Nat.le_trans Z0 K151.1) b144 g144 E151_b144 F151_b144_left) (by decide) (by rw [hml]; rfl) 0 (Nat.le_of_eq rfl) (by decide) (by decide) (by decide) (by decide) pd_3 rfl (argsL := [(.ref w_STEP)]) (st := []) rfl fun T154 h154 v154 L154 e154 X154 q154 => ?_
      obtain ⟨rfl, N154q, K154q, E154_b144, F154_b144_left⟩ := q154
      have O154 := O151.keep K154q (allS g144 all0)
      have K154 := Keep.trans K151 K154q (allS (Or.inr z144) all0)
      have N154 := Fr.app N151 N154q
      show zEnds p e below s T154 (mkF m 117 #[iv p1, iv p2, iv 3, iv 0, rv b144, iv 0, iv 0, .unset, .unset, .unset] []) _ _ _
      refine zaload X154 hx hby at_117 rfl rfl (zcallv X154 hx hby at_119 hZ hown (w17 hw) (w18 hw) (notFace_of_selects (args := #[]) (mvT hZ (w20 hw))) (w20 hw) (w19 hw) (w21 hw) (w2 hw) e154 E154_b144 (c41_isSpent l hw [] ⟨S_w_STEP, S_w_PAUSE, E_w_STEP, E_w_PAUSE, F_w_STEP_ordinal, F_w_PAUSE_ordinal, S_w_arr0, A_w_arr0, A_w_arr0_1, A_w_arr0_0, A_w_arr0_2⟩ O154 (Nat.le_trans Z0 K154.1) b144 g144 E154_b144 F154_b144_left) (by decide) (by rw [hml]; rfl) 0 (Nat.le_of_eq rfl) (by decide) (by decide) (by decide) (by decide) pd_1 rfl (argsL := []) (st := []) rfl (zpureK ⟨rfl, rfl⟩ fun T155 X155 e155 => ?_))
      show zEnds p e below s T155 (mkF m 122 #[iv p1, iv p2, iv 3, iv 0, rv b144, iv 0, iv 0, .unset, .unset, .unset] [(.int 0)]) _ _ _
      refine zistore X155 hx hby at_122 (L' := #[iv p1, iv p2, iv 3, iv 0, rv b144, iv 0, iv 0, iv 0, .unset, .unset]) rfl (zaload X155 hx hby at_124 rfl rfl (zcallv X155 hx hby at_126 hZ hown (w12 hw) (w13 hw) (notFace_of_selects (args := #[]) (mvT hZ (w15 hw))) (w15 hw) (w14 hw) (w16 hw) (w2 hw) e155 E154_b144 (c43_spend l hw [] ⟨S_w_STEP, S_w_PAUSE, E_w_STEP, E_w_PAUSE, F_w_STEP_ordinal, F_w_PAUSE_ordinal, S_w_arr0, A_w_arr0, A_w_arr0_1, A_w_arr0_0, A_w_arr0_2⟩ O154 (Nat.le_trans Z0 K154.1) b144 g144 E154_b144 F154_b144_left) (by decide) (by rw [hml]; rfl) 0 (Nat.le_of_eq rfl) (by decide) (by decide) (by decide) (by decide) pd_0 rfl (argsL := []) (st := []) rfl fun T156 h156 v156 L156 e156 X156 q156 => ?_))
      obtain ⟨rfl, N156q, K156q, E156_b144, F156_b144_left⟩ := q156
      have O156 := O154.keep K156q (allS g144 all0)
      have K156 := Keep.trans K154 K156q (allS (Or.inr z144) all0)
      have N156 := Fr.app N154 N156q
      show zEnds p e below s T156 (mkF m 129 #[iv p1, iv p2, iv 3, iv 0, rv b144, iv 0, iv 0, iv 0, .unset, .unset] []) _ _ _
      refine zaload X156 hx hby at_129 rfl rfl (zcallv X156 hx hby at_131 hZ hown (w17 hw) (w18 hw) (notFace_of_selects (args := #[]) (mvT hZ (w20 hw))) (w20 hw) (w19 hw) (w21 hw) (w2 hw) e156 E156_b144 (c35_isSpent l hw [] ⟨S_w_STEP, S_w_PAUSE, E_w_STEP, E_w_PAUSE, F_w_STEP_ordinal, F_w_PAUSE_ordinal, S_w_arr0, A_w_arr0, A_w_arr0_1, A_w_arr0_0, A_w_arr0_2⟩ O156 (Nat.le_trans Z0 K156.1) b144 g144 E156_b144 F156_b144_left) (by decide) (by rw [hml]; rfl) 0 (Nat.le_of_eq rfl) (by decide) (by decide) (by decide) (by decide) pd_1 rfl (argsL := []) (st := []) rfl (zpureK ⟨rfl, rfl⟩ fun T157 X157 e157 => ?_))
      show zEnds p e below s T157 (mkF m 134 #[iv p1, iv p2, iv 3, iv 0, rv b144, iv 0, iv 0, iv 0, .unset, .unset] [(.int 0)]) _ _ _
      refine zistore X157 hx hby at_134 (L' := #[iv p1, iv p2, iv 3, iv 0, rv b144, iv 0, iv 0, iv 0, iv 0, .unset]) rfl (ziloadN X157 hx hby at_136 rfl (zifNo X157 hx hby at_137 (by decide) (ziloadN X157 hx hby at_140 rfl (ziloadN X157 hx hby at_141 rfl (zicmpYes X157 hx hby at_142 149 (by decide) (by decide) (by decide) (ziconst X157 hx hby at_149 (z := (0 : Int32)) rfl (zistore X157 hx hby at_150 (L' := #[iv p1, iv p2, iv 3, iv 0, rv b144, iv 0, iv 0, iv 0, iv 0, iv 0]) rfl (ziload X157 hx hby at_152 rfl (ziload X157 hx hby at_154 rfl ?_)))))))))
      show zEnds p e below s T157 (mkF m 156 #[iv p1, iv p2, iv 3, iv 0, rv b144, iv 0, iv 0, iv 0, iv 0, iv 0] [(.int 0), (.int 0)]) _ _ _
      refine zicmpNo X157 hx hby at_156 (by decide) (ziload X157 hx hby at_159 rfl (zifNo X157 hx hby at_161 (by decide) (ziload X157 hx hby at_164 rfl (ziload X157 hx hby at_166 rfl (zicmpNo X157 hx hby at_168 (by decide) (ziconst X157 hx hby at_171 (z := (1 : Int32)) rfl (zgoto X157 hx hby at_172 176 (by decide) (by decide) ?_)))))))
      show zEnds p e below s T157 (mkF m 176 #[iv p1, iv p2, iv 3, iv 0, rv b144, iv 0, iv 0, iv 0, iv 0, iv 0] [(.int 1)]) _ _ _
      exact zretZ X157 hx hby at_176 hret hlk (by simp) rfl (by decide) (by decide) ⟨rfl, N156⟩
    · rw [q143]
      refine zistoreN X0 hx hby at_7 (L' := #[iv p1, iv p2, iv 3, iv 1, .unset, .unset, .unset, .unset, .unset, .unset]) rfl (znewobj X0 hx hby at_8 hZ hown (w0 hw) (w1 hw) (w2 hw) e0 (by decide) (by decide) fun T158 h158 b158 X158 e158 y158 Ex158 E158_b158 D158 => ?_)
      have O158 := O0.ext Ex158
      have K158 := Keep.ext K0 Ex158
      have g158 : n0 ≤ b158 := by rw [y158]; exact Nat.le_trans Z0 K0.1
      have z158 : h0.size ≤ b158 := by rw [y158]; exact K0.1
      have F158_b158_left : Fld Z h158 b158 "heapglass/core/wire/Allowance" "left" "J" (.long 0) := D158 (Or.inl (w11 hw)) (ty := .long) (by decide)
      refine zdup X158 hx hby at_11 rfl (zcallsp X158 hx hby at_12 hZ hown rfl (w3 hw) (w4 hw) (w5 hw) (w2 hw) e158 (c1_init l hw [] ⟨S_w_STEP, S_w_PAUSE, E_w_STEP, E_w_PAUSE, F_w_STEP_ordinal, F_w_PAUSE_ordinal, S_w_arr0, A_w_arr0, A_w_arr0_1, A_w_arr0_0, A_w_arr0_2⟩ O158 (Nat.le_trans Z0 K158.1) b158 g158 E158_b158 F158_b158_left) (by decide) (by rw [hml]; rfl) 1 (Nat.le_of_eq rfl) (by decide) (by decide) (by decide) (by decide) pd_0 rfl (argsL := []) (st := [(.ref b158)]) rfl fun T159 h159 v159 L159 e159 X159 q159 => ?_)
      obtain ⟨rfl, N159q, K159q, E159_b158, F159_b158_left⟩ := q159
      have O159 := O158.keep K159q (allS g158 all0)
      have K159 := Keep.trans K158 K159q (allS (Or.inr z158) all0)
      have N159 := Fr.app N0 N159q
      show zEnds p e below s T159 (mkF m 15 #[iv p1, iv p2, iv 3, iv 1, .unset, .unset, .unset, .unset, .unset, .unset] [(.ref b158)]) _ _ _
      refine zastore X159 hx hby at_15 (hv := rfl) (L' := #[iv p1, iv p2, iv 3, iv 1, rv b158, .unset, .unset, .unset, .unset, .unset]) rfl (ziloadN X159 hx hby at_17 rfl (ziconst X159 hx hby at_18 (z := (1 : Int32)) rfl (zicmpNo X159 hx hby at_19 (by decide) (zaload X159 hx hby at_22 rfl rfl (zgetstat X159 hx hby at_24 hZ hown (host := "") (Or.inl (w42 hw)) Via.refl e159 (S_w_PAUSE.ext O159.2) fun T160 X160 e160 => (zcallv X160 hx hby at_27 hZ hown (w25 hw) (w26 hw) (notFace_of_selects (args := #[]) (mvT hZ (w28 hw))) (w28 hw) (w27 hw) (w29 hw) (w2 hw) e160 E159_b158 (c17_obey l hw [] ⟨S_w_STEP, S_w_PAUSE, E_w_STEP, E_w_PAUSE, F_w_STEP_ordinal, F_w_PAUSE_ordinal, S_w_arr0, A_w_arr0, A_w_arr0_1, A_w_arr0_0, A_w_arr0_2⟩ O159 (Nat.le_trans Z0 K159.1) b158 g158 E159_b158 F159_b158_left) (by decide) (by rw [hml]; rfl) 0 (Nat.le_of_eq rfl) (by decide) (by decide) (by decide) (by decide) pd_3 rfl (argsL := [(.ref w_PAUSE)]) (st := []) rfl fun T161 h161 v161 L161 e161 X161 q161 => ?_))))))
      obtain ⟨rfl, N161q, K161q, E161_b158, F161_b158_left⟩ := q161
      have O161 := O159.keep K161q (allS g158 all0)
      have K161 := Keep.trans K159 K161q (allS (Or.inr z158) all0)
      have N161 := Fr.app N159 N161q
      show zEnds p e below s T161 (mkF m 30 #[iv p1, iv p2, iv 3, iv 1, rv b158, .unset, .unset, .unset, .unset, .unset] []) _ _ _
      refine ziloadN X161 hx hby at_30 rfl (ziconst X161 hx hby at_31 (z := (2 : Int32)) rfl (zicmpNo X161 hx hby at_32 (by decide) (zaload X161 hx hby at_35 rfl rfl (zgetstat X161 hx hby at_37 hZ hown (host := "") (Or.inl (w22 hw)) Via.refl e161 (S_w_STEP.ext O161.2) fun T162 X162 e162 => (zcallv X162 hx hby at_40 hZ hown (w25 hw) (w26 hw) (notFace_of_selects (args := #[]) (mvT hZ (w28 hw))) (w28 hw) (w27 hw) (w29 hw) (w2 hw) e162 E161_b158 (c23_obey l hw [] ⟨S_w_STEP, S_w_PAUSE, E_w_STEP, E_w_PAUSE, F_w_STEP_ordinal, F_w_PAUSE_ordinal, S_w_arr0, A_w_arr0, A_w_arr0_1, A_w_arr0_0, A_w_arr0_2⟩ O161 (Nat.le_trans Z0 K161.1) b158 g158 E161_b158 F161_b158_left) (by decide) (by rw [hml]; rfl) 0 (Nat.le_of_eq rfl) (by decide) (by decide) (by decide) (by decide) pd_3 rfl (argsL := [(.ref w_STEP)]) (st := []) rfl fun T163 h163 v163 L163 e163 X163 q163 => ?_)))))
      obtain ⟨rfl, N163q, K163q, E163_b158, F163_b158_left⟩ := q163
      have O163 := O161.keep K163q (allS g158 all0)
      have K163 := Keep.trans K161 K163q (allS (Or.inr z158) all0)
      have N163 := Fr.app N161 N163q
      show zEnds p e below s T163 (mkF m 43 #[iv p1, iv p2, iv 3, iv 1, rv b158, .unset, .unset, .unset, .unset, .unset] []) _ _ _
      refine ziloadN X163 hx hby at_43 rfl (ziconst X163 hx hby at_44 (z := (3 : Int32)) rfl (zicmpNo X163 hx hby at_45 (by decide) (zaload X163 hx hby at_48 rfl rfl (zgetstat X163 hx hby at_50 hZ hown (host := "") (Or.inl (w22 hw)) Via.refl e163 (S_w_STEP.ext O163.2) fun T164 X164 e164 => (zcallv X164 hx hby at_53 hZ hown (w25 hw) (w26 hw) (notFace_of_selects (args := #[]) (mvT hZ (w28 hw))) (w28 hw) (w27 hw) (w29 hw) (w2 hw) e164 E163_b158 (c33_obey l hw [] ⟨S_w_STEP, S_w_PAUSE, E_w_STEP, E_w_PAUSE, F_w_STEP_ordinal, F_w_PAUSE_ordinal, S_w_arr0, A_w_arr0, A_w_arr0_1, A_w_arr0_0, A_w_arr0_2⟩ O163 (Nat.le_trans Z0 K163.1) b158 g158 E163_b158 F163_b158_left) (by decide) (by rw [hml]; rfl) 0 (Nat.le_of_eq rfl) (by decide) (by decide) (by decide) (by decide) pd_3 rfl (argsL := [(.ref w_STEP)]) (st := []) rfl fun T165 h165 v165 L165 e165 X165 q165 => ?_)))))
      obtain ⟨rfl, N165q, K165q, E165_b158, F165_b158_left⟩ := q165
      have O165 := O163.keep K165q (allS g158 all0)
      have K165 := Keep.trans K163 K165q (allS (Or.inr z158) all0)
      have N165 := Fr.app N163 N165q
      show zEnds p e below s T165 (mkF m 56 #[iv p1, iv p2, iv 3, iv 1, rv b158, .unset, .unset, .unset, .unset, .unset] []) _ _ _
      refine ziloadN X165 hx hby at_56 rfl (ziconst X165 hx hby at_57 (z := (1 : Int32)) rfl (zicmpNo X165 hx hby at_58 (by decide) (zaload X165 hx hby at_61 rfl rfl (zcallv X165 hx hby at_63 hZ hown (w12 hw) (w13 hw) (notFace_of_selects (args := #[]) (mvT hZ (w15 hw))) (w15 hw) (w14 hw) (w16 hw) (w2 hw) e165 E165_b158 (c37_spend l hw [] ⟨S_w_STEP, S_w_PAUSE, E_w_STEP, E_w_PAUSE, F_w_STEP_ordinal, F_w_PAUSE_ordinal, S_w_arr0, A_w_arr0, A_w_arr0_1, A_w_arr0_0, A_w_arr0_2⟩ O165 (Nat.le_trans Z0 K165.1) b158 g158 E165_b158 F165_b158_left) (by decide) (by rw [hml]; rfl) 0 (Nat.le_of_eq rfl) (by decide) (by decide) (by decide) (by decide) pd_0 rfl (argsL := []) (st := []) rfl fun T166 h166 v166 L166 e166 X166 q166 => ?_))))
      obtain ⟨rfl, N166q, K166q, E166_b158, F166_b158_left⟩ := q166
      have O166 := O165.keep K166q (allS g158 all0)
      have K166 := Keep.trans K165 K166q (allS (Or.inr z158) all0)
      have N166 := Fr.app N165 N166q
      show zEnds p e below s T166 (mkF m 66 #[iv p1, iv p2, iv 3, iv 1, rv b158, .unset, .unset, .unset, .unset, .unset] []) _ _ _
      refine ziloadN X166 hx hby at_66 rfl (ziconst X166 hx hby at_67 (z := (2 : Int32)) rfl (zicmpYes X166 hx hby at_68 76 (by decide) (by decide) (by decide) (ziloadN X166 hx hby at_76 rfl (ziconst X166 hx hby at_77 (z := (3 : Int32)) rfl (zicmpYes X166 hx hby at_78 86 (by decide) (by decide) (by decide) (zaload X166 hx hby at_86 rfl rfl (zcallv X166 hx hby at_88 hZ hown (w17 hw) (w18 hw) (notFace_of_selects (args := #[]) (mvT hZ (w20 hw))) (w20 hw) (w19 hw) (w21 hw) (w2 hw) e166 E166_b158 (c25_isSpent l hw [] ⟨S_w_STEP, S_w_PAUSE, E_w_STEP, E_w_PAUSE, F_w_STEP_ordinal, F_w_PAUSE_ordinal, S_w_arr0, A_w_arr0, A_w_arr0_1, A_w_arr0_0, A_w_arr0_2⟩ O166 (Nat.le_trans Z0 K166.1) b158 g158 E166_b158 F166_b158_left) (by decide) (by rw [hml]; rfl) 0 (Nat.le_of_eq rfl) (by decide) (by decide) (by decide) (by decide) pd_1 rfl (argsL := []) (st := []) rfl (zpureK ⟨rfl, rfl⟩ fun T167 X167 e167 => ?_))))))))
      show zEnds p e below s T167 (mkF m 91 #[iv p1, iv p2, iv 3, iv 1, rv b158, .unset, .unset, .unset, .unset, .unset] [(.int 0)]) _ _ _
      refine zistore X167 hx hby at_91 (L' := #[iv p1, iv p2, iv 3, iv 1, rv b158, iv 0, .unset, .unset, .unset, .unset]) rfl (ziloadN X167 hx hby at_93 rfl (zifNo X167 hx hby at_94 (by decide) (ziloadN X167 hx hby at_97 rfl (ziloadN X167 hx hby at_98 rfl (zicmpYes X167 hx hby at_99 106 (by decide) (by decide) (by decide) (ziconst X167 hx hby at_106 (z := (0 : Int32)) rfl (zistore X167 hx hby at_107 (L' := #[iv p1, iv p2, iv 3, iv 1, rv b158, iv 0, iv 0, .unset, .unset, .unset]) rfl (zaload X167 hx hby at_109 rfl rfl (zgetstat X167 hx hby at_111 hZ hown (host := "") (Or.inl (w22 hw)) Via.refl e167 (S_w_STEP.ext O166.2) fun T168 X168 e168 => ?_)))))))))
      show zEnds p e below s T168 (mkF m 114 #[iv p1, iv p2, iv 3, iv 1, rv b158, iv 0, iv 0, .unset, .unset, .unset] [(.ref w_STEP), (.ref b158)]) _ _ _
      refine zcallv X168 hx hby at_114 hZ hown (w25 hw) (w26 hw) (notFace_of_selects (args := #[]) (mvT hZ (w28 hw))) (w28 hw) (w27 hw) (w29 hw) (w2 hw) e168 E166_b158 (c33_obey l hw [] ⟨S_w_STEP, S_w_PAUSE, E_w_STEP, E_w_PAUSE, F_w_STEP_ordinal, F_w_PAUSE_ordinal, S_w_arr0, A_w_arr0, A_w_arr0_1, A_w_arr0_0, A_w_arr0_2⟩ O166 (Nat.le_trans Z0 K166.1) b158 g158 E166_b158 F166_b158_left) (by decide) (by rw [hml]; rfl) 0 (Nat.le_of_eq rfl) (by decide) (by decide) (by decide) (by decide) pd_3 rfl (argsL := [(.ref w_STEP)]) (st := []) rfl fun T169 h169 v169 L169 e169 X169 q169 => ?_
      obtain ⟨rfl, N169q, K169q, E169_b158, F169_b158_left⟩ := q169
      have O169 := O166.keep K169q (allS g158 all0)
      have K169 := Keep.trans K166 K169q (allS (Or.inr z158) all0)
      have N169 := Fr.app N166 N169q
      show zEnds p e below s T169 (mkF m 117 #[iv p1, iv p2, iv 3, iv 1, rv b158, iv 0, iv 0, .unset, .unset, .unset] []) _ _ _
      refine zaload X169 hx hby at_117 rfl rfl (zcallv X169 hx hby at_119 hZ hown (w17 hw) (w18 hw) (notFace_of_selects (args := #[]) (mvT hZ (w20 hw))) (w20 hw) (w19 hw) (w21 hw) (w2 hw) e169 E169_b158 (c35_isSpent l hw [] ⟨S_w_STEP, S_w_PAUSE, E_w_STEP, E_w_PAUSE, F_w_STEP_ordinal, F_w_PAUSE_ordinal, S_w_arr0, A_w_arr0, A_w_arr0_1, A_w_arr0_0, A_w_arr0_2⟩ O169 (Nat.le_trans Z0 K169.1) b158 g158 E169_b158 F169_b158_left) (by decide) (by rw [hml]; rfl) 0 (Nat.le_of_eq rfl) (by decide) (by decide) (by decide) (by decide) pd_1 rfl (argsL := []) (st := []) rfl (zpureK ⟨rfl, rfl⟩ fun T170 X170 e170 => ?_))
      show zEnds p e below s T170 (mkF m 122 #[iv p1, iv p2, iv 3, iv 1, rv b158, iv 0, iv 0, .unset, .unset, .unset] [(.int 0)]) _ _ _
      refine zistore X170 hx hby at_122 (L' := #[iv p1, iv p2, iv 3, iv 1, rv b158, iv 0, iv 0, iv 0, .unset, .unset]) rfl (zaload X170 hx hby at_124 rfl rfl (zcallv X170 hx hby at_126 hZ hown (w12 hw) (w13 hw) (notFace_of_selects (args := #[]) (mvT hZ (w15 hw))) (w15 hw) (w14 hw) (w16 hw) (w2 hw) e170 E169_b158 (c37_spend l hw [] ⟨S_w_STEP, S_w_PAUSE, E_w_STEP, E_w_PAUSE, F_w_STEP_ordinal, F_w_PAUSE_ordinal, S_w_arr0, A_w_arr0, A_w_arr0_1, A_w_arr0_0, A_w_arr0_2⟩ O169 (Nat.le_trans Z0 K169.1) b158 g158 E169_b158 F169_b158_left) (by decide) (by rw [hml]; rfl) 0 (Nat.le_of_eq rfl) (by decide) (by decide) (by decide) (by decide) pd_0 rfl (argsL := []) (st := []) rfl fun T171 h171 v171 L171 e171 X171 q171 => ?_))
      obtain ⟨rfl, N171q, K171q, E171_b158, F171_b158_left⟩ := q171
      have O171 := O169.keep K171q (allS g158 all0)
      have K171 := Keep.trans K169 K171q (allS (Or.inr z158) all0)
      have N171 := Fr.app N169 N171q
      show zEnds p e below s T171 (mkF m 129 #[iv p1, iv p2, iv 3, iv 1, rv b158, iv 0, iv 0, iv 0, .unset, .unset] []) _ _ _
      refine zaload X171 hx hby at_129 rfl rfl (zcallv X171 hx hby at_131 hZ hown (w17 hw) (w18 hw) (notFace_of_selects (args := #[]) (mvT hZ (w20 hw))) (w20 hw) (w19 hw) (w21 hw) (w2 hw) e171 E171_b158 (c25_isSpent l hw [] ⟨S_w_STEP, S_w_PAUSE, E_w_STEP, E_w_PAUSE, F_w_STEP_ordinal, F_w_PAUSE_ordinal, S_w_arr0, A_w_arr0, A_w_arr0_1, A_w_arr0_0, A_w_arr0_2⟩ O171 (Nat.le_trans Z0 K171.1) b158 g158 E171_b158 F171_b158_left) (by decide) (by rw [hml]; rfl) 0 (Nat.le_of_eq rfl) (by decide) (by decide) (by decide) (by decide) pd_1 rfl (argsL := []) (st := []) rfl (zpureK ⟨rfl, rfl⟩ fun T172 X172 e172 => ?_))
      show zEnds p e below s T172 (mkF m 134 #[iv p1, iv p2, iv 3, iv 1, rv b158, iv 0, iv 0, iv 0, .unset, .unset] [(.int 0)]) _ _ _
      refine zistore X172 hx hby at_134 (L' := #[iv p1, iv p2, iv 3, iv 1, rv b158, iv 0, iv 0, iv 0, iv 0, .unset]) rfl (ziloadN X172 hx hby at_136 rfl (zifNo X172 hx hby at_137 (by decide) (ziloadN X172 hx hby at_140 rfl (ziloadN X172 hx hby at_141 rfl (zicmpYes X172 hx hby at_142 149 (by decide) (by decide) (by decide) (ziconst X172 hx hby at_149 (z := (0 : Int32)) rfl (zistore X172 hx hby at_150 (L' := #[iv p1, iv p2, iv 3, iv 1, rv b158, iv 0, iv 0, iv 0, iv 0, iv 0]) rfl (ziload X172 hx hby at_152 rfl (ziload X172 hx hby at_154 rfl ?_)))))))))
      show zEnds p e below s T172 (mkF m 156 #[iv p1, iv p2, iv 3, iv 1, rv b158, iv 0, iv 0, iv 0, iv 0, iv 0] [(.int 0), (.int 0)]) _ _ _
      refine zicmpNo X172 hx hby at_156 (by decide) (ziload X172 hx hby at_159 rfl (zifNo X172 hx hby at_161 (by decide) (ziload X172 hx hby at_164 rfl (ziload X172 hx hby at_166 rfl (zicmpNo X172 hx hby at_168 (by decide) (ziconst X172 hx hby at_171 (z := (1 : Int32)) rfl (zgoto X172 hx hby at_172 176 (by decide) (by decide) ?_)))))))
      show zEnds p e below s T172 (mkF m 176 #[iv p1, iv p2, iv 3, iv 1, rv b158, iv 0, iv 0, iv 0, iv 0, iv 0] [(.int 1)]) _ _ _
      exact zretZ X172 hx hby at_176 hret hlk (by simp) rfl (by decide) (by decide) ⟨rfl, N171⟩
    · rw [q143]
      refine zistoreN X0 hx hby at_7 (L' := #[iv p1, iv p2, iv 3, iv 2, .unset, .unset, .unset, .unset, .unset, .unset]) rfl (znewobj X0 hx hby at_8 hZ hown (w0 hw) (w1 hw) (w2 hw) e0 (by decide) (by decide) fun T173 h173 b173 X173 e173 y173 Ex173 E173_b173 D173 => ?_)
      have O173 := O0.ext Ex173
      have K173 := Keep.ext K0 Ex173
      have g173 : n0 ≤ b173 := by rw [y173]; exact Nat.le_trans Z0 K0.1
      have z173 : h0.size ≤ b173 := by rw [y173]; exact K0.1
      have F173_b173_left : Fld Z h173 b173 "heapglass/core/wire/Allowance" "left" "J" (.long 0) := D173 (Or.inl (w11 hw)) (ty := .long) (by decide)
      refine zdup X173 hx hby at_11 rfl (zcallsp X173 hx hby at_12 hZ hown rfl (w3 hw) (w4 hw) (w5 hw) (w2 hw) e173 (c1_init l hw [] ⟨S_w_STEP, S_w_PAUSE, E_w_STEP, E_w_PAUSE, F_w_STEP_ordinal, F_w_PAUSE_ordinal, S_w_arr0, A_w_arr0, A_w_arr0_1, A_w_arr0_0, A_w_arr0_2⟩ O173 (Nat.le_trans Z0 K173.1) b173 g173 E173_b173 F173_b173_left) (by decide) (by rw [hml]; rfl) 1 (Nat.le_of_eq rfl) (by decide) (by decide) (by decide) (by decide) pd_0 rfl (argsL := []) (st := [(.ref b173)]) rfl fun T174 h174 v174 L174 e174 X174 q174 => ?_)
      obtain ⟨rfl, N174q, K174q, E174_b173, F174_b173_left⟩ := q174
      have O174 := O173.keep K174q (allS g173 all0)
      have K174 := Keep.trans K173 K174q (allS (Or.inr z173) all0)
      have N174 := Fr.app N0 N174q
      show zEnds p e below s T174 (mkF m 15 #[iv p1, iv p2, iv 3, iv 2, .unset, .unset, .unset, .unset, .unset, .unset] [(.ref b173)]) _ _ _
      refine zastore X174 hx hby at_15 (hv := rfl) (L' := #[iv p1, iv p2, iv 3, iv 2, rv b173, .unset, .unset, .unset, .unset, .unset]) rfl (ziloadN X174 hx hby at_17 rfl (ziconst X174 hx hby at_18 (z := (1 : Int32)) rfl (zicmpNo X174 hx hby at_19 (by decide) (zaload X174 hx hby at_22 rfl rfl (zgetstat X174 hx hby at_24 hZ hown (host := "") (Or.inl (w42 hw)) Via.refl e174 (S_w_PAUSE.ext O174.2) fun T175 X175 e175 => (zcallv X175 hx hby at_27 hZ hown (w25 hw) (w26 hw) (notFace_of_selects (args := #[]) (mvT hZ (w28 hw))) (w28 hw) (w27 hw) (w29 hw) (w2 hw) e175 E174_b173 (c17_obey l hw [] ⟨S_w_STEP, S_w_PAUSE, E_w_STEP, E_w_PAUSE, F_w_STEP_ordinal, F_w_PAUSE_ordinal, S_w_arr0, A_w_arr0, A_w_arr0_1, A_w_arr0_0, A_w_arr0_2⟩ O174 (Nat.le_trans Z0 K174.1) b173 g173 E174_b173 F174_b173_left) (by decide) (by rw [hml]; rfl) 0 (Nat.le_of_eq rfl) (by decide) (by decide) (by decide) (by decide) pd_3 rfl (argsL := [(.ref w_PAUSE)]) (st := []) rfl fun T176 h176 v176 L176 e176 X176 q176 => ?_))))))
      obtain ⟨rfl, N176q, K176q, E176_b173, F176_b173_left⟩ := q176
      have O176 := O174.keep K176q (allS g173 all0)
      have K176 := Keep.trans K174 K176q (allS (Or.inr z173) all0)
      have N176 := Fr.app N174 N176q
      show zEnds p e below s T176 (mkF m 30 #[iv p1, iv p2, iv 3, iv 2, rv b173, .unset, .unset, .unset, .unset, .unset] []) _ _ _
      refine ziloadN X176 hx hby at_30 rfl (ziconst X176 hx hby at_31 (z := (2 : Int32)) rfl (zicmpNo X176 hx hby at_32 (by decide) (zaload X176 hx hby at_35 rfl rfl (zgetstat X176 hx hby at_37 hZ hown (host := "") (Or.inl (w22 hw)) Via.refl e176 (S_w_STEP.ext O176.2) fun T177 X177 e177 => (zcallv X177 hx hby at_40 hZ hown (w25 hw) (w26 hw) (notFace_of_selects (args := #[]) (mvT hZ (w28 hw))) (w28 hw) (w27 hw) (w29 hw) (w2 hw) e177 E176_b173 (c23_obey l hw [] ⟨S_w_STEP, S_w_PAUSE, E_w_STEP, E_w_PAUSE, F_w_STEP_ordinal, F_w_PAUSE_ordinal, S_w_arr0, A_w_arr0, A_w_arr0_1, A_w_arr0_0, A_w_arr0_2⟩ O176 (Nat.le_trans Z0 K176.1) b173 g173 E176_b173 F176_b173_left) (by decide) (by rw [hml]; rfl) 0 (Nat.le_of_eq rfl) (by decide) (by decide) (by decide) (by decide) pd_3 rfl (argsL := [(.ref w_STEP)]) (st := []) rfl fun T178 h178 v178 L178 e178 X178 q178 => ?_)))))
      obtain ⟨rfl, N178q, K178q, E178_b173, F178_b173_left⟩ := q178
      have O178 := O176.keep K178q (allS g173 all0)
      have K178 := Keep.trans K176 K178q (allS (Or.inr z173) all0)
      have N178 := Fr.app N176 N178q
      show zEnds p e below s T178 (mkF m 43 #[iv p1, iv p2, iv 3, iv 2, rv b173, .unset, .unset, .unset, .unset, .unset] []) _ _ _
      refine ziloadN X178 hx hby at_43 rfl (ziconst X178 hx hby at_44 (z := (3 : Int32)) rfl (zicmpNo X178 hx hby at_45 (by decide) (zaload X178 hx hby at_48 rfl rfl (zgetstat X178 hx hby at_50 hZ hown (host := "") (Or.inl (w22 hw)) Via.refl e178 (S_w_STEP.ext O178.2) fun T179 X179 e179 => (zcallv X179 hx hby at_53 hZ hown (w25 hw) (w26 hw) (notFace_of_selects (args := #[]) (mvT hZ (w28 hw))) (w28 hw) (w27 hw) (w29 hw) (w2 hw) e179 E178_b173 (c33_obey l hw [] ⟨S_w_STEP, S_w_PAUSE, E_w_STEP, E_w_PAUSE, F_w_STEP_ordinal, F_w_PAUSE_ordinal, S_w_arr0, A_w_arr0, A_w_arr0_1, A_w_arr0_0, A_w_arr0_2⟩ O178 (Nat.le_trans Z0 K178.1) b173 g173 E178_b173 F178_b173_left) (by decide) (by rw [hml]; rfl) 0 (Nat.le_of_eq rfl) (by decide) (by decide) (by decide) (by decide) pd_3 rfl (argsL := [(.ref w_STEP)]) (st := []) rfl fun T180 h180 v180 L180 e180 X180 q180 => ?_)))))
      obtain ⟨rfl, N180q, K180q, E180_b173, F180_b173_left⟩ := q180
      have O180 := O178.keep K180q (allS g173 all0)
      have K180 := Keep.trans K178 K180q (allS (Or.inr z173) all0)
      have N180 := Fr.app N178 N180q
      show zEnds p e below s T180 (mkF m 56 #[iv p1, iv p2, iv 3, iv 2, rv b173, .unset, .unset, .unset, .unset, .unset] []) _ _ _
      refine ziloadN X180 hx hby at_56 rfl (ziconst X180 hx hby at_57 (z := (1 : Int32)) rfl (zicmpNo X180 hx hby at_58 (by decide) (zaload X180 hx hby at_61 rfl rfl (zcallv X180 hx hby at_63 hZ hown (w12 hw) (w13 hw) (notFace_of_selects (args := #[]) (mvT hZ (w15 hw))) (w15 hw) (w14 hw) (w16 hw) (w2 hw) e180 E180_b173 (c37_spend l hw [] ⟨S_w_STEP, S_w_PAUSE, E_w_STEP, E_w_PAUSE, F_w_STEP_ordinal, F_w_PAUSE_ordinal, S_w_arr0, A_w_arr0, A_w_arr0_1, A_w_arr0_0, A_w_arr0_2⟩ O180 (Nat.le_trans Z0 K180.1) b173 g173 E180_b173 F180_b173_left) (by decide) (by rw [hml]; rfl) 0 (Nat.le_of_eq rfl) (by decide) (by decide) (by decide) (by decide) pd_0 rfl (argsL := []) (st := []) rfl fun T181 h181 v181 L181 e181 X181 q181 => ?_))))
      obtain ⟨rfl, N181q, K181q, E181_b173, F181_b173_left⟩ := q181
      have O181 := O180.keep K181q (allS g173 all0)
      have K181 := Keep.trans K180 K181q (allS (Or.inr z173) all0)
      have N181 := Fr.app N180 N181q
      show zEnds p e below s T181 (mkF m 66 #[iv p1, iv p2, iv 3, iv 2, rv b173, .unset, .unset, .unset, .unset, .unset] []) _ _ _
      refine ziloadN X181 hx hby at_66 rfl (ziconst X181 hx hby at_67 (z := (2 : Int32)) rfl (zicmpNo X181 hx hby at_68 (by decide) (zaload X181 hx hby at_71 rfl rfl (zcallv X181 hx hby at_73 hZ hown (w12 hw) (w13 hw) (notFace_of_selects (args := #[]) (mvT hZ (w15 hw))) (w15 hw) (w14 hw) (w16 hw) (w2 hw) e181 E181_b173 (c27_spend l hw [] ⟨S_w_STEP, S_w_PAUSE, E_w_STEP, E_w_PAUSE, F_w_STEP_ordinal, F_w_PAUSE_ordinal, S_w_arr0, A_w_arr0, A_w_arr0_1, A_w_arr0_0, A_w_arr0_2⟩ O181 (Nat.le_trans Z0 K181.1) b173 g173 E181_b173 F181_b173_left) (by decide) (by rw [hml]; rfl) 0 (Nat.le_of_eq rfl) (by decide) (by decide) (by decide) (by decide) pd_0 rfl (argsL := []) (st := []) rfl fun T182 h182 v182 L182 e182 X182 q182 => ?_))))
      obtain ⟨rfl, N182q, K182q, E182_b173, F182_b173_left⟩ := q182
      have O182 := O181.keep K182q (allS g173 all0)
      have K182 := Keep.trans K181 K182q (allS (Or.inr z173) all0)
      have N182 := Fr.app N181 N182q
      show zEnds p e below s T182 (mkF m 76 #[iv p1, iv p2, iv 3, iv 2, rv b173, .unset, .unset, .unset, .unset, .unset] []) _ _ _
      refine ziloadN X182 hx hby at_76 rfl (ziconst X182 hx hby at_77 (z := (3 : Int32)) rfl (zicmpYes X182 hx hby at_78 86 (by decide) (by decide) (by decide) (zaload X182 hx hby at_86 rfl rfl (zcallv X182 hx hby at_88 hZ hown (w17 hw) (w18 hw) (notFace_of_selects (args := #[]) (mvT hZ (w20 hw))) (w20 hw) (w19 hw) (w21 hw) (w2 hw) e182 E182_b173 (c9_isSpent l hw [] ⟨S_w_STEP, S_w_PAUSE, E_w_STEP, E_w_PAUSE, F_w_STEP_ordinal, F_w_PAUSE_ordinal, S_w_arr0, A_w_arr0, A_w_arr0_1, A_w_arr0_0, A_w_arr0_2⟩ O182 (Nat.le_trans Z0 K182.1) b173 g173 E182_b173 F182_b173_left) (by decide) (by rw [hml]; rfl) 0 (Nat.le_of_eq rfl) (by decide) (by decide) (by decide) (by decide) pd_1 rfl (argsL := []) (st := []) rfl (zpureK ⟨rfl, rfl⟩ fun T183 X183 e183 => ?_)))))
      show zEnds p e below s T183 (mkF m 91 #[iv p1, iv p2, iv 3, iv 2, rv b173, .unset, .unset, .unset, .unset, .unset] [(.int 0)]) _ _ _
      refine zistore X183 hx hby at_91 (L' := #[iv p1, iv p2, iv 3, iv 2, rv b173, iv 0, .unset, .unset, .unset, .unset]) rfl (ziloadN X183 hx hby at_93 rfl (zifNo X183 hx hby at_94 (by decide) (ziloadN X183 hx hby at_97 rfl (ziloadN X183 hx hby at_98 rfl (zicmpYes X183 hx hby at_99 106 (by decide) (by decide) (by decide) (ziconst X183 hx hby at_106 (z := (0 : Int32)) rfl (zistore X183 hx hby at_107 (L' := #[iv p1, iv p2, iv 3, iv 2, rv b173, iv 0, iv 0, .unset, .unset, .unset]) rfl (zaload X183 hx hby at_109 rfl rfl (zgetstat X183 hx hby at_111 hZ hown (host := "") (Or.inl (w22 hw)) Via.refl e183 (S_w_STEP.ext O182.2) fun T184 X184 e184 => ?_)))))))))
      show zEnds p e below s T184 (mkF m 114 #[iv p1, iv p2, iv 3, iv 2, rv b173, iv 0, iv 0, .unset, .unset, .unset] [(.ref w_STEP), (.ref b173)]) _ _ _
      refine zcallv X184 hx hby at_114 hZ hown (w25 hw) (w26 hw) (notFace_of_selects (args := #[]) (mvT hZ (w28 hw))) (w28 hw) (w27 hw) (w29 hw) (w2 hw) e184 E182_b173 (c23_obey l hw [] ⟨S_w_STEP, S_w_PAUSE, E_w_STEP, E_w_PAUSE, F_w_STEP_ordinal, F_w_PAUSE_ordinal, S_w_arr0, A_w_arr0, A_w_arr0_1, A_w_arr0_0, A_w_arr0_2⟩ O182 (Nat.le_trans Z0 K182.1) b173 g173 E182_b173 F182_b173_left) (by decide) (by rw [hml]; rfl) 0 (Nat.le_of_eq rfl) (by decide) (by decide) (by decide) (by decide) pd_3 rfl (argsL := [(.ref w_STEP)]) (st := []) rfl fun T185 h185 v185 L185 e185 X185 q185 => ?_
      obtain ⟨rfl, N185q, K185q, E185_b173, F185_b173_left⟩ := q185
      have O185 := O182.keep K185q (allS g173 all0)
      have K185 := Keep.trans K182 K185q (allS (Or.inr z173) all0)
      have N185 := Fr.app N182 N185q
      show zEnds p e below s T185 (mkF m 117 #[iv p1, iv p2, iv 3, iv 2, rv b173, iv 0, iv 0, .unset, .unset, .unset] []) _ _ _
      refine zaload X185 hx hby at_117 rfl rfl (zcallv X185 hx hby at_119 hZ hown (w17 hw) (w18 hw) (notFace_of_selects (args := #[]) (mvT hZ (w20 hw))) (w20 hw) (w19 hw) (w21 hw) (w2 hw) e185 E185_b173 (c25_isSpent l hw [] ⟨S_w_STEP, S_w_PAUSE, E_w_STEP, E_w_PAUSE, F_w_STEP_ordinal, F_w_PAUSE_ordinal, S_w_arr0, A_w_arr0, A_w_arr0_1, A_w_arr0_0, A_w_arr0_2⟩ O185 (Nat.le_trans Z0 K185.1) b173 g173 E185_b173 F185_b173_left) (by decide) (by rw [hml]; rfl) 0 (Nat.le_of_eq rfl) (by decide) (by decide) (by decide) (by decide) pd_1 rfl (argsL := []) (st := []) rfl (zpureK ⟨rfl, rfl⟩ fun T186 X186 e186 => ?_))
      show zEnds p e below s T186 (mkF m 122 #[iv p1, iv p2, iv 3, iv 2, rv b173, iv 0, iv 0, .unset, .unset, .unset] [(.int 0)]) _ _ _
      refine zistore X186 hx hby at_122 (L' := #[iv p1, iv p2, iv 3, iv 2, rv b173, iv 0, iv 0, iv 0, .unset, .unset]) rfl (zaload X186 hx hby at_124 rfl rfl (zcallv X186 hx hby at_126 hZ hown (w12 hw) (w13 hw) (notFace_of_selects (args := #[]) (mvT hZ (w15 hw))) (w15 hw) (w14 hw) (w16 hw) (w2 hw) e186 E185_b173 (c27_spend l hw [] ⟨S_w_STEP, S_w_PAUSE, E_w_STEP, E_w_PAUSE, F_w_STEP_ordinal, F_w_PAUSE_ordinal, S_w_arr0, A_w_arr0, A_w_arr0_1, A_w_arr0_0, A_w_arr0_2⟩ O185 (Nat.le_trans Z0 K185.1) b173 g173 E185_b173 F185_b173_left) (by decide) (by rw [hml]; rfl) 0 (Nat.le_of_eq rfl) (by decide) (by decide) (by decide) (by decide) pd_0 rfl (argsL := []) (st := []) rfl fun T187 h187 v187 L187 e187 X187 q187 => ?_))
      obtain ⟨rfl, N187q, K187q, E187_b173, F187_b173_left⟩ := q187
      have O187 := O185.keep K187q (allS g173 all0)
      have K187 := Keep.trans K185 K187q (allS (Or.inr z173) all0)
      have N187 := Fr.app N185 N187q
      show zEnds p e below s T187 (mkF m 129 #[iv p1, iv p2, iv 3, iv 2, rv b173, iv 0, iv 0, iv 0, .unset, .unset] []) _ _ _
      refine zaload X187 hx hby at_129 rfl rfl (zcallv X187 hx hby at_131 hZ hown (w17 hw) (w18 hw) (notFace_of_selects (args := #[]) (mvT hZ (w20 hw))) (w20 hw) (w19 hw) (w21 hw) (w2 hw) e187 E187_b173 (c9_isSpent l hw [] ⟨S_w_STEP, S_w_PAUSE, E_w_STEP, E_w_PAUSE, F_w_STEP_ordinal, F_w_PAUSE_ordinal, S_w_arr0, A_w_arr0, A_w_arr0_1, A_w_arr0_0, A_w_arr0_2⟩ O187 (Nat.le_trans Z0 K187.1) b173 g173 E187_b173 F187_b173_left) (by decide) (by rw [hml]; rfl) 0 (Nat.le_of_eq rfl) (by decide) (by decide) (by decide) (by decide) pd_1 rfl (argsL := []) (st := []) rfl (zpureK ⟨rfl, rfl⟩ fun T188 X188 e188 => ?_))
      show zEnds p e below s T188 (mkF m 134 #[iv p1, iv p2, iv 3, iv 2, rv b173, iv 0, iv 0, iv 0, .unset, .unset] [(.int 0)]) _ _ _
      refine zistore X188 hx hby at_134 (L' := #[iv p1, iv p2, iv 3, iv 2, rv b173, iv 0, iv 0, iv 0, iv 0, .unset]) rfl (ziloadN X188 hx hby at_136 rfl (zifNo X188 hx hby at_137 (by decide) (ziloadN X188 hx hby at_140 rfl (ziloadN X188 hx hby at_141 rfl (zicmpYes X188 hx hby at_142 149 (by decide) (by decide) (by decide) (ziconst X188 hx hby at_149 (z := (0 : Int32)) rfl (zistore X188 hx hby at_150 (L' := #[iv p1, iv p2, iv 3, iv 2, rv b173, iv 0, iv 0, iv 0, iv 0, iv 0]) rfl (ziload X188 hx hby at_152 rfl (ziload X188 hx hby at_154 rfl ?_)))))))))
      show zEnds p e below s T188 (mkF m 156 #[iv p1, iv p2, iv 3, iv 2, rv b173, iv 0, iv 0, iv 0, iv 0, iv 0] [(.int 0), (.int 0)]) _ _ _
      refine zicmpNo X188 hx hby at_156 (by decide) (ziload X188 hx hby at_159 rfl (zifNo X188 hx hby at_161 (by decide) (ziload X188 hx hby at_164 rfl (ziload X188 hx hby at_166 rfl (zicmpNo X188 hx hby at_168 (by decide) (ziconst X188 hx hby at_171 (z := (1 : Int32)) rfl (zgoto X188 hx hby at_172 176 (by decide) (by decide) ?_)))))))
      show zEnds p e below s T188 (mkF m 176 #[iv p1, iv p2, iv 3, iv 2, rv b173, iv 0, iv 0, iv 0, iv 0, iv 0] [(.int 1)]) _ _ _
      exact zretZ X188 hx hby at_176 hret hlk (by simp) rfl (by decide) (by decide) ⟨rfl, N187⟩
    · rw [q143]
      refine zistoreN X0 hx hby at_7 (L' := #[iv p1, iv p2, iv 3, iv 3, .unset, .unset, .unset, .unset, .unset, .unset]) rfl (znewobj X0 hx hby at_8 hZ hown (w0 hw) (w1 hw) (w2 hw) e0 (by decide) (by decide) fun T189 h189 b189 X189 e189 y189 Ex189 E189_b189 D189 => ?_)
      have O189 := O0.ext Ex189
      have K189 := Keep.ext K0 Ex189
      have g189 : n0 ≤ b189 := by rw [y189]; exact Nat.le_trans Z0 K0.1
      have z189 : h0.size ≤ b189 := by rw [y189]; exact K0.1
      have F189_b189_left : Fld Z h189 b189 "heapglass/core/wire/Allowance" "left" "J" (.long 0) := D189 (Or.inl (w11 hw)) (ty := .long) (by decide)
      refine zdup X189 hx hby at_11 rfl (zcallsp X189 hx hby at_12 hZ hown rfl (w3 hw) (w4 hw) (w5 hw) (w2 hw) e189 (c1_init l hw [] ⟨S_w_STEP, S_w_PAUSE, E_w_STEP, E_w_PAUSE, F_w_STEP_ordinal, F_w_PAUSE_ordinal, S_w_arr0, A_w_arr0, A_w_arr0_1, A_w_arr0_0, A_w_arr0_2⟩ O189 (Nat.le_trans Z0 K189.1) b189 g189 E189_b189 F189_b189_left) (by decide) (by rw [hml]; rfl) 1 (Nat.le_of_eq rfl) (by decide) (by decide) (by decide) (by decide) pd_0 rfl (argsL := []) (st := [(.ref b189)]) rfl fun T190 h190 v190 L190 e190 X190 q190 => ?_)
      obtain ⟨rfl, N190q, K190q, E190_b189, F190_b189_left⟩ := q190
      have O190 := O189.keep K190q (allS g189 all0)
      have K190 := Keep.trans K189 K190q (allS (Or.inr z189) all0)
      have N190 := Fr.app N0 N190q
      show zEnds p e below s T190 (mkF m 15 #[iv p1, iv p2, iv 3, iv 3, .unset, .unset, .unset, .unset, .unset, .unset] [(.ref b189)]) _ _ _
      refine zastore X190 hx hby at_15 (hv := rfl) (L' := #[iv p1, iv p2, iv 3, iv 3, rv b189, .unset, .unset, .unset, .unset, .unset]) rfl (ziloadN X190 hx hby at_17 rfl (ziconst X190 hx hby at_18 (z := (1 : Int32)) rfl (zicmpNo X190 hx hby at_19 (by decide) (zaload X190 hx hby at_22 rfl rfl (zgetstat X190 hx hby at_24 hZ hown (host := "") (Or.inl (w42 hw)) Via.refl e190 (S_w_PAUSE.ext O190.2) fun T191 X191 e191 => (zcallv X191 hx hby at_27 hZ hown (w25 hw) (w26 hw) (notFace_of_selects (args := #[]) (mvT hZ (w28 hw))) (w28 hw) (w27 hw) (w29 hw) (w2 hw) e191 E190_b189 (c17_obey l hw [] ⟨S_w_STEP, S_w_PAUSE, E_w_STEP, E_w_PAUSE, F_w_STEP_ordinal, F_w_PAUSE_ordinal, S_w_arr0, A_w_arr0, A_w_arr0_1, A_w_arr0_0, A_w_arr0_2⟩ O190 (Nat.le_trans Z0 K190.1) b189 g189 E190_b189 F190_b189_left) (by decide) (by rw [hml]; rfl) 0 (Nat.le_of_eq rfl) (by decide) (by decide) (by decide) (by decide) pd_3 rfl (argsL := [(.ref w_PAUSE)]) (st := []) rfl fun T192 h192 v192 L192 e192 X192 q192 => ?_))))))
      obtain ⟨rfl, N192q, K192q, E192_b189, F192_b189_left⟩ := q192
      have O192 := O190.keep K192q (allS g189 all0)
      have K192 := Keep.trans K190 K192q (allS (Or.inr z189) all0)
      have N192 := Fr.app N190 N192q
      show zEnds p e below s T192 (mkF m 30 #[iv p1, iv p2, iv 3, iv 3, rv b189, .unset, .unset, .unset, .unset, .unset] []) _ _ _
      refine ziloadN X192 hx hby at_30 rfl (ziconst X192 hx hby at_31 (z := (2 : Int32)) rfl (zicmpNo X192 hx hby at_32 (by decide) (zaload X192 hx hby at_35 rfl rfl (zgetstat X192 hx hby at_37 hZ hown (host := "") (Or.inl (w22 hw)) Via.refl e192 (S_w_STEP.ext O192.2) fun T193 X193 e193 => (zcallv X193 hx hby at_40 hZ hown (w25 hw) (w26 hw) (notFace_of_selects (args := #[]) (mvT hZ (w28 hw))) (w28 hw) (w27 hw) (w29 hw) (w2 hw) e193 E192_b189 (c23_obey l hw [] ⟨S_w_STEP, S_w_PAUSE, E_w_STEP, E_w_PAUSE, F_w_STEP_ordinal, F_w_PAUSE_ordinal, S_w_arr0, A_w_arr0, A_w_arr0_1, A_w_arr0_0, A_w_arr0_2⟩ O192 (Nat.le_trans Z0 K192.1) b189 g189 E192_b189 F192_b189_left) (by decide) (by rw [hml]; rfl) 0 (Nat.le_of_eq rfl) (by decide) (by decide) (by decide) (by decide) pd_3 rfl (argsL := [(.ref w_STEP)]) (st := []) rfl fun T194 h194 v194 L194 e194 X194 q194 => ?_)))))
      obtain ⟨rfl, N194q, K194q, E194_b189, F194_b189_left⟩ := q194
      have O194 := O192.keep K194q (allS g189 all0)
      have K194 := Keep.trans K192 K194q (allS (Or.inr z189) all0)
      have N194 := Fr.app N192 N194q
      show zEnds p e below s T194 (mkF m 43 #[iv p1, iv p2, iv 3, iv 3, rv b189, .unset, .unset, .unset, .unset, .unset] []) _ _ _
      refine ziloadN X194 hx hby at_43 rfl (ziconst X194 hx hby at_44 (z := (3 : Int32)) rfl (zicmpNo X194 hx hby at_45 (by decide) (zaload X194 hx hby at_48 rfl rfl (zgetstat X194 hx hby at_50 hZ hown (host := "") (Or.inl (w22 hw)) Via.refl e194 (S_w_STEP.ext O194.2) fun T195 X195 e195 => (zcallv X195 hx hby at_53 hZ hown (w25 hw) (w26 hw) (notFace_of_selects (args := #[]) (mvT hZ (w28 hw))) (w28 hw) (w27 hw) (w29 hw) (w2 hw) e195 E194_b189 (c33_obey l hw [] ⟨S_w_STEP, S_w_PAUSE, E_w_STEP, E_w_PAUSE, F_w_STEP_ordinal, F_w_PAUSE_ordinal, S_w_arr0, A_w_arr0, A_w_arr0_1, A_w_arr0_0, A_w_arr0_2⟩ O194 (Nat.le_trans Z0 K194.1) b189 g189 E194_b189 F194_b189_left) (by decide) (by rw [hml]; rfl) 0 (Nat.le_of_eq rfl) (by decide) (by decide) (by decide) (by decide) pd_3 rfl (argsL := [(.ref w_STEP)]) (st := []) rfl fun T196 h196 v196 L196 e196 X196 q196 => ?_)))))
      obtain ⟨rfl, N196q, K196q, E196_b189, F196_b189_left⟩ := q196
      have O196 := O194.keep K196q (allS g189 all0)
      have K196 := Keep.trans K194 K196q (allS (Or.inr z189) all0)
      have N196 := Fr.app N194 N196q
      show zEnds p e below s T196 (mkF m 56 #[iv p1, iv p2, iv 3, iv 3, rv b189, .unset, .unset, .unset, .unset, .unset] []) _ _ _
      refine ziloadN X196 hx hby at_56 rfl (ziconst X196 hx hby at_57 (z := (1 : Int32)) rfl (zicmpNo X196 hx hby at_58 (by decide) (zaload X196 hx hby at_61 rfl rfl (zcallv X196 hx hby at_63 hZ hown (w12 hw) (w13 hw) (notFace_of_selects (args := #[]) (mvT hZ (w15 hw))) (w15 hw) (w14 hw) (w16 hw) (w2 hw) e196 E196_b189 (c37_spend l hw [] ⟨S_w_STEP, S_w_PAUSE, E_w_STEP, E_w_PAUSE, F_w_STEP_ordinal, F_w_PAUSE_ordinal, S_w_arr0, A_w_arr0, A_w_arr0_1, A_w_arr0_0, A_w_arr0_2⟩ O196 (Nat.le_trans Z0 K196.1) b189 g189 E196_b189 F196_b189_left) (by decide) (by rw [hml]; rfl) 0 (Nat.le_of_eq rfl) (by decide) (by decide) (by decide) (by decide) pd_0 rfl (argsL := []) (st := []) rfl fun T197 h197 v197 L197 e197 X197 q197 => ?_))))
      obtain ⟨rfl, N197q, K197q, E197_b189, F197_b189_left⟩ := q197
      have O197 := O196.keep K197q (allS g189 all0)
      have K197 := Keep.trans K196 K197q (allS (Or.inr z189) all0)
      have N197 := Fr.app N196 N197q
      show zEnds p e below s T197 (mkF m 66 #[iv p1, iv p2, iv 3, iv 3, rv b189, .unset, .unset, .unset, .unset, .unset] []) _ _ _
      refine ziloadN X197 hx hby at_66 rfl (ziconst X197 hx hby at_67 (z := (2 : Int32)) rfl (zicmpNo X197 hx hby at_68 (by decide) (zaload X197 hx hby at_71 rfl rfl (zcallv X197 hx hby at_73 hZ hown (w12 hw) (w13 hw) (notFace_of_selects (args := #[]) (mvT hZ (w15 hw))) (w15 hw) (w14 hw) (w16 hw) (w2 hw) e197 E197_b189 (c27_spend l hw [] ⟨S_w_STEP, S_w_PAUSE, E_w_STEP, E_w_PAUSE, F_w_STEP_ordinal, F_w_PAUSE_ordinal, S_w_arr0, A_w_arr0, A_w_arr0_1, A_w_arr0_0, A_w_arr0_2⟩ O197 (Nat.le_trans Z0 K197.1) b189 g189 E197_b189 F197_b189_left) (by decide) (by rw [hml]; rfl) 0 (Nat.le_of_eq rfl) (by decide) (by decide) (by decide) (by decide) pd_0 rfl (argsL := []) (st := []) rfl fun T198 h198 v198 L198 e198 X198 q198 => ?_))))
      obtain ⟨rfl, N198q, K198q, E198_b189, F198_b189_left⟩ := q198
      have O198 := O197.keep K198q (allS g189 all0)
      have K198 := Keep.trans K197 K198q (allS (Or.inr z189) all0)
      have N198 := Fr.app N197 N198q
      show zEnds p e below s T198 (mkF m 76 #[iv p1, iv p2, iv 3, iv 3, rv b189, .unset, .unset, .unset, .unset, .unset] []) _ _ _
      refine ziloadN X198 hx hby at_76 rfl (ziconst X198 hx hby at_77 (z := (3 : Int32)) rfl (zicmpNo X198 hx hby at_78 (by decide) (zaload X198 hx hby at_81 rfl rfl (zcallv X198 hx hby at_83 hZ hown (w12 hw) (w13 hw) (notFace_of_selects (args := #[]) (mvT hZ (w15 hw))) (w15 hw) (w14 hw) (w16 hw) (w2 hw) e198 E198_b189 (c11_spend l hw [] ⟨S_w_STEP, S_w_PAUSE, E_w_STEP, E_w_PAUSE, F_w_STEP_ordinal, F_w_PAUSE_ordinal, S_w_arr0, A_w_arr0, A_w_arr0_1, A_w_arr0_0, A_w_arr0_2⟩ O198 (Nat.le_trans Z0 K198.1) b189 g189 E198_b189 F198_b189_left) (by decide) (by rw [hml]; rfl) 0 (Nat.le_of_eq rfl) (by decide) (by decide) (by decide) (by decide) pd_0 rfl (argsL := []) (st := []) rfl fun T199 h199 v199 L199 e199 X199 q199 => ?_))))
      obtain ⟨rfl, N199q, K199q, E199_b189, F199_b189_left⟩ := q199
      have O199 := O198.keep K199q (allS g189 all0)
      have K199 := Keep.trans K198 K199q (allS (Or.inr z189) all0)
      have N199 := Fr.app N198 N199q
      show zEnds p e below s T199 (mkF m 86 #[iv p1, iv p2, iv 3, iv 3, rv b189, .unset, .unset, .unset, .unset, .unset] []) _ _ _
      refine zaload X199 hx hby at_86 rfl rfl (zcallv X199 hx hby at_88 hZ hown (w17 hw) (w18 hw) (notFace_of_selects (args := #[]) (mvT hZ (w20 hw))) (w20 hw) (w19 hw) (w21 hw) (w2 hw) e199 E199_b189 (c13_isSpent l hw [] ⟨S_w_STEP, S_w_PAUSE, E_w_STEP, E_w_PAUSE, F_w_STEP_ordinal, F_w_PAUSE_ordinal, S_w_arr0, A_w_arr0, A_w_arr0_1, A_w_arr0_0, A_w_arr0_2⟩ O199 (Nat.le_trans Z0 K199.1) b189 g189 E199_b189 F199_b189_left) (by decide) (by rw [hml]; rfl) 0 (Nat.le_of_eq rfl) (by decide) (by decide) (by decide) (by decide) pd_1 rfl (argsL := []) (st := []) rfl (zpureK ⟨rfl, rfl⟩ fun T200 X200 e200 => ?_))
      show zEnds p e below s T200 (mkF m 91 #[iv p1, iv p2, iv 3, iv 3, rv b189, .unset, .unset, .unset, .unset, .unset] [(.int 1)]) _ _ _
      refine zistore X200 hx hby at_91 (L' := #[iv p1, iv p2, iv 3, iv 3, rv b189, iv 1, .unset, .unset, .unset, .unset]) rfl (ziloadN X200 hx hby at_93 rfl (zifNo X200 hx hby at_94 (by decide) (ziloadN X200 hx hby at_97 rfl (ziloadN X200 hx hby at_98 rfl (zicmpNo X200 hx hby at_99 (by decide) (ziconst X200 hx hby at_102 (z := (1 : Int32)) rfl (zgoto X200 hx hby at_103 107 (by decide) (by decide) (zistore X200 hx hby at_107 (L' := #[iv p1, iv p2, iv 3, iv 3, rv b189, iv 1, iv 1, .unset, .unset, .unset]) rfl (zaload X200 hx hby at_109 rfl rfl ?_)))))))))
      show zEnds p e below s T200 (mkF m 111 #[iv p1, iv p2, iv 3, iv 3, rv b189, iv 1, iv 1, .unset, .unset, .unset] [(.ref b189)]) _ _ _
      refine zgetstat X200 hx hby at_111 hZ hown (host := "") (Or.inl (w22 hw)) Via.refl e200 (S_w_STEP.ext O199.2) fun T201 X201 e201 => (zcallv X201 hx hby at_114 hZ hown (w25 hw) (w26 hw) (notFace_of_selects (args := #[]) (mvT hZ (w28 hw))) (w28 hw) (w27 hw) (w29 hw) (w2 hw) e201 E199_b189 (c29_obey l hw [] ⟨S_w_STEP, S_w_PAUSE, E_w_STEP, E_w_PAUSE, F_w_STEP_ordinal, F_w_PAUSE_ordinal, S_w_arr0, A_w_arr0, A_w_arr0_1, A_w_arr0_0, A_w_arr0_2⟩ O199 (Nat.le_trans Z0 K199.1) b189 g189 E199_b189 F199_b189_left) (by decide) (by rw [hml]; rfl) 0 (Nat.le_of_eq rfl) (by decide) (by decide) (by decide) (by decide) pd_3 rfl (argsL := [(.ref w_STEP)]) (st := []) rfl fun T202 h202 v202 L202 e202 X202 q202 => ?_)
      obtain ⟨rfl, N202q, K202q, E202_b189, F202_b189_left⟩ := q202
      have O202 := O199.keep K202q (allS g189 all0)
      have K202 := Keep.trans K199 K202q (allS (Or.inr z189) all0)
      have N202 := Fr.app N199 N202q
      show zEnds p e below s T202 (mkF m 117 #[iv p1, iv p2, iv 3, iv 3, rv b189, iv 1, iv 1, .unset, .unset, .unset] []) _ _ _
      refine zaload X202 hx hby at_117 rfl rfl (zcallv X202 hx hby at_119 hZ hown (w17 hw) (w18 hw) (notFace_of_selects (args := #[]) (mvT hZ (w20 hw))) (w20 hw) (w19 hw) (w21 hw) (w2 hw) e202 E202_b189 (c9_isSpent l hw [] ⟨S_w_STEP, S_w_PAUSE, E_w_STEP, E_w_PAUSE, F_w_STEP_ordinal, F_w_PAUSE_ordinal, S_w_arr0, A_w_arr0, A_w_arr0_1, A_w_arr0_0, A_w_arr0_2⟩ O202 (Nat.le_trans Z0 K202.1) b189 g189 E202_b189 F202_b189_left) (by decide) (by rw [hml]; rfl) 0 (Nat.le_of_eq rfl) (by decide) (by decide) (by decide) (by decide) pd_1 rfl (argsL := []) (st := []) rfl (zpureK ⟨rfl, rfl⟩ fun T203 X203 e203 => ?_))
      show zEnds p e below s T203 (mkF m 122 #[iv p1, iv p2, iv 3, iv 3, rv b189, iv 1, iv 1, .unset, .unset, .unset] [(.int 0)]) _ _ _
      refine zistore X203 hx hby at_122 (L' := #[iv p1, iv p2, iv 3, iv 3, rv b189, iv 1, iv 1, iv 0, .unset, .unset]) rfl (zaload X203 hx hby at_124 rfl rfl (zcallv X203 hx hby at_126 hZ hown (w12 hw) (w13 hw) (notFace_of_selects (args := #[]) (mvT hZ (w15 hw))) (w15 hw) (w14 hw) (w16 hw) (w2 hw) e203 E202_b189 (c11_spend l hw [] ⟨S_w_STEP, S_w_PAUSE, E_w_STEP, E_w_PAUSE, F_w_STEP_ordinal, F_w_PAUSE_ordinal, S_w_arr0, A_w_arr0, A_w_arr0_1, A_w_arr0_0, A_w_arr0_2⟩ O202 (Nat.le_trans Z0 K202.1) b189 g189 E202_b189 F202_b189_left) (by decide) (by rw [hml]; rfl) 0 (Nat.le_of_eq rfl) (by decide) (by decide) (by decide) (by decide) pd_0 rfl (argsL := []) (st := []) rfl fun T204 h204 v204 L204 e204 X204 q204 => ?_))
      obtain ⟨rfl, N204q, K204q, E204_b189, F204_b189_left⟩ := q204
      have O204 := O202.keep K204q (allS g189 all0)
      have K204 := Keep.trans K202 K204q (allS (Or.inr z189) all0)
      have N204 := Fr.app N202 N204q
      show zEnds p e below s T204 (mkF m 129 #[iv p1, iv p2, iv 3, iv 3, rv b189, iv 1, iv 1, iv 0, .unset, .unset] []) _ _ _
      refine zaload X204 hx hby at_129 rfl rfl (zcallv X204 hx hby at_131 hZ hown (w17 hw) (w18 hw) (notFace_of_selects (args := #[]) (mvT hZ (w20 hw))) (w20 hw) (w19 hw) (w21 hw) (w2 hw) e204 E204_b189 (c13_isSpent l hw [] ⟨S_w_STEP, S_w_PAUSE, E_w_STEP, E_w_PAUSE, F_w_STEP_ordinal, F_w_PAUSE_ordinal, S_w_arr0, A_w_arr0, A_w_arr0_1, A_w_arr0_0, A_w_arr0_2⟩ O204 (Nat.le_trans Z0 K204.1) b189 g189 E204_b189 F204_b189_left) (by decide) (by rw [hml]; rfl) 0 (Nat.le_of_eq rfl) (by decide) (by decide) (by decide) (by decide) pd_1 rfl (argsL := []) (st := []) rfl (zpureK ⟨rfl, rfl⟩ fun T205 X205 e205 => ?_))
      show zEnds p e below s T205 (mkF m 134 #[iv p1, iv p2, iv 3, iv 3, rv b189, iv 1, iv 1, iv 0, .unset, .unset] [(.int 1)]) _ _ _
      refine zistore X205 hx hby at_134 (L' := #[iv p1, iv p2, iv 3, iv 3, rv b189, iv 1, iv 1, iv 0, iv 1, .unset]) rfl (ziloadN X205 hx hby at_136 rfl (zifNo X205 hx hby at_137 (by decide) (ziloadN X205 hx hby at_140 rfl (ziloadN X205 hx hby at_141 rfl (zicmpNo X205 hx hby at_142 (by decide) (ziconst X205 hx hby at_145 (z := (1 : Int32)) rfl (zgoto X205 hx hby at_146 150 (by decide) (by decide) (zistore X205 hx hby at_150 (L' := #[iv p1, iv p2, iv 3, iv 3, rv b189, iv 1, iv 1, iv 0, iv 1, iv 1]) rfl (ziload X205 hx hby at_152 rfl ?_)))))))))
      show zEnds p e below s T205 (mkF m 154 #[iv p1, iv p2, iv 3, iv 3, rv b189, iv 1, iv 1, iv 0, iv 1, iv 1] [(.int 1)]) _ _ _
      refine ziload X205 hx hby at_154 rfl (zicmpNo X205 hx hby at_156 (by decide) (ziload X205 hx hby at_159 rfl (zifNo X205 hx hby at_161 (by decide) (ziload X205 hx hby at_164 rfl (ziload X205 hx hby at_166 rfl (zicmpNo X205 hx hby at_168 (by decide) (ziconst X205 hx hby at_171 (z := (1 : Int32)) rfl (zgoto X205 hx hby at_172 176 (by decide) (by decide) ?_))))))))
      show zEnds p e below s T205 (mkF m 176 #[iv p1, iv p2, iv 3, iv 3, rv b189, iv 1, iv 1, iv 0, iv 1, iv 1] [(.int 1)]) _ _ _
      exact zretZ X205 hx hby at_176 hret hlk (by simp) rfl (by decide) (by decide) ⟨rfl, N204⟩
set_option maxRecDepth 65536 in
set_option maxHeartbeats 40000000 in
theorem comes_1 {Post : Tables → Env → Array Value → State → Outcome → State → Prop} (hpost : ∀ tb e args s v u, (limb_1_1.after args s (.returned v) u = true ∧ limb_1_2.after args s (.returned v) u = true ∧ True) → FrameEnd s (.returned v) u (Jvm.fieldLocs frame_1_writes args s ++ Jvm.arrayLocs frame_1_arrays args s ++ Jvm.staticLocs frame_1_statics s) 16 128 → Post tb e args s (.returned v) u) :
    ArmFor flags0 classFile x code maxLocals ret World_1 tables_1 room_1 Calls_1 rest_1 Pre_1 Post := by
  intro l hfl _ _ p e ha hc hk s m args below hf hA hF happ hP
  obtain ⟨hcalls, hrest, hpre⟩ := hP
  obtain ⟨-, -, -, hnamed, -, -, -, hat⟩ := (Spec.applies_iff hf).mp happ
  obtain ⟨hg, hn⟩ := and_e (Cond.before_iff.mp (show (Jvm.Cond.and given_1 narrow_1).before args s = true from hpre))
  obtain ⟨gc, hg⟩ := and_e hg
  obtain ⟨g0, hg⟩ := and_e hg
  obtain ⟨u0, u1, rfl⟩ : ∃ u0 u1 : Value, args = #[u0, u1] := by
    have hs : args.size = 2 := by simpa [Cond.value, given_1] using gc
    obtain ⟨L⟩ := args
    match L, hs with
    | [u0, u1], _ => exact ⟨u0, u1, rfl⟩
  obtain ⟨i0, ei0⟩ := is_v g0
  obtain rfl : u0 = (.int i0) := Option.some.inj ei0
  obtain ⟨i1, ei1⟩ := is_v hg
  obtain rfl : u1 = (.int i1) := Option.some.inj ei1
  have hw := fun d (hd : d ∈ tables_1) => atoms_spec (ws := Jvm.Cond.code x code maxLocals ret :: tables_1) hat d (List.mem_cons_of_mem _ hd)
  obtain ⟨n1, n2⟩ := and_e hn
  obtain ⟨n3, n4⟩ := and_e n2
  obtain ⟨n5, n6⟩ := and_e n4
  obtain ⟨n7, n8⟩ := and_e n6
  obtain ⟨n9, n10⟩ := and_e n8
  obtain ⟨n11, n12⟩ := and_e n10
  obtain ⟨n13, n14⟩ := and_e n12
  obtain ⟨n15, n16⟩ := and_e n14
  obtain ⟨w_arr0, v_w_arr0⟩ := arr_v n3
  obtain ⟨cl_arr0, A_w_arr0⟩ := Arr.start v_w_arr0 n3
  have S_w_arr0 := Sta.start v_w_arr0 (Or.inr ⟨(w31 hw), (w32 hw)⟩)
  have A_w_arr0_1 := zelem_at0 v_w_arr0 A_w_arr0.1 n9
  have A_w_arr0_0 := zelem_at0 v_w_arr0 A_w_arr0.1 n15
  have A_w_arr0_2 := zelem_at0 v_w_arr0 A_w_arr0.1 n16
  obtain ⟨w_STEP, v_w_STEP⟩ := exa_v n1
  have E_w_STEP := Exa.start v_w_STEP n1
  have S_w_STEP := Sta.start v_w_STEP (Or.inr ⟨(w23 hw), (w24 hw)⟩)
  obtain ⟨w_PAUSE, v_w_PAUSE⟩ := exa_v n11
  have E_w_PAUSE := Exa.start v_w_PAUSE n11
  have S_w_PAUSE := Sta.start v_w_PAUSE (Or.inr ⟨(w23 hw), (w43 hw)⟩)
  have F_w_STEP_ordinal := zfld_int v_w_STEP n7
  have F_w_PAUSE_ordinal := zfld_int v_w_PAUSE n13
  obtain ⟨n, o, h1, h2, h3, _, L, rfl, ⟨rfl, N⟩, hq⟩ := rm0 l (Z := s) hw tables_1 (h0 := s.heap) (n0 := s.heap.size) ⟨S_w_STEP, S_w_PAUSE, E_w_STEP, E_w_PAUSE, F_w_STEP_ordinal, F_w_PAUSE_ordinal, S_w_arr0, A_w_arr0, A_w_arr0_1, A_w_arr0_0, A_w_arr0_2⟩ (Old.start s) (Nat.le_refl _) i0 i1 p e ha hc hk s m _ below hf ((Spec.applies_iff_loose hf).mp happ).1 ⟨rfl, State.Warmed39.refl s, rfl⟩ trivial
  refine ⟨n, _, h1, h2, h3, hpost _ _ _ _ _ _ ⟨Cond.after_iff.mpr rfl, Cond.after_iff.mpr (eq_i res_at (Term.int_eval (1)) rfl), trivial⟩ ⟨hq.1, hq.2.1, (hq.2.2.sift fun y hy => Or.inr (N y hy)).mono (by decide) (by decide)⟩⟩
theorem main_1_1 : Claimed_1_1 := comes_1 fun _ _ _ _ _ _ h hF => ⟨h.1, hF⟩
theorem main_1_2 : Claimed_1_2 := comes_1 fun _ _ _ _ _ _ h hF => ⟨h.2.1, hF⟩
end Jvm.Pilot.@@N@@
namespace Jvm.Pilot.@@N@@
open Jvm Jvm.ClassFile Sem Op Lib Jvm.Free Jvm.Stand Jvm.Pilot.@@N@@.Jvm.D
/-! MADE BY PROGRAM (witnessworld.py) out of the Statement's table words and the real class files: 15 classes; the members and pool entries that the words name. The judged class is class 1, her method 1. -/
namespace start1
open Jvm.ClassFile
def u (s : String) : CpInfo := .utf8 (stringToUtf16 s)
/-- a pool by its gaps: so many unusable entries, then the entry; so many at the end -/
def gap : Nat → List CpInfo → List CpInfo
  | 0, r => r
  | n + 1, r => .unusable :: gap n r
def poolList (es : List (Nat × CpInfo)) (last : Nat) : List CpInfo := es.foldr (fun e r => gap e.1 (e.2 :: r)) (gap last [])
def pool (es : List (Nat × CpInfo)) (last : Nat) : Array CpInfo := ⟨poolList es last⟩
def fileOf (pool : Array CpInfo) (this : Nat) (attrs : Array Attribute := #[]) (ms : Array MethodInfo := #[]) (fl : Nat := 33) (sup : Nat := 0) (ifs : Array Nat := #[]) (fds : Array FieldInfo := #[]) : ClassFile where
  minorVersion := 0
  majorVersion := 65
  constantPool := pool
  accessFlags := fl
  thisClass := this
  superClass := sup
  interfaces := ifs
  fields := fds
  methods := ms
  attributes := attrs
def plain (name : String) (sup : Option ClassId) : Class where
  name := name
  kind := .ordinary
  loader := none
  accessFlags := 33
  super := sup
  interfaces := #[]
  cf := none
  fields := #[]
  methods := #[]
  instanceTypes := #[]
  staticTypes := #[]
  resolved := #[]
  callSites := []
  init := .initialized
  statics := none
  mirror := none

def pool0 : Array CpInfo := pool [(5, u "<init>"), (0, u "()V"), (1, .class_ 10), (1, u "java/lang/Object")] 113

def k0c0 : Code := { maxStack := 0, maxLocals := 1, code := object_method_1_code, exceptionTable := #[], attributes := #[] }
def k0m0 : Method := { name := "<init>", desc := "()V", sig := { parameters := [], returnType := none }, accessFlags := 1, code := some k0c0 }
/-- java/lang/Object -/
def k0 : Class := { plain "java/lang/Object" none with
  accessFlags := 33
  interfaces := #[]
  cf := some (fileOf pool0 8 #[] #[{ accessFlags := 1, nameIndex := 5, descriptorIndex := 6, attributes := #[] }] 33 0 #[] #[])
  fields := #[]
  methods := #[k0m0]
  instanceTypes := #[]
  staticTypes := #[]
  resolved := Array.replicate 124 none
  statics := none }

def pool1 : Array CpInfo := pool [(2, .class_ 4), (0, .nameAndType 5 6), (0, u "java/lang/Object"), (0, u "<init>"), (0, u "()V"), (0, .class_ 8), (0, u "heapglass/core/wire/Allowance"), (0, .methodref 7 3), (0, .fieldref 11 12), (0, .class_ 13), (0, .nameAndType 14 15), (0, u "heapglass/core/wire/Control"), (0, u "PAUSE"), (0, u "Lheapglass/core/wire/Control;"), (0, .methodref 7 17), (0, .nameAndType 18 19), (0, u "obey"), (0, u "(Lheapglass/core/wire/Control;)V"), (0, .fieldref 11 21), (0, .nameAndType 22 15), (0, u "STEP"), (0, .methodref 7 24), (0, .nameAndType 25 6), (0, u "spend"), (0, .methodref 7 27), (0, .nameAndType 28 29), (0, u "isSpent"), (0, u "()Z"), (0, .class_ 31), (0, u "heapglass/core/wire/AllowanceSpendPinLaw"), (2, u "law"), (0, u "(II)Z")] 3

def k1m0 : Method := { name := "<init>", desc := "()V", sig := { parameters := [], returnType := none }, accessFlags := 1, code := none }
def k1c1 : Code := { maxStack := 2, maxLocals := 10, code := code, exceptionTable := #[], attributes := #[] }
def k1m1 : Method := { name := "law", desc := "(II)Z", sig := { parameters := [.int, .int], returnType := some .boolean }, accessFlags := 9, code := some k1c1 }
/-- heapglass/core/wire/AllowanceSpendPinLaw -/
def k1 : Class := { plain "heapglass/core/wire/AllowanceSpendPinLaw" (some 0) with
  accessFlags := 49
  interfaces := #[]
  cf := some (fileOf pool1 30 #[] #[{ accessFlags := 1, nameIndex := 5, descriptorIndex := 6, attributes := #[] }, { accessFlags := 9, nameIndex := 34, descriptorIndex := 35, attributes := #[] }] 49 2 #[] #[])
  fields := #[]
  methods := #[k1m0, k1m1]
  instanceTypes := #[]
  staticTypes := #[]
  resolved := Array.replicate 39 none
  statics := none }

def pool2 : Array CpInfo := pool [(3, .methodref 4 5), (0, .class_ 6), (0, .nameAndType 7 8), (0, u "java/lang/Object"), (0, u "<init>"), (0, u "()V"), (0, .class_ 10), (0, u "heapglass/core/wire/Allowance"), (0, .long 9223372036854775807), (1, .fieldref 9 14), (0, .nameAndType 15 16), (0, u "left"), (0, u "J"), (0, .fieldref 18 19), (0, .class_ 20), (0, .nameAndType 21 22), (0, u "heapglass/core/wire/Allowance$1"), (0, u "$SwitchMap$heapglass$core$wire$Control"), (0, u "[I"), (0, .methodref 24 25), (0, .class_ 26), (0, .nameAndType 27 28), (0, u "heapglass/core/wire/Control"), (0, u "ordinal"), (0, u "()I"), (5, .methodref 35 36), (0, .class_ 37), (0, .nameAndType 38 39), (0, u "java/lang/Math"), (0, u "min"), (0, u "(JJ)J"), (0, u "UNLIMITED"), (3, u "obey"), (0, u "(Lheapglass/core/wire/Control;)V"), (1, u "spend"), (0, u "isSpent"), (0, u "()Z")] 4

def k2c0 : Code := { maxStack := 3, maxLocals := 1, code := prog_9_method_1_code, exceptionTable := #[], attributes := #[] }
def k2m0 : Method := { name := "<init>", desc := "()V", sig := { parameters := [], returnType := none }, accessFlags := 1, code := some k2c0 }
def k2c1 : Code := { maxStack := 5, maxLocals := 2, code := prog_9_method_2_code, exceptionTable := #[], attributes := #[] }
def k2m1 : Method := { name := "obey", desc := "(Lheapglass/core/wire/Control;)V", sig := { parameters := [(.object "heapglass/core/wire/Control")], returnType := none }, accessFlags := 1, code := some k2c1 }
def k2c2 : Code := { maxStack := 5, maxLocals := 1, code := prog_9_method_3_code, exceptionTable := #[], attributes := #[] }
def k2m2 : Method := { name := "spend", desc := "()V", sig := { parameters := [], returnType := none }, accessFlags := 1, code := some k2c2 }
def k2c3 : Code := { maxStack := 4, maxLocals := 1, code := prog_9_method_4_code, exceptionTable := #[], attributes := #[] }
def k2m3 : Method := { name := "isSpent", desc := "()Z", sig := { parameters := [], returnType := some .boolean }, accessFlags := 1, code := some k2c3 }
/-- heapglass/core/wire/Allowance -/
def k2 : Class := { plain "heapglass/core/wire/Allowance" (some 0) with
  accessFlags := 49
  interfaces := #[]
  cf := some (fileOf pool2 9 #[.nestMembers #[18]] #[{ accessFlags := 1, nameIndex := 7, descriptorIndex := 8, attributes := #[] }, { accessFlags := 1, nameIndex := 44, descriptorIndex := 45, attributes := #[] }, { accessFlags := 1, nameIndex := 47, descriptorIndex := 8, attributes := #[] }, { accessFlags := 1, nameIndex := 48, descriptorIndex := 49, attributes := #[] }] 49 4 #[] #[{ accessFlags := 26, nameIndex := 40, descriptorIndex := 16, attributes := #[] }, { accessFlags := 2, nameIndex := 15, descriptorIndex := 16, attributes := #[] }])
  fields := #[{ name := "UNLIMITED", type := .long, accessFlags := 26, slot := 0, constantValue := 0 }, { name := "left", type := .long, accessFlags := 2, slot := 0, constantValue := 0 }]
  methods := #[k2m0, k2m1, k2m2, k2m3]
  instanceTypes := #[.long]
  staticTypes := #[.long]
  resolved := Array.replicate 54 none
  statics := none }

def pool3 : Array CpInfo := pool [(1, .class_ 2), (0, u "java/lang/constant/Constable"), (0, .class_ 4), (0, u "java/lang/Object")] 6

/-- java/lang/constant/Constable -/
def k3 : Class := { plain "java/lang/constant/Constable" (some 0) with
  accessFlags := 1537
  interfaces := #[]
  cf := some (fileOf pool3 1 #[] #[] 1537 3 #[] #[])
  fields := #[]
  methods := #[]
  instanceTypes := #[]
  staticTypes := #[]
  resolved := Array.replicate 11 none
  statics := none }

def pool4 : Array CpInfo := pool [(1, .class_ 2), (0, u "java/lang/Comparable"), (0, .class_ 4), (0, u "java/lang/Object")] 7

/-- java/lang/Comparable -/
def k4 : Class := { plain "java/lang/Comparable" (some 0) with
  accessFlags := 1537
  interfaces := #[]
  cf := some (fileOf pool4 1 #[] #[] 1537 3 #[] #[])
  fields := #[]
  methods := #[]
  instanceTypes := #[]
  staticTypes := #[]
  resolved := Array.replicate 12 none
  statics := none }

def pool5 : Array CpInfo := pool [(1, .class_ 2), (0, u "java/io/Serializable"), (0, .class_ 4), (0, u "java/lang/Object")] 2

/-- java/io/Serializable -/
def k5 : Class := { plain "java/io/Serializable" (some 0) with
  accessFlags := 1537
  interfaces := #[]
  cf := some (fileOf pool5 1 #[] #[] 1537 3 #[] #[])
  fields := #[]
  methods := #[]
  instanceTypes := #[]
  staticTypes := #[]
  resolved := Array.replicate 7 none
  statics := none }

def pool6 : Array CpInfo := pool [(2, .class_ 4), (1, u "java/lang/Enum"), (0, u "name"), (0, u "Ljava/lang/String;"), (0, .fieldref 2 8), (0, .nameAndType 9 10), (0, u "ordinal"), (0, u "I"), (1, .class_ 14), (1, u "java/lang/Object"), (4, u "hash"), (86, .class_ 108), (1, u "java/lang/Enum$EnumDesc"), (2, .class_ 112), (0, u "java/lang/constant/Constable"), (0, .class_ 114), (0, u "java/lang/Comparable"), (0, .class_ 116), (0, u "java/io/Serializable"), (9, u "()I")] 77

def k6c0 : Code := { maxStack := 1, maxLocals := 1, code := jdk_37_method_2_code, exceptionTable := #[], attributes := #[] }
def k6m0 : Method := { name := "ordinal", desc := "()I", sig := { parameters := [], returnType := some .int }, accessFlags := 17, code := some k6c0 }
/-- java/lang/Enum -/
def k6 : Class := { plain "java/lang/Enum" (some 0) with
  accessFlags := 1057
  interfaces := #[3, 4, 5]
  cf := some (fileOf pool6 2 #[.nestMembers #[106]] #[{ accessFlags := 17, nameIndex := 9, descriptorIndex := 126, attributes := #[] }] 1057 12 #[111, 113, 115] #[{ accessFlags := 18, nameIndex := 5, descriptorIndex := 6, attributes := #[] }, { accessFlags := 18, nameIndex := 9, descriptorIndex := 10, attributes := #[] }, { accessFlags := 2, nameIndex := 19, descriptorIndex := 10, attributes := #[] }])
  fields := #[{ name := "name", type := (.object "java/lang/String"), accessFlags := 18, slot := 0, constantValue := 0 }, { name := "ordinal", type := .int, accessFlags := 18, slot := 1, constantValue := 0 }, { name := "hash", type := .int, accessFlags := 2, slot := 2, constantValue := 0 }]
  methods := #[k6m0]
  instanceTypes := #[(.object "java/lang/String"), .int, .int]
  staticTypes := #[]
  resolved := Array.replicate 204 none
  statics := none }

def pool7 : Array CpInfo := pool [(3, .class_ 4), (0, u "heapglass/core/wire/Control"), (2, u "PAUSE"), (0, u "Lheapglass/core/wire/Control;"), (2, u "STEP"), (2, u "RESUME"), (2, u "$VALUES"), (0, u "[Lheapglass/core/wire/Control;"), (6, .class_ 27), (1, u "java/lang/Enum"), (8, u "type"), (0, u "I"), (54, u "ALL"), (16, u "HEARTBEAT_MILLIS"), (2, u "SILENCE_MILLIS"), (1, u "END"), (1, u "LENGTH_BYTES")] 40

/-- heapglass/core/wire/Control -/
def k7 : Class := { plain "heapglass/core/wire/Control" (some 6) with
  accessFlags := 16433
  interfaces := #[]
  cf := some (fileOf pool7 3 #[] #[] 16433 25 #[] #[{ accessFlags := 16409, nameIndex := 7, descriptorIndex := 8, attributes := #[] }, { accessFlags := 16409, nameIndex := 11, descriptorIndex := 8, attributes := #[] }, { accessFlags := 16409, nameIndex := 14, descriptorIndex := 8, attributes := #[] }, { accessFlags := 25, nameIndex := 109, descriptorIndex := 37, attributes := #[] }, { accessFlags := 25, nameIndex := 112, descriptorIndex := 37, attributes := #[] }, { accessFlags := 26, nameIndex := 92, descriptorIndex := 18, attributes := #[] }, { accessFlags := 26, nameIndex := 114, descriptorIndex := 37, attributes := #[] }, { accessFlags := 26, nameIndex := 116, descriptorIndex := 37, attributes := #[] }, { accessFlags := 18, nameIndex := 36, descriptorIndex := 37, attributes := #[] }, { accessFlags := 4122, nameIndex := 17, descriptorIndex := 18, attributes := #[] }])
  fields := #[{ name := "PAUSE", type := (.object "heapglass/core/wire/Control"), accessFlags := 16409, slot := 0, constantValue := 0 }, { name := "STEP", type := (.object "heapglass/core/wire/Control"), accessFlags := 16409, slot := 1, constantValue := 0 }, { name := "RESUME", type := (.object "heapglass/core/wire/Control"), accessFlags := 16409, slot := 2, constantValue := 0 }, { name := "HEARTBEAT_MILLIS", type := .int, accessFlags := 25, slot := 3, constantValue := 0 }, { name := "SILENCE_MILLIS", type := .int, accessFlags := 25, slot := 4, constantValue := 0 }, { name := "ALL", type := (.array (.object "heapglass/core/wire/Control")), accessFlags := 26, slot := 5, constantValue := 0 }, { name := "END", type := .int, accessFlags := 26, slot := 6, constantValue := 0 }, { name := "LENGTH_BYTES", type := .int, accessFlags := 26, slot := 7, constantValue := 0 }, { name := "type", type := .int, accessFlags := 18, slot := 3, constantValue := 0 }, { name := "$VALUES", type := (.array (.object "heapglass/core/wire/Control")), accessFlags := 4122, slot := 8, constantValue := 0 }]
  methods := #[]
  instanceTypes := #[(.object "java/lang/String"), .int, .int, .int]
  staticTypes := #[(.object "heapglass/core/wire/Control"), (.object "heapglass/core/wire/Control"), (.object "heapglass/core/wire/Control"), .int, .int, (.array (.object "heapglass/core/wire/Control")), .int, .int, (.array (.object "heapglass/core/wire/Control"))]
  resolved := Array.replicate 157 none
  statics := some 0 }

def pool8 : Array CpInfo := pool [(8, .class_ 10), (1, u "heapglass/core/wire/Allowance$1"), (0, u "$SwitchMap$heapglass$core$wire$Control"), (0, u "[I"), (16, .class_ 30), (0, u "java/lang/Object"), (8, .class_ 40), (0, u "heapglass/core/wire/Allowance")] 2

/-- heapglass/core/wire/Allowance$1 -/
def k8 : Class := { plain "heapglass/core/wire/Allowance$1" (some 0) with
  accessFlags := 4128
  interfaces := #[]
  cf := some (fileOf pool8 8 #[.nestHost 39] #[] 4128 29 #[] #[{ accessFlags := 4120, nameIndex := 11, descriptorIndex := 12, attributes := #[] }])
  fields := #[{ name := "$SwitchMap$heapglass$core$wire$Control", type := (.array .int), accessFlags := 4120, slot := 0, constantValue := 0 }]
  methods := #[]
  instanceTypes := #[]
  staticTypes := #[(.array .int)]
  resolved := Array.replicate 43 none
  statics := some 1 }

def pool9 : Array CpInfo := pool [(1, .class_ 2), (0, u "java/lang/Math"), (1, .class_ 6), (1, u "java/lang/Object"), (0, u "<init>"), (0, u "()V"), (89, .class_ 100), (1, u "java/lang/Math$RandomNumberGeneratorHolder"), (20, u "(JJ)J"), (50, u "negativeZeroFloatBits"), (0, u "J"), (2, u "negativeZeroDoubleBits"), (24, u "min"), (43, u "$assertionsDisabled"), (0, u "Z"), (91, u "twoToTheDoubleScaleDown"), (0, u "D"), (4, u "twoToTheDoubleScaleUp"), (9, u "E"), (3, u "PI"), (2, u "TAU"), (2, u "DEGREES_TO_RADIANS"), (0, u "RADIANS_TO_DEGREES")] 94

def k9m0 : Method := { name := "<init>", desc := "()V", sig := { parameters := [], returnType := none }, accessFlags := 2, code := none }
def k9c1 : Code := { maxStack := 4, maxLocals := 4, code := jdk_29_method_70_code, exceptionTable := #[], attributes := #[] }
def k9m1 : Method := { name := "min", desc := "(JJ)J", sig := { parameters := [.long, .long], returnType := some .long }, accessFlags := 9, code := some k9c1 }
/-- java/lang/Math -/
def k9 : Class := { plain "java/lang/Math" (some 0) with
  accessFlags := 49
  interfaces := #[]
  cf := some (fileOf pool9 1 #[.nestMembers #[98]] #[{ accessFlags := 2, nameIndex := 7, descriptorIndex := 8, attributes := #[] }, { accessFlags := 9, nameIndex := 201, descriptorIndex := 121, attributes := #[] }] 49 4 #[] #[{ accessFlags := 25, nameIndex := 354, descriptorIndex := 339, attributes := #[] }, { accessFlags := 25, nameIndex := 358, descriptorIndex := 339, attributes := #[] }, { accessFlags := 25, nameIndex := 361, descriptorIndex := 339, attributes := #[] }, { accessFlags := 26, nameIndex := 364, descriptorIndex := 339, attributes := #[] }, { accessFlags := 26, nameIndex := 365, descriptorIndex := 339, attributes := #[] }, { accessFlags := 26, nameIndex := 172, descriptorIndex := 173, attributes := #[] }, { accessFlags := 26, nameIndex := 176, descriptorIndex := 173, attributes := #[] }, { accessFlags := 8, nameIndex := 344, descriptorIndex := 339, attributes := #[] }, { accessFlags := 8, nameIndex := 338, descriptorIndex := 339, attributes := #[] }, { accessFlags := 4120, nameIndex := 245, descriptorIndex := 246, attributes := #[] }])
  fields := #[{ name := "E", type := .double, accessFlags := 25, slot := 0, constantValue := 0 }, { name := "PI", type := .double, accessFlags := 25, slot := 1, constantValue := 0 }, { name := "TAU", type := .double, accessFlags := 25, slot := 2, constantValue := 0 }, { name := "DEGREES_TO_RADIANS", type := .double, accessFlags := 26, slot := 3, constantValue := 0 }, { name := "RADIANS_TO_DEGREES", type := .double, accessFlags := 26, slot := 4, constantValue := 0 }, { name := "negativeZeroFloatBits", type := .long, accessFlags := 26, slot := 5, constantValue := 0 }, { name := "negativeZeroDoubleBits", type := .long, accessFlags := 26, slot := 6, constantValue := 0 }, { name := "twoToTheDoubleScaleUp", type := .double, accessFlags := 8, slot := 7, constantValue := 0 }, { name := "twoToTheDoubleScaleDown", type := .double, accessFlags := 8, slot := 8, constantValue := 0 }, { name := "$assertionsDisabled", type := .boolean, accessFlags := 4120, slot := 9, constantValue := 0 }]
  methods := #[k9m0, k9m1]
  instanceTypes := #[]
  staticTypes := #[.double, .double, .double, .double, .double, .long, .long, .double, .double, .boolean]
  resolved := Array.replicate 460 none
  statics := none }

def pool10 : Array CpInfo := pool [(1, u "java/lang/Cloneable"), (0, .class_ 1), (0, u "java/lang/Object"), (0, .class_ 3)] 3

/-- java/lang/Cloneable -/
def k10 : Class := { plain "java/lang/Cloneable" (some 0) with
  accessFlags := 1537
  interfaces := #[]
  cf := some (fileOf pool10 2 #[] #[] 1537 4 #[] #[])
  fields := #[]
  methods := #[]
  instanceTypes := #[]
  staticTypes := #[]
  resolved := Array.replicate 8 none
  statics := none }

/-- the primitive byte -/
def k11 : Class := { plain "byte" none with kind := .primitive 'B', accessFlags := 0x411 }
/-- [B -/
def k12 : Class := { plain "[B" (some 0) with kind := .array 11 .byte, interfaces := #[10, 5], accessFlags := 1041 }

/-- the primitive int -/
def k13 : Class := { plain "int" none with kind := .primitive 'I', accessFlags := 0x411 }
/-- [I -/
def k14 : Class := { plain "[I" (some 0) with kind := .array 13 .int, interfaces := #[10, 5], accessFlags := 1041 }

def heap : Heap := #[{ cls := 7, slots := #[.ref 4, .ref 3, .null, .int 0, .int 0, .null, .int 0, .int 0, .null], vm := .statics 7 },
  { cls := 8, slots := #[.ref 2], vm := .statics 8 },
  { cls := 14, slots := #[.int 1, .int 2, .int 3], vm := .none },
  { cls := 7, slots := #[.null, .int 1, .int 0, .int 7], vm := .none },
  { cls := 7, slots := #[.null, .int 0, .int 0, .int 7], vm := .none }]
def classes : Array Class := #[k0, k1, k2, k3, k4, k5, k6, k7, k8, k9, k10, k11, k12, k13, k14]
def interned : List (Array UInt16 × Addr) := []
def slotsUsed : Nat := 21
def theMethod : MethodId := ⟨1, 1⟩
def args0 : Array Value := #[.int 5, .int 6]
def aboutOver (below : List Frame) : State where
  vm := { classes := classes, interned := interned.toArray }
  heap := heap
  slotsUsed := slotsUsed
  threads := #[{ frames := .invoking theMethod args0 :: below }]
def below0 : List Frame := [.native { method := ⟨0, 0⟩, args := #[] }]
def about1 : State := aboutOver below0
def p0 : Program := .bare "" "" ""
def e0 : Env := launch0.env 0 0 0
theorem w_frames : about1.frames = Frame.invoking theMethod args0 :: below0 := rfl
set_option maxRecDepth 65536 in
theorem w_args : argsFit about1.vm theMethod args0 = true := by decide +kernel
set_option maxRecDepth 65536 in
theorem w_heap : heapFits about1 = true := by decide +kernel
set_option maxRecDepth 65536 in
theorem w_runnable : about1.curStatus? = some .runnable := by decide +kernel
set_option maxRecDepth 65536 in
theorem w_alone : about1.alone = true := by decide +kernel
set_option maxRecDepth 65536 in
theorem w_named : about1.methodNamed? x = some theMethod := by decide +kernel
set_option maxRecDepth 65536 in
theorem w_hears : about1.hears theMethod below0 = true := by decide +kernel
set_option maxRecDepth 65536 in
theorem w_ripe : about1.ripe theMethod args0 below0 = true := by decide +kernel
theorem w_running : about1.status = .running := rfl
set_option maxRecDepth 65536 in
theorem w_room : about1.hasRoom e0.platform room_1 = true :=
  launch0.hasRoom_least _ room_1 (by decide +kernel) (by decide +kernel) (by decide +kernel) (by decide +kernel) (by decide +kernel) (by decide +kernel)
theorem allAtoms_all (ts : List Jvm.Cond) (a : Array Jvm.Value) (st : Jvm.State) : (allAtoms ts).before a st = ts.all (fun c => c.before a st) := by
  induction ts with
  | nil => rfl
  | cons c t ih =>
    show (Jvm.Cond.and c (allAtoms t)).before a st = _
    rw [Jvm.Cond.before_and, ih, List.all_cons]
def words1 : List Jvm.Cond := Jvm.Cond.code x code maxLocals ret :: tables_1
/-- a 'code' word, met by the world's own term for the bytes: nothing is compared byte by byte -/
theorem code_word {y : MethodName} {bytes : ByteArray} {mx : Nat} {rt : Option FieldType} {a : Array Value} {s : State} {m : MethodId} {meth : Method} {c : Code} (h1 : s.methodNamed? y = some m) (h2 : s.vm.method? m = some meth) (h3 : meth.code = some c) (h4 : c.code = bytes)
    (h5 : (c.maxLocals == mx && c.exceptionTable.isEmpty && decide (c.maxStack ≤ mostOperands) && decide (meth.sig.returnType = rt) && !meth.locks && decide (parseMethodDescriptor y.desc = some meth.sig)) = true) : (Jvm.Cond.code y bytes mx rt).before a s = true := by
  simp only [Bool.and_eq_true, beq_iff_eq, Bool.not_eq_true', decide_eq_true_eq] at h5
  obtain ⟨⟨⟨⟨⟨g1, g2⟩, g3⟩, g4⟩, g5⟩, g6⟩ := h5
  simp [Cond.before, Cond.holds, Cond.value, h1, h2, h3, h4, g1, g2, g3, g4, g5, g6]
def isCode : Jvm.Cond → Bool
  | .code _ _ _ _ => true
  | _ => false
theorem all_split {L : List Jvm.Cond} {P : Jvm.Cond → Bool} (h1 : L.all (fun c => isCode c || P c) = true) (h2 : ∀ c ∈ L.filter isCode, P c = true) : L.all P = true := by
  refine List.all_eq_true.mpr fun c hc => ?_
  have h := List.all_eq_true.mp h1 c hc
  rcases Bool.eq_false_or_eq_true (isCode c) with hi | hi
  · exact h2 c (List.mem_filter.mpr ⟨hc, hi⟩)
  · simpa [hi] using h
set_option maxRecDepth 65536 in
theorem w_c0 : (Jvm.Cond.code x code maxLocals ret).before args0 about1 = true := code_word (m := ⟨1, 1⟩) (meth := k1m1) (c := k1c1) (by decide +kernel) rfl rfl rfl (by decide +kernel)
set_option maxRecDepth 65536 in
theorem w_c1 : (Jvm.Cond.code ({ cls := "heapglass/core/wire/Allowance", name := "<init>", desc := "()V" } : Jvm.MethodName) prog_9_method_1_code (1 : Nat) (Option.none : Option Jvm.ClassFile.FieldType)).before args0 about1 = true := code_word (m := ⟨2, 0⟩) (meth := k2m0) (c := k2c0) (by decide +kernel) rfl rfl rfl (by decide +kernel)
set_option maxRecDepth 65536 in
theorem w_c2 : (Jvm.Cond.code ({ cls := "java/lang/Object", name := "<init>", desc := "()V" } : Jvm.MethodName) object_method_1_code (1 : Nat) (Option.none : Option Jvm.ClassFile.FieldType)).before args0 about1 = true := code_word (m := ⟨0, 0⟩) (meth := k0m0) (c := k0c0) (by decide +kernel) rfl rfl rfl (by decide +kernel)
set_option maxRecDepth 65536 in
theorem w_c3 : (Jvm.Cond.code ({ cls := "heapglass/core/wire/Allowance", name := "spend", desc := "()V" } : Jvm.MethodName) prog_9_method_3_code (1 : Nat) (Option.none : Option Jvm.ClassFile.FieldType)).before args0 about1 = true := code_word (m := ⟨2, 2⟩) (meth := k2m2) (c := k2c2) (by decide +kernel) rfl rfl rfl (by decide +kernel)
set_option maxRecDepth 65536 in
theorem w_c4 : (Jvm.Cond.code ({ cls := "heapglass/core/wire/Allowance", name := "isSpent", desc := "()Z" } : Jvm.MethodName) prog_9_method_4_code (1 : Nat) (Option.some Jvm.ClassFile.FieldType.boolean)).before args0 about1 = true := code_word (m := ⟨2, 3⟩) (meth := k2m3) (c := k2c3) (by decide +kernel) rfl rfl rfl (by decide +kernel)
set_option maxRecDepth 65536 in
theorem w_c5 : (Jvm.Cond.code ({ cls := "heapglass/core/wire/Allowance", name := "obey", desc := "(Lheapglass/core/wire/Control;)V" } : Jvm.MethodName) prog_9_method_2_code (2 : Nat) (Option.none : Option Jvm.ClassFile.FieldType)).before args0 about1 = true := code_word (m := ⟨2, 1⟩) (meth := k2m1) (c := k2c1) (by decide +kernel) rfl rfl rfl (by decide +kernel)
set_option maxRecDepth 65536 in
theorem w_c6 : (Jvm.Cond.code ({ cls := "java/lang/Enum", name := "ordinal", desc := "()I" } : Jvm.MethodName) jdk_37_method_2_code (1 : Nat) (Option.some Jvm.ClassFile.FieldType.int)).before args0 about1 = true := code_word (m := ⟨6, 0⟩) (meth := k6m0) (c := k6c0) (by decide +kernel) rfl rfl rfl (by decide +kernel)
set_option maxRecDepth 65536 in
theorem w_c7 : (Jvm.Cond.code ({ cls := "java/lang/Math", name := "min", desc := "(JJ)J" } : Jvm.MethodName) jdk_29_method_70_code (4 : Nat) (Option.some Jvm.ClassFile.FieldType.long)).before args0 about1 = true := code_word (m := ⟨9, 1⟩) (meth := k9m1) (c := k9c1) (by decide +kernel) rfl rfl rfl (by decide +kernel)
def codes1 : List Jvm.Cond := [Jvm.Cond.code x code maxLocals ret, Jvm.Cond.code ({ cls := "heapglass/core/wire/Allowance", name := "<init>", desc := "()V" } : Jvm.MethodName) prog_9_method_1_code (1 : Nat) (Option.none : Option Jvm.ClassFile.FieldType), Jvm.Cond.code ({ cls := "java/lang/Object", name := "<init>", desc := "()V" } : Jvm.MethodName) object_method_1_code (1 : Nat) (Option.none : Option Jvm.ClassFile.FieldType), Jvm.Cond.code ({ cls := "heapglass/core/wire/Allowance", name := "spend", desc := "()V" } : Jvm.MethodName) prog_9_method_3_code (1 : Nat) (Option.none : Option Jvm.ClassFile.FieldType), Jvm.Cond.code ({ cls := "heapglass/core/wire/Allowance", name := "isSpent", desc := "()Z" } : Jvm.MethodName) prog_9_method_4_code (1 : Nat) (Option.some Jvm.ClassFile.FieldType.boolean), Jvm.Cond.code ({ cls := "heapglass/core/wire/Allowance", name := "obey", desc := "(Lheapglass/core/wire/Control;)V" } : Jvm.MethodName) prog_9_method_2_code (2 : Nat) (Option.none : Option Jvm.ClassFile.FieldType), Jvm.Cond.code ({ cls := "java/lang/Enum", name := "ordinal", desc := "()I" } : Jvm.MethodName) jdk_37_method_2_code (1 : Nat) (Option.some Jvm.ClassFile.FieldType.int), Jvm.Cond.code ({ cls := "java/lang/Math", name := "min", desc := "(JJ)J" } : Jvm.MethodName) jdk_29_method_70_code (4 : Nat) (Option.some Jvm.ClassFile.FieldType.long)]
set_option maxRecDepth 65536 in
theorem codes_eq : words1.filter isCode = codes1 := rfl
theorem w_codes : ∀ c ∈ words1.filter isCode, c.before args0 about1 = true := by
  rw [codes_eq]
  intro c hc
  simp only [codes1, List.mem_cons, List.not_mem_nil, or_false] at hc
  rcases hc with rfl | rfl | rfl | rfl | rfl | rfl | rfl | rfl
  · exact w_c0
  · exact w_c1
  · exact w_c2
  · exact w_c3
  · exact w_c4
  · exact w_c5
  · exact w_c6
  · exact w_c7
set_option maxRecDepth 65536 in
theorem w_t1 : (words1.take 24).all (fun c => isCode c || c.before args0 about1) = true := by decide +kernel
set_option maxRecDepth 65536 in
theorem w_t2 : ((words1.drop 24).take 24).all (fun c => isCode c || c.before args0 about1) = true := by decide +kernel
set_option maxRecDepth 65536 in
theorem w_t3 : ((words1.drop 24).drop 24).all (fun c => isCode c || c.before args0 about1) = true := by decide +kernel
theorem w_tables : (allAtoms (Jvm.Cond.code x code maxLocals ret :: tables_1)).before args0 about1 = true := by
  rw [allAtoms_all]
  show words1.all (fun c => c.before args0 about1) = true
  refine all_split ?_ w_codes
  rw [← List.take_append_drop 24 words1, List.all_append, w_t1, ← List.take_append_drop 24 (words1.drop 24), List.all_append, w_t2, w_t3]
  rfl
set_option maxRecDepth 65536 in
theorem w_case : (Jvm.Cond.and given_1 narrow_1).before args0 about1 = true := by decide +kernel
theorem w_applies : (headSpec (Jvm.Cond.code x code maxLocals ret :: tables_1) room_1).applies x e0.platform about1 = true :=
  (Spec.applies_iff w_frames).mpr ⟨w_running, w_runnable, w_alone, w_named, w_hears, w_ripe, w_room, w_tables⟩
theorem atStart : AtStart classFile x code maxLocals ret World_1 tables_1 room_1 Calls_1 rest_1 Pre_1 launch0 p0 e0 about1 theMethod args0 below0 :=
  ⟨lists_1, trivial, launch0.admits_env _ _ _, launch0.least_env, fairChoices_fair.cas, fairChoices_fair.clock, w_frames, w_args, w_heap, w_applies, trivial, trivial, w_case⟩
end start1
theorem witness_1 : WitnessClaimed_1 := ⟨start1.p0, start1.e0, start1.about1, start1.theMethod, start1.args0, start1.below0, start1.atStart⟩
end Jvm.Pilot.@@N@@
