import JvmDerived
import JvmDerived.Pilot.@@N@@Statement
import JvmDerived.Pilot.@@N@@Code
set_option linter.unusedVariables false
set_option linter.unusedSimpArgs false
namespace Jvm.OwnKit
open Sem ClassFile Op Lib Jvm.Stand Jvm.Free Jvm.LawKit Jvm.RoadKit
section Own
variable {p : Program} {l : Launch} {e : Env} {R : Room} {s : State} {m : MethodId} {args : Array Value} {below : List Frame} {meth : Method} {c : Code} {T : State} {locs : List Loc} {cells slots : Nat} {Z : State} {a0 : Array Value} {h : Heap} {bytes : ByteArray} {pc : Nat} {Ls : Array Slot} {st : List Value} {cs ss : Nat} {Q : Option Value → Heap → List Loc → Prop}
/-- from the state T with the frame F on top the run comes to the method's end, returns, and Q holds of what it returned, of the heap and of the places written -/
def zEnds (p : Program) (e : Env) (below : List Frame) (s T : State) (F : JFrame) (cs ss : Nat) (Q : Option Value → Heap → List Loc → Prop) : Prop :=
  ∃ s₂ o, Steps p.tables e below (T.setTop F) s₂ ∧ s₂.status = .running ∧ Ended s₂ below o ∧ ∃ v L, o = .returned v ∧ Q v s₂.heap L ∧ FrameEnd s o s₂ L cs ss
theorem zstp {T T' : State} {F F' : JFrame} (st : ∀ target, Steps p.tables e below (T'.setTop F') target → Steps p.tables e below (T.setTop F) target) (k : zEnds p e below s T' F' cs ss Q) : zEnds p e below s T F cs ss Q := by
  obtain ⟨s2, o, h1, r⟩ := k; exact ⟨s2, o, st _ h1, r⟩
/-- what a callee promises: with these arguments, over this heap, it returns, and Q holds -/
def zCon (l : Launch) (Z : State) (y : MethodName) (bytes : ByteArray) (maxL : Nat) (ret : Option FieldType) (ws : List Jvm.Cond) (rm : Room) (as' : Array Value) (h0 : Heap) (Q : Option Value → Heap → List Loc → Prop) : Prop :=
  MetFree l y (head1 (Jvm.Cond.code y bytes maxL ret :: ws) rm) (fun a U => a = as' ∧ Z.Warmed39 U.vm ∧ U.heap = h0) (fun _ _ _ _ _ => True) (fun _ U o U' => ∃ v L, o = .returned v ∧ Q v U'.heap L ∧ FrameEnd U o U' L rm.cells rm.slots)
/-- a callee that writes nothing -/
def zSame (v : Option Value) (h0 : Heap) : Option Value → Heap → List Loc → Prop := fun v' h L => v' = v ∧ h = h0 ∧ L = []
theorem zenter {y : MethodName} {maxL : Nat} {ret : Option FieldType} {ws : List Jvm.Cond} {rm : Room} {as' : Array Value} {h0 : Heap} (hpl : plainFor y = true) {L0 : Array Slot} (hef : ∀ m, entryFrame m as' maxL = mkF m 0 L0 [])
    (H : ∀ (p : Program) (e : Env) (s : State) (m : MethodId) (below : List Frame) (meth : Method) (c : Code) (T : State), p.tables.exec = Jvm.exec → Z.Warmed39 s.vm → c.code = bytes → c.maxLocals = maxL → s.vm.findClass y.cls = some m.cls → meth.name = y.name → meth.sig.returnType = ret → meth.locks = false →
      Stand p l e rm s m as' below meth c T [] 0 0 → T.heap = h0 → zEnds p e below s T (mkF m 0 L0 []) rm.cells rm.slots Q) : zCon l Z y bytes maxL ret ws rm as' h0 Q := by
  refine MetFree.of_bodySF hpl hisR ?_
  intro p e s m args below meth c s₁ Bd hml0 hP hK
  obtain ⟨rfl, hZ, hh⟩ := hP
  have := H p e s m below meth c s₁ Bd.exec hZ Bd.bytes hml0 (findClass_of_methodNamed Bd.named) (name_of_methodNamed Bd.named Bd.method).1 Bd.returns Bd.notSynchronized (Stand.of_body Bd) (by rw [← hh, Bd.state]; rfl)
  rw [← hef m] at this
  exact this
theorem zCon.weak {y : MethodName} {maxL : Nat} {ret : Option FieldType} {ws : List Jvm.Cond} {rm : Room} {as' : Array Value} {h0 : Heap} {Q' : Option Value → Heap → List Loc → Prop} (C : zCon l Z y bytes maxL ret ws rm as' h0 Q) (q : ∀ v h L, Q v h L → Q' v h L) : zCon l Z y bytes maxL ret ws rm as' h0 Q' := by
  intro p e ha hc hk s m args below hf happ hP hK
  obtain ⟨n, o, h1, h2, h3, v, L, h4, h5, h6⟩ := C p e ha hc hk s m args below hf happ hP hK
  exact ⟨n, o, h1, h2, h3, v, L, h4, q v _ L h5, h6⟩
theorem zsameTo {T : State} {F : JFrame} {a b : Value} {h0 : Heap} (k : zEnds p e below s T F cs ss (zSame (some a) h0)) (q : a = b) : zEnds p e below s T F cs ss (zSame (some b) h0) := q ▸ k
/-! returns -/
theorem zretG {w : Value} {t : FieldType} {i : Instr} (X : Stand p l e R s m args below meth c T locs cells slots) (hx : p.tables.exec = Jvm.exec) (hby : c.code = bytes) (hd : decode bytes pc = .ok (i, 1)) (hret : meth.sig.returnType = some t) (hlk : meth.locks = false) (hn : narrow t w = w)
    (hi : (i = .ireturn ∧ (t = .int ∨ t = .boolean ∨ t = .byte ∨ t = .char ∨ t = .short) ∧ ∃ z, w = .int z) ∨ (i = .lreturn ∧ t = .long ∧ ∃ z, w = .long z) ∨ (i = .dreturn ∧ t = .double ∧ ∃ z, w = .double z) ∨ (i = .freturn ∧ t = .float ∧ ∃ z, w = .float z) ∨ (i = .areturn ∧ t.isReference = true ∧ w.isRef = true))
    (hc : cells ≤ cs) (hs : slots ≤ ss) (hq : Q (some w) T.heap locs) : zEnds p e below s T (mkF m pc Ls (w :: st)) cs ss Q := by
  obtain ⟨fs, hr, hrun, hended, hW, hsame⟩ := X.leave (v := some w) (fun q => by rw [hret] at q; cases q) hlk
  exact ⟨_, _, retOut X hx hret hn hi (hb hby hd) hr, hrun, hended, _, _, rfl, hq, ⟨_, rfl⟩, hW, hsame.mono hc hs⟩
theorem zretI {z : Int32} (X : Stand p l e R s m args below meth c T locs cells slots) (hx : p.tables.exec = Jvm.exec) (hby : c.code = bytes) (hd : decode bytes pc = .ok (.ireturn, 1)) (hret : meth.sig.returnType = some .int) (hlk : meth.locks = false) (hc : cells ≤ cs) (hs : slots ≤ ss) (hq : Q (some (.int z)) T.heap locs) : zEnds p e below s T (mkF m pc Ls (.int z :: st)) cs ss Q :=
  zretG X hx hby hd hret hlk rfl (Or.inl ⟨rfl, Or.inl rfl, z, rfl⟩) hc hs hq
theorem zretZ {z : Int32} {t : FieldType} (X : Stand p l e R s m args below meth c T locs cells slots) (hx : p.tables.exec = Jvm.exec) (hby : c.code = bytes) (hd : decode bytes pc = .ok (.ireturn, 1)) (hret : meth.sig.returnType = some t) (hlk : meth.locks = false) (ht : t = .boolean ∨ t = .byte ∨ t = .char ∨ t = .short) (hn : narrow t (.int z) = .int z) (hc : cells ≤ cs) (hs : slots ≤ ss) (hq : Q (some (.int z)) T.heap locs) : zEnds p e below s T (mkF m pc Ls (.int z :: st)) cs ss Q :=
  zretG X hx hby hd hret hlk hn (Or.inl ⟨rfl, Or.inr ht, z, rfl⟩) hc hs hq
theorem zretL {z : Int64} (X : Stand p l e R s m args below meth c T locs cells slots) (hx : p.tables.exec = Jvm.exec) (hby : c.code = bytes) (hd : decode bytes pc = .ok (.lreturn, 1)) (hret : meth.sig.returnType = some .long) (hlk : meth.locks = false) (hc : cells ≤ cs) (hs : slots ≤ ss) (hq : Q (some (.long z)) T.heap locs) : zEnds p e below s T (mkF m pc Ls (.long z :: st)) cs ss Q :=
  zretG X hx hby hd hret hlk rfl (Or.inr (Or.inl ⟨rfl, rfl, z, rfl⟩)) hc hs hq
theorem zretA {w : Value} {t : FieldType} (X : Stand p l e R s m args below meth c T locs cells slots) (hx : p.tables.exec = Jvm.exec) (hby : c.code = bytes) (hd : decode bytes pc = .ok (.areturn, 1)) (hret : meth.sig.returnType = some t) (hlk : meth.locks = false) (ht : t.isReference = true) (hw : w.isRef = true) (hn : narrow t w = w) (hc : cells ≤ cs) (hs : slots ≤ ss) (hq : Q (some w) T.heap locs) : zEnds p e below s T (mkF m pc Ls (w :: st)) cs ss Q :=
  zretG X hx hby hd hret hlk hn (Or.inr (Or.inr (Or.inr (Or.inr ⟨rfl, ht, hw⟩)))) hc hs hq
theorem zretV (X : Stand p l e R s m args below meth c T locs cells slots) (hx : p.tables.exec = Jvm.exec) (hby : c.code = bytes) (hd : decode bytes pc = .ok (.return_, 1)) (hret : meth.sig.returnType = none) (hlk : meth.locks = false) (hc : cells ≤ cs) (hs : slots ≤ ss) (hq : Q none T.heap locs) : zEnds p e below s T (mkF m pc Ls []) cs ss Q := by
  obtain ⟨fs, hr, hrun, hended, hW, hsame⟩ := X.leave (v := none) (fun _ => rfl) hlk
  exact ⟨_, _, X.returnOut hx hret (hb hby hd) hr, hrun, hended, _, _, rfl, hq, ⟨_, rfl⟩, hW, hsame.mono hc hs⟩
/-! single steps -/

theorem ziloadN (X : Stand p l e R s m args below meth c T locs cells slots) (hx : p.tables.exec = Jvm.exec) (hby : c.code = bytes) {k : Fin 4} {v : Int32} (hd : decode bytes pc = .ok (.iload_n k, 1)) (hl : Ls[k.val]? = some (.val (.int v))) (r : zEnds p e below s T (mkF m (pc + 1) Ls (.int v :: st)) cs ss Q) : zEnds p e below s T (mkF m pc Ls st) cs ss Q := zstp (fun _ k => XS.iloadN X.here hx rfl (hb hby hd) hl k) r
theorem ziload (X : Stand p l e R s m args below meth c T locs cells slots) (hx : p.tables.exec = Jvm.exec) (hby : c.code = bytes) {k : Nat} {v : Int32} (hd : decode bytes pc = .ok (.iload k, 2)) (hl : Ls[k]? = some (.val (.int v))) (r : zEnds p e below s T (mkF m (pc + 2) Ls (.int v :: st)) cs ss Q) : zEnds p e below s T (mkF m pc Ls st) cs ss Q := zstp (fun _ k => XS.iload X.here hx rfl (hb hby hd) hl k) r
theorem zlloadN (X : Stand p l e R s m args below meth c T locs cells slots) (hx : p.tables.exec = Jvm.exec) (hby : c.code = bytes) {k : Fin 4} {v : Int64} (hd : decode bytes pc = .ok (.lload_n k, 1)) (hl : Ls[k.val]? = some (.val (.long v))) (r : zEnds p e below s T (mkF m (pc + 1) Ls (.long v :: st)) cs ss Q) : zEnds p e below s T (mkF m pc Ls st) cs ss Q := zstp (fun _ k => XS.lloadN X.here hx rfl (hb hby hd) hl k) r
theorem zlload (X : Stand p l e R s m args below meth c T locs cells slots) (hx : p.tables.exec = Jvm.exec) (hby : c.code = bytes) {k : Nat} {v : Int64} (hd : decode bytes pc = .ok (.lload k, 2)) (hl : Ls[k]? = some (.val (.long v))) (r : zEnds p e below s T (mkF m (pc + 2) Ls (.long v :: st)) cs ss Q) : zEnds p e below s T (mkF m pc Ls st) cs ss Q := zstp (fun _ k => XS.lload X.here hx rfl (hb hby hd) hl k) r
theorem zaloadN (X : Stand p l e R s m args below meth c T locs cells slots) (hx : p.tables.exec = Jvm.exec) (hby : c.code = bytes) {k : Fin 4} {v : Value} (hd : decode bytes pc = .ok (.aload_n k, 1)) (hl : Ls[k.val]? = some (.val v)) (hv : v.isRef = true) (r : zEnds p e below s T (mkF m (pc + 1) Ls (v :: st)) cs ss Q) : zEnds p e below s T (mkF m pc Ls st) cs ss Q := zstp (fun _ k => XS.aloadN X.here hx rfl (hb hby hd) hl hv k) r
theorem zaload (X : Stand p l e R s m args below meth c T locs cells slots) (hx : p.tables.exec = Jvm.exec) (hby : c.code = bytes) {k : Nat} {v : Value} (hd : decode bytes pc = .ok (.aload k, 2)) (hl : Ls[k]? = some (.val v)) (hv : v.isRef = true) (r : zEnds p e below s T (mkF m (pc + 2) Ls (v :: st)) cs ss Q) : zEnds p e below s T (mkF m pc Ls st) cs ss Q := zstp (fun _ k => XS.aload X.here hx rfl (hb hby hd) hl hv k) r
theorem zistoreN (X : Stand p l e R s m args below meth c T locs cells slots) (hx : p.tables.exec = Jvm.exec) (hby : c.code = bytes) {k : Fin 4} {v : Int32} (hd : decode bytes pc = .ok (.istore_n k, 1)) (L' : Array Slot) (hl : storeLocals Ls k.val (.int v) = some L') (r : zEnds p e below s T (mkF m (pc + 1) L' st) cs ss Q) : zEnds p e below s T (mkF m pc Ls (.int v :: st)) cs ss Q := zstp (fun _ k => XS.istoreN X.here hx rfl (hb hby hd) rfl hl k) r
theorem zistore (X : Stand p l e R s m args below meth c T locs cells slots) (hx : p.tables.exec = Jvm.exec) (hby : c.code = bytes) {k : Nat} {v : Int32} (hd : decode bytes pc = .ok (.istore k, 2)) (L' : Array Slot) (hl : storeLocals Ls k (.int v) = some L') (r : zEnds p e below s T (mkF m (pc + 2) L' st) cs ss Q) : zEnds p e below s T (mkF m pc Ls (.int v :: st)) cs ss Q := zstp (fun _ k => XS.istore X.here hx rfl (hb hby hd) rfl hl k) r
theorem zlstoreN (X : Stand p l e R s m args below meth c T locs cells slots) (hx : p.tables.exec = Jvm.exec) (hby : c.code = bytes) {k : Fin 4} {v : Int64} (hd : decode bytes pc = .ok (.lstore_n k, 1)) (L' : Array Slot) (hl : storeLocals Ls k.val (.long v) = some L') (r : zEnds p e below s T (mkF m (pc + 1) L' st) cs ss Q) : zEnds p e below s T (mkF m pc Ls (.long v :: st)) cs ss Q := zstp (fun _ k => XS.lstoreN X.here hx rfl (hb hby hd) rfl hl k) r
theorem zlstore (X : Stand p l e R s m args below meth c T locs cells slots) (hx : p.tables.exec = Jvm.exec) (hby : c.code = bytes) {k : Nat} {v : Int64} (hd : decode bytes pc = .ok (.lstore k, 2)) (L' : Array Slot) (hl : storeLocals Ls k (.long v) = some L') (r : zEnds p e below s T (mkF m (pc + 2) L' st) cs ss Q) : zEnds p e below s T (mkF m pc Ls (.long v :: st)) cs ss Q := zstp (fun _ k => XS.lstore X.here hx rfl (hb hby hd) rfl hl k) r
theorem zastoreN (X : Stand p l e R s m args below meth c T locs cells slots) (hx : p.tables.exec = Jvm.exec) (hby : c.code = bytes) {k : Fin 4} {v : Value} (hd : decode bytes pc = .ok (.astore_n k, 1)) (L' : Array Slot) (hv : v.isRef = true) (hl : storeLocals Ls k.val v = some L') (r : zEnds p e below s T (mkF m (pc + 1) L' st) cs ss Q) : zEnds p e below s T (mkF m pc Ls (v :: st)) cs ss Q := zstp (fun _ k => XS.astoreN X.here hx rfl (hb hby hd) rfl hv hl k) r
theorem zastore (X : Stand p l e R s m args below meth c T locs cells slots) (hx : p.tables.exec = Jvm.exec) (hby : c.code = bytes) {k : Nat} {v : Value} (hd : decode bytes pc = .ok (.astore k, 2)) (L' : Array Slot) (hv : v.isRef = true) (hl : storeLocals Ls k v = some L') (r : zEnds p e below s T (mkF m (pc + 2) L' st) cs ss Q) : zEnds p e below s T (mkF m pc Ls (v :: st)) cs ss Q := zstp (fun _ k => XS.astore X.here hx rfl (hb hby hd) rfl hv hl k) r
theorem ziconst (X : Stand p l e R s m args below meth c T locs cells slots) (hx : p.tables.exec = Jvm.exec) (hby : c.code = bytes) {i : Int} (hd : decode bytes pc = .ok (.iconst i, 1)) (z : Int32) (hz : Int32.ofInt i = z) (r : zEnds p e below s T (mkF m (pc + 1) Ls (.int z :: st)) cs ss Q) : zEnds p e below s T (mkF m pc Ls st) cs ss Q := zstp (fun _ k => XS.iconst X.here hx rfl (hb hby hd) (hz ▸ k)) r
theorem zbipush (X : Stand p l e R s m args below meth c T locs cells slots) (hx : p.tables.exec = Jvm.exec) (hby : c.code = bytes) {i : Int} (hd : decode bytes pc = .ok (.bipush i, 2)) (z : Int32) (hz : (Int8.ofInt i).toInt32 = z) (r : zEnds p e below s T (mkF m (pc + 2) Ls (.int z :: st)) cs ss Q) : zEnds p e below s T (mkF m pc Ls st) cs ss Q := zstp (fun _ k => XS.bipush X.here hx rfl (hb hby hd) (hz ▸ k)) r
theorem zsipush (X : Stand p l e R s m args below meth c T locs cells slots) (hx : p.tables.exec = Jvm.exec) (hby : c.code = bytes) {i : Int} (hd : decode bytes pc = .ok (.sipush i, 3)) (z : Int32) (hz : (Int16.ofInt i).toInt32 = z) (r : zEnds p e below s T (mkF m (pc + 3) Ls (.int z :: st)) cs ss Q) : zEnds p e below s T (mkF m pc Ls st) cs ss Q := zstp (fun _ k => XS.sipush X.here hx rfl (hb hby hd) (hz ▸ k)) r
theorem zlconst (X : Stand p l e R s m args below meth c T locs cells slots) (hx : p.tables.exec = Jvm.exec) (hby : c.code = bytes) {i : Fin 2} (hd : decode bytes pc = .ok (.lconst i, 1)) (z : Int64) (hz : Int64.ofNat i = z) (r : zEnds p e below s T (mkF m (pc + 1) Ls (.long z :: st)) cs ss Q) : zEnds p e below s T (mkF m pc Ls st) cs ss Q := zstp (fun _ k => XS.lconst X.here hx rfl (hb hby hd) (hz ▸ k)) r
theorem zaconstNull (X : Stand p l e R s m args below meth c T locs cells slots) (hx : p.tables.exec = Jvm.exec) (hby : c.code = bytes)  (hd : decode bytes pc = .ok (.aconst_null, 1))  (r : zEnds p e below s T (mkF m (pc + 1) Ls (.null :: st)) cs ss Q) : zEnds p e below s T (mkF m pc Ls st) cs ss Q := zstp (fun _ k => XS.aconstNull X.here hx rfl (hb hby hd) k) r
theorem ziadd (X : Stand p l e R s m args below meth c T locs cells slots) (hx : p.tables.exec = Jvm.exec) (hby : c.code = bytes) {x y : Int32} (hd : decode bytes pc = .ok (.iadd, 1)) (z : Int32) (hz : x + y = z) (r : zEnds p e below s T (mkF m (pc + 1) Ls (.int z :: st)) cs ss Q) : zEnds p e below s T (mkF m pc Ls (.int y :: .int x :: st)) cs ss Q := zstp (fun _ k => XS.iadd X.here hx rfl (hb hby hd) rfl (hz ▸ k)) r
theorem zisub (X : Stand p l e R s m args below meth c T locs cells slots) (hx : p.tables.exec = Jvm.exec) (hby : c.code = bytes) {x y : Int32} (hd : decode bytes pc = .ok (.isub, 1)) (z : Int32) (hz : x - y = z) (r : zEnds p e below s T (mkF m (pc + 1) Ls (.int z :: st)) cs ss Q) : zEnds p e below s T (mkF m pc Ls (.int y :: .int x :: st)) cs ss Q := zstp (fun _ k => XS.isub X.here hx rfl (hb hby hd) rfl (hz ▸ k)) r
theorem zimul (X : Stand p l e R s m args below meth c T locs cells slots) (hx : p.tables.exec = Jvm.exec) (hby : c.code = bytes) {x y : Int32} (hd : decode bytes pc = .ok (.imul, 1)) (z : Int32) (hz : x * y = z) (r : zEnds p e below s T (mkF m (pc + 1) Ls (.int z :: st)) cs ss Q) : zEnds p e below s T (mkF m pc Ls (.int y :: .int x :: st)) cs ss Q := zstp (fun _ k => XS.imul X.here hx rfl (hb hby hd) rfl (hz ▸ k)) r
theorem ziand (X : Stand p l e R s m args below meth c T locs cells slots) (hx : p.tables.exec = Jvm.exec) (hby : c.code = bytes) {x y : Int32} (hd : decode bytes pc = .ok (.iand, 1)) (z : Int32) (hz : x &&& y = z) (r : zEnds p e below s T (mkF m (pc + 1) Ls (.int z :: st)) cs ss Q) : zEnds p e below s T (mkF m pc Ls (.int y :: .int x :: st)) cs ss Q := zstp (fun _ k => XS.iand X.here hx rfl (hb hby hd) rfl (hz ▸ k)) r
theorem zior (X : Stand p l e R s m args below meth c T locs cells slots) (hx : p.tables.exec = Jvm.exec) (hby : c.code = bytes) {x y : Int32} (hd : decode bytes pc = .ok (.ior, 1)) (z : Int32) (hz : x ||| y = z) (r : zEnds p e below s T (mkF m (pc + 1) Ls (.int z :: st)) cs ss Q) : zEnds p e below s T (mkF m pc Ls (.int y :: .int x :: st)) cs ss Q := zstp (fun _ k => XS.ior X.here hx rfl (hb hby hd) rfl (hz ▸ k)) r
theorem zixor (X : Stand p l e R s m args below meth c T locs cells slots) (hx : p.tables.exec = Jvm.exec) (hby : c.code = bytes) {x y : Int32} (hd : decode bytes pc = .ok (.ixor, 1)) (z : Int32) (hz : x ^^^ y = z) (r : zEnds p e below s T (mkF m (pc + 1) Ls (.int z :: st)) cs ss Q) : zEnds p e below s T (mkF m pc Ls (.int y :: .int x :: st)) cs ss Q := zstp (fun _ k => XS.ixor X.here hx rfl (hb hby hd) rfl (hz ▸ k)) r
theorem zishl (X : Stand p l e R s m args below meth c T locs cells slots) (hx : p.tables.exec = Jvm.exec) (hby : c.code = bytes) {x y : Int32} (hd : decode bytes pc = .ok (.ishl, 1)) (z : Int32) (hz : x <<< (y &&& 31) = z) (r : zEnds p e below s T (mkF m (pc + 1) Ls (.int z :: st)) cs ss Q) : zEnds p e below s T (mkF m pc Ls (.int y :: .int x :: st)) cs ss Q := zstp (fun _ k => XS.ishl X.here hx rfl (hb hby hd) rfl (hz ▸ k)) r
theorem zishr (X : Stand p l e R s m args below meth c T locs cells slots) (hx : p.tables.exec = Jvm.exec) (hby : c.code = bytes) {x y : Int32} (hd : decode bytes pc = .ok (.ishr, 1)) (z : Int32) (hz : x >>> (y &&& 31) = z) (r : zEnds p e below s T (mkF m (pc + 1) Ls (.int z :: st)) cs ss Q) : zEnds p e below s T (mkF m pc Ls (.int y :: .int x :: st)) cs ss Q := zstp (fun _ k => XS.ishr X.here hx rfl (hb hby hd) rfl (hz ▸ k)) r
theorem ziushr (X : Stand p l e R s m args below meth c T locs cells slots) (hx : p.tables.exec = Jvm.exec) (hby : c.code = bytes) {x y : Int32} (hd : decode bytes pc = .ok (.iushr, 1)) (z : Int32) (hz : (x.toUInt32 >>> (y &&& 31).toUInt32).toInt32 = z) (r : zEnds p e below s T (mkF m (pc + 1) Ls (.int z :: st)) cs ss Q) : zEnds p e below s T (mkF m pc Ls (.int y :: .int x :: st)) cs ss Q := zstp (fun _ k => XS.iushr X.here hx rfl (hb hby hd) rfl (hz ▸ k)) r
theorem zladd (X : Stand p l e R s m args below meth c T locs cells slots) (hx : p.tables.exec = Jvm.exec) (hby : c.code = bytes) {x y : Int64} (hd : decode bytes pc = .ok (.ladd, 1)) (z : Int64) (hz : x + y = z) (r : zEnds p e below s T (mkF m (pc + 1) Ls (.long z :: st)) cs ss Q) : zEnds p e below s T (mkF m pc Ls (.long y :: .long x :: st)) cs ss Q := zstp (fun _ k => XS.ladd X.here hx rfl (hb hby hd) rfl (hz ▸ k)) r
theorem zlsub (X : Stand p l e R s m args below meth c T locs cells slots) (hx : p.tables.exec = Jvm.exec) (hby : c.code = bytes) {x y : Int64} (hd : decode bytes pc = .ok (.lsub, 1)) (z : Int64) (hz : x - y = z) (r : zEnds p e below s T (mkF m (pc + 1) Ls (.long z :: st)) cs ss Q) : zEnds p e below s T (mkF m pc Ls (.long y :: .long x :: st)) cs ss Q := zstp (fun _ k => XS.lsub X.here hx rfl (hb hby hd) rfl (hz ▸ k)) r
theorem zlmul (X : Stand p l e R s m args below meth c T locs cells slots) (hx : p.tables.exec = Jvm.exec) (hby : c.code = bytes) {x y : Int64} (hd : decode bytes pc = .ok (.lmul, 1)) (z : Int64) (hz : x * y = z) (r : zEnds p e below s T (mkF m (pc + 1) Ls (.long z :: st)) cs ss Q) : zEnds p e below s T (mkF m pc Ls (.long y :: .long x :: st)) cs ss Q := zstp (fun _ k => XS.lmul X.here hx rfl (hb hby hd) rfl (hz ▸ k)) r
theorem zland (X : Stand p l e R s m args below meth c T locs cells slots) (hx : p.tables.exec = Jvm.exec) (hby : c.code = bytes) {x y : Int64} (hd : decode bytes pc = .ok (.land, 1)) (z : Int64) (hz : x &&& y = z) (r : zEnds p e below s T (mkF m (pc + 1) Ls (.long z :: st)) cs ss Q) : zEnds p e below s T (mkF m pc Ls (.long y :: .long x :: st)) cs ss Q := zstp (fun _ k => XS.land X.here hx rfl (hb hby hd) rfl (hz ▸ k)) r
theorem zlor (X : Stand p l e R s m args below meth c T locs cells slots) (hx : p.tables.exec = Jvm.exec) (hby : c.code = bytes) {x y : Int64} (hd : decode bytes pc = .ok (.lor, 1)) (z : Int64) (hz : x ||| y = z) (r : zEnds p e below s T (mkF m (pc + 1) Ls (.long z :: st)) cs ss Q) : zEnds p e below s T (mkF m pc Ls (.long y :: .long x :: st)) cs ss Q := zstp (fun _ k => XS.lor X.here hx rfl (hb hby hd) rfl (hz ▸ k)) r
theorem zlxor (X : Stand p l e R s m args below meth c T locs cells slots) (hx : p.tables.exec = Jvm.exec) (hby : c.code = bytes) {x y : Int64} (hd : decode bytes pc = .ok (.lxor, 1)) (z : Int64) (hz : x ^^^ y = z) (r : zEnds p e below s T (mkF m (pc + 1) Ls (.long z :: st)) cs ss Q) : zEnds p e below s T (mkF m pc Ls (.long y :: .long x :: st)) cs ss Q := zstp (fun _ k => XS.lxor X.here hx rfl (hb hby hd) rfl (hz ▸ k)) r
theorem zlshl (X : Stand p l e R s m args below meth c T locs cells slots) (hx : p.tables.exec = Jvm.exec) (hby : c.code = bytes) {x : Int64} {y : Int32} (hd : decode bytes pc = .ok (.lshl, 1)) (z : Int64) (hz : x <<< (y &&& 0x3f).toInt64 = z) (r : zEnds p e below s T (mkF m (pc + 1) Ls (.long z :: st)) cs ss Q) : zEnds p e below s T (mkF m pc Ls (.int y :: .long x :: st)) cs ss Q := zstp (fun _ k => XS.lshl X.here hx rfl (hb hby hd) rfl (hz ▸ k)) r
theorem zlshr (X : Stand p l e R s m args below meth c T locs cells slots) (hx : p.tables.exec = Jvm.exec) (hby : c.code = bytes) {x : Int64} {y : Int32} (hd : decode bytes pc = .ok (.lshr, 1)) (z : Int64) (hz : x >>> (y &&& 0x3f).toInt64 = z) (r : zEnds p e below s T (mkF m (pc + 1) Ls (.long z :: st)) cs ss Q) : zEnds p e below s T (mkF m pc Ls (.int y :: .long x :: st)) cs ss Q := zstp (fun _ k => XS.lshr X.here hx rfl (hb hby hd) rfl (hz ▸ k)) r
theorem zlushr (X : Stand p l e R s m args below meth c T locs cells slots) (hx : p.tables.exec = Jvm.exec) (hby : c.code = bytes) {x : Int64} {y : Int32} (hd : decode bytes pc = .ok (.lushr, 1)) (z : Int64) (hz : (x.toUInt64 >>> (y &&& 0x3f).toInt64.toUInt64).toInt64 = z) (r : zEnds p e below s T (mkF m (pc + 1) Ls (.long z :: st)) cs ss Q) : zEnds p e below s T (mkF m pc Ls (.int y :: .long x :: st)) cs ss Q := zstp (fun _ k => XS.lushr X.here hx rfl (hb hby hd) rfl (hz ▸ k)) r
theorem zineg (X : Stand p l e R s m args below meth c T locs cells slots) (hx : p.tables.exec = Jvm.exec) (hby : c.code = bytes) {x : Int32} (hd : decode bytes pc = .ok (.ineg, 1)) (z : Int32) (hz : -x = z) (r : zEnds p e below s T (mkF m (pc + 1) Ls (.int z :: st)) cs ss Q) : zEnds p e below s T (mkF m pc Ls (.int x :: st)) cs ss Q := zstp (fun _ k => XS.ineg X.here hx rfl (hb hby hd) rfl (hz ▸ k)) r
theorem zlneg (X : Stand p l e R s m args below meth c T locs cells slots) (hx : p.tables.exec = Jvm.exec) (hby : c.code = bytes) {x : Int64} (hd : decode bytes pc = .ok (.lneg, 1)) (z : Int64) (hz : -x = z) (r : zEnds p e below s T (mkF m (pc + 1) Ls (.long z :: st)) cs ss Q) : zEnds p e below s T (mkF m pc Ls (.long x :: st)) cs ss Q := zstp (fun _ k => XS.lneg X.here hx rfl (hb hby hd) rfl (hz ▸ k)) r
theorem zidiv (X : Stand p l e R s m args below meth c T locs cells slots) (hx : p.tables.exec = Jvm.exec) (hby : c.code = bytes) {x y : Int32} (hd : decode bytes pc = .ok (.idiv, 1)) (z : Int32) (hy : y ≠ 0) (hz : x / y = z) (r : zEnds p e below s T (mkF m (pc + 1) Ls (.int z :: st)) cs ss Q) : zEnds p e below s T (mkF m pc Ls (.int y :: .int x :: st)) cs ss Q := zstp (fun _ k => XS.idiv X.here hx rfl (hb hby hd) rfl hy (hz ▸ k)) r
theorem zirem (X : Stand p l e R s m args below meth c T locs cells slots) (hx : p.tables.exec = Jvm.exec) (hby : c.code = bytes) {x y : Int32} (hd : decode bytes pc = .ok (.irem, 1)) (z : Int32) (hy : y ≠ 0) (hz : x % y = z) (r : zEnds p e below s T (mkF m (pc + 1) Ls (.int z :: st)) cs ss Q) : zEnds p e below s T (mkF m pc Ls (.int y :: .int x :: st)) cs ss Q := zstp (fun _ k => iremM X hx rfl (hb hby hd) rfl hy (hz ▸ k)) r
theorem zldiv (X : Stand p l e R s m args below meth c T locs cells slots) (hx : p.tables.exec = Jvm.exec) (hby : c.code = bytes) {x y : Int64} (hd : decode bytes pc = .ok (.ldiv, 1)) (z : Int64) (hy : y ≠ 0) (hz : x / y = z) (r : zEnds p e below s T (mkF m (pc + 1) Ls (.long z :: st)) cs ss Q) : zEnds p e below s T (mkF m pc Ls (.long y :: .long x :: st)) cs ss Q := zstp (fun _ k => XS.ldiv X.here hx rfl (hb hby hd) rfl hy (hz ▸ k)) r
theorem zlrem (X : Stand p l e R s m args below meth c T locs cells slots) (hx : p.tables.exec = Jvm.exec) (hby : c.code = bytes) {x y : Int64} (hd : decode bytes pc = .ok (.lrem, 1)) (z : Int64) (hy : y ≠ 0) (hz : x % y = z) (r : zEnds p e below s T (mkF m (pc + 1) Ls (.long z :: st)) cs ss Q) : zEnds p e below s T (mkF m pc Ls (.long y :: .long x :: st)) cs ss Q := zstp (fun _ k => XS.lrem X.here hx rfl (hb hby hd) rfl hy (by rw [lrem_mod, hz]; exact k)) r
theorem zi2l (X : Stand p l e R s m args below meth c T locs cells slots) (hx : p.tables.exec = Jvm.exec) (hby : c.code = bytes) {v : Int32} (hd : decode bytes pc = .ok (.i2l, 1)) (z : Int64) (hz : v.toInt64 = z) (r : zEnds p e below s T (mkF m (pc + 1) Ls (.long z :: st)) cs ss Q) : zEnds p e below s T (mkF m pc Ls (.int v :: st)) cs ss Q := zstp (fun _ k => XS.i2l X.here hx rfl (hb hby hd) rfl (hz ▸ k)) r
theorem zl2i (X : Stand p l e R s m args below meth c T locs cells slots) (hx : p.tables.exec = Jvm.exec) (hby : c.code = bytes) {v : Int64} (hd : decode bytes pc = .ok (.l2i, 1)) (z : Int32) (hz : v.toInt32 = z) (r : zEnds p e below s T (mkF m (pc + 1) Ls (.int z :: st)) cs ss Q) : zEnds p e below s T (mkF m pc Ls (.long v :: st)) cs ss Q := zstp (fun _ k => XS.l2i X.here hx rfl (hb hby hd) rfl (hz ▸ k)) r
theorem zi2b (X : Stand p l e R s m args below meth c T locs cells slots) (hx : p.tables.exec = Jvm.exec) (hby : c.code = bytes) {v : Int32} (hd : decode bytes pc = .ok (.i2b, 1)) (z : Int32) (hz : v.toInt8.toInt32 = z) (r : zEnds p e below s T (mkF m (pc + 1) Ls (.int z :: st)) cs ss Q) : zEnds p e below s T (mkF m pc Ls (.int v :: st)) cs ss Q := zstp (fun _ k => XS.i2b X.here hx rfl (hb hby hd) rfl (hz ▸ k)) r
theorem zi2c (X : Stand p l e R s m args below meth c T locs cells slots) (hx : p.tables.exec = Jvm.exec) (hby : c.code = bytes) {v : Int32} (hd : decode bytes pc = .ok (.i2c, 1)) (z : Int32) (hz : v.toUInt32.toUInt16.toUInt32.toInt32 = z) (r : zEnds p e below s T (mkF m (pc + 1) Ls (.int z :: st)) cs ss Q) : zEnds p e below s T (mkF m pc Ls (.int v :: st)) cs ss Q := zstp (fun _ k => XS.i2c X.here hx rfl (hb hby hd) rfl (hz ▸ k)) r
theorem zi2s (X : Stand p l e R s m args below meth c T locs cells slots) (hx : p.tables.exec = Jvm.exec) (hby : c.code = bytes) {v : Int32} (hd : decode bytes pc = .ok (.i2s, 1)) (z : Int32) (hz : v.toInt16.toInt32 = z) (r : zEnds p e below s T (mkF m (pc + 1) Ls (.int z :: st)) cs ss Q) : zEnds p e below s T (mkF m pc Ls (.int v :: st)) cs ss Q := zstp (fun _ k => XS.i2s X.here hx rfl (hb hby hd) rfl (hz ▸ k)) r
theorem zlcmp (X : Stand p l e R s m args below meth c T locs cells slots) (hx : p.tables.exec = Jvm.exec) (hby : c.code = bytes) {x y : Int64} (hd : decode bytes pc = .ok (.lcmp, 1)) (z : Int32) (hz : lcmpW x y = z) (r : zEnds p e below s T (mkF m (pc + 1) Ls (.int z :: st)) cs ss Q) : zEnds p e below s T (mkF m pc Ls (.long y :: .long x :: st)) cs ss Q := zstp (fun _ k => XS.lcmp X.here hx rfl (hb hby hd) rfl (by subst hz; exact k)) r
theorem zdup (X : Stand p l e R s m args below meth c T locs cells slots) (hx : p.tables.exec = Jvm.exec) (hby : c.code = bytes) {x : Value} (hd : decode bytes pc = .ok (.dup, 1)) (hc : x.category = 1) (r : zEnds p e below s T (mkF m (pc + 1) Ls (x :: x :: st)) cs ss Q) : zEnds p e below s T (mkF m pc Ls (x :: st)) cs ss Q := zstp (fun _ k => XS.dup X.here hx rfl (hb hby hd) rfl hc k) r
theorem zpop (X : Stand p l e R s m args below meth c T locs cells slots) (hx : p.tables.exec = Jvm.exec) (hby : c.code = bytes) {x : Value} (hd : decode bytes pc = .ok (.pop, 1)) (hc : x.category = 1) (r : zEnds p e below s T (mkF m (pc + 1) Ls st) cs ss Q) : zEnds p e below s T (mkF m pc Ls (x :: st)) cs ss Q := zstp (fun _ k => XS.pop X.here hx rfl (hb hby hd) rfl hc k) r
theorem zdupX1 (X : Stand p l e R s m args below meth c T locs cells slots) (hx : p.tables.exec = Jvm.exec) (hby : c.code = bytes) {x y : Value} (hd : decode bytes pc = .ok (.dup_x1, 1)) (hc : x.category = 1) (hc' : y.category = 1) (r : zEnds p e below s T (mkF m (pc + 1) Ls (x :: y :: x :: st)) cs ss Q) : zEnds p e below s T (mkF m pc Ls (x :: y :: st)) cs ss Q := zstp (fun _ k => XS.dupX1 X.here hx rfl (hb hby hd) rfl hc hc' k) r
theorem ziinc (X : Stand p l e R s m args below meth c T locs cells slots) (hx : p.tables.exec = Jvm.exec) (hby : c.code = bytes) {k : Nat} {i : Int} {x : Int32} (hd : decode bytes pc = .ok (.iinc k i, 3)) (L' : Array Slot) (hl : Ls[k]? = some (.val (.int x))) (hl' : storeLocals Ls k (.int (x + Int32.ofInt i)) = some L') (r : zEnds p e below s T (mkF m (pc + 3) L' st) cs ss Q) : zEnds p e below s T (mkF m pc Ls st) cs ss Q := zstp (fun _ k => XS.iinc X.here hx rfl (hb hby hd) hl hl' k) r
theorem zgoto (X : Stand p l e R s m args below meth c T locs cells slots) (hx : p.tables.exec = Jvm.exec) (hby : c.code = bytes) {o : Int} (hd : decode bytes pc = .ok (.goto o, 3)) (pc' : Nat) (ho : 0 ≤ (pc : Int) + o) (hp : ((pc : Int) + o).toNat = pc') (r : zEnds p e below s T (mkF m pc' Ls st) cs ss Q) : zEnds p e below s T (mkF m pc Ls st) cs ss Q := zstp (fun _ k => XS.goto X.here hx rfl rfl (hb hby hd) ho hp k) r
theorem zifYes (X : Stand p l e R s m args below meth c T locs cells slots) (hx : p.tables.exec = Jvm.exec) (hby : c.code = bytes) {cd : ClassFile.Cond} {x : Int32} {o : Int} (hd : decode bytes pc = .ok (.ifCond cd o, 3)) (pc' : Nat) (hc : ifCond.holds cd x = true) (ho : 0 ≤ (pc : Int) + o) (hp : ((pc : Int) + o).toNat = pc') (r : zEnds p e below s T (mkF m pc' Ls st) cs ss Q) : zEnds p e below s T (mkF m pc Ls (.int x :: st)) cs ss Q := zstp (fun _ k => XS.ifYes X.here hx rfl rfl (hb hby hd) rfl hc ho hp k) r
theorem zifNo (X : Stand p l e R s m args below meth c T locs cells slots) (hx : p.tables.exec = Jvm.exec) (hby : c.code = bytes) {cd : ClassFile.Cond} {x : Int32} {o : Int} (hd : decode bytes pc = .ok (.ifCond cd o, 3)) (hc : ifCond.holds cd x = false) (r : zEnds p e below s T (mkF m (pc + 3) Ls st) cs ss Q) : zEnds p e below s T (mkF m pc Ls (.int x :: st)) cs ss Q := zstp (fun _ k => XS.ifNo X.here hx rfl (hb hby hd) rfl hc k) r
theorem zicmpYes (X : Stand p l e R s m args below meth c T locs cells slots) (hx : p.tables.exec = Jvm.exec) (hby : c.code = bytes) {cd : ClassFile.Cond} {x y : Int32} {o : Int} (hd : decode bytes pc = .ok (.if_icmp cd o, 3)) (pc' : Nat) (hc : if_icmp.holds cd x y = true) (ho : 0 ≤ (pc : Int) + o) (hp : ((pc : Int) + o).toNat = pc') (r : zEnds p e below s T (mkF m pc' Ls st) cs ss Q) : zEnds p e below s T (mkF m pc Ls (.int y :: .int x :: st)) cs ss Q := zstp (fun _ k => XS.icmpYes X.here hx rfl rfl (hb hby hd) rfl hc ho hp k) r
theorem zicmpNo (X : Stand p l e R s m args below meth c T locs cells slots) (hx : p.tables.exec = Jvm.exec) (hby : c.code = bytes) {cd : ClassFile.Cond} {x y : Int32} {o : Int} (hd : decode bytes pc = .ok (.if_icmp cd o, 3)) (hc : if_icmp.holds cd x y = false) (r : zEnds p e below s T (mkF m (pc + 3) Ls st) cs ss Q) : zEnds p e below s T (mkF m pc Ls (.int y :: .int x :: st)) cs ss Q := zstp (fun _ k => XS.icmpNo X.here hx rfl (hb hby hd) rfl hc k) r
theorem zifnullYes (X : Stand p l e R s m args below meth c T locs cells slots) (hx : p.tables.exec = Jvm.exec) (hby : c.code = bytes) {o : Int} (hd : decode bytes pc = .ok (.ifnull o, 3)) (pc' : Nat) (ho : 0 ≤ (pc : Int) + o) (hp : ((pc : Int) + o).toNat = pc') (r : zEnds p e below s T (mkF m pc' Ls st) cs ss Q) : zEnds p e below s T (mkF m pc Ls (.null :: st)) cs ss Q := zstp (fun _ k => XS.ifnullYes X.here hx rfl rfl (hb hby hd) rfl ho hp k) r
theorem zifnullNo (X : Stand p l e R s m args below meth c T locs cells slots) (hx : p.tables.exec = Jvm.exec) (hby : c.code = bytes) {b : Addr} {o : Int} (hd : decode bytes pc = .ok (.ifnull o, 3))  (r : zEnds p e below s T (mkF m (pc + 3) Ls st) cs ss Q) : zEnds p e below s T (mkF m pc Ls (.ref b :: st)) cs ss Q := zstp (fun _ k => XS.ifnullNo X.here hx rfl (hb hby hd) rfl k) r
theorem zifnonnullYes (X : Stand p l e R s m args below meth c T locs cells slots) (hx : p.tables.exec = Jvm.exec) (hby : c.code = bytes) {b : Addr} {o : Int} (hd : decode bytes pc = .ok (.ifnonnull o, 3)) (pc' : Nat) (ho : 0 ≤ (pc : Int) + o) (hp : ((pc : Int) + o).toNat = pc') (r : zEnds p e below s T (mkF m pc' Ls st) cs ss Q) : zEnds p e below s T (mkF m pc Ls (.ref b :: st)) cs ss Q := zstp (fun _ k => XS.ifnonnullYes X.here hx rfl rfl (hb hby hd) rfl ho hp k) r
theorem zifnonnullNo (X : Stand p l e R s m args below meth c T locs cells slots) (hx : p.tables.exec = Jvm.exec) (hby : c.code = bytes) {o : Int} (hd : decode bytes pc = .ok (.ifnonnull o, 3))  (r : zEnds p e below s T (mkF m (pc + 3) Ls st) cs ss Q) : zEnds p e below s T (mkF m pc Ls (.null :: st)) cs ss Q := zstp (fun _ k => XS.ifnonnullNo X.here hx rfl (hb hby hd) rfl k) r
theorem zacmp (X : Stand p l e R s m args below meth c T locs cells slots) (hx : p.tables.exec = Jvm.exec) (hby : c.code = bytes) {cd : ACond} {x y : Value} {o : Int} (hd : decode bytes pc = .ok (.if_acmp cd o, 3)) (pc' : Nat) (same : Bool) (h1 : x.isRef = true) (h2 : y.isRef = true) (hq : decide (x = y) = same) (ho : 0 ≤ (pc : Int) + o) (hp : pc' = if acV cd same = true then ((pc : Int) + o).toNat else pc + 3) (r : zEnds p e below s T (mkF m pc' Ls st) cs ss Q) : zEnds p e below s T (mkF m pc Ls (y :: x :: st)) cs ss Q := zstp (fun _ k => Jvm.RoadKit.acmp X hx rfl h1 h2 rfl (hb hby hd) rfl hq ho hp k) r
theorem ztswIn (X : Stand p l e R s m args below meth c T locs cells slots) (hx : p.tables.exec = Jvm.exec) (hby : c.code = bytes) {dflt low high o : Int} {offs : Array Int} {len : Nat} {i : Int32} (hd : decode bytes pc = .ok (.tableswitch dflt low high offs, len)) (pc' : Nat) (hin : ¬ (i.toInt < low ∨ i.toInt > high)) (hoff : offs[(i.toInt - low).toNat]? = some o) (ho : 0 ≤ (pc : Int) + o) (hp : ((pc : Int) + o).toNat = pc') (r : zEnds p e below s T (mkF m pc' Ls st) cs ss Q) : zEnds p e below s T (mkF m pc Ls (.int i :: st)) cs ss Q := zstp (fun _ k => XS.tswIn X.here hx rfl rfl (hb hby hd) rfl hin hoff ho hp k) r
theorem ztswOut (X : Stand p l e R s m args below meth c T locs cells slots) (hx : p.tables.exec = Jvm.exec) (hby : c.code = bytes) {dflt low high : Int} {offs : Array Int} {len : Nat} {i : Int32} (hd : decode bytes pc = .ok (.tableswitch dflt low high offs, len)) (pc' : Nat) (hout : i.toInt < low ∨ i.toInt > high) (ho : 0 ≤ (pc : Int) + dflt) (hp : ((pc : Int) + dflt).toNat = pc') (r : zEnds p e below s T (mkF m pc' Ls st) cs ss Q) : zEnds p e below s T (mkF m pc Ls (.int i :: st)) cs ss Q := zstp (fun _ k => XS.tswOut X.here hx rfl rfl (hb hby hd) rfl hout ho hp k) r
theorem zldcI (X : Stand p l e R s m args below meth c T locs cells slots) (hx : p.tables.exec = Jvm.exec) (hby : c.code = bytes) {own : String} {i : Nat} (hd : decode bytes pc = .ok (.ldc i, 2)) (z : Int32) (hZ : Z.Warmed39 s.vm) (hown : s.vm.findClass own = some m.cls) (w : (Jvm.Cond.constant own i z).before a0 Z = true) (r : zEnds p e below s T (mkF m (pc + 2) Ls (.int z :: st)) cs ss Q) : zEnds p e below s T (mkF m pc Ls st) cs ss Q := zstp (fun _ k => X.ldcInt hx hown (mvT hZ w) (g := mkF m pc Ls st) rfl (hb hby hd) _ k) r
theorem zldcwI (X : Stand p l e R s m args below meth c T locs cells slots) (hx : p.tables.exec = Jvm.exec) (hby : c.code = bytes) {own : String} {i : Nat} (hd : decode bytes pc = .ok (.ldc_w i, 3)) (z : Int32) (hZ : Z.Warmed39 s.vm) (hown : s.vm.findClass own = some m.cls) (w : (Jvm.Cond.constant own i z).before a0 Z = true) (r : zEnds p e below s T (mkF m (pc + 3) Ls (.int z :: st)) cs ss Q) : zEnds p e below s T (mkF m pc Ls st) cs ss Q := zstp (fun _ k => X.ldcwInt hx hown (mvT hZ w) (g := mkF m pc Ls st) rfl (hb hby hd) _ k) r
theorem zldc2J (X : Stand p l e R s m args below meth c T locs cells slots) (hx : p.tables.exec = Jvm.exec) (hby : c.code = bytes) {own : String} {i : Nat} (hd : decode bytes pc = .ok (.ldc2_w i, 3)) (z : Int64) (hZ : Z.Warmed39 s.vm) (hown : s.vm.findClass own = some m.cls) (w : (Jvm.Cond.constantLong own i z).before a0 Z = true) (r : zEnds p e below s T (mkF m (pc + 3) Ls (.long z :: st)) cs ss Q) : zEnds p e below s T (mkF m pc Ls st) cs ss Q := zstp (fun _ k => X.ldc2Long hx hown (mvT hZ w) (g := mkF m pc Ls st) rfl (hb hby hd) _ k) r
/-! steps that hand back a new state -/
theorem zgetstat (X : Stand p l e R s m args below meth c T locs cells slots) (hx : p.tables.exec = Jvm.exec) (hby : c.code = bytes) {own R0 O n d host : String} {i : Nat} (hd : decode bytes pc = .ok (.getstatic i, 3)) (hZ : Z.Warmed39 s.vm) (hown : s.vm.findClass own = some m.cls) (w : (Jvm.Cond.fieldLink own i R0 n d).before a0 Z = true ∨ (Jvm.Cond.fieldLinkNest own i R0 n d host).before a0 Z = true) (via : Via Z R0 O n d) (eT : T.heap = h) {v : Value} (F : Sta Z h O n d v)
    (r : ∀ T', Stand p l e R s m args below meth c T' locs cells slots → T'.heap = h → zEnds p e below s T' (mkF m (pc + 3) Ls (v :: st)) cs ss Q) : zEnds p e below s T (mkF m pc Ls st) cs ss Q := by
  obtain ⟨T', X', e', k⟩ := getS2 X hx hZ hown w via eT F (g := mkF m pc Ls st) rfl (hb hby hd)
  exact zstp k (r T' X' e')
theorem zgetfld (X : Stand p l e R s m args below meth c T locs cells slots) (hx : p.tables.exec = Jvm.exec) (hby : c.code = bytes) {own R0 O n d host : String} {i : Nat} (hd : decode bytes pc = .ok (.getfield i, 3)) (hZ : Z.Warmed39 s.vm) (hown : s.vm.findClass own = some m.cls) (w : (Jvm.Cond.fieldLink own i R0 n d).before a0 Z = true ∨ (Jvm.Cond.fieldLinkNest own i R0 n d host).before a0 Z = true) (via : Via Z R0 O n d) (eT : T.heap = h) {a : Addr} {v : Value} (F : Fld Z h a O n d v)
    (r : ∀ T', Stand p l e R s m args below meth c T' locs cells slots → T'.heap = h → zEnds p e below s T' (mkF m (pc + 3) Ls (v :: st)) cs ss Q) : zEnds p e below s T (mkF m pc Ls (.ref a :: st)) cs ss Q := by
  obtain ⟨T', X', e', k⟩ := getF X hx hZ hown w via eT F (g := mkF m pc Ls (.ref a :: st)) rfl rfl (hb hby hd)
  exact zstp k (r T' X' e')
theorem zputfld (X : Stand p l e R s m args below meth c T locs cells slots) (hx : p.tables.exec = Jvm.exec) (hby : c.code = bytes) {own R0 O n d host C : String} {i kk : Nat} {ty : FieldType} (hd : decode bytes pc = .ok (.putfield i, 3)) (hZ : Z.Warmed39 s.vm) (hown : s.vm.findClass own = some m.cls) (w : (Jvm.Cond.fieldLink own i R0 n d).before a0 Z = true ∨ (Jvm.Cond.fieldLinkNest own i R0 n d host).before a0 Z = true) (via : Via Z R0 O n d) (eT : T.heap = h) {a : Addr} {v old : Value} (F : Fld Z h a O n d old) (E : Exa Z h a C) (L : (Jvm.Cond.lays C O n d).before a0 Z = true ∨ ((Jvm.Cond.laysFinal C O n d).before a0 Z = true ∧ own = O ∧ meth.name = "<init>")) (wi : (Jvm.Cond.instantiable C kk).before a0 Z = true) (hty : parseFieldDescriptor d = some ty) (hn : narrow ty v = v) (hf : fits ty v = true)
    (r : ∀ T' h', Stand p l e R s m args below meth c T' (locs ++ [⟨a, Jvm.RoadKit.slotOf Z O n d⟩]) cells slots → T'.heap = h' → Wr h h' a (Jvm.RoadKit.slotOf Z O n d) v → zEnds p e below s T' (mkF m (pc + 3) Ls st) cs ss Q) : zEnds p e below s T (mkF m pc Ls (v :: .ref a :: st)) cs ss Q := by
  obtain ⟨T', h', X', e', W, k⟩ := putF X hx hZ hown w via eT F E L wi hty hn hf (g := mkF m pc Ls (v :: .ref a :: st)) rfl rfl (hb hby hd)
  exact zstp k (r T' h' X' e' W)
theorem znewobj (X : Stand p l e R s m args below meth c T locs cells slots) (hx : p.tables.exec = Jvm.exec) (hby : c.code = bytes) {own C : String} {i n : Nat} (hd : decode bytes pc = .ok (.new i, 3)) (hZ : Z.Warmed39 s.vm) (hown : s.vm.findClass own = some m.cls) (w : (Jvm.Cond.classLink own i C).before a0 Z = true) (wi : (Jvm.Cond.instantiable C n).before a0 Z = true) (wz : (Jvm.Cond.initialized C).before a0 Z = true) (eT : T.heap = h) (hc : cells + 1 ≤ R.cells) (hl : slots + n ≤ R.slots)
    (r : ∀ T' h' b, Stand p l e R s m args below meth c T' locs (cells + 1) (slots + n) → T'.heap = h' → b = h.size → Ext h h' → Exa Z h' b C → (∀ {O nm d : String} {ty : FieldType}, Laid Z a0 C O nm d → parseFieldDescriptor d = some ty → Fld Z h' b O nm d (defaultValue ty)) → zEnds p e below s T' (mkF m (pc + 3) Ls (.ref b :: st)) cs ss Q) : zEnds p e below s T (mkF m pc Ls st) cs ss Q := by
  obtain ⟨T', h', X', e', E, A, D, -, k⟩ := newO X hx hZ hown w wi wz eT (g := mkF m pc Ls st) rfl (hb hby hd) hc hl
  exact zstp k (r T' h' _ X' e' rfl E A D)
theorem zobjinit (X : Stand p l e R s m args below meth c T locs cells slots) (hx : p.tables.exec = Jvm.exec) (hby : c.code = bytes) {own : String} {i : Nat} (hd : decode bytes pc = .ok (.invokespecial i, 3)) (hZ : Z.Warmed39 s.vm) (hown : s.vm.findClass own = some m.cls) (w1 : (Jvm.Cond.methodLink own i Lib.objectInit).before a0 Z = true) (w2 : (Jvm.Cond.instanceMethod Lib.objectInit).before a0 Z = true) (w3 : (Jvm.Cond.code Lib.objectInit ⟨#[0xb1]⟩ 1 none).before a0 Z = true) (eT : T.heap = h) (hml : Ls.size = c.maxLocals) (W : Nat) (hW : (st.map fun v => v.category).sum ≤ W) (hf : 1 ≤ R.frames) (hl : W + 12 ≤ R.locals) {a : Addr}
    (r : ∀ T', Stand p l e R s m args below meth c T' locs cells slots → T'.heap = h → zEnds p e below s T' (mkF m (pc + 3) Ls st) cs ss Q) : zEnds p e below s T (mkF m pc Ls (.ref a :: st)) cs ss Q := by
  obtain ⟨T', X', e', k⟩ := initO X hx hZ hown w1 w2 w3 eT (g := mkF m pc Ls (.ref a :: st)) rfl hml rfl (hb hby hd) hf (W := W) (by show 2 * 0 + _ ≤ _; rw [Nat.mul_zero, Nat.zero_add]; exact hW) hl
  exact zstp k (r T' X' e')
/-- the array at a holds just these values -/
def zLst (Z : State) (h : Heap) (a : Addr) (ty : FieldType) (vs : List Value) : Prop := ∃ cl : Cell, Arr Z h a cl ty ∧ cl.slots.toList = vs
theorem zLst.ext {h' : Heap} {a : Addr} {ty : FieldType} {vs : List Value} (F : zLst Z h a ty vs) (E : Ext h h') : zLst Z h' a ty vs := by obtain ⟨c, A, r⟩ := F; exact ⟨c, A.ext E, r⟩
theorem zLst.lt {a : Addr} {ty : FieldType} {vs : List Value} (F : zLst Z h a ty vs) : a < h.size := by obtain ⟨c, A, r⟩ := F; exact A.lt
theorem zLst.other {h' : Heap} {a b : Addr} {sl : Nat} {v : Value} {ty : FieldType} {vs : List Value} (F : zLst Z h b ty vs) (W : Wr h h' a sl v) (q : b ≠ a) : zLst Z h' b ty vs := by obtain ⟨c, A, r⟩ := F; exact ⟨c, A.other W q, r⟩
theorem zLst.keep {h' : Heap} {a : Addr} {ty : FieldType} {vs : List Value} {ws : List Addr} (F : zLst Z h a ty vs) (K : Keep h h' ws) (q : a ∉ ws) : zLst Z h' a ty vs := by obtain ⟨c, A, r⟩ := F; exact ⟨c, ⟨K.2.1 a c A.1 q, A.2⟩, r⟩
theorem zLst.same {h' : Heap} {a : Addr} {sl : Nat} {v : Value} {ty : FieldType} {vs : List Value} (F : zLst Z h a ty vs) (W : Wr h h' a sl v) : zLst Z h' a ty (vs.set sl v) := by
  obtain ⟨c, A, r⟩ := F
  refine ⟨_, A.same W, ?_⟩
  show (c.slots.setIfInBounds sl v).toList = _
  rw [Array.toList_setIfInBounds, r]
theorem zlst_in {cl : Cell} {vs : List Value} {j : Int32} (r : cl.slots.toList = vs) (hj : ¬ j < 0) (hlt : j.toNatClampNeg < vs.length) : ¬ (j < 0 ∨ cl.slots.size ≤ j.toNatClampNeg) := by
  rintro (q | q)
  · exact hj q
  · rw [← r, Array.length_toList] at hlt; exact absurd q (Nat.not_le.mpr hlt)
theorem zlst_at {cl : Cell} {vs : List Value} {k : Nat} {v : Value} (r : cl.slots.toList = vs) (hv : vs[k]? = some v) : cl.slots[k]? = some v := by
  rw [← r, Array.getElem?_toList] at hv; exact hv
theorem znewprim (X : Stand p l e R s m args below meth c T locs cells slots) (hx : p.tables.exec = Jvm.exec) (hby : c.code = bytes) {aty : ArrayType} (hd : decode bytes pc = .ok (.newarray aty, 2)) (hZ : Z.Warmed39 s.vm) (w : (Jvm.Cond.arrayClass (newarray.typeOf aty)).before a0 Z = true) (eT : T.heap = h) {n : Int32} (hn : ¬ n < 0) (cap : Nat) (hcap : n.toNatClampNeg ≤ cap) (hb8 : cap * 8 ≤ 536870912) (hc : cells + 1 ≤ R.cells) (hl : slots + cap ≤ R.slots)
    (r : ∀ T' h' b, Stand p l e R s m args below meth c T' locs (cells + 1) (slots + cap) → T'.heap = h' → b = h.size → Ext h h' → zLst Z h' b (newarray.typeOf aty) (List.replicate n.toNatClampNeg (defaultValue (newarray.typeOf aty))) → zEnds p e below s T' (mkF m (pc + 2) Ls (.ref b :: st)) cs ss Q) : zEnds p e below s T (mkF m pc Ls (.int n :: st)) cs ss Q := by
  obtain ⟨T', h', cA, X', e', E, A, k⟩ := newP X hx hZ w eT (g := mkF m pc Ls (.int n :: st)) rfl (hb hby hd) rfl hn hcap hb8 hc hl
  exact zstp k (r T' h' _ X' e' rfl E ⟨_, A, by simp [newA]⟩)
theorem zbaload (X : Stand p l e R s m args below meth c T locs cells slots) (hx : p.tables.exec = Jvm.exec) (hby : c.code = bytes) (hd : decode bytes pc = .ok (.baload, 1)) (hZ : Z.Warmed39 s.vm) (eT : T.heap = h) {a : Addr} {vs : List Value} (A : zLst Z h a .byte vs) {j : Int32} (hj : ¬ j < 0) {v : Value} (hv : vs[j.toNatClampNeg]? = some v)
    (r : zEnds p e below s T (mkF m (pc + 1) Ls (v :: st)) cs ss Q) : zEnds p e below s T (mkF m pc Ls (.int j :: .ref a :: st)) cs ss Q := by
  obtain ⟨cl, A, q⟩ := A
  exact zstp (fun _ k => X.baloadBytes hx (by rw [eT]; exact A.1) (State.isArrayOf_alike hZ.alike A.2.1) A.2.2 (zlst_in q hj (List.getElem?_eq_some_iff.mp hv).1) (zlst_at q hv) (g := mkF m pc Ls (.int j :: .ref a :: st)) rfl rfl (hb hby hd) _ k) r
theorem zlaload (X : Stand p l e R s m args below meth c T locs cells slots) (hx : p.tables.exec = Jvm.exec) (hby : c.code = bytes) (hd : decode bytes pc = .ok (.laload, 1)) (hZ : Z.Warmed39 s.vm) (eT : T.heap = h) {a : Addr} {vs : List Value} (A : zLst Z h a .long vs) {j : Int32} (hj : ¬ j < 0) {v : Value} (hv : vs[j.toNatClampNeg]? = some v)
    (r : zEnds p e below s T (mkF m (pc + 1) Ls (v :: st)) cs ss Q) : zEnds p e below s T (mkF m pc Ls (.int j :: .ref a :: st)) cs ss Q := by
  obtain ⟨cl, A, q⟩ := A
  exact zstp (fun _ k => X.laload hx (by rw [eT]; exact A.1) (State.isArrayOf_alike hZ.alike A.2.1) A.2.2 (zlst_in q hj (List.getElem?_eq_some_iff.mp hv).1) (zlst_at q hv) (g := mkF m pc Ls (.int j :: .ref a :: st)) rfl rfl (hb hby hd) _ k) r
theorem zaaload (X : Stand p l e R s m args below meth c T locs cells slots) (hx : p.tables.exec = Jvm.exec) (hby : c.code = bytes) (hd : decode bytes pc = .ok (.aaload, 1)) (hZ : Z.Warmed39 s.vm) (eT : T.heap = h) {a : Addr} {vs : List Value} {ty : FieldType} (hty : ty.isReference = true) (A : zLst Z h a ty vs) {j : Int32} (hj : ¬ j < 0) {v : Value} (hv : vs[j.toNatClampNeg]? = some v)
    (r : zEnds p e below s T (mkF m (pc + 1) Ls (v :: st)) cs ss Q) : zEnds p e below s T (mkF m pc Ls (.int j :: .ref a :: st)) cs ss Q := by
  obtain ⟨cl, A, q⟩ := A
  exact zstp (fun _ k => X.aaload hx (by rw [eT]; exact A.1) (State.isArrayOf_alike hZ.alike A.2.1) hty A.2.2 (zlst_in q hj (List.getElem?_eq_some_iff.mp hv).1) (zlst_at q hv) (g := mkF m pc Ls (.int j :: .ref a :: st)) rfl rfl (hb hby hd) _ k) r
theorem zialoadC (X : Stand p l e R s m args below meth c T locs cells slots) (hx : p.tables.exec = Jvm.exec) (hby : c.code = bytes) (hd : decode bytes pc = .ok (.iaload, 1)) (hZ : Z.Warmed39 s.vm) (eT : T.heap = h) {a : Addr} {cl : Cell} (A : Arr Z h a cl .int) {j : Int32} {v : Value} (hv : ¬ (j < 0 ∨ cl.slots.size ≤ j.toNatClampNeg) ∧ cl.slots[j.toNatClampNeg]? = some v)
    (r : zEnds p e below s T (mkF m (pc + 1) Ls (v :: st)) cs ss Q) : zEnds p e below s T (mkF m pc Ls (.int j :: .ref a :: st)) cs ss Q :=
  zstp (fun _ k => X.iaload hx (by rw [eT]; exact A.1) (State.isArrayOf_alike hZ.alike A.2.1) A.2.2 hv.1 hv.2 (g := mkF m pc Ls (.int j :: .ref a :: st)) rfl rfl (hb hby hd) _ k) r
theorem zalenC (X : Stand p l e R s m args below meth c T locs cells slots) (hx : p.tables.exec = Jvm.exec) (hby : c.code = bytes) (hd : decode bytes pc = .ok (.arraylength, 1)) (hZ : Z.Warmed39 s.vm) (eT : T.heap = h) {a : Addr} {cl : Cell} {ty : FieldType} (A : Arr Z h a cl ty) (z : Int32) (hz : cl.slots.size.toInt32 = z)
    (r : zEnds p e below s T (mkF m (pc + 1) Ls (.int z :: st)) cs ss Q) : zEnds p e below s T (mkF m pc Ls (.ref a :: st)) cs ss Q :=
  zstp (fun _ k => X.arraylength hx (by rw [eT]; exact A.1) (State.isArrayOf_alike hZ.alike A.2.1) (g := mkF m pc Ls (.ref a :: st)) rfl rfl (hb hby hd) _ (hz ▸ k)) r
theorem zbastore (X : Stand p l e R s m args below meth c T locs cells slots) (hx : p.tables.exec = Jvm.exec) (hby : c.code = bytes) (hd : decode bytes pc = .ok (.bastore, 1)) (hZ : Z.Warmed39 s.vm) (eT : T.heap = h) {a : Addr} {vs : List Value} (A : zLst Z h a .byte vs) {j x : Int32} (hj : ¬ j < 0) (hlt : j.toNatClampNeg < vs.length) (x' : Int32) (hx' : nar .byte x = x')
    (r : ∀ T' h', Stand p l e R s m args below meth c T' (locs ++ [⟨a, j.toNatClampNeg⟩]) cells slots → T'.heap = h' → Wr h h' a j.toNatClampNeg (.int x') → zLst Z h' a .byte (vs.set j.toNatClampNeg (.int x')) → zEnds p e below s T' (mkF m (pc + 1) Ls st) cs ss Q) : zEnds p e below s T (mkF m pc Ls (.int x :: .int j :: .ref a :: st)) cs ss Q := by
  obtain ⟨cl, A', q⟩ := A
  subst hx'
  obtain ⟨T', h', X', e', W, k⟩ := stB X hx hZ eT A' (j := j) (x := x) (zlst_in q hj hlt) (g := mkF m pc Ls (.int x :: .int j :: .ref a :: st)) rfl rfl (hb hby hd)
  exact zstp k (r T' h' X' e' W (zLst.same ⟨cl, A', q⟩ W))
theorem zlastore (X : Stand p l e R s m args below meth c T locs cells slots) (hx : p.tables.exec = Jvm.exec) (hby : c.code = bytes) (hd : decode bytes pc = .ok (.lastore, 1)) (hZ : Z.Warmed39 s.vm) (eT : T.heap = h) {a : Addr} {vs : List Value} (A : zLst Z h a .long vs) {j : Int32} {x : Int64} (hj : ¬ j < 0) (hlt : j.toNatClampNeg < vs.length)
    (r : ∀ T' h', Stand p l e R s m args below meth c T' (locs ++ [⟨a, j.toNatClampNeg⟩]) cells slots → T'.heap = h' → Wr h h' a j.toNatClampNeg (.long x) → zLst Z h' a .long (vs.set j.toNatClampNeg (.long x)) → zEnds p e below s T' (mkF m (pc + 1) Ls st) cs ss Q) : zEnds p e below s T (mkF m pc Ls (.long x :: .int j :: .ref a :: st)) cs ss Q := by
  obtain ⟨cl, A', q⟩ := A
  obtain ⟨T', h', X', e', W, k⟩ := stJ X hx hZ eT A' (j := j) (x := x) (zlst_in q hj hlt) (g := mkF m pc Ls (.long x :: .int j :: .ref a :: st)) rfl rfl (hb hby hd)
  exact zstp k (r T' h' X' e' W (zLst.same ⟨cl, A', q⟩ W))
/-- an array of references over C that holds just these values -/
def zLstR (Z : State) (h : Heap) (a : Addr) (C : String) (vs : List Value) : Prop := ∃ cl : Cell, Arr Z h a cl (.object C) ∧ Ovr Z cl.cls C ∧ cl.slots.toList = vs
theorem zLstR.lst {a : Addr} {C : String} {vs : List Value} (F : zLstR Z h a C vs) : zLst Z h a (.object C) vs := by obtain ⟨c, A, -, r⟩ := F; exact ⟨c, A, r⟩
theorem zLstR.ext {h' : Heap} {a : Addr} {C : String} {vs : List Value} (F : zLstR Z h a C vs) (E : Ext h h') : zLstR Z h' a C vs := by obtain ⟨c, A, r⟩ := F; exact ⟨c, A.ext E, r⟩
theorem zLstR.lt {a : Addr} {C : String} {vs : List Value} (F : zLstR Z h a C vs) : a < h.size := by obtain ⟨c, A, r⟩ := F; exact A.lt
theorem zLstR.other {h' : Heap} {a b : Addr} {sl : Nat} {v : Value} {C : String} {vs : List Value} (F : zLstR Z h b C vs) (W : Wr h h' a sl v) (q : b ≠ a) : zLstR Z h' b C vs := by obtain ⟨c, A, r⟩ := F; exact ⟨c, A.other W q, r⟩
theorem zLstR.keep {h' : Heap} {a : Addr} {C : String} {vs : List Value} {ws : List Addr} (F : zLstR Z h a C vs) (K : Keep h h' ws) (q : a ∉ ws) : zLstR Z h' a C vs := by obtain ⟨c, A, r⟩ := F; exact ⟨c, ⟨K.2.1 a c A.1 q, A.2⟩, r⟩
theorem zLstR.same {h' : Heap} {a : Addr} {sl : Nat} {v : Value} {C : String} {vs : List Value} (F : zLstR Z h a C vs) (W : Wr h h' a sl v) : zLstR Z h' a C (vs.set sl v) := by
  obtain ⟨c, A, O, r⟩ := F
  refine ⟨_, A.same W, O, ?_⟩
  show (c.slots.setIfInBounds sl v).toList = _
  rw [Array.toList_setIfInBounds, r]
theorem znewref (X : Stand p l e R s m args below meth c T locs cells slots) (hx : p.tables.exec = Jvm.exec) (hby : c.code = bytes) {own C : String} {i : Nat} (hd : decode bytes pc = .ok (.anewarray i, 3)) (hZ : Z.Warmed39 s.vm) (hown : s.vm.findClass own = some m.cls) (w1 : (Jvm.Cond.classLink own i C).before a0 Z = true) (w2 : (Jvm.Cond.arrayOver (.object C)).before a0 Z = true) (eT : T.heap = h) {n : Int32} (hn : ¬ n < 0) (cap : Nat) (hcap : n.toNatClampNeg ≤ cap) (hb8 : cap * 8 ≤ 536870912) (hc : cells + 1 ≤ R.cells) (hl : slots + cap ≤ R.slots)
    (r : ∀ T' h' b, Stand p l e R s m args below meth c T' locs (cells + 1) (slots + cap) → T'.heap = h' → b = h.size → Ext h h' → zLstR Z h' b C (List.replicate n.toNatClampNeg .null) → zEnds p e below s T' (mkF m (pc + 3) Ls (.ref b :: st)) cs ss Q) : zEnds p e below s T (mkF m pc Ls (.int n :: st)) cs ss Q := by
  obtain ⟨T', h', cA, X', e', E, A, O, k⟩ := newR X hx hZ hown w1 w2 eT (g := mkF m pc Ls (.int n :: st)) rfl (hb hby hd) rfl hn hcap hb8 hc hl
  exact zstp k (r T' h' _ X' e' rfl E ⟨_, A, O, by simp [newA, defaultValue]⟩)
theorem zaastore (X : Stand p l e R s m args below meth c T locs cells slots) (hx : p.tables.exec = Jvm.exec) (hby : c.code = bytes) (hd : decode bytes pc = .ok (.aastore, 1)) (hZ : Z.Warmed39 s.vm) (eT : T.heap = h) {a y : Addr} {C : String} {vs : List Value} (A : zLstR Z h a C vs) {j : Int32} (hj : ¬ j < 0) (hlt : j.toNatClampNeg < vs.length) (I : Ins Z h y C true)
    (r : ∀ T' h', Stand p l e R s m args below meth c T' (locs ++ [⟨a, j.toNatClampNeg⟩]) cells slots → T'.heap = h' → Wr h h' a j.toNatClampNeg (.ref y) → zLstR Z h' a C (vs.set j.toNatClampNeg (.ref y)) → zEnds p e below s T' (mkF m (pc + 1) Ls st) cs ss Q) : zEnds p e below s T (mkF m pc Ls (.ref y :: .int j :: .ref a :: st)) cs ss Q := by
  obtain ⟨cl, A', O, q⟩ := A
  obtain ⟨T', h', X', e', W, k⟩ := stR X hx hZ eT A' (j := j) (v := .ref y) (zlst_in q hj hlt) rfl (Sto.of A' O I) (g := mkF m pc Ls (.ref y :: .int j :: .ref a :: st)) rfl rfl (hb hby hd)
  exact zstp k (r T' h' X' e' W (zLstR.same ⟨cl, A', O, q⟩ W))
/-! zcalls -/
theorem zcalls (X : Stand p l e R s m args below meth c T locs cells slots) (hx : p.tables.exec = Jvm.exec) (hby : c.code = bytes) {own : String} {i : Nat} {y : MethodName} {by' : ByteArray} {maxL : Nat} {rt : Option FieldType} {rm : Room} {argsL : List Value} {Q' : Option Value → Heap → List Loc → Prop} (hd : decode bytes pc = .ok (.invokestatic i, 3)) (hZ : Z.Warmed39 s.vm) (hown : s.vm.findClass own = some m.cls) (w1 : (Jvm.Cond.methodLink own i y).before a0 Z = true) (w2 : (Jvm.Cond.static y).before a0 Z = true) (w3 : (Jvm.Cond.initialized y.cls).before a0 Z = true) (w4 : (Jvm.Cond.code y by' maxL rt).before a0 Z = true) (eT : T.heap = h)
    (con : zCon l Z y by' maxL rt [] rm argsL.toArray h Q') (hy : y.cls ≠ "java/lang/invoke/MethodHandle" ∧ y.cls ≠ "java/lang/invoke/VarHandle") (hml : Ls.size = c.maxLocals) (W : Nat) (hW : (st.map fun v => v.category).sum ≤ W) (hf : rm.frames + 1 ≤ R.frames) (hl : W + (maxL + 11) + rm.locals ≤ R.locals) (hcl : cells + rm.cells ≤ R.cells) (hsl : slots + rm.slots ≤ R.slots) {ps : List FieldType} {rv : Option FieldType} (hp : parseMethodDescriptor y.desc = some ⟨ps, rv⟩) (hn : argsL.length = ps.length) {S0 : List Value} (hS : S0 = argsL.reverse ++ st)
    (r : ∀ T' h' v L, T'.heap = h' → Stand p l e R s m args below meth c T' (locs ++ L) (cells + rm.cells) (slots + rm.slots) → Q' v h' L → zEnds p e below s T' (mkF m (pc + 3) Ls (v.toList ++ st)) cs ss Q) : zEnds p e below s T (mkF m pc Ls S0) cs ss Q := by
  obtain ⟨v, _, ⟨T', L', k', n'⟩, -, X', ⟨L, hq, l1, l2, l3⟩, k⟩ := Jvm.LawKit.callS X hx (y := y) hown (mvT hZ w1) (mvT hZ w2) (mvT hZ w3) (mvT hZ w4) hy (backOf (W := W) con hZ w4 w3 hf hl) (g := mkF m pc Ls S0) rfl hml (argsL := argsL) (rest := st) (lenOf hp hn) hS (by show 2 * 0 + _ ≤ _; rw [Nat.mul_zero, Nat.zero_add]; exact hW) (hb hby hd) (fun _ _ => ⟨rfl, eT, hcl, hsl⟩)
  dsimp only [Pt.U, Pt.locs, Pt.cells, Pt.slots] at X' l1 l2 l3 k hq
  subst l1 l2 l3
  exact zstp k (r T' _ v L rfl X' hq)
theorem zcallv (X : Stand p l e R s m args below meth c T locs cells slots) (hx : p.tables.exec = Jvm.exec) (hby : c.code = bytes) {own C : String} {i : Nat} {y z : MethodName} {by' : ByteArray} {maxL : Nat} {rt : Option FieldType} {rm : Room} {a : Addr} {argsL : List Value} {Q' : Option Value → Heap → List Loc → Prop} (hd : decode bytes pc = .ok (.invokevirtual i, 3)) (hZ : Z.Warmed39 s.vm) (hown : s.vm.findClass own = some m.cls) (w1 : (Jvm.Cond.methodLink own i y).before a0 Z = true) (w2 : (Jvm.Cond.declares y).before a0 Z = true) (hnf : NotFace s y) (w3 : (Jvm.Cond.selects C y z).before a0 Z = true) (w4 : (Jvm.Cond.instanceMethod z).before a0 Z = true) (w5 : (Jvm.Cond.code z by' maxL rt).before a0 Z = true) (w6 : (Jvm.Cond.initialized z.cls).before a0 Z = true) (eT : T.heap = h) (E : Exa Z h a C)
    (con : zCon l Z z by' maxL rt [] rm (.ref a :: argsL).toArray h Q') (hy : y.cls ≠ "java/lang/invoke/MethodHandle" ∧ y.cls ≠ "java/lang/invoke/VarHandle") (hml : Ls.size = c.maxLocals) (W : Nat) (hW : (st.map fun v => v.category).sum ≤ W) (hf : rm.frames + 1 ≤ R.frames) (hl : W + (maxL + 11) + rm.locals ≤ R.locals) (hcl : cells + rm.cells ≤ R.cells) (hsl : slots + rm.slots ≤ R.slots) {ps : List FieldType} {rv : Option FieldType} (hp : parseMethodDescriptor y.desc = some ⟨ps, rv⟩) (hn : argsL.length = ps.length) {S0 : List Value} (hS : S0 = argsL.reverse ++ .ref a :: st)
    (r : ∀ T' h' v L, T'.heap = h' → Stand p l e R s m args below meth c T' (locs ++ L) (cells + rm.cells) (slots + rm.slots) → Q' v h' L → zEnds p e below s T' (mkF m (pc + 3) Ls (v.toList ++ st)) cs ss Q) : zEnds p e below s T (mkF m pc Ls S0) cs ss Q := by
  obtain ⟨_, _, qa, -, qc⟩ := isOf hZ eT E
  obtain ⟨v, _, ⟨T', L', k', n'⟩, -, X', ⟨L, hq, l1, l2, l3⟩, k⟩ := X.virtualBack hx (y := y) (z := z) hown (mvT hZ w1) (mvT hZ w2) hnf (mvT hZ w3) (mvT hZ w4) hy (backOf (W := W) con hZ w5 w6 hf hl) qa qc (g := mkF m pc Ls S0) rfl hml (Steps.refl _) (argsL := argsL) (rest := st) (lenOf hp hn) hS (by show 2 * 0 + _ ≤ _; rw [Nat.mul_zero, Nat.zero_add]; exact hW) (hb hby hd) (fun _ _ => ⟨rfl, eT, hcl, hsl⟩)
  dsimp only [Pt.U, Pt.locs, Pt.cells, Pt.slots] at X' l1 l2 l3 k hq
  subst l1 l2 l3
  exact zstp (fun _ q => k.trans q) (r T' _ v L rfl X' hq)
theorem zcallsp (X : Stand p l e R s m args below meth c T locs cells slots) (hx : p.tables.exec = Jvm.exec) (hby : c.code = bytes) {own : String} {i : Nat} {y : MethodName} {by' : ByteArray} {maxL : Nat} {rm : Room} {a : Addr} {argsL : List Value} {Q' : Option Value → Heap → List Loc → Prop} (hd : decode bytes pc = .ok (.invokespecial i, 3)) (hZ : Z.Warmed39 s.vm) (hown : s.vm.findClass own = some m.cls) (hyn : y.name = "<init>") (w1 : (Jvm.Cond.methodLink own i y).before a0 Z = true) (w2 : (Jvm.Cond.instanceMethod y).before a0 Z = true) (w3 : (Jvm.Cond.code y by' maxL none).before a0 Z = true) (w4 : (Jvm.Cond.initialized y.cls).before a0 Z = true) (eT : T.heap = h)
    (con : zCon l Z y by' maxL none [] rm (.ref a :: argsL).toArray h Q') (hy : y.cls ≠ "java/lang/invoke/MethodHandle" ∧ y.cls ≠ "java/lang/invoke/VarHandle") (hml : Ls.size = c.maxLocals) (W : Nat) (hW : (st.map fun v => v.category).sum ≤ W) (hf : rm.frames + 1 ≤ R.frames) (hl : W + (maxL + 11) + rm.locals ≤ R.locals) (hcl : cells + rm.cells ≤ R.cells) (hsl : slots + rm.slots ≤ R.slots) {ps : List FieldType} {rv : Option FieldType} (hp : parseMethodDescriptor y.desc = some ⟨ps, rv⟩) (hn : argsL.length = ps.length) {S0 : List Value} (hS : S0 = argsL.reverse ++ .ref a :: st)
    (r : ∀ T' h' v L, T'.heap = h' → Stand p l e R s m args below meth c T' (locs ++ L) (cells + rm.cells) (slots + rm.slots) → Q' v h' L → zEnds p e below s T' (mkF m (pc + 3) Ls (v.toList ++ st)) cs ss Q) : zEnds p e below s T (mkF m pc Ls S0) cs ss Q := by
  obtain ⟨v, _, ⟨T', L', k', n'⟩, -, X', ⟨L, hq, l1, l2, l3⟩, k⟩ := X.specialBack hx (y := y) hyn hown (mvT hZ w1) (mvT hZ w2) (mvT hZ w3) hy (backOf (W := W) con hZ w3 w4 hf hl) (g := mkF m pc Ls S0) rfl hml (Steps.refl _) (a := a) (argsL := argsL) (rest := st) (lenOf hp hn) hS (by show 2 * 0 + _ ≤ _; rw [Nat.mul_zero, Nat.zero_add]; exact hW) (hb hby hd) (fun _ _ => ⟨rfl, eT, hcl, hsl⟩)
  dsimp only [Pt.U, Pt.locs, Pt.cells, Pt.slots] at X' l1 l2 l3 k hq
  subst l1 l2 l3
  exact zstp (fun _ q => k.trans q) (r T' _ v L rfl X' hq)
theorem zcallup (X : Stand p l e R s m args below meth c T locs cells slots) (hx : p.tables.exec = Jvm.exec) (hby : c.code = bytes) {own C owner : String} {i : Nat} {x y : MethodName} {by' : ByteArray} {maxL : Nat} {rt : Option FieldType} {rm : Room} {a : Addr} {argsL : List Value} {Q' : Option Value → Heap → List Loc → Prop} (hd : decode bytes pc = .ok (.invokevirtual i, 3)) (hZ : Z.Warmed39 s.vm) (hown : s.vm.findClass own = some m.cls) (w1 : (Jvm.Cond.methodLink own i x).before a0 Z = true) (w2 : (Jvm.Cond.sameMethod x.cls owner x.name x.desc).before a0 Z = true) (w2' : (Jvm.Cond.declares ⟨owner, x.name, x.desc⟩).before a0 Z = true) (w3 : (Jvm.Cond.selects C x y).before a0 Z = true) (w4 : (Jvm.Cond.instanceMethod y).before a0 Z = true) (w5 : (Jvm.Cond.code y by' maxL rt).before a0 Z = true) (w6 : (Jvm.Cond.initialized y.cls).before a0 Z = true) (eT : T.heap = h) (E : Exa Z h a C)
    (con : zCon l Z y by' maxL rt [] rm (.ref a :: argsL).toArray h Q') (hy : owner ≠ "java/lang/invoke/MethodHandle" ∧ owner ≠ "java/lang/invoke/VarHandle") (hml : Ls.size = c.maxLocals) (W : Nat) (hW : (st.map fun v => v.category).sum ≤ W) (hf : rm.frames + 1 ≤ R.frames) (hl : W + (maxL + 11) + rm.locals ≤ R.locals) (hcl : cells + rm.cells ≤ R.cells) (hsl : slots + rm.slots ≤ R.slots) {ps : List FieldType} {rv : Option FieldType} (hp : parseMethodDescriptor x.desc = some ⟨ps, rv⟩) (hn : argsL.length = ps.length) {S0 : List Value} (hS : S0 = argsL.reverse ++ .ref a :: st)
    (r : ∀ T' h' v L, T'.heap = h' → Stand p l e R s m args below meth c T' (locs ++ L) (cells + rm.cells) (slots + rm.slots) → Q' v h' L → zEnds p e below s T' (mkF m (pc + 3) Ls (v.toList ++ st)) cs ss Q) : zEnds p e below s T (mkF m pc Ls S0) cs ss Q := by
  obtain ⟨_, _, qa, -, qc⟩ := isOf hZ eT E
  obtain ⟨v, _, ⟨T', L', k', n'⟩, -, X', ⟨L, hq, l1, l2, l3⟩, k⟩ := X.virtualBackUp hx (x := x) (y := y) hown (mvT hZ w1) (mvT hZ w2) (mvT hZ w2') hy (mvT hZ w3) (mvT hZ w4) (backOf (W := W) con hZ w5 w6 hf hl) qa qc (g := mkF m pc Ls S0) rfl hml (Steps.refl _) (argsL := argsL) (rest := st) (lenOf hp hn) hS (by show 2 * 0 + _ ≤ _; rw [Nat.mul_zero, Nat.zero_add]; exact hW) (hb hby hd) (fun _ _ => ⟨rfl, eT, hcl, hsl⟩)
  dsimp only [Pt.U, Pt.locs, Pt.cells, Pt.slots] at X' l1 l2 l3 k hq
  subst l1 l2 l3
  exact zstp (fun _ q => k.trans q) (r T' _ v L rfl X' hq)
/-- the continuation behind a callee that wrote nothing -/
theorem zpureK {w : Option Value} {rm : Room} (hr : rm.cells = 0 ∧ rm.slots = 0) (r : ∀ T', Stand p l e R s m args below meth c T' locs cells slots → T'.heap = h → zEnds p e below s T' (mkF m pc Ls (w.toList ++ st)) cs ss Q) :
    ∀ T' h' v L, T'.heap = h' → Stand p l e R s m args below meth c T' (locs ++ L) (cells + rm.cells) (slots + rm.slots) → zSame w h v h' L → zEnds p e below s T' (mkF m pc Ls (v.toList ++ st)) cs ss Q := by
  rintro T' h' v L e' X ⟨rfl, rfl, rfl⟩
  rw [hr.1, hr.2, List.append_nil] at X
  exact r T' X e'
/-! from the words of a case to facts -/
theorem zfld_int {t : Term} {x : Addr} {C n d : String} {k : Int32} {args : Array Value} {s : State} (ev : t.eval args s none [] s = some (.ref x)) (q : (Jvm.Cond.eq (Term.field t C n d) (Term.int k)).value args s none s [] = some true) : Fld s s.heap x C n d (.int k) := by
  obtain ⟨u, w, e1, e2, k1, k2⟩ := cmp_v (Or.inl q)
  rw [fld_at ev] at e1
  cases (Term.int_eval k).symm.trans e2
  obtain ⟨z, rfl⟩ := k2
  have h1 : (Term.field t C n d).eval args s none [] s = some (.int z) := (fld_at ev).trans e1
  have : z = k := by simpa [Jvm.Cond.value, h1, Term.int_eval] using q
  subst this
  exact Fld.start e1
theorem zelem_at0 {t : Term} {x : Addr} {i v : Int32} {cl : Cell} {args : Array Value} {s : State} (ev : t.eval args s none [] s = some (.ref x)) (hc : s.heap[x]? = some cl) (q : (Jvm.Cond.eq (Term.elem t (Term.int i)) (Term.int v)).value args s none s [] = some true) : ¬ (i < 0 ∨ cl.slots.size ≤ i.toNatClampNeg) ∧ cl.slots[i.toNatClampNeg]? = some (.int v) := by
  obtain ⟨u, w, e1, e2, k1, k2⟩ := cmp_v (Or.inl q)
  cases (Term.int_eval v).symm.trans e2
  obtain ⟨z, rfl⟩ := k2
  have : z = v := by simpa [Jvm.Cond.value, e1, Term.int_eval] using q
  subst this
  exact elem_in e1 ev (Term.int_eval i) hc
theorem zlen_is {t : Term} {x : Addr} {k : Int32} {cl : Cell} {ty : FieldType} {args : Array Value} {s : State} (ev : t.eval args s none [] s = some (.ref x)) (A : Arr s s.heap x cl ty) (q : (Jvm.Cond.eq (Term.length t) (Term.int k)).value args s none s [] = some true) : cl.slots.size.toInt32 = k := by
  obtain ⟨u, w, e1, e2, k1, k2⟩ := cmp_v (Or.inl q)
  cases (Term.int_eval k).symm.trans e2
  obtain ⟨z, rfl⟩ := k2
  have h0 : z = k := by simpa [Jvm.Cond.value, e1, Term.int_eval] using q
  subst h0
  have h1 : s.arrayAt? x = some cl := Arr.fin (Vm.Alike.refl _) A
  by_cases hl : cl.slots.size < 2 ^ 31
  · have := (len_f (args := args) (first := s) (o := none) (idx := []) ev h1 hl).symm.trans e1
    exact Value.int.inj (Option.some.inj this)
  · exfalso; simp [Term.eval, ev, h1, hl] at e1
theorem zfld_ref {t t' : Term} {x y : Addr} {C n d : String} {args : Array Value} {s : State} (ev : t.eval args s none [] s = some (.ref x)) (ev' : t'.eval args s none [] s = some (.ref y)) (q : (Jvm.Cond.eq (Term.field t C n d) t').value args s none s [] = some true) : Fld s s.heap x C n d (.ref y) := by
  obtain ⟨u, w, e1, e2, k1, k2⟩ := cmp_v (Or.inl q)
  cases ev'.symm.trans e2
  have k3 : u.isRef = true := k2.2
  have q2 := gotT (eq_R e1 ev' k3 rfl) q
  subst q2
  rw [fld_at ev] at e1
  exact Fld.start e1
end Own
end Jvm.OwnKit
namespace Jvm.Pilot.@@N@@
open Jvm Jvm.ClassFile Sem Op Lib Jvm.Free Jvm.Stand Jvm.LawKit Jvm.RoadKit Jvm.OwnKit Bundle Jvm.Pilot.@@N@@.Jvm.D
theorem w0 {Z : State} {a0 : Array Value} (hw : ∀ d ∈ tables_1, d.before a0 Z = true) : (Jvm.Cond.classLink "heapglass/core/wire/AllowanceIsSpentPinLaw" (22 : Nat) "heapglass/core/wire/Allowance").before a0 Z = true := hw _ (List.mem_of_getElem? (i := 0) rfl)
theorem w1 {Z : State} {a0 : Array Value} (hw : ∀ d ∈ tables_1, d.before a0 Z = true) : (Jvm.Cond.instantiable "heapglass/core/wire/Allowance" (1 : Nat)).before a0 Z = true := hw _ (List.mem_of_getElem? (i := 1) rfl)
theorem w2 {Z : State} {a0 : Array Value} (hw : ∀ d ∈ tables_1, d.before a0 Z = true) : (Jvm.Cond.initialized "heapglass/core/wire/Allowance").before a0 Z = true := hw _ (List.mem_of_getElem? (i := 2) rfl)
theorem w3 {Z : State} {a0 : Array Value} (hw : ∀ d ∈ tables_1, d.before a0 Z = true) : (Jvm.Cond.methodLink "heapglass/core/wire/AllowanceIsSpentPinLaw" (36 : Nat) ({ cls := "heapglass/core/wire/Allowance", name := "<init>", desc := "()V" } : Jvm.MethodName)).before a0 Z = true := hw _ (List.mem_of_getElem? (i := 3) rfl)
theorem w4 {Z : State} {a0 : Array Value} (hw : ∀ d ∈ tables_1, d.before a0 Z = true) : (Jvm.Cond.instanceMethod ({ cls := "heapglass/core/wire/Allowance", name := "<init>", desc := "()V" } : Jvm.MethodName)).before a0 Z = true := hw _ (List.mem_of_getElem? (i := 4) rfl)
theorem w5 {Z : State} {a0 : Array Value} (hw : ∀ d ∈ tables_1, d.before a0 Z = true) : (Jvm.Cond.code ({ cls := "heapglass/core/wire/Allowance", name := "<init>", desc := "()V" } : Jvm.MethodName) prog_9_method_1_code (1 : Nat) (Option.none : Option Jvm.ClassFile.FieldType)).before a0 Z = true := hw _ (List.mem_of_getElem? (i := 5) rfl)
theorem w6 {Z : State} {a0 : Array Value} (hw : ∀ d ∈ tables_1, d.before a0 Z = true) : (Jvm.Cond.methodLink "heapglass/core/wire/Allowance" (3 : Nat) ({ cls := "java/lang/Object", name := "<init>", desc := "()V" } : Jvm.MethodName)).before a0 Z = true := hw _ (List.mem_of_getElem? (i := 6) rfl)
theorem w7 {Z : State} {a0 : Array Value} (hw : ∀ d ∈ tables_1, d.before a0 Z = true) : (Jvm.Cond.instanceMethod ({ cls := "java/lang/Object", name := "<init>", desc := "()V" } : Jvm.MethodName)).before a0 Z = true := hw _ (List.mem_of_getElem? (i := 7) rfl)
theorem w8 {Z : State} {a0 : Array Value} (hw : ∀ d ∈ tables_1, d.before a0 Z = true) : (Jvm.Cond.code ({ cls := "java/lang/Object", name := "<init>", desc := "()V" } : Jvm.MethodName) object_method_1_code (1 : Nat) (Option.none : Option Jvm.ClassFile.FieldType)).before a0 Z = true := hw _ (List.mem_of_getElem? (i := 8) rfl)
theorem w9 {Z : State} {a0 : Array Value} (hw : ∀ d ∈ tables_1, d.before a0 Z = true) : (Jvm.Cond.constantLong "heapglass/core/wire/Allowance" (11 : Nat) (9223372036854775807 : Int64)).before a0 Z = true := hw _ (List.mem_of_getElem? (i := 9) rfl)
theorem w10 {Z : State} {a0 : Array Value} (hw : ∀ d ∈ tables_1, d.before a0 Z = true) : (Jvm.Cond.fieldLink "heapglass/core/wire/Allowance" (13 : Nat) "heapglass/core/wire/Allowance" "left" "J").before a0 Z = true := hw _ (List.mem_of_getElem? (i := 10) rfl)
theorem w11 {Z : State} {a0 : Array Value} (hw : ∀ d ∈ tables_1, d.before a0 Z = true) : (Jvm.Cond.lays "heapglass/core/wire/Allowance" "heapglass/core/wire/Allowance" "left" "J").before a0 Z = true := hw _ (List.mem_of_getElem? (i := 11) rfl)
theorem w12 {Z : State} {a0 : Array Value} (hw : ∀ d ∈ tables_1, d.before a0 Z = true) : (Jvm.Cond.constantLong "heapglass/core/wire/AllowanceIsSpentPinLaw" (7 : Nat) (-1 : Int64)).before a0 Z = true := hw _ (List.mem_of_getElem? (i := 12) rfl)
theorem w13 {Z : State} {a0 : Array Value} (hw : ∀ d ∈ tables_1, d.before a0 Z = true) : (Jvm.Cond.methodLink "heapglass/core/wire/AllowanceIsSpentPinLaw" (37 : Nat) ({ cls := "heapglass/core/wire/Allowance", name := "isSpent", desc := "()Z" } : Jvm.MethodName)).before a0 Z = true := hw _ (List.mem_of_getElem? (i := 13) rfl)
theorem w14 {Z : State} {a0 : Array Value} (hw : ∀ d ∈ tables_1, d.before a0 Z = true) : (Jvm.Cond.declares ({ cls := "heapglass/core/wire/Allowance", name := "isSpent", desc := "()Z" } : Jvm.MethodName)).before a0 Z = true := hw _ (List.mem_of_getElem? (i := 14) rfl)
theorem w15 {Z : State} {a0 : Array Value} (hw : ∀ d ∈ tables_1, d.before a0 Z = true) : (Jvm.Cond.instanceMethod ({ cls := "heapglass/core/wire/Allowance", name := "isSpent", desc := "()Z" } : Jvm.MethodName)).before a0 Z = true := hw _ (List.mem_of_getElem? (i := 15) rfl)
theorem w16 {Z : State} {a0 : Array Value} (hw : ∀ d ∈ tables_1, d.before a0 Z = true) : (Jvm.Cond.selects "heapglass/core/wire/Allowance" ({ cls := "heapglass/core/wire/Allowance", name := "isSpent", desc := "()Z" } : Jvm.MethodName) ({ cls := "heapglass/core/wire/Allowance", name := "isSpent", desc := "()Z" } : Jvm.MethodName)).before a0 Z = true := hw _ (List.mem_of_getElem? (i := 16) rfl)
theorem w17 {Z : State} {a0 : Array Value} (hw : ∀ d ∈ tables_1, d.before a0 Z = true) : (Jvm.Cond.code ({ cls := "heapglass/core/wire/Allowance", name := "isSpent", desc := "()Z" } : Jvm.MethodName) prog_9_method_4_code (1 : Nat) (Option.some Jvm.ClassFile.FieldType.boolean)).before a0 Z = true := hw _ (List.mem_of_getElem? (i := 17) rfl)
theorem w18 {Z : State} {a0 : Array Value} (hw : ∀ d ∈ tables_1, d.before a0 Z = true) : (Jvm.Cond.methodLink "heapglass/core/wire/AllowanceIsSpentPinLaw" (41 : Nat) ({ cls := "heapglass/core/wire/AllowanceIsSpentPinLaw", name := "apply", desc := "(Lheapglass/core/wire/Allowance;I)V" } : Jvm.MethodName)).before a0 Z = true := hw _ (List.mem_of_getElem? (i := 18) rfl)
theorem w19 {Z : State} {a0 : Array Value} (hw : ∀ d ∈ tables_1, d.before a0 Z = true) : (Jvm.Cond.static ({ cls := "heapglass/core/wire/AllowanceIsSpentPinLaw", name := "apply", desc := "(Lheapglass/core/wire/Allowance;I)V" } : Jvm.MethodName)).before a0 Z = true := hw _ (List.mem_of_getElem? (i := 19) rfl)
theorem w20 {Z : State} {a0 : Array Value} (hw : ∀ d ∈ tables_1, d.before a0 Z = true) : (Jvm.Cond.initialized "heapglass/core/wire/AllowanceIsSpentPinLaw").before a0 Z = true := hw _ (List.mem_of_getElem? (i := 20) rfl)
theorem w21 {Z : State} {a0 : Array Value} (hw : ∀ d ∈ tables_1, d.before a0 Z = true) : (Jvm.Cond.code ({ cls := "heapglass/core/wire/AllowanceIsSpentPinLaw", name := "apply", desc := "(Lheapglass/core/wire/Allowance;I)V" } : Jvm.MethodName) method_3_code (2 : Nat) (Option.none : Option Jvm.ClassFile.FieldType)).before a0 Z = true := hw _ (List.mem_of_getElem? (i := 21) rfl)
theorem w22 {Z : State} {a0 : Array Value} (hw : ∀ d ∈ tables_1, d.before a0 Z = true) : (Jvm.Cond.fieldLink "heapglass/core/wire/AllowanceIsSpentPinLaw" (15 : Nat) "heapglass/core/wire/Control" "PAUSE" "Lheapglass/core/wire/Control;").before a0 Z = true := hw _ (List.mem_of_getElem? (i := 22) rfl)
theorem w23 {Z : State} {a0 : Array Value} (hw : ∀ d ∈ tables_1, d.before a0 Z = true) : (Jvm.Cond.initialized "heapglass/core/wire/Control").before a0 Z = true := hw _ (List.mem_of_getElem? (i := 23) rfl)
theorem w24 {Z : State} {a0 : Array Value} (hw : ∀ d ∈ tables_1, d.before a0 Z = true) : (Jvm.Cond.laysStatic "heapglass/core/wire/Control" "PAUSE" "Lheapglass/core/wire/Control;").before a0 Z = true := hw _ (List.mem_of_getElem? (i := 24) rfl)
theorem w25 {Z : State} {a0 : Array Value} (hw : ∀ d ∈ tables_1, d.before a0 Z = true) : (Jvm.Cond.methodLink "heapglass/core/wire/AllowanceIsSpentPinLaw" (21 : Nat) ({ cls := "heapglass/core/wire/Allowance", name := "obey", desc := "(Lheapglass/core/wire/Control;)V" } : Jvm.MethodName)).before a0 Z = true := hw _ (List.mem_of_getElem? (i := 25) rfl)
theorem w26 {Z : State} {a0 : Array Value} (hw : ∀ d ∈ tables_1, d.before a0 Z = true) : (Jvm.Cond.declares ({ cls := "heapglass/core/wire/Allowance", name := "obey", desc := "(Lheapglass/core/wire/Control;)V" } : Jvm.MethodName)).before a0 Z = true := hw _ (List.mem_of_getElem? (i := 26) rfl)
theorem w27 {Z : State} {a0 : Array Value} (hw : ∀ d ∈ tables_1, d.before a0 Z = true) : (Jvm.Cond.instanceMethod ({ cls := "heapglass/core/wire/Allowance", name := "obey", desc := "(Lheapglass/core/wire/Control;)V" } : Jvm.MethodName)).before a0 Z = true := hw _ (List.mem_of_getElem? (i := 27) rfl)
theorem w28 {Z : State} {a0 : Array Value} (hw : ∀ d ∈ tables_1, d.before a0 Z = true) : (Jvm.Cond.selects "heapglass/core/wire/Allowance" ({ cls := "heapglass/core/wire/Allowance", name := "obey", desc := "(Lheapglass/core/wire/Control;)V" } : Jvm.MethodName) ({ cls := "heapglass/core/wire/Allowance", name := "obey", desc := "(Lheapglass/core/wire/Control;)V" } : Jvm.MethodName)).before a0 Z = true := hw _ (List.mem_of_getElem? (i := 28) rfl)
theorem w29 {Z : State} {a0 : Array Value} (hw : ∀ d ∈ tables_1, d.before a0 Z = true) : (Jvm.Cond.code ({ cls := "heapglass/core/wire/Allowance", name := "obey", desc := "(Lheapglass/core/wire/Control;)V" } : Jvm.MethodName) prog_9_method_2_code (2 : Nat) (Option.none : Option Jvm.ClassFile.FieldType)).before a0 Z = true := hw _ (List.mem_of_getElem? (i := 29) rfl)
theorem w30 {Z : State} {a0 : Array Value} (hw : ∀ d ∈ tables_1, d.before a0 Z = true) : (Jvm.Cond.fieldLink "heapglass/core/wire/Allowance" (17 : Nat) "heapglass/core/wire/Allowance$1" "$SwitchMap$heapglass$core$wire$Control" "[I").before a0 Z = true := hw _ (List.mem_of_getElem? (i := 30) rfl)
theorem w31 {Z : State} {a0 : Array Value} (hw : ∀ d ∈ tables_1, d.before a0 Z = true) : (Jvm.Cond.initialized "heapglass/core/wire/Allowance$1").before a0 Z = true := hw _ (List.mem_of_getElem? (i := 31) rfl)
theorem w32 {Z : State} {a0 : Array Value} (hw : ∀ d ∈ tables_1, d.before a0 Z = true) : (Jvm.Cond.laysStatic "heapglass/core/wire/Allowance$1" "$SwitchMap$heapglass$core$wire$Control" "[I").before a0 Z = true := hw _ (List.mem_of_getElem? (i := 32) rfl)
theorem w33 {Z : State} {a0 : Array Value} (hw : ∀ d ∈ tables_1, d.before a0 Z = true) : (Jvm.Cond.methodLink "heapglass/core/wire/Allowance" (23 : Nat) ({ cls := "heapglass/core/wire/Control", name := "ordinal", desc := "()I" } : Jvm.MethodName)).before a0 Z = true := hw _ (List.mem_of_getElem? (i := 33) rfl)
theorem w34 {Z : State} {a0 : Array Value} (hw : ∀ d ∈ tables_1, d.before a0 Z = true) : (Jvm.Cond.sameMethod "heapglass/core/wire/Control" "java/lang/Enum" "ordinal" "()I").before a0 Z = true := hw _ (List.mem_of_getElem? (i := 34) rfl)
theorem w35 {Z : State} {a0 : Array Value} (hw : ∀ d ∈ tables_1, d.before a0 Z = true) : (Jvm.Cond.declares ({ cls := "java/lang/Enum", name := "ordinal", desc := "()I" } : Jvm.MethodName)).before a0 Z = true := hw _ (List.mem_of_getElem? (i := 35) rfl)
theorem w36 {Z : State} {a0 : Array Value} (hw : ∀ d ∈ tables_1, d.before a0 Z = true) : (Jvm.Cond.instanceMethod ({ cls := "java/lang/Enum", name := "ordinal", desc := "()I" } : Jvm.MethodName)).before a0 Z = true := hw _ (List.mem_of_getElem? (i := 36) rfl)
theorem w37 {Z : State} {a0 : Array Value} (hw : ∀ d ∈ tables_1, d.before a0 Z = true) : (Jvm.Cond.selects "heapglass/core/wire/Control" ({ cls := "heapglass/core/wire/Control", name := "ordinal", desc := "()I" } : Jvm.MethodName) ({ cls := "java/lang/Enum", name := "ordinal", desc := "()I" } : Jvm.MethodName)).before a0 Z = true := hw _ (List.mem_of_getElem? (i := 37) rfl)
theorem w38 {Z : State} {a0 : Array Value} (hw : ∀ d ∈ tables_1, d.before a0 Z = true) : (Jvm.Cond.initialized "java/lang/Enum").before a0 Z = true := hw _ (List.mem_of_getElem? (i := 38) rfl)
theorem w39 {Z : State} {a0 : Array Value} (hw : ∀ d ∈ tables_1, d.before a0 Z = true) : (Jvm.Cond.code ({ cls := "java/lang/Enum", name := "ordinal", desc := "()I" } : Jvm.MethodName) jdk_37_method_2_code (1 : Nat) (Option.some Jvm.ClassFile.FieldType.int)).before a0 Z = true := hw _ (List.mem_of_getElem? (i := 39) rfl)
theorem w40 {Z : State} {a0 : Array Value} (hw : ∀ d ∈ tables_1, d.before a0 Z = true) : (Jvm.Cond.fieldLink "java/lang/Enum" (7 : Nat) "java/lang/Enum" "ordinal" "I").before a0 Z = true := hw _ (List.mem_of_getElem? (i := 40) rfl)
theorem w42 {Z : State} {a0 : Array Value} (hw : ∀ d ∈ tables_1, d.before a0 Z = true) : (Jvm.Cond.methodLink "heapglass/core/wire/Allowance" (34 : Nat) ({ cls := "java/lang/Math", name := "min", desc := "(JJ)J" } : Jvm.MethodName)).before a0 Z = true := hw _ (List.mem_of_getElem? (i := 42) rfl)
theorem w43 {Z : State} {a0 : Array Value} (hw : ∀ d ∈ tables_1, d.before a0 Z = true) : (Jvm.Cond.static ({ cls := "java/lang/Math", name := "min", desc := "(JJ)J" } : Jvm.MethodName)).before a0 Z = true := hw _ (List.mem_of_getElem? (i := 43) rfl)
theorem w44 {Z : State} {a0 : Array Value} (hw : ∀ d ∈ tables_1, d.before a0 Z = true) : (Jvm.Cond.initialized "java/lang/Math").before a0 Z = true := hw _ (List.mem_of_getElem? (i := 44) rfl)
theorem w45 {Z : State} {a0 : Array Value} (hw : ∀ d ∈ tables_1, d.before a0 Z = true) : (Jvm.Cond.code ({ cls := "java/lang/Math", name := "min", desc := "(JJ)J" } : Jvm.MethodName) jdk_29_method_70_code (4 : Nat) (Option.some Jvm.ClassFile.FieldType.long)).before a0 Z = true := hw _ (List.mem_of_getElem? (i := 45) rfl)
theorem w46 {Z : State} {a0 : Array Value} (hw : ∀ d ∈ tables_1, d.before a0 Z = true) : (Jvm.Cond.methodLink "heapglass/core/wire/AllowanceIsSpentPinLaw" (47 : Nat) ({ cls := "heapglass/core/wire/AllowanceIsSpentPinLaw", name := "next", desc := "(JI)J" } : Jvm.MethodName)).before a0 Z = true := hw _ (List.mem_of_getElem? (i := 46) rfl)
theorem w47 {Z : State} {a0 : Array Value} (hw : ∀ d ∈ tables_1, d.before a0 Z = true) : (Jvm.Cond.static ({ cls := "heapglass/core/wire/AllowanceIsSpentPinLaw", name := "next", desc := "(JI)J" } : Jvm.MethodName)).before a0 Z = true := hw _ (List.mem_of_getElem? (i := 47) rfl)
theorem w48 {Z : State} {a0 : Array Value} (hw : ∀ d ∈ tables_1, d.before a0 Z = true) : (Jvm.Cond.code ({ cls := "heapglass/core/wire/AllowanceIsSpentPinLaw", name := "next", desc := "(JI)J" } : Jvm.MethodName) method_2_code (3 : Nat) (Option.some Jvm.ClassFile.FieldType.long)).before a0 Z = true := hw _ (List.mem_of_getElem? (i := 48) rfl)
theorem w49 {Z : State} {a0 : Array Value} (hw : ∀ d ∈ tables_1, d.before a0 Z = true) : (Jvm.Cond.methodLink "heapglass/core/wire/AllowanceIsSpentPinLaw" (9 : Nat) ({ cls := "java/lang/Math", name := "min", desc := "(JJ)J" } : Jvm.MethodName)).before a0 Z = true := hw _ (List.mem_of_getElem? (i := 49) rfl)
theorem w50 {Z : State} {a0 : Array Value} (hw : ∀ d ∈ tables_1, d.before a0 Z = true) : (Jvm.Cond.methodLink "heapglass/core/wire/AllowanceIsSpentPinLaw" (33 : Nat) ({ cls := "heapglass/core/wire/Allowance", name := "spend", desc := "()V" } : Jvm.MethodName)).before a0 Z = true := hw _ (List.mem_of_getElem? (i := 50) rfl)
theorem w51 {Z : State} {a0 : Array Value} (hw : ∀ d ∈ tables_1, d.before a0 Z = true) : (Jvm.Cond.declares ({ cls := "heapglass/core/wire/Allowance", name := "spend", desc := "()V" } : Jvm.MethodName)).before a0 Z = true := hw _ (List.mem_of_getElem? (i := 51) rfl)
theorem w52 {Z : State} {a0 : Array Value} (hw : ∀ d ∈ tables_1, d.before a0 Z = true) : (Jvm.Cond.instanceMethod ({ cls := "heapglass/core/wire/Allowance", name := "spend", desc := "()V" } : Jvm.MethodName)).before a0 Z = true := hw _ (List.mem_of_getElem? (i := 52) rfl)
theorem w53 {Z : State} {a0 : Array Value} (hw : ∀ d ∈ tables_1, d.before a0 Z = true) : (Jvm.Cond.selects "heapglass/core/wire/Allowance" ({ cls := "heapglass/core/wire/Allowance", name := "spend", desc := "()V" } : Jvm.MethodName) ({ cls := "heapglass/core/wire/Allowance", name := "spend", desc := "()V" } : Jvm.MethodName)).before a0 Z = true := hw _ (List.mem_of_getElem? (i := 53) rfl)
theorem w54 {Z : State} {a0 : Array Value} (hw : ∀ d ∈ tables_1, d.before a0 Z = true) : (Jvm.Cond.code ({ cls := "heapglass/core/wire/Allowance", name := "spend", desc := "()V" } : Jvm.MethodName) prog_9_method_3_code (1 : Nat) (Option.none : Option Jvm.ClassFile.FieldType)).before a0 Z = true := hw _ (List.mem_of_getElem? (i := 54) rfl)
theorem w55 {Z : State} {a0 : Array Value} (hw : ∀ d ∈ tables_1, d.before a0 Z = true) : (Jvm.Cond.fieldLink "heapglass/core/wire/AllowanceIsSpentPinLaw" (30 : Nat) "heapglass/core/wire/Control" "RESUME" "Lheapglass/core/wire/Control;").before a0 Z = true := hw _ (List.mem_of_getElem? (i := 55) rfl)
theorem w56 {Z : State} {a0 : Array Value} (hw : ∀ d ∈ tables_1, d.before a0 Z = true) : (Jvm.Cond.laysStatic "heapglass/core/wire/Control" "RESUME" "Lheapglass/core/wire/Control;").before a0 Z = true := hw _ (List.mem_of_getElem? (i := 56) rfl)
theorem w57 {Z : State} {a0 : Array Value} (hw : ∀ d ∈ tables_1, d.before a0 Z = true) : (Jvm.Cond.fieldLink "heapglass/core/wire/AllowanceIsSpentPinLaw" (27 : Nat) "heapglass/core/wire/Control" "STEP" "Lheapglass/core/wire/Control;").before a0 Z = true := hw _ (List.mem_of_getElem? (i := 57) rfl)
theorem w58 {Z : State} {a0 : Array Value} (hw : ∀ d ∈ tables_1, d.before a0 Z = true) : (Jvm.Cond.laysStatic "heapglass/core/wire/Control" "STEP" "Lheapglass/core/wire/Control;").before a0 Z = true := hw _ (List.mem_of_getElem? (i := 58) rfl)
theorem d_jdk_29_method_70_0 : decode jdk_29_method_70_code 0 = .ok (.lload_n 0, 1) := by decide +kernel
theorem d_jdk_29_method_70_1 : decode jdk_29_method_70_code 1 = .ok (.lload_n 2, 1) := by decide +kernel
theorem d_jdk_29_method_70_2 : decode jdk_29_method_70_code 2 = .ok (.lcmp, 1) := by decide +kernel
theorem d_jdk_29_method_70_3 : decode jdk_29_method_70_code 3 = .ok (.ifCond .gt 7, 3) := by decide +kernel
theorem d_jdk_29_method_70_6 : decode jdk_29_method_70_code 6 = .ok (.lload_n 0, 1) := by decide +kernel
theorem d_jdk_29_method_70_7 : decode jdk_29_method_70_code 7 = .ok (.goto 4, 3) := by decide +kernel
theorem d_jdk_29_method_70_10 : decode jdk_29_method_70_code 10 = .ok (.lload_n 2, 1) := by decide +kernel
theorem d_jdk_29_method_70_11 : decode jdk_29_method_70_code 11 = .ok (.lreturn, 1) := by decide +kernel
theorem d_jdk_37_method_2_0 : decode jdk_37_method_2_code 0 = .ok (.aload_n 0, 1) := by decide +kernel
theorem d_jdk_37_method_2_1 : decode jdk_37_method_2_code 1 = .ok (.getfield 7, 3) := by decide +kernel
theorem d_jdk_37_method_2_4 : decode jdk_37_method_2_code 4 = .ok (.ireturn, 1) := by decide +kernel
theorem d_method_2_0 : decode method_2_code 0 = .ok (.iload_n 2, 1) := by decide +kernel
theorem d_method_2_1 : decode method_2_code 1 = .ok (.ifCond .ne 21, 3) := by decide +kernel
theorem d_method_2_4 : decode method_2_code 4 = .ok (.lload_n 0, 1) := by decide +kernel
theorem d_method_2_5 : decode method_2_code 5 = .ok (.ldc2_w 7, 3) := by decide +kernel
theorem d_method_2_8 : decode method_2_code 8 = .ok (.lcmp, 1) := by decide +kernel
theorem d_method_2_9 : decode method_2_code 9 = .ok (.ifCond .ne 7, 3) := by decide +kernel
theorem d_method_2_12 : decode method_2_code 12 = .ok (.lconst 1, 1) := by decide +kernel
theorem d_method_2_13 : decode method_2_code 13 = .ok (.goto 8, 3) := by decide +kernel
theorem d_method_2_16 : decode method_2_code 16 = .ok (.lload_n 0, 1) := by decide +kernel
theorem d_method_2_17 : decode method_2_code 17 = .ok (.lconst 1, 1) := by decide +kernel
theorem d_method_2_18 : decode method_2_code 18 = .ok (.invokestatic 9, 3) := by decide +kernel
theorem d_method_2_21 : decode method_2_code 21 = .ok (.lreturn, 1) := by decide +kernel
theorem d_method_2_22 : decode method_2_code 22 = .ok (.iload_n 2, 1) := by decide +kernel
theorem d_method_2_23 : decode method_2_code 23 = .ok (.iconst 1, 1) := by decide +kernel
theorem d_method_2_24 : decode method_2_code 24 = .ok (.if_icmp .ne 19, 3) := by decide +kernel
theorem d_method_2_27 : decode method_2_code 27 = .ok (.lload_n 0, 1) := by decide +kernel
theorem d_method_2_28 : decode method_2_code 28 = .ok (.ldc2_w 7, 3) := by decide +kernel
theorem d_method_2_31 : decode method_2_code 31 = .ok (.lcmp, 1) := by decide +kernel
theorem d_method_2_32 : decode method_2_code 32 = .ok (.ifCond .ne 7, 3) := by decide +kernel
theorem d_method_2_35 : decode method_2_code 35 = .ok (.lconst 1, 1) := by decide +kernel
theorem d_method_2_36 : decode method_2_code 36 = .ok (.goto 6, 3) := by decide +kernel
theorem d_method_2_39 : decode method_2_code 39 = .ok (.lload_n 0, 1) := by decide +kernel
theorem d_method_2_40 : decode method_2_code 40 = .ok (.lconst 1, 1) := by decide +kernel
theorem d_method_2_41 : decode method_2_code 41 = .ok (.ladd, 1) := by decide +kernel
theorem d_method_2_42 : decode method_2_code 42 = .ok (.lreturn, 1) := by decide +kernel
theorem d_method_2_43 : decode method_2_code 43 = .ok (.iload_n 2, 1) := by decide +kernel
theorem d_method_2_44 : decode method_2_code 44 = .ok (.iconst 2, 1) := by decide +kernel
theorem d_method_2_45 : decode method_2_code 45 = .ok (.if_icmp .ne 7, 3) := by decide +kernel
theorem d_method_2_48 : decode method_2_code 48 = .ok (.ldc2_w 7, 3) := by decide +kernel
theorem d_method_2_51 : decode method_2_code 51 = .ok (.lreturn, 1) := by decide +kernel
theorem d_method_2_52 : decode method_2_code 52 = .ok (.lload_n 0, 1) := by decide +kernel
theorem d_method_2_53 : decode method_2_code 53 = .ok (.lconst 0, 1) := by decide +kernel
theorem d_method_2_54 : decode method_2_code 54 = .ok (.lcmp, 1) := by decide +kernel
theorem d_method_2_55 : decode method_2_code 55 = .ok (.ifCond .le 9, 3) := by decide +kernel
theorem d_method_2_58 : decode method_2_code 58 = .ok (.lload_n 0, 1) := by decide +kernel
theorem d_method_2_59 : decode method_2_code 59 = .ok (.lconst 1, 1) := by decide +kernel
theorem d_method_2_60 : decode method_2_code 60 = .ok (.lsub, 1) := by decide +kernel
theorem d_method_2_61 : decode method_2_code 61 = .ok (.goto 4, 3) := by decide +kernel
theorem d_method_2_64 : decode method_2_code 64 = .ok (.lload_n 0, 1) := by decide +kernel
theorem d_method_2_65 : decode method_2_code 65 = .ok (.lreturn, 1) := by decide +kernel
theorem d_method_3_0 : decode method_3_code 0 = .ok (.iload_n 1, 1) := by decide +kernel
theorem d_method_3_1 : decode method_3_code 1 = .ok (.ifCond .ne 13, 3) := by decide +kernel
theorem d_method_3_4 : decode method_3_code 4 = .ok (.aload_n 0, 1) := by decide +kernel
theorem d_method_3_5 : decode method_3_code 5 = .ok (.getstatic 15, 3) := by decide +kernel
theorem d_method_3_8 : decode method_3_code 8 = .ok (.invokevirtual 21, 3) := by decide +kernel
theorem d_method_3_11 : decode method_3_code 11 = .ok (.goto 37, 3) := by decide +kernel
theorem d_method_3_14 : decode method_3_code 14 = .ok (.iload_n 1, 1) := by decide +kernel
theorem d_method_3_15 : decode method_3_code 15 = .ok (.iconst 1, 1) := by decide +kernel
theorem d_method_3_16 : decode method_3_code 16 = .ok (.if_icmp .ne 13, 3) := by decide +kernel
theorem d_method_3_19 : decode method_3_code 19 = .ok (.aload_n 0, 1) := by decide +kernel
theorem d_method_3_20 : decode method_3_code 20 = .ok (.getstatic 27, 3) := by decide +kernel
theorem d_method_3_23 : decode method_3_code 23 = .ok (.invokevirtual 21, 3) := by decide +kernel
theorem d_method_3_26 : decode method_3_code 26 = .ok (.goto 22, 3) := by decide +kernel
theorem d_method_3_29 : decode method_3_code 29 = .ok (.iload_n 1, 1) := by decide +kernel
theorem d_method_3_30 : decode method_3_code 30 = .ok (.iconst 2, 1) := by decide +kernel
theorem d_method_3_31 : decode method_3_code 31 = .ok (.if_icmp .ne 13, 3) := by decide +kernel
theorem d_method_3_34 : decode method_3_code 34 = .ok (.aload_n 0, 1) := by decide +kernel
theorem d_method_3_35 : decode method_3_code 35 = .ok (.getstatic 30, 3) := by decide +kernel
theorem d_method_3_38 : decode method_3_code 38 = .ok (.invokevirtual 21, 3) := by decide +kernel
theorem d_method_3_41 : decode method_3_code 41 = .ok (.goto 7, 3) := by decide +kernel
theorem d_method_3_44 : decode method_3_code 44 = .ok (.aload_n 0, 1) := by decide +kernel
theorem d_method_3_45 : decode method_3_code 45 = .ok (.invokevirtual 33, 3) := by decide +kernel
theorem d_method_3_48 : decode method_3_code 48 = .ok (.return_, 1) := by decide +kernel
theorem d_prog_9_method_1_0 : decode prog_9_method_1_code 0 = .ok (.aload_n 0, 1) := by decide +kernel
theorem d_prog_9_method_1_1 : decode prog_9_method_1_code 1 = .ok (.invokespecial 3, 3) := by decide +kernel
theorem d_prog_9_method_1_4 : decode prog_9_method_1_code 4 = .ok (.aload_n 0, 1) := by decide +kernel
theorem d_prog_9_method_1_5 : decode prog_9_method_1_code 5 = .ok (.ldc2_w 11, 3) := by decide +kernel
theorem d_prog_9_method_1_8 : decode prog_9_method_1_code 8 = .ok (.putfield 13, 3) := by decide +kernel
theorem d_prog_9_method_1_11 : decode prog_9_method_1_code 11 = .ok (.return_, 1) := by decide +kernel
theorem d_prog_9_method_2_0 : decode prog_9_method_2_code 0 = .ok (.aload_n 0, 1) := by decide +kernel
theorem d_prog_9_method_2_1 : decode prog_9_method_2_code 1 = .ok (.getstatic 17, 3) := by decide +kernel
theorem d_prog_9_method_2_4 : decode prog_9_method_2_code 4 = .ok (.aload_n 1, 1) := by decide +kernel
theorem d_prog_9_method_2_5 : decode prog_9_method_2_code 5 = .ok (.invokevirtual 23, 3) := by decide +kernel
theorem d_prog_9_method_2_8 : decode prog_9_method_2_code 8 = .ok (.iaload, 1) := by decide +kernel
theorem d_prog_9_method_2_9 : decode prog_9_method_2_code 9 = .ok (.tableswitch 27 1 3 #[37, 48, 72], 27) := by decide +kernel
theorem d_prog_9_method_2_46 : decode prog_9_method_2_code 46 = .ok (.aload_n 0, 1) := by decide +kernel
theorem d_prog_9_method_2_47 : decode prog_9_method_2_code 47 = .ok (.getfield 13, 3) := by decide +kernel
theorem d_prog_9_method_2_50 : decode prog_9_method_2_code 50 = .ok (.lconst 1, 1) := by decide +kernel
theorem d_prog_9_method_2_51 : decode prog_9_method_2_code 51 = .ok (.invokestatic 34, 3) := by decide +kernel
theorem d_prog_9_method_2_54 : decode prog_9_method_2_code 54 = .ok (.goto 30, 3) := by decide +kernel
theorem d_prog_9_method_2_57 : decode prog_9_method_2_code 57 = .ok (.aload_n 0, 1) := by decide +kernel
theorem d_prog_9_method_2_58 : decode prog_9_method_2_code 58 = .ok (.getfield 13, 3) := by decide +kernel
theorem d_prog_9_method_2_61 : decode prog_9_method_2_code 61 = .ok (.ldc2_w 11, 3) := by decide +kernel
theorem d_prog_9_method_2_64 : decode prog_9_method_2_code 64 = .ok (.lcmp, 1) := by decide +kernel
theorem d_prog_9_method_2_65 : decode prog_9_method_2_code 65 = .ok (.ifCond .ne 7, 3) := by decide +kernel
theorem d_prog_9_method_2_68 : decode prog_9_method_2_code 68 = .ok (.lconst 1, 1) := by decide +kernel
theorem d_prog_9_method_2_69 : decode prog_9_method_2_code 69 = .ok (.goto 15, 3) := by decide +kernel
theorem d_prog_9_method_2_72 : decode prog_9_method_2_code 72 = .ok (.aload_n 0, 1) := by decide +kernel
theorem d_prog_9_method_2_73 : decode prog_9_method_2_code 73 = .ok (.getfield 13, 3) := by decide +kernel
theorem d_prog_9_method_2_76 : decode prog_9_method_2_code 76 = .ok (.lconst 1, 1) := by decide +kernel
theorem d_prog_9_method_2_77 : decode prog_9_method_2_code 77 = .ok (.ladd, 1) := by decide +kernel
theorem d_prog_9_method_2_78 : decode prog_9_method_2_code 78 = .ok (.goto 6, 3) := by decide +kernel
theorem d_prog_9_method_2_81 : decode prog_9_method_2_code 81 = .ok (.ldc2_w 11, 3) := by decide +kernel
theorem d_prog_9_method_2_84 : decode prog_9_method_2_code 84 = .ok (.putfield 13, 3) := by decide +kernel
theorem d_prog_9_method_2_87 : decode prog_9_method_2_code 87 = .ok (.return_, 1) := by decide +kernel
theorem d_prog_9_method_3_0 : decode prog_9_method_3_code 0 = .ok (.aload_n 0, 1) := by decide +kernel
theorem d_prog_9_method_3_1 : decode prog_9_method_3_code 1 = .ok (.getfield 13, 3) := by decide +kernel
theorem d_prog_9_method_3_4 : decode prog_9_method_3_code 4 = .ok (.lconst 0, 1) := by decide +kernel
theorem d_prog_9_method_3_5 : decode prog_9_method_3_code 5 = .ok (.lcmp, 1) := by decide +kernel
theorem d_prog_9_method_3_6 : decode prog_9_method_3_code 6 = .ok (.ifCond .le 24, 3) := by decide +kernel
theorem d_prog_9_method_3_9 : decode prog_9_method_3_code 9 = .ok (.aload_n 0, 1) := by decide +kernel
theorem d_prog_9_method_3_10 : decode prog_9_method_3_code 10 = .ok (.getfield 13, 3) := by decide +kernel
theorem d_prog_9_method_3_13 : decode prog_9_method_3_code 13 = .ok (.ldc2_w 11, 3) := by decide +kernel
theorem d_prog_9_method_3_16 : decode prog_9_method_3_code 16 = .ok (.lcmp, 1) := by decide +kernel
theorem d_prog_9_method_3_17 : decode prog_9_method_3_code 17 = .ok (.ifCond .eq 13, 3) := by decide +kernel
theorem d_prog_9_method_3_20 : decode prog_9_method_3_code 20 = .ok (.aload_n 0, 1) := by decide +kernel
theorem d_prog_9_method_3_21 : decode prog_9_method_3_code 21 = .ok (.dup, 1) := by decide +kernel
theorem d_prog_9_method_3_22 : decode prog_9_method_3_code 22 = .ok (.getfield 13, 3) := by decide +kernel
theorem d_prog_9_method_3_25 : decode prog_9_method_3_code 25 = .ok (.lconst 1, 1) := by decide +kernel
theorem d_prog_9_method_3_26 : decode prog_9_method_3_code 26 = .ok (.lsub, 1) := by decide +kernel
theorem d_prog_9_method_3_27 : decode prog_9_method_3_code 27 = .ok (.putfield 13, 3) := by decide +kernel
theorem d_prog_9_method_3_30 : decode prog_9_method_3_code 30 = .ok (.return_, 1) := by decide +kernel
theorem d_prog_9_method_4_0 : decode prog_9_method_4_code 0 = .ok (.aload_n 0, 1) := by decide +kernel
theorem d_prog_9_method_4_1 : decode prog_9_method_4_code 1 = .ok (.getfield 13, 3) := by decide +kernel
theorem d_prog_9_method_4_4 : decode prog_9_method_4_code 4 = .ok (.lconst 0, 1) := by decide +kernel
theorem d_prog_9_method_4_5 : decode prog_9_method_4_code 5 = .ok (.lcmp, 1) := by decide +kernel
theorem d_prog_9_method_4_6 : decode prog_9_method_4_code 6 = .ok (.ifCond .ne 7, 3) := by decide +kernel
theorem d_prog_9_method_4_9 : decode prog_9_method_4_code 9 = .ok (.iconst 1, 1) := by decide +kernel
theorem d_prog_9_method_4_10 : decode prog_9_method_4_code 10 = .ok (.goto 4, 3) := by decide +kernel
theorem d_prog_9_method_4_13 : decode prog_9_method_4_code 13 = .ok (.iconst 0, 1) := by decide +kernel
theorem d_prog_9_method_4_14 : decode prog_9_method_4_code 14 = .ok (.ireturn, 1) := by decide +kernel
theorem pd_0 : parseMethodDescriptor "()V" = some ⟨[], none⟩ := by decide +kernel
theorem pd_1 : parseMethodDescriptor "()Z" = some ⟨[], some .boolean⟩ := by decide +kernel
theorem pd_2 : parseMethodDescriptor "()I" = some ⟨[], some .int⟩ := by decide +kernel
theorem pd_3 : parseMethodDescriptor "(JJ)J" = some ⟨[.long, .long], some .long⟩ := by decide +kernel
theorem pd_4 : parseMethodDescriptor "(Lheapglass/core/wire/Control;)V" = some ⟨[(.object "heapglass/core/wire/Control")], none⟩ := by decide +kernel
theorem pd_5 : parseMethodDescriptor "(Lheapglass/core/wire/Allowance;I)V" = some ⟨[(.object "heapglass/core/wire/Allowance"), .int], none⟩ := by decide +kernel
theorem pd_6 : parseMethodDescriptor "(JI)J" = some ⟨[.long, .int], some .long⟩ := by decide +kernel
theorem pn_0 : plainName "heapglass/core/wire/Allowance" = true := by first | (simp [plainName, overriddenIn]; done) | decide +kernel
theorem pn_1 : plainName "java/lang/Enum" = true := by first | (simp [plainName, overriddenIn]; done) | decide +kernel
theorem pn_2 : plainName "heapglass/core/wire/AllowanceIsSpentPinLaw" = true := by first | (simp [plainName, overriddenIn]; done) | decide +kernel
theorem oneof_4 (z : Int32) (h1 : 0 ≤ z.toInt) (h2 : z.toInt < 4) : z = 0 ∨ z = 1 ∨ z = 2 ∨ z = 3 := by
  have q : z.toInt = 0 ∨ z.toInt = 1 ∨ z.toInt = 2 ∨ z.toInt = 3 := by omega
  rcases q with q | q | q | q
  · exact Or.inl (Int32.toInt_inj.mp (q.trans rfl))
  · exact Or.inr (Or.inl (Int32.toInt_inj.mp (q.trans rfl)))
  · exact Or.inr (Or.inr (Or.inl (Int32.toInt_inj.mp (q.trans rfl))))
  · exact Or.inr (Or.inr (Or.inr ((Int32.toInt_inj.mp (q.trans rfl)))))
theorem and_3 (x : Int32) : x &&& (3 : Int32) = (0 : Int32) ∨ x &&& (3 : Int32) = (1 : Int32) ∨ x &&& (3 : Int32) = (2 : Int32) ∨ x &&& (3 : Int32) = (3 : Int32) := by
  have p := c_and x 3 (by decide)
  have q : (3 : Int32).toInt = 3 := rfl
  exact oneof_4 _ p.1 (by omega)
def Ctx (Z : State) (w_PAUSE w_RESUME w_STEP w_arr0 : Addr) (cl_arr0 : Cell) : Prop := Sta Z Z.heap "heapglass/core/wire/Control" "PAUSE" "Lheapglass/core/wire/Control;" (.ref w_PAUSE) ∧ Sta Z Z.heap "heapglass/core/wire/Control" "RESUME" "Lheapglass/core/wire/Control;" (.ref w_RESUME) ∧ Sta Z Z.heap "heapglass/core/wire/Control" "STEP" "Lheapglass/core/wire/Control;" (.ref w_STEP) ∧ Exa Z Z.heap w_PAUSE "heapglass/core/wire/Control" ∧ Exa Z Z.heap w_RESUME "heapglass/core/wire/Control" ∧ Exa Z Z.heap w_STEP "heapglass/core/wire/Control" ∧ Fld Z Z.heap w_PAUSE "java/lang/Enum" "ordinal" "I" (.int 0) ∧ Fld Z Z.heap w_RESUME "java/lang/Enum" "ordinal" "I" (.int 2) ∧ Fld Z Z.heap w_STEP "java/lang/Enum" "ordinal" "I" (.int 1) ∧ Sta Z Z.heap "heapglass/core/wire/Allowance$1" "$SwitchMap$heapglass$core$wire$Control" "[I" (.ref w_arr0) ∧ Arr Z Z.heap w_arr0 cl_arr0 .int ∧ (¬ ((0 : Int32) < 0 ∨ cl_arr0.slots.size ≤ (0 : Int32).toNatClampNeg) ∧ cl_arr0.slots[(0 : Int32).toNatClampNeg]? = some (.int (1 : Int32))) ∧ (¬ ((2 : Int32) < 0 ∨ cl_arr0.slots.size ≤ (2 : Int32).toNatClampNeg) ∧ cl_arr0.slots[(2 : Int32).toNatClampNeg]? = some (.int (3 : Int32))) ∧ (¬ ((1 : Int32) < 0 ∨ cl_arr0.slots.size ≤ (1 : Int32).toNatClampNeg) ∧ cl_arr0.slots[(1 : Int32).toNatClampNeg]? = some (.int (2 : Int32)))
set_option maxRecDepth 65536 in
set_option maxHeartbeats 40000000 in
theorem c1_init (l : Launch) {Z : State} {a0 : Array Value} (hw : ∀ d ∈ tables_1, d.before a0 Z = true) (ws : List Jvm.Cond) {w_PAUSE w_RESUME w_STEP w_arr0 : Addr} {cl_arr0 : Cell} {n0 : Nat} {h0 : Heap} (C : Ctx Z w_PAUSE w_RESUME w_STEP w_arr0 cl_arr0) (O0 : Old Z n0 h0) (Z0 : n0 ≤ h0.size) (b900 : Addr) (g_b900 : n0 ≤ b900) (E_b900 : Exa Z h0 b900 "heapglass/core/wire/Allowance") (F_b900_left : Fld Z h0 b900 "heapglass/core/wire/Allowance" "left" "J" (.long 0)) : zCon l Z (⟨"heapglass/core/wire/Allowance", "<init>", "()V"⟩ : MethodName) prog_9_method_1_code 1 none ws ({ frames := 1, cells := 0, slots := 0, locals := 12 } : Room) #[(.ref b900)] h0 (fun v h L => v = none ∧ Fr n0 L ∧ Keep h0 h [b900] ∧ Exa Z h b900 "heapglass/core/wire/Allowance" ∧ Fld Z h b900 "heapglass/core/wire/Allowance" "left" "J" (.long 9223372036854775807)) := by
  obtain ⟨S_w_PAUSE, S_w_RESUME, S_w_STEP, E_w_PAUSE, E_w_RESUME, E_w_STEP, F_w_PAUSE_ordinal, F_w_RESUME_ordinal, F_w_STEP_ordinal, S_w_arr0, A_w_arr0, A_w_arr0_0, A_w_arr0_2, A_w_arr0_1⟩ := C
  refine zenter (plainFor_of_name pn_0) (L0 := #[rv b900]) (fun m => by first | rfl | simp [entryFrame, mkF, argsToLocals, Value.category, maxLocals]) ?_
  intro p e s m below meth c T0 hx hZ hby hml hown0 hnm hret hlk X0 e0
  have hown : s.vm.findClass "heapglass/core/wire/Allowance" = some m.cls := hown0
  have K0 := Keep.refl h0 [b900]
  have N0 := Fr.nil n0
  show zEnds p e below s T0 (mkF m 0 #[rv b900] []) _ _ _
  refine zaloadN X0 hx hby d_prog_9_method_1_0 rfl rfl (zobjinit X0 hx hby d_prog_9_method_1_1 hZ hown (w6 hw) (w7 hw) (w8 hw) e0 (by rw [hml]; rfl) 0 (Nat.le_of_eq rfl) (by decide) (by decide) fun T1 X1 e1 => ?_)
  refine zaloadN X1 hx hby d_prog_9_method_1_4 rfl rfl (zldc2J X1 hx hby d_prog_9_method_1_5 (9223372036854775807 : Int64) hZ hown (w9 hw) (zputfld X1 hx hby d_prog_9_method_1_8 hZ hown (host := "") (Or.inl (w10 hw)) Via.refl e1 F_b900_left E_b900 (Or.inl (w11 hw)) (w1 hw) (ty := .long) (by decide) rfl rfl fun T2 h2 X2 e2 W2 => ?_))
  have F2_b900_left : Fld Z h2 b900 "heapglass/core/wire/Allowance" "left" "J" (.long 9223372036854775807) := F_b900_left.same W2
  have E2_b900 := E_b900.wr W2
  have O2 := O0.wr W2 g_b900
  have K2 := Keep.wr K0 W2 (Or.inl (List.mem_of_getElem? (i := 0) rfl))
  have N2 := Fr.snoc X2 N0 g_b900
  show zEnds p e below s T2 (mkF m 11 #[rv b900] []) _ _ _
  exact zretV X2 hx hby d_prog_9_method_1_11 hret hlk (by decide) (by decide) (by rw [e2]; exact ⟨rfl, N2, K2, E2_b900, F2_b900_left⟩)
set_option maxRecDepth 65536 in
set_option maxHeartbeats 40000000 in
theorem c3_isSpent (l : Launch) {Z : State} {a0 : Array Value} (hw : ∀ d ∈ tables_1, d.before a0 Z = true) (ws : List Jvm.Cond) {w_PAUSE w_RESUME w_STEP w_arr0 : Addr} {cl_arr0 : Cell} {n0 : Nat} {h0 : Heap} (C : Ctx Z w_PAUSE w_RESUME w_STEP w_arr0 cl_arr0) (O0 : Old Z n0 h0) (Z0 : n0 ≤ h0.size) (b900 : Addr) (g_b900 : n0 ≤ b900) (E_b900 : Exa Z h0 b900 "heapglass/core/wire/Allowance") (F_b900_left : Fld Z h0 b900 "heapglass/core/wire/Allowance" "left" "J" (.long 9223372036854775807)) : zCon l Z (⟨"heapglass/core/wire/Allowance", "isSpent", "()Z"⟩ : MethodName) prog_9_method_4_code 1 (some .boolean) ws ({ frames := 0, cells := 0, slots := 0, locals := 0 } : Room) #[(.ref b900)] h0 (zSame (some (.int 0)) h0) := by
  obtain ⟨S_w_PAUSE, S_w_RESUME, S_w_STEP, E_w_PAUSE, E_w_RESUME, E_w_STEP, F_w_PAUSE_ordinal, F_w_RESUME_ordinal, F_w_STEP_ordinal, S_w_arr0, A_w_arr0, A_w_arr0_0, A_w_arr0_2, A_w_arr0_1⟩ := C
  refine zenter (plainFor_of_name pn_0) (L0 := #[rv b900]) (fun m => by first | rfl | simp [entryFrame, mkF, argsToLocals, Value.category, maxLocals]) ?_
  intro p e s m below meth c T0 hx hZ hby hml hown0 hnm hret hlk X0 e0
  have hown : s.vm.findClass "heapglass/core/wire/Allowance" = some m.cls := hown0
  have K0 := Keep.refl h0 []
  have N0 := Fr.nil n0
  show zEnds p e below s T0 (mkF m 0 #[rv b900] []) _ _ _
  refine zaloadN X0 hx hby d_prog_9_method_4_0 rfl rfl (zgetfld X0 hx hby d_prog_9_method_4_1 hZ hown (host := "") (Or.inl (w10 hw)) Via.refl e0 F_b900_left fun T1 X1 e1 => (zlconst X1 hx hby d_prog_9_method_4_4 (z := (0 : Int64)) rfl (zlcmp X1 hx hby d_prog_9_method_4_5 (1 : Int32) (by decide) (zifYes X1 hx hby d_prog_9_method_4_6 13 (by decide) (by decide) (by decide) (ziconst X1 hx hby d_prog_9_method_4_13 (z := (0 : Int32)) rfl ?_)))))
  show zEnds p e below s T1 (mkF m 14 #[rv b900] [(.int 0)]) _ _ _
  exact zretZ X1 hx hby d_prog_9_method_4_14 hret hlk (by simp) rfl (by decide) (by decide) ⟨rfl, e1, rfl⟩
set_option maxRecDepth 65536 in
set_option maxHeartbeats 40000000 in
theorem c7_ordinal (l : Launch) {Z : State} {a0 : Array Value} (hw : ∀ d ∈ tables_1, d.before a0 Z = true) (ws : List Jvm.Cond) {w_PAUSE w_RESUME w_STEP w_arr0 : Addr} {cl_arr0 : Cell} {n0 : Nat} {h0 : Heap} (C : Ctx Z w_PAUSE w_RESUME w_STEP w_arr0 cl_arr0) (O0 : Old Z n0 h0) (Z0 : n0 ≤ h0.size)  : zCon l Z (⟨"java/lang/Enum", "ordinal", "()I"⟩ : MethodName) jdk_37_method_2_code 1 (some .int) ws ({ frames := 0, cells := 0, slots := 0, locals := 0 } : Room) #[(.ref w_PAUSE)] h0 (zSame (some (.int 0)) h0) := by
  obtain ⟨S_w_PAUSE, S_w_RESUME, S_w_STEP, E_w_PAUSE, E_w_RESUME, E_w_STEP, F_w_PAUSE_ordinal, F_w_RESUME_ordinal, F_w_STEP_ordinal, S_w_arr0, A_w_arr0, A_w_arr0_0, A_w_arr0_2, A_w_arr0_1⟩ := C
  refine zenter (plainFor_of_name pn_1) (L0 := #[rv w_PAUSE]) (fun m => by first | rfl | simp [entryFrame, mkF, argsToLocals, Value.category, maxLocals]) ?_
  intro p e s m below meth c T0 hx hZ hby hml hown0 hnm hret hlk X0 e0
  have hown : s.vm.findClass "java/lang/Enum" = some m.cls := hown0
  have K0 := Keep.refl h0 []
  have N0 := Fr.nil n0
  show zEnds p e below s T0 (mkF m 0 #[rv w_PAUSE] []) _ _ _
  refine zaloadN X0 hx hby d_jdk_37_method_2_0 rfl rfl (zgetfld X0 hx hby d_jdk_37_method_2_1 hZ hown (host := "") (Or.inl (w40 hw)) Via.refl e0 (F_w_PAUSE_ordinal.ext O0.2) fun T1 X1 e1 => ?_)
  show zEnds p e below s T1 (mkF m 4 #[rv w_PAUSE] [(.int 0)]) _ _ _
  exact zretI X1 hx hby d_jdk_37_method_2_4 hret hlk (by decide) (by decide) ⟨rfl, e1, rfl⟩
set_option maxRecDepth 65536 in
set_option maxHeartbeats 40000000 in
theorem c9_min (l : Launch) {Z : State} {a0 : Array Value} (hw : ∀ d ∈ tables_1, d.before a0 Z = true) (ws : List Jvm.Cond) {w_PAUSE w_RESUME w_STEP w_arr0 : Addr} {cl_arr0 : Cell} {n0 : Nat} {h0 : Heap} (C : Ctx Z w_PAUSE w_RESUME w_STEP w_arr0 cl_arr0) (O0 : Old Z n0 h0) (Z0 : n0 ≤ h0.size)  : zCon l Z (⟨"java/lang/Math", "min", "(JJ)J"⟩ : MethodName) jdk_29_method_70_code 4 (some .long) ws ({ frames := 0, cells := 0, slots := 0, locals := 0 } : Room) #[(.long 9223372036854775807), (.long 1)] h0 (zSame (some (.long 1)) h0) := by
  obtain ⟨S_w_PAUSE, S_w_RESUME, S_w_STEP, E_w_PAUSE, E_w_RESUME, E_w_STEP, F_w_PAUSE_ordinal, F_w_RESUME_ordinal, F_w_STEP_ordinal, S_w_arr0, A_w_arr0, A_w_arr0_0, A_w_arr0_2, A_w_arr0_1⟩ := C
  refine zenter (Jvm.Free.JP.mathPlain rfl (by decide +kernel)) (L0 := #[.val (.long 9223372036854775807), .second, .val (.long 1), .second]) (fun m => by first | rfl | simp [entryFrame, mkF, argsToLocals, Value.category, maxLocals]) ?_
  intro p e s m below meth c T0 hx hZ hby hml hown0 hnm hret hlk X0 e0
  have hown : s.vm.findClass "java/lang/Math" = some m.cls := hown0
  have K0 := Keep.refl h0 []
  have N0 := Fr.nil n0
  show zEnds p e below s T0 (mkF m 0 #[.val (.long 9223372036854775807), .second, .val (.long 1), .second] []) _ _ _
  refine zlloadN X0 hx hby d_jdk_29_method_70_0 rfl (zlloadN X0 hx hby d_jdk_29_method_70_1 rfl (zlcmp X0 hx hby d_jdk_29_method_70_2 (1 : Int32) (by decide) (zifYes X0 hx hby d_jdk_29_method_70_3 10 (by decide) (by decide) (by decide) (zlloadN X0 hx hby d_jdk_29_method_70_10 rfl ?_))))
  show zEnds p e below s T0 (mkF m 11 #[.val (.long 9223372036854775807), .second, .val (.long 1), .second] [(.long 1)]) _ _ _
  exact zretL X0 hx hby d_jdk_29_method_70_11 hret hlk (by decide) (by decide) ⟨rfl, e0, rfl⟩
set_option maxRecDepth 65536 in
set_option maxHeartbeats 40000000 in
theorem c6_obey (l : Launch) {Z : State} {a0 : Array Value} (hw : ∀ d ∈ tables_1, d.before a0 Z = true) (ws : List Jvm.Cond) {w_PAUSE w_RESUME w_STEP w_arr0 : Addr} {cl_arr0 : Cell} {n0 : Nat} {h0 : Heap} (C : Ctx Z w_PAUSE w_RESUME w_STEP w_arr0 cl_arr0) (O0 : Old Z n0 h0) (Z0 : n0 ≤ h0.size) (b900 : Addr) (g_b900 : n0 ≤ b900) (E_b900 : Exa Z h0 b900 "heapglass/core/wire/Allowance") (F_b900_left : Fld Z h0 b900 "heapglass/core/wire/Allowance" "left" "J" (.long 9223372036854775807)) : zCon l Z (⟨"heapglass/core/wire/Allowance", "obey", "(Lheapglass/core/wire/Control;)V"⟩ : MethodName) prog_9_method_2_code 2 none ws ({ frames := 1, cells := 0, slots := 0, locals := 16 } : Room) #[(.ref b900), (.ref w_PAUSE)] h0 (fun v h L => v = none ∧ Fr n0 L ∧ Keep h0 h [b900] ∧ Exa Z h b900 "heapglass/core/wire/Allowance" ∧ Fld Z h b900 "heapglass/core/wire/Allowance" "left" "J" (.long 1)) := by
  obtain ⟨S_w_PAUSE, S_w_RESUME, S_w_STEP, E_w_PAUSE, E_w_RESUME, E_w_STEP, F_w_PAUSE_ordinal, F_w_RESUME_ordinal, F_w_STEP_ordinal, S_w_arr0, A_w_arr0, A_w_arr0_0, A_w_arr0_2, A_w_arr0_1⟩ := C
  refine zenter (plainFor_of_name pn_0) (L0 := #[rv b900, rv w_PAUSE]) (fun m => by first | rfl | simp [entryFrame, mkF, argsToLocals, Value.category, maxLocals]) ?_
  intro p e s m below meth c T0 hx hZ hby hml hown0 hnm hret hlk X0 e0
  have hown : s.vm.findClass "heapglass/core/wire/Allowance" = some m.cls := hown0
  have K0 := Keep.refl h0 [b900]
  have N0 := Fr.nil n0
  show zEnds p e below s T0 (mkF m 0 #[rv b900, rv w_PAUSE] []) _ _ _
  refine zaloadN X0 hx hby d_prog_9_method_2_0 rfl rfl (zgetstat X0 hx hby d_prog_9_method_2_1 hZ hown (host := "") (Or.inl (w30 hw)) Via.refl e0 (S_w_arr0.ext O0.2) fun T1 X1 e1 => (zaloadN X1 hx hby d_prog_9_method_2_4 rfl rfl (zcallup X1 hx hby d_prog_9_method_2_5 hZ hown (w33 hw) (w34 hw) (w35 hw) (w37 hw) (w36 hw) (w39 hw) (w38 hw) e1 (E_w_PAUSE.ext O0.2) (c7_ordinal l hw [] ⟨S_w_PAUSE, S_w_RESUME, S_w_STEP, E_w_PAUSE, E_w_RESUME, E_w_STEP, F_w_PAUSE_ordinal, F_w_RESUME_ordinal, F_w_STEP_ordinal, S_w_arr0, A_w_arr0, A_w_arr0_0, A_w_arr0_2, A_w_arr0_1⟩ O0 (Nat.le_trans Z0 K0.1) ) (by decide) (by rw [hml]; rfl) 2 (Nat.le_of_eq rfl) (by decide) (by decide) (by decide) (by decide) pd_2 rfl (argsL := []) (st := [(.ref w_arr0), (.ref b900)]) rfl (zpureK ⟨rfl, rfl⟩ fun T2 X2 e2 => ?_))))
  show zEnds p e below s T2 (mkF m 8 #[rv b900, rv w_PAUSE] [(.int 0), (.ref w_arr0), (.ref b900)]) _ _ _
  refine zialoadC X2 hx hby d_prog_9_method_2_8 hZ e2 (A_w_arr0.ext O0.2) A_w_arr0_0 (ztswIn X2 hx hby d_prog_9_method_2_9 46 (by decide) rfl (by decide) (by decide) (zaloadN X2 hx hby d_prog_9_method_2_46 rfl rfl (zgetfld X2 hx hby d_prog_9_method_2_47 hZ hown (host := "") (Or.inl (w10 hw)) Via.refl e2 F_b900_left fun T3 X3 e3 => (zlconst X3 hx hby d_prog_9_method_2_50 (z := (1 : Int64)) rfl (zcalls X3 hx hby d_prog_9_method_2_51 hZ hown (w42 hw) (w43 hw) (w44 hw) (w45 hw) e3 (c9_min l hw [] ⟨S_w_PAUSE, S_w_RESUME, S_w_STEP, E_w_PAUSE, E_w_RESUME, E_w_STEP, F_w_PAUSE_ordinal, F_w_RESUME_ordinal, F_w_STEP_ordinal, S_w_arr0, A_w_arr0, A_w_arr0_0, A_w_arr0_2, A_w_arr0_1⟩ O0 (Nat.le_trans Z0 K0.1) ) (by decide) (by rw [hml]; rfl) 1 (Nat.le_of_eq rfl) (by decide) (by decide) (by decide) (by decide) pd_3 rfl (argsL := [(.long 9223372036854775807), (.long 1)]) (st := [(.ref b900)]) rfl (zpureK ⟨rfl, rfl⟩ fun T4 X4 e4 => ?_))))))
  show zEnds p e below s T4 (mkF m 54 #[rv b900, rv w_PAUSE] [(.long 1), (.ref b900)]) _ _ _
  refine zgoto X4 hx hby d_prog_9_method_2_54 84 (by decide) (by decide) (zputfld X4 hx hby d_prog_9_method_2_84 hZ hown (host := "") (Or.inl (w10 hw)) Via.refl e4 F_b900_left E_b900 (Or.inl (w11 hw)) (w1 hw) (ty := .long) (by decide) rfl rfl fun T5 h5 X5 e5 W5 => ?_)
  have F5_b900_left : Fld Z h5 b900 "heapglass/core/wire/Allowance" "left" "J" (.long 1) := F_b900_left.same W5
  have E5_b900 := E_b900.wr W5
  have O5 := O0.wr W5 g_b900
  have K5 := Keep.wr K0 W5 (Or.inl (List.mem_of_getElem? (i := 0) rfl))
  have N5 := Fr.snoc X5 N0 g_b900
  show zEnds p e below s T5 (mkF m 87 #[rv b900, rv w_PAUSE] []) _ _ _
  exact zretV X5 hx hby d_prog_9_method_2_87 hret hlk (by decide) (by decide) (by rw [e5]; exact ⟨rfl, N5, K5, E5_b900, F5_b900_left⟩)
set_option maxRecDepth 65536 in
set_option maxHeartbeats 40000000 in
theorem c5_apply (l : Launch) {Z : State} {a0 : Array Value} (hw : ∀ d ∈ tables_1, d.before a0 Z = true) (ws : List Jvm.Cond) {w_PAUSE w_RESUME w_STEP w_arr0 : Addr} {cl_arr0 : Cell} {n0 : Nat} {h0 : Heap} (C : Ctx Z w_PAUSE w_RESUME w_STEP w_arr0 cl_arr0) (O0 : Old Z n0 h0) (Z0 : n0 ≤ h0.size) (b900 : Addr) (g_b900 : n0 ≤ b900) (E_b900 : Exa Z h0 b900 "heapglass/core/wire/Allowance") (F_b900_left : Fld Z h0 b900 "heapglass/core/wire/Allowance" "left" "J" (.long 9223372036854775807)) : zCon l Z (⟨"heapglass/core/wire/AllowanceIsSpentPinLaw", "apply", "(Lheapglass/core/wire/Allowance;I)V"⟩ : MethodName) method_3_code 2 none ws ({ frames := 2, cells := 0, slots := 0, locals := 29 } : Room) #[(.ref b900), (.int 0)] h0 (fun v h L => v = none ∧ Fr n0 L ∧ Keep h0 h [b900] ∧ Exa Z h b900 "heapglass/core/wire/Allowance" ∧ Fld Z h b900 "heapglass/core/wire/Allowance" "left" "J" (.long 1)) := by
  obtain ⟨S_w_PAUSE, S_w_RESUME, S_w_STEP, E_w_PAUSE, E_w_RESUME, E_w_STEP, F_w_PAUSE_ordinal, F_w_RESUME_ordinal, F_w_STEP_ordinal, S_w_arr0, A_w_arr0, A_w_arr0_0, A_w_arr0_2, A_w_arr0_1⟩ := C
  refine zenter (plainFor_of_name pn_2) (L0 := #[rv b900, iv 0]) (fun m => by first | rfl | simp [entryFrame, mkF, argsToLocals, Value.category, maxLocals]) ?_
  intro p e s m below meth c T0 hx hZ hby hml hown0 hnm hret hlk X0 e0
  have hown : s.vm.findClass "heapglass/core/wire/AllowanceIsSpentPinLaw" = some m.cls := hown0
  have K0 := Keep.refl h0 [b900]
  have N0 := Fr.nil n0
  show zEnds p e below s T0 (mkF m 0 #[rv b900, iv 0] []) _ _ _
  refine ziloadN X0 hx hby d_method_3_0 rfl (zifNo X0 hx hby d_method_3_1 (by decide) (zaloadN X0 hx hby d_method_3_4 rfl rfl (zgetstat X0 hx hby d_method_3_5 hZ hown (host := "") (Or.inl (w22 hw)) Via.refl e0 (S_w_PAUSE.ext O0.2) fun T1 X1 e1 => (zcallv X1 hx hby d_method_3_8 hZ hown (w25 hw) (w26 hw) (notFace_of_selects (args := #[]) (mvT hZ (w28 hw))) (w28 hw) (w27 hw) (w29 hw) (w2 hw) e1 E_b900 (c6_obey l hw [] ⟨S_w_PAUSE, S_w_RESUME, S_w_STEP, E_w_PAUSE, E_w_RESUME, E_w_STEP, F_w_PAUSE_ordinal, F_w_RESUME_ordinal, F_w_STEP_ordinal, S_w_arr0, A_w_arr0, A_w_arr0_0, A_w_arr0_2, A_w_arr0_1⟩ O0 (Nat.le_trans Z0 K0.1) b900 g_b900 E_b900 F_b900_left) (by decide) (by rw [hml]; rfl) 0 (Nat.le_of_eq rfl) (by decide) (by decide) (by decide) (by decide) pd_4 rfl (argsL := [(.ref w_PAUSE)]) (st := []) rfl fun T2 h2 v2 L2 e2 X2 q2 => ?_))))
  obtain ⟨rfl, N2q, K2q, E2_b900, F2_b900_left⟩ := q2
  have O2 := O0.keep K2q (allS g_b900 all0)
  have K2 := Keep.trans K0 K2q (allS (Or.inl (List.mem_of_getElem? (i := 0) rfl)) all0)
  have N2 := Fr.app N0 N2q
  show zEnds p e below s T2 (mkF m 11 #[rv b900, iv 0] []) _ _ _
  refine zgoto X2 hx hby d_method_3_11 48 (by decide) (by decide) ?_
  show zEnds p e below s T2 (mkF m 48 #[rv b900, iv 0] []) _ _ _
  exact zretV X2 hx hby d_method_3_48 hret hlk (by decide) (by decide) (by rw [e2]; exact ⟨rfl, N2, K2, E2_b900, F2_b900_left⟩)
set_option maxRecDepth 65536 in
set_option maxHeartbeats 40000000 in
theorem c13_next (l : Launch) {Z : State} {a0 : Array Value} (hw : ∀ d ∈ tables_1, d.before a0 Z = true) (ws : List Jvm.Cond) {w_PAUSE w_RESUME w_STEP w_arr0 : Addr} {cl_arr0 : Cell} {n0 : Nat} {h0 : Heap} (C : Ctx Z w_PAUSE w_RESUME w_STEP w_arr0 cl_arr0) (O0 : Old Z n0 h0) (Z0 : n0 ≤ h0.size)  : zCon l Z (⟨"heapglass/core/wire/AllowanceIsSpentPinLaw", "next", "(JI)J"⟩ : MethodName) method_2_code 3 (some .long) ws ({ frames := 0, cells := 0, slots := 0, locals := 0 } : Room) #[(.long (-1)), (.int 0)] h0 (zSame (some (.long 1)) h0) := by
  obtain ⟨S_w_PAUSE, S_w_RESUME, S_w_STEP, E_w_PAUSE, E_w_RESUME, E_w_STEP, F_w_PAUSE_ordinal, F_w_RESUME_ordinal, F_w_STEP_ordinal, S_w_arr0, A_w_arr0, A_w_arr0_0, A_w_arr0_2, A_w_arr0_1⟩ := C
  refine zenter (plainFor_of_name pn_2) (L0 := #[.val (.long (-1)), .second, iv 0]) (fun m => by first | rfl | simp [entryFrame, mkF, argsToLocals, Value.category, maxLocals]) ?_
  intro p e s m below meth c T0 hx hZ hby hml hown0 hnm hret hlk X0 e0
  have hown : s.vm.findClass "heapglass/core/wire/AllowanceIsSpentPinLaw" = some m.cls := hown0
  have K0 := Keep.refl h0 []
  have N0 := Fr.nil n0
  show zEnds p e below s T0 (mkF m 0 #[.val (.long (-1)), .second, iv 0] []) _ _ _
  refine ziloadN X0 hx hby d_method_2_0 rfl (zifNo X0 hx hby d_method_2_1 (by decide) (zlloadN X0 hx hby d_method_2_4 rfl (zldc2J X0 hx hby d_method_2_5 (-1 : Int64) hZ hown (w12 hw) (zlcmp X0 hx hby d_method_2_8 (0 : Int32) (by decide) (zifNo X0 hx hby d_method_2_9 (by decide) (zlconst X0 hx hby d_method_2_12 (z := (1 : Int64)) rfl (zgoto X0 hx hby d_method_2_13 21 (by decide) (by decide) ?_)))))))
  show zEnds p e below s T0 (mkF m 21 #[.val (.long (-1)), .second, iv 0] [(.long 1)]) _ _ _
  exact zretL X0 hx hby d_method_2_21 hret hlk (by decide) (by decide) ⟨rfl, e0, rfl⟩
set_option maxRecDepth 65536 in
set_option maxHeartbeats 40000000 in
theorem c15_isSpent (l : Launch) {Z : State} {a0 : Array Value} (hw : ∀ d ∈ tables_1, d.before a0 Z = true) (ws : List Jvm.Cond) {w_PAUSE w_RESUME w_STEP w_arr0 : Addr} {cl_arr0 : Cell} {n0 : Nat} {h0 : Heap} (C : Ctx Z w_PAUSE w_RESUME w_STEP w_arr0 cl_arr0) (O0 : Old Z n0 h0) (Z0 : n0 ≤ h0.size) (b900 : Addr) (g_b900 : n0 ≤ b900) (E_b900 : Exa Z h0 b900 "heapglass/core/wire/Allowance") (F_b900_left : Fld Z h0 b900 "heapglass/core/wire/Allowance" "left" "J" (.long 1)) : zCon l Z (⟨"heapglass/core/wire/Allowance", "isSpent", "()Z"⟩ : MethodName) prog_9_method_4_code 1 (some .boolean) ws ({ frames := 0, cells := 0, slots := 0, locals := 0 } : Room) #[(.ref b900)] h0 (zSame (some (.int 0)) h0) := by
  obtain ⟨S_w_PAUSE, S_w_RESUME, S_w_STEP, E_w_PAUSE, E_w_RESUME, E_w_STEP, F_w_PAUSE_ordinal, F_w_RESUME_ordinal, F_w_STEP_ordinal, S_w_arr0, A_w_arr0, A_w_arr0_0, A_w_arr0_2, A_w_arr0_1⟩ := C
  refine zenter (plainFor_of_name pn_0) (L0 := #[rv b900]) (fun m => by first | rfl | simp [entryFrame, mkF, argsToLocals, Value.category, maxLocals]) ?_
  intro p e s m below meth c T0 hx hZ hby hml hown0 hnm hret hlk X0 e0
  have hown : s.vm.findClass "heapglass/core/wire/Allowance" = some m.cls := hown0
  have K0 := Keep.refl h0 []
  have N0 := Fr.nil n0
  show zEnds p e below s T0 (mkF m 0 #[rv b900] []) _ _ _
  refine zaloadN X0 hx hby d_prog_9_method_4_0 rfl rfl (zgetfld X0 hx hby d_prog_9_method_4_1 hZ hown (host := "") (Or.inl (w10 hw)) Via.refl e0 F_b900_left fun T1 X1 e1 => (zlconst X1 hx hby d_prog_9_method_4_4 (z := (0 : Int64)) rfl (zlcmp X1 hx hby d_prog_9_method_4_5 (1 : Int32) (by decide) (zifYes X1 hx hby d_prog_9_method_4_6 13 (by decide) (by decide) (by decide) (ziconst X1 hx hby d_prog_9_method_4_13 (z := (0 : Int32)) rfl ?_)))))
  show zEnds p e below s T1 (mkF m 14 #[rv b900] [(.int 0)]) _ _ _
  exact zretZ X1 hx hby d_prog_9_method_4_14 hret hlk (by simp) rfl (by decide) (by decide) ⟨rfl, e1, rfl⟩
set_option maxRecDepth 65536 in
set_option maxHeartbeats 40000000 in
theorem c19_min (l : Launch) {Z : State} {a0 : Array Value} (hw : ∀ d ∈ tables_1, d.before a0 Z = true) (ws : List Jvm.Cond) {w_PAUSE w_RESUME w_STEP w_arr0 : Addr} {cl_arr0 : Cell} {n0 : Nat} {h0 : Heap} (C : Ctx Z w_PAUSE w_RESUME w_STEP w_arr0 cl_arr0) (O0 : Old Z n0 h0) (Z0 : n0 ≤ h0.size)  : zCon l Z (⟨"java/lang/Math", "min", "(JJ)J"⟩ : MethodName) jdk_29_method_70_code 4 (some .long) ws ({ frames := 0, cells := 0, slots := 0, locals := 0 } : Room) #[(.long 1), (.long 1)] h0 (zSame (some (.long 1)) h0) := by
  obtain ⟨S_w_PAUSE, S_w_RESUME, S_w_STEP, E_w_PAUSE, E_w_RESUME, E_w_STEP, F_w_PAUSE_ordinal, F_w_RESUME_ordinal, F_w_STEP_ordinal, S_w_arr0, A_w_arr0, A_w_arr0_0, A_w_arr0_2, A_w_arr0_1⟩ := C
  refine zenter (Jvm.Free.JP.mathPlain rfl (by decide +kernel)) (L0 := #[.val (.long 1), .second, .val (.long 1), .second]) (fun m => by first | rfl | simp [entryFrame, mkF, argsToLocals, Value.category, maxLocals]) ?_
  intro p e s m below meth c T0 hx hZ hby hml hown0 hnm hret hlk X0 e0
  have hown : s.vm.findClass "java/lang/Math" = some m.cls := hown0
  have K0 := Keep.refl h0 []
  have N0 := Fr.nil n0
  show zEnds p e below s T0 (mkF m 0 #[.val (.long 1), .second, .val (.long 1), .second] []) _ _ _
  refine zlloadN X0 hx hby d_jdk_29_method_70_0 rfl (zlloadN X0 hx hby d_jdk_29_method_70_1 rfl (zlcmp X0 hx hby d_jdk_29_method_70_2 (0 : Int32) (by decide) (zifNo X0 hx hby d_jdk_29_method_70_3 (by decide) (zlloadN X0 hx hby d_jdk_29_method_70_6 rfl (zgoto X0 hx hby d_jdk_29_method_70_7 11 (by decide) (by decide) ?_)))))
  show zEnds p e below s T0 (mkF m 11 #[.val (.long 1), .second, .val (.long 1), .second] [(.long 1)]) _ _ _
  exact zretL X0 hx hby d_jdk_29_method_70_11 hret hlk (by decide) (by decide) ⟨rfl, e0, rfl⟩
set_option maxRecDepth 65536 in
set_option maxHeartbeats 40000000 in
theorem c18_obey (l : Launch) {Z : State} {a0 : Array Value} (hw : ∀ d ∈ tables_1, d.before a0 Z = true) (ws : List Jvm.Cond) {w_PAUSE w_RESUME w_STEP w_arr0 : Addr} {cl_arr0 : Cell} {n0 : Nat} {h0 : Heap} (C : Ctx Z w_PAUSE w_RESUME w_STEP w_arr0 cl_arr0) (O0 : Old Z n0 h0) (Z0 : n0 ≤ h0.size) (b900 : Addr) (g_b900 : n0 ≤ b900) (E_b900 : Exa Z h0 b900 "heapglass/core/wire/Allowance") (F_b900_left : Fld Z h0 b900 "heapglass/core/wire/Allowance" "left" "J" (.long 1)) : zCon l Z (⟨"heapglass/core/wire/Allowance", "obey", "(Lheapglass/core/wire/Control;)V"⟩ : MethodName) prog_9_method_2_code 2 none ws ({ frames := 1, cells := 0, slots := 0, locals := 16 } : Room) #[(.ref b900), (.ref w_PAUSE)] h0 (fun v h L => v = none ∧ Fr n0 L ∧ Keep h0 h [b900] ∧ Exa Z h b900 "heapglass/core/wire/Allowance" ∧ Fld Z h b900 "heapglass/core/wire/Allowance" "left" "J" (.long 1)) := by
  obtain ⟨S_w_PAUSE, S_w_RESUME, S_w_STEP, E_w_PAUSE, E_w_RESUME, E_w_STEP, F_w_PAUSE_ordinal, F_w_RESUME_ordinal, F_w_STEP_ordinal, S_w_arr0, A_w_arr0, A_w_arr0_0, A_w_arr0_2, A_w_arr0_1⟩ := C
  refine zenter (plainFor_of_name pn_0) (L0 := #[rv b900, rv w_PAUSE]) (fun m => by first | rfl | simp [entryFrame, mkF, argsToLocals, Value.category, maxLocals]) ?_
  intro p e s m below meth c T0 hx hZ hby hml hown0 hnm hret hlk X0 e0
  have hown : s.vm.findClass "heapglass/core/wire/Allowance" = some m.cls := hown0
  have K0 := Keep.refl h0 [b900]
  have N0 := Fr.nil n0
  show zEnds p e below s T0 (mkF m 0 #[rv b900, rv w_PAUSE] []) _ _ _
  refine zaloadN X0 hx hby d_prog_9_method_2_0 rfl rfl (zgetstat X0 hx hby d_prog_9_method_2_1 hZ hown (host := "") (Or.inl (w30 hw)) Via.refl e0 (S_w_arr0.ext O0.2) fun T1 X1 e1 => (zaloadN X1 hx hby d_prog_9_method_2_4 rfl rfl (zcallup X1 hx hby d_prog_9_method_2_5 hZ hown (w33 hw) (w34 hw) (w35 hw) (w37 hw) (w36 hw) (w39 hw) (w38 hw) e1 (E_w_PAUSE.ext O0.2) (c7_ordinal l hw [] ⟨S_w_PAUSE, S_w_RESUME, S_w_STEP, E_w_PAUSE, E_w_RESUME, E_w_STEP, F_w_PAUSE_ordinal, F_w_RESUME_ordinal, F_w_STEP_ordinal, S_w_arr0, A_w_arr0, A_w_arr0_0, A_w_arr0_2, A_w_arr0_1⟩ O0 (Nat.le_trans Z0 K0.1) ) (by decide) (by rw [hml]; rfl) 2 (Nat.le_of_eq rfl) (by decide) (by decide) (by decide) (by decide) pd_2 rfl (argsL := []) (st := [(.ref w_arr0), (.ref b900)]) rfl (zpureK ⟨rfl, rfl⟩ fun T2 X2 e2 => ?_))))
  show zEnds p e below s T2 (mkF m 8 #[rv b900, rv w_PAUSE] [(.int 0), (.ref w_arr0), (.ref b900)]) _ _ _
  refine zialoadC X2 hx hby d_prog_9_method_2_8 hZ e2 (A_w_arr0.ext O0.2) A_w_arr0_0 (ztswIn X2 hx hby d_prog_9_method_2_9 46 (by decide) rfl (by decide) (by decide) (zaloadN X2 hx hby d_prog_9_method_2_46 rfl rfl (zgetfld X2 hx hby d_prog_9_method_2_47 hZ hown (host := "") (Or.inl (w10 hw)) Via.refl e2 F_b900_left fun T3 X3 e3 => (zlconst X3 hx hby d_prog_9_method_2_50 (z := (1 : Int64)) rfl (zcalls X3 hx hby d_prog_9_method_2_51 hZ hown (w42 hw) (w43 hw) (w44 hw) (w45 hw) e3 (c19_min l hw [] ⟨S_w_PAUSE, S_w_RESUME, S_w_STEP, E_w_PAUSE, E_w_RESUME, E_w_STEP, F_w_PAUSE_ordinal, F_w_RESUME_ordinal, F_w_STEP_ordinal, S_w_arr0, A_w_arr0, A_w_arr0_0, A_w_arr0_2, A_w_arr0_1⟩ O0 (Nat.le_trans Z0 K0.1) ) (by decide) (by rw [hml]; rfl) 1 (Nat.le_of_eq rfl) (by decide) (by decide) (by decide) (by decide) pd_3 rfl (argsL := [(.long 1), (.long 1)]) (st := [(.ref b900)]) rfl (zpureK ⟨rfl, rfl⟩ fun T4 X4 e4 => ?_))))))
  show zEnds p e below s T4 (mkF m 54 #[rv b900, rv w_PAUSE] [(.long 1), (.ref b900)]) _ _ _
  refine zgoto X4 hx hby d_prog_9_method_2_54 84 (by decide) (by decide) (zputfld X4 hx hby d_prog_9_method_2_84 hZ hown (host := "") (Or.inl (w10 hw)) Via.refl e4 F_b900_left E_b900 (Or.inl (w11 hw)) (w1 hw) (ty := .long) (by decide) rfl rfl fun T5 h5 X5 e5 W5 => ?_)
  have F5_b900_left : Fld Z h5 b900 "heapglass/core/wire/Allowance" "left" "J" (.long 1) := F_b900_left.same W5
  have E5_b900 := E_b900.wr W5
  have O5 := O0.wr W5 g_b900
  have K5 := Keep.wr K0 W5 (Or.inl (List.mem_of_getElem? (i := 0) rfl))
  have N5 := Fr.snoc X5 N0 g_b900
  show zEnds p e below s T5 (mkF m 87 #[rv b900, rv w_PAUSE] []) _ _ _
  exact zretV X5 hx hby d_prog_9_method_2_87 hret hlk (by decide) (by decide) (by rw [e5]; exact ⟨rfl, N5, K5, E5_b900, F5_b900_left⟩)
set_option maxRecDepth 65536 in
set_option maxHeartbeats 40000000 in
theorem c17_apply (l : Launch) {Z : State} {a0 : Array Value} (hw : ∀ d ∈ tables_1, d.before a0 Z = true) (ws : List Jvm.Cond) {w_PAUSE w_RESUME w_STEP w_arr0 : Addr} {cl_arr0 : Cell} {n0 : Nat} {h0 : Heap} (C : Ctx Z w_PAUSE w_RESUME w_STEP w_arr0 cl_arr0) (O0 : Old Z n0 h0) (Z0 : n0 ≤ h0.size) (b900 : Addr) (g_b900 : n0 ≤ b900) (E_b900 : Exa Z h0 b900 "heapglass/core/wire/Allowance") (F_b900_left : Fld Z h0 b900 "heapglass/core/wire/Allowance" "left" "J" (.long 1)) : zCon l Z (⟨"heapglass/core/wire/AllowanceIsSpentPinLaw", "apply", "(Lheapglass/core/wire/Allowance;I)V"⟩ : MethodName) method_3_code 2 none ws ({ frames := 2, cells := 0, slots := 0, locals := 29 } : Room) #[(.ref b900), (.int 0)] h0 (fun v h L => v = none ∧ Fr n0 L ∧ Keep h0 h [b900] ∧ Exa Z h b900 "heapglass/core/wire/Allowance" ∧ Fld Z h b900 "heapglass/core/wire/Allowance" "left" "J" (.long 1)) := by
  obtain ⟨S_w_PAUSE, S_w_RESUME, S_w_STEP, E_w_PAUSE, E_w_RESUME, E_w_STEP, F_w_PAUSE_ordinal, F_w_RESUME_ordinal, F_w_STEP_ordinal, S_w_arr0, A_w_arr0, A_w_arr0_0, A_w_arr0_2, A_w_arr0_1⟩ := C
  refine zenter (plainFor_of_name pn_2) (L0 := #[rv b900, iv 0]) (fun m => by first | rfl | simp [entryFrame, mkF, argsToLocals, Value.category, maxLocals]) ?_
  intro p e s m below meth c T0 hx hZ hby hml hown0 hnm hret hlk X0 e0
  have hown : s.vm.findClass "heapglass/core/wire/AllowanceIsSpentPinLaw" = some m.cls := hown0
  have K0 := Keep.refl h0 [b900]
  have N0 := Fr.nil n0
  show zEnds p e below s T0 (mkF m 0 #[rv b900, iv 0] []) _ _ _
  refine ziloadN X0 hx hby d_method_3_0 rfl (zifNo X0 hx hby d_method_3_1 (by decide) (zaloadN X0 hx hby d_method_3_4 rfl rfl (zgetstat X0 hx hby d_method_3_5 hZ hown (host := "") (Or.inl (w22 hw)) Via.refl e0 (S_w_PAUSE.ext O0.2) fun T1 X1 e1 => (zcallv X1 hx hby d_method_3_8 hZ hown (w25 hw) (w26 hw) (notFace_of_selects (args := #[]) (mvT hZ (w28 hw))) (w28 hw) (w27 hw) (w29 hw) (w2 hw) e1 E_b900 (c18_obey l hw [] ⟨S_w_PAUSE, S_w_RESUME, S_w_STEP, E_w_PAUSE, E_w_RESUME, E_w_STEP, F_w_PAUSE_ordinal, F_w_RESUME_ordinal, F_w_STEP_ordinal, S_w_arr0, A_w_arr0, A_w_arr0_0, A_w_arr0_2, A_w_arr0_1⟩ O0 (Nat.le_trans Z0 K0.1) b900 g_b900 E_b900 F_b900_left) (by decide) (by rw [hml]; rfl) 0 (Nat.le_of_eq rfl) (by decide) (by decide) (by decide) (by decide) pd_4 rfl (argsL := [(.ref w_PAUSE)]) (st := []) rfl fun T2 h2 v2 L2 e2 X2 q2 => ?_))))
  obtain ⟨rfl, N2q, K2q, E2_b900, F2_b900_left⟩ := q2
  have O2 := O0.keep K2q (allS g_b900 all0)
  have K2 := Keep.trans K0 K2q (allS (Or.inl (List.mem_of_getElem? (i := 0) rfl)) all0)
  have N2 := Fr.app N0 N2q
  show zEnds p e below s T2 (mkF m 11 #[rv b900, iv 0] []) _ _ _
  refine zgoto X2 hx hby d_method_3_11 48 (by decide) (by decide) ?_
  show zEnds p e below s T2 (mkF m 48 #[rv b900, iv 0] []) _ _ _
  exact zretV X2 hx hby d_method_3_48 hret hlk (by decide) (by decide) (by rw [e2]; exact ⟨rfl, N2, K2, E2_b900, F2_b900_left⟩)
set_option maxRecDepth 65536 in
set_option maxHeartbeats 40000000 in
theorem c23_next (l : Launch) {Z : State} {a0 : Array Value} (hw : ∀ d ∈ tables_1, d.before a0 Z = true) (ws : List Jvm.Cond) {w_PAUSE w_RESUME w_STEP w_arr0 : Addr} {cl_arr0 : Cell} {n0 : Nat} {h0 : Heap} (C : Ctx Z w_PAUSE w_RESUME w_STEP w_arr0 cl_arr0) (O0 : Old Z n0 h0) (Z0 : n0 ≤ h0.size)  : zCon l Z (⟨"heapglass/core/wire/AllowanceIsSpentPinLaw", "next", "(JI)J"⟩ : MethodName) method_2_code 3 (some .long) ws ({ frames := 1, cells := 0, slots := 0, locals := 15 } : Room) #[(.long 1), (.int 0)] h0 (zSame (some (.long 1)) h0) := by
  obtain ⟨S_w_PAUSE, S_w_RESUME, S_w_STEP, E_w_PAUSE, E_w_RESUME, E_w_STEP, F_w_PAUSE_ordinal, F_w_RESUME_ordinal, F_w_STEP_ordinal, S_w_arr0, A_w_arr0, A_w_arr0_0, A_w_arr0_2, A_w_arr0_1⟩ := C
  refine zenter (plainFor_of_name pn_2) (L0 := #[.val (.long 1), .second, iv 0]) (fun m => by first | rfl | simp [entryFrame, mkF, argsToLocals, Value.category, maxLocals]) ?_
  intro p e s m below meth c T0 hx hZ hby hml hown0 hnm hret hlk X0 e0
  have hown : s.vm.findClass "heapglass/core/wire/AllowanceIsSpentPinLaw" = some m.cls := hown0
  have K0 := Keep.refl h0 []
  have N0 := Fr.nil n0
  show zEnds p e below s T0 (mkF m 0 #[.val (.long 1), .second, iv 0] []) _ _ _
  refine ziloadN X0 hx hby d_method_2_0 rfl (zifNo X0 hx hby d_method_2_1 (by decide) (zlloadN X0 hx hby d_method_2_4 rfl (zldc2J X0 hx hby d_method_2_5 (-1 : Int64) hZ hown (w12 hw) (zlcmp X0 hx hby d_method_2_8 (1 : Int32) (by decide) (zifYes X0 hx hby d_method_2_9 16 (by decide) (by decide) (by decide) (zlloadN X0 hx hby d_method_2_16 rfl (zlconst X0 hx hby d_method_2_17 (z := (1 : Int64)) rfl (zcalls X0 hx hby d_method_2_18 hZ hown (w49 hw) (w43 hw) (w44 hw) (w45 hw) e0 (c19_min l hw [] ⟨S_w_PAUSE, S_w_RESUME, S_w_STEP, E_w_PAUSE, E_w_RESUME, E_w_STEP, F_w_PAUSE_ordinal, F_w_RESUME_ordinal, F_w_STEP_ordinal, S_w_arr0, A_w_arr0, A_w_arr0_0, A_w_arr0_2, A_w_arr0_1⟩ O0 (Nat.le_trans Z0 K0.1) ) (by decide) (by rw [hml]; rfl) 0 (Nat.le_of_eq rfl) (by decide) (by decide) (by decide) (by decide) pd_3 rfl (argsL := [(.long 1), (.long 1)]) (st := []) rfl (zpureK ⟨rfl, rfl⟩ fun T1 X1 e1 => ?_)))))))))
  show zEnds p e below s T1 (mkF m 21 #[.val (.long 1), .second, iv 0] [(.long 1)]) _ _ _
  exact zretL X1 hx hby d_method_2_21 hret hlk (by decide) (by decide) ⟨rfl, e1, rfl⟩
set_option maxRecDepth 65536 in
set_option maxHeartbeats 40000000 in
theorem c27_ordinal (l : Launch) {Z : State} {a0 : Array Value} (hw : ∀ d ∈ tables_1, d.before a0 Z = true) (ws : List Jvm.Cond) {w_PAUSE w_RESUME w_STEP w_arr0 : Addr} {cl_arr0 : Cell} {n0 : Nat} {h0 : Heap} (C : Ctx Z w_PAUSE w_RESUME w_STEP w_arr0 cl_arr0) (O0 : Old Z n0 h0) (Z0 : n0 ≤ h0.size)  : zCon l Z (⟨"java/lang/Enum", "ordinal", "()I"⟩ : MethodName) jdk_37_method_2_code 1 (some .int) ws ({ frames := 0, cells := 0, slots := 0, locals := 0 } : Room) #[(.ref w_STEP)] h0 (zSame (some (.int 1)) h0) := by
  obtain ⟨S_w_PAUSE, S_w_RESUME, S_w_STEP, E_w_PAUSE, E_w_RESUME, E_w_STEP, F_w_PAUSE_ordinal, F_w_RESUME_ordinal, F_w_STEP_ordinal, S_w_arr0, A_w_arr0, A_w_arr0_0, A_w_arr0_2, A_w_arr0_1⟩ := C
  refine zenter (plainFor_of_name pn_1) (L0 := #[rv w_STEP]) (fun m => by first | rfl | simp [entryFrame, mkF, argsToLocals, Value.category, maxLocals]) ?_
  intro p e s m below meth c T0 hx hZ hby hml hown0 hnm hret hlk X0 e0
  have hown : s.vm.findClass "java/lang/Enum" = some m.cls := hown0
  have K0 := Keep.refl h0 []
  have N0 := Fr.nil n0
  show zEnds p e below s T0 (mkF m 0 #[rv w_STEP] []) _ _ _
  refine zaloadN X0 hx hby d_jdk_37_method_2_0 rfl rfl (zgetfld X0 hx hby d_jdk_37_method_2_1 hZ hown (host := "") (Or.inl (w40 hw)) Via.refl e0 (F_w_STEP_ordinal.ext O0.2) fun T1 X1 e1 => ?_)
  show zEnds p e below s T1 (mkF m 4 #[rv w_STEP] [(.int 1)]) _ _ _
  exact zretI X1 hx hby d_jdk_37_method_2_4 hret hlk (by decide) (by decide) ⟨rfl, e1, rfl⟩
set_option maxRecDepth 65536 in
set_option maxHeartbeats 40000000 in
theorem c26_obey (l : Launch) {Z : State} {a0 : Array Value} (hw : ∀ d ∈ tables_1, d.before a0 Z = true) (ws : List Jvm.Cond) {w_PAUSE w_RESUME w_STEP w_arr0 : Addr} {cl_arr0 : Cell} {n0 : Nat} {h0 : Heap} (C : Ctx Z w_PAUSE w_RESUME w_STEP w_arr0 cl_arr0) (O0 : Old Z n0 h0) (Z0 : n0 ≤ h0.size) (b900 : Addr) (g_b900 : n0 ≤ b900) (E_b900 : Exa Z h0 b900 "heapglass/core/wire/Allowance") (F_b900_left : Fld Z h0 b900 "heapglass/core/wire/Allowance" "left" "J" (.long 1)) : zCon l Z (⟨"heapglass/core/wire/Allowance", "obey", "(Lheapglass/core/wire/Control;)V"⟩ : MethodName) prog_9_method_2_code 2 none ws ({ frames := 1, cells := 0, slots := 0, locals := 14 } : Room) #[(.ref b900), (.ref w_STEP)] h0 (fun v h L => v = none ∧ Fr n0 L ∧ Keep h0 h [b900] ∧ Exa Z h b900 "heapglass/core/wire/Allowance" ∧ Fld Z h b900 "heapglass/core/wire/Allowance" "left" "J" (.long 2)) := by
  obtain ⟨S_w_PAUSE, S_w_RESUME, S_w_STEP, E_w_PAUSE, E_w_RESUME, E_w_STEP, F_w_PAUSE_ordinal, F_w_RESUME_ordinal, F_w_STEP_ordinal, S_w_arr0, A_w_arr0, A_w_arr0_0, A_w_arr0_2, A_w_arr0_1⟩ := C
  refine zenter (plainFor_of_name pn_0) (L0 := #[rv b900, rv w_STEP]) (fun m => by first | rfl | simp [entryFrame, mkF, argsToLocals, Value.category, maxLocals]) ?_
  intro p e s m below meth c T0 hx hZ hby hml hown0 hnm hret hlk X0 e0
  have hown : s.vm.findClass "heapglass/core/wire/Allowance" = some m.cls := hown0
  have K0 := Keep.refl h0 [b900]
  have N0 := Fr.nil n0
  show zEnds p e below s T0 (mkF m 0 #[rv b900, rv w_STEP] []) _ _ _
  refine zaloadN X0 hx hby d_prog_9_method_2_0 rfl rfl (zgetstat X0 hx hby d_prog_9_method_2_1 hZ hown (host := "") (Or.inl (w30 hw)) Via.refl e0 (S_w_arr0.ext O0.2) fun T1 X1 e1 => (zaloadN X1 hx hby d_prog_9_method_2_4 rfl rfl (zcallup X1 hx hby d_prog_9_method_2_5 hZ hown (w33 hw) (w34 hw) (w35 hw) (w37 hw) (w36 hw) (w39 hw) (w38 hw) e1 (E_w_STEP.ext O0.2) (c27_ordinal l hw [] ⟨S_w_PAUSE, S_w_RESUME, S_w_STEP, E_w_PAUSE, E_w_RESUME, E_w_STEP, F_w_PAUSE_ordinal, F_w_RESUME_ordinal, F_w_STEP_ordinal, S_w_arr0, A_w_arr0, A_w_arr0_0, A_w_arr0_2, A_w_arr0_1⟩ O0 (Nat.le_trans Z0 K0.1) ) (by decide) (by rw [hml]; rfl) 2 (Nat.le_of_eq rfl) (by decide) (by decide) (by decide) (by decide) pd_2 rfl (argsL := []) (st := [(.ref w_arr0), (.ref b900)]) rfl (zpureK ⟨rfl, rfl⟩ fun T2 X2 e2 => ?_))))
  show zEnds p e below s T2 (mkF m 8 #[rv b900, rv w_STEP] [(.int 1), (.ref w_arr0), (.ref b900)]) _ _ _
  refine zialoadC X2 hx hby d_prog_9_method_2_8 hZ e2 (A_w_arr0.ext O0.2) A_w_arr0_1 (ztswIn X2 hx hby d_prog_9_method_2_9 57 (by decide) rfl (by decide) (by decide) (zaloadN X2 hx hby d_prog_9_method_2_57 rfl rfl (zgetfld X2 hx hby d_prog_9_method_2_58 hZ hown (host := "") (Or.inl (w10 hw)) Via.refl e2 F_b900_left fun T3 X3 e3 => (zldc2J X3 hx hby d_prog_9_method_2_61 (9223372036854775807 : Int64) hZ hown (w9 hw) (zlcmp X3 hx hby d_prog_9_method_2_64 (-1 : Int32) (by decide) (zifYes X3 hx hby d_prog_9_method_2_65 72 (by decide) (by decide) (by decide) (zaloadN X3 hx hby d_prog_9_method_2_72 rfl rfl (zgetfld X3 hx hby d_prog_9_method_2_73 hZ hown (host := "") (Or.inl (w10 hw)) Via.refl e3 F_b900_left fun T4 X4 e4 => (zlconst X4 hx hby d_prog_9_method_2_76 (z := (1 : Int64)) rfl ?_)))))))))
  show zEnds p e below s T4 (mkF m 77 #[rv b900, rv w_STEP] [(.long 1), (.long 1), (.ref b900)]) _ _ _
  refine zladd X4 hx hby d_prog_9_method_2_77 (2 : Int64) (by decide) (zgoto X4 hx hby d_prog_9_method_2_78 84 (by decide) (by decide) (zputfld X4 hx hby d_prog_9_method_2_84 hZ hown (host := "") (Or.inl (w10 hw)) Via.refl e4 F_b900_left E_b900 (Or.inl (w11 hw)) (w1 hw) (ty := .long) (by decide) rfl rfl fun T5 h5 X5 e5 W5 => ?_))
  have F5_b900_left : Fld Z h5 b900 "heapglass/core/wire/Allowance" "left" "J" (.long 2) := F_b900_left.same W5
  have E5_b900 := E_b900.wr W5
  have O5 := O0.wr W5 g_b900
  have K5 := Keep.wr K0 W5 (Or.inl (List.mem_of_getElem? (i := 0) rfl))
  have N5 := Fr.snoc X5 N0 g_b900
  show zEnds p e below s T5 (mkF m 87 #[rv b900, rv w_STEP] []) _ _ _
  exact zretV X5 hx hby d_prog_9_method_2_87 hret hlk (by decide) (by decide) (by rw [e5]; exact ⟨rfl, N5, K5, E5_b900, F5_b900_left⟩)
set_option maxRecDepth 65536 in
set_option maxHeartbeats 40000000 in
theorem c25_apply (l : Launch) {Z : State} {a0 : Array Value} (hw : ∀ d ∈ tables_1, d.before a0 Z = true) (ws : List Jvm.Cond) {w_PAUSE w_RESUME w_STEP w_arr0 : Addr} {cl_arr0 : Cell} {n0 : Nat} {h0 : Heap} (C : Ctx Z w_PAUSE w_RESUME w_STEP w_arr0 cl_arr0) (O0 : Old Z n0 h0) (Z0 : n0 ≤ h0.size) (b900 : Addr) (g_b900 : n0 ≤ b900) (E_b900 : Exa Z h0 b900 "heapglass/core/wire/Allowance") (F_b900_left : Fld Z h0 b900 "heapglass/core/wire/Allowance" "left" "J" (.long 1)) : zCon l Z (⟨"heapglass/core/wire/AllowanceIsSpentPinLaw", "apply", "(Lheapglass/core/wire/Allowance;I)V"⟩ : MethodName) method_3_code 2 none ws ({ frames := 2, cells := 0, slots := 0, locals := 27 } : Room) #[(.ref b900), (.int 1)] h0 (fun v h L => v = none ∧ Fr n0 L ∧ Keep h0 h [b900] ∧ Exa Z h b900 "heapglass/core/wire/Allowance" ∧ Fld Z h b900 "heapglass/core/wire/Allowance" "left" "J" (.long 2)) := by
  obtain ⟨S_w_PAUSE, S_w_RESUME, S_w_STEP, E_w_PAUSE, E_w_RESUME, E_w_STEP, F_w_PAUSE_ordinal, F_w_RESUME_ordinal, F_w_STEP_ordinal, S_w_arr0, A_w_arr0, A_w_arr0_0, A_w_arr0_2, A_w_arr0_1⟩ := C
  refine zenter (plainFor_of_name pn_2) (L0 := #[rv b900, iv 1]) (fun m => by first | rfl | simp [entryFrame, mkF, argsToLocals, Value.category, maxLocals]) ?_
  intro p e s m below meth c T0 hx hZ hby hml hown0 hnm hret hlk X0 e0
  have hown : s.vm.findClass "heapglass/core/wire/AllowanceIsSpentPinLaw" = some m.cls := hown0
  have K0 := Keep.refl h0 [b900]
  have N0 := Fr.nil n0
  show zEnds p e below s T0 (mkF m 0 #[rv b900, iv 1] []) _ _ _
  refine ziloadN X0 hx hby d_method_3_0 rfl (zifYes X0 hx hby d_method_3_1 14 (by decide) (by decide) (by decide) (ziloadN X0 hx hby d_method_3_14 rfl (ziconst X0 hx hby d_method_3_15 (z := (1 : Int32)) rfl (zicmpNo X0 hx hby d_method_3_16 (by decide) (zaloadN X0 hx hby d_method_3_19 rfl rfl (zgetstat X0 hx hby d_method_3_20 hZ hown (host := "") (Or.inl (w57 hw)) Via.refl e0 (S_w_STEP.ext O0.2) fun T1 X1 e1 => (zcallv X1 hx hby d_method_3_23 hZ hown (w25 hw) (w26 hw) (notFace_of_selects (args := #[]) (mvT hZ (w28 hw))) (w28 hw) (w27 hw) (w29 hw) (w2 hw) e1 E_b900 (c26_obey l hw [] ⟨S_w_PAUSE, S_w_RESUME, S_w_STEP, E_w_PAUSE, E_w_RESUME, E_w_STEP, F_w_PAUSE_ordinal, F_w_RESUME_ordinal, F_w_STEP_ordinal, S_w_arr0, A_w_arr0, A_w_arr0_0, A_w_arr0_2, A_w_arr0_1⟩ O0 (Nat.le_trans Z0 K0.1) b900 g_b900 E_b900 F_b900_left) (by decide) (by rw [hml]; rfl) 0 (Nat.le_of_eq rfl) (by decide) (by decide) (by decide) (by decide) pd_4 rfl (argsL := [(.ref w_STEP)]) (st := []) rfl fun T2 h2 v2 L2 e2 X2 q2 => ?_)))))))
  obtain ⟨rfl, N2q, K2q, E2_b900, F2_b900_left⟩ := q2
  have O2 := O0.keep K2q (allS g_b900 all0)
  have K2 := Keep.trans K0 K2q (allS (Or.inl (List.mem_of_getElem? (i := 0) rfl)) all0)
  have N2 := Fr.app N0 N2q
  show zEnds p e below s T2 (mkF m 26 #[rv b900, iv 1] []) _ _ _
  refine zgoto X2 hx hby d_method_3_26 48 (by decide) (by decide) ?_
  show zEnds p e below s T2 (mkF m 48 #[rv b900, iv 1] []) _ _ _
  exact zretV X2 hx hby d_method_3_48 hret hlk (by decide) (by decide) (by rw [e2]; exact ⟨rfl, N2, K2, E2_b900, F2_b900_left⟩)
set_option maxRecDepth 65536 in
set_option maxHeartbeats 40000000 in
theorem c31_next (l : Launch) {Z : State} {a0 : Array Value} (hw : ∀ d ∈ tables_1, d.before a0 Z = true) (ws : List Jvm.Cond) {w_PAUSE w_RESUME w_STEP w_arr0 : Addr} {cl_arr0 : Cell} {n0 : Nat} {h0 : Heap} (C : Ctx Z w_PAUSE w_RESUME w_STEP w_arr0 cl_arr0) (O0 : Old Z n0 h0) (Z0 : n0 ≤ h0.size)  : zCon l Z (⟨"heapglass/core/wire/AllowanceIsSpentPinLaw", "next", "(JI)J"⟩ : MethodName) method_2_code 3 (some .long) ws ({ frames := 0, cells := 0, slots := 0, locals := 0 } : Room) #[(.long 1), (.int 1)] h0 (zSame (some (.long 2)) h0) := by
  obtain ⟨S_w_PAUSE, S_w_RESUME, S_w_STEP, E_w_PAUSE, E_w_RESUME, E_w_STEP, F_w_PAUSE_ordinal, F_w_RESUME_ordinal, F_w_STEP_ordinal, S_w_arr0, A_w_arr0, A_w_arr0_0, A_w_arr0_2, A_w_arr0_1⟩ := C
  refine zenter (plainFor_of_name pn_2) (L0 := #[.val (.long 1), .second, iv 1]) (fun m => by first | rfl | simp [entryFrame, mkF, argsToLocals, Value.category, maxLocals]) ?_
  intro p e s m below meth c T0 hx hZ hby hml hown0 hnm hret hlk X0 e0
  have hown : s.vm.findClass "heapglass/core/wire/AllowanceIsSpentPinLaw" = some m.cls := hown0
  have K0 := Keep.refl h0 []
  have N0 := Fr.nil n0
  show zEnds p e below s T0 (mkF m 0 #[.val (.long 1), .second, iv 1] []) _ _ _
  refine ziloadN X0 hx hby d_method_2_0 rfl (zifYes X0 hx hby d_method_2_1 22 (by decide) (by decide) (by decide) (ziloadN X0 hx hby d_method_2_22 rfl (ziconst X0 hx hby d_method_2_23 (z := (1 : Int32)) rfl (zicmpNo X0 hx hby d_method_2_24 (by decide) (zlloadN X0 hx hby d_method_2_27 rfl (zldc2J X0 hx hby d_method_2_28 (-1 : Int64) hZ hown (w12 hw) (zlcmp X0 hx hby d_method_2_31 (1 : Int32) (by decide) (zifYes X0 hx hby d_method_2_32 39 (by decide) (by decide) (by decide) (zlloadN X0 hx hby d_method_2_39 rfl ?_)))))))))
  show zEnds p e below s T0 (mkF m 40 #[.val (.long 1), .second, iv 1] [(.long 1)]) _ _ _
  refine zlconst X0 hx hby d_method_2_40 (z := (1 : Int64)) rfl (zladd X0 hx hby d_method_2_41 (2 : Int64) (by decide) ?_)
  show zEnds p e below s T0 (mkF m 42 #[.val (.long 1), .second, iv 1] [(.long 2)]) _ _ _
  exact zretL X0 hx hby d_method_2_42 hret hlk (by decide) (by decide) ⟨rfl, e0, rfl⟩
set_option maxRecDepth 65536 in
set_option maxHeartbeats 40000000 in
theorem c33_isSpent (l : Launch) {Z : State} {a0 : Array Value} (hw : ∀ d ∈ tables_1, d.before a0 Z = true) (ws : List Jvm.Cond) {w_PAUSE w_RESUME w_STEP w_arr0 : Addr} {cl_arr0 : Cell} {n0 : Nat} {h0 : Heap} (C : Ctx Z w_PAUSE w_RESUME w_STEP w_arr0 cl_arr0) (O0 : Old Z n0 h0) (Z0 : n0 ≤ h0.size) (b900 : Addr) (g_b900 : n0 ≤ b900) (E_b900 : Exa Z h0 b900 "heapglass/core/wire/Allowance") (F_b900_left : Fld Z h0 b900 "heapglass/core/wire/Allowance" "left" "J" (.long 2)) : zCon l Z (⟨"heapglass/core/wire/Allowance", "isSpent", "()Z"⟩ : MethodName) prog_9_method_4_code 1 (some .boolean) ws ({ frames := 0, cells := 0, slots := 0, locals := 0 } : Room) #[(.ref b900)] h0 (zSame (some (.int 0)) h0) := by
  obtain ⟨S_w_PAUSE, S_w_RESUME, S_w_STEP, E_w_PAUSE, E_w_RESUME, E_w_STEP, F_w_PAUSE_ordinal, F_w_RESUME_ordinal, F_w_STEP_ordinal, S_w_arr0, A_w_arr0, A_w_arr0_0, A_w_arr0_2, A_w_arr0_1⟩ := C
  refine zenter (plainFor_of_name pn_0) (L0 := #[rv b900]) (fun m => by first | rfl | simp [entryFrame, mkF, argsToLocals, Value.category, maxLocals]) ?_
  intro p e s m below meth c T0 hx hZ hby hml hown0 hnm hret hlk X0 e0
  have hown : s.vm.findClass "heapglass/core/wire/Allowance" = some m.cls := hown0
  have K0 := Keep.refl h0 []
  have N0 := Fr.nil n0
  show zEnds p e below s T0 (mkF m 0 #[rv b900] []) _ _ _
  refine zaloadN X0 hx hby d_prog_9_method_4_0 rfl rfl (zgetfld X0 hx hby d_prog_9_method_4_1 hZ hown (host := "") (Or.inl (w10 hw)) Via.refl e0 F_b900_left fun T1 X1 e1 => (zlconst X1 hx hby d_prog_9_method_4_4 (z := (0 : Int64)) rfl (zlcmp X1 hx hby d_prog_9_method_4_5 (1 : Int32) (by decide) (zifYes X1 hx hby d_prog_9_method_4_6 13 (by decide) (by decide) (by decide) (ziconst X1 hx hby d_prog_9_method_4_13 (z := (0 : Int32)) rfl ?_)))))
  show zEnds p e below s T1 (mkF m 14 #[rv b900] [(.int 0)]) _ _ _
  exact zretZ X1 hx hby d_prog_9_method_4_14 hret hlk (by simp) rfl (by decide) (by decide) ⟨rfl, e1, rfl⟩
set_option maxRecDepth 65536 in
set_option maxHeartbeats 40000000 in
theorem c37_ordinal (l : Launch) {Z : State} {a0 : Array Value} (hw : ∀ d ∈ tables_1, d.before a0 Z = true) (ws : List Jvm.Cond) {w_PAUSE w_RESUME w_STEP w_arr0 : Addr} {cl_arr0 : Cell} {n0 : Nat} {h0 : Heap} (C : Ctx Z w_PAUSE w_RESUME w_STEP w_arr0 cl_arr0) (O0 : Old Z n0 h0) (Z0 : n0 ≤ h0.size)  : zCon l Z (⟨"java/lang/Enum", "ordinal", "()I"⟩ : MethodName) jdk_37_method_2_code 1 (some .int) ws ({ frames := 0, cells := 0, slots := 0, locals := 0 } : Room) #[(.ref w_RESUME)] h0 (zSame (some (.int 2)) h0) := by
  obtain ⟨S_w_PAUSE, S_w_RESUME, S_w_STEP, E_w_PAUSE, E_w_RESUME, E_w_STEP, F_w_PAUSE_ordinal, F_w_RESUME_ordinal, F_w_STEP_ordinal, S_w_arr0, A_w_arr0, A_w_arr0_0, A_w_arr0_2, A_w_arr0_1⟩ := C
  refine zenter (plainFor_of_name pn_1) (L0 := #[rv w_RESUME]) (fun m => by first | rfl | simp [entryFrame, mkF, argsToLocals, Value.category, maxLocals]) ?_
  intro p e s m below meth c T0 hx hZ hby hml hown0 hnm hret hlk X0 e0
  have hown : s.vm.findClass "java/lang/Enum" = some m.cls := hown0
  have K0 := Keep.refl h0 []
  have N0 := Fr.nil n0
  show zEnds p e below s T0 (mkF m 0 #[rv w_RESUME] []) _ _ _
  refine zaloadN X0 hx hby d_jdk_37_method_2_0 rfl rfl (zgetfld X0 hx hby d_jdk_37_method_2_1 hZ hown (host := "") (Or.inl (w40 hw)) Via.refl e0 (F_w_RESUME_ordinal.ext O0.2) fun T1 X1 e1 => ?_)
  show zEnds p e below s T1 (mkF m 4 #[rv w_RESUME] [(.int 2)]) _ _ _
  exact zretI X1 hx hby d_jdk_37_method_2_4 hret hlk (by decide) (by decide) ⟨rfl, e1, rfl⟩
set_option maxRecDepth 65536 in
set_option maxHeartbeats 40000000 in
theorem c36_obey (l : Launch) {Z : State} {a0 : Array Value} (hw : ∀ d ∈ tables_1, d.before a0 Z = true) (ws : List Jvm.Cond) {w_PAUSE w_RESUME w_STEP w_arr0 : Addr} {cl_arr0 : Cell} {n0 : Nat} {h0 : Heap} (C : Ctx Z w_PAUSE w_RESUME w_STEP w_arr0 cl_arr0) (O0 : Old Z n0 h0) (Z0 : n0 ≤ h0.size) (b900 : Addr) (g_b900 : n0 ≤ b900) (E_b900 : Exa Z h0 b900 "heapglass/core/wire/Allowance") (F_b900_left : Fld Z h0 b900 "heapglass/core/wire/Allowance" "left" "J" (.long 1)) : zCon l Z (⟨"heapglass/core/wire/Allowance", "obey", "(Lheapglass/core/wire/Control;)V"⟩ : MethodName) prog_9_method_2_code 2 none ws ({ frames := 1, cells := 0, slots := 0, locals := 14 } : Room) #[(.ref b900), (.ref w_RESUME)] h0 (fun v h L => v = none ∧ Fr n0 L ∧ Keep h0 h [b900] ∧ Exa Z h b900 "heapglass/core/wire/Allowance" ∧ Fld Z h b900 "heapglass/core/wire/Allowance" "left" "J" (.long 9223372036854775807)) := by
  obtain ⟨S_w_PAUSE, S_w_RESUME, S_w_STEP, E_w_PAUSE, E_w_RESUME, E_w_STEP, F_w_PAUSE_ordinal, F_w_RESUME_ordinal, F_w_STEP_ordinal, S_w_arr0, A_w_arr0, A_w_arr0_0, A_w_arr0_2, A_w_arr0_1⟩ := C
  refine zenter (plainFor_of_name pn_0) (L0 := #[rv b900, rv w_RESUME]) (fun m => by first | rfl | simp [entryFrame, mkF, argsToLocals, Value.category, maxLocals]) ?_
  intro p e s m below meth c T0 hx hZ hby hml hown0 hnm hret hlk X0 e0
  have hown : s.vm.findClass "heapglass/core/wire/Allowance" = some m.cls := hown0
  have K0 := Keep.refl h0 [b900]
  have N0 := Fr.nil n0
  show zEnds p e below s T0 (mkF m 0 #[rv b900, rv w_RESUME] []) _ _ _
  refine zaloadN X0 hx hby d_prog_9_method_2_0 rfl rfl (zgetstat X0 hx hby d_prog_9_method_2_1 hZ hown (host := "") (Or.inl (w30 hw)) Via.refl e0 (S_w_arr0.ext O0.2) fun T1 X1 e1 => (zaloadN X1 hx hby d_prog_9_method_2_4 rfl rfl (zcallup X1 hx hby d_prog_9_method_2_5 hZ hown (w33 hw) (w34 hw) (w35 hw) (w37 hw) (w36 hw) (w39 hw) (w38 hw) e1 (E_w_RESUME.ext O0.2) (c37_ordinal l hw [] ⟨S_w_PAUSE, S_w_RESUME, S_w_STEP, E_w_PAUSE, E_w_RESUME, E_w_STEP, F_w_PAUSE_ordinal, F_w_RESUME_ordinal, F_w_STEP_ordinal, S_w_arr0, A_w_arr0, A_w_arr0_0, A_w_arr0_2, A_w_arr0_1⟩ O0 (Nat.le_trans Z0 K0.1) ) (by decide) (by rw [hml]; rfl) 2 (Nat.le_of_eq rfl) (by decide) (by decide) (by decide) (by decide) pd_2 rfl (argsL := []) (st := [(.ref w_arr0), (.ref b900)]) rfl (zpureK ⟨rfl, rfl⟩ fun T2 X2 e2 => ?_))))
  show zEnds p e below s T2 (mkF m 8 #[rv b900, rv w_RESUME] [(.int 2), (.ref w_arr0), (.ref b900)]) _ _ _
  refine zialoadC X2 hx hby d_prog_9_method_2_8 hZ e2 (A_w_arr0.ext O0.2) A_w_arr0_2 (ztswIn X2 hx hby d_prog_9_method_2_9 81 (by decide) rfl (by decide) (by decide) (zldc2J X2 hx hby d_prog_9_method_2_81 (9223372036854775807 : Int64) hZ hown (w9 hw) (zputfld X2 hx hby d_prog_9_method_2_84 hZ hown (host := "") (Or.inl (w10 hw)) Via.refl e2 F_b900_left E_b900 (Or.inl (w11 hw)) (w1 hw) (ty := .long) (by decide) rfl rfl fun T3 h3 X3 e3 W3 => ?_)))
  have F3_b900_left : Fld Z h3 b900 "heapglass/core/wire/Allowance" "left" "J" (.long 9223372036854775807) := F_b900_left.same W3
  have E3_b900 := E_b900.wr W3
  have O3 := O0.wr W3 g_b900
  have K3 := Keep.wr K0 W3 (Or.inl (List.mem_of_getElem? (i := 0) rfl))
  have N3 := Fr.snoc X3 N0 g_b900
  show zEnds p e below s T3 (mkF m 87 #[rv b900, rv w_RESUME] []) _ _ _
  exact zretV X3 hx hby d_prog_9_method_2_87 hret hlk (by decide) (by decide) (by rw [e3]; exact ⟨rfl, N3, K3, E3_b900, F3_b900_left⟩)
set_option maxRecDepth 65536 in
set_option maxHeartbeats 40000000 in
theorem c35_apply (l : Launch) {Z : State} {a0 : Array Value} (hw : ∀ d ∈ tables_1, d.before a0 Z = true) (ws : List Jvm.Cond) {w_PAUSE w_RESUME w_STEP w_arr0 : Addr} {cl_arr0 : Cell} {n0 : Nat} {h0 : Heap} (C : Ctx Z w_PAUSE w_RESUME w_STEP w_arr0 cl_arr0) (O0 : Old Z n0 h0) (Z0 : n0 ≤ h0.size) (b900 : Addr) (g_b900 : n0 ≤ b900) (E_b900 : Exa Z h0 b900 "heapglass/core/wire/Allowance") (F_b900_left : Fld Z h0 b900 "heapglass/core/wire/Allowance" "left" "J" (.long 1)) : zCon l Z (⟨"heapglass/core/wire/AllowanceIsSpentPinLaw", "apply", "(Lheapglass/core/wire/Allowance;I)V"⟩ : MethodName) method_3_code 2 none ws ({ frames := 2, cells := 0, slots := 0, locals := 27 } : Room) #[(.ref b900), (.int 2)] h0 (fun v h L => v = none ∧ Fr n0 L ∧ Keep h0 h [b900] ∧ Exa Z h b900 "heapglass/core/wire/Allowance" ∧ Fld Z h b900 "heapglass/core/wire/Allowance" "left" "J" (.long 9223372036854775807)) := by
  obtain ⟨S_w_PAUSE, S_w_RESUME, S_w_STEP, E_w_PAUSE, E_w_RESUME, E_w_STEP, F_w_PAUSE_ordinal, F_w_RESUME_ordinal, F_w_STEP_ordinal, S_w_arr0, A_w_arr0, A_w_arr0_0, A_w_arr0_2, A_w_arr0_1⟩ := C
  refine zenter (plainFor_of_name pn_2) (L0 := #[rv b900, iv 2]) (fun m => by first | rfl | simp [entryFrame, mkF, argsToLocals, Value.category, maxLocals]) ?_
  intro p e s m below meth c T0 hx hZ hby hml hown0 hnm hret hlk X0 e0
  have hown : s.vm.findClass "heapglass/core/wire/AllowanceIsSpentPinLaw" = some m.cls := hown0
  have K0 := Keep.refl h0 [b900]
  have N0 := Fr.nil n0
  show zEnds p e below s T0 (mkF m 0 #[rv b900, iv 2] []) _ _ _
  refine ziloadN X0 hx hby d_method_3_0 rfl (zifYes X0 hx hby d_method_3_1 14 (by decide) (by decide) (by decide) (ziloadN X0 hx hby d_method_3_14 rfl (ziconst X0 hx hby d_method_3_15 (z := (1 : Int32)) rfl (zicmpYes X0 hx hby d_method_3_16 29 (by decide) (by decide) (by decide) (ziloadN X0 hx hby d_method_3_29 rfl (ziconst X0 hx hby d_method_3_30 (z := (2 : Int32)) rfl (zicmpNo X0 hx hby d_method_3_31 (by decide) (zaloadN X0 hx hby d_method_3_34 rfl rfl (zgetstat X0 hx hby d_method_3_35 hZ hown (host := "") (Or.inl (w55 hw)) Via.refl e0 (S_w_RESUME.ext O0.2) fun T1 X1 e1 => ?_)))))))))
  show zEnds p e below s T1 (mkF m 38 #[rv b900, iv 2] [(.ref w_RESUME), (.ref b900)]) _ _ _
  refine zcallv X1 hx hby d_method_3_38 hZ hown (w25 hw) (w26 hw) (notFace_of_selects (args := #[]) (mvT hZ (w28 hw))) (w28 hw) (w27 hw) (w29 hw) (w2 hw) e1 E_b900 (c36_obey l hw [] ⟨S_w_PAUSE, S_w_RESUME, S_w_STEP, E_w_PAUSE, E_w_RESUME, E_w_STEP, F_w_PAUSE_ordinal, F_w_RESUME_ordinal, F_w_STEP_ordinal, S_w_arr0, A_w_arr0, A_w_arr0_0, A_w_arr0_2, A_w_arr0_1⟩ O0 (Nat.le_trans Z0 K0.1) b900 g_b900 E_b900 F_b900_left) (by decide) (by rw [hml]; rfl) 0 (Nat.le_of_eq rfl) (by decide) (by decide) (by decide) (by decide) pd_4 rfl (argsL := [(.ref w_RESUME)]) (st := []) rfl fun T2 h2 v2 L2 e2 X2 q2 => ?_
  obtain ⟨rfl, N2q, K2q, E2_b900, F2_b900_left⟩ := q2
  have O2 := O0.keep K2q (allS g_b900 all0)
  have K2 := Keep.trans K0 K2q (allS (Or.inl (List.mem_of_getElem? (i := 0) rfl)) all0)
  have N2 := Fr.app N0 N2q
  show zEnds p e below s T2 (mkF m 41 #[rv b900, iv 2] []) _ _ _
  refine zgoto X2 hx hby d_method_3_41 48 (by decide) (by decide) ?_
  show zEnds p e below s T2 (mkF m 48 #[rv b900, iv 2] []) _ _ _
  exact zretV X2 hx hby d_method_3_48 hret hlk (by decide) (by decide) (by rw [e2]; exact ⟨rfl, N2, K2, E2_b900, F2_b900_left⟩)
set_option maxRecDepth 65536 in
set_option maxHeartbeats 40000000 in
theorem c41_next (l : Launch) {Z : State} {a0 : Array Value} (hw : ∀ d ∈ tables_1, d.before a0 Z = true) (ws : List Jvm.Cond) {w_PAUSE w_RESUME w_STEP w_arr0 : Addr} {cl_arr0 : Cell} {n0 : Nat} {h0 : Heap} (C : Ctx Z w_PAUSE w_RESUME w_STEP w_arr0 cl_arr0) (O0 : Old Z n0 h0) (Z0 : n0 ≤ h0.size)  : zCon l Z (⟨"heapglass/core/wire/AllowanceIsSpentPinLaw", "next", "(JI)J"⟩ : MethodName) method_2_code 3 (some .long) ws ({ frames := 0, cells := 0, slots := 0, locals := 0 } : Room) #[(.long 1), (.int 2)] h0 (zSame (some (.long (-1))) h0) := by
  obtain ⟨S_w_PAUSE, S_w_RESUME, S_w_STEP, E_w_PAUSE, E_w_RESUME, E_w_STEP, F_w_PAUSE_ordinal, F_w_RESUME_ordinal, F_w_STEP_ordinal, S_w_arr0, A_w_arr0, A_w_arr0_0, A_w_arr0_2, A_w_arr0_1⟩ := C
  refine zenter (plainFor_of_name pn_2) (L0 := #[.val (.long 1), .second, iv 2]) (fun m => by first | rfl | simp [entryFrame, mkF, argsToLocals, Value.category, maxLocals]) ?_
  intro p e s m below meth c T0 hx hZ hby hml hown0 hnm hret hlk X0 e0
  have hown : s.vm.findClass "heapglass/core/wire/AllowanceIsSpentPinLaw" = some m.cls := hown0
  have K0 := Keep.refl h0 []
  have N0 := Fr.nil n0
  show zEnds p e below s T0 (mkF m 0 #[.val (.long 1), .second, iv 2] []) _ _ _
  refine ziloadN X0 hx hby d_method_2_0 rfl (zifYes X0 hx hby d_method_2_1 22 (by decide) (by decide) (by decide) (ziloadN X0 hx hby d_method_2_22 rfl (ziconst X0 hx hby d_method_2_23 (z := (1 : Int32)) rfl (zicmpYes X0 hx hby d_method_2_24 43 (by decide) (by decide) (by decide) (ziloadN X0 hx hby d_method_2_43 rfl (ziconst X0 hx hby d_method_2_44 (z := (2 : Int32)) rfl (zicmpNo X0 hx hby d_method_2_45 (by decide) (zldc2J X0 hx hby d_method_2_48 (-1 : Int64) hZ hown (w12 hw) ?_))))))))
  show zEnds p e below s T0 (mkF m 51 #[.val (.long 1), .second, iv 2] [(.long (-1))]) _ _ _
  exact zretL X0 hx hby d_method_2_51 hret hlk (by decide) (by decide) ⟨rfl, e0, rfl⟩
set_option maxRecDepth 65536 in
set_option maxHeartbeats 40000000 in
theorem c44_spend (l : Launch) {Z : State} {a0 : Array Value} (hw : ∀ d ∈ tables_1, d.before a0 Z = true) (ws : List Jvm.Cond) {w_PAUSE w_RESUME w_STEP w_arr0 : Addr} {cl_arr0 : Cell} {n0 : Nat} {h0 : Heap} (C : Ctx Z w_PAUSE w_RESUME w_STEP w_arr0 cl_arr0) (O0 : Old Z n0 h0) (Z0 : n0 ≤ h0.size) (b900 : Addr) (g_b900 : n0 ≤ b900) (E_b900 : Exa Z h0 b900 "heapglass/core/wire/Allowance") (F_b900_left : Fld Z h0 b900 "heapglass/core/wire/Allowance" "left" "J" (.long 1)) : zCon l Z (⟨"heapglass/core/wire/Allowance", "spend", "()V"⟩ : MethodName) prog_9_method_3_code 1 none ws ({ frames := 0, cells := 0, slots := 0, locals := 0 } : Room) #[(.ref b900)] h0 (fun v h L => v = none ∧ Fr n0 L ∧ Keep h0 h [b900] ∧ Exa Z h b900 "heapglass/core/wire/Allowance" ∧ Fld Z h b900 "heapglass/core/wire/Allowance" "left" "J" (.long 0)) := by
  obtain ⟨S_w_PAUSE, S_w_RESUME, S_w_STEP, E_w_PAUSE, E_w_RESUME, E_w_STEP, F_w_PAUSE_ordinal, F_w_RESUME_ordinal, F_w_STEP_ordinal, S_w_arr0, A_w_arr0, A_w_arr0_0, A_w_arr0_2, A_w_arr0_1⟩ := C
  refine zenter (plainFor_of_name pn_0) (L0 := #[rv b900]) (fun m => by first | rfl | simp [entryFrame, mkF, argsToLocals, Value.category, maxLocals]) ?_
  intro p e s m below meth c T0 hx hZ hby hml hown0 hnm hret hlk X0 e0
  have hown : s.vm.findClass "heapglass/core/wire/Allowance" = some m.cls := hown0
  have K0 := Keep.refl h0 [b900]
  have N0 := Fr.nil n0
  show zEnds p e below s T0 (mkF m 0 #[rv b900] []) _ _ _
  refine zaloadN X0 hx hby d_prog_9_method_3_0 rfl rfl (zgetfld X0 hx hby d_prog_9_method_3_1 hZ hown (host := "") (Or.inl (w10 hw)) Via.refl e0 F_b900_left fun T1 X1 e1 => (zlconst X1 hx hby d_prog_9_method_3_4 (z := (0 : Int64)) rfl (zlcmp X1 hx hby d_prog_9_method_3_5 (1 : Int32) (by decide) (zifNo X1 hx hby d_prog_9_method_3_6 (by decide) (zaloadN X1 hx hby d_prog_9_method_3_9 rfl rfl (zgetfld X1 hx hby d_prog_9_method_3_10 hZ hown (host := "") (Or.inl (w10 hw)) Via.refl e1 F_b900_left fun T2 X2 e2 => (zldc2J X2 hx hby d_prog_9_method_3_13 (9223372036854775807 : Int64) hZ hown (w9 hw) (zlcmp X2 hx hby d_prog_9_method_3_16 (-1 : Int32) (by decide) (zifNo X2 hx hby d_prog_9_method_3_17 (by decide) ?_)))))))))
  show zEnds p e below s T2 (mkF m 20 #[rv b900] []) _ _ _
  refine zaloadN X2 hx hby d_prog_9_method_3_20 rfl rfl (zdup X2 hx hby d_prog_9_method_3_21 rfl (zgetfld X2 hx hby d_prog_9_method_3_22 hZ hown (host := "") (Or.inl (w10 hw)) Via.refl e2 F_b900_left fun T3 X3 e3 => (zlconst X3 hx hby d_prog_9_method_3_25 (z := (1 : Int64)) rfl (zlsub X3 hx hby d_prog_9_method_3_26 (0 : Int64) (by decide) (zputfld X3 hx hby d_prog_9_method_3_27 hZ hown (host := "") (Or.inl (w10 hw)) Via.refl e3 F_b900_left E_b900 (Or.inl (w11 hw)) (w1 hw) (ty := .long) (by decide) rfl rfl fun T4 h4 X4 e4 W4 => ?_)))))
  have F4_b900_left : Fld Z h4 b900 "heapglass/core/wire/Allowance" "left" "J" (.long 0) := F_b900_left.same W4
  have E4_b900 := E_b900.wr W4
  have O4 := O0.wr W4 g_b900
  have K4 := Keep.wr K0 W4 (Or.inl (List.mem_of_getElem? (i := 0) rfl))
  have N4 := Fr.snoc X4 N0 g_b900
  show zEnds p e below s T4 (mkF m 30 #[rv b900] []) _ _ _
  exact zretV X4 hx hby d_prog_9_method_3_30 hret hlk (by decide) (by decide) (by rw [e4]; exact ⟨rfl, N4, K4, E4_b900, F4_b900_left⟩)
set_option maxRecDepth 65536 in
set_option maxHeartbeats 40000000 in
theorem c43_apply (l : Launch) {Z : State} {a0 : Array Value} (hw : ∀ d ∈ tables_1, d.before a0 Z = true) (ws : List Jvm.Cond) {w_PAUSE w_RESUME w_STEP w_arr0 : Addr} {cl_arr0 : Cell} {n0 : Nat} {h0 : Heap} (C : Ctx Z w_PAUSE w_RESUME w_STEP w_arr0 cl_arr0) (O0 : Old Z n0 h0) (Z0 : n0 ≤ h0.size) (b900 : Addr) (g_b900 : n0 ≤ b900) (E_b900 : Exa Z h0 b900 "heapglass/core/wire/Allowance") (F_b900_left : Fld Z h0 b900 "heapglass/core/wire/Allowance" "left" "J" (.long 1)) : zCon l Z (⟨"heapglass/core/wire/AllowanceIsSpentPinLaw", "apply", "(Lheapglass/core/wire/Allowance;I)V"⟩ : MethodName) method_3_code 2 none ws ({ frames := 1, cells := 0, slots := 0, locals := 12 } : Room) #[(.ref b900), (.int 3)] h0 (fun v h L => v = none ∧ Fr n0 L ∧ Keep h0 h [b900] ∧ Exa Z h b900 "heapglass/core/wire/Allowance" ∧ Fld Z h b900 "heapglass/core/wire/Allowance" "left" "J" (.long 0)) := by
  obtain ⟨S_w_PAUSE, S_w_RESUME, S_w_STEP, E_w_PAUSE, E_w_RESUME, E_w_STEP, F_w_PAUSE_ordinal, F_w_RESUME_ordinal, F_w_STEP_ordinal, S_w_arr0, A_w_arr0, A_w_arr0_0, A_w_arr0_2, A_w_arr0_1⟩ := C
  refine zenter (plainFor_of_name pn_2) (L0 := #[rv b900, iv 3]) (fun m => by first | rfl | simp [entryFrame, mkF, argsToLocals, Value.category, maxLocals]) ?_
  intro p e s m below meth c T0 hx hZ hby hml hown0 hnm hret hlk X0 e0
  have hown : s.vm.findClass "heapglass/core/wire/AllowanceIsSpentPinLaw" = some m.cls := hown0
  have K0 := Keep.refl h0 [b900]
  have N0 := Fr.nil n0
  show zEnds p e below s T0 (mkF m 0 #[rv b900, iv 3] []) _ _ _
  refine ziloadN X0 hx hby d_method_3_0 rfl (zifYes X0 hx hby d_method_3_1 14 (by decide) (by decide) (by decide) (ziloadN X0 hx hby d_method_3_14 rfl (ziconst X0 hx hby d_method_3_15 (z := (1 : Int32)) rfl (zicmpYes X0 hx hby d_method_3_16 29 (by decide) (by decide) (by decide) (ziloadN X0 hx hby d_method_3_29 rfl (ziconst X0 hx hby d_method_3_30 (z := (2 : Int32)) rfl (zicmpYes X0 hx hby d_method_3_31 44 (by decide) (by decide) (by decide) (zaloadN X0 hx hby d_method_3_44 rfl rfl (zcallv X0 hx hby d_method_3_45 hZ hown (w50 hw) (w51 hw) (notFace_of_selects (args := #[]) (mvT hZ (w53 hw))) (w53 hw) (w52 hw) (w54 hw) (w2 hw) e0 E_b900 (c44_spend l hw [] ⟨S_w_PAUSE, S_w_RESUME, S_w_STEP, E_w_PAUSE, E_w_RESUME, E_w_STEP, F_w_PAUSE_ordinal, F_w_RESUME_ordinal, F_w_STEP_ordinal, S_w_arr0, A_w_arr0, A_w_arr0_0, A_w_arr0_2, A_w_arr0_1⟩ O0 (Nat.le_trans Z0 K0.1) b900 g_b900 E_b900 F_b900_left) (by decide) (by rw [hml]; rfl) 0 (Nat.le_of_eq rfl) (by decide) (by decide) (by decide) (by decide) pd_0 rfl (argsL := []) (st := []) rfl fun T1 h1 v1 L1 e1 X1 q1 => ?_)))))))))
  obtain ⟨rfl, N1q, K1q, E1_b900, F1_b900_left⟩ := q1
  have O1 := O0.keep K1q (allS g_b900 all0)
  have K1 := Keep.trans K0 K1q (allS (Or.inl (List.mem_of_getElem? (i := 0) rfl)) all0)
  have N1 := Fr.app N0 N1q
  show zEnds p e below s T1 (mkF m 48 #[rv b900, iv 3] []) _ _ _
  exact zretV X1 hx hby d_method_3_48 hret hlk (by decide) (by decide) (by rw [e1]; exact ⟨rfl, N1, K1, E1_b900, F1_b900_left⟩)
set_option maxRecDepth 65536 in
set_option maxHeartbeats 40000000 in
theorem c47_next (l : Launch) {Z : State} {a0 : Array Value} (hw : ∀ d ∈ tables_1, d.before a0 Z = true) (ws : List Jvm.Cond) {w_PAUSE w_RESUME w_STEP w_arr0 : Addr} {cl_arr0 : Cell} {n0 : Nat} {h0 : Heap} (C : Ctx Z w_PAUSE w_RESUME w_STEP w_arr0 cl_arr0) (O0 : Old Z n0 h0) (Z0 : n0 ≤ h0.size)  : zCon l Z (⟨"heapglass/core/wire/AllowanceIsSpentPinLaw", "next", "(JI)J"⟩ : MethodName) method_2_code 3 (some .long) ws ({ frames := 0, cells := 0, slots := 0, locals := 0 } : Room) #[(.long 1), (.int 3)] h0 (zSame (some (.long 0)) h0) := by
  obtain ⟨S_w_PAUSE, S_w_RESUME, S_w_STEP, E_w_PAUSE, E_w_RESUME, E_w_STEP, F_w_PAUSE_ordinal, F_w_RESUME_ordinal, F_w_STEP_ordinal, S_w_arr0, A_w_arr0, A_w_arr0_0, A_w_arr0_2, A_w_arr0_1⟩ := C
  refine zenter (plainFor_of_name pn_2) (L0 := #[.val (.long 1), .second, iv 3]) (fun m => by first | rfl | simp [entryFrame, mkF, argsToLocals, Value.category, maxLocals]) ?_
  intro p e s m below meth c T0 hx hZ hby hml hown0 hnm hret hlk X0 e0
  have hown : s.vm.findClass "heapglass/core/wire/AllowanceIsSpentPinLaw" = some m.cls := hown0
  have K0 := Keep.refl h0 []
  have N0 := Fr.nil n0
  show zEnds p e below s T0 (mkF m 0 #[.val (.long 1), .second, iv 3] []) _ _ _
  refine ziloadN X0 hx hby d_method_2_0 rfl (zifYes X0 hx hby d_method_2_1 22 (by decide) (by decide) (by decide) (ziloadN X0 hx hby d_method_2_22 rfl (ziconst X0 hx hby d_method_2_23 (z := (1 : Int32)) rfl (zicmpYes X0 hx hby d_method_2_24 43 (by decide) (by decide) (by decide) (ziloadN X0 hx hby d_method_2_43 rfl (ziconst X0 hx hby d_method_2_44 (z := (2 : Int32)) rfl (zicmpYes X0 hx hby d_method_2_45 52 (by decide) (by decide) (by decide) (zlloadN X0 hx hby d_method_2_52 rfl (zlconst X0 hx hby d_method_2_53 (z := (0 : Int64)) rfl ?_)))))))))
  show zEnds p e below s T0 (mkF m 54 #[.val (.long 1), .second, iv 3] [(.long 0), (.long 1)]) _ _ _
  refine zlcmp X0 hx hby d_method_2_54 (1 : Int32) (by decide) (zifNo X0 hx hby d_method_2_55 (by decide) (zlloadN X0 hx hby d_method_2_58 rfl (zlconst X0 hx hby d_method_2_59 (z := (1 : Int64)) rfl (zlsub X0 hx hby d_method_2_60 (0 : Int64) (by decide) (zgoto X0 hx hby d_method_2_61 65 (by decide) (by decide) ?_)))))
  show zEnds p e below s T0 (mkF m 65 #[.val (.long 1), .second, iv 3] [(.long 0)]) _ _ _
  exact zretL X0 hx hby d_method_2_65 hret hlk (by decide) (by decide) ⟨rfl, e0, rfl⟩
set_option maxRecDepth 65536 in
set_option maxHeartbeats 40000000 in
theorem c49_isSpent (l : Launch) {Z : State} {a0 : Array Value} (hw : ∀ d ∈ tables_1, d.before a0 Z = true) (ws : List Jvm.Cond) {w_PAUSE w_RESUME w_STEP w_arr0 : Addr} {cl_arr0 : Cell} {n0 : Nat} {h0 : Heap} (C : Ctx Z w_PAUSE w_RESUME w_STEP w_arr0 cl_arr0) (O0 : Old Z n0 h0) (Z0 : n0 ≤ h0.size) (b900 : Addr) (g_b900 : n0 ≤ b900) (E_b900 : Exa Z h0 b900 "heapglass/core/wire/Allowance") (F_b900_left : Fld Z h0 b900 "heapglass/core/wire/Allowance" "left" "J" (.long 0)) : zCon l Z (⟨"heapglass/core/wire/Allowance", "isSpent", "()Z"⟩ : MethodName) prog_9_method_4_code 1 (some .boolean) ws ({ frames := 0, cells := 0, slots := 0, locals := 0 } : Room) #[(.ref b900)] h0 (zSame (some (.int 1)) h0) := by
  obtain ⟨S_w_PAUSE, S_w_RESUME, S_w_STEP, E_w_PAUSE, E_w_RESUME, E_w_STEP, F_w_PAUSE_ordinal, F_w_RESUME_ordinal, F_w_STEP_ordinal, S_w_arr0, A_w_arr0, A_w_arr0_0, A_w_arr0_2, A_w_arr0_1⟩ := C
  refine zenter (plainFor_of_name pn_0) (L0 := #[rv b900]) (fun m => by first | rfl | simp [entryFrame, mkF, argsToLocals, Value.category, maxLocals]) ?_
  intro p e s m below meth c T0 hx hZ hby hml hown0 hnm hret hlk X0 e0
  have hown : s.vm.findClass "heapglass/core/wire/Allowance" = some m.cls := hown0
  have K0 := Keep.refl h0 []
  have N0 := Fr.nil n0
  show zEnds p e below s T0 (mkF m 0 #[rv b900] []) _ _ _
  refine zaloadN X0 hx hby d_prog_9_method_4_0 rfl rfl (zgetfld X0 hx hby d_prog_9_method_4_1 hZ hown (host := "") (Or.inl (w10 hw)) Via.refl e0 F_b900_left fun T1 X1 e1 => (zlconst X1 hx hby d_prog_9_method_4_4 (z := (0 : Int64)) rfl (zlcmp X1 hx hby d_prog_9_method_4_5 (0 : Int32) (by decide) (zifNo X1 hx hby d_prog_9_method_4_6 (by decide) (ziconst X1 hx hby d_prog_9_method_4_9 (z := (1 : Int32)) rfl (zgoto X1 hx hby d_prog_9_method_4_10 14 (by decide) (by decide) ?_))))))
  show zEnds p e below s T1 (mkF m 14 #[rv b900] [(.int 1)]) _ _ _
  exact zretZ X1 hx hby d_prog_9_method_4_14 hret hlk (by simp) rfl (by decide) (by decide) ⟨rfl, e1, rfl⟩
set_option maxRecDepth 65536 in
set_option maxHeartbeats 40000000 in
theorem stg_3_3 {p : Program} {l : Launch} {e : Env} {s : State} {m : MethodId} {args : Array Value} {below : List Frame} {meth : Method} {c : Code} {T0 : State} {locs : List Loc} {Z : State} {a0 : Array Value} {h0 : Heap} {n0 : Nat} {w_PAUSE w_RESUME w_STEP w_arr0 : Addr} {cl_arr0 : Cell} {b1 : Addr} 
    (X0 : Stand p l e room_1 s m args below meth c T0 locs 1 1) (hx : p.tables.exec = Jvm.exec) (hZ : Z.Warmed39 s.vm) (hw : ∀ d ∈ tables_1, d.before a0 Z = true) (hby : c.code = code) (hml : c.maxLocals = 9) (hown : s.vm.findClass "heapglass/core/wire/AllowanceIsSpentPinLaw" = some m.cls) (hret : meth.sig.returnType = (some .boolean)) (hlk : meth.locks = false) (C : Ctx Z w_PAUSE w_RESUME w_STEP w_arr0 cl_arr0) (e0 : T0.heap = h0) (O0 : Old Z n0 h0) (N0 : Fr n0 locs) (g_b1 : n0 ≤ b1) (E_b1 : Exa Z h0 b1 "heapglass/core/wire/Allowance") (F_b1_left : Fld Z h0 b1 "heapglass/core/wire/Allowance" "left" "J" (.long 1)) {u0 u1 u2 u3 u4 : Int32} (k4 : u4 = (0 : Int32) ∨ u4 = (1 : Int32) ∨ u4 = (2 : Int32) ∨ u4 = (3 : Int32)) :
    zEnds p e below s T0 (mkF m 203 #[iv u0, iv u1, iv u2, iv u3, iv u4, rv b1, .val (.long 1), .second, iv 1] []) room_1.cells room_1.slots (fun v h L => v = some (.int (1 : Int32)) ∧ Fr n0 L) := by
  obtain ⟨S_w_PAUSE, S_w_RESUME, S_w_STEP, E_w_PAUSE, E_w_RESUME, E_w_STEP, F_w_PAUSE_ordinal, F_w_RESUME_ordinal, F_w_STEP_ordinal, S_w_arr0, A_w_arr0, A_w_arr0_0, A_w_arr0_2, A_w_arr0_1⟩ := C
  have K0 := Keep.refl h0 [b1]
  have Z0 : n0 ≤ h0.size := by rw [← O0.1]; exact O0.2.1
  show zEnds p e below s T0 (mkF m 203 #[iv u0, iv u1, iv u2, iv u3, iv u4, rv b1, .val (.long 1), .second, iv 1] []) _ _ _
  rcases k4 with rfl | rfl | rfl | rfl
  · show zEnds p e below s T0 (mkF m 203 #[iv u0, iv u1, iv u2, iv u3, iv 0, rv b1, .val (.long 1), .second, iv 1] []) _ _ _
    refine zaload X0 hx hby at_203 rfl rfl (ziload X0 hx hby at_205 rfl (zcalls X0 hx hby at_207 hZ hown (w18 hw) (w19 hw) (w20 hw) (w21 hw) e0 (c17_apply l hw [] ⟨S_w_PAUSE, S_w_RESUME, S_w_STEP, E_w_PAUSE, E_w_RESUME, E_w_STEP, F_w_PAUSE_ordinal, F_w_RESUME_ordinal, F_w_STEP_ordinal, S_w_arr0, A_w_arr0, A_w_arr0_0, A_w_arr0_2, A_w_arr0_1⟩ O0 (Nat.le_trans Z0 K0.1) b1 g_b1 E_b1 F_b1_left) (by decide) (by rw [hml]; rfl) 0 (Nat.le_of_eq rfl) (by decide) (by decide) (by decide) (by decide) pd_5 rfl (argsL := [(.ref b1), (.int 0)]) (st := []) rfl fun T1 h1 v1 L1 e1 X1 q1 => ?_))
    obtain ⟨rfl, N1q, K1q, E1_b1, F1_b1_left⟩ := q1
    have O1 := O0.keep K1q (allS g_b1 all0)
    have K1 := Keep.trans K0 K1q (allS (Or.inl (List.mem_of_getElem? (i := 0) rfl)) all0)
    have N1 := Fr.app N0 N1q
    show zEnds p e below s T1 (mkF m 210 #[iv u0, iv u1, iv u2, iv u3, iv 0, rv b1, .val (.long 1), .second, iv 1] []) _ _ _
    refine zlload X1 hx hby at_210 rfl (ziload X1 hx hby at_212 rfl (zcalls X1 hx hby at_214 hZ hown (w46 hw) (w47 hw) (w20 hw) (w48 hw) e1 (c23_next l hw [] ⟨S_w_PAUSE, S_w_RESUME, S_w_STEP, E_w_PAUSE, E_w_RESUME, E_w_STEP, F_w_PAUSE_ordinal, F_w_RESUME_ordinal, F_w_STEP_ordinal, S_w_arr0, A_w_arr0, A_w_arr0_0, A_w_arr0_2, A_w_arr0_1⟩ O1 (Nat.le_trans Z0 K1.1) ) (by decide) (by rw [hml]; rfl) 0 (Nat.le_of_eq rfl) (by decide) (by decide) (by decide) (by decide) pd_6 rfl (argsL := [(.long 1), (.int 0)]) (st := []) rfl (zpureK ⟨rfl, rfl⟩ fun T2 X2 e2 => ?_)))
    show zEnds p e below s T2 (mkF m 217 #[iv u0, iv u1, iv u2, iv u3, iv 0, rv b1, .val (.long 1), .second, iv 1] [(.long 1)]) _ _ _
    refine zlstore X2 hx hby at_217 (L' := #[iv u0, iv u1, iv u2, iv u3, iv 0, rv b1, .val (.long 1), .second, iv 1]) rfl (ziload X2 hx hby at_219 rfl (zifNo X2 hx hby at_221 (by decide) (zaload X2 hx hby at_224 rfl rfl (zcallv X2 hx hby at_226 hZ hown (w13 hw) (w14 hw) (notFace_of_selects (args := #[]) (mvT hZ (w16 hw))) (w16 hw) (w15 hw) (w17 hw) (w2 hw) e2 E1_b1 (c15_isSpent l hw [] ⟨S_w_PAUSE, S_w_RESUME, S_w_STEP, E_w_PAUSE, E_w_RESUME, E_w_STEP, F_w_PAUSE_ordinal, F_w_RESUME_ordinal, F_w_STEP_ordinal, S_w_arr0, A_w_arr0, A_w_arr0_0, A_w_arr0_2, A_w_arr0_1⟩ O1 (Nat.le_trans Z0 K1.1) b1 g_b1 E1_b1 F1_b1_left) (by decide) (by rw [hml]; rfl) 0 (Nat.le_of_eq rfl) (by decide) (by decide) (by decide) (by decide) pd_1 rfl (argsL := []) (st := []) rfl (zpureK ⟨rfl, rfl⟩ fun T3 X3 e3 => ?_)))))
    show zEnds p e below s T3 (mkF m 229 #[iv u0, iv u1, iv u2, iv u3, iv 0, rv b1, .val (.long 1), .second, iv 1] [(.int 0)]) _ _ _
    refine zlload X3 hx hby at_229 rfl (zlconst X3 hx hby at_231 (z := (0 : Int64)) rfl (zlcmp X3 hx hby at_232 (1 : Int32) (by decide) (zifYes X3 hx hby at_233 240 (by decide) (by decide) (by decide) (ziconst X3 hx hby at_240 (z := (0 : Int32)) rfl (zicmpNo X3 hx hby at_241 (by decide) (ziconst X3 hx hby at_244 (z := (1 : Int32)) rfl (zgoto X3 hx hby at_245 249 (by decide) (by decide) (zistore X3 hx hby at_249 (L' := #[iv u0, iv u1, iv u2, iv u3, iv 0, rv b1, .val (.long 1), .second, iv 1]) rfl (ziload X3 hx hby at_251 rfl ?_)))))))))
    show zEnds p e below s T3 (mkF m 253 #[iv u0, iv u1, iv u2, iv u3, iv 0, rv b1, .val (.long 1), .second, iv 1] [(.int 1)]) _ _ _
    exact zretZ X3 hx hby at_253 hret hlk (by simp) rfl (by decide) (by decide) ⟨rfl, N1⟩
  · show zEnds p e below s T0 (mkF m 203 #[iv u0, iv u1, iv u2, iv u3, iv 1, rv b1, .val (.long 1), .second, iv 1] []) _ _ _
    refine zaload X0 hx hby at_203 rfl rfl (ziload X0 hx hby at_205 rfl (zcalls X0 hx hby at_207 hZ hown (w18 hw) (w19 hw) (w20 hw) (w21 hw) e0 (c25_apply l hw [] ⟨S_w_PAUSE, S_w_RESUME, S_w_STEP, E_w_PAUSE, E_w_RESUME, E_w_STEP, F_w_PAUSE_ordinal, F_w_RESUME_ordinal, F_w_STEP_ordinal, S_w_arr0, A_w_arr0, A_w_arr0_0, A_w_arr0_2, A_w_arr0_1⟩ O0 (Nat.le_trans Z0 K0.1) b1 g_b1 E_b1 F_b1_left) (by decide) (by rw [hml]; rfl) 0 (Nat.le_of_eq rfl) (by decide) (by decide) (by decide) (by decide) pd_5 rfl (argsL := [(.ref b1), (.int 1)]) (st := []) rfl fun T4 h4 v4 L4 e4 X4 q4 => ?_))
    obtain ⟨rfl, N4q, K4q, E4_b1, F4_b1_left⟩ := q4
    have O4 := O0.keep K4q (allS g_b1 all0)
    have K4 := Keep.trans K0 K4q (allS (Or.inl (List.mem_of_getElem? (i := 0) rfl)) all0)
    have N4 := Fr.app N0 N4q
    show zEnds p e below s T4 (mkF m 210 #[iv u0, iv u1, iv u2, iv u3, iv 1, rv b1, .val (.long 1), .second, iv 1] []) _ _ _
    refine zlload X4 hx hby at_210 rfl (ziload X4 hx hby at_212 rfl (zcalls X4 hx hby at_214 hZ hown (w46 hw) (w47 hw) (w20 hw) (w48 hw) e4 (c31_next l hw [] ⟨S_w_PAUSE, S_w_RESUME, S_w_STEP, E_w_PAUSE, E_w_RESUME, E_w_STEP, F_w_PAUSE_ordinal, F_w_RESUME_ordinal, F_w_STEP_ordinal, S_w_arr0, A_w_arr0, A_w_arr0_0, A_w_arr0_2, A_w_arr0_1⟩ O4 (Nat.le_trans Z0 K4.1) ) (by decide) (by rw [hml]; rfl) 0 (Nat.le_of_eq rfl) (by decide) (by decide) (by decide) (by decide) pd_6 rfl (argsL := [(.long 1), (.int 1)]) (st := []) rfl (zpureK ⟨rfl, rfl⟩ fun T5 X5 e5 => ?_)))
    show zEnds p e below s T5 (mkF m 217 #[iv u0, iv u1, iv u2, iv u3, iv 1, rv b1, .val (.long 1), .second, iv 1] [(.long 2)]) _ _ _
    refine zlstore X5 hx hby at_217 (L' := #[iv u0, iv u1, iv u2, iv u3, iv 1, rv b1, .val (.long 2), .second, iv 1]) rfl (ziload X5 hx hby at_219 rfl (zifNo X5 hx hby at_221 (by decide) (zaload X5 hx hby at_224 rfl rfl (zcallv X5 hx hby at_226 hZ hown (w13 hw) (w14 hw) (notFace_of_selects (args := #[]) (mvT hZ (w16 hw))) (w16 hw) (w15 hw) (w17 hw) (w2 hw) e5 E4_b1 (c33_isSpent l hw [] ⟨S_w_PAUSE, S_w_RESUME, S_w_STEP, E_w_PAUSE, E_w_RESUME, E_w_STEP, F_w_PAUSE_ordinal, F_w_RESUME_ordinal, F_w_STEP_ordinal, S_w_arr0, A_w_arr0, A_w_arr0_0, A_w_arr0_2, A_w_arr0_1⟩ O4 (Nat.le_trans Z0 K4.1) b1 g_b1 E4_b1 F4_b1_left) (by decide) (by rw [hml]; rfl) 0 (Nat.le_of_eq rfl) (by decide) (by decide) (by decide) (by decide) pd_1 rfl (argsL := []) (st := []) rfl (zpureK ⟨rfl, rfl⟩ fun T6 X6 e6 => ?_)))))
    show zEnds p e below s T6 (mkF m 229 #[iv u0, iv u1, iv u2, iv u3, iv 1, rv b1, .val (.long 2), .second, iv 1] [(.int 0)]) _ _ _
    refine zlload X6 hx hby at_229 rfl (zlconst X6 hx hby at_231 (z := (0 : Int64)) rfl (zlcmp X6 hx hby at_232 (1 : Int32) (by decide) (zifYes X6 hx hby at_233 240 (by decide) (by decide) (by decide) (ziconst X6 hx hby at_240 (z := (0 : Int32)) rfl (zicmpNo X6 hx hby at_241 (by decide) (ziconst X6 hx hby at_244 (z := (1 : Int32)) rfl (zgoto X6 hx hby at_245 249 (by decide) (by decide) (zistore X6 hx hby at_249 (L' := #[iv u0, iv u1, iv u2, iv u3, iv 1, rv b1, .val (.long 2), .second, iv 1]) rfl (ziload X6 hx hby at_251 rfl ?_)))))))))
    show zEnds p e below s T6 (mkF m 253 #[iv u0, iv u1, iv u2, iv u3, iv 1, rv b1, .val (.long 2), .second, iv 1] [(.int 1)]) _ _ _
    exact zretZ X6 hx hby at_253 hret hlk (by simp) rfl (by decide) (by decide) ⟨rfl, N4⟩
  · show zEnds p e below s T0 (mkF m 203 #[iv u0, iv u1, iv u2, iv u3, iv 2, rv b1, .val (.long 1), .second, iv 1] []) _ _ _
    refine zaload X0 hx hby at_203 rfl rfl (ziload X0 hx hby at_205 rfl (zcalls X0 hx hby at_207 hZ hown (w18 hw) (w19 hw) (w20 hw) (w21 hw) e0 (c35_apply l hw [] ⟨S_w_PAUSE, S_w_RESUME, S_w_STEP, E_w_PAUSE, E_w_RESUME, E_w_STEP, F_w_PAUSE_ordinal, F_w_RESUME_ordinal, F_w_STEP_ordinal, S_w_arr0, A_w_arr0, A_w_arr0_0, A_w_arr0_2, A_w_arr0_1⟩ O0 (Nat.le_trans Z0 K0.1) b1 g_b1 E_b1 F_b1_left) (by decide) (by rw [hml]; rfl) 0 (Nat.le_of_eq rfl) (by decide) (by decide) (by decide) (by decide) pd_5 rfl (argsL := [(.ref b1), (.int 2)]) (st := []) rfl fun T7 h7 v7 L7 e7 X7 q7 => ?_))
    obtain ⟨rfl, N7q, K7q, E7_b1, F7_b1_left⟩ := q7
    have O7 := O0.keep K7q (allS g_b1 all0)
    have K7 := Keep.trans K0 K7q (allS (Or.inl (List.mem_of_getElem? (i := 0) rfl)) all0)
    have N7 := Fr.app N0 N7q
    show zEnds p e below s T7 (mkF m 210 #[iv u0, iv u1, iv u2, iv u3, iv 2, rv b1, .val (.long 1), .second, iv 1] []) _ _ _
    refine zlload X7 hx hby at_210 rfl (ziload X7 hx hby at_212 rfl (zcalls X7 hx hby at_214 hZ hown (w46 hw) (w47 hw) (w20 hw) (w48 hw) e7 (c41_next l hw [] ⟨S_w_PAUSE, S_w_RESUME, S_w_STEP, E_w_PAUSE, E_w_RESUME, E_w_STEP, F_w_PAUSE_ordinal, F_w_RESUME_ordinal, F_w_STEP_ordinal, S_w_arr0, A_w_arr0, A_w_arr0_0, A_w_arr0_2, A_w_arr0_1⟩ O7 (Nat.le_trans Z0 K7.1) ) (by decide) (by rw [hml]; rfl) 0 (Nat.le_of_eq rfl) (by decide) (by decide) (by decide) (by decide) pd_6 rfl (argsL := [(.long 1), (.int 2)]) (st := []) rfl (zpureK ⟨rfl, rfl⟩ fun T8 X8 e8 => ?_)))
    show zEnds p e below s T8 (mkF m 217 #[iv u0, iv u1, iv u2, iv u3, iv 2, rv b1, .val (.long 1), .second, iv 1] [(.long (-1))]) _ _ _
    refine zlstore X8 hx hby at_217 (L' := #[iv u0, iv u1, iv u2, iv u3, iv 2, rv b1, .val (.long (-1)), .second, iv 1]) rfl (ziload X8 hx hby at_219 rfl (zifNo X8 hx hby at_221 (by decide) (zaload X8 hx hby at_224 rfl rfl (zcallv X8 hx hby at_226 hZ hown (w13 hw) (w14 hw) (notFace_of_selects (args := #[]) (mvT hZ (w16 hw))) (w16 hw) (w15 hw) (w17 hw) (w2 hw) e8 E7_b1 (c3_isSpent l hw [] ⟨S_w_PAUSE, S_w_RESUME, S_w_STEP, E_w_PAUSE, E_w_RESUME, E_w_STEP, F_w_PAUSE_ordinal, F_w_RESUME_ordinal, F_w_STEP_ordinal, S_w_arr0, A_w_arr0, A_w_arr0_0, A_w_arr0_2, A_w_arr0_1⟩ O7 (Nat.le_trans Z0 K7.1) b1 g_b1 E7_b1 F7_b1_left) (by decide) (by rw [hml]; rfl) 0 (Nat.le_of_eq rfl) (by decide) (by decide) (by decide) (by decide) pd_1 rfl (argsL := []) (st := []) rfl (zpureK ⟨rfl, rfl⟩ fun T9 X9 e9 => ?_)))))
    show zEnds p e below s T9 (mkF m 229 #[iv u0, iv u1, iv u2, iv u3, iv 2, rv b1, .val (.long (-1)), .second, iv 1] [(.int 0)]) _ _ _
    refine zlload X9 hx hby at_229 rfl (zlconst X9 hx hby at_231 (z := (0 : Int64)) rfl (zlcmp X9 hx hby at_232 (-1 : Int32) (by decide) (zifYes X9 hx hby at_233 240 (by decide) (by decide) (by decide) (ziconst X9 hx hby at_240 (z := (0 : Int32)) rfl (zicmpNo X9 hx hby at_241 (by decide) (ziconst X9 hx hby at_244 (z := (1 : Int32)) rfl (zgoto X9 hx hby at_245 249 (by decide) (by decide) (zistore X9 hx hby at_249 (L' := #[iv u0, iv u1, iv u2, iv u3, iv 2, rv b1, .val (.long (-1)), .second, iv 1]) rfl (ziload X9 hx hby at_251 rfl ?_)))))))))
    show zEnds p e below s T9 (mkF m 253 #[iv u0, iv u1, iv u2, iv u3, iv 2, rv b1, .val (.long (-1)), .second, iv 1] [(.int 1)]) _ _ _
    exact zretZ X9 hx hby at_253 hret hlk (by simp) rfl (by decide) (by decide) ⟨rfl, N7⟩
  · show zEnds p e below s T0 (mkF m 203 #[iv u0, iv u1, iv u2, iv u3, iv 3, rv b1, .val (.long 1), .second, iv 1] []) _ _ _
    refine zaload X0 hx hby at_203 rfl rfl (ziload X0 hx hby at_205 rfl (zcalls X0 hx hby at_207 hZ hown (w18 hw) (w19 hw) (w20 hw) (w21 hw) e0 (c43_apply l hw [] ⟨S_w_PAUSE, S_w_RESUME, S_w_STEP, E_w_PAUSE, E_w_RESUME, E_w_STEP, F_w_PAUSE_ordinal, F_w_RESUME_ordinal, F_w_STEP_ordinal, S_w_arr0, A_w_arr0, A_w_arr0_0, A_w_arr0_2, A_w_arr0_1⟩ O0 (Nat.le_trans Z0 K0.1) b1 g_b1 E_b1 F_b1_left) (by decide) (by rw [hml]; rfl) 0 (Nat.le_of_eq rfl) (by decide) (by decide) (by decide) (by decide) pd_5 rfl (argsL := [(.ref b1), (.int 3)]) (st := []) rfl fun T10 h10 v10 L10 e10 X10 q10 => ?_))
    obtain ⟨rfl, N10q, K10q, E10_b1, F10_b1_left⟩ := q10
    have O10 := O0.keep K10q (allS g_b1 all0)
    have K10 := Keep.trans K0 K10q (allS (Or.inl (List.mem_of_getElem? (i := 0) rfl)) all0)
    have N10 := Fr.app N0 N10q
    show zEnds p e below s T10 (mkF m 210 #[iv u0, iv u1, iv u2, iv u3, iv 3, rv b1, .val (.long 1), .second, iv 1] []) _ _ _
    refine zlload X10 hx hby at_210 rfl (ziload X10 hx hby at_212 rfl (zcalls X10 hx hby at_214 hZ hown (w46 hw) (w47 hw) (w20 hw) (w48 hw) e10 (c47_next l hw [] ⟨S_w_PAUSE, S_w_RESUME, S_w_STEP, E_w_PAUSE, E_w_RESUME, E_w_STEP, F_w_PAUSE_ordinal, F_w_RESUME_ordinal, F_w_STEP_ordinal, S_w_arr0, A_w_arr0, A_w_arr0_0, A_w_arr0_2, A_w_arr0_1⟩ O10 (Nat.le_trans Z0 K10.1) ) (by decide) (by rw [hml]; rfl) 0 (Nat.le_of_eq rfl) (by decide) (by decide) (by decide) (by decide) pd_6 rfl (argsL := [(.long 1), (.int 3)]) (st := []) rfl (zpureK ⟨rfl, rfl⟩ fun T11 X11 e11 => ?_)))
    show zEnds p e below s T11 (mkF m 217 #[iv u0, iv u1, iv u2, iv u3, iv 3, rv b1, .val (.long 1), .second, iv 1] [(.long 0)]) _ _ _
    refine zlstore X11 hx hby at_217 (L' := #[iv u0, iv u1, iv u2, iv u3, iv 3, rv b1, .val (.long 0), .second, iv 1]) rfl (ziload X11 hx hby at_219 rfl (zifNo X11 hx hby at_221 (by decide) (zaload X11 hx hby at_224 rfl rfl (zcallv X11 hx hby at_226 hZ hown (w13 hw) (w14 hw) (notFace_of_selects (args := #[]) (mvT hZ (w16 hw))) (w16 hw) (w15 hw) (w17 hw) (w2 hw) e11 E10_b1 (c49_isSpent l hw [] ⟨S_w_PAUSE, S_w_RESUME, S_w_STEP, E_w_PAUSE, E_w_RESUME, E_w_STEP, F_w_PAUSE_ordinal, F_w_RESUME_ordinal, F_w_STEP_ordinal, S_w_arr0, A_w_arr0, A_w_arr0_0, A_w_arr0_2, A_w_arr0_1⟩ O10 (Nat.le_trans Z0 K10.1) b1 g_b1 E10_b1 F10_b1_left) (by decide) (by rw [hml]; rfl) 0 (Nat.le_of_eq rfl) (by decide) (by decide) (by decide) (by decide) pd_1 rfl (argsL := []) (st := []) rfl (zpureK ⟨rfl, rfl⟩ fun T12 X12 e12 => ?_)))))
    show zEnds p e below s T12 (mkF m 229 #[iv u0, iv u1, iv u2, iv u3, iv 3, rv b1, .val (.long 0), .second, iv 1] [(.int 1)]) _ _ _
    refine zlload X12 hx hby at_229 rfl (zlconst X12 hx hby at_231 (z := (0 : Int64)) rfl (zlcmp X12 hx hby at_232 (0 : Int32) (by decide) (zifNo X12 hx hby at_233 (by decide) (ziconst X12 hx hby at_236 (z := (1 : Int32)) rfl (zgoto X12 hx hby at_237 241 (by decide) (by decide) (zicmpNo X12 hx hby at_241 (by decide) (ziconst X12 hx hby at_244 (z := (1 : Int32)) rfl (zgoto X12 hx hby at_245 249 (by decide) (by decide) (zistore X12 hx hby at_249 (L' := #[iv u0, iv u1, iv u2, iv u3, iv 3, rv b1, .val (.long 0), .second, iv 1]) rfl ?_)))))))))
    show zEnds p e below s T12 (mkF m 251 #[iv u0, iv u1, iv u2, iv u3, iv 3, rv b1, .val (.long 0), .second, iv 1] []) _ _ _
    refine ziload X12 hx hby at_251 rfl ?_
    show zEnds p e below s T12 (mkF m 253 #[iv u0, iv u1, iv u2, iv u3, iv 3, rv b1, .val (.long 0), .second, iv 1] [(.int 1)]) _ _ _
    exact zretZ X12 hx hby at_253 hret hlk (by simp) rfl (by decide) (by decide) ⟨rfl, N10⟩
set_option maxRecDepth 65536 in
set_option maxHeartbeats 40000000 in
theorem c53_min (l : Launch) {Z : State} {a0 : Array Value} (hw : ∀ d ∈ tables_1, d.before a0 Z = true) (ws : List Jvm.Cond) {w_PAUSE w_RESUME w_STEP w_arr0 : Addr} {cl_arr0 : Cell} {n0 : Nat} {h0 : Heap} (C : Ctx Z w_PAUSE w_RESUME w_STEP w_arr0 cl_arr0) (O0 : Old Z n0 h0) (Z0 : n0 ≤ h0.size)  : zCon l Z (⟨"java/lang/Math", "min", "(JJ)J"⟩ : MethodName) jdk_29_method_70_code 4 (some .long) ws ({ frames := 0, cells := 0, slots := 0, locals := 0 } : Room) #[(.long 2), (.long 1)] h0 (zSame (some (.long 1)) h0) := by
  obtain ⟨S_w_PAUSE, S_w_RESUME, S_w_STEP, E_w_PAUSE, E_w_RESUME, E_w_STEP, F_w_PAUSE_ordinal, F_w_RESUME_ordinal, F_w_STEP_ordinal, S_w_arr0, A_w_arr0, A_w_arr0_0, A_w_arr0_2, A_w_arr0_1⟩ := C
  refine zenter (Jvm.Free.JP.mathPlain rfl (by decide +kernel)) (L0 := #[.val (.long 2), .second, .val (.long 1), .second]) (fun m => by first | rfl | simp [entryFrame, mkF, argsToLocals, Value.category, maxLocals]) ?_
  intro p e s m below meth c T0 hx hZ hby hml hown0 hnm hret hlk X0 e0
  have hown : s.vm.findClass "java/lang/Math" = some m.cls := hown0
  have K0 := Keep.refl h0 []
  have N0 := Fr.nil n0
  show zEnds p e below s T0 (mkF m 0 #[.val (.long 2), .second, .val (.long 1), .second] []) _ _ _
  refine zlloadN X0 hx hby d_jdk_29_method_70_0 rfl (zlloadN X0 hx hby d_jdk_29_method_70_1 rfl (zlcmp X0 hx hby d_jdk_29_method_70_2 (1 : Int32) (by decide) (zifYes X0 hx hby d_jdk_29_method_70_3 10 (by decide) (by decide) (by decide) (zlloadN X0 hx hby d_jdk_29_method_70_10 rfl ?_))))
  show zEnds p e below s T0 (mkF m 11 #[.val (.long 2), .second, .val (.long 1), .second] [(.long 1)]) _ _ _
  exact zretL X0 hx hby d_jdk_29_method_70_11 hret hlk (by decide) (by decide) ⟨rfl, e0, rfl⟩
set_option maxRecDepth 65536 in
set_option maxHeartbeats 40000000 in
theorem c52_obey (l : Launch) {Z : State} {a0 : Array Value} (hw : ∀ d ∈ tables_1, d.before a0 Z = true) (ws : List Jvm.Cond) {w_PAUSE w_RESUME w_STEP w_arr0 : Addr} {cl_arr0 : Cell} {n0 : Nat} {h0 : Heap} (C : Ctx Z w_PAUSE w_RESUME w_STEP w_arr0 cl_arr0) (O0 : Old Z n0 h0) (Z0 : n0 ≤ h0.size) (b900 : Addr) (g_b900 : n0 ≤ b900) (E_b900 : Exa Z h0 b900 "heapglass/core/wire/Allowance") (F_b900_left : Fld Z h0 b900 "heapglass/core/wire/Allowance" "left" "J" (.long 2)) : zCon l Z (⟨"heapglass/core/wire/Allowance", "obey", "(Lheapglass/core/wire/Control;)V"⟩ : MethodName) prog_9_method_2_code 2 none ws ({ frames := 1, cells := 0, slots := 0, locals := 16 } : Room) #[(.ref b900), (.ref w_PAUSE)] h0 (fun v h L => v = none ∧ Fr n0 L ∧ Keep h0 h [b900] ∧ Exa Z h b900 "heapglass/core/wire/Allowance" ∧ Fld Z h b900 "heapglass/core/wire/Allowance" "left" "J" (.long 1)) := by
  obtain ⟨S_w_PAUSE, S_w_RESUME, S_w_STEP, E_w_PAUSE, E_w_RESUME, E_w_STEP, F_w_PAUSE_ordinal, F_w_RESUME_ordinal, F_w_STEP_ordinal, S_w_arr0, A_w_arr0, A_w_arr0_0, A_w_arr0_2, A_w_arr0_1⟩ := C
  refine zenter (plainFor_of_name pn_0) (L0 := #[rv b900, rv w_PAUSE]) (fun m => by first | rfl | simp [entryFrame, mkF, argsToLocals, Value.category, maxLocals]) ?_
  intro p e s m below meth c T0 hx hZ hby hml hown0 hnm hret hlk X0 e0
  have hown : s.vm.findClass "heapglass/core/wire/Allowance" = some m.cls := hown0
  have K0 := Keep.refl h0 [b900]
  have N0 := Fr.nil n0
  show zEnds p e below s T0 (mkF m 0 #[rv b900, rv w_PAUSE] []) _ _ _
  refine zaloadN X0 hx hby d_prog_9_method_2_0 rfl rfl (zgetstat X0 hx hby d_prog_9_method_2_1 hZ hown (host := "") (Or.inl (w30 hw)) Via.refl e0 (S_w_arr0.ext O0.2) fun T1 X1 e1 => (zaloadN X1 hx hby d_prog_9_method_2_4 rfl rfl (zcallup X1 hx hby d_prog_9_method_2_5 hZ hown (w33 hw) (w34 hw) (w35 hw) (w37 hw) (w36 hw) (w39 hw) (w38 hw) e1 (E_w_PAUSE.ext O0.2) (c7_ordinal l hw [] ⟨S_w_PAUSE, S_w_RESUME, S_w_STEP, E_w_PAUSE, E_w_RESUME, E_w_STEP, F_w_PAUSE_ordinal, F_w_RESUME_ordinal, F_w_STEP_ordinal, S_w_arr0, A_w_arr0, A_w_arr0_0, A_w_arr0_2, A_w_arr0_1⟩ O0 (Nat.le_trans Z0 K0.1) ) (by decide) (by rw [hml]; rfl) 2 (Nat.le_of_eq rfl) (by decide) (by decide) (by decide) (by decide) pd_2 rfl (argsL := []) (st := [(.ref w_arr0), (.ref b900)]) rfl (zpureK ⟨rfl, rfl⟩ fun T2 X2 e2 => ?_))))
  show zEnds p e below s T2 (mkF m 8 #[rv b900, rv w_PAUSE] [(.int 0), (.ref w_arr0), (.ref b900)]) _ _ _
  refine zialoadC X2 hx hby d_prog_9_method_2_8 hZ e2 (A_w_arr0.ext O0.2) A_w_arr0_0 (ztswIn X2 hx hby d_prog_9_method_2_9 46 (by decide) rfl (by decide) (by decide) (zaloadN X2 hx hby d_prog_9_method_2_46 rfl rfl (zgetfld X2 hx hby d_prog_9_method_2_47 hZ hown (host := "") (Or.inl (w10 hw)) Via.refl e2 F_b900_left fun T3 X3 e3 => (zlconst X3 hx hby d_prog_9_method_2_50 (z := (1 : Int64)) rfl (zcalls X3 hx hby d_prog_9_method_2_51 hZ hown (w42 hw) (w43 hw) (w44 hw) (w45 hw) e3 (c53_min l hw [] ⟨S_w_PAUSE, S_w_RESUME, S_w_STEP, E_w_PAUSE, E_w_RESUME, E_w_STEP, F_w_PAUSE_ordinal, F_w_RESUME_ordinal, F_w_STEP_ordinal, S_w_arr0, A_w_arr0, A_w_arr0_0, A_w_arr0_2, A_w_arr0_1⟩ O0 (Nat.le_trans Z0 K0.1) ) (by decide) (by rw [hml]; rfl) 1 (Nat.le_of_eq rfl) (by decide) (by decide) (by decide) (by decide) pd_3 rfl (argsL := [(.long 2), (.long 1)]) (st := [(.ref b900)]) rfl (zpureK ⟨rfl, rfl⟩ fun T4 X4 e4 => ?_))))))
  show zEnds p e below s T4 (mkF m 54 #[rv b900, rv w_PAUSE] [(.long 1), (.ref b900)]) _ _ _
  refine zgoto X4 hx hby d_prog_9_method_2_54 84 (by decide) (by decide) (zputfld X4 hx hby d_prog_9_method_2_84 hZ hown (host := "") (Or.inl (w10 hw)) Via.refl e4 F_b900_left E_b900 (Or.inl (w11 hw)) (w1 hw) (ty := .long) (by decide) rfl rfl fun T5 h5 X5 e5 W5 => ?_)
  have F5_b900_left : Fld Z h5 b900 "heapglass/core/wire/Allowance" "left" "J" (.long 1) := F_b900_left.same W5
  have E5_b900 := E_b900.wr W5
  have O5 := O0.wr W5 g_b900
  have K5 := Keep.wr K0 W5 (Or.inl (List.mem_of_getElem? (i := 0) rfl))
  have N5 := Fr.snoc X5 N0 g_b900
  show zEnds p e below s T5 (mkF m 87 #[rv b900, rv w_PAUSE] []) _ _ _
  exact zretV X5 hx hby d_prog_9_method_2_87 hret hlk (by decide) (by decide) (by rw [e5]; exact ⟨rfl, N5, K5, E5_b900, F5_b900_left⟩)
set_option maxRecDepth 65536 in
set_option maxHeartbeats 40000000 in
theorem c51_apply (l : Launch) {Z : State} {a0 : Array Value} (hw : ∀ d ∈ tables_1, d.before a0 Z = true) (ws : List Jvm.Cond) {w_PAUSE w_RESUME w_STEP w_arr0 : Addr} {cl_arr0 : Cell} {n0 : Nat} {h0 : Heap} (C : Ctx Z w_PAUSE w_RESUME w_STEP w_arr0 cl_arr0) (O0 : Old Z n0 h0) (Z0 : n0 ≤ h0.size) (b900 : Addr) (g_b900 : n0 ≤ b900) (E_b900 : Exa Z h0 b900 "heapglass/core/wire/Allowance") (F_b900_left : Fld Z h0 b900 "heapglass/core/wire/Allowance" "left" "J" (.long 2)) : zCon l Z (⟨"heapglass/core/wire/AllowanceIsSpentPinLaw", "apply", "(Lheapglass/core/wire/Allowance;I)V"⟩ : MethodName) method_3_code 2 none ws ({ frames := 2, cells := 0, slots := 0, locals := 29 } : Room) #[(.ref b900), (.int 0)] h0 (fun v h L => v = none ∧ Fr n0 L ∧ Keep h0 h [b900] ∧ Exa Z h b900 "heapglass/core/wire/Allowance" ∧ Fld Z h b900 "heapglass/core/wire/Allowance" "left" "J" (.long 1)) := by
  obtain ⟨S_w_PAUSE, S_w_RESUME, S_w_STEP, E_w_PAUSE, E_w_RESUME, E_w_STEP, F_w_PAUSE_ordinal, F_w_RESUME_ordinal, F_w_STEP_ordinal, S_w_arr0, A_w_arr0, A_w_arr0_0, A_w_arr0_2, A_w_arr0_1⟩ := C
  refine zenter (plainFor_of_name pn_2) (L0 := #[rv b900, iv 0]) (fun m => by first | rfl | simp [entryFrame, mkF, argsToLocals, Value.category, maxLocals]) ?_
  intro p e s m below meth c T0 hx hZ hby hml hown0 hnm hret hlk X0 e0
  have hown : s.vm.findClass "heapglass/core/wire/AllowanceIsSpentPinLaw" = some m.cls := hown0
  have K0 := Keep.refl h0 [b900]
  have N0 := Fr.nil n0
  show zEnds p e below s T0 (mkF m 0 #[rv b900, iv 0] []) _ _ _
  refine ziloadN X0 hx hby d_method_3_0 rfl (zifNo X0 hx hby d_method_3_1 (by decide) (zaloadN X0 hx hby d_method_3_4 rfl rfl (zgetstat X0 hx hby d_method_3_5 hZ hown (host := "") (Or.inl (w22 hw)) Via.refl e0 (S_w_PAUSE.ext O0.2) fun T1 X1 e1 => (zcallv X1 hx hby d_method_3_8 hZ hown (w25 hw) (w26 hw) (notFace_of_selects (args := #[]) (mvT hZ (w28 hw))) (w28 hw) (w27 hw) (w29 hw) (w2 hw) e1 E_b900 (c52_obey l hw [] ⟨S_w_PAUSE, S_w_RESUME, S_w_STEP, E_w_PAUSE, E_w_RESUME, E_w_STEP, F_w_PAUSE_ordinal, F_w_RESUME_ordinal, F_w_STEP_ordinal, S_w_arr0, A_w_arr0, A_w_arr0_0, A_w_arr0_2, A_w_arr0_1⟩ O0 (Nat.le_trans Z0 K0.1) b900 g_b900 E_b900 F_b900_left) (by decide) (by rw [hml]; rfl) 0 (Nat.le_of_eq rfl) (by decide) (by decide) (by decide) (by decide) pd_4 rfl (argsL := [(.ref w_PAUSE)]) (st := []) rfl fun T2 h2 v2 L2 e2 X2 q2 => ?_))))
  obtain ⟨rfl, N2q, K2q, E2_b900, F2_b900_left⟩ := q2
  have O2 := O0.keep K2q (allS g_b900 all0)
  have K2 := Keep.trans K0 K2q (allS (Or.inl (List.mem_of_getElem? (i := 0) rfl)) all0)
  have N2 := Fr.app N0 N2q
  show zEnds p e below s T2 (mkF m 11 #[rv b900, iv 0] []) _ _ _
  refine zgoto X2 hx hby d_method_3_11 48 (by decide) (by decide) ?_
  show zEnds p e below s T2 (mkF m 48 #[rv b900, iv 0] []) _ _ _
  exact zretV X2 hx hby d_method_3_48 hret hlk (by decide) (by decide) (by rw [e2]; exact ⟨rfl, N2, K2, E2_b900, F2_b900_left⟩)
set_option maxRecDepth 65536 in
set_option maxHeartbeats 40000000 in
theorem c57_next (l : Launch) {Z : State} {a0 : Array Value} (hw : ∀ d ∈ tables_1, d.before a0 Z = true) (ws : List Jvm.Cond) {w_PAUSE w_RESUME w_STEP w_arr0 : Addr} {cl_arr0 : Cell} {n0 : Nat} {h0 : Heap} (C : Ctx Z w_PAUSE w_RESUME w_STEP w_arr0 cl_arr0) (O0 : Old Z n0 h0) (Z0 : n0 ≤ h0.size)  : zCon l Z (⟨"heapglass/core/wire/AllowanceIsSpentPinLaw", "next", "(JI)J"⟩ : MethodName) method_2_code 3 (some .long) ws ({ frames := 1, cells := 0, slots := 0, locals := 15 } : Room) #[(.long 2), (.int 0)] h0 (zSame (some (.long 1)) h0) := by
  obtain ⟨S_w_PAUSE, S_w_RESUME, S_w_STEP, E_w_PAUSE, E_w_RESUME, E_w_STEP, F_w_PAUSE_ordinal, F_w_RESUME_ordinal, F_w_STEP_ordinal, S_w_arr0, A_w_arr0, A_w_arr0_0, A_w_arr0_2, A_w_arr0_1⟩ := C
  refine zenter (plainFor_of_name pn_2) (L0 := #[.val (.long 2), .second, iv 0]) (fun m => by first | rfl | simp [entryFrame, mkF, argsToLocals, Value.category, maxLocals]) ?_
  intro p e s m below meth c T0 hx hZ hby hml hown0 hnm hret hlk X0 e0
  have hown : s.vm.findClass "heapglass/core/wire/AllowanceIsSpentPinLaw" = some m.cls := hown0
  have K0 := Keep.refl h0 []
  have N0 := Fr.nil n0
  show zEnds p e below s T0 (mkF m 0 #[.val (.long 2), .second, iv 0] []) _ _ _
  refine ziloadN X0 hx hby d_method_2_0 rfl (zifNo X0 hx hby d_method_2_1 (by decide) (zlloadN X0 hx hby d_method_2_4 rfl (zldc2J X0 hx hby d_method_2_5 (-1 : Int64) hZ hown (w12 hw) (zlcmp X0 hx hby d_method_2_8 (1 : Int32) (by decide) (zifYes X0 hx hby d_method_2_9 16 (by decide) (by decide) (by decide) (zlloadN X0 hx hby d_method_2_16 rfl (zlconst X0 hx hby d_method_2_17 (z := (1 : Int64)) rfl (zcalls X0 hx hby d_method_2_18 hZ hown (w49 hw) (w43 hw) (w44 hw) (w45 hw) e0 (c53_min l hw [] ⟨S_w_PAUSE, S_w_RESUME, S_w_STEP, E_w_PAUSE, E_w_RESUME, E_w_STEP, F_w_PAUSE_ordinal, F_w_RESUME_ordinal, F_w_STEP_ordinal, S_w_arr0, A_w_arr0, A_w_arr0_0, A_w_arr0_2, A_w_arr0_1⟩ O0 (Nat.le_trans Z0 K0.1) ) (by decide) (by rw [hml]; rfl) 0 (Nat.le_of_eq rfl) (by decide) (by decide) (by decide) (by decide) pd_3 rfl (argsL := [(.long 2), (.long 1)]) (st := []) rfl (zpureK ⟨rfl, rfl⟩ fun T1 X1 e1 => ?_)))))))))
  show zEnds p e below s T1 (mkF m 21 #[.val (.long 2), .second, iv 0] [(.long 1)]) _ _ _
  exact zretL X1 hx hby d_method_2_21 hret hlk (by decide) (by decide) ⟨rfl, e1, rfl⟩
set_option maxRecDepth 65536 in
set_option maxHeartbeats 40000000 in
theorem c60_obey (l : Launch) {Z : State} {a0 : Array Value} (hw : ∀ d ∈ tables_1, d.before a0 Z = true) (ws : List Jvm.Cond) {w_PAUSE w_RESUME w_STEP w_arr0 : Addr} {cl_arr0 : Cell} {n0 : Nat} {h0 : Heap} (C : Ctx Z w_PAUSE w_RESUME w_STEP w_arr0 cl_arr0) (O0 : Old Z n0 h0) (Z0 : n0 ≤ h0.size) (b900 : Addr) (g_b900 : n0 ≤ b900) (E_b900 : Exa Z h0 b900 "heapglass/core/wire/Allowance") (F_b900_left : Fld Z h0 b900 "heapglass/core/wire/Allowance" "left" "J" (.long 2)) : zCon l Z (⟨"heapglass/core/wire/Allowance", "obey", "(Lheapglass/core/wire/Control;)V"⟩ : MethodName) prog_9_method_2_code 2 none ws ({ frames := 1, cells := 0, slots := 0, locals := 14 } : Room) #[(.ref b900), (.ref w_STEP)] h0 (fun v h L => v = none ∧ Fr n0 L ∧ Keep h0 h [b900] ∧ Exa Z h b900 "heapglass/core/wire/Allowance" ∧ Fld Z h b900 "heapglass/core/wire/Allowance" "left" "J" (.long 3)) := by
  obtain ⟨S_w_PAUSE, S_w_RESUME, S_w_STEP, E_w_PAUSE, E_w_RESUME, E_w_STEP, F_w_PAUSE_ordinal, F_w_RESUME_ordinal, F_w_STEP_ordinal, S_w_arr0, A_w_arr0, A_w_arr0_0, A_w_arr0_2, A_w_arr0_1⟩ := C
  refine zenter (plainFor_of_name pn_0) (L0 := #[rv b900, rv w_STEP]) (fun m => by first | rfl | simp [entryFrame, mkF, argsToLocals, Value.category, maxLocals]) ?_
  intro p e s m below meth c T0 hx hZ hby hml hown0 hnm hret hlk X0 e0
  have hown : s.vm.findClass "heapglass/core/wire/Allowance" = some m.cls := hown0
  have K0 := Keep.refl h0 [b900]
  have N0 := Fr.nil n0
  show zEnds p e below s T0 (mkF m 0 #[rv b900, rv w_STEP] []) _ _ _
  refine zaloadN X0 hx hby d_prog_9_method_2_0 rfl rfl (zgetstat X0 hx hby d_prog_9_method_2_1 hZ hown (host := "") (Or.inl (w30 hw)) Via.refl e0 (S_w_arr0.ext O0.2) fun T1 X1 e1 => (zaloadN X1 hx hby d_prog_9_method_2_4 rfl rfl (zcallup X1 hx hby d_prog_9_method_2_5 hZ hown (w33 hw) (w34 hw) (w35 hw) (w37 hw) (w36 hw) (w39 hw) (w38 hw) e1 (E_w_STEP.ext O0.2) (c27_ordinal l hw [] ⟨S_w_PAUSE, S_w_RESUME, S_w_STEP, E_w_PAUSE, E_w_RESUME, E_w_STEP, F_w_PAUSE_ordinal, F_w_RESUME_ordinal, F_w_STEP_ordinal, S_w_arr0, A_w_arr0, A_w_arr0_0, A_w_arr0_2, A_w_arr0_1⟩ O0 (Nat.le_trans Z0 K0.1) ) (by decide) (by rw [hml]; rfl) 2 (Nat.le_of_eq rfl) (by decide) (by decide) (by decide) (by decide) pd_2 rfl (argsL := []) (st := [(.ref w_arr0), (.ref b900)]) rfl (zpureK ⟨rfl, rfl⟩ fun T2 X2 e2 => ?_))))
  show zEnds p e below s T2 (mkF m 8 #[rv b900, rv w_STEP] [(.int 1), (.ref w_arr0), (.ref b900)]) _ _ _
  refine zialoadC X2 hx hby d_prog_9_method_2_8 hZ e2 (A_w_arr0.ext O0.2) A_w_arr0_1 (ztswIn X2 hx hby d_prog_9_method_2_9 57 (by decide) rfl (by decide) (by decide) (zaloadN X2 hx hby d_prog_9_method_2_57 rfl rfl (zgetfld X2 hx hby d_prog_9_method_2_58 hZ hown (host := "") (Or.inl (w10 hw)) Via.refl e2 F_b900_left fun T3 X3 e3 => (zldc2J X3 hx hby d_prog_9_method_2_61 (9223372036854775807 : Int64) hZ hown (w9 hw) (zlcmp X3 hx hby d_prog_9_method_2_64 (-1 : Int32) (by decide) (zifYes X3 hx hby d_prog_9_method_2_65 72 (by decide) (by decide) (by decide) (zaloadN X3 hx hby d_prog_9_method_2_72 rfl rfl (zgetfld X3 hx hby d_prog_9_method_2_73 hZ hown (host := "") (Or.inl (w10 hw)) Via.refl e3 F_b900_left fun T4 X4 e4 => (zlconst X4 hx hby d_prog_9_method_2_76 (z := (1 : Int64)) rfl ?_)))))))))
  show zEnds p e below s T4 (mkF m 77 #[rv b900, rv w_STEP] [(.long 1), (.long 2), (.ref b900)]) _ _ _
  refine zladd X4 hx hby d_prog_9_method_2_77 (3 : Int64) (by decide) (zgoto X4 hx hby d_prog_9_method_2_78 84 (by decide) (by decide) (zputfld X4 hx hby d_prog_9_method_2_84 hZ hown (host := "") (Or.inl (w10 hw)) Via.refl e4 F_b900_left E_b900 (Or.inl (w11 hw)) (w1 hw) (ty := .long) (by decide) rfl rfl fun T5 h5 X5 e5 W5 => ?_))
  have F5_b900_left : Fld Z h5 b900 "heapglass/core/wire/Allowance" "left" "J" (.long 3) := F_b900_left.same W5
  have E5_b900 := E_b900.wr W5
  have O5 := O0.wr W5 g_b900
  have K5 := Keep.wr K0 W5 (Or.inl (List.mem_of_getElem? (i := 0) rfl))
  have N5 := Fr.snoc X5 N0 g_b900
  show zEnds p e below s T5 (mkF m 87 #[rv b900, rv w_STEP] []) _ _ _
  exact zretV X5 hx hby d_prog_9_method_2_87 hret hlk (by decide) (by decide) (by rw [e5]; exact ⟨rfl, N5, K5, E5_b900, F5_b900_left⟩)
set_option maxRecDepth 65536 in
set_option maxHeartbeats 40000000 in
theorem c59_apply (l : Launch) {Z : State} {a0 : Array Value} (hw : ∀ d ∈ tables_1, d.before a0 Z = true) (ws : List Jvm.Cond) {w_PAUSE w_RESUME w_STEP w_arr0 : Addr} {cl_arr0 : Cell} {n0 : Nat} {h0 : Heap} (C : Ctx Z w_PAUSE w_RESUME w_STEP w_arr0 cl_arr0) (O0 : Old Z n0 h0) (Z0 : n0 ≤ h0.size) (b900 : Addr) (g_b900 : n0 ≤ b900) (E_b900 : Exa Z h0 b900 "heapglass/core/wire/Allowance") (F_b900_left : Fld Z h0 b900 "heapglass/core/wire/Allowance" "left" "J" (.long 2)) : zCon l Z (⟨"heapglass/core/wire/AllowanceIsSpentPinLaw", "apply", "(Lheapglass/core/wire/Allowance;I)V"⟩ : MethodName) method_3_code 2 none ws ({ frames := 2, cells := 0, slots := 0, locals := 27 } : Room) #[(.ref b900), (.int 1)] h0 (fun v h L => v = none ∧ Fr n0 L ∧ Keep h0 h [b900] ∧ Exa Z h b900 "heapglass/core/wire/Allowance" ∧ Fld Z h b900 "heapglass/core/wire/Allowance" "left" "J" (.long 3)) := by
  obtain ⟨S_w_PAUSE, S_w_RESUME, S_w_STEP, E_w_PAUSE, E_w_RESUME, E_w_STEP, F_w_PAUSE_ordinal, F_w_RESUME_ordinal, F_w_STEP_ordinal, S_w_arr0, A_w_arr0, A_w_arr0_0, A_w_arr0_2, A_w_arr0_1⟩ := C
  refine zenter (plainFor_of_name pn_2) (L0 := #[rv b900, iv 1]) (fun m => by first | rfl | simp [entryFrame, mkF, argsToLocals, Value.category, maxLocals]) ?_
  intro p e s m below meth c T0 hx hZ hby hml hown0 hnm hret hlk X0 e0
  have hown : s.vm.findClass "heapglass/core/wire/AllowanceIsSpentPinLaw" = some m.cls := hown0
  have K0 := Keep.refl h0 [b900]
  have N0 := Fr.nil n0
  show zEnds p e below s T0 (mkF m 0 #[rv b900, iv 1] []) _ _ _
  refine ziloadN X0 hx hby d_method_3_0 rfl (zifYes X0 hx hby d_method_3_1 14 (by decide) (by decide) (by decide) (ziloadN X0 hx hby d_method_3_14 rfl (ziconst X0 hx hby d_method_3_15 (z := (1 : Int32)) rfl (zicmpNo X0 hx hby d_method_3_16 (by decide) (zaloadN X0 hx hby d_method_3_19 rfl rfl (zgetstat X0 hx hby d_method_3_20 hZ hown (host := "") (Or.inl (w57 hw)) Via.refl e0 (S_w_STEP.ext O0.2) fun T1 X1 e1 => (zcallv X1 hx hby d_method_3_23 hZ hown (w25 hw) (w26 hw) (notFace_of_selects (args := #[]) (mvT hZ (w28 hw))) (w28 hw) (w27 hw) (w29 hw) (w2 hw) e1 E_b900 (c60_obey l hw [] ⟨S_w_PAUSE, S_w_RESUME, S_w_STEP, E_w_PAUSE, E_w_RESUME, E_w_STEP, F_w_PAUSE_ordinal, F_w_RESUME_ordinal, F_w_STEP_ordinal, S_w_arr0, A_w_arr0, A_w_arr0_0, A_w_arr0_2, A_w_arr0_1⟩ O0 (Nat.le_trans Z0 K0.1) b900 g_b900 E_b900 F_b900_left) (by decide) (by rw [hml]; rfl) 0 (Nat.le_of_eq rfl) (by decide) (by decide) (by decide) (by decide) pd_4 rfl (argsL := [(.ref w_STEP)]) (st := []) rfl fun T2 h2 v2 L2 e2 X2 q2 => ?_)))))))
  obtain ⟨rfl, N2q, K2q, E2_b900, F2_b900_left⟩ := q2
  have O2 := O0.keep K2q (allS g_b900 all0)
  have K2 := Keep.trans K0 K2q (allS (Or.inl (List.mem_of_getElem? (i := 0) rfl)) all0)
  have N2 := Fr.app N0 N2q
  show zEnds p e below s T2 (mkF m 26 #[rv b900, iv 1] []) _ _ _
  refine zgoto X2 hx hby d_method_3_26 48 (by decide) (by decide) ?_
  show zEnds p e below s T2 (mkF m 48 #[rv b900, iv 1] []) _ _ _
  exact zretV X2 hx hby d_method_3_48 hret hlk (by decide) (by decide) (by rw [e2]; exact ⟨rfl, N2, K2, E2_b900, F2_b900_left⟩)
set_option maxRecDepth 65536 in
set_option maxHeartbeats 40000000 in
theorem c63_next (l : Launch) {Z : State} {a0 : Array Value} (hw : ∀ d ∈ tables_1, d.before a0 Z = true) (ws : List Jvm.Cond) {w_PAUSE w_RESUME w_STEP w_arr0 : Addr} {cl_arr0 : Cell} {n0 : Nat} {h0 : Heap} (C : Ctx Z w_PAUSE w_RESUME w_STEP w_arr0 cl_arr0) (O0 : Old Z n0 h0) (Z0 : n0 ≤ h0.size)  : zCon l Z (⟨"heapglass/core/wire/AllowanceIsSpentPinLaw", "next", "(JI)J"⟩ : MethodName) method_2_code 3 (some .long) ws ({ frames := 0, cells := 0, slots := 0, locals := 0 } : Room) #[(.long 2), (.int 1)] h0 (zSame (some (.long 3)) h0) := by
  obtain ⟨S_w_PAUSE, S_w_RESUME, S_w_STEP, E_w_PAUSE, E_w_RESUME, E_w_STEP, F_w_PAUSE_ordinal, F_w_RESUME_ordinal, F_w_STEP_ordinal, S_w_arr0, A_w_arr0, A_w_arr0_0, A_w_arr0_2, A_w_arr0_1⟩ := C
  refine zenter (plainFor_of_name pn_2) (L0 := #[.val (.long 2), .second, iv 1]) (fun m => by first | rfl | simp [entryFrame, mkF, argsToLocals, Value.category, maxLocals]) ?_
  intro p e s m below meth c T0 hx hZ hby hml hown0 hnm hret hlk X0 e0
  have hown : s.vm.findClass "heapglass/core/wire/AllowanceIsSpentPinLaw" = some m.cls := hown0
  have K0 := Keep.refl h0 []
  have N0 := Fr.nil n0
  show zEnds p e below s T0 (mkF m 0 #[.val (.long 2), .second, iv 1] []) _ _ _
  refine ziloadN X0 hx hby d_method_2_0 rfl (zifYes X0 hx hby d_method_2_1 22 (by decide) (by decide) (by decide) (ziloadN X0 hx hby d_method_2_22 rfl (ziconst X0 hx hby d_method_2_23 (z := (1 : Int32)) rfl (zicmpNo X0 hx hby d_method_2_24 (by decide) (zlloadN X0 hx hby d_method_2_27 rfl (zldc2J X0 hx hby d_method_2_28 (-1 : Int64) hZ hown (w12 hw) (zlcmp X0 hx hby d_method_2_31 (1 : Int32) (by decide) (zifYes X0 hx hby d_method_2_32 39 (by decide) (by decide) (by decide) (zlloadN X0 hx hby d_method_2_39 rfl ?_)))))))))
  show zEnds p e below s T0 (mkF m 40 #[.val (.long 2), .second, iv 1] [(.long 2)]) _ _ _
  refine zlconst X0 hx hby d_method_2_40 (z := (1 : Int64)) rfl (zladd X0 hx hby d_method_2_41 (3 : Int64) (by decide) ?_)
  show zEnds p e below s T0 (mkF m 42 #[.val (.long 2), .second, iv 1] [(.long 3)]) _ _ _
  exact zretL X0 hx hby d_method_2_42 hret hlk (by decide) (by decide) ⟨rfl, e0, rfl⟩
set_option maxRecDepth 65536 in
set_option maxHeartbeats 40000000 in
theorem c65_isSpent (l : Launch) {Z : State} {a0 : Array Value} (hw : ∀ d ∈ tables_1, d.before a0 Z = true) (ws : List Jvm.Cond) {w_PAUSE w_RESUME w_STEP w_arr0 : Addr} {cl_arr0 : Cell} {n0 : Nat} {h0 : Heap} (C : Ctx Z w_PAUSE w_RESUME w_STEP w_arr0 cl_arr0) (O0 : Old Z n0 h0) (Z0 : n0 ≤ h0.size) (b900 : Addr) (g_b900 : n0 ≤ b900) (E_b900 : Exa Z h0 b900 "heapglass/core/wire/Allowance") (F_b900_left : Fld Z h0 b900 "heapglass/core/wire/Allowance" "left" "J" (.long 3)) : zCon l Z (⟨"heapglass/core/wire/Allowance", "isSpent", "()Z"⟩ : MethodName) prog_9_method_4_code 1 (some .boolean) ws ({ frames := 0, cells := 0, slots := 0, locals := 0 } : Room) #[(.ref b900)] h0 (zSame (some (.int 0)) h0) := by
  obtain ⟨S_w_PAUSE, S_w_RESUME, S_w_STEP, E_w_PAUSE, E_w_RESUME, E_w_STEP, F_w_PAUSE_ordinal, F_w_RESUME_ordinal, F_w_STEP_ordinal, S_w_arr0, A_w_arr0, A_w_arr0_0, A_w_arr0_2, A_w_arr0_1⟩ := C
  refine zenter (plainFor_of_name pn_0) (L0 := #[rv b900]) (fun m => by first | rfl | simp [entryFrame, mkF, argsToLocals, Value.category, maxLocals]) ?_
  intro p e s m below meth c T0 hx hZ hby hml hown0 hnm hret hlk X0 e0
  have hown : s.vm.findClass "heapglass/core/wire/Allowance" = some m.cls := hown0
  have K0 := Keep.refl h0 []
  have N0 := Fr.nil n0
  show zEnds p e below s T0 (mkF m 0 #[rv b900] []) _ _ _
  refine zaloadN X0 hx hby d_prog_9_method_4_0 rfl rfl (zgetfld X0 hx hby d_prog_9_method_4_1 hZ hown (host := "") (Or.inl (w10 hw)) Via.refl e0 F_b900_left fun T1 X1 e1 => (zlconst X1 hx hby d_prog_9_method_4_4 (z := (0 : Int64)) rfl (zlcmp X1 hx hby d_prog_9_method_4_5 (1 : Int32) (by decide) (zifYes X1 hx hby d_prog_9_method_4_6 13 (by decide) (by decide) (by decide) (ziconst X1 hx hby d_prog_9_method_4_13 (z := (0 : Int32)) rfl ?_)))))
  show zEnds p e below s T1 (mkF m 14 #[rv b900] [(.int 0)]) _ _ _
  exact zretZ X1 hx hby d_prog_9_method_4_14 hret hlk (by simp) rfl (by decide) (by decide) ⟨rfl, e1, rfl⟩
set_option maxRecDepth 65536 in
set_option maxHeartbeats 40000000 in
theorem c68_obey (l : Launch) {Z : State} {a0 : Array Value} (hw : ∀ d ∈ tables_1, d.before a0 Z = true) (ws : List Jvm.Cond) {w_PAUSE w_RESUME w_STEP w_arr0 : Addr} {cl_arr0 : Cell} {n0 : Nat} {h0 : Heap} (C : Ctx Z w_PAUSE w_RESUME w_STEP w_arr0 cl_arr0) (O0 : Old Z n0 h0) (Z0 : n0 ≤ h0.size) (b900 : Addr) (g_b900 : n0 ≤ b900) (E_b900 : Exa Z h0 b900 "heapglass/core/wire/Allowance") (F_b900_left : Fld Z h0 b900 "heapglass/core/wire/Allowance" "left" "J" (.long 2)) : zCon l Z (⟨"heapglass/core/wire/Allowance", "obey", "(Lheapglass/core/wire/Control;)V"⟩ : MethodName) prog_9_method_2_code 2 none ws ({ frames := 1, cells := 0, slots := 0, locals := 14 } : Room) #[(.ref b900), (.ref w_RESUME)] h0 (fun v h L => v = none ∧ Fr n0 L ∧ Keep h0 h [b900] ∧ Exa Z h b900 "heapglass/core/wire/Allowance" ∧ Fld Z h b900 "heapglass/core/wire/Allowance" "left" "J" (.long 9223372036854775807)) := by
  obtain ⟨S_w_PAUSE, S_w_RESUME, S_w_STEP, E_w_PAUSE, E_w_RESUME, E_w_STEP, F_w_PAUSE_ordinal, F_w_RESUME_ordinal, F_w_STEP_ordinal, S_w_arr0, A_w_arr0, A_w_arr0_0, A_w_arr0_2, A_w_arr0_1⟩ := C
  refine zenter (plainFor_of_name pn_0) (L0 := #[rv b900, rv w_RESUME]) (fun m => by first | rfl | simp [entryFrame, mkF, argsToLocals, Value.category, maxLocals]) ?_
  intro p e s m below meth c T0 hx hZ hby hml hown0 hnm hret hlk X0 e0
  have hown : s.vm.findClass "heapglass/core/wire/Allowance" = some m.cls := hown0
  have K0 := Keep.refl h0 [b900]
  have N0 := Fr.nil n0
  show zEnds p e below s T0 (mkF m 0 #[rv b900, rv w_RESUME] []) _ _ _
  refine zaloadN X0 hx hby d_prog_9_method_2_0 rfl rfl (zgetstat X0 hx hby d_prog_9_method_2_1 hZ hown (host := "") (Or.inl (w30 hw)) Via.refl e0 (S_w_arr0.ext O0.2) fun T1 X1 e1 => (zaloadN X1 hx hby d_prog_9_method_2_4 rfl rfl (zcallup X1 hx hby d_prog_9_method_2_5 hZ hown (w33 hw) (w34 hw) (w35 hw) (w37 hw) (w36 hw) (w39 hw) (w38 hw) e1 (E_w_RESUME.ext O0.2) (c37_ordinal l hw [] ⟨S_w_PAUSE, S_w_RESUME, S_w_STEP, E_w_PAUSE, E_w_RESUME, E_w_STEP, F_w_PAUSE_ordinal, F_w_RESUME_ordinal, F_w_STEP_ordinal, S_w_arr0, A_w_arr0, A_w_arr0_0, A_w_arr0_2, A_w_arr0_1⟩ O0 (Nat.le_trans Z0 K0.1) ) (by decide) (by rw [hml]; rfl) 2 (Nat.le_of_eq rfl) (by decide) (by decide) (by decide) (by decide) pd_2 rfl (argsL := []) (st := [(.ref w_arr0), (.ref b900)]) rfl (zpureK ⟨rfl, rfl⟩ fun T2 X2 e2 => ?_))))
  show zEnds p e below s T2 (mkF m 8 #[rv b900, rv w_RESUME] [(.int 2), (.ref w_arr0), (.ref b900)]) _ _ _
  refine zialoadC X2 hx hby d_prog_9_method_2_8 hZ e2 (A_w_arr0.ext O0.2) A_w_arr0_2 (ztswIn X2 hx hby d_prog_9_method_2_9 81 (by decide) rfl (by decide) (by decide) (zldc2J X2 hx hby d_prog_9_method_2_81 (9223372036854775807 : Int64) hZ hown (w9 hw) (zputfld X2 hx hby d_prog_9_method_2_84 hZ hown (host := "") (Or.inl (w10 hw)) Via.refl e2 F_b900_left E_b900 (Or.inl (w11 hw)) (w1 hw) (ty := .long) (by decide) rfl rfl fun T3 h3 X3 e3 W3 => ?_)))
  have F3_b900_left : Fld Z h3 b900 "heapglass/core/wire/Allowance" "left" "J" (.long 9223372036854775807) := F_b900_left.same W3
  have E3_b900 := E_b900.wr W3
  have O3 := O0.wr W3 g_b900
  have K3 := Keep.wr K0 W3 (Or.inl (List.mem_of_getElem? (i := 0) rfl))
  have N3 := Fr.snoc X3 N0 g_b900
  show zEnds p e below s T3 (mkF m 87 #[rv b900, rv w_RESUME] []) _ _ _
  exact zretV X3 hx hby d_prog_9_method_2_87 hret hlk (by decide) (by decide) (by rw [e3]; exact ⟨rfl, N3, K3, E3_b900, F3_b900_left⟩)
set_option maxRecDepth 65536 in
set_option maxHeartbeats 40000000 in
theorem c67_apply (l : Launch) {Z : State} {a0 : Array Value} (hw : ∀ d ∈ tables_1, d.before a0 Z = true) (ws : List Jvm.Cond) {w_PAUSE w_RESUME w_STEP w_arr0 : Addr} {cl_arr0 : Cell} {n0 : Nat} {h0 : Heap} (C : Ctx Z w_PAUSE w_RESUME w_STEP w_arr0 cl_arr0) (O0 : Old Z n0 h0) (Z0 : n0 ≤ h0.size) (b900 : Addr) (g_b900 : n0 ≤ b900) (E_b900 : Exa Z h0 b900 "heapglass/core/wire/Allowance") (F_b900_left : Fld Z h0 b900 "heapglass/core/wire/Allowance" "left" "J" (.long 2)) : zCon l Z (⟨"heapglass/core/wire/AllowanceIsSpentPinLaw", "apply", "(Lheapglass/core/wire/Allowance;I)V"⟩ : MethodName) method_3_code 2 none ws ({ frames := 2, cells := 0, slots := 0, locals := 27 } : Room) #[(.ref b900), (.int 2)] h0 (fun v h L => v = none ∧ Fr n0 L ∧ Keep h0 h [b900] ∧ Exa Z h b900 "heapglass/core/wire/Allowance" ∧ Fld Z h b900 "heapglass/core/wire/Allowance" "left" "J" (.long 9223372036854775807)) := by
  obtain ⟨S_w_PAUSE, S_w_RESUME, S_w_STEP, E_w_PAUSE, E_w_RESUME, E_w_STEP, F_w_PAUSE_ordinal, F_w_RESUME_ordinal, F_w_STEP_ordinal, S_w_arr0, A_w_arr0, A_w_arr0_0, A_w_arr0_2, A_w_arr0_1⟩ := C
  refine zenter (plainFor_of_name pn_2) (L0 := #[rv b900, iv 2]) (fun m => by first | rfl | simp [entryFrame, mkF, argsToLocals, Value.category, maxLocals]) ?_
  intro p e s m below meth c T0 hx hZ hby hml hown0 hnm hret hlk X0 e0
  have hown : s.vm.findClass "heapglass/core/wire/AllowanceIsSpentPinLaw" = some m.cls := hown0
  have K0 := Keep.refl h0 [b900]
  have N0 := Fr.nil n0
  show zEnds p e below s T0 (mkF m 0 #[rv b900, iv 2] []) _ _ _
  refine ziloadN X0 hx hby d_method_3_0 rfl (zifYes X0 hx hby d_method_3_1 14 (by decide) (by decide) (by decide) (ziloadN X0 hx hby d_method_3_14 rfl (ziconst X0 hx hby d_method_3_15 (z := (1 : Int32)) rfl (zicmpYes X0 hx hby d_method_3_16 29 (by decide) (by decide) (by decide) (ziloadN X0 hx hby d_method_3_29 rfl (ziconst X0 hx hby d_method_3_30 (z := (2 : Int32)) rfl (zicmpNo X0 hx hby d_method_3_31 (by decide) (zaloadN X0 hx hby d_method_3_34 rfl rfl (zgetstat X0 hx hby d_method_3_35 hZ hown (host := "") (Or.inl (w55 hw)) Via.refl e0 (S_w_RESUME.ext O0.2) fun T1 X1 e1 => ?_)))))))))
  show zEnds p e below s T1 (mkF m 38 #[rv b900, iv 2] [(.ref w_RESUME), (.ref b900)]) _ _ _
  refine zcallv X1 hx hby d_method_3_38 hZ hown (w25 hw) (w26 hw) (notFace_of_selects (args := #[]) (mvT hZ (w28 hw))) (w28 hw) (w27 hw) (w29 hw) (w2 hw) e1 E_b900 (c68_obey l hw [] ⟨S_w_PAUSE, S_w_RESUME, S_w_STEP, E_w_PAUSE, E_w_RESUME, E_w_STEP, F_w_PAUSE_ordinal, F_w_RESUME_ordinal, F_w_STEP_ordinal, S_w_arr0, A_w_arr0, A_w_arr0_0, A_w_arr0_2, A_w_arr0_1⟩ O0 (Nat.le_trans Z0 K0.1) b900 g_b900 E_b900 F_b900_left) (by decide) (by rw [hml]; rfl) 0 (Nat.le_of_eq rfl) (by decide) (by decide) (by decide) (by decide) pd_4 rfl (argsL := [(.ref w_RESUME)]) (st := []) rfl fun T2 h2 v2 L2 e2 X2 q2 => ?_
  obtain ⟨rfl, N2q, K2q, E2_b900, F2_b900_left⟩ := q2
  have O2 := O0.keep K2q (allS g_b900 all0)
  have K2 := Keep.trans K0 K2q (allS (Or.inl (List.mem_of_getElem? (i := 0) rfl)) all0)
  have N2 := Fr.app N0 N2q
  show zEnds p e below s T2 (mkF m 41 #[rv b900, iv 2] []) _ _ _
  refine zgoto X2 hx hby d_method_3_41 48 (by decide) (by decide) ?_
  show zEnds p e below s T2 (mkF m 48 #[rv b900, iv 2] []) _ _ _
  exact zretV X2 hx hby d_method_3_48 hret hlk (by decide) (by decide) (by rw [e2]; exact ⟨rfl, N2, K2, E2_b900, F2_b900_left⟩)
set_option maxRecDepth 65536 in
set_option maxHeartbeats 40000000 in
theorem c71_next (l : Launch) {Z : State} {a0 : Array Value} (hw : ∀ d ∈ tables_1, d.before a0 Z = true) (ws : List Jvm.Cond) {w_PAUSE w_RESUME w_STEP w_arr0 : Addr} {cl_arr0 : Cell} {n0 : Nat} {h0 : Heap} (C : Ctx Z w_PAUSE w_RESUME w_STEP w_arr0 cl_arr0) (O0 : Old Z n0 h0) (Z0 : n0 ≤ h0.size)  : zCon l Z (⟨"heapglass/core/wire/AllowanceIsSpentPinLaw", "next", "(JI)J"⟩ : MethodName) method_2_code 3 (some .long) ws ({ frames := 0, cells := 0, slots := 0, locals := 0 } : Room) #[(.long 2), (.int 2)] h0 (zSame (some (.long (-1))) h0) := by
  obtain ⟨S_w_PAUSE, S_w_RESUME, S_w_STEP, E_w_PAUSE, E_w_RESUME, E_w_STEP, F_w_PAUSE_ordinal, F_w_RESUME_ordinal, F_w_STEP_ordinal, S_w_arr0, A_w_arr0, A_w_arr0_0, A_w_arr0_2, A_w_arr0_1⟩ := C
  refine zenter (plainFor_of_name pn_2) (L0 := #[.val (.long 2), .second, iv 2]) (fun m => by first | rfl | simp [entryFrame, mkF, argsToLocals, Value.category, maxLocals]) ?_
  intro p e s m below meth c T0 hx hZ hby hml hown0 hnm hret hlk X0 e0
  have hown : s.vm.findClass "heapglass/core/wire/AllowanceIsSpentPinLaw" = some m.cls := hown0
  have K0 := Keep.refl h0 []
  have N0 := Fr.nil n0
  show zEnds p e below s T0 (mkF m 0 #[.val (.long 2), .second, iv 2] []) _ _ _
  refine ziloadN X0 hx hby d_method_2_0 rfl (zifYes X0 hx hby d_method_2_1 22 (by decide) (by decide) (by decide) (ziloadN X0 hx hby d_method_2_22 rfl (ziconst X0 hx hby d_method_2_23 (z := (1 : Int32)) rfl (zicmpYes X0 hx hby d_method_2_24 43 (by decide) (by decide) (by decide) (ziloadN X0 hx hby d_method_2_43 rfl (ziconst X0 hx hby d_method_2_44 (z := (2 : Int32)) rfl (zicmpNo X0 hx hby d_method_2_45 (by decide) (zldc2J X0 hx hby d_method_2_48 (-1 : Int64) hZ hown (w12 hw) ?_))))))))
  show zEnds p e below s T0 (mkF m 51 #[.val (.long 2), .second, iv 2] [(.long (-1))]) _ _ _
  exact zretL X0 hx hby d_method_2_51 hret hlk (by decide) (by decide) ⟨rfl, e0, rfl⟩
set_option maxRecDepth 65536 in
set_option maxHeartbeats 40000000 in
theorem c74_spend (l : Launch) {Z : State} {a0 : Array Value} (hw : ∀ d ∈ tables_1, d.before a0 Z = true) (ws : List Jvm.Cond) {w_PAUSE w_RESUME w_STEP w_arr0 : Addr} {cl_arr0 : Cell} {n0 : Nat} {h0 : Heap} (C : Ctx Z w_PAUSE w_RESUME w_STEP w_arr0 cl_arr0) (O0 : Old Z n0 h0) (Z0 : n0 ≤ h0.size) (b900 : Addr) (g_b900 : n0 ≤ b900) (E_b900 : Exa Z h0 b900 "heapglass/core/wire/Allowance") (F_b900_left : Fld Z h0 b900 "heapglass/core/wire/Allowance" "left" "J" (.long 2)) : zCon l Z (⟨"heapglass/core/wire/Allowance", "spend", "()V"⟩ : MethodName) prog_9_method_3_code 1 none ws ({ frames := 0, cells := 0, slots := 0, locals := 0 } : Room) #[(.ref b900)] h0 (fun v h L => v = none ∧ Fr n0 L ∧ Keep h0 h [b900] ∧ Exa Z h b900 "heapglass/core/wire/Allowance" ∧ Fld Z h b900 "heapglass/core/wire/Allowance" "left" "J" (.long 1)) := by
  obtain ⟨S_w_PAUSE, S_w_RESUME, S_w_STEP, E_w_PAUSE, E_w_RESUME, E_w_STEP, F_w_PAUSE_ordinal, F_w_RESUME_ordinal, F_w_STEP_ordinal, S_w_arr0, A_w_arr0, A_w_arr0_0, A_w_arr0_2, A_w_arr0_1⟩ := C
  refine zenter (plainFor_of_name pn_0) (L0 := #[rv b900]) (fun m => by first | rfl | simp [entryFrame, mkF, argsToLocals, Value.category, maxLocals]) ?_
  intro p e s m below meth c T0 hx hZ hby hml hown0 hnm hret hlk X0 e0
  have hown : s.vm.findClass "heapglass/core/wire/Allowance" = some m.cls := hown0
  have K0 := Keep.refl h0 [b900]
  have N0 := Fr.nil n0
  show zEnds p e below s T0 (mkF m 0 #[rv b900] []) _ _ _
  refine zaloadN X0 hx hby d_prog_9_method_3_0 rfl rfl (zgetfld X0 hx hby d_prog_9_method_3_1 hZ hown (host := "") (Or.inl (w10 hw)) Via.refl e0 F_b900_left fun T1 X1 e1 => (zlconst X1 hx hby d_prog_9_method_3_4 (z := (0 : Int64)) rfl (zlcmp X1 hx hby d_prog_9_method_3_5 (1 : Int32) (by decide) (zifNo X1 hx hby d_prog_9_method_3_6 (by decide) (zaloadN X1 hx hby d_prog_9_method_3_9 rfl rfl (zgetfld X1 hx hby d_prog_9_method_3_10 hZ hown (host := "") (Or.inl (w10 hw)) Via.refl e1 F_b900_left fun T2 X2 e2 => (zldc2J X2 hx hby d_prog_9_method_3_13 (9223372036854775807 : Int64) hZ hown (w9 hw) (zlcmp X2 hx hby d_prog_9_method_3_16 (-1 : Int32) (by decide) (zifNo X2 hx hby d_prog_9_method_3_17 (by decide) ?_)))))))))
  show zEnds p e below s T2 (mkF m 20 #[rv b900] []) _ _ _
  refine zaloadN X2 hx hby d_prog_9_method_3_20 rfl rfl (zdup X2 hx hby d_prog_9_method_3_21 rfl (zgetfld X2 hx hby d_prog_9_method_3_22 hZ hown (host := "") (Or.inl (w10 hw)) Via.refl e2 F_b900_left fun T3 X3 e3 => (zlconst X3 hx hby d_prog_9_method_3_25 (z := (1 : Int64)) rfl (zlsub X3 hx hby d_prog_9_method_3_26 (1 : Int64) (by decide) (zputfld X3 hx hby d_prog_9_method_3_27 hZ hown (host := "") (Or.inl (w10 hw)) Via.refl e3 F_b900_left E_b900 (Or.inl (w11 hw)) (w1 hw) (ty := .long) (by decide) rfl rfl fun T4 h4 X4 e4 W4 => ?_)))))
  have F4_b900_left : Fld Z h4 b900 "heapglass/core/wire/Allowance" "left" "J" (.long 1) := F_b900_left.same W4
  have E4_b900 := E_b900.wr W4
  have O4 := O0.wr W4 g_b900
  have K4 := Keep.wr K0 W4 (Or.inl (List.mem_of_getElem? (i := 0) rfl))
  have N4 := Fr.snoc X4 N0 g_b900
  show zEnds p e below s T4 (mkF m 30 #[rv b900] []) _ _ _
  exact zretV X4 hx hby d_prog_9_method_3_30 hret hlk (by decide) (by decide) (by rw [e4]; exact ⟨rfl, N4, K4, E4_b900, F4_b900_left⟩)
set_option maxRecDepth 65536 in
set_option maxHeartbeats 40000000 in
theorem c73_apply (l : Launch) {Z : State} {a0 : Array Value} (hw : ∀ d ∈ tables_1, d.before a0 Z = true) (ws : List Jvm.Cond) {w_PAUSE w_RESUME w_STEP w_arr0 : Addr} {cl_arr0 : Cell} {n0 : Nat} {h0 : Heap} (C : Ctx Z w_PAUSE w_RESUME w_STEP w_arr0 cl_arr0) (O0 : Old Z n0 h0) (Z0 : n0 ≤ h0.size) (b900 : Addr) (g_b900 : n0 ≤ b900) (E_b900 : Exa Z h0 b900 "heapglass/core/wire/Allowance") (F_b900_left : Fld Z h0 b900 "heapglass/core/wire/Allowance" "left" "J" (.long 2)) : zCon l Z (⟨"heapglass/core/wire/AllowanceIsSpentPinLaw", "apply", "(Lheapglass/core/wire/Allowance;I)V"⟩ : MethodName) method_3_code 2 none ws ({ frames := 1, cells := 0, slots := 0, locals := 12 } : Room) #[(.ref b900), (.int 3)] h0 (fun v h L => v = none ∧ Fr n0 L ∧ Keep h0 h [b900] ∧ Exa Z h b900 "heapglass/core/wire/Allowance" ∧ Fld Z h b900 "heapglass/core/wire/Allowance" "left" "J" (.long 1)) := by
  obtain ⟨S_w_PAUSE, S_w_RESUME, S_w_STEP, E_w_PAUSE, E_w_RESUME, E_w_STEP, F_w_PAUSE_ordinal, F_w_RESUME_ordinal, F_w_STEP_ordinal, S_w_arr0, A_w_arr0, A_w_arr0_0, A_w_arr0_2, A_w_arr0_1⟩ := C
  refine zenter (plainFor_of_name pn_2) (L0 := #[rv b900, iv 3]) (fun m => by first | rfl | simp [entryFrame, mkF, argsToLocals, Value.category, maxLocals]) ?_
  intro p e s m below meth c T0 hx hZ hby hml hown0 hnm hret hlk X0 e0
  have hown : s.vm.findClass "heapglass/core/wire/AllowanceIsSpentPinLaw" = some m.cls := hown0
  have K0 := Keep.refl h0 [b900]
  have N0 := Fr.nil n0
  show zEnds p e below s T0 (mkF m 0 #[rv b900, iv 3] []) _ _ _
  refine ziloadN X0 hx hby d_method_3_0 rfl (zifYes X0 hx hby d_method_3_1 14 (by decide) (by decide) (by decide) (ziloadN X0 hx hby d_method_3_14 rfl (ziconst X0 hx hby d_method_3_15 (z := (1 : Int32)) rfl (zicmpYes X0 hx hby d_method_3_16 29 (by decide) (by decide) (by decide) (ziloadN X0 hx hby d_method_3_29 rfl (ziconst X0 hx hby d_method_3_30 (z := (2 : Int32)) rfl (zicmpYes X0 hx hby d_method_3_31 44 (by decide) (by decide) (by decide) (zaloadN X0 hx hby d_method_3_44 rfl rfl (zcallv X0 hx hby d_method_3_45 hZ hown (w50 hw) (w51 hw) (notFace_of_selects (args := #[]) (mvT hZ (w53 hw))) (w53 hw) (w52 hw) (w54 hw) (w2 hw) e0 E_b900 (c74_spend l hw [] ⟨S_w_PAUSE, S_w_RESUME, S_w_STEP, E_w_PAUSE, E_w_RESUME, E_w_STEP, F_w_PAUSE_ordinal, F_w_RESUME_ordinal, F_w_STEP_ordinal, S_w_arr0, A_w_arr0, A_w_arr0_0, A_w_arr0_2, A_w_arr0_1⟩ O0 (Nat.le_trans Z0 K0.1) b900 g_b900 E_b900 F_b900_left) (by decide) (by rw [hml]; rfl) 0 (Nat.le_of_eq rfl) (by decide) (by decide) (by decide) (by decide) pd_0 rfl (argsL := []) (st := []) rfl fun T1 h1 v1 L1 e1 X1 q1 => ?_)))))))))
  obtain ⟨rfl, N1q, K1q, E1_b900, F1_b900_left⟩ := q1
  have O1 := O0.keep K1q (allS g_b900 all0)
  have K1 := Keep.trans K0 K1q (allS (Or.inl (List.mem_of_getElem? (i := 0) rfl)) all0)
  have N1 := Fr.app N0 N1q
  show zEnds p e below s T1 (mkF m 48 #[rv b900, iv 3] []) _ _ _
  exact zretV X1 hx hby d_method_3_48 hret hlk (by decide) (by decide) (by rw [e1]; exact ⟨rfl, N1, K1, E1_b900, F1_b900_left⟩)
set_option maxRecDepth 65536 in
set_option maxHeartbeats 40000000 in
theorem c77_next (l : Launch) {Z : State} {a0 : Array Value} (hw : ∀ d ∈ tables_1, d.before a0 Z = true) (ws : List Jvm.Cond) {w_PAUSE w_RESUME w_STEP w_arr0 : Addr} {cl_arr0 : Cell} {n0 : Nat} {h0 : Heap} (C : Ctx Z w_PAUSE w_RESUME w_STEP w_arr0 cl_arr0) (O0 : Old Z n0 h0) (Z0 : n0 ≤ h0.size)  : zCon l Z (⟨"heapglass/core/wire/AllowanceIsSpentPinLaw", "next", "(JI)J"⟩ : MethodName) method_2_code 3 (some .long) ws ({ frames := 0, cells := 0, slots := 0, locals := 0 } : Room) #[(.long 2), (.int 3)] h0 (zSame (some (.long 1)) h0) := by
  obtain ⟨S_w_PAUSE, S_w_RESUME, S_w_STEP, E_w_PAUSE, E_w_RESUME, E_w_STEP, F_w_PAUSE_ordinal, F_w_RESUME_ordinal, F_w_STEP_ordinal, S_w_arr0, A_w_arr0, A_w_arr0_0, A_w_arr0_2, A_w_arr0_1⟩ := C
  refine zenter (plainFor_of_name pn_2) (L0 := #[.val (.long 2), .second, iv 3]) (fun m => by first | rfl | simp [entryFrame, mkF, argsToLocals, Value.category, maxLocals]) ?_
  intro p e s m below meth c T0 hx hZ hby hml hown0 hnm hret hlk X0 e0
  have hown : s.vm.findClass "heapglass/core/wire/AllowanceIsSpentPinLaw" = some m.cls := hown0
  have K0 := Keep.refl h0 []
  have N0 := Fr.nil n0
  show zEnds p e below s T0 (mkF m 0 #[.val (.long 2), .second, iv 3] []) _ _ _
  refine ziloadN X0 hx hby d_method_2_0 rfl (zifYes X0 hx hby d_method_2_1 22 (by decide) (by decide) (by decide) (ziloadN X0 hx hby d_method_2_22 rfl (ziconst X0 hx hby d_method_2_23 (z := (1 : Int32)) rfl (zicmpYes X0 hx hby d_method_2_24 43 (by decide) (by decide) (by decide) (ziloadN X0 hx hby d_method_2_43 rfl (ziconst X0 hx hby d_method_2_44 (z := (2 : Int32)) rfl (zicmpYes X0 hx hby d_method_2_45 52 (by decide) (by decide) (by decide) (zlloadN X0 hx hby d_method_2_52 rfl (zlconst X0 hx hby d_method_2_53 (z := (0 : Int64)) rfl ?_)))))))))
  show zEnds p e below s T0 (mkF m 54 #[.val (.long 2), .second, iv 3] [(.long 0), (.long 2)]) _ _ _
  refine zlcmp X0 hx hby d_method_2_54 (1 : Int32) (by decide) (zifNo X0 hx hby d_method_2_55 (by decide) (zlloadN X0 hx hby d_method_2_58 rfl (zlconst X0 hx hby d_method_2_59 (z := (1 : Int64)) rfl (zlsub X0 hx hby d_method_2_60 (1 : Int64) (by decide) (zgoto X0 hx hby d_method_2_61 65 (by decide) (by decide) ?_)))))
  show zEnds p e below s T0 (mkF m 65 #[.val (.long 2), .second, iv 3] [(.long 1)]) _ _ _
  exact zretL X0 hx hby d_method_2_65 hret hlk (by decide) (by decide) ⟨rfl, e0, rfl⟩
set_option maxRecDepth 65536 in
set_option maxHeartbeats 40000000 in
theorem stg_3_4 {p : Program} {l : Launch} {e : Env} {s : State} {m : MethodId} {args : Array Value} {below : List Frame} {meth : Method} {c : Code} {T0 : State} {locs : List Loc} {Z : State} {a0 : Array Value} {h0 : Heap} {n0 : Nat} {w_PAUSE w_RESUME w_STEP w_arr0 : Addr} {cl_arr0 : Cell} {b1 : Addr} 
    (X0 : Stand p l e room_1 s m args below meth c T0 locs 1 1) (hx : p.tables.exec = Jvm.exec) (hZ : Z.Warmed39 s.vm) (hw : ∀ d ∈ tables_1, d.before a0 Z = true) (hby : c.code = code) (hml : c.maxLocals = 9) (hown : s.vm.findClass "heapglass/core/wire/AllowanceIsSpentPinLaw" = some m.cls) (hret : meth.sig.returnType = (some .boolean)) (hlk : meth.locks = false) (C : Ctx Z w_PAUSE w_RESUME w_STEP w_arr0 cl_arr0) (e0 : T0.heap = h0) (O0 : Old Z n0 h0) (N0 : Fr n0 locs) (g_b1 : n0 ≤ b1) (E_b1 : Exa Z h0 b1 "heapglass/core/wire/Allowance") (F_b1_left : Fld Z h0 b1 "heapglass/core/wire/Allowance" "left" "J" (.long 2)) {u0 u1 u2 u3 u4 : Int32} (k4 : u4 = (0 : Int32) ∨ u4 = (1 : Int32) ∨ u4 = (2 : Int32) ∨ u4 = (3 : Int32)) :
    zEnds p e below s T0 (mkF m 203 #[iv u0, iv u1, iv u2, iv u3, iv u4, rv b1, .val (.long 2), .second, iv 1] []) room_1.cells room_1.slots (fun v h L => v = some (.int (1 : Int32)) ∧ Fr n0 L) := by
  obtain ⟨S_w_PAUSE, S_w_RESUME, S_w_STEP, E_w_PAUSE, E_w_RESUME, E_w_STEP, F_w_PAUSE_ordinal, F_w_RESUME_ordinal, F_w_STEP_ordinal, S_w_arr0, A_w_arr0, A_w_arr0_0, A_w_arr0_2, A_w_arr0_1⟩ := C
  have K0 := Keep.refl h0 [b1]
  have Z0 : n0 ≤ h0.size := by rw [← O0.1]; exact O0.2.1
  show zEnds p e below s T0 (mkF m 203 #[iv u0, iv u1, iv u2, iv u3, iv u4, rv b1, .val (.long 2), .second, iv 1] []) _ _ _
  rcases k4 with rfl | rfl | rfl | rfl
  · show zEnds p e below s T0 (mkF m 203 #[iv u0, iv u1, iv u2, iv u3, iv 0, rv b1, .val (.long 2), .second, iv 1] []) _ _ _
    refine zaload X0 hx hby at_203 rfl rfl (ziload X0 hx hby at_205 rfl (zcalls X0 hx hby at_207 hZ hown (w18 hw) (w19 hw) (w20 hw) (w21 hw) e0 (c51_apply l hw [] ⟨S_w_PAUSE, S_w_RESUME, S_w_STEP, E_w_PAUSE, E_w_RESUME, E_w_STEP, F_w_PAUSE_ordinal, F_w_RESUME_ordinal, F_w_STEP_ordinal, S_w_arr0, A_w_arr0, A_w_arr0_0, A_w_arr0_2, A_w_arr0_1⟩ O0 (Nat.le_trans Z0 K0.1) b1 g_b1 E_b1 F_b1_left) (by decide) (by rw [hml]; rfl) 0 (Nat.le_of_eq rfl) (by decide) (by decide) (by decide) (by decide) pd_5 rfl (argsL := [(.ref b1), (.int 0)]) (st := []) rfl fun T1 h1 v1 L1 e1 X1 q1 => ?_))
    obtain ⟨rfl, N1q, K1q, E1_b1, F1_b1_left⟩ := q1
    have O1 := O0.keep K1q (allS g_b1 all0)
    have K1 := Keep.trans K0 K1q (allS (Or.inl (List.mem_of_getElem? (i := 0) rfl)) all0)
    have N1 := Fr.app N0 N1q
    show zEnds p e below s T1 (mkF m 210 #[iv u0, iv u1, iv u2, iv u3, iv 0, rv b1, .val (.long 2), .second, iv 1] []) _ _ _
    refine zlload X1 hx hby at_210 rfl (ziload X1 hx hby at_212 rfl (zcalls X1 hx hby at_214 hZ hown (w46 hw) (w47 hw) (w20 hw) (w48 hw) e1 (c57_next l hw [] ⟨S_w_PAUSE, S_w_RESUME, S_w_STEP, E_w_PAUSE, E_w_RESUME, E_w_STEP, F_w_PAUSE_ordinal, F_w_RESUME_ordinal, F_w_STEP_ordinal, S_w_arr0, A_w_arr0, A_w_arr0_0, A_w_arr0_2, A_w_arr0_1⟩ O1 (Nat.le_trans Z0 K1.1) ) (by decide) (by rw [hml]; rfl) 0 (Nat.le_of_eq rfl) (by decide) (by decide) (by decide) (by decide) pd_6 rfl (argsL := [(.long 2), (.int 0)]) (st := []) rfl (zpureK ⟨rfl, rfl⟩ fun T2 X2 e2 => ?_)))
    show zEnds p e below s T2 (mkF m 217 #[iv u0, iv u1, iv u2, iv u3, iv 0, rv b1, .val (.long 2), .second, iv 1] [(.long 1)]) _ _ _
    refine zlstore X2 hx hby at_217 (L' := #[iv u0, iv u1, iv u2, iv u3, iv 0, rv b1, .val (.long 1), .second, iv 1]) rfl (ziload X2 hx hby at_219 rfl (zifNo X2 hx hby at_221 (by decide) (zaload X2 hx hby at_224 rfl rfl (zcallv X2 hx hby at_226 hZ hown (w13 hw) (w14 hw) (notFace_of_selects (args := #[]) (mvT hZ (w16 hw))) (w16 hw) (w15 hw) (w17 hw) (w2 hw) e2 E1_b1 (c15_isSpent l hw [] ⟨S_w_PAUSE, S_w_RESUME, S_w_STEP, E_w_PAUSE, E_w_RESUME, E_w_STEP, F_w_PAUSE_ordinal, F_w_RESUME_ordinal, F_w_STEP_ordinal, S_w_arr0, A_w_arr0, A_w_arr0_0, A_w_arr0_2, A_w_arr0_1⟩ O1 (Nat.le_trans Z0 K1.1) b1 g_b1 E1_b1 F1_b1_left) (by decide) (by rw [hml]; rfl) 0 (Nat.le_of_eq rfl) (by decide) (by decide) (by decide) (by decide) pd_1 rfl (argsL := []) (st := []) rfl (zpureK ⟨rfl, rfl⟩ fun T3 X3 e3 => ?_)))))
    show zEnds p e below s T3 (mkF m 229 #[iv u0, iv u1, iv u2, iv u3, iv 0, rv b1, .val (.long 1), .second, iv 1] [(.int 0)]) _ _ _
    refine zlload X3 hx hby at_229 rfl (zlconst X3 hx hby at_231 (z := (0 : Int64)) rfl (zlcmp X3 hx hby at_232 (1 : Int32) (by decide) (zifYes X3 hx hby at_233 240 (by decide) (by decide) (by decide) (ziconst X3 hx hby at_240 (z := (0 : Int32)) rfl (zicmpNo X3 hx hby at_241 (by decide) (ziconst X3 hx hby at_244 (z := (1 : Int32)) rfl (zgoto X3 hx hby at_245 249 (by decide) (by decide) (zistore X3 hx hby at_249 (L' := #[iv u0, iv u1, iv u2, iv u3, iv 0, rv b1, .val (.long 1), .second, iv 1]) rfl (ziload X3 hx hby at_251 rfl ?_)))))))))
    show zEnds p e below s T3 (mkF m 253 #[iv u0, iv u1, iv u2, iv u3, iv 0, rv b1, .val (.long 1), .second, iv 1] [(.int 1)]) _ _ _
    exact zretZ X3 hx hby at_253 hret hlk (by simp) rfl (by decide) (by decide) ⟨rfl, N1⟩
  · show zEnds p e below s T0 (mkF m 203 #[iv u0, iv u1, iv u2, iv u3, iv 1, rv b1, .val (.long 2), .second, iv 1] []) _ _ _
    refine zaload X0 hx hby at_203 rfl rfl (ziload X0 hx hby at_205 rfl (zcalls X0 hx hby at_207 hZ hown (w18 hw) (w19 hw) (w20 hw) (w21 hw) e0 (c59_apply l hw [] ⟨S_w_PAUSE, S_w_RESUME, S_w_STEP, E_w_PAUSE, E_w_RESUME, E_w_STEP, F_w_PAUSE_ordinal, F_w_RESUME_ordinal, F_w_STEP_ordinal, S_w_arr0, A_w_arr0, A_w_arr0_0, A_w_arr0_2, A_w_arr0_1⟩ O0 (Nat.le_trans Z0 K0.1) b1 g_b1 E_b1 F_b1_left) (by decide) (by rw [hml]; rfl) 0 (Nat.le_of_eq rfl) (by decide) (by decide) (by decide) (by decide) pd_5 rfl (argsL := [(.ref b1), (.int 1)]) (st := []) rfl fun T4 h4 v4 L4 e4 X4 q4 => ?_))
    obtain ⟨rfl, N4q, K4q, E4_b1, F4_b1_left⟩ := q4
    have O4 := O0.keep K4q (allS g_b1 all0)
    have K4 := Keep.trans K0 K4q (allS (Or.inl (List.mem_of_getElem? (i := 0) rfl)) all0)
    have N4 := Fr.app N0 N4q
    show zEnds p e below s T4 (mkF m 210 #[iv u0, iv u1, iv u2, iv u3, iv 1, rv b1, .val (.long 2), .second, iv 1] []) _ _ _
    refine zlload X4 hx hby at_210 rfl (ziload X4 hx hby at_212 rfl (zcalls X4 hx hby at_214 hZ hown (w46 hw) (w47 hw) (w20 hw) (w48 hw) e4 (c63_next l hw [] ⟨S_w_PAUSE, S_w_RESUME, S_w_STEP, E_w_PAUSE, E_w_RESUME, E_w_STEP, F_w_PAUSE_ordinal, F_w_RESUME_ordinal, F_w_STEP_ordinal, S_w_arr0, A_w_arr0, A_w_arr0_0, A_w_arr0_2, A_w_arr0_1⟩ O4 (Nat.le_trans Z0 K4.1) ) (by decide) (by rw [hml]; rfl) 0 (Nat.le_of_eq rfl) (by decide) (by decide) (by decide) (by decide) pd_6 rfl (argsL := [(.long 2), (.int 1)]) (st := []) rfl (zpureK ⟨rfl, rfl⟩ fun T5 X5 e5 => ?_)))
    show zEnds p e below s T5 (mkF m 217 #[iv u0, iv u1, iv u2, iv u3, iv 1, rv b1, .val (.long 2), .second, iv 1] [(.long 3)]) _ _ _
    refine zlstore X5 hx hby at_217 (L' := #[iv u0, iv u1, iv u2, iv u3, iv 1, rv b1, .val (.long 3), .second, iv 1]) rfl (ziload X5 hx hby at_219 rfl (zifNo X5 hx hby at_221 (by decide) (zaload X5 hx hby at_224 rfl rfl (zcallv X5 hx hby at_226 hZ hown (w13 hw) (w14 hw) (notFace_of_selects (args := #[]) (mvT hZ (w16 hw))) (w16 hw) (w15 hw) (w17 hw) (w2 hw) e5 E4_b1 (c65_isSpent l hw [] ⟨S_w_PAUSE, S_w_RESUME, S_w_STEP, E_w_PAUSE, E_w_RESUME, E_w_STEP, F_w_PAUSE_ordinal, F_w_RESUME_ordinal, F_w_STEP_ordinal, S_w_arr0, A_w_arr0, A_w_arr0_0, A_w_arr0_2, A_w_arr0_1⟩ O4 (Nat.le_trans Z0 K4.1) b1 g_b1 E4_b1 F4_b1_left) (by decide) (by rw [hml]; rfl) 0 (Nat.le_of_eq rfl) (by decide) (by decide) (by decide) (by decide) pd_1 rfl (argsL := []) (st := []) rfl (zpureK ⟨rfl, rfl⟩ fun T6 X6 e6 => ?_)))))
    show zEnds p e below s T6 (mkF m 229 #[iv u0, iv u1, iv u2, iv u3, iv 1, rv b1, .val (.long 3), .second, iv 1] [(.int 0)]) _ _ _
    refine zlload X6 hx hby at_229 rfl (zlconst X6 hx hby at_231 (z := (0 : Int64)) rfl (zlcmp X6 hx hby at_232 (1 : Int32) (by decide) (zifYes X6 hx hby at_233 240 (by decide) (by decide) (by decide) (ziconst X6 hx hby at_240 (z := (0 : Int32)) rfl (zicmpNo X6 hx hby at_241 (by decide) (ziconst X6 hx hby at_244 (z := (1 : Int32)) rfl (zgoto X6 hx hby at_245 249 (by decide) (by decide) (zistore X6 hx hby at_249 (L' := #[iv u0, iv u1, iv u2, iv u3, iv 1, rv b1, .val (.long 3), .second, iv 1]) rfl (ziload X6 hx hby at_251 rfl ?_)))))))))
    show zEnds p e below s T6 (mkF m 253 #[iv u0, iv u1, iv u2, iv u3, iv 1, rv b1, .val (.long 3), .second, iv 1] [(.int 1)]) _ _ _
    exact zretZ X6 hx hby at_253 hret hlk (by simp) rfl (by decide) (by decide) ⟨rfl, N4⟩
  · show zEnds p e below s T0 (mkF m 203 #[iv u0, iv u1, iv u2, iv u3, iv 2, rv b1, .val (.long 2), .second, iv 1] []) _ _ _
    refine zaload X0 hx hby at_203 rfl rfl (ziload X0 hx hby at_205 rfl (zcalls X0 hx hby at_207 hZ hown (w18 hw) (w19 hw) (w20 hw) (w21 hw) e0 (c67_apply l hw [] ⟨S_w_PAUSE, S_w_RESUME, S_w_STEP, E_w_PAUSE, E_w_RESUME, E_w_STEP, F_w_PAUSE_ordinal, F_w_RESUME_ordinal, F_w_STEP_ordinal, S_w_arr0, A_w_arr0, A_w_arr0_0, A_w_arr0_2, A_w_arr0_1⟩ O0 (Nat.le_trans Z0 K0.1) b1 g_b1 E_b1 F_b1_left) (by decide) (by rw [hml]; rfl) 0 (Nat.le_of_eq rfl) (by decide) (by decide) (by decide) (by decide) pd_5 rfl (argsL := [(.ref b1), (.int 2)]) (st := []) rfl fun T7 h7 v7 L7 e7 X7 q7 => ?_))
    obtain ⟨rfl, N7q, K7q, E7_b1, F7_b1_left⟩ := q7
    have O7 := O0.keep K7q (allS g_b1 all0)
    have K7 := Keep.trans K0 K7q (allS (Or.inl (List.mem_of_getElem? (i := 0) rfl)) all0)
    have N7 := Fr.app N0 N7q
    show zEnds p e below s T7 (mkF m 210 #[iv u0, iv u1, iv u2, iv u3, iv 2, rv b1, .val (.long 2), .second, iv 1] []) _ _ _
    refine zlload X7 hx hby at_210 rfl (ziload X7 hx hby at_212 rfl (zcalls X7 hx hby at_214 hZ hown (w46 hw) (w47 hw) (w20 hw) (w48 hw) e7 (c71_next l hw [] ⟨S_w_PAUSE, S_w_RESUME, S_w_STEP, E_w_PAUSE, E_w_RESUME, E_w_STEP, F_w_PAUSE_ordinal, F_w_RESUME_ordinal, F_w_STEP_ordinal, S_w_arr0, A_w_arr0, A_w_arr0_0, A_w_arr0_2, A_w_arr0_1⟩ O7 (Nat.le_trans Z0 K7.1) ) (by decide) (by rw [hml]; rfl) 0 (Nat.le_of_eq rfl) (by decide) (by decide) (by decide) (by decide) pd_6 rfl (argsL := [(.long 2), (.int 2)]) (st := []) rfl (zpureK ⟨rfl, rfl⟩ fun T8 X8 e8 => ?_)))
    show zEnds p e below s T8 (mkF m 217 #[iv u0, iv u1, iv u2, iv u3, iv 2, rv b1, .val (.long 2), .second, iv 1] [(.long (-1))]) _ _ _
    refine zlstore X8 hx hby at_217 (L' := #[iv u0, iv u1, iv u2, iv u3, iv 2, rv b1, .val (.long (-1)), .second, iv 1]) rfl (ziload X8 hx hby at_219 rfl (zifNo X8 hx hby at_221 (by decide) (zaload X8 hx hby at_224 rfl rfl (zcallv X8 hx hby at_226 hZ hown (w13 hw) (w14 hw) (notFace_of_selects (args := #[]) (mvT hZ (w16 hw))) (w16 hw) (w15 hw) (w17 hw) (w2 hw) e8 E7_b1 (c3_isSpent l hw [] ⟨S_w_PAUSE, S_w_RESUME, S_w_STEP, E_w_PAUSE, E_w_RESUME, E_w_STEP, F_w_PAUSE_ordinal, F_w_RESUME_ordinal, F_w_STEP_ordinal, S_w_arr0, A_w_arr0, A_w_arr0_0, A_w_arr0_2, A_w_arr0_1⟩ O7 (Nat.le_trans Z0 K7.1) b1 g_b1 E7_b1 F7_b1_left) (by decide) (by rw [hml]; rfl) 0 (Nat.le_of_eq rfl) (by decide) (by decide) (by decide) (by decide) pd_1 rfl (argsL := []) (st := []) rfl (zpureK ⟨rfl, rfl⟩ fun T9 X9 e9 => ?_)))))
    show zEnds p e below s T9 (mkF m 229 #[iv u0, iv u1, iv u2, iv u3, iv 2, rv b1, .val (.long (-1)), .second, iv 1] [(.int 0)]) _ _ _
    refine zlload X9 hx hby at_229 rfl (zlconst X9 hx hby at_231 (z := (0 : Int64)) rfl (zlcmp X9 hx hby at_232 (-1 : Int32) (by decide) (zifYes X9 hx hby at_233 240 (by decide) (by decide) (by decide) (ziconst X9 hx hby at_240 (z := (0 : Int32)) rfl (zicmpNo X9 hx hby at_241 (by decide) (ziconst X9 hx hby at_244 (z := (1 : Int32)) rfl (zgoto X9 hx hby at_245 249 (by decide) (by decide) (zistore X9 hx hby at_249 (L' := #[iv u0, iv u1, iv u2, iv u3, iv 2, rv b1, .val (.long (-1)), .second, iv 1]) rfl (ziload X9 hx hby at_251 rfl ?_)))))))))
    show zEnds p e below s T9 (mkF m 253 #[iv u0, iv u1, iv u2, iv u3, iv 2, rv b1, .val (.long (-1)), .second, iv 1] [(.int 1)]) _ _ _
    exact zretZ X9 hx hby at_253 hret hlk (by simp) rfl (by decide) (by decide) ⟨rfl, N7⟩
  · show zEnds p e below s T0 (mkF m 203 #[iv u0, iv u1, iv u2, iv u3, iv 3, rv b1, .val (.long 2), .second, iv 1] []) _ _ _
    refine zaload X0 hx hby at_203 rfl rfl (ziload X0 hx hby at_205 rfl (zcalls X0 hx hby at_207 hZ hown (w18 hw) (w19 hw) (w20 hw) (w21 hw) e0 (c73_apply l hw [] ⟨S_w_PAUSE, S_w_RESUME, S_w_STEP, E_w_PAUSE, E_w_RESUME, E_w_STEP, F_w_PAUSE_ordinal, F_w_RESUME_ordinal, F_w_STEP_ordinal, S_w_arr0, A_w_arr0, A_w_arr0_0, A_w_arr0_2, A_w_arr0_1⟩ O0 (Nat.le_trans Z0 K0.1) b1 g_b1 E_b1 F_b1_left) (by decide) (by rw [hml]; rfl) 0 (Nat.le_of_eq rfl) (by decide) (by decide) (by decide) (by decide) pd_5 rfl (argsL := [(.ref b1), (.int 3)]) (st := []) rfl fun T10 h10 v10 L10 e10 X10 q10 => ?_))
    obtain ⟨rfl, N10q, K10q, E10_b1, F10_b1_left⟩ := q10
    have O10 := O0.keep K10q (allS g_b1 all0)
    have K10 := Keep.trans K0 K10q (allS (Or.inl (List.mem_of_getElem? (i := 0) rfl)) all0)
    have N10 := Fr.app N0 N10q
    show zEnds p e below s T10 (mkF m 210 #[iv u0, iv u1, iv u2, iv u3, iv 3, rv b1, .val (.long 2), .second, iv 1] []) _ _ _
    refine zlload X10 hx hby at_210 rfl (ziload X10 hx hby at_212 rfl (zcalls X10 hx hby at_214 hZ hown (w46 hw) (w47 hw) (w20 hw) (w48 hw) e10 (c77_next l hw [] ⟨S_w_PAUSE, S_w_RESUME, S_w_STEP, E_w_PAUSE, E_w_RESUME, E_w_STEP, F_w_PAUSE_ordinal, F_w_RESUME_ordinal, F_w_STEP_ordinal, S_w_arr0, A_w_arr0, A_w_arr0_0, A_w_arr0_2, A_w_arr0_1⟩ O10 (Nat.le_trans Z0 K10.1) ) (by decide) (by rw [hml]; rfl) 0 (Nat.le_of_eq rfl) (by decide) (by decide) (by decide) (by decide) pd_6 rfl (argsL := [(.long 2), (.int 3)]) (st := []) rfl (zpureK ⟨rfl, rfl⟩ fun T11 X11 e11 => ?_)))
    show zEnds p e below s T11 (mkF m 217 #[iv u0, iv u1, iv u2, iv u3, iv 3, rv b1, .val (.long 2), .second, iv 1] [(.long 1)]) _ _ _
    refine zlstore X11 hx hby at_217 (L' := #[iv u0, iv u1, iv u2, iv u3, iv 3, rv b1, .val (.long 1), .second, iv 1]) rfl (ziload X11 hx hby at_219 rfl (zifNo X11 hx hby at_221 (by decide) (zaload X11 hx hby at_224 rfl rfl (zcallv X11 hx hby at_226 hZ hown (w13 hw) (w14 hw) (notFace_of_selects (args := #[]) (mvT hZ (w16 hw))) (w16 hw) (w15 hw) (w17 hw) (w2 hw) e11 E10_b1 (c15_isSpent l hw [] ⟨S_w_PAUSE, S_w_RESUME, S_w_STEP, E_w_PAUSE, E_w_RESUME, E_w_STEP, F_w_PAUSE_ordinal, F_w_RESUME_ordinal, F_w_STEP_ordinal, S_w_arr0, A_w_arr0, A_w_arr0_0, A_w_arr0_2, A_w_arr0_1⟩ O10 (Nat.le_trans Z0 K10.1) b1 g_b1 E10_b1 F10_b1_left) (by decide) (by rw [hml]; rfl) 0 (Nat.le_of_eq rfl) (by decide) (by decide) (by decide) (by decide) pd_1 rfl (argsL := []) (st := []) rfl (zpureK ⟨rfl, rfl⟩ fun T12 X12 e12 => ?_)))))
    show zEnds p e below s T12 (mkF m 229 #[iv u0, iv u1, iv u2, iv u3, iv 3, rv b1, .val (.long 1), .second, iv 1] [(.int 0)]) _ _ _
    refine zlload X12 hx hby at_229 rfl (zlconst X12 hx hby at_231 (z := (0 : Int64)) rfl (zlcmp X12 hx hby at_232 (1 : Int32) (by decide) (zifYes X12 hx hby at_233 240 (by decide) (by decide) (by decide) (ziconst X12 hx hby at_240 (z := (0 : Int32)) rfl (zicmpNo X12 hx hby at_241 (by decide) (ziconst X12 hx hby at_244 (z := (1 : Int32)) rfl (zgoto X12 hx hby at_245 249 (by decide) (by decide) (zistore X12 hx hby at_249 (L' := #[iv u0, iv u1, iv u2, iv u3, iv 3, rv b1, .val (.long 1), .second, iv 1]) rfl (ziload X12 hx hby at_251 rfl ?_)))))))))
    show zEnds p e below s T12 (mkF m 253 #[iv u0, iv u1, iv u2, iv u3, iv 3, rv b1, .val (.long 1), .second, iv 1] [(.int 1)]) _ _ _
    exact zretZ X12 hx hby at_253 hret hlk (by simp) rfl (by decide) (by decide) ⟨rfl, N10⟩
set_option maxRecDepth 65536 in
set_option maxHeartbeats 40000000 in
theorem c80_obey (l : Launch) {Z : State} {a0 : Array Value} (hw : ∀ d ∈ tables_1, d.before a0 Z = true) (ws : List Jvm.Cond) {w_PAUSE w_RESUME w_STEP w_arr0 : Addr} {cl_arr0 : Cell} {n0 : Nat} {h0 : Heap} (C : Ctx Z w_PAUSE w_RESUME w_STEP w_arr0 cl_arr0) (O0 : Old Z n0 h0) (Z0 : n0 ≤ h0.size) (b900 : Addr) (g_b900 : n0 ≤ b900) (E_b900 : Exa Z h0 b900 "heapglass/core/wire/Allowance") (F_b900_left : Fld Z h0 b900 "heapglass/core/wire/Allowance" "left" "J" (.long 9223372036854775807)) : zCon l Z (⟨"heapglass/core/wire/Allowance", "obey", "(Lheapglass/core/wire/Control;)V"⟩ : MethodName) prog_9_method_2_code 2 none ws ({ frames := 1, cells := 0, slots := 0, locals := 14 } : Room) #[(.ref b900), (.ref w_STEP)] h0 (fun v h L => v = none ∧ Fr n0 L ∧ Keep h0 h [b900] ∧ Exa Z h b900 "heapglass/core/wire/Allowance" ∧ Fld Z h b900 "heapglass/core/wire/Allowance" "left" "J" (.long 1)) := by
  obtain ⟨S_w_PAUSE, S_w_RESUME, S_w_STEP, E_w_PAUSE, E_w_RESUME, E_w_STEP, F_w_PAUSE_ordinal, F_w_RESUME_ordinal, F_w_STEP_ordinal, S_w_arr0, A_w_arr0, A_w_arr0_0, A_w_arr0_2, A_w_arr0_1⟩ := C
  refine zenter (plainFor_of_name pn_0) (L0 := #[rv b900, rv w_STEP]) (fun m => by first | rfl | simp [entryFrame, mkF, argsToLocals, Value.category, maxLocals]) ?_
  intro p e s m below meth c T0 hx hZ hby hml hown0 hnm hret hlk X0 e0
  have hown : s.vm.findClass "heapglass/core/wire/Allowance" = some m.cls := hown0
  have K0 := Keep.refl h0 [b900]
  have N0 := Fr.nil n0
  show zEnds p e below s T0 (mkF m 0 #[rv b900, rv w_STEP] []) _ _ _
  refine zaloadN X0 hx hby d_prog_9_method_2_0 rfl rfl (zgetstat X0 hx hby d_prog_9_method_2_1 hZ hown (host := "") (Or.inl (w30 hw)) Via.refl e0 (S_w_arr0.ext O0.2) fun T1 X1 e1 => (zaloadN X1 hx hby d_prog_9_method_2_4 rfl rfl (zcallup X1 hx hby d_prog_9_method_2_5 hZ hown (w33 hw) (w34 hw) (w35 hw) (w37 hw) (w36 hw) (w39 hw) (w38 hw) e1 (E_w_STEP.ext O0.2) (c27_ordinal l hw [] ⟨S_w_PAUSE, S_w_RESUME, S_w_STEP, E_w_PAUSE, E_w_RESUME, E_w_STEP, F_w_PAUSE_ordinal, F_w_RESUME_ordinal, F_w_STEP_ordinal, S_w_arr0, A_w_arr0, A_w_arr0_0, A_w_arr0_2, A_w_arr0_1⟩ O0 (Nat.le_trans Z0 K0.1) ) (by decide) (by rw [hml]; rfl) 2 (Nat.le_of_eq rfl) (by decide) (by decide) (by decide) (by decide) pd_2 rfl (argsL := []) (st := [(.ref w_arr0), (.ref b900)]) rfl (zpureK ⟨rfl, rfl⟩ fun T2 X2 e2 => ?_))))
  show zEnds p e below s T2 (mkF m 8 #[rv b900, rv w_STEP] [(.int 1), (.ref w_arr0), (.ref b900)]) _ _ _
  refine zialoadC X2 hx hby d_prog_9_method_2_8 hZ e2 (A_w_arr0.ext O0.2) A_w_arr0_1 (ztswIn X2 hx hby d_prog_9_method_2_9 57 (by decide) rfl (by decide) (by decide) (zaloadN X2 hx hby d_prog_9_method_2_57 rfl rfl (zgetfld X2 hx hby d_prog_9_method_2_58 hZ hown (host := "") (Or.inl (w10 hw)) Via.refl e2 F_b900_left fun T3 X3 e3 => (zldc2J X3 hx hby d_prog_9_method_2_61 (9223372036854775807 : Int64) hZ hown (w9 hw) (zlcmp X3 hx hby d_prog_9_method_2_64 (0 : Int32) (by decide) (zifNo X3 hx hby d_prog_9_method_2_65 (by decide) (zlconst X3 hx hby d_prog_9_method_2_68 (z := (1 : Int64)) rfl (zgoto X3 hx hby d_prog_9_method_2_69 84 (by decide) (by decide) (zputfld X3 hx hby d_prog_9_method_2_84 hZ hown (host := "") (Or.inl (w10 hw)) Via.refl e3 F_b900_left E_b900 (Or.inl (w11 hw)) (w1 hw) (ty := .long) (by decide) rfl rfl fun T4 h4 X4 e4 W4 => ?_)))))))))
  have F4_b900_left : Fld Z h4 b900 "heapglass/core/wire/Allowance" "left" "J" (.long 1) := F_b900_left.same W4
  have E4_b900 := E_b900.wr W4
  have O4 := O0.wr W4 g_b900
  have K4 := Keep.wr K0 W4 (Or.inl (List.mem_of_getElem? (i := 0) rfl))
  have N4 := Fr.snoc X4 N0 g_b900
  show zEnds p e below s T4 (mkF m 87 #[rv b900, rv w_STEP] []) _ _ _
  exact zretV X4 hx hby d_prog_9_method_2_87 hret hlk (by decide) (by decide) (by rw [e4]; exact ⟨rfl, N4, K4, E4_b900, F4_b900_left⟩)
set_option maxRecDepth 65536 in
set_option maxHeartbeats 40000000 in
theorem c79_apply (l : Launch) {Z : State} {a0 : Array Value} (hw : ∀ d ∈ tables_1, d.before a0 Z = true) (ws : List Jvm.Cond) {w_PAUSE w_RESUME w_STEP w_arr0 : Addr} {cl_arr0 : Cell} {n0 : Nat} {h0 : Heap} (C : Ctx Z w_PAUSE w_RESUME w_STEP w_arr0 cl_arr0) (O0 : Old Z n0 h0) (Z0 : n0 ≤ h0.size) (b900 : Addr) (g_b900 : n0 ≤ b900) (E_b900 : Exa Z h0 b900 "heapglass/core/wire/Allowance") (F_b900_left : Fld Z h0 b900 "heapglass/core/wire/Allowance" "left" "J" (.long 9223372036854775807)) : zCon l Z (⟨"heapglass/core/wire/AllowanceIsSpentPinLaw", "apply", "(Lheapglass/core/wire/Allowance;I)V"⟩ : MethodName) method_3_code 2 none ws ({ frames := 2, cells := 0, slots := 0, locals := 27 } : Room) #[(.ref b900), (.int 1)] h0 (fun v h L => v = none ∧ Fr n0 L ∧ Keep h0 h [b900] ∧ Exa Z h b900 "heapglass/core/wire/Allowance" ∧ Fld Z h b900 "heapglass/core/wire/Allowance" "left" "J" (.long 1)) := by
  obtain ⟨S_w_PAUSE, S_w_RESUME, S_w_STEP, E_w_PAUSE, E_w_RESUME, E_w_STEP, F_w_PAUSE_ordinal, F_w_RESUME_ordinal, F_w_STEP_ordinal, S_w_arr0, A_w_arr0, A_w_arr0_0, A_w_arr0_2, A_w_arr0_1⟩ := C
  refine zenter (plainFor_of_name pn_2) (L0 := #[rv b900, iv 1]) (fun m => by first | rfl | simp [entryFrame, mkF, argsToLocals, Value.category, maxLocals]) ?_
  intro p e s m below meth c T0 hx hZ hby hml hown0 hnm hret hlk X0 e0
  have hown : s.vm.findClass "heapglass/core/wire/AllowanceIsSpentPinLaw" = some m.cls := hown0
  have K0 := Keep.refl h0 [b900]
  have N0 := Fr.nil n0
  show zEnds p e below s T0 (mkF m 0 #[rv b900, iv 1] []) _ _ _
  refine ziloadN X0 hx hby d_method_3_0 rfl (zifYes X0 hx hby d_method_3_1 14 (by decide) (by decide) (by decide) (ziloadN X0 hx hby d_method_3_14 rfl (ziconst X0 hx hby d_method_3_15 (z := (1 : Int32)) rfl (zicmpNo X0 hx hby d_method_3_16 (by decide) (zaloadN X0 hx hby d_method_3_19 rfl rfl (zgetstat X0 hx hby d_method_3_20 hZ hown (host := "") (Or.inl (w57 hw)) Via.refl e0 (S_w_STEP.ext O0.2) fun T1 X1 e1 => (zcallv X1 hx hby d_method_3_23 hZ hown (w25 hw) (w26 hw) (notFace_of_selects (args := #[]) (mvT hZ (w28 hw))) (w28 hw) (w27 hw) (w29 hw) (w2 hw) e1 E_b900 (c80_obey l hw [] ⟨S_w_PAUSE, S_w_RESUME, S_w_STEP, E_w_PAUSE, E_w_RESUME, E_w_STEP, F_w_PAUSE_ordinal, F_w_RESUME_ordinal, F_w_STEP_ordinal, S_w_arr0, A_w_arr0, A_w_arr0_0, A_w_arr0_2, A_w_arr0_1⟩ O0 (Nat.le_trans Z0 K0.1) b900 g_b900 E_b900 F_b900_left) (by decide) (by rw [hml]; rfl) 0 (Nat.le_of_eq rfl) (by decide) (by decide) (by decide) (by decide) pd_4 rfl (argsL := [(.ref w_STEP)]) (st := []) rfl fun T2 h2 v2 L2 e2 X2 q2 => ?_)))))))
  obtain ⟨rfl, N2q, K2q, E2_b900, F2_b900_left⟩ := q2
  have O2 := O0.keep K2q (allS g_b900 all0)
  have K2 := Keep.trans K0 K2q (allS (Or.inl (List.mem_of_getElem? (i := 0) rfl)) all0)
  have N2 := Fr.app N0 N2q
  show zEnds p e below s T2 (mkF m 26 #[rv b900, iv 1] []) _ _ _
  refine zgoto X2 hx hby d_method_3_26 48 (by decide) (by decide) ?_
  show zEnds p e below s T2 (mkF m 48 #[rv b900, iv 1] []) _ _ _
  exact zretV X2 hx hby d_method_3_48 hret hlk (by decide) (by decide) (by rw [e2]; exact ⟨rfl, N2, K2, E2_b900, F2_b900_left⟩)
set_option maxRecDepth 65536 in
set_option maxHeartbeats 40000000 in
theorem c83_next (l : Launch) {Z : State} {a0 : Array Value} (hw : ∀ d ∈ tables_1, d.before a0 Z = true) (ws : List Jvm.Cond) {w_PAUSE w_RESUME w_STEP w_arr0 : Addr} {cl_arr0 : Cell} {n0 : Nat} {h0 : Heap} (C : Ctx Z w_PAUSE w_RESUME w_STEP w_arr0 cl_arr0) (O0 : Old Z n0 h0) (Z0 : n0 ≤ h0.size)  : zCon l Z (⟨"heapglass/core/wire/AllowanceIsSpentPinLaw", "next", "(JI)J"⟩ : MethodName) method_2_code 3 (some .long) ws ({ frames := 0, cells := 0, slots := 0, locals := 0 } : Room) #[(.long (-1)), (.int 1)] h0 (zSame (some (.long 1)) h0) := by
  obtain ⟨S_w_PAUSE, S_w_RESUME, S_w_STEP, E_w_PAUSE, E_w_RESUME, E_w_STEP, F_w_PAUSE_ordinal, F_w_RESUME_ordinal, F_w_STEP_ordinal, S_w_arr0, A_w_arr0, A_w_arr0_0, A_w_arr0_2, A_w_arr0_1⟩ := C
  refine zenter (plainFor_of_name pn_2) (L0 := #[.val (.long (-1)), .second, iv 1]) (fun m => by first | rfl | simp [entryFrame, mkF, argsToLocals, Value.category, maxLocals]) ?_
  intro p e s m below meth c T0 hx hZ hby hml hown0 hnm hret hlk X0 e0
  have hown : s.vm.findClass "heapglass/core/wire/AllowanceIsSpentPinLaw" = some m.cls := hown0
  have K0 := Keep.refl h0 []
  have N0 := Fr.nil n0
  show zEnds p e below s T0 (mkF m 0 #[.val (.long (-1)), .second, iv 1] []) _ _ _
  refine ziloadN X0 hx hby d_method_2_0 rfl (zifYes X0 hx hby d_method_2_1 22 (by decide) (by decide) (by decide) (ziloadN X0 hx hby d_method_2_22 rfl (ziconst X0 hx hby d_method_2_23 (z := (1 : Int32)) rfl (zicmpNo X0 hx hby d_method_2_24 (by decide) (zlloadN X0 hx hby d_method_2_27 rfl (zldc2J X0 hx hby d_method_2_28 (-1 : Int64) hZ hown (w12 hw) (zlcmp X0 hx hby d_method_2_31 (0 : Int32) (by decide) (zifNo X0 hx hby d_method_2_32 (by decide) (zlconst X0 hx hby d_method_2_35 (z := (1 : Int64)) rfl ?_)))))))))
  show zEnds p e below s T0 (mkF m 36 #[.val (.long (-1)), .second, iv 1] [(.long 1)]) _ _ _
  refine zgoto X0 hx hby d_method_2_36 42 (by decide) (by decide) ?_
  show zEnds p e below s T0 (mkF m 42 #[.val (.long (-1)), .second, iv 1] [(.long 1)]) _ _ _
  exact zretL X0 hx hby d_method_2_42 hret hlk (by decide) (by decide) ⟨rfl, e0, rfl⟩
set_option maxRecDepth 65536 in
set_option maxHeartbeats 40000000 in
theorem c86_obey (l : Launch) {Z : State} {a0 : Array Value} (hw : ∀ d ∈ tables_1, d.before a0 Z = true) (ws : List Jvm.Cond) {w_PAUSE w_RESUME w_STEP w_arr0 : Addr} {cl_arr0 : Cell} {n0 : Nat} {h0 : Heap} (C : Ctx Z w_PAUSE w_RESUME w_STEP w_arr0 cl_arr0) (O0 : Old Z n0 h0) (Z0 : n0 ≤ h0.size) (b900 : Addr) (g_b900 : n0 ≤ b900) (E_b900 : Exa Z h0 b900 "heapglass/core/wire/Allowance") (F_b900_left : Fld Z h0 b900 "heapglass/core/wire/Allowance" "left" "J" (.long 9223372036854775807)) : zCon l Z (⟨"heapglass/core/wire/Allowance", "obey", "(Lheapglass/core/wire/Control;)V"⟩ : MethodName) prog_9_method_2_code 2 none ws ({ frames := 1, cells := 0, slots := 0, locals := 14 } : Room) #[(.ref b900), (.ref w_RESUME)] h0 (fun v h L => v = none ∧ Fr n0 L ∧ Keep h0 h [b900] ∧ Exa Z h b900 "heapglass/core/wire/Allowance" ∧ Fld Z h b900 "heapglass/core/wire/Allowance" "left" "J" (.long 9223372036854775807)) := by
  obtain ⟨S_w_PAUSE, S_w_RESUME, S_w_STEP, E_w_PAUSE, E_w_RESUME, E_w_STEP, F_w_PAUSE_ordinal, F_w_RESUME_ordinal, F_w_STEP_ordinal, S_w_arr0, A_w_arr0, A_w_arr0_0, A_w_arr0_2, A_w_arr0_1⟩ := C
  refine zenter (plainFor_of_name pn_0) (L0 := #[rv b900, rv w_RESUME]) (fun m => by first | rfl | simp [entryFrame, mkF, argsToLocals, Value.category, maxLocals]) ?_
  intro p e s m below meth c T0 hx hZ hby hml hown0 hnm hret hlk X0 e0
  have hown : s.vm.findClass "heapglass/core/wire/Allowance" = some m.cls := hown0
  have K0 := Keep.refl h0 [b900]
  have N0 := Fr.nil n0
  show zEnds p e below s T0 (mkF m 0 #[rv b900, rv w_RESUME] []) _ _ _
  refine zaloadN X0 hx hby d_prog_9_method_2_0 rfl rfl (zgetstat X0 hx hby d_prog_9_method_2_1 hZ hown (host := "") (Or.inl (w30 hw)) Via.refl e0 (S_w_arr0.ext O0.2) fun T1 X1 e1 => (zaloadN X1 hx hby d_prog_9_method_2_4 rfl rfl (zcallup X1 hx hby d_prog_9_method_2_5 hZ hown (w33 hw) (w34 hw) (w35 hw) (w37 hw) (w36 hw) (w39 hw) (w38 hw) e1 (E_w_RESUME.ext O0.2) (c37_ordinal l hw [] ⟨S_w_PAUSE, S_w_RESUME, S_w_STEP, E_w_PAUSE, E_w_RESUME, E_w_STEP, F_w_PAUSE_ordinal, F_w_RESUME_ordinal, F_w_STEP_ordinal, S_w_arr0, A_w_arr0, A_w_arr0_0, A_w_arr0_2, A_w_arr0_1⟩ O0 (Nat.le_trans Z0 K0.1) ) (by decide) (by rw [hml]; rfl) 2 (Nat.le_of_eq rfl) (by decide) (by decide) (by decide) (by decide) pd_2 rfl (argsL := []) (st := [(.ref w_arr0), (.ref b900)]) rfl (zpureK ⟨rfl, rfl⟩ fun T2 X2 e2 => ?_))))
  show zEnds p e below s T2 (mkF m 8 #[rv b900, rv w_RESUME] [(.int 2), (.ref w_arr0), (.ref b900)]) _ _ _
  refine zialoadC X2 hx hby d_prog_9_method_2_8 hZ e2 (A_w_arr0.ext O0.2) A_w_arr0_2 (ztswIn X2 hx hby d_prog_9_method_2_9 81 (by decide) rfl (by decide) (by decide) (zldc2J X2 hx hby d_prog_9_method_2_81 (9223372036854775807 : Int64) hZ hown (w9 hw) (zputfld X2 hx hby d_prog_9_method_2_84 hZ hown (host := "") (Or.inl (w10 hw)) Via.refl e2 F_b900_left E_b900 (Or.inl (w11 hw)) (w1 hw) (ty := .long) (by decide) rfl rfl fun T3 h3 X3 e3 W3 => ?_)))
  have F3_b900_left : Fld Z h3 b900 "heapglass/core/wire/Allowance" "left" "J" (.long 9223372036854775807) := F_b900_left.same W3
  have E3_b900 := E_b900.wr W3
  have O3 := O0.wr W3 g_b900
  have K3 := Keep.wr K0 W3 (Or.inl (List.mem_of_getElem? (i := 0) rfl))
  have N3 := Fr.snoc X3 N0 g_b900
  show zEnds p e below s T3 (mkF m 87 #[rv b900, rv w_RESUME] []) _ _ _
  exact zretV X3 hx hby d_prog_9_method_2_87 hret hlk (by decide) (by decide) (by rw [e3]; exact ⟨rfl, N3, K3, E3_b900, F3_b900_left⟩)
set_option maxRecDepth 65536 in
set_option maxHeartbeats 40000000 in
theorem c85_apply (l : Launch) {Z : State} {a0 : Array Value} (hw : ∀ d ∈ tables_1, d.before a0 Z = true) (ws : List Jvm.Cond) {w_PAUSE w_RESUME w_STEP w_arr0 : Addr} {cl_arr0 : Cell} {n0 : Nat} {h0 : Heap} (C : Ctx Z w_PAUSE w_RESUME w_STEP w_arr0 cl_arr0) (O0 : Old Z n0 h0) (Z0 : n0 ≤ h0.size) (b900 : Addr) (g_b900 : n0 ≤ b900) (E_b900 : Exa Z h0 b900 "heapglass/core/wire/Allowance") (F_b900_left : Fld Z h0 b900 "heapglass/core/wire/Allowance" "left" "J" (.long 9223372036854775807)) : zCon l Z (⟨"heapglass/core/wire/AllowanceIsSpentPinLaw", "apply", "(Lheapglass/core/wire/Allowance;I)V"⟩ : MethodName) method_3_code 2 none ws ({ frames := 2, cells := 0, slots := 0, locals := 27 } : Room) #[(.ref b900), (.int 2)] h0 (fun v h L => v = none ∧ Fr n0 L ∧ Keep h0 h [b900] ∧ Exa Z h b900 "heapglass/core/wire/Allowance" ∧ Fld Z h b900 "heapglass/core/wire/Allowance" "left" "J" (.long 9223372036854775807)) := by
  obtain ⟨S_w_PAUSE, S_w_RESUME, S_w_STEP, E_w_PAUSE, E_w_RESUME, E_w_STEP, F_w_PAUSE_ordinal, F_w_RESUME_ordinal, F_w_STEP_ordinal, S_w_arr0, A_w_arr0, A_w_arr0_0, A_w_arr0_2, A_w_arr0_1⟩ := C
  refine zenter (plainFor_of_name pn_2) (L0 := #[rv b900, iv 2]) (fun m => by first | rfl | simp [entryFrame, mkF, argsToLocals, Value.category, maxLocals]) ?_
  intro p e s m below meth c T0 hx hZ hby hml hown0 hnm hret hlk X0 e0
  have hown : s.vm.findClass "heapglass/core/wire/AllowanceIsSpentPinLaw" = some m.cls := hown0
  have K0 := Keep.refl h0 [b900]
  have N0 := Fr.nil n0
  show zEnds p e below s T0 (mkF m 0 #[rv b900, iv 2] []) _ _ _
  refine ziloadN X0 hx hby d_method_3_0 rfl (zifYes X0 hx hby d_method_3_1 14 (by decide) (by decide) (by decide) (ziloadN X0 hx hby d_method_3_14 rfl (ziconst X0 hx hby d_method_3_15 (z := (1 : Int32)) rfl (zicmpYes X0 hx hby d_method_3_16 29 (by decide) (by decide) (by decide) (ziloadN X0 hx hby d_method_3_29 rfl (ziconst X0 hx hby d_method_3_30 (z := (2 : Int32)) rfl (zicmpNo X0 hx hby d_method_3_31 (by decide) (zaloadN X0 hx hby d_method_3_34 rfl rfl (zgetstat X0 hx hby d_method_3_35 hZ hown (host := "") (Or.inl (w55 hw)) Via.refl e0 (S_w_RESUME.ext O0.2) fun T1 X1 e1 => ?_)))))))))
  show zEnds p e below s T1 (mkF m 38 #[rv b900, iv 2] [(.ref w_RESUME), (.ref b900)]) _ _ _
  refine zcallv X1 hx hby d_method_3_38 hZ hown (w25 hw) (w26 hw) (notFace_of_selects (args := #[]) (mvT hZ (w28 hw))) (w28 hw) (w27 hw) (w29 hw) (w2 hw) e1 E_b900 (c86_obey l hw [] ⟨S_w_PAUSE, S_w_RESUME, S_w_STEP, E_w_PAUSE, E_w_RESUME, E_w_STEP, F_w_PAUSE_ordinal, F_w_RESUME_ordinal, F_w_STEP_ordinal, S_w_arr0, A_w_arr0, A_w_arr0_0, A_w_arr0_2, A_w_arr0_1⟩ O0 (Nat.le_trans Z0 K0.1) b900 g_b900 E_b900 F_b900_left) (by decide) (by rw [hml]; rfl) 0 (Nat.le_of_eq rfl) (by decide) (by decide) (by decide) (by decide) pd_4 rfl (argsL := [(.ref w_RESUME)]) (st := []) rfl fun T2 h2 v2 L2 e2 X2 q2 => ?_
  obtain ⟨rfl, N2q, K2q, E2_b900, F2_b900_left⟩ := q2
  have O2 := O0.keep K2q (allS g_b900 all0)
  have K2 := Keep.trans K0 K2q (allS (Or.inl (List.mem_of_getElem? (i := 0) rfl)) all0)
  have N2 := Fr.app N0 N2q
  show zEnds p e below s T2 (mkF m 41 #[rv b900, iv 2] []) _ _ _
  refine zgoto X2 hx hby d_method_3_41 48 (by decide) (by decide) ?_
  show zEnds p e below s T2 (mkF m 48 #[rv b900, iv 2] []) _ _ _
  exact zretV X2 hx hby d_method_3_48 hret hlk (by decide) (by decide) (by rw [e2]; exact ⟨rfl, N2, K2, E2_b900, F2_b900_left⟩)
set_option maxRecDepth 65536 in
set_option maxHeartbeats 40000000 in
theorem c89_next (l : Launch) {Z : State} {a0 : Array Value} (hw : ∀ d ∈ tables_1, d.before a0 Z = true) (ws : List Jvm.Cond) {w_PAUSE w_RESUME w_STEP w_arr0 : Addr} {cl_arr0 : Cell} {n0 : Nat} {h0 : Heap} (C : Ctx Z w_PAUSE w_RESUME w_STEP w_arr0 cl_arr0) (O0 : Old Z n0 h0) (Z0 : n0 ≤ h0.size)  : zCon l Z (⟨"heapglass/core/wire/AllowanceIsSpentPinLaw", "next", "(JI)J"⟩ : MethodName) method_2_code 3 (some .long) ws ({ frames := 0, cells := 0, slots := 0, locals := 0 } : Room) #[(.long (-1)), (.int 2)] h0 (zSame (some (.long (-1))) h0) := by
  obtain ⟨S_w_PAUSE, S_w_RESUME, S_w_STEP, E_w_PAUSE, E_w_RESUME, E_w_STEP, F_w_PAUSE_ordinal, F_w_RESUME_ordinal, F_w_STEP_ordinal, S_w_arr0, A_w_arr0, A_w_arr0_0, A_w_arr0_2, A_w_arr0_1⟩ := C
  refine zenter (plainFor_of_name pn_2) (L0 := #[.val (.long (-1)), .second, iv 2]) (fun m => by first | rfl | simp [entryFrame, mkF, argsToLocals, Value.category, maxLocals]) ?_
  intro p e s m below meth c T0 hx hZ hby hml hown0 hnm hret hlk X0 e0
  have hown : s.vm.findClass "heapglass/core/wire/AllowanceIsSpentPinLaw" = some m.cls := hown0
  have K0 := Keep.refl h0 []
  have N0 := Fr.nil n0
  show zEnds p e below s T0 (mkF m 0 #[.val (.long (-1)), .second, iv 2] []) _ _ _
  refine ziloadN X0 hx hby d_method_2_0 rfl (zifYes X0 hx hby d_method_2_1 22 (by decide) (by decide) (by decide) (ziloadN X0 hx hby d_method_2_22 rfl (ziconst X0 hx hby d_method_2_23 (z := (1 : Int32)) rfl (zicmpYes X0 hx hby d_method_2_24 43 (by decide) (by decide) (by decide) (ziloadN X0 hx hby d_method_2_43 rfl (ziconst X0 hx hby d_method_2_44 (z := (2 : Int32)) rfl (zicmpNo X0 hx hby d_method_2_45 (by decide) (zldc2J X0 hx hby d_method_2_48 (-1 : Int64) hZ hown (w12 hw) ?_))))))))
  show zEnds p e below s T0 (mkF m 51 #[.val (.long (-1)), .second, iv 2] [(.long (-1))]) _ _ _
  exact zretL X0 hx hby d_method_2_51 hret hlk (by decide) (by decide) ⟨rfl, e0, rfl⟩
set_option maxRecDepth 65536 in
set_option maxHeartbeats 40000000 in
theorem c92_spend (l : Launch) {Z : State} {a0 : Array Value} (hw : ∀ d ∈ tables_1, d.before a0 Z = true) (ws : List Jvm.Cond) {w_PAUSE w_RESUME w_STEP w_arr0 : Addr} {cl_arr0 : Cell} {n0 : Nat} {h0 : Heap} (C : Ctx Z w_PAUSE w_RESUME w_STEP w_arr0 cl_arr0) (O0 : Old Z n0 h0) (Z0 : n0 ≤ h0.size) (b900 : Addr) (g_b900 : n0 ≤ b900) (E_b900 : Exa Z h0 b900 "heapglass/core/wire/Allowance") (F_b900_left : Fld Z h0 b900 "heapglass/core/wire/Allowance" "left" "J" (.long 9223372036854775807)) : zCon l Z (⟨"heapglass/core/wire/Allowance", "spend", "()V"⟩ : MethodName) prog_9_method_3_code 1 none ws ({ frames := 0, cells := 0, slots := 0, locals := 0 } : Room) #[(.ref b900)] h0 (zSame none h0) := by
  obtain ⟨S_w_PAUSE, S_w_RESUME, S_w_STEP, E_w_PAUSE, E_w_RESUME, E_w_STEP, F_w_PAUSE_ordinal, F_w_RESUME_ordinal, F_w_STEP_ordinal, S_w_arr0, A_w_arr0, A_w_arr0_0, A_w_arr0_2, A_w_arr0_1⟩ := C
  refine zenter (plainFor_of_name pn_0) (L0 := #[rv b900]) (fun m => by first | rfl | simp [entryFrame, mkF, argsToLocals, Value.category, maxLocals]) ?_
  intro p e s m below meth c T0 hx hZ hby hml hown0 hnm hret hlk X0 e0
  have hown : s.vm.findClass "heapglass/core/wire/Allowance" = some m.cls := hown0
  have K0 := Keep.refl h0 []
  have N0 := Fr.nil n0
  show zEnds p e below s T0 (mkF m 0 #[rv b900] []) _ _ _
  refine zaloadN X0 hx hby d_prog_9_method_3_0 rfl rfl (zgetfld X0 hx hby d_prog_9_method_3_1 hZ hown (host := "") (Or.inl (w10 hw)) Via.refl e0 F_b900_left fun T1 X1 e1 => (zlconst X1 hx hby d_prog_9_method_3_4 (z := (0 : Int64)) rfl (zlcmp X1 hx hby d_prog_9_method_3_5 (1 : Int32) (by decide) (zifNo X1 hx hby d_prog_9_method_3_6 (by decide) (zaloadN X1 hx hby d_prog_9_method_3_9 rfl rfl (zgetfld X1 hx hby d_prog_9_method_3_10 hZ hown (host := "") (Or.inl (w10 hw)) Via.refl e1 F_b900_left fun T2 X2 e2 => (zldc2J X2 hx hby d_prog_9_method_3_13 (9223372036854775807 : Int64) hZ hown (w9 hw) (zlcmp X2 hx hby d_prog_9_method_3_16 (0 : Int32) (by decide) (zifYes X2 hx hby d_prog_9_method_3_17 30 (by decide) (by decide) (by decide) ?_)))))))))
  show zEnds p e below s T2 (mkF m 30 #[rv b900] []) _ _ _
  exact zretV X2 hx hby d_prog_9_method_3_30 hret hlk (by decide) (by decide) ⟨rfl, e2, rfl⟩
set_option maxRecDepth 65536 in
set_option maxHeartbeats 40000000 in
theorem c91_apply (l : Launch) {Z : State} {a0 : Array Value} (hw : ∀ d ∈ tables_1, d.before a0 Z = true) (ws : List Jvm.Cond) {w_PAUSE w_RESUME w_STEP w_arr0 : Addr} {cl_arr0 : Cell} {n0 : Nat} {h0 : Heap} (C : Ctx Z w_PAUSE w_RESUME w_STEP w_arr0 cl_arr0) (O0 : Old Z n0 h0) (Z0 : n0 ≤ h0.size) (b900 : Addr) (g_b900 : n0 ≤ b900) (E_b900 : Exa Z h0 b900 "heapglass/core/wire/Allowance") (F_b900_left : Fld Z h0 b900 "heapglass/core/wire/Allowance" "left" "J" (.long 9223372036854775807)) : zCon l Z (⟨"heapglass/core/wire/AllowanceIsSpentPinLaw", "apply", "(Lheapglass/core/wire/Allowance;I)V"⟩ : MethodName) method_3_code 2 none ws ({ frames := 1, cells := 0, slots := 0, locals := 12 } : Room) #[(.ref b900), (.int 3)] h0 (zSame none h0) := by
  obtain ⟨S_w_PAUSE, S_w_RESUME, S_w_STEP, E_w_PAUSE, E_w_RESUME, E_w_STEP, F_w_PAUSE_ordinal, F_w_RESUME_ordinal, F_w_STEP_ordinal, S_w_arr0, A_w_arr0, A_w_arr0_0, A_w_arr0_2, A_w_arr0_1⟩ := C
  refine zenter (plainFor_of_name pn_2) (L0 := #[rv b900, iv 3]) (fun m => by first | rfl | simp [entryFrame, mkF, argsToLocals, Value.category, maxLocals]) ?_
  intro p e s m below meth c T0 hx hZ hby hml hown0 hnm hret hlk X0 e0
  have hown : s.vm.findClass "heapglass/core/wire/AllowanceIsSpentPinLaw" = some m.cls := hown0
  have K0 := Keep.refl h0 []
  have N0 := Fr.nil n0
  show zEnds p e below s T0 (mkF m 0 #[rv b900, iv 3] []) _ _ _
  refine ziloadN X0 hx hby d_method_3_0 rfl (zifYes X0 hx hby d_method_3_1 14 (by decide) (by decide) (by decide) (ziloadN X0 hx hby d_method_3_14 rfl (ziconst X0 hx hby d_method_3_15 (z := (1 : Int32)) rfl (zicmpYes X0 hx hby d_method_3_16 29 (by decide) (by decide) (by decide) (ziloadN X0 hx hby d_method_3_29 rfl (ziconst X0 hx hby d_method_3_30 (z := (2 : Int32)) rfl (zicmpYes X0 hx hby d_method_3_31 44 (by decide) (by decide) (by decide) (zaloadN X0 hx hby d_method_3_44 rfl rfl (zcallv X0 hx hby d_method_3_45 hZ hown (w50 hw) (w51 hw) (notFace_of_selects (args := #[]) (mvT hZ (w53 hw))) (w53 hw) (w52 hw) (w54 hw) (w2 hw) e0 E_b900 (c92_spend l hw [] ⟨S_w_PAUSE, S_w_RESUME, S_w_STEP, E_w_PAUSE, E_w_RESUME, E_w_STEP, F_w_PAUSE_ordinal, F_w_RESUME_ordinal, F_w_STEP_ordinal, S_w_arr0, A_w_arr0, A_w_arr0_0, A_w_arr0_2, A_w_arr0_1⟩ O0 (Nat.le_trans Z0 K0.1) b900 g_b900 E_b900 F_b900_left) (by decide) (by rw [hml]; rfl) 0 (Nat.le_of_eq rfl) (by decide) (by decide) (by decide) (by decide) pd_0 rfl (argsL := []) (st := []) rfl (zpureK ⟨rfl, rfl⟩ fun T1 X1 e1 => ?_))))))))))
  show zEnds p e below s T1 (mkF m 48 #[rv b900, iv 3] []) _ _ _
  exact zretV X1 hx hby d_method_3_48 hret hlk (by decide) (by decide) ⟨rfl, e1, rfl⟩
set_option maxRecDepth 65536 in
set_option maxHeartbeats 40000000 in
theorem c95_next (l : Launch) {Z : State} {a0 : Array Value} (hw : ∀ d ∈ tables_1, d.before a0 Z = true) (ws : List Jvm.Cond) {w_PAUSE w_RESUME w_STEP w_arr0 : Addr} {cl_arr0 : Cell} {n0 : Nat} {h0 : Heap} (C : Ctx Z w_PAUSE w_RESUME w_STEP w_arr0 cl_arr0) (O0 : Old Z n0 h0) (Z0 : n0 ≤ h0.size)  : zCon l Z (⟨"heapglass/core/wire/AllowanceIsSpentPinLaw", "next", "(JI)J"⟩ : MethodName) method_2_code 3 (some .long) ws ({ frames := 0, cells := 0, slots := 0, locals := 0 } : Room) #[(.long (-1)), (.int 3)] h0 (zSame (some (.long (-1))) h0) := by
  obtain ⟨S_w_PAUSE, S_w_RESUME, S_w_STEP, E_w_PAUSE, E_w_RESUME, E_w_STEP, F_w_PAUSE_ordinal, F_w_RESUME_ordinal, F_w_STEP_ordinal, S_w_arr0, A_w_arr0, A_w_arr0_0, A_w_arr0_2, A_w_arr0_1⟩ := C
  refine zenter (plainFor_of_name pn_2) (L0 := #[.val (.long (-1)), .second, iv 3]) (fun m => by first | rfl | simp [entryFrame, mkF, argsToLocals, Value.category, maxLocals]) ?_
  intro p e s m below meth c T0 hx hZ hby hml hown0 hnm hret hlk X0 e0
  have hown : s.vm.findClass "heapglass/core/wire/AllowanceIsSpentPinLaw" = some m.cls := hown0
  have K0 := Keep.refl h0 []
  have N0 := Fr.nil n0
  show zEnds p e below s T0 (mkF m 0 #[.val (.long (-1)), .second, iv 3] []) _ _ _
  refine ziloadN X0 hx hby d_method_2_0 rfl (zifYes X0 hx hby d_method_2_1 22 (by decide) (by decide) (by decide) (ziloadN X0 hx hby d_method_2_22 rfl (ziconst X0 hx hby d_method_2_23 (z := (1 : Int32)) rfl (zicmpYes X0 hx hby d_method_2_24 43 (by decide) (by decide) (by decide) (ziloadN X0 hx hby d_method_2_43 rfl (ziconst X0 hx hby d_method_2_44 (z := (2 : Int32)) rfl (zicmpYes X0 hx hby d_method_2_45 52 (by decide) (by decide) (by decide) (zlloadN X0 hx hby d_method_2_52 rfl (zlconst X0 hx hby d_method_2_53 (z := (0 : Int64)) rfl ?_)))))))))
  show zEnds p e below s T0 (mkF m 54 #[.val (.long (-1)), .second, iv 3] [(.long 0), (.long (-1))]) _ _ _
  refine zlcmp X0 hx hby d_method_2_54 (-1 : Int32) (by decide) (zifYes X0 hx hby d_method_2_55 64 (by decide) (by decide) (by decide) (zlloadN X0 hx hby d_method_2_64 rfl ?_))
  show zEnds p e below s T0 (mkF m 65 #[.val (.long (-1)), .second, iv 3] [(.long (-1))]) _ _ _
  exact zretL X0 hx hby d_method_2_65 hret hlk (by decide) (by decide) ⟨rfl, e0, rfl⟩
set_option maxRecDepth 65536 in
set_option maxHeartbeats 40000000 in
theorem stg_3_5 {p : Program} {l : Launch} {e : Env} {s : State} {m : MethodId} {args : Array Value} {below : List Frame} {meth : Method} {c : Code} {T0 : State} {locs : List Loc} {Z : State} {a0 : Array Value} {h0 : Heap} {n0 : Nat} {w_PAUSE w_RESUME w_STEP w_arr0 : Addr} {cl_arr0 : Cell} {b1 : Addr} 
    (X0 : Stand p l e room_1 s m args below meth c T0 locs 1 1) (hx : p.tables.exec = Jvm.exec) (hZ : Z.Warmed39 s.vm) (hw : ∀ d ∈ tables_1, d.before a0 Z = true) (hby : c.code = code) (hml : c.maxLocals = 9) (hown : s.vm.findClass "heapglass/core/wire/AllowanceIsSpentPinLaw" = some m.cls) (hret : meth.sig.returnType = (some .boolean)) (hlk : meth.locks = false) (C : Ctx Z w_PAUSE w_RESUME w_STEP w_arr0 cl_arr0) (e0 : T0.heap = h0) (O0 : Old Z n0 h0) (N0 : Fr n0 locs) (g_b1 : n0 ≤ b1) (E_b1 : Exa Z h0 b1 "heapglass/core/wire/Allowance") (F_b1_left : Fld Z h0 b1 "heapglass/core/wire/Allowance" "left" "J" (.long 9223372036854775807)) {u0 u1 u2 u3 u4 : Int32} (k4 : u4 = (0 : Int32) ∨ u4 = (1 : Int32) ∨ u4 = (2 : Int32) ∨ u4 = (3 : Int32)) :
    zEnds p e below s T0 (mkF m 203 #[iv u0, iv u1, iv u2, iv u3, iv u4, rv b1, .val (.long (-1)), .second, iv 1] []) room_1.cells room_1.slots (fun v h L => v = some (.int (1 : Int32)) ∧ Fr n0 L) := by
  obtain ⟨S_w_PAUSE, S_w_RESUME, S_w_STEP, E_w_PAUSE, E_w_RESUME, E_w_STEP, F_w_PAUSE_ordinal, F_w_RESUME_ordinal, F_w_STEP_ordinal, S_w_arr0, A_w_arr0, A_w_arr0_0, A_w_arr0_2, A_w_arr0_1⟩ := C
  have K0 := Keep.refl h0 [b1]
  have Z0 : n0 ≤ h0.size := by rw [← O0.1]; exact O0.2.1
  show zEnds p e below s T0 (mkF m 203 #[iv u0, iv u1, iv u2, iv u3, iv u4, rv b1, .val (.long (-1)), .second, iv 1] []) _ _ _
  rcases k4 with rfl | rfl | rfl | rfl
  · show zEnds p e below s T0 (mkF m 203 #[iv u0, iv u1, iv u2, iv u3, iv 0, rv b1, .val (.long (-1)), .second, iv 1] []) _ _ _
    refine zaload X0 hx hby at_203 rfl rfl (ziload X0 hx hby at_205 rfl (zcalls X0 hx hby at_207 hZ hown (w18 hw) (w19 hw) (w20 hw) (w21 hw) e0 (c5_apply l hw [] ⟨S_w_PAUSE, S_w_RESUME, S_w_STEP, E_w_PAUSE, E_w_RESUME, E_w_STEP, F_w_PAUSE_ordinal, F_w_RESUME_ordinal, F_w_STEP_ordinal, S_w_arr0, A_w_arr0, A_w_arr0_0, A_w_arr0_2, A_w_arr0_1⟩ O0 (Nat.le_trans Z0 K0.1) b1 g_b1 E_b1 F_b1_left) (by decide) (by rw [hml]; rfl) 0 (Nat.le_of_eq rfl) (by decide) (by decide) (by decide) (by decide) pd_5 rfl (argsL := [(.ref b1), (.int 0)]) (st := []) rfl fun T1 h1 v1 L1 e1 X1 q1 => ?_))
    obtain ⟨rfl, N1q, K1q, E1_b1, F1_b1_left⟩ := q1
    have O1 := O0.keep K1q (allS g_b1 all0)
    have K1 := Keep.trans K0 K1q (allS (Or.inl (List.mem_of_getElem? (i := 0) rfl)) all0)
    have N1 := Fr.app N0 N1q
    show zEnds p e below s T1 (mkF m 210 #[iv u0, iv u1, iv u2, iv u3, iv 0, rv b1, .val (.long (-1)), .second, iv 1] []) _ _ _
    refine zlload X1 hx hby at_210 rfl (ziload X1 hx hby at_212 rfl (zcalls X1 hx hby at_214 hZ hown (w46 hw) (w47 hw) (w20 hw) (w48 hw) e1 (c13_next l hw [] ⟨S_w_PAUSE, S_w_RESUME, S_w_STEP, E_w_PAUSE, E_w_RESUME, E_w_STEP, F_w_PAUSE_ordinal, F_w_RESUME_ordinal, F_w_STEP_ordinal, S_w_arr0, A_w_arr0, A_w_arr0_0, A_w_arr0_2, A_w_arr0_1⟩ O1 (Nat.le_trans Z0 K1.1) ) (by decide) (by rw [hml]; rfl) 0 (Nat.le_of_eq rfl) (by decide) (by decide) (by decide) (by decide) pd_6 rfl (argsL := [(.long (-1)), (.int 0)]) (st := []) rfl (zpureK ⟨rfl, rfl⟩ fun T2 X2 e2 => ?_)))
    show zEnds p e below s T2 (mkF m 217 #[iv u0, iv u1, iv u2, iv u3, iv 0, rv b1, .val (.long (-1)), .second, iv 1] [(.long 1)]) _ _ _
    refine zlstore X2 hx hby at_217 (L' := #[iv u0, iv u1, iv u2, iv u3, iv 0, rv b1, .val (.long 1), .second, iv 1]) rfl (ziload X2 hx hby at_219 rfl (zifNo X2 hx hby at_221 (by decide) (zaload X2 hx hby at_224 rfl rfl (zcallv X2 hx hby at_226 hZ hown (w13 hw) (w14 hw) (notFace_of_selects (args := #[]) (mvT hZ (w16 hw))) (w16 hw) (w15 hw) (w17 hw) (w2 hw) e2 E1_b1 (c15_isSpent l hw [] ⟨S_w_PAUSE, S_w_RESUME, S_w_STEP, E_w_PAUSE, E_w_RESUME, E_w_STEP, F_w_PAUSE_ordinal, F_w_RESUME_ordinal, F_w_STEP_ordinal, S_w_arr0, A_w_arr0, A_w_arr0_0, A_w_arr0_2, A_w_arr0_1⟩ O1 (Nat.le_trans Z0 K1.1) b1 g_b1 E1_b1 F1_b1_left) (by decide) (by rw [hml]; rfl) 0 (Nat.le_of_eq rfl) (by decide) (by decide) (by decide) (by decide) pd_1 rfl (argsL := []) (st := []) rfl (zpureK ⟨rfl, rfl⟩ fun T3 X3 e3 => ?_)))))
    show zEnds p e below s T3 (mkF m 229 #[iv u0, iv u1, iv u2, iv u3, iv 0, rv b1, .val (.long 1), .second, iv 1] [(.int 0)]) _ _ _
    refine zlload X3 hx hby at_229 rfl (zlconst X3 hx hby at_231 (z := (0 : Int64)) rfl (zlcmp X3 hx hby at_232 (1 : Int32) (by decide) (zifYes X3 hx hby at_233 240 (by decide) (by decide) (by decide) (ziconst X3 hx hby at_240 (z := (0 : Int32)) rfl (zicmpNo X3 hx hby at_241 (by decide) (ziconst X3 hx hby at_244 (z := (1 : Int32)) rfl (zgoto X3 hx hby at_245 249 (by decide) (by decide) (zistore X3 hx hby at_249 (L' := #[iv u0, iv u1, iv u2, iv u3, iv 0, rv b1, .val (.long 1), .second, iv 1]) rfl (ziload X3 hx hby at_251 rfl ?_)))))))))
    show zEnds p e below s T3 (mkF m 253 #[iv u0, iv u1, iv u2, iv u3, iv 0, rv b1, .val (.long 1), .second, iv 1] [(.int 1)]) _ _ _
    exact zretZ X3 hx hby at_253 hret hlk (by simp) rfl (by decide) (by decide) ⟨rfl, N1⟩
  · show zEnds p e below s T0 (mkF m 203 #[iv u0, iv u1, iv u2, iv u3, iv 1, rv b1, .val (.long (-1)), .second, iv 1] []) _ _ _
    refine zaload X0 hx hby at_203 rfl rfl (ziload X0 hx hby at_205 rfl (zcalls X0 hx hby at_207 hZ hown (w18 hw) (w19 hw) (w20 hw) (w21 hw) e0 (c79_apply l hw [] ⟨S_w_PAUSE, S_w_RESUME, S_w_STEP, E_w_PAUSE, E_w_RESUME, E_w_STEP, F_w_PAUSE_ordinal, F_w_RESUME_ordinal, F_w_STEP_ordinal, S_w_arr0, A_w_arr0, A_w_arr0_0, A_w_arr0_2, A_w_arr0_1⟩ O0 (Nat.le_trans Z0 K0.1) b1 g_b1 E_b1 F_b1_left) (by decide) (by rw [hml]; rfl) 0 (Nat.le_of_eq rfl) (by decide) (by decide) (by decide) (by decide) pd_5 rfl (argsL := [(.ref b1), (.int 1)]) (st := []) rfl fun T4 h4 v4 L4 e4 X4 q4 => ?_))
    obtain ⟨rfl, N4q, K4q, E4_b1, F4_b1_left⟩ := q4
    have O4 := O0.keep K4q (allS g_b1 all0)
    have K4 := Keep.trans K0 K4q (allS (Or.inl (List.mem_of_getElem? (i := 0) rfl)) all0)
    have N4 := Fr.app N0 N4q
    show zEnds p e below s T4 (mkF m 210 #[iv u0, iv u1, iv u2, iv u3, iv 1, rv b1, .val (.long (-1)), .second, iv 1] []) _ _ _
    refine zlload X4 hx hby at_210 rfl (ziload X4 hx hby at_212 rfl (zcalls X4 hx hby at_214 hZ hown (w46 hw) (w47 hw) (w20 hw) (w48 hw) e4 (c83_next l hw [] ⟨S_w_PAUSE, S_w_RESUME, S_w_STEP, E_w_PAUSE, E_w_RESUME, E_w_STEP, F_w_PAUSE_ordinal, F_w_RESUME_ordinal, F_w_STEP_ordinal, S_w_arr0, A_w_arr0, A_w_arr0_0, A_w_arr0_2, A_w_arr0_1⟩ O4 (Nat.le_trans Z0 K4.1) ) (by decide) (by rw [hml]; rfl) 0 (Nat.le_of_eq rfl) (by decide) (by decide) (by decide) (by decide) pd_6 rfl (argsL := [(.long (-1)), (.int 1)]) (st := []) rfl (zpureK ⟨rfl, rfl⟩ fun T5 X5 e5 => ?_)))
    show zEnds p e below s T5 (mkF m 217 #[iv u0, iv u1, iv u2, iv u3, iv 1, rv b1, .val (.long (-1)), .second, iv 1] [(.long 1)]) _ _ _
    refine zlstore X5 hx hby at_217 (L' := #[iv u0, iv u1, iv u2, iv u3, iv 1, rv b1, .val (.long 1), .second, iv 1]) rfl (ziload X5 hx hby at_219 rfl (zifNo X5 hx hby at_221 (by decide) (zaload X5 hx hby at_224 rfl rfl (zcallv X5 hx hby at_226 hZ hown (w13 hw) (w14 hw) (notFace_of_selects (args := #[]) (mvT hZ (w16 hw))) (w16 hw) (w15 hw) (w17 hw) (w2 hw) e5 E4_b1 (c15_isSpent l hw [] ⟨S_w_PAUSE, S_w_RESUME, S_w_STEP, E_w_PAUSE, E_w_RESUME, E_w_STEP, F_w_PAUSE_ordinal, F_w_RESUME_ordinal, F_w_STEP_ordinal, S_w_arr0, A_w_arr0, A_w_arr0_0, A_w_arr0_2, A_w_arr0_1⟩ O4 (Nat.le_trans Z0 K4.1) b1 g_b1 E4_b1 F4_b1_left) (by decide) (by rw [hml]; rfl) 0 (Nat.le_of_eq rfl) (by decide) (by decide) (by decide) (by decide) pd_1 rfl (argsL := []) (st := []) rfl (zpureK ⟨rfl, rfl⟩ fun T6 X6 e6 => ?_)))))
    show zEnds p e below s T6 (mkF m 229 #[iv u0, iv u1, iv u2, iv u3, iv 1, rv b1, .val (.long 1), .second, iv 1] [(.int 0)]) _ _ _
    refine zlload X6 hx hby at_229 rfl (zlconst X6 hx hby at_231 (z := (0 : Int64)) rfl (zlcmp X6 hx hby at_232 (1 : Int32) (by decide) (zifYes X6 hx hby at_233 240 (by decide) (by decide) (by decide) (ziconst X6 hx hby at_240 (z := (0 : Int32)) rfl (zicmpNo X6 hx hby at_241 (by decide) (ziconst X6 hx hby at_244 (z := (1 : Int32)) rfl (zgoto X6 hx hby at_245 249 (by decide) (by decide) (zistore X6 hx hby at_249 (L' := #[iv u0, iv u1, iv u2, iv u3, iv 1, rv b1, .val (.long 1), .second, iv 1]) rfl (ziload X6 hx hby at_251 rfl ?_)))))))))
    show zEnds p e below s T6 (mkF m 253 #[iv u0, iv u1, iv u2, iv u3, iv 1, rv b1, .val (.long 1), .second, iv 1] [(.int 1)]) _ _ _
    exact zretZ X6 hx hby at_253 hret hlk (by simp) rfl (by decide) (by decide) ⟨rfl, N4⟩
  · show zEnds p e below s T0 (mkF m 203 #[iv u0, iv u1, iv u2, iv u3, iv 2, rv b1, .val (.long (-1)), .second, iv 1] []) _ _ _
    refine zaload X0 hx hby at_203 rfl rfl (ziload X0 hx hby at_205 rfl (zcalls X0 hx hby at_207 hZ hown (w18 hw) (w19 hw) (w20 hw) (w21 hw) e0 (c85_apply l hw [] ⟨S_w_PAUSE, S_w_RESUME, S_w_STEP, E_w_PAUSE, E_w_RESUME, E_w_STEP, F_w_PAUSE_ordinal, F_w_RESUME_ordinal, F_w_STEP_ordinal, S_w_arr0, A_w_arr0, A_w_arr0_0, A_w_arr0_2, A_w_arr0_1⟩ O0 (Nat.le_trans Z0 K0.1) b1 g_b1 E_b1 F_b1_left) (by decide) (by rw [hml]; rfl) 0 (Nat.le_of_eq rfl) (by decide) (by decide) (by decide) (by decide) pd_5 rfl (argsL := [(.ref b1), (.int 2)]) (st := []) rfl fun T7 h7 v7 L7 e7 X7 q7 => ?_))
    obtain ⟨rfl, N7q, K7q, E7_b1, F7_b1_left⟩ := q7
    have O7 := O0.keep K7q (allS g_b1 all0)
    have K7 := Keep.trans K0 K7q (allS (Or.inl (List.mem_of_getElem? (i := 0) rfl)) all0)
    have N7 := Fr.app N0 N7q
    show zEnds p e below s T7 (mkF m 210 #[iv u0, iv u1, iv u2, iv u3, iv 2, rv b1, .val (.long (-1)), .second, iv 1] []) _ _ _
    refine zlload X7 hx hby at_210 rfl (ziload X7 hx hby at_212 rfl (zcalls X7 hx hby at_214 hZ hown (w46 hw) (w47 hw) (w20 hw) (w48 hw) e7 (c89_next l hw [] ⟨S_w_PAUSE, S_w_RESUME, S_w_STEP, E_w_PAUSE, E_w_RESUME, E_w_STEP, F_w_PAUSE_ordinal, F_w_RESUME_ordinal, F_w_STEP_ordinal, S_w_arr0, A_w_arr0, A_w_arr0_0, A_w_arr0_2, A_w_arr0_1⟩ O7 (Nat.le_trans Z0 K7.1) ) (by decide) (by rw [hml]; rfl) 0 (Nat.le_of_eq rfl) (by decide) (by decide) (by decide) (by decide) pd_6 rfl (argsL := [(.long (-1)), (.int 2)]) (st := []) rfl (zpureK ⟨rfl, rfl⟩ fun T8 X8 e8 => ?_)))
    show zEnds p e below s T8 (mkF m 217 #[iv u0, iv u1, iv u2, iv u3, iv 2, rv b1, .val (.long (-1)), .second, iv 1] [(.long (-1))]) _ _ _
    refine zlstore X8 hx hby at_217 (L' := #[iv u0, iv u1, iv u2, iv u3, iv 2, rv b1, .val (.long (-1)), .second, iv 1]) rfl (ziload X8 hx hby at_219 rfl (zifNo X8 hx hby at_221 (by decide) (zaload X8 hx hby at_224 rfl rfl (zcallv X8 hx hby at_226 hZ hown (w13 hw) (w14 hw) (notFace_of_selects (args := #[]) (mvT hZ (w16 hw))) (w16 hw) (w15 hw) (w17 hw) (w2 hw) e8 E7_b1 (c3_isSpent l hw [] ⟨S_w_PAUSE, S_w_RESUME, S_w_STEP, E_w_PAUSE, E_w_RESUME, E_w_STEP, F_w_PAUSE_ordinal, F_w_RESUME_ordinal, F_w_STEP_ordinal, S_w_arr0, A_w_arr0, A_w_arr0_0, A_w_arr0_2, A_w_arr0_1⟩ O7 (Nat.le_trans Z0 K7.1) b1 g_b1 E7_b1 F7_b1_left) (by decide) (by rw [hml]; rfl) 0 (Nat.le_of_eq rfl) (by decide) (by decide) (by decide) (by decide) pd_1 rfl (argsL := []) (st := []) rfl (zpureK ⟨rfl, rfl⟩ fun T9 X9 e9 => ?_)))))
    show zEnds p e below s T9 (mkF m 229 #[iv u0, iv u1, iv u2, iv u3, iv 2, rv b1, .val (.long (-1)), .second, iv 1] [(.int 0)]) _ _ _
    refine zlload X9 hx hby at_229 rfl (zlconst X9 hx hby at_231 (z := (0 : Int64)) rfl (zlcmp X9 hx hby at_232 (-1 : Int32) (by decide) (zifYes X9 hx hby at_233 240 (by decide) (by decide) (by decide) (ziconst X9 hx hby at_240 (z := (0 : Int32)) rfl (zicmpNo X9 hx hby at_241 (by decide) (ziconst X9 hx hby at_244 (z := (1 : Int32)) rfl (zgoto X9 hx hby at_245 249 (by decide) (by decide) (zistore X9 hx hby at_249 (L' := #[iv u0, iv u1, iv u2, iv u3, iv 2, rv b1, .val (.long (-1)), .second, iv 1]) rfl (ziload X9 hx hby at_251 rfl ?_)))))))))
    show zEnds p e below s T9 (mkF m 253 #[iv u0, iv u1, iv u2, iv u3, iv 2, rv b1, .val (.long (-1)), .second, iv 1] [(.int 1)]) _ _ _
    exact zretZ X9 hx hby at_253 hret hlk (by simp) rfl (by decide) (by decide) ⟨rfl, N7⟩
  · show zEnds p e below s T0 (mkF m 203 #[iv u0, iv u1, iv u2, iv u3, iv 3, rv b1, .val (.long (-1)), .second, iv 1] []) _ _ _
    refine zaload X0 hx hby at_203 rfl rfl (ziload X0 hx hby at_205 rfl (zcalls X0 hx hby at_207 hZ hown (w18 hw) (w19 hw) (w20 hw) (w21 hw) e0 (c91_apply l hw [] ⟨S_w_PAUSE, S_w_RESUME, S_w_STEP, E_w_PAUSE, E_w_RESUME, E_w_STEP, F_w_PAUSE_ordinal, F_w_RESUME_ordinal, F_w_STEP_ordinal, S_w_arr0, A_w_arr0, A_w_arr0_0, A_w_arr0_2, A_w_arr0_1⟩ O0 (Nat.le_trans Z0 K0.1) b1 g_b1 E_b1 F_b1_left) (by decide) (by rw [hml]; rfl) 0 (Nat.le_of_eq rfl) (by decide) (by decide) (by decide) (by decide) pd_5 rfl (argsL := [(.ref b1), (.int 3)]) (st := []) rfl (zpureK ⟨rfl, rfl⟩ fun T10 X10 e10 => ?_)))
    show zEnds p e below s T10 (mkF m 210 #[iv u0, iv u1, iv u2, iv u3, iv 3, rv b1, .val (.long (-1)), .second, iv 1] []) _ _ _
    refine zlload X10 hx hby at_210 rfl (ziload X10 hx hby at_212 rfl (zcalls X10 hx hby at_214 hZ hown (w46 hw) (w47 hw) (w20 hw) (w48 hw) e10 (c95_next l hw [] ⟨S_w_PAUSE, S_w_RESUME, S_w_STEP, E_w_PAUSE, E_w_RESUME, E_w_STEP, F_w_PAUSE_ordinal, F_w_RESUME_ordinal, F_w_STEP_ordinal, S_w_arr0, A_w_arr0, A_w_arr0_0, A_w_arr0_2, A_w_arr0_1⟩ O0 (Nat.le_trans Z0 K0.1) ) (by decide) (by rw [hml]; rfl) 0 (Nat.le_of_eq rfl) (by decide) (by decide) (by decide) (by decide) pd_6 rfl (argsL := [(.long (-1)), (.int 3)]) (st := []) rfl (zpureK ⟨rfl, rfl⟩ fun T11 X11 e11 => ?_)))
    show zEnds p e below s T11 (mkF m 217 #[iv u0, iv u1, iv u2, iv u3, iv 3, rv b1, .val (.long (-1)), .second, iv 1] [(.long (-1))]) _ _ _
    refine zlstore X11 hx hby at_217 (L' := #[iv u0, iv u1, iv u2, iv u3, iv 3, rv b1, .val (.long (-1)), .second, iv 1]) rfl (ziload X11 hx hby at_219 rfl (zifNo X11 hx hby at_221 (by decide) (zaload X11 hx hby at_224 rfl rfl (zcallv X11 hx hby at_226 hZ hown (w13 hw) (w14 hw) (notFace_of_selects (args := #[]) (mvT hZ (w16 hw))) (w16 hw) (w15 hw) (w17 hw) (w2 hw) e11 E_b1 (c3_isSpent l hw [] ⟨S_w_PAUSE, S_w_RESUME, S_w_STEP, E_w_PAUSE, E_w_RESUME, E_w_STEP, F_w_PAUSE_ordinal, F_w_RESUME_ordinal, F_w_STEP_ordinal, S_w_arr0, A_w_arr0, A_w_arr0_0, A_w_arr0_2, A_w_arr0_1⟩ O0 (Nat.le_trans Z0 K0.1) b1 g_b1 E_b1 F_b1_left) (by decide) (by rw [hml]; rfl) 0 (Nat.le_of_eq rfl) (by decide) (by decide) (by decide) (by decide) pd_1 rfl (argsL := []) (st := []) rfl (zpureK ⟨rfl, rfl⟩ fun T12 X12 e12 => ?_)))))
    show zEnds p e below s T12 (mkF m 229 #[iv u0, iv u1, iv u2, iv u3, iv 3, rv b1, .val (.long (-1)), .second, iv 1] [(.int 0)]) _ _ _
    refine zlload X12 hx hby at_229 rfl (zlconst X12 hx hby at_231 (z := (0 : Int64)) rfl (zlcmp X12 hx hby at_232 (-1 : Int32) (by decide) (zifYes X12 hx hby at_233 240 (by decide) (by decide) (by decide) (ziconst X12 hx hby at_240 (z := (0 : Int32)) rfl (zicmpNo X12 hx hby at_241 (by decide) (ziconst X12 hx hby at_244 (z := (1 : Int32)) rfl (zgoto X12 hx hby at_245 249 (by decide) (by decide) (zistore X12 hx hby at_249 (L' := #[iv u0, iv u1, iv u2, iv u3, iv 3, rv b1, .val (.long (-1)), .second, iv 1]) rfl (ziload X12 hx hby at_251 rfl ?_)))))))))
    show zEnds p e below s T12 (mkF m 253 #[iv u0, iv u1, iv u2, iv u3, iv 3, rv b1, .val (.long (-1)), .second, iv 1] [(.int 1)]) _ _ _
    exact zretZ X12 hx hby at_253 hret hlk (by simp) rfl (by decide) (by decide) ⟨rfl, N0⟩
set_option maxRecDepth 65536 in
set_option maxHeartbeats 40000000 in
theorem c99_min (l : Launch) {Z : State} {a0 : Array Value} (hw : ∀ d ∈ tables_1, d.before a0 Z = true) (ws : List Jvm.Cond) {w_PAUSE w_RESUME w_STEP w_arr0 : Addr} {cl_arr0 : Cell} {n0 : Nat} {h0 : Heap} (C : Ctx Z w_PAUSE w_RESUME w_STEP w_arr0 cl_arr0) (O0 : Old Z n0 h0) (Z0 : n0 ≤ h0.size)  : zCon l Z (⟨"java/lang/Math", "min", "(JJ)J"⟩ : MethodName) jdk_29_method_70_code 4 (some .long) ws ({ frames := 0, cells := 0, slots := 0, locals := 0 } : Room) #[(.long 0), (.long 1)] h0 (zSame (some (.long 0)) h0) := by
  obtain ⟨S_w_PAUSE, S_w_RESUME, S_w_STEP, E_w_PAUSE, E_w_RESUME, E_w_STEP, F_w_PAUSE_ordinal, F_w_RESUME_ordinal, F_w_STEP_ordinal, S_w_arr0, A_w_arr0, A_w_arr0_0, A_w_arr0_2, A_w_arr0_1⟩ := C
  refine zenter (Jvm.Free.JP.mathPlain rfl (by decide +kernel)) (L0 := #[.val (.long 0), .second, .val (.long 1), .second]) (fun m => by first | rfl | simp [entryFrame, mkF, argsToLocals, Value.category, maxLocals]) ?_
  intro p e s m below meth c T0 hx hZ hby hml hown0 hnm hret hlk X0 e0
  have hown : s.vm.findClass "java/lang/Math" = some m.cls := hown0
  have K0 := Keep.refl h0 []
  have N0 := Fr.nil n0
  show zEnds p e below s T0 (mkF m 0 #[.val (.long 0), .second, .val (.long 1), .second] []) _ _ _
  refine zlloadN X0 hx hby d_jdk_29_method_70_0 rfl (zlloadN X0 hx hby d_jdk_29_method_70_1 rfl (zlcmp X0 hx hby d_jdk_29_method_70_2 (-1 : Int32) (by decide) (zifNo X0 hx hby d_jdk_29_method_70_3 (by decide) (zlloadN X0 hx hby d_jdk_29_method_70_6 rfl (zgoto X0 hx hby d_jdk_29_method_70_7 11 (by decide) (by decide) ?_)))))
  show zEnds p e below s T0 (mkF m 11 #[.val (.long 0), .second, .val (.long 1), .second] [(.long 0)]) _ _ _
  exact zretL X0 hx hby d_jdk_29_method_70_11 hret hlk (by decide) (by decide) ⟨rfl, e0, rfl⟩
set_option maxRecDepth 65536 in
set_option maxHeartbeats 40000000 in
theorem c98_obey (l : Launch) {Z : State} {a0 : Array Value} (hw : ∀ d ∈ tables_1, d.before a0 Z = true) (ws : List Jvm.Cond) {w_PAUSE w_RESUME w_STEP w_arr0 : Addr} {cl_arr0 : Cell} {n0 : Nat} {h0 : Heap} (C : Ctx Z w_PAUSE w_RESUME w_STEP w_arr0 cl_arr0) (O0 : Old Z n0 h0) (Z0 : n0 ≤ h0.size) (b900 : Addr) (g_b900 : n0 ≤ b900) (E_b900 : Exa Z h0 b900 "heapglass/core/wire/Allowance") (F_b900_left : Fld Z h0 b900 "heapglass/core/wire/Allowance" "left" "J" (.long 0)) : zCon l Z (⟨"heapglass/core/wire/Allowance", "obey", "(Lheapglass/core/wire/Control;)V"⟩ : MethodName) prog_9_method_2_code 2 none ws ({ frames := 1, cells := 0, slots := 0, locals := 16 } : Room) #[(.ref b900), (.ref w_PAUSE)] h0 (fun v h L => v = none ∧ Fr n0 L ∧ Keep h0 h [b900] ∧ Exa Z h b900 "heapglass/core/wire/Allowance" ∧ Fld Z h b900 "heapglass/core/wire/Allowance" "left" "J" (.long 0)) := by
  obtain ⟨S_w_PAUSE, S_w_RESUME, S_w_STEP, E_w_PAUSE, E_w_RESUME, E_w_STEP, F_w_PAUSE_ordinal, F_w_RESUME_ordinal, F_w_STEP_ordinal, S_w_arr0, A_w_arr0, A_w_arr0_0, A_w_arr0_2, A_w_arr0_1⟩ := C
  refine zenter (plainFor_of_name pn_0) (L0 := #[rv b900, rv w_PAUSE]) (fun m => by first | rfl | simp [entryFrame, mkF, argsToLocals, Value.category, maxLocals]) ?_
  intro p e s m below meth c T0 hx hZ hby hml hown0 hnm hret hlk X0 e0
  have hown : s.vm.findClass "heapglass/core/wire/Allowance" = some m.cls := hown0
  have K0 := Keep.refl h0 [b900]
  have N0 := Fr.nil n0
  show zEnds p e below s T0 (mkF m 0 #[rv b900, rv w_PAUSE] []) _ _ _
  refine zaloadN X0 hx hby d_prog_9_method_2_0 rfl rfl (zgetstat X0 hx hby d_prog_9_method_2_1 hZ hown (host := "") (Or.inl (w30 hw)) Via.refl e0 (S_w_arr0.ext O0.2) fun T1 X1 e1 => (zaloadN X1 hx hby d_prog_9_method_2_4 rfl rfl (zcallup X1 hx hby d_prog_9_method_2_5 hZ hown (w33 hw) (w34 hw) (w35 hw) (w37 hw) (w36 hw) (w39 hw) (w38 hw) e1 (E_w_PAUSE.ext O0.2) (c7_ordinal l hw [] ⟨S_w_PAUSE, S_w_RESUME, S_w_STEP, E_w_PAUSE, E_w_RESUME, E_w_STEP, F_w_PAUSE_ordinal, F_w_RESUME_ordinal, F_w_STEP_ordinal, S_w_arr0, A_w_arr0, A_w_arr0_0, A_w_arr0_2, A_w_arr0_1⟩ O0 (Nat.le_trans Z0 K0.1) ) (by decide) (by rw [hml]; rfl) 2 (Nat.le_of_eq rfl) (by decide) (by decide) (by decide) (by decide) pd_2 rfl (argsL := []) (st := [(.ref w_arr0), (.ref b900)]) rfl (zpureK ⟨rfl, rfl⟩ fun T2 X2 e2 => ?_))))
  show zEnds p e below s T2 (mkF m 8 #[rv b900, rv w_PAUSE] [(.int 0), (.ref w_arr0), (.ref b900)]) _ _ _
  refine zialoadC X2 hx hby d_prog_9_method_2_8 hZ e2 (A_w_arr0.ext O0.2) A_w_arr0_0 (ztswIn X2 hx hby d_prog_9_method_2_9 46 (by decide) rfl (by decide) (by decide) (zaloadN X2 hx hby d_prog_9_method_2_46 rfl rfl (zgetfld X2 hx hby d_prog_9_method_2_47 hZ hown (host := "") (Or.inl (w10 hw)) Via.refl e2 F_b900_left fun T3 X3 e3 => (zlconst X3 hx hby d_prog_9_method_2_50 (z := (1 : Int64)) rfl (zcalls X3 hx hby d_prog_9_method_2_51 hZ hown (w42 hw) (w43 hw) (w44 hw) (w45 hw) e3 (c99_min l hw [] ⟨S_w_PAUSE, S_w_RESUME, S_w_STEP, E_w_PAUSE, E_w_RESUME, E_w_STEP, F_w_PAUSE_ordinal, F_w_RESUME_ordinal, F_w_STEP_ordinal, S_w_arr0, A_w_arr0, A_w_arr0_0, A_w_arr0_2, A_w_arr0_1⟩ O0 (Nat.le_trans Z0 K0.1) ) (by decide) (by rw [hml]; rfl) 1 (Nat.le_of_eq rfl) (by decide) (by decide) (by decide) (by decide) pd_3 rfl (argsL := [(.long 0), (.long 1)]) (st := [(.ref b900)]) rfl (zpureK ⟨rfl, rfl⟩ fun T4 X4 e4 => ?_))))))
  show zEnds p e below s T4 (mkF m 54 #[rv b900, rv w_PAUSE] [(.long 0), (.ref b900)]) _ _ _
  refine zgoto X4 hx hby d_prog_9_method_2_54 84 (by decide) (by decide) (zputfld X4 hx hby d_prog_9_method_2_84 hZ hown (host := "") (Or.inl (w10 hw)) Via.refl e4 F_b900_left E_b900 (Or.inl (w11 hw)) (w1 hw) (ty := .long) (by decide) rfl rfl fun T5 h5 X5 e5 W5 => ?_)
  have F5_b900_left : Fld Z h5 b900 "heapglass/core/wire/Allowance" "left" "J" (.long 0) := F_b900_left.same W5
  have E5_b900 := E_b900.wr W5
  have O5 := O0.wr W5 g_b900
  have K5 := Keep.wr K0 W5 (Or.inl (List.mem_of_getElem? (i := 0) rfl))
  have N5 := Fr.snoc X5 N0 g_b900
  show zEnds p e below s T5 (mkF m 87 #[rv b900, rv w_PAUSE] []) _ _ _
  exact zretV X5 hx hby d_prog_9_method_2_87 hret hlk (by decide) (by decide) (by rw [e5]; exact ⟨rfl, N5, K5, E5_b900, F5_b900_left⟩)
set_option maxRecDepth 65536 in
set_option maxHeartbeats 40000000 in
theorem c97_apply (l : Launch) {Z : State} {a0 : Array Value} (hw : ∀ d ∈ tables_1, d.before a0 Z = true) (ws : List Jvm.Cond) {w_PAUSE w_RESUME w_STEP w_arr0 : Addr} {cl_arr0 : Cell} {n0 : Nat} {h0 : Heap} (C : Ctx Z w_PAUSE w_RESUME w_STEP w_arr0 cl_arr0) (O0 : Old Z n0 h0) (Z0 : n0 ≤ h0.size) (b900 : Addr) (g_b900 : n0 ≤ b900) (E_b900 : Exa Z h0 b900 "heapglass/core/wire/Allowance") (F_b900_left : Fld Z h0 b900 "heapglass/core/wire/Allowance" "left" "J" (.long 0)) : zCon l Z (⟨"heapglass/core/wire/AllowanceIsSpentPinLaw", "apply", "(Lheapglass/core/wire/Allowance;I)V"⟩ : MethodName) method_3_code 2 none ws ({ frames := 2, cells := 0, slots := 0, locals := 29 } : Room) #[(.ref b900), (.int 0)] h0 (fun v h L => v = none ∧ Fr n0 L ∧ Keep h0 h [b900] ∧ Exa Z h b900 "heapglass/core/wire/Allowance" ∧ Fld Z h b900 "heapglass/core/wire/Allowance" "left" "J" (.long 0)) := by
  obtain ⟨S_w_PAUSE, S_w_RESUME, S_w_STEP, E_w_PAUSE, E_w_RESUME, E_w_STEP, F_w_PAUSE_ordinal, F_w_RESUME_ordinal, F_w_STEP_ordinal, S_w_arr0, A_w_arr0, A_w_arr0_0, A_w_arr0_2, A_w_arr0_1⟩ := C
  refine zenter (plainFor_of_name pn_2) (L0 := #[rv b900, iv 0]) (fun m => by first | rfl | simp [entryFrame, mkF, argsToLocals, Value.category, maxLocals]) ?_
  intro p e s m below meth c T0 hx hZ hby hml hown0 hnm hret hlk X0 e0
  have hown : s.vm.findClass "heapglass/core/wire/AllowanceIsSpentPinLaw" = some m.cls := hown0
  have K0 := Keep.refl h0 [b900]
  have N0 := Fr.nil n0
  show zEnds p e below s T0 (mkF m 0 #[rv b900, iv 0] []) _ _ _
  refine ziloadN X0 hx hby d_method_3_0 rfl (zifNo X0 hx hby d_method_3_1 (by decide) (zaloadN X0 hx hby d_method_3_4 rfl rfl (zgetstat X0 hx hby d_method_3_5 hZ hown (host := "") (Or.inl (w22 hw)) Via.refl e0 (S_w_PAUSE.ext O0.2) fun T1 X1 e1 => (zcallv X1 hx hby d_method_3_8 hZ hown (w25 hw) (w26 hw) (notFace_of_selects (args := #[]) (mvT hZ (w28 hw))) (w28 hw) (w27 hw) (w29 hw) (w2 hw) e1 E_b900 (c98_obey l hw [] ⟨S_w_PAUSE, S_w_RESUME, S_w_STEP, E_w_PAUSE, E_w_RESUME, E_w_STEP, F_w_PAUSE_ordinal, F_w_RESUME_ordinal, F_w_STEP_ordinal, S_w_arr0, A_w_arr0, A_w_arr0_0, A_w_arr0_2, A_w_arr0_1⟩ O0 (Nat.le_trans Z0 K0.1) b900 g_b900 E_b900 F_b900_left) (by decide) (by rw [hml]; rfl) 0 (Nat.le_of_eq rfl) (by decide) (by decide) (by decide) (by decide) pd_4 rfl (argsL := [(.ref w_PAUSE)]) (st := []) rfl fun T2 h2 v2 L2 e2 X2 q2 => ?_))))
  obtain ⟨rfl, N2q, K2q, E2_b900, F2_b900_left⟩ := q2
  have O2 := O0.keep K2q (allS g_b900 all0)
  have K2 := Keep.trans K0 K2q (allS (Or.inl (List.mem_of_getElem? (i := 0) rfl)) all0)
  have N2 := Fr.app N0 N2q
  show zEnds p e below s T2 (mkF m 11 #[rv b900, iv 0] []) _ _ _
  refine zgoto X2 hx hby d_method_3_11 48 (by decide) (by decide) ?_
  show zEnds p e below s T2 (mkF m 48 #[rv b900, iv 0] []) _ _ _
  exact zretV X2 hx hby d_method_3_48 hret hlk (by decide) (by decide) (by rw [e2]; exact ⟨rfl, N2, K2, E2_b900, F2_b900_left⟩)
set_option maxRecDepth 65536 in
set_option maxHeartbeats 40000000 in
theorem c103_next (l : Launch) {Z : State} {a0 : Array Value} (hw : ∀ d ∈ tables_1, d.before a0 Z = true) (ws : List Jvm.Cond) {w_PAUSE w_RESUME w_STEP w_arr0 : Addr} {cl_arr0 : Cell} {n0 : Nat} {h0 : Heap} (C : Ctx Z w_PAUSE w_RESUME w_STEP w_arr0 cl_arr0) (O0 : Old Z n0 h0) (Z0 : n0 ≤ h0.size)  : zCon l Z (⟨"heapglass/core/wire/AllowanceIsSpentPinLaw", "next", "(JI)J"⟩ : MethodName) method_2_code 3 (some .long) ws ({ frames := 1, cells := 0, slots := 0, locals := 15 } : Room) #[(.long 0), (.int 0)] h0 (zSame (some (.long 0)) h0) := by
  obtain ⟨S_w_PAUSE, S_w_RESUME, S_w_STEP, E_w_PAUSE, E_w_RESUME, E_w_STEP, F_w_PAUSE_ordinal, F_w_RESUME_ordinal, F_w_STEP_ordinal, S_w_arr0, A_w_arr0, A_w_arr0_0, A_w_arr0_2, A_w_arr0_1⟩ := C
  refine zenter (plainFor_of_name pn_2) (L0 := #[.val (.long 0), .second, iv 0]) (fun m => by first | rfl | simp [entryFrame, mkF, argsToLocals, Value.category, maxLocals]) ?_
  intro p e s m below meth c T0 hx hZ hby hml hown0 hnm hret hlk X0 e0
  have hown : s.vm.findClass "heapglass/core/wire/AllowanceIsSpentPinLaw" = some m.cls := hown0
  have K0 := Keep.refl h0 []
  have N0 := Fr.nil n0
  show zEnds p e below s T0 (mkF m 0 #[.val (.long 0), .second, iv 0] []) _ _ _
  refine ziloadN X0 hx hby d_method_2_0 rfl (zifNo X0 hx hby d_method_2_1 (by decide) (zlloadN X0 hx hby d_method_2_4 rfl (zldc2J X0 hx hby d_method_2_5 (-1 : Int64) hZ hown (w12 hw) (zlcmp X0 hx hby d_method_2_8 (1 : Int32) (by decide) (zifYes X0 hx hby d_method_2_9 16 (by decide) (by decide) (by decide) (zlloadN X0 hx hby d_method_2_16 rfl (zlconst X0 hx hby d_method_2_17 (z := (1 : Int64)) rfl (zcalls X0 hx hby d_method_2_18 hZ hown (w49 hw) (w43 hw) (w44 hw) (w45 hw) e0 (c99_min l hw [] ⟨S_w_PAUSE, S_w_RESUME, S_w_STEP, E_w_PAUSE, E_w_RESUME, E_w_STEP, F_w_PAUSE_ordinal, F_w_RESUME_ordinal, F_w_STEP_ordinal, S_w_arr0, A_w_arr0, A_w_arr0_0, A_w_arr0_2, A_w_arr0_1⟩ O0 (Nat.le_trans Z0 K0.1) ) (by decide) (by rw [hml]; rfl) 0 (Nat.le_of_eq rfl) (by decide) (by decide) (by decide) (by decide) pd_3 rfl (argsL := [(.long 0), (.long 1)]) (st := []) rfl (zpureK ⟨rfl, rfl⟩ fun T1 X1 e1 => ?_)))))))))
  show zEnds p e below s T1 (mkF m 21 #[.val (.long 0), .second, iv 0] [(.long 0)]) _ _ _
  exact zretL X1 hx hby d_method_2_21 hret hlk (by decide) (by decide) ⟨rfl, e1, rfl⟩
set_option maxRecDepth 65536 in
set_option maxHeartbeats 40000000 in
theorem c106_obey (l : Launch) {Z : State} {a0 : Array Value} (hw : ∀ d ∈ tables_1, d.before a0 Z = true) (ws : List Jvm.Cond) {w_PAUSE w_RESUME w_STEP w_arr0 : Addr} {cl_arr0 : Cell} {n0 : Nat} {h0 : Heap} (C : Ctx Z w_PAUSE w_RESUME w_STEP w_arr0 cl_arr0) (O0 : Old Z n0 h0) (Z0 : n0 ≤ h0.size) (b900 : Addr) (g_b900 : n0 ≤ b900) (E_b900 : Exa Z h0 b900 "heapglass/core/wire/Allowance") (F_b900_left : Fld Z h0 b900 "heapglass/core/wire/Allowance" "left" "J" (.long 0)) : zCon l Z (⟨"heapglass/core/wire/Allowance", "obey", "(Lheapglass/core/wire/Control;)V"⟩ : MethodName) prog_9_method_2_code 2 none ws ({ frames := 1, cells := 0, slots := 0, locals := 14 } : Room) #[(.ref b900), (.ref w_STEP)] h0 (fun v h L => v = none ∧ Fr n0 L ∧ Keep h0 h [b900] ∧ Exa Z h b900 "heapglass/core/wire/Allowance" ∧ Fld Z h b900 "heapglass/core/wire/Allowance" "left" "J" (.long 1)) := by
  obtain ⟨S_w_PAUSE, S_w_RESUME, S_w_STEP, E_w_PAUSE, E_w_RESUME, E_w_STEP, F_w_PAUSE_ordinal, F_w_RESUME_ordinal, F_w_STEP_ordinal, S_w_arr0, A_w_arr0, A_w_arr0_0, A_w_arr0_2, A_w_arr0_1⟩ := C
  refine zenter (plainFor_of_name pn_0) (L0 := #[rv b900, rv w_STEP]) (fun m => by first | rfl | simp [entryFrame, mkF, argsToLocals, Value.category, maxLocals]) ?_
  intro p e s m below meth c T0 hx hZ hby hml hown0 hnm hret hlk X0 e0
  have hown : s.vm.findClass "heapglass/core/wire/Allowance" = some m.cls := hown0
  have K0 := Keep.refl h0 [b900]
  have N0 := Fr.nil n0
  show zEnds p e below s T0 (mkF m 0 #[rv b900, rv w_STEP] []) _ _ _
  refine zaloadN X0 hx hby d_prog_9_method_2_0 rfl rfl (zgetstat X0 hx hby d_prog_9_method_2_1 hZ hown (host := "") (Or.inl (w30 hw)) Via.refl e0 (S_w_arr0.ext O0.2) fun T1 X1 e1 => (zaloadN X1 hx hby d_prog_9_method_2_4 rfl rfl (zcallup X1 hx hby d_prog_9_method_2_5 hZ hown (w33 hw) (w34 hw) (w35 hw) (w37 hw) (w36 hw) (w39 hw) (w38 hw) e1 (E_w_STEP.ext O0.2) (c27_ordinal l hw [] ⟨S_w_PAUSE, S_w_RESUME, S_w_STEP, E_w_PAUSE, E_w_RESUME, E_w_STEP, F_w_PAUSE_ordinal, F_w_RESUME_ordinal, F_w_STEP_ordinal, S_w_arr0, A_w_arr0, A_w_arr0_0, A_w_arr0_2, A_w_arr0_1⟩ O0 (Nat.le_trans Z0 K0.1) ) (by decide) (by rw [hml]; rfl) 2 (Nat.le_of_eq rfl) (by decide) (by decide) (by decide) (by decide) pd_2 rfl (argsL := []) (st := [(.ref w_arr0), (.ref b900)]) rfl (zpureK ⟨rfl, rfl⟩ fun T2 X2 e2 => ?_))))
  show zEnds p e below s T2 (mkF m 8 #[rv b900, rv w_STEP] [(.int 1), (.ref w_arr0), (.ref b900)]) _ _ _
  refine zialoadC X2 hx hby d_prog_9_method_2_8 hZ e2 (A_w_arr0.ext O0.2) A_w_arr0_1 (ztswIn X2 hx hby d_prog_9_method_2_9 57 (by decide) rfl (by decide) (by decide) (zaloadN X2 hx hby d_prog_9_method_2_57 rfl rfl (zgetfld X2 hx hby d_prog_9_method_2_58 hZ hown (host := "") (Or.inl (w10 hw)) Via.refl e2 F_b900_left fun T3 X3 e3 => (zldc2J X3 hx hby d_prog_9_method_2_61 (9223372036854775807 : Int64) hZ hown (w9 hw) (zlcmp X3 hx hby d_prog_9_method_2_64 (-1 : Int32) (by decide) (zifYes X3 hx hby d_prog_9_method_2_65 72 (by decide) (by decide) (by decide) (zaloadN X3 hx hby d_prog_9_method_2_72 rfl rfl (zgetfld X3 hx hby d_prog_9_method_2_73 hZ hown (host := "") (Or.inl (w10 hw)) Via.refl e3 F_b900_left fun T4 X4 e4 => (zlconst X4 hx hby d_prog_9_method_2_76 (z := (1 : Int64)) rfl ?_)))))))))
  show zEnds p e below s T4 (mkF m 77 #[rv b900, rv w_STEP] [(.long 1), (.long 0), (.ref b900)]) _ _ _
  refine zladd X4 hx hby d_prog_9_method_2_77 (1 : Int64) (by decide) (zgoto X4 hx hby d_prog_9_method_2_78 84 (by decide) (by decide) (zputfld X4 hx hby d_prog_9_method_2_84 hZ hown (host := "") (Or.inl (w10 hw)) Via.refl e4 F_b900_left E_b900 (Or.inl (w11 hw)) (w1 hw) (ty := .long) (by decide) rfl rfl fun T5 h5 X5 e5 W5 => ?_))
  have F5_b900_left : Fld Z h5 b900 "heapglass/core/wire/Allowance" "left" "J" (.long 1) := F_b900_left.same W5
  have E5_b900 := E_b900.wr W5
  have O5 := O0.wr W5 g_b900
  have K5 := Keep.wr K0 W5 (Or.inl (List.mem_of_getElem? (i := 0) rfl))
  have N5 := Fr.snoc X5 N0 g_b900
  show zEnds p e below s T5 (mkF m 87 #[rv b900, rv w_STEP] []) _ _ _
  exact zretV X5 hx hby d_prog_9_method_2_87 hret hlk (by decide) (by decide) (by rw [e5]; exact ⟨rfl, N5, K5, E5_b900, F5_b900_left⟩)
set_option maxRecDepth 65536 in
set_option maxHeartbeats 40000000 in
theorem c105_apply (l : Launch) {Z : State} {a0 : Array Value} (hw : ∀ d ∈ tables_1, d.before a0 Z = true) (ws : List Jvm.Cond) {w_PAUSE w_RESUME w_STEP w_arr0 : Addr} {cl_arr0 : Cell} {n0 : Nat} {h0 : Heap} (C : Ctx Z w_PAUSE w_RESUME w_STEP w_arr0 cl_arr0) (O0 : Old Z n0 h0) (Z0 : n0 ≤ h0.size) (b900 : Addr) (g_b900 : n0 ≤ b900) (E_b900 : Exa Z h0 b900 "heapglass/core/wire/Allowance") (F_b900_left : Fld Z h0 b900 "heapglass/core/wire/Allowance" "left" "J" (.long 0)) : zCon l Z (⟨"heapglass/core/wire/AllowanceIsSpentPinLaw", "apply", "(Lheapglass/core/wire/Allowance;I)V"⟩ : MethodName) method_3_code 2 none ws ({ frames := 2, cells := 0, slots := 0, locals := 27 } : Room) #[(.ref b900), (.int 1)] h0 (fun v h L => v = none ∧ Fr n0 L ∧ Keep h0 h [b900] ∧ Exa Z h b900 "heapglass/core/wire/Allowance" ∧ Fld Z h b900 "heapglass/core/wire/Allowance" "left" "J" (.long 1)) := by
  obtain ⟨S_w_PAUSE, S_w_RESUME, S_w_STEP, E_w_PAUSE, E_w_RESUME, E_w_STEP, F_w_PAUSE_ordinal, F_w_RESUME_ordinal, F_w_STEP_ordinal, S_w_arr0, A_w_arr0, A_w_arr0_0, A_w_arr0_2, A_w_arr0_1⟩ := C
  refine zenter (plainFor_of_name pn_2) (L0 := #[rv b900, iv 1]) (fun m => by first | rfl | simp [entryFrame, mkF, argsToLocals, Value.category, maxLocals]) ?_
  intro p e s m below meth c T0 hx hZ hby hml hown0 hnm hret hlk X0 e0
  have hown : s.vm.findClass "heapglass/core/wire/AllowanceIsSpentPinLaw" = some m.cls := hown0
  have K0 := Keep.refl h0 [b900]
  have N0 := Fr.nil n0
  show zEnds p e below s T0 (mkF m 0 #[rv b900, iv 1] []) _ _ _
  refine ziloadN X0 hx hby d_method_3_0 rfl (zifYes X0 hx hby d_method_3_1 14 (by decide) (by decide) (by decide) (ziloadN X0 hx hby d_method_3_14 rfl (ziconst X0 hx hby d_method_3_15 (z := (1 : Int32)) rfl (zicmpNo X0 hx hby d_method_3_16 (by decide) (zaloadN X0 hx hby d_method_3_19 rfl rfl (zgetstat X0 hx hby d_method_3_20 hZ hown (host := "") (Or.inl (w57 hw)) Via.refl e0 (S_w_STEP.ext O0.2) fun T1 X1 e1 => (zcallv X1 hx hby d_method_3_23 hZ hown (w25 hw) (w26 hw) (notFace_of_selects (args := #[]) (mvT hZ (w28 hw))) (w28 hw) (w27 hw) (w29 hw) (w2 hw) e1 E_b900 (c106_obey l hw [] ⟨S_w_PAUSE, S_w_RESUME, S_w_STEP, E_w_PAUSE, E_w_RESUME, E_w_STEP, F_w_PAUSE_ordinal, F_w_RESUME_ordinal, F_w_STEP_ordinal, S_w_arr0, A_w_arr0, A_w_arr0_0, A_w_arr0_2, A_w_arr0_1⟩ O0 (Nat.le_trans Z0 K0.1) b900 g_b900 E_b900 F_b900_left) (by decide) (by rw [hml]; rfl) 0 (Nat.le_of_eq rfl) (by decide) (by decide) (by decide) (by decide) pd_4 rfl (argsL := [(.ref w_STEP)]) (st := []) rfl fun T2 h2 v2 L2 e2 X2 q2 => ?_)))))))
  obtain ⟨rfl, N2q, K2q, E2_b900, F2_b900_left⟩ := q2
  have O2 := O0.keep K2q (allS g_b900 all0)
  have K2 := Keep.trans K0 K2q (allS (Or.inl (List.mem_of_getElem? (i := 0) rfl)) all0)
  have N2 := Fr.app N0 N2q
  show zEnds p e below s T2 (mkF m 26 #[rv b900, iv 1] []) _ _ _
  refine zgoto X2 hx hby d_method_3_26 48 (by decide) (by decide) ?_
  show zEnds p e below s T2 (mkF m 48 #[rv b900, iv 1] []) _ _ _
  exact zretV X2 hx hby d_method_3_48 hret hlk (by decide) (by decide) (by rw [e2]; exact ⟨rfl, N2, K2, E2_b900, F2_b900_left⟩)
set_option maxRecDepth 65536 in
set_option maxHeartbeats 40000000 in
theorem c109_next (l : Launch) {Z : State} {a0 : Array Value} (hw : ∀ d ∈ tables_1, d.before a0 Z = true) (ws : List Jvm.Cond) {w_PAUSE w_RESUME w_STEP w_arr0 : Addr} {cl_arr0 : Cell} {n0 : Nat} {h0 : Heap} (C : Ctx Z w_PAUSE w_RESUME w_STEP w_arr0 cl_arr0) (O0 : Old Z n0 h0) (Z0 : n0 ≤ h0.size)  : zCon l Z (⟨"heapglass/core/wire/AllowanceIsSpentPinLaw", "next", "(JI)J"⟩ : MethodName) method_2_code 3 (some .long) ws ({ frames := 0, cells := 0, slots := 0, locals := 0 } : Room) #[(.long 0), (.int 1)] h0 (zSame (some (.long 1)) h0) := by
  obtain ⟨S_w_PAUSE, S_w_RESUME, S_w_STEP, E_w_PAUSE, E_w_RESUME, E_w_STEP, F_w_PAUSE_ordinal, F_w_RESUME_ordinal, F_w_STEP_ordinal, S_w_arr0, A_w_arr0, A_w_arr0_0, A_w_arr0_2, A_w_arr0_1⟩ := C
  refine zenter (plainFor_of_name pn_2) (L0 := #[.val (.long 0), .second, iv 1]) (fun m => by first | rfl | simp [entryFrame, mkF, argsToLocals, Value.category, maxLocals]) ?_
  intro p e s m below meth c T0 hx hZ hby hml hown0 hnm hret hlk X0 e0
  have hown : s.vm.findClass "heapglass/core/wire/AllowanceIsSpentPinLaw" = some m.cls := hown0
  have K0 := Keep.refl h0 []
  have N0 := Fr.nil n0
  show zEnds p e below s T0 (mkF m 0 #[.val (.long 0), .second, iv 1] []) _ _ _
  refine ziloadN X0 hx hby d_method_2_0 rfl (zifYes X0 hx hby d_method_2_1 22 (by decide) (by decide) (by decide) (ziloadN X0 hx hby d_method_2_22 rfl (ziconst X0 hx hby d_method_2_23 (z := (1 : Int32)) rfl (zicmpNo X0 hx hby d_method_2_24 (by decide) (zlloadN X0 hx hby d_method_2_27 rfl (zldc2J X0 hx hby d_method_2_28 (-1 : Int64) hZ hown (w12 hw) (zlcmp X0 hx hby d_method_2_31 (1 : Int32) (by decide) (zifYes X0 hx hby d_method_2_32 39 (by decide) (by decide) (by decide) (zlloadN X0 hx hby d_method_2_39 rfl ?_)))))))))
  show zEnds p e below s T0 (mkF m 40 #[.val (.long 0), .second, iv 1] [(.long 0)]) _ _ _
  refine zlconst X0 hx hby d_method_2_40 (z := (1 : Int64)) rfl (zladd X0 hx hby d_method_2_41 (1 : Int64) (by decide) ?_)
  show zEnds p e below s T0 (mkF m 42 #[.val (.long 0), .second, iv 1] [(.long 1)]) _ _ _
  exact zretL X0 hx hby d_method_2_42 hret hlk (by decide) (by decide) ⟨rfl, e0, rfl⟩
set_option maxRecDepth 65536 in
set_option maxHeartbeats 40000000 in
theorem c112_obey (l : Launch) {Z : State} {a0 : Array Value} (hw : ∀ d ∈ tables_1, d.before a0 Z = true) (ws : List Jvm.Cond) {w_PAUSE w_RESUME w_STEP w_arr0 : Addr} {cl_arr0 : Cell} {n0 : Nat} {h0 : Heap} (C : Ctx Z w_PAUSE w_RESUME w_STEP w_arr0 cl_arr0) (O0 : Old Z n0 h0) (Z0 : n0 ≤ h0.size) (b900 : Addr) (g_b900 : n0 ≤ b900) (E_b900 : Exa Z h0 b900 "heapglass/core/wire/Allowance") (F_b900_left : Fld Z h0 b900 "heapglass/core/wire/Allowance" "left" "J" (.long 0)) : zCon l Z (⟨"heapglass/core/wire/Allowance", "obey", "(Lheapglass/core/wire/Control;)V"⟩ : MethodName) prog_9_method_2_code 2 none ws ({ frames := 1, cells := 0, slots := 0, locals := 14 } : Room) #[(.ref b900), (.ref w_RESUME)] h0 (fun v h L => v = none ∧ Fr n0 L ∧ Keep h0 h [b900] ∧ Exa Z h b900 "heapglass/core/wire/Allowance" ∧ Fld Z h b900 "heapglass/core/wire/Allowance" "left" "J" (.long 9223372036854775807)) := by
  obtain ⟨S_w_PAUSE, S_w_RESUME, S_w_STEP, E_w_PAUSE, E_w_RESUME, E_w_STEP, F_w_PAUSE_ordinal, F_w_RESUME_ordinal, F_w_STEP_ordinal, S_w_arr0, A_w_arr0, A_w_arr0_0, A_w_arr0_2, A_w_arr0_1⟩ := C
  refine zenter (plainFor_of_name pn_0) (L0 := #[rv b900, rv w_RESUME]) (fun m => by first | rfl | simp [entryFrame, mkF, argsToLocals, Value.category, maxLocals]) ?_
  intro p e s m below meth c T0 hx hZ hby hml hown0 hnm hret hlk X0 e0
  have hown : s.vm.findClass "heapglass/core/wire/Allowance" = some m.cls := hown0
  have K0 := Keep.refl h0 [b900]
  have N0 := Fr.nil n0
  show zEnds p e below s T0 (mkF m 0 #[rv b900, rv w_RESUME] []) _ _ _
  refine zaloadN X0 hx hby d_prog_9_method_2_0 rfl rfl (zgetstat X0 hx hby d_prog_9_method_2_1 hZ hown (host := "") (Or.inl (w30 hw)) Via.refl e0 (S_w_arr0.ext O0.2) fun T1 X1 e1 => (zaloadN X1 hx hby d_prog_9_method_2_4 rfl rfl (zcallup X1 hx hby d_prog_9_method_2_5 hZ hown (w33 hw) (w34 hw) (w35 hw) (w37 hw) (w36 hw) (w39 hw) (w38 hw) e1 (E_w_RESUME.ext O0.2) (c37_ordinal l hw [] ⟨S_w_PAUSE, S_w_RESUME, S_w_STEP, E_w_PAUSE, E_w_RESUME, E_w_STEP, F_w_PAUSE_ordinal, F_w_RESUME_ordinal, F_w_STEP_ordinal, S_w_arr0, A_w_arr0, A_w_arr0_0, A_w_arr0_2, A_w_arr0_1⟩ O0 (Nat.le_trans Z0 K0.1) ) (by decide) (by rw [hml]; rfl) 2 (Nat.le_of_eq rfl) (by decide) (by decide) (by decide) (by decide) pd_2 rfl (argsL := []) (st := [(.ref w_arr0), (.ref b900)]) rfl (zpureK ⟨rfl, rfl⟩ fun T2 X2 e2 => ?_))))
  show zEnds p e below s T2 (mkF m 8 #[rv b900, rv w_RESUME] [(.int 2), (.ref w_arr0), (.ref b900)]) _ _ _
  refine zialoadC X2 hx hby d_prog_9_method_2_8 hZ e2 (A_w_arr0.ext O0.2) A_w_arr0_2 (ztswIn X2 hx hby d_prog_9_method_2_9 81 (by decide) rfl (by decide) (by decide) (zldc2J X2 hx hby d_prog_9_method_2_81 (9223372036854775807 : Int64) hZ hown (w9 hw) (zputfld X2 hx hby d_prog_9_method_2_84 hZ hown (host := "") (Or.inl (w10 hw)) Via.refl e2 F_b900_left E_b900 (Or.inl (w11 hw)) (w1 hw) (ty := .long) (by decide) rfl rfl fun T3 h3 X3 e3 W3 => ?_)))
  have F3_b900_left : Fld Z h3 b900 "heapglass/core/wire/Allowance" "left" "J" (.long 9223372036854775807) := F_b900_left.same W3
  have E3_b900 := E_b900.wr W3
  have O3 := O0.wr W3 g_b900
  have K3 := Keep.wr K0 W3 (Or.inl (List.mem_of_getElem? (i := 0) rfl))
  have N3 := Fr.snoc X3 N0 g_b900
  show zEnds p e below s T3 (mkF m 87 #[rv b900, rv w_RESUME] []) _ _ _
  exact zretV X3 hx hby d_prog_9_method_2_87 hret hlk (by decide) (by decide) (by rw [e3]; exact ⟨rfl, N3, K3, E3_b900, F3_b900_left⟩)
set_option maxRecDepth 65536 in
set_option maxHeartbeats 40000000 in
theorem c111_apply (l : Launch) {Z : State} {a0 : Array Value} (hw : ∀ d ∈ tables_1, d.before a0 Z = true) (ws : List Jvm.Cond) {w_PAUSE w_RESUME w_STEP w_arr0 : Addr} {cl_arr0 : Cell} {n0 : Nat} {h0 : Heap} (C : Ctx Z w_PAUSE w_RESUME w_STEP w_arr0 cl_arr0) (O0 : Old Z n0 h0) (Z0 : n0 ≤ h0.size) (b900 : Addr) (g_b900 : n0 ≤ b900) (E_b900 : Exa Z h0 b900 "heapglass/core/wire/Allowance") (F_b900_left : Fld Z h0 b900 "heapglass/core/wire/Allowance" "left" "J" (.long 0)) : zCon l Z (⟨"heapglass/core/wire/AllowanceIsSpentPinLaw", "apply", "(Lheapglass/core/wire/Allowance;I)V"⟩ : MethodName) method_3_code 2 none ws ({ frames := 2, cells := 0, slots := 0, locals := 27 } : Room) #[(.ref b900), (.int 2)] h0 (fun v h L => v = none ∧ Fr n0 L ∧ Keep h0 h [b900] ∧ Exa Z h b900 "heapglass/core/wire/Allowance" ∧ Fld Z h b900 "heapglass/core/wire/Allowance" "left" "J" (.long 9223372036854775807)) := by
  obtain ⟨S_w_PAUSE, S_w_RESUME, S_w_STEP, E_w_PAUSE, E_w_RESUME, E_w_STEP, F_w_PAUSE_ordinal, F_w_RESUME_ordinal, F_w_STEP_ordinal, S_w_arr0, A_w_arr0, A_w_arr0_0, A_w_arr0_2, A_w_arr0_1⟩ := C
  refine zenter (plainFor_of_name pn_2) (L0 := #[rv b900, iv 2]) (fun m => by first | rfl | simp [entryFrame, mkF, argsToLocals, Value.category, maxLocals]) ?_
  intro p e s m below meth c T0 hx hZ hby hml hown0 hnm hret hlk X0 e0
  have hown : s.vm.findClass "heapglass/core/wire/AllowanceIsSpentPinLaw" = some m.cls := hown0
  have K0 := Keep.refl h0 [b900]
  have N0 := Fr.nil n0
  show zEnds p e below s T0 (mkF m 0 #[rv b900, iv 2] []) _ _ _
  refine ziloadN X0 hx hby d_method_3_0 rfl (zifYes X0 hx hby d_method_3_1 14 (by decide) (by decide) (by decide) (ziloadN X0 hx hby d_method_3_14 rfl (ziconst X0 hx hby d_method_3_15 (z := (1 : Int32)) rfl (zicmpYes X0 hx hby d_method_3_16 29 (by decide) (by decide) (by decide) (ziloadN X0 hx hby d_method_3_29 rfl (ziconst X0 hx hby d_method_3_30 (z := (2 : Int32)) rfl (zicmpNo X0 hx hby d_method_3_31 (by decide) (zaloadN X0 hx hby d_method_3_34 rfl rfl (zgetstat X0 hx hby d_method_3_35 hZ hown (host := "") (Or.inl (w55 hw)) Via.refl e0 (S_w_RESUME.ext O0.2) fun T1 X1 e1 => ?_)))))))))
  show zEnds p e below s T1 (mkF m 38 #[rv b900, iv 2] [(.ref w_RESUME), (.ref b900)]) _ _ _
  refine zcallv X1 hx hby d_method_3_38 hZ hown (w25 hw) (w26 hw) (notFace_of_selects (args := #[]) (mvT hZ (w28 hw))) (w28 hw) (w27 hw) (w29 hw) (w2 hw) e1 E_b900 (c112_obey l hw [] ⟨S_w_PAUSE, S_w_RESUME, S_w_STEP, E_w_PAUSE, E_w_RESUME, E_w_STEP, F_w_PAUSE_ordinal, F_w_RESUME_ordinal, F_w_STEP_ordinal, S_w_arr0, A_w_arr0, A_w_arr0_0, A_w_arr0_2, A_w_arr0_1⟩ O0 (Nat.le_trans Z0 K0.1) b900 g_b900 E_b900 F_b900_left) (by decide) (by rw [hml]; rfl) 0 (Nat.le_of_eq rfl) (by decide) (by decide) (by decide) (by decide) pd_4 rfl (argsL := [(.ref w_RESUME)]) (st := []) rfl fun T2 h2 v2 L2 e2 X2 q2 => ?_
  obtain ⟨rfl, N2q, K2q, E2_b900, F2_b900_left⟩ := q2
  have O2 := O0.keep K2q (allS g_b900 all0)
  have K2 := Keep.trans K0 K2q (allS (Or.inl (List.mem_of_getElem? (i := 0) rfl)) all0)
  have N2 := Fr.app N0 N2q
  show zEnds p e below s T2 (mkF m 41 #[rv b900, iv 2] []) _ _ _
  refine zgoto X2 hx hby d_method_3_41 48 (by decide) (by decide) ?_
  show zEnds p e below s T2 (mkF m 48 #[rv b900, iv 2] []) _ _ _
  exact zretV X2 hx hby d_method_3_48 hret hlk (by decide) (by decide) (by rw [e2]; exact ⟨rfl, N2, K2, E2_b900, F2_b900_left⟩)
set_option maxRecDepth 65536 in
set_option maxHeartbeats 40000000 in
theorem c115_next (l : Launch) {Z : State} {a0 : Array Value} (hw : ∀ d ∈ tables_1, d.before a0 Z = true) (ws : List Jvm.Cond) {w_PAUSE w_RESUME w_STEP w_arr0 : Addr} {cl_arr0 : Cell} {n0 : Nat} {h0 : Heap} (C : Ctx Z w_PAUSE w_RESUME w_STEP w_arr0 cl_arr0) (O0 : Old Z n0 h0) (Z0 : n0 ≤ h0.size)  : zCon l Z (⟨"heapglass/core/wire/AllowanceIsSpentPinLaw", "next", "(JI)J"⟩ : MethodName) method_2_code 3 (some .long) ws ({ frames := 0, cells := 0, slots := 0, locals := 0 } : Room) #[(.long 0), (.int 2)] h0 (zSame (some (.long (-1))) h0) := by
  obtain ⟨S_w_PAUSE, S_w_RESUME, S_w_STEP, E_w_PAUSE, E_w_RESUME, E_w_STEP, F_w_PAUSE_ordinal, F_w_RESUME_ordinal, F_w_STEP_ordinal, S_w_arr0, A_w_arr0, A_w_arr0_0, A_w_arr0_2, A_w_arr0_1⟩ := C
  refine zenter (plainFor_of_name pn_2) (L0 := #[.val (.long 0), .second, iv 2]) (fun m => by first | rfl | simp [entryFrame, mkF, argsToLocals, Value.category, maxLocals]) ?_
  intro p e s m below meth c T0 hx hZ hby hml hown0 hnm hret hlk X0 e0
  have hown : s.vm.findClass "heapglass/core/wire/AllowanceIsSpentPinLaw" = some m.cls := hown0
  have K0 := Keep.refl h0 []
  have N0 := Fr.nil n0
  show zEnds p e below s T0 (mkF m 0 #[.val (.long 0), .second, iv 2] []) _ _ _
  refine ziloadN X0 hx hby d_method_2_0 rfl (zifYes X0 hx hby d_method_2_1 22 (by decide) (by decide) (by decide) (ziloadN X0 hx hby d_method_2_22 rfl (ziconst X0 hx hby d_method_2_23 (z := (1 : Int32)) rfl (zicmpYes X0 hx hby d_method_2_24 43 (by decide) (by decide) (by decide) (ziloadN X0 hx hby d_method_2_43 rfl (ziconst X0 hx hby d_method_2_44 (z := (2 : Int32)) rfl (zicmpNo X0 hx hby d_method_2_45 (by decide) (zldc2J X0 hx hby d_method_2_48 (-1 : Int64) hZ hown (w12 hw) ?_))))))))
  show zEnds p e below s T0 (mkF m 51 #[.val (.long 0), .second, iv 2] [(.long (-1))]) _ _ _
  exact zretL X0 hx hby d_method_2_51 hret hlk (by decide) (by decide) ⟨rfl, e0, rfl⟩
set_option maxRecDepth 65536 in
set_option maxHeartbeats 40000000 in
theorem c118_spend (l : Launch) {Z : State} {a0 : Array Value} (hw : ∀ d ∈ tables_1, d.before a0 Z = true) (ws : List Jvm.Cond) {w_PAUSE w_RESUME w_STEP w_arr0 : Addr} {cl_arr0 : Cell} {n0 : Nat} {h0 : Heap} (C : Ctx Z w_PAUSE w_RESUME w_STEP w_arr0 cl_arr0) (O0 : Old Z n0 h0) (Z0 : n0 ≤ h0.size) (b900 : Addr) (g_b900 : n0 ≤ b900) (E_b900 : Exa Z h0 b900 "heapglass/core/wire/Allowance") (F_b900_left : Fld Z h0 b900 "heapglass/core/wire/Allowance" "left" "J" (.long 0)) : zCon l Z (⟨"heapglass/core/wire/Allowance", "spend", "()V"⟩ : MethodName) prog_9_method_3_code 1 none ws ({ frames := 0, cells := 0, slots := 0, locals := 0 } : Room) #[(.ref b900)] h0 (zSame none h0) := by
  obtain ⟨S_w_PAUSE, S_w_RESUME, S_w_STEP, E_w_PAUSE, E_w_RESUME, E_w_STEP, F_w_PAUSE_ordinal, F_w_RESUME_ordinal, F_w_STEP_ordinal, S_w_arr0, A_w_arr0, A_w_arr0_0, A_w_arr0_2, A_w_arr0_1⟩ := C
  refine zenter (plainFor_of_name pn_0) (L0 := #[rv b900]) (fun m => by first | rfl | simp [entryFrame, mkF, argsToLocals, Value.category, maxLocals]) ?_
  intro p e s m below meth c T0 hx hZ hby hml hown0 hnm hret hlk X0 e0
  have hown : s.vm.findClass "heapglass/core/wire/Allowance" = some m.cls := hown0
  have K0 := Keep.refl h0 []
  have N0 := Fr.nil n0
  show zEnds p e below s T0 (mkF m 0 #[rv b900] []) _ _ _
  refine zaloadN X0 hx hby d_prog_9_method_3_0 rfl rfl (zgetfld X0 hx hby d_prog_9_method_3_1 hZ hown (host := "") (Or.inl (w10 hw)) Via.refl e0 F_b900_left fun T1 X1 e1 => (zlconst X1 hx hby d_prog_9_method_3_4 (z := (0 : Int64)) rfl (zlcmp X1 hx hby d_prog_9_method_3_5 (0 : Int32) (by decide) (zifYes X1 hx hby d_prog_9_method_3_6 30 (by decide) (by decide) (by decide) ?_))))
  show zEnds p e below s T1 (mkF m 30 #[rv b900] []) _ _ _
  exact zretV X1 hx hby d_prog_9_method_3_30 hret hlk (by decide) (by decide) ⟨rfl, e1, rfl⟩
set_option maxRecDepth 65536 in
set_option maxHeartbeats 40000000 in
theorem c117_apply (l : Launch) {Z : State} {a0 : Array Value} (hw : ∀ d ∈ tables_1, d.before a0 Z = true) (ws : List Jvm.Cond) {w_PAUSE w_RESUME w_STEP w_arr0 : Addr} {cl_arr0 : Cell} {n0 : Nat} {h0 : Heap} (C : Ctx Z w_PAUSE w_RESUME w_STEP w_arr0 cl_arr0) (O0 : Old Z n0 h0) (Z0 : n0 ≤ h0.size) (b900 : Addr) (g_b900 : n0 ≤ b900) (E_b900 : Exa Z h0 b900 "heapglass/core/wire/Allowance") (F_b900_left : Fld Z h0 b900 "heapglass/core/wire/Allowance" "left" "J" (.long 0)) : zCon l Z (⟨"heapglass/core/wire/AllowanceIsSpentPinLaw", "apply", "(Lheapglass/core/wire/Allowance;I)V"⟩ : MethodName) method_3_code 2 none ws ({ frames := 1, cells := 0, slots := 0, locals := 12 } : Room) #[(.ref b900), (.int 3)] h0 (zSame none h0) := by
  obtain ⟨S_w_PAUSE, S_w_RESUME, S_w_STEP, E_w_PAUSE, E_w_RESUME, E_w_STEP, F_w_PAUSE_ordinal, F_w_RESUME_ordinal, F_w_STEP_ordinal, S_w_arr0, A_w_arr0, A_w_arr0_0, A_w_arr0_2, A_w_arr0_1⟩ := C
  refine zenter (plainFor_of_name pn_2) (L0 := #[rv b900, iv 3]) (fun m => by first | rfl | simp [entryFrame, mkF, argsToLocals, Value.category, maxLocals]) ?_
  intro p e s m below meth c T0 hx hZ hby hml hown0 hnm hret hlk X0 e0
  have hown : s.vm.findClass "heapglass/core/wire/AllowanceIsSpentPinLaw" = some m.cls := hown0
  have K0 := Keep.refl h0 []
  have N0 := Fr.nil n0
  show zEnds p e below s T0 (mkF m 0 #[rv b900, iv 3] []) _ _ _
  refine ziloadN X0 hx hby d_method_3_0 rfl (zifYes X0 hx hby d_method_3_1 14 (by decide) (by decide) (by decide) (ziloadN X0 hx hby d_method_3_14 rfl (ziconst X0 hx hby d_method_3_15 (z := (1 : Int32)) rfl (zicmpYes X0 hx hby d_method_3_16 29 (by decide) (by decide) (by decide) (ziloadN X0 hx hby d_method_3_29 rfl (ziconst X0 hx hby d_method_3_30 (z := (2 : Int32)) rfl (zicmpYes X0 hx hby d_method_3_31 44 (by decide) (by decide) (by decide) (zaloadN X0 hx hby d_method_3_44 rfl rfl (zcallv X0 hx hby d_method_3_45 hZ hown (w50 hw) (w51 hw) (notFace_of_selects (args := #[]) (mvT hZ (w53 hw))) (w53 hw) (w52 hw) (w54 hw) (w2 hw) e0 E_b900 (c118_spend l hw [] ⟨S_w_PAUSE, S_w_RESUME, S_w_STEP, E_w_PAUSE, E_w_RESUME, E_w_STEP, F_w_PAUSE_ordinal, F_w_RESUME_ordinal, F_w_STEP_ordinal, S_w_arr0, A_w_arr0, A_w_arr0_0, A_w_arr0_2, A_w_arr0_1⟩ O0 (Nat.le_trans Z0 K0.1) b900 g_b900 E_b900 F_b900_left) (by decide) (by rw [hml]; rfl) 0 (Nat.le_of_eq rfl) (by decide) (by decide) (by decide) (by decide) pd_0 rfl (argsL := []) (st := []) rfl (zpureK ⟨rfl, rfl⟩ fun T1 X1 e1 => ?_))))))))))
  show zEnds p e below s T1 (mkF m 48 #[rv b900, iv 3] []) _ _ _
  exact zretV X1 hx hby d_method_3_48 hret hlk (by decide) (by decide) ⟨rfl, e1, rfl⟩
set_option maxRecDepth 65536 in
set_option maxHeartbeats 40000000 in
theorem c121_next (l : Launch) {Z : State} {a0 : Array Value} (hw : ∀ d ∈ tables_1, d.before a0 Z = true) (ws : List Jvm.Cond) {w_PAUSE w_RESUME w_STEP w_arr0 : Addr} {cl_arr0 : Cell} {n0 : Nat} {h0 : Heap} (C : Ctx Z w_PAUSE w_RESUME w_STEP w_arr0 cl_arr0) (O0 : Old Z n0 h0) (Z0 : n0 ≤ h0.size)  : zCon l Z (⟨"heapglass/core/wire/AllowanceIsSpentPinLaw", "next", "(JI)J"⟩ : MethodName) method_2_code 3 (some .long) ws ({ frames := 0, cells := 0, slots := 0, locals := 0 } : Room) #[(.long 0), (.int 3)] h0 (zSame (some (.long 0)) h0) := by
  obtain ⟨S_w_PAUSE, S_w_RESUME, S_w_STEP, E_w_PAUSE, E_w_RESUME, E_w_STEP, F_w_PAUSE_ordinal, F_w_RESUME_ordinal, F_w_STEP_ordinal, S_w_arr0, A_w_arr0, A_w_arr0_0, A_w_arr0_2, A_w_arr0_1⟩ := C
  refine zenter (plainFor_of_name pn_2) (L0 := #[.val (.long 0), .second, iv 3]) (fun m => by first | rfl | simp [entryFrame, mkF, argsToLocals, Value.category, maxLocals]) ?_
  intro p e s m below meth c T0 hx hZ hby hml hown0 hnm hret hlk X0 e0
  have hown : s.vm.findClass "heapglass/core/wire/AllowanceIsSpentPinLaw" = some m.cls := hown0
  have K0 := Keep.refl h0 []
  have N0 := Fr.nil n0
  show zEnds p e below s T0 (mkF m 0 #[.val (.long 0), .second, iv 3] []) _ _ _
  refine ziloadN X0 hx hby d_method_2_0 rfl (zifYes X0 hx hby d_method_2_1 22 (by decide) (by decide) (by decide) (ziloadN X0 hx hby d_method_2_22 rfl (ziconst X0 hx hby d_method_2_23 (z := (1 : Int32)) rfl (zicmpYes X0 hx hby d_method_2_24 43 (by decide) (by decide) (by decide) (ziloadN X0 hx hby d_method_2_43 rfl (ziconst X0 hx hby d_method_2_44 (z := (2 : Int32)) rfl (zicmpYes X0 hx hby d_method_2_45 52 (by decide) (by decide) (by decide) (zlloadN X0 hx hby d_method_2_52 rfl (zlconst X0 hx hby d_method_2_53 (z := (0 : Int64)) rfl ?_)))))))))
  show zEnds p e below s T0 (mkF m 54 #[.val (.long 0), .second, iv 3] [(.long 0), (.long 0)]) _ _ _
  refine zlcmp X0 hx hby d_method_2_54 (0 : Int32) (by decide) (zifYes X0 hx hby d_method_2_55 64 (by decide) (by decide) (by decide) (zlloadN X0 hx hby d_method_2_64 rfl ?_))
  show zEnds p e below s T0 (mkF m 65 #[.val (.long 0), .second, iv 3] [(.long 0)]) _ _ _
  exact zretL X0 hx hby d_method_2_65 hret hlk (by decide) (by decide) ⟨rfl, e0, rfl⟩
set_option maxRecDepth 65536 in
set_option maxHeartbeats 40000000 in
theorem stg_3_6 {p : Program} {l : Launch} {e : Env} {s : State} {m : MethodId} {args : Array Value} {below : List Frame} {meth : Method} {c : Code} {T0 : State} {locs : List Loc} {Z : State} {a0 : Array Value} {h0 : Heap} {n0 : Nat} {w_PAUSE w_RESUME w_STEP w_arr0 : Addr} {cl_arr0 : Cell} {b1 : Addr} 
    (X0 : Stand p l e room_1 s m args below meth c T0 locs 1 1) (hx : p.tables.exec = Jvm.exec) (hZ : Z.Warmed39 s.vm) (hw : ∀ d ∈ tables_1, d.before a0 Z = true) (hby : c.code = code) (hml : c.maxLocals = 9) (hown : s.vm.findClass "heapglass/core/wire/AllowanceIsSpentPinLaw" = some m.cls) (hret : meth.sig.returnType = (some .boolean)) (hlk : meth.locks = false) (C : Ctx Z w_PAUSE w_RESUME w_STEP w_arr0 cl_arr0) (e0 : T0.heap = h0) (O0 : Old Z n0 h0) (N0 : Fr n0 locs) (g_b1 : n0 ≤ b1) (E_b1 : Exa Z h0 b1 "heapglass/core/wire/Allowance") (F_b1_left : Fld Z h0 b1 "heapglass/core/wire/Allowance" "left" "J" (.long 0)) {u0 u1 u2 u3 u4 : Int32} (k4 : u4 = (0 : Int32) ∨ u4 = (1 : Int32) ∨ u4 = (2 : Int32) ∨ u4 = (3 : Int32)) :
    zEnds p e below s T0 (mkF m 203 #[iv u0, iv u1, iv u2, iv u3, iv u4, rv b1, .val (.long 0), .second, iv 1] []) room_1.cells room_1.slots (fun v h L => v = some (.int (1 : Int32)) ∧ Fr n0 L) := by
  obtain ⟨S_w_PAUSE, S_w_RESUME, S_w_STEP, E_w_PAUSE, E_w_RESUME, E_w_STEP, F_w_PAUSE_ordinal, F_w_RESUME_ordinal, F_w_STEP_ordinal, S_w_arr0, A_w_arr0, A_w_arr0_0, A_w_arr0_2, A_w_arr0_1⟩ := C
  have K0 := Keep.refl h0 [b1]
  have Z0 : n0 ≤ h0.size := by rw [← O0.1]; exact O0.2.1
  show zEnds p e below s T0 (mkF m 203 #[iv u0, iv u1, iv u2, iv u3, iv u4, rv b1, .val (.long 0), .second, iv 1] []) _ _ _
  rcases k4 with rfl | rfl | rfl | rfl
  · show zEnds p e below s T0 (mkF m 203 #[iv u0, iv u1, iv u2, iv u3, iv 0, rv b1, .val (.long 0), .second, iv 1] []) _ _ _
    refine zaload X0 hx hby at_203 rfl rfl (ziload X0 hx hby at_205 rfl (zcalls X0 hx hby at_207 hZ hown (w18 hw) (w19 hw) (w20 hw) (w21 hw) e0 (c97_apply l hw [] ⟨S_w_PAUSE, S_w_RESUME, S_w_STEP, E_w_PAUSE, E_w_RESUME, E_w_STEP, F_w_PAUSE_ordinal, F_w_RESUME_ordinal, F_w_STEP_ordinal, S_w_arr0, A_w_arr0, A_w_arr0_0, A_w_arr0_2, A_w_arr0_1⟩ O0 (Nat.le_trans Z0 K0.1) b1 g_b1 E_b1 F_b1_left) (by decide) (by rw [hml]; rfl) 0 (Nat.le_of_eq rfl) (by decide) (by decide) (by decide) (by decide) pd_5 rfl (argsL := [(.ref b1), (.int 0)]) (st := []) rfl fun T1 h1 v1 L1 e1 X1 q1 => ?_))
    obtain ⟨rfl, N1q, K1q, E1_b1, F1_b1_left⟩ := q1
    have O1 := O0.keep K1q (allS g_b1 all0)
    have K1 := Keep.trans K0 K1q (allS (Or.inl (List.mem_of_getElem? (i := 0) rfl)) all0)
    have N1 := Fr.app N0 N1q
    show zEnds p e below s T1 (mkF m 210 #[iv u0, iv u1, iv u2, iv u3, iv 0, rv b1, .val (.long 0), .second, iv 1] []) _ _ _
    refine zlload X1 hx hby at_210 rfl (ziload X1 hx hby at_212 rfl (zcalls X1 hx hby at_214 hZ hown (w46 hw) (w47 hw) (w20 hw) (w48 hw) e1 (c103_next l hw [] ⟨S_w_PAUSE, S_w_RESUME, S_w_STEP, E_w_PAUSE, E_w_RESUME, E_w_STEP, F_w_PAUSE_ordinal, F_w_RESUME_ordinal, F_w_STEP_ordinal, S_w_arr0, A_w_arr0, A_w_arr0_0, A_w_arr0_2, A_w_arr0_1⟩ O1 (Nat.le_trans Z0 K1.1) ) (by decide) (by rw [hml]; rfl) 0 (Nat.le_of_eq rfl) (by decide) (by decide) (by decide) (by decide) pd_6 rfl (argsL := [(.long 0), (.int 0)]) (st := []) rfl (zpureK ⟨rfl, rfl⟩ fun T2 X2 e2 => ?_)))
    show zEnds p e below s T2 (mkF m 217 #[iv u0, iv u1, iv u2, iv u3, iv 0, rv b1, .val (.long 0), .second, iv 1] [(.long 0)]) _ _ _
    refine zlstore X2 hx hby at_217 (L' := #[iv u0, iv u1, iv u2, iv u3, iv 0, rv b1, .val (.long 0), .second, iv 1]) rfl (ziload X2 hx hby at_219 rfl (zifNo X2 hx hby at_221 (by decide) (zaload X2 hx hby at_224 rfl rfl (zcallv X2 hx hby at_226 hZ hown (w13 hw) (w14 hw) (notFace_of_selects (args := #[]) (mvT hZ (w16 hw))) (w16 hw) (w15 hw) (w17 hw) (w2 hw) e2 E1_b1 (c49_isSpent l hw [] ⟨S_w_PAUSE, S_w_RESUME, S_w_STEP, E_w_PAUSE, E_w_RESUME, E_w_STEP, F_w_PAUSE_ordinal, F_w_RESUME_ordinal, F_w_STEP_ordinal, S_w_arr0, A_w_arr0, A_w_arr0_0, A_w_arr0_2, A_w_arr0_1⟩ O1 (Nat.le_trans Z0 K1.1) b1 g_b1 E1_b1 F1_b1_left) (by decide) (by rw [hml]; rfl) 0 (Nat.le_of_eq rfl) (by decide) (by decide) (by decide) (by decide) pd_1 rfl (argsL := []) (st := []) rfl (zpureK ⟨rfl, rfl⟩ fun T3 X3 e3 => ?_)))))
    show zEnds p e below s T3 (mkF m 229 #[iv u0, iv u1, iv u2, iv u3, iv 0, rv b1, .val (.long 0), .second, iv 1] [(.int 1)]) _ _ _
    refine zlload X3 hx hby at_229 rfl (zlconst X3 hx hby at_231 (z := (0 : Int64)) rfl (zlcmp X3 hx hby at_232 (0 : Int32) (by decide) (zifNo X3 hx hby at_233 (by decide) (ziconst X3 hx hby at_236 (z := (1 : Int32)) rfl (zgoto X3 hx hby at_237 241 (by decide) (by decide) (zicmpNo X3 hx hby at_241 (by decide) (ziconst X3 hx hby at_244 (z := (1 : Int32)) rfl (zgoto X3 hx hby at_245 249 (by decide) (by decide) (zistore X3 hx hby at_249 (L' := #[iv u0, iv u1, iv u2, iv u3, iv 0, rv b1, .val (.long 0), .second, iv 1]) rfl ?_)))))))))
    show zEnds p e below s T3 (mkF m 251 #[iv u0, iv u1, iv u2, iv u3, iv 0, rv b1, .val (.long 0), .second, iv 1] []) _ _ _
    refine ziload X3 hx hby at_251 rfl ?_
    show zEnds p e below s T3 (mkF m 253 #[iv u0, iv u1, iv u2, iv u3, iv 0, rv b1, .val (.long 0), .second, iv 1] [(.int 1)]) _ _ _
    exact zretZ X3 hx hby at_253 hret hlk (by simp) rfl (by decide) (by decide) ⟨rfl, N1⟩
  · show zEnds p e below s T0 (mkF m 203 #[iv u0, iv u1, iv u2, iv u3, iv 1, rv b1, .val (.long 0), .second, iv 1] []) _ _ _
    refine zaload X0 hx hby at_203 rfl rfl (ziload X0 hx hby at_205 rfl (zcalls X0 hx hby at_207 hZ hown (w18 hw) (w19 hw) (w20 hw) (w21 hw) e0 (c105_apply l hw [] ⟨S_w_PAUSE, S_w_RESUME, S_w_STEP, E_w_PAUSE, E_w_RESUME, E_w_STEP, F_w_PAUSE_ordinal, F_w_RESUME_ordinal, F_w_STEP_ordinal, S_w_arr0, A_w_arr0, A_w_arr0_0, A_w_arr0_2, A_w_arr0_1⟩ O0 (Nat.le_trans Z0 K0.1) b1 g_b1 E_b1 F_b1_left) (by decide) (by rw [hml]; rfl) 0 (Nat.le_of_eq rfl) (by decide) (by decide) (by decide) (by decide) pd_5 rfl (argsL := [(.ref b1), (.int 1)]) (st := []) rfl fun T4 h4 v4 L4 e4 X4 q4 => ?_))
    obtain ⟨rfl, N4q, K4q, E4_b1, F4_b1_left⟩ := q4
    have O4 := O0.keep K4q (allS g_b1 all0)
    have K4 := Keep.trans K0 K4q (allS (Or.inl (List.mem_of_getElem? (i := 0) rfl)) all0)
    have N4 := Fr.app N0 N4q
    show zEnds p e below s T4 (mkF m 210 #[iv u0, iv u1, iv u2, iv u3, iv 1, rv b1, .val (.long 0), .second, iv 1] []) _ _ _
    refine zlload X4 hx hby at_210 rfl (ziload X4 hx hby at_212 rfl (zcalls X4 hx hby at_214 hZ hown (w46 hw) (w47 hw) (w20 hw) (w48 hw) e4 (c109_next l hw [] ⟨S_w_PAUSE, S_w_RESUME, S_w_STEP, E_w_PAUSE, E_w_RESUME, E_w_STEP, F_w_PAUSE_ordinal, F_w_RESUME_ordinal, F_w_STEP_ordinal, S_w_arr0, A_w_arr0, A_w_arr0_0, A_w_arr0_2, A_w_arr0_1⟩ O4 (Nat.le_trans Z0 K4.1) ) (by decide) (by rw [hml]; rfl) 0 (Nat.le_of_eq rfl) (by decide) (by decide) (by decide) (by decide) pd_6 rfl (argsL := [(.long 0), (.int 1)]) (st := []) rfl (zpureK ⟨rfl, rfl⟩ fun T5 X5 e5 => ?_)))
    show zEnds p e below s T5 (mkF m 217 #[iv u0, iv u1, iv u2, iv u3, iv 1, rv b1, .val (.long 0), .second, iv 1] [(.long 1)]) _ _ _
    refine zlstore X5 hx hby at_217 (L' := #[iv u0, iv u1, iv u2, iv u3, iv 1, rv b1, .val (.long 1), .second, iv 1]) rfl (ziload X5 hx hby at_219 rfl (zifNo X5 hx hby at_221 (by decide) (zaload X5 hx hby at_224 rfl rfl (zcallv X5 hx hby at_226 hZ hown (w13 hw) (w14 hw) (notFace_of_selects (args := #[]) (mvT hZ (w16 hw))) (w16 hw) (w15 hw) (w17 hw) (w2 hw) e5 E4_b1 (c15_isSpent l hw [] ⟨S_w_PAUSE, S_w_RESUME, S_w_STEP, E_w_PAUSE, E_w_RESUME, E_w_STEP, F_w_PAUSE_ordinal, F_w_RESUME_ordinal, F_w_STEP_ordinal, S_w_arr0, A_w_arr0, A_w_arr0_0, A_w_arr0_2, A_w_arr0_1⟩ O4 (Nat.le_trans Z0 K4.1) b1 g_b1 E4_b1 F4_b1_left) (by decide) (by rw [hml]; rfl) 0 (Nat.le_of_eq rfl) (by decide) (by decide) (by decide) (by decide) pd_1 rfl (argsL := []) (st := []) rfl (zpureK ⟨rfl, rfl⟩ fun T6 X6 e6 => ?_)))))
    show zEnds p e below s T6 (mkF m 229 #[iv u0, iv u1, iv u2, iv u3, iv 1, rv b1, .val (.long 1), .second, iv 1] [(.int 0)]) _ _ _
    refine zlload X6 hx hby at_229 rfl (zlconst X6 hx hby at_231 (z := (0 : Int64)) rfl (zlcmp X6 hx hby at_232 (1 : Int32) (by decide) (zifYes X6 hx hby at_233 240 (by decide) (by decide) (by decide) (ziconst X6 hx hby at_240 (z := (0 : Int32)) rfl (zicmpNo X6 hx hby at_241 (by decide) (ziconst X6 hx hby at_244 (z := (1 : Int32)) rfl (zgoto X6 hx hby at_245 249 (by decide) (by decide) (zistore X6 hx hby at_249 (L' := #[iv u0, iv u1, iv u2, iv u3, iv 1, rv b1, .val (.long 1), .second, iv 1]) rfl (ziload X6 hx hby at_251 rfl ?_)))))))))
    show zEnds p e below s T6 (mkF m 253 #[iv u0, iv u1, iv u2, iv u3, iv 1, rv b1, .val (.long 1), .second, iv 1] [(.int 1)]) _ _ _
    exact zretZ X6 hx hby at_253 hret hlk (by simp) rfl (by decide) (by decide) ⟨rfl, N4⟩
  · show zEnds p e below s T0 (mkF m 203 #[iv u0, iv u1, iv u2, iv u3, iv 2, rv b1, .val (.long 0), .second, iv 1] []) _ _ _
    refine zaload X0 hx hby at_203 rfl rfl (ziload X0 hx hby at_205 rfl (zcalls X0 hx hby at_207 hZ hown (w18 hw) (w19 hw) (w20 hw) (w21 hw) e0 (c111_apply l hw [] ⟨S_w_PAUSE, S_w_RESUME, S_w_STEP, E_w_PAUSE, E_w_RESUME, E_w_STEP, F_w_PAUSE_ordinal, F_w_RESUME_ordinal, F_w_STEP_ordinal, S_w_arr0, A_w_arr0, A_w_arr0_0, A_w_arr0_2, A_w_arr0_1⟩ O0 (Nat.le_trans Z0 K0.1) b1 g_b1 E_b1 F_b1_left) (by decide) (by rw [hml]; rfl) 0 (Nat.le_of_eq rfl) (by decide) (by decide) (by decide) (by decide) pd_5 rfl (argsL := [(.ref b1), (.int 2)]) (st := []) rfl fun T7 h7 v7 L7 e7 X7 q7 => ?_))
    obtain ⟨rfl, N7q, K7q, E7_b1, F7_b1_left⟩ := q7
    have O7 := O0.keep K7q (allS g_b1 all0)
    have K7 := Keep.trans K0 K7q (allS (Or.inl (List.mem_of_getElem? (i := 0) rfl)) all0)
    have N7 := Fr.app N0 N7q
    show zEnds p e below s T7 (mkF m 210 #[iv u0, iv u1, iv u2, iv u3, iv 2, rv b1, .val (.long 0), .second, iv 1] []) _ _ _
    refine zlload X7 hx hby at_210 rfl (ziload X7 hx hby at_212 rfl (zcalls X7 hx hby at_214 hZ hown (w46 hw) (w47 hw) (w20 hw) (w48 hw) e7 (c115_next l hw [] ⟨S_w_PAUSE, S_w_RESUME, S_w_STEP, E_w_PAUSE, E_w_RESUME, E_w_STEP, F_w_PAUSE_ordinal, F_w_RESUME_ordinal, F_w_STEP_ordinal, S_w_arr0, A_w_arr0, A_w_arr0_0, A_w_arr0_2, A_w_arr0_1⟩ O7 (Nat.le_trans Z0 K7.1) ) (by decide) (by rw [hml]; rfl) 0 (Nat.le_of_eq rfl) (by decide) (by decide) (by decide) (by decide) pd_6 rfl (argsL := [(.long 0), (.int 2)]) (st := []) rfl (zpureK ⟨rfl, rfl⟩ fun T8 X8 e8 => ?_)))
    show zEnds p e below s T8 (mkF m 217 #[iv u0, iv u1, iv u2, iv u3, iv 2, rv b1, .val (.long 0), .second, iv 1] [(.long (-1))]) _ _ _
    refine zlstore X8 hx hby at_217 (L' := #[iv u0, iv u1, iv u2, iv u3, iv 2, rv b1, .val (.long (-1)), .second, iv 1]) rfl (ziload X8 hx hby at_219 rfl (zifNo X8 hx hby at_221 (by decide) (zaload X8 hx hby at_224 rfl rfl (zcallv X8 hx hby at_226 hZ hown (w13 hw) (w14 hw) (notFace_of_selects (args := #[]) (mvT hZ (w16 hw))) (w16 hw) (w15 hw) (w17 hw) (w2 hw) e8 E7_b1 (c3_isSpent l hw [] ⟨S_w_PAUSE, S_w_RESUME, S_w_STEP, E_w_PAUSE, E_w_RESUME, E_w_STEP, F_w_PAUSE_ordinal, F_w_RESUME_ordinal, F_w_STEP_ordinal, S_w_arr0, A_w_arr0, A_w_arr0_0, A_w_arr0_2, A_w_arr0_1⟩ O7 (Nat.le_trans Z0 K7.1) b1 g_b1 E7_b1 F7_b1_left) (by decide) (by rw [hml]; rfl) 0 (Nat.le_of_eq rfl) (by decide) (by decide) (by decide) (by decide) pd_1 rfl (argsL := []) (st := []) rfl (zpureK ⟨rfl, rfl⟩ fun T9 X9 e9 => ?_)))))
    show zEnds p e below s T9 (mkF m 229 #[iv u0, iv u1, iv u2, iv u3, iv 2, rv b1, .val (.long (-1)), .second, iv 1] [(.int 0)]) _ _ _
    refine zlload X9 hx hby at_229 rfl (zlconst X9 hx hby at_231 (z := (0 : Int64)) rfl (zlcmp X9 hx hby at_232 (-1 : Int32) (by decide) (zifYes X9 hx hby at_233 240 (by decide) (by decide) (by decide) (ziconst X9 hx hby at_240 (z := (0 : Int32)) rfl (zicmpNo X9 hx hby at_241 (by decide) (ziconst X9 hx hby at_244 (z := (1 : Int32)) rfl (zgoto X9 hx hby at_245 249 (by decide) (by decide) (zistore X9 hx hby at_249 (L' := #[iv u0, iv u1, iv u2, iv u3, iv 2, rv b1, .val (.long (-1)), .second, iv 1]) rfl (ziload X9 hx hby at_251 rfl ?_)))))))))
    show zEnds p e below s T9 (mkF m 253 #[iv u0, iv u1, iv u2, iv u3, iv 2, rv b1, .val (.long (-1)), .second, iv 1] [(.int 1)]) _ _ _
    exact zretZ X9 hx hby at_253 hret hlk (by simp) rfl (by decide) (by decide) ⟨rfl, N7⟩
  · show zEnds p e below s T0 (mkF m 203 #[iv u0, iv u1, iv u2, iv u3, iv 3, rv b1, .val (.long 0), .second, iv 1] []) _ _ _
    refine zaload X0 hx hby at_203 rfl rfl (ziload X0 hx hby at_205 rfl (zcalls X0 hx hby at_207 hZ hown (w18 hw) (w19 hw) (w20 hw) (w21 hw) e0 (c117_apply l hw [] ⟨S_w_PAUSE, S_w_RESUME, S_w_STEP, E_w_PAUSE, E_w_RESUME, E_w_STEP, F_w_PAUSE_ordinal, F_w_RESUME_ordinal, F_w_STEP_ordinal, S_w_arr0, A_w_arr0, A_w_arr0_0, A_w_arr0_2, A_w_arr0_1⟩ O0 (Nat.le_trans Z0 K0.1) b1 g_b1 E_b1 F_b1_left) (by decide) (by rw [hml]; rfl) 0 (Nat.le_of_eq rfl) (by decide) (by decide) (by decide) (by decide) pd_5 rfl (argsL := [(.ref b1), (.int 3)]) (st := []) rfl (zpureK ⟨rfl, rfl⟩ fun T10 X10 e10 => ?_)))
    show zEnds p e below s T10 (mkF m 210 #[iv u0, iv u1, iv u2, iv u3, iv 3, rv b1, .val (.long 0), .second, iv 1] []) _ _ _
    refine zlload X10 hx hby at_210 rfl (ziload X10 hx hby at_212 rfl (zcalls X10 hx hby at_214 hZ hown (w46 hw) (w47 hw) (w20 hw) (w48 hw) e10 (c121_next l hw [] ⟨S_w_PAUSE, S_w_RESUME, S_w_STEP, E_w_PAUSE, E_w_RESUME, E_w_STEP, F_w_PAUSE_ordinal, F_w_RESUME_ordinal, F_w_STEP_ordinal, S_w_arr0, A_w_arr0, A_w_arr0_0, A_w_arr0_2, A_w_arr0_1⟩ O0 (Nat.le_trans Z0 K0.1) ) (by decide) (by rw [hml]; rfl) 0 (Nat.le_of_eq rfl) (by decide) (by decide) (by decide) (by decide) pd_6 rfl (argsL := [(.long 0), (.int 3)]) (st := []) rfl (zpureK ⟨rfl, rfl⟩ fun T11 X11 e11 => ?_)))
    show zEnds p e below s T11 (mkF m 217 #[iv u0, iv u1, iv u2, iv u3, iv 3, rv b1, .val (.long 0), .second, iv 1] [(.long 0)]) _ _ _
    refine zlstore X11 hx hby at_217 (L' := #[iv u0, iv u1, iv u2, iv u3, iv 3, rv b1, .val (.long 0), .second, iv 1]) rfl (ziload X11 hx hby at_219 rfl (zifNo X11 hx hby at_221 (by decide) (zaload X11 hx hby at_224 rfl rfl (zcallv X11 hx hby at_226 hZ hown (w13 hw) (w14 hw) (notFace_of_selects (args := #[]) (mvT hZ (w16 hw))) (w16 hw) (w15 hw) (w17 hw) (w2 hw) e11 E_b1 (c49_isSpent l hw [] ⟨S_w_PAUSE, S_w_RESUME, S_w_STEP, E_w_PAUSE, E_w_RESUME, E_w_STEP, F_w_PAUSE_ordinal, F_w_RESUME_ordinal, F_w_STEP_ordinal, S_w_arr0, A_w_arr0, A_w_arr0_0, A_w_arr0_2, A_w_arr0_1⟩ O0 (Nat.le_trans Z0 K0.1) b1 g_b1 E_b1 F_b1_left) (by decide) (by rw [hml]; rfl) 0 (Nat.le_of_eq rfl) (by decide) (by decide) (by decide) (by decide) pd_1 rfl (argsL := []) (st := []) rfl (zpureK ⟨rfl, rfl⟩ fun T12 X12 e12 => ?_)))))
    show zEnds p e below s T12 (mkF m 229 #[iv u0, iv u1, iv u2, iv u3, iv 3, rv b1, .val (.long 0), .second, iv 1] [(.int 1)]) _ _ _
    refine zlload X12 hx hby at_229 rfl (zlconst X12 hx hby at_231 (z := (0 : Int64)) rfl (zlcmp X12 hx hby at_232 (0 : Int32) (by decide) (zifNo X12 hx hby at_233 (by decide) (ziconst X12 hx hby at_236 (z := (1 : Int32)) rfl (zgoto X12 hx hby at_237 241 (by decide) (by decide) (zicmpNo X12 hx hby at_241 (by decide) (ziconst X12 hx hby at_244 (z := (1 : Int32)) rfl (zgoto X12 hx hby at_245 249 (by decide) (by decide) (zistore X12 hx hby at_249 (L' := #[iv u0, iv u1, iv u2, iv u3, iv 3, rv b1, .val (.long 0), .second, iv 1]) rfl ?_)))))))))
    show zEnds p e below s T12 (mkF m 251 #[iv u0, iv u1, iv u2, iv u3, iv 3, rv b1, .val (.long 0), .second, iv 1] []) _ _ _
    refine ziload X12 hx hby at_251 rfl ?_
    show zEnds p e below s T12 (mkF m 253 #[iv u0, iv u1, iv u2, iv u3, iv 3, rv b1, .val (.long 0), .second, iv 1] [(.int 1)]) _ _ _
    exact zretZ X12 hx hby at_253 hret hlk (by simp) rfl (by decide) (by decide) ⟨rfl, N0⟩
set_option maxRecDepth 65536 in
set_option maxHeartbeats 40000000 in
theorem stg_2_2 {p : Program} {l : Launch} {e : Env} {s : State} {m : MethodId} {args : Array Value} {below : List Frame} {meth : Method} {c : Code} {T0 : State} {locs : List Loc} {Z : State} {a0 : Array Value} {h0 : Heap} {n0 : Nat} {w_PAUSE w_RESUME w_STEP w_arr0 : Addr} {cl_arr0 : Cell} {b1 : Addr} 
    (X0 : Stand p l e room_1 s m args below meth c T0 locs 1 1) (hx : p.tables.exec = Jvm.exec) (hZ : Z.Warmed39 s.vm) (hw : ∀ d ∈ tables_1, d.before a0 Z = true) (hby : c.code = code) (hml : c.maxLocals = 9) (hown : s.vm.findClass "heapglass/core/wire/AllowanceIsSpentPinLaw" = some m.cls) (hret : meth.sig.returnType = (some .boolean)) (hlk : meth.locks = false) (C : Ctx Z w_PAUSE w_RESUME w_STEP w_arr0 cl_arr0) (e0 : T0.heap = h0) (O0 : Old Z n0 h0) (N0 : Fr n0 locs) (g_b1 : n0 ≤ b1) (E_b1 : Exa Z h0 b1 "heapglass/core/wire/Allowance") (F_b1_left : Fld Z h0 b1 "heapglass/core/wire/Allowance" "left" "J" (.long 1)) {u0 u1 u2 u3 u4 : Int32} (k3 : u3 = (0 : Int32) ∨ u3 = (1 : Int32) ∨ u3 = (2 : Int32) ∨ u3 = (3 : Int32)) (k4 : u4 = (0 : Int32) ∨ u4 = (1 : Int32) ∨ u4 = (2 : Int32) ∨ u4 = (3 : Int32)) :
    zEnds p e below s T0 (mkF m 157 #[iv u0, iv u1, iv u2, iv u3, iv u4, rv b1, .val (.long 1), .second, iv 1] []) room_1.cells room_1.slots (fun v h L => v = some (.int (1 : Int32)) ∧ Fr n0 L) := by
  obtain ⟨S_w_PAUSE, S_w_RESUME, S_w_STEP, E_w_PAUSE, E_w_RESUME, E_w_STEP, F_w_PAUSE_ordinal, F_w_RESUME_ordinal, F_w_STEP_ordinal, S_w_arr0, A_w_arr0, A_w_arr0_0, A_w_arr0_2, A_w_arr0_1⟩ := C
  have K0 := Keep.refl h0 [b1]
  have Z0 : n0 ≤ h0.size := by rw [← O0.1]; exact O0.2.1
  show zEnds p e below s T0 (mkF m 157 #[iv u0, iv u1, iv u2, iv u3, iv u4, rv b1, .val (.long 1), .second, iv 1] []) _ _ _
  rcases k3 with rfl | rfl | rfl | rfl
  · show zEnds p e below s T0 (mkF m 157 #[iv u0, iv u1, iv u2, iv 0, iv u4, rv b1, .val (.long 1), .second, iv 1] []) _ _ _
    refine zaload X0 hx hby at_157 rfl rfl (ziloadN X0 hx hby at_159 rfl (zcalls X0 hx hby at_160 hZ hown (w18 hw) (w19 hw) (w20 hw) (w21 hw) e0 (c17_apply l hw [] ⟨S_w_PAUSE, S_w_RESUME, S_w_STEP, E_w_PAUSE, E_w_RESUME, E_w_STEP, F_w_PAUSE_ordinal, F_w_RESUME_ordinal, F_w_STEP_ordinal, S_w_arr0, A_w_arr0, A_w_arr0_0, A_w_arr0_2, A_w_arr0_1⟩ O0 (Nat.le_trans Z0 K0.1) b1 g_b1 E_b1 F_b1_left) (by decide) (by rw [hml]; rfl) 0 (Nat.le_of_eq rfl) (by decide) (by decide) (by decide) (by decide) pd_5 rfl (argsL := [(.ref b1), (.int 0)]) (st := []) rfl fun T1 h1 v1 L1 e1 X1 q1 => ?_))
    obtain ⟨rfl, N1q, K1q, E1_b1, F1_b1_left⟩ := q1
    have O1 := O0.keep K1q (allS g_b1 all0)
    have K1 := Keep.trans K0 K1q (allS (Or.inl (List.mem_of_getElem? (i := 0) rfl)) all0)
    have N1 := Fr.app N0 N1q
    show zEnds p e below s T1 (mkF m 163 #[iv u0, iv u1, iv u2, iv 0, iv u4, rv b1, .val (.long 1), .second, iv 1] []) _ _ _
    refine zlload X1 hx hby at_163 rfl (ziloadN X1 hx hby at_165 rfl (zcalls X1 hx hby at_166 hZ hown (w46 hw) (w47 hw) (w20 hw) (w48 hw) e1 (c23_next l hw [] ⟨S_w_PAUSE, S_w_RESUME, S_w_STEP, E_w_PAUSE, E_w_RESUME, E_w_STEP, F_w_PAUSE_ordinal, F_w_RESUME_ordinal, F_w_STEP_ordinal, S_w_arr0, A_w_arr0, A_w_arr0_0, A_w_arr0_2, A_w_arr0_1⟩ O1 (Nat.le_trans Z0 K1.1) ) (by decide) (by rw [hml]; rfl) 0 (Nat.le_of_eq rfl) (by decide) (by decide) (by decide) (by decide) pd_6 rfl (argsL := [(.long 1), (.int 0)]) (st := []) rfl (zpureK ⟨rfl, rfl⟩ fun T2 X2 e2 => ?_)))
    show zEnds p e below s T2 (mkF m 169 #[iv u0, iv u1, iv u2, iv 0, iv u4, rv b1, .val (.long 1), .second, iv 1] [(.long 1)]) _ _ _
    refine zlstore X2 hx hby at_169 (L' := #[iv u0, iv u1, iv u2, iv 0, iv u4, rv b1, .val (.long 1), .second, iv 1]) rfl (ziload X2 hx hby at_171 rfl (zifNo X2 hx hby at_173 (by decide) (zaload X2 hx hby at_176 rfl rfl (zcallv X2 hx hby at_178 hZ hown (w13 hw) (w14 hw) (notFace_of_selects (args := #[]) (mvT hZ (w16 hw))) (w16 hw) (w15 hw) (w17 hw) (w2 hw) e2 E1_b1 (c15_isSpent l hw [] ⟨S_w_PAUSE, S_w_RESUME, S_w_STEP, E_w_PAUSE, E_w_RESUME, E_w_STEP, F_w_PAUSE_ordinal, F_w_RESUME_ordinal, F_w_STEP_ordinal, S_w_arr0, A_w_arr0, A_w_arr0_0, A_w_arr0_2, A_w_arr0_1⟩ O1 (Nat.le_trans Z0 K1.1) b1 g_b1 E1_b1 F1_b1_left) (by decide) (by rw [hml]; rfl) 0 (Nat.le_of_eq rfl) (by decide) (by decide) (by decide) (by decide) pd_1 rfl (argsL := []) (st := []) rfl (zpureK ⟨rfl, rfl⟩ fun T3 X3 e3 => ?_)))))
    show zEnds p e below s T3 (mkF m 181 #[iv u0, iv u1, iv u2, iv 0, iv u4, rv b1, .val (.long 1), .second, iv 1] [(.int 0)]) _ _ _
    refine zlload X3 hx hby at_181 rfl (zlconst X3 hx hby at_183 (z := (0 : Int64)) rfl (zlcmp X3 hx hby at_184 (1 : Int32) (by decide) (zifYes X3 hx hby at_185 192 (by decide) (by decide) (by decide) (ziconst X3 hx hby at_192 (z := (0 : Int32)) rfl (zicmpNo X3 hx hby at_193 (by decide) (ziconst X3 hx hby at_196 (z := (1 : Int32)) rfl (zgoto X3 hx hby at_197 201 (by decide) (by decide) (zistore X3 hx hby at_201 (L' := #[iv u0, iv u1, iv u2, iv 0, iv u4, rv b1, .val (.long 1), .second, iv 1]) rfl ?_))))))))
    show zEnds p e below s T3 (mkF m 203 #[iv u0, iv u1, iv u2, iv 0, iv u4, rv b1, .val (.long 1), .second, iv 1] []) _ _ _
    exact stg_3_3 X3 hx hZ hw hby hml hown hret hlk ⟨S_w_PAUSE, S_w_RESUME, S_w_STEP, E_w_PAUSE, E_w_RESUME, E_w_STEP, F_w_PAUSE_ordinal, F_w_RESUME_ordinal, F_w_STEP_ordinal, S_w_arr0, A_w_arr0, A_w_arr0_0, A_w_arr0_2, A_w_arr0_1⟩ e3 O1 N1 g_b1 E1_b1 F1_b1_left k4
  · show zEnds p e below s T0 (mkF m 157 #[iv u0, iv u1, iv u2, iv 1, iv u4, rv b1, .val (.long 1), .second, iv 1] []) _ _ _
    refine zaload X0 hx hby at_157 rfl rfl (ziloadN X0 hx hby at_159 rfl (zcalls X0 hx hby at_160 hZ hown (w18 hw) (w19 hw) (w20 hw) (w21 hw) e0 (c25_apply l hw [] ⟨S_w_PAUSE, S_w_RESUME, S_w_STEP, E_w_PAUSE, E_w_RESUME, E_w_STEP, F_w_PAUSE_ordinal, F_w_RESUME_ordinal, F_w_STEP_ordinal, S_w_arr0, A_w_arr0, A_w_arr0_0, A_w_arr0_2, A_w_arr0_1⟩ O0 (Nat.le_trans Z0 K0.1) b1 g_b1 E_b1 F_b1_left) (by decide) (by rw [hml]; rfl) 0 (Nat.le_of_eq rfl) (by decide) (by decide) (by decide) (by decide) pd_5 rfl (argsL := [(.ref b1), (.int 1)]) (st := []) rfl fun T4 h4 v4 L4 e4 X4 q4 => ?_))
    obtain ⟨rfl, N4q, K4q, E4_b1, F4_b1_left⟩ := q4
    have O4 := O0.keep K4q (allS g_b1 all0)
    have K4 := Keep.trans K0 K4q (allS (Or.inl (List.mem_of_getElem? (i := 0) rfl)) all0)
    have N4 := Fr.app N0 N4q
    show zEnds p e below s T4 (mkF m 163 #[iv u0, iv u1, iv u2, iv 1, iv u4, rv b1, .val (.long 1), .second, iv 1] []) _ _ _
    refine zlload X4 hx hby at_163 rfl (ziloadN X4 hx hby at_165 rfl (zcalls X4 hx hby at_166 hZ hown (w46 hw) (w47 hw) (w20 hw) (w48 hw) e4 (c31_next l hw [] ⟨S_w_PAUSE, S_w_RESUME, S_w_STEP, E_w_PAUSE, E_w_RESUME, E_w_STEP, F_w_PAUSE_ordinal, F_w_RESUME_ordinal, F_w_STEP_ordinal, S_w_arr0, A_w_arr0, A_w_arr0_0, A_w_arr0_2, A_w_arr0_1⟩ O4 (Nat.le_trans Z0 K4.1) ) (by decide) (by rw [hml]; rfl) 0 (Nat.le_of_eq rfl) (by decide) (by decide) (by decide) (by decide) pd_6 rfl (argsL := [(.long 1), (.int 1)]) (st := []) rfl (zpureK ⟨rfl, rfl⟩ fun T5 X5 e5 => ?_)))
    show zEnds p e below s T5 (mkF m 169 #[iv u0, iv u1, iv u2, iv 1, iv u4, rv b1, .val (.long 1), .second, iv 1] [(.long 2)]) _ _ _
    refine zlstore X5 hx hby at_169 (L' := #[iv u0, iv u1, iv u2, iv 1, iv u4, rv b1, .val (.long 2), .second, iv 1]) rfl (ziload X5 hx hby at_171 rfl (zifNo X5 hx hby at_173 (by decide) (zaload X5 hx hby at_176 rfl rfl (zcallv X5 hx hby at_178 hZ hown (w13 hw) (w14 hw) (notFace_of_selects (args := #[]) (mvT hZ (w16 hw))) (w16 hw) (w15 hw) (w17 hw) (w2 hw) e5 E4_b1 (c33_isSpent l hw [] ⟨S_w_PAUSE, S_w_RESUME, S_w_STEP, E_w_PAUSE, E_w_RESUME, E_w_STEP, F_w_PAUSE_ordinal, F_w_RESUME_ordinal, F_w_STEP_ordinal, S_w_arr0, A_w_arr0, A_w_arr0_0, A_w_arr0_2, A_w_arr0_1⟩ O4 (Nat.le_trans Z0 K4.1) b1 g_b1 E4_b1 F4_b1_left) (by decide) (by rw [hml]; rfl) 0 (Nat.le_of_eq rfl) (by decide) (by decide) (by decide) (by decide) pd_1 rfl (argsL := []) (st := []) rfl (zpureK ⟨rfl, rfl⟩ fun T6 X6 e6 => ?_)))))
    show zEnds p e below s T6 (mkF m 181 #[iv u0, iv u1, iv u2, iv 1, iv u4, rv b1, .val (.long 2), .second, iv 1] [(.int 0)]) _ _ _
    refine zlload X6 hx hby at_181 rfl (zlconst X6 hx hby at_183 (z := (0 : Int64)) rfl (zlcmp X6 hx hby at_184 (1 : Int32) (by decide) (zifYes X6 hx hby at_185 192 (by decide) (by decide) (by decide) (ziconst X6 hx hby at_192 (z := (0 : Int32)) rfl (zicmpNo X6 hx hby at_193 (by decide) (ziconst X6 hx hby at_196 (z := (1 : Int32)) rfl (zgoto X6 hx hby at_197 201 (by decide) (by decide) (zistore X6 hx hby at_201 (L' := #[iv u0, iv u1, iv u2, iv 1, iv u4, rv b1, .val (.long 2), .second, iv 1]) rfl ?_))))))))
    show zEnds p e below s T6 (mkF m 203 #[iv u0, iv u1, iv u2, iv 1, iv u4, rv b1, .val (.long 2), .second, iv 1] []) _ _ _
    exact stg_3_4 X6 hx hZ hw hby hml hown hret hlk ⟨S_w_PAUSE, S_w_RESUME, S_w_STEP, E_w_PAUSE, E_w_RESUME, E_w_STEP, F_w_PAUSE_ordinal, F_w_RESUME_ordinal, F_w_STEP_ordinal, S_w_arr0, A_w_arr0, A_w_arr0_0, A_w_arr0_2, A_w_arr0_1⟩ e6 O4 N4 g_b1 E4_b1 F4_b1_left k4
  · show zEnds p e below s T0 (mkF m 157 #[iv u0, iv u1, iv u2, iv 2, iv u4, rv b1, .val (.long 1), .second, iv 1] []) _ _ _
    refine zaload X0 hx hby at_157 rfl rfl (ziloadN X0 hx hby at_159 rfl (zcalls X0 hx hby at_160 hZ hown (w18 hw) (w19 hw) (w20 hw) (w21 hw) e0 (c35_apply l hw [] ⟨S_w_PAUSE, S_w_RESUME, S_w_STEP, E_w_PAUSE, E_w_RESUME, E_w_STEP, F_w_PAUSE_ordinal, F_w_RESUME_ordinal, F_w_STEP_ordinal, S_w_arr0, A_w_arr0, A_w_arr0_0, A_w_arr0_2, A_w_arr0_1⟩ O0 (Nat.le_trans Z0 K0.1) b1 g_b1 E_b1 F_b1_left) (by decide) (by rw [hml]; rfl) 0 (Nat.le_of_eq rfl) (by decide) (by decide) (by decide) (by decide) pd_5 rfl (argsL := [(.ref b1), (.int 2)]) (st := []) rfl fun T7 h7 v7 L7 e7 X7 q7 => ?_))
    obtain ⟨rfl, N7q, K7q, E7_b1, F7_b1_left⟩ := q7
    have O7 := O0.keep K7q (allS g_b1 all0)
    have K7 := Keep.trans K0 K7q (allS (Or.inl (List.mem_of_getElem? (i := 0) rfl)) all0)
    have N7 := Fr.app N0 N7q
    show zEnds p e below s T7 (mkF m 163 #[iv u0, iv u1, iv u2, iv 2, iv u4, rv b1, .val (.long 1), .second, iv 1] []) _ _ _
    refine zlload X7 hx hby at_163 rfl (ziloadN X7 hx hby at_165 rfl (zcalls X7 hx hby at_166 hZ hown (w46 hw) (w47 hw) (w20 hw) (w48 hw) e7 (c41_next l hw [] ⟨S_w_PAUSE, S_w_RESUME, S_w_STEP, E_w_PAUSE, E_w_RESUME, E_w_STEP, F_w_PAUSE_ordinal, F_w_RESUME_ordinal, F_w_STEP_ordinal, S_w_arr0, A_w_arr0, A_w_arr0_0, A_w_arr0_2, A_w_arr0_1⟩ O7 (Nat.le_trans Z0 K7.1) ) (by decide) (by rw [hml]; rfl) 0 (Nat.le_of_eq rfl) (by decide) (by decide) (by decide) (by decide) pd_6 rfl (argsL := [(.long 1), (.int 2)]) (st := []) rfl (zpureK ⟨rfl, rfl⟩ fun T8 X8 e8 => ?_)))
    show zEnds p e below s T8 (mkF m 169 #[iv u0, iv u1, iv u2, iv 2, iv u4, rv b1, .val (.long 1), .second, iv 1] [(.long (-1))]) _ _ _
    refine zlstore X8 hx hby at_169 (L' := #[iv u0, iv u1, iv u2, iv 2, iv u4, rv b1, .val (.long (-1)), .second, iv 1]) rfl (ziload X8 hx hby at_171 rfl (zifNo X8 hx hby at_173 (by decide) (zaload X8 hx hby at_176 rfl rfl (zcallv X8 hx hby at_178 hZ hown (w13 hw) (w14 hw) (notFace_of_selects (args := #[]) (mvT hZ (w16 hw))) (w16 hw) (w15 hw) (w17 hw) (w2 hw) e8 E7_b1 (c3_isSpent l hw [] ⟨S_w_PAUSE, S_w_RESUME, S_w_STEP, E_w_PAUSE, E_w_RESUME, E_w_STEP, F_w_PAUSE_ordinal, F_w_RESUME_ordinal, F_w_STEP_ordinal, S_w_arr0, A_w_arr0, A_w_arr0_0, A_w_arr0_2, A_w_arr0_1⟩ O7 (Nat.le_trans Z0 K7.1) b1 g_b1 E7_b1 F7_b1_left) (by decide) (by rw [hml]; rfl) 0 (Nat.le_of_eq rfl) (by decide) (by decide) (by decide) (by decide) pd_1 rfl (argsL := []) (st := []) rfl (zpureK ⟨rfl, rfl⟩ fun T9 X9 e9 => ?_)))))
    show zEnds p e below s T9 (mkF m 181 #[iv u0, iv u1, iv u2, iv 2, iv u4, rv b1, .val (.long (-1)), .second, iv 1] [(.int 0)]) _ _ _
    refine zlload X9 hx hby at_181 rfl (zlconst X9 hx hby at_183 (z := (0 : Int64)) rfl (zlcmp X9 hx hby at_184 (-1 : Int32) (by decide) (zifYes X9 hx hby at_185 192 (by decide) (by decide) (by decide) (ziconst X9 hx hby at_192 (z := (0 : Int32)) rfl (zicmpNo X9 hx hby at_193 (by decide) (ziconst X9 hx hby at_196 (z := (1 : Int32)) rfl (zgoto X9 hx hby at_197 201 (by decide) (by decide) (zistore X9 hx hby at_201 (L' := #[iv u0, iv u1, iv u2, iv 2, iv u4, rv b1, .val (.long (-1)), .second, iv 1]) rfl ?_))))))))
    show zEnds p e below s T9 (mkF m 203 #[iv u0, iv u1, iv u2, iv 2, iv u4, rv b1, .val (.long (-1)), .second, iv 1] []) _ _ _
    exact stg_3_5 X9 hx hZ hw hby hml hown hret hlk ⟨S_w_PAUSE, S_w_RESUME, S_w_STEP, E_w_PAUSE, E_w_RESUME, E_w_STEP, F_w_PAUSE_ordinal, F_w_RESUME_ordinal, F_w_STEP_ordinal, S_w_arr0, A_w_arr0, A_w_arr0_0, A_w_arr0_2, A_w_arr0_1⟩ e9 O7 N7 g_b1 E7_b1 F7_b1_left k4
  · show zEnds p e below s T0 (mkF m 157 #[iv u0, iv u1, iv u2, iv 3, iv u4, rv b1, .val (.long 1), .second, iv 1] []) _ _ _
    refine zaload X0 hx hby at_157 rfl rfl (ziloadN X0 hx hby at_159 rfl (zcalls X0 hx hby at_160 hZ hown (w18 hw) (w19 hw) (w20 hw) (w21 hw) e0 (c43_apply l hw [] ⟨S_w_PAUSE, S_w_RESUME, S_w_STEP, E_w_PAUSE, E_w_RESUME, E_w_STEP, F_w_PAUSE_ordinal, F_w_RESUME_ordinal, F_w_STEP_ordinal, S_w_arr0, A_w_arr0, A_w_arr0_0, A_w_arr0_2, A_w_arr0_1⟩ O0 (Nat.le_trans Z0 K0.1) b1 g_b1 E_b1 F_b1_left) (by decide) (by rw [hml]; rfl) 0 (Nat.le_of_eq rfl) (by decide) (by decide) (by decide) (by decide) pd_5 rfl (argsL := [(.ref b1), (.int 3)]) (st := []) rfl fun T10 h10 v10 L10 e10 X10 q10 => ?_))
    obtain ⟨rfl, N10q, K10q, E10_b1, F10_b1_left⟩ := q10
    have O10 := O0.keep K10q (allS g_b1 all0)
    have K10 := Keep.trans K0 K10q (allS (Or.inl (List.mem_of_getElem? (i := 0) rfl)) all0)
    have N10 := Fr.app N0 N10q
    show zEnds p e below s T10 (mkF m 163 #[iv u0, iv u1, iv u2, iv 3, iv u4, rv b1, .val (.long 1), .second, iv 1] []) _ _ _
    refine zlload X10 hx hby at_163 rfl (ziloadN X10 hx hby at_165 rfl (zcalls X10 hx hby at_166 hZ hown (w46 hw) (w47 hw) (w20 hw) (w48 hw) e10 (c47_next l hw [] ⟨S_w_PAUSE, S_w_RESUME, S_w_STEP, E_w_PAUSE, E_w_RESUME, E_w_STEP, F_w_PAUSE_ordinal, F_w_RESUME_ordinal, F_w_STEP_ordinal, S_w_arr0, A_w_arr0, A_w_arr0_0, A_w_arr0_2, A_w_arr0_1⟩ O10 (Nat.le_trans Z0 K10.1) ) (by decide) (by rw [hml]; rfl) 0 (Nat.le_of_eq rfl) (by decide) (by decide) (by decide) (by decide) pd_6 rfl (argsL := [(.long 1), (.int 3)]) (st := []) rfl (zpureK ⟨rfl, rfl⟩ fun T11 X11 e11 => ?_)))
    show zEnds p e below s T11 (mkF m 169 #[iv u0, iv u1, iv u2, iv 3, iv u4, rv b1, .val (.long 1), .second, iv 1] [(.long 0)]) _ _ _
    refine zlstore X11 hx hby at_169 (L' := #[iv u0, iv u1, iv u2, iv 3, iv u4, rv b1, .val (.long 0), .second, iv 1]) rfl (ziload X11 hx hby at_171 rfl (zifNo X11 hx hby at_173 (by decide) (zaload X11 hx hby at_176 rfl rfl (zcallv X11 hx hby at_178 hZ hown (w13 hw) (w14 hw) (notFace_of_selects (args := #[]) (mvT hZ (w16 hw))) (w16 hw) (w15 hw) (w17 hw) (w2 hw) e11 E10_b1 (c49_isSpent l hw [] ⟨S_w_PAUSE, S_w_RESUME, S_w_STEP, E_w_PAUSE, E_w_RESUME, E_w_STEP, F_w_PAUSE_ordinal, F_w_RESUME_ordinal, F_w_STEP_ordinal, S_w_arr0, A_w_arr0, A_w_arr0_0, A_w_arr0_2, A_w_arr0_1⟩ O10 (Nat.le_trans Z0 K10.1) b1 g_b1 E10_b1 F10_b1_left) (by decide) (by rw [hml]; rfl) 0 (Nat.le_of_eq rfl) (by decide) (by decide) (by decide) (by decide) pd_1 rfl (argsL := []) (st := []) rfl (zpureK ⟨rfl, rfl⟩ fun T12 X12 e12 => ?_)))))
    show zEnds p e below s T12 (mkF m 181 #[iv u0, iv u1, iv u2, iv 3, iv u4, rv b1, .val (.long 0), .second, iv 1] [(.int 1)]) _ _ _
    refine zlload X12 hx hby at_181 rfl (zlconst X12 hx hby at_183 (z := (0 : Int64)) rfl (zlcmp X12 hx hby at_184 (0 : Int32) (by decide) (zifNo X12 hx hby at_185 (by decide) (ziconst X12 hx hby at_188 (z := (1 : Int32)) rfl (zgoto X12 hx hby at_189 193 (by decide) (by decide) (zicmpNo X12 hx hby at_193 (by decide) (ziconst X12 hx hby at_196 (z := (1 : Int32)) rfl (zgoto X12 hx hby at_197 201 (by decide) (by decide) (zistore X12 hx hby at_201 (L' := #[iv u0, iv u1, iv u2, iv 3, iv u4, rv b1, .val (.long 0), .second, iv 1]) rfl ?_)))))))))
    show zEnds p e below s T12 (mkF m 203 #[iv u0, iv u1, iv u2, iv 3, iv u4, rv b1, .val (.long 0), .second, iv 1] []) _ _ _
    exact stg_3_6 X12 hx hZ hw hby hml hown hret hlk ⟨S_w_PAUSE, S_w_RESUME, S_w_STEP, E_w_PAUSE, E_w_RESUME, E_w_STEP, F_w_PAUSE_ordinal, F_w_RESUME_ordinal, F_w_STEP_ordinal, S_w_arr0, A_w_arr0, A_w_arr0_0, A_w_arr0_2, A_w_arr0_1⟩ e12 O10 N10 g_b1 E10_b1 F10_b1_left k4
set_option maxRecDepth 65536 in
set_option maxHeartbeats 40000000 in
theorem c125_min (l : Launch) {Z : State} {a0 : Array Value} (hw : ∀ d ∈ tables_1, d.before a0 Z = true) (ws : List Jvm.Cond) {w_PAUSE w_RESUME w_STEP w_arr0 : Addr} {cl_arr0 : Cell} {n0 : Nat} {h0 : Heap} (C : Ctx Z w_PAUSE w_RESUME w_STEP w_arr0 cl_arr0) (O0 : Old Z n0 h0) (Z0 : n0 ≤ h0.size)  : zCon l Z (⟨"java/lang/Math", "min", "(JJ)J"⟩ : MethodName) jdk_29_method_70_code 4 (some .long) ws ({ frames := 0, cells := 0, slots := 0, locals := 0 } : Room) #[(.long 3), (.long 1)] h0 (zSame (some (.long 1)) h0) := by
  obtain ⟨S_w_PAUSE, S_w_RESUME, S_w_STEP, E_w_PAUSE, E_w_RESUME, E_w_STEP, F_w_PAUSE_ordinal, F_w_RESUME_ordinal, F_w_STEP_ordinal, S_w_arr0, A_w_arr0, A_w_arr0_0, A_w_arr0_2, A_w_arr0_1⟩ := C
  refine zenter (Jvm.Free.JP.mathPlain rfl (by decide +kernel)) (L0 := #[.val (.long 3), .second, .val (.long 1), .second]) (fun m => by first | rfl | simp [entryFrame, mkF, argsToLocals, Value.category, maxLocals]) ?_
  intro p e s m below meth c T0 hx hZ hby hml hown0 hnm hret hlk X0 e0
  have hown : s.vm.findClass "java/lang/Math" = some m.cls := hown0
  have K0 := Keep.refl h0 []
  have N0 := Fr.nil n0
  show zEnds p e below s T0 (mkF m 0 #[.val (.long 3), .second, .val (.long 1), .second] []) _ _ _
  refine zlloadN X0 hx hby d_jdk_29_method_70_0 rfl (zlloadN X0 hx hby d_jdk_29_method_70_1 rfl (zlcmp X0 hx hby d_jdk_29_method_70_2 (1 : Int32) (by decide) (zifYes X0 hx hby d_jdk_29_method_70_3 10 (by decide) (by decide) (by decide) (zlloadN X0 hx hby d_jdk_29_method_70_10 rfl ?_))))
  show zEnds p e below s T0 (mkF m 11 #[.val (.long 3), .second, .val (.long 1), .second] [(.long 1)]) _ _ _
  exact zretL X0 hx hby d_jdk_29_method_70_11 hret hlk (by decide) (by decide) ⟨rfl, e0, rfl⟩
set_option maxRecDepth 65536 in
set_option maxHeartbeats 40000000 in
theorem c124_obey (l : Launch) {Z : State} {a0 : Array Value} (hw : ∀ d ∈ tables_1, d.before a0 Z = true) (ws : List Jvm.Cond) {w_PAUSE w_RESUME w_STEP w_arr0 : Addr} {cl_arr0 : Cell} {n0 : Nat} {h0 : Heap} (C : Ctx Z w_PAUSE w_RESUME w_STEP w_arr0 cl_arr0) (O0 : Old Z n0 h0) (Z0 : n0 ≤ h0.size) (b900 : Addr) (g_b900 : n0 ≤ b900) (E_b900 : Exa Z h0 b900 "heapglass/core/wire/Allowance") (F_b900_left : Fld Z h0 b900 "heapglass/core/wire/Allowance" "left" "J" (.long 3)) : zCon l Z (⟨"heapglass/core/wire/Allowance", "obey", "(Lheapglass/core/wire/Control;)V"⟩ : MethodName) prog_9_method_2_code 2 none ws ({ frames := 1, cells := 0, slots := 0, locals := 16 } : Room) #[(.ref b900), (.ref w_PAUSE)] h0 (fun v h L => v = none ∧ Fr n0 L ∧ Keep h0 h [b900] ∧ Exa Z h b900 "heapglass/core/wire/Allowance" ∧ Fld Z h b900 "heapglass/core/wire/Allowance" "left" "J" (.long 1)) := by
  obtain ⟨S_w_PAUSE, S_w_RESUME, S_w_STEP, E_w_PAUSE, E_w_RESUME, E_w_STEP, F_w_PAUSE_ordinal, F_w_RESUME_ordinal, F_w_STEP_ordinal, S_w_arr0, A_w_arr0, A_w_arr0_0, A_w_arr0_2, A_w_arr0_1⟩ := C
  refine zenter (plainFor_of_name pn_0) (L0 := #[rv b900, rv w_PAUSE]) (fun m => by first | rfl | simp [entryFrame, mkF, argsToLocals, Value.category, maxLocals]) ?_
  intro p e s m below meth c T0 hx hZ hby hml hown0 hnm hret hlk X0 e0
  have hown : s.vm.findClass "heapglass/core/wire/Allowance" = some m.cls := hown0
  have K0 := Keep.refl h0 [b900]
  have N0 := Fr.nil n0
  show zEnds p e below s T0 (mkF m 0 #[rv b900, rv w_PAUSE] []) _ _ _
  refine zaloadN X0 hx hby d_prog_9_method_2_0 rfl rfl (zgetstat X0 hx hby d_prog_9_method_2_1 hZ hown (host := "") (Or.inl (w30 hw)) Via.refl e0 (S_w_arr0.ext O0.2) fun T1 X1 e1 => (zaloadN X1 hx hby d_prog_9_method_2_4 rfl rfl (zcallup X1 hx hby d_prog_9_method_2_5 hZ hown (w33 hw) (w34 hw) (w35 hw) (w37 hw) (w36 hw) (w39 hw) (w38 hw) e1 (E_w_PAUSE.ext O0.2) (c7_ordinal l hw [] ⟨S_w_PAUSE, S_w_RESUME, S_w_STEP, E_w_PAUSE, E_w_RESUME, E_w_STEP, F_w_PAUSE_ordinal, F_w_RESUME_ordinal, F_w_STEP_ordinal, S_w_arr0, A_w_arr0, A_w_arr0_0, A_w_arr0_2, A_w_arr0_1⟩ O0 (Nat.le_trans Z0 K0.1) ) (by decide) (by rw [hml]; rfl) 2 (Nat.le_of_eq rfl) (by decide) (by decide) (by decide) (by decide) pd_2 rfl (argsL := []) (st := [(.ref w_arr0), (.ref b900)]) rfl (zpureK ⟨rfl, rfl⟩ fun T2 X2 e2 => ?_))))
  show zEnds p e below s T2 (mkF m 8 #[rv b900, rv w_PAUSE] [(.int 0), (.ref w_arr0), (.ref b900)]) _ _ _
  refine zialoadC X2 hx hby d_prog_9_method_2_8 hZ e2 (A_w_arr0.ext O0.2) A_w_arr0_0 (ztswIn X2 hx hby d_prog_9_method_2_9 46 (by decide) rfl (by decide) (by decide) (zaloadN X2 hx hby d_prog_9_method_2_46 rfl rfl (zgetfld X2 hx hby d_prog_9_method_2_47 hZ hown (host := "") (Or.inl (w10 hw)) Via.refl e2 F_b900_left fun T3 X3 e3 => (zlconst X3 hx hby d_prog_9_method_2_50 (z := (1 : Int64)) rfl (zcalls X3 hx hby d_prog_9_method_2_51 hZ hown (w42 hw) (w43 hw) (w44 hw) (w45 hw) e3 (c125_min l hw [] ⟨S_w_PAUSE, S_w_RESUME, S_w_STEP, E_w_PAUSE, E_w_RESUME, E_w_STEP, F_w_PAUSE_ordinal, F_w_RESUME_ordinal, F_w_STEP_ordinal, S_w_arr0, A_w_arr0, A_w_arr0_0, A_w_arr0_2, A_w_arr0_1⟩ O0 (Nat.le_trans Z0 K0.1) ) (by decide) (by rw [hml]; rfl) 1 (Nat.le_of_eq rfl) (by decide) (by decide) (by decide) (by decide) pd_3 rfl (argsL := [(.long 3), (.long 1)]) (st := [(.ref b900)]) rfl (zpureK ⟨rfl, rfl⟩ fun T4 X4 e4 => ?_))))))
  show zEnds p e below s T4 (mkF m 54 #[rv b900, rv w_PAUSE] [(.long 1), (.ref b900)]) _ _ _
  refine zgoto X4 hx hby d_prog_9_method_2_54 84 (by decide) (by decide) (zputfld X4 hx hby d_prog_9_method_2_84 hZ hown (host := "") (Or.inl (w10 hw)) Via.refl e4 F_b900_left E_b900 (Or.inl (w11 hw)) (w1 hw) (ty := .long) (by decide) rfl rfl fun T5 h5 X5 e5 W5 => ?_)
  have F5_b900_left : Fld Z h5 b900 "heapglass/core/wire/Allowance" "left" "J" (.long 1) := F_b900_left.same W5
  have E5_b900 := E_b900.wr W5
  have O5 := O0.wr W5 g_b900
  have K5 := Keep.wr K0 W5 (Or.inl (List.mem_of_getElem? (i := 0) rfl))
  have N5 := Fr.snoc X5 N0 g_b900
  show zEnds p e below s T5 (mkF m 87 #[rv b900, rv w_PAUSE] []) _ _ _
  exact zretV X5 hx hby d_prog_9_method_2_87 hret hlk (by decide) (by decide) (by rw [e5]; exact ⟨rfl, N5, K5, E5_b900, F5_b900_left⟩)
set_option maxRecDepth 65536 in
set_option maxHeartbeats 40000000 in
theorem c123_apply (l : Launch) {Z : State} {a0 : Array Value} (hw : ∀ d ∈ tables_1, d.before a0 Z = true) (ws : List Jvm.Cond) {w_PAUSE w_RESUME w_STEP w_arr0 : Addr} {cl_arr0 : Cell} {n0 : Nat} {h0 : Heap} (C : Ctx Z w_PAUSE w_RESUME w_STEP w_arr0 cl_arr0) (O0 : Old Z n0 h0) (Z0 : n0 ≤ h0.size) (b900 : Addr) (g_b900 : n0 ≤ b900) (E_b900 : Exa Z h0 b900 "heapglass/core/wire/Allowance") (F_b900_left : Fld Z h0 b900 "heapglass/core/wire/Allowance" "left" "J" (.long 3)) : zCon l Z (⟨"heapglass/core/wire/AllowanceIsSpentPinLaw", "apply", "(Lheapglass/core/wire/Allowance;I)V"⟩ : MethodName) method_3_code 2 none ws ({ frames := 2, cells := 0, slots := 0, locals := 29 } : Room) #[(.ref b900), (.int 0)] h0 (fun v h L => v = none ∧ Fr n0 L ∧ Keep h0 h [b900] ∧ Exa Z h b900 "heapglass/core/wire/Allowance" ∧ Fld Z h b900 "heapglass/core/wire/Allowance" "left" "J" (.long 1)) := by
  obtain ⟨S_w_PAUSE, S_w_RESUME, S_w_STEP, E_w_PAUSE, E_w_RESUME, E_w_STEP, F_w_PAUSE_ordinal, F_w_RESUME_ordinal, F_w_STEP_ordinal, S_w_arr0, A_w_arr0, A_w_arr0_0, A_w_arr0_2, A_w_arr0_1⟩ := C
  refine zenter (plainFor_of_name pn_2) (L0 := #[rv b900, iv 0]) (fun m => by first | rfl | simp [entryFrame, mkF, argsToLocals, Value.category, maxLocals]) ?_
  intro p e s m below meth c T0 hx hZ hby hml hown0 hnm hret hlk X0 e0
  have hown : s.vm.findClass "heapglass/core/wire/AllowanceIsSpentPinLaw" = some m.cls := hown0
  have K0 := Keep.refl h0 [b900]
  have N0 := Fr.nil n0
  show zEnds p e below s T0 (mkF m 0 #[rv b900, iv 0] []) _ _ _
  refine ziloadN X0 hx hby d_method_3_0 rfl (zifNo X0 hx hby d_method_3_1 (by decide) (zaloadN X0 hx hby d_method_3_4 rfl rfl (zgetstat X0 hx hby d_method_3_5 hZ hown (host := "") (Or.inl (w22 hw)) Via.refl e0 (S_w_PAUSE.ext O0.2) fun T1 X1 e1 => (zcallv X1 hx hby d_method_3_8 hZ hown (w25 hw) (w26 hw) (notFace_of_selects (args := #[]) (mvT hZ (w28 hw))) (w28 hw) (w27 hw) (w29 hw) (w2 hw) e1 E_b900 (c124_obey l hw [] ⟨S_w_PAUSE, S_w_RESUME, S_w_STEP, E_w_PAUSE, E_w_RESUME, E_w_STEP, F_w_PAUSE_ordinal, F_w_RESUME_ordinal, F_w_STEP_ordinal, S_w_arr0, A_w_arr0, A_w_arr0_0, A_w_arr0_2, A_w_arr0_1⟩ O0 (Nat.le_trans Z0 K0.1) b900 g_b900 E_b900 F_b900_left) (by decide) (by rw [hml]; rfl) 0 (Nat.le_of_eq rfl) (by decide) (by decide) (by decide) (by decide) pd_4 rfl (argsL := [(.ref w_PAUSE)]) (st := []) rfl fun T2 h2 v2 L2 e2 X2 q2 => ?_))))
  obtain ⟨rfl, N2q, K2q, E2_b900, F2_b900_left⟩ := q2
  have O2 := O0.keep K2q (allS g_b900 all0)
  have K2 := Keep.trans K0 K2q (allS (Or.inl (List.mem_of_getElem? (i := 0) rfl)) all0)
  have N2 := Fr.app N0 N2q
  show zEnds p e below s T2 (mkF m 11 #[rv b900, iv 0] []) _ _ _
  refine zgoto X2 hx hby d_method_3_11 48 (by decide) (by decide) ?_
  show zEnds p e below s T2 (mkF m 48 #[rv b900, iv 0] []) _ _ _
  exact zretV X2 hx hby d_method_3_48 hret hlk (by decide) (by decide) (by rw [e2]; exact ⟨rfl, N2, K2, E2_b900, F2_b900_left⟩)
set_option maxRecDepth 65536 in
set_option maxHeartbeats 40000000 in
theorem c129_next (l : Launch) {Z : State} {a0 : Array Value} (hw : ∀ d ∈ tables_1, d.before a0 Z = true) (ws : List Jvm.Cond) {w_PAUSE w_RESUME w_STEP w_arr0 : Addr} {cl_arr0 : Cell} {n0 : Nat} {h0 : Heap} (C : Ctx Z w_PAUSE w_RESUME w_STEP w_arr0 cl_arr0) (O0 : Old Z n0 h0) (Z0 : n0 ≤ h0.size)  : zCon l Z (⟨"heapglass/core/wire/AllowanceIsSpentPinLaw", "next", "(JI)J"⟩ : MethodName) method_2_code 3 (some .long) ws ({ frames := 1, cells := 0, slots := 0, locals := 15 } : Room) #[(.long 3), (.int 0)] h0 (zSame (some (.long 1)) h0) := by
  obtain ⟨S_w_PAUSE, S_w_RESUME, S_w_STEP, E_w_PAUSE, E_w_RESUME, E_w_STEP, F_w_PAUSE_ordinal, F_w_RESUME_ordinal, F_w_STEP_ordinal, S_w_arr0, A_w_arr0, A_w_arr0_0, A_w_arr0_2, A_w_arr0_1⟩ := C
  refine zenter (plainFor_of_name pn_2) (L0 := #[.val (.long 3), .second, iv 0]) (fun m => by first | rfl | simp [entryFrame, mkF, argsToLocals, Value.category, maxLocals]) ?_
  intro p e s m below meth c T0 hx hZ hby hml hown0 hnm hret hlk X0 e0
  have hown : s.vm.findClass "heapglass/core/wire/AllowanceIsSpentPinLaw" = some m.cls := hown0
  have K0 := Keep.refl h0 []
  have N0 := Fr.nil n0
  show zEnds p e below s T0 (mkF m 0 #[.val (.long 3), .second, iv 0] []) _ _ _
  refine ziloadN X0 hx hby d_method_2_0 rfl (zifNo X0 hx hby d_method_2_1 (by decide) (zlloadN X0 hx hby d_method_2_4 rfl (zldc2J X0 hx hby d_method_2_5 (-1 : Int64) hZ hown (w12 hw) (zlcmp X0 hx hby d_method_2_8 (1 : Int32) (by decide) (zifYes X0 hx hby d_method_2_9 16 (by decide) (by decide) (by decide) (zlloadN X0 hx hby d_method_2_16 rfl (zlconst X0 hx hby d_method_2_17 (z := (1 : Int64)) rfl (zcalls X0 hx hby d_method_2_18 hZ hown (w49 hw) (w43 hw) (w44 hw) (w45 hw) e0 (c125_min l hw [] ⟨S_w_PAUSE, S_w_RESUME, S_w_STEP, E_w_PAUSE, E_w_RESUME, E_w_STEP, F_w_PAUSE_ordinal, F_w_RESUME_ordinal, F_w_STEP_ordinal, S_w_arr0, A_w_arr0, A_w_arr0_0, A_w_arr0_2, A_w_arr0_1⟩ O0 (Nat.le_trans Z0 K0.1) ) (by decide) (by rw [hml]; rfl) 0 (Nat.le_of_eq rfl) (by decide) (by decide) (by decide) (by decide) pd_3 rfl (argsL := [(.long 3), (.long 1)]) (st := []) rfl (zpureK ⟨rfl, rfl⟩ fun T1 X1 e1 => ?_)))))))))
  show zEnds p e below s T1 (mkF m 21 #[.val (.long 3), .second, iv 0] [(.long 1)]) _ _ _
  exact zretL X1 hx hby d_method_2_21 hret hlk (by decide) (by decide) ⟨rfl, e1, rfl⟩
set_option maxRecDepth 65536 in
set_option maxHeartbeats 40000000 in
theorem c132_obey (l : Launch) {Z : State} {a0 : Array Value} (hw : ∀ d ∈ tables_1, d.before a0 Z = true) (ws : List Jvm.Cond) {w_PAUSE w_RESUME w_STEP w_arr0 : Addr} {cl_arr0 : Cell} {n0 : Nat} {h0 : Heap} (C : Ctx Z w_PAUSE w_RESUME w_STEP w_arr0 cl_arr0) (O0 : Old Z n0 h0) (Z0 : n0 ≤ h0.size) (b900 : Addr) (g_b900 : n0 ≤ b900) (E_b900 : Exa Z h0 b900 "heapglass/core/wire/Allowance") (F_b900_left : Fld Z h0 b900 "heapglass/core/wire/Allowance" "left" "J" (.long 3)) : zCon l Z (⟨"heapglass/core/wire/Allowance", "obey", "(Lheapglass/core/wire/Control;)V"⟩ : MethodName) prog_9_method_2_code 2 none ws ({ frames := 1, cells := 0, slots := 0, locals := 14 } : Room) #[(.ref b900), (.ref w_STEP)] h0 (fun v h L => v = none ∧ Fr n0 L ∧ Keep h0 h [b900] ∧ Exa Z h b900 "heapglass/core/wire/Allowance" ∧ Fld Z h b900 "heapglass/core/wire/Allowance" "left" "J" (.long 4)) := by
  obtain ⟨S_w_PAUSE, S_w_RESUME, S_w_STEP, E_w_PAUSE, E_w_RESUME, E_w_STEP, F_w_PAUSE_ordinal, F_w_RESUME_ordinal, F_w_STEP_ordinal, S_w_arr0, A_w_arr0, A_w_arr0_0, A_w_arr0_2, A_w_arr0_1⟩ := C
  refine zenter (plainFor_of_name pn_0) (L0 := #[rv b900, rv w_STEP]) (fun m => by first | rfl | simp [entryFrame, mkF, argsToLocals, Value.category, maxLocals]) ?_
  intro p e s m below meth c T0 hx hZ hby hml hown0 hnm hret hlk X0 e0
  have hown : s.vm.findClass "heapglass/core/wire/Allowance" = some m.cls := hown0
  have K0 := Keep.refl h0 [b900]
  have N0 := Fr.nil n0
  show zEnds p e below s T0 (mkF m 0 #[rv b900, rv w_STEP] []) _ _ _
  refine zaloadN X0 hx hby d_prog_9_method_2_0 rfl rfl (zgetstat X0 hx hby d_prog_9_method_2_1 hZ hown (host := "") (Or.inl (w30 hw)) Via.refl e0 (S_w_arr0.ext O0.2) fun T1 X1 e1 => (zaloadN X1 hx hby d_prog_9_method_2_4 rfl rfl (zcallup X1 hx hby d_prog_9_method_2_5 hZ hown (w33 hw) (w34 hw) (w35 hw) (w37 hw) (w36 hw) (w39 hw) (w38 hw) e1 (E_w_STEP.ext O0.2) (c27_ordinal l hw [] ⟨S_w_PAUSE, S_w_RESUME, S_w_STEP, E_w_PAUSE, E_w_RESUME, E_w_STEP, F_w_PAUSE_ordinal, F_w_RESUME_ordinal, F_w_STEP_ordinal, S_w_arr0, A_w_arr0, A_w_arr0_0, A_w_arr0_2, A_w_arr0_1⟩ O0 (Nat.le_trans Z0 K0.1) ) (by decide) (by rw [hml]; rfl) 2 (Nat.le_of_eq rfl) (by decide) (by decide) (by decide) (by decide) pd_2 rfl (argsL := []) (st := [(.ref w_arr0), (.ref b900)]) rfl (zpureK ⟨rfl, rfl⟩ fun T2 X2 e2 => ?_))))
  show zEnds p e below s T2 (mkF m 8 #[rv b900, rv w_STEP] [(.int 1), (.ref w_arr0), (.ref b900)]) _ _ _
  refine zialoadC X2 hx hby d_prog_9_method_2_8 hZ e2 (A_w_arr0.ext O0.2) A_w_arr0_1 (ztswIn X2 hx hby d_prog_9_method_2_9 57 (by decide) rfl (by decide) (by decide) (zaloadN X2 hx hby d_prog_9_method_2_57 rfl rfl (zgetfld X2 hx hby d_prog_9_method_2_58 hZ hown (host := "") (Or.inl (w10 hw)) Via.refl e2 F_b900_left fun T3 X3 e3 => (zldc2J X3 hx hby d_prog_9_method_2_61 (9223372036854775807 : Int64) hZ hown (w9 hw) (zlcmp X3 hx hby d_prog_9_method_2_64 (-1 : Int32) (by decide) (zifYes X3 hx hby d_prog_9_method_2_65 72 (by decide) (by decide) (by decide) (zaloadN X3 hx hby d_prog_9_method_2_72 rfl rfl (zgetfld X3 hx hby d_prog_9_method_2_73 hZ hown (host := "") (Or.inl (w10 hw)) Via.refl e3 F_b900_left fun T4 X4 e4 => (zlconst X4 hx hby d_prog_9_method_2_76 (z := (1 : Int64)) rfl ?_)))))))))
  show zEnds p e below s T4 (mkF m 77 #[rv b900, rv w_STEP] [(.long 1), (.long 3), (.ref b900)]) _ _ _
  refine zladd X4 hx hby d_prog_9_method_2_77 (4 : Int64) (by decide) (zgoto X4 hx hby d_prog_9_method_2_78 84 (by decide) (by decide) (zputfld X4 hx hby d_prog_9_method_2_84 hZ hown (host := "") (Or.inl (w10 hw)) Via.refl e4 F_b900_left E_b900 (Or.inl (w11 hw)) (w1 hw) (ty := .long) (by decide) rfl rfl fun T5 h5 X5 e5 W5 => ?_))
  have F5_b900_left : Fld Z h5 b900 "heapglass/core/wire/Allowance" "left" "J" (.long 4) := F_b900_left.same W5
  have E5_b900 := E_b900.wr W5
  have O5 := O0.wr W5 g_b900
  have K5 := Keep.wr K0 W5 (Or.inl (List.mem_of_getElem? (i := 0) rfl))
  have N5 := Fr.snoc X5 N0 g_b900
  show zEnds p e below s T5 (mkF m 87 #[rv b900, rv w_STEP] []) _ _ _
  exact zretV X5 hx hby d_prog_9_method_2_87 hret hlk (by decide) (by decide) (by rw [e5]; exact ⟨rfl, N5, K5, E5_b900, F5_b900_left⟩)
set_option maxRecDepth 65536 in
set_option maxHeartbeats 40000000 in
theorem c131_apply (l : Launch) {Z : State} {a0 : Array Value} (hw : ∀ d ∈ tables_1, d.before a0 Z = true) (ws : List Jvm.Cond) {w_PAUSE w_RESUME w_STEP w_arr0 : Addr} {cl_arr0 : Cell} {n0 : Nat} {h0 : Heap} (C : Ctx Z w_PAUSE w_RESUME w_STEP w_arr0 cl_arr0) (O0 : Old Z n0 h0) (Z0 : n0 ≤ h0.size) (b900 : Addr) (g_b900 : n0 ≤ b900) (E_b900 : Exa Z h0 b900 "heapglass/core/wire/Allowance") (F_b900_left : Fld Z h0 b900 "heapglass/core/wire/Allowance" "left" "J" (.long 3)) : zCon l Z (⟨"heapglass/core/wire/AllowanceIsSpentPinLaw", "apply", "(Lheapglass/core/wire/Allowance;I)V"⟩ : MethodName) method_3_code 2 none ws ({ frames := 2, cells := 0, slots := 0, locals := 27 } : Room) #[(.ref b900), (.int 1)] h0 (fun v h L => v = none ∧ Fr n0 L ∧ Keep h0 h [b900] ∧ Exa Z h b900 "heapglass/core/wire/Allowance" ∧ Fld Z h b900 "heapglass/core/wire/Allowance" "left" "J" (.long 4)) := by
  obtain ⟨S_w_PAUSE, S_w_RESUME, S_w_STEP, E_w_PAUSE, E_w_RESUME, E_w_STEP, F_w_PAUSE_ordinal, F_w_RESUME_ordinal, F_w_STEP_ordinal, S_w_arr0, A_w_arr0, A_w_arr0_0, A_w_arr0_2, A_w_arr0_1⟩ := C
  refine zenter (plainFor_of_name pn_2) (L0 := #[rv b900, iv 1]) (fun m => by first | rfl | simp [entryFrame, mkF, argsToLocals, Value.category, maxLocals]) ?_
  intro p e s m below meth c T0 hx hZ hby hml hown0 hnm hret hlk X0 e0
  have hown : s.vm.findClass "heapglass/core/wire/AllowanceIsSpentPinLaw" = some m.cls := hown0
  have K0 := Keep.refl h0 [b900]
  have N0 := Fr.nil n0
  show zEnds p e below s T0 (mkF m 0 #[rv b900, iv 1] []) _ _ _
  refine ziloadN X0 hx hby d_method_3_0 rfl (zifYes X0 hx hby d_method_3_1 14 (by decide) (by decide) (by decide) (ziloadN X0 hx hby d_method_3_14 rfl (ziconst X0 hx hby d_method_3_15 (z := (1 : Int32)) rfl (zicmpNo X0 hx hby d_method_3_16 (by decide) (zaloadN X0 hx hby d_method_3_19 rfl rfl (zgetstat X0 hx hby d_method_3_20 hZ hown (host := "") (Or.inl (w57 hw)) Via.refl e0 (S_w_STEP.ext O0.2) fun T1 X1 e1 => (zcallv X1 hx hby d_method_3_23 hZ hown (w25 hw) (w26 hw) (notFace_of_selects (args := #[]) (mvT hZ (w28 hw))) (w28 hw) (w27 hw) (w29 hw) (w2 hw) e1 E_b900 (c132_obey l hw [] ⟨S_w_PAUSE, S_w_RESUME, S_w_STEP, E_w_PAUSE, E_w_RESUME, E_w_STEP, F_w_PAUSE_ordinal, F_w_RESUME_ordinal, F_w_STEP_ordinal, S_w_arr0, A_w_arr0, A_w_arr0_0, A_w_arr0_2, A_w_arr0_1⟩ O0 (Nat.le_trans Z0 K0.1) b900 g_b900 E_b900 F_b900_left) (by decide) (by rw [hml]; rfl) 0 (Nat.le_of_eq rfl) (by decide) (by decide) (by decide) (by decide) pd_4 rfl (argsL := [(.ref w_STEP)]) (st := []) rfl fun T2 h2 v2 L2 e2 X2 q2 => ?_)))))))
  obtain ⟨rfl, N2q, K2q, E2_b900, F2_b900_left⟩ := q2
  have O2 := O0.keep K2q (allS g_b900 all0)
  have K2 := Keep.trans K0 K2q (allS (Or.inl (List.mem_of_getElem? (i := 0) rfl)) all0)
  have N2 := Fr.app N0 N2q
  show zEnds p e below s T2 (mkF m 26 #[rv b900, iv 1] []) _ _ _
  refine zgoto X2 hx hby d_method_3_26 48 (by decide) (by decide) ?_
  show zEnds p e below s T2 (mkF m 48 #[rv b900, iv 1] []) _ _ _
  exact zretV X2 hx hby d_method_3_48 hret hlk (by decide) (by decide) (by rw [e2]; exact ⟨rfl, N2, K2, E2_b900, F2_b900_left⟩)
set_option maxRecDepth 65536 in
set_option maxHeartbeats 40000000 in
theorem c135_next (l : Launch) {Z : State} {a0 : Array Value} (hw : ∀ d ∈ tables_1, d.before a0 Z = true) (ws : List Jvm.Cond) {w_PAUSE w_RESUME w_STEP w_arr0 : Addr} {cl_arr0 : Cell} {n0 : Nat} {h0 : Heap} (C : Ctx Z w_PAUSE w_RESUME w_STEP w_arr0 cl_arr0) (O0 : Old Z n0 h0) (Z0 : n0 ≤ h0.size)  : zCon l Z (⟨"heapglass/core/wire/AllowanceIsSpentPinLaw", "next", "(JI)J"⟩ : MethodName) method_2_code 3 (some .long) ws ({ frames := 0, cells := 0, slots := 0, locals := 0 } : Room) #[(.long 3), (.int 1)] h0 (zSame (some (.long 4)) h0) := by
  obtain ⟨S_w_PAUSE, S_w_RESUME, S_w_STEP, E_w_PAUSE, E_w_RESUME, E_w_STEP, F_w_PAUSE_ordinal, F_w_RESUME_ordinal, F_w_STEP_ordinal, S_w_arr0, A_w_arr0, A_w_arr0_0, A_w_arr0_2, A_w_arr0_1⟩ := C
  refine zenter (plainFor_of_name pn_2) (L0 := #[.val (.long 3), .second, iv 1]) (fun m => by first | rfl | simp [entryFrame, mkF, argsToLocals, Value.category, maxLocals]) ?_
  intro p e s m below meth c T0 hx hZ hby hml hown0 hnm hret hlk X0 e0
  have hown : s.vm.findClass "heapglass/core/wire/AllowanceIsSpentPinLaw" = some m.cls := hown0
  have K0 := Keep.refl h0 []
  have N0 := Fr.nil n0
  show zEnds p e below s T0 (mkF m 0 #[.val (.long 3), .second, iv 1] []) _ _ _
  refine ziloadN X0 hx hby d_method_2_0 rfl (zifYes X0 hx hby d_method_2_1 22 (by decide) (by decide) (by decide) (ziloadN X0 hx hby d_method_2_22 rfl (ziconst X0 hx hby d_method_2_23 (z := (1 : Int32)) rfl (zicmpNo X0 hx hby d_method_2_24 (by decide) (zlloadN X0 hx hby d_method_2_27 rfl (zldc2J X0 hx hby d_method_2_28 (-1 : Int64) hZ hown (w12 hw) (zlcmp X0 hx hby d_method_2_31 (1 : Int32) (by decide) (zifYes X0 hx hby d_method_2_32 39 (by decide) (by decide) (by decide) (zlloadN X0 hx hby d_method_2_39 rfl ?_)))))))))
  show zEnds p e below s T0 (mkF m 40 #[.val (.long 3), .second, iv 1] [(.long 3)]) _ _ _
  refine zlconst X0 hx hby d_method_2_40 (z := (1 : Int64)) rfl (zladd X0 hx hby d_method_2_41 (4 : Int64) (by decide) ?_)
  show zEnds p e below s T0 (mkF m 42 #[.val (.long 3), .second, iv 1] [(.long 4)]) _ _ _
  exact zretL X0 hx hby d_method_2_42 hret hlk (by decide) (by decide) ⟨rfl, e0, rfl⟩
set_option maxRecDepth 65536 in
set_option maxHeartbeats 40000000 in
theorem c137_isSpent (l : Launch) {Z : State} {a0 : Array Value} (hw : ∀ d ∈ tables_1, d.before a0 Z = true) (ws : List Jvm.Cond) {w_PAUSE w_RESUME w_STEP w_arr0 : Addr} {cl_arr0 : Cell} {n0 : Nat} {h0 : Heap} (C : Ctx Z w_PAUSE w_RESUME w_STEP w_arr0 cl_arr0) (O0 : Old Z n0 h0) (Z0 : n0 ≤ h0.size) (b900 : Addr) (g_b900 : n0 ≤ b900) (E_b900 : Exa Z h0 b900 "heapglass/core/wire/Allowance") (F_b900_left : Fld Z h0 b900 "heapglass/core/wire/Allowance" "left" "J" (.long 4)) : zCon l Z (⟨"heapglass/core/wire/Allowance", "isSpent", "()Z"⟩ : MethodName) prog_9_method_4_code 1 (some .boolean) ws ({ frames := 0, cells := 0, slots := 0, locals := 0 } : Room) #[(.ref b900)] h0 (zSame (some (.int 0)) h0) := by
  obtain ⟨S_w_PAUSE, S_w_RESUME, S_w_STEP, E_w_PAUSE, E_w_RESUME, E_w_STEP, F_w_PAUSE_ordinal, F_w_RESUME_ordinal, F_w_STEP_ordinal, S_w_arr0, A_w_arr0, A_w_arr0_0, A_w_arr0_2, A_w_arr0_1⟩ := C
  refine zenter (plainFor_of_name pn_0) (L0 := #[rv b900]) (fun m => by first | rfl | simp [entryFrame, mkF, argsToLocals, Value.category, maxLocals]) ?_
  intro p e s m below meth c T0 hx hZ hby hml hown0 hnm hret hlk X0 e0
  have hown : s.vm.findClass "heapglass/core/wire/Allowance" = some m.cls := hown0
  have K0 := Keep.refl h0 []
  have N0 := Fr.nil n0
  show zEnds p e below s T0 (mkF m 0 #[rv b900] []) _ _ _
  refine zaloadN X0 hx hby d_prog_9_method_4_0 rfl rfl (zgetfld X0 hx hby d_prog_9_method_4_1 hZ hown (host := "") (Or.inl (w10 hw)) Via.refl e0 F_b900_left fun T1 X1 e1 => (zlconst X1 hx hby d_prog_9_method_4_4 (z := (0 : Int64)) rfl (zlcmp X1 hx hby d_prog_9_method_4_5 (1 : Int32) (by decide) (zifYes X1 hx hby d_prog_9_method_4_6 13 (by decide) (by decide) (by decide) (ziconst X1 hx hby d_prog_9_method_4_13 (z := (0 : Int32)) rfl ?_)))))
  show zEnds p e below s T1 (mkF m 14 #[rv b900] [(.int 0)]) _ _ _
  exact zretZ X1 hx hby d_prog_9_method_4_14 hret hlk (by simp) rfl (by decide) (by decide) ⟨rfl, e1, rfl⟩
set_option maxRecDepth 65536 in
set_option maxHeartbeats 40000000 in
theorem c140_obey (l : Launch) {Z : State} {a0 : Array Value} (hw : ∀ d ∈ tables_1, d.before a0 Z = true) (ws : List Jvm.Cond) {w_PAUSE w_RESUME w_STEP w_arr0 : Addr} {cl_arr0 : Cell} {n0 : Nat} {h0 : Heap} (C : Ctx Z w_PAUSE w_RESUME w_STEP w_arr0 cl_arr0) (O0 : Old Z n0 h0) (Z0 : n0 ≤ h0.size) (b900 : Addr) (g_b900 : n0 ≤ b900) (E_b900 : Exa Z h0 b900 "heapglass/core/wire/Allowance") (F_b900_left : Fld Z h0 b900 "heapglass/core/wire/Allowance" "left" "J" (.long 3)) : zCon l Z (⟨"heapglass/core/wire/Allowance", "obey", "(Lheapglass/core/wire/Control;)V"⟩ : MethodName) prog_9_method_2_code 2 none ws ({ frames := 1, cells := 0, slots := 0, locals := 14 } : Room) #[(.ref b900), (.ref w_RESUME)] h0 (fun v h L => v = none ∧ Fr n0 L ∧ Keep h0 h [b900] ∧ Exa Z h b900 "heapglass/core/wire/Allowance" ∧ Fld Z h b900 "heapglass/core/wire/Allowance" "left" "J" (.long 9223372036854775807)) := by
  obtain ⟨S_w_PAUSE, S_w_RESUME, S_w_STEP, E_w_PAUSE, E_w_RESUME, E_w_STEP, F_w_PAUSE_ordinal, F_w_RESUME_ordinal, F_w_STEP_ordinal, S_w_arr0, A_w_arr0, A_w_arr0_0, A_w_arr0_2, A_w_arr0_1⟩ := C
  refine zenter (plainFor_of_name pn_0) (L0 := #[rv b900, rv w_RESUME]) (fun m => by first | rfl | simp [entryFrame, mkF, argsToLocals, Value.category, maxLocals]) ?_
  intro p e s m below meth c T0 hx hZ hby hml hown0 hnm hret hlk X0 e0
  have hown : s.vm.findClass "heapglass/core/wire/Allowance" = some m.cls := hown0
  have K0 := Keep.refl h0 [b900]
  have N0 := Fr.nil n0
  show zEnds p e below s T0 (mkF m 0 #[rv b900, rv w_RESUME] []) _ _ _
  refine zaloadN X0 hx hby d_prog_9_method_2_0 rfl rfl (zgetstat X0 hx hby d_prog_9_method_2_1 hZ hown (host := "") (Or.inl (w30 hw)) Via.refl e0 (S_w_arr0.ext O0.2) fun T1 X1 e1 => (zaloadN X1 hx hby d_prog_9_method_2_4 rfl rfl (zcallup X1 hx hby d_prog_9_method_2_5 hZ hown (w33 hw) (w34 hw) (w35 hw) (w37 hw) (w36 hw) (w39 hw) (w38 hw) e1 (E_w_RESUME.ext O0.2) (c37_ordinal l hw [] ⟨S_w_PAUSE, S_w_RESUME, S_w_STEP, E_w_PAUSE, E_w_RESUME, E_w_STEP, F_w_PAUSE_ordinal, F_w_RESUME_ordinal, F_w_STEP_ordinal, S_w_arr0, A_w_arr0, A_w_arr0_0, A_w_arr0_2, A_w_arr0_1⟩ O0 (Nat.le_trans Z0 K0.1) ) (by decide) (by rw [hml]; rfl) 2 (Nat.le_of_eq rfl) (by decide) (by decide) (by decide) (by decide) pd_2 rfl (argsL := []) (st := [(.ref w_arr0), (.ref b900)]) rfl (zpureK ⟨rfl, rfl⟩ fun T2 X2 e2 => ?_))))
  show zEnds p e below s T2 (mkF m 8 #[rv b900, rv w_RESUME] [(.int 2), (.ref w_arr0), (.ref b900)]) _ _ _
  refine zialoadC X2 hx hby d_prog_9_method_2_8 hZ e2 (A_w_arr0.ext O0.2) A_w_arr0_2 (ztswIn X2 hx hby d_prog_9_method_2_9 81 (by decide) rfl (by decide) (by decide) (zldc2J X2 hx hby d_prog_9_method_2_81 (9223372036854775807 : Int64) hZ hown (w9 hw) (zputfld X2 hx hby d_prog_9_method_2_84 hZ hown (host := "") (Or.inl (w10 hw)) Via.refl e2 F_b900_left E_b900 (Or.inl (w11 hw)) (w1 hw) (ty := .long) (by decide) rfl rfl fun T3 h3 X3 e3 W3 => ?_)))
  have F3_b900_left : Fld Z h3 b900 "heapglass/core/wire/Allowance" "left" "J" (.long 9223372036854775807) := F_b900_left.same W3
  have E3_b900 := E_b900.wr W3
  have O3 := O0.wr W3 g_b900
  have K3 := Keep.wr K0 W3 (Or.inl (List.mem_of_getElem? (i := 0) rfl))
  have N3 := Fr.snoc X3 N0 g_b900
  show zEnds p e below s T3 (mkF m 87 #[rv b900, rv w_RESUME] []) _ _ _
  exact zretV X3 hx hby d_prog_9_method_2_87 hret hlk (by decide) (by decide) (by rw [e3]; exact ⟨rfl, N3, K3, E3_b900, F3_b900_left⟩)
set_option maxRecDepth 65536 in
set_option maxHeartbeats 40000000 in
theorem c139_apply (l : Launch) {Z : State} {a0 : Array Value} (hw : ∀ d ∈ tables_1, d.before a0 Z = true) (ws : List Jvm.Cond) {w_PAUSE w_RESUME w_STEP w_arr0 : Addr} {cl_arr0 : Cell} {n0 : Nat} {h0 : Heap} (C : Ctx Z w_PAUSE w_RESUME w_STEP w_arr0 cl_arr0) (O0 : Old Z n0 h0) (Z0 : n0 ≤ h0.size) (b900 : Addr) (g_b900 : n0 ≤ b900) (E_b900 : Exa Z h0 b900 "heapglass/core/wire/Allowance") (F_b900_left : Fld Z h0 b900 "heapglass/core/wire/Allowance" "left" "J" (.long 3)) : zCon l Z (⟨"heapglass/core/wire/AllowanceIsSpentPinLaw", "apply", "(Lheapglass/core/wire/Allowance;I)V"⟩ : MethodName) method_3_code 2 none ws ({ frames := 2, cells := 0, slots := 0, locals := 27 } : Room) #[(.ref b900), (.int 2)] h0 (fun v h L => v = none ∧ Fr n0 L ∧ Keep h0 h [b900] ∧ Exa Z h b900 "heapglass/core/wire/Allowance" ∧ Fld Z h b900 "heapglass/core/wire/Allowance" "left" "J" (.long 9223372036854775807)) := by
  obtain ⟨S_w_PAUSE, S_w_RESUME, S_w_STEP, E_w_PAUSE, E_w_RESUME, E_w_STEP, F_w_PAUSE_ordinal, F_w_RESUME_ordinal, F_w_STEP_ordinal, S_w_arr0, A_w_arr0, A_w_arr0_0, A_w_arr0_2, A_w_arr0_1⟩ := C
  refine zenter (plainFor_of_name pn_2) (L0 := #[rv b900, iv 2]) (fun m => by first | rfl | simp [entryFrame, mkF, argsToLocals, Value.category, maxLocals]) ?_
  intro p e s m below meth c T0 hx hZ hby hml hown0 hnm hret hlk X0 e0
  have hown : s.vm.findClass "heapglass/core/wire/AllowanceIsSpentPinLaw" = some m.cls := hown0
  have K0 := Keep.refl h0 [b900]
  have N0 := Fr.nil n0
  show zEnds p e below s T0 (mkF m 0 #[rv b900, iv 2] []) _ _ _
  refine ziloadN X0 hx hby d_method_3_0 rfl (zifYes X0 hx hby d_method_3_1 14 (by decide) (by decide) (by decide) (ziloadN X0 hx hby d_method_3_14 rfl (ziconst X0 hx hby d_method_3_15 (z := (1 : Int32)) rfl (zicmpYes X0 hx hby d_method_3_16 29 (by decide) (by decide) (by decide) (ziloadN X0 hx hby d_method_3_29 rfl (ziconst X0 hx hby d_method_3_30 (z := (2 : Int32)) rfl (zicmpNo X0 hx hby d_method_3_31 (by decide) (zaloadN X0 hx hby d_method_3_34 rfl rfl (zgetstat X0 hx hby d_method_3_35 hZ hown (host := "") (Or.inl (w55 hw)) Via.refl e0 (S_w_RESUME.ext O0.2) fun T1 X1 e1 => ?_)))))))))
  show zEnds p e below s T1 (mkF m 38 #[rv b900, iv 2] [(.ref w_RESUME), (.ref b900)]) _ _ _
  refine zcallv X1 hx hby d_method_3_38 hZ hown (w25 hw) (w26 hw) (notFace_of_selects (args := #[]) (mvT hZ (w28 hw))) (w28 hw) (w27 hw) (w29 hw) (w2 hw) e1 E_b900 (c140_obey l hw [] ⟨S_w_PAUSE, S_w_RESUME, S_w_STEP, E_w_PAUSE, E_w_RESUME, E_w_STEP, F_w_PAUSE_ordinal, F_w_RESUME_ordinal, F_w_STEP_ordinal, S_w_arr0, A_w_arr0, A_w_arr0_0, A_w_arr0_2, A_w_arr0_1⟩ O0 (Nat.le_trans Z0 K0.1) b900 g_b900 E_b900 F_b900_left) (by decide) (by rw [hml]; rfl) 0 (Nat.le_of_eq rfl) (by decide) (by decide) (by decide) (by decide) pd_4 rfl (argsL := [(.ref w_RESUME)]) (st := []) rfl fun T2 h2 v2 L2 e2 X2 q2 => ?_
  obtain ⟨rfl, N2q, K2q, E2_b900, F2_b900_left⟩ := q2
  have O2 := O0.keep K2q (allS g_b900 all0)
  have K2 := Keep.trans K0 K2q (allS (Or.inl (List.mem_of_getElem? (i := 0) rfl)) all0)
  have N2 := Fr.app N0 N2q
  show zEnds p e below s T2 (mkF m 41 #[rv b900, iv 2] []) _ _ _
  refine zgoto X2 hx hby d_method_3_41 48 (by decide) (by decide) ?_
  show zEnds p e below s T2 (mkF m 48 #[rv b900, iv 2] []) _ _ _
  exact zretV X2 hx hby d_method_3_48 hret hlk (by decide) (by decide) (by rw [e2]; exact ⟨rfl, N2, K2, E2_b900, F2_b900_left⟩)
set_option maxRecDepth 65536 in
set_option maxHeartbeats 40000000 in
theorem c143_next (l : Launch) {Z : State} {a0 : Array Value} (hw : ∀ d ∈ tables_1, d.before a0 Z = true) (ws : List Jvm.Cond) {w_PAUSE w_RESUME w_STEP w_arr0 : Addr} {cl_arr0 : Cell} {n0 : Nat} {h0 : Heap} (C : Ctx Z w_PAUSE w_RESUME w_STEP w_arr0 cl_arr0) (O0 : Old Z n0 h0) (Z0 : n0 ≤ h0.size)  : zCon l Z (⟨"heapglass/core/wire/AllowanceIsSpentPinLaw", "next", "(JI)J"⟩ : MethodName) method_2_code 3 (some .long) ws ({ frames := 0, cells := 0, slots := 0, locals := 0 } : Room) #[(.long 3), (.int 2)] h0 (zSame (some (.long (-1))) h0) := by
  obtain ⟨S_w_PAUSE, S_w_RESUME, S_w_STEP, E_w_PAUSE, E_w_RESUME, E_w_STEP, F_w_PAUSE_ordinal, F_w_RESUME_ordinal, F_w_STEP_ordinal, S_w_arr0, A_w_arr0, A_w_arr0_0, A_w_arr0_2, A_w_arr0_1⟩ := C
  refine zenter (plainFor_of_name pn_2) (L0 := #[.val (.long 3), .second, iv 2]) (fun m => by first | rfl | simp [entryFrame, mkF, argsToLocals, Value.category, maxLocals]) ?_
  intro p e s m below meth c T0 hx hZ hby hml hown0 hnm hret hlk X0 e0
  have hown : s.vm.findClass "heapglass/core/wire/AllowanceIsSpentPinLaw" = some m.cls := hown0
  have K0 := Keep.refl h0 []
  have N0 := Fr.nil n0
  show zEnds p e below s T0 (mkF m 0 #[.val (.long 3), .second, iv 2] []) _ _ _
  refine ziloadN X0 hx hby d_method_2_0 rfl (zifYes X0 hx hby d_method_2_1 22 (by decide) (by decide) (by decide) (ziloadN X0 hx hby d_method_2_22 rfl (ziconst X0 hx hby d_method_2_23 (z := (1 : Int32)) rfl (zicmpYes X0 hx hby d_method_2_24 43 (by decide) (by decide) (by decide) (ziloadN X0 hx hby d_method_2_43 rfl (ziconst X0 hx hby d_method_2_44 (z := (2 : Int32)) rfl (zicmpNo X0 hx hby d_method_2_45 (by decide) (zldc2J X0 hx hby d_method_2_48 (-1 : Int64) hZ hown (w12 hw) ?_))))))))
  show zEnds p e below s T0 (mkF m 51 #[.val (.long 3), .second, iv 2] [(.long (-1))]) _ _ _
  exact zretL X0 hx hby d_method_2_51 hret hlk (by decide) (by decide) ⟨rfl, e0, rfl⟩
set_option maxRecDepth 65536 in
set_option maxHeartbeats 40000000 in
theorem c146_spend (l : Launch) {Z : State} {a0 : Array Value} (hw : ∀ d ∈ tables_1, d.before a0 Z = true) (ws : List Jvm.Cond) {w_PAUSE w_RESUME w_STEP w_arr0 : Addr} {cl_arr0 : Cell} {n0 : Nat} {h0 : Heap} (C : Ctx Z w_PAUSE w_RESUME w_STEP w_arr0 cl_arr0) (O0 : Old Z n0 h0) (Z0 : n0 ≤ h0.size) (b900 : Addr) (g_b900 : n0 ≤ b900) (E_b900 : Exa Z h0 b900 "heapglass/core/wire/Allowance") (F_b900_left : Fld Z h0 b900 "heapglass/core/wire/Allowance" "left" "J" (.long 3)) : zCon l Z (⟨"heapglass/core/wire/Allowance", "spend", "()V"⟩ : MethodName) prog_9_method_3_code 1 none ws ({ frames := 0, cells := 0, slots := 0, locals := 0 } : Room) #[(.ref b900)] h0 (fun v h L => v = none ∧ Fr n0 L ∧ Keep h0 h [b900] ∧ Exa Z h b900 "heapglass/core/wire/Allowance" ∧ Fld Z h b900 "heapglass/core/wire/Allowance" "left" "J" (.long 2)) := by
  obtain ⟨S_w_PAUSE, S_w_RESUME, S_w_STEP, E_w_PAUSE, E_w_RESUME, E_w_STEP, F_w_PAUSE_ordinal, F_w_RESUME_ordinal, F_w_STEP_ordinal, S_w_arr0, A_w_arr0, A_w_arr0_0, A_w_arr0_2, A_w_arr0_1⟩ := C
  refine zenter (plainFor_of_name pn_0) (L0 := #[rv b900]) (fun m => by first | rfl | simp [entryFrame, mkF, argsToLocals, Value.category, maxLocals]) ?_
  intro p e s m below meth c T0 hx hZ hby hml hown0 hnm hret hlk X0 e0
  have hown : s.vm.findClass "heapglass/core/wire/Allowance" = some m.cls := hown0
  have K0 := Keep.refl h0 [b900]
  have N0 := Fr.nil n0
  show zEnds p e below s T0 (mkF m 0 #[rv b900] []) _ _ _
  refine zaloadN X0 hx hby d_prog_9_method_3_0 rfl rfl (zgetfld X0 hx hby d_prog_9_method_3_1 hZ hown (host := "") (Or.inl (w10 hw)) Via.refl e0 F_b900_left fun T1 X1 e1 => (zlconst X1 hx hby d_prog_9_method_3_4 (z := (0 : Int64)) rfl (zlcmp X1 hx hby d_prog_9_method_3_5 (1 : Int32) (by decide) (zifNo X1 hx hby d_prog_9_method_3_6 (by decide) (zaloadN X1 hx hby d_prog_9_method_3_9 rfl rfl (zgetfld X1 hx hby d_prog_9_method_3_10 hZ hown (host := "") (Or.inl (w10 hw)) Via.refl e1 F_b900_left fun T2 X2 e2 => (zldc2J X2 hx hby d_prog_9_method_3_13 (9223372036854775807 : Int64) hZ hown (w9 hw) (zlcmp X2 hx hby d_prog_9_method_3_16 (-1 : Int32) (by decide) (zifNo X2 hx hby d_prog_9_method_3_17 (by decide) ?_)))))))))
  show zEnds p e below s T2 (mkF m 20 #[rv b900] []) _ _ _
  refine zaloadN X2 hx hby d_prog_9_method_3_20 rfl rfl (zdup X2 hx hby d_prog_9_method_3_21 rfl (zgetfld X2 hx hby d_prog_9_method_3_22 hZ hown (host := "") (Or.inl (w10 hw)) Via.refl e2 F_b900_left fun T3 X3 e3 => (zlconst X3 hx hby d_prog_9_method_3_25 (z := (1 : Int64)) rfl (zlsub X3 hx hby d_prog_9_method_3_26 (2 : Int64) (by decide) (zputfld X3 hx hby d_prog_9_method_3_27 hZ hown (host := "") (Or.inl (w10 hw)) Via.refl e3 F_b900_left E_b900 (Or.inl (w11 hw)) (w1 hw) (ty := .long) (by decide) rfl rfl fun T4 h4 X4 e4 W4 => ?_)))))
  have F4_b900_left : Fld Z h4 b900 "heapglass/core/wire/Allowance" "left" "J" (.long 2) := F_b900_left.same W4
  have E4_b900 := E_b900.wr W4
  have O4 := O0.wr W4 g_b900
  have K4 := Keep.wr K0 W4 (Or.inl (List.mem_of_getElem? (i := 0) rfl))
  have N4 := Fr.snoc X4 N0 g_b900
  show zEnds p e below s T4 (mkF m 30 #[rv b900] []) _ _ _
  exact zretV X4 hx hby d_prog_9_method_3_30 hret hlk (by decide) (by decide) (by rw [e4]; exact ⟨rfl, N4, K4, E4_b900, F4_b900_left⟩)
set_option maxRecDepth 65536 in
set_option maxHeartbeats 40000000 in
theorem c145_apply (l : Launch) {Z : State} {a0 : Array Value} (hw : ∀ d ∈ tables_1, d.before a0 Z = true) (ws : List Jvm.Cond) {w_PAUSE w_RESUME w_STEP w_arr0 : Addr} {cl_arr0 : Cell} {n0 : Nat} {h0 : Heap} (C : Ctx Z w_PAUSE w_RESUME w_STEP w_arr0 cl_arr0) (O0 : Old Z n0 h0) (Z0 : n0 ≤ h0.size) (b900 : Addr) (g_b900 : n0 ≤ b900) (E_b900 : Exa Z h0 b900 "heapglass/core/wire/Allowance") (F_b900_left : Fld Z h0 b900 "heapglass/core/wire/Allowance" "left" "J" (.long 3)) : zCon l Z (⟨"heapglass/core/wire/AllowanceIsSpentPinLaw", "apply", "(Lheapglass/core/wire/Allowance;I)V"⟩ : MethodName) method_3_code 2 none ws ({ frames := 1, cells := 0, slots := 0, locals := 12 } : Room) #[(.ref b900), (.int 3)] h0 (fun v h L => v = none ∧ Fr n0 L ∧ Keep h0 h [b900] ∧ Exa Z h b900 "heapglass/core/wire/Allowance" ∧ Fld Z h b900 "heapglass/core/wire/Allowance" "left" "J" (.long 2)) := by
  obtain ⟨S_w_PAUSE, S_w_RESUME, S_w_STEP, E_w_PAUSE, E_w_RESUME, E_w_STEP, F_w_PAUSE_ordinal, F_w_RESUME_ordinal, F_w_STEP_ordinal, S_w_arr0, A_w_arr0, A_w_arr0_0, A_w_arr0_2, A_w_arr0_1⟩ := C
  refine zenter (plainFor_of_name pn_2) (L0 := #[rv b900, iv 3]) (fun m => by first | rfl | simp [entryFrame, mkF, argsToLocals, Value.category, maxLocals]) ?_
  intro p e s m below meth c T0 hx hZ hby hml hown0 hnm hret hlk X0 e0
  have hown : s.vm.findClass "heapglass/core/wire/AllowanceIsSpentPinLaw" = some m.cls := hown0
  have K0 := Keep.refl h0 [b900]
  have N0 := Fr.nil n0
  show zEnds p e below s T0 (mkF m 0 #[rv b900, iv 3] []) _ _ _
  refine ziloadN X0 hx hby d_method_3_0 rfl (zifYes X0 hx hby d_method_3_1 14 (by decide) (by decide) (by decide) (ziloadN X0 hx hby d_method_3_14 rfl (ziconst X0 hx hby d_method_3_15 (z := (1 : Int32)) rfl (zicmpYes X0 hx hby d_method_3_16 29 (by decide) (by decide) (by decide) (ziloadN X0 hx hby d_method_3_29 rfl (ziconst X0 hx hby d_method_3_30 (z := (2 : Int32)) rfl (zicmpYes X0 hx hby d_method_3_31 44 (by decide) (by decide) (by decide) (zaloadN X0 hx hby d_method_3_44 rfl rfl (zcallv X0 hx hby d_method_3_45 hZ hown (w50 hw) (w51 hw) (notFace_of_selects (args := #[]) (mvT hZ (w53 hw))) (w53 hw) (w52 hw) (w54 hw) (w2 hw) e0 E_b900 (c146_spend l hw [] ⟨S_w_PAUSE, S_w_RESUME, S_w_STEP, E_w_PAUSE, E_w_RESUME, E_w_STEP, F_w_PAUSE_ordinal, F_w_RESUME_ordinal, F_w_STEP_ordinal, S_w_arr0, A_w_arr0, A_w_arr0_0, A_w_arr0_2, A_w_arr0_1⟩ O0 (Nat.le_trans Z0 K0.1) b900 g_b900 E_b900 F_b900_left) (by decide) (by rw [hml]; rfl) 0 (Nat.le_of_eq rfl) (by decide) (by decide) (by decide) (by decide) pd_0 rfl (argsL := []) (st := []) rfl fun T1 h1 v1 L1 e1 X1 q1 => ?_)))))))))
  obtain ⟨rfl, N1q, K1q, E1_b900, F1_b900_left⟩ := q1
  have O1 := O0.keep K1q (allS g_b900 all0)
  have K1 := Keep.trans K0 K1q (allS (Or.inl (List.mem_of_getElem? (i := 0) rfl)) all0)
  have N1 := Fr.app N0 N1q
  show zEnds p e below s T1 (mkF m 48 #[rv b900, iv 3] []) _ _ _
  exact zretV X1 hx hby d_method_3_48 hret hlk (by decide) (by decide) (by rw [e1]; exact ⟨rfl, N1, K1, E1_b900, F1_b900_left⟩)
set_option maxRecDepth 65536 in
set_option maxHeartbeats 40000000 in
theorem c149_next (l : Launch) {Z : State} {a0 : Array Value} (hw : ∀ d ∈ tables_1, d.before a0 Z = true) (ws : List Jvm.Cond) {w_PAUSE w_RESUME w_STEP w_arr0 : Addr} {cl_arr0 : Cell} {n0 : Nat} {h0 : Heap} (C : Ctx Z w_PAUSE w_RESUME w_STEP w_arr0 cl_arr0) (O0 : Old Z n0 h0) (Z0 : n0 ≤ h0.size)  : zCon l Z (⟨"heapglass/core/wire/AllowanceIsSpentPinLaw", "next", "(JI)J"⟩ : MethodName) method_2_code 3 (some .long) ws ({ frames := 0, cells := 0, slots := 0, locals := 0 } : Room) #[(.long 3), (.int 3)] h0 (zSame (some (.long 2)) h0) := by
  obtain ⟨S_w_PAUSE, S_w_RESUME, S_w_STEP, E_w_PAUSE, E_w_RESUME, E_w_STEP, F_w_PAUSE_ordinal, F_w_RESUME_ordinal, F_w_STEP_ordinal, S_w_arr0, A_w_arr0, A_w_arr0_0, A_w_arr0_2, A_w_arr0_1⟩ := C
  refine zenter (plainFor_of_name pn_2) (L0 := #[.val (.long 3), .second, iv 3]) (fun m => by first | rfl | simp [entryFrame, mkF, argsToLocals, Value.category, maxLocals]) ?_
  intro p e s m below meth c T0 hx hZ hby hml hown0 hnm hret hlk X0 e0
  have hown : s.vm.findClass "heapglass/core/wire/AllowanceIsSpentPinLaw" = some m.cls := hown0
  have K0 := Keep.refl h0 []
  have N0 := Fr.nil n0
  show zEnds p e below s T0 (mkF m 0 #[.val (.long 3), .second, iv 3] []) _ _ _
  refine ziloadN X0 hx hby d_method_2_0 rfl (zifYes X0 hx hby d_method_2_1 22 (by decide) (by decide) (by decide) (ziloadN X0 hx hby d_method_2_22 rfl (ziconst X0 hx hby d_method_2_23 (z := (1 : Int32)) rfl (zicmpYes X0 hx hby d_method_2_24 43 (by decide) (by decide) (by decide) (ziloadN X0 hx hby d_method_2_43 rfl (ziconst X0 hx hby d_method_2_44 (z := (2 : Int32)) rfl (zicmpYes X0 hx hby d_method_2_45 52 (by decide) (by decide) (by decide) (zlloadN X0 hx hby d_method_2_52 rfl (zlconst X0 hx hby d_method_2_53 (z := (0 : Int64)) rfl ?_)))))))))
  show zEnds p e below s T0 (mkF m 54 #[.val (.long 3), .second, iv 3] [(.long 0), (.long 3)]) _ _ _
  refine zlcmp X0 hx hby d_method_2_54 (1 : Int32) (by decide) (zifNo X0 hx hby d_method_2_55 (by decide) (zlloadN X0 hx hby d_method_2_58 rfl (zlconst X0 hx hby d_method_2_59 (z := (1 : Int64)) rfl (zlsub X0 hx hby d_method_2_60 (2 : Int64) (by decide) (zgoto X0 hx hby d_method_2_61 65 (by decide) (by decide) ?_)))))
  show zEnds p e below s T0 (mkF m 65 #[.val (.long 3), .second, iv 3] [(.long 2)]) _ _ _
  exact zretL X0 hx hby d_method_2_65 hret hlk (by decide) (by decide) ⟨rfl, e0, rfl⟩
set_option maxRecDepth 65536 in
set_option maxHeartbeats 40000000 in
theorem stg_3_8 {p : Program} {l : Launch} {e : Env} {s : State} {m : MethodId} {args : Array Value} {below : List Frame} {meth : Method} {c : Code} {T0 : State} {locs : List Loc} {Z : State} {a0 : Array Value} {h0 : Heap} {n0 : Nat} {w_PAUSE w_RESUME w_STEP w_arr0 : Addr} {cl_arr0 : Cell} {b1 : Addr} 
    (X0 : Stand p l e room_1 s m args below meth c T0 locs 1 1) (hx : p.tables.exec = Jvm.exec) (hZ : Z.Warmed39 s.vm) (hw : ∀ d ∈ tables_1, d.before a0 Z = true) (hby : c.code = code) (hml : c.maxLocals = 9) (hown : s.vm.findClass "heapglass/core/wire/AllowanceIsSpentPinLaw" = some m.cls) (hret : meth.sig.returnType = (some .boolean)) (hlk : meth.locks = false) (C : Ctx Z w_PAUSE w_RESUME w_STEP w_arr0 cl_arr0) (e0 : T0.heap = h0) (O0 : Old Z n0 h0) (N0 : Fr n0 locs) (g_b1 : n0 ≤ b1) (E_b1 : Exa Z h0 b1 "heapglass/core/wire/Allowance") (F_b1_left : Fld Z h0 b1 "heapglass/core/wire/Allowance" "left" "J" (.long 3)) {u0 u1 u2 u3 u4 : Int32} (k4 : u4 = (0 : Int32) ∨ u4 = (1 : Int32) ∨ u4 = (2 : Int32) ∨ u4 = (3 : Int32)) :
    zEnds p e below s T0 (mkF m 203 #[iv u0, iv u1, iv u2, iv u3, iv u4, rv b1, .val (.long 3), .second, iv 1] []) room_1.cells room_1.slots (fun v h L => v = some (.int (1 : Int32)) ∧ Fr n0 L) := by
  obtain ⟨S_w_PAUSE, S_w_RESUME, S_w_STEP, E_w_PAUSE, E_w_RESUME, E_w_STEP, F_w_PAUSE_ordinal, F_w_RESUME_ordinal, F_w_STEP_ordinal, S_w_arr0, A_w_arr0, A_w_arr0_0, A_w_arr0_2, A_w_arr0_1⟩ := C
  have K0 := Keep.refl h0 [b1]
  have Z0 : n0 ≤ h0.size := by rw [← O0.1]; exact O0.2.1
  show zEnds p e below s T0 (mkF m 203 #[iv u0, iv u1, iv u2, iv u3, iv u4, rv b1, .val (.long 3), .second, iv 1] []) _ _ _
  rcases k4 with rfl | rfl | rfl | rfl
  · show zEnds p e below s T0 (mkF m 203 #[iv u0, iv u1, iv u2, iv u3, iv 0, rv b1, .val (.long 3), .second, iv 1] []) _ _ _
    refine zaload X0 hx hby at_203 rfl rfl (ziload X0 hx hby at_205 rfl (zcalls X0 hx hby at_207 hZ hown (w18 hw) (w19 hw) (w20 hw) (w21 hw) e0 (c123_apply l hw [] ⟨S_w_PAUSE, S_w_RESUME, S_w_STEP, E_w_PAUSE, E_w_RESUME, E_w_STEP, F_w_PAUSE_ordinal, F_w_RESUME_ordinal, F_w_STEP_ordinal, S_w_arr0, A_w_arr0, A_w_arr0_0, A_w_arr0_2, A_w_arr0_1⟩ O0 (Nat.le_trans Z0 K0.1) b1 g_b1 E_b1 F_b1_left) (by decide) (by rw [hml]; rfl) 0 (Nat.le_of_eq rfl) (by decide) (by decide) (by decide) (by decide) pd_5 rfl (argsL := [(.ref b1), (.int 0)]) (st := []) rfl fun T1 h1 v1 L1 e1 X1 q1 => ?_))
    obtain ⟨rfl, N1q, K1q, E1_b1, F1_b1_left⟩ := q1
    have O1 := O0.keep K1q (allS g_b1 all0)
    have K1 := Keep.trans K0 K1q (allS (Or.inl (List.mem_of_getElem? (i := 0) rfl)) all0)
    have N1 := Fr.app N0 N1q
    show zEnds p e below s T1 (mkF m 210 #[iv u0, iv u1, iv u2, iv u3, iv 0, rv b1, .val (.long 3), .second, iv 1] []) _ _ _
    refine zlload X1 hx hby at_210 rfl (ziload X1 hx hby at_212 rfl (zcalls X1 hx hby at_214 hZ hown (w46 hw) (w47 hw) (w20 hw) (w48 hw) e1 (c129_next l hw [] ⟨S_w_PAUSE, S_w_RESUME, S_w_STEP, E_w_PAUSE, E_w_RESUME, E_w_STEP, F_w_PAUSE_ordinal, F_w_RESUME_ordinal, F_w_STEP_ordinal, S_w_arr0, A_w_arr0, A_w_arr0_0, A_w_arr0_2, A_w_arr0_1⟩ O1 (Nat.le_trans Z0 K1.1) ) (by decide) (by rw [hml]; rfl) 0 (Nat.le_of_eq rfl) (by decide) (by decide) (by decide) (by decide) pd_6 rfl (argsL := [(.long 3), (.int 0)]) (st := []) rfl (zpureK ⟨rfl, rfl⟩ fun T2 X2 e2 => ?_)))
    show zEnds p e below s T2 (mkF m 217 #[iv u0, iv u1, iv u2, iv u3, iv 0, rv b1, .val (.long 3), .second, iv 1] [(.long 1)]) _ _ _
    refine zlstore X2 hx hby at_217 (L' := #[iv u0, iv u1, iv u2, iv u3, iv 0, rv b1, .val (.long 1), .second, iv 1]) rfl (ziload X2 hx hby at_219 rfl (zifNo X2 hx hby at_221 (by decide) (zaload X2 hx hby at_224 rfl rfl (zcallv X2 hx hby at_226 hZ hown (w13 hw) (w14 hw) (notFace_of_selects (args := #[]) (mvT hZ (w16 hw))) (w16 hw) (w15 hw) (w17 hw) (w2 hw) e2 E1_b1 (c15_isSpent l hw [] ⟨S_w_PAUSE, S_w_RESUME, S_w_STEP, E_w_PAUSE, E_w_RESUME, E_w_STEP, F_w_PAUSE_ordinal, F_w_RESUME_ordinal, F_w_STEP_ordinal, S_w_arr0, A_w_arr0, A_w_arr0_0, A_w_arr0_2, A_w_arr0_1⟩ O1 (Nat.le_trans Z0 K1.1) b1 g_b1 E1_b1 F1_b1_left) (by decide) (by rw [hml]; rfl) 0 (Nat.le_of_eq rfl) (by decide) (by decide) (by decide) (by decide) pd_1 rfl (argsL := []) (st := []) rfl (zpureK ⟨rfl, rfl⟩ fun T3 X3 e3 => ?_)))))
    show zEnds p e below s T3 (mkF m 229 #[iv u0, iv u1, iv u2, iv u3, iv 0, rv b1, .val (.long 1), .second, iv 1] [(.int 0)]) _ _ _
    refine zlload X3 hx hby at_229 rfl (zlconst X3 hx hby at_231 (z := (0 : Int64)) rfl (zlcmp X3 hx hby at_232 (1 : Int32) (by decide) (zifYes X3 hx hby at_233 240 (by decide) (by decide) (by decide) (ziconst X3 hx hby at_240 (z := (0 : Int32)) rfl (zicmpNo X3 hx hby at_241 (by decide) (ziconst X3 hx hby at_244 (z := (1 : Int32)) rfl (zgoto X3 hx hby at_245 249 (by decide) (by decide) (zistore X3 hx hby at_249 (L' := #[iv u0, iv u1, iv u2, iv u3, iv 0, rv b1, .val (.long 1), .second, iv 1]) rfl (ziload X3 hx hby at_251 rfl ?_)))))))))
    show zEnds p e below s T3 (mkF m 253 #[iv u0, iv u1, iv u2, iv u3, iv 0, rv b1, .val (.long 1), .second, iv 1] [(.int 1)]) _ _ _
    exact zretZ X3 hx hby at_253 hret hlk (by simp) rfl (by decide) (by decide) ⟨rfl, N1⟩
  · show zEnds p e below s T0 (mkF m 203 #[iv u0, iv u1, iv u2, iv u3, iv 1, rv b1, .val (.long 3), .second, iv 1] []) _ _ _
    refine zaload X0 hx hby at_203 rfl rfl (ziload X0 hx hby at_205 rfl (zcalls X0 hx hby at_207 hZ hown (w18 hw) (w19 hw) (w20 hw) (w21 hw) e0 (c131_apply l hw [] ⟨S_w_PAUSE, S_w_RESUME, S_w_STEP, E_w_PAUSE, E_w_RESUME, E_w_STEP, F_w_PAUSE_ordinal, F_w_RESUME_ordinal, F_w_STEP_ordinal, S_w_arr0, A_w_arr0, A_w_arr0_0, A_w_arr0_2, A_w_arr0_1⟩ O0 (Nat.le_trans Z0 K0.1) b1 g_b1 E_b1 F_b1_left) (by decide) (by rw [hml]; rfl) 0 (Nat.le_of_eq rfl) (by decide) (by decide) (by decide) (by decide) pd_5 rfl (argsL := [(.ref b1), (.int 1)]) (st := []) rfl fun T4 h4 v4 L4 e4 X4 q4 => ?_))
    obtain ⟨rfl, N4q, K4q, E4_b1, F4_b1_left⟩ := q4
    have O4 := O0.keep K4q (allS g_b1 all0)
    have K4 := Keep.trans K0 K4q (allS (Or.inl (List.mem_of_getElem? (i := 0) rfl)) all0)
    have N4 := Fr.app N0 N4q
    show zEnds p e below s T4 (mkF m 210 #[iv u0, iv u1, iv u2, iv u3, iv 1, rv b1, .val (.long 3), .second, iv 1] []) _ _ _
    refine zlload X4 hx hby at_210 rfl (ziload X4 hx hby at_212 rfl (zcalls X4 hx hby at_214 hZ hown (w46 hw) (w47 hw) (w20 hw) (w48 hw) e4 (c135_next l hw [] ⟨S_w_PAUSE, S_w_RESUME, S_w_STEP, E_w_PAUSE, E_w_RESUME, E_w_STEP, F_w_PAUSE_ordinal, F_w_RESUME_ordinal, F_w_STEP_ordinal, S_w_arr0, A_w_arr0, A_w_arr0_0, A_w_arr0_2, A_w_arr0_1⟩ O4 (Nat.le_trans Z0 K4.1) ) (by decide) (by rw [hml]; rfl) 0 (Nat.le_of_eq rfl) (by decide) (by decide) (by decide) (by decide) pd_6 rfl (argsL := [(.long 3), (.int 1)]) (st := []) rfl (zpureK ⟨rfl, rfl⟩ fun T5 X5 e5 => ?_)))
    show zEnds p e below s T5 (mkF m 217 #[iv u0, iv u1, iv u2, iv u3, iv 1, rv b1, .val (.long 3), .second, iv 1] [(.long 4)]) _ _ _
    refine zlstore X5 hx hby at_217 (L' := #[iv u0, iv u1, iv u2, iv u3, iv 1, rv b1, .val (.long 4), .second, iv 1]) rfl (ziload X5 hx hby at_219 rfl (zifNo X5 hx hby at_221 (by decide) (zaload X5 hx hby at_224 rfl rfl (zcallv X5 hx hby at_226 hZ hown (w13 hw) (w14 hw) (notFace_of_selects (args := #[]) (mvT hZ (w16 hw))) (w16 hw) (w15 hw) (w17 hw) (w2 hw) e5 E4_b1 (c137_isSpent l hw [] ⟨S_w_PAUSE, S_w_RESUME, S_w_STEP, E_w_PAUSE, E_w_RESUME, E_w_STEP, F_w_PAUSE_ordinal, F_w_RESUME_ordinal, F_w_STEP_ordinal, S_w_arr0, A_w_arr0, A_w_arr0_0, A_w_arr0_2, A_w_arr0_1⟩ O4 (Nat.le_trans Z0 K4.1) b1 g_b1 E4_b1 F4_b1_left) (by decide) (by rw [hml]; rfl) 0 (Nat.le_of_eq rfl) (by decide) (by decide) (by decide) (by decide) pd_1 rfl (argsL := []) (st := []) rfl (zpureK ⟨rfl, rfl⟩ fun T6 X6 e6 => ?_)))))
    show zEnds p e below s T6 (mkF m 229 #[iv u0, iv u1, iv u2, iv u3, iv 1, rv b1, .val (.long 4), .second, iv 1] [(.int 0)]) _ _ _
    refine zlload X6 hx hby at_229 rfl (zlconst X6 hx hby at_231 (z := (0 : Int64)) rfl (zlcmp X6 hx hby at_232 (1 : Int32) (by decide) (zifYes X6 hx hby at_233 240 (by decide) (by decide) (by decide) (ziconst X6 hx hby at_240 (z := (0 : Int32)) rfl (zicmpNo X6 hx hby at_241 (by decide) (ziconst X6 hx hby at_244 (z := (1 : Int32)) rfl (zgoto X6 hx hby at_245 249 (by decide) (by decide) (zistore X6 hx hby at_249 (L' := #[iv u0, iv u1, iv u2, iv u3, iv 1, rv b1, .val (.long 4), .second, iv 1]) rfl (ziload X6 hx hby at_251 rfl ?_)))))))))
    show zEnds p e below s T6 (mkF m 253 #[iv u0, iv u1, iv u2, iv u3, iv 1, rv b1, .val (.long 4), .second, iv 1] [(.int 1)]) _ _ _
    exact zretZ X6 hx hby at_253 hret hlk (by simp) rfl (by decide) (by decide) ⟨rfl, N4⟩
  · show zEnds p e below s T0 (mkF m 203 #[iv u0, iv u1, iv u2, iv u3, iv 2, rv b1, .val (.long 3), .second, iv 1] []) _ _ _
    refine zaload X0 hx hby at_203 rfl rfl (ziload X0 hx hby at_205 rfl (zcalls X0 hx hby at_207 hZ hown (w18 hw) (w19 hw) (w20 hw) (w21 hw) e0 (c139_apply l hw [] ⟨S_w_PAUSE, S_w_RESUME, S_w_STEP, E_w_PAUSE, E_w_RESUME, E_w_STEP, F_w_PAUSE_ordinal, F_w_RESUME_ordinal, F_w_STEP_ordinal, S_w_arr0, A_w_arr0, A_w_arr0_0, A_w_arr0_2, A_w_arr0_1⟩ O0 (Nat.le_trans Z0 K0.1) b1 g_b1 E_b1 F_b1_left) (by decide) (by rw [hml]; rfl) 0 (Nat.le_of_eq rfl) (by decide) (by decide) (by decide) (by decide) pd_5 rfl (argsL := [(.ref b1), (.int 2)]) (st := []) rfl fun T7 h7 v7 L7 e7 X7 q7 => ?_))
    obtain ⟨rfl, N7q, K7q, E7_b1, F7_b1_left⟩ := q7
    have O7 := O0.keep K7q (allS g_b1 all0)
    have K7 := Keep.trans K0 K7q (allS (Or.inl (List.mem_of_getElem? (i := 0) rfl)) all0)
    have N7 := Fr.app N0 N7q
    show zEnds p e below s T7 (mkF m 210 #[iv u0, iv u1, iv u2, iv u3, iv 2, rv b1, .val (.long 3), .second, iv 1] []) _ _ _
    refine zlload X7 hx hby at_210 rfl (ziload X7 hx hby at_212 rfl (zcalls X7 hx hby at_214 hZ hown (w46 hw) (w47 hw) (w20 hw) (w48 hw) e7 (c143_next l hw [] ⟨S_w_PAUSE, S_w_RESUME, S_w_STEP, E_w_PAUSE, E_w_RESUME, E_w_STEP, F_w_PAUSE_ordinal, F_w_RESUME_ordinal, F_w_STEP_ordinal, S_w_arr0, A_w_arr0, A_w_arr0_0, A_w_arr0_2, A_w_arr0_1⟩ O7 (Nat.le_trans Z0 K7.1) ) (by decide) (by rw [hml]; rfl) 0 (Nat.le_of_eq rfl) (by decide) (by decide) (by decide) (by decide) pd_6 rfl (argsL := [(.long 3), (.int 2)]) (st := []) rfl (zpureK ⟨rfl, rfl⟩ fun T8 X8 e8 => ?_)))
    show zEnds p e below s T8 (mkF m 217 #[iv u0, iv u1, iv u2, iv u3, iv 2, rv b1, .val (.long 3), .second, iv 1] [(.long (-1))]) _ _ _
    refine zlstore X8 hx hby at_217 (L' := #[iv u0, iv u1, iv u2, iv u3, iv 2, rv b1, .val (.long (-1)), .second, iv 1]) rfl (ziload X8 hx hby at_219 rfl (zifNo X8 hx hby at_221 (by decide) (zaload X8 hx hby at_224 rfl rfl (zcallv X8 hx hby at_226 hZ hown (w13 hw) (w14 hw) (notFace_of_selects (args := #[]) (mvT hZ (w16 hw))) (w16 hw) (w15 hw) (w17 hw) (w2 hw) e8 E7_b1 (c3_isSpent l hw [] ⟨S_w_PAUSE, S_w_RESUME, S_w_STEP, E_w_PAUSE, E_w_RESUME, E_w_STEP, F_w_PAUSE_ordinal, F_w_RESUME_ordinal, F_w_STEP_ordinal, S_w_arr0, A_w_arr0, A_w_arr0_0, A_w_arr0_2, A_w_arr0_1⟩ O7 (Nat.le_trans Z0 K7.1) b1 g_b1 E7_b1 F7_b1_left) (by decide) (by rw [hml]; rfl) 0 (Nat.le_of_eq rfl) (by decide) (by decide) (by decide) (by decide) pd_1 rfl (argsL := []) (st := []) rfl (zpureK ⟨rfl, rfl⟩ fun T9 X9 e9 => ?_)))))
    show zEnds p e below s T9 (mkF m 229 #[iv u0, iv u1, iv u2, iv u3, iv 2, rv b1, .val (.long (-1)), .second, iv 1] [(.int 0)]) _ _ _
    refine zlload X9 hx hby at_229 rfl (zlconst X9 hx hby at_231 (z := (0 : Int64)) rfl (zlcmp X9 hx hby at_232 (-1 : Int32) (by decide) (zifYes X9 hx hby at_233 240 (by decide) (by decide) (by decide) (ziconst X9 hx hby at_240 (z := (0 : Int32)) rfl (zicmpNo X9 hx hby at_241 (by decide) (ziconst X9 hx hby at_244 (z := (1 : Int32)) rfl (zgoto X9 hx hby at_245 249 (by decide) (by decide) (zistore X9 hx hby at_249 (L' := #[iv u0, iv u1, iv u2, iv u3, iv 2, rv b1, .val (.long (-1)), .second, iv 1]) rfl (ziload X9 hx hby at_251 rfl ?_)))))))))
    show zEnds p e below s T9 (mkF m 253 #[iv u0, iv u1, iv u2, iv u3, iv 2, rv b1, .val (.long (-1)), .second, iv 1] [(.int 1)]) _ _ _
    exact zretZ X9 hx hby at_253 hret hlk (by simp) rfl (by decide) (by decide) ⟨rfl, N7⟩
  · show zEnds p e below s T0 (mkF m 203 #[iv u0, iv u1, iv u2, iv u3, iv 3, rv b1, .val (.long 3), .second, iv 1] []) _ _ _
    refine zaload X0 hx hby at_203 rfl rfl (ziload X0 hx hby at_205 rfl (zcalls X0 hx hby at_207 hZ hown (w18 hw) (w19 hw) (w20 hw) (w21 hw) e0 (c145_apply l hw [] ⟨S_w_PAUSE, S_w_RESUME, S_w_STEP, E_w_PAUSE, E_w_RESUME, E_w_STEP, F_w_PAUSE_ordinal, F_w_RESUME_ordinal, F_w_STEP_ordinal, S_w_arr0, A_w_arr0, A_w_arr0_0, A_w_arr0_2, A_w_arr0_1⟩ O0 (Nat.le_trans Z0 K0.1) b1 g_b1 E_b1 F_b1_left) (by decide) (by rw [hml]; rfl) 0 (Nat.le_of_eq rfl) (by decide) (by decide) (by decide) (by decide) pd_5 rfl (argsL := [(.ref b1), (.int 3)]) (st := []) rfl fun T10 h10 v10 L10 e10 X10 q10 => ?_))
    obtain ⟨rfl, N10q, K10q, E10_b1, F10_b1_left⟩ := q10
    have O10 := O0.keep K10q (allS g_b1 all0)
    have K10 := Keep.trans K0 K10q (allS (Or.inl (List.mem_of_getElem? (i := 0) rfl)) all0)
    have N10 := Fr.app N0 N10q
    show zEnds p e below s T10 (mkF m 210 #[iv u0, iv u1, iv u2, iv u3, iv 3, rv b1, .val (.long 3), .second, iv 1] []) _ _ _
    refine zlload X10 hx hby at_210 rfl (ziload X10 hx hby at_212 rfl (zcalls X10 hx hby at_214 hZ hown (w46 hw) (w47 hw) (w20 hw) (w48 hw) e10 (c149_next l hw [] ⟨S_w_PAUSE, S_w_RESUME, S_w_STEP, E_w_PAUSE, E_w_RESUME, E_w_STEP, F_w_PAUSE_ordinal, F_w_RESUME_ordinal, F_w_STEP_ordinal, S_w_arr0, A_w_arr0, A_w_arr0_0, A_w_arr0_2, A_w_arr0_1⟩ O10 (Nat.le_trans Z0 K10.1) ) (by decide) (by rw [hml]; rfl) 0 (Nat.le_of_eq rfl) (by decide) (by decide) (by decide) (by decide) pd_6 rfl (argsL := [(.long 3), (.int 3)]) (st := []) rfl (zpureK ⟨rfl, rfl⟩ fun T11 X11 e11 => ?_)))
    show zEnds p e below s T11 (mkF m 217 #[iv u0, iv u1, iv u2, iv u3, iv 3, rv b1, .val (.long 3), .second, iv 1] [(.long 2)]) _ _ _
    refine zlstore X11 hx hby at_217 (L' := #[iv u0, iv u1, iv u2, iv u3, iv 3, rv b1, .val (.long 2), .second, iv 1]) rfl (ziload X11 hx hby at_219 rfl (zifNo X11 hx hby at_221 (by decide) (zaload X11 hx hby at_224 rfl rfl (zcallv X11 hx hby at_226 hZ hown (w13 hw) (w14 hw) (notFace_of_selects (args := #[]) (mvT hZ (w16 hw))) (w16 hw) (w15 hw) (w17 hw) (w2 hw) e11 E10_b1 (c33_isSpent l hw [] ⟨S_w_PAUSE, S_w_RESUME, S_w_STEP, E_w_PAUSE, E_w_RESUME, E_w_STEP, F_w_PAUSE_ordinal, F_w_RESUME_ordinal, F_w_STEP_ordinal, S_w_arr0, A_w_arr0, A_w_arr0_0, A_w_arr0_2, A_w_arr0_1⟩ O10 (Nat.le_trans Z0 K10.1) b1 g_b1 E10_b1 F10_b1_left) (by decide) (by rw [hml]; rfl) 0 (Nat.le_of_eq rfl) (by decide) (by decide) (by decide) (by decide) pd_1 rfl (argsL := []) (st := []) rfl (zpureK ⟨rfl, rfl⟩ fun T12 X12 e12 => ?_)))))
    show zEnds p e below s T12 (mkF m 229 #[iv u0, iv u1, iv u2, iv u3, iv 3, rv b1, .val (.long 2), .second, iv 1] [(.int 0)]) _ _ _
    refine zlload X12 hx hby at_229 rfl (zlconst X12 hx hby at_231 (z := (0 : Int64)) rfl (zlcmp X12 hx hby at_232 (1 : Int32) (by decide) (zifYes X12 hx hby at_233 240 (by decide) (by decide) (by decide) (ziconst X12 hx hby at_240 (z := (0 : Int32)) rfl (zicmpNo X12 hx hby at_241 (by decide) (ziconst X12 hx hby at_244 (z := (1 : Int32)) rfl (zgoto X12 hx hby at_245 249 (by decide) (by decide) (zistore X12 hx hby at_249 (L' := #[iv u0, iv u1, iv u2, iv u3, iv 3, rv b1, .val (.long 2), .second, iv 1]) rfl (ziload X12 hx hby at_251 rfl ?_)))))))))
    show zEnds p e below s T12 (mkF m 253 #[iv u0, iv u1, iv u2, iv u3, iv 3, rv b1, .val (.long 2), .second, iv 1] [(.int 1)]) _ _ _
    exact zretZ X12 hx hby at_253 hret hlk (by simp) rfl (by decide) (by decide) ⟨rfl, N10⟩
set_option maxRecDepth 65536 in
set_option maxHeartbeats 40000000 in
theorem stg_2_7 {p : Program} {l : Launch} {e : Env} {s : State} {m : MethodId} {args : Array Value} {below : List Frame} {meth : Method} {c : Code} {T0 : State} {locs : List Loc} {Z : State} {a0 : Array Value} {h0 : Heap} {n0 : Nat} {w_PAUSE w_RESUME w_STEP w_arr0 : Addr} {cl_arr0 : Cell} {b1 : Addr} 
    (X0 : Stand p l e room_1 s m args below meth c T0 locs 1 1) (hx : p.tables.exec = Jvm.exec) (hZ : Z.Warmed39 s.vm) (hw : ∀ d ∈ tables_1, d.before a0 Z = true) (hby : c.code = code) (hml : c.maxLocals = 9) (hown : s.vm.findClass "heapglass/core/wire/AllowanceIsSpentPinLaw" = some m.cls) (hret : meth.sig.returnType = (some .boolean)) (hlk : meth.locks = false) (C : Ctx Z w_PAUSE w_RESUME w_STEP w_arr0 cl_arr0) (e0 : T0.heap = h0) (O0 : Old Z n0 h0) (N0 : Fr n0 locs) (g_b1 : n0 ≤ b1) (E_b1 : Exa Z h0 b1 "heapglass/core/wire/Allowance") (F_b1_left : Fld Z h0 b1 "heapglass/core/wire/Allowance" "left" "J" (.long 2)) {u0 u1 u2 u3 u4 : Int32} (k3 : u3 = (0 : Int32) ∨ u3 = (1 : Int32) ∨ u3 = (2 : Int32) ∨ u3 = (3 : Int32)) (k4 : u4 = (0 : Int32) ∨ u4 = (1 : Int32) ∨ u4 = (2 : Int32) ∨ u4 = (3 : Int32)) :
    zEnds p e below s T0 (mkF m 157 #[iv u0, iv u1, iv u2, iv u3, iv u4, rv b1, .val (.long 2), .second, iv 1] []) room_1.cells room_1.slots (fun v h L => v = some (.int (1 : Int32)) ∧ Fr n0 L) := by
  obtain ⟨S_w_PAUSE, S_w_RESUME, S_w_STEP, E_w_PAUSE, E_w_RESUME, E_w_STEP, F_w_PAUSE_ordinal, F_w_RESUME_ordinal, F_w_STEP_ordinal, S_w_arr0, A_w_arr0, A_w_arr0_0, A_w_arr0_2, A_w_arr0_1⟩ := C
  have K0 := Keep.refl h0 [b1]
  have Z0 : n0 ≤ h0.size := by rw [← O0.1]; exact O0.2.1
  show zEnds p e below s T0 (mkF m 157 #[iv u0, iv u1, iv u2, iv u3, iv u4, rv b1, .val (.long 2), .second, iv 1] []) _ _ _
  rcases k3 with rfl | rfl | rfl | rfl
  · show zEnds p e below s T0 (mkF m 157 #[iv u0, iv u1, iv u2, iv 0, iv u4, rv b1, .val (.long 2), .second, iv 1] []) _ _ _
    refine zaload X0 hx hby at_157 rfl rfl (ziloadN X0 hx hby at_159 rfl (zcalls X0 hx hby at_160 hZ hown (w18 hw) (w19 hw) (w20 hw) (w21 hw) e0 (c51_apply l hw [] ⟨S_w_PAUSE, S_w_RESUME, S_w_STEP, E_w_PAUSE, E_w_RESUME, E_w_STEP, F_w_PAUSE_ordinal, F_w_RESUME_ordinal, F_w_STEP_ordinal, S_w_arr0, A_w_arr0, A_w_arr0_0, A_w_arr0_2, A_w_arr0_1⟩ O0 (Nat.le_trans Z0 K0.1) b1 g_b1 E_b1 F_b1_left) (by decide) (by rw [hml]; rfl) 0 (Nat.le_of_eq rfl) (by decide) (by decide) (by decide) (by decide) pd_5 rfl (argsL := [(.ref b1), (.int 0)]) (st := []) rfl fun T1 h1 v1 L1 e1 X1 q1 => ?_))
    obtain ⟨rfl, N1q, K1q, E1_b1, F1_b1_left⟩ := q1
    have O1 := O0.keep K1q (allS g_b1 all0)
    have K1 := Keep.trans K0 K1q (allS (Or.inl (List.mem_of_getElem? (i := 0) rfl)) all0)
    have N1 := Fr.app N0 N1q
    show zEnds p e below s T1 (mkF m 163 #[iv u0, iv u1, iv u2, iv 0, iv u4, rv b1, .val (.long 2), .second, iv 1] []) _ _ _
    refine zlload X1 hx hby at_163 rfl (ziloadN X1 hx hby at_165 rfl (zcalls X1 hx hby at_166 hZ hown (w46 hw) (w47 hw) (w20 hw) (w48 hw) e1 (c57_next l hw [] ⟨S_w_PAUSE, S_w_RESUME, S_w_STEP, E_w_PAUSE, E_w_RESUME, E_w_STEP, F_w_PAUSE_ordinal, F_w_RESUME_ordinal, F_w_STEP_ordinal, S_w_arr0, A_w_arr0, A_w_arr0_0, A_w_arr0_2, A_w_arr0_1⟩ O1 (Nat.le_trans Z0 K1.1) ) (by decide) (by rw [hml]; rfl) 0 (Nat.le_of_eq rfl) (by decide) (by decide) (by decide) (by decide) pd_6 rfl (argsL := [(.long 2), (.int 0)]) (st := []) rfl (zpureK ⟨rfl, rfl⟩ fun T2 X2 e2 => ?_)))
    show zEnds p e below s T2 (mkF m 169 #[iv u0, iv u1, iv u2, iv 0, iv u4, rv b1, .val (.long 2), .second, iv 1] [(.long 1)]) _ _ _
    refine zlstore X2 hx hby at_169 (L' := #[iv u0, iv u1, iv u2, iv 0, iv u4, rv b1, .val (.long 1), .second, iv 1]) rfl (ziload X2 hx hby at_171 rfl (zifNo X2 hx hby at_173 (by decide) (zaload X2 hx hby at_176 rfl rfl (zcallv X2 hx hby at_178 hZ hown (w13 hw) (w14 hw) (notFace_of_selects (args := #[]) (mvT hZ (w16 hw))) (w16 hw) (w15 hw) (w17 hw) (w2 hw) e2 E1_b1 (c15_isSpent l hw [] ⟨S_w_PAUSE, S_w_RESUME, S_w_STEP, E_w_PAUSE, E_w_RESUME, E_w_STEP, F_w_PAUSE_ordinal, F_w_RESUME_ordinal, F_w_STEP_ordinal, S_w_arr0, A_w_arr0, A_w_arr0_0, A_w_arr0_2, A_w_arr0_1⟩ O1 (Nat.le_trans Z0 K1.1) b1 g_b1 E1_b1 F1_b1_left) (by decide) (by rw [hml]; rfl) 0 (Nat.le_of_eq rfl) (by decide) (by decide) (by decide) (by decide) pd_1 rfl (argsL := []) (st := []) rfl (zpureK ⟨rfl, rfl⟩ fun T3 X3 e3 => ?_)))))
    show zEnds p e below s T3 (mkF m 181 #[iv u0, iv u1, iv u2, iv 0, iv u4, rv b1, .val (.long 1), .second, iv 1] [(.int 0)]) _ _ _
    refine zlload X3 hx hby at_181 rfl (zlconst X3 hx hby at_183 (z := (0 : Int64)) rfl (zlcmp X3 hx hby at_184 (1 : Int32) (by decide) (zifYes X3 hx hby at_185 192 (by decide) (by decide) (by decide) (ziconst X3 hx hby at_192 (z := (0 : Int32)) rfl (zicmpNo X3 hx hby at_193 (by decide) (ziconst X3 hx hby at_196 (z := (1 : Int32)) rfl (zgoto X3 hx hby at_197 201 (by decide) (by decide) (zistore X3 hx hby at_201 (L' := #[iv u0, iv u1, iv u2, iv 0, iv u4, rv b1, .val (.long 1), .second, iv 1]) rfl ?_))))))))
    show zEnds p e below s T3 (mkF m 203 #[iv u0, iv u1, iv u2, iv 0, iv u4, rv b1, .val (.long 1), .second, iv 1] []) _ _ _
    exact stg_3_3 X3 hx hZ hw hby hml hown hret hlk ⟨S_w_PAUSE, S_w_RESUME, S_w_STEP, E_w_PAUSE, E_w_RESUME, E_w_STEP, F_w_PAUSE_ordinal, F_w_RESUME_ordinal, F_w_STEP_ordinal, S_w_arr0, A_w_arr0, A_w_arr0_0, A_w_arr0_2, A_w_arr0_1⟩ e3 O1 N1 g_b1 E1_b1 F1_b1_left k4
  · show zEnds p e below s T0 (mkF m 157 #[iv u0, iv u1, iv u2, iv 1, iv u4, rv b1, .val (.long 2), .second, iv 1] []) _ _ _
    refine zaload X0 hx hby at_157 rfl rfl (ziloadN X0 hx hby at_159 rfl (zcalls X0 hx hby at_160 hZ hown (w18 hw) (w19 hw) (w20 hw) (w21 hw) e0 (c59_apply l hw [] ⟨S_w_PAUSE, S_w_RESUME, S_w_STEP, E_w_PAUSE, E_w_RESUME, E_w_STEP, F_w_PAUSE_ordinal, F_w_RESUME_ordinal, F_w_STEP_ordinal, S_w_arr0, A_w_arr0, A_w_arr0_0, A_w_arr0_2, A_w_arr0_1⟩ O0 (Nat.le_trans Z0 K0.1) b1 g_b1 E_b1 F_b1_left) (by decide) (by rw [hml]; rfl) 0 (Nat.le_of_eq rfl) (by decide) (by decide) (by decide) (by decide) pd_5 rfl (argsL := [(.ref b1), (.int 1)]) (st := []) rfl fun T4 h4 v4 L4 e4 X4 q4 => ?_))
    obtain ⟨rfl, N4q, K4q, E4_b1, F4_b1_left⟩ := q4
    have O4 := O0.keep K4q (allS g_b1 all0)
    have K4 := Keep.trans K0 K4q (allS (Or.inl (List.mem_of_getElem? (i := 0) rfl)) all0)
    have N4 := Fr.app N0 N4q
    show zEnds p e below s T4 (mkF m 163 #[iv u0, iv u1, iv u2, iv 1, iv u4, rv b1, .val (.long 2), .second, iv 1] []) _ _ _
    refine zlload X4 hx hby at_163 rfl (ziloadN X4 hx hby at_165 rfl (zcalls X4 hx hby at_166 hZ hown (w46 hw) (w47 hw) (w20 hw) (w48 hw) e4 (c63_next l hw [] ⟨S_w_PAUSE, S_w_RESUME, S_w_STEP, E_w_PAUSE, E_w_RESUME, E_w_STEP, F_w_PAUSE_ordinal, F_w_RESUME_ordinal, F_w_STEP_ordinal, S_w_arr0, A_w_arr0, A_w_arr0_0, A_w_arr0_2, A_w_arr0_1⟩ O4 (Nat.le_trans Z0 K4.1) ) (by decide) (by rw [hml]; rfl) 0 (Nat.le_of_eq rfl) (by decide) (by decide) (by decide) (by decide) pd_6 rfl (argsL := [(.long 2), (.int 1)]) (st := []) rfl (zpureK ⟨rfl, rfl⟩ fun T5 X5 e5 => ?_)))
    show zEnds p e below s T5 (mkF m 169 #[iv u0, iv u1, iv u2, iv 1, iv u4, rv b1, .val (.long 2), .second, iv 1] [(.long 3)]) _ _ _
    refine zlstore X5 hx hby at_169 (L' := #[iv u0, iv u1, iv u2, iv 1, iv u4, rv b1, .val (.long 3), .second, iv 1]) rfl (ziload X5 hx hby at_171 rfl (zifNo X5 hx hby at_173 (by decide) (zaload X5 hx hby at_176 rfl rfl (zcallv X5 hx hby at_178 hZ hown (w13 hw) (w14 hw) (notFace_of_selects (args := #[]) (mvT hZ (w16 hw))) (w16 hw) (w15 hw) (w17 hw) (w2 hw) e5 E4_b1 (c65_isSpent l hw [] ⟨S_w_PAUSE, S_w_RESUME, S_w_STEP, E_w_PAUSE, E_w_RESUME, E_w_STEP, F_w_PAUSE_ordinal, F_w_RESUME_ordinal, F_w_STEP_ordinal, S_w_arr0, A_w_arr0, A_w_arr0_0, A_w_arr0_2, A_w_arr0_1⟩ O4 (Nat.le_trans Z0 K4.1) b1 g_b1 E4_b1 F4_b1_left) (by decide) (by rw [hml]; rfl) 0 (Nat.le_of_eq rfl) (by decide) (by decide) (by decide) (by decide) pd_1 rfl (argsL := []) (st := []) rfl (zpureK ⟨rfl, rfl⟩ fun T6 X6 e6 => ?_)))))
    show zEnds p e below s T6 (mkF m 181 #[iv u0, iv u1, iv u2, iv 1, iv u4, rv b1, .val (.long 3), .second, iv 1] [(.int 0)]) _ _ _
    refine zlload X6 hx hby at_181 rfl (zlconst X6 hx hby at_183 (z := (0 : Int64)) rfl (zlcmp X6 hx hby at_184 (1 : Int32) (by decide) (zifYes X6 hx hby at_185 192 (by decide) (by decide) (by decide) (ziconst X6 hx hby at_192 (z := (0 : Int32)) rfl (zicmpNo X6 hx hby at_193 (by decide) (ziconst X6 hx hby at_196 (z := (1 : Int32)) rfl (zgoto X6 hx hby at_197 201 (by decide) (by decide) (zistore X6 hx hby at_201 (L' := #[iv u0, iv u1, iv u2, iv 1, iv u4, rv b1, .val (.long 3), .second, iv 1]) rfl ?_))))))))
    show zEnds p e below s T6 (mkF m 203 #[iv u0, iv u1, iv u2, iv 1, iv u4, rv b1, .val (.long 3), .second, iv 1] []) _ _ _
    exact stg_3_8 X6 hx hZ hw hby hml hown hret hlk ⟨S_w_PAUSE, S_w_RESUME, S_w_STEP, E_w_PAUSE, E_w_RESUME, E_w_STEP, F_w_PAUSE_ordinal, F_w_RESUME_ordinal, F_w_STEP_ordinal, S_w_arr0, A_w_arr0, A_w_arr0_0, A_w_arr0_2, A_w_arr0_1⟩ e6 O4 N4 g_b1 E4_b1 F4_b1_left k4
  · show zEnds p e below s T0 (mkF m 157 #[iv u0, iv u1, iv u2, iv 2, iv u4, rv b1, .val (.long 2), .second, iv 1] []) _ _ _
    refine zaload X0 hx hby at_157 rfl rfl (ziloadN X0 hx hby at_159 rfl (zcalls X0 hx hby at_160 hZ hown (w18 hw) (w19 hw) (w20 hw) (w21 hw) e0 (c67_apply l hw [] ⟨S_w_PAUSE, S_w_RESUME, S_w_STEP, E_w_PAUSE, E_w_RESUME, E_w_STEP, F_w_PAUSE_ordinal, F_w_RESUME_ordinal, F_w_STEP_ordinal, S_w_arr0, A_w_arr0, A_w_arr0_0, A_w_arr0_2, A_w_arr0_1⟩ O0 (Nat.le_trans Z0 K0.1) b1 g_b1 E_b1 F_b1_left) (by decide) (by rw [hml]; rfl) 0 (Nat.le_of_eq rfl) (by decide) (by decide) (by decide) (by decide) pd_5 rfl (argsL := [(.ref b1), (.int 2)]) (st := []) rfl fun T7 h7 v7 L7 e7 X7 q7 => ?_))
    obtain ⟨rfl, N7q, K7q, E7_b1, F7_b1_left⟩ := q7
    have O7 := O0.keep K7q (allS g_b1 all0)
    have K7 := Keep.trans K0 K7q (allS (Or.inl (List.mem_of_getElem? (i := 0) rfl)) all0)
    have N7 := Fr.app N0 N7q
    show zEnds p e below s T7 (mkF m 163 #[iv u0, iv u1, iv u2, iv 2, iv u4, rv b1, .val (.long 2), .second, iv 1] []) _ _ _
    refine zlload X7 hx hby at_163 rfl (ziloadN X7 hx hby at_165 rfl (zcalls X7 hx hby at_166 hZ hown (w46 hw) (w47 hw) (w20 hw) (w48 hw) e7 (c71_next l hw [] ⟨S_w_PAUSE, S_w_RESUME, S_w_STEP, E_w_PAUSE, E_w_RESUME, E_w_STEP, F_w_PAUSE_ordinal, F_w_RESUME_ordinal, F_w_STEP_ordinal, S_w_arr0, A_w_arr0, A_w_arr0_0, A_w_arr0_2, A_w_arr0_1⟩ O7 (Nat.le_trans Z0 K7.1) ) (by decide) (by rw [hml]; rfl) 0 (Nat.le_of_eq rfl) (by decide) (by decide) (by decide) (by decide) pd_6 rfl (argsL := [(.long 2), (.int 2)]) (st := []) rfl (zpureK ⟨rfl, rfl⟩ fun T8 X8 e8 => ?_)))
    show zEnds p e below s T8 (mkF m 169 #[iv u0, iv u1, iv u2, iv 2, iv u4, rv b1, .val (.long 2), .second, iv 1] [(.long (-1))]) _ _ _
    refine zlstore X8 hx hby at_169 (L' := #[iv u0, iv u1, iv u2, iv 2, iv u4, rv b1, .val (.long (-1)), .second, iv 1]) rfl (ziload X8 hx hby at_171 rfl (zifNo X8 hx hby at_173 (by decide) (zaload X8 hx hby at_176 rfl rfl (zcallv X8 hx hby at_178 hZ hown (w13 hw) (w14 hw) (notFace_of_selects (args := #[]) (mvT hZ (w16 hw))) (w16 hw) (w15 hw) (w17 hw) (w2 hw) e8 E7_b1 (c3_isSpent l hw [] ⟨S_w_PAUSE, S_w_RESUME, S_w_STEP, E_w_PAUSE, E_w_RESUME, E_w_STEP, F_w_PAUSE_ordinal, F_w_RESUME_ordinal, F_w_STEP_ordinal, S_w_arr0, A_w_arr0, A_w_arr0_0, A_w_arr0_2, A_w_arr0_1⟩ O7 (Nat.le_trans Z0 K7.1) b1 g_b1 E7_b1 F7_b1_left) (by decide) (by rw [hml]; rfl) 0 (Nat.le_of_eq rfl) (by decide) (by decide) (by decide) (by decide) pd_1 rfl (argsL := []) (st := []) rfl (zpureK ⟨rfl, rfl⟩ fun T9 X9 e9 => ?_)))))
    show zEnds p e below s T9 (mkF m 181 #[iv u0, iv u1, iv u2, iv 2, iv u4, rv b1, .val (.long (-1)), .second, iv 1] [(.int 0)]) _ _ _
    refine zlload X9 hx hby at_181 rfl (zlconst X9 hx hby at_183 (z := (0 : Int64)) rfl (zlcmp X9 hx hby at_184 (-1 : Int32) (by decide) (zifYes X9 hx hby at_185 192 (by decide) (by decide) (by decide) (ziconst X9 hx hby at_192 (z := (0 : Int32)) rfl (zicmpNo X9 hx hby at_193 (by decide) (ziconst X9 hx hby at_196 (z := (1 : Int32)) rfl (zgoto X9 hx hby at_197 201 (by decide) (by decide) (zistore X9 hx hby at_201 (L' := #[iv u0, iv u1, iv u2, iv 2, iv u4, rv b1, .val (.long (-1)), .second, iv 1]) rfl ?_))))))))
    show zEnds p e below s T9 (mkF m 203 #[iv u0, iv u1, iv u2, iv 2, iv u4, rv b1, .val (.long (-1)), .second, iv 1] []) _ _ _
    exact stg_3_5 X9 hx hZ hw hby hml hown hret hlk ⟨S_w_PAUSE, S_w_RESUME, S_w_STEP, E_w_PAUSE, E_w_RESUME, E_w_STEP, F_w_PAUSE_ordinal, F_w_RESUME_ordinal, F_w_STEP_ordinal, S_w_arr0, A_w_arr0, A_w_arr0_0, A_w_arr0_2, A_w_arr0_1⟩ e9 O7 N7 g_b1 E7_b1 F7_b1_left k4
  · show zEnds p e below s T0 (mkF m 157 #[iv u0, iv u1, iv u2, iv 3, iv u4, rv b1, .val (.long 2), .second, iv 1] []) _ _ _
    refine zaload X0 hx hby at_157 rfl rfl (ziloadN X0 hx hby at_159 rfl (zcalls X0 hx hby at_160 hZ hown (w18 hw) (w19 hw) (w20 hw) (w21 hw) e0 (c73_apply l hw [] ⟨S_w_PAUSE, S_w_RESUME, S_w_STEP, E_w_PAUSE, E_w_RESUME, E_w_STEP, F_w_PAUSE_ordinal, F_w_RESUME_ordinal, F_w_STEP_ordinal, S_w_arr0, A_w_arr0, A_w_arr0_0, A_w_arr0_2, A_w_arr0_1⟩ O0 (Nat.le_trans Z0 K0.1) b1 g_b1 E_b1 F_b1_left) (by decide) (by rw [hml]; rfl) 0 (Nat.le_of_eq rfl) (by decide) (by decide) (by decide) (by decide) pd_5 rfl (argsL := [(.ref b1), (.int 3)]) (st := []) rfl fun T10 h10 v10 L10 e10 X10 q10 => ?_))
    obtain ⟨rfl, N10q, K10q, E10_b1, F10_b1_left⟩ := q10
    have O10 := O0.keep K10q (allS g_b1 all0)
    have K10 := Keep.trans K0 K10q (allS (Or.inl (List.mem_of_getElem? (i := 0) rfl)) all0)
    have N10 := Fr.app N0 N10q
    show zEnds p e below s T10 (mkF m 163 #[iv u0, iv u1, iv u2, iv 3, iv u4, rv b1, .val (.long 2), .second, iv 1] []) _ _ _
    refine zlload X10 hx hby at_163 rfl (ziloadN X10 hx hby at_165 rfl (zcalls X10 hx hby at_166 hZ hown (w46 hw) (w47 hw) (w20 hw) (w48 hw) e10 (c77_next l hw [] ⟨S_w_PAUSE, S_w_RESUME, S_w_STEP, E_w_PAUSE, E_w_RESUME, E_w_STEP, F_w_PAUSE_ordinal, F_w_RESUME_ordinal, F_w_STEP_ordinal, S_w_arr0, A_w_arr0, A_w_arr0_0, A_w_arr0_2, A_w_arr0_1⟩ O10 (Nat.le_trans Z0 K10.1) ) (by decide) (by rw [hml]; rfl) 0 (Nat.le_of_eq rfl) (by decide) (by decide) (by decide) (by decide) pd_6 rfl (argsL := [(.long 2), (.int 3)]) (st := []) rfl (zpureK ⟨rfl, rfl⟩ fun T11 X11 e11 => ?_)))
    show zEnds p e below s T11 (mkF m 169 #[iv u0, iv u1, iv u2, iv 3, iv u4, rv b1, .val (.long 2), .second, iv 1] [(.long 1)]) _ _ _
    refine zlstore X11 hx hby at_169 (L' := #[iv u0, iv u1, iv u2, iv 3, iv u4, rv b1, .val (.long 1), .second, iv 1]) rfl (ziload X11 hx hby at_171 rfl (zifNo X11 hx hby at_173 (by decide) (zaload X11 hx hby at_176 rfl rfl (zcallv X11 hx hby at_178 hZ hown (w13 hw) (w14 hw) (notFace_of_selects (args := #[]) (mvT hZ (w16 hw))) (w16 hw) (w15 hw) (w17 hw) (w2 hw) e11 E10_b1 (c15_isSpent l hw [] ⟨S_w_PAUSE, S_w_RESUME, S_w_STEP, E_w_PAUSE, E_w_RESUME, E_w_STEP, F_w_PAUSE_ordinal, F_w_RESUME_ordinal, F_w_STEP_ordinal, S_w_arr0, A_w_arr0, A_w_arr0_0, A_w_arr0_2, A_w_arr0_1⟩ O10 (Nat.le_trans Z0 K10.1) b1 g_b1 E10_b1 F10_b1_left) (by decide) (by rw [hml]; rfl) 0 (Nat.le_of_eq rfl) (by decide) (by decide) (by decide) (by decide) pd_1 rfl (argsL := []) (st := []) rfl (zpureK ⟨rfl, rfl⟩ fun T12 X12 e12 => ?_)))))
    show zEnds p e below s T12 (mkF m 181 #[iv u0, iv u1, iv u2, iv 3, iv u4, rv b1, .val (.long 1), .second, iv 1] [(.int 0)]) _ _ _
    refine zlload X12 hx hby at_181 rfl (zlconst X12 hx hby at_183 (z := (0 : Int64)) rfl (zlcmp X12 hx hby at_184 (1 : Int32) (by decide) (zifYes X12 hx hby at_185 192 (by decide) (by decide) (by decide) (ziconst X12 hx hby at_192 (z := (0 : Int32)) rfl (zicmpNo X12 hx hby at_193 (by decide) (ziconst X12 hx hby at_196 (z := (1 : Int32)) rfl (zgoto X12 hx hby at_197 201 (by decide) (by decide) (zistore X12 hx hby at_201 (L' := #[iv u0, iv u1, iv u2, iv 3, iv u4, rv b1, .val (.long 1), .second, iv 1]) rfl ?_))))))))
    show zEnds p e below s T12 (mkF m 203 #[iv u0, iv u1, iv u2, iv 3, iv u4, rv b1, .val (.long 1), .second, iv 1] []) _ _ _
    exact stg_3_3 X12 hx hZ hw hby hml hown hret hlk ⟨S_w_PAUSE, S_w_RESUME, S_w_STEP, E_w_PAUSE, E_w_RESUME, E_w_STEP, F_w_PAUSE_ordinal, F_w_RESUME_ordinal, F_w_STEP_ordinal, S_w_arr0, A_w_arr0, A_w_arr0_0, A_w_arr0_2, A_w_arr0_1⟩ e12 O10 N10 g_b1 E10_b1 F10_b1_left k4
set_option maxRecDepth 65536 in
set_option maxHeartbeats 40000000 in
theorem stg_2_9 {p : Program} {l : Launch} {e : Env} {s : State} {m : MethodId} {args : Array Value} {below : List Frame} {meth : Method} {c : Code} {T0 : State} {locs : List Loc} {Z : State} {a0 : Array Value} {h0 : Heap} {n0 : Nat} {w_PAUSE w_RESUME w_STEP w_arr0 : Addr} {cl_arr0 : Cell} {b1 : Addr} 
    (X0 : Stand p l e room_1 s m args below meth c T0 locs 1 1) (hx : p.tables.exec = Jvm.exec) (hZ : Z.Warmed39 s.vm) (hw : ∀ d ∈ tables_1, d.before a0 Z = true) (hby : c.code = code) (hml : c.maxLocals = 9) (hown : s.vm.findClass "heapglass/core/wire/AllowanceIsSpentPinLaw" = some m.cls) (hret : meth.sig.returnType = (some .boolean)) (hlk : meth.locks = false) (C : Ctx Z w_PAUSE w_RESUME w_STEP w_arr0 cl_arr0) (e0 : T0.heap = h0) (O0 : Old Z n0 h0) (N0 : Fr n0 locs) (g_b1 : n0 ≤ b1) (E_b1 : Exa Z h0 b1 "heapglass/core/wire/Allowance") (F_b1_left : Fld Z h0 b1 "heapglass/core/wire/Allowance" "left" "J" (.long 9223372036854775807)) {u0 u1 u2 u3 u4 : Int32} (k3 : u3 = (0 : Int32) ∨ u3 = (1 : Int32) ∨ u3 = (2 : Int32) ∨ u3 = (3 : Int32)) (k4 : u4 = (0 : Int32) ∨ u4 = (1 : Int32) ∨ u4 = (2 : Int32) ∨ u4 = (3 : Int32)) :
    zEnds p e below s T0 (mkF m 157 #[iv u0, iv u1, iv u2, iv u3, iv u4, rv b1, .val (.long (-1)), .second, iv 1] []) room_1.cells room_1.slots (fun v h L => v = some (.int (1 : Int32)) ∧ Fr n0 L) := by
  obtain ⟨S_w_PAUSE, S_w_RESUME, S_w_STEP, E_w_PAUSE, E_w_RESUME, E_w_STEP, F_w_PAUSE_ordinal, F_w_RESUME_ordinal, F_w_STEP_ordinal, S_w_arr0, A_w_arr0, A_w_arr0_0, A_w_arr0_2, A_w_arr0_1⟩ := C
  have K0 := Keep.refl h0 [b1]
  have Z0 : n0 ≤ h0.size := by rw [← O0.1]; exact O0.2.1
  show zEnds p e below s T0 (mkF m 157 #[iv u0, iv u1, iv u2, iv u3, iv u4, rv b1, .val (.long (-1)), .second, iv 1] []) _ _ _
  rcases k3 with rfl | rfl | rfl | rfl
  · show zEnds p e below s T0 (mkF m 157 #[iv u0, iv u1, iv u2, iv 0, iv u4, rv b1, .val (.long (-1)), .second, iv 1] []) _ _ _
    refine zaload X0 hx hby at_157 rfl rfl (ziloadN X0 hx hby at_159 rfl (zcalls X0 hx hby at_160 hZ hown (w18 hw) (w19 hw) (w20 hw) (w21 hw) e0 (c5_apply l hw [] ⟨S_w_PAUSE, S_w_RESUME, S_w_STEP, E_w_PAUSE, E_w_RESUME, E_w_STEP, F_w_PAUSE_ordinal, F_w_RESUME_ordinal, F_w_STEP_ordinal, S_w_arr0, A_w_arr0, A_w_arr0_0, A_w_arr0_2, A_w_arr0_1⟩ O0 (Nat.le_trans Z0 K0.1) b1 g_b1 E_b1 F_b1_left) (by decide) (by rw [hml]; rfl) 0 (Nat.le_of_eq rfl) (by decide) (by decide) (by decide) (by decide) pd_5 rfl (argsL := [(.ref b1), (.int 0)]) (st := []) rfl fun T1 h1 v1 L1 e1 X1 q1 => ?_))
    obtain ⟨rfl, N1q, K1q, E1_b1, F1_b1_left⟩ := q1
    have O1 := O0.keep K1q (allS g_b1 all0)
    have K1 := Keep.trans K0 K1q (allS (Or.inl (List.mem_of_getElem? (i := 0) rfl)) all0)
    have N1 := Fr.app N0 N1q
    show zEnds p e below s T1 (mkF m 163 #[iv u0, iv u1, iv u2, iv 0, iv u4, rv b1, .val (.long (-1)), .second, iv 1] []) _ _ _
    refine zlload X1 hx hby at_163 rfl (ziloadN X1 hx hby at_165 rfl (zcalls X1 hx hby at_166 hZ hown (w46 hw) (w47 hw) (w20 hw) (w48 hw) e1 (c13_next l hw [] ⟨S_w_PAUSE, S_w_RESUME, S_w_STEP, E_w_PAUSE, E_w_RESUME, E_w_STEP, F_w_PAUSE_ordinal, F_w_RESUME_ordinal, F_w_STEP_ordinal, S_w_arr0, A_w_arr0, A_w_arr0_0, A_w_arr0_2, A_w_arr0_1⟩ O1 (Nat.le_trans Z0 K1.1) ) (by decide) (by rw [hml]; rfl) 0 (Nat.le_of_eq rfl) (by decide) (by decide) (by decide) (by decide) pd_6 rfl (argsL := [(.long (-1)), (.int 0)]) (st := []) rfl (zpureK ⟨rfl, rfl⟩ fun T2 X2 e2 => ?_)))
    show zEnds p e below s T2 (mkF m 169 #[iv u0, iv u1, iv u2, iv 0, iv u4, rv b1, .val (.long (-1)), .second, iv 1] [(.long 1)]) _ _ _
    refine zlstore X2 hx hby at_169 (L' := #[iv u0, iv u1, iv u2, iv 0, iv u4, rv b1, .val (.long 1), .second, iv 1]) rfl (ziload X2 hx hby at_171 rfl (zifNo X2 hx hby at_173 (by decide) (zaload X2 hx hby at_176 rfl rfl (zcallv X2 hx hby at_178 hZ hown (w13 hw) (w14 hw) (notFace_of_selects (args := #[]) (mvT hZ (w16 hw))) (w16 hw) (w15 hw) (w17 hw) (w2 hw) e2 E1_b1 (c15_isSpent l hw [] ⟨S_w_PAUSE, S_w_RESUME, S_w_STEP, E_w_PAUSE, E_w_RESUME, E_w_STEP, F_w_PAUSE_ordinal, F_w_RESUME_ordinal, F_w_STEP_ordinal, S_w_arr0, A_w_arr0, A_w_arr0_0, A_w_arr0_2, A_w_arr0_1⟩ O1 (Nat.le_trans Z0 K1.1) b1 g_b1 E1_b1 F1_b1_left) (by decide) (by rw [hml]; rfl) 0 (Nat.le_of_eq rfl) (by decide) (by decide) (by decide) (by decide) pd_1 rfl (argsL := []) (st := []) rfl (zpureK ⟨rfl, rfl⟩ fun T3 X3 e3 => ?_)))))
    show zEnds p e below s T3 (mkF m 181 #[iv u0, iv u1, iv u2, iv 0, iv u4, rv b1, .val (.long 1), .second, iv 1] [(.int 0)]) _ _ _
    refine zlload X3 hx hby at_181 rfl (zlconst X3 hx hby at_183 (z := (0 : Int64)) rfl (zlcmp X3 hx hby at_184 (1 : Int32) (by decide) (zifYes X3 hx hby at_185 192 (by decide) (by decide) (by decide) (ziconst X3 hx hby at_192 (z := (0 : Int32)) rfl (zicmpNo X3 hx hby at_193 (by decide) (ziconst X3 hx hby at_196 (z := (1 : Int32)) rfl (zgoto X3 hx hby at_197 201 (by decide) (by decide) (zistore X3 hx hby at_201 (L' := #[iv u0, iv u1, iv u2, iv 0, iv u4, rv b1, .val (.long 1), .second, iv 1]) rfl ?_))))))))
    show zEnds p e below s T3 (mkF m 203 #[iv u0, iv u1, iv u2, iv 0, iv u4, rv b1, .val (.long 1), .second, iv 1] []) _ _ _
    exact stg_3_3 X3 hx hZ hw hby hml hown hret hlk ⟨S_w_PAUSE, S_w_RESUME, S_w_STEP, E_w_PAUSE, E_w_RESUME, E_w_STEP, F_w_PAUSE_ordinal, F_w_RESUME_ordinal, F_w_STEP_ordinal, S_w_arr0, A_w_arr0, A_w_arr0_0, A_w_arr0_2, A_w_arr0_1⟩ e3 O1 N1 g_b1 E1_b1 F1_b1_left k4
  · show zEnds p e below s T0 (mkF m 157 #[iv u0, iv u1, iv u2, iv 1, iv u4, rv b1, .val (.long (-1)), .second, iv 1] []) _ _ _
    refine zaload X0 hx hby at_157 rfl rfl (ziloadN X0 hx hby at_159 rfl (zcalls X0 hx hby at_160 hZ hown (w18 hw) (w19 hw) (w20 hw) (w21 hw) e0 (c79_apply l hw [] ⟨S_w_PAUSE, S_w_RESUME, S_w_STEP, E_w_PAUSE, E_w_RESUME, E_w_STEP, F_w_PAUSE_ordinal, F_w_RESUME_ordinal, F_w_STEP_ordinal, S_w_arr0, A_w_arr0, A_w_arr0_0, A_w_arr0_2, A_w_arr0_1⟩ O0 (Nat.le_trans Z0 K0.1) b1 g_b1 E_b1 F_b1_left) (by decide) (by rw [hml]; rfl) 0 (Nat.le_of_eq rfl) (by decide) (by decide) (by decide) (by decide) pd_5 rfl (argsL := [(.ref b1), (.int 1)]) (st := []) rfl fun T4 h4 v4 L4 e4 X4 q4 => ?_))
    obtain ⟨rfl, N4q, K4q, E4_b1, F4_b1_left⟩ := q4
    have O4 := O0.keep K4q (allS g_b1 all0)
    have K4 := Keep.trans K0 K4q (allS (Or.inl (List.mem_of_getElem? (i := 0) rfl)) all0)
    have N4 := Fr.app N0 N4q
    show zEnds p e below s T4 (mkF m 163 #[iv u0, iv u1, iv u2, iv 1, iv u4, rv b1, .val (.long (-1)), .second, iv 1] []) _ _ _
    refine zlload X4 hx hby at_163 rfl (ziloadN X4 hx hby at_165 rfl (zcalls X4 hx hby at_166 hZ hown (w46 hw) (w47 hw) (w20 hw) (w48 hw) e4 (c83_next l hw [] ⟨S_w_PAUSE, S_w_RESUME, S_w_STEP, E_w_PAUSE, E_w_RESUME, E_w_STEP, F_w_PAUSE_ordinal, F_w_RESUME_ordinal, F_w_STEP_ordinal, S_w_arr0, A_w_arr0, A_w_arr0_0, A_w_arr0_2, A_w_arr0_1⟩ O4 (Nat.le_trans Z0 K4.1) ) (by decide) (by rw [hml]; rfl) 0 (Nat.le_of_eq rfl) (by decide) (by decide) (by decide) (by decide) pd_6 rfl (argsL := [(.long (-1)), (.int 1)]) (st := []) rfl (zpureK ⟨rfl, rfl⟩ fun T5 X5 e5 => ?_)))
    show zEnds p e below s T5 (mkF m 169 #[iv u0, iv u1, iv u2, iv 1, iv u4, rv b1, .val (.long (-1)), .second, iv 1] [(.long 1)]) _ _ _
    refine zlstore X5 hx hby at_169 (L' := #[iv u0, iv u1, iv u2, iv 1, iv u4, rv b1, .val (.long 1), .second, iv 1]) rfl (ziload X5 hx hby at_171 rfl (zifNo X5 hx hby at_173 (by decide) (zaload X5 hx hby at_176 rfl rfl (zcallv X5 hx hby at_178 hZ hown (w13 hw) (w14 hw) (notFace_of_selects (args := #[]) (mvT hZ (w16 hw))) (w16 hw) (w15 hw) (w17 hw) (w2 hw) e5 E4_b1 (c15_isSpent l hw [] ⟨S_w_PAUSE, S_w_RESUME, S_w_STEP, E_w_PAUSE, E_w_RESUME, E_w_STEP, F_w_PAUSE_ordinal, F_w_RESUME_ordinal, F_w_STEP_ordinal, S_w_arr0, A_w_arr0, A_w_arr0_0, A_w_arr0_2, A_w_arr0_1⟩ O4 (Nat.le_trans Z0 K4.1) b1 g_b1 E4_b1 F4_b1_left) (by decide) (by rw [hml]; rfl) 0 (Nat.le_of_eq rfl) (by decide) (by decide) (by decide) (by decide) pd_1 rfl (argsL := []) (st := []) rfl (zpureK ⟨rfl, rfl⟩ fun T6 X6 e6 => ?_)))))
    show zEnds p e below s T6 (mkF m 181 #[iv u0, iv u1, iv u2, iv 1, iv u4, rv b1, .val (.long 1), .second, iv 1] [(.int 0)]) _ _ _
    refine zlload X6 hx hby at_181 rfl (zlconst X6 hx hby at_183 (z := (0 : Int64)) rfl (zlcmp X6 hx hby at_184 (1 : Int32) (by decide) (zifYes X6 hx hby at_185 192 (by decide) (by decide) (by decide) (ziconst X6 hx hby at_192 (z := (0 : Int32)) rfl (zicmpNo X6 hx hby at_193 (by decide) (ziconst X6 hx hby at_196 (z := (1 : Int32)) rfl (zgoto X6 hx hby at_197 201 (by decide) (by decide) (zistore X6 hx hby at_201 (L' := #[iv u0, iv u1, iv u2, iv 1, iv u4, rv b1, .val (.long 1), .second, iv 1]) rfl ?_))))))))
    show zEnds p e below s T6 (mkF m 203 #[iv u0, iv u1, iv u2, iv 1, iv u4, rv b1, .val (.long 1), .second, iv 1] []) _ _ _
    exact stg_3_3 X6 hx hZ hw hby hml hown hret hlk ⟨S_w_PAUSE, S_w_RESUME, S_w_STEP, E_w_PAUSE, E_w_RESUME, E_w_STEP, F_w_PAUSE_ordinal, F_w_RESUME_ordinal, F_w_STEP_ordinal, S_w_arr0, A_w_arr0, A_w_arr0_0, A_w_arr0_2, A_w_arr0_1⟩ e6 O4 N4 g_b1 E4_b1 F4_b1_left k4
  · show zEnds p e below s T0 (mkF m 157 #[iv u0, iv u1, iv u2, iv 2, iv u4, rv b1, .val (.long (-1)), .second, iv 1] []) _ _ _
    refine zaload X0 hx hby at_157 rfl rfl (ziloadN X0 hx hby at_159 rfl (zcalls X0 hx hby at_160 hZ hown (w18 hw) (w19 hw) (w20 hw) (w21 hw) e0 (c85_apply l hw [] ⟨S_w_PAUSE, S_w_RESUME, S_w_STEP, E_w_PAUSE, E_w_RESUME, E_w_STEP, F_w_PAUSE_ordinal, F_w_RESUME_ordinal, F_w_STEP_ordinal, S_w_arr0, A_w_arr0, A_w_arr0_0, A_w_arr0_2, A_w_arr0_1⟩ O0 (Nat.le_trans Z0 K0.1) b1 g_b1 E_b1 F_b1_left) (by decide) (by rw [hml]; rfl) 0 (Nat.le_of_eq rfl) (by decide) (by decide) (by decide) (by decide) pd_5 rfl (argsL := [(.ref b1), (.int 2)]) (st := []) rfl fun T7 h7 v7 L7 e7 X7 q7 => ?_))
    obtain ⟨rfl, N7q, K7q, E7_b1, F7_b1_left⟩ := q7
    have O7 := O0.keep K7q (allS g_b1 all0)
    have K7 := Keep.trans K0 K7q (allS (Or.inl (List.mem_of_getElem? (i := 0) rfl)) all0)
    have N7 := Fr.app N0 N7q
    show zEnds p e below s T7 (mkF m 163 #[iv u0, iv u1, iv u2, iv 2, iv u4, rv b1, .val (.long (-1)), .second, iv 1] []) _ _ _
    refine zlload X7 hx hby at_163 rfl (ziloadN X7 hx hby at_165 rfl (zcalls X7 hx hby at_166 hZ hown (w46 hw) (w47 hw) (w20 hw) (w48 hw) e7 (c89_next l hw [] ⟨S_w_PAUSE, S_w_RESUME, S_w_STEP, E_w_PAUSE, E_w_RESUME, E_w_STEP, F_w_PAUSE_ordinal, F_w_RESUME_ordinal, F_w_STEP_ordinal, S_w_arr0, A_w_arr0, A_w_arr0_0, A_w_arr0_2, A_w_arr0_1⟩ O7 (Nat.le_trans Z0 K7.1) ) (by decide) (by rw [hml]; rfl) 0 (Nat.le_of_eq rfl) (by decide) (by decide) (by decide) (by decide) pd_6 rfl (argsL := [(.long (-1)), (.int 2)]) (st := []) rfl (zpureK ⟨rfl, rfl⟩ fun T8 X8 e8 => ?_)))
    show zEnds p e below s T8 (mkF m 169 #[iv u0, iv u1, iv u2, iv 2, iv u4, rv b1, .val (.long (-1)), .second, iv 1] [(.long (-1))]) _ _ _
    refine zlstore X8 hx hby at_169 (L' := #[iv u0, iv u1, iv u2, iv 2, iv u4, rv b1, .val (.long (-1)), .second, iv 1]) rfl (ziload X8 hx hby at_171 rfl (zifNo X8 hx hby at_173 (by decide) (zaload X8 hx hby at_176 rfl rfl (zcallv X8 hx hby at_178 hZ hown (w13 hw) (w14 hw) (notFace_of_selects (args := #[]) (mvT hZ (w16 hw))) (w16 hw) (w15 hw) (w17 hw) (w2 hw) e8 E7_b1 (c3_isSpent l hw [] ⟨S_w_PAUSE, S_w_RESUME, S_w_STEP, E_w_PAUSE, E_w_RESUME, E_w_STEP, F_w_PAUSE_ordinal, F_w_RESUME_ordinal, F_w_STEP_ordinal, S_w_arr0, A_w_arr0, A_w_arr0_0, A_w_arr0_2, A_w_arr0_1⟩ O7 (Nat.le_trans Z0 K7.1) b1 g_b1 E7_b1 F7_b1_left) (by decide) (by rw [hml]; rfl) 0 (Nat.le_of_eq rfl) (by decide) (by decide) (by decide) (by decide) pd_1 rfl (argsL := []) (st := []) rfl (zpureK ⟨rfl, rfl⟩ fun T9 X9 e9 => ?_)))))
    show zEnds p e below s T9 (mkF m 181 #[iv u0, iv u1, iv u2, iv 2, iv u4, rv b1, .val (.long (-1)), .second, iv 1] [(.int 0)]) _ _ _
    refine zlload X9 hx hby at_181 rfl (zlconst X9 hx hby at_183 (z := (0 : Int64)) rfl (zlcmp X9 hx hby at_184 (-1 : Int32) (by decide) (zifYes X9 hx hby at_185 192 (by decide) (by decide) (by decide) (ziconst X9 hx hby at_192 (z := (0 : Int32)) rfl (zicmpNo X9 hx hby at_193 (by decide) (ziconst X9 hx hby at_196 (z := (1 : Int32)) rfl (zgoto X9 hx hby at_197 201 (by decide) (by decide) (zistore X9 hx hby at_201 (L' := #[iv u0, iv u1, iv u2, iv 2, iv u4, rv b1, .val (.long (-1)), .second, iv 1]) rfl ?_))))))))
    show zEnds p e below s T9 (mkF m 203 #[iv u0, iv u1, iv u2, iv 2, iv u4, rv b1, .val (.long (-1)), .second, iv 1] []) _ _ _
    exact stg_3_5 X9 hx hZ hw hby hml hown hret hlk ⟨S_w_PAUSE, S_w_RESUME, S_w_STEP, E_w_PAUSE, E_w_RESUME, E_w_STEP, F_w_PAUSE_ordinal, F_w_RESUME_ordinal, F_w_STEP_ordinal, S_w_arr0, A_w_arr0, A_w_arr0_0, A_w_arr0_2, A_w_arr0_1⟩ e9 O7 N7 g_b1 E7_b1 F7_b1_left k4
  · show zEnds p e below s T0 (mkF m 157 #[iv u0, iv u1, iv u2, iv 3, iv u4, rv b1, .val (.long (-1)), .second, iv 1] []) _ _ _
    refine zaload X0 hx hby at_157 rfl rfl (ziloadN X0 hx hby at_159 rfl (zcalls X0 hx hby at_160 hZ hown (w18 hw) (w19 hw) (w20 hw) (w21 hw) e0 (c91_apply l hw [] ⟨S_w_PAUSE, S_w_RESUME, S_w_STEP, E_w_PAUSE, E_w_RESUME, E_w_STEP, F_w_PAUSE_ordinal, F_w_RESUME_ordinal, F_w_STEP_ordinal, S_w_arr0, A_w_arr0, A_w_arr0_0, A_w_arr0_2, A_w_arr0_1⟩ O0 (Nat.le_trans Z0 K0.1) b1 g_b1 E_b1 F_b1_left) (by decide) (by rw [hml]; rfl) 0 (Nat.le_of_eq rfl) (by decide) (by decide) (by decide) (by decide) pd_5 rfl (argsL := [(.ref b1), (.int 3)]) (st := []) rfl (zpureK ⟨rfl, rfl⟩ fun T10 X10 e10 => ?_)))
    show zEnds p e below s T10 (mkF m 163 #[iv u0, iv u1, iv u2, iv 3, iv u4, rv b1, .val (.long (-1)), .second, iv 1] []) _ _ _
    refine zlload X10 hx hby at_163 rfl (ziloadN X10 hx hby at_165 rfl (zcalls X10 hx hby at_166 hZ hown (w46 hw) (w47 hw) (w20 hw) (w48 hw) e10 (c95_next l hw [] ⟨S_w_PAUSE, S_w_RESUME, S_w_STEP, E_w_PAUSE, E_w_RESUME, E_w_STEP, F_w_PAUSE_ordinal, F_w_RESUME_ordinal, F_w_STEP_ordinal, S_w_arr0, A_w_arr0, A_w_arr0_0, A_w_arr0_2, A_w_arr0_1⟩ O0 (Nat.le_trans Z0 K0.1) ) (by decide) (by rw [hml]; rfl) 0 (Nat.le_of_eq rfl) (by decide) (by decide) (by decide) (by decide) pd_6 rfl (argsL := [(.long (-1)), (.int 3)]) (st := []) rfl (zpureK ⟨rfl, rfl⟩ fun T11 X11 e11 => ?_)))
    show zEnds p e below s T11 (mkF m 169 #[iv u0, iv u1, iv u2, iv 3, iv u4, rv b1, .val (.long (-1)), .second, iv 1] [(.long (-1))]) _ _ _
    refine zlstore X11 hx hby at_169 (L' := #[iv u0, iv u1, iv u2, iv 3, iv u4, rv b1, .val (.long (-1)), .second, iv 1]) rfl (ziload X11 hx hby at_171 rfl (zifNo X11 hx hby at_173 (by decide) (zaload X11 hx hby at_176 rfl rfl (zcallv X11 hx hby at_178 hZ hown (w13 hw) (w14 hw) (notFace_of_selects (args := #[]) (mvT hZ (w16 hw))) (w16 hw) (w15 hw) (w17 hw) (w2 hw) e11 E_b1 (c3_isSpent l hw [] ⟨S_w_PAUSE, S_w_RESUME, S_w_STEP, E_w_PAUSE, E_w_RESUME, E_w_STEP, F_w_PAUSE_ordinal, F_w_RESUME_ordinal, F_w_STEP_ordinal, S_w_arr0, A_w_arr0, A_w_arr0_0, A_w_arr0_2, A_w_arr0_1⟩ O0 (Nat.le_trans Z0 K0.1) b1 g_b1 E_b1 F_b1_left) (by decide) (by rw [hml]; rfl) 0 (Nat.le_of_eq rfl) (by decide) (by decide) (by decide) (by decide) pd_1 rfl (argsL := []) (st := []) rfl (zpureK ⟨rfl, rfl⟩ fun T12 X12 e12 => ?_)))))
    show zEnds p e below s T12 (mkF m 181 #[iv u0, iv u1, iv u2, iv 3, iv u4, rv b1, .val (.long (-1)), .second, iv 1] [(.int 0)]) _ _ _
    refine zlload X12 hx hby at_181 rfl (zlconst X12 hx hby at_183 (z := (0 : Int64)) rfl (zlcmp X12 hx hby at_184 (-1 : Int32) (by decide) (zifYes X12 hx hby at_185 192 (by decide) (by decide) (by decide) (ziconst X12 hx hby at_192 (z := (0 : Int32)) rfl (zicmpNo X12 hx hby at_193 (by decide) (ziconst X12 hx hby at_196 (z := (1 : Int32)) rfl (zgoto X12 hx hby at_197 201 (by decide) (by decide) (zistore X12 hx hby at_201 (L' := #[iv u0, iv u1, iv u2, iv 3, iv u4, rv b1, .val (.long (-1)), .second, iv 1]) rfl ?_))))))))
    show zEnds p e below s T12 (mkF m 203 #[iv u0, iv u1, iv u2, iv 3, iv u4, rv b1, .val (.long (-1)), .second, iv 1] []) _ _ _
    exact stg_3_5 X12 hx hZ hw hby hml hown hret hlk ⟨S_w_PAUSE, S_w_RESUME, S_w_STEP, E_w_PAUSE, E_w_RESUME, E_w_STEP, F_w_PAUSE_ordinal, F_w_RESUME_ordinal, F_w_STEP_ordinal, S_w_arr0, A_w_arr0, A_w_arr0_0, A_w_arr0_2, A_w_arr0_1⟩ e12 O0 N0 g_b1 E_b1 F_b1_left k4
set_option maxRecDepth 65536 in
set_option maxHeartbeats 40000000 in
theorem stg_2_10 {p : Program} {l : Launch} {e : Env} {s : State} {m : MethodId} {args : Array Value} {below : List Frame} {meth : Method} {c : Code} {T0 : State} {locs : List Loc} {Z : State} {a0 : Array Value} {h0 : Heap} {n0 : Nat} {w_PAUSE w_RESUME w_STEP w_arr0 : Addr} {cl_arr0 : Cell} {b1 : Addr} 
    (X0 : Stand p l e room_1 s m args below meth c T0 locs 1 1) (hx : p.tables.exec = Jvm.exec) (hZ : Z.Warmed39 s.vm) (hw : ∀ d ∈ tables_1, d.before a0 Z = true) (hby : c.code = code) (hml : c.maxLocals = 9) (hown : s.vm.findClass "heapglass/core/wire/AllowanceIsSpentPinLaw" = some m.cls) (hret : meth.sig.returnType = (some .boolean)) (hlk : meth.locks = false) (C : Ctx Z w_PAUSE w_RESUME w_STEP w_arr0 cl_arr0) (e0 : T0.heap = h0) (O0 : Old Z n0 h0) (N0 : Fr n0 locs) (g_b1 : n0 ≤ b1) (E_b1 : Exa Z h0 b1 "heapglass/core/wire/Allowance") (F_b1_left : Fld Z h0 b1 "heapglass/core/wire/Allowance" "left" "J" (.long 0)) {u0 u1 u2 u3 u4 : Int32} (k3 : u3 = (0 : Int32) ∨ u3 = (1 : Int32) ∨ u3 = (2 : Int32) ∨ u3 = (3 : Int32)) (k4 : u4 = (0 : Int32) ∨ u4 = (1 : Int32) ∨ u4 = (2 : Int32) ∨ u4 = (3 : Int32)) :
    zEnds p e below s T0 (mkF m 157 #[iv u0, iv u1, iv u2, iv u3, iv u4, rv b1, .val (.long 0), .second, iv 1] []) room_1.cells room_1.slots (fun v h L => v = some (.int (1 : Int32)) ∧ Fr n0 L) := by
  obtain ⟨S_w_PAUSE, S_w_RESUME, S_w_STEP, E_w_PAUSE, E_w_RESUME, E_w_STEP, F_w_PAUSE_ordinal, F_w_RESUME_ordinal, F_w_STEP_ordinal, S_w_arr0, A_w_arr0, A_w_arr0_0, A_w_arr0_2, A_w_arr0_1⟩ := C
  have K0 := Keep.refl h0 [b1]
  have Z0 : n0 ≤ h0.size := by rw [← O0.1]; exact O0.2.1
  show zEnds p e below s T0 (mkF m 157 #[iv u0, iv u1, iv u2, iv u3, iv u4, rv b1, .val (.long 0), .second, iv 1] []) _ _ _
  rcases k3 with rfl | rfl | rfl | rfl
  · show zEnds p e below s T0 (mkF m 157 #[iv u0, iv u1, iv u2, iv 0, iv u4, rv b1, .val (.long 0), .second, iv 1] []) _ _ _
    refine zaload X0 hx hby at_157 rfl rfl (ziloadN X0 hx hby at_159 rfl (zcalls X0 hx hby at_160 hZ hown (w18 hw) (w19 hw) (w20 hw) (w21 hw) e0 (c97_apply l hw [] ⟨S_w_PAUSE, S_w_RESUME, S_w_STEP, E_w_PAUSE, E_w_RESUME, E_w_STEP, F_w_PAUSE_ordinal, F_w_RESUME_ordinal, F_w_STEP_ordinal, S_w_arr0, A_w_arr0, A_w_arr0_0, A_w_arr0_2, A_w_arr0_1⟩ O0 (Nat.le_trans Z0 K0.1) b1 g_b1 E_b1 F_b1_left) (by decide) (by rw [hml]; rfl) 0 (Nat.le_of_eq rfl) (by decide) (by decide) (by decide) (by decide) pd_5 rfl (argsL := [(.ref b1), (.int 0)]) (st := []) rfl fun T1 h1 v1 L1 e1 X1 q1 => ?_))
    obtain ⟨rfl, N1q, K1q, E1_b1, F1_b1_left⟩ := q1
    have O1 := O0.keep K1q (allS g_b1 all0)
    have K1 := Keep.trans K0 K1q (allS (Or.inl (List.mem_of_getElem? (i := 0) rfl)) all0)
    have N1 := Fr.app N0 N1q
    show zEnds p e below s T1 (mkF m 163 #[iv u0, iv u1, iv u2, iv 0, iv u4, rv b1, .val (.long 0), .second, iv 1] []) _ _ _
    refine zlload X1 hx hby at_163 rfl (ziloadN X1 hx hby at_165 rfl (zcalls X1 hx hby at_166 hZ hown (w46 hw) (w47 hw) (w20 hw) (w48 hw) e1 (c103_next l hw [] ⟨S_w_PAUSE, S_w_RESUME, S_w_STEP, E_w_PAUSE, E_w_RESUME, E_w_STEP, F_w_PAUSE_ordinal, F_w_RESUME_ordinal, F_w_STEP_ordinal, S_w_arr0, A_w_arr0, A_w_arr0_0, A_w_arr0_2, A_w_arr0_1⟩ O1 (Nat.le_trans Z0 K1.1) ) (by decide) (by rw [hml]; rfl) 0 (Nat.le_of_eq rfl) (by decide) (by decide) (by decide) (by decide) pd_6 rfl (argsL := [(.long 0), (.int 0)]) (st := []) rfl (zpureK ⟨rfl, rfl⟩ fun T2 X2 e2 => ?_)))
    show zEnds p e below s T2 (mkF m 169 #[iv u0, iv u1, iv u2, iv 0, iv u4, rv b1, .val (.long 0), .second, iv 1] [(.long 0)]) _ _ _
    refine zlstore X2 hx hby at_169 (L' := #[iv u0, iv u1, iv u2, iv 0, iv u4, rv b1, .val (.long 0), .second, iv 1]) rfl (ziload X2 hx hby at_171 rfl (zifNo X2 hx hby at_173 (by decide) (zaload X2 hx hby at_176 rfl rfl (zcallv X2 hx hby at_178 hZ hown (w13 hw) (w14 hw) (notFace_of_selects (args := #[]) (mvT hZ (w16 hw))) (w16 hw) (w15 hw) (w17 hw) (w2 hw) e2 E1_b1 (c49_isSpent l hw [] ⟨S_w_PAUSE, S_w_RESUME, S_w_STEP, E_w_PAUSE, E_w_RESUME, E_w_STEP, F_w_PAUSE_ordinal, F_w_RESUME_ordinal, F_w_STEP_ordinal, S_w_arr0, A_w_arr0, A_w_arr0_0, A_w_arr0_2, A_w_arr0_1⟩ O1 (Nat.le_trans Z0 K1.1) b1 g_b1 E1_b1 F1_b1_left) (by decide) (by rw [hml]; rfl) 0 (Nat.le_of_eq rfl) (by decide) (by decide) (by decide) (by decide) pd_1 rfl (argsL := []) (st := []) rfl (zpureK ⟨rfl, rfl⟩ fun T3 X3 e3 => ?_)))))
    show zEnds p e below s T3 (mkF m 181 #[iv u0, iv u1, iv u2, iv 0, iv u4, rv b1, .val (.long 0), .second, iv 1] [(.int 1)]) _ _ _
    refine zlload X3 hx hby at_181 rfl (zlconst X3 hx hby at_183 (z := (0 : Int64)) rfl (zlcmp X3 hx hby at_184 (0 : Int32) (by decide) (zifNo X3 hx hby at_185 (by decide) (ziconst X3 hx hby at_188 (z := (1 : Int32)) rfl (zgoto X3 hx hby at_189 193 (by decide) (by decide) (zicmpNo X3 hx hby at_193 (by decide) (ziconst X3 hx hby at_196 (z := (1 : Int32)) rfl (zgoto X3 hx hby at_197 201 (by decide) (by decide) (zistore X3 hx hby at_201 (L' := #[iv u0, iv u1, iv u2, iv 0, iv u4, rv b1, .val (.long 0), .second, iv 1]) rfl ?_)))))))))
    show zEnds p e below s T3 (mkF m 203 #[iv u0, iv u1, iv u2, iv 0, iv u4, rv b1, .val (.long 0), .second, iv 1] []) _ _ _
    exact stg_3_6 X3 hx hZ hw hby hml hown hret hlk ⟨S_w_PAUSE, S_w_RESUME, S_w_STEP, E_w_PAUSE, E_w_RESUME, E_w_STEP, F_w_PAUSE_ordinal, F_w_RESUME_ordinal, F_w_STEP_ordinal, S_w_arr0, A_w_arr0, A_w_arr0_0, A_w_arr0_2, A_w_arr0_1⟩ e3 O1 N1 g_b1 E1_b1 F1_b1_left k4
  · show zEnds p e below s T0 (mkF m 157 #[iv u0, iv u1, iv u2, iv 1, iv u4, rv b1, .val (.long 0), .second, iv 1] []) _ _ _
    refine zaload X0 hx hby at_157 rfl rfl (ziloadN X0 hx hby at_159 rfl (zcalls X0 hx hby at_160 hZ hown (w18 hw) (w19 hw) (w20 hw) (w21 hw) e0 (c105_apply l hw [] ⟨S_w_PAUSE, S_w_RESUME, S_w_STEP, E_w_PAUSE, E_w_RESUME, E_w_STEP, F_w_PAUSE_ordinal, F_w_RESUME_ordinal, F_w_STEP_ordinal, S_w_arr0, A_w_arr0, A_w_arr0_0, A_w_arr0_2, A_w_arr0_1⟩ O0 (Nat.le_trans Z0 K0.1) b1 g_b1 E_b1 F_b1_left) (by decide) (by rw [hml]; rfl) 0 (Nat.le_of_eq rfl) (by decide) (by decide) (by decide) (by decide) pd_5 rfl (argsL := [(.ref b1), (.int 1)]) (st := []) rfl fun T4 h4 v4 L4 e4 X4 q4 => ?_))
    obtain ⟨rfl, N4q, K4q, E4_b1, F4_b1_left⟩ := q4
    have O4 := O0.keep K4q (allS g_b1 all0)
    have K4 := Keep.trans K0 K4q (allS (Or.inl (List.mem_of_getElem? (i := 0) rfl)) all0)
    have N4 := Fr.app N0 N4q
    show zEnds p e below s T4 (mkF m 163 #[iv u0, iv u1, iv u2, iv 1, iv u4, rv b1, .val (.long 0), .second, iv 1] []) _ _ _
    refine zlload X4 hx hby at_163 rfl (ziloadN X4 hx hby at_165 rfl (zcalls X4 hx hby at_166 hZ hown (w46 hw) (w47 hw) (w20 hw) (w48 hw) e4 (c109_next l hw [] ⟨S_w_PAUSE, S_w_RESUME, S_w_STEP, E_w_PAUSE, E_w_RESUME, E_w_STEP, F_w_PAUSE_ordinal, F_w_RESUME_ordinal, F_w_STEP_ordinal, S_w_arr0, A_w_arr0, A_w_arr0_0, A_w_arr0_2, A_w_arr0_1⟩ O4 (Nat.le_trans Z0 K4.1) ) (by decide) (by rw [hml]; rfl) 0 (Nat.le_of_eq rfl) (by decide) (by decide) (by decide) (by decide) pd_6 rfl (argsL := [(.long 0), (.int 1)]) (st := []) rfl (zpureK ⟨rfl, rfl⟩ fun T5 X5 e5 => ?_)))
    show zEnds p e below s T5 (mkF m 169 #[iv u0, iv u1, iv u2, iv 1, iv u4, rv b1, .val (.long 0), .second, iv 1] [(.long 1)]) _ _ _
    refine zlstore X5 hx hby at_169 (L' := #[iv u0, iv u1, iv u2, iv 1, iv u4, rv b1, .val (.long 1), .second, iv 1]) rfl (ziload X5 hx hby at_171 rfl (zifNo X5 hx hby at_173 (by decide) (zaload X5 hx hby at_176 rfl rfl (zcallv X5 hx hby at_178 hZ hown (w13 hw) (w14 hw) (notFace_of_selects (args := #[]) (mvT hZ (w16 hw))) (w16 hw) (w15 hw) (w17 hw) (w2 hw) e5 E4_b1 (c15_isSpent l hw [] ⟨S_w_PAUSE, S_w_RESUME, S_w_STEP, E_w_PAUSE, E_w_RESUME, E_w_STEP, F_w_PAUSE_ordinal, F_w_RESUME_ordinal, F_w_STEP_ordinal, S_w_arr0, A_w_arr0, A_w_arr0_0, A_w_arr0_2, A_w_arr0_1⟩ O4 (Nat.le_trans Z0 K4.1) b1 g_b1 E4_b1 F4_b1_left) (by decide) (by rw [hml]; rfl) 0 (Nat.le_of_eq rfl) (by decide) (by decide) (by decide) (by decide) pd_1 rfl (argsL := []) (st := []) rfl (zpureK ⟨rfl, rfl⟩ fun T6 X6 e6 => ?_)))))
    show zEnds p e below s T6 (mkF m 181 #[iv u0, iv u1, iv u2, iv 1, iv u4, rv b1, .val (.long 1), .second, iv 1] [(.int 0)]) _ _ _
    refine zlload X6 hx hby at_181 rfl (zlconst X6 hx hby at_183 (z := (0 : Int64)) rfl (zlcmp X6 hx hby at_184 (1 : Int32) (by decide) (zifYes X6 hx hby at_185 192 (by decide) (by decide) (by decide) (ziconst X6 hx hby at_192 (z := (0 : Int32)) rfl (zicmpNo X6 hx hby at_193 (by decide) (ziconst X6 hx hby at_196 (z := (1 : Int32)) rfl (zgoto X6 hx hby at_197 201 (by decide) (by decide) (zistore X6 hx hby at_201 (L' := #[iv u0, iv u1, iv u2, iv 1, iv u4, rv b1, .val (.long 1), .second, iv 1]) rfl ?_))))))))
    show zEnds p e below s T6 (mkF m 203 #[iv u0, iv u1, iv u2, iv 1, iv u4, rv b1, .val (.long 1), .second, iv 1] []) _ _ _
    exact stg_3_3 X6 hx hZ hw hby hml hown hret hlk ⟨S_w_PAUSE, S_w_RESUME, S_w_STEP, E_w_PAUSE, E_w_RESUME, E_w_STEP, F_w_PAUSE_ordinal, F_w_RESUME_ordinal, F_w_STEP_ordinal, S_w_arr0, A_w_arr0, A_w_arr0_0, A_w_arr0_2, A_w_arr0_1⟩ e6 O4 N4 g_b1 E4_b1 F4_b1_left k4
  · show zEnds p e below s T0 (mkF m 157 #[iv u0, iv u1, iv u2, iv 2, iv u4, rv b1, .val (.long 0), .second, iv 1] []) _ _ _
    refine zaload X0 hx hby at_157 rfl rfl (ziloadN X0 hx hby at_159 rfl (zcalls X0 hx hby at_160 hZ hown (w18 hw) (w19 hw) (w20 hw) (w21 hw) e0 (c111_apply l hw [] ⟨S_w_PAUSE, S_w_RESUME, S_w_STEP, E_w_PAUSE, E_w_RESUME, E_w_STEP, F_w_PAUSE_ordinal, F_w_RESUME_ordinal, F_w_STEP_ordinal, S_w_arr0, A_w_arr0, A_w_arr0_0, A_w_arr0_2, A_w_arr0_1⟩ O0 (Nat.le_trans Z0 K0.1) b1 g_b1 E_b1 F_b1_left) (by decide) (by rw [hml]; rfl) 0 (Nat.le_of_eq rfl) (by decide) (by decide) (by decide) (by decide) pd_5 rfl (argsL := [(.ref b1), (.int 2)]) (st := []) rfl fun T7 h7 v7 L7 e7 X7 q7 => ?_))
    obtain ⟨rfl, N7q, K7q, E7_b1, F7_b1_left⟩ := q7
    have O7 := O0.keep K7q (allS g_b1 all0)
    have K7 := Keep.trans K0 K7q (allS (Or.inl (List.mem_of_getElem? (i := 0) rfl)) all0)
    have N7 := Fr.app N0 N7q
    show zEnds p e below s T7 (mkF m 163 #[iv u0, iv u1, iv u2, iv 2, iv u4, rv b1, .val (.long 0), .second, iv 1] []) _ _ _
    refine zlload X7 hx hby at_163 rfl (ziloadN X7 hx hby at_165 rfl (zcalls X7 hx hby at_166 hZ hown (w46 hw) (w47 hw) (w20 hw) (w48 hw) e7 (c115_next l hw [] ⟨S_w_PAUSE, S_w_RESUME, S_w_STEP, E_w_PAUSE, E_w_RESUME, E_w_STEP, F_w_PAUSE_ordinal, F_w_RESUME_ordinal, F_w_STEP_ordinal, S_w_arr0, A_w_arr0, A_w_arr0_0, A_w_arr0_2, A_w_arr0_1⟩ O7 (Nat.le_trans Z0 K7.1) ) (by decide) (by rw [hml]; rfl) 0 (Nat.le_of_eq rfl) (by decide) (by decide) (by decide) (by decide) pd_6 rfl (argsL := [(.long 0), (.int 2)]) (st := []) rfl (zpureK ⟨rfl, rfl⟩ fun T8 X8 e8 => ?_)))
    show zEnds p e below s T8 (mkF m 169 #[iv u0, iv u1, iv u2, iv 2, iv u4, rv b1, .val (.long 0), .second, iv 1] [(.long (-1))]) _ _ _
    refine zlstore X8 hx hby at_169 (L' := #[iv u0, iv u1, iv u2, iv 2, iv u4, rv b1, .val (.long (-1)), .second, iv 1]) rfl (ziload X8 hx hby at_171 rfl (zifNo X8 hx hby at_173 (by decide) (zaload X8 hx hby at_176 rfl rfl (zcallv X8 hx hby at_178 hZ hown (w13 hw) (w14 hw) (notFace_of_selects (args := #[]) (mvT hZ (w16 hw))) (w16 hw) (w15 hw) (w17 hw) (w2 hw) e8 E7_b1 (c3_isSpent l hw [] ⟨S_w_PAUSE, S_w_RESUME, S_w_STEP, E_w_PAUSE, E_w_RESUME, E_w_STEP, F_w_PAUSE_ordinal, F_w_RESUME_ordinal, F_w_STEP_ordinal, S_w_arr0, A_w_arr0, A_w_arr0_0, A_w_arr0_2, A_w_arr0_1⟩ O7 (Nat.le_trans Z0 K7.1) b1 g_b1 E7_b1 F7_b1_left) (by decide) (by rw [hml]; rfl) 0 (Nat.le_of_eq rfl) (by decide) (by decide) (by decide) (by decide) pd_1 rfl (argsL := []) (st := []) rfl (zpureK ⟨rfl, rfl⟩ fun T9 X9 e9 => ?_)))))
    show zEnds p e below s T9 (mkF m 181 #[iv u0, iv u1, iv u2, iv 2, iv u4, rv b1, .val (.long (-1)), .second, iv 1] [(.int 0)]) _ _ _
    refine zlload X9 hx hby at_181 rfl (zlconst X9 hx hby at_183 (z := (0 : Int64)) rfl (zlcmp X9 hx hby at_184 (-1 : Int32) (by decide) (zifYes X9 hx hby at_185 192 (by decide) (by decide) (by decide) (ziconst X9 hx hby at_192 (z := (0 : Int32)) rfl (zicmpNo X9 hx hby at_193 (by decide) (ziconst X9 hx hby at_196 (z := (1 : Int32)) rfl (zgoto X9 hx hby at_197 201 (by decide) (by decide) (zistore X9 hx hby at_201 (L' := #[iv u0, iv u1, iv u2, iv 2, iv u4, rv b1, .val (.long (-1)), .second, iv 1]) rfl ?_))))))))
    show zEnds p e below s T9 (mkF m 203 #[iv u0, iv u1, iv u2, iv 2, iv u4, rv b1, .val (.long (-1)), .second, iv 1] []) _ _ _
    exact stg_3_5 X9 hx hZ hw hby hml hown hret hlk ⟨S_w_PAUSE, S_w_RESUME, S_w_STEP, E_w_PAUSE, E_w_RESUME, E_w_STEP, F_w_PAUSE_ordinal, F_w_RESUME_ordinal, F_w_STEP_ordinal, S_w_arr0, A_w_arr0, A_w_arr0_0, A_w_arr0_2, A_w_arr0_1⟩ e9 O7 N7 g_b1 E7_b1 F7_b1_left k4
  · show zEnds p e below s T0 (mkF m 157 #[iv u0, iv u1, iv u2, iv 3, iv u4, rv b1, .val (.long 0), .second, iv 1] []) _ _ _
    refine zaload X0 hx hby at_157 rfl rfl (ziloadN X0 hx hby at_159 rfl (zcalls X0 hx hby at_160 hZ hown (w18 hw) (w19 hw) (w20 hw) (w21 hw) e0 (c117_apply l hw [] ⟨S_w_PAUSE, S_w_RESUME, S_w_STEP, E_w_PAUSE, E_w_RESUME, E_w_STEP, F_w_PAUSE_ordinal, F_w_RESUME_ordinal, F_w_STEP_ordinal, S_w_arr0, A_w_arr0, A_w_arr0_0, A_w_arr0_2, A_w_arr0_1⟩ O0 (Nat.le_trans Z0 K0.1) b1 g_b1 E_b1 F_b1_left) (by decide) (by rw [hml]; rfl) 0 (Nat.le_of_eq rfl) (by decide) (by decide) (by decide) (by decide) pd_5 rfl (argsL := [(.ref b1), (.int 3)]) (st := []) rfl (zpureK ⟨rfl, rfl⟩ fun T10 X10 e10 => ?_)))
    show zEnds p e below s T10 (mkF m 163 #[iv u0, iv u1, iv u2, iv 3, iv u4, rv b1, .val (.long 0), .second, iv 1] []) _ _ _
    refine zlload X10 hx hby at_163 rfl (ziloadN X10 hx hby at_165 rfl (zcalls X10 hx hby at_166 hZ hown (w46 hw) (w47 hw) (w20 hw) (w48 hw) e10 (c121_next l hw [] ⟨S_w_PAUSE, S_w_RESUME, S_w_STEP, E_w_PAUSE, E_w_RESUME, E_w_STEP, F_w_PAUSE_ordinal, F_w_RESUME_ordinal, F_w_STEP_ordinal, S_w_arr0, A_w_arr0, A_w_arr0_0, A_w_arr0_2, A_w_arr0_1⟩ O0 (Nat.le_trans Z0 K0.1) ) (by decide) (by rw [hml]; rfl) 0 (Nat.le_of_eq rfl) (by decide) (by decide) (by decide) (by decide) pd_6 rfl (argsL := [(.long 0), (.int 3)]) (st := []) rfl (zpureK ⟨rfl, rfl⟩ fun T11 X11 e11 => ?_)))
    show zEnds p e below s T11 (mkF m 169 #[iv u0, iv u1, iv u2, iv 3, iv u4, rv b1, .val (.long 0), .second, iv 1] [(.long 0)]) _ _ _
    refine zlstore X11 hx hby at_169 (L' := #[iv u0, iv u1, iv u2, iv 3, iv u4, rv b1, .val (.long 0), .second, iv 1]) rfl (ziload X11 hx hby at_171 rfl (zifNo X11 hx hby at_173 (by decide) (zaload X11 hx hby at_176 rfl rfl (zcallv X11 hx hby at_178 hZ hown (w13 hw) (w14 hw) (notFace_of_selects (args := #[]) (mvT hZ (w16 hw))) (w16 hw) (w15 hw) (w17 hw) (w2 hw) e11 E_b1 (c49_isSpent l hw [] ⟨S_w_PAUSE, S_w_RESUME, S_w_STEP, E_w_PAUSE, E_w_RESUME, E_w_STEP, F_w_PAUSE_ordinal, F_w_RESUME_ordinal, F_w_STEP_ordinal, S_w_arr0, A_w_arr0, A_w_arr0_0, A_w_arr0_2, A_w_arr0_1⟩ O0 (Nat.le_trans Z0 K0.1) b1 g_b1 E_b1 F_b1_left) (by decide) (by rw [hml]; rfl) 0 (Nat.le_of_eq rfl) (by decide) (by decide) (by decide) (by decide) pd_1 rfl (argsL := []) (st := []) rfl (zpureK ⟨rfl, rfl⟩ fun T12 X12 e12 => ?_)))))
    show zEnds p e below s T12 (mkF m 181 #[iv u0, iv u1, iv u2, iv 3, iv u4, rv b1, .val (.long 0), .second, iv 1] [(.int 1)]) _ _ _
    refine zlload X12 hx hby at_181 rfl (zlconst X12 hx hby at_183 (z := (0 : Int64)) rfl (zlcmp X12 hx hby at_184 (0 : Int32) (by decide) (zifNo X12 hx hby at_185 (by decide) (ziconst X12 hx hby at_188 (z := (1 : Int32)) rfl (zgoto X12 hx hby at_189 193 (by decide) (by decide) (zicmpNo X12 hx hby at_193 (by decide) (ziconst X12 hx hby at_196 (z := (1 : Int32)) rfl (zgoto X12 hx hby at_197 201 (by decide) (by decide) (zistore X12 hx hby at_201 (L' := #[iv u0, iv u1, iv u2, iv 3, iv u4, rv b1, .val (.long 0), .second, iv 1]) rfl ?_)))))))))
    show zEnds p e below s T12 (mkF m 203 #[iv u0, iv u1, iv u2, iv 3, iv u4, rv b1, .val (.long 0), .second, iv 1] []) _ _ _
    exact stg_3_6 X12 hx hZ hw hby hml hown hret hlk ⟨S_w_PAUSE, S_w_RESUME, S_w_STEP, E_w_PAUSE, E_w_RESUME, E_w_STEP, F_w_PAUSE_ordinal, F_w_RESUME_ordinal, F_w_STEP_ordinal, S_w_arr0, A_w_arr0, A_w_arr0_0, A_w_arr0_2, A_w_arr0_1⟩ e12 O0 N0 g_b1 E_b1 F_b1_left k4
set_option maxRecDepth 65536 in
set_option maxHeartbeats 40000000 in
theorem stg_1_1 {p : Program} {l : Launch} {e : Env} {s : State} {m : MethodId} {args : Array Value} {below : List Frame} {meth : Method} {c : Code} {T0 : State} {locs : List Loc} {Z : State} {a0 : Array Value} {h0 : Heap} {n0 : Nat} {w_PAUSE w_RESUME w_STEP w_arr0 : Addr} {cl_arr0 : Cell} {b1 : Addr} 
    (X0 : Stand p l e room_1 s m args below meth c T0 locs 1 1) (hx : p.tables.exec = Jvm.exec) (hZ : Z.Warmed39 s.vm) (hw : ∀ d ∈ tables_1, d.before a0 Z = true) (hby : c.code = code) (hml : c.maxLocals = 9) (hown : s.vm.findClass "heapglass/core/wire/AllowanceIsSpentPinLaw" = some m.cls) (hret : meth.sig.returnType = (some .boolean)) (hlk : meth.locks = false) (C : Ctx Z w_PAUSE w_RESUME w_STEP w_arr0 cl_arr0) (e0 : T0.heap = h0) (O0 : Old Z n0 h0) (N0 : Fr n0 locs) (g_b1 : n0 ≤ b1) (E_b1 : Exa Z h0 b1 "heapglass/core/wire/Allowance") (F_b1_left : Fld Z h0 b1 "heapglass/core/wire/Allowance" "left" "J" (.long 1)) {u0 u1 u2 u3 u4 : Int32} (k2 : u2 = (0 : Int32) ∨ u2 = (1 : Int32) ∨ u2 = (2 : Int32) ∨ u2 = (3 : Int32)) (k3 : u3 = (0 : Int32) ∨ u3 = (1 : Int32) ∨ u3 = (2 : Int32) ∨ u3 = (3 : Int32)) (k4 : u4 = (0 : Int32) ∨ u4 = (1 : Int32) ∨ u4 = (2 : Int32) ∨ u4 = (3 : Int32)) :
    zEnds p e below s T0 (mkF m 111 #[iv u0, iv u1, iv u2, iv u3, iv u4, rv b1, .val (.long 1), .second, iv 1] []) room_1.cells room_1.slots (fun v h L => v = some (.int (1 : Int32)) ∧ Fr n0 L) := by
  obtain ⟨S_w_PAUSE, S_w_RESUME, S_w_STEP, E_w_PAUSE, E_w_RESUME, E_w_STEP, F_w_PAUSE_ordinal, F_w_RESUME_ordinal, F_w_STEP_ordinal, S_w_arr0, A_w_arr0, A_w_arr0_0, A_w_arr0_2, A_w_arr0_1⟩ := C
  have K0 := Keep.refl h0 [b1]
  have Z0 : n0 ≤ h0.size := by rw [← O0.1]; exact O0.2.1
  show zEnds p e below s T0 (mkF m 111 #[iv u0, iv u1, iv u2, iv u3, iv u4, rv b1, .val (.long 1), .second, iv 1] []) _ _ _
  rcases k2 with rfl | rfl | rfl | rfl
  · show zEnds p e below s T0 (mkF m 111 #[iv u0, iv u1, iv 0, iv u3, iv u4, rv b1, .val (.long 1), .second, iv 1] []) _ _ _
    refine zaload X0 hx hby at_111 rfl rfl (ziloadN X0 hx hby at_113 rfl (zcalls X0 hx hby at_114 hZ hown (w18 hw) (w19 hw) (w20 hw) (w21 hw) e0 (c17_apply l hw [] ⟨S_w_PAUSE, S_w_RESUME, S_w_STEP, E_w_PAUSE, E_w_RESUME, E_w_STEP, F_w_PAUSE_ordinal, F_w_RESUME_ordinal, F_w_STEP_ordinal, S_w_arr0, A_w_arr0, A_w_arr0_0, A_w_arr0_2, A_w_arr0_1⟩ O0 (Nat.le_trans Z0 K0.1) b1 g_b1 E_b1 F_b1_left) (by decide) (by rw [hml]; rfl) 0 (Nat.le_of_eq rfl) (by decide) (by decide) (by decide) (by decide) pd_5 rfl (argsL := [(.ref b1), (.int 0)]) (st := []) rfl fun T1 h1 v1 L1 e1 X1 q1 => ?_))
    obtain ⟨rfl, N1q, K1q, E1_b1, F1_b1_left⟩ := q1
    have O1 := O0.keep K1q (allS g_b1 all0)
    have K1 := Keep.trans K0 K1q (allS (Or.inl (List.mem_of_getElem? (i := 0) rfl)) all0)
    have N1 := Fr.app N0 N1q
    show zEnds p e below s T1 (mkF m 117 #[iv u0, iv u1, iv 0, iv u3, iv u4, rv b1, .val (.long 1), .second, iv 1] []) _ _ _
    refine zlload X1 hx hby at_117 rfl (ziloadN X1 hx hby at_119 rfl (zcalls X1 hx hby at_120 hZ hown (w46 hw) (w47 hw) (w20 hw) (w48 hw) e1 (c23_next l hw [] ⟨S_w_PAUSE, S_w_RESUME, S_w_STEP, E_w_PAUSE, E_w_RESUME, E_w_STEP, F_w_PAUSE_ordinal, F_w_RESUME_ordinal, F_w_STEP_ordinal, S_w_arr0, A_w_arr0, A_w_arr0_0, A_w_arr0_2, A_w_arr0_1⟩ O1 (Nat.le_trans Z0 K1.1) ) (by decide) (by rw [hml]; rfl) 0 (Nat.le_of_eq rfl) (by decide) (by decide) (by decide) (by decide) pd_6 rfl (argsL := [(.long 1), (.int 0)]) (st := []) rfl (zpureK ⟨rfl, rfl⟩ fun T2 X2 e2 => ?_)))
    show zEnds p e below s T2 (mkF m 123 #[iv u0, iv u1, iv 0, iv u3, iv u4, rv b1, .val (.long 1), .second, iv 1] [(.long 1)]) _ _ _
    refine zlstore X2 hx hby at_123 (L' := #[iv u0, iv u1, iv 0, iv u3, iv u4, rv b1, .val (.long 1), .second, iv 1]) rfl (ziload X2 hx hby at_125 rfl (zifNo X2 hx hby at_127 (by decide) (zaload X2 hx hby at_130 rfl rfl (zcallv X2 hx hby at_132 hZ hown (w13 hw) (w14 hw) (notFace_of_selects (args := #[]) (mvT hZ (w16 hw))) (w16 hw) (w15 hw) (w17 hw) (w2 hw) e2 E1_b1 (c15_isSpent l hw [] ⟨S_w_PAUSE, S_w_RESUME, S_w_STEP, E_w_PAUSE, E_w_RESUME, E_w_STEP, F_w_PAUSE_ordinal, F_w_RESUME_ordinal, F_w_STEP_ordinal, S_w_arr0, A_w_arr0, A_w_arr0_0, A_w_arr0_2, A_w_arr0_1⟩ O1 (Nat.le_trans Z0 K1.1) b1 g_b1 E1_b1 F1_b1_left) (by decide) (by rw [hml]; rfl) 0 (Nat.le_of_eq rfl) (by decide) (by decide) (by decide) (by decide) pd_1 rfl (argsL := []) (st := []) rfl (zpureK ⟨rfl, rfl⟩ fun T3 X3 e3 => ?_)))))
    show zEnds p e below s T3 (mkF m 135 #[iv u0, iv u1, iv 0, iv u3, iv u4, rv b1, .val (.long 1), .second, iv 1] [(.int 0)]) _ _ _
    refine zlload X3 hx hby at_135 rfl (zlconst X3 hx hby at_137 (z := (0 : Int64)) rfl (zlcmp X3 hx hby at_138 (1 : Int32) (by decide) (zifYes X3 hx hby at_139 146 (by decide) (by decide) (by decide) (ziconst X3 hx hby at_146 (z := (0 : Int32)) rfl (zicmpNo X3 hx hby at_147 (by decide) (ziconst X3 hx hby at_150 (z := (1 : Int32)) rfl (zgoto X3 hx hby at_151 155 (by decide) (by decide) (zistore X3 hx hby at_155 (L' := #[iv u0, iv u1, iv 0, iv u3, iv u4, rv b1, .val (.long 1), .second, iv 1]) rfl ?_))))))))
    show zEnds p e below s T3 (mkF m 157 #[iv u0, iv u1, iv 0, iv u3, iv u4, rv b1, .val (.long 1), .second, iv 1] []) _ _ _
    exact stg_2_2 X3 hx hZ hw hby hml hown hret hlk ⟨S_w_PAUSE, S_w_RESUME, S_w_STEP, E_w_PAUSE, E_w_RESUME, E_w_STEP, F_w_PAUSE_ordinal, F_w_RESUME_ordinal, F_w_STEP_ordinal, S_w_arr0, A_w_arr0, A_w_arr0_0, A_w_arr0_2, A_w_arr0_1⟩ e3 O1 N1 g_b1 E1_b1 F1_b1_left k3 k4
  · show zEnds p e below s T0 (mkF m 111 #[iv u0, iv u1, iv 1, iv u3, iv u4, rv b1, .val (.long 1), .second, iv 1] []) _ _ _
    refine zaload X0 hx hby at_111 rfl rfl (ziloadN X0 hx hby at_113 rfl (zcalls X0 hx hby at_114 hZ hown (w18 hw) (w19 hw) (w20 hw) (w21 hw) e0 (c25_apply l hw [] ⟨S_w_PAUSE, S_w_RESUME, S_w_STEP, E_w_PAUSE, E_w_RESUME, E_w_STEP, F_w_PAUSE_ordinal, F_w_RESUME_ordinal, F_w_STEP_ordinal, S_w_arr0, A_w_arr0, A_w_arr0_0, A_w_arr0_2, A_w_arr0_1⟩ O0 (Nat.le_trans Z0 K0.1) b1 g_b1 E_b1 F_b1_left) (by decide) (by rw [hml]; rfl) 0 (Nat.le_of_eq rfl) (by decide) (by decide) (by decide) (by decide) pd_5 rfl (argsL := [(.ref b1), (.int 1)]) (st := []) rfl fun T4 h4 v4 L4 e4 X4 q4 => ?_))
    obtain ⟨rfl, N4q, K4q, E4_b1, F4_b1_left⟩ := q4
    have O4 := O0.keep K4q (allS g_b1 all0)
    have K4 := Keep.trans K0 K4q (allS (Or.inl (List.mem_of_getElem? (i := 0) rfl)) all0)
    have N4 := Fr.app N0 N4q
    show zEnds p e below s T4 (mkF m 117 #[iv u0, iv u1, iv 1, iv u3, iv u4, rv b1, .val (.long 1), .second, iv 1] []) _ _ _
    refine zlload X4 hx hby at_117 rfl (ziloadN X4 hx hby at_119 rfl (zcalls X4 hx hby at_120 hZ hown (w46 hw) (w47 hw) (w20 hw) (w48 hw) e4 (c31_next l hw [] ⟨S_w_PAUSE, S_w_RESUME, S_w_STEP, E_w_PAUSE, E_w_RESUME, E_w_STEP, F_w_PAUSE_ordinal, F_w_RESUME_ordinal, F_w_STEP_ordinal, S_w_arr0, A_w_arr0, A_w_arr0_0, A_w_arr0_2, A_w_arr0_1⟩ O4 (Nat.le_trans Z0 K4.1) ) (by decide) (by rw [hml]; rfl) 0 (Nat.le_of_eq rfl) (by decide) (by decide) (by decide) (by decide) pd_6 rfl (argsL := [(.long 1), (.int 1)]) (st := []) rfl (zpureK ⟨rfl, rfl⟩ fun T5 X5 e5 => ?_)))
    show zEnds p e below s T5 (mkF m 123 #[iv u0, iv u1, iv 1, iv u3, iv u4, rv b1, .val (.long 1), .second, iv 1] [(.long 2)]) _ _ _
    refine zlstore X5 hx hby at_123 (L' := #[iv u0, iv u1, iv 1, iv u3, iv u4, rv b1, .val (.long 2), .second, iv 1]) rfl (ziload X5 hx hby at_125 rfl (zifNo X5 hx hby at_127 (by decide) (zaload X5 hx hby at_130 rfl rfl (zcallv X5 hx hby at_132 hZ hown (w13 hw) (w14 hw) (notFace_of_selects (args := #[]) (mvT hZ (w16 hw))) (w16 hw) (w15 hw) (w17 hw) (w2 hw) e5 E4_b1 (c33_isSpent l hw [] ⟨S_w_PAUSE, S_w_RESUME, S_w_STEP, E_w_PAUSE, E_w_RESUME, E_w_STEP, F_w_PAUSE_ordinal, F_w_RESUME_ordinal, F_w_STEP_ordinal, S_w_arr0, A_w_arr0, A_w_arr0_0, A_w_arr0_2, A_w_arr0_1⟩ O4 (Nat.le_trans Z0 K4.1) b1 g_b1 E4_b1 F4_b1_left) (by decide) (by rw [hml]; rfl) 0 (Nat.le_of_eq rfl) (by decide) (by decide) (by decide) (by decide) pd_1 rfl (argsL := []) (st := []) rfl (zpureK ⟨rfl, rfl⟩ fun T6 X6 e6 => ?_)))))
    show zEnds p e below s T6 (mkF m 135 #[iv u0, iv u1, iv 1, iv u3, iv u4, rv b1, .val (.long 2), .second, iv 1] [(.int 0)]) _ _ _
    refine zlload X6 hx hby at_135 rfl (zlconst X6 hx hby at_137 (z := (0 : Int64)) rfl (zlcmp X6 hx hby at_138 (1 : Int32) (by decide) (zifYes X6 hx hby at_139 146 (by decide) (by decide) (by decide) (ziconst X6 hx hby at_146 (z := (0 : Int32)) rfl (zicmpNo X6 hx hby at_147 (by decide) (ziconst X6 hx hby at_150 (z := (1 : Int32)) rfl (zgoto X6 hx hby at_151 155 (by decide) (by decide) (zistore X6 hx hby at_155 (L' := #[iv u0, iv u1, iv 1, iv u3, iv u4, rv b1, .val (.long 2), .second, iv 1]) rfl ?_))))))))
    show zEnds p e below s T6 (mkF m 157 #[iv u0, iv u1, iv 1, iv u3, iv u4, rv b1, .val (.long 2), .second, iv 1] []) _ _ _
    exact stg_2_7 X6 hx hZ hw hby hml hown hret hlk ⟨S_w_PAUSE, S_w_RESUME, S_w_STEP, E_w_PAUSE, E_w_RESUME, E_w_STEP, F_w_PAUSE_ordinal, F_w_RESUME_ordinal, F_w_STEP_ordinal, S_w_arr0, A_w_arr0, A_w_arr0_0, A_w_arr0_2, A_w_arr0_1⟩ e6 O4 N4 g_b1 E4_b1 F4_b1_left k3 k4
  · show zEnds p e below s T0 (mkF m 111 #[iv u0, iv u1, iv 2, iv u3, iv u4, rv b1, .val (.long 1), .second, iv 1] []) _ _ _
    refine zaload X0 hx hby at_111 rfl rfl (ziloadN X0 hx hby at_113 rfl (zcalls X0 hx hby at_114 hZ hown (w18 hw) (w19 hw) (w20 hw) (w21 hw) e0 (c35_apply l hw [] ⟨S_w_PAUSE, S_w_RESUME, S_w_STEP, E_w_PAUSE, E_w_RESUME, E_w_STEP, F_w_PAUSE_ordinal, F_w_RESUME_ordinal, F_w_STEP_ordinal, S_w_arr0, A_w_arr0, A_w_arr0_0, A_w_arr0_2, A_w_arr0_1⟩ O0 (Nat.le_trans Z0 K0.1) b1 g_b1 E_b1 F_b1_left) (by decide) (by rw [hml]; rfl) 0 (Nat.le_of_eq rfl) (by decide) (by decide) (by decide) (by decide) pd_5 rfl (argsL := [(.ref b1), (.int 2)]) (st := []) rfl fun T7 h7 v7 L7 e7 X7 q7 => ?_))
    obtain ⟨rfl, N7q, K7q, E7_b1, F7_b1_left⟩ := q7
    have O7 := O0.keep K7q (allS g_b1 all0)
    have K7 := Keep.trans K0 K7q (allS (Or.inl (List.mem_of_getElem? (i := 0) rfl)) all0)
    have N7 := Fr.app N0 N7q
    show zEnds p e below s T7 (mkF m 117 #[iv u0, iv u1, iv 2, iv u3, iv u4, rv b1, .val (.long 1), .second, iv 1] []) _ _ _
    refine zlload X7 hx hby at_117 rfl (ziloadN X7 hx hby at_119 rfl (zcalls X7 hx hby at_120 hZ hown (w46 hw) (w47 hw) (w20 hw) (w48 hw) e7 (c41_next l hw [] ⟨S_w_PAUSE, S_w_RESUME, S_w_STEP, E_w_PAUSE, E_w_RESUME, E_w_STEP, F_w_PAUSE_ordinal, F_w_RESUME_ordinal, F_w_STEP_ordinal, S_w_arr0, A_w_arr0, A_w_arr0_0, A_w_arr0_2, A_w_arr0_1⟩ O7 (Nat.le_trans Z0 K7.1) ) (by decide) (by rw [hml]; rfl) 0 (Nat.le_of_eq rfl) (by decide) (by decide) (by decide) (by decide) pd_6 rfl (argsL := [(.long 1), (.int 2)]) (st := []) rfl (zpureK ⟨rfl, rfl⟩ fun T8 X8 e8 => ?_)))
    show zEnds p e below s T8 (mkF m 123 #[iv u0, iv u1, iv 2, iv u3, iv u4, rv b1, .val (.long 1), .second, iv 1] [(.long (-1))]) _ _ _
    refine zlstore X8 hx hby at_123 (L' := #[iv u0, iv u1, iv 2, iv u3, iv u4, rv b1, .val (.long (-1)), .second, iv 1]) rfl (ziload X8 hx hby at_125 rfl (zifNo X8 hx hby at_127 (by decide) (zaload X8 hx hby at_130 rfl rfl (zcallv X8 hx hby at_132 hZ hown (w13 hw) (w14 hw) (notFace_of_selects (args := #[]) (mvT hZ (w16 hw))) (w16 hw) (w15 hw) (w17 hw) (w2 hw) e8 E7_b1 (c3_isSpent l hw [] ⟨S_w_PAUSE, S_w_RESUME, S_w_STEP, E_w_PAUSE, E_w_RESUME, E_w_STEP, F_w_PAUSE_ordinal, F_w_RESUME_ordinal, F_w_STEP_ordinal, S_w_arr0, A_w_arr0, A_w_arr0_0, A_w_arr0_2, A_w_arr0_1⟩ O7 (Nat.le_trans Z0 K7.1) b1 g_b1 E7_b1 F7_b1_left) (by decide) (by rw [hml]; rfl) 0 (Nat.le_of_eq rfl) (by decide) (by decide) (by decide) (by decide) pd_1 rfl (argsL := []) (st := []) rfl (zpureK ⟨rfl, rfl⟩ fun T9 X9 e9 => ?_)))))
    show zEnds p e below s T9 (mkF m 135 #[iv u0, iv u1, iv 2, iv u3, iv u4, rv b1, .val (.long (-1)), .second, iv 1] [(.int 0)]) _ _ _
    refine zlload X9 hx hby at_135 rfl (zlconst X9 hx hby at_137 (z := (0 : Int64)) rfl (zlcmp X9 hx hby at_138 (-1 : Int32) (by decide) (zifYes X9 hx hby at_139 146 (by decide) (by decide) (by decide) (ziconst X9 hx hby at_146 (z := (0 : Int32)) rfl (zicmpNo X9 hx hby at_147 (by decide) (ziconst X9 hx hby at_150 (z := (1 : Int32)) rfl (zgoto X9 hx hby at_151 155 (by decide) (by decide) (zistore X9 hx hby at_155 (L' := #[iv u0, iv u1, iv 2, iv u3, iv u4, rv b1, .val (.long (-1)), .second, iv 1]) rfl ?_))))))))
    show zEnds p e below s T9 (mkF m 157 #[iv u0, iv u1, iv 2, iv u3, iv u4, rv b1, .val (.long (-1)), .second, iv 1] []) _ _ _
    exact stg_2_9 X9 hx hZ hw hby hml hown hret hlk ⟨S_w_PAUSE, S_w_RESUME, S_w_STEP, E_w_PAUSE, E_w_RESUME, E_w_STEP, F_w_PAUSE_ordinal, F_w_RESUME_ordinal, F_w_STEP_ordinal, S_w_arr0, A_w_arr0, A_w_arr0_0, A_w_arr0_2, A_w_arr0_1⟩ e9 O7 N7 g_b1 E7_b1 F7_b1_left k3 k4
  · show zEnds p e below s T0 (mkF m 111 #[iv u0, iv u1, iv 3, iv u3, iv u4, rv b1, .val (.long 1), .second, iv 1] []) _ _ _
    refine zaload X0 hx hby at_111 rfl rfl (ziloadN X0 hx hby at_113 rfl (zcalls X0 hx hby at_114 hZ hown (w18 hw) (w19 hw) (w20 hw) (w21 hw) e0 (c43_apply l hw [] ⟨S_w_PAUSE, S_w_RESUME, S_w_STEP, E_w_PAUSE, E_w_RESUME, E_w_STEP, F_w_PAUSE_ordinal, F_w_RESUME_ordinal, F_w_STEP_ordinal, S_w_arr0, A_w_arr0, A_w_arr0_0, A_w_arr0_2, A_w_arr0_1⟩ O0 (Nat.le_trans Z0 K0.1) b1 g_b1 E_b1 F_b1_left) (by decide) (by rw [hml]; rfl) 0 (Nat.le_of_eq rfl) (by decide) (by decide) (by decide) (by decide) pd_5 rfl (argsL := [(.ref b1), (.int 3)]) (st := []) rfl fun T10 h10 v10 L10 e10 X10 q10 => ?_))
    obtain ⟨rfl, N10q, K10q, E10_b1, F10_b1_left⟩ := q10
    have O10 := O0.keep K10q (allS g_b1 all0)
    have K10 := Keep.trans K0 K10q (allS (Or.inl (List.mem_of_getElem? (i := 0) rfl)) all0)
    have N10 := Fr.app N0 N10q
    show zEnds p e below s T10 (mkF m 117 #[iv u0, iv u1, iv 3, iv u3, iv u4, rv b1, .val (.long 1), .second, iv 1] []) _ _ _
    refine zlload X10 hx hby at_117 rfl (ziloadN X10 hx hby at_119 rfl (zcalls X10 hx hby at_120 hZ hown (w46 hw) (w47 hw) (w20 hw) (w48 hw) e10 (c47_next l hw [] ⟨S_w_PAUSE, S_w_RESUME, S_w_STEP, E_w_PAUSE, E_w_RESUME, E_w_STEP, F_w_PAUSE_ordinal, F_w_RESUME_ordinal, F_w_STEP_ordinal, S_w_arr0, A_w_arr0, A_w_arr0_0, A_w_arr0_2, A_w_arr0_1⟩ O10 (Nat.le_trans Z0 K10.1) ) (by decide) (by rw [hml]; rfl) 0 (Nat.le_of_eq rfl) (by decide) (by decide) (by decide) (by decide) pd_6 rfl (argsL := [(.long 1), (.int 3)]) (st := []) rfl (zpureK ⟨rfl, rfl⟩ fun T11 X11 e11 => ?_)))
    show zEnds p e below s T11 (mkF m 123 #[iv u0, iv u1, iv 3, iv u3, iv u4, rv b1, .val (.long 1), .second, iv 1] [(.long 0)]) _ _ _
    refine zlstore X11 hx hby at_123 (L' := #[iv u0, iv u1, iv 3, iv u3, iv u4, rv b1, .val (.long 0), .second, iv 1]) rfl (ziload X11 hx hby at_125 rfl (zifNo X11 hx hby at_127 (by decide) (zaload X11 hx hby at_130 rfl rfl (zcallv X11 hx hby at_132 hZ hown (w13 hw) (w14 hw) (notFace_of_selects (args := #[]) (mvT hZ (w16 hw))) (w16 hw) (w15 hw) (w17 hw) (w2 hw) e11 E10_b1 (c49_isSpent l hw [] ⟨S_w_PAUSE, S_w_RESUME, S_w_STEP, E_w_PAUSE, E_w_RESUME, E_w_STEP, F_w_PAUSE_ordinal, F_w_RESUME_ordinal, F_w_STEP_ordinal, S_w_arr0, A_w_arr0, A_w_arr0_0, A_w_arr0_2, A_w_arr0_1⟩ O10 (Nat.le_trans Z0 K10.1) b1 g_b1 E10_b1 F10_b1_left) (by decide) (by rw [hml]; rfl) 0 (Nat.le_of_eq rfl) (by decide) (by decide) (by decide) (by decide) pd_1 rfl (argsL := []) (st := []) rfl (zpureK ⟨rfl, rfl⟩ fun T12 X12 e12 => ?_)))))
    show zEnds p e below s T12 (mkF m 135 #[iv u0, iv u1, iv 3, iv u3, iv u4, rv b1, .val (.long 0), .second, iv 1] [(.int 1)]) _ _ _
    refine zlload X12 hx hby at_135 rfl (zlconst X12 hx hby at_137 (z := (0 : Int64)) rfl (zlcmp X12 hx hby at_138 (0 : Int32) (by decide) (zifNo X12 hx hby at_139 (by decide) (ziconst X12 hx hby at_142 (z := (1 : Int32)) rfl (zgoto X12 hx hby at_143 147 (by decide) (by decide) (zicmpNo X12 hx hby at_147 (by decide) (ziconst X12 hx hby at_150 (z := (1 : Int32)) rfl (zgoto X12 hx hby at_151 155 (by decide) (by decide) (zistore X12 hx hby at_155 (L' := #[iv u0, iv u1, iv 3, iv u3, iv u4, rv b1, .val (.long 0), .second, iv 1]) rfl ?_)))))))))
    show zEnds p e below s T12 (mkF m 157 #[iv u0, iv u1, iv 3, iv u3, iv u4, rv b1, .val (.long 0), .second, iv 1] []) _ _ _
    exact stg_2_10 X12 hx hZ hw hby hml hown hret hlk ⟨S_w_PAUSE, S_w_RESUME, S_w_STEP, E_w_PAUSE, E_w_RESUME, E_w_STEP, F_w_PAUSE_ordinal, F_w_RESUME_ordinal, F_w_STEP_ordinal, S_w_arr0, A_w_arr0, A_w_arr0_0, A_w_arr0_2, A_w_arr0_1⟩ e12 O10 N10 g_b1 E10_b1 F10_b1_left k3 k4
set_option maxRecDepth 65536 in
set_option maxHeartbeats 40000000 in
theorem stg_1_11 {p : Program} {l : Launch} {e : Env} {s : State} {m : MethodId} {args : Array Value} {below : List Frame} {meth : Method} {c : Code} {T0 : State} {locs : List Loc} {Z : State} {a0 : Array Value} {h0 : Heap} {n0 : Nat} {w_PAUSE w_RESUME w_STEP w_arr0 : Addr} {cl_arr0 : Cell} {b1 : Addr} 
    (X0 : Stand p l e room_1 s m args below meth c T0 locs 1 1) (hx : p.tables.exec = Jvm.exec) (hZ : Z.Warmed39 s.vm) (hw : ∀ d ∈ tables_1, d.before a0 Z = true) (hby : c.code = code) (hml : c.maxLocals = 9) (hown : s.vm.findClass "heapglass/core/wire/AllowanceIsSpentPinLaw" = some m.cls) (hret : meth.sig.returnType = (some .boolean)) (hlk : meth.locks = false) (C : Ctx Z w_PAUSE w_RESUME w_STEP w_arr0 cl_arr0) (e0 : T0.heap = h0) (O0 : Old Z n0 h0) (N0 : Fr n0 locs) (g_b1 : n0 ≤ b1) (E_b1 : Exa Z h0 b1 "heapglass/core/wire/Allowance") (F_b1_left : Fld Z h0 b1 "heapglass/core/wire/Allowance" "left" "J" (.long 9223372036854775807)) {u0 u1 u2 u3 u4 : Int32} (k2 : u2 = (0 : Int32) ∨ u2 = (1 : Int32) ∨ u2 = (2 : Int32) ∨ u2 = (3 : Int32)) (k3 : u3 = (0 : Int32) ∨ u3 = (1 : Int32) ∨ u3 = (2 : Int32) ∨ u3 = (3 : Int32)) (k4 : u4 = (0 : Int32) ∨ u4 = (1 : Int32) ∨ u4 = (2 : Int32) ∨ u4 = (3 : Int32)) :
    zEnds p e below s T0 (mkF m 111 #[iv u0, iv u1, iv u2, iv u3, iv u4, rv b1, .val (.long (-1)), .second, iv 1] []) room_1.cells room_1.slots (fun v h L => v = some (.int (1 : Int32)) ∧ Fr n0 L) := by
  obtain ⟨S_w_PAUSE, S_w_RESUME, S_w_STEP, E_w_PAUSE, E_w_RESUME, E_w_STEP, F_w_PAUSE_ordinal, F_w_RESUME_ordinal, F_w_STEP_ordinal, S_w_arr0, A_w_arr0, A_w_arr0_0, A_w_arr0_2, A_w_arr0_1⟩ := C
  have K0 := Keep.refl h0 [b1]
  have Z0 : n0 ≤ h0.size := by rw [← O0.1]; exact O0.2.1
  show zEnds p e below s T0 (mkF m 111 #[iv u0, iv u1, iv u2, iv u3, iv u4, rv b1, .val (.long (-1)), .second, iv 1] []) _ _ _
  rcases k2 with rfl | rfl | rfl | rfl
  · show zEnds p e below s T0 (mkF m 111 #[iv u0, iv u1, iv 0, iv u3, iv u4, rv b1, .val (.long (-1)), .second, iv 1] []) _ _ _
    refine zaload X0 hx hby at_111 rfl rfl (ziloadN X0 hx hby at_113 rfl (zcalls X0 hx hby at_114 hZ hown (w18 hw) (w19 hw) (w20 hw) (w21 hw) e0 (c5_apply l hw [] ⟨S_w_PAUSE, S_w_RESUME, S_w_STEP, E_w_PAUSE, E_w_RESUME, E_w_STEP, F_w_PAUSE_ordinal, F_w_RESUME_ordinal, F_w_STEP_ordinal, S_w_arr0, A_w_arr0, A_w_arr0_0, A_w_arr0_2, A_w_arr0_1⟩ O0 (Nat.le_trans Z0 K0.1) b1 g_b1 E_b1 F_b1_left) (by decide) (by rw [hml]; rfl) 0 (Nat.le_of_eq rfl) (by decide) (by decide) (by decide) (by decide) pd_5 rfl (argsL := [(.ref b1), (.int 0)]) (st := []) rfl fun T1 h1 v1 L1 e1 X1 q1 => ?_))
    obtain ⟨rfl, N1q, K1q, E1_b1, F1_b1_left⟩ := q1
    have O1 := O0.keep K1q (allS g_b1 all0)
    have K1 := Keep.trans K0 K1q (allS (Or.inl (List.mem_of_getElem? (i := 0) rfl)) all0)
    have N1 := Fr.app N0 N1q
    show zEnds p e below s T1 (mkF m 117 #[iv u0, iv u1, iv 0, iv u3, iv u4, rv b1, .val (.long (-1)), .second, iv 1] []) _ _ _
    refine zlload X1 hx hby at_117 rfl (ziloadN X1 hx hby at_119 rfl (zcalls X1 hx hby at_120 hZ hown (w46 hw) (w47 hw) (w20 hw) (w48 hw) e1 (c13_next l hw [] ⟨S_w_PAUSE, S_w_RESUME, S_w_STEP, E_w_PAUSE, E_w_RESUME, E_w_STEP, F_w_PAUSE_ordinal, F_w_RESUME_ordinal, F_w_STEP_ordinal, S_w_arr0, A_w_arr0, A_w_arr0_0, A_w_arr0_2, A_w_arr0_1⟩ O1 (Nat.le_trans Z0 K1.1) ) (by decide) (by rw [hml]; rfl) 0 (Nat.le_of_eq rfl) (by decide) (by decide) (by decide) (by decide) pd_6 rfl (argsL := [(.long (-1)), (.int 0)]) (st := []) rfl (zpureK ⟨rfl, rfl⟩ fun T2 X2 e2 => ?_)))
    show zEnds p e below s T2 (mkF m 123 #[iv u0, iv u1, iv 0, iv u3, iv u4, rv b1, .val (.long (-1)), .second, iv 1] [(.long 1)]) _ _ _
    refine zlstore X2 hx hby at_123 (L' := #[iv u0, iv u1, iv 0, iv u3, iv u4, rv b1, .val (.long 1), .second, iv 1]) rfl (ziload X2 hx hby at_125 rfl (zifNo X2 hx hby at_127 (by decide) (zaload X2 hx hby at_130 rfl rfl (zcallv X2 hx hby at_132 hZ hown (w13 hw) (w14 hw) (notFace_of_selects (args := #[]) (mvT hZ (w16 hw))) (w16 hw) (w15 hw) (w17 hw) (w2 hw) e2 E1_b1 (c15_isSpent l hw [] ⟨S_w_PAUSE, S_w_RESUME, S_w_STEP, E_w_PAUSE, E_w_RESUME, E_w_STEP, F_w_PAUSE_ordinal, F_w_RESUME_ordinal, F_w_STEP_ordinal, S_w_arr0, A_w_arr0, A_w_arr0_0, A_w_arr0_2, A_w_arr0_1⟩ O1 (Nat.le_trans Z0 K1.1) b1 g_b1 E1_b1 F1_b1_left) (by decide) (by rw [hml]; rfl) 0 (Nat.le_of_eq rfl) (by decide) (by decide) (by decide) (by decide) pd_1 rfl (argsL := []) (st := []) rfl (zpureK ⟨rfl, rfl⟩ fun T3 X3 e3 => ?_)))))
    show zEnds p e below s T3 (mkF m 135 #[iv u0, iv u1, iv 0, iv u3, iv u4, rv b1, .val (.long 1), .second, iv 1] [(.int 0)]) _ _ _
    refine zlload X3 hx hby at_135 rfl (zlconst X3 hx hby at_137 (z := (0 : Int64)) rfl (zlcmp X3 hx hby at_138 (1 : Int32) (by decide) (zifYes X3 hx hby at_139 146 (by decide) (by decide) (by decide) (ziconst X3 hx hby at_146 (z := (0 : Int32)) rfl (zicmpNo X3 hx hby at_147 (by decide) (ziconst X3 hx hby at_150 (z := (1 : Int32)) rfl (zgoto X3 hx hby at_151 155 (by decide) (by decide) (zistore X3 hx hby at_155 (L' := #[iv u0, iv u1, iv 0, iv u3, iv u4, rv b1, .val (.long 1), .second, iv 1]) rfl ?_))))))))
    show zEnds p e below s T3 (mkF m 157 #[iv u0, iv u1, iv 0, iv u3, iv u4, rv b1, .val (.long 1), .second, iv 1] []) _ _ _
    exact stg_2_2 X3 hx hZ hw hby hml hown hret hlk ⟨S_w_PAUSE, S_w_RESUME, S_w_STEP, E_w_PAUSE, E_w_RESUME, E_w_STEP, F_w_PAUSE_ordinal, F_w_RESUME_ordinal, F_w_STEP_ordinal, S_w_arr0, A_w_arr0, A_w_arr0_0, A_w_arr0_2, A_w_arr0_1⟩ e3 O1 N1 g_b1 E1_b1 F1_b1_left k3 k4
  · show zEnds p e below s T0 (mkF m 111 #[iv u0, iv u1, iv 1, iv u3, iv u4, rv b1, .val (.long (-1)), .second, iv 1] []) _ _ _
    refine zaload X0 hx hby at_111 rfl rfl (ziloadN X0 hx hby at_113 rfl (zcalls X0 hx hby at_114 hZ hown (w18 hw) (w19 hw) (w20 hw) (w21 hw) e0 (c79_apply l hw [] ⟨S_w_PAUSE, S_w_RESUME, S_w_STEP, E_w_PAUSE, E_w_RESUME, E_w_STEP, F_w_PAUSE_ordinal, F_w_RESUME_ordinal, F_w_STEP_ordinal, S_w_arr0, A_w_arr0, A_w_arr0_0, A_w_arr0_2, A_w_arr0_1⟩ O0 (Nat.le_trans Z0 K0.1) b1 g_b1 E_b1 F_b1_left) (by decide) (by rw [hml]; rfl) 0 (Nat.le_of_eq rfl) (by decide) (by decide) (by decide) (by decide) pd_5 rfl (argsL := [(.ref b1), (.int 1)]) (st := []) rfl fun T4 h4 v4 L4 e4 X4 q4 => ?_))
    obtain ⟨rfl, N4q, K4q, E4_b1, F4_b1_left⟩ := q4
    have O4 := O0.keep K4q (allS g_b1 all0)
    have K4 := Keep.trans K0 K4q (allS (Or.inl (List.mem_of_getElem? (i := 0) rfl)) all0)
    have N4 := Fr.app N0 N4q
    show zEnds p e below s T4 (mkF m 117 #[iv u0, iv u1, iv 1, iv u3, iv u4, rv b1, .val (.long (-1)), .second, iv 1] []) _ _ _
    refine zlload X4 hx hby at_117 rfl (ziloadN X4 hx hby at_119 rfl (zcalls X4 hx hby at_120 hZ hown (w46 hw) (w47 hw) (w20 hw) (w48 hw) e4 (c83_next l hw [] ⟨S_w_PAUSE, S_w_RESUME, S_w_STEP, E_w_PAUSE, E_w_RESUME, E_w_STEP, F_w_PAUSE_ordinal, F_w_RESUME_ordinal, F_w_STEP_ordinal, S_w_arr0, A_w_arr0, A_w_arr0_0, A_w_arr0_2, A_w_arr0_1⟩ O4 (Nat.le_trans Z0 K4.1) ) (by decide) (by rw [hml]; rfl) 0 (Nat.le_of_eq rfl) (by decide) (by decide) (by decide) (by decide) pd_6 rfl (argsL := [(.long (-1)), (.int 1)]) (st := []) rfl (zpureK ⟨rfl, rfl⟩ fun T5 X5 e5 => ?_)))
    show zEnds p e below s T5 (mkF m 123 #[iv u0, iv u1, iv 1, iv u3, iv u4, rv b1, .val (.long (-1)), .second, iv 1] [(.long 1)]) _ _ _
    refine zlstore X5 hx hby at_123 (L' := #[iv u0, iv u1, iv 1, iv u3, iv u4, rv b1, .val (.long 1), .second, iv 1]) rfl (ziload X5 hx hby at_125 rfl (zifNo X5 hx hby at_127 (by decide) (zaload X5 hx hby at_130 rfl rfl (zcallv X5 hx hby at_132 hZ hown (w13 hw) (w14 hw) (notFace_of_selects (args := #[]) (mvT hZ (w16 hw))) (w16 hw) (w15 hw) (w17 hw) (w2 hw) e5 E4_b1 (c15_isSpent l hw [] ⟨S_w_PAUSE, S_w_RESUME, S_w_STEP, E_w_PAUSE, E_w_RESUME, E_w_STEP, F_w_PAUSE_ordinal, F_w_RESUME_ordinal, F_w_STEP_ordinal, S_w_arr0, A_w_arr0, A_w_arr0_0, A_w_arr0_2, A_w_arr0_1⟩ O4 (Nat.le_trans Z0 K4.1) b1 g_b1 E4_b1 F4_b1_left) (by decide) (by rw [hml]; rfl) 0 (Nat.le_of_eq rfl) (by decide) (by decide) (by decide) (by decide) pd_1 rfl (argsL := []) (st := []) rfl (zpureK ⟨rfl, rfl⟩ fun T6 X6 e6 => ?_)))))
    show zEnds p e below s T6 (mkF m 135 #[iv u0, iv u1, iv 1, iv u3, iv u4, rv b1, .val (.long 1), .second, iv 1] [(.int 0)]) _ _ _
    refine zlload X6 hx hby at_135 rfl (zlconst X6 hx hby at_137 (z := (0 : Int64)) rfl (zlcmp X6 hx hby at_138 (1 : Int32) (by decide) (zifYes X6 hx hby at_139 146 (by decide) (by decide) (by decide) (ziconst X6 hx hby at_146 (z := (0 : Int32)) rfl (zicmpNo X6 hx hby at_147 (by decide) (ziconst X6 hx hby at_150 (z := (1 : Int32)) rfl (zgoto X6 hx hby at_151 155 (by decide) (by decide) (zistore X6 hx hby at_155 (L' := #[iv u0, iv u1, iv 1, iv u3, iv u4, rv b1, .val (.long 1), .second, iv 1]) rfl ?_))))))))
    show zEnds p e below s T6 (mkF m 157 #[iv u0, iv u1, iv 1, iv u3, iv u4, rv b1, .val (.long 1), .second, iv 1] []) _ _ _
    exact stg_2_2 X6 hx hZ hw hby hml hown hret hlk ⟨S_w_PAUSE, S_w_RESUME, S_w_STEP, E_w_PAUSE, E_w_RESUME, E_w_STEP, F_w_PAUSE_ordinal, F_w_RESUME_ordinal, F_w_STEP_ordinal, S_w_arr0, A_w_arr0, A_w_arr0_0, A_w_arr0_2, A_w_arr0_1⟩ e6 O4 N4 g_b1 E4_b1 F4_b1_left k3 k4
  · show zEnds p e below s T0 (mkF m 111 #[iv u0, iv u1, iv 2, iv u3, iv u4, rv b1, .val (.long (-1)), .second, iv 1] []) _ _ _
    refine zaload X0 hx hby at_111 rfl rfl (ziloadN X0 hx hby at_113 rfl (zcalls X0 hx hby at_114 hZ hown (w18 hw) (w19 hw) (w20 hw) (w21 hw) e0 (c85_apply l hw [] ⟨S_w_PAUSE, S_w_RESUME, S_w_STEP, E_w_PAUSE, E_w_RESUME, E_w_STEP, F_w_PAUSE_ordinal, F_w_RESUME_ordinal, F_w_STEP_ordinal, S_w_arr0, A_w_arr0, A_w_arr0_0, A_w_arr0_2, A_w_arr0_1⟩ O0 (Nat.le_trans Z0 K0.1) b1 g_b1 E_b1 F_b1_left) (by decide) (by rw [hml]; rfl) 0 (Nat.le_of_eq rfl) (by decide) (by decide) (by decide) (by decide) pd_5 rfl (argsL := [(.ref b1), (.int 2)]) (st := []) rfl fun T7 h7 v7 L7 e7 X7 q7 => ?_))
    obtain ⟨rfl, N7q, K7q, E7_b1, F7_b1_left⟩ := q7
    have O7 := O0.keep K7q (allS g_b1 all0)
    have K7 := Keep.trans K0 K7q (allS (Or.inl (List.mem_of_getElem? (i := 0) rfl)) all0)
    have N7 := Fr.app N0 N7q
    show zEnds p e below s T7 (mkF m 117 #[iv u0, iv u1, iv 2, iv u3, iv u4, rv b1, .val (.long (-1)), .second, iv 1] []) _ _ _
    refine zlload X7 hx hby at_117 rfl (ziloadN X7 hx hby at_119 rfl (zcalls X7 hx hby at_120 hZ hown (w46 hw) (w47 hw) (w20 hw) (w48 hw) e7 (c89_next l hw [] ⟨S_w_PAUSE, S_w_RESUME, S_w_STEP, E_w_PAUSE, E_w_RESUME, E_w_STEP, F_w_PAUSE_ordinal, F_w_RESUME_ordinal, F_w_STEP_ordinal, S_w_arr0, A_w_arr0, A_w_arr0_0, A_w_arr0_2, A_w_arr0_1⟩ O7 (Nat.le_trans Z0 K7.1) ) (by decide) (by rw [hml]; rfl) 0 (Nat.le_of_eq rfl) (by decide) (by decide) (by decide) (by decide) pd_6 rfl (argsL := [(.long (-1)), (.int 2)]) (st := []) rfl (zpureK ⟨rfl, rfl⟩ fun T8 X8 e8 => ?_)))
    show zEnds p e below s T8 (mkF m 123 #[iv u0, iv u1, iv 2, iv u3, iv u4, rv b1, .val (.long (-1)), .second, iv 1] [(.long (-1))]) _ _ _
    refine zlstore X8 hx hby at_123 (L' := #[iv u0, iv u1, iv 2, iv u3, iv u4, rv b1, .val (.long (-1)), .second, iv 1]) rfl (ziload X8 hx hby at_125 rfl (zifNo X8 hx hby at_127 (by decide) (zaload X8 hx hby at_130 rfl rfl (zcallv X8 hx hby at_132 hZ hown (w13 hw) (w14 hw) (notFace_of_selects (args := #[]) (mvT hZ (w16 hw))) (w16 hw) (w15 hw) (w17 hw) (w2 hw) e8 E7_b1 (c3_isSpent l hw [] ⟨S_w_PAUSE, S_w_RESUME, S_w_STEP, E_w_PAUSE, E_w_RESUME, E_w_STEP, F_w_PAUSE_ordinal, F_w_RESUME_ordinal, F_w_STEP_ordinal, S_w_arr0, A_w_arr0, A_w_arr0_0, A_w_arr0_2, A_w_arr0_1⟩ O7 (Nat.le_trans Z0 K7.1) b1 g_b1 E7_b1 F7_b1_left) (by decide) (by rw [hml]; rfl) 0 (Nat.le_of_eq rfl) (by decide) (by decide) (by decide) (by decide) pd_1 rfl (argsL := []) (st := []) rfl (zpureK ⟨rfl, rfl⟩ fun T9 X9 e9 => ?_)))))
    show zEnds p e below s T9 (mkF m 135 #[iv u0, iv u1, iv 2, iv u3, iv u4, rv b1, .val (.long (-1)), .second, iv 1] [(.int 0)]) _ _ _
    refine zlload X9 hx hby at_135 rfl (zlconst X9 hx hby at_137 (z := (0 : Int64)) rfl (zlcmp X9 hx hby at_138 (-1 : Int32) (by decide) (zifYes X9 hx hby at_139 146 (by decide) (by decide) (by decide) (ziconst X9 hx hby at_146 (z := (0 : Int32)) rfl (zicmpNo X9 hx hby at_147 (by decide) (ziconst X9 hx hby at_150 (z := (1 : Int32)) rfl (zgoto X9 hx hby at_151 155 (by decide) (by decide) (zistore X9 hx hby at_155 (L' := #[iv u0, iv u1, iv 2, iv u3, iv u4, rv b1, .val (.long (-1)), .second, iv 1]) rfl ?_))))))))
    show zEnds p e below s T9 (mkF m 157 #[iv u0, iv u1, iv 2, iv u3, iv u4, rv b1, .val (.long (-1)), .second, iv 1] []) _ _ _
    exact stg_2_9 X9 hx hZ hw hby hml hown hret hlk ⟨S_w_PAUSE, S_w_RESUME, S_w_STEP, E_w_PAUSE, E_w_RESUME, E_w_STEP, F_w_PAUSE_ordinal, F_w_RESUME_ordinal, F_w_STEP_ordinal, S_w_arr0, A_w_arr0, A_w_arr0_0, A_w_arr0_2, A_w_arr0_1⟩ e9 O7 N7 g_b1 E7_b1 F7_b1_left k3 k4
  · show zEnds p e below s T0 (mkF m 111 #[iv u0, iv u1, iv 3, iv u3, iv u4, rv b1, .val (.long (-1)), .second, iv 1] []) _ _ _
    refine zaload X0 hx hby at_111 rfl rfl (ziloadN X0 hx hby at_113 rfl (zcalls X0 hx hby at_114 hZ hown (w18 hw) (w19 hw) (w20 hw) (w21 hw) e0 (c91_apply l hw [] ⟨S_w_PAUSE, S_w_RESUME, S_w_STEP, E_w_PAUSE, E_w_RESUME, E_w_STEP, F_w_PAUSE_ordinal, F_w_RESUME_ordinal, F_w_STEP_ordinal, S_w_arr0, A_w_arr0, A_w_arr0_0, A_w_arr0_2, A_w_arr0_1⟩ O0 (Nat.le_trans Z0 K0.1) b1 g_b1 E_b1 F_b1_left) (by decide) (by rw [hml]; rfl) 0 (Nat.le_of_eq rfl) (by decide) (by decide) (by decide) (by decide) pd_5 rfl (argsL := [(.ref b1), (.int 3)]) (st := []) rfl (zpureK ⟨rfl, rfl⟩ fun T10 X10 e10 => ?_)))
    show zEnds p e below s T10 (mkF m 117 #[iv u0, iv u1, iv 3, iv u3, iv u4, rv b1, .val (.long (-1)), .second, iv 1] []) _ _ _
    refine zlload X10 hx hby at_117 rfl (ziloadN X10 hx hby at_119 rfl (zcalls X10 hx hby at_120 hZ hown (w46 hw) (w47 hw) (w20 hw) (w48 hw) e10 (c95_next l hw [] ⟨S_w_PAUSE, S_w_RESUME, S_w_STEP, E_w_PAUSE, E_w_RESUME, E_w_STEP, F_w_PAUSE_ordinal, F_w_RESUME_ordinal, F_w_STEP_ordinal, S_w_arr0, A_w_arr0, A_w_arr0_0, A_w_arr0_2, A_w_arr0_1⟩ O0 (Nat.le_trans Z0 K0.1) ) (by decide) (by rw [hml]; rfl) 0 (Nat.le_of_eq rfl) (by decide) (by decide) (by decide) (by decide) pd_6 rfl (argsL := [(.long (-1)), (.int 3)]) (st := []) rfl (zpureK ⟨rfl, rfl⟩ fun T11 X11 e11 => ?_)))
    show zEnds p e below s T11 (mkF m 123 #[iv u0, iv u1, iv 3, iv u3, iv u4, rv b1, .val (.long (-1)), .second, iv 1] [(.long (-1))]) _ _ _
    refine zlstore X11 hx hby at_123 (L' := #[iv u0, iv u1, iv 3, iv u3, iv u4, rv b1, .val (.long (-1)), .second, iv 1]) rfl (ziload X11 hx hby at_125 rfl (zifNo X11 hx hby at_127 (by decide) (zaload X11 hx hby at_130 rfl rfl (zcallv X11 hx hby at_132 hZ hown (w13 hw) (w14 hw) (notFace_of_selects (args := #[]) (mvT hZ (w16 hw))) (w16 hw) (w15 hw) (w17 hw) (w2 hw) e11 E_b1 (c3_isSpent l hw [] ⟨S_w_PAUSE, S_w_RESUME, S_w_STEP, E_w_PAUSE, E_w_RESUME, E_w_STEP, F_w_PAUSE_ordinal, F_w_RESUME_ordinal, F_w_STEP_ordinal, S_w_arr0, A_w_arr0, A_w_arr0_0, A_w_arr0_2, A_w_arr0_1⟩ O0 (Nat.le_trans Z0 K0.1) b1 g_b1 E_b1 F_b1_left) (by decide) (by rw [hml]; rfl) 0 (Nat.le_of_eq rfl) (by decide) (by decide) (by decide) (by decide) pd_1 rfl (argsL := []) (st := []) rfl (zpureK ⟨rfl, rfl⟩ fun T12 X12 e12 => ?_)))))
    show zEnds p e below s T12 (mkF m 135 #[iv u0, iv u1, iv 3, iv u3, iv u4, rv b1, .val (.long (-1)), .second, iv 1] [(.int 0)]) _ _ _
    refine zlload X12 hx hby at_135 rfl (zlconst X12 hx hby at_137 (z := (0 : Int64)) rfl (zlcmp X12 hx hby at_138 (-1 : Int32) (by decide) (zifYes X12 hx hby at_139 146 (by decide) (by decide) (by decide) (ziconst X12 hx hby at_146 (z := (0 : Int32)) rfl (zicmpNo X12 hx hby at_147 (by decide) (ziconst X12 hx hby at_150 (z := (1 : Int32)) rfl (zgoto X12 hx hby at_151 155 (by decide) (by decide) (zistore X12 hx hby at_155 (L' := #[iv u0, iv u1, iv 3, iv u3, iv u4, rv b1, .val (.long (-1)), .second, iv 1]) rfl ?_))))))))
    show zEnds p e below s T12 (mkF m 157 #[iv u0, iv u1, iv 3, iv u3, iv u4, rv b1, .val (.long (-1)), .second, iv 1] []) _ _ _
    exact stg_2_9 X12 hx hZ hw hby hml hown hret hlk ⟨S_w_PAUSE, S_w_RESUME, S_w_STEP, E_w_PAUSE, E_w_RESUME, E_w_STEP, F_w_PAUSE_ordinal, F_w_RESUME_ordinal, F_w_STEP_ordinal, S_w_arr0, A_w_arr0, A_w_arr0_0, A_w_arr0_2, A_w_arr0_1⟩ e12 O0 N0 g_b1 E_b1 F_b1_left k3 k4
set_option maxRecDepth 65536 in
set_option maxHeartbeats 40000000 in
theorem stg_0_0 {p : Program} {l : Launch} {e : Env} {s : State} {m : MethodId} {args : Array Value} {below : List Frame} {meth : Method} {c : Code} {T0 : State} {locs : List Loc} {Z : State} {a0 : Array Value} {h0 : Heap} {n0 : Nat} {w_PAUSE w_RESUME w_STEP w_arr0 : Addr} {cl_arr0 : Cell} {b1 : Addr} 
    (X0 : Stand p l e room_1 s m args below meth c T0 locs 1 1) (hx : p.tables.exec = Jvm.exec) (hZ : Z.Warmed39 s.vm) (hw : ∀ d ∈ tables_1, d.before a0 Z = true) (hby : c.code = code) (hml : c.maxLocals = 9) (hown : s.vm.findClass "heapglass/core/wire/AllowanceIsSpentPinLaw" = some m.cls) (hret : meth.sig.returnType = (some .boolean)) (hlk : meth.locks = false) (C : Ctx Z w_PAUSE w_RESUME w_STEP w_arr0 cl_arr0) (e0 : T0.heap = h0) (O0 : Old Z n0 h0) (N0 : Fr n0 locs) (g_b1 : n0 ≤ b1) (E_b1 : Exa Z h0 b1 "heapglass/core/wire/Allowance") (F_b1_left : Fld Z h0 b1 "heapglass/core/wire/Allowance" "left" "J" (.long 9223372036854775807)) {u0 u1 u2 u3 u4 : Int32} (k1 : u1 = (0 : Int32) ∨ u1 = (1 : Int32) ∨ u1 = (2 : Int32) ∨ u1 = (3 : Int32)) (k2 : u2 = (0 : Int32) ∨ u2 = (1 : Int32) ∨ u2 = (2 : Int32) ∨ u2 = (3 : Int32)) (k3 : u3 = (0 : Int32) ∨ u3 = (1 : Int32) ∨ u3 = (2 : Int32) ∨ u3 = (3 : Int32)) (k4 : u4 = (0 : Int32) ∨ u4 = (1 : Int32) ∨ u4 = (2 : Int32) ∨ u4 = (3 : Int32)) :
    zEnds p e below s T0 (mkF m 65 #[iv u0, iv u1, iv u2, iv u3, iv u4, rv b1, .val (.long (-1)), .second, iv 1] []) room_1.cells room_1.slots (fun v h L => v = some (.int (1 : Int32)) ∧ Fr n0 L) := by
  obtain ⟨S_w_PAUSE, S_w_RESUME, S_w_STEP, E_w_PAUSE, E_w_RESUME, E_w_STEP, F_w_PAUSE_ordinal, F_w_RESUME_ordinal, F_w_STEP_ordinal, S_w_arr0, A_w_arr0, A_w_arr0_0, A_w_arr0_2, A_w_arr0_1⟩ := C
  have K0 := Keep.refl h0 [b1]
  have Z0 : n0 ≤ h0.size := by rw [← O0.1]; exact O0.2.1
  show zEnds p e below s T0 (mkF m 65 #[iv u0, iv u1, iv u2, iv u3, iv u4, rv b1, .val (.long (-1)), .second, iv 1] []) _ _ _
  rcases k1 with rfl | rfl | rfl | rfl
  · show zEnds p e below s T0 (mkF m 65 #[iv u0, iv 0, iv u2, iv u3, iv u4, rv b1, .val (.long (-1)), .second, iv 1] []) _ _ _
    refine zaload X0 hx hby at_65 rfl rfl (ziloadN X0 hx hby at_67 rfl (zcalls X0 hx hby at_68 hZ hown (w18 hw) (w19 hw) (w20 hw) (w21 hw) e0 (c5_apply l hw [] ⟨S_w_PAUSE, S_w_RESUME, S_w_STEP, E_w_PAUSE, E_w_RESUME, E_w_STEP, F_w_PAUSE_ordinal, F_w_RESUME_ordinal, F_w_STEP_ordinal, S_w_arr0, A_w_arr0, A_w_arr0_0, A_w_arr0_2, A_w_arr0_1⟩ O0 (Nat.le_trans Z0 K0.1) b1 g_b1 E_b1 F_b1_left) (by decide) (by rw [hml]; rfl) 0 (Nat.le_of_eq rfl) (by decide) (by decide) (by decide) (by decide) pd_5 rfl (argsL := [(.ref b1), (.int 0)]) (st := []) rfl fun T1 h1 v1 L1 e1 X1 q1 => ?_))
    obtain ⟨rfl, N1q, K1q, E1_b1, F1_b1_left⟩ := q1
    have O1 := O0.keep K1q (allS g_b1 all0)
    have K1 := Keep.trans K0 K1q (allS (Or.inl (List.mem_of_getElem? (i := 0) rfl)) all0)
    have N1 := Fr.app N0 N1q
    show zEnds p e below s T1 (mkF m 71 #[iv u0, iv 0, iv u2, iv u3, iv u4, rv b1, .val (.long (-1)), .second, iv 1] []) _ _ _
    refine zlload X1 hx hby at_71 rfl (ziloadN X1 hx hby at_73 rfl (zcalls X1 hx hby at_74 hZ hown (w46 hw) (w47 hw) (w20 hw) (w48 hw) e1 (c13_next l hw [] ⟨S_w_PAUSE, S_w_RESUME, S_w_STEP, E_w_PAUSE, E_w_RESUME, E_w_STEP, F_w_PAUSE_ordinal, F_w_RESUME_ordinal, F_w_STEP_ordinal, S_w_arr0, A_w_arr0, A_w_arr0_0, A_w_arr0_2, A_w_arr0_1⟩ O1 (Nat.le_trans Z0 K1.1) ) (by decide) (by rw [hml]; rfl) 0 (Nat.le_of_eq rfl) (by decide) (by decide) (by decide) (by decide) pd_6 rfl (argsL := [(.long (-1)), (.int 0)]) (st := []) rfl (zpureK ⟨rfl, rfl⟩ fun T2 X2 e2 => ?_)))
    show zEnds p e below s T2 (mkF m 77 #[iv u0, iv 0, iv u2, iv u3, iv u4, rv b1, .val (.long (-1)), .second, iv 1] [(.long 1)]) _ _ _
    refine zlstore X2 hx hby at_77 (L' := #[iv u0, iv 0, iv u2, iv u3, iv u4, rv b1, .val (.long 1), .second, iv 1]) rfl (ziload X2 hx hby at_79 rfl (zifNo X2 hx hby at_81 (by decide) (zaload X2 hx hby at_84 rfl rfl (zcallv X2 hx hby at_86 hZ hown (w13 hw) (w14 hw) (notFace_of_selects (args := #[]) (mvT hZ (w16 hw))) (w16 hw) (w15 hw) (w17 hw) (w2 hw) e2 E1_b1 (c15_isSpent l hw [] ⟨S_w_PAUSE, S_w_RESUME, S_w_STEP, E_w_PAUSE, E_w_RESUME, E_w_STEP, F_w_PAUSE_ordinal, F_w_RESUME_ordinal, F_w_STEP_ordinal, S_w_arr0, A_w_arr0, A_w_arr0_0, A_w_arr0_2, A_w_arr0_1⟩ O1 (Nat.le_trans Z0 K1.1) b1 g_b1 E1_b1 F1_b1_left) (by decide) (by rw [hml]; rfl) 0 (Nat.le_of_eq rfl) (by decide) (by decide) (by decide) (by decide) pd_1 rfl (argsL := []) (st := []) rfl (zpureK ⟨rfl, rfl⟩ fun T3 X3 e3 => ?_)))))
    show zEnds p e below s T3 (mkF m 89 #[iv u0, iv 0, iv u2, iv u3, iv u4, rv b1, .val (.long 1), .second, iv 1] [(.int 0)]) _ _ _
    refine zlload X3 hx hby at_89 rfl (zlconst X3 hx hby at_91 (z := (0 : Int64)) rfl (zlcmp X3 hx hby at_92 (1 : Int32) (by decide) (zifYes X3 hx hby at_93 100 (by decide) (by decide) (by decide) (ziconst X3 hx hby at_100 (z := (0 : Int32)) rfl (zicmpNo X3 hx hby at_101 (by decide) (ziconst X3 hx hby at_104 (z := (1 : Int32)) rfl (zgoto X3 hx hby at_105 109 (by decide) (by decide) (zistore X3 hx hby at_109 (L' := #[iv u0, iv 0, iv u2, iv u3, iv u4, rv b1, .val (.long 1), .second, iv 1]) rfl ?_))))))))
    show zEnds p e below s T3 (mkF m 111 #[iv u0, iv 0, iv u2, iv u3, iv u4, rv b1, .val (.long 1), .second, iv 1] []) _ _ _
    exact stg_1_1 X3 hx hZ hw hby hml hown hret hlk ⟨S_w_PAUSE, S_w_RESUME, S_w_STEP, E_w_PAUSE, E_w_RESUME, E_w_STEP, F_w_PAUSE_ordinal, F_w_RESUME_ordinal, F_w_STEP_ordinal, S_w_arr0, A_w_arr0, A_w_arr0_0, A_w_arr0_2, A_w_arr0_1⟩ e3 O1 N1 g_b1 E1_b1 F1_b1_left k2 k3 k4
  · show zEnds p e below s T0 (mkF m 65 #[iv u0, iv 1, iv u2, iv u3, iv u4, rv b1, .val (.long (-1)), .second, iv 1] []) _ _ _
    refine zaload X0 hx hby at_65 rfl rfl (ziloadN X0 hx hby at_67 rfl (zcalls X0 hx hby at_68 hZ hown (w18 hw) (w19 hw) (w20 hw) (w21 hw) e0 (c79_apply l hw [] ⟨S_w_PAUSE, S_w_RESUME, S_w_STEP, E_w_PAUSE, E_w_RESUME, E_w_STEP, F_w_PAUSE_ordinal, F_w_RESUME_ordinal, F_w_STEP_ordinal, S_w_arr0, A_w_arr0, A_w_arr0_0, A_w_arr0_2, A_w_arr0_1⟩ O0 (Nat.le_trans Z0 K0.1) b1 g_b1 E_b1 F_b1_left) (by decide) (by rw [hml]; rfl) 0 (Nat.le_of_eq rfl) (by decide) (by decide) (by decide) (by decide) pd_5 rfl (argsL := [(.ref b1), (.int 1)]) (st := []) rfl fun T4 h4 v4 L4 e4 X4 q4 => ?_))
    obtain ⟨rfl, N4q, K4q, E4_b1, F4_b1_left⟩ := q4
    have O4 := O0.keep K4q (allS g_b1 all0)
    have K4 := Keep.trans K0 K4q (allS (Or.inl (List.mem_of_getElem? (i := 0) rfl)) all0)
    have N4 := Fr.app N0 N4q
    show zEnds p e below s T4 (mkF m 71 #[iv u0, iv 1, iv u2, iv u3, iv u4, rv b1, .val (.long (-1)), .second, iv 1] []) _ _ _
    refine zlload X4 hx hby at_71 rfl (ziloadN X4 hx hby at_73 rfl (zcalls X4 hx hby at_74 hZ hown (w46 hw) (w47 hw) (w20 hw) (w48 hw) e4 (c83_next l hw [] ⟨S_w_PAUSE, S_w_RESUME, S_w_STEP, E_w_PAUSE, E_w_RESUME, E_w_STEP, F_w_PAUSE_ordinal, F_w_RESUME_ordinal, F_w_STEP_ordinal, S_w_arr0, A_w_arr0, A_w_arr0_0, A_w_arr0_2, A_w_arr0_1⟩ O4 (Nat.le_trans Z0 K4.1) ) (by decide) (by rw [hml]; rfl) 0 (Nat.le_of_eq rfl) (by decide) (by decide) (by decide) (by decide) pd_6 rfl (argsL := [(.long (-1)), (.int 1)]) (st := []) rfl (zpureK ⟨rfl, rfl⟩ fun T5 X5 e5 => ?_)))
    show zEnds p e below s T5 (mkF m 77 #[iv u0, iv 1, iv u2, iv u3, iv u4, rv b1, .val (.long (-1)), .second, iv 1] [(.long 1)]) _ _ _
    refine zlstore X5 hx hby at_77 (L' := #[iv u0, iv 1, iv u2, iv u3, iv u4, rv b1, .val (.long 1), .second, iv 1]) rfl (ziload X5 hx hby at_79 rfl (zifNo X5 hx hby at_81 (by decide) (zaload X5 hx hby at_84 rfl rfl (zcallv X5 hx hby at_86 hZ hown (w13 hw) (w14 hw) (notFace_of_selects (args := #[]) (mvT hZ (w16 hw))) (w16 hw) (w15 hw) (w17 hw) (w2 hw) e5 E4_b1 (c15_isSpent l hw [] ⟨S_w_PAUSE, S_w_RESUME, S_w_STEP, E_w_PAUSE, E_w_RESUME, E_w_STEP, F_w_PAUSE_ordinal, F_w_RESUME_ordinal, F_w_STEP_ordinal, S_w_arr0, A_w_arr0, A_w_arr0_0, A_w_arr0_2, A_w_arr0_1⟩ O4 (Nat.le_trans Z0 K4.1) b1 g_b1 E4_b1 F4_b1_left) (by decide) (by rw [hml]; rfl) 0 (Nat.le_of_eq rfl) (by decide) (by decide) (by decide) (by decide) pd_1 rfl (argsL := []) (st := []) rfl (zpureK ⟨rfl, rfl⟩ fun T6 X6 e6 => ?_)))))
    show zEnds p e below s T6 (mkF m 89 #[iv u0, iv 1, iv u2, iv u3, iv u4, rv b1, .val (.long 1), .second, iv 1] [(.int 0)]) _ _ _
    refine zlload X6 hx hby at_89 rfl (zlconst X6 hx hby at_91 (z := (0 : Int64)) rfl (zlcmp X6 hx hby at_92 (1 : Int32) (by decide) (zifYes X6 hx hby at_93 100 (by decide) (by decide) (by decide) (ziconst X6 hx hby at_100 (z := (0 : Int32)) rfl (zicmpNo X6 hx hby at_101 (by decide) (ziconst X6 hx hby at_104 (z := (1 : Int32)) rfl (zgoto X6 hx hby at_105 109 (by decide) (by decide) (zistore X6 hx hby at_109 (L' := #[iv u0, iv 1, iv u2, iv u3, iv u4, rv b1, .val (.long 1), .second, iv 1]) rfl ?_))))))))
    show zEnds p e below s T6 (mkF m 111 #[iv u0, iv 1, iv u2, iv u3, iv u4, rv b1, .val (.long 1), .second, iv 1] []) _ _ _
    exact stg_1_1 X6 hx hZ hw hby hml hown hret hlk ⟨S_w_PAUSE, S_w_RESUME, S_w_STEP, E_w_PAUSE, E_w_RESUME, E_w_STEP, F_w_PAUSE_ordinal, F_w_RESUME_ordinal, F_w_STEP_ordinal, S_w_arr0, A_w_arr0, A_w_arr0_0, A_w_arr0_2, A_w_arr0_1⟩ e6 O4 N4 g_b1 E4_b1 F4_b1_left k2 k3 k4
  · show zEnds p e below s T0 (mkF m 65 #[iv u0, iv 2, iv u2, iv u3, iv u4, rv b1, .val (.long (-1)), .second, iv 1] []) _ _ _
    refine zaload X0 hx hby at_65 rfl rfl (ziloadN X0 hx hby at_67 rfl (zcalls X0 hx hby at_68 hZ hown (w18 hw) (w19 hw) (w20 hw) (w21 hw) e0 (c85_apply l hw [] ⟨S_w_PAUSE, S_w_RESUME, S_w_STEP, E_w_PAUSE, E_w_RESUME, E_w_STEP, F_w_PAUSE_ordinal, F_w_RESUME_ordinal, F_w_STEP_ordinal, S_w_arr0, A_w_arr0, A_w_arr0_0, A_w_arr0_2, A_w_arr0_1⟩ O0 (Nat.le_trans Z0 K0.1) b1 g_b1 E_b1 F_b1_left) (by decide) (by rw [hml]; rfl) 0 (Nat.le_of_eq rfl) (by decide) (by decide) (by decide) (by decide) pd_5 rfl (argsL := [(.ref b1), (.int 2)]) (st := []) rfl fun T7 h7 v7 L7 e7 X7 q7 => ?_))
    obtain ⟨rfl, N7q, K7q, E7_b1, F7_b1_left⟩ := q7
    have O7 := O0.keep K7q (allS g_b1 all0)
    have K7 := Keep.trans K0 K7q (allS (Or.inl (List.mem_of_getElem? (i := 0) rfl)) all0)
    have N7 := Fr.app N0 N7q
    show zEnds p e below s T7 (mkF m 71 #[iv u0, iv 2, iv u2, iv u3, iv u4, rv b1, .val (.long (-1)), .second, iv 1] []) _ _ _
    refine zlload X7 hx hby at_71 rfl (ziloadN X7 hx hby at_73 rfl (zcalls X7 hx hby at_74 hZ hown (w46 hw) (w47 hw) (w20 hw) (w48 hw) e7 (c89_next l hw [] ⟨S_w_PAUSE, S_w_RESUME, S_w_STEP, E_w_PAUSE, E_w_RESUME, E_w_STEP, F_w_PAUSE_ordinal, F_w_RESUME_ordinal, F_w_STEP_ordinal, S_w_arr0, A_w_arr0, A_w_arr0_0, A_w_arr0_2, A_w_arr0_1⟩ O7 (Nat.le_trans Z0 K7.1) ) (by decide) (by rw [hml]; rfl) 0 (Nat.le_of_eq rfl) (by decide) (by decide) (by decide) (by decide) pd_6 rfl (argsL := [(.long (-1)), (.int 2)]) (st := []) rfl (zpureK ⟨rfl, rfl⟩ fun T8 X8 e8 => ?_)))
    show zEnds p e below s T8 (mkF m 77 #[iv u0, iv 2, iv u2, iv u3, iv u4, rv b1, .val (.long (-1)), .second, iv 1] [(.long (-1))]) _ _ _
    refine zlstore X8 hx hby at_77 (L' := #[iv u0, iv 2, iv u2, iv u3, iv u4, rv b1, .val (.long (-1)), .second, iv 1]) rfl (ziload X8 hx hby at_79 rfl (zifNo X8 hx hby at_81 (by decide) (zaload X8 hx hby at_84 rfl rfl (zcallv X8 hx hby at_86 hZ hown (w13 hw) (w14 hw) (notFace_of_selects (args := #[]) (mvT hZ (w16 hw))) (w16 hw) (w15 hw) (w17 hw) (w2 hw) e8 E7_b1 (c3_isSpent l hw [] ⟨S_w_PAUSE, S_w_RESUME, S_w_STEP, E_w_PAUSE, E_w_RESUME, E_w_STEP, F_w_PAUSE_ordinal, F_w_RESUME_ordinal, F_w_STEP_ordinal, S_w_arr0, A_w_arr0, A_w_arr0_0, A_w_arr0_2, A_w_arr0_1⟩ O7 (Nat.le_trans Z0 K7.1) b1 g_b1 E7_b1 F7_b1_left) (by decide) (by rw [hml]; rfl) 0 (Nat.le_of_eq rfl) (by decide) (by decide) (by decide) (by decide) pd_1 rfl (argsL := []) (st := []) rfl (zpureK ⟨rfl, rfl⟩ fun T9 X9 e9 => ?_)))))
    show zEnds p e below s T9 (mkF m 89 #[iv u0, iv 2, iv u2, iv u3, iv u4, rv b1, .val (.long (-1)), .second, iv 1] [(.int 0)]) _ _ _
    refine zlload X9 hx hby at_89 rfl (zlconst X9 hx hby at_91 (z := (0 : Int64)) rfl (zlcmp X9 hx hby at_92 (-1 : Int32) (by decide) (zifYes X9 hx hby at_93 100 (by decide) (by decide) (by decide) (ziconst X9 hx hby at_100 (z := (0 : Int32)) rfl (zicmpNo X9 hx hby at_101 (by decide) (ziconst X9 hx hby at_104 (z := (1 : Int32)) rfl (zgoto X9 hx hby at_105 109 (by decide) (by decide) (zistore X9 hx hby at_109 (L' := #[iv u0, iv 2, iv u2, iv u3, iv u4, rv b1, .val (.long (-1)), .second, iv 1]) rfl ?_))))))))
    show zEnds p e below s T9 (mkF m 111 #[iv u0, iv 2, iv u2, iv u3, iv u4, rv b1, .val (.long (-1)), .second, iv 1] []) _ _ _
    exact stg_1_11 X9 hx hZ hw hby hml hown hret hlk ⟨S_w_PAUSE, S_w_RESUME, S_w_STEP, E_w_PAUSE, E_w_RESUME, E_w_STEP, F_w_PAUSE_ordinal, F_w_RESUME_ordinal, F_w_STEP_ordinal, S_w_arr0, A_w_arr0, A_w_arr0_0, A_w_arr0_2, A_w_arr0_1⟩ e9 O7 N7 g_b1 E7_b1 F7_b1_left k2 k3 k4
  · show zEnds p e below s T0 (mkF m 65 #[iv u0, iv 3, iv u2, iv u3, iv u4, rv b1, .val (.long (-1)), .second, iv 1] []) _ _ _
    refine zaload X0 hx hby at_65 rfl rfl (ziloadN X0 hx hby at_67 rfl (zcalls X0 hx hby at_68 hZ hown (w18 hw) (w19 hw) (w20 hw) (w21 hw) e0 (c91_apply l hw [] ⟨S_w_PAUSE, S_w_RESUME, S_w_STEP, E_w_PAUSE, E_w_RESUME, E_w_STEP, F_w_PAUSE_ordinal, F_w_RESUME_ordinal, F_w_STEP_ordinal, S_w_arr0, A_w_arr0, A_w_arr0_0, A_w_arr0_2, A_w_arr0_1⟩ O0 (Nat.le_trans Z0 K0.1) b1 g_b1 E_b1 F_b1_left) (by decide) (by rw [hml]; rfl) 0 (Nat.le_of_eq rfl) (by decide) (by decide) (by decide) (by decide) pd_5 rfl (argsL := [(.ref b1), (.int 3)]) (st := []) rfl (zpureK ⟨rfl, rfl⟩ fun T10 X10 e10 => ?_)))
    show zEnds p e below s T10 (mkF m 71 #[iv u0, iv 3, iv u2, iv u3, iv u4, rv b1, .val (.long (-1)), .second, iv 1] []) _ _ _
    refine zlload X10 hx hby at_71 rfl (ziloadN X10 hx hby at_73 rfl (zcalls X10 hx hby at_74 hZ hown (w46 hw) (w47 hw) (w20 hw) (w48 hw) e10 (c95_next l hw [] ⟨S_w_PAUSE, S_w_RESUME, S_w_STEP, E_w_PAUSE, E_w_RESUME, E_w_STEP, F_w_PAUSE_ordinal, F_w_RESUME_ordinal, F_w_STEP_ordinal, S_w_arr0, A_w_arr0, A_w_arr0_0, A_w_arr0_2, A_w_arr0_1⟩ O0 (Nat.le_trans Z0 K0.1) ) (by decide) (by rw [hml]; rfl) 0 (Nat.le_of_eq rfl) (by decide) (by decide) (by decide) (by decide) pd_6 rfl (argsL := [(.long (-1)), (.int 3)]) (st := []) rfl (zpureK ⟨rfl, rfl⟩ fun T11 X11 e11 => ?_)))
    show zEnds p e below s T11 (mkF m 77 #[iv u0, iv 3, iv u2, iv u3, iv u4, rv b1, .val (.long (-1)), .second, iv 1] [(.long (-1))]) _ _ _
    refine zlstore X11 hx hby at_77 (L' := #[iv u0, iv 3, iv u2, iv u3, iv u4, rv b1, .val (.long (-1)), .second, iv 1]) rfl (ziload X11 hx hby at_79 rfl (zifNo X11 hx hby at_81 (by decide) (zaload X11 hx hby at_84 rfl rfl (zcallv X11 hx hby at_86 hZ hown (w13 hw) (w14 hw) (notFace_of_selects (args := #[]) (mvT hZ (w16 hw))) (w16 hw) (w15 hw) (w17 hw) (w2 hw) e11 E_b1 (c3_isSpent l hw [] ⟨S_w_PAUSE, S_w_RESUME, S_w_STEP, E_w_PAUSE, E_w_RESUME, E_w_STEP, F_w_PAUSE_ordinal, F_w_RESUME_ordinal, F_w_STEP_ordinal, S_w_arr0, A_w_arr0, A_w_arr0_0, A_w_arr0_2, A_w_arr0_1⟩ O0 (Nat.le_trans Z0 K0.1) b1 g_b1 E_b1 F_b1_left) (by decide) (by rw [hml]; rfl) 0 (Nat.le_of_eq rfl) (by decide) (by decide) (by decide) (by decide) pd_1 rfl (argsL := []) (st := []) rfl (zpureK ⟨rfl, rfl⟩ fun T12 X12 e12 => ?_)))))
    show zEnds p e below s T12 (mkF m 89 #[iv u0, iv 3, iv u2, iv u3, iv u4, rv b1, .val (.long (-1)), .second, iv 1] [(.int 0)]) _ _ _
    refine zlload X12 hx hby at_89 rfl (zlconst X12 hx hby at_91 (z := (0 : Int64)) rfl (zlcmp X12 hx hby at_92 (-1 : Int32) (by decide) (zifYes X12 hx hby at_93 100 (by decide) (by decide) (by decide) (ziconst X12 hx hby at_100 (z := (0 : Int32)) rfl (zicmpNo X12 hx hby at_101 (by decide) (ziconst X12 hx hby at_104 (z := (1 : Int32)) rfl (zgoto X12 hx hby at_105 109 (by decide) (by decide) (zistore X12 hx hby at_109 (L' := #[iv u0, iv 3, iv u2, iv u3, iv u4, rv b1, .val (.long (-1)), .second, iv 1]) rfl ?_))))))))
    show zEnds p e below s T12 (mkF m 111 #[iv u0, iv 3, iv u2, iv u3, iv u4, rv b1, .val (.long (-1)), .second, iv 1] []) _ _ _
    exact stg_1_11 X12 hx hZ hw hby hml hown hret hlk ⟨S_w_PAUSE, S_w_RESUME, S_w_STEP, E_w_PAUSE, E_w_RESUME, E_w_STEP, F_w_PAUSE_ordinal, F_w_RESUME_ordinal, F_w_STEP_ordinal, S_w_arr0, A_w_arr0, A_w_arr0_0, A_w_arr0_2, A_w_arr0_1⟩ e12 O0 N0 g_b1 E_b1 F_b1_left k2 k3 k4
set_option maxRecDepth 65536 in
set_option maxHeartbeats 40000000 in
theorem rm0 (l : Launch) {Z : State} {a0 : Array Value} (hw : ∀ d ∈ tables_1, d.before a0 Z = true) (ws : List Jvm.Cond) {w_PAUSE w_RESUME w_STEP w_arr0 : Addr} {cl_arr0 : Cell} {n0 : Nat} {h0 : Heap} (C : Ctx Z w_PAUSE w_RESUME w_STEP w_arr0 cl_arr0) (O0 : Old Z n0 h0) (Z0 : n0 ≤ h0.size) (p1 : Int32) : zCon l Z x code maxLocals ret ws room_1 #[(.int p1)] h0 (fun v h L => v = some (.int (1 : Int32)) ∧ Fr n0 L) := by
  obtain ⟨S_w_PAUSE, S_w_RESUME, S_w_STEP, E_w_PAUSE, E_w_RESUME, E_w_STEP, F_w_PAUSE_ordinal, F_w_RESUME_ordinal, F_w_STEP_ordinal, S_w_arr0, A_w_arr0, A_w_arr0_0, A_w_arr0_2, A_w_arr0_1⟩ := C
  refine zenter (plainFor_of_name pn_2) (L0 := #[iv p1, .unset, .unset, .unset, .unset, .unset, .unset, .unset, .unset]) (fun m => by first | rfl | simp [entryFrame, mkF, argsToLocals, Value.category, maxLocals]) ?_
  intro p e s m below meth c T0 hx hZ hby hml hown0 hnm hret hlk X0 e0
  have hown : s.vm.findClass "heapglass/core/wire/AllowanceIsSpentPinLaw" = some m.cls := hown0
  have K0 := Keep.refl h0 []
  have N0 := Fr.nil n0
  show zEnds p e below s T0 (mkF m 0 #[iv p1, .unset, .unset, .unset, .unset, .unset, .unset, .unset, .unset] []) _ _ _
  refine ziloadN X0 hx hby at_0 rfl (ziconst X0 hx hby at_1 (z := (3 : Int32)) rfl (ziand X0 hx hby at_2 (p1 &&& (3 : Int32)) rfl (zistoreN X0 hx hby at_3 (L' := #[iv p1, iv (p1 &&& (3 : Int32)), .unset, .unset, .unset, .unset, .unset, .unset, .unset]) rfl (ziloadN X0 hx hby at_4 rfl (ziconst X0 hx hby at_5 (z := (2 : Int32)) rfl (ziushr X0 hx hby at_6 ((p1.toUInt32 >>> ((2 : Int32) &&& 31).toUInt32).toInt32) rfl (ziconst X0 hx hby at_7 (z := (3 : Int32)) rfl (ziand X0 hx hby at_8 (((p1.toUInt32 >>> ((2 : Int32) &&& 31).toUInt32).toInt32) &&& (3 : Int32)) rfl (zistoreN X0 hx hby at_9 (L' := #[iv p1, iv (p1 &&& (3 : Int32)), iv (((p1.toUInt32 >>> ((2 : Int32) &&& 31).toUInt32).toInt32) &&& (3 : Int32)), .unset, .unset, .unset, .unset, .unset, .unset]) rfl ?_)))))))))
  show zEnds p e below s T0 (mkF m 10 #[iv p1, iv (p1 &&& (3 : Int32)), iv (((p1.toUInt32 >>> ((2 : Int32) &&& 31).toUInt32).toInt32) &&& (3 : Int32)), .unset, .unset, .unset, .unset, .unset, .unset] []) _ _ _
  refine ziloadN X0 hx hby at_10 rfl (ziconst X0 hx hby at_11 (z := (4 : Int32)) rfl (ziushr X0 hx hby at_12 ((p1.toUInt32 >>> ((4 : Int32) &&& 31).toUInt32).toInt32) rfl (ziconst X0 hx hby at_13 (z := (3 : Int32)) rfl (ziand X0 hx hby at_14 (((p1.toUInt32 >>> ((4 : Int32) &&& 31).toUInt32).toInt32) &&& (3 : Int32)) rfl (zistoreN X0 hx hby at_15 (L' := #[iv p1, iv (p1 &&& (3 : Int32)), iv (((p1.toUInt32 >>> ((2 : Int32) &&& 31).toUInt32).toInt32) &&& (3 : Int32)), iv (((p1.toUInt32 >>> ((4 : Int32) &&& 31).toUInt32).toInt32) &&& (3 : Int32)), .unset, .unset, .unset, .unset, .unset]) rfl (ziloadN X0 hx hby at_16 rfl (zbipush X0 hx hby at_17 (z := (6 : Int32)) rfl (ziushr X0 hx hby at_19 ((p1.toUInt32 >>> ((6 : Int32) &&& 31).toUInt32).toInt32) rfl (ziconst X0 hx hby at_20 (z := (3 : Int32)) rfl ?_)))))))))
  show zEnds p e below s T0 (mkF m 21 #[iv p1, iv (p1 &&& (3 : Int32)), iv (((p1.toUInt32 >>> ((2 : Int32) &&& 31).toUInt32).toInt32) &&& (3 : Int32)), iv (((p1.toUInt32 >>> ((4 : Int32) &&& 31).toUInt32).toInt32) &&& (3 : Int32)), .unset, .unset, .unset, .unset, .unset] [(.int 3), (.int ((p1.toUInt32 >>> ((6 : Int32) &&& 31).toUInt32).toInt32))]) _ _ _
  refine ziand X0 hx hby at_21 (((p1.toUInt32 >>> ((6 : Int32) &&& 31).toUInt32).toInt32) &&& (3 : Int32)) rfl (zistore X0 hx hby at_22 (L' := #[iv p1, iv (p1 &&& (3 : Int32)), iv (((p1.toUInt32 >>> ((2 : Int32) &&& 31).toUInt32).toInt32) &&& (3 : Int32)), iv (((p1.toUInt32 >>> ((4 : Int32) &&& 31).toUInt32).toInt32) &&& (3 : Int32)), iv (((p1.toUInt32 >>> ((6 : Int32) &&& 31).toUInt32).toInt32) &&& (3 : Int32)), .unset, .unset, .unset, .unset]) rfl (znewobj X0 hx hby at_24 hZ hown (w0 hw) (w1 hw) (w2 hw) e0 (by decide) (by decide) fun T1 h1 b1 X1 e1 y1 Ex1 E1_b1 D1 => ?_))
  have O1 := O0.ext Ex1
  have K1 := Keep.ext K0 Ex1
  have g1 : n0 ≤ b1 := by rw [y1]; exact Nat.le_trans Z0 K0.1
  have z1 : h0.size ≤ b1 := by rw [y1]; exact K0.1
  have F1_b1_left : Fld Z h1 b1 "heapglass/core/wire/Allowance" "left" "J" (.long 0) := D1 (Or.inl (w11 hw)) (ty := .long) (by decide)
  refine zdup X1 hx hby at_27 rfl (zcallsp X1 hx hby at_28 hZ hown rfl (w3 hw) (w4 hw) (w5 hw) (w2 hw) e1 (c1_init l hw [] ⟨S_w_PAUSE, S_w_RESUME, S_w_STEP, E_w_PAUSE, E_w_RESUME, E_w_STEP, F_w_PAUSE_ordinal, F_w_RESUME_ordinal, F_w_STEP_ordinal, S_w_arr0, A_w_arr0, A_w_arr0_0, A_w_arr0_2, A_w_arr0_1⟩ O1 (Nat.le_trans Z0 K1.1) b1 g1 E1_b1 F1_b1_left) (by decide) (by rw [hml]; rfl) 1 (Nat.le_of_eq rfl) (by decide) (by decide) (by decide) (by decide) pd_0 rfl (argsL := []) (st := [(.ref b1)]) rfl fun T2 h2 v2 L2 e2 X2 q2 => ?_)
  obtain ⟨rfl, N2q, K2q, E2_b1, F2_b1_left⟩ := q2
  have O2 := O1.keep K2q (allS g1 all0)
  have K2 := Keep.trans K1 K2q (allS (Or.inr z1) all0)
  have N2 := Fr.app N0 N2q
  show zEnds p e below s T2 (mkF m 31 #[iv p1, iv (p1 &&& (3 : Int32)), iv (((p1.toUInt32 >>> ((2 : Int32) &&& 31).toUInt32).toInt32) &&& (3 : Int32)), iv (((p1.toUInt32 >>> ((4 : Int32) &&& 31).toUInt32).toInt32) &&& (3 : Int32)), iv (((p1.toUInt32 >>> ((6 : Int32) &&& 31).toUInt32).toInt32) &&& (3 : Int32)), .unset, .unset, .unset, .unset] [(.ref b1)]) _ _ _
  refine zastore X2 hx hby at_31 (hv := rfl) (L' := #[iv p1, iv (p1 &&& (3 : Int32)), iv (((p1.toUInt32 >>> ((2 : Int32) &&& 31).toUInt32).toInt32) &&& (3 : Int32)), iv (((p1.toUInt32 >>> ((4 : Int32) &&& 31).toUInt32).toInt32) &&& (3 : Int32)), iv (((p1.toUInt32 >>> ((6 : Int32) &&& 31).toUInt32).toInt32) &&& (3 : Int32)), rv b1, .unset, .unset, .unset]) rfl (zldc2J X2 hx hby at_33 (-1 : Int64) hZ hown (w12 hw) (zlstore X2 hx hby at_36 (L' := #[iv p1, iv (p1 &&& (3 : Int32)), iv (((p1.toUInt32 >>> ((2 : Int32) &&& 31).toUInt32).toInt32) &&& (3 : Int32)), iv (((p1.toUInt32 >>> ((4 : Int32) &&& 31).toUInt32).toInt32) &&& (3 : Int32)), iv (((p1.toUInt32 >>> ((6 : Int32) &&& 31).toUInt32).toInt32) &&& (3 : Int32)), rv b1, .val (.long (-1)), .second, .unset]) rfl (zaload X2 hx hby at_38 rfl rfl (zcallv X2 hx hby at_40 hZ hown (w13 hw) (w14 hw) (notFace_of_selects (args := #[]) (mvT hZ (w16 hw))) (w16 hw) (w15 hw) (w17 hw) (w2 hw) e2 E2_b1 (c3_isSpent l hw [] ⟨S_w_PAUSE, S_w_RESUME, S_w_STEP, E_w_PAUSE, E_w_RESUME, E_w_STEP, F_w_PAUSE_ordinal, F_w_RESUME_ordinal, F_w_STEP_ordinal, S_w_arr0, A_w_arr0, A_w_arr0_0, A_w_arr0_2, A_w_arr0_1⟩ O2 (Nat.le_trans Z0 K2.1) b1 g1 E2_b1 F2_b1_left) (by decide) (by rw [hml]; rfl) 0 (Nat.le_of_eq rfl) (by decide) (by decide) (by decide) (by decide) pd_1 rfl (argsL := []) (st := []) rfl (zpureK ⟨rfl, rfl⟩ fun T3 X3 e3 => ?_)))))
  show zEnds p e below s T3 (mkF m 43 #[iv p1, iv (p1 &&& (3 : Int32)), iv (((p1.toUInt32 >>> ((2 : Int32) &&& 31).toUInt32).toInt32) &&& (3 : Int32)), iv (((p1.toUInt32 >>> ((4 : Int32) &&& 31).toUInt32).toInt32) &&& (3 : Int32)), iv (((p1.toUInt32 >>> ((6 : Int32) &&& 31).toUInt32).toInt32) &&& (3 : Int32)), rv b1, .val (.long (-1)), .second, .unset] [(.int 0)]) _ _ _
  refine zlload X3 hx hby at_43 rfl (zlconst X3 hx hby at_45 (z := (0 : Int64)) rfl (zlcmp X3 hx hby at_46 (-1 : Int32) (by decide) (zifYes X3 hx hby at_47 54 (by decide) (by decide) (by decide) (ziconst X3 hx hby at_54 (z := (0 : Int32)) rfl (zicmpNo X3 hx hby at_55 (by decide) (ziconst X3 hx hby at_58 (z := (1 : Int32)) rfl (zgoto X3 hx hby at_59 63 (by decide) (by decide) (zistore X3 hx hby at_63 (L' := #[iv p1, iv (p1 &&& (3 : Int32)), iv (((p1.toUInt32 >>> ((2 : Int32) &&& 31).toUInt32).toInt32) &&& (3 : Int32)), iv (((p1.toUInt32 >>> ((4 : Int32) &&& 31).toUInt32).toInt32) &&& (3 : Int32)), iv (((p1.toUInt32 >>> ((6 : Int32) &&& 31).toUInt32).toInt32) &&& (3 : Int32)), rv b1, .val (.long (-1)), .second, iv 1]) rfl ?_))))))))
  show zEnds p e below s T3 (mkF m 65 #[iv p1, iv (p1 &&& (3 : Int32)), iv (((p1.toUInt32 >>> ((2 : Int32) &&& 31).toUInt32).toInt32) &&& (3 : Int32)), iv (((p1.toUInt32 >>> ((4 : Int32) &&& 31).toUInt32).toInt32) &&& (3 : Int32)), iv (((p1.toUInt32 >>> ((6 : Int32) &&& 31).toUInt32).toInt32) &&& (3 : Int32)), rv b1, .val (.long (-1)), .second, iv 1] []) _ _ _
  exact stg_0_0 X3 hx hZ hw hby hml hown hret hlk ⟨S_w_PAUSE, S_w_RESUME, S_w_STEP, E_w_PAUSE, E_w_RESUME, E_w_STEP, F_w_PAUSE_ordinal, F_w_RESUME_ordinal, F_w_STEP_ordinal, S_w_arr0, A_w_arr0, A_w_arr0_0, A_w_arr0_2, A_w_arr0_1⟩ e3 O2 N2 g1 E2_b1 F2_b1_left (and_3 _) (and_3 _) (and_3 _) (and_3 _)
set_option maxRecDepth 65536 in
set_option maxHeartbeats 40000000 in
theorem comes_1 {Post : Tables → Env → Array Value → State → Outcome → State → Prop} (hpost : ∀ tb e args s v u, (limb_1_1.after args s (.returned v) u = true ∧ limb_1_2.after args s (.returned v) u = true ∧ True) → FrameEnd s (.returned v) u (Jvm.fieldLocs frame_1_writes args s ++ Jvm.arrayLocs frame_1_arrays args s ++ Jvm.staticLocs frame_1_statics s) 16 128 → Post tb e args s (.returned v) u) :
    ArmFor flags0 classFile x code maxLocals ret World_1 tables_1 room_1 Calls_1 rest_1 Pre_1 Post := by
  intro l hfl _ _ p e ha hc hk s m args below hf hA hF happ hP
  obtain ⟨hcalls, hrest, hpre⟩ := hP
  obtain ⟨-, -, -, hnamed, -, -, -, hat⟩ := (Spec.applies_iff hf).mp happ
  obtain ⟨hg, hn⟩ := and_e (Cond.before_iff.mp (show (Jvm.Cond.and given_1 narrow_1).before args s = true from hpre))
  obtain ⟨gc, hg⟩ := and_e hg
  obtain ⟨u0, rfl⟩ : ∃ u0 : Value, args = #[u0] := by
    have hs : args.size = 1 := by simpa [Cond.value, given_1] using gc
    obtain ⟨L⟩ := args
    match L, hs with
    | [u0], _ => exact ⟨u0, rfl⟩
  obtain ⟨i0, ei0⟩ := is_v hg
  obtain rfl : u0 = (.int i0) := Option.some.inj ei0
  have hw := fun d (hd : d ∈ tables_1) => atoms_spec (ws := Jvm.Cond.code x code maxLocals ret :: tables_1) hat d (List.mem_cons_of_mem _ hd)
  obtain ⟨n1, n2⟩ := and_e hn
  obtain ⟨n3, n4⟩ := and_e n2
  obtain ⟨n5, n6⟩ := and_e n4
  obtain ⟨n7, n8⟩ := and_e n6
  obtain ⟨n9, n10⟩ := and_e n8
  obtain ⟨n11, n12⟩ := and_e n10
  obtain ⟨n13, n14⟩ := and_e n12
  obtain ⟨n15, n16⟩ := and_e n14
  obtain ⟨n17, n18⟩ := and_e n16
  obtain ⟨n19, n20⟩ := and_e n18
  obtain ⟨w_arr0, v_w_arr0⟩ := arr_v n3
  obtain ⟨cl_arr0, A_w_arr0⟩ := Arr.start v_w_arr0 n3
  have S_w_arr0 := Sta.start v_w_arr0 (Or.inr ⟨(w31 hw), (w32 hw)⟩)
  have A_w_arr0_0 := zelem_at0 v_w_arr0 A_w_arr0.1 n9
  have A_w_arr0_2 := zelem_at0 v_w_arr0 A_w_arr0.1 n15
  have A_w_arr0_1 := zelem_at0 v_w_arr0 A_w_arr0.1 n20
  obtain ⟨w_PAUSE, v_w_PAUSE⟩ := exa_v n1
  have E_w_PAUSE := Exa.start v_w_PAUSE n1
  have S_w_PAUSE := Sta.start v_w_PAUSE (Or.inr ⟨(w23 hw), (w24 hw)⟩)
  obtain ⟨w_RESUME, v_w_RESUME⟩ := exa_v n11
  have E_w_RESUME := Exa.start v_w_RESUME n11
  have S_w_RESUME := Sta.start v_w_RESUME (Or.inr ⟨(w23 hw), (w56 hw)⟩)
  obtain ⟨w_STEP, v_w_STEP⟩ := exa_v n17
  have E_w_STEP := Exa.start v_w_STEP n17
  have S_w_STEP := Sta.start v_w_STEP (Or.inr ⟨(w23 hw), (w58 hw)⟩)
  have F_w_PAUSE_ordinal := zfld_int v_w_PAUSE n7
  have F_w_RESUME_ordinal := zfld_int v_w_RESUME n13
  have F_w_STEP_ordinal := zfld_int v_w_STEP n19
  obtain ⟨n, o, h1, h2, h3, _, L, rfl, ⟨rfl, N⟩, hq⟩ := rm0 l (Z := s) hw tables_1 (h0 := s.heap) (n0 := s.heap.size) ⟨S_w_PAUSE, S_w_RESUME, S_w_STEP, E_w_PAUSE, E_w_RESUME, E_w_STEP, F_w_PAUSE_ordinal, F_w_RESUME_ordinal, F_w_STEP_ordinal, S_w_arr0, A_w_arr0, A_w_arr0_0, A_w_arr0_2, A_w_arr0_1⟩ (Old.start s) (Nat.le_refl _) i0 p e ha hc hk s m _ below hf ((Spec.applies_iff_loose hf).mp happ).1 ⟨rfl, State.Warmed39.refl s, rfl⟩ trivial
  refine ⟨n, _, h1, h2, h3, hpost _ _ _ _ _ _ ⟨Cond.after_iff.mpr rfl, Cond.after_iff.mpr (eq_i res_at (Term.int_eval (1)) rfl), trivial⟩ ⟨hq.1, hq.2.1, (hq.2.2.sift fun y hy => Or.inr (N y hy)).mono (by decide) (by decide)⟩⟩
theorem main_1_1 : Claimed_1_1 := comes_1 fun _ _ _ _ _ _ h hF => ⟨h.1, hF⟩
theorem main_1_2 : Claimed_1_2 := comes_1 fun _ _ _ _ _ _ h hF => ⟨h.2.1, hF⟩
end Jvm.Pilot.@@N@@
namespace Jvm.Pilot.@@N@@
open Jvm Jvm.ClassFile Sem Op Lib Jvm.Free Jvm.Stand Jvm.Pilot.@@N@@.Jvm.D
/-! MADE BY PROGRAM (witnessworld.py) out of the Statement's table words and the real class files: 15 classes; the members and pool entries that the words name. The judged class is class 1, her method 3. -/
namespace start1
open Jvm.ClassFile
def u (s : String) : CpInfo := .utf8 (stringToUtf16 s)
/-- a pool by its gaps: so many unusable entries, then the entry; so many at the end -/
def gap : Nat → List CpInfo → List CpInfo
  | 0, r => r
  | n + 1, r => .unusable :: gap n r
def poolList (es : List (Nat × CpInfo)) (last : Nat) : List CpInfo := es.foldr (fun e r => gap e.1 (e.2 :: r)) (gap last [])
def pool (es : List (Nat × CpInfo)) (last : Nat) : Array CpInfo := ⟨poolList es last⟩
def fileOf (pool : Array CpInfo) (this : Nat) (attrs : Array Attribute := #[]) (ms : Array MethodInfo := #[]) (fl : Nat := 33) (sup : Nat := 0) (ifs : Array Nat := #[]) (fds : Array FieldInfo := #[]) : ClassFile where
  minorVersion := 0
  majorVersion := 65
  constantPool := pool
  accessFlags := fl
  thisClass := this
  superClass := sup
  interfaces := ifs
  fields := fds
  methods := ms
  attributes := attrs
def plain (name : String) (sup : Option ClassId) : Class where
  name := name
  kind := .ordinary
  loader := none
  accessFlags := 33
  super := sup
  interfaces := #[]
  cf := none
  fields := #[]
  methods := #[]
  instanceTypes := #[]
  staticTypes := #[]
  resolved := #[]
  callSites := []
  init := .initialized
  statics := none
  mirror := none

def pool0 : Array CpInfo := pool [(5, u "<init>"), (0, u "()V"), (1, .class_ 10), (1, u "java/lang/Object")] 113

def k0c0 : Code := { maxStack := 0, maxLocals := 1, code := object_method_1_code, exceptionTable := #[], attributes := #[] }
def k0m0 : Method := { name := "<init>", desc := "()V", sig := { parameters := [], returnType := none }, accessFlags := 1, code := some k0c0 }
/-- java/lang/Object -/
def k0 : Class := { plain "java/lang/Object" none with
  accessFlags := 33
  interfaces := #[]
  cf := some (fileOf pool0 8 #[] #[{ accessFlags := 1, nameIndex := 5, descriptorIndex := 6, attributes := #[] }] 33 0 #[] #[])
  fields := #[]
  methods := #[k0m0]
  instanceTypes := #[]
  staticTypes := #[]
  resolved := Array.replicate 124 none
  statics := none }

def pool1 : Array CpInfo := pool [(2, .class_ 4), (0, .nameAndType 5 6), (0, u "java/lang/Object"), (0, u "<init>"), (0, u "()V"), (0, .long 18446744073709551615), (1, .methodref 10 11), (0, .class_ 12), (0, .nameAndType 13 14), (0, u "java/lang/Math"), (0, u "min"), (0, u "(JJ)J"), (0, .fieldref 16 17), (0, .class_ 18), (0, .nameAndType 19 20), (0, u "heapglass/core/wire/Control"), (0, u "PAUSE"), (0, u "Lheapglass/core/wire/Control;"), (0, .methodref 22 23), (0, .class_ 24), (0, .nameAndType 25 26), (0, u "heapglass/core/wire/Allowance"), (0, u "obey"), (0, u "(Lheapglass/core/wire/Control;)V"), (0, .fieldref 16 28), (0, .nameAndType 29 20), (0, u "STEP"), (0, .fieldref 16 31), (0, .nameAndType 32 20), (0, u "RESUME"), (0, .methodref 22 34), (0, .nameAndType 35 6), (0, u "spend"), (0, .methodref 22 3), (0, .methodref 22 38), (0, .nameAndType 39 40), (0, u "isSpent"), (0, u "()Z"), (0, .methodref 42 43), (0, .class_ 44), (0, .nameAndType 45 46), (0, u "heapglass/core/wire/AllowanceIsSpentPinLaw"), (0, u "apply"), (0, u "(Lheapglass/core/wire/Allowance;I)V"), (0, .methodref 42 48), (0, .nameAndType 49 50), (0, u "next"), (0, u "(JI)J"), (3, u "law"), (0, u "(I)Z")] 2

def k1m0 : Method := { name := "<init>", desc := "()V", sig := { parameters := [], returnType := none }, accessFlags := 2, code := none }
def k1c1 : Code := { maxStack := 4, maxLocals := 3, code := method_2_code, exceptionTable := #[], attributes := #[] }
def k1m1 : Method := { name := "next", desc := "(JI)J", sig := { parameters := [.long, .int], returnType := some .long }, accessFlags := 10, code := some k1c1 }
def k1c2 : Code := { maxStack := 2, maxLocals := 2, code := method_3_code, exceptionTable := #[], attributes := #[] }
def k1m2 : Method := { name := "apply", desc := "(Lheapglass/core/wire/Allowance;I)V", sig := { parameters := [(.object "heapglass/core/wire/Allowance"), .int], returnType := none }, accessFlags := 10, code := some k1c2 }
def k1c3 : Code := { maxStack := 5, maxLocals := 9, code := code, exceptionTable := #[], attributes := #[] }
def k1m3 : Method := { name := "law", desc := "(I)Z", sig := { parameters := [.int], returnType := some .boolean }, accessFlags := 9, code := some k1c3 }
/-- heapglass/core/wire/AllowanceIsSpentPinLaw -/
def k1 : Class := { plain "heapglass/core/wire/AllowanceIsSpentPinLaw" (some 0) with
  accessFlags := 49
  interfaces := #[]
  cf := some (fileOf pool1 42 #[] #[{ accessFlags := 2, nameIndex := 5, descriptorIndex := 6, attributes := #[] }, { accessFlags := 10, nameIndex := 49, descriptorIndex := 50, attributes := #[] }, { accessFlags := 10, nameIndex := 45, descriptorIndex := 46, attributes := #[] }, { accessFlags := 9, nameIndex := 54, descriptorIndex := 55, attributes := #[] }] 49 2 #[] #[])
  fields := #[]
  methods := #[k1m0, k1m1, k1m2, k1m3]
  instanceTypes := #[]
  staticTypes := #[]
  resolved := Array.replicate 58 none
  statics := none }

def pool2 : Array CpInfo := pool [(3, .methodref 4 5), (0, .class_ 6), (0, .nameAndType 7 8), (0, u "java/lang/Object"), (0, u "<init>"), (0, u "()V"), (0, .class_ 10), (0, u "heapglass/core/wire/Allowance"), (0, .long 9223372036854775807), (1, .fieldref 9 14), (0, .nameAndType 15 16), (0, u "left"), (0, u "J"), (0, .fieldref 18 19), (0, .class_ 20), (0, .nameAndType 21 22), (0, u "heapglass/core/wire/Allowance$1"), (0, u "$SwitchMap$heapglass$core$wire$Control"), (0, u "[I"), (0, .methodref 24 25), (0, .class_ 26), (0, .nameAndType 27 28), (0, u "heapglass/core/wire/Control"), (0, u "ordinal"), (0, u "()I"), (5, .methodref 35 36), (0, .class_ 37), (0, .nameAndType 38 39), (0, u "java/lang/Math"), (0, u "min"), (0, u "(JJ)J"), (0, u "UNLIMITED"), (3, u "obey"), (0, u "(Lheapglass/core/wire/Control;)V"), (1, u "spend"), (0, u "isSpent"), (0, u "()Z")] 4

def k2c0 : Code := { maxStack := 3, maxLocals := 1, code := prog_9_method_1_code, exceptionTable := #[], attributes := #[] }
def k2m0 : Method := { name := "<init>", desc := "()V", sig := { parameters := [], returnType := none }, accessFlags := 1, code := some k2c0 }
def k2c1 : Code := { maxStack := 5, maxLocals := 2, code := prog_9_method_2_code, exceptionTable := #[], attributes := #[] }
def k2m1 : Method := { name := "obey", desc := "(Lheapglass/core/wire/Control;)V", sig := { parameters := [(.object "heapglass/core/wire/Control")], returnType := none }, accessFlags := 1, code := some k2c1 }
def k2c2 : Code := { maxStack := 5, maxLocals := 1, code := prog_9_method_3_code, exceptionTable := #[], attributes := #[] }
def k2m2 : Method := { name := "spend", desc := "()V", sig := { parameters := [], returnType := none }, accessFlags := 1, code := some k2c2 }
def k2c3 : Code := { maxStack := 4, maxLocals := 1, code := prog_9_method_4_code, exceptionTable := #[], attributes := #[] }
def k2m3 : Method := { name := "isSpent", desc := "()Z", sig := { parameters := [], returnType := some .boolean }, accessFlags := 1, code := some k2c3 }
/-- heapglass/core/wire/Allowance -/
def k2 : Class := { plain "heapglass/core/wire/Allowance" (some 0) with
  accessFlags := 49
  interfaces := #[]
  cf := some (fileOf pool2 9 #[.nestMembers #[18]] #[{ accessFlags := 1, nameIndex := 7, descriptorIndex := 8, attributes := #[] }, { accessFlags := 1, nameIndex := 44, descriptorIndex := 45, attributes := #[] }, { accessFlags := 1, nameIndex := 47, descriptorIndex := 8, attributes := #[] }, { accessFlags := 1, nameIndex := 48, descriptorIndex := 49, attributes := #[] }] 49 4 #[] #[{ accessFlags := 26, nameIndex := 40, descriptorIndex := 16, attributes := #[] }, { accessFlags := 2, nameIndex := 15, descriptorIndex := 16, attributes := #[] }])
  fields := #[{ name := "UNLIMITED", type := .long, accessFlags := 26, slot := 0, constantValue := 0 }, { name := "left", type := .long, accessFlags := 2, slot := 0, constantValue := 0 }]
  methods := #[k2m0, k2m1, k2m2, k2m3]
  instanceTypes := #[.long]
  staticTypes := #[.long]
  resolved := Array.replicate 54 none
  statics := none }

def pool3 : Array CpInfo := pool [(1, .class_ 2), (0, u "java/lang/constant/Constable"), (0, .class_ 4), (0, u "java/lang/Object")] 6

/-- java/lang/constant/Constable -/
def k3 : Class := { plain "java/lang/constant/Constable" (some 0) with
  accessFlags := 1537
  interfaces := #[]
  cf := some (fileOf pool3 1 #[] #[] 1537 3 #[] #[])
  fields := #[]
  methods := #[]
  instanceTypes := #[]
  staticTypes := #[]
  resolved := Array.replicate 11 none
  statics := none }

def pool4 : Array CpInfo := pool [(1, .class_ 2), (0, u "java/lang/Comparable"), (0, .class_ 4), (0, u "java/lang/Object")] 7

/-- java/lang/Comparable -/
def k4 : Class := { plain "java/lang/Comparable" (some 0) with
  accessFlags := 1537
  interfaces := #[]
  cf := some (fileOf pool4 1 #[] #[] 1537 3 #[] #[])
  fields := #[]
  methods := #[]
  instanceTypes := #[]
  staticTypes := #[]
  resolved := Array.replicate 12 none
  statics := none }

def pool5 : Array CpInfo := pool [(1, .class_ 2), (0, u "java/io/Serializable"), (0, .class_ 4), (0, u "java/lang/Object")] 2

/-- java/io/Serializable -/
def k5 : Class := { plain "java/io/Serializable" (some 0) with
  accessFlags := 1537
  interfaces := #[]
  cf := some (fileOf pool5 1 #[] #[] 1537 3 #[] #[])
  fields := #[]
  methods := #[]
  instanceTypes := #[]
  staticTypes := #[]
  resolved := Array.replicate 7 none
  statics := none }

def pool6 : Array CpInfo := pool [(2, .class_ 4), (1, u "java/lang/Enum"), (0, u "name"), (0, u "Ljava/lang/String;"), (0, .fieldref 2 8), (0, .nameAndType 9 10), (0, u "ordinal"), (0, u "I"), (1, .class_ 14), (1, u "java/lang/Object"), (4, u "hash"), (86, .class_ 108), (1, u "java/lang/Enum$EnumDesc"), (2, .class_ 112), (0, u "java/lang/constant/Constable"), (0, .class_ 114), (0, u "java/lang/Comparable"), (0, .class_ 116), (0, u "java/io/Serializable"), (9, u "()I")] 77

def k6c0 : Code := { maxStack := 1, maxLocals := 1, code := jdk_37_method_2_code, exceptionTable := #[], attributes := #[] }
def k6m0 : Method := { name := "ordinal", desc := "()I", sig := { parameters := [], returnType := some .int }, accessFlags := 17, code := some k6c0 }
/-- java/lang/Enum -/
def k6 : Class := { plain "java/lang/Enum" (some 0) with
  accessFlags := 1057
  interfaces := #[3, 4, 5]
  cf := some (fileOf pool6 2 #[.nestMembers #[106]] #[{ accessFlags := 17, nameIndex := 9, descriptorIndex := 126, attributes := #[] }] 1057 12 #[111, 113, 115] #[{ accessFlags := 18, nameIndex := 5, descriptorIndex := 6, attributes := #[] }, { accessFlags := 18, nameIndex := 9, descriptorIndex := 10, attributes := #[] }, { accessFlags := 2, nameIndex := 19, descriptorIndex := 10, attributes := #[] }])
  fields := #[{ name := "name", type := (.object "java/lang/String"), accessFlags := 18, slot := 0, constantValue := 0 }, { name := "ordinal", type := .int, accessFlags := 18, slot := 1, constantValue := 0 }, { name := "hash", type := .int, accessFlags := 2, slot := 2, constantValue := 0 }]
  methods := #[k6m0]
  instanceTypes := #[(.object "java/lang/String"), .int, .int]
  staticTypes := #[]
  resolved := Array.replicate 204 none
  statics := none }

def pool7 : Array CpInfo := pool [(3, .class_ 4), (0, u "heapglass/core/wire/Control"), (2, u "PAUSE"), (0, u "Lheapglass/core/wire/Control;"), (2, u "STEP"), (2, u "RESUME"), (2, u "$VALUES"), (0, u "[Lheapglass/core/wire/Control;"), (6, .class_ 27), (1, u "java/lang/Enum"), (8, u "type"), (0, u "I"), (54, u "ALL"), (16, u "HEARTBEAT_MILLIS"), (2, u "SILENCE_MILLIS"), (1, u "END"), (1, u "LENGTH_BYTES")] 40

/-- heapglass/core/wire/Control -/
def k7 : Class := { plain "heapglass/core/wire/Control" (some 6) with
  accessFlags := 16433
  interfaces := #[]
  cf := some (fileOf pool7 3 #[] #[] 16433 25 #[] #[{ accessFlags := 16409, nameIndex := 7, descriptorIndex := 8, attributes := #[] }, { accessFlags := 16409, nameIndex := 11, descriptorIndex := 8, attributes := #[] }, { accessFlags := 16409, nameIndex := 14, descriptorIndex := 8, attributes := #[] }, { accessFlags := 25, nameIndex := 109, descriptorIndex := 37, attributes := #[] }, { accessFlags := 25, nameIndex := 112, descriptorIndex := 37, attributes := #[] }, { accessFlags := 26, nameIndex := 92, descriptorIndex := 18, attributes := #[] }, { accessFlags := 26, nameIndex := 114, descriptorIndex := 37, attributes := #[] }, { accessFlags := 26, nameIndex := 116, descriptorIndex := 37, attributes := #[] }, { accessFlags := 18, nameIndex := 36, descriptorIndex := 37, attributes := #[] }, { accessFlags := 4122, nameIndex := 17, descriptorIndex := 18, attributes := #[] }])
  fields := #[{ name := "PAUSE", type := (.object "heapglass/core/wire/Control"), accessFlags := 16409, slot := 0, constantValue := 0 }, { name := "STEP", type := (.object "heapglass/core/wire/Control"), accessFlags := 16409, slot := 1, constantValue := 0 }, { name := "RESUME", type := (.object "heapglass/core/wire/Control"), accessFlags := 16409, slot := 2, constantValue := 0 }, { name := "HEARTBEAT_MILLIS", type := .int, accessFlags := 25, slot := 3, constantValue := 0 }, { name := "SILENCE_MILLIS", type := .int, accessFlags := 25, slot := 4, constantValue := 0 }, { name := "ALL", type := (.array (.object "heapglass/core/wire/Control")), accessFlags := 26, slot := 5, constantValue := 0 }, { name := "END", type := .int, accessFlags := 26, slot := 6, constantValue := 0 }, { name := "LENGTH_BYTES", type := .int, accessFlags := 26, slot := 7, constantValue := 0 }, { name := "type", type := .int, accessFlags := 18, slot := 3, constantValue := 0 }, { name := "$VALUES", type := (.array (.object "heapglass/core/wire/Control")), accessFlags := 4122, slot := 8, constantValue := 0 }]
  methods := #[]
  instanceTypes := #[(.object "java/lang/String"), .int, .int, .int]
  staticTypes := #[(.object "heapglass/core/wire/Control"), (.object "heapglass/core/wire/Control"), (.object "heapglass/core/wire/Control"), .int, .int, (.array (.object "heapglass/core/wire/Control")), .int, .int, (.array (.object "heapglass/core/wire/Control"))]
  resolved := Array.replicate 157 none
  statics := some 0 }

def pool8 : Array CpInfo := pool [(8, .class_ 10), (1, u "heapglass/core/wire/Allowance$1"), (0, u "$SwitchMap$heapglass$core$wire$Control"), (0, u "[I"), (16, .class_ 30), (0, u "java/lang/Object"), (8, .class_ 40), (0, u "heapglass/core/wire/Allowance")] 2

/-- heapglass/core/wire/Allowance$1 -/
def k8 : Class := { plain "heapglass/core/wire/Allowance$1" (some 0) with
  accessFlags := 4128
  interfaces := #[]
  cf := some (fileOf pool8 8 #[.nestHost 39] #[] 4128 29 #[] #[{ accessFlags := 4120, nameIndex := 11, descriptorIndex := 12, attributes := #[] }])
  fields := #[{ name := "$SwitchMap$heapglass$core$wire$Control", type := (.array .int), accessFlags := 4120, slot := 0, constantValue := 0 }]
  methods := #[]
  instanceTypes := #[]
  staticTypes := #[(.array .int)]
  resolved := Array.replicate 43 none
  statics := some 1 }

def pool9 : Array CpInfo := pool [(1, .class_ 2), (0, u "java/lang/Math"), (1, .class_ 6), (1, u "java/lang/Object"), (0, u "<init>"), (0, u "()V"), (89, .class_ 100), (1, u "java/lang/Math$RandomNumberGeneratorHolder"), (20, u "(JJ)J"), (50, u "negativeZeroFloatBits"), (0, u "J"), (2, u "negativeZeroDoubleBits"), (24, u "min"), (43, u "$assertionsDisabled"), (0, u "Z"), (91, u "twoToTheDoubleScaleDown"), (0, u "D"), (4, u "twoToTheDoubleScaleUp"), (9, u "E"), (3, u "PI"), (2, u "TAU"), (2, u "DEGREES_TO_RADIANS"), (0, u "RADIANS_TO_DEGREES")] 94

def k9m0 : Method := { name := "<init>", desc := "()V", sig := { parameters := [], returnType := none }, accessFlags := 2, code := none }
def k9c1 : Code := { maxStack := 4, maxLocals := 4, code := jdk_29_method_70_code, exceptionTable := #[], attributes := #[] }
def k9m1 : Method := { name := "min", desc := "(JJ)J", sig := { parameters := [.long, .long], returnType := some .long }, accessFlags := 9, code := some k9c1 }
/-- java/lang/Math -/
def k9 : Class := { plain "java/lang/Math" (some 0) with
  accessFlags := 49
  interfaces := #[]
  cf := some (fileOf pool9 1 #[.nestMembers #[98]] #[{ accessFlags := 2, nameIndex := 7, descriptorIndex := 8, attributes := #[] }, { accessFlags := 9, nameIndex := 201, descriptorIndex := 121, attributes := #[] }] 49 4 #[] #[{ accessFlags := 25, nameIndex := 354, descriptorIndex := 339, attributes := #[] }, { accessFlags := 25, nameIndex := 358, descriptorIndex := 339, attributes := #[] }, { accessFlags := 25, nameIndex := 361, descriptorIndex := 339, attributes := #[] }, { accessFlags := 26, nameIndex := 364, descriptorIndex := 339, attributes := #[] }, { accessFlags := 26, nameIndex := 365, descriptorIndex := 339, attributes := #[] }, { accessFlags := 26, nameIndex := 172, descriptorIndex := 173, attributes := #[] }, { accessFlags := 26, nameIndex := 176, descriptorIndex := 173, attributes := #[] }, { accessFlags := 8, nameIndex := 344, descriptorIndex := 339, attributes := #[] }, { accessFlags := 8, nameIndex := 338, descriptorIndex := 339, attributes := #[] }, { accessFlags := 4120, nameIndex := 245, descriptorIndex := 246, attributes := #[] }])
  fields := #[{ name := "E", type := .double, accessFlags := 25, slot := 0, constantValue := 0 }, { name := "PI", type := .double, accessFlags := 25, slot := 1, constantValue := 0 }, { name := "TAU", type := .double, accessFlags := 25, slot := 2, constantValue := 0 }, { name := "DEGREES_TO_RADIANS", type := .double, accessFlags := 26, slot := 3, constantValue := 0 }, { name := "RADIANS_TO_DEGREES", type := .double, accessFlags := 26, slot := 4, constantValue := 0 }, { name := "negativeZeroFloatBits", type := .long, accessFlags := 26, slot := 5, constantValue := 0 }, { name := "negativeZeroDoubleBits", type := .long, accessFlags := 26, slot := 6, constantValue := 0 }, { name := "twoToTheDoubleScaleUp", type := .double, accessFlags := 8, slot := 7, constantValue := 0 }, { name := "twoToTheDoubleScaleDown", type := .double, accessFlags := 8, slot := 8, constantValue := 0 }, { name := "$assertionsDisabled", type := .boolean, accessFlags := 4120, slot := 9, constantValue := 0 }]
  methods := #[k9m0, k9m1]
  instanceTypes := #[]
  staticTypes := #[.double, .double, .double, .double, .double, .long, .long, .double, .double, .boolean]
  resolved := Array.replicate 460 none
  statics := none }

def pool10 : Array CpInfo := pool [(1, u "java/lang/Cloneable"), (0, .class_ 1), (0, u "java/lang/Object"), (0, .class_ 3)] 3

/-- java/lang/Cloneable -/
def k10 : Class := { plain "java/lang/Cloneable" (some 0) with
  accessFlags := 1537
  interfaces := #[]
  cf := some (fileOf pool10 2 #[] #[] 1537 4 #[] #[])
  fields := #[]
  methods := #[]
  instanceTypes := #[]
  staticTypes := #[]
  resolved := Array.replicate 8 none
  statics := none }

/-- the primitive byte -/
def k11 : Class := { plain "byte" none with kind := .primitive 'B', accessFlags := 0x411 }
/-- [B -/
def k12 : Class := { plain "[B" (some 0) with kind := .array 11 .byte, interfaces := #[10, 5], accessFlags := 1041 }

/-- the primitive int -/
def k13 : Class := { plain "int" none with kind := .primitive 'I', accessFlags := 0x411 }
/-- [I -/
def k14 : Class := { plain "[I" (some 0) with kind := .array 13 .int, interfaces := #[10, 5], accessFlags := 1041 }

def heap : Heap := #[{ cls := 7, slots := #[.ref 3, .ref 5, .ref 4, .int 0, .int 0, .null, .int 0, .int 0, .null], vm := .statics 7 },
  { cls := 8, slots := #[.ref 2], vm := .statics 8 },
  { cls := 14, slots := #[.int 1, .int 2, .int 3], vm := .none },
  { cls := 7, slots := #[.null, .int 0, .int 0, .int 7], vm := .none },
  { cls := 7, slots := #[.null, .int 2, .int 0, .int 7], vm := .none },
  { cls := 7, slots := #[.null, .int 1, .int 0, .int 7], vm := .none }]
def classes : Array Class := #[k0, k1, k2, k3, k4, k5, k6, k7, k8, k9, k10, k11, k12, k13, k14]
def interned : List (Array UInt16 × Addr) := []
def slotsUsed : Nat := 25
def theMethod : MethodId := ⟨1, 3⟩
def args0 : Array Value := #[.int 5]
def aboutOver (below : List Frame) : State where
  vm := { classes := classes, interned := interned.toArray }
  heap := heap
  slotsUsed := slotsUsed
  threads := #[{ frames := .invoking theMethod args0 :: below }]
def below0 : List Frame := [.native { method := ⟨0, 0⟩, args := #[] }]
def about1 : State := aboutOver below0
def p0 : Program := .bare "" "" ""
def e0 : Env := launch0.env 0 0 0
theorem w_frames : about1.frames = Frame.invoking theMethod args0 :: below0 := rfl
set_option maxRecDepth 65536 in
theorem w_args : argsFit about1.vm theMethod args0 = true := by decide +kernel
set_option maxRecDepth 65536 in
theorem w_heap : heapFits about1 = true := by decide +kernel
set_option maxRecDepth 65536 in
theorem w_runnable : about1.curStatus? = some .runnable := by decide +kernel
set_option maxRecDepth 65536 in
theorem w_alone : about1.alone = true := by decide +kernel
set_option maxRecDepth 65536 in
theorem w_named : about1.methodNamed? x = some theMethod := by decide +kernel
set_option maxRecDepth 65536 in
theorem w_hears : about1.hears theMethod below0 = true := by decide +kernel
set_option maxRecDepth 65536 in
theorem w_ripe : about1.ripe theMethod args0 below0 = true := by decide +kernel
theorem w_running : about1.status = .running := rfl
set_option maxRecDepth 65536 in
theorem w_room : about1.hasRoom e0.platform room_1 = true :=
  launch0.hasRoom_least _ room_1 (by decide +kernel) (by decide +kernel) (by decide +kernel) (by decide +kernel) (by decide +kernel) (by decide +kernel)
theorem allAtoms_all (ts : List Jvm.Cond) (a : Array Jvm.Value) (st : Jvm.State) : (allAtoms ts).before a st = ts.all (fun c => c.before a st) := by
  induction ts with
  | nil => rfl
  | cons c t ih =>
    show (Jvm.Cond.and c (allAtoms t)).before a st = _
    rw [Jvm.Cond.before_and, ih, List.all_cons]
def words1 : List Jvm.Cond := Jvm.Cond.code x code maxLocals ret :: tables_1
/-- a 'code' word, met by the world's own term for the bytes: nothing is compared byte by byte -/
theorem code_word {y : MethodName} {bytes : ByteArray} {mx : Nat} {rt : Option FieldType} {a : Array Value} {s : State} {m : MethodId} {meth : Method} {c : Code} (h1 : s.methodNamed? y = some m) (h2 : s.vm.method? m = some meth) (h3 : meth.code = some c) (h4 : c.code = bytes)
    (h5 : (c.maxLocals == mx && c.exceptionTable.isEmpty && decide (c.maxStack ≤ mostOperands) && decide (meth.sig.returnType = rt) && !meth.locks && decide (parseMethodDescriptor y.desc = some meth.sig)) = true) : (Jvm.Cond.code y bytes mx rt).before a s = true := by
  simp only [Bool.and_eq_true, beq_iff_eq, Bool.not_eq_true', decide_eq_true_eq] at h5
  obtain ⟨⟨⟨⟨⟨g1, g2⟩, g3⟩, g4⟩, g5⟩, g6⟩ := h5
  simp [Cond.before, Cond.holds, Cond.value, h1, h2, h3, h4, g1, g2, g3, g4, g5, g6]
def isCode : Jvm.Cond → Bool
  | .code _ _ _ _ => true
  | _ => false
theorem all_split {L : List Jvm.Cond} {P : Jvm.Cond → Bool} (h1 : L.all (fun c => isCode c || P c) = true) (h2 : ∀ c ∈ L.filter isCode, P c = true) : L.all P = true := by
  refine List.all_eq_true.mpr fun c hc => ?_
  have h := List.all_eq_true.mp h1 c hc
  rcases Bool.eq_false_or_eq_true (isCode c) with hi | hi
  · exact h2 c (List.mem_filter.mpr ⟨hc, hi⟩)
  · simpa [hi] using h
set_option maxRecDepth 65536 in
theorem w_c0 : (Jvm.Cond.code x code maxLocals ret).before args0 about1 = true := code_word (m := ⟨1, 3⟩) (meth := k1m3) (c := k1c3) (by decide +kernel) rfl rfl rfl (by decide +kernel)
set_option maxRecDepth 65536 in
theorem w_c1 : (Jvm.Cond.code ({ cls := "heapglass/core/wire/Allowance", name := "<init>", desc := "()V" } : Jvm.MethodName) prog_9_method_1_code (1 : Nat) (Option.none : Option Jvm.ClassFile.FieldType)).before args0 about1 = true := code_word (m := ⟨2, 0⟩) (meth := k2m0) (c := k2c0) (by decide +kernel) rfl rfl rfl (by decide +kernel)
set_option maxRecDepth 65536 in
theorem w_c2 : (Jvm.Cond.code ({ cls := "java/lang/Object", name := "<init>", desc := "()V" } : Jvm.MethodName) object_method_1_code (1 : Nat) (Option.none : Option Jvm.ClassFile.FieldType)).before args0 about1 = true := code_word (m := ⟨0, 0⟩) (meth := k0m0) (c := k0c0) (by decide +kernel) rfl rfl rfl (by decide +kernel)
set_option maxRecDepth 65536 in
theorem w_c3 : (Jvm.Cond.code ({ cls := "heapglass/core/wire/Allowance", name := "isSpent", desc := "()Z" } : Jvm.MethodName) prog_9_method_4_code (1 : Nat) (Option.some Jvm.ClassFile.FieldType.boolean)).before args0 about1 = true := code_word (m := ⟨2, 3⟩) (meth := k2m3) (c := k2c3) (by decide +kernel) rfl rfl rfl (by decide +kernel)
set_option maxRecDepth 65536 in
theorem w_c4 : (Jvm.Cond.code ({ cls := "heapglass/core/wire/AllowanceIsSpentPinLaw", name := "apply", desc := "(Lheapglass/core/wire/Allowance;I)V" } : Jvm.MethodName) method_3_code (2 : Nat) (Option.none : Option Jvm.ClassFile.FieldType)).before args0 about1 = true := code_word (m := ⟨1, 2⟩) (meth := k1m2) (c := k1c2) (by decide +kernel) rfl rfl rfl (by decide +kernel)
set_option maxRecDepth 65536 in
theorem w_c5 : (Jvm.Cond.code ({ cls := "heapglass/core/wire/Allowance", name := "obey", desc := "(Lheapglass/core/wire/Control;)V" } : Jvm.MethodName) prog_9_method_2_code (2 : Nat) (Option.none : Option Jvm.ClassFile.FieldType)).before args0 about1 = true := code_word (m := ⟨2, 1⟩) (meth := k2m1) (c := k2c1) (by decide +kernel) rfl rfl rfl (by decide +kernel)
set_option maxRecDepth 65536 in
theorem w_c6 : (Jvm.Cond.code ({ cls := "java/lang/Enum", name := "ordinal", desc := "()I" } : Jvm.MethodName) jdk_37_method_2_code (1 : Nat) (Option.some Jvm.ClassFile.FieldType.int)).before args0 about1 = true := code_word (m := ⟨6, 0⟩) (meth := k6m0) (c := k6c0) (by decide +kernel) rfl rfl rfl (by decide +kernel)
set_option maxRecDepth 65536 in
theorem w_c7 : (Jvm.Cond.code ({ cls := "java/lang/Math", name := "min", desc := "(JJ)J" } : Jvm.MethodName) jdk_29_method_70_code (4 : Nat) (Option.some Jvm.ClassFile.FieldType.long)).before args0 about1 = true := code_word (m := ⟨9, 1⟩) (meth := k9m1) (c := k9c1) (by decide +kernel) rfl rfl rfl (by decide +kernel)
set_option maxRecDepth 65536 in
theorem w_c8 : (Jvm.Cond.code ({ cls := "heapglass/core/wire/AllowanceIsSpentPinLaw", name := "next", desc := "(JI)J" } : Jvm.MethodName) method_2_code (3 : Nat) (Option.some Jvm.ClassFile.FieldType.long)).before args0 about1 = true := code_word (m := ⟨1, 1⟩) (meth := k1m1) (c := k1c1) (by decide +kernel) rfl rfl rfl (by decide +kernel)
set_option maxRecDepth 65536 in
theorem w_c9 : (Jvm.Cond.code ({ cls := "heapglass/core/wire/Allowance", name := "spend", desc := "()V" } : Jvm.MethodName) prog_9_method_3_code (1 : Nat) (Option.none : Option Jvm.ClassFile.FieldType)).before args0 about1 = true := code_word (m := ⟨2, 2⟩) (meth := k2m2) (c := k2c2) (by decide +kernel) rfl rfl rfl (by decide +kernel)
def codes1 : List Jvm.Cond := [Jvm.Cond.code x code maxLocals ret, Jvm.Cond.code ({ cls := "heapglass/core/wire/Allowance", name := "<init>", desc := "()V" } : Jvm.MethodName) prog_9_method_1_code (1 : Nat) (Option.none : Option Jvm.ClassFile.FieldType), Jvm.Cond.code ({ cls := "java/lang/Object", name := "<init>", desc := "()V" } : Jvm.MethodName) object_method_1_code (1 : Nat) (Option.none : Option Jvm.ClassFile.FieldType), Jvm.Cond.code ({ cls := "heapglass/core/wire/Allowance", name := "isSpent", desc := "()Z" } : Jvm.MethodName) prog_9_method_4_code (1 : Nat) (Option.some Jvm.ClassFile.FieldType.boolean), Jvm.Cond.code ({ cls := "heapglass/core/wire/AllowanceIsSpentPinLaw", name := "apply", desc := "(Lheapglass/core/wire/Allowance;I)V" } : Jvm.MethodName) method_3_code (2 : Nat) (Option.none : Option Jvm.ClassFile.FieldType), Jvm.Cond.code ({ cls := "heapglass/core/wire/Allowance", name := "obey", desc := "(Lheapglass/core/wire/Control;)V" } : Jvm.MethodName) prog_9_method_2_code (2 : Nat) (Option.none : Option Jvm.ClassFile.FieldType), Jvm.Cond.code ({ cls := "java/lang/Enum", name := "ordinal", desc := "()I" } : Jvm.MethodName) jdk_37_method_2_code (1 : Nat) (Option.some Jvm.ClassFile.FieldType.int), Jvm.Cond.code ({ cls := "java/lang/Math", name := "min", desc := "(JJ)J" } : Jvm.MethodName) jdk_29_method_70_code (4 : Nat) (Option.some Jvm.ClassFile.FieldType.long), Jvm.Cond.code ({ cls := "heapglass/core/wire/AllowanceIsSpentPinLaw", name := "next", desc := "(JI)J" } : Jvm.MethodName) method_2_code (3 : Nat) (Option.some Jvm.ClassFile.FieldType.long), Jvm.Cond.code ({ cls := "heapglass/core/wire/Allowance", name := "spend", desc := "()V" } : Jvm.MethodName) prog_9_method_3_code (1 : Nat) (Option.none : Option Jvm.ClassFile.FieldType)]
set_option maxRecDepth 65536 in
theorem codes_eq : words1.filter isCode = codes1 := rfl
theorem w_codes : ∀ c ∈ words1.filter isCode, c.before args0 about1 = true := by
  rw [codes_eq]
  intro c hc
  simp only [codes1, List.mem_cons, List.not_mem_nil, or_false] at hc
  rcases hc with rfl | rfl | rfl | rfl | rfl | rfl | rfl | rfl | rfl | rfl
  · exact w_c0
  · exact w_c1
  · exact w_c2
  · exact w_c3
  · exact w_c4
  · exact w_c5
  · exact w_c6
  · exact w_c7
  · exact w_c8
  · exact w_c9
set_option maxRecDepth 65536 in
theorem w_t1 : (words1.take 24).all (fun c => isCode c || c.before args0 about1) = true := by decide +kernel
set_option maxRecDepth 65536 in
theorem w_t2 : ((words1.drop 24).take 24).all (fun c => isCode c || c.before args0 about1) = true := by decide +kernel
set_option maxRecDepth 65536 in
theorem w_t3 : ((words1.drop 24).drop 24).all (fun c => isCode c || c.before args0 about1) = true := by decide +kernel
theorem w_tables : (allAtoms (Jvm.Cond.code x code maxLocals ret :: tables_1)).before args0 about1 = true := by
  rw [allAtoms_all]
  show words1.all (fun c => c.before args0 about1) = true
  refine all_split ?_ w_codes
  rw [← List.take_append_drop 24 words1, List.all_append, w_t1, ← List.take_append_drop 24 (words1.drop 24), List.all_append, w_t2, w_t3]
  rfl
set_option maxRecDepth 65536 in
theorem w_case : (Jvm.Cond.and given_1 narrow_1).before args0 about1 = true := by decide +kernel
theorem w_applies : (headSpec (Jvm.Cond.code x code maxLocals ret :: tables_1) room_1).applies x e0.platform about1 = true :=
  (Spec.applies_iff w_frames).mpr ⟨w_running, w_runnable, w_alone, w_named, w_hears, w_ripe, w_room, w_tables⟩
theorem atStart : AtStart classFile x code maxLocals ret World_1 tables_1 room_1 Calls_1 rest_1 Pre_1 launch0 p0 e0 about1 theMethod args0 below0 :=
  ⟨lists_1, trivial, launch0.admits_env _ _ _, launch0.least_env, fairChoices_fair.cas, fairChoices_fair.clock, w_frames, w_args, w_heap, w_applies, trivial, trivial, w_case⟩
end start1
theorem witness_1 : WitnessClaimed_1 := ⟨start1.p0, start1.e0, start1.about1, start1.theMethod, start1.args0, start1.below0, start1.atStart⟩
end Jvm.Pilot.@@N@@
