import JvmDerived
import JvmDerived.Pilot.@@N@@Statement
import JvmDerived.Pilot.@@N@@Code
set_option linter.unusedVariables false
set_option linter.unusedSimpArgs false
namespace Jvm.OwnKit
open Sem ClassFile Op Lib Jvm.Stand Jvm.Free Jvm.LawKit Jvm.RoadKit
section Own
variable {p : Program} {l : Launch} {e : Env} {R : Room} {s : State} {m : MethodId} {args : Array Value} {below : List Frame} {meth : Method} {c : Code} {T : State} {locs : List Loc} {cells slots : Nat} {Z : State} {a0 : Array Value} {h : Heap} {bytes : ByteArray} {pc : Nat} {Ls : Array Slot} {st : List Value} {cs ss : Nat} {Q : Option Value → Heap → List Loc → Prop}
/-- from the state T with the frame F on top the run comes to the method's end, returns, and Q holds of what it returned, of the heap and of the places written -/
def zEnds (p : Program) (e : Env) (below : List Frame) (s T : State) (F : JFrame) (cs ss : Nat) (Q : Option Value → Heap → List Loc → Prop) : Prop :=
  ∃ s₂ o, Steps p.tables e below (T.setTop F) s₂ ∧ s₂.status = .running ∧ Ended s₂ below o ∧ ∃ v L, o = .returned v ∧ Q v s₂.heap L ∧ FrameEnd s o s₂ L cs ss
theorem zstp {T T' : State} {F F' : JFrame} (st : ∀ target, Steps p.tables e below (T'.setTop F') target → Steps p.tables e below (T.setTop F) target) (k : zEnds p e below s T' F' cs ss Q) : zEnds p e below s T F cs ss Q := by
  obtain ⟨s2, o, h1, r⟩ := k; exact ⟨s2, o, st _ h1, r⟩
/-- what a callee promises: with these arguments, over this heap, it returns, and Q holds -/
def zCon (l : Launch) (Z : State) (y : MethodName) (bytes : ByteArray) (maxL : Nat) (ret : Option FieldType) (ws : List Jvm.Cond) (rm : Room) (as' : Array Value) (h0 : Heap) (Q : Option Value → Heap → List Loc → Prop) : Prop :=
  MetFree l y (head1 (Jvm.Cond.code y bytes maxL ret :: ws) rm) (fun a U => a = as' ∧ Z.Warmed39 U.vm ∧ U.heap = h0) (fun _ _ _ _ _ => True) (fun _ U o U' => ∃ v L, o = .returned v ∧ Q v U'.heap L ∧ FrameEnd U o U' L rm.cells rm.slots)
/-- a callee that writes nothing -/
def zSame (v : Option Value) (h0 : Heap) : Option Value → Heap → List Loc → Prop := fun v' h L => v' = v ∧ h = h0 ∧ L = []
theorem zenter {y : MethodName} {maxL : Nat} {ret : Option FieldType} {ws : List Jvm.Cond} {rm : Room} {as' : Array Value} {h0 : Heap} (hpl : plainFor y = true) {L0 : Array Slot} (hef : ∀ m, entryFrame m as' maxL = mkF m 0 L0 [])
    (H : ∀ (p : Program) (e : Env) (s : State) (m : MethodId) (below : List Frame) (meth : Method) (c : Code) (T : State), p.tables.exec = Jvm.exec → Z.Warmed39 s.vm → c.code = bytes → c.maxLocals = maxL → s.vm.findClass y.cls = some m.cls → meth.name = y.name → meth.sig.returnType = ret → meth.locks = false →
      Stand p l e rm s m as' below meth c T [] 0 0 → T.heap = h0 → zEnds p e below s T (mkF m 0 L0 []) rm.cells rm.slots Q) : zCon l Z y bytes maxL ret ws rm as' h0 Q := by
  refine MetFree.of_bodySF hpl hisR ?_
  intro p e s m args below meth c s₁ Bd hml0 hP hK
  obtain ⟨rfl, hZ, hh⟩ := hP
  have := H p e s m below meth c s₁ Bd.exec hZ Bd.bytes hml0 (findClass_of_methodNamed Bd.named) (name_of_methodNamed Bd.named Bd.method).1 Bd.returns Bd.notSynchronized (Stand.of_body Bd) (by rw [← hh, Bd.state]; rfl)
  rw [← hef m] at this
  exact this
theorem zCon.weak {y : MethodName} {maxL : Nat} {ret : Option FieldType} {ws : List Jvm.Cond} {rm : Room} {as' : Array Value} {h0 : Heap} {Q' : Option Value → Heap → List Loc → Prop} (C : zCon l Z y bytes maxL ret ws rm as' h0 Q) (q : ∀ v h L, Q v h L → Q' v h L) : zCon l Z y bytes maxL ret ws rm as' h0 Q' := by
  intro p e ha hc hk s m args below hf happ hP hK
  obtain ⟨n, o, h1, h2, h3, v, L, h4, h5, h6⟩ := C p e ha hc hk s m args below hf happ hP hK
  exact ⟨n, o, h1, h2, h3, v, L, h4, q v _ L h5, h6⟩
theorem zsameTo {T : State} {F : JFrame} {a b : Value} {h0 : Heap} (k : zEnds p e below s T F cs ss (zSame (some a) h0)) (q : a = b) : zEnds p e below s T F cs ss (zSame (some b) h0) := q ▸ k
/-! returns -/
theorem zretG {w : Value} {t : FieldType} {i : Instr} (X : Stand p l e R s m args below meth c T locs cells slots) (hx : p.tables.exec = Jvm.exec) (hby : c.code = bytes) (hd : decode bytes pc = .ok (i, 1)) (hret : meth.sig.returnType = some t) (hlk : meth.locks = false) (hn : narrow t w = w)
    (hi : (i = .ireturn ∧ (t = .int ∨ t = .boolean ∨ t = .byte ∨ t = .char ∨ t = .short) ∧ ∃ z, w = .int z) ∨ (i = .lreturn ∧ t = .long ∧ ∃ z, w = .long z) ∨ (i = .dreturn ∧ t = .double ∧ ∃ z, w = .double z) ∨ (i = .freturn ∧ t = .float ∧ ∃ z, w = .float z) ∨ (i = .areturn ∧ t.isReference = true ∧ w.isRef = true))
    (hc : cells ≤ cs) (hs : slots ≤ ss) (hq : Q (some w) T.heap locs) : zEnds p e below s T (mkF m pc Ls (w :: st)) cs ss Q := by
  obtain ⟨fs, hr, hrun, hended, hW, hsame⟩ := X.leave (v := some w) (fun q => by rw [hret] at q; cases q) hlk
  exact ⟨_, _, retOut X hx hret hn hi (hb hby hd) hr, hrun, hended, _, _, rfl, hq, ⟨_, rfl⟩, hW, hsame.mono hc hs⟩
theorem zretI {z : Int32} (X : Stand p l e R s m args below meth c T locs cells slots) (hx : p.tables.exec = Jvm.exec) (hby : c.code = bytes) (hd : decode bytes pc = .ok (.ireturn, 1)) (hret : meth.sig.returnType = some .int) (hlk : meth.locks = false) (hc : cells ≤ cs) (hs : slots ≤ ss) (hq : Q (some (.int z)) T.heap locs) : zEnds p e below s T (mkF m pc Ls (.int z :: st)) cs ss Q :=
  zretG X hx hby hd hret hlk rfl (Or.inl ⟨rfl, Or.inl rfl, z, rfl⟩) hc hs hq
theorem zretZ {z : Int32} {t : FieldType} (X : Stand p l e R s m args below meth c T locs cells slots) (hx : p.tables.exec = Jvm.exec) (hby : c.code = bytes) (hd : decode bytes pc = .ok (.ireturn, 1)) (hret : meth.sig.returnType = some t) (hlk : meth.locks = false) (ht : t = .boolean ∨ t = .byte ∨ t = .char ∨ t = .short) (hn : narrow t (.int z) = .int z) (hc : cells ≤ cs) (hs : slots ≤ ss) (hq : Q (some (.int z)) T.heap locs) : zEnds p e below s T (mkF m pc Ls (.int z :: st)) cs ss Q :=
  zretG X hx hby hd hret hlk hn (Or.inl ⟨rfl, Or.inr ht, z, rfl⟩) hc hs hq
theorem zretL {z : Int64} (X : Stand p l e R s m args below meth c T locs cells slots) (hx : p.tables.exec = Jvm.exec) (hby : c.code = bytes) (hd : decode bytes pc = .ok (.lreturn, 1)) (hret : meth.sig.returnType = some .long) (hlk : meth.locks = false) (hc : cells ≤ cs) (hs : slots ≤ ss) (hq : Q (some (.long z)) T.heap locs) : zEnds p e below s T (mkF m pc Ls (.long z :: st)) cs ss Q :=
  zretG X hx hby hd hret hlk rfl (Or.inr (Or.inl ⟨rfl, rfl, z, rfl⟩)) hc hs hq
theorem zretA {w : Value} {t : FieldType} (X : Stand p l e R s m args below meth c T locs cells slots) (hx : p.tables.exec = Jvm.exec) (hby : c.code = bytes) (hd : decode bytes pc = .ok (.areturn, 1)) (hret : meth.sig.returnType = some t) (hlk : meth.locks = false) (ht : t.isReference = true) (hw : w.isRef = true) (hn : narrow t w = w) (hc : cells ≤ cs) (hs : slots ≤ ss) (hq : Q (some w) T.heap locs) : zEnds p e below s T (mkF m pc Ls (w :: st)) cs ss Q :=
  zretG X hx hby hd hret hlk hn (Or.inr (Or.inr (Or.inr (Or.inr ⟨rfl, ht, hw⟩)))) hc hs hq
theorem zretV (X : Stand p l e R s m args below meth c T locs cells slots) (hx : p.tables.exec = Jvm.exec) (hby : c.code = bytes) (hd : decode bytes pc = .ok (.return_, 1)) (hret : meth.sig.returnType = none) (hlk : meth.locks = false) (hc : cells ≤ cs) (hs : slots ≤ ss) (hq : Q none T.heap locs) : zEnds p e below s T (mkF m pc Ls []) cs ss Q := by
  obtain ⟨fs, hr, hrun, hended, hW, hsame⟩ := X.leave (v := none) (fun _ => rfl) hlk
  exact ⟨_, _, X.returnOut hx hret (hb hby hd) hr, hrun, hended, _, _, rfl, hq, ⟨_, rfl⟩, hW, hsame.mono hc hs⟩
/-! single steps -/

theorem ziloadN (X : Stand p l e R s m args below meth c T locs cells slots) (hx : p.tables.exec = Jvm.exec) (hby : c.code = bytes) {k : Fin 4} {v : Int32} (hd : decode bytes pc = .ok (.iload_n k, 1)) (hl : Ls[k.val]? = some (.val (.int v))) (r : zEnds p e below s T (mkF m (pc + 1) Ls (.int v :: st)) cs ss Q) : zEnds p e below s T (mkF m pc Ls st) cs ss Q := zstp (fun _ k => XS.iloadN X.here hx rfl (hb hby hd) hl k) r
theorem ziload (X : Stand p l e R s m args below meth c T locs cells slots) (hx : p.tables.exec = Jvm.exec) (hby : c.code = bytes) {k : Nat} {v : Int32} (hd : decode bytes pc = .ok (.iload k, 2)) (hl : Ls[k]? = some (.val (.int v))) (r : zEnds p e below s T (mkF m (pc + 2) Ls (.int v :: st)) cs ss Q) : zEnds p e below s T (mkF m pc Ls st) cs ss Q := zstp (fun _ k => XS.iload X.here hx rfl (hb hby hd) hl k) r
theorem zlloadN (X : Stand p l e R s m args below meth c T locs cells slots) (hx : p.tables.exec = Jvm.exec) (hby : c.code = bytes) {k : Fin 4} {v : Int64} (hd : decode bytes pc = .ok (.lload_n k, 1)) (hl : Ls[k.val]? = some (.val (.long v))) (r : zEnds p e below s T (mkF m (pc + 1) Ls (.long v :: st)) cs ss Q) : zEnds p e below s T (mkF m pc Ls st) cs ss Q := zstp (fun _ k => XS.lloadN X.here hx rfl (hb hby hd) hl k) r
theorem zlload (X : Stand p l e R s m args below meth c T locs cells slots) (hx : p.tables.exec = Jvm.exec) (hby : c.code = bytes) {k : Nat} {v : Int64} (hd : decode bytes pc = .ok (.lload k, 2)) (hl : Ls[k]? = some (.val (.long v))) (r : zEnds p e below s T (mkF m (pc + 2) Ls (.long v :: st)) cs ss Q) : zEnds p e below s T (mkF m pc Ls st) cs ss Q := zstp (fun _ k => XS.lload X.here hx rfl (hb hby hd) hl k) r
theorem zaloadN (X : Stand p l e R s m args below meth c T locs cells slots) (hx : p.tables.exec = Jvm.exec) (hby : c.code = bytes) {k : Fin 4} {v : Value} (hd : decode bytes pc = .ok (.aload_n k, 1)) (hl : Ls[k.val]? = some (.val v)) (hv : v.isRef = true) (r : zEnds p e below s T (mkF m (pc + 1) Ls (v :: st)) cs ss Q) : zEnds p e below s T (mkF m pc Ls st) cs ss Q := zstp (fun _ k => XS.aloadN X.here hx rfl (hb hby hd) hl hv k) r
theorem zaload (X : Stand p l e R s m args below meth c T locs cells slots) (hx : p.tables.exec = Jvm.exec) (hby : c.code = bytes) {k : Nat} {v : Value} (hd : decode bytes pc = .ok (.aload k, 2)) (hl : Ls[k]? = some (.val v)) (hv : v.isRef = true) (r : zEnds p e below s T (mkF m (pc + 2) Ls (v :: st)) cs ss Q) : zEnds p e below s T (mkF m pc Ls st) cs ss Q := zstp (fun _ k => XS.aload X.here hx rfl (hb hby hd) hl hv k) r
theorem zistoreN (X : Stand p l e R s m args below meth c T locs cells slots) (hx : p.tables.exec = Jvm.exec) (hby : c.code = bytes) {k : Fin 4} {v : Int32} (hd : decode bytes pc = .ok (.istore_n k, 1)) (L' : Array Slot) (hl : storeLocals Ls k.val (.int v) = some L') (r : zEnds p e below s T (mkF m (pc + 1) L' st) cs ss Q) : zEnds p e below s T (mkF m pc Ls (.int v :: st)) cs ss Q := zstp (fun _ k => XS.istoreN X.here hx rfl (hb hby hd) rfl hl k) r
theorem zistore (X : Stand p l e R s m args below meth c T locs cells slots) (hx : p.tables.exec = Jvm.exec) (hby : c.code = bytes) {k : Nat} {v : Int32} (hd : decode bytes pc = .ok (.istore k, 2)) (L' : Array Slot) (hl : storeLocals Ls k (.int v) = some L') (r : zEnds p e below s T (mkF m (pc + 2) L' st) cs ss Q) : zEnds p e below s T (mkF m pc Ls (.int v :: st)) cs ss Q := zstp (fun _ k => XS.istore X.here hx rfl (hb hby hd) rfl hl k) r
theorem zlstoreN (X : Stand p l e R s m args below meth c T locs cells slots) (hx : p.tables.exec = Jvm.exec) (hby : c.code = bytes) {k : Fin 4} {v : Int64} (hd : decode bytes pc = .ok (.lstore_n k, 1)) (L' : Array Slot) (hl : storeLocals Ls k.val (.long v) = some L') (r : zEnds p e below s T (mkF m (pc + 1) L' st) cs ss Q) : zEnds p e below s T (mkF m pc Ls (.long v :: st)) cs ss Q := zstp (fun _ k => XS.lstoreN X.here hx rfl (hb hby hd) rfl hl k) r
theorem zlstore (X : Stand p l e R s m args below meth c T locs cells slots) (hx : p.tables.exec = Jvm.exec) (hby : c.code = bytes) {k : Nat} {v : Int64} (hd : decode bytes pc = .ok (.lstore k, 2)) (L' : Array Slot) (hl : storeLocals Ls k (.long v) = some L') (r : zEnds p e below s T (mkF m (pc + 2) L' st) cs ss Q) : zEnds p e below s T (mkF m pc Ls (.long v :: st)) cs ss Q := zstp (fun _ k => XS.lstore X.here hx rfl (hb hby hd) rfl hl k) r
theorem zastoreN (X : Stand p l e R s m args below meth c T locs cells slots) (hx : p.tables.exec = Jvm.exec) (hby : c.code = bytes) {k : Fin 4} {v : Value} (hd : decode bytes pc = .ok (.astore_n k, 1)) (L' : Array Slot) (hv : v.isRef = true) (hl : storeLocals Ls k.val v = some L') (r : zEnds p e below s T (mkF m (pc + 1) L' st) cs ss Q) : zEnds p e below s T (mkF m pc Ls (v :: st)) cs ss Q := zstp (fun _ k => XS.astoreN X.here hx rfl (hb hby hd) rfl hv hl k) r
theorem zastore (X : Stand p l e R s m args below meth c T locs cells slots) (hx : p.tables.exec = Jvm.exec) (hby : c.code = bytes) {k : Nat} {v : Value} (hd : decode bytes pc = .ok (.astore k, 2)) (L' : Array Slot) (hv : v.isRef = true) (hl : storeLocals Ls k v = some L') (r : zEnds p e below s T (mkF m (pc + 2) L' st) cs ss Q) : zEnds p e below s T (mkF m pc Ls (v :: st)) cs ss Q := zstp (fun _ k => XS.astore X.here hx rfl (hb hby hd) rfl hv hl k) r
theorem ziconst (X : Stand p l e R s m args below meth c T locs cells slots) (hx : p.tables.exec = Jvm.exec) (hby : c.code = bytes) {i : Int} (hd : decode bytes pc = .ok (.iconst i, 1)) (z : Int32) (hz : Int32.ofInt i = z) (r : zEnds p e below s T (mkF m (pc + 1) Ls (.int z :: st)) cs ss Q) : zEnds p e below s T (mkF m pc Ls st) cs ss Q := zstp (fun _ k => XS.iconst X.here hx rfl (hb hby hd) (hz ▸ k)) r
theorem zbipush (X : Stand p l e R s m args below meth c T locs cells slots) (hx : p.tables.exec = Jvm.exec) (hby : c.code = bytes) {i : Int} (hd : decode bytes pc = .ok (.bipush i, 2)) (z : Int32) (hz : (Int8.ofInt i).toInt32 = z) (r : zEnds p e below s T (mkF m (pc + 2) Ls (.int z :: st)) cs ss Q) : zEnds p e below s T (mkF m pc Ls st) cs ss Q := zstp (fun _ k => XS.bipush X.here hx rfl (hb hby hd) (hz ▸ k)) r
theorem zsipush (X : Stand p l e R s m args below meth c T locs cells slots) (hx : p.tables.exec = Jvm.exec) (hby : c.code = bytes) {i : Int} (hd : decode bytes pc = .ok (.sipush i, 3)) (z : Int32) (hz : (Int16.ofInt i).toInt32 = z) (r : zEnds p e below s T (mkF m (pc + 3) Ls (.int z :: st)) cs ss Q) : zEnds p e below s T (mkF m pc Ls st) cs ss Q := zstp (fun _ k => XS.sipush X.here hx rfl (hb hby hd) (hz ▸ k)) r
theorem zlconst (X : Stand p l e R s m args below meth c T locs cells slots) (hx : p.tables.exec = Jvm.exec) (hby : c.code = bytes) {i : Fin 2} (hd : decode bytes pc = .ok (.lconst i, 1)) (z : Int64) (hz : Int64.ofNat i = z) (r : zEnds p e below s T (mkF m (pc + 1) Ls (.long z :: st)) cs ss Q) : zEnds p e below s T (mkF m pc Ls st) cs ss Q := zstp (fun _ k => XS.lconst X.here hx rfl (hb hby hd) (hz ▸ k)) r
theorem zaconstNull (X : Stand p l e R s m args below meth c T locs cells slots) (hx : p.tables.exec = Jvm.exec) (hby : c.code = bytes)  (hd : decode bytes pc = .ok (.aconst_null, 1))  (r : zEnds p e below s T (mkF m (pc + 1) Ls (.null :: st)) cs ss Q) : zEnds p e below s T (mkF m pc Ls st) cs ss Q := zstp (fun _ k => XS.aconstNull X.here hx rfl (hb hby hd) k) r
theorem ziadd (X : Stand p l e R s m args below meth c T locs cells slots) (hx : p.tables.exec = Jvm.exec) (hby : c.code = bytes) {x y : Int32} (hd : decode bytes pc = .ok (.iadd, 1)) (z : Int32) (hz : x + y = z) (r : zEnds p e below s T (mkF m (pc + 1) Ls (.int z :: st)) cs ss Q) : zEnds p e below s T (mkF m pc Ls (.int y :: .int x :: st)) cs ss Q := zstp (fun _ k => XS.iadd X.here hx rfl (hb hby hd) rfl (hz ▸ k)) r
theorem zisub (X : Stand p l e R s m args below meth c T locs cells slots) (hx : p.tables.exec = Jvm.exec) (hby : c.code = bytes) {x y : Int32} (hd : decode bytes pc = .ok (.isub, 1)) (z : Int32) (hz : x - y = z) (r : zEnds p e below s T (mkF m (pc + 1) Ls (.int z :: st)) cs ss Q) : zEnds p e below s T (mkF m pc Ls (.int y :: .int x :: st)) cs ss Q := zstp (fun _ k => XS.isub X.here hx rfl (hb hby hd) rfl (hz ▸ k)) r
theorem zimul (X : Stand p l e R s m args below meth c T locs cells slots) (hx : p.tables.exec = Jvm.exec) (hby : c.code = bytes) {x y : Int32} (hd : decode bytes pc = .ok (.imul, 1)) (z : Int32) (hz : x * y = z) (r : zEnds p e below s T (mkF m (pc + 1) Ls (.int z :: st)) cs ss Q) : zEnds p e below s T (mkF m pc Ls (.int y :: .int x :: st)) cs ss Q := zstp (fun _ k => XS.imul X.here hx rfl (hb hby hd) rfl (hz ▸ k)) r
theorem ziand (X : Stand p l e R s m args below meth c T locs cells slots) (hx : p.tables.exec = Jvm.exec) (hby : c.code = bytes) {x y : Int32} (hd : decode bytes pc = .ok (.iand, 1)) (z : Int32) (hz : x &&& y = z) (r : zEnds p e below s T (mkF m (pc + 1) Ls (.int z :: st)) cs ss Q) : zEnds p e below s T (mkF m pc Ls (.int y :: .int x :: st)) cs ss Q := zstp (fun _ k => XS.iand X.here hx rfl (hb hby hd) rfl (hz ▸ k)) r
theorem zior (X : Stand p l e R s m args below meth c T locs cells slots) (hx : p.tables.exec = Jvm.exec) (hby : c.code = bytes) {x y : Int32} (hd : decode bytes pc = .ok (.ior, 1)) (z : Int32) (hz : x ||| y = z) (r : zEnds p e below s T (mkF m (pc + 1) Ls (.int z :: st)) cs ss Q) : zEnds p e below s T (mkF m pc Ls (.int y :: .int x :: st)) cs ss Q := zstp (fun _ k => XS.ior X.here hx rfl (hb hby hd) rfl (hz ▸ k)) r
theorem zixor (X : Stand p l e R s m args below meth c T locs cells slots) (hx : p.tables.exec = Jvm.exec) (hby : c.code = bytes) {x y : Int32} (hd : decode bytes pc = .ok (.ixor, 1)) (z : Int32) (hz : x ^^^ y = z) (r : zEnds p e below s T (mkF m (pc + 1) Ls (.int z :: st)) cs ss Q) : zEnds p e below s T (mkF m pc Ls (.int y :: .int x :: st)) cs ss Q := zstp (fun _ k => XS.ixor X.here hx rfl (hb hby hd) rfl (hz ▸ k)) r
theorem zishl (X : Stand p l e R s m args below meth c T locs cells slots) (hx : p.tables.exec = Jvm.exec) (hby : c.code = bytes) {x y : Int32} (hd : decode bytes pc = .ok (.ishl, 1)) (z : Int32) (hz : x <<< (y &&& 31) = z) (r : zEnds p e below s T (mkF m (pc + 1) Ls (.int z :: st)) cs ss Q) : zEnds p e below s T (mkF m pc Ls (.int y :: .int x :: st)) cs ss Q := zstp (fun _ k => XS.ishl X.here hx rfl (hb hby hd) rfl (hz ▸ k)) r
theorem zishr (X : Stand p l e R s m args below meth c T locs cells slots) (hx : p.tables.exec = Jvm.exec) (hby : c.code = bytes) {x y : Int32} (hd : decode bytes pc = .ok (.ishr, 1)) (z : Int32) (hz : x >>> (y &&& 31) = z) (r : zEnds p e below s T (mkF m (pc + 1) Ls (.int z :: st)) cs ss Q) : zEnds p e below s T (mkF m pc Ls (.int y :: .int x :: st)) cs ss Q := zstp (fun _ k => XS.ishr X.here hx rfl (hb hby hd) rfl (hz ▸ k)) r
theorem ziushr (X : Stand p l e R s m args below meth c T locs cells slots) (hx : p.tables.exec = Jvm.exec) (hby : c.code = bytes) {x y : Int32} (hd : decode bytes pc = .ok (.iushr, 1)) (z : Int32) (hz : (x.toUInt32 >>> (y &&& 31).toUInt32).toInt32 = z) (r : zEnds p e below s T (mkF m (pc + 1) Ls (.int z :: st)) cs ss Q) : zEnds p e below s T (mkF m pc Ls (.int y :: .int x :: st)) cs ss Q := zstp (fun _ k => XS.iushr X.here hx rfl (hb hby hd) rfl (hz ▸ k)) r
theorem zladd (X : Stand p l e R s m args below meth c T locs cells slots) (hx : p.tables.exec = Jvm.exec) (hby : c.code = bytes) {x y : Int64} (hd : decode bytes pc = .ok (.ladd, 1)) (z : Int64) (hz : x + y = z) (r : zEnds p e below s T (mkF m (pc + 1) Ls (.long z :: st)) cs ss Q) : zEnds p e below s T (mkF m pc Ls (.long y :: .long x :: st)) cs ss Q := zstp (fun _ k => XS.ladd X.here hx rfl (hb hby hd) rfl (hz ▸ k)) r
theorem zlsub (X : Stand p l e R s m args below meth c T locs cells slots) (hx : p.tables.exec = Jvm.exec) (hby : c.code = bytes) {x y : Int64} (hd : decode bytes pc = .ok (.lsub, 1)) (z : Int64) (hz : x - y = z) (r : zEnds p e below s T (mkF m (pc + 1) Ls (.long z :: st)) cs ss Q) : zEnds p e below s T (mkF m pc Ls (.long y :: .long x :: st)) cs ss Q := zstp (fun _ k => XS.lsub X.here hx rfl (hb hby hd) rfl (hz ▸ k)) r
theorem zlmul (X : Stand p l e R s m args below meth c T locs cells slots) (hx : p.tables.exec = Jvm.exec) (hby : c.code = bytes) {x y : Int64} (hd : decode bytes pc = .ok (.lmul, 1)) (z : Int64) (hz : x * y = z) (r : zEnds p e below s T (mkF m (pc + 1) Ls (.long z :: st)) cs ss Q) : zEnds p e below s T (mkF m pc Ls (.long y :: .long x :: st)) cs ss Q := zstp (fun _ k => XS.lmul X.here hx rfl (hb hby hd) rfl (hz ▸ k)) r
theorem zland (X : Stand p l e R s m args below meth c T locs cells slots) (hx : p.tables.exec = Jvm.exec) (hby : c.code = bytes) {x y : Int64} (hd : decode bytes pc = .ok (.land, 1)) (z : Int64) (hz : x &&& y = z) (r : zEnds p e below s T (mkF m (pc + 1) Ls (.long z :: st)) cs ss Q) : zEnds p e below s T (mkF m pc Ls (.long y :: .long x :: st)) cs ss Q := zstp (fun _ k => XS.land X.here hx rfl (hb hby hd) rfl (hz ▸ k)) r
theorem zlor (X : Stand p l e R s m args below meth c T locs cells slots) (hx : p.tables.exec = Jvm.exec) (hby : c.code = bytes) {x y : Int64} (hd : decode bytes pc = .ok (.lor, 1)) (z : Int64) (hz : x ||| y = z) (r : zEnds p e below s T (mkF m (pc + 1) Ls (.long z :: st)) cs ss Q) : zEnds p e below s T (mkF m pc Ls (.long y :: .long x :: st)) cs ss Q := zstp (fun _ k => XS.lor X.here hx rfl (hb hby hd) rfl (hz ▸ k)) r
theorem zlxor (X : Stand p l e R s m args below meth c T locs cells slots) (hx : p.tables.exec = Jvm.exec) (hby : c.code = bytes) {x y : Int64} (hd : decode bytes pc = .ok (.lxor, 1)) (z : Int64) (hz : x ^^^ y = z) (r : zEnds p e below s T (mkF m (pc + 1) Ls (.long z :: st)) cs ss Q) : zEnds p e below s T (mkF m pc Ls (.long y :: .long x :: st)) cs ss Q := zstp (fun _ k => XS.lxor X.here hx rfl (hb hby hd) rfl (hz ▸ k)) r
theorem zlshl (X : Stand p l e R s m args below meth c T locs cells slots) (hx : p.tables.exec = Jvm.exec) (hby : c.code = bytes) {x : Int64} {y : Int32} (hd : decode bytes pc = .ok (.lshl, 1)) (z : Int64) (hz : x <<< (y &&& 0x3f).toInt64 = z) (r : zEnds p e below s T (mkF m (pc + 1) Ls (.long z :: st)) cs ss Q) : zEnds p e below s T (mkF m pc Ls (.int y :: .long x :: st)) cs ss Q := zstp (fun _ k => XS.lshl X.here hx rfl (hb hby hd) rfl (hz ▸ k)) r
theorem zlshr (X : Stand p l e R s m args below meth c T locs cells slots) (hx : p.tables.exec = Jvm.exec) (hby : c.code = bytes) {x : Int64} {y : Int32} (hd : decode bytes pc = .ok (.lshr, 1)) (z : Int64) (hz : x >>> (y &&& 0x3f).toInt64 = z) (r : zEnds p e below s T (mkF m (pc + 1) Ls (.long z :: st)) cs ss Q) : zEnds p e below s T (mkF m pc Ls (.int y :: .long x :: st)) cs ss Q := zstp (fun _ k => XS.lshr X.here hx rfl (hb hby hd) rfl (hz ▸ k)) r
theorem zlushr (X : Stand p l e R s m args below meth c T locs cells slots) (hx : p.tables.exec = Jvm.exec) (hby : c.code = bytes) {x : Int64} {y : Int32} (hd : decode bytes pc = .ok (.lushr, 1)) (z : Int64) (hz : (x.toUInt64 >>> (y &&& 0x3f).toInt64.toUInt64).toInt64 = z) (r : zEnds p e below s T (mkF m (pc + 1) Ls (.long z :: st)) cs ss Q) : zEnds p e below s T (mkF m pc Ls (.int y :: .long x :: st)) cs ss Q := zstp (fun _ k => XS.lushr X.here hx rfl (hb hby hd) rfl (hz ▸ k)) r
theorem zineg (X : Stand p l e R s m args below meth c T locs cells slots) (hx : p.tables.exec = Jvm.exec) (hby : c.code = bytes) {x : Int32} (hd : decode bytes pc = .ok (.ineg, 1)) (z : Int32) (hz : -x = z) (r : zEnds p e below s T (mkF m (pc + 1) Ls (.int z :: st)) cs ss Q) : zEnds p e below s T (mkF m pc Ls (.int x :: st)) cs ss Q := zstp (fun _ k => XS.ineg X.here hx rfl (hb hby hd) rfl (hz ▸ k)) r
theorem zlneg (X : Stand p l e R s m args below meth c T locs cells slots) (hx : p.tables.exec = Jvm.exec) (hby : c.code = bytes) {x : Int64} (hd : decode bytes pc = .ok (.lneg, 1)) (z : Int64) (hz : -x = z) (r : zEnds p e below s T (mkF m (pc + 1) Ls (.long z :: st)) cs ss Q) : zEnds p e below s T (mkF m pc Ls (.long x :: st)) cs ss Q := zstp (fun _ k => XS.lneg X.here hx rfl (hb hby hd) rfl (hz ▸ k)) r
theorem zidiv (X : Stand p l e R s m args below meth c T locs cells slots) (hx : p.tables.exec = Jvm.exec) (hby : c.code = bytes) {x y : Int32} (hd : decode bytes pc = .ok (.idiv, 1)) (z : Int32) (hy : y ≠ 0) (hz : x / y = z) (r : zEnds p e below s T (mkF m (pc + 1) Ls (.int z :: st)) cs ss Q) : zEnds p e below s T (mkF m pc Ls (.int y :: .int x :: st)) cs ss Q := zstp (fun _ k => XS.idiv X.here hx rfl (hb hby hd) rfl hy (hz ▸ k)) r
theorem zirem (X : Stand p l e R s m args below meth c T locs cells slots) (hx : p.tables.exec = Jvm.exec) (hby : c.code = bytes) {x y : Int32} (hd : decode bytes pc = .ok (.irem, 1)) (z : Int32) (hy : y ≠ 0) (hz : x % y = z) (r : zEnds p e below s T (mkF m (pc + 1) Ls (.int z :: st)) cs ss Q) : zEnds p e below s T (mkF m pc Ls (.int y :: .int x :: st)) cs ss Q := zstp (fun _ k => iremM X hx rfl (hb hby hd) rfl hy (hz ▸ k)) r
theorem zldiv (X : Stand p l e R s m args below meth c T locs cells slots) (hx : p.tables.exec = Jvm.exec) (hby : c.code = bytes) {x y : Int64} (hd : decode bytes pc = .ok (.ldiv, 1)) (z : Int64) (hy : y ≠ 0) (hz : x / y = z) (r : zEnds p e below s T (mkF m (pc + 1) Ls (.long z :: st)) cs ss Q) : zEnds p e below s T (mkF m pc Ls (.long y :: .long x :: st)) cs ss Q := zstp (fun _ k => XS.ldiv X.here hx rfl (hb hby hd) rfl hy (hz ▸ k)) r
theorem zlrem (X : Stand p l e R s m args below meth c T locs cells slots) (hx : p.tables.exec = Jvm.exec) (hby : c.code = bytes) {x y : Int64} (hd : decode bytes pc = .ok (.lrem, 1)) (z : Int64) (hy : y ≠ 0) (hz : x % y = z) (r : zEnds p e below s T (mkF m (pc + 1) Ls (.long z :: st)) cs ss Q) : zEnds p e below s T (mkF m pc Ls (.long y :: .long x :: st)) cs ss Q := zstp (fun _ k => XS.lrem X.here hx rfl (hb hby hd) rfl hy (by rw [lrem_mod, hz]; exact k)) r
theorem zi2l (X : Stand p l e R s m args below meth c T locs cells slots) (hx : p.tables.exec = Jvm.exec) (hby : c.code = bytes) {v : Int32} (hd : decode bytes pc = .ok (.i2l, 1)) (z : Int64) (hz : v.toInt64 = z) (r : zEnds p e below s T (mkF m (pc + 1) Ls (.long z :: st)) cs ss Q) : zEnds p e below s T (mkF m pc Ls (.int v :: st)) cs ss Q := zstp (fun _ k => XS.i2l X.here hx rfl (hb hby hd) rfl (hz ▸ k)) r
theorem zl2i (X : Stand p l e R s m args below meth c T locs cells slots) (hx : p.tables.exec = Jvm.exec) (hby : c.code = bytes) {v : Int64} (hd : decode bytes pc = .ok (.l2i, 1)) (z : Int32) (hz : v.toInt32 = z) (r : zEnds p e below s T (mkF m (pc + 1) Ls (.int z :: st)) cs ss Q) : zEnds p e below s T (mkF m pc Ls (.long v :: st)) cs ss Q := zstp (fun _ k => XS.l2i X.here hx rfl (hb hby hd) rfl (hz ▸ k)) r
theorem zi2b (X : Stand p l e R s m args below meth c T locs cells slots) (hx : p.tables.exec = Jvm.exec) (hby : c.code = bytes) {v : Int32} (hd : decode bytes pc = .ok (.i2b, 1)) (z : Int32) (hz : v.toInt8.toInt32 = z) (r : zEnds p e below s T (mkF m (pc + 1) Ls (.int z :: st)) cs ss Q) : zEnds p e below s T (mkF m pc Ls (.int v :: st)) cs ss Q := zstp (fun _ k => XS.i2b X.here hx rfl (hb hby hd) rfl (hz ▸ k)) r
theorem zi2c (X : Stand p l e R s m args below meth c T locs cells slots) (hx : p.tables.exec = Jvm.exec) (hby : c.code = bytes) {v : Int32} (hd : decode bytes pc = .ok (.i2c, 1)) (z : Int32) (hz : v.toUInt32.toUInt16.toUInt32.toInt32 = z) (r : zEnds p e below s T (mkF m (pc + 1) Ls (.int z :: st)) cs ss Q) : zEnds p e below s T (mkF m pc Ls (.int v :: st)) cs ss Q := zstp (fun _ k => XS.i2c X.here hx rfl (hb hby hd) rfl (hz ▸ k)) r
theorem zi2s (X : Stand p l e R s m args below meth c T locs cells slots) (hx : p.tables.exec = Jvm.exec) (hby : c.code = bytes) {v : Int32} (hd : decode bytes pc = .ok (.i2s, 1)) (z : Int32) (hz : v.toInt16.toInt32 = z) (r : zEnds p e below s T (mkF m (pc + 1) Ls (.int z :: st)) cs ss Q) : zEnds p e below s T (mkF m pc Ls (.int v :: st)) cs ss Q := zstp (fun _ k => XS.i2s X.here hx rfl (hb hby hd) rfl (hz ▸ k)) r
theorem zlcmp (X : Stand p l e R s m args below meth c T locs cells slots) (hx : p.tables.exec = Jvm.exec) (hby : c.code = bytes) {x y : Int64} (hd : decode bytes pc = .ok (.lcmp, 1)) (z : Int32) (hz : lcmpW x y = z) (r : zEnds p e below s T (mkF m (pc + 1) Ls (.int z :: st)) cs ss Q) : zEnds p e below s T (mkF m pc Ls (.long y :: .long x :: st)) cs ss Q := zstp (fun _ k => XS.lcmp X.here hx rfl (hb hby hd) rfl (by subst hz; exact k)) r
theorem zdup (X : Stand p l e R s m args below meth c T locs cells slots) (hx : p.tables.exec = Jvm.exec) (hby : c.code = bytes) {x : Value} (hd : decode bytes pc = .ok (.dup, 1)) (hc : x.category = 1) (r : zEnds p e below s T (mkF m (pc + 1) Ls (x :: x :: st)) cs ss Q) : zEnds p e below s T (mkF m pc Ls (x :: st)) cs ss Q := zstp (fun _ k => XS.dup X.here hx rfl (hb hby hd) rfl hc k) r
theorem zpop (X : Stand p l e R s m args below meth c T locs cells slots) (hx : p.tables.exec = Jvm.exec) (hby : c.code = bytes) {x : Value} (hd : decode bytes pc = .ok (.pop, 1)) (hc : x.category = 1) (r : zEnds p e below s T (mkF m (pc + 1) Ls st) cs ss Q) : zEnds p e below s T (mkF m pc Ls (x :: st)) cs ss Q := zstp (fun _ k => XS.pop X.here hx rfl (hb hby hd) rfl hc k) r
theorem zdupX1 (X : Stand p l e R s m args below meth c T locs cells slots) (hx : p.tables.exec = Jvm.exec) (hby : c.code = bytes) {x y : Value} (hd : decode bytes pc = .ok (.dup_x1, 1)) (hc : x.category = 1) (hc' : y.category = 1) (r : zEnds p e below s T (mkF m (pc + 1) Ls (x :: y :: x :: st)) cs ss Q) : zEnds p e below s T (mkF m pc Ls (x :: y :: st)) cs ss Q := zstp (fun _ k => XS.dupX1 X.here hx rfl (hb hby hd) rfl hc hc' k) r
theorem ziinc (X : Stand p l e R s m args below meth c T locs cells slots) (hx : p.tables.exec = Jvm.exec) (hby : c.code = bytes) {k : Nat} {i : Int} {x : Int32} (hd : decode bytes pc = .ok (.iinc k i, 3)) (L' : Array Slot) (hl : Ls[k]? = some (.val (.int x))) (hl' : storeLocals Ls k (.int (x + Int32.ofInt i)) = some L') (r : zEnds p e below s T (mkF m (pc + 3) L' st) cs ss Q) : zEnds p e below s T (mkF m pc Ls st) cs ss Q := zstp (fun _ k => XS.iinc X.here hx rfl (hb hby hd) hl hl' k) r
theorem zgoto (X : Stand p l e R s m args below meth c T locs cells slots) (hx : p.tables.exec = Jvm.exec) (hby : c.code = bytes) {o : Int} (hd : decode bytes pc = .ok (.goto o, 3)) (pc' : Nat) (ho : 0 ≤ (pc : Int) + o) (hp : ((pc : Int) + o).toNat = pc') (r : zEnds p e below s T (mkF m pc' Ls st) cs ss Q) : zEnds p e below s T (mkF m pc Ls st) cs ss Q := zstp (fun _ k => XS.goto X.here hx rfl rfl (hb hby hd) ho hp k) r
theorem zifYes (X : Stand p l e R s m args below meth c T locs cells slots) (hx : p.tables.exec = Jvm.exec) (hby : c.code = bytes) {cd : ClassFile.Cond} {x : Int32} {o : Int} (hd : decode bytes pc = .ok (.ifCond cd o, 3)) (pc' : Nat) (hc : ifCond.holds cd x = true) (ho : 0 ≤ (pc : Int) + o) (hp : ((pc : Int) + o).toNat = pc') (r : zEnds p e below s T (mkF m pc' Ls st) cs ss Q) : zEnds p e below s T (mkF m pc Ls (.int x :: st)) cs ss Q := zstp (fun _ k => XS.ifYes X.here hx rfl rfl (hb hby hd) rfl hc ho hp k) r
theorem zifNo (X : Stand p l e R s m args below meth c T locs cells slots) (hx : p.tables.exec = Jvm.exec) (hby : c.code = bytes) {cd : ClassFile.Cond} {x : Int32} {o : Int} (hd : decode bytes pc = .ok (.ifCond cd o, 3)) (hc : ifCond.holds cd x = false) (r : zEnds p e below s T (mkF m (pc + 3) Ls st) cs ss Q) : zEnds p e below s T (mkF m pc Ls (.int x :: st)) cs ss Q := zstp (fun _ k => XS.ifNo X.here hx rfl (hb hby hd) rfl hc k) r
theorem zicmpYes (X : Stand p l e R s m args below meth c T locs cells slots) (hx : p.tables.exec = Jvm.exec) (hby : c.code = bytes) {cd : ClassFile.Cond} {x y : Int32} {o : Int} (hd : decode bytes pc = .ok (.if_icmp cd o, 3)) (pc' : Nat) (hc : if_icmp.holds cd x y = true) (ho : 0 ≤ (pc : Int) + o) (hp : ((pc : Int) + o).toNat = pc') (r : zEnds p e below s T (mkF m pc' Ls st) cs ss Q) : zEnds p e below s T (mkF m pc Ls (.int y :: .int x :: st)) cs ss Q := zstp (fun _ k => XS.icmpYes X.here hx rfl rfl (hb hby hd) rfl hc ho hp k) r
theorem zicmpNo (X : Stand p l e R s m args below meth c T locs cells slots) (hx : p.tables.exec = Jvm.exec) (hby : c.code = bytes) {cd : ClassFile.Cond} {x y : Int32} {o : Int} (hd : decode bytes pc = .ok (.if_icmp cd o, 3)) (hc : if_icmp.holds cd x y = false) (r : zEnds p e below s T (mkF m (pc + 3) Ls st) cs ss Q) : zEnds p e below s T (mkF m pc Ls (.int y :: .int x :: st)) cs ss Q := zstp (fun _ k => XS.icmpNo X.here hx rfl (hb hby hd) rfl hc k) r
theorem zifnullYes (X : Stand p l e R s m args below meth c T locs cells slots) (hx : p.tables.exec = Jvm.exec) (hby : c.code = bytes) {o : Int} (hd : decode bytes pc = .ok (.ifnull o, 3)) (pc' : Nat) (ho : 0 ≤ (pc : Int) + o) (hp : ((pc : Int) + o).toNat = pc') (r : zEnds p e below s T (mkF m pc' Ls st) cs ss Q) : zEnds p e below s T (mkF m pc Ls (.null :: st)) cs ss Q := zstp (fun _ k => XS.ifnullYes X.here hx rfl rfl (hb hby hd) rfl ho hp k) r
theorem zifnullNo (X : Stand p l e R s m args below meth c T locs cells slots) (hx : p.tables.exec = Jvm.exec) (hby : c.code = bytes) {b : Addr} {o : Int} (hd : decode bytes pc = .ok (.ifnull o, 3))  (r : zEnds p e below s T (mkF m (pc + 3) Ls st) cs ss Q) : zEnds p e below s T (mkF m pc Ls (.ref b :: st)) cs ss Q := zstp (fun _ k => XS.ifnullNo X.here hx rfl (hb hby hd) rfl k) r
theorem zifnonnullYes (X : Stand p l e R s m args below meth c T locs cells slots) (hx : p.tables.exec = Jvm.exec) (hby : c.code = bytes) {b : Addr} {o : Int} (hd : decode bytes pc = .ok (.ifnonnull o, 3)) (pc' : Nat) (ho : 0 ≤ (pc : Int) + o) (hp : ((pc : Int) + o).toNat = pc') (r : zEnds p e below s T (mkF m pc' Ls st) cs ss Q) : zEnds p e below s T (mkF m pc Ls (.ref b :: st)) cs ss Q := zstp (fun _ k => XS.ifnonnullYes X.here hx rfl rfl (hb hby hd) rfl ho hp k) r
theorem zifnonnullNo (X : Stand p l e R s m args below meth c T locs cells slots) (hx : p.tables.exec = Jvm.exec) (hby : c.code = bytes) {o : Int} (hd : decode bytes pc = .ok (.ifnonnull o, 3))  (r : zEnds p e below s T (mkF m (pc + 3) Ls st) cs ss Q) : zEnds p e below s T (mkF m pc Ls (.null :: st)) cs ss Q := zstp (fun _ k => XS.ifnonnullNo X.here hx rfl (hb hby hd) rfl k) r
theorem zacmp (X : Stand p l e R s m args below meth c T locs cells slots) (hx : p.tables.exec = Jvm.exec) (hby : c.code = bytes) {cd : ACond} {x y : Value} {o : Int} (hd : decode bytes pc = .ok (.if_acmp cd o, 3)) (pc' : Nat) (same : Bool) (h1 : x.isRef = true) (h2 : y.isRef = true) (hq : decide (x = y) = same) (ho : 0 ≤ (pc : Int) + o) (hp : pc' = if acV cd same = true then ((pc : Int) + o).toNat else pc + 3) (r : zEnds p e below s T (mkF m pc' Ls st) cs ss Q) : zEnds p e below s T (mkF m pc Ls (y :: x :: st)) cs ss Q := zstp (fun _ k => Jvm.RoadKit.acmp X hx rfl h1 h2 rfl (hb hby hd) rfl hq ho hp k) r
theorem ztswIn (X : Stand p l e R s m args below meth c T locs cells slots) (hx : p.tables.exec = Jvm.exec) (hby : c.code = bytes) {dflt low high o : Int} {offs : Array Int} {len : Nat} {i : Int32} (hd : decode bytes pc = .ok (.tableswitch dflt low high offs, len)) (pc' : Nat) (hin : ¬ (i.toInt < low ∨ i.toInt > high)) (hoff : offs[(i.toInt - low).toNat]? = some o) (ho : 0 ≤ (pc : Int) + o) (hp : ((pc : Int) + o).toNat = pc') (r : zEnds p e below s T (mkF m pc' Ls st) cs ss Q) : zEnds p e below s T (mkF m pc Ls (.int i :: st)) cs ss Q := zstp (fun _ k => XS.tswIn X.here hx rfl rfl (hb hby hd) rfl hin hoff ho hp k) r
theorem ztswOut (X : Stand p l e R s m args below meth c T locs cells slots) (hx : p.tables.exec = Jvm.exec) (hby : c.code = bytes) {dflt low high : Int} {offs : Array Int} {len : Nat} {i : Int32} (hd : decode bytes pc = .ok (.tableswitch dflt low high offs, len)) (pc' : Nat) (hout : i.toInt < low ∨ i.toInt > high) (ho : 0 ≤ (pc : Int) + dflt) (hp : ((pc : Int) + dflt).toNat = pc') (r : zEnds p e below s T (mkF m pc' Ls st) cs ss Q) : zEnds p e below s T (mkF m pc Ls (.int i :: st)) cs ss Q := zstp (fun _ k => XS.tswOut X.here hx rfl rfl (hb hby hd) rfl hout ho hp k) r
theorem zldcI (X : Stand p l e R s m args below meth c T locs cells slots) (hx : p.tables.exec = Jvm.exec) (hby : c.code = bytes) {own : String} {i : Nat} (hd : decode bytes pc = .ok (.ldc i, 2)) (z : Int32) (hZ : Z.Warmed39 s.vm) (hown : s.vm.findClass own = some m.cls) (w : (Jvm.Cond.constant own i z).before a0 Z = true) (r : zEnds p e below s T (mkF m (pc + 2) Ls (.int z :: st)) cs ss Q) : zEnds p e below s T (mkF m pc Ls st) cs ss Q := zstp (fun _ k => X.ldcInt hx hown (mvT hZ w) (g := mkF m pc Ls st) rfl (hb hby hd) _ k) r
theorem zldcwI (X : Stand p l e R s m args below meth c T locs cells slots) (hx : p.tables.exec = Jvm.exec) (hby : c.code = bytes) {own : String} {i : Nat} (hd : decode bytes pc = .ok (.ldc_w i, 3)) (z : Int32) (hZ : Z.Warmed39 s.vm) (hown : s.vm.findClass own = some m.cls) (w : (Jvm.Cond.constant own i z).before a0 Z = true) (r : zEnds p e below s T (mkF m (pc + 3) Ls (.int z :: st)) cs ss Q) : zEnds p e below s T (mkF m pc Ls st) cs ss Q := zstp (fun _ k => X.ldcwInt hx hown (mvT hZ w) (g := mkF m pc Ls st) rfl (hb hby hd) _ k) r
theorem zldc2J (X : Stand p l e R s m args below meth c T locs cells slots) (hx : p.tables.exec = Jvm.exec) (hby : c.code = bytes) {own : String} {i : Nat} (hd : decode bytes pc = .ok (.ldc2_w i, 3)) (z : Int64) (hZ : Z.Warmed39 s.vm) (hown : s.vm.findClass own = some m.cls) (w : (Jvm.Cond.constantLong own i z).before a0 Z = true) (r : zEnds p e below s T (mkF m (pc + 3) Ls (.long z :: st)) cs ss Q) : zEnds p e below s T (mkF m pc Ls st) cs ss Q := zstp (fun _ k => X.ldc2Long hx hown (mvT hZ w) (g := mkF m pc Ls st) rfl (hb hby hd) _ k) r
/-! steps that hand back a new state -/
theorem zgetstat (X : Stand p l e R s m args below meth c T locs cells slots) (hx : p.tables.exec = Jvm.exec) (hby : c.code = bytes) {own R0 O n d host : String} {i : Nat} (hd : decode bytes pc = .ok (.getstatic i, 3)) (hZ : Z.Warmed39 s.vm) (hown : s.vm.findClass own = some m.cls) (w : (Jvm.Cond.fieldLink own i R0 n d).before a0 Z = true ∨ (Jvm.Cond.fieldLinkNest own i R0 n d host).before a0 Z = true) (via : Via Z R0 O n d) (eT : T.heap = h) {v : Value} (F : Sta Z h O n d v)
    (r : ∀ T', Stand p l e R s m args below meth c T' locs cells slots → T'.heap = h → zEnds p e below s T' (mkF m (pc + 3) Ls (v :: st)) cs ss Q) : zEnds p e below s T (mkF m pc Ls st) cs ss Q := by
  obtain ⟨T', X', e', k⟩ := getS2 X hx hZ hown w via eT F (g := mkF m pc Ls st) rfl (hb hby hd)
  exact zstp k (r T' X' e')
theorem zgetfld (X : Stand p l e R s m args below meth c T locs cells slots) (hx : p.tables.exec = Jvm.exec) (hby : c.code = bytes) {own R0 O n d host : String} {i : Nat} (hd : decode bytes pc = .ok (.getfield i, 3)) (hZ : Z.Warmed39 s.vm) (hown : s.vm.findClass own = some m.cls) (w : (Jvm.Cond.fieldLink own i R0 n d).before a0 Z = true ∨ (Jvm.Cond.fieldLinkNest own i R0 n d host).before a0 Z = true) (via : Via Z R0 O n d) (eT : T.heap = h) {a : Addr} {v : Value} (F : Fld Z h a O n d v)
    (r : ∀ T', Stand p l e R s m args below meth c T' locs cells slots → T'.heap = h → zEnds p e below s T' (mkF m (pc + 3) Ls (v :: st)) cs ss Q) : zEnds p e below s T (mkF m pc Ls (.ref a :: st)) cs ss Q := by
  obtain ⟨T', X', e', k⟩ := getF X hx hZ hown w via eT F (g := mkF m pc Ls (.ref a :: st)) rfl rfl (hb hby hd)
  exact zstp k (r T' X' e')
theorem zputfld (X : Stand p l e R s m args below meth c T locs cells slots) (hx : p.tables.exec = Jvm.exec) (hby : c.code = bytes) {own R0 O n d host C : String} {i kk : Nat} {ty : FieldType} (hd : decode bytes pc = .ok (.putfield i, 3)) (hZ : Z.Warmed39 s.vm) (hown : s.vm.findClass own = some m.cls) (w : (Jvm.Cond.fieldLink own i R0 n d).before a0 Z = true ∨ (Jvm.Cond.fieldLinkNest own i R0 n d host).before a0 Z = true) (via : Via Z R0 O n d) (eT : T.heap = h) {a : Addr} {v old : Value} (F : Fld Z h a O n d old) (E : Exa Z h a C) (L : (Jvm.Cond.lays C O n d).before a0 Z = true ∨ ((Jvm.Cond.laysFinal C O n d).before a0 Z = true ∧ own = O ∧ meth.name = "<init>")) (wi : (Jvm.Cond.instantiable C kk).before a0 Z = true) (hty : parseFieldDescriptor d = some ty) (hn : narrow ty v = v) (hf : fits ty v = true)
    (r : ∀ T' h', Stand p l e R s m args below meth c T' (locs ++ [⟨a, Jvm.RoadKit.slotOf Z O n d⟩]) cells slots → T'.heap = h' → Wr h h' a (Jvm.RoadKit.slotOf Z O n d) v → zEnds p e below s T' (mkF m (pc + 3) Ls st) cs ss Q) : zEnds p e below s T (mkF m pc Ls (v :: .ref a :: st)) cs ss Q := by
  obtain ⟨T', h', X', e', W, k⟩ := putF X hx hZ hown w via eT F E L wi hty hn hf (g := mkF m pc Ls (v :: .ref a :: st)) rfl rfl (hb hby hd)
  exact zstp k (r T' h' X' e' W)
theorem znewobj (X : Stand p l e R s m args below meth c T locs cells slots) (hx : p.tables.exec = Jvm.exec) (hby : c.code = bytes) {own C : String} {i n : Nat} (hd : decode bytes pc = .ok (.new i, 3)) (hZ : Z.Warmed39 s.vm) (hown : s.vm.findClass own = some m.cls) (w : (Jvm.Cond.classLink own i C).before a0 Z = true) (wi : (Jvm.Cond.instantiable C n).before a0 Z = true) (wz : (Jvm.Cond.initialized C).before a0 Z = true) (eT : T.heap = h) (hc : cells + 1 ≤ R.cells) (hl : slots + n ≤ R.slots)
    (r : ∀ T' h' b, Stand p l e R s m args below meth c T' locs (cells + 1) (slots + n) → T'.heap = h' → b = h.size → Ext h h' → Exa Z h' b C → (∀ {O nm d : String} {ty : FieldType}, Laid Z a0 C O nm d → parseFieldDescriptor d = some ty → Fld Z h' b O nm d (defaultValue ty)) → zEnds p e below s T' (mkF m (pc + 3) Ls (.ref b :: st)) cs ss Q) : zEnds p e below s T (mkF m pc Ls st) cs ss Q := by
  obtain ⟨T', h', X', e', E, A, D, -, k⟩ := newO X hx hZ hown w wi wz eT (g := mkF m pc Ls st) rfl (hb hby hd) hc hl
  exact zstp k (r T' h' _ X' e' rfl E A D)
theorem zobjinit (X : Stand p l e R s m args below meth c T locs cells slots) (hx : p.tables.exec = Jvm.exec) (hby : c.code = bytes) {own : String} {i : Nat} (hd : decode bytes pc = .ok (.invokespecial i, 3)) (hZ : Z.Warmed39 s.vm) (hown : s.vm.findClass own = some m.cls) (w1 : (Jvm.Cond.methodLink own i Lib.objectInit).before a0 Z = true) (w2 : (Jvm.Cond.instanceMethod Lib.objectInit).before a0 Z = true) (w3 : (Jvm.Cond.code Lib.objectInit ⟨#[0xb1]⟩ 1 none).before a0 Z = true) (eT : T.heap = h) (hml : Ls.size = c.maxLocals) (W : Nat) (hW : (st.map fun v => v.category).sum ≤ W) (hf : 1 ≤ R.frames) (hl : W + 12 ≤ R.locals) {a : Addr}
    (r : ∀ T', Stand p l e R s m args below meth c T' locs cells slots → T'.heap = h → zEnds p e below s T' (mkF m (pc + 3) Ls st) cs ss Q) : zEnds p e below s T (mkF m pc Ls (.ref a :: st)) cs ss Q := by
  obtain ⟨T', X', e', k⟩ := initO X hx hZ hown w1 w2 w3 eT (g := mkF m pc Ls (.ref a :: st)) rfl hml rfl (hb hby hd) hf (W := W) (by show 2 * 0 + _ ≤ _; rw [Nat.mul_zero, Nat.zero_add]; exact hW) hl
  exact zstp k (r T' X' e')
/-- the array at a holds just these values -/
def zLst (Z : State) (h : Heap) (a : Addr) (ty : FieldType) (vs : List Value) : Prop := ∃ cl : Cell, Arr Z h a cl ty ∧ cl.slots.toList = vs
theorem zLst.ext {h' : Heap} {a : Addr} {ty : FieldType} {vs : List Value} (F : zLst Z h a ty vs) (E : Ext h h') : zLst Z h' a ty vs := by obtain ⟨c, A, r⟩ := F; exact ⟨c, A.ext E, r⟩
theorem zLst.lt {a : Addr} {ty : FieldType} {vs : List Value} (F : zLst Z h a ty vs) : a < h.size := by obtain ⟨c, A, r⟩ := F; exact A.lt
theorem zLst.other {h' : Heap} {a b : Addr} {sl : Nat} {v : Value} {ty : FieldType} {vs : List Value} (F : zLst Z h b ty vs) (W : Wr h h' a sl v) (q : b ≠ a) : zLst Z h' b ty vs := by obtain ⟨c, A, r⟩ := F; exact ⟨c, A.other W q, r⟩
theorem zLst.keep {h' : Heap} {a : Addr} {ty : FieldType} {vs : List Value} {ws : List Addr} (F : zLst Z h a ty vs) (K : Keep h h' ws) (q : a ∉ ws) : zLst Z h' a ty vs := by obtain ⟨c, A, r⟩ := F; exact ⟨c, ⟨K.2.1 a c A.1 q, A.2⟩, r⟩
theorem zLst.same {h' : Heap} {a : Addr} {sl : Nat} {v : Value} {ty : FieldType} {vs : List Value} (F : zLst Z h a ty vs) (W : Wr h h' a sl v) : zLst Z h' a ty (vs.set sl v) := by
  obtain ⟨c, A, r⟩ := F
  refine ⟨_, A.same W, ?_⟩
  show (c.slots.setIfInBounds sl v).toList = _
  rw [Array.toList_setIfInBounds, r]
theorem zlst_in {cl : Cell} {vs : List Value} {j : Int32} (r : cl.slots.toList = vs) (hj : ¬ j < 0) (hlt : j.toNatClampNeg < vs.length) : ¬ (j < 0 ∨ cl.slots.size ≤ j.toNatClampNeg) := by
  rintro (q | q)
  · exact hj q
  · rw [← r, Array.length_toList] at hlt; exact absurd q (Nat.not_le.mpr hlt)
theorem zlst_at {cl : Cell} {vs : List Value} {k : Nat} {v : Value} (r : cl.slots.toList = vs) (hv : vs[k]? = some v) : cl.slots[k]? = some v := by
  rw [← r, Array.getElem?_toList] at hv; exact hv
theorem znewprim (X : Stand p l e R s m args below meth c T locs cells slots) (hx : p.tables.exec = Jvm.exec) (hby : c.code = bytes) {aty : ArrayType} (hd : decode bytes pc = .ok (.newarray aty, 2)) (hZ : Z.Warmed39 s.vm) (w : (Jvm.Cond.arrayClass (newarray.typeOf aty)).before a0 Z = true) (eT : T.heap = h) {n : Int32} (hn : ¬ n < 0) (cap : Nat) (hcap : n.toNatClampNeg ≤ cap) (hb8 : cap * 8 ≤ 536870912) (hc : cells + 1 ≤ R.cells) (hl : slots + cap ≤ R.slots)
    (r : ∀ T' h' b, Stand p l e R s m args below meth c T' locs (cells + 1) (slots + cap) → T'.heap = h' → b = h.size → Ext h h' → zLst Z h' b (newarray.typeOf aty) (List.replicate n.toNatClampNeg (defaultValue (newarray.typeOf aty))) → zEnds p e below s T' (mkF m (pc + 2) Ls (.ref b :: st)) cs ss Q) : zEnds p e below s T (mkF m pc Ls (.int n :: st)) cs ss Q := by
  obtain ⟨T', h', cA, X', e', E, A, k⟩ := newP X hx hZ w eT (g := mkF m pc Ls (.int n :: st)) rfl (hb hby hd) rfl hn hcap hb8 hc hl
  exact zstp k (r T' h' _ X' e' rfl E ⟨_, A, by simp [newA]⟩)
theorem zbaload (X : Stand p l e R s m args below meth c T locs cells slots) (hx : p.tables.exec = Jvm.exec) (hby : c.code = bytes) (hd : decode bytes pc = .ok (.baload, 1)) (hZ : Z.Warmed39 s.vm) (eT : T.heap = h) {a : Addr} {vs : List Value} (A : zLst Z h a .byte vs) {j : Int32} (hj : ¬ j < 0) {v : Value} (hv : vs[j.toNatClampNeg]? = some v)
    (r : zEnds p e below s T (mkF m (pc + 1) Ls (v :: st)) cs ss Q) : zEnds p e below s T (mkF m pc Ls (.int j :: .ref a :: st)) cs ss Q := by
  obtain ⟨cl, A, q⟩ := A
  exact zstp (fun _ k => X.baloadBytes hx (by rw [eT]; exact A.1) (State.isArrayOf_alike hZ.alike A.2.1) A.2.2 (zlst_in q hj (List.getElem?_eq_some_iff.mp hv).1) (zlst_at q hv) (g := mkF m pc Ls (.int j :: .ref a :: st)) rfl rfl (hb hby hd) _ k) r
theorem zlaload (X : Stand p l e R s m args below meth c T locs cells slots) (hx : p.tables.exec = Jvm.exec) (hby : c.code = bytes) (hd : decode bytes pc = .ok (.laload, 1)) (hZ : Z.Warmed39 s.vm) (eT : T.heap = h) {a : Addr} {vs : List Value} (A : zLst Z h a .long vs) {j : Int32} (hj : ¬ j < 0) {v : Value} (hv : vs[j.toNatClampNeg]? = some v)
    (r : zEnds p e below s T (mkF m (pc + 1) Ls (v :: st)) cs ss Q) : zEnds p e below s T (mkF m pc Ls (.int j :: .ref a :: st)) cs ss Q := by
  obtain ⟨cl, A, q⟩ := A
  exact zstp (fun _ k => X.laload hx (by rw [eT]; exact A.1) (State.isArrayOf_alike hZ.alike A.2.1) A.2.2 (zlst_in q hj (List.getElem?_eq_some_iff.mp hv).1) (zlst_at q hv) (g := mkF m pc Ls (.int j :: .ref a :: st)) rfl rfl (hb hby hd) _ k) r
theorem zaaload (X : Stand p l e R s m args below meth c T locs cells slots) (hx : p.tables.exec = Jvm.exec) (hby : c.code = bytes) (hd : decode bytes pc = .ok (.aaload, 1)) (hZ : Z.Warmed39 s.vm) (eT : T.heap = h) {a : Addr} {vs : List Value} {ty : FieldType} (hty : ty.isReference = true) (A : zLst Z h a ty vs) {j : Int32} (hj : ¬ j < 0) {v : Value} (hv : vs[j.toNatClampNeg]? = some v)
    (r : zEnds p e below s T (mkF m (pc + 1) Ls (v :: st)) cs ss Q) : zEnds p e below s T (mkF m pc Ls (.int j :: .ref a :: st)) cs ss Q := by
  obtain ⟨cl, A, q⟩ := A
  exact zstp (fun _ k => X.aaload hx (by rw [eT]; exact A.1) (State.isArrayOf_alike hZ.alike A.2.1) hty A.2.2 (zlst_in q hj (List.getElem?_eq_some_iff.mp hv).1) (zlst_at q hv) (g := mkF m pc Ls (.int j :: .ref a :: st)) rfl rfl (hb hby hd) _ k) r
theorem zialoadC (X : Stand p l e R s m args below meth c T locs cells slots) (hx : p.tables.exec = Jvm.exec) (hby : c.code = bytes) (hd : decode bytes pc = .ok (.iaload, 1)) (hZ : Z.Warmed39 s.vm) (eT : T.heap = h) {a : Addr} {cl : Cell} (A : Arr Z h a cl .int) {j : Int32} {v : Value} (hv : ¬ (j < 0 ∨ cl.slots.size ≤ j.toNatClampNeg) ∧ cl.slots[j.toNatClampNeg]? = some v)
    (r : zEnds p e below s T (mkF m (pc + 1) Ls (v :: st)) cs ss Q) : zEnds p e below s T (mkF m pc Ls (.int j :: .ref a :: st)) cs ss Q :=
  zstp (fun _ k => X.iaload hx (by rw [eT]; exact A.1) (State.isArrayOf_alike hZ.alike A.2.1) A.2.2 hv.1 hv.2 (g := mkF m pc Ls (.int j :: .ref a :: st)) rfl rfl (hb hby hd) _ k) r
theorem zalenC (X : Stand p l e R s m args below meth c T locs cells slots) (hx : p.tables.exec = Jvm.exec) (hby : c.code = bytes) (hd : decode bytes pc = .ok (.arraylength, 1)) (hZ : Z.Warmed39 s.vm) (eT : T.heap = h) {a : Addr} {cl : Cell} {ty : FieldType} (A : Arr Z h a cl ty) (z : Int32) (hz : cl.slots.size.toInt32 = z)
    (r : zEnds p e below s T (mkF m (pc + 1) Ls (.int z :: st)) cs ss Q) : zEnds p e below s T (mkF m pc Ls (.ref a :: st)) cs ss Q :=
  zstp (fun _ k => X.arraylength hx (by rw [eT]; exact A.1) (State.isArrayOf_alike hZ.alike A.2.1) (g := mkF m pc Ls (.ref a :: st)) rfl rfl (hb hby hd) _ (hz ▸ k)) r
theorem zbastore (X : Stand p l e R s m args below meth c T locs cells slots) (hx : p.tables.exec = Jvm.exec) (hby : c.code = bytes) (hd : decode bytes pc = .ok (.bastore, 1)) (hZ : Z.Warmed39 s.vm) (eT : T.heap = h) {a : Addr} {vs : List Value} (A : zLst Z h a .byte vs) {j x : Int32} (hj : ¬ j < 0) (hlt : j.toNatClampNeg < vs.length) (x' : Int32) (hx' : nar .byte x = x')
    (r : ∀ T' h', Stand p l e R s m args below meth c T' (locs ++ [⟨a, j.toNatClampNeg⟩]) cells slots → T'.heap = h' → Wr h h' a j.toNatClampNeg (.int x') → zLst Z h' a .byte (vs.set j.toNatClampNeg (.int x')) → zEnds p e below s T' (mkF m (pc + 1) Ls st) cs ss Q) : zEnds p e below s T (mkF m pc Ls (.int x :: .int j :: .ref a :: st)) cs ss Q := by
  obtain ⟨cl, A', q⟩ := A
  subst hx'
  obtain ⟨T', h', X', e', W, k⟩ := stB X hx hZ eT A' (j := j) (x := x) (zlst_in q hj hlt) (g := mkF m pc Ls (.int x :: .int j :: .ref a :: st)) rfl rfl (hb hby hd)
  exact zstp k (r T' h' X' e' W (zLst.same ⟨cl, A', q⟩ W))
theorem zlastore (X : Stand p l e R s m args below meth c T locs cells slots) (hx : p.tables.exec = Jvm.exec) (hby : c.code = bytes) (hd : decode bytes pc = .ok (.lastore, 1)) (hZ : Z.Warmed39 s.vm) (eT : T.heap = h) {a : Addr} {vs : List Value} (A : zLst Z h a .long vs) {j : Int32} {x : Int64} (hj : ¬ j < 0) (hlt : j.toNatClampNeg < vs.length)
    (r : ∀ T' h', Stand p l e R s m args below meth c T' (locs ++ [⟨a, j.toNatClampNeg⟩]) cells slots → T'.heap = h' → Wr h h' a j.toNatClampNeg (.long x) → zLst Z h' a .long (vs.set j.toNatClampNeg (.long x)) → zEnds p e below s T' (mkF m (pc + 1) Ls st) cs ss Q) : zEnds p e below s T (mkF m pc Ls (.long x :: .int j :: .ref a :: st)) cs ss Q := by
  obtain ⟨cl, A', q⟩ := A
  obtain ⟨T', h', X', e', W, k⟩ := stJ X hx hZ eT A' (j := j) (x := x) (zlst_in q hj hlt) (g := mkF m pc Ls (.long x :: .int j :: .ref a :: st)) rfl rfl (hb hby hd)
  exact zstp k (r T' h' X' e' W (zLst.same ⟨cl, A', q⟩ W))
/-- an array of references over C that holds just these values -/
def zLstR (Z : State) (h : Heap) (a : Addr) (C : String) (vs : List Value) : Prop := ∃ cl : Cell, Arr Z h a cl (.object C) ∧ Ovr Z cl.cls C ∧ cl.slots.toList = vs
theorem zLstR.lst {a : Addr} {C : String} {vs : List Value} (F : zLstR Z h a C vs) : zLst Z h a (.object C) vs := by obtain ⟨c, A, -, r⟩ := F; exact ⟨c, A, r⟩
theorem zLstR.ext {h' : Heap} {a : Addr} {C : String} {vs : List Value} (F : zLstR Z h a C vs) (E : Ext h h') : zLstR Z h' a C vs := by obtain ⟨c, A, r⟩ := F; exact ⟨c, A.ext E, r⟩
theorem zLstR.lt {a : Addr} {C : String} {vs : List Value} (F : zLstR Z h a C vs) : a < h.size := by obtain ⟨c, A, r⟩ := F; exact A.lt
theorem zLstR.other {h' : Heap} {a b : Addr} {sl : Nat} {v : Value} {C : String} {vs : List Value} (F : zLstR Z h b C vs) (W : Wr h h' a sl v) (q : b ≠ a) : zLstR Z h' b C vs := by obtain ⟨c, A, r⟩ := F; exact ⟨c, A.other W q, r⟩
theorem zLstR.keep {h' : Heap} {a : Addr} {C : String} {vs : List Value} {ws : List Addr} (F : zLstR Z h a C vs) (K : Keep h h' ws) (q : a ∉ ws) : zLstR Z h' a C vs := by obtain ⟨c, A, r⟩ := F; exact ⟨c, ⟨K.2.1 a c A.1 q, A.2⟩, r⟩
theorem zLstR.same {h' : Heap} {a : Addr} {sl : Nat} {v : Value} {C : String} {vs : List Value} (F : zLstR Z h a C vs) (W : Wr h h' a sl v) : zLstR Z h' a C (vs.set sl v) := by
  obtain ⟨c, A, O, r⟩ := F
  refine ⟨_, A.same W, O, ?_⟩
  show (c.slots.setIfInBounds sl v).toList = _
  rw [Array.toList_setIfInBounds, r]
theorem znewref (X : Stand p l e R s m args below meth c T locs cells slots) (hx : p.tables.exec = Jvm.exec) (hby : c.code = bytes) {own C : String} {i : Nat} (hd : decode bytes pc = .ok (.anewarray i, 3)) (hZ : Z.Warmed39 s.vm) (hown : s.vm.findClass own = some m.cls) (w1 : (Jvm.Cond.classLink own i C).before a0 Z = true) (w2 : (Jvm.Cond.arrayOver (.object C)).before a0 Z = true) (eT : T.heap = h) {n : Int32} (hn : ¬ n < 0) (cap : Nat) (hcap : n.toNatClampNeg ≤ cap) (hb8 : cap * 8 ≤ 536870912) (hc : cells + 1 ≤ R.cells) (hl : slots + cap ≤ R.slots)
    (r : ∀ T' h' b, Stand p l e R s m args below meth c T' locs (cells + 1) (slots + cap) → T'.heap = h' → b = h.size → Ext h h' → zLstR Z h' b C (List.replicate n.toNatClampNeg .null) → zEnds p e below s T' (mkF m (pc + 3) Ls (.ref b :: st)) cs ss Q) : zEnds p e below s T (mkF m pc Ls (.int n :: st)) cs ss Q := by
  obtain ⟨T', h', cA, X', e', E, A, O, k⟩ := newR X hx hZ hown w1 w2 eT (g := mkF m pc Ls (.int n :: st)) rfl (hb hby hd) rfl hn hcap hb8 hc hl
  exact zstp k (r T' h' _ X' e' rfl E ⟨_, A, O, by simp [newA, defaultValue]⟩)
theorem zaastore (X : Stand p l e R s m args below meth c T locs cells slots) (hx : p.tables.exec = Jvm.exec) (hby : c.code = bytes) (hd : decode bytes pc = .ok (.aastore, 1)) (hZ : Z.Warmed39 s.vm) (eT : T.heap = h) {a y : Addr} {C : String} {vs : List Value} (A : zLstR Z h a C vs) {j : Int32} (hj : ¬ j < 0) (hlt : j.toNatClampNeg < vs.length) (I : Ins Z h y C true)
    (r : ∀ T' h', Stand p l e R s m args below meth c T' (locs ++ [⟨a, j.toNatClampNeg⟩]) cells slots → T'.heap = h' → Wr h h' a j.toNatClampNeg (.ref y) → zLstR Z h' a C (vs.set j.toNatClampNeg (.ref y)) → zEnds p e below s T' (mkF m (pc + 1) Ls st) cs ss Q) : zEnds p e below s T (mkF m pc Ls (.ref y :: .int j :: .ref a :: st)) cs ss Q := by
  obtain ⟨cl, A', O, q⟩ := A
  obtain ⟨T', h', X', e', W, k⟩ := stR X hx hZ eT A' (j := j) (v := .ref y) (zlst_in q hj hlt) rfl (Sto.of A' O I) (g := mkF m pc Ls (.ref y :: .int j :: .ref a :: st)) rfl rfl (hb hby hd)
  exact zstp k (r T' h' X' e' W (zLstR.same ⟨cl, A', O, q⟩ W))
/-! zcalls -/
theorem zcalls (X : Stand p l e R s m args below meth c T locs cells slots) (hx : p.tables.exec = Jvm.exec) (hby : c.code = bytes) {own : String} {i : Nat} {y : MethodName} {by' : ByteArray} {maxL : Nat} {rt : Option FieldType} {rm : Room} {argsL : List Value} {Q' : Option Value → Heap → List Loc → Prop} (hd : decode bytes pc = .ok (.invokestatic i, 3)) (hZ : Z.Warmed39 s.vm) (hown : s.vm.findClass own = some m.cls) (w1 : (Jvm.Cond.methodLink own i y).before a0 Z = true) (w2 : (Jvm.Cond.static y).before a0 Z = true) (w3 : (Jvm.Cond.initialized y.cls).before a0 Z = true) (w4 : (Jvm.Cond.code y by' maxL rt).before a0 Z = true) (eT : T.heap = h)
    (con : zCon l Z y by' maxL rt [] rm argsL.toArray h Q') (hy : y.cls ≠ "java/lang/invoke/MethodHandle" ∧ y.cls ≠ "java/lang/invoke/VarHandle") (hml : Ls.size = c.maxLocals) (W : Nat) (hW : (st.map fun v => v.category).sum ≤ W) (hf : rm.frames + 1 ≤ R.frames) (hl : W + (maxL + 11) + rm.locals ≤ R.locals) (hcl : cells + rm.cells ≤ R.cells) (hsl : slots + rm.slots ≤ R.slots) {ps : List FieldType} {rv : Option FieldType} (hp : parseMethodDescriptor y.desc = some ⟨ps, rv⟩) (hn : argsL.length = ps.length) {S0 : List Value} (hS : S0 = argsL.reverse ++ st)
    (r : ∀ T' h' v L, T'.heap = h' → Stand p l e R s m args below meth c T' (locs ++ L) (cells + rm.cells) (slots + rm.slots) → Q' v h' L → zEnds p e below s T' (mkF m (pc + 3) Ls (v.toList ++ st)) cs ss Q) : zEnds p e below s T (mkF m pc Ls S0) cs ss Q := by
  obtain ⟨v, _, ⟨T', L', k', n'⟩, -, X', ⟨L, hq, l1, l2, l3⟩, k⟩ := Jvm.LawKit.callS X hx (y := y) hown (mvT hZ w1) (mvT hZ w2) (mvT hZ w3) (mvT hZ w4) hy (backOf (W := W) con hZ w4 w3 hf hl) (g := mkF m pc Ls S0) rfl hml (argsL := argsL) (rest := st) (lenOf hp hn) hS (by show 2 * 0 + _ ≤ _; rw [Nat.mul_zero, Nat.zero_add]; exact hW) (hb hby hd) (fun _ _ => ⟨rfl, eT, hcl, hsl⟩)
  dsimp only [Pt.U, Pt.locs, Pt.cells, Pt.slots] at X' l1 l2 l3 k hq
  subst l1 l2 l3
  exact zstp k (r T' _ v L rfl X' hq)
theorem zcallv (X : Stand p l e R s m args below meth c T locs cells slots) (hx : p.tables.exec = Jvm.exec) (hby : c.code = bytes) {own C : String} {i : Nat} {y z : MethodName} {by' : ByteArray} {maxL : Nat} {rt : Option FieldType} {rm : Room} {a : Addr} {argsL : List Value} {Q' : Option Value → Heap → List Loc → Prop} (hd : decode bytes pc = .ok (.invokevirtual i, 3)) (hZ : Z.Warmed39 s.vm) (hown : s.vm.findClass own = some m.cls) (w1 : (Jvm.Cond.methodLink own i y).before a0 Z = true) (w2 : (Jvm.Cond.declares y).before a0 Z = true) (hnf : NotFace s y) (w3 : (Jvm.Cond.selects C y z).before a0 Z = true) (w4 : (Jvm.Cond.instanceMethod z).before a0 Z = true) (w5 : (Jvm.Cond.code z by' maxL rt).before a0 Z = true) (w6 : (Jvm.Cond.initialized z.cls).before a0 Z = true) (eT : T.heap = h) (E : Exa Z h a C)
    (con : zCon l Z z by' maxL rt [] rm (.ref a :: argsL).toArray h Q') (hy : y.cls ≠ "java/lang/invoke/MethodHandle" ∧ y.cls ≠ "java/lang/invoke/VarHandle") (hml : Ls.size = c.maxLocals) (W : Nat) (hW : (st.map fun v => v.category).sum ≤ W) (hf : rm.frames + 1 ≤ R.frames) (hl : W + (maxL + 11) + rm.locals ≤ R.locals) (hcl : cells + rm.cells ≤ R.cells) (hsl : slots + rm.slots ≤ R.slots) {ps : List FieldType} {rv : Option FieldType} (hp : parseMethodDescriptor y.desc = some ⟨ps, rv⟩) (hn : argsL.length = ps.length) {S0 : List Value} (hS : S0 = argsL.reverse ++ .ref a :: st)
    (r : ∀ T' h' v L, T'.heap = h' → Stand p l e R s m args below meth c T' (locs ++ L) (cells + rm.cells) (slots + rm.slots) → Q' v h' L → zEnds p e below s T' (mkF m (pc + 3) Ls (v.toList ++ st)) cs ss Q) : zEnds p e below s T (mkF m pc Ls S0) cs ss Q := by
  obtain ⟨_, _, qa, -, qc⟩ := isOf hZ eT E
  obtain ⟨v, _, ⟨T', L', k', n'⟩, -, X', ⟨L, hq, l1, l2, l3⟩, k⟩ := X.virtualBack hx (y := y) (z := z) hown (mvT hZ w1) (mvT hZ w2) hnf (mvT hZ w3) (mvT hZ w4) hy (backOf (W := W) con hZ w5 w6 hf hl) qa qc (g := mkF m pc Ls S0) rfl hml (Steps.refl _) (argsL := argsL) (rest := st) (lenOf hp hn) hS (by show 2 * 0 + _ ≤ _; rw [Nat.mul_zero, Nat.zero_add]; exact hW) (hb hby hd) (fun _ _ => ⟨rfl, eT, hcl, hsl⟩)
  dsimp only [Pt.U, Pt.locs, Pt.cells, Pt.slots] at X' l1 l2 l3 k hq
  subst l1 l2 l3
  exact zstp (fun _ q => k.trans q) (r T' _ v L rfl X' hq)
theorem zcallsp (X : Stand p l e R s m args below meth c T locs cells slots) (hx : p.tables.exec = Jvm.exec) (hby : c.code = bytes) {own : String} {i : Nat} {y : MethodName} {by' : ByteArray} {maxL : Nat} {rm : Room} {a : Addr} {argsL : List Value} {Q' : Option Value → Heap → List Loc → Prop} (hd : decode bytes pc = .ok (.invokespecial i, 3)) (hZ : Z.Warmed39 s.vm) (hown : s.vm.findClass own = some m.cls) (hyn : y.name = "<init>") (w1 : (Jvm.Cond.methodLink own i y).before a0 Z = true) (w2 : (Jvm.Cond.instanceMethod y).before a0 Z = true) (w3 : (Jvm.Cond.code y by' maxL none).before a0 Z = true) (w4 : (Jvm.Cond.initialized y.cls).before a0 Z = true) (eT : T.heap = h)
    (con : zCon l Z y by' maxL none [] rm (.ref a :: argsL).toArray h Q') (hy : y.cls ≠ "java/lang/invoke/MethodHandle" ∧ y.cls ≠ "java/lang/invoke/VarHandle") (hml : Ls.size = c.maxLocals) (W : Nat) (hW : (st.map fun v => v.category).sum ≤ W) (hf : rm.frames + 1 ≤ R.frames) (hl : W + (maxL + 11) + rm.locals ≤ R.locals) (hcl : cells + rm.cells ≤ R.cells) (hsl : slots + rm.slots ≤ R.slots) {ps : List FieldType} {rv : Option FieldType} (hp : parseMethodDescriptor y.desc = some ⟨ps, rv⟩) (hn : argsL.length = ps.length) {S0 : List Value} (hS : S0 = argsL.reverse ++ .ref a :: st)
    (r : ∀ T' h' v L, T'.heap = h' → Stand p l e R s m args below meth c T' (locs ++ L) (cells + rm.cells) (slots + rm.slots) → Q' v h' L → zEnds p e below s T' (mkF m (pc + 3) Ls (v.toList ++ st)) cs ss Q) : zEnds p e below s T (mkF m pc Ls S0) cs ss Q := by
  obtain ⟨v, _, ⟨T', L', k', n'⟩, -, X', ⟨L, hq, l1, l2, l3⟩, k⟩ := X.specialBack hx (y := y) hyn hown (mvT hZ w1) (mvT hZ w2) (mvT hZ w3) hy (backOf (W := W) con hZ w3 w4 hf hl) (g := mkF m pc Ls S0) rfl hml (Steps.refl _) (a := a) (argsL := argsL) (rest := st) (lenOf hp hn) hS (by show 2 * 0 + _ ≤ _; rw [Nat.mul_zero, Nat.zero_add]; exact hW) (hb hby hd) (fun _ _ => ⟨rfl, eT, hcl, hsl⟩)
  dsimp only [Pt.U, Pt.locs, Pt.cells, Pt.slots] at X' l1 l2 l3 k hq
  subst l1 l2 l3
  exact zstp (fun _ q => k.trans q) (r T' _ v L rfl X' hq)
theorem zcallup (X : Stand p l e R s m args below meth c T locs cells slots) (hx : p.tables.exec = Jvm.exec) (hby : c.code = bytes) {own C owner : String} {i : Nat} {x y : MethodName} {by' : ByteArray} {maxL : Nat} {rt : Option FieldType} {rm : Room} {a : Addr} {argsL : List Value} {Q' : Option Value → Heap → List Loc → Prop} (hd : decode bytes pc = .ok (.invokevirtual i, 3)) (hZ : Z.Warmed39 s.vm) (hown : s.vm.findClass own = some m.cls) (w1 : (Jvm.Cond.methodLink own i x).before a0 Z = true) (w2 : (Jvm.Cond.sameMethod x.cls owner x.name x.desc).before a0 Z = true) (w2' : (Jvm.Cond.declares ⟨owner, x.name, x.desc⟩).before a0 Z = true) (w3 : (Jvm.Cond.selects C x y).before a0 Z = true) (w4 : (Jvm.Cond.instanceMethod y).before a0 Z = true) (w5 : (Jvm.Cond.code y by' maxL rt).before a0 Z = true) (w6 : (Jvm.Cond.initialized y.cls).before a0 Z = true) (eT : T.heap = h) (E : Exa Z h a C)
    (con : zCon l Z y by' maxL rt [] rm (.ref a :: argsL).toArray h Q') (hy : owner ≠ "java/lang/invoke/MethodHandle" ∧ owner ≠ "java/lang/invoke/VarHandle") (hml : Ls.size = c.maxLocals) (W : Nat) (hW : (st.map fun v => v.category).sum ≤ W) (hf : rm.frames + 1 ≤ R.frames) (hl : W + (maxL + 11) + rm.locals ≤ R.locals) (hcl : cells + rm.cells ≤ R.cells) (hsl : slots + rm.slots ≤ R.slots) {ps : List FieldType} {rv : Option FieldType} (hp : parseMethodDescriptor x.desc = some ⟨ps, rv⟩) (hn : argsL.length = ps.length) {S0 : List Value} (hS : S0 = argsL.reverse ++ .ref a :: st)
    (r : ∀ T' h' v L, T'.heap = h' → Stand p l e R s m args below meth c T' (locs ++ L) (cells + rm.cells) (slots + rm.slots) → Q' v h' L → zEnds p e below s T' (mkF m (pc + 3) Ls (v.toList ++ st)) cs ss Q) : zEnds p e below s T (mkF m pc Ls S0) cs ss Q := by
  obtain ⟨_, _, qa, -, qc⟩ := isOf hZ eT E
  obtain ⟨v, _, ⟨T', L', k', n'⟩, -, X', ⟨L, hq, l1, l2, l3⟩, k⟩ := X.virtualBackUp hx (x := x) (y := y) hown (mvT hZ w1) (mvT hZ w2) (mvT hZ w2') hy (mvT hZ w3) (mvT hZ w4) (backOf (W := W) con hZ w5 w6 hf hl) qa qc (g := mkF m pc Ls S0) rfl hml (Steps.refl _) (argsL := argsL) (rest := st) (lenOf hp hn) hS (by show 2 * 0 + _ ≤ _; rw [Nat.mul_zero, Nat.zero_add]; exact hW) (hb hby hd) (fun _ _ => ⟨rfl, eT, hcl, hsl⟩)
  dsimp only [Pt.U, Pt.locs, Pt.cells, Pt.slots] at X' l1 l2 l3 k hq
  subst l1 l2 l3
  exact zstp (fun _ q => k.trans q) (r T' _ v L rfl X' hq)
/-- the continuation behind a callee that wrote nothing -/
theorem zpureK {w : Option Value} {rm : Room} (hr : rm.cells = 0 ∧ rm.slots = 0) (r : ∀ T', Stand p l e R s m args below meth c T' locs cells slots → T'.heap = h → zEnds p e below s T' (mkF m pc Ls (w.toList ++ st)) cs ss Q) :
    ∀ T' h' v L, T'.heap = h' → Stand p l e R s m args below meth c T' (locs ++ L) (cells + rm.cells) (slots + rm.slots) → zSame w h v h' L → zEnds p e below s T' (mkF m pc Ls (v.toList ++ st)) cs ss Q := by
  rintro T' h' v L e' X ⟨rfl, rfl, rfl⟩
  rw [hr.1, hr.2, List.append_nil] at X
  exact r T' X e'
/-! from the words of a case to facts -/
theorem zfld_int {t : Term} {x : Addr} {C n d : String} {k : Int32} {args : Array Value} {s : State} (ev : t.eval args s none [] s = some (.ref x)) (q : (Jvm.Cond.eq (Term.field t C n d) (Term.int k)).value args s none s [] = some true) : Fld s s.heap x C n d (.int k) := by
  obtain ⟨u, w, e1, e2, k1, k2⟩ := cmp_v (Or.inl q)
  rw [fld_at ev] at e1
  cases (Term.int_eval k).symm.trans e2
  obtain ⟨z, rfl⟩ := k2
  have h1 : (Term.field t C n d).eval args s none [] s = some (.int z) := (fld_at ev).trans e1
  have : z = k := by simpa [Jvm.Cond.value, h1, Term.int_eval] using q
  subst this
  exact Fld.start e1
theorem zelem_at0 {t : Term} {x : Addr} {i v : Int32} {cl : Cell} {args : Array Value} {s : State} (ev : t.eval args s none [] s = some (.ref x)) (hc : s.heap[x]? = some cl) (q : (Jvm.Cond.eq (Term.elem t (Term.int i)) (Term.int v)).value args s none s [] = some true) : ¬ (i < 0 ∨ cl.slots.size ≤ i.toNatClampNeg) ∧ cl.slots[i.toNatClampNeg]? = some (.int v) := by
  obtain ⟨u, w, e1, e2, k1, k2⟩ := cmp_v (Or.inl q)
  cases (Term.int_eval v).symm.trans e2
  obtain ⟨z, rfl⟩ := k2
  have : z = v := by simpa [Jvm.Cond.value, e1, Term.int_eval] using q
  subst this
  exact elem_in e1 ev (Term.int_eval i) hc
theorem zlen_is {t : Term} {x : Addr} {k : Int32} {cl : Cell} {ty : FieldType} {args : Array Value} {s : State} (ev : t.eval args s none [] s = some (.ref x)) (A : Arr s s.heap x cl ty) (q : (Jvm.Cond.eq (Term.length t) (Term.int k)).value args s none s [] = some true) : cl.slots.size.toInt32 = k := by
  obtain ⟨u, w, e1, e2, k1, k2⟩ := cmp_v (Or.inl q)
  cases (Term.int_eval k).symm.trans e2
  obtain ⟨z, rfl⟩ := k2
  have h0 : z = k := by simpa [Jvm.Cond.value, e1, Term.int_eval] using q
  subst h0
  have h1 : s.arrayAt? x = some cl := Arr.fin (Vm.Alike.refl _) A
  by_cases hl : cl.slots.size < 2 ^ 31
  · have := (len_f (args := args) (first := s) (o := none) (idx := []) ev h1 hl).symm.trans e1
    exact Value.int.inj (Option.some.inj this)
  · exfalso; simp [Term.eval, ev, h1, hl] at e1
theorem zfld_ref {t t' : Term} {x y : Addr} {C n d : String} {args : Array Value} {s : State} (ev : t.eval args s none [] s = some (.ref x)) (ev' : t'.eval args s none [] s = some (.ref y)) (q : (Jvm.Cond.eq (Term.field t C n d) t').value args s none s [] = some true) : Fld s s.heap x C n d (.ref y) := by
  obtain ⟨u, w, e1, e2, k1, k2⟩ := cmp_v (Or.inl q)
  cases ev'.symm.trans e2
  have k3 : u.isRef = true := k2.2
  have q2 := gotT (eq_R e1 ev' k3 rfl) q
  subst q2
  rw [fld_at ev] at e1
  exact Fld.start e1
end Own
end Jvm.OwnKit
namespace Jvm.Pilot.@@N@@
open Jvm Jvm.ClassFile Sem Op Lib Jvm.Free Jvm.Stand Jvm.LawKit Jvm.RoadKit Jvm.OwnKit Bundle Jvm.Pilot.@@N@@.Jvm.D
theorem w0 {Z : State} {a0 : Array Value} (hw : ∀ d ∈ tables_1, d.before a0 Z = true) : (Jvm.Cond.constant "com/example/needful_assumptions/needfulassumptions/spec/OperatorWrittenInPrefixPinLaw" (25 : Nat) (2147483647 : Int32)).before a0 Z = true := hw _ (List.mem_of_getElem? (i := 0) rfl)
theorem w1 {Z : State} {a0 : Array Value} (hw : ∀ d ∈ tables_1, d.before a0 Z = true) : (Jvm.Cond.methodLink "com/example/needful_assumptions/needfulassumptions/spec/OperatorWrittenInPrefixPinLaw" (26 : Nat) ({ cls := "com/example/needful_assumptions/needfulassumptions/spec/OperatorWrittenInPrefixPinLaw", name := "pick", desc := "(I)Lcom/example/needful_assumptions/needfulassumptions/spec/Connective$Operator;" } : Jvm.MethodName)).before a0 Z = true := hw _ (List.mem_of_getElem? (i := 1) rfl)
theorem w2 {Z : State} {a0 : Array Value} (hw : ∀ d ∈ tables_1, d.before a0 Z = true) : (Jvm.Cond.static ({ cls := "com/example/needful_assumptions/needfulassumptions/spec/OperatorWrittenInPrefixPinLaw", name := "pick", desc := "(I)Lcom/example/needful_assumptions/needfulassumptions/spec/Connective$Operator;" } : Jvm.MethodName)).before a0 Z = true := hw _ (List.mem_of_getElem? (i := 2) rfl)
theorem w3 {Z : State} {a0 : Array Value} (hw : ∀ d ∈ tables_1, d.before a0 Z = true) : (Jvm.Cond.initialized "com/example/needful_assumptions/needfulassumptions/spec/OperatorWrittenInPrefixPinLaw").before a0 Z = true := hw _ (List.mem_of_getElem? (i := 3) rfl)
theorem w4 {Z : State} {a0 : Array Value} (hw : ∀ d ∈ tables_1, d.before a0 Z = true) : (Jvm.Cond.code ({ cls := "com/example/needful_assumptions/needfulassumptions/spec/OperatorWrittenInPrefixPinLaw", name := "pick", desc := "(I)Lcom/example/needful_assumptions/needfulassumptions/spec/Connective$Operator;" } : Jvm.MethodName) method_2_code (1 : Nat) (Option.some (Jvm.ClassFile.FieldType.object "com/example/needful_assumptions/needfulassumptions/spec/Connective$Operator"))).before a0 Z = true := hw _ (List.mem_of_getElem? (i := 4) rfl)
theorem w5 {Z : State} {a0 : Array Value} (hw : ∀ d ∈ tables_1, d.before a0 Z = true) : (Jvm.Cond.fieldLink "com/example/needful_assumptions/needfulassumptions/spec/OperatorWrittenInPrefixPinLaw" (7 : Nat) "com/example/needful_assumptions/needfulassumptions/spec/Connective$Operator" "AND" "Lcom/example/needful_assumptions/needfulassumptions/spec/Connective$Operator;").before a0 Z = true := hw _ (List.mem_of_getElem? (i := 5) rfl)
theorem w6 {Z : State} {a0 : Array Value} (hw : ∀ d ∈ tables_1, d.before a0 Z = true) : (Jvm.Cond.initialized "com/example/needful_assumptions/needfulassumptions/spec/Connective$Operator").before a0 Z = true := hw _ (List.mem_of_getElem? (i := 6) rfl)
theorem w7 {Z : State} {a0 : Array Value} (hw : ∀ d ∈ tables_1, d.before a0 Z = true) : (Jvm.Cond.laysStatic "com/example/needful_assumptions/needfulassumptions/spec/Connective$Operator" "AND" "Lcom/example/needful_assumptions/needfulassumptions/spec/Connective$Operator;").before a0 Z = true := hw _ (List.mem_of_getElem? (i := 7) rfl)
theorem w8 {Z : State} {a0 : Array Value} (hw : ∀ d ∈ tables_1, d.before a0 Z = true) : (Jvm.Cond.methodLink "com/example/needful_assumptions/needfulassumptions/spec/OperatorWrittenInPrefixPinLaw" (32 : Nat) ({ cls := "com/example/needful_assumptions/needfulassumptions/spec/Connective$Operator", name := "writtenInPrefix", desc := "()Z" } : Jvm.MethodName)).before a0 Z = true := hw _ (List.mem_of_getElem? (i := 8) rfl)
theorem w9 {Z : State} {a0 : Array Value} (hw : ∀ d ∈ tables_1, d.before a0 Z = true) : (Jvm.Cond.declares ({ cls := "com/example/needful_assumptions/needfulassumptions/spec/Connective$Operator", name := "writtenInPrefix", desc := "()Z" } : Jvm.MethodName)).before a0 Z = true := hw _ (List.mem_of_getElem? (i := 9) rfl)
theorem w10 {Z : State} {a0 : Array Value} (hw : ∀ d ∈ tables_1, d.before a0 Z = true) : (Jvm.Cond.instanceMethod ({ cls := "com/example/needful_assumptions/needfulassumptions/spec/Connective$Operator", name := "writtenInPrefix", desc := "()Z" } : Jvm.MethodName)).before a0 Z = true := hw _ (List.mem_of_getElem? (i := 10) rfl)
theorem w11 {Z : State} {a0 : Array Value} (hw : ∀ d ∈ tables_1, d.before a0 Z = true) : (Jvm.Cond.selects "com/example/needful_assumptions/needfulassumptions/spec/Connective$Operator" ({ cls := "com/example/needful_assumptions/needfulassumptions/spec/Connective$Operator", name := "writtenInPrefix", desc := "()Z" } : Jvm.MethodName) ({ cls := "com/example/needful_assumptions/needfulassumptions/spec/Connective$Operator", name := "writtenInPrefix", desc := "()Z" } : Jvm.MethodName)).before a0 Z = true := hw _ (List.mem_of_getElem? (i := 11) rfl)
theorem w12 {Z : State} {a0 : Array Value} (hw : ∀ d ∈ tables_1, d.before a0 Z = true) : (Jvm.Cond.code ({ cls := "com/example/needful_assumptions/needfulassumptions/spec/Connective$Operator", name := "writtenInPrefix", desc := "()Z" } : Jvm.MethodName) prog_20_method_6_code (1 : Nat) (Option.some Jvm.ClassFile.FieldType.boolean)).before a0 Z = true := hw _ (List.mem_of_getElem? (i := 12) rfl)
theorem w13 {Z : State} {a0 : Array Value} (hw : ∀ d ∈ tables_1, d.before a0 Z = true) : (Jvm.Cond.fieldLink "com/example/needful_assumptions/needfulassumptions/spec/Connective$Operator" (3 : Nat) "com/example/needful_assumptions/needfulassumptions/spec/Connective$Operator" "AND" "Lcom/example/needful_assumptions/needfulassumptions/spec/Connective$Operator;").before a0 Z = true := hw _ (List.mem_of_getElem? (i := 13) rfl)
theorem w14 {Z : State} {a0 : Array Value} (hw : ∀ d ∈ tables_1, d.before a0 Z = true) : (Jvm.Cond.fieldLink "com/example/needful_assumptions/needfulassumptions/spec/OperatorWrittenInPrefixPinLaw" (16 : Nat) "com/example/needful_assumptions/needfulassumptions/spec/Connective$Operator" "XOR" "Lcom/example/needful_assumptions/needfulassumptions/spec/Connective$Operator;").before a0 Z = true := hw _ (List.mem_of_getElem? (i := 14) rfl)
theorem w15 {Z : State} {a0 : Array Value} (hw : ∀ d ∈ tables_1, d.before a0 Z = true) : (Jvm.Cond.laysStatic "com/example/needful_assumptions/needfulassumptions/spec/Connective$Operator" "XOR" "Lcom/example/needful_assumptions/needfulassumptions/spec/Connective$Operator;").before a0 Z = true := hw _ (List.mem_of_getElem? (i := 15) rfl)
theorem w16 {Z : State} {a0 : Array Value} (hw : ∀ d ∈ tables_1, d.before a0 Z = true) : (Jvm.Cond.methodLink "com/example/needful_assumptions/needfulassumptions/spec/OperatorWrittenInPrefixPinLaw" (36 : Nat) ({ cls := "com/example/needful_assumptions/needfulassumptions/spec/Connective$Operator", name := "bindsAtLeastAsTightlyAs", desc := "(Lcom/example/needful_assumptions/needfulassumptions/spec/Connective$Operator;)Z" } : Jvm.MethodName)).before a0 Z = true := hw _ (List.mem_of_getElem? (i := 16) rfl)
theorem w17 {Z : State} {a0 : Array Value} (hw : ∀ d ∈ tables_1, d.before a0 Z = true) : (Jvm.Cond.declares ({ cls := "com/example/needful_assumptions/needfulassumptions/spec/Connective$Operator", name := "bindsAtLeastAsTightlyAs", desc := "(Lcom/example/needful_assumptions/needfulassumptions/spec/Connective$Operator;)Z" } : Jvm.MethodName)).before a0 Z = true := hw _ (List.mem_of_getElem? (i := 17) rfl)
theorem w18 {Z : State} {a0 : Array Value} (hw : ∀ d ∈ tables_1, d.before a0 Z = true) : (Jvm.Cond.instanceMethod ({ cls := "com/example/needful_assumptions/needfulassumptions/spec/Connective$Operator", name := "bindsAtLeastAsTightlyAs", desc := "(Lcom/example/needful_assumptions/needfulassumptions/spec/Connective$Operator;)Z" } : Jvm.MethodName)).before a0 Z = true := hw _ (List.mem_of_getElem? (i := 18) rfl)
theorem w19 {Z : State} {a0 : Array Value} (hw : ∀ d ∈ tables_1, d.before a0 Z = true) : (Jvm.Cond.selects "com/example/needful_assumptions/needfulassumptions/spec/Connective$Operator" ({ cls := "com/example/needful_assumptions/needfulassumptions/spec/Connective$Operator", name := "bindsAtLeastAsTightlyAs", desc := "(Lcom/example/needful_assumptions/needfulassumptions/spec/Connective$Operator;)Z" } : Jvm.MethodName) ({ cls := "com/example/needful_assumptions/needfulassumptions/spec/Connective$Operator", name := "bindsAtLeastAsTightlyAs", desc := "(Lcom/example/needful_assumptions/needfulassumptions/spec/Connective$Operator;)Z" } : Jvm.MethodName)).before a0 Z = true := hw _ (List.mem_of_getElem? (i := 19) rfl)
theorem w20 {Z : State} {a0 : Array Value} (hw : ∀ d ∈ tables_1, d.before a0 Z = true) : (Jvm.Cond.code ({ cls := "com/example/needful_assumptions/needfulassumptions/spec/Connective$Operator", name := "bindsAtLeastAsTightlyAs", desc := "(Lcom/example/needful_assumptions/needfulassumptions/spec/Connective$Operator;)Z" } : Jvm.MethodName) prog_20_method_5_code (2 : Nat) (Option.some Jvm.ClassFile.FieldType.boolean)).before a0 Z = true := hw _ (List.mem_of_getElem? (i := 20) rfl)
theorem w21 {Z : State} {a0 : Array Value} (hw : ∀ d ∈ tables_1, d.before a0 Z = true) : (Jvm.Cond.methodLink "com/example/needful_assumptions/needfulassumptions/spec/Connective$Operator" (42 : Nat) ({ cls := "com/example/needful_assumptions/needfulassumptions/spec/Connective$Operator", name := "ordinal", desc := "()I" } : Jvm.MethodName)).before a0 Z = true := hw _ (List.mem_of_getElem? (i := 21) rfl)
theorem w22 {Z : State} {a0 : Array Value} (hw : ∀ d ∈ tables_1, d.before a0 Z = true) : (Jvm.Cond.sameMethod "com/example/needful_assumptions/needfulassumptions/spec/Connective$Operator" "java/lang/Enum" "ordinal" "()I").before a0 Z = true := hw _ (List.mem_of_getElem? (i := 22) rfl)
theorem w23 {Z : State} {a0 : Array Value} (hw : ∀ d ∈ tables_1, d.before a0 Z = true) : (Jvm.Cond.declares ({ cls := "java/lang/Enum", name := "ordinal", desc := "()I" } : Jvm.MethodName)).before a0 Z = true := hw _ (List.mem_of_getElem? (i := 23) rfl)
theorem w24 {Z : State} {a0 : Array Value} (hw : ∀ d ∈ tables_1, d.before a0 Z = true) : (Jvm.Cond.instanceMethod ({ cls := "java/lang/Enum", name := "ordinal", desc := "()I" } : Jvm.MethodName)).before a0 Z = true := hw _ (List.mem_of_getElem? (i := 24) rfl)
theorem w25 {Z : State} {a0 : Array Value} (hw : ∀ d ∈ tables_1, d.before a0 Z = true) : (Jvm.Cond.selects "com/example/needful_assumptions/needfulassumptions/spec/Connective$Operator" ({ cls := "com/example/needful_assumptions/needfulassumptions/spec/Connective$Operator", name := "ordinal", desc := "()I" } : Jvm.MethodName) ({ cls := "java/lang/Enum", name := "ordinal", desc := "()I" } : Jvm.MethodName)).before a0 Z = true := hw _ (List.mem_of_getElem? (i := 25) rfl)
theorem w26 {Z : State} {a0 : Array Value} (hw : ∀ d ∈ tables_1, d.before a0 Z = true) : (Jvm.Cond.initialized "java/lang/Enum").before a0 Z = true := hw _ (List.mem_of_getElem? (i := 26) rfl)
theorem w27 {Z : State} {a0 : Array Value} (hw : ∀ d ∈ tables_1, d.before a0 Z = true) : (Jvm.Cond.code ({ cls := "java/lang/Enum", name := "ordinal", desc := "()I" } : Jvm.MethodName) jdk_37_method_2_code (1 : Nat) (Option.some Jvm.ClassFile.FieldType.int)).before a0 Z = true := hw _ (List.mem_of_getElem? (i := 27) rfl)
theorem w28 {Z : State} {a0 : Array Value} (hw : ∀ d ∈ tables_1, d.before a0 Z = true) : (Jvm.Cond.fieldLink "java/lang/Enum" (7 : Nat) "java/lang/Enum" "ordinal" "I").before a0 Z = true := hw _ (List.mem_of_getElem? (i := 28) rfl)
theorem w30 {Z : State} {a0 : Array Value} (hw : ∀ d ∈ tables_1, d.before a0 Z = true) : (Jvm.Cond.methodLink "com/example/needful_assumptions/needfulassumptions/spec/OperatorWrittenInPrefixPinLaw" (40 : Nat) ({ cls := "com/example/needful_assumptions/needfulassumptions/spec/Connective$Operator", name := "groupsRight", desc := "()Z" } : Jvm.MethodName)).before a0 Z = true := hw _ (List.mem_of_getElem? (i := 30) rfl)
theorem w31 {Z : State} {a0 : Array Value} (hw : ∀ d ∈ tables_1, d.before a0 Z = true) : (Jvm.Cond.declares ({ cls := "com/example/needful_assumptions/needfulassumptions/spec/Connective$Operator", name := "groupsRight", desc := "()Z" } : Jvm.MethodName)).before a0 Z = true := hw _ (List.mem_of_getElem? (i := 31) rfl)
theorem w32 {Z : State} {a0 : Array Value} (hw : ∀ d ∈ tables_1, d.before a0 Z = true) : (Jvm.Cond.instanceMethod ({ cls := "com/example/needful_assumptions/needfulassumptions/spec/Connective$Operator", name := "groupsRight", desc := "()Z" } : Jvm.MethodName)).before a0 Z = true := hw _ (List.mem_of_getElem? (i := 32) rfl)
theorem w33 {Z : State} {a0 : Array Value} (hw : ∀ d ∈ tables_1, d.before a0 Z = true) : (Jvm.Cond.selects "com/example/needful_assumptions/needfulassumptions/spec/Connective$Operator" ({ cls := "com/example/needful_assumptions/needfulassumptions/spec/Connective$Operator", name := "groupsRight", desc := "()Z" } : Jvm.MethodName) ({ cls := "com/example/needful_assumptions/needfulassumptions/spec/Connective$Operator", name := "groupsRight", desc := "()Z" } : Jvm.MethodName)).before a0 Z = true := hw _ (List.mem_of_getElem? (i := 33) rfl)
theorem w34 {Z : State} {a0 : Array Value} (hw : ∀ d ∈ tables_1, d.before a0 Z = true) : (Jvm.Cond.code ({ cls := "com/example/needful_assumptions/needfulassumptions/spec/Connective$Operator", name := "groupsRight", desc := "()Z" } : Jvm.MethodName) prog_20_method_7_code (1 : Nat) (Option.some Jvm.ClassFile.FieldType.boolean)).before a0 Z = true := hw _ (List.mem_of_getElem? (i := 34) rfl)
theorem w35 {Z : State} {a0 : Array Value} (hw : ∀ d ∈ tables_1, d.before a0 Z = true) : (Jvm.Cond.fieldLink "com/example/needful_assumptions/needfulassumptions/spec/Connective$Operator" (13 : Nat) "com/example/needful_assumptions/needfulassumptions/spec/Connective$Operator" "IMPLIES" "Lcom/example/needful_assumptions/needfulassumptions/spec/Connective$Operator;").before a0 Z = true := hw _ (List.mem_of_getElem? (i := 35) rfl)
theorem w36 {Z : State} {a0 : Array Value} (hw : ∀ d ∈ tables_1, d.before a0 Z = true) : (Jvm.Cond.laysStatic "com/example/needful_assumptions/needfulassumptions/spec/Connective$Operator" "IMPLIES" "Lcom/example/needful_assumptions/needfulassumptions/spec/Connective$Operator;").before a0 Z = true := hw _ (List.mem_of_getElem? (i := 36) rfl)
theorem w37 {Z : State} {a0 : Array Value} (hw : ∀ d ∈ tables_1, d.before a0 Z = true) : (Jvm.Cond.fieldLink "com/example/needful_assumptions/needfulassumptions/spec/OperatorWrittenInPrefixPinLaw" (19 : Nat) "com/example/needful_assumptions/needfulassumptions/spec/Connective$Operator" "IMPLIES" "Lcom/example/needful_assumptions/needfulassumptions/spec/Connective$Operator;").before a0 Z = true := hw _ (List.mem_of_getElem? (i := 37) rfl)
theorem w38 {Z : State} {a0 : Array Value} (hw : ∀ d ∈ tables_1, d.before a0 Z = true) : (Jvm.Cond.fieldLink "com/example/needful_assumptions/needfulassumptions/spec/Connective$Operator" (7 : Nat) "com/example/needful_assumptions/needfulassumptions/spec/Connective$Operator" "OR" "Lcom/example/needful_assumptions/needfulassumptions/spec/Connective$Operator;").before a0 Z = true := hw _ (List.mem_of_getElem? (i := 38) rfl)
theorem w39 {Z : State} {a0 : Array Value} (hw : ∀ d ∈ tables_1, d.before a0 Z = true) : (Jvm.Cond.laysStatic "com/example/needful_assumptions/needfulassumptions/spec/Connective$Operator" "OR" "Lcom/example/needful_assumptions/needfulassumptions/spec/Connective$Operator;").before a0 Z = true := hw _ (List.mem_of_getElem? (i := 39) rfl)
theorem w40 {Z : State} {a0 : Array Value} (hw : ∀ d ∈ tables_1, d.before a0 Z = true) : (Jvm.Cond.fieldLink "com/example/needful_assumptions/needfulassumptions/spec/Connective$Operator" (10 : Nat) "com/example/needful_assumptions/needfulassumptions/spec/Connective$Operator" "XOR" "Lcom/example/needful_assumptions/needfulassumptions/spec/Connective$Operator;").before a0 Z = true := hw _ (List.mem_of_getElem? (i := 40) rfl)
theorem w41 {Z : State} {a0 : Array Value} (hw : ∀ d ∈ tables_1, d.before a0 Z = true) : (Jvm.Cond.fieldLink "com/example/needful_assumptions/needfulassumptions/spec/OperatorWrittenInPrefixPinLaw" (13 : Nat) "com/example/needful_assumptions/needfulassumptions/spec/Connective$Operator" "OR" "Lcom/example/needful_assumptions/needfulassumptions/spec/Connective$Operator;").before a0 Z = true := hw _ (List.mem_of_getElem? (i := 41) rfl)
theorem w42 {Z : State} {a0 : Array Value} (hw : ∀ d ∈ tables_1, d.before a0 Z = true) : (Jvm.Cond.fieldLink "com/example/needful_assumptions/needfulassumptions/spec/OperatorWrittenInPrefixPinLaw" (22 : Nat) "com/example/needful_assumptions/needfulassumptions/spec/Connective$Operator" "IFF" "Lcom/example/needful_assumptions/needfulassumptions/spec/Connective$Operator;").before a0 Z = true := hw _ (List.mem_of_getElem? (i := 42) rfl)
theorem w43 {Z : State} {a0 : Array Value} (hw : ∀ d ∈ tables_1, d.before a0 Z = true) : (Jvm.Cond.laysStatic "com/example/needful_assumptions/needfulassumptions/spec/Connective$Operator" "IFF" "Lcom/example/needful_assumptions/needfulassumptions/spec/Connective$Operator;").before a0 Z = true := hw _ (List.mem_of_getElem? (i := 43) rfl)
theorem d_jdk_37_method_2_0 : decode jdk_37_method_2_code 0 = .ok (.aload_n 0, 1) := by decide +kernel
theorem d_jdk_37_method_2_1 : decode jdk_37_method_2_code 1 = .ok (.getfield 7, 3) := by decide +kernel
theorem d_jdk_37_method_2_4 : decode jdk_37_method_2_code 4 = .ok (.ireturn, 1) := by decide +kernel
theorem d_method_2_0 : decode method_2_code 0 = .ok (.iload_n 0, 1) := by decide +kernel
theorem d_method_2_1 : decode method_2_code 1 = .ok (.ifCond .ne 7, 3) := by decide +kernel
theorem d_method_2_4 : decode method_2_code 4 = .ok (.getstatic 7, 3) := by decide +kernel
theorem d_method_2_7 : decode method_2_code 7 = .ok (.areturn, 1) := by decide +kernel
theorem d_method_2_8 : decode method_2_code 8 = .ok (.iload_n 0, 1) := by decide +kernel
theorem d_method_2_9 : decode method_2_code 9 = .ok (.iconst 1, 1) := by decide +kernel
theorem d_method_2_10 : decode method_2_code 10 = .ok (.if_icmp .ne 7, 3) := by decide +kernel
theorem d_method_2_13 : decode method_2_code 13 = .ok (.getstatic 13, 3) := by decide +kernel
theorem d_method_2_16 : decode method_2_code 16 = .ok (.areturn, 1) := by decide +kernel
theorem d_method_2_17 : decode method_2_code 17 = .ok (.iload_n 0, 1) := by decide +kernel
theorem d_method_2_18 : decode method_2_code 18 = .ok (.iconst 2, 1) := by decide +kernel
theorem d_method_2_19 : decode method_2_code 19 = .ok (.if_icmp .ne 7, 3) := by decide +kernel
theorem d_method_2_22 : decode method_2_code 22 = .ok (.getstatic 16, 3) := by decide +kernel
theorem d_method_2_25 : decode method_2_code 25 = .ok (.areturn, 1) := by decide +kernel
theorem d_method_2_26 : decode method_2_code 26 = .ok (.iload_n 0, 1) := by decide +kernel
theorem d_method_2_27 : decode method_2_code 27 = .ok (.iconst 3, 1) := by decide +kernel
theorem d_method_2_28 : decode method_2_code 28 = .ok (.if_icmp .ne 7, 3) := by decide +kernel
theorem d_method_2_31 : decode method_2_code 31 = .ok (.getstatic 19, 3) := by decide +kernel
theorem d_method_2_34 : decode method_2_code 34 = .ok (.areturn, 1) := by decide +kernel
theorem d_method_2_35 : decode method_2_code 35 = .ok (.getstatic 22, 3) := by decide +kernel
theorem d_method_2_38 : decode method_2_code 38 = .ok (.areturn, 1) := by decide +kernel
theorem d_prog_20_method_5_0 : decode prog_20_method_5_code 0 = .ok (.aload_n 0, 1) := by decide +kernel
theorem d_prog_20_method_5_1 : decode prog_20_method_5_code 1 = .ok (.invokevirtual 42, 3) := by decide +kernel
theorem d_prog_20_method_5_4 : decode prog_20_method_5_code 4 = .ok (.aload_n 1, 1) := by decide +kernel
theorem d_prog_20_method_5_5 : decode prog_20_method_5_code 5 = .ok (.invokevirtual 42, 3) := by decide +kernel
theorem d_prog_20_method_5_8 : decode prog_20_method_5_code 8 = .ok (.if_icmp .gt 7, 3) := by decide +kernel
theorem d_prog_20_method_5_11 : decode prog_20_method_5_code 11 = .ok (.iconst 1, 1) := by decide +kernel
theorem d_prog_20_method_5_12 : decode prog_20_method_5_code 12 = .ok (.goto 4, 3) := by decide +kernel
theorem d_prog_20_method_5_15 : decode prog_20_method_5_code 15 = .ok (.iconst 0, 1) := by decide +kernel
theorem d_prog_20_method_5_16 : decode prog_20_method_5_code 16 = .ok (.ireturn, 1) := by decide +kernel
theorem d_prog_20_method_6_0 : decode prog_20_method_6_code 0 = .ok (.aload_n 0, 1) := by decide +kernel
theorem d_prog_20_method_6_1 : decode prog_20_method_6_code 1 = .ok (.getstatic 3, 3) := by decide +kernel
theorem d_prog_20_method_6_4 : decode prog_20_method_6_code 4 = .ok (.if_acmp .eq 17, 3) := by decide +kernel
theorem d_prog_20_method_6_7 : decode prog_20_method_6_code 7 = .ok (.aload_n 0, 1) := by decide +kernel
theorem d_prog_20_method_6_8 : decode prog_20_method_6_code 8 = .ok (.getstatic 7, 3) := by decide +kernel
theorem d_prog_20_method_6_11 : decode prog_20_method_6_code 11 = .ok (.if_acmp .eq 10, 3) := by decide +kernel
theorem d_prog_20_method_6_14 : decode prog_20_method_6_code 14 = .ok (.aload_n 0, 1) := by decide +kernel
theorem d_prog_20_method_6_15 : decode prog_20_method_6_code 15 = .ok (.getstatic 10, 3) := by decide +kernel
theorem d_prog_20_method_6_18 : decode prog_20_method_6_code 18 = .ok (.if_acmp .ne 7, 3) := by decide +kernel
theorem d_prog_20_method_6_21 : decode prog_20_method_6_code 21 = .ok (.iconst 1, 1) := by decide +kernel
theorem d_prog_20_method_6_22 : decode prog_20_method_6_code 22 = .ok (.goto 4, 3) := by decide +kernel
theorem d_prog_20_method_6_25 : decode prog_20_method_6_code 25 = .ok (.iconst 0, 1) := by decide +kernel
theorem d_prog_20_method_6_26 : decode prog_20_method_6_code 26 = .ok (.ireturn, 1) := by decide +kernel
theorem d_prog_20_method_7_0 : decode prog_20_method_7_code 0 = .ok (.aload_n 0, 1) := by decide +kernel
theorem d_prog_20_method_7_1 : decode prog_20_method_7_code 1 = .ok (.getstatic 13, 3) := by decide +kernel
theorem d_prog_20_method_7_4 : decode prog_20_method_7_code 4 = .ok (.if_acmp .ne 7, 3) := by decide +kernel
theorem d_prog_20_method_7_7 : decode prog_20_method_7_code 7 = .ok (.iconst 1, 1) := by decide +kernel
theorem d_prog_20_method_7_8 : decode prog_20_method_7_code 8 = .ok (.goto 4, 3) := by decide +kernel
theorem d_prog_20_method_7_11 : decode prog_20_method_7_code 11 = .ok (.iconst 0, 1) := by decide +kernel
theorem d_prog_20_method_7_12 : decode prog_20_method_7_code 12 = .ok (.ireturn, 1) := by decide +kernel
theorem pd_0 : parseMethodDescriptor "(I)Lcom/example/needful_assumptions/needfulassumptions/spec/Connective$Operator;" = some ⟨[.int], some (.object "com/example/needful_assumptions/needfulassumptions/spec/Connective$Operator")⟩ := by decide +kernel
theorem pd_1 : parseMethodDescriptor "()Z" = some ⟨[], some .boolean⟩ := by decide +kernel
theorem pd_2 : parseMethodDescriptor "()I" = some ⟨[], some .int⟩ := by decide +kernel
theorem pd_3 : parseMethodDescriptor "(Lcom/example/needful_assumptions/needfulassumptions/spec/Connective$Operator;)Z" = some ⟨[(.object "com/example/needful_assumptions/needfulassumptions/spec/Connective$Operator")], some .boolean⟩ := by decide +kernel
theorem pn_0 : plainName "com/example/needful_assumptions/needfulassumptions/spec/OperatorWrittenInPrefixPinLaw" = true := by first | (simp [plainName, overriddenIn]; done) | decide +kernel
theorem pn_1 : plainName "com/example/needful_assumptions/needfulassumptions/spec/Connective$Operator" = true := by first | (simp [plainName, overriddenIn]; done) | decide +kernel
theorem pn_2 : plainName "java/lang/Enum" = true := by first | (simp [plainName, overriddenIn]; done) | decide +kernel
theorem oneof_5 (z : Int32) (h1 : 0 ≤ z.toInt) (h2 : z.toInt < 5) : z = 0 ∨ z = 1 ∨ z = 2 ∨ z = 3 ∨ z = 4 := by
  have q : z.toInt = 0 ∨ z.toInt = 1 ∨ z.toInt = 2 ∨ z.toInt = 3 ∨ z.toInt = 4 := by omega
  rcases q with q | q | q | q | q
  · exact Or.inl (Int32.toInt_inj.mp (q.trans rfl))
  · exact Or.inr (Or.inl (Int32.toInt_inj.mp (q.trans rfl)))
  · exact Or.inr (Or.inr (Or.inl (Int32.toInt_inj.mp (q.trans rfl))))
  · exact Or.inr (Or.inr (Or.inr (Or.inl (Int32.toInt_inj.mp (q.trans rfl)))))
  · exact Or.inr (Or.inr (Or.inr (Or.inr ((Int32.toInt_inj.mp (q.trans rfl))))))
theorem rem_5 (x : Int32) : (x &&& (2147483647 : Int32)) % (5 : Int32) = (0 : Int32) ∨ (x &&& (2147483647 : Int32)) % (5 : Int32) = (1 : Int32) ∨ (x &&& (2147483647 : Int32)) % (5 : Int32) = (2 : Int32) ∨ (x &&& (2147483647 : Int32)) % (5 : Int32) = (3 : Int32) ∨ (x &&& (2147483647 : Int32)) % (5 : Int32) = (4 : Int32) := by
  have h0 : 0 ≤ (x &&& (2147483647 : Int32)).toInt := (c_andS x 2147483647).2.2 (by decide)
  have p := (c_irem (x &&& (2147483647 : Int32)) 5 5 rfl).1 h0
  exact oneof_5 _ (by rw [p]; omega) (by rw [p]; omega)
def Ctx (Z : State) (h : Heap) (w_AND w_XOR w_IMPLIES w_OR w_IFF : Addr) : Prop := Sta Z h "com/example/needful_assumptions/needfulassumptions/spec/Connective$Operator" "AND" "Lcom/example/needful_assumptions/needfulassumptions/spec/Connective$Operator;" (.ref w_AND) ∧ Sta Z h "com/example/needful_assumptions/needfulassumptions/spec/Connective$Operator" "XOR" "Lcom/example/needful_assumptions/needfulassumptions/spec/Connective$Operator;" (.ref w_XOR) ∧ Sta Z h "com/example/needful_assumptions/needfulassumptions/spec/Connective$Operator" "IMPLIES" "Lcom/example/needful_assumptions/needfulassumptions/spec/Connective$Operator;" (.ref w_IMPLIES) ∧ Sta Z h "com/example/needful_assumptions/needfulassumptions/spec/Connective$Operator" "OR" "Lcom/example/needful_assumptions/needfulassumptions/spec/Connective$Operator;" (.ref w_OR) ∧ Sta Z h "com/example/needful_assumptions/needfulassumptions/spec/Connective$Operator" "IFF" "Lcom/example/needful_assumptions/needfulassumptions/spec/Connective$Operator;" (.ref w_IFF) ∧ Exa Z h w_AND "com/example/needful_assumptions/needfulassumptions/spec/Connective$Operator" ∧ Exa Z h w_XOR "com/example/needful_assumptions/needfulassumptions/spec/Connective$Operator" ∧ Exa Z h w_IMPLIES "com/example/needful_assumptions/needfulassumptions/spec/Connective$Operator" ∧ Exa Z h w_OR "com/example/needful_assumptions/needfulassumptions/spec/Connective$Operator" ∧ Exa Z h w_IFF "com/example/needful_assumptions/needfulassumptions/spec/Connective$Operator" ∧ Fld Z h w_AND "java/lang/Enum" "ordinal" "I" (.int 0) ∧ Fld Z h w_XOR "java/lang/Enum" "ordinal" "I" (.int 2) ∧ Fld Z h w_IMPLIES "java/lang/Enum" "ordinal" "I" (.int 3) ∧ Fld Z h w_OR "java/lang/Enum" "ordinal" "I" (.int 1) ∧ Fld Z h w_IFF "java/lang/Enum" "ordinal" "I" (.int 4)
set_option maxRecDepth 65536 in
set_option maxHeartbeats 40000000 in
theorem c0_pick (l : Launch) {Z : State} {a0 : Array Value} (hw : ∀ d ∈ tables_1, d.before a0 Z = true) (ws : List Jvm.Cond) {w_AND w_XOR w_IMPLIES w_OR w_IFF : Addr} {h0 : Heap} (K : Ctx Z h0 w_AND w_XOR w_IMPLIES w_OR w_IFF)  : zCon l Z (⟨"com/example/needful_assumptions/needfulassumptions/spec/OperatorWrittenInPrefixPinLaw", "pick", "(I)Lcom/example/needful_assumptions/needfulassumptions/spec/Connective$Operator;"⟩ : MethodName) method_2_code 1 (some (.object "com/example/needful_assumptions/needfulassumptions/spec/Connective$Operator")) ws ({ frames := 0, cells := 0, slots := 0, locals := 0 } : Room) #[(.int 0)] h0 (zSame (some (.ref w_AND)) h0) := by
  obtain ⟨S_w_AND, S_w_XOR, S_w_IMPLIES, S_w_OR, S_w_IFF, E_w_AND, E_w_XOR, E_w_IMPLIES, E_w_OR, E_w_IFF, F_w_AND_ordinal, F_w_XOR_ordinal, F_w_IMPLIES_ordinal, F_w_OR_ordinal, F_w_IFF_ordinal⟩ := K
  refine zenter (plainFor_of_name pn_0) (L0 := #[iv 0]) (fun m => by first | rfl | simp [entryFrame, mkF, argsToLocals, Value.category, maxLocals]) ?_
  intro p e s m below meth c T0 hx hZ hby hml hown0 hnm hret hlk X0 e0
  have hown : s.vm.findClass "com/example/needful_assumptions/needfulassumptions/spec/OperatorWrittenInPrefixPinLaw" = some m.cls := hown0
  show zEnds p e below s T0 (mkF m 0 #[iv 0] []) _ _ _
  refine ziloadN X0 hx hby d_method_2_0 rfl (zifNo X0 hx hby d_method_2_1 (by decide) (zgetstat X0 hx hby d_method_2_4 hZ hown (host := "") (Or.inl (w5 hw)) Via.refl e0 S_w_AND fun T1 X1 e1 => ?_))
  show zEnds p e below s T1 (mkF m 7 #[iv 0] [(.ref w_AND)]) _ _ _
  exact zretA X1 hx hby d_method_2_7 hret hlk rfl rfl rfl (Nat.zero_le _) (Nat.zero_le _) ⟨rfl, e1, rfl⟩
set_option maxRecDepth 65536 in
set_option maxHeartbeats 40000000 in
theorem c1_writtenInPrefix (l : Launch) {Z : State} {a0 : Array Value} (hw : ∀ d ∈ tables_1, d.before a0 Z = true) (ws : List Jvm.Cond) {w_AND w_XOR w_IMPLIES w_OR w_IFF : Addr} {h0 : Heap} (K : Ctx Z h0 w_AND w_XOR w_IMPLIES w_OR w_IFF)  : zCon l Z (⟨"com/example/needful_assumptions/needfulassumptions/spec/Connective$Operator", "writtenInPrefix", "()Z"⟩ : MethodName) prog_20_method_6_code 1 (some .boolean) ws ({ frames := 0, cells := 0, slots := 0, locals := 0 } : Room) #[(.ref w_AND)] h0 (zSame (some (.int 1)) h0) := by
  obtain ⟨S_w_AND, S_w_XOR, S_w_IMPLIES, S_w_OR, S_w_IFF, E_w_AND, E_w_XOR, E_w_IMPLIES, E_w_OR, E_w_IFF, F_w_AND_ordinal, F_w_XOR_ordinal, F_w_IMPLIES_ordinal, F_w_OR_ordinal, F_w_IFF_ordinal⟩ := K
  refine zenter (plainFor_of_name pn_1) (L0 := #[rv w_AND]) (fun m => by first | rfl | simp [entryFrame, mkF, argsToLocals, Value.category, maxLocals]) ?_
  intro p e s m below meth c T0 hx hZ hby hml hown0 hnm hret hlk X0 e0
  have hown : s.vm.findClass "com/example/needful_assumptions/needfulassumptions/spec/Connective$Operator" = some m.cls := hown0
  show zEnds p e below s T0 (mkF m 0 #[rv w_AND] []) _ _ _
  refine zaloadN X0 hx hby d_prog_20_method_6_0 rfl rfl (zgetstat X0 hx hby d_prog_20_method_6_1 hZ hown (host := "") (Or.inl (w13 hw)) Via.refl e0 S_w_AND fun T1 X1 e1 => (zacmp X1 hx hby d_prog_20_method_6_4 21 true rfl rfl (decide_eq_true rfl) (by decide) (by decide) (ziconst X1 hx hby d_prog_20_method_6_21 (z := (1 : Int32)) rfl (zgoto X1 hx hby d_prog_20_method_6_22 26 (by decide) (by decide) ?_))))
  show zEnds p e below s T1 (mkF m 26 #[rv w_AND] [(.int 1)]) _ _ _
  exact zretZ X1 hx hby d_prog_20_method_6_26 hret hlk (by simp) rfl (Nat.zero_le _) (Nat.zero_le _) ⟨rfl, e1, rfl⟩
set_option maxRecDepth 65536 in
set_option maxHeartbeats 40000000 in
theorem c2_ordinal (l : Launch) {Z : State} {a0 : Array Value} (hw : ∀ d ∈ tables_1, d.before a0 Z = true) (ws : List Jvm.Cond) {w_AND w_XOR w_IMPLIES w_OR w_IFF : Addr} {h0 : Heap} (K : Ctx Z h0 w_AND w_XOR w_IMPLIES w_OR w_IFF)  : zCon l Z (⟨"java/lang/Enum", "ordinal", "()I"⟩ : MethodName) jdk_37_method_2_code 1 (some .int) ws ({ frames := 0, cells := 0, slots := 0, locals := 0 } : Room) #[(.ref w_AND)] h0 (zSame (some (.int 0)) h0) := by
  obtain ⟨S_w_AND, S_w_XOR, S_w_IMPLIES, S_w_OR, S_w_IFF, E_w_AND, E_w_XOR, E_w_IMPLIES, E_w_OR, E_w_IFF, F_w_AND_ordinal, F_w_XOR_ordinal, F_w_IMPLIES_ordinal, F_w_OR_ordinal, F_w_IFF_ordinal⟩ := K
  refine zenter (plainFor_of_name pn_2) (L0 := #[rv w_AND]) (fun m => by first | rfl | simp [entryFrame, mkF, argsToLocals, Value.category, maxLocals]) ?_
  intro p e s m below meth c T0 hx hZ hby hml hown0 hnm hret hlk X0 e0
  have hown : s.vm.findClass "java/lang/Enum" = some m.cls := hown0
  show zEnds p e below s T0 (mkF m 0 #[rv w_AND] []) _ _ _
  refine zaloadN X0 hx hby d_jdk_37_method_2_0 rfl rfl (zgetfld X0 hx hby d_jdk_37_method_2_1 hZ hown (host := "") (Or.inl (w28 hw)) Via.refl e0 F_w_AND_ordinal fun T1 X1 e1 => ?_)
  show zEnds p e below s T1 (mkF m 4 #[rv w_AND] [(.int 0)]) _ _ _
  exact zretI X1 hx hby d_jdk_37_method_2_4 hret hlk (Nat.zero_le _) (Nat.zero_le _) ⟨rfl, e1, rfl⟩
set_option maxRecDepth 65536 in
set_option maxHeartbeats 40000000 in
theorem c3_ordinal (l : Launch) {Z : State} {a0 : Array Value} (hw : ∀ d ∈ tables_1, d.before a0 Z = true) (ws : List Jvm.Cond) {w_AND w_XOR w_IMPLIES w_OR w_IFF : Addr} {h0 : Heap} (K : Ctx Z h0 w_AND w_XOR w_IMPLIES w_OR w_IFF)  : zCon l Z (⟨"java/lang/Enum", "ordinal", "()I"⟩ : MethodName) jdk_37_method_2_code 1 (some .int) ws ({ frames := 0, cells := 0, slots := 0, locals := 0 } : Room) #[(.ref w_XOR)] h0 (zSame (some (.int 2)) h0) := by
  obtain ⟨S_w_AND, S_w_XOR, S_w_IMPLIES, S_w_OR, S_w_IFF, E_w_AND, E_w_XOR, E_w_IMPLIES, E_w_OR, E_w_IFF, F_w_AND_ordinal, F_w_XOR_ordinal, F_w_IMPLIES_ordinal, F_w_OR_ordinal, F_w_IFF_ordinal⟩ := K
  refine zenter (plainFor_of_name pn_2) (L0 := #[rv w_XOR]) (fun m => by first | rfl | simp [entryFrame, mkF, argsToLocals, Value.category, maxLocals]) ?_
  intro p e s m below meth c T0 hx hZ hby hml hown0 hnm hret hlk X0 e0
  have hown : s.vm.findClass "java/lang/Enum" = some m.cls := hown0
  show zEnds p e below s T0 (mkF m 0 #[rv w_XOR] []) _ _ _
  refine zaloadN X0 hx hby d_jdk_37_method_2_0 rfl rfl (zgetfld X0 hx hby d_jdk_37_method_2_1 hZ hown (host := "") (Or.inl (w28 hw)) Via.refl e0 F_w_XOR_ordinal fun T1 X1 e1 => ?_)
  show zEnds p e below s T1 (mkF m 4 #[rv w_XOR] [(.int 2)]) _ _ _
  exact zretI X1 hx hby d_jdk_37_method_2_4 hret hlk (Nat.zero_le _) (Nat.zero_le _) ⟨rfl, e1, rfl⟩
set_option maxRecDepth 65536 in
set_option maxHeartbeats 40000000 in
theorem c2_bindsAtLeastAsTightlyAs (l : Launch) {Z : State} {a0 : Array Value} (hw : ∀ d ∈ tables_1, d.before a0 Z = true) (ws : List Jvm.Cond) {w_AND w_XOR w_IMPLIES w_OR w_IFF : Addr} {h0 : Heap} (K : Ctx Z h0 w_AND w_XOR w_IMPLIES w_OR w_IFF)  : zCon l Z (⟨"com/example/needful_assumptions/needfulassumptions/spec/Connective$Operator", "bindsAtLeastAsTightlyAs", "(Lcom/example/needful_assumptions/needfulassumptions/spec/Connective$Operator;)Z"⟩ : MethodName) prog_20_method_5_code 2 (some .boolean) ws ({ frames := 1, cells := 0, slots := 0, locals := 13 } : Room) #[(.ref w_AND), (.ref w_XOR)] h0 (zSame (some (.int 1)) h0) := by
  obtain ⟨S_w_AND, S_w_XOR, S_w_IMPLIES, S_w_OR, S_w_IFF, E_w_AND, E_w_XOR, E_w_IMPLIES, E_w_OR, E_w_IFF, F_w_AND_ordinal, F_w_XOR_ordinal, F_w_IMPLIES_ordinal, F_w_OR_ordinal, F_w_IFF_ordinal⟩ := K
  refine zenter (plainFor_of_name pn_1) (L0 := #[rv w_AND, rv w_XOR]) (fun m => by first | rfl | simp [entryFrame, mkF, argsToLocals, Value.category, maxLocals]) ?_
  intro p e s m below meth c T0 hx hZ hby hml hown0 hnm hret hlk X0 e0
  have hown : s.vm.findClass "com/example/needful_assumptions/needfulassumptions/spec/Connective$Operator" = some m.cls := hown0
  show zEnds p e below s T0 (mkF m 0 #[rv w_AND, rv w_XOR] []) _ _ _
  refine zaloadN X0 hx hby d_prog_20_method_5_0 rfl rfl ?_
  show zEnds p e below s T0 (mkF m 1 #[rv w_AND, rv w_XOR] [(.ref w_AND)]) _ _ _
  refine zcallup X0 hx hby d_prog_20_method_5_1 hZ hown (w21 hw) (w22 hw) (w23 hw) (w25 hw) (w24 hw) (w27 hw) (w26 hw) e0 E_w_AND (c2_ordinal l hw [] ⟨S_w_AND, S_w_XOR, S_w_IMPLIES, S_w_OR, S_w_IFF, E_w_AND, E_w_XOR, E_w_IMPLIES, E_w_OR, E_w_IFF, F_w_AND_ordinal, F_w_XOR_ordinal, F_w_IMPLIES_ordinal, F_w_OR_ordinal, F_w_IFF_ordinal⟩ ) (by decide) (by rw [hml]; rfl) 0 (Nat.le_of_eq rfl) (by decide) (by decide) (by decide) (by decide) pd_2 rfl (argsL := []) (st := []) rfl (zpureK ⟨rfl, rfl⟩ fun T1 X1 e1 => ?_)
  show zEnds p e below s T1 (mkF m 4 #[rv w_AND, rv w_XOR] [(.int 0)]) _ _ _
  refine zaloadN X1 hx hby d_prog_20_method_5_4 rfl rfl ?_
  show zEnds p e below s T1 (mkF m 5 #[rv w_AND, rv w_XOR] [(.ref w_XOR), (.int 0)]) _ _ _
  refine zcallup X1 hx hby d_prog_20_method_5_5 hZ hown (w21 hw) (w22 hw) (w23 hw) (w25 hw) (w24 hw) (w27 hw) (w26 hw) e1 E_w_XOR (c3_ordinal l hw [] ⟨S_w_AND, S_w_XOR, S_w_IMPLIES, S_w_OR, S_w_IFF, E_w_AND, E_w_XOR, E_w_IMPLIES, E_w_OR, E_w_IFF, F_w_AND_ordinal, F_w_XOR_ordinal, F_w_IMPLIES_ordinal, F_w_OR_ordinal, F_w_IFF_ordinal⟩ ) (by decide) (by rw [hml]; rfl) 1 (Nat.le_of_eq rfl) (by decide) (by decide) (by decide) (by decide) pd_2 rfl (argsL := []) (st := [(.int 0)]) rfl (zpureK ⟨rfl, rfl⟩ fun T2 X2 e2 => ?_)
  show zEnds p e below s T2 (mkF m 8 #[rv w_AND, rv w_XOR] [(.int 2), (.int 0)]) _ _ _
  refine zicmpNo X2 hx hby d_prog_20_method_5_8 (by decide) (ziconst X2 hx hby d_prog_20_method_5_11 (z := (1 : Int32)) rfl (zgoto X2 hx hby d_prog_20_method_5_12 16 (by decide) (by decide) ?_))
  show zEnds p e below s T2 (mkF m 16 #[rv w_AND, rv w_XOR] [(.int 1)]) _ _ _
  exact zretZ X2 hx hby d_prog_20_method_5_16 hret hlk (by simp) rfl (Nat.zero_le _) (Nat.zero_le _) ⟨rfl, e2, rfl⟩
set_option maxRecDepth 65536 in
set_option maxHeartbeats 40000000 in
theorem c5_groupsRight (l : Launch) {Z : State} {a0 : Array Value} (hw : ∀ d ∈ tables_1, d.before a0 Z = true) (ws : List Jvm.Cond) {w_AND w_XOR w_IMPLIES w_OR w_IFF : Addr} {h0 : Heap} (K : Ctx Z h0 w_AND w_XOR w_IMPLIES w_OR w_IFF)  : zCon l Z (⟨"com/example/needful_assumptions/needfulassumptions/spec/Connective$Operator", "groupsRight", "()Z"⟩ : MethodName) prog_20_method_7_code 1 (some .boolean) ws ({ frames := 0, cells := 0, slots := 0, locals := 0 } : Room) #[(.ref w_AND)] h0 (zSame (some (.int 0)) h0) := by
  obtain ⟨S_w_AND, S_w_XOR, S_w_IMPLIES, S_w_OR, S_w_IFF, E_w_AND, E_w_XOR, E_w_IMPLIES, E_w_OR, E_w_IFF, F_w_AND_ordinal, F_w_XOR_ordinal, F_w_IMPLIES_ordinal, F_w_OR_ordinal, F_w_IFF_ordinal⟩ := K
  refine zenter (plainFor_of_name pn_1) (L0 := #[rv w_AND]) (fun m => by first | rfl | simp [entryFrame, mkF, argsToLocals, Value.category, maxLocals]) ?_
  intro p e s m below meth c T0 hx hZ hby hml hown0 hnm hret hlk X0 e0
  have hown : s.vm.findClass "com/example/needful_assumptions/needfulassumptions/spec/Connective$Operator" = some m.cls := hown0
  show zEnds p e below s T0 (mkF m 0 #[rv w_AND] []) _ _ _
  refine zaloadN X0 hx hby d_prog_20_method_7_0 rfl rfl (zgetstat X0 hx hby d_prog_20_method_7_1 hZ hown (host := "") (Or.inl (w35 hw)) Via.refl e0 S_w_IMPLIES fun T1 X1 e1 => (zacmp X1 hx hby d_prog_20_method_7_4 11 false rfl rfl (decide_eq_false fun q => (Fld.ne F_w_AND_ordinal F_w_IMPLIES_ordinal (by decide)) (Value.ref.inj q)) (by decide) (by decide) (ziconst X1 hx hby d_prog_20_method_7_11 (z := (0 : Int32)) rfl ?_)))
  show zEnds p e below s T1 (mkF m 12 #[rv w_AND] [(.int 0)]) _ _ _
  exact zretZ X1 hx hby d_prog_20_method_7_12 hret hlk (by simp) rfl (Nat.zero_le _) (Nat.zero_le _) ⟨rfl, e1, rfl⟩
set_option maxRecDepth 65536 in
set_option maxHeartbeats 40000000 in
theorem c6_pick (l : Launch) {Z : State} {a0 : Array Value} (hw : ∀ d ∈ tables_1, d.before a0 Z = true) (ws : List Jvm.Cond) {w_AND w_XOR w_IMPLIES w_OR w_IFF : Addr} {h0 : Heap} (K : Ctx Z h0 w_AND w_XOR w_IMPLIES w_OR w_IFF)  : zCon l Z (⟨"com/example/needful_assumptions/needfulassumptions/spec/OperatorWrittenInPrefixPinLaw", "pick", "(I)Lcom/example/needful_assumptions/needfulassumptions/spec/Connective$Operator;"⟩ : MethodName) method_2_code 1 (some (.object "com/example/needful_assumptions/needfulassumptions/spec/Connective$Operator")) ws ({ frames := 0, cells := 0, slots := 0, locals := 0 } : Room) #[(.int 1)] h0 (zSame (some (.ref w_OR)) h0) := by
  obtain ⟨S_w_AND, S_w_XOR, S_w_IMPLIES, S_w_OR, S_w_IFF, E_w_AND, E_w_XOR, E_w_IMPLIES, E_w_OR, E_w_IFF, F_w_AND_ordinal, F_w_XOR_ordinal, F_w_IMPLIES_ordinal, F_w_OR_ordinal, F_w_IFF_ordinal⟩ := K
  refine zenter (plainFor_of_name pn_0) (L0 := #[iv 1]) (fun m => by first | rfl | simp [entryFrame, mkF, argsToLocals, Value.category, maxLocals]) ?_
  intro p e s m below meth c T0 hx hZ hby hml hown0 hnm hret hlk X0 e0
  have hown : s.vm.findClass "com/example/needful_assumptions/needfulassumptions/spec/OperatorWrittenInPrefixPinLaw" = some m.cls := hown0
  show zEnds p e below s T0 (mkF m 0 #[iv 1] []) _ _ _
  refine ziloadN X0 hx hby d_method_2_0 rfl (zifYes X0 hx hby d_method_2_1 8 (by decide) (by decide) (by decide) (ziloadN X0 hx hby d_method_2_8 rfl (ziconst X0 hx hby d_method_2_9 (z := (1 : Int32)) rfl (zicmpNo X0 hx hby d_method_2_10 (by decide) (zgetstat X0 hx hby d_method_2_13 hZ hown (host := "") (Or.inl (w41 hw)) Via.refl e0 S_w_OR fun T1 X1 e1 => ?_)))))
  show zEnds p e below s T1 (mkF m 16 #[iv 1] [(.ref w_OR)]) _ _ _
  exact zretA X1 hx hby d_method_2_16 hret hlk rfl rfl rfl (Nat.zero_le _) (Nat.zero_le _) ⟨rfl, e1, rfl⟩
set_option maxRecDepth 65536 in
set_option maxHeartbeats 40000000 in
theorem c7_writtenInPrefix (l : Launch) {Z : State} {a0 : Array Value} (hw : ∀ d ∈ tables_1, d.before a0 Z = true) (ws : List Jvm.Cond) {w_AND w_XOR w_IMPLIES w_OR w_IFF : Addr} {h0 : Heap} (K : Ctx Z h0 w_AND w_XOR w_IMPLIES w_OR w_IFF)  : zCon l Z (⟨"com/example/needful_assumptions/needfulassumptions/spec/Connective$Operator", "writtenInPrefix", "()Z"⟩ : MethodName) prog_20_method_6_code 1 (some .boolean) ws ({ frames := 0, cells := 0, slots := 0, locals := 0 } : Room) #[(.ref w_OR)] h0 (zSame (some (.int 1)) h0) := by
  obtain ⟨S_w_AND, S_w_XOR, S_w_IMPLIES, S_w_OR, S_w_IFF, E_w_AND, E_w_XOR, E_w_IMPLIES, E_w_OR, E_w_IFF, F_w_AND_ordinal, F_w_XOR_ordinal, F_w_IMPLIES_ordinal, F_w_OR_ordinal, F_w_IFF_ordinal⟩ := K
  refine zenter (plainFor_of_name pn_1) (L0 := #[rv w_OR]) (fun m => by first | rfl | simp [entryFrame, mkF, argsToLocals, Value.category, maxLocals]) ?_
  intro p e s m below meth c T0 hx hZ hby hml hown0 hnm hret hlk X0 e0
  have hown : s.vm.findClass "com/example/needful_assumptions/needfulassumptions/spec/Connective$Operator" = some m.cls := hown0
  show zEnds p e below s T0 (mkF m 0 #[rv w_OR] []) _ _ _
  refine zaloadN X0 hx hby d_prog_20_method_6_0 rfl rfl (zgetstat X0 hx hby d_prog_20_method_6_1 hZ hown (host := "") (Or.inl (w13 hw)) Via.refl e0 S_w_AND fun T1 X1 e1 => (zacmp X1 hx hby d_prog_20_method_6_4 7 false rfl rfl (decide_eq_false fun q => (Fld.ne F_w_OR_ordinal F_w_AND_ordinal (by decide)) (Value.ref.inj q)) (by decide) (by decide) (zaloadN X1 hx hby d_prog_20_method_6_7 rfl rfl (zgetstat X1 hx hby d_prog_20_method_6_8 hZ hown (host := "") (Or.inl (w38 hw)) Via.refl e1 S_w_OR fun T2 X2 e2 => (zacmp X2 hx hby d_prog_20_method_6_11 21 true rfl rfl (decide_eq_true rfl) (by decide) (by decide) (ziconst X2 hx hby d_prog_20_method_6_21 (z := (1 : Int32)) rfl (zgoto X2 hx hby d_prog_20_method_6_22 26 (by decide) (by decide) ?_)))))))
  show zEnds p e below s T2 (mkF m 26 #[rv w_OR] [(.int 1)]) _ _ _
  exact zretZ X2 hx hby d_prog_20_method_6_26 hret hlk (by simp) rfl (Nat.zero_le _) (Nat.zero_le _) ⟨rfl, e2, rfl⟩
set_option maxRecDepth 65536 in
set_option maxHeartbeats 40000000 in
theorem c8_ordinal (l : Launch) {Z : State} {a0 : Array Value} (hw : ∀ d ∈ tables_1, d.before a0 Z = true) (ws : List Jvm.Cond) {w_AND w_XOR w_IMPLIES w_OR w_IFF : Addr} {h0 : Heap} (K : Ctx Z h0 w_AND w_XOR w_IMPLIES w_OR w_IFF)  : zCon l Z (⟨"java/lang/Enum", "ordinal", "()I"⟩ : MethodName) jdk_37_method_2_code 1 (some .int) ws ({ frames := 0, cells := 0, slots := 0, locals := 0 } : Room) #[(.ref w_OR)] h0 (zSame (some (.int 1)) h0) := by
  obtain ⟨S_w_AND, S_w_XOR, S_w_IMPLIES, S_w_OR, S_w_IFF, E_w_AND, E_w_XOR, E_w_IMPLIES, E_w_OR, E_w_IFF, F_w_AND_ordinal, F_w_XOR_ordinal, F_w_IMPLIES_ordinal, F_w_OR_ordinal, F_w_IFF_ordinal⟩ := K
  refine zenter (plainFor_of_name pn_2) (L0 := #[rv w_OR]) (fun m => by first | rfl | simp [entryFrame, mkF, argsToLocals, Value.category, maxLocals]) ?_
  intro p e s m below meth c T0 hx hZ hby hml hown0 hnm hret hlk X0 e0
  have hown : s.vm.findClass "java/lang/Enum" = some m.cls := hown0
  show zEnds p e below s T0 (mkF m 0 #[rv w_OR] []) _ _ _
  refine zaloadN X0 hx hby d_jdk_37_method_2_0 rfl rfl (zgetfld X0 hx hby d_jdk_37_method_2_1 hZ hown (host := "") (Or.inl (w28 hw)) Via.refl e0 F_w_OR_ordinal fun T1 X1 e1 => ?_)
  show zEnds p e below s T1 (mkF m 4 #[rv w_OR] [(.int 1)]) _ _ _
  exact zretI X1 hx hby d_jdk_37_method_2_4 hret hlk (Nat.zero_le _) (Nat.zero_le _) ⟨rfl, e1, rfl⟩
set_option maxRecDepth 65536 in
set_option maxHeartbeats 40000000 in
theorem c8_bindsAtLeastAsTightlyAs (l : Launch) {Z : State} {a0 : Array Value} (hw : ∀ d ∈ tables_1, d.before a0 Z = true) (ws : List Jvm.Cond) {w_AND w_XOR w_IMPLIES w_OR w_IFF : Addr} {h0 : Heap} (K : Ctx Z h0 w_AND w_XOR w_IMPLIES w_OR w_IFF)  : zCon l Z (⟨"com/example/needful_assumptions/needfulassumptions/spec/Connective$Operator", "bindsAtLeastAsTightlyAs", "(Lcom/example/needful_assumptions/needfulassumptions/spec/Connective$Operator;)Z"⟩ : MethodName) prog_20_method_5_code 2 (some .boolean) ws ({ frames := 1, cells := 0, slots := 0, locals := 13 } : Room) #[(.ref w_OR), (.ref w_XOR)] h0 (zSame (some (.int 1)) h0) := by
  obtain ⟨S_w_AND, S_w_XOR, S_w_IMPLIES, S_w_OR, S_w_IFF, E_w_AND, E_w_XOR, E_w_IMPLIES, E_w_OR, E_w_IFF, F_w_AND_ordinal, F_w_XOR_ordinal, F_w_IMPLIES_ordinal, F_w_OR_ordinal, F_w_IFF_ordinal⟩ := K
  refine zenter (plainFor_of_name pn_1) (L0 := #[rv w_OR, rv w_XOR]) (fun m => by first | rfl | simp [entryFrame, mkF, argsToLocals, Value.category, maxLocals]) ?_
  intro p e s m below meth c T0 hx hZ hby hml hown0 hnm hret hlk X0 e0
  have hown : s.vm.findClass "com/example/needful_assumptions/needfulassumptions/spec/Connective$Operator" = some m.cls := hown0
  show zEnds p e below s T0 (mkF m 0 #[rv w_OR, rv w_XOR] []) _ _ _
  refine zaloadN X0 hx hby d_prog_20_method_5_0 rfl rfl ?_
  show zEnds p e below s T0 (mkF m 1 #[rv w_OR, rv w_XOR] [(.ref w_OR)]) _ _ _
  refine zcallup X0 hx hby d_prog_20_method_5_1 hZ hown (w21 hw) (w22 hw) (w23 hw) (w25 hw) (w24 hw) (w27 hw) (w26 hw) e0 E_w_OR (c8_ordinal l hw [] ⟨S_w_AND, S_w_XOR, S_w_IMPLIES, S_w_OR, S_w_IFF, E_w_AND, E_w_XOR, E_w_IMPLIES, E_w_OR, E_w_IFF, F_w_AND_ordinal, F_w_XOR_ordinal, F_w_IMPLIES_ordinal, F_w_OR_ordinal, F_w_IFF_ordinal⟩ ) (by decide) (by rw [hml]; rfl) 0 (Nat.le_of_eq rfl) (by decide) (by decide) (by decide) (by decide) pd_2 rfl (argsL := []) (st := []) rfl (zpureK ⟨rfl, rfl⟩ fun T1 X1 e1 => ?_)
  show zEnds p e below s T1 (mkF m 4 #[rv w_OR, rv w_XOR] [(.int 1)]) _ _ _
  refine zaloadN X1 hx hby d_prog_20_method_5_4 rfl rfl ?_
  show zEnds p e below s T1 (mkF m 5 #[rv w_OR, rv w_XOR] [(.ref w_XOR), (.int 1)]) _ _ _
  refine zcallup X1 hx hby d_prog_20_method_5_5 hZ hown (w21 hw) (w22 hw) (w23 hw) (w25 hw) (w24 hw) (w27 hw) (w26 hw) e1 E_w_XOR (c3_ordinal l hw [] ⟨S_w_AND, S_w_XOR, S_w_IMPLIES, S_w_OR, S_w_IFF, E_w_AND, E_w_XOR, E_w_IMPLIES, E_w_OR, E_w_IFF, F_w_AND_ordinal, F_w_XOR_ordinal, F_w_IMPLIES_ordinal, F_w_OR_ordinal, F_w_IFF_ordinal⟩ ) (by decide) (by rw [hml]; rfl) 1 (Nat.le_of_eq rfl) (by decide) (by decide) (by decide) (by decide) pd_2 rfl (argsL := []) (st := [(.int 1)]) rfl (zpureK ⟨rfl, rfl⟩ fun T2 X2 e2 => ?_)
  show zEnds p e below s T2 (mkF m 8 #[rv w_OR, rv w_XOR] [(.int 2), (.int 1)]) _ _ _
  refine zicmpNo X2 hx hby d_prog_20_method_5_8 (by decide) (ziconst X2 hx hby d_prog_20_method_5_11 (z := (1 : Int32)) rfl (zgoto X2 hx hby d_prog_20_method_5_12 16 (by decide) (by decide) ?_))
  show zEnds p e below s T2 (mkF m 16 #[rv w_OR, rv w_XOR] [(.int 1)]) _ _ _
  exact zretZ X2 hx hby d_prog_20_method_5_16 hret hlk (by simp) rfl (Nat.zero_le _) (Nat.zero_le _) ⟨rfl, e2, rfl⟩
set_option maxRecDepth 65536 in
set_option maxHeartbeats 40000000 in
theorem c10_groupsRight (l : Launch) {Z : State} {a0 : Array Value} (hw : ∀ d ∈ tables_1, d.before a0 Z = true) (ws : List Jvm.Cond) {w_AND w_XOR w_IMPLIES w_OR w_IFF : Addr} {h0 : Heap} (K : Ctx Z h0 w_AND w_XOR w_IMPLIES w_OR w_IFF)  : zCon l Z (⟨"com/example/needful_assumptions/needfulassumptions/spec/Connective$Operator", "groupsRight", "()Z"⟩ : MethodName) prog_20_method_7_code 1 (some .boolean) ws ({ frames := 0, cells := 0, slots := 0, locals := 0 } : Room) #[(.ref w_OR)] h0 (zSame (some (.int 0)) h0) := by
  obtain ⟨S_w_AND, S_w_XOR, S_w_IMPLIES, S_w_OR, S_w_IFF, E_w_AND, E_w_XOR, E_w_IMPLIES, E_w_OR, E_w_IFF, F_w_AND_ordinal, F_w_XOR_ordinal, F_w_IMPLIES_ordinal, F_w_OR_ordinal, F_w_IFF_ordinal⟩ := K
  refine zenter (plainFor_of_name pn_1) (L0 := #[rv w_OR]) (fun m => by first | rfl | simp [entryFrame, mkF, argsToLocals, Value.category, maxLocals]) ?_
  intro p e s m below meth c T0 hx hZ hby hml hown0 hnm hret hlk X0 e0
  have hown : s.vm.findClass "com/example/needful_assumptions/needfulassumptions/spec/Connective$Operator" = some m.cls := hown0
  show zEnds p e below s T0 (mkF m 0 #[rv w_OR] []) _ _ _
  refine zaloadN X0 hx hby d_prog_20_method_7_0 rfl rfl (zgetstat X0 hx hby d_prog_20_method_7_1 hZ hown (host := "") (Or.inl (w35 hw)) Via.refl e0 S_w_IMPLIES fun T1 X1 e1 => (zacmp X1 hx hby d_prog_20_method_7_4 11 false rfl rfl (decide_eq_false fun q => (Fld.ne F_w_OR_ordinal F_w_IMPLIES_ordinal (by decide)) (Value.ref.inj q)) (by decide) (by decide) (ziconst X1 hx hby d_prog_20_method_7_11 (z := (0 : Int32)) rfl ?_)))
  show zEnds p e below s T1 (mkF m 12 #[rv w_OR] [(.int 0)]) _ _ _
  exact zretZ X1 hx hby d_prog_20_method_7_12 hret hlk (by simp) rfl (Nat.zero_le _) (Nat.zero_le _) ⟨rfl, e1, rfl⟩
set_option maxRecDepth 65536 in
set_option maxHeartbeats 40000000 in
theorem c11_pick (l : Launch) {Z : State} {a0 : Array Value} (hw : ∀ d ∈ tables_1, d.before a0 Z = true) (ws : List Jvm.Cond) {w_AND w_XOR w_IMPLIES w_OR w_IFF : Addr} {h0 : Heap} (K : Ctx Z h0 w_AND w_XOR w_IMPLIES w_OR w_IFF)  : zCon l Z (⟨"com/example/needful_assumptions/needfulassumptions/spec/OperatorWrittenInPrefixPinLaw", "pick", "(I)Lcom/example/needful_assumptions/needfulassumptions/spec/Connective$Operator;"⟩ : MethodName) method_2_code 1 (some (.object "com/example/needful_assumptions/needfulassumptions/spec/Connective$Operator")) ws ({ frames := 0, cells := 0, slots := 0, locals := 0 } : Room) #[(.int 2)] h0 (zSame (some (.ref w_XOR)) h0) := by
  obtain ⟨S_w_AND, S_w_XOR, S_w_IMPLIES, S_w_OR, S_w_IFF, E_w_AND, E_w_XOR, E_w_IMPLIES, E_w_OR, E_w_IFF, F_w_AND_ordinal, F_w_XOR_ordinal, F_w_IMPLIES_ordinal, F_w_OR_ordinal, F_w_IFF_ordinal⟩ := K
  refine zenter (plainFor_of_name pn_0) (L0 := #[iv 2]) (fun m => by first | rfl | simp [entryFrame, mkF, argsToLocals, Value.category, maxLocals]) ?_
  intro p e s m below meth c T0 hx hZ hby hml hown0 hnm hret hlk X0 e0
  have hown : s.vm.findClass "com/example/needful_assumptions/needfulassumptions/spec/OperatorWrittenInPrefixPinLaw" = some m.cls := hown0
  show zEnds p e below s T0 (mkF m 0 #[iv 2] []) _ _ _
  refine ziloadN X0 hx hby d_method_2_0 rfl (zifYes X0 hx hby d_method_2_1 8 (by decide) (by decide) (by decide) (ziloadN X0 hx hby d_method_2_8 rfl (ziconst X0 hx hby d_method_2_9 (z := (1 : Int32)) rfl (zicmpYes X0 hx hby d_method_2_10 17 (by decide) (by decide) (by decide) (ziloadN X0 hx hby d_method_2_17 rfl (ziconst X0 hx hby d_method_2_18 (z := (2 : Int32)) rfl (zicmpNo X0 hx hby d_method_2_19 (by decide) (zgetstat X0 hx hby d_method_2_22 hZ hown (host := "") (Or.inl (w14 hw)) Via.refl e0 S_w_XOR fun T1 X1 e1 => ?_))))))))
  show zEnds p e below s T1 (mkF m 25 #[iv 2] [(.ref w_XOR)]) _ _ _
  exact zretA X1 hx hby d_method_2_25 hret hlk rfl rfl rfl (Nat.zero_le _) (Nat.zero_le _) ⟨rfl, e1, rfl⟩
set_option maxRecDepth 65536 in
set_option maxHeartbeats 40000000 in
theorem c12_writtenInPrefix (l : Launch) {Z : State} {a0 : Array Value} (hw : ∀ d ∈ tables_1, d.before a0 Z = true) (ws : List Jvm.Cond) {w_AND w_XOR w_IMPLIES w_OR w_IFF : Addr} {h0 : Heap} (K : Ctx Z h0 w_AND w_XOR w_IMPLIES w_OR w_IFF)  : zCon l Z (⟨"com/example/needful_assumptions/needfulassumptions/spec/Connective$Operator", "writtenInPrefix", "()Z"⟩ : MethodName) prog_20_method_6_code 1 (some .boolean) ws ({ frames := 0, cells := 0, slots := 0, locals := 0 } : Room) #[(.ref w_XOR)] h0 (zSame (some (.int 1)) h0) := by
  obtain ⟨S_w_AND, S_w_XOR, S_w_IMPLIES, S_w_OR, S_w_IFF, E_w_AND, E_w_XOR, E_w_IMPLIES, E_w_OR, E_w_IFF, F_w_AND_ordinal, F_w_XOR_ordinal, F_w_IMPLIES_ordinal, F_w_OR_ordinal, F_w_IFF_ordinal⟩ := K
  refine zenter (plainFor_of_name pn_1) (L0 := #[rv w_XOR]) (fun m => by first | rfl | simp [entryFrame, mkF, argsToLocals, Value.category, maxLocals]) ?_
  intro p e s m below meth c T0 hx hZ hby hml hown0 hnm hret hlk X0 e0
  have hown : s.vm.findClass "com/example/needful_assumptions/needfulassumptions/spec/Connective$Operator" = some m.cls := hown0
  show zEnds p e below s T0 (mkF m 0 #[rv w_XOR] []) _ _ _
  refine zaloadN X0 hx hby d_prog_20_method_6_0 rfl rfl (zgetstat X0 hx hby d_prog_20_method_6_1 hZ hown (host := "") (Or.inl (w13 hw)) Via.refl e0 S_w_AND fun T1 X1 e1 => (zacmp X1 hx hby d_prog_20_method_6_4 7 false rfl rfl (decide_eq_false fun q => (Fld.ne F_w_XOR_ordinal F_w_AND_ordinal (by decide)) (Value.ref.inj q)) (by decide) (by decide) (zaloadN X1 hx hby d_prog_20_method_6_7 rfl rfl (zgetstat X1 hx hby d_prog_20_method_6_8 hZ hown (host := "") (Or.inl (w38 hw)) Via.refl e1 S_w_OR fun T2 X2 e2 => (zacmp X2 hx hby d_prog_20_method_6_11 14 false rfl rfl (decide_eq_false fun q => (Fld.ne F_w_XOR_ordinal F_w_OR_ordinal (by decide)) (Value.ref.inj q)) (by decide) (by decide) (zaloadN X2 hx hby d_prog_20_method_6_14 rfl rfl (zgetstat X2 hx hby d_prog_20_method_6_15 hZ hown (host := "") (Or.inl (w40 hw)) Via.refl e2 S_w_XOR fun T3 X3 e3 => (zacmp X3 hx hby d_prog_20_method_6_18 21 true rfl rfl (decide_eq_true rfl) (by decide) (by decide) (ziconst X3 hx hby d_prog_20_method_6_21 (z := (1 : Int32)) rfl ?_)))))))))
  show zEnds p e below s T3 (mkF m 22 #[rv w_XOR] [(.int 1)]) _ _ _
  refine zgoto X3 hx hby d_prog_20_method_6_22 26 (by decide) (by decide) ?_
  show zEnds p e below s T3 (mkF m 26 #[rv w_XOR] [(.int 1)]) _ _ _
  exact zretZ X3 hx hby d_prog_20_method_6_26 hret hlk (by simp) rfl (Nat.zero_le _) (Nat.zero_le _) ⟨rfl, e3, rfl⟩
set_option maxRecDepth 65536 in
set_option maxHeartbeats 40000000 in
theorem c13_bindsAtLeastAsTightlyAs (l : Launch) {Z : State} {a0 : Array Value} (hw : ∀ d ∈ tables_1, d.before a0 Z = true) (ws : List Jvm.Cond) {w_AND w_XOR w_IMPLIES w_OR w_IFF : Addr} {h0 : Heap} (K : Ctx Z h0 w_AND w_XOR w_IMPLIES w_OR w_IFF)  : zCon l Z (⟨"com/example/needful_assumptions/needfulassumptions/spec/Connective$Operator", "bindsAtLeastAsTightlyAs", "(Lcom/example/needful_assumptions/needfulassumptions/spec/Connective$Operator;)Z"⟩ : MethodName) prog_20_method_5_code 2 (some .boolean) ws ({ frames := 1, cells := 0, slots := 0, locals := 13 } : Room) #[(.ref w_XOR), (.ref w_XOR)] h0 (zSame (some (.int 1)) h0) := by
  obtain ⟨S_w_AND, S_w_XOR, S_w_IMPLIES, S_w_OR, S_w_IFF, E_w_AND, E_w_XOR, E_w_IMPLIES, E_w_OR, E_w_IFF, F_w_AND_ordinal, F_w_XOR_ordinal, F_w_IMPLIES_ordinal, F_w_OR_ordinal, F_w_IFF_ordinal⟩ := K
  refine zenter (plainFor_of_name pn_1) (L0 := #[rv w_XOR, rv w_XOR]) (fun m => by first | rfl | simp [entryFrame, mkF, argsToLocals, Value.category, maxLocals]) ?_
  intro p e s m below meth c T0 hx hZ hby hml hown0 hnm hret hlk X0 e0
  have hown : s.vm.findClass "com/example/needful_assumptions/needfulassumptions/spec/Connective$Operator" = some m.cls := hown0
  show zEnds p e below s T0 (mkF m 0 #[rv w_XOR, rv w_XOR] []) _ _ _
  refine zaloadN X0 hx hby d_prog_20_method_5_0 rfl rfl ?_
  show zEnds p e below s T0 (mkF m 1 #[rv w_XOR, rv w_XOR] [(.ref w_XOR)]) _ _ _
  refine zcallup X0 hx hby d_prog_20_method_5_1 hZ hown (w21 hw) (w22 hw) (w23 hw) (w25 hw) (w24 hw) (w27 hw) (w26 hw) e0 E_w_XOR (c3_ordinal l hw [] ⟨S_w_AND, S_w_XOR, S_w_IMPLIES, S_w_OR, S_w_IFF, E_w_AND, E_w_XOR, E_w_IMPLIES, E_w_OR, E_w_IFF, F_w_AND_ordinal, F_w_XOR_ordinal, F_w_IMPLIES_ordinal, F_w_OR_ordinal, F_w_IFF_ordinal⟩ ) (by decide) (by rw [hml]; rfl) 0 (Nat.le_of_eq rfl) (by decide) (by decide) (by decide) (by decide) pd_2 rfl (argsL := []) (st := []) rfl (zpureK ⟨rfl, rfl⟩ fun T1 X1 e1 => ?_)
  show zEnds p e below s T1 (mkF m 4 #[rv w_XOR, rv w_XOR] [(.int 2)]) _ _ _
  refine zaloadN X1 hx hby d_prog_20_method_5_4 rfl rfl ?_
  show zEnds p e below s T1 (mkF m 5 #[rv w_XOR, rv w_XOR] [(.ref w_XOR), (.int 2)]) _ _ _
  refine zcallup X1 hx hby d_prog_20_method_5_5 hZ hown (w21 hw) (w22 hw) (w23 hw) (w25 hw) (w24 hw) (w27 hw) (w26 hw) e1 E_w_XOR (c3_ordinal l hw [] ⟨S_w_AND, S_w_XOR, S_w_IMPLIES, S_w_OR, S_w_IFF, E_w_AND, E_w_XOR, E_w_IMPLIES, E_w_OR, E_w_IFF, F_w_AND_ordinal, F_w_XOR_ordinal, F_w_IMPLIES_ordinal, F_w_OR_ordinal, F_w_IFF_ordinal⟩ ) (by decide) (by rw [hml]; rfl) 1 (Nat.le_of_eq rfl) (by decide) (by decide) (by decide) (by decide) pd_2 rfl (argsL := []) (st := [(.int 2)]) rfl (zpureK ⟨rfl, rfl⟩ fun T2 X2 e2 => ?_)
  show zEnds p e below s T2 (mkF m 8 #[rv w_XOR, rv w_XOR] [(.int 2), (.int 2)]) _ _ _
  refine zicmpNo X2 hx hby d_prog_20_method_5_8 (by decide) (ziconst X2 hx hby d_prog_20_method_5_11 (z := (1 : Int32)) rfl (zgoto X2 hx hby d_prog_20_method_5_12 16 (by decide) (by decide) ?_))
  show zEnds p e below s T2 (mkF m 16 #[rv w_XOR, rv w_XOR] [(.int 1)]) _ _ _
  exact zretZ X2 hx hby d_prog_20_method_5_16 hret hlk (by simp) rfl (Nat.zero_le _) (Nat.zero_le _) ⟨rfl, e2, rfl⟩
set_option maxRecDepth 65536 in
set_option maxHeartbeats 40000000 in
theorem c14_groupsRight (l : Launch) {Z : State} {a0 : Array Value} (hw : ∀ d ∈ tables_1, d.before a0 Z = true) (ws : List Jvm.Cond) {w_AND w_XOR w_IMPLIES w_OR w_IFF : Addr} {h0 : Heap} (K : Ctx Z h0 w_AND w_XOR w_IMPLIES w_OR w_IFF)  : zCon l Z (⟨"com/example/needful_assumptions/needfulassumptions/spec/Connective$Operator", "groupsRight", "()Z"⟩ : MethodName) prog_20_method_7_code 1 (some .boolean) ws ({ frames := 0, cells := 0, slots := 0, locals := 0 } : Room) #[(.ref w_XOR)] h0 (zSame (some (.int 0)) h0) := by
  obtain ⟨S_w_AND, S_w_XOR, S_w_IMPLIES, S_w_OR, S_w_IFF, E_w_AND, E_w_XOR, E_w_IMPLIES, E_w_OR, E_w_IFF, F_w_AND_ordinal, F_w_XOR_ordinal, F_w_IMPLIES_ordinal, F_w_OR_ordinal, F_w_IFF_ordinal⟩ := K
  refine zenter (plainFor_of_name pn_1) (L0 := #[rv w_XOR]) (fun m => by first | rfl | simp [entryFrame, mkF, argsToLocals, Value.category, maxLocals]) ?_
  intro p e s m below meth c T0 hx hZ hby hml hown0 hnm hret hlk X0 e0
  have hown : s.vm.findClass "com/example/needful_assumptions/needfulassumptions/spec/Connective$Operator" = some m.cls := hown0
  show zEnds p e below s T0 (mkF m 0 #[rv w_XOR] []) _ _ _
  refine zaloadN X0 hx hby d_prog_20_method_7_0 rfl rfl (zgetstat X0 hx hby d_prog_20_method_7_1 hZ hown (host := "") (Or.inl (w35 hw)) Via.refl e0 S_w_IMPLIES fun T1 X1 e1 => (zacmp X1 hx hby d_prog_20_method_7_4 11 false rfl rfl (decide_eq_false fun q => (Fld.ne F_w_XOR_ordinal F_w_IMPLIES_ordinal (by decide)) (Value.ref.inj q)) (by decide) (by decide) (ziconst X1 hx hby d_prog_20_method_7_11 (z := (0 : Int32)) rfl ?_)))
  show zEnds p e below s T1 (mkF m 12 #[rv w_XOR] [(.int 0)]) _ _ _
  exact zretZ X1 hx hby d_prog_20_method_7_12 hret hlk (by simp) rfl (Nat.zero_le _) (Nat.zero_le _) ⟨rfl, e1, rfl⟩
set_option maxRecDepth 65536 in
set_option maxHeartbeats 40000000 in
theorem c15_pick (l : Launch) {Z : State} {a0 : Array Value} (hw : ∀ d ∈ tables_1, d.before a0 Z = true) (ws : List Jvm.Cond) {w_AND w_XOR w_IMPLIES w_OR w_IFF : Addr} {h0 : Heap} (K : Ctx Z h0 w_AND w_XOR w_IMPLIES w_OR w_IFF)  : zCon l Z (⟨"com/example/needful_assumptions/needfulassumptions/spec/OperatorWrittenInPrefixPinLaw", "pick", "(I)Lcom/example/needful_assumptions/needfulassumptions/spec/Connective$Operator;"⟩ : MethodName) method_2_code 1 (some (.object "com/example/needful_assumptions/needfulassumptions/spec/Connective$Operator")) ws ({ frames := 0, cells := 0, slots := 0, locals := 0 } : Room) #[(.int 3)] h0 (zSame (some (.ref w_IMPLIES)) h0) := by
  obtain ⟨S_w_AND, S_w_XOR, S_w_IMPLIES, S_w_OR, S_w_IFF, E_w_AND, E_w_XOR, E_w_IMPLIES, E_w_OR, E_w_IFF, F_w_AND_ordinal, F_w_XOR_ordinal, F_w_IMPLIES_ordinal, F_w_OR_ordinal, F_w_IFF_ordinal⟩ := K
  refine zenter (plainFor_of_name pn_0) (L0 := #[iv 3]) (fun m => by first | rfl | simp [entryFrame, mkF, argsToLocals, Value.category, maxLocals]) ?_
  intro p e s m below meth c T0 hx hZ hby hml hown0 hnm hret hlk X0 e0
  have hown : s.vm.findClass "com/example/needful_assumptions/needfulassumptions/spec/OperatorWrittenInPrefixPinLaw" = some m.cls := hown0
  show zEnds p e below s T0 (mkF m 0 #[iv 3] []) _ _ _
  refine ziloadN X0 hx hby d_method_2_0 rfl (zifYes X0 hx hby d_method_2_1 8 (by decide) (by decide) (by decide) (ziloadN X0 hx hby d_method_2_8 rfl (ziconst X0 hx hby d_method_2_9 (z := (1 : Int32)) rfl (zicmpYes X0 hx hby d_method_2_10 17 (by decide) (by decide) (by decide) (ziloadN X0 hx hby d_method_2_17 rfl (ziconst X0 hx hby d_method_2_18 (z := (2 : Int32)) rfl (zicmpYes X0 hx hby d_method_2_19 26 (by decide) (by decide) (by decide) (ziloadN X0 hx hby d_method_2_26 rfl (ziconst X0 hx hby d_method_2_27 (z := (3 : Int32)) rfl ?_)))))))))
  show zEnds p e below s T0 (mkF m 28 #[iv 3] [(.int 3), (.int 3)]) _ _ _
  refine zicmpNo X0 hx hby d_method_2_28 (by decide) (zgetstat X0 hx hby d_method_2_31 hZ hown (host := "") (Or.inl (w37 hw)) Via.refl e0 S_w_IMPLIES fun T1 X1 e1 => ?_)
  show zEnds p e below s T1 (mkF m 34 #[iv 3] [(.ref w_IMPLIES)]) _ _ _
  exact zretA X1 hx hby d_method_2_34 hret hlk rfl rfl rfl (Nat.zero_le _) (Nat.zero_le _) ⟨rfl, e1, rfl⟩
set_option maxRecDepth 65536 in
set_option maxHeartbeats 40000000 in
theorem c16_writtenInPrefix (l : Launch) {Z : State} {a0 : Array Value} (hw : ∀ d ∈ tables_1, d.before a0 Z = true) (ws : List Jvm.Cond) {w_AND w_XOR w_IMPLIES w_OR w_IFF : Addr} {h0 : Heap} (K : Ctx Z h0 w_AND w_XOR w_IMPLIES w_OR w_IFF)  : zCon l Z (⟨"com/example/needful_assumptions/needfulassumptions/spec/Connective$Operator", "writtenInPrefix", "()Z"⟩ : MethodName) prog_20_method_6_code 1 (some .boolean) ws ({ frames := 0, cells := 0, slots := 0, locals := 0 } : Room) #[(.ref w_IMPLIES)] h0 (zSame (some (.int 0)) h0) := by
  obtain ⟨S_w_AND, S_w_XOR, S_w_IMPLIES, S_w_OR, S_w_IFF, E_w_AND, E_w_XOR, E_w_IMPLIES, E_w_OR, E_w_IFF, F_w_AND_ordinal, F_w_XOR_ordinal, F_w_IMPLIES_ordinal, F_w_OR_ordinal, F_w_IFF_ordinal⟩ := K
  refine zenter (plainFor_of_name pn_1) (L0 := #[rv w_IMPLIES]) (fun m => by first | rfl | simp [entryFrame, mkF, argsToLocals, Value.category, maxLocals]) ?_
  intro p e s m below meth c T0 hx hZ hby hml hown0 hnm hret hlk X0 e0
  have hown : s.vm.findClass "com/example/needful_assumptions/needfulassumptions/spec/Connective$Operator" = some m.cls := hown0
  show zEnds p e below s T0 (mkF m 0 #[rv w_IMPLIES] []) _ _ _
  refine zaloadN X0 hx hby d_prog_20_method_6_0 rfl rfl (zgetstat X0 hx hby d_prog_20_method_6_1 hZ hown (host := "") (Or.inl (w13 hw)) Via.refl e0 S_w_AND fun T1 X1 e1 => (zacmp X1 hx hby d_prog_20_method_6_4 7 false rfl rfl (decide_eq_false fun q => (Fld.ne F_w_IMPLIES_ordinal F_w_AND_ordinal (by decide)) (Value.ref.inj q)) (by decide) (by decide) (zaloadN X1 hx hby d_prog_20_method_6_7 rfl rfl (zgetstat X1 hx hby d_prog_20_method_6_8 hZ hown (host := "") (Or.inl (w38 hw)) Via.refl e1 S_w_OR fun T2 X2 e2 => (zacmp X2 hx hby d_prog_20_method_6_11 14 false rfl rfl (decide_eq_false fun q => (Fld.ne F_w_IMPLIES_ordinal F_w_OR_ordinal (by decide)) (Value.ref.inj q)) (by decide) (by decide) (zaloadN X2 hx hby d_prog_20_method_6_14 rfl rfl (zgetstat X2 hx hby d_prog_20_method_6_15 hZ hown (host := "") (Or.inl (w40 hw)) Via.refl e2 S_w_XOR fun T3 X3 e3 => (zacmp X3 hx hby d_prog_20_method_6_18 25 false rfl rfl (decide_eq_false fun q => (Fld.ne F_w_IMPLIES_ordinal F_w_XOR_ordinal (by decide)) (Value.ref.inj q)) (by decide) (by decide) (ziconst X3 hx hby d_prog_20_method_6_25 (z := (0 : Int32)) rfl ?_)))))))))
  show zEnds p e below s T3 (mkF m 26 #[rv w_IMPLIES] [(.int 0)]) _ _ _
  exact zretZ X3 hx hby d_prog_20_method_6_26 hret hlk (by simp) rfl (Nat.zero_le _) (Nat.zero_le _) ⟨rfl, e3, rfl⟩
set_option maxRecDepth 65536 in
set_option maxHeartbeats 40000000 in
theorem c17_ordinal (l : Launch) {Z : State} {a0 : Array Value} (hw : ∀ d ∈ tables_1, d.before a0 Z = true) (ws : List Jvm.Cond) {w_AND w_XOR w_IMPLIES w_OR w_IFF : Addr} {h0 : Heap} (K : Ctx Z h0 w_AND w_XOR w_IMPLIES w_OR w_IFF)  : zCon l Z (⟨"java/lang/Enum", "ordinal", "()I"⟩ : MethodName) jdk_37_method_2_code 1 (some .int) ws ({ frames := 0, cells := 0, slots := 0, locals := 0 } : Room) #[(.ref w_IMPLIES)] h0 (zSame (some (.int 3)) h0) := by
  obtain ⟨S_w_AND, S_w_XOR, S_w_IMPLIES, S_w_OR, S_w_IFF, E_w_AND, E_w_XOR, E_w_IMPLIES, E_w_OR, E_w_IFF, F_w_AND_ordinal, F_w_XOR_ordinal, F_w_IMPLIES_ordinal, F_w_OR_ordinal, F_w_IFF_ordinal⟩ := K
  refine zenter (plainFor_of_name pn_2) (L0 := #[rv w_IMPLIES]) (fun m => by first | rfl | simp [entryFrame, mkF, argsToLocals, Value.category, maxLocals]) ?_
  intro p e s m below meth c T0 hx hZ hby hml hown0 hnm hret hlk X0 e0
  have hown : s.vm.findClass "java/lang/Enum" = some m.cls := hown0
  show zEnds p e below s T0 (mkF m 0 #[rv w_IMPLIES] []) _ _ _
  refine zaloadN X0 hx hby d_jdk_37_method_2_0 rfl rfl (zgetfld X0 hx hby d_jdk_37_method_2_1 hZ hown (host := "") (Or.inl (w28 hw)) Via.refl e0 F_w_IMPLIES_ordinal fun T1 X1 e1 => ?_)
  show zEnds p e below s T1 (mkF m 4 #[rv w_IMPLIES] [(.int 3)]) _ _ _
  exact zretI X1 hx hby d_jdk_37_method_2_4 hret hlk (Nat.zero_le _) (Nat.zero_le _) ⟨rfl, e1, rfl⟩
set_option maxRecDepth 65536 in
set_option maxHeartbeats 40000000 in
theorem c17_bindsAtLeastAsTightlyAs (l : Launch) {Z : State} {a0 : Array Value} (hw : ∀ d ∈ tables_1, d.before a0 Z = true) (ws : List Jvm.Cond) {w_AND w_XOR w_IMPLIES w_OR w_IFF : Addr} {h0 : Heap} (K : Ctx Z h0 w_AND w_XOR w_IMPLIES w_OR w_IFF)  : zCon l Z (⟨"com/example/needful_assumptions/needfulassumptions/spec/Connective$Operator", "bindsAtLeastAsTightlyAs", "(Lcom/example/needful_assumptions/needfulassumptions/spec/Connective$Operator;)Z"⟩ : MethodName) prog_20_method_5_code 2 (some .boolean) ws ({ frames := 1, cells := 0, slots := 0, locals := 13 } : Room) #[(.ref w_IMPLIES), (.ref w_XOR)] h0 (zSame (some (.int 0)) h0) := by
  obtain ⟨S_w_AND, S_w_XOR, S_w_IMPLIES, S_w_OR, S_w_IFF, E_w_AND, E_w_XOR, E_w_IMPLIES, E_w_OR, E_w_IFF, F_w_AND_ordinal, F_w_XOR_ordinal, F_w_IMPLIES_ordinal, F_w_OR_ordinal, F_w_IFF_ordinal⟩ := K
  refine zenter (plainFor_of_name pn_1) (L0 := #[rv w_IMPLIES, rv w_XOR]) (fun m => by first | rfl | simp [entryFrame, mkF, argsToLocals, Value.category, maxLocals]) ?_
  intro p e s m below meth c T0 hx hZ hby hml hown0 hnm hret hlk X0 e0
  have hown : s.vm.findClass "com/example/needful_assumptions/needfulassumptions/spec/Connective$Operator" = some m.cls := hown0
  show zEnds p e below s T0 (mkF m 0 #[rv w_IMPLIES, rv w_XOR] []) _ _ _
  refine zaloadN X0 hx hby d_prog_20_method_5_0 rfl rfl ?_
  show zEnds p e below s T0 (mkF m 1 #[rv w_IMPLIES, rv w_XOR] [(.ref w_IMPLIES)]) _ _ _
  refine zcallup X0 hx hby d_prog_20_method_5_1 hZ hown (w21 hw) (w22 hw) (w23 hw) (w25 hw) (w24 hw) (w27 hw) (w26 hw) e0 E_w_IMPLIES (c17_ordinal l hw [] ⟨S_w_AND, S_w_XOR, S_w_IMPLIES, S_w_OR, S_w_IFF, E_w_AND, E_w_XOR, E_w_IMPLIES, E_w_OR, E_w_IFF, F_w_AND_ordinal, F_w_XOR_ordinal, F_w_IMPLIES_ordinal, F_w_OR_ordinal, F_w_IFF_ordinal⟩ ) (by decide) (by rw [hml]; rfl) 0 (Nat.le_of_eq rfl) (by decide) (by decide) (by decide) (by decide) pd_2 rfl (argsL := []) (st := []) rfl (zpureK ⟨rfl, rfl⟩ fun T1 X1 e1 => ?_)
  show zEnds p e below s T1 (mkF m 4 #[rv w_IMPLIES, rv w_XOR] [(.int 3)]) _ _ _
  refine zaloadN X1 hx hby d_prog_20_method_5_4 rfl rfl ?_
  show zEnds p e below s T1 (mkF m 5 #[rv w_IMPLIES, rv w_XOR] [(.ref w_XOR), (.int 3)]) _ _ _
  refine zcallup X1 hx hby d_prog_20_method_5_5 hZ hown (w21 hw) (w22 hw) (w23 hw) (w25 hw) (w24 hw) (w27 hw) (w26 hw) e1 E_w_XOR (c3_ordinal l hw [] ⟨S_w_AND, S_w_XOR, S_w_IMPLIES, S_w_OR, S_w_IFF, E_w_AND, E_w_XOR, E_w_IMPLIES, E_w_OR, E_w_IFF, F_w_AND_ordinal, F_w_XOR_ordinal, F_w_IMPLIES_ordinal, F_w_OR_ordinal, F_w_IFF_ordinal⟩ ) (by decide) (by rw [hml]; rfl) 1 (Nat.le_of_eq rfl) (by decide) (by decide) (by decide) (by decide) pd_2 rfl (argsL := []) (st := [(.int 3)]) rfl (zpureK ⟨rfl, rfl⟩ fun T2 X2 e2 => ?_)
  show zEnds p e below s T2 (mkF m 8 #[rv w_IMPLIES, rv w_XOR] [(.int 2), (.int 3)]) _ _ _
  refine zicmpYes X2 hx hby d_prog_20_method_5_8 15 (by decide) (by decide) (by decide) (ziconst X2 hx hby d_prog_20_method_5_15 (z := (0 : Int32)) rfl ?_)
  show zEnds p e below s T2 (mkF m 16 #[rv w_IMPLIES, rv w_XOR] [(.int 0)]) _ _ _
  exact zretZ X2 hx hby d_prog_20_method_5_16 hret hlk (by simp) rfl (Nat.zero_le _) (Nat.zero_le _) ⟨rfl, e2, rfl⟩
set_option maxRecDepth 65536 in
set_option maxHeartbeats 40000000 in
theorem c19_groupsRight (l : Launch) {Z : State} {a0 : Array Value} (hw : ∀ d ∈ tables_1, d.before a0 Z = true) (ws : List Jvm.Cond) {w_AND w_XOR w_IMPLIES w_OR w_IFF : Addr} {h0 : Heap} (K : Ctx Z h0 w_AND w_XOR w_IMPLIES w_OR w_IFF)  : zCon l Z (⟨"com/example/needful_assumptions/needfulassumptions/spec/Connective$Operator", "groupsRight", "()Z"⟩ : MethodName) prog_20_method_7_code 1 (some .boolean) ws ({ frames := 0, cells := 0, slots := 0, locals := 0 } : Room) #[(.ref w_IMPLIES)] h0 (zSame (some (.int 1)) h0) := by
  obtain ⟨S_w_AND, S_w_XOR, S_w_IMPLIES, S_w_OR, S_w_IFF, E_w_AND, E_w_XOR, E_w_IMPLIES, E_w_OR, E_w_IFF, F_w_AND_ordinal, F_w_XOR_ordinal, F_w_IMPLIES_ordinal, F_w_OR_ordinal, F_w_IFF_ordinal⟩ := K
  refine zenter (plainFor_of_name pn_1) (L0 := #[rv w_IMPLIES]) (fun m => by first | rfl | simp [entryFrame, mkF, argsToLocals, Value.category, maxLocals]) ?_
  intro p e s m below meth c T0 hx hZ hby hml hown0 hnm hret hlk X0 e0
  have hown : s.vm.findClass "com/example/needful_assumptions/needfulassumptions/spec/Connective$Operator" = some m.cls := hown0
  show zEnds p e below s T0 (mkF m 0 #[rv w_IMPLIES] []) _ _ _
  refine zaloadN X0 hx hby d_prog_20_method_7_0 rfl rfl (zgetstat X0 hx hby d_prog_20_method_7_1 hZ hown (host := "") (Or.inl (w35 hw)) Via.refl e0 S_w_IMPLIES fun T1 X1 e1 => (zacmp X1 hx hby d_prog_20_method_7_4 7 true rfl rfl (decide_eq_true rfl) (by decide) (by decide) (ziconst X1 hx hby d_prog_20_method_7_7 (z := (1 : Int32)) rfl (zgoto X1 hx hby d_prog_20_method_7_8 12 (by decide) (by decide) ?_))))
  show zEnds p e below s T1 (mkF m 12 #[rv w_IMPLIES] [(.int 1)]) _ _ _
  exact zretZ X1 hx hby d_prog_20_method_7_12 hret hlk (by simp) rfl (Nat.zero_le _) (Nat.zero_le _) ⟨rfl, e1, rfl⟩
set_option maxRecDepth 65536 in
set_option maxHeartbeats 40000000 in
theorem c20_pick (l : Launch) {Z : State} {a0 : Array Value} (hw : ∀ d ∈ tables_1, d.before a0 Z = true) (ws : List Jvm.Cond) {w_AND w_XOR w_IMPLIES w_OR w_IFF : Addr} {h0 : Heap} (K : Ctx Z h0 w_AND w_XOR w_IMPLIES w_OR w_IFF)  : zCon l Z (⟨"com/example/needful_assumptions/needfulassumptions/spec/OperatorWrittenInPrefixPinLaw", "pick", "(I)Lcom/example/needful_assumptions/needfulassumptions/spec/Connective$Operator;"⟩ : MethodName) method_2_code 1 (some (.object "com/example/needful_assumptions/needfulassumptions/spec/Connective$Operator")) ws ({ frames := 0, cells := 0, slots := 0, locals := 0 } : Room) #[(.int 4)] h0 (zSame (some (.ref w_IFF)) h0) := by
  obtain ⟨S_w_AND, S_w_XOR, S_w_IMPLIES, S_w_OR, S_w_IFF, E_w_AND, E_w_XOR, E_w_IMPLIES, E_w_OR, E_w_IFF, F_w_AND_ordinal, F_w_XOR_ordinal, F_w_IMPLIES_ordinal, F_w_OR_ordinal, F_w_IFF_ordinal⟩ := K
  refine zenter (plainFor_of_name pn_0) (L0 := #[iv 4]) (fun m => by first | rfl | simp [entryFrame, mkF, argsToLocals, Value.category, maxLocals]) ?_
  intro p e s m below meth c T0 hx hZ hby hml hown0 hnm hret hlk X0 e0
  have hown : s.vm.findClass "com/example/needful_assumptions/needfulassumptions/spec/OperatorWrittenInPrefixPinLaw" = some m.cls := hown0
  show zEnds p e below s T0 (mkF m 0 #[iv 4] []) _ _ _
  refine ziloadN X0 hx hby d_method_2_0 rfl (zifYes X0 hx hby d_method_2_1 8 (by decide) (by decide) (by decide) (ziloadN X0 hx hby d_method_2_8 rfl (ziconst X0 hx hby d_method_2_9 (z := (1 : Int32)) rfl (zicmpYes X0 hx hby d_method_2_10 17 (by decide) (by decide) (by decide) (ziloadN X0 hx hby d_method_2_17 rfl (ziconst X0 hx hby d_method_2_18 (z := (2 : Int32)) rfl (zicmpYes X0 hx hby d_method_2_19 26 (by decide) (by decide) (by decide) (ziloadN X0 hx hby d_method_2_26 rfl (ziconst X0 hx hby d_method_2_27 (z := (3 : Int32)) rfl ?_)))))))))
  show zEnds p e below s T0 (mkF m 28 #[iv 4] [(.int 3), (.int 4)]) _ _ _
  refine zicmpYes X0 hx hby d_method_2_28 35 (by decide) (by decide) (by decide) (zgetstat X0 hx hby d_method_2_35 hZ hown (host := "") (Or.inl (w42 hw)) Via.refl e0 S_w_IFF fun T1 X1 e1 => ?_)
  show zEnds p e below s T1 (mkF m 38 #[iv 4] [(.ref w_IFF)]) _ _ _
  exact zretA X1 hx hby d_method_2_38 hret hlk rfl rfl rfl (Nat.zero_le _) (Nat.zero_le _) ⟨rfl, e1, rfl⟩
set_option maxRecDepth 65536 in
set_option maxHeartbeats 40000000 in
theorem c21_writtenInPrefix (l : Launch) {Z : State} {a0 : Array Value} (hw : ∀ d ∈ tables_1, d.before a0 Z = true) (ws : List Jvm.Cond) {w_AND w_XOR w_IMPLIES w_OR w_IFF : Addr} {h0 : Heap} (K : Ctx Z h0 w_AND w_XOR w_IMPLIES w_OR w_IFF)  : zCon l Z (⟨"com/example/needful_assumptions/needfulassumptions/spec/Connective$Operator", "writtenInPrefix", "()Z"⟩ : MethodName) prog_20_method_6_code 1 (some .boolean) ws ({ frames := 0, cells := 0, slots := 0, locals := 0 } : Room) #[(.ref w_IFF)] h0 (zSame (some (.int 0)) h0) := by
  obtain ⟨S_w_AND, S_w_XOR, S_w_IMPLIES, S_w_OR, S_w_IFF, E_w_AND, E_w_XOR, E_w_IMPLIES, E_w_OR, E_w_IFF, F_w_AND_ordinal, F_w_XOR_ordinal, F_w_IMPLIES_ordinal, F_w_OR_ordinal, F_w_IFF_ordinal⟩ := K
  refine zenter (plainFor_of_name pn_1) (L0 := #[rv w_IFF]) (fun m => by first | rfl | simp [entryFrame, mkF, argsToLocals, Value.category, maxLocals]) ?_
  intro p e s m below meth c T0 hx hZ hby hml hown0 hnm hret hlk X0 e0
  have hown : s.vm.findClass "com/example/needful_assumptions/needfulassumptions/spec/Connective$Operator" = some m.cls := hown0
  show zEnds p e below s T0 (mkF m 0 #[rv w_IFF] []) _ _ _
  refine zaloadN X0 hx hby d_prog_20_method_6_0 rfl rfl (zgetstat X0 hx hby d_prog_20_method_6_1 hZ hown (host := "") (Or.inl (w13 hw)) Via.refl e0 S_w_AND fun T1 X1 e1 => (zacmp X1 hx hby d_prog_20_method_6_4 7 false rfl rfl (decide_eq_false fun q => (Fld.ne F_w_IFF_ordinal F_w_AND_ordinal (by decide)) (Value.ref.inj q)) (by decide) (by decide) (zaloadN X1 hx hby d_prog_20_method_6_7 rfl rfl (zgetstat X1 hx hby d_prog_20_method_6_8 hZ hown (host := "") (Or.inl (w38 hw)) Via.refl e1 S_w_OR fun T2 X2 e2 => (zacmp X2 hx hby d_prog_20_method_6_11 14 false rfl rfl (decide_eq_false fun q => (Fld.ne F_w_IFF_ordinal F_w_OR_ordinal (by decide)) (Value.ref.inj q)) (by decide) (by decide) (zaloadN X2 hx hby d_prog_20_method_6_14 rfl rfl (zgetstat X2 hx hby d_prog_20_method_6_15 hZ hown (host := "") (Or.inl (w40 hw)) Via.refl e2 S_w_XOR fun T3 X3 e3 => (zacmp X3 hx hby d_prog_20_method_6_18 25 false rfl rfl (decide_eq_false fun q => (Fld.ne F_w_IFF_ordinal F_w_XOR_ordinal (by decide)) (Value.ref.inj q)) (by decide) (by decide) (ziconst X3 hx hby d_prog_20_method_6_25 (z := (0 : Int32)) rfl ?_)))))))))
  show zEnds p e below s T3 (mkF m 26 #[rv w_IFF] [(.int 0)]) _ _ _
  exact zretZ X3 hx hby d_prog_20_method_6_26 hret hlk (by simp) rfl (Nat.zero_le _) (Nat.zero_le _) ⟨rfl, e3, rfl⟩
set_option maxRecDepth 65536 in
set_option maxHeartbeats 40000000 in
theorem c22_ordinal (l : Launch) {Z : State} {a0 : Array Value} (hw : ∀ d ∈ tables_1, d.before a0 Z = true) (ws : List Jvm.Cond) {w_AND w_XOR w_IMPLIES w_OR w_IFF : Addr} {h0 : Heap} (K : Ctx Z h0 w_AND w_XOR w_IMPLIES w_OR w_IFF)  : zCon l Z (⟨"java/lang/Enum", "ordinal", "()I"⟩ : MethodName) jdk_37_method_2_code 1 (some .int) ws ({ frames := 0, cells := 0, slots := 0, locals := 0 } : Room) #[(.ref w_IFF)] h0 (zSame (some (.int 4)) h0) := by
  obtain ⟨S_w_AND, S_w_XOR, S_w_IMPLIES, S_w_OR, S_w_IFF, E_w_AND, E_w_XOR, E_w_IMPLIES, E_w_OR, E_w_IFF, F_w_AND_ordinal, F_w_XOR_ordinal, F_w_IMPLIES_ordinal, F_w_OR_ordinal, F_w_IFF_ordinal⟩ := K
  refine zenter (plainFor_of_name pn_2) (L0 := #[rv w_IFF]) (fun m => by first | rfl | simp [entryFrame, mkF, argsToLocals, Value.category, maxLocals]) ?_
  intro p e s m below meth c T0 hx hZ hby hml hown0 hnm hret hlk X0 e0
  have hown : s.vm.findClass "java/lang/Enum" = some m.cls := hown0
  show zEnds p e below s T0 (mkF m 0 #[rv w_IFF] []) _ _ _
  refine zaloadN X0 hx hby d_jdk_37_method_2_0 rfl rfl (zgetfld X0 hx hby d_jdk_37_method_2_1 hZ hown (host := "") (Or.inl (w28 hw)) Via.refl e0 F_w_IFF_ordinal fun T1 X1 e1 => ?_)
  show zEnds p e below s T1 (mkF m 4 #[rv w_IFF] [(.int 4)]) _ _ _
  exact zretI X1 hx hby d_jdk_37_method_2_4 hret hlk (Nat.zero_le _) (Nat.zero_le _) ⟨rfl, e1, rfl⟩
set_option maxRecDepth 65536 in
set_option maxHeartbeats 40000000 in
theorem c22_bindsAtLeastAsTightlyAs (l : Launch) {Z : State} {a0 : Array Value} (hw : ∀ d ∈ tables_1, d.before a0 Z = true) (ws : List Jvm.Cond) {w_AND w_XOR w_IMPLIES w_OR w_IFF : Addr} {h0 : Heap} (K : Ctx Z h0 w_AND w_XOR w_IMPLIES w_OR w_IFF)  : zCon l Z (⟨"com/example/needful_assumptions/needfulassumptions/spec/Connective$Operator", "bindsAtLeastAsTightlyAs", "(Lcom/example/needful_assumptions/needfulassumptions/spec/Connective$Operator;)Z"⟩ : MethodName) prog_20_method_5_code 2 (some .boolean) ws ({ frames := 1, cells := 0, slots := 0, locals := 13 } : Room) #[(.ref w_IFF), (.ref w_XOR)] h0 (zSame (some (.int 0)) h0) := by
  obtain ⟨S_w_AND, S_w_XOR, S_w_IMPLIES, S_w_OR, S_w_IFF, E_w_AND, E_w_XOR, E_w_IMPLIES, E_w_OR, E_w_IFF, F_w_AND_ordinal, F_w_XOR_ordinal, F_w_IMPLIES_ordinal, F_w_OR_ordinal, F_w_IFF_ordinal⟩ := K
  refine zenter (plainFor_of_name pn_1) (L0 := #[rv w_IFF, rv w_XOR]) (fun m => by first | rfl | simp [entryFrame, mkF, argsToLocals, Value.category, maxLocals]) ?_
  intro p e s m below meth c T0 hx hZ hby hml hown0 hnm hret hlk X0 e0
  have hown : s.vm.findClass "com/example/needful_assumptions/needfulassumptions/spec/Connective$Operator" = some m.cls := hown0
  show zEnds p e below s T0 (mkF m 0 #[rv w_IFF, rv w_XOR] []) _ _ _
  refine zaloadN X0 hx hby d_prog_20_method_5_0 rfl rfl ?_
  show zEnds p e below s T0 (mkF m 1 #[rv w_IFF, rv w_XOR] [(.ref w_IFF)]) _ _ _
  refine zcallup X0 hx hby d_prog_20_method_5_1 hZ hown (w21 hw) (w22 hw) (w23 hw) (w25 hw) (w24 hw) (w27 hw) (w26 hw) e0 E_w_IFF (c22_ordinal l hw [] ⟨S_w_AND, S_w_XOR, S_w_IMPLIES, S_w_OR, S_w_IFF, E_w_AND, E_w_XOR, E_w_IMPLIES, E_w_OR, E_w_IFF, F_w_AND_ordinal, F_w_XOR_ordinal, F_w_IMPLIES_ordinal, F_w_OR_ordinal, F_w_IFF_ordinal⟩ ) (by decide) (by rw [hml]; rfl) 0 (Nat.le_of_eq rfl) (by decide) (by decide) (by decide) (by decide) pd_2 rfl (argsL := []) (st := []) rfl (zpureK ⟨rfl, rfl⟩ fun T1 X1 e1 => ?_)
  show zEnds p e below s T1 (mkF m 4 #[rv w_IFF, rv w_XOR] [(.int 4)]) _ _ _
  refine zaloadN X1 hx hby d_prog_20_method_5_4 rfl rfl ?_
  show zEnds p e below s T1 (mkF m 5 #[rv w_IFF, rv w_XOR] [(.ref w_XOR), (.int 4)]) _ _ _
  refine zcallup X1 hx hby d_prog_20_method_5_5 hZ hown (w21 hw) (w22 hw) (w23 hw) (w25 hw) (w24 hw) (w27 hw) (w26 hw) e1 E_w_XOR (c3_ordinal l hw [] ⟨S_w_AND, S_w_XOR, S_w_IMPLIES, S_w_OR, S_w_IFF, E_w_AND, E_w_XOR, E_w_IMPLIES, E_w_OR, E_w_IFF, F_w_AND_ordinal, F_w_XOR_ordinal, F_w_IMPLIES_ordinal, F_w_OR_ordinal, F_w_IFF_ordinal⟩ ) (by decide) (by rw [hml]; rfl) 1 (Nat.le_of_eq rfl) (by decide) (by decide) (by decide) (by decide) pd_2 rfl (argsL := []) (st := [(.int 4)]) rfl (zpureK ⟨rfl, rfl⟩ fun T2 X2 e2 => ?_)
  show zEnds p e below s T2 (mkF m 8 #[rv w_IFF, rv w_XOR] [(.int 2), (.int 4)]) _ _ _
  refine zicmpYes X2 hx hby d_prog_20_method_5_8 15 (by decide) (by decide) (by decide) (ziconst X2 hx hby d_prog_20_method_5_15 (z := (0 : Int32)) rfl ?_)
  show zEnds p e below s T2 (mkF m 16 #[rv w_IFF, rv w_XOR] [(.int 0)]) _ _ _
  exact zretZ X2 hx hby d_prog_20_method_5_16 hret hlk (by simp) rfl (Nat.zero_le _) (Nat.zero_le _) ⟨rfl, e2, rfl⟩
set_option maxRecDepth 65536 in
set_option maxHeartbeats 40000000 in
theorem c24_groupsRight (l : Launch) {Z : State} {a0 : Array Value} (hw : ∀ d ∈ tables_1, d.before a0 Z = true) (ws : List Jvm.Cond) {w_AND w_XOR w_IMPLIES w_OR w_IFF : Addr} {h0 : Heap} (K : Ctx Z h0 w_AND w_XOR w_IMPLIES w_OR w_IFF)  : zCon l Z (⟨"com/example/needful_assumptions/needfulassumptions/spec/Connective$Operator", "groupsRight", "()Z"⟩ : MethodName) prog_20_method_7_code 1 (some .boolean) ws ({ frames := 0, cells := 0, slots := 0, locals := 0 } : Room) #[(.ref w_IFF)] h0 (zSame (some (.int 0)) h0) := by
  obtain ⟨S_w_AND, S_w_XOR, S_w_IMPLIES, S_w_OR, S_w_IFF, E_w_AND, E_w_XOR, E_w_IMPLIES, E_w_OR, E_w_IFF, F_w_AND_ordinal, F_w_XOR_ordinal, F_w_IMPLIES_ordinal, F_w_OR_ordinal, F_w_IFF_ordinal⟩ := K
  refine zenter (plainFor_of_name pn_1) (L0 := #[rv w_IFF]) (fun m => by first | rfl | simp [entryFrame, mkF, argsToLocals, Value.category, maxLocals]) ?_
  intro p e s m below meth c T0 hx hZ hby hml hown0 hnm hret hlk X0 e0
  have hown : s.vm.findClass "com/example/needful_assumptions/needfulassumptions/spec/Connective$Operator" = some m.cls := hown0
  show zEnds p e below s T0 (mkF m 0 #[rv w_IFF] []) _ _ _
  refine zaloadN X0 hx hby d_prog_20_method_7_0 rfl rfl (zgetstat X0 hx hby d_prog_20_method_7_1 hZ hown (host := "") (Or.inl (w35 hw)) Via.refl e0 S_w_IMPLIES fun T1 X1 e1 => (zacmp X1 hx hby d_prog_20_method_7_4 11 false rfl rfl (decide_eq_false fun q => (Fld.ne F_w_IFF_ordinal F_w_IMPLIES_ordinal (by decide)) (Value.ref.inj q)) (by decide) (by decide) (ziconst X1 hx hby d_prog_20_method_7_11 (z := (0 : Int32)) rfl ?_)))
  show zEnds p e below s T1 (mkF m 12 #[rv w_IFF] [(.int 0)]) _ _ _
  exact zretZ X1 hx hby d_prog_20_method_7_12 hret hlk (by simp) rfl (Nat.zero_le _) (Nat.zero_le _) ⟨rfl, e1, rfl⟩
set_option maxRecDepth 65536 in
set_option maxHeartbeats 40000000 in
theorem rm0 (l : Launch) {Z : State} {a0 : Array Value} (hw : ∀ d ∈ tables_1, d.before a0 Z = true) (ws : List Jvm.Cond) {w_AND w_XOR w_IMPLIES w_OR w_IFF : Addr} {h0 : Heap} (K : Ctx Z h0 w_AND w_XOR w_IMPLIES w_OR w_IFF) (p1 : Int32) : zCon l Z x code maxLocals ret ws room_1 #[(.int p1)] h0 (zSame (some (.int 1)) h0) := by
  obtain ⟨S_w_AND, S_w_XOR, S_w_IMPLIES, S_w_OR, S_w_IFF, E_w_AND, E_w_XOR, E_w_IMPLIES, E_w_OR, E_w_IFF, F_w_AND_ordinal, F_w_XOR_ordinal, F_w_IMPLIES_ordinal, F_w_OR_ordinal, F_w_IFF_ordinal⟩ := K
  refine zenter (plainFor_of_name pn_0) (L0 := #[iv p1, .unset, .unset, .unset, .unset, .unset, .unset]) (fun m => by first | rfl | simp [entryFrame, mkF, argsToLocals, Value.category, maxLocals]) ?_
  intro p e s m below meth c T0 hx hZ hby hml hown0 hnm hret hlk X0 e0
  have hown : s.vm.findClass "com/example/needful_assumptions/needfulassumptions/spec/OperatorWrittenInPrefixPinLaw" = some m.cls := hown0
  show zEnds p e below s T0 (mkF m 0 #[iv p1, .unset, .unset, .unset, .unset, .unset, .unset] []) _ _ _
  refine ziloadN X0 hx hby at_0 rfl (zldcI X0 hx hby at_1 (2147483647 : Int32) hZ hown (w0 hw) (ziand X0 hx hby at_3 (p1 &&& (2147483647 : Int32)) rfl (ziconst X0 hx hby at_4 (z := (5 : Int32)) rfl (zirem X0 hx hby at_5 ((p1 &&& (2147483647 : Int32)) % (5 : Int32)) (by decide) rfl ?_))))
  show zEnds p e below s T0 (mkF m 6 #[iv p1, .unset, .unset, .unset, .unset, .unset, .unset] [(.int ((p1 &&& (2147483647 : Int32)) % (5 : Int32)))]) _ _ _
  rcases (rem_5 p1) with q1 | q1 | q1 | q1 | q1
  · rw [q1]
    refine zistoreN X0 hx hby at_6 (L' := #[iv p1, iv 0, .unset, .unset, .unset, .unset, .unset]) rfl (ziloadN X0 hx hby at_7 rfl ?_)
    show zEnds p e below s T0 (mkF m 8 #[iv p1, iv 0, .unset, .unset, .unset, .unset, .unset] [(.int 0)]) _ _ _
    refine zcalls X0 hx hby at_8 hZ hown (w1 hw) (w2 hw) (w3 hw) (w4 hw) e0 (c0_pick l hw [] ⟨S_w_AND, S_w_XOR, S_w_IMPLIES, S_w_OR, S_w_IFF, E_w_AND, E_w_XOR, E_w_IMPLIES, E_w_OR, E_w_IFF, F_w_AND_ordinal, F_w_XOR_ordinal, F_w_IMPLIES_ordinal, F_w_OR_ordinal, F_w_IFF_ordinal⟩ ) (by decide) (by rw [hml]; rfl) 0 (Nat.le_of_eq rfl) (by decide) (by decide) (by decide) (by decide) pd_0 rfl (argsL := [(.int 0)]) (st := []) rfl (zpureK ⟨rfl, rfl⟩ fun T2 X2 e2 => ?_)
    show zEnds p e below s T2 (mkF m 11 #[iv p1, iv 0, .unset, .unset, .unset, .unset, .unset] [(.ref w_AND)]) _ _ _
    refine zastoreN X2 hx hby at_11 (hv := rfl) (L' := #[iv p1, iv 0, rv w_AND, .unset, .unset, .unset, .unset]) rfl (ziloadN X2 hx hby at_12 rfl (zifYes X2 hx hby at_13 26 (by decide) (by decide) (by decide) (ziconst X2 hx hby at_26 (z := (1 : Int32)) rfl (zgoto X2 hx hby at_27 31 (by decide) (by decide) (zistoreN X2 hx hby at_31 (L' := #[iv p1, iv 0, rv w_AND, iv 1, .unset, .unset, .unset]) rfl (zaloadN X2 hx hby at_32 rfl rfl ?_))))))
    show zEnds p e below s T2 (mkF m 33 #[iv p1, iv 0, rv w_AND, iv 1, .unset, .unset, .unset] [(.ref w_AND)]) _ _ _
    refine zcallv X2 hx hby at_33 hZ hown (w8 hw) (w9 hw) (notFace_of_selects (args := #[]) (mvT hZ (w11 hw))) (w11 hw) (w10 hw) (w12 hw) (w6 hw) e2 E_w_AND (c1_writtenInPrefix l hw [] ⟨S_w_AND, S_w_XOR, S_w_IMPLIES, S_w_OR, S_w_IFF, E_w_AND, E_w_XOR, E_w_IMPLIES, E_w_OR, E_w_IFF, F_w_AND_ordinal, F_w_XOR_ordinal, F_w_IMPLIES_ordinal, F_w_OR_ordinal, F_w_IFF_ordinal⟩ ) (by decide) (by rw [hml]; rfl) 0 (Nat.le_of_eq rfl) (by decide) (by decide) (by decide) (by decide) pd_1 rfl (argsL := []) (st := []) rfl (zpureK ⟨rfl, rfl⟩ fun T3 X3 e3 => ?_)
    show zEnds p e below s T3 (mkF m 36 #[iv p1, iv 0, rv w_AND, iv 1, .unset, .unset, .unset] [(.int 1)]) _ _ _
    refine zistore X3 hx hby at_36 (L' := #[iv p1, iv 0, rv w_AND, iv 1, iv 1, .unset, .unset]) rfl (zaloadN X3 hx hby at_38 rfl rfl (zgetstat X3 hx hby at_39 hZ hown (host := "") (Or.inl (w14 hw)) Via.refl e3 S_w_XOR fun T4 X4 e4 => ?_))
    show zEnds p e below s T4 (mkF m 42 #[iv p1, iv 0, rv w_AND, iv 1, iv 1, .unset, .unset] [(.ref w_XOR), (.ref w_AND)]) _ _ _
    refine zcallv X4 hx hby at_42 hZ hown (w16 hw) (w17 hw) (notFace_of_selects (args := #[]) (mvT hZ (w19 hw))) (w19 hw) (w18 hw) (w20 hw) (w6 hw) e4 E_w_AND (c2_bindsAtLeastAsTightlyAs l hw [] ⟨S_w_AND, S_w_XOR, S_w_IMPLIES, S_w_OR, S_w_IFF, E_w_AND, E_w_XOR, E_w_IMPLIES, E_w_OR, E_w_IFF, F_w_AND_ordinal, F_w_XOR_ordinal, F_w_IMPLIES_ordinal, F_w_OR_ordinal, F_w_IFF_ordinal⟩ ) (by decide) (by rw [hml]; rfl) 0 (Nat.le_of_eq rfl) (by decide) (by decide) (by decide) (by decide) pd_3 rfl (argsL := [(.ref w_XOR)]) (st := []) rfl (zpureK ⟨rfl, rfl⟩ fun T5 X5 e5 => ?_)
    show zEnds p e below s T5 (mkF m 45 #[iv p1, iv 0, rv w_AND, iv 1, iv 1, .unset, .unset] [(.int 1)]) _ _ _
    refine zistore X5 hx hby at_45 (L' := #[iv p1, iv 0, rv w_AND, iv 1, iv 1, iv 1, .unset]) rfl (zaloadN X5 hx hby at_47 rfl rfl ?_)
    show zEnds p e below s T5 (mkF m 48 #[iv p1, iv 0, rv w_AND, iv 1, iv 1, iv 1, .unset] [(.ref w_AND)]) _ _ _
    refine zcallv X5 hx hby at_48 hZ hown (w30 hw) (w31 hw) (notFace_of_selects (args := #[]) (mvT hZ (w33 hw))) (w33 hw) (w32 hw) (w34 hw) (w6 hw) e5 E_w_AND (c5_groupsRight l hw [] ⟨S_w_AND, S_w_XOR, S_w_IMPLIES, S_w_OR, S_w_IFF, E_w_AND, E_w_XOR, E_w_IMPLIES, E_w_OR, E_w_IFF, F_w_AND_ordinal, F_w_XOR_ordinal, F_w_IMPLIES_ordinal, F_w_OR_ordinal, F_w_IFF_ordinal⟩ ) (by decide) (by rw [hml]; rfl) 0 (Nat.le_of_eq rfl) (by decide) (by decide) (by decide) (by decide) pd_1 rfl (argsL := []) (st := []) rfl (zpureK ⟨rfl, rfl⟩ fun T6 X6 e6 => ?_)
    show zEnds p e below s T6 (mkF m 51 #[iv p1, iv 0, rv w_AND, iv 1, iv 1, iv 1, .unset] [(.int 0)]) _ _ _
    refine zistore X6 hx hby at_51 (L' := #[iv p1, iv 0, rv w_AND, iv 1, iv 1, iv 1, iv 0]) rfl (ziload X6 hx hby at_53 rfl (ziloadN X6 hx hby at_55 rfl (zicmpNo X6 hx hby at_56 (by decide) (ziload X6 hx hby at_59 rfl (ziload X6 hx hby at_61 rfl (zicmpNo X6 hx hby at_63 (by decide) (ziload X6 hx hby at_66 rfl (zifNo X6 hx hby at_68 (by decide) (ziload X6 hx hby at_71 rfl ?_)))))))))
    show zEnds p e below s T6 (mkF m 73 #[iv p1, iv 0, rv w_AND, iv 1, iv 1, iv 1, iv 0] [(.int 0)]) _ _ _
    refine zifNo X6 hx hby at_73 (by decide) (ziconst X6 hx hby at_76 (z := (1 : Int32)) rfl (zgoto X6 hx hby at_77 81 (by decide) (by decide) ?_))
    show zEnds p e below s T6 (mkF m 81 #[iv p1, iv 0, rv w_AND, iv 1, iv 1, iv 1, iv 0] [(.int 1)]) _ _ _
    exact zretZ X6 hx hby at_81 hret hlk (by simp) rfl (Nat.zero_le _) (Nat.zero_le _) ⟨rfl, e6, rfl⟩
  · rw [q1]
    refine zistoreN X0 hx hby at_6 (L' := #[iv p1, iv 1, .unset, .unset, .unset, .unset, .unset]) rfl (ziloadN X0 hx hby at_7 rfl ?_)
    show zEnds p e below s T0 (mkF m 8 #[iv p1, iv 1, .unset, .unset, .unset, .unset, .unset] [(.int 1)]) _ _ _
    refine zcalls X0 hx hby at_8 hZ hown (w1 hw) (w2 hw) (w3 hw) (w4 hw) e0 (c6_pick l hw [] ⟨S_w_AND, S_w_XOR, S_w_IMPLIES, S_w_OR, S_w_IFF, E_w_AND, E_w_XOR, E_w_IMPLIES, E_w_OR, E_w_IFF, F_w_AND_ordinal, F_w_XOR_ordinal, F_w_IMPLIES_ordinal, F_w_OR_ordinal, F_w_IFF_ordinal⟩ ) (by decide) (by rw [hml]; rfl) 0 (Nat.le_of_eq rfl) (by decide) (by decide) (by decide) (by decide) pd_0 rfl (argsL := [(.int 1)]) (st := []) rfl (zpureK ⟨rfl, rfl⟩ fun T7 X7 e7 => ?_)
    show zEnds p e below s T7 (mkF m 11 #[iv p1, iv 1, .unset, .unset, .unset, .unset, .unset] [(.ref w_OR)]) _ _ _
    refine zastoreN X7 hx hby at_11 (hv := rfl) (L' := #[iv p1, iv 1, rv w_OR, .unset, .unset, .unset, .unset]) rfl (ziloadN X7 hx hby at_12 rfl (zifNo X7 hx hby at_13 (by decide) (ziloadN X7 hx hby at_16 rfl (ziconst X7 hx hby at_17 (z := (1 : Int32)) rfl (zicmpYes X7 hx hby at_18 26 (by decide) (by decide) (by decide) (ziconst X7 hx hby at_26 (z := (1 : Int32)) rfl (zgoto X7 hx hby at_27 31 (by decide) (by decide) (zistoreN X7 hx hby at_31 (L' := #[iv p1, iv 1, rv w_OR, iv 1, .unset, .unset, .unset]) rfl (zaloadN X7 hx hby at_32 rfl rfl ?_)))))))))
    show zEnds p e below s T7 (mkF m 33 #[iv p1, iv 1, rv w_OR, iv 1, .unset, .unset, .unset] [(.ref w_OR)]) _ _ _
    refine zcallv X7 hx hby at_33 hZ hown (w8 hw) (w9 hw) (notFace_of_selects (args := #[]) (mvT hZ (w11 hw))) (w11 hw) (w10 hw) (w12 hw) (w6 hw) e7 E_w_OR (c7_writtenInPrefix l hw [] ⟨S_w_AND, S_w_XOR, S_w_IMPLIES, S_w_OR, S_w_IFF, E_w_AND, E_w_XOR, E_w_IMPLIES, E_w_OR, E_w_IFF, F_w_AND_ordinal, F_w_XOR_ordinal, F_w_IMPLIES_ordinal, F_w_OR_ordinal, F_w_IFF_ordinal⟩ ) (by decide) (by rw [hml]; rfl) 0 (Nat.le_of_eq rfl) (by decide) (by decide) (by decide) (by decide) pd_1 rfl (argsL := []) (st := []) rfl (zpureK ⟨rfl, rfl⟩ fun T8 X8 e8 => ?_)
    show zEnds p e below s T8 (mkF m 36 #[iv p1, iv 1, rv w_OR, iv 1, .unset, .unset, .unset] [(.int 1)]) _ _ _
    refine zistore X8 hx hby at_36 (L' := #[iv p1, iv 1, rv w_OR, iv 1, iv 1, .unset, .unset]) rfl (zaloadN X8 hx hby at_38 rfl rfl (zgetstat X8 hx hby at_39 hZ hown (host := "") (Or.inl (w14 hw)) Via.refl e8 S_w_XOR fun T9 X9 e9 => ?_))
    show zEnds p e below s T9 (mkF m 42 #[iv p1, iv 1, rv w_OR, iv 1, iv 1, .unset, .unset] [(.ref w_XOR), (.ref w_OR)]) _ _ _
    refine zcallv X9 hx hby at_42 hZ hown (w16 hw) (w17 hw) (notFace_of_selects (args := #[]) (mvT hZ (w19 hw))) (w19 hw) (w18 hw) (w20 hw) (w6 hw) e9 E_w_OR (c8_bindsAtLeastAsTightlyAs l hw [] ⟨S_w_AND, S_w_XOR, S_w_IMPLIES, S_w_OR, S_w_IFF, E_w_AND, E_w_XOR, E_w_IMPLIES, E_w_OR, E_w_IFF, F_w_AND_ordinal, F_w_XOR_ordinal, F_w_IMPLIES_ordinal, F_w_OR_ordinal, F_w_IFF_ordinal⟩ ) (by decide) (by rw [hml]; rfl) 0 (Nat.le_of_eq rfl) (by decide) (by decide) (by decide) (by decide) pd_3 rfl (argsL := [(.ref w_XOR)]) (st := []) rfl (zpureK ⟨rfl, rfl⟩ fun T10 X10 e10 => ?_)
    show zEnds p e below s T10 (mkF m 45 #[iv p1, iv 1, rv w_OR, iv 1, iv 1, .unset, .unset] [(.int 1)]) _ _ _
    refine zistore X10 hx hby at_45 (L' := #[iv p1, iv 1, rv w_OR, iv 1, iv 1, iv 1, .unset]) rfl (zaloadN X10 hx hby at_47 rfl rfl ?_)
    show zEnds p e below s T10 (mkF m 48 #[iv p1, iv 1, rv w_OR, iv 1, iv 1, iv 1, .unset] [(.ref w_OR)]) _ _ _
    refine zcallv X10 hx hby at_48 hZ hown (w30 hw) (w31 hw) (notFace_of_selects (args := #[]) (mvT hZ (w33 hw))) (w33 hw) (w32 hw) (w34 hw) (w6 hw) e10 E_w_OR (c10_groupsRight l hw [] ⟨S_w_AND, S_w_XOR, S_w_IMPLIES, S_w_OR, S_w_IFF, E_w_AND, E_w_XOR, E_w_IMPLIES, E_w_OR, E_w_IFF, F_w_AND_ordinal, F_w_XOR_ordinal, F_w_IMPLIES_ordinal, F_w_OR_ordinal, F_w_IFF_ordinal⟩ ) (by decide) (by rw [hml]; rfl) 0 (Nat.le_of_eq rfl) (by decide) (by decide) (by decide) (by decide) pd_1 rfl (argsL := []) (st := []) rfl (zpureK ⟨rfl, rfl⟩ fun T11 X11 e11 => ?_)
    show zEnds p e below s T11 (mkF m 51 #[iv p1, iv 1, rv w_OR, iv 1, iv 1, iv 1, .unset] [(.int 0)]) _ _ _
    refine zistore X11 hx hby at_51 (L' := #[iv p1, iv 1, rv w_OR, iv 1, iv 1, iv 1, iv 0]) rfl (ziload X11 hx hby at_53 rfl (ziloadN X11 hx hby at_55 rfl (zicmpNo X11 hx hby at_56 (by decide) (ziload X11 hx hby at_59 rfl (ziload X11 hx hby at_61 rfl (zicmpNo X11 hx hby at_63 (by decide) (ziload X11 hx hby at_66 rfl (zifNo X11 hx hby at_68 (by decide) (ziload X11 hx hby at_71 rfl ?_)))))))))
    show zEnds p e below s T11 (mkF m 73 #[iv p1, iv 1, rv w_OR, iv 1, iv 1, iv 1, iv 0] [(.int 0)]) _ _ _
    refine zifNo X11 hx hby at_73 (by decide) (ziconst X11 hx hby at_76 (z := (1 : Int32)) rfl (zgoto X11 hx hby at_77 81 (by decide) (by decide) ?_))
    show zEnds p e below s T11 (mkF m 81 #[iv p1, iv 1, rv w_OR, iv 1, iv 1, iv 1, iv 0] [(.int 1)]) _ _ _
    exact zretZ X11 hx hby at_81 hret hlk (by simp) rfl (Nat.zero_le _) (Nat.zero_le _) ⟨rfl, e11, rfl⟩
  · rw [q1]
    refine zistoreN X0 hx hby at_6 (L' := #[iv p1, iv 2, .unset, .unset, .unset, .unset, .unset]) rfl (ziloadN X0 hx hby at_7 rfl ?_)
    show zEnds p e below s T0 (mkF m 8 #[iv p1, iv 2, .unset, .unset, .unset, .unset, .unset] [(.int 2)]) _ _ _
    refine zcalls X0 hx hby at_8 hZ hown (w1 hw) (w2 hw) (w3 hw) (w4 hw) e0 (c11_pick l hw [] ⟨S_w_AND, S_w_XOR, S_w_IMPLIES, S_w_OR, S_w_IFF, E_w_AND, E_w_XOR, E_w_IMPLIES, E_w_OR, E_w_IFF, F_w_AND_ordinal, F_w_XOR_ordinal, F_w_IMPLIES_ordinal, F_w_OR_ordinal, F_w_IFF_ordinal⟩ ) (by decide) (by rw [hml]; rfl) 0 (Nat.le_of_eq rfl) (by decide) (by decide) (by decide) (by decide) pd_0 rfl (argsL := [(.int 2)]) (st := []) rfl (zpureK ⟨rfl, rfl⟩ fun T12 X12 e12 => ?_)
    show zEnds p e below s T12 (mkF m 11 #[iv p1, iv 2, .unset, .unset, .unset, .unset, .unset] [(.ref w_XOR)]) _ _ _
    refine zastoreN X12 hx hby at_11 (hv := rfl) (L' := #[iv p1, iv 2, rv w_XOR, .unset, .unset, .unset, .unset]) rfl (ziloadN X12 hx hby at_12 rfl (zifNo X12 hx hby at_13 (by decide) (ziloadN X12 hx hby at_16 rfl (ziconst X12 hx hby at_17 (z := (1 : Int32)) rfl (zicmpNo X12 hx hby at_18 (by decide) (ziloadN X12 hx hby at_21 rfl (ziconst X12 hx hby at_22 (z := (2 : Int32)) rfl (zicmpNo X12 hx hby at_23 (by decide) (ziconst X12 hx hby at_26 (z := (1 : Int32)) rfl ?_)))))))))
    show zEnds p e below s T12 (mkF m 27 #[iv p1, iv 2, rv w_XOR, .unset, .unset, .unset, .unset] [(.int 1)]) _ _ _
    refine zgoto X12 hx hby at_27 31 (by decide) (by decide) (zistoreN X12 hx hby at_31 (L' := #[iv p1, iv 2, rv w_XOR, iv 1, .unset, .unset, .unset]) rfl (zaloadN X12 hx hby at_32 rfl rfl ?_))
    show zEnds p e below s T12 (mkF m 33 #[iv p1, iv 2, rv w_XOR, iv 1, .unset, .unset, .unset] [(.ref w_XOR)]) _ _ _
    refine zcallv X12 hx hby at_33 hZ hown (w8 hw) (w9 hw) (notFace_of_selects (args := #[]) (mvT hZ (w11 hw))) (w11 hw) (w10 hw) (w12 hw) (w6 hw) e12 E_w_XOR (c12_writtenInPrefix l hw [] ⟨S_w_AND, S_w_XOR, S_w_IMPLIES, S_w_OR, S_w_IFF, E_w_AND, E_w_XOR, E_w_IMPLIES, E_w_OR, E_w_IFF, F_w_AND_ordinal, F_w_XOR_ordinal, F_w_IMPLIES_ordinal, F_w_OR_ordinal, F_w_IFF_ordinal⟩ ) (by decide) (by rw [hml]; rfl) 0 (Nat.le_of_eq rfl) (by decide) (by decide) (by decide) (by decide) pd_1 rfl (argsL := []) (st := []) rfl (zpureK ⟨rfl, rfl⟩ fun T13 X13 e13 => ?_)
    show zEnds p e below s T13 (mkF m 36 #[iv p1, iv 2, rv w_XOR, iv 1, .unset, .unset, .unset] [(.int 1)]) _ _ _
    refine zistore X13 hx hby at_36 (L' := #[iv p1, iv 2, rv w_XOR, iv 1, iv 1, .unset, .unset]) rfl (zaloadN X13 hx hby at_38 rfl rfl (zgetstat X13 hx hby at_39 hZ hown (host := "") (Or.inl (w14 hw)) Via.refl e13 S_w_XOR fun T14 X14 e14 => ?_))
    show zEnds p e below s T14 (mkF m 42 #[iv p1, iv 2, rv w_XOR, iv 1, iv 1, .unset, .unset] [(.ref w_XOR), (.ref w_XOR)]) _ _ _
    refine zcallv X14 hx hby at_42 hZ hown (w16 hw) (w17 hw) (notFace_of_selects (args := #[]) (mvT hZ (w19 hw))) (w19 hw) (w18 hw) (w20 hw) (w6 hw) e14 E_w_XOR (c13_bindsAtLeastAsTightlyAs l hw [] ⟨S_w_AND, S_w_XOR, S_w_IMPLIES, S_w_OR, S_w_IFF, E_w_AND, E_w_XOR, E_w_IMPLIES, E_w_OR, E_w_IFF, F_w_AND_ordinal, F_w_XOR_ordinal, F_w_IMPLIES_ordinal, F_w_OR_ordinal, F_w_IFF_ordinal⟩ ) (by decide) (by rw [hml]; rfl) 0 (Nat.le_of_eq rfl) (by decide) (by decide) (by decide) (by decide) pd_3 rfl (argsL := [(.ref w_XOR)]) (st := []) rfl (zpureK ⟨rfl, rfl⟩ fun T15 X15 e15 => ?_)
    show zEnds p e below s T15 (mkF m 45 #[iv p1, iv 2, rv w_XOR, iv 1, iv 1, .unset, .unset] [(.int 1)]) _ _ _
    refine zistore X15 hx hby at_45 (L' := #[iv p1, iv 2, rv w_XOR, iv 1, iv 1, iv 1, .unset]) rfl (zaloadN X15 hx hby at_47 rfl rfl ?_)
    show zEnds p e below s T15 (mkF m 48 #[iv p1, iv 2, rv w_XOR, iv 1, iv 1, iv 1, .unset] [(.ref w_XOR)]) _ _ _
    refine zcallv X15 hx hby at_48 hZ hown (w30 hw) (w31 hw) (notFace_of_selects (args := #[]) (mvT hZ (w33 hw))) (w33 hw) (w32 hw) (w34 hw) (w6 hw) e15 E_w_XOR (c14_groupsRight l hw [] ⟨S_w_AND, S_w_XOR, S_w_IMPLIES, S_w_OR, S_w_IFF, E_w_AND, E_w_XOR, E_w_IMPLIES, E_w_OR, E_w_IFF, F_w_AND_ordinal, F_w_XOR_ordinal, F_w_IMPLIES_ordinal, F_w_OR_ordinal, F_w_IFF_ordinal⟩ ) (by decide) (by rw [hml]; rfl) 0 (Nat.le_of_eq rfl) (by decide) (by decide) (by decide) (by decide) pd_1 rfl (argsL := []) (st := []) rfl (zpureK ⟨rfl, rfl⟩ fun T16 X16 e16 => ?_)
    show zEnds p e below s T16 (mkF m 51 #[iv p1, iv 2, rv w_XOR, iv 1, iv 1, iv 1, .unset] [(.int 0)]) _ _ _
    refine zistore X16 hx hby at_51 (L' := #[iv p1, iv 2, rv w_XOR, iv 1, iv 1, iv 1, iv 0]) rfl (ziload X16 hx hby at_53 rfl (ziloadN X16 hx hby at_55 rfl (zicmpNo X16 hx hby at_56 (by decide) (ziload X16 hx hby at_59 rfl (ziload X16 hx hby at_61 rfl (zicmpNo X16 hx hby at_63 (by decide) (ziload X16 hx hby at_66 rfl (zifNo X16 hx hby at_68 (by decide) (ziload X16 hx hby at_71 rfl ?_)))))))))
    show zEnds p e below s T16 (mkF m 73 #[iv p1, iv 2, rv w_XOR, iv 1, iv 1, iv 1, iv 0] [(.int 0)]) _ _ _
    refine zifNo X16 hx hby at_73 (by decide) (ziconst X16 hx hby at_76 (z := (1 : Int32)) rfl (zgoto X16 hx hby at_77 81 (by decide) (by decide) ?_))
    show zEnds p e below s T16 (mkF m 81 #[iv p1, iv 2, rv w_XOR, iv 1, iv 1, iv 1, iv 0] [(.int 1)]) _ _ _
    exact zretZ X16 hx hby at_81 hret hlk (by simp) rfl (Nat.zero_le _) (Nat.zero_le _) ⟨rfl, e16, rfl⟩
  · rw [q1]
    refine zistoreN X0 hx hby at_6 (L' := #[iv p1, iv 3, .unset, .unset, .unset, .unset, .unset]) rfl (ziloadN X0 hx hby at_7 rfl ?_)
    show zEnds p e below s T0 (mkF m 8 #[iv p1, iv 3, .unset, .unset, .unset, .unset, .unset] [(.int 3)]) _ _ _
    refine zcalls X0 hx hby at_8 hZ hown (w1 hw) (w2 hw) (w3 hw) (w4 hw) e0 (c15_pick l hw [] ⟨S_w_AND, S_w_XOR, S_w_IMPLIES, S_w_OR, S_w_IFF, E_w_AND, E_w_XOR, E_w_IMPLIES, E_w_OR, E_w_IFF, F_w_AND_ordinal, F_w_XOR_ordinal, F_w_IMPLIES_ordinal, F_w_OR_ordinal, F_w_IFF_ordinal⟩ ) (by decide) (by rw [hml]; rfl) 0 (Nat.le_of_eq rfl) (by decide) (by decide) (by decide) (by decide) pd_0 rfl (argsL := [(.int 3)]) (st := []) rfl (zpureK ⟨rfl, rfl⟩ fun T17 X17 e17 => ?_)
    show zEnds p e below s T17 (mkF m 11 #[iv p1, iv 3, .unset, .unset, .unset, .unset, .unset] [(.ref w_IMPLIES)]) _ _ _
    refine zastoreN X17 hx hby at_11 (hv := rfl) (L' := #[iv p1, iv 3, rv w_IMPLIES, .unset, .unset, .unset, .unset]) rfl (ziloadN X17 hx hby at_12 rfl (zifNo X17 hx hby at_13 (by decide) (ziloadN X17 hx hby at_16 rfl (ziconst X17 hx hby at_17 (z := (1 : Int32)) rfl (zicmpNo X17 hx hby at_18 (by decide) (ziloadN X17 hx hby at_21 rfl (ziconst X17 hx hby at_22 (z := (2 : Int32)) rfl (zicmpYes X17 hx hby at_23 30 (by decide) (by decide) (by decide) (ziconst X17 hx hby at_30 (z := (0 : Int32)) rfl ?_)))))))))
    show zEnds p e below s T17 (mkF m 31 #[iv p1, iv 3, rv w_IMPLIES, .unset, .unset, .unset, .unset] [(.int 0)]) _ _ _
    refine zistoreN X17 hx hby at_31 (L' := #[iv p1, iv 3, rv w_IMPLIES, iv 0, .unset, .unset, .unset]) rfl (zaloadN X17 hx hby at_32 rfl rfl ?_)
    show zEnds p e below s T17 (mkF m 33 #[iv p1, iv 3, rv w_IMPLIES, iv 0, .unset, .unset, .unset] [(.ref w_IMPLIES)]) _ _ _
    refine zcallv X17 hx hby at_33 hZ hown (w8 hw) (w9 hw) (notFace_of_selects (args := #[]) (mvT hZ (w11 hw))) (w11 hw) (w10 hw) (w12 hw) (w6 hw) e17 E_w_IMPLIES (c16_writtenInPrefix l hw [] ⟨S_w_AND, S_w_XOR, S_w_IMPLIES, S_w_OR, S_w_IFF, E_w_AND, E_w_XOR, E_w_IMPLIES, E_w_OR, E_w_IFF, F_w_AND_ordinal, F_w_XOR_ordinal, F_w_IMPLIES_ordinal, F_w_OR_ordinal, F_w_IFF_ordinal⟩ ) (by decide) (by rw [hml]; rfl) 0 (Nat.le_of_eq rfl) (by decide) (by decide) (by decide) (by decide) pd_1 rfl (argsL := []) (st := []) rfl (zpureK ⟨rfl, rfl⟩ fun T18 X18 e18 => ?_)
    show zEnds p e below s T18 (mkF m 36 #[iv p1, iv 3, rv w_IMPLIES, iv 0, .unset, .unset, .unset] [(.int 0)]) _ _ _
    refine zistore X18 hx hby at_36 (L' := #[iv p1, iv 3, rv w_IMPLIES, iv 0, iv 0, .unset, .unset]) rfl (zaloadN X18 hx hby at_38 rfl rfl (zgetstat X18 hx hby at_39 hZ hown (host := "") (Or.inl (w14 hw)) Via.refl e18 S_w_XOR fun T19 X19 e19 => ?_))
    show zEnds p e below s T19 (mkF m 42 #[iv p1, iv 3, rv w_IMPLIES, iv 0, iv 0, .unset, .unset] [(.ref w_XOR), (.ref w_IMPLIES)]) _ _ _
    refine zcallv X19 hx hby at_42 hZ hown (w16 hw) (w17 hw) (notFace_of_selects (args := #[]) (mvT hZ (w19 hw))) (w19 hw) (w18 hw) (w20 hw) (w6 hw) e19 E_w_IMPLIES (c17_bindsAtLeastAsTightlyAs l hw [] ⟨S_w_AND, S_w_XOR, S_w_IMPLIES, S_w_OR, S_w_IFF, E_w_AND, E_w_XOR, E_w_IMPLIES, E_w_OR, E_w_IFF, F_w_AND_ordinal, F_w_XOR_ordinal, F_w_IMPLIES_ordinal, F_w_OR_ordinal, F_w_IFF_ordinal⟩ ) (by decide) (by rw [hml]; rfl) 0 (Nat.le_of_eq rfl) (by decide) (by decide) (by decide) (by decide) pd_3 rfl (argsL := [(.ref w_XOR)]) (st := []) rfl (zpureK ⟨rfl, rfl⟩ fun T20 X20 e20 => ?_)
    show zEnds p e below s T20 (mkF m 45 #[iv p1, iv 3, rv w_IMPLIES, iv 0, iv 0, .unset, .unset] [(.int 0)]) _ _ _
    refine zistore X20 hx hby at_45 (L' := #[iv p1, iv 3, rv w_IMPLIES, iv 0, iv 0, iv 0, .unset]) rfl (zaloadN X20 hx hby at_47 rfl rfl ?_)
    show zEnds p e below s T20 (mkF m 48 #[iv p1, iv 3, rv w_IMPLIES, iv 0, iv 0, iv 0, .unset] [(.ref w_IMPLIES)]) _ _ _
    refine zcallv X20 hx hby at_48 hZ hown (w30 hw) (w31 hw) (notFace_of_selects (args := #[]) (mvT hZ (w33 hw))) (w33 hw) (w32 hw) (w34 hw) (w6 hw) e20 E_w_IMPLIES (c19_groupsRight l hw [] ⟨S_w_AND, S_w_XOR, S_w_IMPLIES, S_w_OR, S_w_IFF, E_w_AND, E_w_XOR, E_w_IMPLIES, E_w_OR, E_w_IFF, F_w_AND_ordinal, F_w_XOR_ordinal, F_w_IMPLIES_ordinal, F_w_OR_ordinal, F_w_IFF_ordinal⟩ ) (by decide) (by rw [hml]; rfl) 0 (Nat.le_of_eq rfl) (by decide) (by decide) (by decide) (by decide) pd_1 rfl (argsL := []) (st := []) rfl (zpureK ⟨rfl, rfl⟩ fun T21 X21 e21 => ?_)
    show zEnds p e below s T21 (mkF m 51 #[iv p1, iv 3, rv w_IMPLIES, iv 0, iv 0, iv 0, .unset] [(.int 1)]) _ _ _
    refine zistore X21 hx hby at_51 (L' := #[iv p1, iv 3, rv w_IMPLIES, iv 0, iv 0, iv 0, iv 1]) rfl (ziload X21 hx hby at_53 rfl (ziloadN X21 hx hby at_55 rfl (zicmpNo X21 hx hby at_56 (by decide) (ziload X21 hx hby at_59 rfl (ziload X21 hx hby at_61 rfl (zicmpNo X21 hx hby at_63 (by decide) (ziload X21 hx hby at_66 rfl (zifYes X21 hx hby at_68 76 (by decide) (by decide) (by decide) (ziconst X21 hx hby at_76 (z := (1 : Int32)) rfl ?_)))))))))
    show zEnds p e below s T21 (mkF m 77 #[iv p1, iv 3, rv w_IMPLIES, iv 0, iv 0, iv 0, iv 1] [(.int 1)]) _ _ _
    refine zgoto X21 hx hby at_77 81 (by decide) (by decide) ?_
    show zEnds p e below s T21 (mkF m 81 #[iv p1, iv 3, rv w_IMPLIES, iv 0, iv 0, iv 0, iv 1] [(.int 1)]) _ _ _
    exact zretZ X21 hx hby at_81 hret hlk (by simp) rfl (Nat.zero_le _) (Nat.zero_le _) ⟨rfl, e21, rfl⟩
  · rw [q1]
    refine zistoreN X0 hx hby at_6 (L' := #[iv p1, iv 4, .unset, .unset, .unset, .unset, .unset]) rfl (ziloadN X0 hx hby at_7 rfl ?_)
    show zEnds p e below s T0 (mkF m 8 #[iv p1, iv 4, .unset, .unset, .unset, .unset, .unset] [(.int 4)]) _ _ _
    refine zcalls X0 hx hby at_8 hZ hown (w1 hw) (w2 hw) (w3 hw) (w4 hw) e0 (c20_pick l hw [] ⟨S_w_AND, S_w_XOR, S_w_IMPLIES, S_w_OR, S_w_IFF, E_w_AND, E_w_XOR, E_w_IMPLIES, E_w_OR, E_w_IFF, F_w_AND_ordinal, F_w_XOR_ordinal, F_w_IMPLIES_ordinal, F_w_OR_ordinal, F_w_IFF_ordinal⟩ ) (by decide) (by rw [hml]; rfl) 0 (Nat.le_of_eq rfl) (by decide) (by decide) (by decide) (by decide) pd_0 rfl (argsL := [(.int 4)]) (st := []) rfl (zpureK ⟨rfl, rfl⟩ fun T22 X22 e22 => ?_)
    show zEnds p e below s T22 (mkF m 11 #[iv p1, iv 4, .unset, .unset, .unset, .unset, .unset] [(.ref w_IFF)]) _ _ _
    refine zastoreN X22 hx hby at_11 (hv := rfl) (L' := #[iv p1, iv 4, rv w_IFF, .unset, .unset, .unset, .unset]) rfl (ziloadN X22 hx hby at_12 rfl (zifNo X22 hx hby at_13 (by decide) (ziloadN X22 hx hby at_16 rfl (ziconst X22 hx hby at_17 (z := (1 : Int32)) rfl (zicmpNo X22 hx hby at_18 (by decide) (ziloadN X22 hx hby at_21 rfl (ziconst X22 hx hby at_22 (z := (2 : Int32)) rfl (zicmpYes X22 hx hby at_23 30 (by decide) (by decide) (by decide) (ziconst X22 hx hby at_30 (z := (0 : Int32)) rfl ?_)))))))))
    show zEnds p e below s T22 (mkF m 31 #[iv p1, iv 4, rv w_IFF, .unset, .unset, .unset, .unset] [(.int 0)]) _ _ _
    refine zistoreN X22 hx hby at_31 (L' := #[iv p1, iv 4, rv w_IFF, iv 0, .unset, .unset, .unset]) rfl (zaloadN X22 hx hby at_32 rfl rfl ?_)
    show zEnds p e below s T22 (mkF m 33 #[iv p1, iv 4, rv w_IFF, iv 0, .unset, .unset, .unset] [(.ref w_IFF)]) _ _ _
    refine zcallv X22 hx hby at_33 hZ hown (w8 hw) (w9 hw) (notFace_of_selects (args := #[]) (mvT hZ (w11 hw))) (w11 hw) (w10 hw) (w12 hw) (w6 hw) e22 E_w_IFF (c21_writtenInPrefix l hw [] ⟨S_w_AND, S_w_XOR, S_w_IMPLIES, S_w_OR, S_w_IFF, E_w_AND, E_w_XOR, E_w_IMPLIES, E_w_OR, E_w_IFF, F_w_AND_ordinal, F_w_XOR_ordinal, F_w_IMPLIES_ordinal, F_w_OR_ordinal, F_w_IFF_ordinal⟩ ) (by decide) (by rw [hml]; rfl) 0 (Nat.le_of_eq rfl) (by decide) (by decide) (by decide) (by decide) pd_1 rfl (argsL := []) (st := []) rfl (zpureK ⟨rfl, rfl⟩ fun T23 X23 e23 => ?_)
    show zEnds p e below s T23 (mkF m 36 #[iv p1, iv 4, rv w_IFF, iv 0, .unset, .unset, .unset] [(.int 0)]) _ _ _
    refine zistore X23 hx hby at_36 (L' := #[iv p1, iv 4, rv w_IFF, iv 0, iv 0, .unset, .unset]) rfl (zaloadN X23 hx hby at_38 rfl rfl (zgetstat X23 hx hby at_39 hZ hown (host := "") (Or.inl (w14 hw)) Via.refl e23 S_w_XOR fun T24 X24 e24 => ?_))
    show zEnds p e below s T24 (mkF m 42 #[iv p1, iv 4, rv w_IFF, iv 0, iv 0, .unset, .unset] [(.ref w_XOR), (.ref w_IFF)]) _ _ _
    refine zcallv X24 hx hby at_42 hZ hown (w16 hw) (w17 hw) (notFace_of_selects (args := #[]) (mvT hZ (w19 hw))) (w19 hw) (w18 hw) (w20 hw) (w6 hw) e24 E_w_IFF (c22_bindsAtLeastAsTightlyAs l hw [] ⟨S_w_AND, S_w_XOR, S_w_IMPLIES, S_w_OR, S_w_IFF, E_w_AND, E_w_XOR, E_w_IMPLIES, E_w_OR, E_w_IFF, F_w_AND_ordinal, F_w_XOR_ordinal, F_w_IMPLIES_ordinal, F_w_OR_ordinal, F_w_IFF_ordinal⟩ ) (by decide) (by rw [hml]; rfl) 0 (Nat.le_of_eq rfl) (by decide) (by decide) (by decide) (by decide) pd_3 rfl (argsL := [(.ref w_XOR)]) (st := []) rfl (zpureK ⟨rfl, rfl⟩ fun T25 X25 e25 => ?_)
    show zEnds p e below s T25 (mkF m 45 #[iv p1, iv 4, rv w_IFF, iv 0, iv 0, .unset, .unset] [(.int 0)]) _ _ _
    refine zistore X25 hx hby at_45 (L' := #[iv p1, iv 4, rv w_IFF, iv 0, iv 0, iv 0, .unset]) rfl (zaloadN X25 hx hby at_47 rfl rfl ?_)
    show zEnds p e below s T25 (mkF m 48 #[iv p1, iv 4, rv w_IFF, iv 0, iv 0, iv 0, .unset] [(.ref w_IFF)]) _ _ _
    refine zcallv X25 hx hby at_48 hZ hown (w30 hw) (w31 hw) (notFace_of_selects (args := #[]) (mvT hZ (w33 hw))) (w33 hw) (w32 hw) (w34 hw) (w6 hw) e25 E_w_IFF (c24_groupsRight l hw [] ⟨S_w_AND, S_w_XOR, S_w_IMPLIES, S_w_OR, S_w_IFF, E_w_AND, E_w_XOR, E_w_IMPLIES, E_w_OR, E_w_IFF, F_w_AND_ordinal, F_w_XOR_ordinal, F_w_IMPLIES_ordinal, F_w_OR_ordinal, F_w_IFF_ordinal⟩ ) (by decide) (by rw [hml]; rfl) 0 (Nat.le_of_eq rfl) (by decide) (by decide) (by decide) (by decide) pd_1 rfl (argsL := []) (st := []) rfl (zpureK ⟨rfl, rfl⟩ fun T26 X26 e26 => ?_)
    show zEnds p e below s T26 (mkF m 51 #[iv p1, iv 4, rv w_IFF, iv 0, iv 0, iv 0, .unset] [(.int 0)]) _ _ _
    refine zistore X26 hx hby at_51 (L' := #[iv p1, iv 4, rv w_IFF, iv 0, iv 0, iv 0, iv 0]) rfl (ziload X26 hx hby at_53 rfl (ziloadN X26 hx hby at_55 rfl (zicmpNo X26 hx hby at_56 (by decide) (ziload X26 hx hby at_59 rfl (ziload X26 hx hby at_61 rfl (zicmpNo X26 hx hby at_63 (by decide) (ziload X26 hx hby at_66 rfl (zifYes X26 hx hby at_68 76 (by decide) (by decide) (by decide) (ziconst X26 hx hby at_76 (z := (1 : Int32)) rfl ?_)))))))))
    show zEnds p e below s T26 (mkF m 77 #[iv p1, iv 4, rv w_IFF, iv 0, iv 0, iv 0, iv 0] [(.int 1)]) _ _ _
    refine zgoto X26 hx hby at_77 81 (by decide) (by decide) ?_
    show zEnds p e below s T26 (mkF m 81 #[iv p1, iv 4, rv w_IFF, iv 0, iv 0, iv 0, iv 0] [(.int 1)]) _ _ _
    exact zretZ X26 hx hby at_81 hret hlk (by simp) rfl (Nat.zero_le _) (Nat.zero_le _) ⟨rfl, e26, rfl⟩
set_option maxRecDepth 65536 in
set_option maxHeartbeats 40000000 in
theorem comes_1 {Post : Tables → Env → Array Value → State → Outcome → State → Prop} (hpost : ∀ tb e args s v u, (limb_1_1.after args s (.returned v) u = true ∧ limb_1_2.after args s (.returned v) u = true ∧ True) → FrameEnd s (.returned v) u (Jvm.fieldLocs frame_1_writes args s ++ Jvm.arrayLocs frame_1_arrays args s ++ Jvm.staticLocs frame_1_statics s) 0 0 → Post tb e args s (.returned v) u) :
    ArmFor flags0 classFile x code maxLocals ret World_1 tables_1 room_1 Calls_1 rest_1 Pre_1 Post := by
  intro l hfl _ _ p e ha hc hk s m args below hf hA hF happ hP
  obtain ⟨hcalls, hrest, hpre⟩ := hP
  obtain ⟨-, -, -, hnamed, -, -, -, hat⟩ := (Spec.applies_iff hf).mp happ
  obtain ⟨hg, hn⟩ := and_e (Cond.before_iff.mp (show (Jvm.Cond.and given_1 narrow_1).before args s = true from hpre))
  obtain ⟨gc, hg⟩ := and_e hg
  obtain ⟨u0, rfl⟩ : ∃ u0 : Value, args = #[u0] := by
    have hs : args.size = 1 := by simpa [Cond.value, given_1] using gc
    obtain ⟨L⟩ := args
    match L, hs with
    | [u0], _ => exact ⟨u0, rfl⟩
  obtain ⟨i0, ei0⟩ := is_v hg
  obtain rfl : u0 = (.int i0) := Option.some.inj ei0
  have hw := fun d (hd : d ∈ tables_1) => atoms_spec (ws := Jvm.Cond.code x code maxLocals ret :: tables_1) hat d (List.mem_cons_of_mem _ hd)
  obtain ⟨n1, n2⟩ := and_e hn
  obtain ⟨n3, n4⟩ := and_e n2
  obtain ⟨n5, n6⟩ := and_e n4
  obtain ⟨n7, n8⟩ := and_e n6
  obtain ⟨n9, n10⟩ := and_e n8
  obtain ⟨n11, n12⟩ := and_e n10
  obtain ⟨n13, n14⟩ := and_e n12
  obtain ⟨n15, n16⟩ := and_e n14
  obtain ⟨n17, n18⟩ := and_e n16
  obtain ⟨w_AND, v_w_AND⟩ := exa_v n1
  have E_w_AND := Exa.start v_w_AND n1
  have S_w_AND := Sta.start v_w_AND (Or.inr ⟨(w6 hw), (w7 hw)⟩)
  obtain ⟨w_XOR, v_w_XOR⟩ := exa_v n3
  have E_w_XOR := Exa.start v_w_XOR n3
  have S_w_XOR := Sta.start v_w_XOR (Or.inr ⟨(w6 hw), (w15 hw)⟩)
  obtain ⟨w_IMPLIES, v_w_IMPLIES⟩ := exa_v n9
  have E_w_IMPLIES := Exa.start v_w_IMPLIES n9
  have S_w_IMPLIES := Sta.start v_w_IMPLIES (Or.inr ⟨(w6 hw), (w36 hw)⟩)
  obtain ⟨w_OR, v_w_OR⟩ := exa_v n13
  have E_w_OR := Exa.start v_w_OR n13
  have S_w_OR := Sta.start v_w_OR (Or.inr ⟨(w6 hw), (w39 hw)⟩)
  obtain ⟨w_IFF, v_w_IFF⟩ := exa_v n17
  have E_w_IFF := Exa.start v_w_IFF n17
  have S_w_IFF := Sta.start v_w_IFF (Or.inr ⟨(w6 hw), (w43 hw)⟩)
  have F_w_AND_ordinal := zfld_int v_w_AND n5
  have F_w_XOR_ordinal := zfld_int v_w_XOR n7
  have F_w_IMPLIES_ordinal := zfld_int v_w_IMPLIES n11
  have F_w_OR_ordinal := zfld_int v_w_OR n15
  have F_w_IFF_ordinal := zfld_int v_w_IFF n18
  obtain ⟨n, o, h1, h2, h3, _, L, rfl, ⟨rfl, eh, rfl⟩, hq⟩ := rm0 l (Z := s) hw tables_1 (h0 := s.heap) ⟨S_w_AND, S_w_XOR, S_w_IMPLIES, S_w_OR, S_w_IFF, E_w_AND, E_w_XOR, E_w_IMPLIES, E_w_OR, E_w_IFF, F_w_AND_ordinal, F_w_XOR_ordinal, F_w_IMPLIES_ordinal, F_w_OR_ordinal, F_w_IFF_ordinal⟩ i0 p e ha hc hk s m _ below hf ((Spec.applies_iff_loose hf).mp happ).1 ⟨rfl, State.Warmed39.refl s, rfl⟩ trivial
  refine ⟨n, _, h1, h2, h3, hpost _ _ _ _ _ _ ⟨Cond.after_iff.mpr rfl, Cond.after_iff.mpr (eq_i res_at (Term.int_eval (1)) rfl), trivial⟩ ⟨hq.1, hq.2.1, (hq.2.2.sift fun y hy => nomatch hy).mono (by decide) (by decide)⟩⟩
theorem main_1_1 : Claimed_1_1 := comes_1 fun _ _ _ _ _ _ h hF => ⟨h.1, hF⟩
theorem main_1_2 : Claimed_1_2 := comes_1 fun _ _ _ _ _ _ h hF => ⟨h.2.1, hF⟩
end Jvm.Pilot.@@N@@
namespace Jvm.Pilot.@@N@@
open Jvm Jvm.ClassFile Sem Op Lib Jvm.Free Jvm.Stand Jvm.Pilot.@@N@@.Jvm.D
/-! MADE BY PROGRAM (witnessworld.py) out of the Statement's table words and the real class files: 12 classes; the members and pool entries that the words name. The judged class is class 1, her method 2. -/
namespace start1
open Jvm.ClassFile
def u (s : String) : CpInfo := .utf8 (stringToUtf16 s)
/-- a pool by its gaps: so many unusable entries, then the entry; so many at the end -/
def gap : Nat → List CpInfo → List CpInfo
  | 0, r => r
  | n + 1, r => .unusable :: gap n r
def poolList (es : List (Nat × CpInfo)) (last : Nat) : List CpInfo := es.foldr (fun e r => gap e.1 (e.2 :: r)) (gap last [])
def pool (es : List (Nat × CpInfo)) (last : Nat) : Array CpInfo := ⟨poolList es last⟩
def fileOf (pool : Array CpInfo) (this : Nat) (attrs : Array Attribute := #[]) (ms : Array MethodInfo := #[]) (fl : Nat := 33) (sup : Nat := 0) (ifs : Array Nat := #[]) (fds : Array FieldInfo := #[]) : ClassFile where
  minorVersion := 0
  majorVersion := 65
  constantPool := pool
  accessFlags := fl
  thisClass := this
  superClass := sup
  interfaces := ifs
  fields := fds
  methods := ms
  attributes := attrs
def plain (name : String) (sup : Option ClassId) : Class where
  name := name
  kind := .ordinary
  loader := none
  accessFlags := 33
  super := sup
  interfaces := #[]
  cf := none
  fields := #[]
  methods := #[]
  instanceTypes := #[]
  staticTypes := #[]
  resolved := #[]
  callSites := []
  init := .initialized
  statics := none
  mirror := none

def pool0 : Array CpInfo := pool [(5, u "<init>"), (0, u "()V"), (1, .class_ 10), (1, u "java/lang/Object")] 113

def k0m0 : Method := { name := "<init>", desc := "()V", sig := { parameters := [], returnType := none }, accessFlags := 1, code := none }
/-- java/lang/Object -/
def k0 : Class := { plain "java/lang/Object" none with
  accessFlags := 33
  interfaces := #[]
  cf := some (fileOf pool0 8 #[] #[{ accessFlags := 1, nameIndex := 5, descriptorIndex := 6, attributes := #[] }] 33 0 #[] #[])
  fields := #[]
  methods := #[k0m0]
  instanceTypes := #[]
  staticTypes := #[]
  resolved := Array.replicate 124 none
  statics := none }

def pool1 : Array CpInfo := pool [(2, .class_ 4), (1, u "java/lang/Object"), (0, u "<init>"), (0, u "()V"), (0, .fieldref 8 9), (0, .class_ 10), (0, .nameAndType 11 12), (0, u "com/example/needful_assumptions/needfulassumptions/spec/Connective$Operator"), (0, u "AND"), (0, u "Lcom/example/needful_assumptions/needfulassumptions/spec/Connective$Operator;"), (0, .fieldref 8 14), (0, .nameAndType 15 12), (0, u "OR"), (0, .fieldref 8 17), (0, .nameAndType 18 12), (0, u "XOR"), (0, .fieldref 8 20), (0, .nameAndType 21 12), (0, u "IMPLIES"), (0, .fieldref 8 23), (0, .nameAndType 24 12), (0, u "IFF"), (0, .integer 2147483647), (0, .methodref 27 28), (0, .class_ 29), (0, .nameAndType 30 31), (0, u "com/example/needful_assumptions/needfulassumptions/spec/OperatorWrittenInPrefixPinLaw"), (0, u "pick"), (0, u "(I)Lcom/example/needful_assumptions/needfulassumptions/spec/Connective$Operator;"), (0, .methodref 8 33), (0, .nameAndType 34 35), (0, u "writtenInPrefix"), (0, u "()Z"), (0, .methodref 8 37), (0, .nameAndType 38 39), (0, u "bindsAtLeastAsTightlyAs"), (0, u "(Lcom/example/needful_assumptions/needfulassumptions/spec/Connective$Operator;)Z"), (0, .methodref 8 41), (0, .nameAndType 42 35), (0, u "groupsRight"), (3, u "law"), (0, u "(I)Z")] 6

def k1m0 : Method := { name := "<init>", desc := "()V", sig := { parameters := [], returnType := none }, accessFlags := 2, code := none }
def k1c1 : Code := { maxStack := 2, maxLocals := 1, code := method_2_code, exceptionTable := #[], attributes := #[] }
def k1m1 : Method := { name := "pick", desc := "(I)Lcom/example/needful_assumptions/needfulassumptions/spec/Connective$Operator;", sig := { parameters := [.int], returnType := some (.object "com/example/needful_assumptions/needfulassumptions/spec/Connective$Operator") }, accessFlags := 10, code := some k1c1 }
def k1c2 : Code := { maxStack := 2, maxLocals := 7, code := code, exceptionTable := #[], attributes := #[] }
def k1m2 : Method := { name := "law", desc := "(I)Z", sig := { parameters := [.int], returnType := some .boolean }, accessFlags := 9, code := some k1c2 }
/-- com/example/needful_assumptions/needfulassumptions/spec/OperatorWrittenInPrefixPinLaw -/
def k1 : Class := { plain "com/example/needful_assumptions/needfulassumptions/spec/OperatorWrittenInPrefixPinLaw" (some 0) with
  accessFlags := 49
  interfaces := #[]
  cf := some (fileOf pool1 27 #[] #[{ accessFlags := 2, nameIndex := 5, descriptorIndex := 6, attributes := #[] }, { accessFlags := 10, nameIndex := 30, descriptorIndex := 31, attributes := #[] }, { accessFlags := 9, nameIndex := 46, descriptorIndex := 47, attributes := #[] }] 49 2 #[] #[])
  fields := #[]
  methods := #[k1m0, k1m1, k1m2]
  instanceTypes := #[]
  staticTypes := #[]
  resolved := Array.replicate 54 none
  statics := none }

def pool2 : Array CpInfo := pool [(1, .class_ 2), (0, u "java/lang/constant/Constable"), (0, .class_ 4), (0, u "java/lang/Object")] 6

/-- java/lang/constant/Constable -/
def k2 : Class := { plain "java/lang/constant/Constable" (some 0) with
  accessFlags := 1537
  interfaces := #[]
  cf := some (fileOf pool2 1 #[] #[] 1537 3 #[] #[])
  fields := #[]
  methods := #[]
  instanceTypes := #[]
  staticTypes := #[]
  resolved := Array.replicate 11 none
  statics := none }

def pool3 : Array CpInfo := pool [(1, .class_ 2), (0, u "java/lang/Comparable"), (0, .class_ 4), (0, u "java/lang/Object")] 7

/-- java/lang/Comparable -/
def k3 : Class := { plain "java/lang/Comparable" (some 0) with
  accessFlags := 1537
  interfaces := #[]
  cf := some (fileOf pool3 1 #[] #[] 1537 3 #[] #[])
  fields := #[]
  methods := #[]
  instanceTypes := #[]
  staticTypes := #[]
  resolved := Array.replicate 12 none
  statics := none }

def pool4 : Array CpInfo := pool [(1, .class_ 2), (0, u "java/io/Serializable"), (0, .class_ 4), (0, u "java/lang/Object")] 2

/-- java/io/Serializable -/
def k4 : Class := { plain "java/io/Serializable" (some 0) with
  accessFlags := 1537
  interfaces := #[]
  cf := some (fileOf pool4 1 #[] #[] 1537 3 #[] #[])
  fields := #[]
  methods := #[]
  instanceTypes := #[]
  staticTypes := #[]
  resolved := Array.replicate 7 none
  statics := none }

def pool5 : Array CpInfo := pool [(2, .class_ 4), (1, u "java/lang/Enum"), (0, u "name"), (0, u "Ljava/lang/String;"), (0, .fieldref 2 8), (0, .nameAndType 9 10), (0, u "ordinal"), (0, u "I"), (1, .class_ 14), (1, u "java/lang/Object"), (4, u "hash"), (86, .class_ 108), (1, u "java/lang/Enum$EnumDesc"), (2, .class_ 112), (0, u "java/lang/constant/Constable"), (0, .class_ 114), (0, u "java/lang/Comparable"), (0, .class_ 116), (0, u "java/io/Serializable"), (9, u "()I")] 77

def k5c0 : Code := { maxStack := 1, maxLocals := 1, code := jdk_37_method_2_code, exceptionTable := #[], attributes := #[] }
def k5m0 : Method := { name := "ordinal", desc := "()I", sig := { parameters := [], returnType := some .int }, accessFlags := 17, code := some k5c0 }
/-- java/lang/Enum -/
def k5 : Class := { plain "java/lang/Enum" (some 0) with
  accessFlags := 1057
  interfaces := #[2, 3, 4]
  cf := some (fileOf pool5 2 #[.nestMembers #[106]] #[{ accessFlags := 17, nameIndex := 9, descriptorIndex := 126, attributes := #[] }] 1057 12 #[111, 113, 115] #[{ accessFlags := 18, nameIndex := 5, descriptorIndex := 6, attributes := #[] }, { accessFlags := 18, nameIndex := 9, descriptorIndex := 10, attributes := #[] }, { accessFlags := 2, nameIndex := 19, descriptorIndex := 10, attributes := #[] }])
  fields := #[{ name := "name", type := (.object "java/lang/String"), accessFlags := 18, slot := 0, constantValue := 0 }, { name := "ordinal", type := .int, accessFlags := 18, slot := 1, constantValue := 0 }, { name := "hash", type := .int, accessFlags := 2, slot := 2, constantValue := 0 }]
  methods := #[k5m0]
  instanceTypes := #[(.object "java/lang/String"), .int, .int]
  staticTypes := #[]
  resolved := Array.replicate 204 none
  statics := none }

def pool6 : Array CpInfo := pool [(1, .class_ 2), (0, u "com/example/needful_assumptions/needfulassumptions/spec/Connective$Operator"), (0, .fieldref 1 4), (0, .nameAndType 5 6), (0, u "AND"), (0, u "Lcom/example/needful_assumptions/needfulassumptions/spec/Connective$Operator;"), (0, .fieldref 1 8), (0, .nameAndType 9 6), (0, u "OR"), (0, .fieldref 1 11), (0, .nameAndType 12 6), (0, u "XOR"), (0, .fieldref 1 14), (0, .nameAndType 15 6), (0, u "IMPLIES"), (2, u "IFF"), (2, u "$VALUES"), (0, u "[Lcom/example/needful_assumptions/needfulassumptions/spec/Connective$Operator;"), (6, .class_ 31), (1, u "java/lang/Enum"), (8, u "spellings"), (0, u "Ljava/util/List;"), (0, .methodref 1 43), (0, .nameAndType 44 45), (0, u "ordinal"), (0, u "()I"), (62, u "bindsAtLeastAsTightlyAs"), (0, u "(Lcom/example/needful_assumptions/needfulassumptions/spec/Connective$Operator;)Z"), (1, u "writtenInPrefix"), (0, u "()Z"), (0, u "groupsRight"), (8, .class_ 123), (0, u "com/example/needful_assumptions/needfulassumptions/spec/Connective")] 2

def k6c0 : Code := { maxStack := 2, maxLocals := 2, code := prog_20_method_5_code, exceptionTable := #[], attributes := #[] }
def k6m0 : Method := { name := "bindsAtLeastAsTightlyAs", desc := "(Lcom/example/needful_assumptions/needfulassumptions/spec/Connective$Operator;)Z", sig := { parameters := [(.object "com/example/needful_assumptions/needfulassumptions/spec/Connective$Operator")], returnType := some .boolean }, accessFlags := 1, code := some k6c0 }
def k6c1 : Code := { maxStack := 2, maxLocals := 1, code := prog_20_method_6_code, exceptionTable := #[], attributes := #[] }
def k6m1 : Method := { name := "writtenInPrefix", desc := "()Z", sig := { parameters := [], returnType := some .boolean }, accessFlags := 1, code := some k6c1 }
def k6c2 : Code := { maxStack := 2, maxLocals := 1, code := prog_20_method_7_code, exceptionTable := #[], attributes := #[] }
def k6m2 : Method := { name := "groupsRight", desc := "()Z", sig := { parameters := [], returnType := some .boolean }, accessFlags := 1, code := some k6c2 }
/-- com/example/needful_assumptions/needfulassumptions/spec/Connective$Operator -/
def k6 : Class := { plain "com/example/needful_assumptions/needfulassumptions/spec/Connective$Operator" (some 5) with
  accessFlags := 16433
  interfaces := #[]
  cf := some (fileOf pool6 1 #[.nestHost 122] #[{ accessFlags := 1, nameIndex := 108, descriptorIndex := 109, attributes := #[] }, { accessFlags := 1, nameIndex := 111, descriptorIndex := 112, attributes := #[] }, { accessFlags := 1, nameIndex := 113, descriptorIndex := 112, attributes := #[] }] 16433 29 #[] #[{ accessFlags := 16409, nameIndex := 5, descriptorIndex := 6, attributes := #[] }, { accessFlags := 16409, nameIndex := 9, descriptorIndex := 6, attributes := #[] }, { accessFlags := 16409, nameIndex := 12, descriptorIndex := 6, attributes := #[] }, { accessFlags := 16409, nameIndex := 15, descriptorIndex := 6, attributes := #[] }, { accessFlags := 16409, nameIndex := 18, descriptorIndex := 6, attributes := #[] }, { accessFlags := 18, nameIndex := 40, descriptorIndex := 41, attributes := #[] }, { accessFlags := 4122, nameIndex := 21, descriptorIndex := 22, attributes := #[] }])
  fields := #[{ name := "AND", type := (.object "com/example/needful_assumptions/needfulassumptions/spec/Connective$Operator"), accessFlags := 16409, slot := 0, constantValue := 0 }, { name := "OR", type := (.object "com/example/needful_assumptions/needfulassumptions/spec/Connective$Operator"), accessFlags := 16409, slot := 1, constantValue := 0 }, { name := "XOR", type := (.object "com/example/needful_assumptions/needfulassumptions/spec/Connective$Operator"), accessFlags := 16409, slot := 2, constantValue := 0 }, { name := "IMPLIES", type := (.object "com/example/needful_assumptions/needfulassumptions/spec/Connective$Operator"), accessFlags := 16409, slot := 3, constantValue := 0 }, { name := "IFF", type := (.object "com/example/needful_assumptions/needfulassumptions/spec/Connective$Operator"), accessFlags := 16409, slot := 4, constantValue := 0 }, { name := "spellings", type := (.object "java/util/List"), accessFlags := 18, slot := 3, constantValue := 0 }, { name := "$VALUES", type := (.array (.object "com/example/needful_assumptions/needfulassumptions/spec/Connective$Operator")), accessFlags := 4122, slot := 5, constantValue := 0 }]
  methods := #[k6m0, k6m1, k6m2]
  instanceTypes := #[(.object "java/lang/String"), .int, .int, (.object "java/util/List")]
  staticTypes := #[(.object "com/example/needful_assumptions/needfulassumptions/spec/Connective$Operator"), (.object "com/example/needful_assumptions/needfulassumptions/spec/Connective$Operator"), (.object "com/example/needful_assumptions/needfulassumptions/spec/Connective$Operator"), (.object "com/example/needful_assumptions/needfulassumptions/spec/Connective$Operator"), (.object "com/example/needful_assumptions/needfulassumptions/spec/Connective$Operator"), (.array (.object "com/example/needful_assumptions/needfulassumptions/spec/Connective$Operator"))]
  resolved := Array.replicate 126 none
  statics := some 0 }

def pool7 : Array CpInfo := pool [(1, u "java/lang/Cloneable"), (0, .class_ 1), (0, u "java/lang/Object"), (0, .class_ 3)] 3

/-- java/lang/Cloneable -/
def k7 : Class := { plain "java/lang/Cloneable" (some 0) with
  accessFlags := 1537
  interfaces := #[]
  cf := some (fileOf pool7 2 #[] #[] 1537 4 #[] #[])
  fields := #[]
  methods := #[]
  instanceTypes := #[]
  staticTypes := #[]
  resolved := Array.replicate 8 none
  statics := none }

/-- the primitive byte -/
def k8 : Class := { plain "byte" none with kind := .primitive 'B', accessFlags := 0x411 }
/-- [B -/
def k9 : Class := { plain "[B" (some 0) with kind := .array 8 .byte, interfaces := #[7, 4], accessFlags := 1041 }

/-- the primitive int -/
def k10 : Class := { plain "int" none with kind := .primitive 'I', accessFlags := 0x411 }
/-- [I -/
def k11 : Class := { plain "[I" (some 0) with kind := .array 10 .int, interfaces := #[7, 4], accessFlags := 1041 }

def heap : Heap := #[{ cls := 6, slots := #[.ref 1, .ref 4, .ref 2, .ref 3, .ref 5, .null], vm := .statics 6 },
  { cls := 6, slots := #[.null, .int 0, .int 0, .null], vm := .none },
  { cls := 6, slots := #[.null, .int 2, .int 0, .null], vm := .none },
  { cls := 6, slots := #[.null, .int 3, .int 0, .null], vm := .none },
  { cls := 6, slots := #[.null, .int 1, .int 0, .null], vm := .none },
  { cls := 6, slots := #[.null, .int 4, .int 0, .null], vm := .none }]
def classes : Array Class := #[k0, k1, k2, k3, k4, k5, k6, k7, k8, k9, k10, k11]
def interned : List (Array UInt16 × Addr) := []
def slotsUsed : Nat := 26
def theMethod : MethodId := ⟨1, 2⟩
def args0 : Array Value := #[.int 5]
def aboutOver (below : List Frame) : State where
  vm := { classes := classes, interned := interned.toArray }
  heap := heap
  slotsUsed := slotsUsed
  threads := #[{ frames := .invoking theMethod args0 :: below }]
def below0 : List Frame := [.native { method := ⟨0, 0⟩, args := #[] }]
def about1 : State := aboutOver below0
def p0 : Program := .bare "" "" ""
def e0 : Env := launch0.env 0 0 0
theorem w_frames : about1.frames = Frame.invoking theMethod args0 :: below0 := rfl
set_option maxRecDepth 65536 in
theorem w_args : argsFit about1.vm theMethod args0 = true := by decide +kernel
set_option maxRecDepth 65536 in
theorem w_heap : heapFits about1 = true := by decide +kernel
set_option maxRecDepth 65536 in
theorem w_runnable : about1.curStatus? = some .runnable := by decide +kernel
set_option maxRecDepth 65536 in
theorem w_alone : about1.alone = true := by decide +kernel
set_option maxRecDepth 65536 in
theorem w_named : about1.methodNamed? x = some theMethod := by decide +kernel
set_option maxRecDepth 65536 in
theorem w_hears : about1.hears theMethod below0 = true := by decide +kernel
set_option maxRecDepth 65536 in
theorem w_ripe : about1.ripe theMethod args0 below0 = true := by decide +kernel
theorem w_running : about1.status = .running := rfl
set_option maxRecDepth 65536 in
theorem w_room : about1.hasRoom e0.platform room_1 = true :=
  launch0.hasRoom_least _ room_1 (by decide +kernel) (by decide +kernel) (by decide +kernel) (by decide +kernel) (by decide +kernel) (by decide +kernel)
theorem allAtoms_all (ts : List Jvm.Cond) (a : Array Jvm.Value) (st : Jvm.State) : (allAtoms ts).before a st = ts.all (fun c => c.before a st) := by
  induction ts with
  | nil => rfl
  | cons c t ih =>
    show (Jvm.Cond.and c (allAtoms t)).before a st = _
    rw [Jvm.Cond.before_and, ih, List.all_cons]
def words1 : List Jvm.Cond := Jvm.Cond.code x code maxLocals ret :: tables_1
/-- a 'code' word, met by the world's own term for the bytes: nothing is compared byte by byte -/
theorem code_word {y : MethodName} {bytes : ByteArray} {mx : Nat} {rt : Option FieldType} {a : Array Value} {s : State} {m : MethodId} {meth : Method} {c : Code} (h1 : s.methodNamed? y = some m) (h2 : s.vm.method? m = some meth) (h3 : meth.code = some c) (h4 : c.code = bytes)
    (h5 : (c.maxLocals == mx && c.exceptionTable.isEmpty && decide (c.maxStack ≤ mostOperands) && decide (meth.sig.returnType = rt) && !meth.locks && decide (parseMethodDescriptor y.desc = some meth.sig)) = true) : (Jvm.Cond.code y bytes mx rt).before a s = true := by
  simp only [Bool.and_eq_true, beq_iff_eq, Bool.not_eq_true', decide_eq_true_eq] at h5
  obtain ⟨⟨⟨⟨⟨g1, g2⟩, g3⟩, g4⟩, g5⟩, g6⟩ := h5
  simp [Cond.before, Cond.holds, Cond.value, h1, h2, h3, h4, g1, g2, g3, g4, g5, g6]
def isCode : Jvm.Cond → Bool
  | .code _ _ _ _ => true
  | _ => false
theorem all_split {L : List Jvm.Cond} {P : Jvm.Cond → Bool} (h1 : L.all (fun c => isCode c || P c) = true) (h2 : ∀ c ∈ L.filter isCode, P c = true) : L.all P = true := by
  refine List.all_eq_true.mpr fun c hc => ?_
  have h := List.all_eq_true.mp h1 c hc
  rcases Bool.eq_false_or_eq_true (isCode c) with hi | hi
  · exact h2 c (List.mem_filter.mpr ⟨hc, hi⟩)
  · simpa [hi] using h
set_option maxRecDepth 65536 in
theorem w_c0 : (Jvm.Cond.code x code maxLocals ret).before args0 about1 = true := code_word (m := ⟨1, 2⟩) (meth := k1m2) (c := k1c2) (by decide +kernel) rfl rfl rfl (by decide +kernel)
set_option maxRecDepth 65536 in
theorem w_c1 : (Jvm.Cond.code ({ cls := "com/example/needful_assumptions/needfulassumptions/spec/OperatorWrittenInPrefixPinLaw", name := "pick", desc := "(I)Lcom/example/needful_assumptions/needfulassumptions/spec/Connective$Operator;" } : Jvm.MethodName) method_2_code (1 : Nat) (Option.some (Jvm.ClassFile.FieldType.object "com/example/needful_assumptions/needfulassumptions/spec/Connective$Operator"))).before args0 about1 = true := code_word (m := ⟨1, 1⟩) (meth := k1m1) (c := k1c1) (by decide +kernel) rfl rfl rfl (by decide +kernel)
set_option maxRecDepth 65536 in
theorem w_c2 : (Jvm.Cond.code ({ cls := "com/example/needful_assumptions/needfulassumptions/spec/Connective$Operator", name := "writtenInPrefix", desc := "()Z" } : Jvm.MethodName) prog_20_method_6_code (1 : Nat) (Option.some Jvm.ClassFile.FieldType.boolean)).before args0 about1 = true := code_word (m := ⟨6, 1⟩) (meth := k6m1) (c := k6c1) (by decide +kernel) rfl rfl rfl (by decide +kernel)
set_option maxRecDepth 65536 in
theorem w_c3 : (Jvm.Cond.code ({ cls := "com/example/needful_assumptions/needfulassumptions/spec/Connective$Operator", name := "bindsAtLeastAsTightlyAs", desc := "(Lcom/example/needful_assumptions/needfulassumptions/spec/Connective$Operator;)Z" } : Jvm.MethodName) prog_20_method_5_code (2 : Nat) (Option.some Jvm.ClassFile.FieldType.boolean)).before args0 about1 = true := code_word (m := ⟨6, 0⟩) (meth := k6m0) (c := k6c0) (by decide +kernel) rfl rfl rfl (by decide +kernel)
set_option maxRecDepth 65536 in
theorem w_c4 : (Jvm.Cond.code ({ cls := "java/lang/Enum", name := "ordinal", desc := "()I" } : Jvm.MethodName) jdk_37_method_2_code (1 : Nat) (Option.some Jvm.ClassFile.FieldType.int)).before args0 about1 = true := code_word (m := ⟨5, 0⟩) (meth := k5m0) (c := k5c0) (by decide +kernel) rfl rfl rfl (by decide +kernel)
set_option maxRecDepth 65536 in
theorem w_c5 : (Jvm.Cond.code ({ cls := "com/example/needful_assumptions/needfulassumptions/spec/Connective$Operator", name := "groupsRight", desc := "()Z" } : Jvm.MethodName) prog_20_method_7_code (1 : Nat) (Option.some Jvm.ClassFile.FieldType.boolean)).before args0 about1 = true := code_word (m := ⟨6, 2⟩) (meth := k6m2) (c := k6c2) (by decide +kernel) rfl rfl rfl (by decide +kernel)
def codes1 : List Jvm.Cond := [Jvm.Cond.code x code maxLocals ret, Jvm.Cond.code ({ cls := "com/example/needful_assumptions/needfulassumptions/spec/OperatorWrittenInPrefixPinLaw", name := "pick", desc := "(I)Lcom/example/needful_assumptions/needfulassumptions/spec/Connective$Operator;" } : Jvm.MethodName) method_2_code (1 : Nat) (Option.some (Jvm.ClassFile.FieldType.object "com/example/needful_assumptions/needfulassumptions/spec/Connective$Operator")), Jvm.Cond.code ({ cls := "com/example/needful_assumptions/needfulassumptions/spec/Connective$Operator", name := "writtenInPrefix", desc := "()Z" } : Jvm.MethodName) prog_20_method_6_code (1 : Nat) (Option.some Jvm.ClassFile.FieldType.boolean), Jvm.Cond.code ({ cls := "com/example/needful_assumptions/needfulassumptions/spec/Connective$Operator", name := "bindsAtLeastAsTightlyAs", desc := "(Lcom/example/needful_assumptions/needfulassumptions/spec/Connective$Operator;)Z" } : Jvm.MethodName) prog_20_method_5_code (2 : Nat) (Option.some Jvm.ClassFile.FieldType.boolean), Jvm.Cond.code ({ cls := "java/lang/Enum", name := "ordinal", desc := "()I" } : Jvm.MethodName) jdk_37_method_2_code (1 : Nat) (Option.some Jvm.ClassFile.FieldType.int), Jvm.Cond.code ({ cls := "com/example/needful_assumptions/needfulassumptions/spec/Connective$Operator", name := "groupsRight", desc := "()Z" } : Jvm.MethodName) prog_20_method_7_code (1 : Nat) (Option.some Jvm.ClassFile.FieldType.boolean)]
set_option maxRecDepth 65536 in
theorem codes_eq : words1.filter isCode = codes1 := rfl
theorem w_codes : ∀ c ∈ words1.filter isCode, c.before args0 about1 = true := by
  rw [codes_eq]
  intro c hc
  simp only [codes1, List.mem_cons, List.not_mem_nil, or_false] at hc
  rcases hc with rfl | rfl | rfl | rfl | rfl | rfl
  · exact w_c0
  · exact w_c1
  · exact w_c2
  · exact w_c3
  · exact w_c4
  · exact w_c5
set_option maxRecDepth 65536 in
theorem w_t1 : (words1.take 24).all (fun c => isCode c || c.before args0 about1) = true := by decide +kernel
set_option maxRecDepth 65536 in
theorem w_t2 : (words1.drop 24).all (fun c => isCode c || c.before args0 about1) = true := by decide +kernel
theorem w_tables : (allAtoms (Jvm.Cond.code x code maxLocals ret :: tables_1)).before args0 about1 = true := by
  rw [allAtoms_all]
  show words1.all (fun c => c.before args0 about1) = true
  refine all_split ?_ w_codes
  rw [← List.take_append_drop 24 words1, List.all_append, w_t1, w_t2]
  rfl
set_option maxRecDepth 65536 in
theorem w_case : (Jvm.Cond.and given_1 narrow_1).before args0 about1 = true := by decide +kernel
theorem w_applies : (headSpec (Jvm.Cond.code x code maxLocals ret :: tables_1) room_1).applies x e0.platform about1 = true :=
  (Spec.applies_iff w_frames).mpr ⟨w_running, w_runnable, w_alone, w_named, w_hears, w_ripe, w_room, w_tables⟩
theorem atStart : AtStart classFile x code maxLocals ret World_1 tables_1 room_1 Calls_1 rest_1 Pre_1 launch0 p0 e0 about1 theMethod args0 below0 :=
  ⟨lists_1, trivial, launch0.admits_env _ _ _, launch0.least_env, fairChoices_fair.cas, fairChoices_fair.clock, w_frames, w_args, w_heap, w_applies, trivial, trivial, w_case⟩
end start1
theorem witness_1 : WitnessClaimed_1 := ⟨start1.p0, start1.e0, start1.about1, start1.theMethod, start1.args0, start1.below0, start1.atStart⟩
end Jvm.Pilot.@@N@@
