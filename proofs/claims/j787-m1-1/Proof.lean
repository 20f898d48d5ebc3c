import JvmDerived
import JvmDerived.Pilot.@@N@@Statement
import JvmDerived.Pilot.@@N@@Code
set_option linter.unusedVariables false
set_option linter.unusedSimpArgs false
namespace Jvm.OwnKit
open Sem ClassFile Op Lib Jvm.Stand Jvm.Free Jvm.LawKit Jvm.RoadKit
section Own
variable {p : Program} {l : Launch} {e : Env} {R : Room} {s : State} {m : MethodId} {args : Array Value} {below : List Frame} {meth : Method} {c : Code} {T : State} {locs : List Loc} {cells slots : Nat} {Z : State} {a0 : Array Value} {h : Heap} {bytes : ByteArray} {pc : Nat} {Ls : Array Slot} {st : List Value} {cs ss : Nat} {Q : Option Value → Heap → List Loc → Prop}
/-- from the state T with the frame F on top the run comes to the method's end, returns, and Q holds of what it returned, of the heap and of the places written -/
def zEnds (p : Program) (e : Env) (below : List Frame) (s T : State) (F : JFrame) (cs ss : Nat) (Q : Option Value → Heap → List Loc → Prop) : Prop :=
  ∃ s₂ o, Steps p.tables e below (T.setTop F) s₂ ∧ s₂.status = .running ∧ Ended s₂ below o ∧ ∃ v L, o = .returned v ∧ Q v s₂.heap L ∧ FrameEnd s o s₂ L cs ss
theorem zstp {T T' : State} {F F' : JFrame} (st : ∀ target, Steps p.tables e below (T'.setTop F') target → Steps p.tables e below (T.setTop F) target) (k : zEnds p e below s T' F' cs ss Q) : zEnds p e below s T F cs ss Q := by
  obtain ⟨s2, o, h1, r⟩ := k; exact ⟨s2, o, st _ h1, r⟩
/-- what a callee promises: with these arguments, over this heap, it returns, and Q holds -/
def zCon (l : Launch) (Z : State) (y : MethodName) (bytes : ByteArray) (maxL : Nat) (ret : Option FieldType) (ws : List Jvm.Cond) (rm : Room) (as' : Array Value) (h0 : Heap) (Q : Option Value → Heap → List Loc → Prop) : Prop :=
  MetFree l y (head1 (Jvm.Cond.code y bytes maxL ret :: ws) rm) (fun a U => a = as' ∧ Z.Warmed39 U.vm ∧ U.heap = h0) (fun _ _ _ _ _ => True) (fun _ U o U' => ∃ v L, o = .returned v ∧ Q v U'.heap L ∧ FrameEnd U o U' L rm.cells rm.slots)
/-- a callee that writes nothing -/
def zSame (v : Option Value) (h0 : Heap) : Option Value → Heap → List Loc → Prop := fun v' h L => v' = v ∧ h = h0 ∧ L = []
theorem zenter {y : MethodName} {maxL : Nat} {ret : Option FieldType} {ws : List Jvm.Cond} {rm : Room} {as' : Array Value} {h0 : Heap} (hpl : plainFor y = true) {L0 : Array Slot} (hef : ∀ m, entryFrame m as' maxL = mkF m 0 L0 [])
    (H : ∀ (p : Program) (e : Env) (s : State) (m : MethodId) (below : List Frame) (meth : Method) (c : Code) (T : State), p.tables.exec = Jvm.exec → Z.Warmed39 s.vm → c.code = bytes → c.maxLocals = maxL → s.vm.findClass y.cls = some m.cls → meth.name = y.name → meth.sig.returnType = ret → meth.locks = false →
      Stand p l e rm s m as' below meth c T [] 0 0 → T.heap = h0 → zEnds p e below s T (mkF m 0 L0 []) rm.cells rm.slots Q) : zCon l Z y bytes maxL ret ws rm as' h0 Q := by
  refine MetFree.of_bodySF hpl hisR ?_
  intro p e s m args below meth c s₁ Bd hml0 hP hK
  obtain ⟨rfl, hZ, hh⟩ := hP
  have := H p e s m below meth c s₁ Bd.exec hZ Bd.bytes hml0 (findClass_of_methodNamed Bd.named) (name_of_methodNamed Bd.named Bd.method).1 Bd.returns Bd.notSynchronized (Stand.of_body Bd) (by rw [← hh, Bd.state]; rfl)
  rw [← hef m] at this
  exact this
theorem zCon.weak {y : MethodName} {maxL : Nat} {ret : Option FieldType} {ws : List Jvm.Cond} {rm : Room} {as' : Array Value} {h0 : Heap} {Q' : Option Value → Heap → List Loc → Prop} (C : zCon l Z y bytes maxL ret ws rm as' h0 Q) (q : ∀ v h L, Q v h L → Q' v h L) : zCon l Z y bytes maxL ret ws rm as' h0 Q' := by
  intro p e ha hc hk s m args below hf happ hP hK
  obtain ⟨n, o, h1, h2, h3, v, L, h4, h5, h6⟩ := C p e ha hc hk s m args below hf happ hP hK
  exact ⟨n, o, h1, h2, h3, v, L, h4, q v _ L h5, h6⟩
theorem zsameTo {T : State} {F : JFrame} {a b : Value} {h0 : Heap} (k : zEnds p e below s T F cs ss (zSame (some a) h0)) (q : a = b) : zEnds p e below s T F cs ss (zSame (some b) h0) := q ▸ k
/-! returns -/
theorem zretG {w : Value} {t : FieldType} {i : Instr} (X : Stand p l e R s m args below meth c T locs cells slots) (hx : p.tables.exec = Jvm.exec) (hby : c.code = bytes) (hd : decode bytes pc = .ok (i, 1)) (hret : meth.sig.returnType = some t) (hlk : meth.locks = false) (hn : narrow t w = w)
    (hi : (i = .ireturn ∧ (t = .int ∨ t = .boolean ∨ t = .byte ∨ t = .char ∨ t = .short) ∧ ∃ z, w = .int z) ∨ (i = .lreturn ∧ t = .long ∧ ∃ z, w = .long z) ∨ (i = .dreturn ∧ t = .double ∧ ∃ z, w = .double z) ∨ (i = .freturn ∧ t = .float ∧ ∃ z, w = .float z) ∨ (i = .areturn ∧ t.isReference = true ∧ w.isRef = true))
    (hc : cells ≤ cs) (hs : slots ≤ ss) (hq : Q (some w) T.heap locs) : zEnds p e below s T (mkF m pc Ls (w :: st)) cs ss Q := by
  obtain ⟨fs, hr, hrun, hended, hW, hsame⟩ := X.leave (v := some w) (fun q => by rw [hret] at q; cases q) hlk
  exact ⟨_, _, retOut X hx hret hn hi (hb hby hd) hr, hrun, hended, _, _, rfl, hq, ⟨_, rfl⟩, hW, hsame.mono hc hs⟩
theorem zretI {z : Int32} (X : Stand p l e R s m args below meth c T locs cells slots) (hx : p.tables.exec = Jvm.exec) (hby : c.code = bytes) (hd : decode bytes pc = .ok (.ireturn, 1)) (hret : meth.sig.returnType = some .int) (hlk : meth.locks = false) (hc : cells ≤ cs) (hs : slots ≤ ss) (hq : Q (some (.int z)) T.heap locs) : zEnds p e below s T (mkF m pc Ls (.int z :: st)) cs ss Q :=
  zretG X hx hby hd hret hlk rfl (Or.inl ⟨rfl, Or.inl rfl, z, rfl⟩) hc hs hq
theorem zretZ {z : Int32} {t : FieldType} (X : Stand p l e R s m args below meth c T locs cells slots) (hx : p.tables.exec = Jvm.exec) (hby : c.code = bytes) (hd : decode bytes pc = .ok (.ireturn, 1)) (hret : meth.sig.returnType = some t) (hlk : meth.locks = false) (ht : t = .boolean ∨ t = .byte ∨ t = .char ∨ t = .short) (hn : narrow t (.int z) = .int z) (hc : cells ≤ cs) (hs : slots ≤ ss) (hq : Q (some (.int z)) T.heap locs) : zEnds p e below s T (mkF m pc Ls (.int z :: st)) cs ss Q :=
  zretG X hx hby hd hret hlk hn (Or.inl ⟨rfl, Or.inr ht, z, rfl⟩) hc hs hq
theorem zretL {z : Int64} (X : Stand p l e R s m args below meth c T locs cells slots) (hx : p.tables.exec = Jvm.exec) (hby : c.code = bytes) (hd : decode bytes pc = .ok (.lreturn, 1)) (hret : meth.sig.returnType = some .long) (hlk : meth.locks = false) (hc : cells ≤ cs) (hs : slots ≤ ss) (hq : Q (some (.long z)) T.heap locs) : zEnds p e below s T (mkF m pc Ls (.long z :: st)) cs ss Q :=
  zretG X hx hby hd hret hlk rfl (Or.inr (Or.inl ⟨rfl, rfl, z, rfl⟩)) hc hs hq
theorem zretA {w : Value} {t : FieldType} (X : Stand p l e R s m args below meth c T locs cells slots) (hx : p.tables.exec = Jvm.exec) (hby : c.code = bytes) (hd : decode bytes pc = .ok (.areturn, 1)) (hret : meth.sig.returnType = some t) (hlk : meth.locks = false) (ht : t.isReference = true) (hw : w.isRef = true) (hn : narrow t w = w) (hc : cells ≤ cs) (hs : slots ≤ ss) (hq : Q (some w) T.heap locs) : zEnds p e below s T (mkF m pc Ls (w :: st)) cs ss Q :=
  zretG X hx hby hd hret hlk hn (Or.inr (Or.inr (Or.inr (Or.inr ⟨rfl, ht, hw⟩)))) hc hs hq
theorem zretV (X : Stand p l e R s m args below meth c T locs cells slots) (hx : p.tables.exec = Jvm.exec) (hby : c.code = bytes) (hd : decode bytes pc = .ok (.return_, 1)) (hret : meth.sig.returnType = none) (hlk : meth.locks = false) (hc : cells ≤ cs) (hs : slots ≤ ss) (hq : Q none T.heap locs) : zEnds p e below s T (mkF m pc Ls []) cs ss Q := by
  obtain ⟨fs, hr, hrun, hended, hW, hsame⟩ := X.leave (v := none) (fun _ => rfl) hlk
  exact ⟨_, _, X.returnOut hx hret (hb hby hd) hr, hrun, hended, _, _, rfl, hq, ⟨_, rfl⟩, hW, hsame.mono hc hs⟩
/-! single steps -/

theorem ziloadN (X : Stand p l e R s m args below meth c T locs cells slots) (hx : p.tables.exec = Jvm.exec) (hby : c.code = bytes) {k : Fin 4} {v : Int32} (hd : decode bytes pc = .ok (.iload_n k, 1)) (hl : Ls[k.val]? = some (.val (.int v))) (r : zEnds p e below s T (mkF m (pc + 1) Ls (.int v :: st)) cs ss Q) : zEnds p e below s T (mkF m pc Ls st) cs ss Q := zstp (fun _ k => XS.iloadN X.here hx rfl (hb hby hd) hl k) r
theorem ziload (X : Stand p l e R s m args below meth c T locs cells slots) (hx : p.tables.exec = Jvm.exec) (hby : c.code = bytes) {k : Nat} {v : Int32} (hd : decode bytes pc = .ok (.iload k, 2)) (hl : Ls[k]? = some (.val (.int v))) (r : zEnds p e below s T (mkF m (pc + 2) Ls (.int v :: st)) cs ss Q) : zEnds p e below s T (mkF m pc Ls st) cs ss Q := zstp (fun _ k => XS.iload X.here hx rfl (hb hby hd) hl k) r
theorem zlloadN (X : Stand p l e R s m args below meth c T locs cells slots) (hx : p.tables.exec = Jvm.exec) (hby : c.code = bytes) {k : Fin 4} {v : Int64} (hd : decode bytes pc = .ok (.lload_n k, 1)) (hl : Ls[k.val]? = some (.val (.long v))) (r : zEnds p e below s T (mkF m (pc + 1) Ls (.long v :: st)) cs ss Q) : zEnds p e below s T (mkF m pc Ls st) cs ss Q := zstp (fun _ k => XS.lloadN X.here hx rfl (hb hby hd) hl k) r
theorem zlload (X : Stand p l e R s m args below meth c T locs cells slots) (hx : p.tables.exec = Jvm.exec) (hby : c.code = bytes) {k : Nat} {v : Int64} (hd : decode bytes pc = .ok (.lload k, 2)) (hl : Ls[k]? = some (.val (.long v))) (r : zEnds p e below s T (mkF m (pc + 2) Ls (.long v :: st)) cs ss Q) : zEnds p e below s T (mkF m pc Ls st) cs ss Q := zstp (fun _ k => XS.lload X.here hx rfl (hb hby hd) hl k) r
theorem zaloadN (X : Stand p l e R s m args below meth c T locs cells slots) (hx : p.tables.exec = Jvm.exec) (hby : c.code = bytes) {k : Fin 4} {v : Value} (hd : decode bytes pc = .ok (.aload_n k, 1)) (hl : Ls[k.val]? = some (.val v)) (hv : v.isRef = true) (r : zEnds p e below s T (mkF m (pc + 1) Ls (v :: st)) cs ss Q) : zEnds p e below s T (mkF m pc Ls st) cs ss Q := zstp (fun _ k => XS.aloadN X.here hx rfl (hb hby hd) hl hv k) r
theorem zaload (X : Stand p l e R s m args below meth c T locs cells slots) (hx : p.tables.exec = Jvm.exec) (hby : c.code = bytes) {k : Nat} {v : Value} (hd : decode bytes pc = .ok (.aload k, 2)) (hl : Ls[k]? = some (.val v)) (hv : v.isRef = true) (r : zEnds p e below s T (mkF m (pc + 2) Ls (v :: st)) cs ss Q) : zEnds p e below s T (mkF m pc Ls st) cs ss Q := zstp (fun _ k => XS.aload X.here hx rfl (hb hby hd) hl hv k) r
theorem zistoreN (X : Stand p l e R s m args below meth c T locs cells slots) (hx : p.tables.exec = Jvm.exec) (hby : c.code = bytes) {k : Fin 4} {v : Int32} (hd : decode bytes pc = .ok (.istore_n k, 1)) (L' : Array Slot) (hl : storeLocals Ls k.val (.int v) = some L') (r : zEnds p e below s T (mkF m (pc + 1) L' st) cs ss Q) : zEnds p e below s T (mkF m pc Ls (.int v :: st)) cs ss Q := zstp (fun _ k => XS.istoreN X.here hx rfl (hb hby hd) rfl hl k) r
theorem zistore (X : Stand p l e R s m args below meth c T locs cells slots) (hx : p.tables.exec = Jvm.exec) (hby : c.code = bytes) {k : Nat} {v : Int32} (hd : decode bytes pc = .ok (.istore k, 2)) (L' : Array Slot) (hl : storeLocals Ls k (.int v) = some L') (r : zEnds p e below s T (mkF m (pc + 2) L' st) cs ss Q) : zEnds p e below s T (mkF m pc Ls (.int v :: st)) cs ss Q := zstp (fun _ k => XS.istore X.here hx rfl (hb hby hd) rfl hl k) r
theorem zlstoreN (X : Stand p l e R s m args below meth c T locs cells slots) (hx : p.tables.exec = Jvm.exec) (hby : c.code = bytes) {k : Fin 4} {v : Int64} (hd : decode bytes pc = .ok (.lstore_n k, 1)) (L' : Array Slot) (hl : storeLocals Ls k.val (.long v) = some L') (r : zEnds p e below s T (mkF m (pc + 1) L' st) cs ss Q) : zEnds p e below s T (mkF m pc Ls (.long v :: st)) cs ss Q := zstp (fun _ k => XS.lstoreN X.here hx rfl (hb hby hd) rfl hl k) r
theorem zlstore (X : Stand p l e R s m args below meth c T locs cells slots) (hx : p.tables.exec = Jvm.exec) (hby : c.code = bytes) {k : Nat} {v : Int64} (hd : decode bytes pc = .ok (.lstore k, 2)) (L' : Array Slot) (hl : storeLocals Ls k (.long v) = some L') (r : zEnds p e below s T (mkF m (pc + 2) L' st) cs ss Q) : zEnds p e below s T (mkF m pc Ls (.long v :: st)) cs ss Q := zstp (fun _ k => XS.lstore X.here hx rfl (hb hby hd) rfl hl k) r
theorem zastoreN (X : Stand p l e R s m args below meth c T locs cells slots) (hx : p.tables.exec = Jvm.exec) (hby : c.code = bytes) {k : Fin 4} {v : Value} (hd : decode bytes pc = .ok (.astore_n k, 1)) (L' : Array Slot) (hv : v.isRef = true) (hl : storeLocals Ls k.val v = some L') (r : zEnds p e below s T (mkF m (pc + 1) L' st) cs ss Q) : zEnds p e below s T (mkF m pc Ls (v :: st)) cs ss Q := zstp (fun _ k => XS.astoreN X.here hx rfl (hb hby hd) rfl hv hl k) r
theorem zastore (X : Stand p l e R s m args below meth c T locs cells slots) (hx : p.tables.exec = Jvm.exec) (hby : c.code = bytes) {k : Nat} {v : Value} (hd : decode bytes pc = .ok (.astore k, 2)) (L' : Array Slot) (hv : v.isRef = true) (hl : storeLocals Ls k v = some L') (r : zEnds p e below s T (mkF m (pc + 2) L' st) cs ss Q) : zEnds p e below s T (mkF m pc Ls (v :: st)) cs ss Q := zstp (fun _ k => XS.astore X.here hx rfl (hb hby hd) rfl hv hl k) r
theorem ziconst (X : Stand p l e R s m args below meth c T locs cells slots) (hx : p.tables.exec = Jvm.exec) (hby : c.code = bytes) {i : Int} (hd : decode bytes pc = .ok (.iconst i, 1)) (z : Int32) (hz : Int32.ofInt i = z) (r : zEnds p e below s T (mkF m (pc + 1) Ls (.int z :: st)) cs ss Q) : zEnds p e below s T (mkF m pc Ls st) cs ss Q := zstp (fun _ k => XS.iconst X.here hx rfl (hb hby hd) (hz ▸ k)) r
theorem zbipush (X : Stand p l e R s m args below meth c T locs cells slots) (hx : p.tables.exec = Jvm.exec) (hby : c.code = bytes) {i : Int} (hd : decode bytes pc = .ok (.bipush i, 2)) (z : Int32) (hz : (Int8.ofInt i).toInt32 = z) (r : zEnds p e below s T (mkF m (pc + 2) Ls (.int z :: st)) cs ss Q) : zEnds p e below s T (mkF m pc Ls st) cs ss Q := zstp (fun _ k => XS.bipush X.here hx rfl (hb hby hd) (hz ▸ k)) r
theorem zsipush (X : Stand p l e R s m args below meth c T locs cells slots) (hx : p.tables.exec = Jvm.exec) (hby : c.code = bytes) {i : Int} (hd : decode bytes pc = .ok (.sipush i, 3)) (z : Int32) (hz : (Int16.ofInt i).toInt32 = z) (r : zEnds p e below s T (mkF m (pc + 3) Ls (.int z :: st)) cs ss Q) : zEnds p e below s T (mkF m pc Ls st) cs ss Q := zstp (fun _ k => XS.sipush X.here hx rfl (hb hby hd) (hz ▸ k)) r
theorem zlconst (X : Stand p l e R s m args below meth c T locs cells slots) (hx : p.tables.exec = Jvm.exec) (hby : c.code = bytes) {i : Fin 2} (hd : decode bytes pc = .ok (.lconst i, 1)) (z : Int64) (hz : Int64.ofNat i = z) (r : zEnds p e below s T (mkF m (pc + 1) Ls (.long z :: st)) cs ss Q) : zEnds p e below s T (mkF m pc Ls st) cs ss Q := zstp (fun _ k => XS.lconst X.here hx rfl (hb hby hd) (hz ▸ k)) r
theorem zaconstNull (X : Stand p l e R s m args below meth c T locs cells slots) (hx : p.tables.exec = Jvm.exec) (hby : c.code = bytes)  (hd : decode bytes pc = .ok (.aconst_null, 1))  (r : zEnds p e below s T (mkF m (pc + 1) Ls (.null :: st)) cs ss Q) : zEnds p e below s T (mkF m pc Ls st) cs ss Q := zstp (fun _ k => XS.aconstNull X.here hx rfl (hb hby hd) k) r
theorem ziadd (X : Stand p l e R s m args below meth c T locs cells slots) (hx : p.tables.exec = Jvm.exec) (hby : c.code = bytes) {x y : Int32} (hd : decode bytes pc = .ok (.iadd, 1)) (z : Int32) (hz : x + y = z) (r : zEnds p e below s T (mkF m (pc + 1) Ls (.int z :: st)) cs ss Q) : zEnds p e below s T (mkF m pc Ls (.int y :: .int x :: st)) cs ss Q := zstp (fun _ k => XS.iadd X.here hx rfl (hb hby hd) rfl (hz ▸ k)) r
theorem zisub (X : Stand p l e R s m args below meth c T locs cells slots) (hx : p.tables.exec = Jvm.exec) (hby : c.code = bytes) {x y : Int32} (hd : decode bytes pc = .ok (.isub, 1)) (z : Int32) (hz : x - y = z) (r : zEnds p e below s T (mkF m (pc + 1) Ls (.int z :: st)) cs ss Q) : zEnds p e below s T (mkF m pc Ls (.int y :: .int x :: st)) cs ss Q := zstp (fun _ k => XS.isub X.here hx rfl (hb hby hd) rfl (hz ▸ k)) r
theorem zimul (X : Stand p l e R s m args below meth c T locs cells slots) (hx : p.tables.exec = Jvm.exec) (hby : c.code = bytes) {x y : Int32} (hd : decode bytes pc = .ok (.imul, 1)) (z : Int32) (hz : x * y = z) (r : zEnds p e below s T (mkF m (pc + 1) Ls (.int z :: st)) cs ss Q) : zEnds p e below s T (mkF m pc Ls (.int y :: .int x :: st)) cs ss Q := zstp (fun _ k => XS.imul X.here hx rfl (hb hby hd) rfl (hz ▸ k)) r
theorem ziand (X : Stand p l e R s m args below meth c T locs cells slots) (hx : p.tables.exec = Jvm.exec) (hby : c.code = bytes) {x y : Int32} (hd : decode bytes pc = .ok (.iand, 1)) (z : Int32) (hz : x &&& y = z) (r : zEnds p e below s T (mkF m (pc + 1) Ls (.int z :: st)) cs ss Q) : zEnds p e below s T (mkF m pc Ls (.int y :: .int x :: st)) cs ss Q := zstp (fun _ k => XS.iand X.here hx rfl (hb hby hd) rfl (hz ▸ k)) r
theorem zior (X : Stand p l e R s m args below meth c T locs cells slots) (hx : p.tables.exec = Jvm.exec) (hby : c.code = bytes) {x y : Int32} (hd : decode bytes pc = .ok (.ior, 1)) (z : Int32) (hz : x ||| y = z) (r : zEnds p e below s T (mkF m (pc + 1) Ls (.int z :: st)) cs ss Q) : zEnds p e below s T (mkF m pc Ls (.int y :: .int x :: st)) cs ss Q := zstp (fun _ k => XS.ior X.here hx rfl (hb hby hd) rfl (hz ▸ k)) r
theorem zixor (X : Stand p l e R s m args below meth c T locs cells slots) (hx : p.tables.exec = Jvm.exec) (hby : c.code = bytes) {x y : Int32} (hd : decode bytes pc = .ok (.ixor, 1)) (z : Int32) (hz : x ^^^ y = z) (r : zEnds p e below s T (mkF m (pc + 1) Ls (.int z :: st)) cs ss Q) : zEnds p e below s T (mkF m pc Ls (.int y :: .int x :: st)) cs ss Q := zstp (fun _ k => XS.ixor X.here hx rfl (hb hby hd) rfl (hz ▸ k)) r
theorem zishl (X : Stand p l e R s m args below meth c T locs cells slots) (hx : p.tables.exec = Jvm.exec) (hby : c.code = bytes) {x y : Int32} (hd : decode bytes pc = .ok (.ishl, 1)) (z : Int32) (hz : x <<< (y &&& 31) = z) (r : zEnds p e below s T (mkF m (pc + 1) Ls (.int z :: st)) cs ss Q) : zEnds p e below s T (mkF m pc Ls (.int y :: .int x :: st)) cs ss Q := zstp (fun _ k => XS.ishl X.here hx rfl (hb hby hd) rfl (hz ▸ k)) r
theorem zishr (X : Stand p l e R s m args below meth c T locs cells slots) (hx : p.tables.exec = Jvm.exec) (hby : c.code = bytes) {x y : Int32} (hd : decode bytes pc = .ok (.ishr, 1)) (z : Int32) (hz : x >>> (y &&& 31) = z) (r : zEnds p e below s T (mkF m (pc + 1) Ls (.int z :: st)) cs ss Q) : zEnds p e below s T (mkF m pc Ls (.int y :: .int x :: st)) cs ss Q := zstp (fun _ k => XS.ishr X.here hx rfl (hb hby hd) rfl (hz ▸ k)) r
theorem ziushr (X : Stand p l e R s m args below meth c T locs cells slots) (hx : p.tables.exec = Jvm.exec) (hby : c.code = bytes) {x y : Int32} (hd : decode bytes pc = .ok (.iushr, 1)) (z : Int32) (hz : (x.toUInt32 >>> (y &&& 31).toUInt32).toInt32 = z) (r : zEnds p e below s T (mkF m (pc + 1) Ls (.int z :: st)) cs ss Q) : zEnds p e below s T (mkF m pc Ls (.int y :: .int x :: st)) cs ss Q := zstp (fun _ k => XS.iushr X.here hx rfl (hb hby hd) rfl (hz ▸ k)) r
theorem zladd (X : Stand p l e R s m args below meth c T locs cells slots) (hx : p.tables.exec = Jvm.exec) (hby : c.code = bytes) {x y : Int64} (hd : decode bytes pc = .ok (.ladd, 1)) (z : Int64) (hz : x + y = z) (r : zEnds p e below s T (mkF m (pc + 1) Ls (.long z :: st)) cs ss Q) : zEnds p e below s T (mkF m pc Ls (.long y :: .long x :: st)) cs ss Q := zstp (fun _ k => XS.ladd X.here hx rfl (hb hby hd) rfl (hz ▸ k)) r
theorem zlsub (X : Stand p l e R s m args below meth c T locs cells slots) (hx : p.tables.exec = Jvm.exec) (hby : c.code = bytes) {x y : Int64} (hd : decode bytes pc = .ok (.lsub, 1)) (z : Int64) (hz : x - y = z) (r : zEnds p e below s T (mkF m (pc + 1) Ls (.long z :: st)) cs ss Q) : zEnds p e below s T (mkF m pc Ls (.long y :: .long x :: st)) cs ss Q := zstp (fun _ k => XS.lsub X.here hx rfl (hb hby hd) rfl (hz ▸ k)) r
theorem zlmul (X : Stand p l e R s m args below meth c T locs cells slots) (hx : p.tables.exec = Jvm.exec) (hby : c.code = bytes) {x y : Int64} (hd : decode bytes pc = .ok (.lmul, 1)) (z : Int64) (hz : x * y = z) (r : zEnds p e below s T (mkF m (pc + 1) Ls (.long z :: st)) cs ss Q) : zEnds p e below s T (mkF m pc Ls (.long y :: .long x :: st)) cs ss Q := zstp (fun _ k => XS.lmul X.here hx rfl (hb hby hd) rfl (hz ▸ k)) r
theorem zland (X : Stand p l e R s m args below meth c T locs cells slots) (hx : p.tables.exec = Jvm.exec) (hby : c.code = bytes) {x y : Int64} (hd : decode bytes pc = .ok (.land, 1)) (z : Int64) (hz : x &&& y = z) (r : zEnds p e below s T (mkF m (pc + 1) Ls (.long z :: st)) cs ss Q) : zEnds p e below s T (mkF m pc Ls (.long y :: .long x :: st)) cs ss Q := zstp (fun _ k => XS.land X.here hx rfl (hb hby hd) rfl (hz ▸ k)) r
theorem zlor (X : Stand p l e R s m args below meth c T locs cells slots) (hx : p.tables.exec = Jvm.exec) (hby : c.code = bytes) {x y : Int64} (hd : decode bytes pc = .ok (.lor, 1)) (z : Int64) (hz : x ||| y = z) (r : zEnds p e below s T (mkF m (pc + 1) Ls (.long z :: st)) cs ss Q) : zEnds p e below s T (mkF m pc Ls (.long y :: .long x :: st)) cs ss Q := zstp (fun _ k => XS.lor X.here hx rfl (hb hby hd) rfl (hz ▸ k)) r
theorem zlxor (X : Stand p l e R s m args below meth c T locs cells slots) (hx : p.tables.exec = Jvm.exec) (hby : c.code = bytes) {x y : Int64} (hd : decode bytes pc = .ok (.lxor, 1)) (z : Int64) (hz : x ^^^ y = z) (r : zEnds p e below s T (mkF m (pc + 1) Ls (.long z :: st)) cs ss Q) : zEnds p e below s T (mkF m pc Ls (.long y :: .long x :: st)) cs ss Q := zstp (fun _ k => XS.lxor X.here hx rfl (hb hby hd) rfl (hz ▸ k)) r
theorem zlshl (X : Stand p l e R s m args below meth c T locs cells slots) (hx : p.tables.exec = Jvm.exec) (hby : c.code = bytes) {x : Int64} {y : Int32} (hd : decode bytes pc = .ok (.lshl, 1)) (z : Int64) (hz : x <<< (y &&& 0x3f).toInt64 = z) (r : zEnds p e below s T (mkF m (pc + 1) Ls (.long z :: st)) cs ss Q) : zEnds p e below s T (mkF m pc Ls (.int y :: .long x :: st)) cs ss Q := zstp (fun _ k => XS.lshl X.here hx rfl (hb hby hd) rfl (hz ▸ k)) r
theorem zlshr (X : Stand p l e R s m args below meth c T locs cells slots) (hx : p.tables.exec = Jvm.exec) (hby : c.code = bytes) {x : Int64} {y : Int32} (hd : decode bytes pc = .ok (.lshr, 1)) (z : Int64) (hz : x >>> (y &&& 0x3f).toInt64 = z) (r : zEnds p e below s T (mkF m (pc + 1) Ls (.long z :: st)) cs ss Q) : zEnds p e below s T (mkF m pc Ls (.int y :: .long x :: st)) cs ss Q := zstp (fun _ k => XS.lshr X.here hx rfl (hb hby hd) rfl (hz ▸ k)) r
theorem zlushr (X : Stand p l e R s m args below meth c T locs cells slots) (hx : p.tables.exec = Jvm.exec) (hby : c.code = bytes) {x : Int64} {y : Int32} (hd : decode bytes pc = .ok (.lushr, 1)) (z : Int64) (hz : (x.toUInt64 >>> (y &&& 0x3f).toInt64.toUInt64).toInt64 = z) (r : zEnds p e below s T (mkF m (pc + 1) Ls (.long z :: st)) cs ss Q) : zEnds p e below s T (mkF m pc Ls (.int y :: .long x :: st)) cs ss Q := zstp (fun _ k => XS.lushr X.here hx rfl (hb hby hd) rfl (hz ▸ k)) r
theorem zineg (X : Stand p l e R s m args below meth c T locs cells slots) (hx : p.tables.exec = Jvm.exec) (hby : c.code = bytes) {x : Int32} (hd : decode bytes pc = .ok (.ineg, 1)) (z : Int32) (hz : -x = z) (r : zEnds p e below s T (mkF m (pc + 1) Ls (.int z :: st)) cs ss Q) : zEnds p e below s T (mkF m pc Ls (.int x :: st)) cs ss Q := zstp (fun _ k => XS.ineg X.here hx rfl (hb hby hd) rfl (hz ▸ k)) r
theorem zlneg (X : Stand p l e R s m args below meth c T locs cells slots) (hx : p.tables.exec = Jvm.exec) (hby : c.code = bytes) {x : Int64} (hd : decode bytes pc = .ok (.lneg, 1)) (z : Int64) (hz : -x = z) (r : zEnds p e below s T (mkF m (pc + 1) Ls (.long z :: st)) cs ss Q) : zEnds p e below s T (mkF m pc Ls (.long x :: st)) cs ss Q := zstp (fun _ k => XS.lneg X.here hx rfl (hb hby hd) rfl (hz ▸ k)) r
theorem zidiv (X : Stand p l e R s m args below meth c T locs cells slots) (hx : p.tables.exec = Jvm.exec) (hby : c.code = bytes) {x y : Int32} (hd : decode bytes pc = .ok (.idiv, 1)) (z : Int32) (hy : y ≠ 0) (hz : x / y = z) (r : zEnds p e below s T (mkF m (pc + 1) Ls (.int z :: st)) cs ss Q) : zEnds p e below s T (mkF m pc Ls (.int y :: .int x :: st)) cs ss Q := zstp (fun _ k => XS.idiv X.here hx rfl (hb hby hd) rfl hy (hz ▸ k)) r
theorem zirem (X : Stand p l e R s m args below meth c T locs cells slots) (hx : p.tables.exec = Jvm.exec) (hby : c.code = bytes) {x y : Int32} (hd : decode bytes pc = .ok (.irem, 1)) (z : Int32) (hy : y ≠ 0) (hz : x % y = z) (r : zEnds p e below s T (mkF m (pc + 1) Ls (.int z :: st)) cs ss Q) : zEnds p e below s T (mkF m pc Ls (.int y :: .int x :: st)) cs ss Q := zstp (fun _ k => iremM X hx rfl (hb hby hd) rfl hy (hz ▸ k)) r
theorem zldiv (X : Stand p l e R s m args below meth c T locs cells slots) (hx : p.tables.exec = Jvm.exec) (hby : c.code = bytes) {x y : Int64} (hd : decode bytes pc = .ok (.ldiv, 1)) (z : Int64) (hy : y ≠ 0) (hz : x / y = z) (r : zEnds p e below s T (mkF m (pc + 1) Ls (.long z :: st)) cs ss Q) : zEnds p e below s T (mkF m pc Ls (.long y :: .long x :: st)) cs ss Q := zstp (fun _ k => XS.ldiv X.here hx rfl (hb hby hd) rfl hy (hz ▸ k)) r
theorem zlrem (X : Stand p l e R s m args below meth c T locs cells slots) (hx : p.tables.exec = Jvm.exec) (hby : c.code = bytes) {x y : Int64} (hd : decode bytes pc = .ok (.lrem, 1)) (z : Int64) (hy : y ≠ 0) (hz : x % y = z) (r : zEnds p e below s T (mkF m (pc + 1) Ls (.long z :: st)) cs ss Q) : zEnds p e below s T (mkF m pc Ls (.long y :: .long x :: st)) cs ss Q := zstp (fun _ k => XS.lrem X.here hx rfl (hb hby hd) rfl hy (by rw [lrem_mod, hz]; exact k)) r
theorem zi2l (X : Stand p l e R s m args below meth c T locs cells slots) (hx : p.tables.exec = Jvm.exec) (hby : c.code = bytes) {v : Int32} (hd : decode bytes pc = .ok (.i2l, 1)) (z : Int64) (hz : v.toInt64 = z) (r : zEnds p e below s T (mkF m (pc + 1) Ls (.long z :: st)) cs ss Q) : zEnds p e below s T (mkF m pc Ls (.int v :: st)) cs ss Q := zstp (fun _ k => XS.i2l X.here hx rfl (hb hby hd) rfl (hz ▸ k)) r
theorem zl2i (X : Stand p l e R s m args below meth c T locs cells slots) (hx : p.tables.exec = Jvm.exec) (hby : c.code = bytes) {v : Int64} (hd : decode bytes pc = .ok (.l2i, 1)) (z : Int32) (hz : v.toInt32 = z) (r : zEnds p e below s T (mkF m (pc + 1) Ls (.int z :: st)) cs ss Q) : zEnds p e below s T (mkF m pc Ls (.long v :: st)) cs ss Q := zstp (fun _ k => XS.l2i X.here hx rfl (hb hby hd) rfl (hz ▸ k)) r
theorem zi2b (X : Stand p l e R s m args below meth c T locs cells slots) (hx : p.tables.exec = Jvm.exec) (hby : c.code = bytes) {v : Int32} (hd : decode bytes pc = .ok (.i2b, 1)) (z : Int32) (hz : v.toInt8.toInt32 = z) (r : zEnds p e below s T (mkF m (pc + 1) Ls (.int z :: st)) cs ss Q) : zEnds p e below s T (mkF m pc Ls (.int v :: st)) cs ss Q := zstp (fun _ k => XS.i2b X.here hx rfl (hb hby hd) rfl (hz ▸ k)) r
theorem zi2c (X : Stand p l e R s m args below meth c T locs cells slots) (hx : p.tables.exec = Jvm.exec) (hby : c.code = bytes) {v : Int32} (hd : decode bytes pc = .ok (.i2c, 1)) (z : Int32) (hz : v.toUInt32.toUInt16.toUInt32.toInt32 = z) (r : zEnds p e below s T (mkF m (pc + 1) Ls (.int z :: st)) cs ss Q) : zEnds p e below s T (mkF m pc Ls (.int v :: st)) cs ss Q := zstp (fun _ k => XS.i2c X.here hx rfl (hb hby hd) rfl (hz ▸ k)) r
theorem zi2s (X : Stand p l e R s m args below meth c T locs cells slots) (hx : p.tables.exec = Jvm.exec) (hby : c.code = bytes) {v : Int32} (hd : decode bytes pc = .ok (.i2s, 1)) (z : Int32) (hz : v.toInt16.toInt32 = z) (r : zEnds p e below s T (mkF m (pc + 1) Ls (.int z :: st)) cs ss Q) : zEnds p e below s T (mkF m pc Ls (.int v :: st)) cs ss Q := zstp (fun _ k => XS.i2s X.here hx rfl (hb hby hd) rfl (hz ▸ k)) r
theorem zlcmp (X : Stand p l e R s m args below meth c T locs cells slots) (hx : p.tables.exec = Jvm.exec) (hby : c.code = bytes) {x y : Int64} (hd : decode bytes pc = .ok (.lcmp, 1)) (z : Int32) (hz : lcmpW x y = z) (r : zEnds p e below s T (mkF m (pc + 1) Ls (.int z :: st)) cs ss Q) : zEnds p e below s T (mkF m pc Ls (.long y :: .long x :: st)) cs ss Q := zstp (fun _ k => XS.lcmp X.here hx rfl (hb hby hd) rfl (by subst hz; exact k)) r
theorem zdup (X : Stand p l e R s m args below meth c T locs cells slots) (hx : p.tables.exec = Jvm.exec) (hby : c.code = bytes) {x : Value} (hd : decode bytes pc = .ok (.dup, 1)) (hc : x.category = 1) (r : zEnds p e below s T (mkF m (pc + 1) Ls (x :: x :: st)) cs ss Q) : zEnds p e below s T (mkF m pc Ls (x :: st)) cs ss Q := zstp (fun _ k => XS.dup X.here hx rfl (hb hby hd) rfl hc k) r
theorem zpop (X : Stand p l e R s m args below meth c T locs cells slots) (hx : p.tables.exec = Jvm.exec) (hby : c.code = bytes) {x : Value} (hd : decode bytes pc = .ok (.pop, 1)) (hc : x.category = 1) (r : zEnds p e below s T (mkF m (pc + 1) Ls st) cs ss Q) : zEnds p e below s T (mkF m pc Ls (x :: st)) cs ss Q := zstp (fun _ k => XS.pop X.here hx rfl (hb hby hd) rfl hc k) r
theorem zdupX1 (X : Stand p l e R s m args below meth c T locs cells slots) (hx : p.tables.exec = Jvm.exec) (hby : c.code = bytes) {x y : Value} (hd : decode bytes pc = .ok (.dup_x1, 1)) (hc : x.category = 1) (hc' : y.category = 1) (r : zEnds p e below s T (mkF m (pc + 1) Ls (x :: y :: x :: st)) cs ss Q) : zEnds p e below s T (mkF m pc Ls (x :: y :: st)) cs ss Q := zstp (fun _ k => XS.dupX1 X.here hx rfl (hb hby hd) rfl hc hc' k) r
theorem ziinc (X : Stand p l e R s m args below meth c T locs cells slots) (hx : p.tables.exec = Jvm.exec) (hby : c.code = bytes) {k : Nat} {i : Int} {x : Int32} (hd : decode bytes pc = .ok (.iinc k i, 3)) (L' : Array Slot) (hl : Ls[k]? = some (.val (.int x))) (hl' : storeLocals Ls k (.int (x + Int32.ofInt i)) = some L') (r : zEnds p e below s T (mkF m (pc + 3) L' st) cs ss Q) : zEnds p e below s T (mkF m pc Ls st) cs ss Q := zstp (fun _ k => XS.iinc X.here hx rfl (hb hby hd) hl hl' k) r
theorem zgoto (X : Stand p l e R s m args below meth c T locs cells slots) (hx : p.tables.exec = Jvm.exec) (hby : c.code = bytes) {o : Int} (hd : decode bytes pc = .ok (.goto o, 3)) (pc' : Nat) (ho : 0 ≤ (pc : Int) + o) (hp : ((pc : Int) + o).toNat = pc') (r : zEnds p e below s T (mkF m pc' Ls st) cs ss Q) : zEnds p e below s T (mkF m pc Ls st) cs ss Q := zstp (fun _ k => XS.goto X.here hx rfl rfl (hb hby hd) ho hp k) r
theorem zifYes (X : Stand p l e R s m args below meth c T locs cells slots) (hx : p.tables.exec = Jvm.exec) (hby : c.code = bytes) {cd : ClassFile.Cond} {x : Int32} {o : Int} (hd : decode bytes pc = .ok (.ifCond cd o, 3)) (pc' : Nat) (hc : ifCond.holds cd x = true) (ho : 0 ≤ (pc : Int) + o) (hp : ((pc : Int) + o).toNat = pc') (r : zEnds p e below s T (mkF m pc' Ls st) cs ss Q) : zEnds p e below s T (mkF m pc Ls (.int x :: st)) cs ss Q := zstp (fun _ k => XS.ifYes X.here hx rfl rfl (hb hby hd) rfl hc ho hp k) r
theorem zifNo (X : Stand p l e R s m args below meth c T locs cells slots) (hx : p.tables.exec = Jvm.exec) (hby : c.code = bytes) {cd : ClassFile.Cond} {x : Int32} {o : Int} (hd : decode bytes pc = .ok (.ifCond cd o, 3)) (hc : ifCond.holds cd x = false) (r : zEnds p e below s T (mkF m (pc + 3) Ls st) cs ss Q) : zEnds p e below s T (mkF m pc Ls (.int x :: st)) cs ss Q := zstp (fun _ k => XS.ifNo X.here hx rfl (hb hby hd) rfl hc k) r
theorem zicmpYes (X : Stand p l e R s m args below meth c T locs cells slots) (hx : p.tables.exec = Jvm.exec) (hby : c.code = bytes) {cd : ClassFile.Cond} {x y : Int32} {o : Int} (hd : decode bytes pc = .ok (.if_icmp cd o, 3)) (pc' : Nat) (hc : if_icmp.holds cd x y = true) (ho : 0 ≤ (pc : Int) + o) (hp : ((pc : Int) + o).toNat = pc') (r : zEnds p e below s T (mkF m pc' Ls st) cs ss Q) : zEnds p e below s T (mkF m pc Ls (.int y :: .int x :: st)) cs ss Q := zstp (fun _ k => XS.icmpYes X.here hx rfl rfl (hb hby hd) rfl hc ho hp k) r
theorem zicmpNo (X : Stand p l e R s m args below meth c T locs cells slots) (hx : p.tables.exec = Jvm.exec) (hby : c.code = bytes) {cd : ClassFile.Cond} {x y : Int32} {o : Int} (hd : decode bytes pc = .ok (.if_icmp cd o, 3)) (hc : if_icmp.holds cd x y = false) (r : zEnds p e below s T (mkF m (pc + 3) Ls st) cs ss Q) : zEnds p e below s T (mkF m pc Ls (.int y :: .int x :: st)) cs ss Q := zstp (fun _ k => XS.icmpNo X.here hx rfl (hb hby hd) rfl hc k) r
theorem zifnullYes (X : Stand p l e R s m args below meth c T locs cells slots) (hx : p.tables.exec = Jvm.exec) (hby : c.code = bytes) {o : Int} (hd : decode bytes pc = .ok (.ifnull o, 3)) (pc' : Nat) (ho : 0 ≤ (pc : Int) + o) (hp : ((pc : Int) + o).toNat = pc') (r : zEnds p e below s T (mkF m pc' Ls st) cs ss Q) : zEnds p e below s T (mkF m pc Ls (.null :: st)) cs ss Q := zstp (fun _ k => XS.ifnullYes X.here hx rfl rfl (hb hby hd) rfl ho hp k) r
theorem zifnullNo (X : Stand p l e R s m args below meth c T locs cells slots) (hx : p.tables.exec = Jvm.exec) (hby : c.code = bytes) {b : Addr} {o : Int} (hd : decode bytes pc = .ok (.ifnull o, 3))  (r : zEnds p e below s T (mkF m (pc + 3) Ls st) cs ss Q) : zEnds p e below s T (mkF m pc Ls (.ref b :: st)) cs ss Q := zstp (fun _ k => XS.ifnullNo X.here hx rfl (hb hby hd) rfl k) r
theorem zifnonnullYes (X : Stand p l e R s m args below meth c T locs cells slots) (hx : p.tables.exec = Jvm.exec) (hby : c.code = bytes) {b : Addr} {o : Int} (hd : decode bytes pc = .ok (.ifnonnull o, 3)) (pc' : Nat) (ho : 0 ≤ (pc : Int) + o) (hp : ((pc : Int) + o).toNat = pc') (r : zEnds p e below s T (mkF m pc' Ls st) cs ss Q) : zEnds p e below s T (mkF m pc Ls (.ref b :: st)) cs ss Q := zstp (fun _ k => XS.ifnonnullYes X.here hx rfl rfl (hb hby hd) rfl ho hp k) r
theorem zifnonnullNo (X : Stand p l e R s m args below meth c T locs cells slots) (hx : p.tables.exec = Jvm.exec) (hby : c.code = bytes) {o : Int} (hd : decode bytes pc = .ok (.ifnonnull o, 3))  (r : zEnds p e below s T (mkF m (pc + 3) Ls st) cs ss Q) : zEnds p e below s T (mkF m pc Ls (.null :: st)) cs ss Q := zstp (fun _ k => XS.ifnonnullNo X.here hx rfl (hb hby hd) rfl k) r
theorem zacmp (X : Stand p l e R s m args below meth c T locs cells slots) (hx : p.tables.exec = Jvm.exec) (hby : c.code = bytes) {cd : ACond} {x y : Value} {o : Int} (hd : decode bytes pc = .ok (.if_acmp cd o, 3)) (pc' : Nat) (same : Bool) (h1 : x.isRef = true) (h2 : y.isRef = true) (hq : decide (x = y) = same) (ho : 0 ≤ (pc : Int) + o) (hp : pc' = if acV cd same = true then ((pc : Int) + o).toNat else pc + 3) (r : zEnds p e below s T (mkF m pc' Ls st) cs ss Q) : zEnds p e below s T (mkF m pc Ls (y :: x :: st)) cs ss Q := zstp (fun _ k => Jvm.RoadKit.acmp X hx rfl h1 h2 rfl (hb hby hd) rfl hq ho hp k) r
theorem ztswIn (X : Stand p l e R s m args below meth c T locs cells slots) (hx : p.tables.exec = Jvm.exec) (hby : c.code = bytes) {dflt low high o : Int} {offs : Array Int} {len : Nat} {i : Int32} (hd : decode bytes pc = .ok (.tableswitch dflt low high offs, len)) (pc' : Nat) (hin : ¬ (i.toInt < low ∨ i.toInt > high)) (hoff : offs[(i.toInt - low).toNat]? = some o) (ho : 0 ≤ (pc : Int) + o) (hp : ((pc : Int) + o).toNat = pc') (r : zEnds p e below s T (mkF m pc' Ls st) cs ss Q) : zEnds p e below s T (mkF m pc Ls (.int i :: st)) cs ss Q := zstp (fun _ k => XS.tswIn X.here hx rfl rfl (hb hby hd) rfl hin hoff ho hp k) r
theorem ztswOut (X : Stand p l e R s m args below meth c T locs cells slots) (hx : p.tables.exec = Jvm.exec) (hby : c.code = bytes) {dflt low high : Int} {offs : Array Int} {len : Nat} {i : Int32} (hd : decode bytes pc = .ok (.tableswitch dflt low high offs, len)) (pc' : Nat) (hout : i.toInt < low ∨ i.toInt > high) (ho : 0 ≤ (pc : Int) + dflt) (hp : ((pc : Int) + dflt).toNat = pc') (r : zEnds p e below s T (mkF m pc' Ls st) cs ss Q) : zEnds p e below s T (mkF m pc Ls (.int i :: st)) cs ss Q := zstp (fun _ k => XS.tswOut X.here hx rfl rfl (hb hby hd) rfl hout ho hp k) r
theorem zldcI (X : Stand p l e R s m args below meth c T locs cells slots) (hx : p.tables.exec = Jvm.exec) (hby : c.code = bytes) {own : String} {i : Nat} (hd : decode bytes pc = .ok (.ldc i, 2)) (z : Int32) (hZ : Z.Warmed39 s.vm) (hown : s.vm.findClass own = some m.cls) (w : (Jvm.Cond.constant own i z).before a0 Z = true) (r : zEnds p e below s T (mkF m (pc + 2) Ls (.int z :: st)) cs ss Q) : zEnds p e below s T (mkF m pc Ls st) cs ss Q := zstp (fun _ k => X.ldcInt hx hown (mvT hZ w) (g := mkF m pc Ls st) rfl (hb hby hd) _ k) r
theorem zldcwI (X : Stand p l e R s m args below meth c T locs cells slots) (hx : p.tables.exec = Jvm.exec) (hby : c.code = bytes) {own : String} {i : Nat} (hd : decode bytes pc = .ok (.ldc_w i, 3)) (z : Int32) (hZ : Z.Warmed39 s.vm) (hown : s.vm.findClass own = some m.cls) (w : (Jvm.Cond.constant own i z).before a0 Z = true) (r : zEnds p e below s T (mkF m (pc + 3) Ls (.int z :: st)) cs ss Q) : zEnds p e below s T (mkF m pc Ls st) cs ss Q := zstp (fun _ k => X.ldcwInt hx hown (mvT hZ w) (g := mkF m pc Ls st) rfl (hb hby hd) _ k) r
theorem zldc2J (X : Stand p l e R s m args below meth c T locs cells slots) (hx : p.tables.exec = Jvm.exec) (hby : c.code = bytes) {own : String} {i : Nat} (hd : decode bytes pc = .ok (.ldc2_w i, 3)) (z : Int64) (hZ : Z.Warmed39 s.vm) (hown : s.vm.findClass own = some m.cls) (w : (Jvm.Cond.constantLong own i z).before a0 Z = true) (r : zEnds p e below s T (mkF m (pc + 3) Ls (.long z :: st)) cs ss Q) : zEnds p e below s T (mkF m pc Ls st) cs ss Q := zstp (fun _ k => X.ldc2Long hx hown (mvT hZ w) (g := mkF m pc Ls st) rfl (hb hby hd) _ k) r
/-! steps that hand back a new state -/
theorem zgetstat (X : Stand p l e R s m args below meth c T locs cells slots) (hx : p.tables.exec = Jvm.exec) (hby : c.code = bytes) {own R0 O n d host : String} {i : Nat} (hd : decode bytes pc = .ok (.getstatic i, 3)) (hZ : Z.Warmed39 s.vm) (hown : s.vm.findClass own = some m.cls) (w : (Jvm.Cond.fieldLink own i R0 n d).before a0 Z = true ∨ (Jvm.Cond.fieldLinkNest own i R0 n d host).before a0 Z = true) (via : Via Z R0 O n d) (eT : T.heap = h) {v : Value} (F : Sta Z h O n d v)
    (r : ∀ T', Stand p l e R s m args below meth c T' locs cells slots → T'.heap = h → zEnds p e below s T' (mkF m (pc + 3) Ls (v :: st)) cs ss Q) : zEnds p e below s T (mkF m pc Ls st) cs ss Q := by
  obtain ⟨T', X', e', k⟩ := getS2 X hx hZ hown w via eT F (g := mkF m pc Ls st) rfl (hb hby hd)
  exact zstp k (r T' X' e')
theorem zgetfld (X : Stand p l e R s m args below meth c T locs cells slots) (hx : p.tables.exec = Jvm.exec) (hby : c.code = bytes) {own R0 O n d host : String} {i : Nat} (hd : decode bytes pc = .ok (.getfield i, 3)) (hZ : Z.Warmed39 s.vm) (hown : s.vm.findClass own = some m.cls) (w : (Jvm.Cond.fieldLink own i R0 n d).before a0 Z = true ∨ (Jvm.Cond.fieldLinkNest own i R0 n d host).before a0 Z = true) (via : Via Z R0 O n d) (eT : T.heap = h) {a : Addr} {v : Value} (F : Fld Z h a O n d v)
    (r : ∀ T', Stand p l e R s m args below meth c T' locs cells slots → T'.heap = h → zEnds p e below s T' (mkF m (pc + 3) Ls (v :: st)) cs ss Q) : zEnds p e below s T (mkF m pc Ls (.ref a :: st)) cs ss Q := by
  obtain ⟨T', X', e', k⟩ := getF X hx hZ hown w via eT F (g := mkF m pc Ls (.ref a :: st)) rfl rfl (hb hby hd)
  exact zstp k (r T' X' e')
theorem zputfld (X : Stand p l e R s m args below meth c T locs cells slots) (hx : p.tables.exec = Jvm.exec) (hby : c.code = bytes) {own R0 O n d host C : String} {i kk : Nat} {ty : FieldType} (hd : decode bytes pc = .ok (.putfield i, 3)) (hZ : Z.Warmed39 s.vm) (hown : s.vm.findClass own = some m.cls) (w : (Jvm.Cond.fieldLink own i R0 n d).before a0 Z = true ∨ (Jvm.Cond.fieldLinkNest own i R0 n d host).before a0 Z = true) (via : Via Z R0 O n d) (eT : T.heap = h) {a : Addr} {v old : Value} (F : Fld Z h a O n d old) (E : Exa Z h a C) (L : (Jvm.Cond.lays C O n d).before a0 Z = true ∨ ((Jvm.Cond.laysFinal C O n d).before a0 Z = true ∧ own = O ∧ meth.name = "<init>")) (wi : (Jvm.Cond.instantiable C kk).before a0 Z = true) (hty : parseFieldDescriptor d = some ty) (hn : narrow ty v = v) (hf : fits ty v = true)
    (r : ∀ T' h', Stand p l e R s m args below meth c T' (locs ++ [⟨a, Jvm.RoadKit.slotOf Z O n d⟩]) cells slots → T'.heap = h' → Wr h h' a (Jvm.RoadKit.slotOf Z O n d) v → zEnds p e below s T' (mkF m (pc + 3) Ls st) cs ss Q) : zEnds p e below s T (mkF m pc Ls (v :: .ref a :: st)) cs ss Q := by
  obtain ⟨T', h', X', e', W, k⟩ := putF X hx hZ hown w via eT F E L wi hty hn hf (g := mkF m pc Ls (v :: .ref a :: st)) rfl rfl (hb hby hd)
  exact zstp k (r T' h' X' e' W)
theorem znewobj (X : Stand p l e R s m args below meth c T locs cells slots) (hx : p.tables.exec = Jvm.exec) (hby : c.code = bytes) {own C : String} {i n : Nat} (hd : decode bytes pc = .ok (.new i, 3)) (hZ : Z.Warmed39 s.vm) (hown : s.vm.findClass own = some m.cls) (w : (Jvm.Cond.classLink own i C).before a0 Z = true) (wi : (Jvm.Cond.instantiable C n).before a0 Z = true) (wz : (Jvm.Cond.initialized C).before a0 Z = true) (eT : T.heap = h) (hc : cells + 1 ≤ R.cells) (hl : slots + n ≤ R.slots)
    (r : ∀ T' h' b, Stand p l e R s m args below meth c T' locs (cells + 1) (slots + n) → T'.heap = h' → b = h.size → Ext h h' → Exa Z h' b C → (∀ {O nm d : String} {ty : FieldType}, Laid Z a0 C O nm d → parseFieldDescriptor d = some ty → Fld Z h' b O nm d (defaultValue ty)) → zEnds p e below s T' (mkF m (pc + 3) Ls (.ref b :: st)) cs ss Q) : zEnds p e below s T (mkF m pc Ls st) cs ss Q := by
  obtain ⟨T', h', X', e', E, A, D, -, k⟩ := newO X hx hZ hown w wi wz eT (g := mkF m pc Ls st) rfl (hb hby hd) hc hl
  exact zstp k (r T' h' _ X' e' rfl E A D)
theorem zobjinit (X : Stand p l e R s m args below meth c T locs cells slots) (hx : p.tables.exec = Jvm.exec) (hby : c.code = bytes) {own : String} {i : Nat} (hd : decode bytes pc = .ok (.invokespecial i, 3)) (hZ : Z.Warmed39 s.vm) (hown : s.vm.findClass own = some m.cls) (w1 : (Jvm.Cond.methodLink own i Lib.objectInit).before a0 Z = true) (w2 : (Jvm.Cond.instanceMethod Lib.objectInit).before a0 Z = true) (w3 : (Jvm.Cond.code Lib.objectInit ⟨#[0xb1]⟩ 1 none).before a0 Z = true) (eT : T.heap = h) (hml : Ls.size = c.maxLocals) (W : Nat) (hW : (st.map fun v => v.category).sum ≤ W) (hf : 1 ≤ R.frames) (hl : W + 12 ≤ R.locals) {a : Addr}
    (r : ∀ T', Stand p l e R s m args below meth c T' locs cells slots → T'.heap = h → zEnds p e below s T' (mkF m (pc + 3) Ls st) cs ss Q) : zEnds p e below s T (mkF m pc Ls (.ref a :: st)) cs ss Q := by
  obtain ⟨T', X', e', k⟩ := initO X hx hZ hown w1 w2 w3 eT (g := mkF m pc Ls (.ref a :: st)) rfl hml rfl (hb hby hd) hf (W := W) (by show 2 * 0 + _ ≤ _; rw [Nat.mul_zero, Nat.zero_add]; exact hW) hl
  exact zstp k (r T' X' e')
/-- the array at a holds just these values -/
def zLst (Z : State) (h : Heap) (a : Addr) (ty : FieldType) (vs : List Value) : Prop := ∃ cl : Cell, Arr Z h a cl ty ∧ cl.slots.toList = vs
theorem zLst.ext {h' : Heap} {a : Addr} {ty : FieldType} {vs : List Value} (F : zLst Z h a ty vs) (E : Ext h h') : zLst Z h' a ty vs := by obtain ⟨c, A, r⟩ := F; exact ⟨c, A.ext E, r⟩
theorem zLst.lt {a : Addr} {ty : FieldType} {vs : List Value} (F : zLst Z h a ty vs) : a < h.size := by obtain ⟨c, A, r⟩ := F; exact A.lt
theorem zLst.other {h' : Heap} {a b : Addr} {sl : Nat} {v : Value} {ty : FieldType} {vs : List Value} (F : zLst Z h b ty vs) (W : Wr h h' a sl v) (q : b ≠ a) : zLst Z h' b ty vs := by obtain ⟨c, A, r⟩ := F; exact ⟨c, A.other W q, r⟩
theorem zLst.keep {h' : Heap} {a : Addr} {ty : FieldType} {vs : List Value} {ws : List Addr} (F : zLst Z h a ty vs) (K : Keep h h' ws) (q : a ∉ ws) : zLst Z h' a ty vs := by obtain ⟨c, A, r⟩ := F; exact ⟨c, ⟨K.2.1 a c A.1 q, A.2⟩, r⟩
theorem zLst.same {h' : Heap} {a : Addr} {sl : Nat} {v : Value} {ty : FieldType} {vs : List Value} (F : zLst Z h a ty vs) (W : Wr h h' a sl v) : zLst Z h' a ty (vs.set sl v) := by
  obtain ⟨c, A, r⟩ := F
  refine ⟨_, A.same W, ?_⟩
  show (c.slots.setIfInBounds sl v).toList = _
  rw [Array.toList_setIfInBounds, r]
theorem zlst_in {cl : Cell} {vs : List Value} {j : Int32} (r : cl.slots.toList = vs) (hj : ¬ j < 0) (hlt : j.toNatClampNeg < vs.length) : ¬ (j < 0 ∨ cl.slots.size ≤ j.toNatClampNeg) := by
  rintro (q | q)
  · exact hj q
  · rw [← r, Array.length_toList] at hlt; exact absurd q (Nat.not_le.mpr hlt)
theorem zlst_at {cl : Cell} {vs : List Value} {k : Nat} {v : Value} (r : cl.slots.toList = vs) (hv : vs[k]? = some v) : cl.slots[k]? = some v := by
  rw [← r, Array.getElem?_toList] at hv; exact hv
theorem znewprim (X : Stand p l e R s m args below meth c T locs cells slots) (hx : p.tables.exec = Jvm.exec) (hby : c.code = bytes) {aty : ArrayType} (hd : decode bytes pc = .ok (.newarray aty, 2)) (hZ : Z.Warmed39 s.vm) (w : (Jvm.Cond.arrayClass (newarray.typeOf aty)).before a0 Z = true) (eT : T.heap = h) {n : Int32} (hn : ¬ n < 0) (cap : Nat) (hcap : n.toNatClampNeg ≤ cap) (hb8 : cap * 8 ≤ 536870912) (hc : cells + 1 ≤ R.cells) (hl : slots + cap ≤ R.slots)
    (r : ∀ T' h' b, Stand p l e R s m args below meth c T' locs (cells + 1) (slots + cap) → T'.heap = h' → b = h.size → Ext h h' → zLst Z h' b (newarray.typeOf aty) (List.replicate n.toNatClampNeg (defaultValue (newarray.typeOf aty))) → zEnds p e below s T' (mkF m (pc + 2) Ls (.ref b :: st)) cs ss Q) : zEnds p e below s T (mkF m pc Ls (.int n :: st)) cs ss Q := by
  obtain ⟨T', h', cA, X', e', E, A, k⟩ := newP X hx hZ w eT (g := mkF m pc Ls (.int n :: st)) rfl (hb hby hd) rfl hn hcap hb8 hc hl
  exact zstp k (r T' h' _ X' e' rfl E ⟨_, A, by simp [newA]⟩)
theorem zbaload (X : Stand p l e R s m args below meth c T locs cells slots) (hx : p.tables.exec = Jvm.exec) (hby : c.code = bytes) (hd : decode bytes pc = .ok (.baload, 1)) (hZ : Z.Warmed39 s.vm) (eT : T.heap = h) {a : Addr} {vs : List Value} (A : zLst Z h a .byte vs) {j : Int32} (hj : ¬ j < 0) {v : Value} (hv : vs[j.toNatClampNeg]? = some v)
    (r : zEnds p e below s T (mkF m (pc + 1) Ls (v :: st)) cs ss Q) : zEnds p e below s T (mkF m pc Ls (.int j :: .ref a :: st)) cs ss Q := by
  obtain ⟨cl, A, q⟩ := A
  exact zstp (fun _ k => X.baloadBytes hx (by rw [eT]; exact A.1) (State.isArrayOf_alike hZ.alike A.2.1) A.2.2 (zlst_in q hj (List.getElem?_eq_some_iff.mp hv).1) (zlst_at q hv) (g := mkF m pc Ls (.int j :: .ref a :: st)) rfl rfl (hb hby hd) _ k) r
theorem zlaload (X : Stand p l e R s m args below meth c T locs cells slots) (hx : p.tables.exec = Jvm.exec) (hby : c.code = bytes) (hd : decode bytes pc = .ok (.laload, 1)) (hZ : Z.Warmed39 s.vm) (eT : T.heap = h) {a : Addr} {vs : List Value} (A : zLst Z h a .long vs) {j : Int32} (hj : ¬ j < 0) {v : Value} (hv : vs[j.toNatClampNeg]? = some v)
    (r : zEnds p e below s T (mkF m (pc + 1) Ls (v :: st)) cs ss Q) : zEnds p e below s T (mkF m pc Ls (.int j :: .ref a :: st)) cs ss Q := by
  obtain ⟨cl, A, q⟩ := A
  exact zstp (fun _ k => X.laload hx (by rw [eT]; exact A.1) (State.isArrayOf_alike hZ.alike A.2.1) A.2.2 (zlst_in q hj (List.getElem?_eq_some_iff.mp hv).1) (zlst_at q hv) (g := mkF m pc Ls (.int j :: .ref a :: st)) rfl rfl (hb hby hd) _ k) r
theorem zaaload (X : Stand p l e R s m args below meth c T locs cells slots) (hx : p.tables.exec = Jvm.exec) (hby : c.code = bytes) (hd : decode bytes pc = .ok (.aaload, 1)) (hZ : Z.Warmed39 s.vm) (eT : T.heap = h) {a : Addr} {vs : List Value} {ty : FieldType} (hty : ty.isReference = true) (A : zLst Z h a ty vs) {j : Int32} (hj : ¬ j < 0) {v : Value} (hv : vs[j.toNatClampNeg]? = some v)
    (r : zEnds p e below s T (mkF m (pc + 1) Ls (v :: st)) cs ss Q) : zEnds p e below s T (mkF m pc Ls (.int j :: .ref a :: st)) cs ss Q := by
  obtain ⟨cl, A, q⟩ := A
  exact zstp (fun _ k => X.aaload hx (by rw [eT]; exact A.1) (State.isArrayOf_alike hZ.alike A.2.1) hty A.2.2 (zlst_in q hj (List.getElem?_eq_some_iff.mp hv).1) (zlst_at q hv) (g := mkF m pc Ls (.int j :: .ref a :: st)) rfl rfl (hb hby hd) _ k) r
theorem zialoadC (X : Stand p l e R s m args below meth c T locs cells slots) (hx : p.tables.exec = Jvm.exec) (hby : c.code = bytes) (hd : decode bytes pc = .ok (.iaload, 1)) (hZ : Z.Warmed39 s.vm) (eT : T.heap = h) {a : Addr} {cl : Cell} (A : Arr Z h a cl .int) {j : Int32} {v : Value} (hv : ¬ (j < 0 ∨ cl.slots.size ≤ j.toNatClampNeg) ∧ cl.slots[j.toNatClampNeg]? = some v)
    (r : zEnds p e below s T (mkF m (pc + 1) Ls (v :: st)) cs ss Q) : zEnds p e below s T (mkF m pc Ls (.int j :: .ref a :: st)) cs ss Q :=
  zstp (fun _ k => X.iaload hx (by rw [eT]; exact A.1) (State.isArrayOf_alike hZ.alike A.2.1) A.2.2 hv.1 hv.2 (g := mkF m pc Ls (.int j :: .ref a :: st)) rfl rfl (hb hby hd) _ k) r
theorem zalenC (X : Stand p l e R s m args below meth c T locs cells slots) (hx : p.tables.exec = Jvm.exec) (hby : c.code = bytes) (hd : decode bytes pc = .ok (.arraylength, 1)) (hZ : Z.Warmed39 s.vm) (eT : T.heap = h) {a : Addr} {cl : Cell} {ty : FieldType} (A : Arr Z h a cl ty) (z : Int32) (hz : cl.slots.size.toInt32 = z)
    (r : zEnds p e below s T (mkF m (pc + 1) Ls (.int z :: st)) cs ss Q) : zEnds p e below s T (mkF m pc Ls (.ref a :: st)) cs ss Q :=
  zstp (fun _ k => X.arraylength hx (by rw [eT]; exact A.1) (State.isArrayOf_alike hZ.alike A.2.1) (g := mkF m pc Ls (.ref a :: st)) rfl rfl (hb hby hd) _ (hz ▸ k)) r
theorem zbastore (X : Stand p l e R s m args below meth c T locs cells slots) (hx : p.tables.exec = Jvm.exec) (hby : c.code = bytes) (hd : decode bytes pc = .ok (.bastore, 1)) (hZ : Z.Warmed39 s.vm) (eT : T.heap = h) {a : Addr} {vs : List Value} (A : zLst Z h a .byte vs) {j x : Int32} (hj : ¬ j < 0) (hlt : j.toNatClampNeg < vs.length) (x' : Int32) (hx' : nar .byte x = x')
    (r : ∀ T' h', Stand p l e R s m args below meth c T' (locs ++ [⟨a, j.toNatClampNeg⟩]) cells slots → T'.heap = h' → Wr h h' a j.toNatClampNeg (.int x') → zLst Z h' a .byte (vs.set j.toNatClampNeg (.int x')) → zEnds p e below s T' (mkF m (pc + 1) Ls st) cs ss Q) : zEnds p e below s T (mkF m pc Ls (.int x :: .int j :: .ref a :: st)) cs ss Q := by
  obtain ⟨cl, A', q⟩ := A
  subst hx'
  obtain ⟨T', h', X', e', W, k⟩ := stB X hx hZ eT A' (j := j) (x := x) (zlst_in q hj hlt) (g := mkF m pc Ls (.int x :: .int j :: .ref a :: st)) rfl rfl (hb hby hd)
  exact zstp k (r T' h' X' e' W (zLst.same ⟨cl, A', q⟩ W))
theorem zlastore (X : Stand p l e R s m args below meth c T locs cells slots) (hx : p.tables.exec = Jvm.exec) (hby : c.code = bytes) (hd : decode bytes pc = .ok (.lastore, 1)) (hZ : Z.Warmed39 s.vm) (eT : T.heap = h) {a : Addr} {vs : List Value} (A : zLst Z h a .long vs) {j : Int32} {x : Int64} (hj : ¬ j < 0) (hlt : j.toNatClampNeg < vs.length)
    (r : ∀ T' h', Stand p l e R s m args below meth c T' (locs ++ [⟨a, j.toNatClampNeg⟩]) cells slots → T'.heap = h' → Wr h h' a j.toNatClampNeg (.long x) → zLst Z h' a .long (vs.set j.toNatClampNeg (.long x)) → zEnds p e below s T' (mkF m (pc + 1) Ls st) cs ss Q) : zEnds p e below s T (mkF m pc Ls (.long x :: .int j :: .ref a :: st)) cs ss Q := by
  obtain ⟨cl, A', q⟩ := A
  obtain ⟨T', h', X', e', W, k⟩ := stJ X hx hZ eT A' (j := j) (x := x) (zlst_in q hj hlt) (g := mkF m pc Ls (.long x :: .int j :: .ref a :: st)) rfl rfl (hb hby hd)
  exact zstp k (r T' h' X' e' W (zLst.same ⟨cl, A', q⟩ W))
/-- an array of references over C that holds just these values -/
def zLstR (Z : State) (h : Heap) (a : Addr) (C : String) (vs : List Value) : Prop := ∃ cl : Cell, Arr Z h a cl (.object C) ∧ Ovr Z cl.cls C ∧ cl.slots.toList = vs
theorem zLstR.lst {a : Addr} {C : String} {vs : List Value} (F : zLstR Z h a C vs) : zLst Z h a (.object C) vs := by obtain ⟨c, A, -, r⟩ := F; exact ⟨c, A, r⟩
theorem zLstR.ext {h' : Heap} {a : Addr} {C : String} {vs : List Value} (F : zLstR Z h a C vs) (E : Ext h h') : zLstR Z h' a C vs := by obtain ⟨c, A, r⟩ := F; exact ⟨c, A.ext E, r⟩
theorem zLstR.lt {a : Addr} {C : String} {vs : List Value} (F : zLstR Z h a C vs) : a < h.size := by obtain ⟨c, A, r⟩ := F; exact A.lt
theorem zLstR.other {h' : Heap} {a b : Addr} {sl : Nat} {v : Value} {C : String} {vs : List Value} (F : zLstR Z h b C vs) (W : Wr h h' a sl v) (q : b ≠ a) : zLstR Z h' b C vs := by obtain ⟨c, A, r⟩ := F; exact ⟨c, A.other W q, r⟩
theorem zLstR.keep {h' : Heap} {a : Addr} {C : String} {vs : List Value} {ws : List Addr} (F : zLstR Z h a C vs) (K : Keep h h' ws) (q : a ∉ ws) : zLstR Z h' a C vs := by obtain ⟨c, A, r⟩ := F; exact ⟨c, ⟨K.2.1 a c A.1 q, A.2⟩, r⟩
theorem zLstR.same {h' : Heap} {a : Addr} {sl : Nat} {v : Value} {C : String} {vs : List Value} (F : zLstR Z h a C vs) (W : Wr h h' a sl v) : zLstR Z h' a C (vs.set sl v) := by
  obtain ⟨c, A, O, r⟩ := F
  refine ⟨_, A.same W, O, ?_⟩
  show (c.slots.setIfInBounds sl v).toList = _
  rw [Array.toList_setIfInBounds, r]
theorem znewref (X : Stand p l e R s m args below meth c T locs cells slots) (hx : p.tables.exec = Jvm.exec) (hby : c.code = bytes) {own C : String} {i : Nat} (hd : decode bytes pc = .ok (.anewarray i, 3)) (hZ : Z.Warmed39 s.vm) (hown : s.vm.findClass own = some m.cls) (w1 : (Jvm.Cond.classLink own i C).before a0 Z = true) (w2 : (Jvm.Cond.arrayOver (.object C)).before a0 Z = true) (eT : T.heap = h) {n : Int32} (hn : ¬ n < 0) (cap : Nat) (hcap : n.toNatClampNeg ≤ cap) (hb8 : cap * 8 ≤ 536870912) (hc : cells + 1 ≤ R.cells) (hl : slots + cap ≤ R.slots)
    (r : ∀ T' h' b, Stand p l e R s m args below meth c T' locs (cells + 1) (slots + cap) → T'.heap = h' → b = h.size → Ext h h' → zLstR Z h' b C (List.replicate n.toNatClampNeg .null) → zEnds p e below s T' (mkF m (pc + 3) Ls (.ref b :: st)) cs ss Q) : zEnds p e below s T (mkF m pc Ls (.int n :: st)) cs ss Q := by
  obtain ⟨T', h', cA, X', e', E, A, O, k⟩ := newR X hx hZ hown w1 w2 eT (g := mkF m pc Ls (.int n :: st)) rfl (hb hby hd) rfl hn hcap hb8 hc hl
  exact zstp k (r T' h' _ X' e' rfl E ⟨_, A, O, by simp [newA, defaultValue]⟩)
theorem zaastore (X : Stand p l e R s m args below meth c T locs cells slots) (hx : p.tables.exec = Jvm.exec) (hby : c.code = bytes) (hd : decode bytes pc = .ok (.aastore, 1)) (hZ : Z.Warmed39 s.vm) (eT : T.heap = h) {a y : Addr} {C : String} {vs : List Value} (A : zLstR Z h a C vs) {j : Int32} (hj : ¬ j < 0) (hlt : j.toNatClampNeg < vs.length) (I : Ins Z h y C true)
    (r : ∀ T' h', Stand p l e R s m args below meth c T' (locs ++ [⟨a, j.toNatClampNeg⟩]) cells slots → T'.heap = h' → Wr h h' a j.toNatClampNeg (.ref y) → zLstR Z h' a C (vs.set j.toNatClampNeg (.ref y)) → zEnds p e below s T' (mkF m (pc + 1) Ls st) cs ss Q) : zEnds p e below s T (mkF m pc Ls (.ref y :: .int j :: .ref a :: st)) cs ss Q := by
  obtain ⟨cl, A', O, q⟩ := A
  obtain ⟨T', h', X', e', W, k⟩ := stR X hx hZ eT A' (j := j) (v := .ref y) (zlst_in q hj hlt) rfl (Sto.of A' O I) (g := mkF m pc Ls (.ref y :: .int j :: .ref a :: st)) rfl rfl (hb hby hd)
  exact zstp k (r T' h' X' e' W (zLstR.same ⟨cl, A', O, q⟩ W))
/-! zcalls -/
theorem zcalls (X : Stand p l e R s m args below meth c T locs cells slots) (hx : p.tables.exec = Jvm.exec) (hby : c.code = bytes) {own : String} {i : Nat} {y : MethodName} {by' : ByteArray} {maxL : Nat} {rt : Option FieldType} {rm : Room} {argsL : List Value} {Q' : Option Value → Heap → List Loc → Prop} (hd : decode bytes pc = .ok (.invokestatic i, 3)) (hZ : Z.Warmed39 s.vm) (hown : s.vm.findClass own = some m.cls) (w1 : (Jvm.Cond.methodLink own i y).before a0 Z = true) (w2 : (Jvm.Cond.static y).before a0 Z = true) (w3 : (Jvm.Cond.initialized y.cls).before a0 Z = true) (w4 : (Jvm.Cond.code y by' maxL rt).before a0 Z = true) (eT : T.heap = h)
    (con : zCon l Z y by' maxL rt [] rm argsL.toArray h Q') (hy : y.cls ≠ "java/lang/invoke/MethodHandle" ∧ y.cls ≠ "java/lang/invoke/VarHandle") (hml : Ls.size = c.maxLocals) (W : Nat) (hW : (st.map fun v => v.category).sum ≤ W) (hf : rm.frames + 1 ≤ R.frames) (hl : W + (maxL + 11) + rm.locals ≤ R.locals) (hcl : cells + rm.cells ≤ R.cells) (hsl : slots + rm.slots ≤ R.slots) {ps : List FieldType} {rv : Option FieldType} (hp : parseMethodDescriptor y.desc = some ⟨ps, rv⟩) (hn : argsL.length = ps.length) {S0 : List Value} (hS : S0 = argsL.reverse ++ st)
    (r : ∀ T' h' v L, T'.heap = h' → Stand p l e R s m args below meth c T' (locs ++ L) (cells + rm.cells) (slots + rm.slots) → Q' v h' L → zEnds p e below s T' (mkF m (pc + 3) Ls (v.toList ++ st)) cs ss Q) : zEnds p e below s T (mkF m pc Ls S0) cs ss Q := by
  obtain ⟨v, _, ⟨T', L', k', n'⟩, -, X', ⟨L, hq, l1, l2, l3⟩, k⟩ := Jvm.LawKit.callS X hx (y := y) hown (mvT hZ w1) (mvT hZ w2) (mvT hZ w3) (mvT hZ w4) hy (backOf (W := W) con hZ w4 w3 hf hl) (g := mkF m pc Ls S0) rfl hml (argsL := argsL) (rest := st) (lenOf hp hn) hS (by show 2 * 0 + _ ≤ _; rw [Nat.mul_zero, Nat.zero_add]; exact hW) (hb hby hd) (fun _ _ => ⟨rfl, eT, hcl, hsl⟩)
  dsimp only [Pt.U, Pt.locs, Pt.cells, Pt.slots] at X' l1 l2 l3 k hq
  subst l1 l2 l3
  exact zstp k (r T' _ v L rfl X' hq)
theorem zcallv (X : Stand p l e R s m args below meth c T locs cells slots) (hx : p.tables.exec = Jvm.exec) (hby : c.code = bytes) {own C : String} {i : Nat} {y z : MethodName} {by' : ByteArray} {maxL : Nat} {rt : Option FieldType} {rm : Room} {a : Addr} {argsL : List Value} {Q' : Option Value → Heap → List Loc → Prop} (hd : decode bytes pc = .ok (.invokevirtual i, 3)) (hZ : Z.Warmed39 s.vm) (hown : s.vm.findClass own = some m.cls) (w1 : (Jvm.Cond.methodLink own i y).before a0 Z = true) (w2 : (Jvm.Cond.declares y).before a0 Z = true) (hnf : NotFace s y) (w3 : (Jvm.Cond.selects C y z).before a0 Z = true) (w4 : (Jvm.Cond.instanceMethod z).before a0 Z = true) (w5 : (Jvm.Cond.code z by' maxL rt).before a0 Z = true) (w6 : (Jvm.Cond.initialized z.cls).before a0 Z = true) (eT : T.heap = h) (E : Exa Z h a C)
    (con : zCon l Z z by' maxL rt [] rm (.ref a :: argsL).toArray h Q') (hy : y.cls ≠ "java/lang/invoke/MethodHandle" ∧ y.cls ≠ "java/lang/invoke/VarHandle") (hml : Ls.size = c.maxLocals) (W : Nat) (hW : (st.map fun v => v.category).sum ≤ W) (hf : rm.frames + 1 ≤ R.frames) (hl : W + (maxL + 11) + rm.locals ≤ R.locals) (hcl : cells + rm.cells ≤ R.cells) (hsl : slots + rm.slots ≤ R.slots) {ps : List FieldType} {rv : Option FieldType} (hp : parseMethodDescriptor y.desc = some ⟨ps, rv⟩) (hn : argsL.length = ps.length) {S0 : List Value} (hS : S0 = argsL.reverse ++ .ref a :: st)
    (r : ∀ T' h' v L, T'.heap = h' → Stand p l e R s m args below meth c T' (locs ++ L) (cells + rm.cells) (slots + rm.slots) → Q' v h' L → zEnds p e below s T' (mkF m (pc + 3) Ls (v.toList ++ st)) cs ss Q) : zEnds p e below s T (mkF m pc Ls S0) cs ss Q := by
  obtain ⟨_, _, qa, -, qc⟩ := isOf hZ eT E
  obtain ⟨v, _, ⟨T', L', k', n'⟩, -, X', ⟨L, hq, l1, l2, l3⟩, k⟩ := X.virtualBack hx (y := y) (z := z) hown (mvT hZ w1) (mvT hZ w2) hnf (mvT hZ w3) (mvT hZ w4) hy (backOf (W := W) con hZ w5 w6 hf hl) qa qc (g := mkF m pc Ls S0) rfl hml (Steps.refl _) (argsL := argsL) (rest := st) (lenOf hp hn) hS (by show 2 * 0 + _ ≤ _; rw [Nat.mul_zero, Nat.zero_add]; exact hW) (hb hby hd) (fun _ _ => ⟨rfl, eT, hcl, hsl⟩)
  dsimp only [Pt.U, Pt.locs, Pt.cells, Pt.slots] at X' l1 l2 l3 k hq
  subst l1 l2 l3
  exact zstp (fun _ q => k.trans q) (r T' _ v L rfl X' hq)
theorem zcallsp (X : Stand p l e R s m args below meth c T locs cells slots) (hx : p.tables.exec = Jvm.exec) (hby : c.code = bytes) {own : String} {i : Nat} {y : MethodName} {by' : ByteArray} {maxL : Nat} {rm : Room} {a : Addr} {argsL : List Value} {Q' : Option Value → Heap → List Loc → Prop} (hd : decode bytes pc = .ok (.invokespecial i, 3)) (hZ : Z.Warmed39 s.vm) (hown : s.vm.findClass own = some m.cls) (hyn : y.name = "<init>") (w1 : (Jvm.Cond.methodLink own i y).before a0 Z = true) (w2 : (Jvm.Cond.instanceMethod y).before a0 Z = true) (w3 : (Jvm.Cond.code y by' maxL none).before a0 Z = true) (w4 : (Jvm.Cond.initialized y.cls).before a0 Z = true) (eT : T.heap = h)
    (con : zCon l Z y by' maxL none [] rm (.ref a :: argsL).toArray h Q') (hy : y.cls ≠ "java/lang/invoke/MethodHandle" ∧ y.cls ≠ "java/lang/invoke/VarHandle") (hml : Ls.size = c.maxLocals) (W : Nat) (hW : (st.map fun v => v.category).sum ≤ W) (hf : rm.frames + 1 ≤ R.frames) (hl : W + (maxL + 11) + rm.locals ≤ R.locals) (hcl : cells + rm.cells ≤ R.cells) (hsl : slots + rm.slots ≤ R.slots) {ps : List FieldType} {rv : Option FieldType} (hp : parseMethodDescriptor y.desc = some ⟨ps, rv⟩) (hn : argsL.length = ps.length) {S0 : List Value} (hS : S0 = argsL.reverse ++ .ref a :: st)
    (r : ∀ T' h' v L, T'.heap = h' → Stand p l e R s m args below meth c T' (locs ++ L) (cells + rm.cells) (slots + rm.slots) → Q' v h' L → zEnds p e below s T' (mkF m (pc + 3) Ls (v.toList ++ st)) cs ss Q) : zEnds p e below s T (mkF m pc Ls S0) cs ss Q := by
  obtain ⟨v, _, ⟨T', L', k', n'⟩, -, X', ⟨L, hq, l1, l2, l3⟩, k⟩ := X.specialBack hx (y := y) hyn hown (mvT hZ w1) (mvT hZ w2) (mvT hZ w3) hy (backOf (W := W) con hZ w3 w4 hf hl) (g := mkF m pc Ls S0) rfl hml (Steps.refl _) (a := a) (argsL := argsL) (rest := st) (lenOf hp hn) hS (by show 2 * 0 + _ ≤ _; rw [Nat.mul_zero, Nat.zero_add]; exact hW) (hb hby hd) (fun _ _ => ⟨rfl, eT, hcl, hsl⟩)
  dsimp only [Pt.U, Pt.locs, Pt.cells, Pt.slots] at X' l1 l2 l3 k hq
  subst l1 l2 l3
  exact zstp (fun _ q => k.trans q) (r T' _ v L rfl X' hq)
theorem zcallup (X : Stand p l e R s m args below meth c T locs cells slots) (hx : p.tables.exec = Jvm.exec) (hby : c.code = bytes) {own C owner : String} {i : Nat} {x y : MethodName} {by' : ByteArray} {maxL : Nat} {rt : Option FieldType} {rm : Room} {a : Addr} {argsL : List Value} {Q' : Option Value → Heap → List Loc → Prop} (hd : decode bytes pc = .ok (.invokevirtual i, 3)) (hZ : Z.Warmed39 s.vm) (hown : s.vm.findClass own = some m.cls) (w1 : (Jvm.Cond.methodLink own i x).before a0 Z = true) (w2 : (Jvm.Cond.sameMethod x.cls owner x.name x.desc).before a0 Z = true) (w2' : (Jvm.Cond.declares ⟨owner, x.name, x.desc⟩).before a0 Z = true) (w3 : (Jvm.Cond.selects C x y).before a0 Z = true) (w4 : (Jvm.Cond.instanceMethod y).before a0 Z = true) (w5 : (Jvm.Cond.code y by' maxL rt).before a0 Z = true) (w6 : (Jvm.Cond.initialized y.cls).before a0 Z = true) (eT : T.heap = h) (E : Exa Z h a C)
    (con : zCon l Z y by' maxL rt [] rm (.ref a :: argsL).toArray h Q') (hy : owner ≠ "java/lang/invoke/MethodHandle" ∧ owner ≠ "java/lang/invoke/VarHandle") (hml : Ls.size = c.maxLocals) (W : Nat) (hW : (st.map fun v => v.category).sum ≤ W) (hf : rm.frames + 1 ≤ R.frames) (hl : W + (maxL + 11) + rm.locals ≤ R.locals) (hcl : cells + rm.cells ≤ R.cells) (hsl : slots + rm.slots ≤ R.slots) {ps : List FieldType} {rv : Option FieldType} (hp : parseMethodDescriptor x.desc = some ⟨ps, rv⟩) (hn : argsL.length = ps.length) {S0 : List Value} (hS : S0 = argsL.reverse ++ .ref a :: st)
    (r : ∀ T' h' v L, T'.heap = h' → Stand p l e R s m args below meth c T' (locs ++ L) (cells + rm.cells) (slots + rm.slots) → Q' v h' L → zEnds p e below s T' (mkF m (pc + 3) Ls (v.toList ++ st)) cs ss Q) : zEnds p e below s T (mkF m pc Ls S0) cs ss Q := by
  obtain ⟨_, _, qa, -, qc⟩ := isOf hZ eT E
  obtain ⟨v, _, ⟨T', L', k', n'⟩, -, X', ⟨L, hq, l1, l2, l3⟩, k⟩ := X.virtualBackUp hx (x := x) (y := y) hown (mvT hZ w1) (mvT hZ w2) (mvT hZ w2') hy (mvT hZ w3) (mvT hZ w4) (backOf (W := W) con hZ w5 w6 hf hl) qa qc (g := mkF m pc Ls S0) rfl hml (Steps.refl _) (argsL := argsL) (rest := st) (lenOf hp hn) hS (by show 2 * 0 + _ ≤ _; rw [Nat.mul_zero, Nat.zero_add]; exact hW) (hb hby hd) (fun _ _ => ⟨rfl, eT, hcl, hsl⟩)
  dsimp only [Pt.U, Pt.locs, Pt.cells, Pt.slots] at X' l1 l2 l3 k hq
  subst l1 l2 l3
  exact zstp (fun _ q => k.trans q) (r T' _ v L rfl X' hq)
/-- the continuation behind a callee that wrote nothing -/
theorem zpureK {w : Option Value} {rm : Room} (hr : rm.cells = 0 ∧ rm.slots = 0) (r : ∀ T', Stand p l e R s m args below meth c T' locs cells slots → T'.heap = h → zEnds p e below s T' (mkF m pc Ls (w.toList ++ st)) cs ss Q) :
    ∀ T' h' v L, T'.heap = h' → Stand p l e R s m args below meth c T' (locs ++ L) (cells + rm.cells) (slots + rm.slots) → zSame w h v h' L → zEnds p e below s T' (mkF m pc Ls (v.toList ++ st)) cs ss Q := by
  rintro T' h' v L e' X ⟨rfl, rfl, rfl⟩
  rw [hr.1, hr.2, List.append_nil] at X
  exact r T' X e'
/-! from the words of a case to facts -/
theorem zfld_int {t : Term} {x : Addr} {C n d : String} {k : Int32} {args : Array Value} {s : State} (ev : t.eval args s none [] s = some (.ref x)) (q : (Jvm.Cond.eq (Term.field t C n d) (Term.int k)).value args s none s [] = some true) : Fld s s.heap x C n d (.int k) := by
  obtain ⟨u, w, e1, e2, k1, k2⟩ := cmp_v (Or.inl q)
  rw [fld_at ev] at e1
  cases (Term.int_eval k).symm.trans e2
  obtain ⟨z, rfl⟩ := k2
  have h1 : (Term.field t C n d).eval args s none [] s = some (.int z) := (fld_at ev).trans e1
  have : z = k := by simpa [Jvm.Cond.value, h1, Term.int_eval] using q
  subst this
  exact Fld.start e1
theorem zelem_at0 {t : Term} {x : Addr} {i v : Int32} {cl : Cell} {args : Array Value} {s : State} (ev : t.eval args s none [] s = some (.ref x)) (hc : s.heap[x]? = some cl) (q : (Jvm.Cond.eq (Term.elem t (Term.int i)) (Term.int v)).value args s none s [] = some true) : ¬ (i < 0 ∨ cl.slots.size ≤ i.toNatClampNeg) ∧ cl.slots[i.toNatClampNeg]? = some (.int v) := by
  obtain ⟨u, w, e1, e2, k1, k2⟩ := cmp_v (Or.inl q)
  cases (Term.int_eval v).symm.trans e2
  obtain ⟨z, rfl⟩ := k2
  have : z = v := by simpa [Jvm.Cond.value, e1, Term.int_eval] using q
  subst this
  exact elem_in e1 ev (Term.int_eval i) hc
theorem zlen_is {t : Term} {x : Addr} {k : Int32} {cl : Cell} {ty : FieldType} {args : Array Value} {s : State} (ev : t.eval args s none [] s = some (.ref x)) (A : Arr s s.heap x cl ty) (q : (Jvm.Cond.eq (Term.length t) (Term.int k)).value args s none s [] = some true) : cl.slots.size.toInt32 = k := by
  obtain ⟨u, w, e1, e2, k1, k2⟩ := cmp_v (Or.inl q)
  cases (Term.int_eval k).symm.trans e2
  obtain ⟨z, rfl⟩ := k2
  have h0 : z = k := by simpa [Jvm.Cond.value, e1, Term.int_eval] using q
  subst h0
  have h1 : s.arrayAt? x = some cl := Arr.fin (Vm.Alike.refl _) A
  by_cases hl : cl.slots.size < 2 ^ 31
  · have := (len_f (args := args) (first := s) (o := none) (idx := []) ev h1 hl).symm.trans e1
    exact Value.int.inj (Option.some.inj this)
  · exfalso; simp [Term.eval, ev, h1, hl] at e1
theorem zfld_ref {t t' : Term} {x y : Addr} {C n d : String} {args : Array Value} {s : State} (ev : t.eval args s none [] s = some (.ref x)) (ev' : t'.eval args s none [] s = some (.ref y)) (q : (Jvm.Cond.eq (Term.field t C n d) t').value args s none s [] = some true) : Fld s s.heap x C n d (.ref y) := by
  obtain ⟨u, w, e1, e2, k1, k2⟩ := cmp_v (Or.inl q)
  cases ev'.symm.trans e2
  have k3 : u.isRef = true := k2.2
  have q2 := gotT (eq_R e1 ev' k3 rfl) q
  subst q2
  rw [fld_at ev] at e1
  exact Fld.start e1
end Own
end Jvm.OwnKit
namespace Jvm.Pilot.@@N@@
open Jvm Jvm.ClassFile Sem Op Lib Jvm.Free Jvm.Stand Jvm.LawKit Jvm.RoadKit Jvm.OwnKit Bundle Jvm.Pilot.@@N@@.Jvm.D
theorem w0 {Z : State} {a0 : Array Value} (hw : ∀ d ∈ tables_1, d.before a0 Z = true) : (Jvm.Cond.arrayClass Jvm.ClassFile.FieldType.byte).before a0 Z = true := hw _ (List.mem_of_getElem? (i := 0) rfl)
theorem w1 {Z : State} {a0 : Array Value} (hw : ∀ d ∈ tables_1, d.before a0 Z = true) : (Jvm.Cond.methodLink "com/example/kakehashi/kakehashi/message/ReadingCountPinLaw" (7 : Nat) ({ cls := "com/example/kakehashi/kakehashi/message/ReadingCountPinLaw", name := "bt", desc := "(JIII)B" } : Jvm.MethodName)).before a0 Z = true := hw _ (List.mem_of_getElem? (i := 1) rfl)
theorem w2 {Z : State} {a0 : Array Value} (hw : ∀ d ∈ tables_1, d.before a0 Z = true) : (Jvm.Cond.static ({ cls := "com/example/kakehashi/kakehashi/message/ReadingCountPinLaw", name := "bt", desc := "(JIII)B" } : Jvm.MethodName)).before a0 Z = true := hw _ (List.mem_of_getElem? (i := 2) rfl)
theorem w3 {Z : State} {a0 : Array Value} (hw : ∀ d ∈ tables_1, d.before a0 Z = true) : (Jvm.Cond.initialized "com/example/kakehashi/kakehashi/message/ReadingCountPinLaw").before a0 Z = true := hw _ (List.mem_of_getElem? (i := 3) rfl)
theorem w4 {Z : State} {a0 : Array Value} (hw : ∀ d ∈ tables_1, d.before a0 Z = true) : (Jvm.Cond.code ({ cls := "com/example/kakehashi/kakehashi/message/ReadingCountPinLaw", name := "bt", desc := "(JIII)B" } : Jvm.MethodName) method_3_code (5 : Nat) (Option.some Jvm.ClassFile.FieldType.byte)).before a0 Z = true := hw _ (List.mem_of_getElem? (i := 4) rfl)
theorem w5 {Z : State} {a0 : Array Value} (hw : ∀ d ∈ tables_1, d.before a0 Z = true) : (Jvm.Cond.constant "com/example/kakehashi/kakehashi/message/ReadingCountPinLaw" (13 : Nat) (2147483647 : Int32)).before a0 Z = true := hw _ (List.mem_of_getElem? (i := 5) rfl)
theorem w6 {Z : State} {a0 : Array Value} (hw : ∀ d ∈ tables_1, d.before a0 Z = true) : (Jvm.Cond.methodLink "com/example/kakehashi/kakehashi/message/ReadingCountPinLaw" (14 : Nat) ({ cls := "java/lang/Math", name := "min", desc := "(II)I" } : Jvm.MethodName)).before a0 Z = true := hw _ (List.mem_of_getElem? (i := 6) rfl)
theorem w7 {Z : State} {a0 : Array Value} (hw : ∀ d ∈ tables_1, d.before a0 Z = true) : (Jvm.Cond.static ({ cls := "java/lang/Math", name := "min", desc := "(II)I" } : Jvm.MethodName)).before a0 Z = true := hw _ (List.mem_of_getElem? (i := 7) rfl)
theorem w8 {Z : State} {a0 : Array Value} (hw : ∀ d ∈ tables_1, d.before a0 Z = true) : (Jvm.Cond.initialized "java/lang/Math").before a0 Z = true := hw _ (List.mem_of_getElem? (i := 8) rfl)
theorem w9 {Z : State} {a0 : Array Value} (hw : ∀ d ∈ tables_1, d.before a0 Z = true) : (Jvm.Cond.code ({ cls := "java/lang/Math", name := "min", desc := "(II)I" } : Jvm.MethodName) jdk_29_method_69_code (2 : Nat) (Option.some Jvm.ClassFile.FieldType.int)).before a0 Z = true := hw _ (List.mem_of_getElem? (i := 9) rfl)
theorem w10 {Z : State} {a0 : Array Value} (hw : ∀ d ∈ tables_1, d.before a0 Z = true) : (Jvm.Cond.methodLink "com/example/kakehashi/kakehashi/message/ReadingCountPinLaw" (20 : Nat) ({ cls := "java/lang/Math", name := "max", desc := "(II)I" } : Jvm.MethodName)).before a0 Z = true := hw _ (List.mem_of_getElem? (i := 10) rfl)
theorem w11 {Z : State} {a0 : Array Value} (hw : ∀ d ∈ tables_1, d.before a0 Z = true) : (Jvm.Cond.static ({ cls := "java/lang/Math", name := "max", desc := "(II)I" } : Jvm.MethodName)).before a0 Z = true := hw _ (List.mem_of_getElem? (i := 11) rfl)
theorem w12 {Z : State} {a0 : Array Value} (hw : ∀ d ∈ tables_1, d.before a0 Z = true) : (Jvm.Cond.code ({ cls := "java/lang/Math", name := "max", desc := "(II)I" } : Jvm.MethodName) jdk_29_method_65_code (2 : Nat) (Option.some Jvm.ClassFile.FieldType.int)).before a0 Z = true := hw _ (List.mem_of_getElem? (i := 12) rfl)
theorem w13 {Z : State} {a0 : Array Value} (hw : ∀ d ∈ tables_1, d.before a0 Z = true) : (Jvm.Cond.classLink "com/example/kakehashi/kakehashi/message/ReadingCountPinLaw" (23 : Nat) "com/example/kakehashi/kakehashi/message/Reading").before a0 Z = true := hw _ (List.mem_of_getElem? (i := 13) rfl)
theorem w14 {Z : State} {a0 : Array Value} (hw : ∀ d ∈ tables_1, d.before a0 Z = true) : (Jvm.Cond.arrayOver (Jvm.ClassFile.FieldType.object "com/example/kakehashi/kakehashi/message/Reading")).before a0 Z = true := hw _ (List.mem_of_getElem? (i := 14) rfl)
theorem w15 {Z : State} {a0 : Array Value} (hw : ∀ d ∈ tables_1, d.before a0 Z = true) : (Jvm.Cond.fieldLink "com/example/kakehashi/kakehashi/message/ReadingCountPinLaw" (25 : Nat) "com/example/kakehashi/kakehashi/message/Reading" "ONE_CHAR_A_BYTE" "Lcom/example/kakehashi/kakehashi/message/Reading;").before a0 Z = true := hw _ (List.mem_of_getElem? (i := 15) rfl)
theorem w16 {Z : State} {a0 : Array Value} (hw : ∀ d ∈ tables_1, d.before a0 Z = true) : (Jvm.Cond.initialized "com/example/kakehashi/kakehashi/message/Reading").before a0 Z = true := hw _ (List.mem_of_getElem? (i := 16) rfl)
theorem w17 {Z : State} {a0 : Array Value} (hw : ∀ d ∈ tables_1, d.before a0 Z = true) : (Jvm.Cond.laysStatic "com/example/kakehashi/kakehashi/message/Reading" "ONE_CHAR_A_BYTE" "Lcom/example/kakehashi/kakehashi/message/Reading;").before a0 Z = true := hw _ (List.mem_of_getElem? (i := 17) rfl)
theorem w18 {Z : State} {a0 : Array Value} (hw : ∀ d ∈ tables_1, d.before a0 Z = true) : (Jvm.Cond.castable "com/example/kakehashi/kakehashi/message/Reading$1" "com/example/kakehashi/kakehashi/message/Reading").before a0 Z = true := hw _ (List.mem_of_getElem? (i := 18) rfl)
theorem w19 {Z : State} {a0 : Array Value} (hw : ∀ d ∈ tables_1, d.before a0 Z = true) : (Jvm.Cond.fieldLink "com/example/kakehashi/kakehashi/message/ReadingCountPinLaw" (29 : Nat) "com/example/kakehashi/kakehashi/message/Reading" "ASCII" "Lcom/example/kakehashi/kakehashi/message/Reading;").before a0 Z = true := hw _ (List.mem_of_getElem? (i := 19) rfl)
theorem w20 {Z : State} {a0 : Array Value} (hw : ∀ d ∈ tables_1, d.before a0 Z = true) : (Jvm.Cond.laysStatic "com/example/kakehashi/kakehashi/message/Reading" "ASCII" "Lcom/example/kakehashi/kakehashi/message/Reading;").before a0 Z = true := hw _ (List.mem_of_getElem? (i := 20) rfl)
theorem w21 {Z : State} {a0 : Array Value} (hw : ∀ d ∈ tables_1, d.before a0 Z = true) : (Jvm.Cond.castable "com/example/kakehashi/kakehashi/message/Reading$2" "com/example/kakehashi/kakehashi/message/Reading").before a0 Z = true := hw _ (List.mem_of_getElem? (i := 21) rfl)
theorem w22 {Z : State} {a0 : Array Value} (hw : ∀ d ∈ tables_1, d.before a0 Z = true) : (Jvm.Cond.fieldLink "com/example/kakehashi/kakehashi/message/ReadingCountPinLaw" (32 : Nat) "com/example/kakehashi/kakehashi/message/Reading" "UTF_8" "Lcom/example/kakehashi/kakehashi/message/Reading;").before a0 Z = true := hw _ (List.mem_of_getElem? (i := 22) rfl)
theorem w23 {Z : State} {a0 : Array Value} (hw : ∀ d ∈ tables_1, d.before a0 Z = true) : (Jvm.Cond.laysStatic "com/example/kakehashi/kakehashi/message/Reading" "UTF_8" "Lcom/example/kakehashi/kakehashi/message/Reading;").before a0 Z = true := hw _ (List.mem_of_getElem? (i := 23) rfl)
theorem w24 {Z : State} {a0 : Array Value} (hw : ∀ d ∈ tables_1, d.before a0 Z = true) : (Jvm.Cond.castable "com/example/kakehashi/kakehashi/message/Reading$3" "com/example/kakehashi/kakehashi/message/Reading").before a0 Z = true := hw _ (List.mem_of_getElem? (i := 24) rfl)
theorem w25 {Z : State} {a0 : Array Value} (hw : ∀ d ∈ tables_1, d.before a0 Z = true) : (Jvm.Cond.methodLink "com/example/kakehashi/kakehashi/message/ReadingCountPinLaw" (35 : Nat) ({ cls := "com/example/kakehashi/kakehashi/message/ReadingCountPinLaw", name := "hit", desc := "([BIIII)I" } : Jvm.MethodName)).before a0 Z = true := hw _ (List.mem_of_getElem? (i := 25) rfl)
theorem w26 {Z : State} {a0 : Array Value} (hw : ∀ d ∈ tables_1, d.before a0 Z = true) : (Jvm.Cond.static ({ cls := "com/example/kakehashi/kakehashi/message/ReadingCountPinLaw", name := "hit", desc := "([BIIII)I" } : Jvm.MethodName)).before a0 Z = true := hw _ (List.mem_of_getElem? (i := 26) rfl)
theorem w27 {Z : State} {a0 : Array Value} (hw : ∀ d ∈ tables_1, d.before a0 Z = true) : (Jvm.Cond.code ({ cls := "com/example/kakehashi/kakehashi/message/ReadingCountPinLaw", name := "hit", desc := "([BIIII)I" } : Jvm.MethodName) method_4_code (5 : Nat) (Option.some Jvm.ClassFile.FieldType.int)).before a0 Z = true := hw _ (List.mem_of_getElem? (i := 27) rfl)
theorem w28 {Z : State} {a0 : Array Value} (hw : ∀ d ∈ tables_1, d.before a0 Z = true) : (Jvm.Cond.methodLink "com/example/kakehashi/kakehashi/message/ReadingCountPinLaw" (39 : Nat) ({ cls := "com/example/kakehashi/kakehashi/message/Reading", name := "count", desc := "([BIIC)I" } : Jvm.MethodName)).before a0 Z = true := hw _ (List.mem_of_getElem? (i := 28) rfl)
theorem w29 {Z : State} {a0 : Array Value} (hw : ∀ d ∈ tables_1, d.before a0 Z = true) : (Jvm.Cond.declares ({ cls := "com/example/kakehashi/kakehashi/message/Reading", name := "count", desc := "([BIIC)I" } : Jvm.MethodName)).before a0 Z = true := hw _ (List.mem_of_getElem? (i := 29) rfl)
theorem w30 {Z : State} {a0 : Array Value} (hw : ∀ d ∈ tables_1, d.before a0 Z = true) : (Jvm.Cond.instanceMethod ({ cls := "com/example/kakehashi/kakehashi/message/Reading", name := "count", desc := "([BIIC)I" } : Jvm.MethodName)).before a0 Z = true := hw _ (List.mem_of_getElem? (i := 30) rfl)
theorem w31 {Z : State} {a0 : Array Value} (hw : ∀ d ∈ tables_1, d.before a0 Z = true) : (Jvm.Cond.selects "com/example/kakehashi/kakehashi/message/Reading$1" ({ cls := "com/example/kakehashi/kakehashi/message/Reading", name := "count", desc := "([BIIC)I" } : Jvm.MethodName) ({ cls := "com/example/kakehashi/kakehashi/message/Reading", name := "count", desc := "([BIIC)I" } : Jvm.MethodName)).before a0 Z = true := hw _ (List.mem_of_getElem? (i := 31) rfl)
theorem w32 {Z : State} {a0 : Array Value} (hw : ∀ d ∈ tables_1, d.before a0 Z = true) : (Jvm.Cond.code ({ cls := "com/example/kakehashi/kakehashi/message/Reading", name := "count", desc := "([BIIC)I" } : Jvm.MethodName) prog_64_method_12_code (7 : Nat) (Option.some Jvm.ClassFile.FieldType.int)).before a0 Z = true := hw _ (List.mem_of_getElem? (i := 32) rfl)
theorem w33 {Z : State} {a0 : Array Value} (hw : ∀ d ∈ tables_1, d.before a0 Z = true) : (Jvm.Cond.selects "com/example/kakehashi/kakehashi/message/Reading$3" ({ cls := "com/example/kakehashi/kakehashi/message/Reading", name := "count", desc := "([BIIC)I" } : Jvm.MethodName) ({ cls := "com/example/kakehashi/kakehashi/message/Reading", name := "count", desc := "([BIIC)I" } : Jvm.MethodName)).before a0 Z = true := hw _ (List.mem_of_getElem? (i := 33) rfl)
theorem w34 {Z : State} {a0 : Array Value} (hw : ∀ d ∈ tables_1, d.before a0 Z = true) : (Jvm.Cond.selects "com/example/kakehashi/kakehashi/message/Reading$2" ({ cls := "com/example/kakehashi/kakehashi/message/Reading", name := "count", desc := "([BIIC)I" } : Jvm.MethodName) ({ cls := "com/example/kakehashi/kakehashi/message/Reading", name := "count", desc := "([BIIC)I" } : Jvm.MethodName)).before a0 Z = true := hw _ (List.mem_of_getElem? (i := 34) rfl)
theorem d_jdk_29_method_65_0 : decode jdk_29_method_65_code 0 = .ok (.iload_n 0, 1) := by decide +kernel
theorem d_jdk_29_method_65_1 : decode jdk_29_method_65_code 1 = .ok (.iload_n 1, 1) := by decide +kernel
theorem d_jdk_29_method_65_2 : decode jdk_29_method_65_code 2 = .ok (.if_icmp .lt 7, 3) := by decide +kernel
theorem d_jdk_29_method_65_5 : decode jdk_29_method_65_code 5 = .ok (.iload_n 0, 1) := by decide +kernel
theorem d_jdk_29_method_65_6 : decode jdk_29_method_65_code 6 = .ok (.goto 4, 3) := by decide +kernel
theorem d_jdk_29_method_65_9 : decode jdk_29_method_65_code 9 = .ok (.iload_n 1, 1) := by decide +kernel
theorem d_jdk_29_method_65_10 : decode jdk_29_method_65_code 10 = .ok (.ireturn, 1) := by decide +kernel
theorem d_jdk_29_method_69_0 : decode jdk_29_method_69_code 0 = .ok (.iload_n 0, 1) := by decide +kernel
theorem d_jdk_29_method_69_1 : decode jdk_29_method_69_code 1 = .ok (.iload_n 1, 1) := by decide +kernel
theorem d_jdk_29_method_69_2 : decode jdk_29_method_69_code 2 = .ok (.if_icmp .gt 7, 3) := by decide +kernel
theorem d_jdk_29_method_69_5 : decode jdk_29_method_69_code 5 = .ok (.iload_n 0, 1) := by decide +kernel
theorem d_jdk_29_method_69_6 : decode jdk_29_method_69_code 6 = .ok (.goto 4, 3) := by decide +kernel
theorem d_jdk_29_method_69_9 : decode jdk_29_method_69_code 9 = .ok (.iload_n 1, 1) := by decide +kernel
theorem d_jdk_29_method_69_10 : decode jdk_29_method_69_code 10 = .ok (.ireturn, 1) := by decide +kernel
theorem d_method_3_0 : decode method_3_code 0 = .ok (.iload_n 2, 1) := by decide +kernel
theorem d_method_3_1 : decode method_3_code 1 = .ok (.iload 4, 2) := by decide +kernel
theorem d_method_3_3 : decode method_3_code 3 = .ok (.iushr, 1) := by decide +kernel
theorem d_method_3_4 : decode method_3_code 4 = .ok (.iconst 1, 1) := by decide +kernel
theorem d_method_3_5 : decode method_3_code 5 = .ok (.iand, 1) := by decide +kernel
theorem d_method_3_6 : decode method_3_code 6 = .ok (.ifCond .eq 6, 3) := by decide +kernel
theorem d_method_3_9 : decode method_3_code 9 = .ok (.iload_n 3, 1) := by decide +kernel
theorem d_method_3_10 : decode method_3_code 10 = .ok (.i2b, 1) := by decide +kernel
theorem d_method_3_11 : decode method_3_code 11 = .ok (.ireturn, 1) := by decide +kernel
theorem d_method_3_12 : decode method_3_code 12 = .ok (.lload_n 0, 1) := by decide +kernel
theorem d_method_3_13 : decode method_3_code 13 = .ok (.bipush 8, 2) := by decide +kernel
theorem d_method_3_15 : decode method_3_code 15 = .ok (.iload 4, 2) := by decide +kernel
theorem d_method_3_17 : decode method_3_code 17 = .ok (.imul, 1) := by decide +kernel
theorem d_method_3_18 : decode method_3_code 18 = .ok (.lushr, 1) := by decide +kernel
theorem d_method_3_19 : decode method_3_code 19 = .ok (.l2i, 1) := by decide +kernel
theorem d_method_3_20 : decode method_3_code 20 = .ok (.i2b, 1) := by decide +kernel
theorem d_method_3_21 : decode method_3_code 21 = .ok (.ireturn, 1) := by decide +kernel
theorem d_method_4_0 : decode method_4_code 0 = .ok (.iload_n 1, 1) := by decide +kernel
theorem d_method_4_1 : decode method_4_code 1 = .ok (.iload_n 2, 1) := by decide +kernel
theorem d_method_4_2 : decode method_4_code 2 = .ok (.if_icmp .lt 22, 3) := by decide +kernel
theorem d_method_4_5 : decode method_4_code 5 = .ok (.iload_n 1, 1) := by decide +kernel
theorem d_method_4_6 : decode method_4_code 6 = .ok (.iload_n 3, 1) := by decide +kernel
theorem d_method_4_7 : decode method_4_code 7 = .ok (.if_icmp .ge 17, 3) := by decide +kernel
theorem d_method_4_10 : decode method_4_code 10 = .ok (.aload_n 0, 1) := by decide +kernel
theorem d_method_4_11 : decode method_4_code 11 = .ok (.iload_n 1, 1) := by decide +kernel
theorem d_method_4_12 : decode method_4_code 12 = .ok (.baload, 1) := by decide +kernel
theorem d_method_4_13 : decode method_4_code 13 = .ok (.sipush 255, 3) := by decide +kernel
theorem d_method_4_16 : decode method_4_code 16 = .ok (.iand, 1) := by decide +kernel
theorem d_method_4_17 : decode method_4_code 17 = .ok (.iload 4, 2) := by decide +kernel
theorem d_method_4_19 : decode method_4_code 19 = .ok (.if_icmp .ne 5, 3) := by decide +kernel
theorem d_method_4_22 : decode method_4_code 22 = .ok (.iconst 1, 1) := by decide +kernel
theorem d_method_4_23 : decode method_4_code 23 = .ok (.ireturn, 1) := by decide +kernel
theorem d_method_4_24 : decode method_4_code 24 = .ok (.iconst 0, 1) := by decide +kernel
theorem d_method_4_25 : decode method_4_code 25 = .ok (.ireturn, 1) := by decide +kernel
theorem d_prog_64_method_12_0 : decode prog_64_method_12_code 0 = .ok (.iconst 0, 1) := by decide +kernel
theorem d_prog_64_method_12_1 : decode prog_64_method_12_code 1 = .ok (.istore 5, 2) := by decide +kernel
theorem d_prog_64_method_12_3 : decode prog_64_method_12_code 3 = .ok (.iload_n 2, 1) := by decide +kernel
theorem d_prog_64_method_12_4 : decode prog_64_method_12_code 4 = .ok (.istore 6, 2) := by decide +kernel
theorem d_prog_64_method_12_6 : decode prog_64_method_12_code 6 = .ok (.iload 6, 2) := by decide +kernel
theorem d_prog_64_method_12_8 : decode prog_64_method_12_code 8 = .ok (.iload_n 3, 1) := by decide +kernel
theorem d_prog_64_method_12_9 : decode prog_64_method_12_code 9 = .ok (.if_icmp .ge 21, 3) := by decide +kernel
theorem d_prog_64_method_12_12 : decode prog_64_method_12_code 12 = .ok (.aload_n 1, 1) := by decide +kernel
theorem d_prog_64_method_12_13 : decode prog_64_method_12_code 13 = .ok (.iload 6, 2) := by decide +kernel
theorem d_prog_64_method_12_15 : decode prog_64_method_12_code 15 = .ok (.baload, 1) := by decide +kernel
theorem d_prog_64_method_12_16 : decode prog_64_method_12_code 16 = .ok (.iload 4, 2) := by decide +kernel
theorem d_prog_64_method_12_18 : decode prog_64_method_12_code 18 = .ok (.if_icmp .ne 6, 3) := by decide +kernel
theorem d_prog_64_method_12_21 : decode prog_64_method_12_code 21 = .ok (.iinc 5 1, 3) := by decide +kernel
theorem d_prog_64_method_12_24 : decode prog_64_method_12_code 24 = .ok (.iinc 6 1, 3) := by decide +kernel
theorem d_prog_64_method_12_27 : decode prog_64_method_12_code 27 = .ok (.goto (-21), 3) := by decide +kernel
theorem d_prog_64_method_12_30 : decode prog_64_method_12_code 30 = .ok (.iload 5, 2) := by decide +kernel
theorem d_prog_64_method_12_32 : decode prog_64_method_12_code 32 = .ok (.ireturn, 1) := by decide +kernel
theorem pd_0 : parseMethodDescriptor "(JIII)B" = some ⟨[.long, .int, .int, .int], some .byte⟩ := by decide +kernel
theorem pd_1 : parseMethodDescriptor "(II)I" = some ⟨[.int, .int], some .int⟩ := by decide +kernel
theorem pd_2 : parseMethodDescriptor "([BIIII)I" = some ⟨[(.array .byte), .int, .int, .int, .int], some .int⟩ := by decide +kernel
theorem pd_3 : parseMethodDescriptor "([BIIC)I" = some ⟨[(.array .byte), .int, .int, .char], some .int⟩ := by decide +kernel
theorem pn_0 : plainName "com/example/kakehashi/kakehashi/message/ReadingCountPinLaw" = true := by first | (simp [plainName, overriddenIn]; done) | decide +kernel
theorem pn_1 : plainName "com/example/kakehashi/kakehashi/message/Reading" = true := by first | (simp [plainName, overriddenIn]; done) | decide +kernel
theorem oneof_3 (z : Int32) (h1 : 0 ≤ z.toInt) (h2 : z.toInt < 3) : z = 0 ∨ z = 1 ∨ z = 2 := by
  have q : z.toInt = 0 ∨ z.toInt = 1 ∨ z.toInt = 2 := by omega
  rcases q with q | q | q
  · exact Or.inl (Int32.toInt_inj.mp (q.trans rfl))
  · exact Or.inr (Or.inl (Int32.toInt_inj.mp (q.trans rfl)))
  · exact Or.inr (Or.inr ((Int32.toInt_inj.mp (q.trans rfl))))
theorem oneof_9 (z : Int32) (h1 : 0 ≤ z.toInt) (h2 : z.toInt < 9) : z = 0 ∨ z = 1 ∨ z = 2 ∨ z = 3 ∨ z = 4 ∨ z = 5 ∨ z = 6 ∨ z = 7 ∨ z = 8 := by
  have q : z.toInt = 0 ∨ z.toInt = 1 ∨ z.toInt = 2 ∨ z.toInt = 3 ∨ z.toInt = 4 ∨ z.toInt = 5 ∨ z.toInt = 6 ∨ z.toInt = 7 ∨ z.toInt = 8 := by omega
  rcases q with q | q | q | q | q | q | q | q | q
  · exact Or.inl (Int32.toInt_inj.mp (q.trans rfl))
  · exact Or.inr (Or.inl (Int32.toInt_inj.mp (q.trans rfl)))
  · exact Or.inr (Or.inr (Or.inl (Int32.toInt_inj.mp (q.trans rfl))))
  · exact Or.inr (Or.inr (Or.inr (Or.inl (Int32.toInt_inj.mp (q.trans rfl)))))
  · exact Or.inr (Or.inr (Or.inr (Or.inr (Or.inl (Int32.toInt_inj.mp (q.trans rfl))))))
  · exact Or.inr (Or.inr (Or.inr (Or.inr (Or.inr (Or.inl (Int32.toInt_inj.mp (q.trans rfl)))))))
  · exact Or.inr (Or.inr (Or.inr (Or.inr (Or.inr (Or.inr (Or.inl (Int32.toInt_inj.mp (q.trans rfl))))))))
  · exact Or.inr (Or.inr (Or.inr (Or.inr (Or.inr (Or.inr (Or.inr (Or.inl (Int32.toInt_inj.mp (q.trans rfl)))))))))
  · exact Or.inr (Or.inr (Or.inr (Or.inr (Or.inr (Or.inr (Or.inr (Or.inr ((Int32.toInt_inj.mp (q.trans rfl))))))))))
theorem rem_3 (x : Int32) : (x &&& (2147483647 : Int32)) % (3 : Int32) = (0 : Int32) ∨ (x &&& (2147483647 : Int32)) % (3 : Int32) = (1 : Int32) ∨ (x &&& (2147483647 : Int32)) % (3 : Int32) = (2 : Int32) := by
  have h0 : 0 ≤ (x &&& (2147483647 : Int32)).toInt := (c_andS x 2147483647).2.2 (by decide)
  have p := (c_irem (x &&& (2147483647 : Int32)) 3 3 rfl).1 h0
  exact oneof_3 _ (by rw [p]; omega) (by rw [p]; omega)
theorem rem_9 (x : Int32) : (x &&& (2147483647 : Int32)) % (9 : Int32) = (0 : Int32) ∨ (x &&& (2147483647 : Int32)) % (9 : Int32) = (1 : Int32) ∨ (x &&& (2147483647 : Int32)) % (9 : Int32) = (2 : Int32) ∨ (x &&& (2147483647 : Int32)) % (9 : Int32) = (3 : Int32) ∨ (x &&& (2147483647 : Int32)) % (9 : Int32) = (4 : Int32) ∨ (x &&& (2147483647 : Int32)) % (9 : Int32) = (5 : Int32) ∨ (x &&& (2147483647 : Int32)) % (9 : Int32) = (6 : Int32) ∨ (x &&& (2147483647 : Int32)) % (9 : Int32) = (7 : Int32) ∨ (x &&& (2147483647 : Int32)) % (9 : Int32) = (8 : Int32) := by
  have h0 : 0 ≤ (x &&& (2147483647 : Int32)).toInt := (c_andS x 2147483647).2.2 (by decide)
  have p := (c_irem (x &&& (2147483647 : Int32)) 9 9 rfl).1 h0
  exact oneof_9 _ (by rw [p]; omega) (by rw [p]; omega)
def btv (p : Int64) (m dv i sh : Int32) : Int32 := if ((m.toUInt32 >>> (i &&& 31).toUInt32).toInt32) &&& (1 : Int32) = (0 : Int32) then ((((p.toUInt64 >>> (sh &&& 0x3f).toInt64.toUInt64).toInt64).toInt32).toInt8.toInt32) else (dv.toInt8.toInt32)
def minv (x y : Int32) : Int32 := if y < x then y else x
def maxv (x y : Int32) : Int32 := if x < y then y else x
def hitv (fr to i b c : Int32) : Int32 := if i < fr then 0 else if i < to then (if (b &&& (255 : Int32)) = c then 1 else 0) else 0
theorem own_nar8 (x : Int32) : nar .byte (x.toInt8.toInt32) = x.toInt8.toInt32 := by simp [nar]
theorem own_bt (p : Int64) (m dv i sh : Int32) : (-128 ≤ (btv p m dv i sh).toInt ∧ (btv p m dv i sh).toInt < 128) ∧ nar .byte (btv p m dv i sh) = btv p m dv i sh := by
  unfold btv; split
  · exact ⟨(c_i2b _).2, own_nar8 _⟩
  · exact ⟨(c_i2b _).2, own_nar8 _⟩
theorem own_c (d : Int32) : 0 ≤ ((d &&& (127 : Int32)).toUInt32.toUInt16.toUInt32.toInt32).toInt ∧ ((d &&& (127 : Int32)).toUInt32.toUInt16.toUInt32.toInt32).toInt ≤ 127 := by
  have h1 := c_and d 127 (by decide); have h2 := c_i2c (d &&& (127 : Int32)); have e : (127 : Int32).toInt = 127 := rfl
  omega
theorem own_eqv {b c : Int32} (hc : 0 ≤ c.toInt ∧ c.toInt ≤ 127) (hb : -128 ≤ b.toInt ∧ b.toInt < 128) : ((b &&& (255 : Int32)) = c) ↔ b = c := by
  have h := c_mask b 255 8 (by decide) (by decide)
  rw [← Int32.toInt_inj, ← Int32.toInt_inj, h]
  show b.toInt % ((2 ^ 8 : Nat) : Int) = _ ↔ _
  have e : ((2 ^ 8 : Nat) : Int) = 256 := by decide
  rw [e]; omega
theorem own_lit {i j : Int32} {to : Int32} (hij : i < j) (h : ¬ (i < to)) : ¬ (j < to) := by
  rw [Int32.lt_iff_toInt_lt] at *; omega
theorem own_min {x y : Int32} (h1 : x = (0 : Int32) ∨ x = (1 : Int32) ∨ x = (2 : Int32) ∨ x = (3 : Int32) ∨ x = (4 : Int32) ∨ x = (5 : Int32) ∨ x = (6 : Int32) ∨ x = (7 : Int32) ∨ x = (8 : Int32)) (h2 : y = (0 : Int32) ∨ y = (1 : Int32) ∨ y = (2 : Int32) ∨ y = (3 : Int32) ∨ y = (4 : Int32) ∨ y = (5 : Int32) ∨ y = (6 : Int32) ∨ y = (7 : Int32) ∨ y = (8 : Int32)) : minv x y = (0 : Int32) ∨ minv x y = (1 : Int32) ∨ minv x y = (2 : Int32) ∨ minv x y = (3 : Int32) ∨ minv x y = (4 : Int32) ∨ minv x y = (5 : Int32) ∨ minv x y = (6 : Int32) ∨ minv x y = (7 : Int32) ∨ minv x y = (8 : Int32) := by
  unfold minv; split
  · exact h2
  · exact h1
theorem own_max {x y : Int32} (h1 : x = (0 : Int32) ∨ x = (1 : Int32) ∨ x = (2 : Int32) ∨ x = (3 : Int32) ∨ x = (4 : Int32) ∨ x = (5 : Int32) ∨ x = (6 : Int32) ∨ x = (7 : Int32) ∨ x = (8 : Int32)) (h2 : y = (0 : Int32) ∨ y = (1 : Int32) ∨ y = (2 : Int32) ∨ y = (3 : Int32) ∨ y = (4 : Int32) ∨ y = (5 : Int32) ∨ y = (6 : Int32) ∨ y = (7 : Int32) ∨ y = (8 : Int32)) : ¬ ((8 : Int32) < maxv x y) := by
  unfold maxv; split
  · rcases h2 with rfl | rfl | rfl | rfl | rfl | rfl | rfl | rfl | rfl <;> decide
  · rcases h1 with rfl | rfl | rfl | rfl | rfl | rfl | rfl | rfl | rfl <;> decide
def cnt8 (n hi c : Int32) : Int32 := n
def cnt7 (n hi c b7 : Int32) : Int32 := if (7 : Int32) < hi then (if b7 = c then cnt8 (n + 1) hi c  else cnt8 n hi c ) else n
def cnt6 (n hi c b6 b7 : Int32) : Int32 := if (6 : Int32) < hi then (if b6 = c then cnt7 (n + 1) hi c b7 else cnt7 n hi c b7) else n
def cnt5 (n hi c b5 b6 b7 : Int32) : Int32 := if (5 : Int32) < hi then (if b5 = c then cnt6 (n + 1) hi c b6 b7 else cnt6 n hi c b6 b7) else n
def cnt4 (n hi c b4 b5 b6 b7 : Int32) : Int32 := if (4 : Int32) < hi then (if b4 = c then cnt5 (n + 1) hi c b5 b6 b7 else cnt5 n hi c b5 b6 b7) else n
def cnt3 (n hi c b3 b4 b5 b6 b7 : Int32) : Int32 := if (3 : Int32) < hi then (if b3 = c then cnt4 (n + 1) hi c b4 b5 b6 b7 else cnt4 n hi c b4 b5 b6 b7) else n
def cnt2 (n hi c b2 b3 b4 b5 b6 b7 : Int32) : Int32 := if (2 : Int32) < hi then (if b2 = c then cnt3 (n + 1) hi c b3 b4 b5 b6 b7 else cnt3 n hi c b3 b4 b5 b6 b7) else n
def cnt1 (n hi c b1 b2 b3 b4 b5 b6 b7 : Int32) : Int32 := if (1 : Int32) < hi then (if b1 = c then cnt2 (n + 1) hi c b2 b3 b4 b5 b6 b7 else cnt2 n hi c b2 b3 b4 b5 b6 b7) else n
def cnt0 (n hi c b0 b1 b2 b3 b4 b5 b6 b7 : Int32) : Int32 := if (0 : Int32) < hi then (if b0 = c then cnt1 (n + 1) hi c b1 b2 b3 b4 b5 b6 b7 else cnt1 n hi c b1 b2 b3 b4 b5 b6 b7) else n
def cntv (lo hi c b0 b1 b2 b3 b4 b5 b6 b7 : Int32) : Int32 := if lo = 0 then cnt0 0 hi c b0 b1 b2 b3 b4 b5 b6 b7 else if lo = 1 then cnt1 0 hi c b1 b2 b3 b4 b5 b6 b7 else if lo = 2 then cnt2 0 hi c b2 b3 b4 b5 b6 b7 else if lo = 3 then cnt3 0 hi c b3 b4 b5 b6 b7 else if lo = 4 then cnt4 0 hi c b4 b5 b6 b7 else if lo = 5 then cnt5 0 hi c b5 b6 b7 else if lo = 6 then cnt6 0 hi c b6 b7 else if lo = 7 then cnt7 0 hi c b7 else cnt8 0 hi c
def one (i hi b c : Int32) : Int32 := if i < hi then (if b = c then 1 else 0) else 0
theorem cs8 (n hi c : Int32) : cnt8 n hi c = n + 0 := by simp [cnt8]
theorem cs7 (n hi c b7 : Int32) : cnt7 n hi c b7 = n + (one 7 hi b7 c + (0 : Int32)) := by
  unfold cnt7
  by_cases l7 : (7 : Int32) < hi
  · by_cases q : b7 = c
    · rw [if_pos l7, if_pos q, cs8]; simp [one, l7, q, Int32.add_assoc]
    · rw [if_pos l7, if_neg q, cs8]; simp [one, l7, q]
  · rw [if_neg l7]

    simp [one, l7]
theorem cs6 (n hi c b6 b7 : Int32) : cnt6 n hi c b6 b7 = n + (one 6 hi b6 c + (one 7 hi b7 c + (0 : Int32))) := by
  unfold cnt6
  by_cases l6 : (6 : Int32) < hi
  · by_cases q : b6 = c
    · rw [if_pos l6, if_pos q, cs7]; simp [one, l6, q, Int32.add_assoc]
    · rw [if_pos l6, if_neg q, cs7]; simp [one, l6, q]
  · rw [if_neg l6]
    have l7 := own_lit (j := 7) (by decide) l6
    simp [one, l6, l7]
theorem cs5 (n hi c b5 b6 b7 : Int32) : cnt5 n hi c b5 b6 b7 = n + (one 5 hi b5 c + (one 6 hi b6 c + (one 7 hi b7 c + (0 : Int32)))) := by
  unfold cnt5
  by_cases l5 : (5 : Int32) < hi
  · by_cases q : b5 = c
    · rw [if_pos l5, if_pos q, cs6]; simp [one, l5, q, Int32.add_assoc]
    · rw [if_pos l5, if_neg q, cs6]; simp [one, l5, q]
  · rw [if_neg l5]
    have l6 := own_lit (j := 6) (by decide) l5
    have l7 := own_lit (j := 7) (by decide) l5
    simp [one, l5, l6, l7]
theorem cs4 (n hi c b4 b5 b6 b7 : Int32) : cnt4 n hi c b4 b5 b6 b7 = n + (one 4 hi b4 c + (one 5 hi b5 c + (one 6 hi b6 c + (one 7 hi b7 c + (0 : Int32))))) := by
  unfold cnt4
  by_cases l4 : (4 : Int32) < hi
  · by_cases q : b4 = c
    · rw [if_pos l4, if_pos q, cs5]; simp [one, l4, q, Int32.add_assoc]
    · rw [if_pos l4, if_neg q, cs5]; simp [one, l4, q]
  · rw [if_neg l4]
    have l5 := own_lit (j := 5) (by decide) l4
    have l6 := own_lit (j := 6) (by decide) l4
    have l7 := own_lit (j := 7) (by decide) l4
    simp [one, l4, l5, l6, l7]
theorem cs3 (n hi c b3 b4 b5 b6 b7 : Int32) : cnt3 n hi c b3 b4 b5 b6 b7 = n + (one 3 hi b3 c + (one 4 hi b4 c + (one 5 hi b5 c + (one 6 hi b6 c + (one 7 hi b7 c + (0 : Int32)))))) := by
  unfold cnt3
  by_cases l3 : (3 : Int32) < hi
  · by_cases q : b3 = c
    · rw [if_pos l3, if_pos q, cs4]; simp [one, l3, q, Int32.add_assoc]
    · rw [if_pos l3, if_neg q, cs4]; simp [one, l3, q]
  · rw [if_neg l3]
    have l4 := own_lit (j := 4) (by decide) l3
    have l5 := own_lit (j := 5) (by decide) l3
    have l6 := own_lit (j := 6) (by decide) l3
    have l7 := own_lit (j := 7) (by decide) l3
    simp [one, l3, l4, l5, l6, l7]
theorem cs2 (n hi c b2 b3 b4 b5 b6 b7 : Int32) : cnt2 n hi c b2 b3 b4 b5 b6 b7 = n + (one 2 hi b2 c + (one 3 hi b3 c + (one 4 hi b4 c + (one 5 hi b5 c + (one 6 hi b6 c + (one 7 hi b7 c + (0 : Int32))))))) := by
  unfold cnt2
  by_cases l2 : (2 : Int32) < hi
  · by_cases q : b2 = c
    · rw [if_pos l2, if_pos q, cs3]; simp [one, l2, q, Int32.add_assoc]
    · rw [if_pos l2, if_neg q, cs3]; simp [one, l2, q]
  · rw [if_neg l2]
    have l3 := own_lit (j := 3) (by decide) l2
    have l4 := own_lit (j := 4) (by decide) l2
    have l5 := own_lit (j := 5) (by decide) l2
    have l6 := own_lit (j := 6) (by decide) l2
    have l7 := own_lit (j := 7) (by decide) l2
    simp [one, l2, l3, l4, l5, l6, l7]
theorem cs1 (n hi c b1 b2 b3 b4 b5 b6 b7 : Int32) : cnt1 n hi c b1 b2 b3 b4 b5 b6 b7 = n + (one 1 hi b1 c + (one 2 hi b2 c + (one 3 hi b3 c + (one 4 hi b4 c + (one 5 hi b5 c + (one 6 hi b6 c + (one 7 hi b7 c + (0 : Int32)))))))) := by
  unfold cnt1
  by_cases l1 : (1 : Int32) < hi
  · by_cases q : b1 = c
    · rw [if_pos l1, if_pos q, cs2]; simp [one, l1, q, Int32.add_assoc]
    · rw [if_pos l1, if_neg q, cs2]; simp [one, l1, q]
  · rw [if_neg l1]
    have l2 := own_lit (j := 2) (by decide) l1
    have l3 := own_lit (j := 3) (by decide) l1
    have l4 := own_lit (j := 4) (by decide) l1
    have l5 := own_lit (j := 5) (by decide) l1
    have l6 := own_lit (j := 6) (by decide) l1
    have l7 := own_lit (j := 7) (by decide) l1
    simp [one, l1, l2, l3, l4, l5, l6, l7]
theorem cs0 (n hi c b0 b1 b2 b3 b4 b5 b6 b7 : Int32) : cnt0 n hi c b0 b1 b2 b3 b4 b5 b6 b7 = n + (one 0 hi b0 c + (one 1 hi b1 c + (one 2 hi b2 c + (one 3 hi b3 c + (one 4 hi b4 c + (one 5 hi b5 c + (one 6 hi b6 c + (one 7 hi b7 c + (0 : Int32))))))))) := by
  unfold cnt0
  by_cases l0 : (0 : Int32) < hi
  · by_cases q : b0 = c
    · rw [if_pos l0, if_pos q, cs1]; simp [one, l0, q, Int32.add_assoc]
    · rw [if_pos l0, if_neg q, cs1]; simp [one, l0, q]
  · rw [if_neg l0]
    have l1 := own_lit (j := 1) (by decide) l0
    have l2 := own_lit (j := 2) (by decide) l0
    have l3 := own_lit (j := 3) (by decide) l0
    have l4 := own_lit (j := 4) (by decide) l0
    have l5 := own_lit (j := 5) (by decide) l0
    have l6 := own_lit (j := 6) (by decide) l0
    have l7 := own_lit (j := 7) (by decide) l0
    simp [one, l0, l1, l2, l3, l4, l5, l6, l7]
theorem own_hit {lo hi i b c : Int32} (hc : 0 ≤ c.toInt ∧ c.toInt ≤ 127) (hb : -128 ≤ b.toInt ∧ b.toInt < 128) : hitv lo hi i b c = if i < lo then 0 else one i hi b c := by
  unfold hitv one; simp only [own_eqv hc hb]
theorem own_sum (lo hi c : Int32) {b0 b1 b2 b3 b4 b5 b6 b7 : Int32} (kf : lo = (0 : Int32) ∨ lo = (1 : Int32) ∨ lo = (2 : Int32) ∨ lo = (3 : Int32) ∨ lo = (4 : Int32) ∨ lo = (5 : Int32) ∨ lo = (6 : Int32) ∨ lo = (7 : Int32) ∨ lo = (8 : Int32)) (hc : 0 ≤ c.toInt ∧ c.toInt ≤ 127) (h0 : -128 ≤ b0.toInt ∧ b0.toInt < 128) (h1 : -128 ≤ b1.toInt ∧ b1.toInt < 128) (h2 : -128 ≤ b2.toInt ∧ b2.toInt < 128) (h3 : -128 ≤ b3.toInt ∧ b3.toInt < 128) (h4 : -128 ≤ b4.toInt ∧ b4.toInt < 128) (h5 : -128 ≤ b5.toInt ∧ b5.toInt < 128) (h6 : -128 ≤ b6.toInt ∧ b6.toInt < 128) (h7 : -128 ≤ b7.toInt ∧ b7.toInt < 128) : cntv lo hi c b0 b1 b2 b3 b4 b5 b6 b7 = (((((((hitv lo hi 0 b0 c + hitv lo hi 1 b1 c) + hitv lo hi 2 b2 c) + hitv lo hi 3 b3 c) + hitv lo hi 4 b4 c) + hitv lo hi 5 b5 c) + hitv lo hi 6 b6 c) + hitv lo hi 7 b7 c) := by
  rw [own_hit hc h0, own_hit hc h1, own_hit hc h2, own_hit hc h3, own_hit hc h4, own_hit hc h5, own_hit hc h6, own_hit hc h7]
  rcases kf with rfl | rfl | rfl | rfl | rfl | rfl | rfl | rfl | rfl
  · simp +decide [cntv, cs0, Int32.add_assoc]
  · simp +decide [cntv, cs1, Int32.add_assoc]
  · simp +decide [cntv, cs2, Int32.add_assoc]
  · simp +decide [cntv, cs3, Int32.add_assoc]
  · simp +decide [cntv, cs4, Int32.add_assoc]
  · simp +decide [cntv, cs5, Int32.add_assoc]
  · simp +decide [cntv, cs6, Int32.add_assoc]
  · simp +decide [cntv, cs7, Int32.add_assoc]
  · simp +decide [cntv, cs8, Int32.add_assoc]
def Ctx (Z : State) (w_ONE_CHAR_A_BYTE w_ASCII w_UTF_8 : Addr) : Prop := Sta Z Z.heap "com/example/kakehashi/kakehashi/message/Reading" "ONE_CHAR_A_BYTE" "Lcom/example/kakehashi/kakehashi/message/Reading;" (.ref w_ONE_CHAR_A_BYTE) ∧ Sta Z Z.heap "com/example/kakehashi/kakehashi/message/Reading" "ASCII" "Lcom/example/kakehashi/kakehashi/message/Reading;" (.ref w_ASCII) ∧ Sta Z Z.heap "com/example/kakehashi/kakehashi/message/Reading" "UTF_8" "Lcom/example/kakehashi/kakehashi/message/Reading;" (.ref w_UTF_8) ∧ Exa Z Z.heap w_ONE_CHAR_A_BYTE "com/example/kakehashi/kakehashi/message/Reading$1" ∧ Exa Z Z.heap w_ASCII "com/example/kakehashi/kakehashi/message/Reading$2" ∧ Exa Z Z.heap w_UTF_8 "com/example/kakehashi/kakehashi/message/Reading$3"
set_option maxRecDepth 65536 in
set_option maxHeartbeats 40000000 in
theorem c1_bt (l : Launch) {Z : State} {a0 : Array Value} (hw : ∀ d ∈ tables_1, d.before a0 Z = true) (ws : List Jvm.Cond) {w_ONE_CHAR_A_BYTE w_ASCII w_UTF_8 : Addr} {n0 : Nat} {h0 : Heap} (C : Ctx Z w_ONE_CHAR_A_BYTE w_ASCII w_UTF_8) (O0 : Old Z n0 h0) (Z0 : n0 ≤ h0.size) (x1 : Int64) (x2 : Int32) (x3 : Int32) : zCon l Z (⟨"com/example/kakehashi/kakehashi/message/ReadingCountPinLaw", "bt", "(JIII)B"⟩ : MethodName) method_3_code 5 (some .byte) ws ({ frames := 0, cells := 0, slots := 0, locals := 0 } : Room) #[(.long x1), (.int x2), (.int x3), (.int 0)] h0 (zSame (some (.int (btv x1 x2 x3 (0 : Int32) (0 : Int32)))) h0) := by
  obtain ⟨S_w_ONE_CHAR_A_BYTE, S_w_ASCII, S_w_UTF_8, E_w_ONE_CHAR_A_BYTE, E_w_ASCII, E_w_UTF_8⟩ := C
  refine zenter (plainFor_of_name pn_0) (L0 := #[.val (.long x1), .second, iv x2, iv x3, iv 0]) (fun m => by first | rfl | simp [entryFrame, mkF, argsToLocals, Value.category, maxLocals]) ?_
  intro p e s m below meth c T0 hx hZ hby hml hown0 hnm hret hlk X0 e0
  have hown : s.vm.findClass "com/example/kakehashi/kakehashi/message/ReadingCountPinLaw" = some m.cls := hown0
  have K0 := Keep.refl h0 []
  have N0 := Fr.nil n0
  show zEnds p e below s T0 (mkF m 0 #[.val (.long x1), .second, iv x2, iv x3, iv 0] []) _ _ _
  refine ziloadN X0 hx hby d_method_3_0 rfl (ziload X0 hx hby d_method_3_1 rfl (ziushr X0 hx hby d_method_3_3 ((x2.toUInt32 >>> ((0 : Int32) &&& 31).toUInt32).toInt32) rfl (ziconst X0 hx hby d_method_3_4 (z := (1 : Int32)) rfl (ziand X0 hx hby d_method_3_5 (((x2.toUInt32 >>> ((0 : Int32) &&& 31).toUInt32).toInt32) &&& (1 : Int32)) rfl ?_))))
  show zEnds p e below s T0 (mkF m 6 #[.val (.long x1), .second, iv x2, iv x3, iv 0] [(.int (((x2.toUInt32 >>> ((0 : Int32) &&& 31).toUInt32).toInt32) &&& (1 : Int32)))]) _ _ _
  by_cases hc1 : (((x2.toUInt32 >>> ((0 : Int32) &&& 31).toUInt32).toInt32) &&& (1 : Int32)) = (0 : Int32)
  · refine zifYes X0 hx hby d_method_3_6 12 ((if0 _ _).trans (teq hc1).1) (by decide) (by decide) (zlloadN X0 hx hby d_method_3_12 rfl (zbipush X0 hx hby d_method_3_13 (z := (8 : Int32)) rfl (ziload X0 hx hby d_method_3_15 rfl (zimul X0 hx hby d_method_3_17 (0 : Int32) (by decide) (zlushr X0 hx hby d_method_3_18 ((x1.toUInt64 >>> ((0 : Int32) &&& 0x3f).toInt64.toUInt64).toInt64) rfl (zl2i X0 hx hby d_method_3_19 (((x1.toUInt64 >>> ((0 : Int32) &&& 0x3f).toInt64.toUInt64).toInt64).toInt32) rfl (zi2b X0 hx hby d_method_3_20 ((((x1.toUInt64 >>> ((0 : Int32) &&& 0x3f).toInt64.toUInt64).toInt64).toInt32).toInt8.toInt32) rfl ?_)))))))
    show zEnds p e below s T0 (mkF m 21 #[.val (.long x1), .second, iv x2, iv x3, iv 0] [(.int ((((x1.toUInt64 >>> ((0 : Int32) &&& 0x3f).toInt64.toUInt64).toInt64).toInt32).toInt8.toInt32))]) _ _ _
    exact zretZ X0 hx hby d_method_3_21 hret hlk (by simp) (Jvm.Free.XT.narrow_b _) (by decide) (by decide) ⟨(by simp only [btv, if_pos, if_neg, hc1, not_false_eq_true]), e0, rfl⟩
  · refine zifNo X0 hx hby d_method_3_6 ((if0 _ _).trans (feq hc1).1) (ziloadN X0 hx hby d_method_3_9 rfl (zi2b X0 hx hby d_method_3_10 (x3.toInt8.toInt32) rfl ?_))
    show zEnds p e below s T0 (mkF m 11 #[.val (.long x1), .second, iv x2, iv x3, iv 0] [(.int (x3.toInt8.toInt32))]) _ _ _
    exact zretZ X0 hx hby d_method_3_11 hret hlk (by simp) (Jvm.Free.XT.narrow_b _) (by decide) (by decide) ⟨(by simp only [btv, if_pos, if_neg, hc1, not_false_eq_true]), e0, rfl⟩
set_option maxRecDepth 65536 in
set_option maxHeartbeats 40000000 in
theorem c3_bt (l : Launch) {Z : State} {a0 : Array Value} (hw : ∀ d ∈ tables_1, d.before a0 Z = true) (ws : List Jvm.Cond) {w_ONE_CHAR_A_BYTE w_ASCII w_UTF_8 : Addr} {n0 : Nat} {h0 : Heap} (C : Ctx Z w_ONE_CHAR_A_BYTE w_ASCII w_UTF_8) (O0 : Old Z n0 h0) (Z0 : n0 ≤ h0.size) (x1 : Int64) (x2 : Int32) (x3 : Int32) : zCon l Z (⟨"com/example/kakehashi/kakehashi/message/ReadingCountPinLaw", "bt", "(JIII)B"⟩ : MethodName) method_3_code 5 (some .byte) ws ({ frames := 0, cells := 0, slots := 0, locals := 0 } : Room) #[(.long x1), (.int x2), (.int x3), (.int 1)] h0 (zSame (some (.int (btv x1 x2 x3 (1 : Int32) (8 : Int32)))) h0) := by
  obtain ⟨S_w_ONE_CHAR_A_BYTE, S_w_ASCII, S_w_UTF_8, E_w_ONE_CHAR_A_BYTE, E_w_ASCII, E_w_UTF_8⟩ := C
  refine zenter (plainFor_of_name pn_0) (L0 := #[.val (.long x1), .second, iv x2, iv x3, iv 1]) (fun m => by first | rfl | simp [entryFrame, mkF, argsToLocals, Value.category, maxLocals]) ?_
  intro p e s m below meth c T0 hx hZ hby hml hown0 hnm hret hlk X0 e0
  have hown : s.vm.findClass "com/example/kakehashi/kakehashi/message/ReadingCountPinLaw" = some m.cls := hown0
  have K0 := Keep.refl h0 []
  have N0 := Fr.nil n0
  show zEnds p e below s T0 (mkF m 0 #[.val (.long x1), .second, iv x2, iv x3, iv 1] []) _ _ _
  refine ziloadN X0 hx hby d_method_3_0 rfl (ziload X0 hx hby d_method_3_1 rfl (ziushr X0 hx hby d_method_3_3 ((x2.toUInt32 >>> ((1 : Int32) &&& 31).toUInt32).toInt32) rfl (ziconst X0 hx hby d_method_3_4 (z := (1 : Int32)) rfl (ziand X0 hx hby d_method_3_5 (((x2.toUInt32 >>> ((1 : Int32) &&& 31).toUInt32).toInt32) &&& (1 : Int32)) rfl ?_))))
  show zEnds p e below s T0 (mkF m 6 #[.val (.long x1), .second, iv x2, iv x3, iv 1] [(.int (((x2.toUInt32 >>> ((1 : Int32) &&& 31).toUInt32).toInt32) &&& (1 : Int32)))]) _ _ _
  by_cases hc1 : (((x2.toUInt32 >>> ((1 : Int32) &&& 31).toUInt32).toInt32) &&& (1 : Int32)) = (0 : Int32)
  · refine zifYes X0 hx hby d_method_3_6 12 ((if0 _ _).trans (teq hc1).1) (by decide) (by decide) (zlloadN X0 hx hby d_method_3_12 rfl (zbipush X0 hx hby d_method_3_13 (z := (8 : Int32)) rfl (ziload X0 hx hby d_method_3_15 rfl (zimul X0 hx hby d_method_3_17 (8 : Int32) (by decide) (zlushr X0 hx hby d_method_3_18 ((x1.toUInt64 >>> ((8 : Int32) &&& 0x3f).toInt64.toUInt64).toInt64) rfl (zl2i X0 hx hby d_method_3_19 (((x1.toUInt64 >>> ((8 : Int32) &&& 0x3f).toInt64.toUInt64).toInt64).toInt32) rfl (zi2b X0 hx hby d_method_3_20 ((((x1.toUInt64 >>> ((8 : Int32) &&& 0x3f).toInt64.toUInt64).toInt64).toInt32).toInt8.toInt32) rfl ?_)))))))
    show zEnds p e below s T0 (mkF m 21 #[.val (.long x1), .second, iv x2, iv x3, iv 1] [(.int ((((x1.toUInt64 >>> ((8 : Int32) &&& 0x3f).toInt64.toUInt64).toInt64).toInt32).toInt8.toInt32))]) _ _ _
    exact zretZ X0 hx hby d_method_3_21 hret hlk (by simp) (Jvm.Free.XT.narrow_b _) (by decide) (by decide) ⟨(by simp only [btv, if_pos, if_neg, hc1, not_false_eq_true]), e0, rfl⟩
  · refine zifNo X0 hx hby d_method_3_6 ((if0 _ _).trans (feq hc1).1) (ziloadN X0 hx hby d_method_3_9 rfl (zi2b X0 hx hby d_method_3_10 (x3.toInt8.toInt32) rfl ?_))
    show zEnds p e below s T0 (mkF m 11 #[.val (.long x1), .second, iv x2, iv x3, iv 1] [(.int (x3.toInt8.toInt32))]) _ _ _
    exact zretZ X0 hx hby d_method_3_11 hret hlk (by simp) (Jvm.Free.XT.narrow_b _) (by decide) (by decide) ⟨(by simp only [btv, if_pos, if_neg, hc1, not_false_eq_true]), e0, rfl⟩
set_option maxRecDepth 65536 in
set_option maxHeartbeats 40000000 in
theorem c5_bt (l : Launch) {Z : State} {a0 : Array Value} (hw : ∀ d ∈ tables_1, d.before a0 Z = true) (ws : List Jvm.Cond) {w_ONE_CHAR_A_BYTE w_ASCII w_UTF_8 : Addr} {n0 : Nat} {h0 : Heap} (C : Ctx Z w_ONE_CHAR_A_BYTE w_ASCII w_UTF_8) (O0 : Old Z n0 h0) (Z0 : n0 ≤ h0.size) (x1 : Int64) (x2 : Int32) (x3 : Int32) : zCon l Z (⟨"com/example/kakehashi/kakehashi/message/ReadingCountPinLaw", "bt", "(JIII)B"⟩ : MethodName) method_3_code 5 (some .byte) ws ({ frames := 0, cells := 0, slots := 0, locals := 0 } : Room) #[(.long x1), (.int x2), (.int x3), (.int 2)] h0 (zSame (some (.int (btv x1 x2 x3 (2 : Int32) (16 : Int32)))) h0) := by
  obtain ⟨S_w_ONE_CHAR_A_BYTE, S_w_ASCII, S_w_UTF_8, E_w_ONE_CHAR_A_BYTE, E_w_ASCII, E_w_UTF_8⟩ := C
  refine zenter (plainFor_of_name pn_0) (L0 := #[.val (.long x1), .second, iv x2, iv x3, iv 2]) (fun m => by first | rfl | simp [entryFrame, mkF, argsToLocals, Value.category, maxLocals]) ?_
  intro p e s m below meth c T0 hx hZ hby hml hown0 hnm hret hlk X0 e0
  have hown : s.vm.findClass "com/example/kakehashi/kakehashi/message/ReadingCountPinLaw" = some m.cls := hown0
  have K0 := Keep.refl h0 []
  have N0 := Fr.nil n0
  show zEnds p e below s T0 (mkF m 0 #[.val (.long x1), .second, iv x2, iv x3, iv 2] []) _ _ _
  refine ziloadN X0 hx hby d_method_3_0 rfl (ziload X0 hx hby d_method_3_1 rfl (ziushr X0 hx hby d_method_3_3 ((x2.toUInt32 >>> ((2 : Int32) &&& 31).toUInt32).toInt32) rfl (ziconst X0 hx hby d_method_3_4 (z := (1 : Int32)) rfl (ziand X0 hx hby d_method_3_5 (((x2.toUInt32 >>> ((2 : Int32) &&& 31).toUInt32).toInt32) &&& (1 : Int32)) rfl ?_))))
  show zEnds p e below s T0 (mkF m 6 #[.val (.long x1), .second, iv x2, iv x3, iv 2] [(.int (((x2.toUInt32 >>> ((2 : Int32) &&& 31).toUInt32).toInt32) &&& (1 : Int32)))]) _ _ _
  by_cases hc1 : (((x2.toUInt32 >>> ((2 : Int32) &&& 31).toUInt32).toInt32) &&& (1 : Int32)) = (0 : Int32)
  · refine zifYes X0 hx hby d_method_3_6 12 ((if0 _ _).trans (teq hc1).1) (by decide) (by decide) (zlloadN X0 hx hby d_method_3_12 rfl (zbipush X0 hx hby d_method_3_13 (z := (8 : Int32)) rfl (ziload X0 hx hby d_method_3_15 rfl (zimul X0 hx hby d_method_3_17 (16 : Int32) (by decide) (zlushr X0 hx hby d_method_3_18 ((x1.toUInt64 >>> ((16 : Int32) &&& 0x3f).toInt64.toUInt64).toInt64) rfl (zl2i X0 hx hby d_method_3_19 (((x1.toUInt64 >>> ((16 : Int32) &&& 0x3f).toInt64.toUInt64).toInt64).toInt32) rfl (zi2b X0 hx hby d_method_3_20 ((((x1.toUInt64 >>> ((16 : Int32) &&& 0x3f).toInt64.toUInt64).toInt64).toInt32).toInt8.toInt32) rfl ?_)))))))
    show zEnds p e below s T0 (mkF m 21 #[.val (.long x1), .second, iv x2, iv x3, iv 2] [(.int ((((x1.toUInt64 >>> ((16 : Int32) &&& 0x3f).toInt64.toUInt64).toInt64).toInt32).toInt8.toInt32))]) _ _ _
    exact zretZ X0 hx hby d_method_3_21 hret hlk (by simp) (Jvm.Free.XT.narrow_b _) (by decide) (by decide) ⟨(by simp only [btv, if_pos, if_neg, hc1, not_false_eq_true]), e0, rfl⟩
  · refine zifNo X0 hx hby d_method_3_6 ((if0 _ _).trans (feq hc1).1) (ziloadN X0 hx hby d_method_3_9 rfl (zi2b X0 hx hby d_method_3_10 (x3.toInt8.toInt32) rfl ?_))
    show zEnds p e below s T0 (mkF m 11 #[.val (.long x1), .second, iv x2, iv x3, iv 2] [(.int (x3.toInt8.toInt32))]) _ _ _
    exact zretZ X0 hx hby d_method_3_11 hret hlk (by simp) (Jvm.Free.XT.narrow_b _) (by decide) (by decide) ⟨(by simp only [btv, if_pos, if_neg, hc1, not_false_eq_true]), e0, rfl⟩
set_option maxRecDepth 65536 in
set_option maxHeartbeats 40000000 in
theorem c7_bt (l : Launch) {Z : State} {a0 : Array Value} (hw : ∀ d ∈ tables_1, d.before a0 Z = true) (ws : List Jvm.Cond) {w_ONE_CHAR_A_BYTE w_ASCII w_UTF_8 : Addr} {n0 : Nat} {h0 : Heap} (C : Ctx Z w_ONE_CHAR_A_BYTE w_ASCII w_UTF_8) (O0 : Old Z n0 h0) (Z0 : n0 ≤ h0.size) (x1 : Int64) (x2 : Int32) (x3 : Int32) : zCon l Z (⟨"com/example/kakehashi/kakehashi/message/ReadingCountPinLaw", "bt", "(JIII)B"⟩ : MethodName) method_3_code 5 (some .byte) ws ({ frames := 0, cells := 0, slots := 0, locals := 0 } : Room) #[(.long x1), (.int x2), (.int x3), (.int 3)] h0 (zSame (some (.int (btv x1 x2 x3 (3 : Int32) (24 : Int32)))) h0) := by
  obtain ⟨S_w_ONE_CHAR_A_BYTE, S_w_ASCII, S_w_UTF_8, E_w_ONE_CHAR_A_BYTE, E_w_ASCII, E_w_UTF_8⟩ := C
  refine zenter (plainFor_of_name pn_0) (L0 := #[.val (.long x1), .second, iv x2, iv x3, iv 3]) (fun m => by first | rfl | simp [entryFrame, mkF, argsToLocals, Value.category, maxLocals]) ?_
  intro p e s m below meth c T0 hx hZ hby hml hown0 hnm hret hlk X0 e0
  have hown : s.vm.findClass "com/example/kakehashi/kakehashi/message/ReadingCountPinLaw" = some m.cls := hown0
  have K0 := Keep.refl h0 []
  have N0 := Fr.nil n0
  show zEnds p e below s T0 (mkF m 0 #[.val (.long x1), .second, iv x2, iv x3, iv 3] []) _ _ _
  refine ziloadN X0 hx hby d_method_3_0 rfl (ziload X0 hx hby d_method_3_1 rfl (ziushr X0 hx hby d_method_3_3 ((x2.toUInt32 >>> ((3 : Int32) &&& 31).toUInt32).toInt32) rfl (ziconst X0 hx hby d_method_3_4 (z := (1 : Int32)) rfl (ziand X0 hx hby d_method_3_5 (((x2.toUInt32 >>> ((3 : Int32) &&& 31).toUInt32).toInt32) &&& (1 : Int32)) rfl ?_))))
  show zEnds p e below s T0 (mkF m 6 #[.val (.long x1), .second, iv x2, iv x3, iv 3] [(.int (((x2.toUInt32 >>> ((3 : Int32) &&& 31).toUInt32).toInt32) &&& (1 : Int32)))]) _ _ _
  by_cases hc1 : (((x2.toUInt32 >>> ((3 : Int32) &&& 31).toUInt32).toInt32) &&& (1 : Int32)) = (0 : Int32)
  · refine zifYes X0 hx hby d_method_3_6 12 ((if0 _ _).trans (teq hc1).1) (by decide) (by decide) (zlloadN X0 hx hby d_method_3_12 rfl (zbipush X0 hx hby d_method_3_13 (z := (8 : Int32)) rfl (ziload X0 hx hby d_method_3_15 rfl (zimul X0 hx hby d_method_3_17 (24 : Int32) (by decide) (zlushr X0 hx hby d_method_3_18 ((x1.toUInt64 >>> ((24 : Int32) &&& 0x3f).toInt64.toUInt64).toInt64) rfl (zl2i X0 hx hby d_method_3_19 (((x1.toUInt64 >>> ((24 : Int32) &&& 0x3f).toInt64.toUInt64).toInt64).toInt32) rfl (zi2b X0 hx hby d_method_3_20 ((((x1.toUInt64 >>> ((24 : Int32) &&& 0x3f).toInt64.toUInt64).toInt64).toInt32).toInt8.toInt32) rfl ?_)))))))
    show zEnds p e below s T0 (mkF m 21 #[.val (.long x1), .second, iv x2, iv x3, iv 3] [(.int ((((x1.toUInt64 >>> ((24 : Int32) &&& 0x3f).toInt64.toUInt64).toInt64).toInt32).toInt8.toInt32))]) _ _ _
    exact zretZ X0 hx hby d_method_3_21 hret hlk (by simp) (Jvm.Free.XT.narrow_b _) (by decide) (by decide) ⟨(by simp only [btv, if_pos, if_neg, hc1, not_false_eq_true]), e0, rfl⟩
  · refine zifNo X0 hx hby d_method_3_6 ((if0 _ _).trans (feq hc1).1) (ziloadN X0 hx hby d_method_3_9 rfl (zi2b X0 hx hby d_method_3_10 (x3.toInt8.toInt32) rfl ?_))
    show zEnds p e below s T0 (mkF m 11 #[.val (.long x1), .second, iv x2, iv x3, iv 3] [(.int (x3.toInt8.toInt32))]) _ _ _
    exact zretZ X0 hx hby d_method_3_11 hret hlk (by simp) (Jvm.Free.XT.narrow_b _) (by decide) (by decide) ⟨(by simp only [btv, if_pos, if_neg, hc1, not_false_eq_true]), e0, rfl⟩
set_option maxRecDepth 65536 in
set_option maxHeartbeats 40000000 in
theorem c9_bt (l : Launch) {Z : State} {a0 : Array Value} (hw : ∀ d ∈ tables_1, d.before a0 Z = true) (ws : List Jvm.Cond) {w_ONE_CHAR_A_BYTE w_ASCII w_UTF_8 : Addr} {n0 : Nat} {h0 : Heap} (C : Ctx Z w_ONE_CHAR_A_BYTE w_ASCII w_UTF_8) (O0 : Old Z n0 h0) (Z0 : n0 ≤ h0.size) (x1 : Int64) (x2 : Int32) (x3 : Int32) : zCon l Z (⟨"com/example/kakehashi/kakehashi/message/ReadingCountPinLaw", "bt", "(JIII)B"⟩ : MethodName) method_3_code 5 (some .byte) ws ({ frames := 0, cells := 0, slots := 0, locals := 0 } : Room) #[(.long x1), (.int x2), (.int x3), (.int 4)] h0 (zSame (some (.int (btv x1 x2 x3 (4 : Int32) (32 : Int32)))) h0) := by
  obtain ⟨S_w_ONE_CHAR_A_BYTE, S_w_ASCII, S_w_UTF_8, E_w_ONE_CHAR_A_BYTE, E_w_ASCII, E_w_UTF_8⟩ := C
  refine zenter (plainFor_of_name pn_0) (L0 := #[.val (.long x1), .second, iv x2, iv x3, iv 4]) (fun m => by first | rfl | simp [entryFrame, mkF, argsToLocals, Value.category, maxLocals]) ?_
  intro p e s m below meth c T0 hx hZ hby hml hown0 hnm hret hlk X0 e0
  have hown : s.vm.findClass "com/example/kakehashi/kakehashi/message/ReadingCountPinLaw" = some m.cls := hown0
  have K0 := Keep.refl h0 []
  have N0 := Fr.nil n0
  show zEnds p e below s T0 (mkF m 0 #[.val (.long x1), .second, iv x2, iv x3, iv 4] []) _ _ _
  refine ziloadN X0 hx hby d_method_3_0 rfl (ziload X0 hx hby d_method_3_1 rfl (ziushr X0 hx hby d_method_3_3 ((x2.toUInt32 >>> ((4 : Int32) &&& 31).toUInt32).toInt32) rfl (ziconst X0 hx hby d_method_3_4 (z := (1 : Int32)) rfl (ziand X0 hx hby d_method_3_5 (((x2.toUInt32 >>> ((4 : Int32) &&& 31).toUInt32).toInt32) &&& (1 : Int32)) rfl ?_))))
  show zEnds p e below s T0 (mkF m 6 #[.val (.long x1), .second, iv x2, iv x3, iv 4] [(.int (((x2.toUInt32 >>> ((4 : Int32) &&& 31).toUInt32).toInt32) &&& (1 : Int32)))]) _ _ _
  by_cases hc1 : (((x2.toUInt32 >>> ((4 : Int32) &&& 31).toUInt32).toInt32) &&& (1 : Int32)) = (0 : Int32)
  · refine zifYes X0 hx hby d_method_3_6 12 ((if0 _ _).trans (teq hc1).1) (by decide) (by decide) (zlloadN X0 hx hby d_method_3_12 rfl (zbipush X0 hx hby d_method_3_13 (z := (8 : Int32)) rfl (ziload X0 hx hby d_method_3_15 rfl (zimul X0 hx hby d_method_3_17 (32 : Int32) (by decide) (zlushr X0 hx hby d_method_3_18 ((x1.toUInt64 >>> ((32 : Int32) &&& 0x3f).toInt64.toUInt64).toInt64) rfl (zl2i X0 hx hby d_method_3_19 (((x1.toUInt64 >>> ((32 : Int32) &&& 0x3f).toInt64.toUInt64).toInt64).toInt32) rfl (zi2b X0 hx hby d_method_3_20 ((((x1.toUInt64 >>> ((32 : Int32) &&& 0x3f).toInt64.toUInt64).toInt64).toInt32).toInt8.toInt32) rfl ?_)))))))
    show zEnds p e below s T0 (mkF m 21 #[.val (.long x1), .second, iv x2, iv x3, iv 4] [(.int ((((x1.toUInt64 >>> ((32 : Int32) &&& 0x3f).toInt64.toUInt64).toInt64).toInt32).toInt8.toInt32))]) _ _ _
    exact zretZ X0 hx hby d_method_3_21 hret hlk (by simp) (Jvm.Free.XT.narrow_b _) (by decide) (by decide) ⟨(by simp only [btv, if_pos, if_neg, hc1, not_false_eq_true]), e0, rfl⟩
  · refine zifNo X0 hx hby d_method_3_6 ((if0 _ _).trans (feq hc1).1) (ziloadN X0 hx hby d_method_3_9 rfl (zi2b X0 hx hby d_method_3_10 (x3.toInt8.toInt32) rfl ?_))
    show zEnds p e below s T0 (mkF m 11 #[.val (.long x1), .second, iv x2, iv x3, iv 4] [(.int (x3.toInt8.toInt32))]) _ _ _
    exact zretZ X0 hx hby d_method_3_11 hret hlk (by simp) (Jvm.Free.XT.narrow_b _) (by decide) (by decide) ⟨(by simp only [btv, if_pos, if_neg, hc1, not_false_eq_true]), e0, rfl⟩
set_option maxRecDepth 65536 in
set_option maxHeartbeats 40000000 in
theorem c11_bt (l : Launch) {Z : State} {a0 : Array Value} (hw : ∀ d ∈ tables_1, d.before a0 Z = true) (ws : List Jvm.Cond) {w_ONE_CHAR_A_BYTE w_ASCII w_UTF_8 : Addr} {n0 : Nat} {h0 : Heap} (C : Ctx Z w_ONE_CHAR_A_BYTE w_ASCII w_UTF_8) (O0 : Old Z n0 h0) (Z0 : n0 ≤ h0.size) (x1 : Int64) (x2 : Int32) (x3 : Int32) : zCon l Z (⟨"com/example/kakehashi/kakehashi/message/ReadingCountPinLaw", "bt", "(JIII)B"⟩ : MethodName) method_3_code 5 (some .byte) ws ({ frames := 0, cells := 0, slots := 0, locals := 0 } : Room) #[(.long x1), (.int x2), (.int x3), (.int 5)] h0 (zSame (some (.int (btv x1 x2 x3 (5 : Int32) (40 : Int32)))) h0) := by
  obtain ⟨S_w_ONE_CHAR_A_BYTE, S_w_ASCII, S_w_UTF_8, E_w_ONE_CHAR_A_BYTE, E_w_ASCII, E_w_UTF_8⟩ := C
  refine zenter (plainFor_of_name pn_0) (L0 := #[.val (.long x1), .second, iv x2, iv x3, iv 5]) (fun m => by first | rfl | simp [entryFrame, mkF, argsToLocals, Value.category, maxLocals]) ?_
  intro p e s m below meth c T0 hx hZ hby hml hown0 hnm hret hlk X0 e0
  have hown : s.vm.findClass "com/example/kakehashi/kakehashi/message/ReadingCountPinLaw" = some m.cls := hown0
  have K0 := Keep.refl h0 []
  have N0 := Fr.nil n0
  show zEnds p e below s T0 (mkF m 0 #[.val (.long x1), .second, iv x2, iv x3, iv 5] []) _ _ _
  refine ziloadN X0 hx hby d_method_3_0 rfl (ziload X0 hx hby d_method_3_1 rfl (ziushr X0 hx hby d_method_3_3 ((x2.toUInt32 >>> ((5 : Int32) &&& 31).toUInt32).toInt32) rfl (ziconst X0 hx hby d_method_3_4 (z := (1 : Int32)) rfl (ziand X0 hx hby d_method_3_5 (((x2.toUInt32 >>> ((5 : Int32) &&& 31).toUInt32).toInt32) &&& (1 : Int32)) rfl ?_))))
  show zEnds p e below s T0 (mkF m 6 #[.val (.long x1), .second, iv x2, iv x3, iv 5] [(.int (((x2.toUInt32 >>> ((5 : Int32) &&& 31).toUInt32).toInt32) &&& (1 : Int32)))]) _ _ _
  by_cases hc1 : (((x2.toUInt32 >>> ((5 : Int32) &&& 31).toUInt32).toInt32) &&& (1 : Int32)) = (0 : Int32)
  · refine zifYes X0 hx hby d_method_3_6 12 ((if0 _ _).trans (teq hc1).1) (by decide) (by decide) (zlloadN X0 hx hby d_method_3_12 rfl (zbipush X0 hx hby d_method_3_13 (z := (8 : Int32)) rfl (ziload X0 hx hby d_method_3_15 rfl (zimul X0 hx hby d_method_3_17 (40 : Int32) (by decide) (zlushr X0 hx hby d_method_3_18 ((x1.toUInt64 >>> ((40 : Int32) &&& 0x3f).toInt64.toUInt64).toInt64) rfl (zl2i X0 hx hby d_method_3_19 (((x1.toUInt64 >>> ((40 : Int32) &&& 0x3f).toInt64.toUInt64).toInt64).toInt32) rfl (zi2b X0 hx hby d_method_3_20 ((((x1.toUInt64 >>> ((40 : Int32) &&& 0x3f).toInt64.toUInt64).toInt64).toInt32).toInt8.toInt32) rfl ?_)))))))
    show zEnds p e below s T0 (mkF m 21 #[.val (.long x1), .second, iv x2, iv x3, iv 5] [(.int ((((x1.toUInt64 >>> ((40 : Int32) &&& 0x3f).toInt64.toUInt64).toInt64).toInt32).toInt8.toInt32))]) _ _ _
    exact zretZ X0 hx hby d_method_3_21 hret hlk (by simp) (Jvm.Free.XT.narrow_b _) (by decide) (by decide) ⟨(by simp only [btv, if_pos, if_neg, hc1, not_false_eq_true]), e0, rfl⟩
  · refine zifNo X0 hx hby d_method_3_6 ((if0 _ _).trans (feq hc1).1) (ziloadN X0 hx hby d_method_3_9 rfl (zi2b X0 hx hby d_method_3_10 (x3.toInt8.toInt32) rfl ?_))
    show zEnds p e below s T0 (mkF m 11 #[.val (.long x1), .second, iv x2, iv x3, iv 5] [(.int (x3.toInt8.toInt32))]) _ _ _
    exact zretZ X0 hx hby d_method_3_11 hret hlk (by simp) (Jvm.Free.XT.narrow_b _) (by decide) (by decide) ⟨(by simp only [btv, if_pos, if_neg, hc1, not_false_eq_true]), e0, rfl⟩
set_option maxRecDepth 65536 in
set_option maxHeartbeats 40000000 in
theorem c13_bt (l : Launch) {Z : State} {a0 : Array Value} (hw : ∀ d ∈ tables_1, d.before a0 Z = true) (ws : List Jvm.Cond) {w_ONE_CHAR_A_BYTE w_ASCII w_UTF_8 : Addr} {n0 : Nat} {h0 : Heap} (C : Ctx Z w_ONE_CHAR_A_BYTE w_ASCII w_UTF_8) (O0 : Old Z n0 h0) (Z0 : n0 ≤ h0.size) (x1 : Int64) (x2 : Int32) (x3 : Int32) : zCon l Z (⟨"com/example/kakehashi/kakehashi/message/ReadingCountPinLaw", "bt", "(JIII)B"⟩ : MethodName) method_3_code 5 (some .byte) ws ({ frames := 0, cells := 0, slots := 0, locals := 0 } : Room) #[(.long x1), (.int x2), (.int x3), (.int 6)] h0 (zSame (some (.int (btv x1 x2 x3 (6 : Int32) (48 : Int32)))) h0) := by
  obtain ⟨S_w_ONE_CHAR_A_BYTE, S_w_ASCII, S_w_UTF_8, E_w_ONE_CHAR_A_BYTE, E_w_ASCII, E_w_UTF_8⟩ := C
  refine zenter (plainFor_of_name pn_0) (L0 := #[.val (.long x1), .second, iv x2, iv x3, iv 6]) (fun m => by first | rfl | simp [entryFrame, mkF, argsToLocals, Value.category, maxLocals]) ?_
  intro p e s m below meth c T0 hx hZ hby hml hown0 hnm hret hlk X0 e0
  have hown : s.vm.findClass "com/example/kakehashi/kakehashi/message/ReadingCountPinLaw" = some m.cls := hown0
  have K0 := Keep.refl h0 []
  have N0 := Fr.nil n0
  show zEnds p e below s T0 (mkF m 0 #[.val (.long x1), .second, iv x2, iv x3, iv 6] []) _ _ _
  refine ziloadN X0 hx hby d_method_3_0 rfl (ziload X0 hx hby d_method_3_1 rfl (ziushr X0 hx hby d_method_3_3 ((x2.toUInt32 >>> ((6 : Int32) &&& 31).toUInt32).toInt32) rfl (ziconst X0 hx hby d_method_3_4 (z := (1 : Int32)) rfl (ziand X0 hx hby d_method_3_5 (((x2.toUInt32 >>> ((6 : Int32) &&& 31).toUInt32).toInt32) &&& (1 : Int32)) rfl ?_))))
  show zEnds p e below s T0 (mkF m 6 #[.val (.long x1), .second, iv x2, iv x3, iv 6] [(.int (((x2.toUInt32 >>> ((6 : Int32) &&& 31).toUInt32).toInt32) &&& (1 : Int32)))]) _ _ _
  by_cases hc1 : (((x2.toUInt32 >>> ((6 : Int32) &&& 31).toUInt32).toInt32) &&& (1 : Int32)) = (0 : Int32)
  · refine zifYes X0 hx hby d_method_3_6 12 ((if0 _ _).trans (teq hc1).1) (by decide) (by decide) (zlloadN X0 hx hby d_method_3_12 rfl (zbipush X0 hx hby d_method_3_13 (z := (8 : Int32)) rfl (ziload X0 hx hby d_method_3_15 rfl (zimul X0 hx hby d_method_3_17 (48 : Int32) (by decide) (zlushr X0 hx hby d_method_3_18 ((x1.toUInt64 >>> ((48 : Int32) &&& 0x3f).toInt64.toUInt64).toInt64) rfl (zl2i X0 hx hby d_method_3_19 (((x1.toUInt64 >>> ((48 : Int32) &&& 0x3f).toInt64.toUInt64).toInt64).toInt32) rfl (zi2b X0 hx hby d_method_3_20 ((((x1.toUInt64 >>> ((48 : Int32) &&& 0x3f).toInt64.toUInt64).toInt64).toInt32).toInt8.toInt32) rfl ?_)))))))
    show zEnds p e below s T0 (mkF m 21 #[.val (.long x1), .second, iv x2, iv x3, iv 6] [(.int ((((x1.toUInt64 >>> ((48 : Int32) &&& 0x3f).toInt64.toUInt64).toInt64).toInt32).toInt8.toInt32))]) _ _ _
    exact zretZ X0 hx hby d_method_3_21 hret hlk (by simp) (Jvm.Free.XT.narrow_b _) (by decide) (by decide) ⟨(by simp only [btv, if_pos, if_neg, hc1, not_false_eq_true]), e0, rfl⟩
  · refine zifNo X0 hx hby d_method_3_6 ((if0 _ _).trans (feq hc1).1) (ziloadN X0 hx hby d_method_3_9 rfl (zi2b X0 hx hby d_method_3_10 (x3.toInt8.toInt32) rfl ?_))
    show zEnds p e below s T0 (mkF m 11 #[.val (.long x1), .second, iv x2, iv x3, iv 6] [(.int (x3.toInt8.toInt32))]) _ _ _
    exact zretZ X0 hx hby d_method_3_11 hret hlk (by simp) (Jvm.Free.XT.narrow_b _) (by decide) (by decide) ⟨(by simp only [btv, if_pos, if_neg, hc1, not_false_eq_true]), e0, rfl⟩
set_option maxRecDepth 65536 in
set_option maxHeartbeats 40000000 in
theorem c15_bt (l : Launch) {Z : State} {a0 : Array Value} (hw : ∀ d ∈ tables_1, d.before a0 Z = true) (ws : List Jvm.Cond) {w_ONE_CHAR_A_BYTE w_ASCII w_UTF_8 : Addr} {n0 : Nat} {h0 : Heap} (C : Ctx Z w_ONE_CHAR_A_BYTE w_ASCII w_UTF_8) (O0 : Old Z n0 h0) (Z0 : n0 ≤ h0.size) (x1 : Int64) (x2 : Int32) (x3 : Int32) : zCon l Z (⟨"com/example/kakehashi/kakehashi/message/ReadingCountPinLaw", "bt", "(JIII)B"⟩ : MethodName) method_3_code 5 (some .byte) ws ({ frames := 0, cells := 0, slots := 0, locals := 0 } : Room) #[(.long x1), (.int x2), (.int x3), (.int 7)] h0 (zSame (some (.int (btv x1 x2 x3 (7 : Int32) (56 : Int32)))) h0) := by
  obtain ⟨S_w_ONE_CHAR_A_BYTE, S_w_ASCII, S_w_UTF_8, E_w_ONE_CHAR_A_BYTE, E_w_ASCII, E_w_UTF_8⟩ := C
  refine zenter (plainFor_of_name pn_0) (L0 := #[.val (.long x1), .second, iv x2, iv x3, iv 7]) (fun m => by first | rfl | simp [entryFrame, mkF, argsToLocals, Value.category, maxLocals]) ?_
  intro p e s m below meth c T0 hx hZ hby hml hown0 hnm hret hlk X0 e0
  have hown : s.vm.findClass "com/example/kakehashi/kakehashi/message/ReadingCountPinLaw" = some m.cls := hown0
  have K0 := Keep.refl h0 []
  have N0 := Fr.nil n0
  show zEnds p e below s T0 (mkF m 0 #[.val (.long x1), .second, iv x2, iv x3, iv 7] []) _ _ _
  refine ziloadN X0 hx hby d_method_3_0 rfl (ziload X0 hx hby d_method_3_1 rfl (ziushr X0 hx hby d_method_3_3 ((x2.toUInt32 >>> ((7 : Int32) &&& 31).toUInt32).toInt32) rfl (ziconst X0 hx hby d_method_3_4 (z := (1 : Int32)) rfl (ziand X0 hx hby d_method_3_5 (((x2.toUInt32 >>> ((7 : Int32) &&& 31).toUInt32).toInt32) &&& (1 : Int32)) rfl ?_))))
  show zEnds p e below s T0 (mkF m 6 #[.val (.long x1), .second, iv x2, iv x3, iv 7] [(.int (((x2.toUInt32 >>> ((7 : Int32) &&& 31).toUInt32).toInt32) &&& (1 : Int32)))]) _ _ _
  by_cases hc1 : (((x2.toUInt32 >>> ((7 : Int32) &&& 31).toUInt32).toInt32) &&& (1 : Int32)) = (0 : Int32)
  · refine zifYes X0 hx hby d_method_3_6 12 ((if0 _ _).trans (teq hc1).1) (by decide) (by decide) (zlloadN X0 hx hby d_method_3_12 rfl (zbipush X0 hx hby d_method_3_13 (z := (8 : Int32)) rfl (ziload X0 hx hby d_method_3_15 rfl (zimul X0 hx hby d_method_3_17 (56 : Int32) (by decide) (zlushr X0 hx hby d_method_3_18 ((x1.toUInt64 >>> ((56 : Int32) &&& 0x3f).toInt64.toUInt64).toInt64) rfl (zl2i X0 hx hby d_method_3_19 (((x1.toUInt64 >>> ((56 : Int32) &&& 0x3f).toInt64.toUInt64).toInt64).toInt32) rfl (zi2b X0 hx hby d_method_3_20 ((((x1.toUInt64 >>> ((56 : Int32) &&& 0x3f).toInt64.toUInt64).toInt64).toInt32).toInt8.toInt32) rfl ?_)))))))
    show zEnds p e below s T0 (mkF m 21 #[.val (.long x1), .second, iv x2, iv x3, iv 7] [(.int ((((x1.toUInt64 >>> ((56 : Int32) &&& 0x3f).toInt64.toUInt64).toInt64).toInt32).toInt8.toInt32))]) _ _ _
    exact zretZ X0 hx hby d_method_3_21 hret hlk (by simp) (Jvm.Free.XT.narrow_b _) (by decide) (by decide) ⟨(by simp only [btv, if_pos, if_neg, hc1, not_false_eq_true]), e0, rfl⟩
  · refine zifNo X0 hx hby d_method_3_6 ((if0 _ _).trans (feq hc1).1) (ziloadN X0 hx hby d_method_3_9 rfl (zi2b X0 hx hby d_method_3_10 (x3.toInt8.toInt32) rfl ?_))
    show zEnds p e below s T0 (mkF m 11 #[.val (.long x1), .second, iv x2, iv x3, iv 7] [(.int (x3.toInt8.toInt32))]) _ _ _
    exact zretZ X0 hx hby d_method_3_11 hret hlk (by simp) (Jvm.Free.XT.narrow_b _) (by decide) (by decide) ⟨(by simp only [btv, if_pos, if_neg, hc1, not_false_eq_true]), e0, rfl⟩
set_option maxRecDepth 65536 in
set_option maxHeartbeats 40000000 in
theorem c17_min (l : Launch) {Z : State} {a0 : Array Value} (hw : ∀ d ∈ tables_1, d.before a0 Z = true) (ws : List Jvm.Cond) {w_ONE_CHAR_A_BYTE w_ASCII w_UTF_8 : Addr} {n0 : Nat} {h0 : Heap} (C : Ctx Z w_ONE_CHAR_A_BYTE w_ASCII w_UTF_8) (O0 : Old Z n0 h0) (Z0 : n0 ≤ h0.size) (x1 : Int32) (x2 : Int32) : zCon l Z (⟨"java/lang/Math", "min", "(II)I"⟩ : MethodName) jdk_29_method_69_code 2 (some .int) ws ({ frames := 0, cells := 0, slots := 0, locals := 0 } : Room) #[(.int x1), (.int x2)] h0 (zSame (some (.int (minv x1 x2))) h0) := by
  obtain ⟨S_w_ONE_CHAR_A_BYTE, S_w_ASCII, S_w_UTF_8, E_w_ONE_CHAR_A_BYTE, E_w_ASCII, E_w_UTF_8⟩ := C
  refine zenter (Jvm.Free.JP.mathPlain rfl (by decide +kernel)) (L0 := #[iv x1, iv x2]) (fun m => by first | rfl | simp [entryFrame, mkF, argsToLocals, Value.category, maxLocals]) ?_
  intro p e s m below meth c T0 hx hZ hby hml hown0 hnm hret hlk X0 e0
  have hown : s.vm.findClass "java/lang/Math" = some m.cls := hown0
  have K0 := Keep.refl h0 []
  have N0 := Fr.nil n0
  show zEnds p e below s T0 (mkF m 0 #[iv x1, iv x2] []) _ _ _
  refine ziloadN X0 hx hby d_jdk_29_method_69_0 rfl (ziloadN X0 hx hby d_jdk_29_method_69_1 rfl ?_)
  show zEnds p e below s T0 (mkF m 2 #[iv x1, iv x2] [(.int x2), (.int x1)]) _ _ _
  by_cases hc1 : x2 < x1
  · refine zicmpYes X0 hx hby d_jdk_29_method_69_2 9 (tlt hc1).2.2.1 (by decide) (by decide) (ziloadN X0 hx hby d_jdk_29_method_69_9 rfl ?_)
    show zEnds p e below s T0 (mkF m 10 #[iv x1, iv x2] [(.int x2)]) _ _ _
    exact zretI X0 hx hby d_jdk_29_method_69_10 hret hlk (by decide) (by decide) ⟨(by simp [minv, hc1]), e0, rfl⟩
  · refine zicmpNo X0 hx hby d_jdk_29_method_69_2 (flt hc1).2.2.1 (ziloadN X0 hx hby d_jdk_29_method_69_5 rfl (zgoto X0 hx hby d_jdk_29_method_69_6 10 (by decide) (by decide) ?_))
    show zEnds p e below s T0 (mkF m 10 #[iv x1, iv x2] [(.int x1)]) _ _ _
    exact zretI X0 hx hby d_jdk_29_method_69_10 hret hlk (by decide) (by decide) ⟨(by simp [minv, hc1]), e0, rfl⟩
set_option maxRecDepth 65536 in
set_option maxHeartbeats 40000000 in
theorem c19_max (l : Launch) {Z : State} {a0 : Array Value} (hw : ∀ d ∈ tables_1, d.before a0 Z = true) (ws : List Jvm.Cond) {w_ONE_CHAR_A_BYTE w_ASCII w_UTF_8 : Addr} {n0 : Nat} {h0 : Heap} (C : Ctx Z w_ONE_CHAR_A_BYTE w_ASCII w_UTF_8) (O0 : Old Z n0 h0) (Z0 : n0 ≤ h0.size) (x1 : Int32) (x2 : Int32) : zCon l Z (⟨"java/lang/Math", "max", "(II)I"⟩ : MethodName) jdk_29_method_65_code 2 (some .int) ws ({ frames := 0, cells := 0, slots := 0, locals := 0 } : Room) #[(.int x1), (.int x2)] h0 (zSame (some (.int (maxv x1 x2))) h0) := by
  obtain ⟨S_w_ONE_CHAR_A_BYTE, S_w_ASCII, S_w_UTF_8, E_w_ONE_CHAR_A_BYTE, E_w_ASCII, E_w_UTF_8⟩ := C
  refine zenter (Jvm.Free.JP.mathPlain rfl (by decide +kernel)) (L0 := #[iv x1, iv x2]) (fun m => by first | rfl | simp [entryFrame, mkF, argsToLocals, Value.category, maxLocals]) ?_
  intro p e s m below meth c T0 hx hZ hby hml hown0 hnm hret hlk X0 e0
  have hown : s.vm.findClass "java/lang/Math" = some m.cls := hown0
  have K0 := Keep.refl h0 []
  have N0 := Fr.nil n0
  show zEnds p e below s T0 (mkF m 0 #[iv x1, iv x2] []) _ _ _
  refine ziloadN X0 hx hby d_jdk_29_method_65_0 rfl (ziloadN X0 hx hby d_jdk_29_method_65_1 rfl ?_)
  show zEnds p e below s T0 (mkF m 2 #[iv x1, iv x2] [(.int x2), (.int x1)]) _ _ _
  by_cases hc1 : x1 < x2
  · refine zicmpYes X0 hx hby d_jdk_29_method_65_2 9 (tlt hc1).1 (by decide) (by decide) (ziloadN X0 hx hby d_jdk_29_method_65_9 rfl ?_)
    show zEnds p e below s T0 (mkF m 10 #[iv x1, iv x2] [(.int x2)]) _ _ _
    exact zretI X0 hx hby d_jdk_29_method_65_10 hret hlk (by decide) (by decide) ⟨(by simp [maxv, hc1]), e0, rfl⟩
  · refine zicmpNo X0 hx hby d_jdk_29_method_65_2 (flt hc1).1 (ziloadN X0 hx hby d_jdk_29_method_65_5 rfl (zgoto X0 hx hby d_jdk_29_method_65_6 10 (by decide) (by decide) ?_))
    show zEnds p e below s T0 (mkF m 10 #[iv x1, iv x2] [(.int x1)]) _ _ _
    exact zretI X0 hx hby d_jdk_29_method_65_10 hret hlk (by decide) (by decide) ⟨(by simp [maxv, hc1]), e0, rfl⟩
set_option maxRecDepth 65536 in
set_option maxHeartbeats 40000000 in
theorem c21_hit (l : Launch) {Z : State} {a0 : Array Value} (hw : ∀ d ∈ tables_1, d.before a0 Z = true) (ws : List Jvm.Cond) {w_ONE_CHAR_A_BYTE w_ASCII w_UTF_8 : Addr} {n0 : Nat} {h0 : Heap} (C : Ctx Z w_ONE_CHAR_A_BYTE w_ASCII w_UTF_8) (O0 : Old Z n0 h0) (Z0 : n0 ≤ h0.size) (x2 : Int32) (x3 : Int32) (x4 : Int32) (b900 : Addr) (x5 : Int32) (x6 : Int32) (x7 : Int32) (x8 : Int32) (x9 : Int32) (x10 : Int32) (x11 : Int32) (x12 : Int32) (g_b900 : n0 ≤ b900) (A_b900 : zLst Z h0 b900 .byte [(.int x5), (.int x6), (.int x7), (.int x8), (.int x9), (.int x10), (.int x11), (.int x12)]) (k0 : ¬ ((8 : Int32) < x3)) : zCon l Z (⟨"com/example/kakehashi/kakehashi/message/ReadingCountPinLaw", "hit", "([BIIII)I"⟩ : MethodName) method_4_code 5 (some .int) ws ({ frames := 0, cells := 0, slots := 0, locals := 0 } : Room) #[(.ref b900), (.int 0), (.int x2), (.int x3), (.int x4)] h0 (zSame (some (.int (hitv x2 x3 (0 : Int32) x5 x4))) h0) := by
  obtain ⟨S_w_ONE_CHAR_A_BYTE, S_w_ASCII, S_w_UTF_8, E_w_ONE_CHAR_A_BYTE, E_w_ASCII, E_w_UTF_8⟩ := C
  refine zenter (plainFor_of_name pn_0) (L0 := #[rv b900, iv 0, iv x2, iv x3, iv x4]) (fun m => by first | rfl | simp [entryFrame, mkF, argsToLocals, Value.category, maxLocals]) ?_
  intro p e s m below meth c T0 hx hZ hby hml hown0 hnm hret hlk X0 e0
  have hown : s.vm.findClass "com/example/kakehashi/kakehashi/message/ReadingCountPinLaw" = some m.cls := hown0
  have K0 := Keep.refl h0 []
  have N0 := Fr.nil n0
  show zEnds p e below s T0 (mkF m 0 #[rv b900, iv 0, iv x2, iv x3, iv x4] []) _ _ _
  refine ziloadN X0 hx hby d_method_4_0 rfl (ziloadN X0 hx hby d_method_4_1 rfl ?_)
  show zEnds p e below s T0 (mkF m 2 #[rv b900, iv 0, iv x2, iv x3, iv x4] [(.int x2), (.int 0)]) _ _ _
  by_cases hc1 : (0 : Int32) < x2
  · refine zicmpYes X0 hx hby d_method_4_2 24 (tlt hc1).1 (by decide) (by decide) (ziconst X0 hx hby d_method_4_24 (z := (0 : Int32)) rfl ?_)
    show zEnds p e below s T0 (mkF m 25 #[rv b900, iv 0, iv x2, iv x3, iv x4] [(.int 0)]) _ _ _
    exact zretI X0 hx hby d_method_4_25 hret hlk (by decide) (by decide) ⟨(by simp +decide [hitv, k0, hc1]), e0, rfl⟩
  · refine zicmpNo X0 hx hby d_method_4_2 (flt hc1).1 (ziloadN X0 hx hby d_method_4_5 rfl (ziloadN X0 hx hby d_method_4_6 rfl ?_))
    show zEnds p e below s T0 (mkF m 7 #[rv b900, iv 0, iv x2, iv x3, iv x4] [(.int x3), (.int 0)]) _ _ _
    by_cases hc2 : (0 : Int32) < x3
    · refine zicmpNo X0 hx hby d_method_4_7 (tlt hc2).2.1 (zaloadN X0 hx hby d_method_4_10 rfl rfl (ziloadN X0 hx hby d_method_4_11 rfl (zbaload X0 hx hby d_method_4_12 hZ e0 A_b900 (by decide) (v := (.int x5)) rfl (zsipush X0 hx hby d_method_4_13 (z := (255 : Int32)) rfl (ziand X0 hx hby d_method_4_16 (x5 &&& (255 : Int32)) rfl (ziload X0 hx hby d_method_4_17 rfl ?_))))))
      show zEnds p e below s T0 (mkF m 19 #[rv b900, iv 0, iv x2, iv x3, iv x4] [(.int x4), (.int (x5 &&& (255 : Int32)))]) _ _ _
      by_cases hc3 : (x5 &&& (255 : Int32)) = x4
      · refine zicmpNo X0 hx hby d_method_4_19 (teq hc3).2 (ziconst X0 hx hby d_method_4_22 (z := (1 : Int32)) rfl ?_)
        show zEnds p e below s T0 (mkF m 23 #[rv b900, iv 0, iv x2, iv x3, iv x4] [(.int 1)]) _ _ _
        exact zretI X0 hx hby d_method_4_23 hret hlk (by decide) (by decide) ⟨(by simp +decide [hitv, k0, hc1, hc2, hc3]), e0, rfl⟩
      · refine zicmpYes X0 hx hby d_method_4_19 24 (feq hc3).2 (by decide) (by decide) (ziconst X0 hx hby d_method_4_24 (z := (0 : Int32)) rfl ?_)
        show zEnds p e below s T0 (mkF m 25 #[rv b900, iv 0, iv x2, iv x3, iv x4] [(.int 0)]) _ _ _
        exact zretI X0 hx hby d_method_4_25 hret hlk (by decide) (by decide) ⟨(by simp +decide [hitv, k0, hc1, hc2, hc3]), e0, rfl⟩
    · refine zicmpYes X0 hx hby d_method_4_7 24 (flt hc2).2.1 (by decide) (by decide) (ziconst X0 hx hby d_method_4_24 (z := (0 : Int32)) rfl ?_)
      show zEnds p e below s T0 (mkF m 25 #[rv b900, iv 0, iv x2, iv x3, iv x4] [(.int 0)]) _ _ _
      exact zretI X0 hx hby d_method_4_25 hret hlk (by decide) (by decide) ⟨(by simp +decide [hitv, k0, hc1, hc2]), e0, rfl⟩
set_option maxRecDepth 65536 in
set_option maxHeartbeats 40000000 in
theorem c23_hit (l : Launch) {Z : State} {a0 : Array Value} (hw : ∀ d ∈ tables_1, d.before a0 Z = true) (ws : List Jvm.Cond) {w_ONE_CHAR_A_BYTE w_ASCII w_UTF_8 : Addr} {n0 : Nat} {h0 : Heap} (C : Ctx Z w_ONE_CHAR_A_BYTE w_ASCII w_UTF_8) (O0 : Old Z n0 h0) (Z0 : n0 ≤ h0.size) (x2 : Int32) (x3 : Int32) (x4 : Int32) (b900 : Addr) (x5 : Int32) (x6 : Int32) (x7 : Int32) (x8 : Int32) (x9 : Int32) (x10 : Int32) (x11 : Int32) (x12 : Int32) (g_b900 : n0 ≤ b900) (A_b900 : zLst Z h0 b900 .byte [(.int x5), (.int x6), (.int x7), (.int x8), (.int x9), (.int x10), (.int x11), (.int x12)]) (k0 : ¬ ((8 : Int32) < x3)) : zCon l Z (⟨"com/example/kakehashi/kakehashi/message/ReadingCountPinLaw", "hit", "([BIIII)I"⟩ : MethodName) method_4_code 5 (some .int) ws ({ frames := 0, cells := 0, slots := 0, locals := 0 } : Room) #[(.ref b900), (.int 1), (.int x2), (.int x3), (.int x4)] h0 (zSame (some (.int (hitv x2 x3 (1 : Int32) x6 x4))) h0) := by
  obtain ⟨S_w_ONE_CHAR_A_BYTE, S_w_ASCII, S_w_UTF_8, E_w_ONE_CHAR_A_BYTE, E_w_ASCII, E_w_UTF_8⟩ := C
  refine zenter (plainFor_of_name pn_0) (L0 := #[rv b900, iv 1, iv x2, iv x3, iv x4]) (fun m => by first | rfl | simp [entryFrame, mkF, argsToLocals, Value.category, maxLocals]) ?_
  intro p e s m below meth c T0 hx hZ hby hml hown0 hnm hret hlk X0 e0
  have hown : s.vm.findClass "com/example/kakehashi/kakehashi/message/ReadingCountPinLaw" = some m.cls := hown0
  have K0 := Keep.refl h0 []
  have N0 := Fr.nil n0
  show zEnds p e below s T0 (mkF m 0 #[rv b900, iv 1, iv x2, iv x3, iv x4] []) _ _ _
  refine ziloadN X0 hx hby d_method_4_0 rfl (ziloadN X0 hx hby d_method_4_1 rfl ?_)
  show zEnds p e below s T0 (mkF m 2 #[rv b900, iv 1, iv x2, iv x3, iv x4] [(.int x2), (.int 1)]) _ _ _
  by_cases hc1 : (1 : Int32) < x2
  · refine zicmpYes X0 hx hby d_method_4_2 24 (tlt hc1).1 (by decide) (by decide) (ziconst X0 hx hby d_method_4_24 (z := (0 : Int32)) rfl ?_)
    show zEnds p e below s T0 (mkF m 25 #[rv b900, iv 1, iv x2, iv x3, iv x4] [(.int 0)]) _ _ _
    exact zretI X0 hx hby d_method_4_25 hret hlk (by decide) (by decide) ⟨(by simp +decide [hitv, k0, hc1]), e0, rfl⟩
  · refine zicmpNo X0 hx hby d_method_4_2 (flt hc1).1 (ziloadN X0 hx hby d_method_4_5 rfl (ziloadN X0 hx hby d_method_4_6 rfl ?_))
    show zEnds p e below s T0 (mkF m 7 #[rv b900, iv 1, iv x2, iv x3, iv x4] [(.int x3), (.int 1)]) _ _ _
    by_cases hc2 : (1 : Int32) < x3
    · refine zicmpNo X0 hx hby d_method_4_7 (tlt hc2).2.1 (zaloadN X0 hx hby d_method_4_10 rfl rfl (ziloadN X0 hx hby d_method_4_11 rfl (zbaload X0 hx hby d_method_4_12 hZ e0 A_b900 (by decide) (v := (.int x6)) rfl (zsipush X0 hx hby d_method_4_13 (z := (255 : Int32)) rfl (ziand X0 hx hby d_method_4_16 (x6 &&& (255 : Int32)) rfl (ziload X0 hx hby d_method_4_17 rfl ?_))))))
      show zEnds p e below s T0 (mkF m 19 #[rv b900, iv 1, iv x2, iv x3, iv x4] [(.int x4), (.int (x6 &&& (255 : Int32)))]) _ _ _
      by_cases hc3 : (x6 &&& (255 : Int32)) = x4
      · refine zicmpNo X0 hx hby d_method_4_19 (teq hc3).2 (ziconst X0 hx hby d_method_4_22 (z := (1 : Int32)) rfl ?_)
        show zEnds p e below s T0 (mkF m 23 #[rv b900, iv 1, iv x2, iv x3, iv x4] [(.int 1)]) _ _ _
        exact zretI X0 hx hby d_method_4_23 hret hlk (by decide) (by decide) ⟨(by simp +decide [hitv, k0, hc1, hc2, hc3]), e0, rfl⟩
      · refine zicmpYes X0 hx hby d_method_4_19 24 (feq hc3).2 (by decide) (by decide) (ziconst X0 hx hby d_method_4_24 (z := (0 : Int32)) rfl ?_)
        show zEnds p e below s T0 (mkF m 25 #[rv b900, iv 1, iv x2, iv x3, iv x4] [(.int 0)]) _ _ _
        exact zretI X0 hx hby d_method_4_25 hret hlk (by decide) (by decide) ⟨(by simp +decide [hitv, k0, hc1, hc2, hc3]), e0, rfl⟩
    · refine zicmpYes X0 hx hby d_method_4_7 24 (flt hc2).2.1 (by decide) (by decide) (ziconst X0 hx hby d_method_4_24 (z := (0 : Int32)) rfl ?_)
      show zEnds p e below s T0 (mkF m 25 #[rv b900, iv 1, iv x2, iv x3, iv x4] [(.int 0)]) _ _ _
      exact zretI X0 hx hby d_method_4_25 hret hlk (by decide) (by decide) ⟨(by simp +decide [hitv, k0, hc1, hc2]), e0, rfl⟩
set_option maxRecDepth 65536 in
set_option maxHeartbeats 40000000 in
theorem c25_hit (l : Launch) {Z : State} {a0 : Array Value} (hw : ∀ d ∈ tables_1, d.before a0 Z = true) (ws : List Jvm.Cond) {w_ONE_CHAR_A_BYTE w_ASCII w_UTF_8 : Addr} {n0 : Nat} {h0 : Heap} (C : Ctx Z w_ONE_CHAR_A_BYTE w_ASCII w_UTF_8) (O0 : Old Z n0 h0) (Z0 : n0 ≤ h0.size) (x2 : Int32) (x3 : Int32) (x4 : Int32) (b900 : Addr) (x5 : Int32) (x6 : Int32) (x7 : Int32) (x8 : Int32) (x9 : Int32) (x10 : Int32) (x11 : Int32) (x12 : Int32) (g_b900 : n0 ≤ b900) (A_b900 : zLst Z h0 b900 .byte [(.int x5), (.int x6), (.int x7), (.int x8), (.int x9), (.int x10), (.int x11), (.int x12)]) (k0 : ¬ ((8 : Int32) < x3)) : zCon l Z (⟨"com/example/kakehashi/kakehashi/message/ReadingCountPinLaw", "hit", "([BIIII)I"⟩ : MethodName) method_4_code 5 (some .int) ws ({ frames := 0, cells := 0, slots := 0, locals := 0 } : Room) #[(.ref b900), (.int 2), (.int x2), (.int x3), (.int x4)] h0 (zSame (some (.int (hitv x2 x3 (2 : Int32) x7 x4))) h0) := by
  obtain ⟨S_w_ONE_CHAR_A_BYTE, S_w_ASCII, S_w_UTF_8, E_w_ONE_CHAR_A_BYTE, E_w_ASCII, E_w_UTF_8⟩ := C
  refine zenter (plainFor_of_name pn_0) (L0 := #[rv b900, iv 2, iv x2, iv x3, iv x4]) (fun m => by first | rfl | simp [entryFrame, mkF, argsToLocals, Value.category, maxLocals]) ?_
  intro p e s m below meth c T0 hx hZ hby hml hown0 hnm hret hlk X0 e0
  have hown : s.vm.findClass "com/example/kakehashi/kakehashi/message/ReadingCountPinLaw" = some m.cls := hown0
  have K0 := Keep.refl h0 []
  have N0 := Fr.nil n0
  show zEnds p e below s T0 (mkF m 0 #[rv b900, iv 2, iv x2, iv x3, iv x4] []) _ _ _
  refine ziloadN X0 hx hby d_method_4_0 rfl (ziloadN X0 hx hby d_method_4_1 rfl ?_)
  show zEnds p e below s T0 (mkF m 2 #[rv b900, iv 2, iv x2, iv x3, iv x4] [(.int x2), (.int 2)]) _ _ _
  by_cases hc1 : (2 : Int32) < x2
  · refine zicmpYes X0 hx hby d_method_4_2 24 (tlt hc1).1 (by decide) (by decide) (ziconst X0 hx hby d_method_4_24 (z := (0 : Int32)) rfl ?_)
    show zEnds p e below s T0 (mkF m 25 #[rv b900, iv 2, iv x2, iv x3, iv x4] [(.int 0)]) _ _ _
    exact zretI X0 hx hby d_method_4_25 hret hlk (by decide) (by decide) ⟨(by simp +decide [hitv, k0, hc1]), e0, rfl⟩
  · refine zicmpNo X0 hx hby d_method_4_2 (flt hc1).1 (ziloadN X0 hx hby d_method_4_5 rfl (ziloadN X0 hx hby d_method_4_6 rfl ?_))
    show zEnds p e below s T0 (mkF m 7 #[rv b900, iv 2, iv x2, iv x3, iv x4] [(.int x3), (.int 2)]) _ _ _
    by_cases hc2 : (2 : Int32) < x3
    · refine zicmpNo X0 hx hby d_method_4_7 (tlt hc2).2.1 (zaloadN X0 hx hby d_method_4_10 rfl rfl (ziloadN X0 hx hby d_method_4_11 rfl (zbaload X0 hx hby d_method_4_12 hZ e0 A_b900 (by decide) (v := (.int x7)) rfl (zsipush X0 hx hby d_method_4_13 (z := (255 : Int32)) rfl (ziand X0 hx hby d_method_4_16 (x7 &&& (255 : Int32)) rfl (ziload X0 hx hby d_method_4_17 rfl ?_))))))
      show zEnds p e below s T0 (mkF m 19 #[rv b900, iv 2, iv x2, iv x3, iv x4] [(.int x4), (.int (x7 &&& (255 : Int32)))]) _ _ _
      by_cases hc3 : (x7 &&& (255 : Int32)) = x4
      · refine zicmpNo X0 hx hby d_method_4_19 (teq hc3).2 (ziconst X0 hx hby d_method_4_22 (z := (1 : Int32)) rfl ?_)
        show zEnds p e below s T0 (mkF m 23 #[rv b900, iv 2, iv x2, iv x3, iv x4] [(.int 1)]) _ _ _
        exact zretI X0 hx hby d_method_4_23 hret hlk (by decide) (by decide) ⟨(by simp +decide [hitv, k0, hc1, hc2, hc3]), e0, rfl⟩
      · refine zicmpYes X0 hx hby d_method_4_19 24 (feq hc3).2 (by decide) (by decide) (ziconst X0 hx hby d_method_4_24 (z := (0 : Int32)) rfl ?_)
        show zEnds p e below s T0 (mkF m 25 #[rv b900, iv 2, iv x2, iv x3, iv x4] [(.int 0)]) _ _ _
        exact zretI X0 hx hby d_method_4_25 hret hlk (by decide) (by decide) ⟨(by simp +decide [hitv, k0, hc1, hc2, hc3]), e0, rfl⟩
    · refine zicmpYes X0 hx hby d_method_4_7 24 (flt hc2).2.1 (by decide) (by decide) (ziconst X0 hx hby d_method_4_24 (z := (0 : Int32)) rfl ?_)
      show zEnds p e below s T0 (mkF m 25 #[rv b900, iv 2, iv x2, iv x3, iv x4] [(.int 0)]) _ _ _
      exact zretI X0 hx hby d_method_4_25 hret hlk (by decide) (by decide) ⟨(by simp +decide [hitv, k0, hc1, hc2]), e0, rfl⟩
set_option maxRecDepth 65536 in
set_option maxHeartbeats 40000000 in
theorem c27_hit (l : Launch) {Z : State} {a0 : Array Value} (hw : ∀ d ∈ tables_1, d.before a0 Z = true) (ws : List Jvm.Cond) {w_ONE_CHAR_A_BYTE w_ASCII w_UTF_8 : Addr} {n0 : Nat} {h0 : Heap} (C : Ctx Z w_ONE_CHAR_A_BYTE w_ASCII w_UTF_8) (O0 : Old Z n0 h0) (Z0 : n0 ≤ h0.size) (x2 : Int32) (x3 : Int32) (x4 : Int32) (b900 : Addr) (x5 : Int32) (x6 : Int32) (x7 : Int32) (x8 : Int32) (x9 : Int32) (x10 : Int32) (x11 : Int32) (x12 : Int32) (g_b900 : n0 ≤ b900) (A_b900 : zLst Z h0 b900 .byte [(.int x5), (.int x6), (.int x7), (.int x8), (.int x9), (.int x10), (.int x11), (.int x12)]) (k0 : ¬ ((8 : Int32) < x3)) : zCon l Z (⟨"com/example/kakehashi/kakehashi/message/ReadingCountPinLaw", "hit", "([BIIII)I"⟩ : MethodName) method_4_code 5 (some .int) ws ({ frames := 0, cells := 0, slots := 0, locals := 0 } : Room) #[(.ref b900), (.int 3), (.int x2), (.int x3), (.int x4)] h0 (zSame (some (.int (hitv x2 x3 (3 : Int32) x8 x4))) h0) := by
  obtain ⟨S_w_ONE_CHAR_A_BYTE, S_w_ASCII, S_w_UTF_8, E_w_ONE_CHAR_A_BYTE, E_w_ASCII, E_w_UTF_8⟩ := C
  refine zenter (plainFor_of_name pn_0) (L0 := #[rv b900, iv 3, iv x2, iv x3, iv x4]) (fun m => by first | rfl | simp [entryFrame, mkF, argsToLocals, Value.category, maxLocals]) ?_
  intro p e s m below meth c T0 hx hZ hby hml hown0 hnm hret hlk X0 e0
  have hown : s.vm.findClass "com/example/kakehashi/kakehashi/message/ReadingCountPinLaw" = some m.cls := hown0
  have K0 := Keep.refl h0 []
  have N0 := Fr.nil n0
  show zEnds p e below s T0 (mkF m 0 #[rv b900, iv 3, iv x2, iv x3, iv x4] []) _ _ _
  refine ziloadN X0 hx hby d_method_4_0 rfl (ziloadN X0 hx hby d_method_4_1 rfl ?_)
  show zEnds p e below s T0 (mkF m 2 #[rv b900, iv 3, iv x2, iv x3, iv x4] [(.int x2), (.int 3)]) _ _ _
  by_cases hc1 : (3 : Int32) < x2
  · refine zicmpYes X0 hx hby d_method_4_2 24 (tlt hc1).1 (by decide) (by decide) (ziconst X0 hx hby d_method_4_24 (z := (0 : Int32)) rfl ?_)
    show zEnds p e below s T0 (mkF m 25 #[rv b900, iv 3, iv x2, iv x3, iv x4] [(.int 0)]) _ _ _
    exact zretI X0 hx hby d_method_4_25 hret hlk (by decide) (by decide) ⟨(by simp +decide [hitv, k0, hc1]), e0, rfl⟩
  · refine zicmpNo X0 hx hby d_method_4_2 (flt hc1).1 (ziloadN X0 hx hby d_method_4_5 rfl (ziloadN X0 hx hby d_method_4_6 rfl ?_))
    show zEnds p e below s T0 (mkF m 7 #[rv b900, iv 3, iv x2, iv x3, iv x4] [(.int x3), (.int 3)]) _ _ _
    by_cases hc2 : (3 : Int32) < x3
    · refine zicmpNo X0 hx hby d_method_4_7 (tlt hc2).2.1 (zaloadN X0 hx hby d_method_4_10 rfl rfl (ziloadN X0 hx hby d_method_4_11 rfl (zbaload X0 hx hby d_method_4_12 hZ e0 A_b900 (by decide) (v := (.int x8)) rfl (zsipush X0 hx hby d_method_4_13 (z := (255 : Int32)) rfl (ziand X0 hx hby d_method_4_16 (x8 &&& (255 : Int32)) rfl (ziload X0 hx hby d_method_4_17 rfl ?_))))))
      show zEnds p e below s T0 (mkF m 19 #[rv b900, iv 3, iv x2, iv x3, iv x4] [(.int x4), (.int (x8 &&& (255 : Int32)))]) _ _ _
      by_cases hc3 : (x8 &&& (255 : Int32)) = x4
      · refine zicmpNo X0 hx hby d_method_4_19 (teq hc3).2 (ziconst X0 hx hby d_method_4_22 (z := (1 : Int32)) rfl ?_)
        show zEnds p e below s T0 (mkF m 23 #[rv b900, iv 3, iv x2, iv x3, iv x4] [(.int 1)]) _ _ _
        exact zretI X0 hx hby d_method_4_23 hret hlk (by decide) (by decide) ⟨(by simp +decide [hitv, k0, hc1, hc2, hc3]), e0, rfl⟩
      · refine zicmpYes X0 hx hby d_method_4_19 24 (feq hc3).2 (by decide) (by decide) (ziconst X0 hx hby d_method_4_24 (z := (0 : Int32)) rfl ?_)
        show zEnds p e below s T0 (mkF m 25 #[rv b900, iv 3, iv x2, iv x3, iv x4] [(.int 0)]) _ _ _
        exact zretI X0 hx hby d_method_4_25 hret hlk (by decide) (by decide) ⟨(by simp +decide [hitv, k0, hc1, hc2, hc3]), e0, rfl⟩
    · refine zicmpYes X0 hx hby d_method_4_7 24 (flt hc2).2.1 (by decide) (by decide) (ziconst X0 hx hby d_method_4_24 (z := (0 : Int32)) rfl ?_)
      show zEnds p e below s T0 (mkF m 25 #[rv b900, iv 3, iv x2, iv x3, iv x4] [(.int 0)]) _ _ _
      exact zretI X0 hx hby d_method_4_25 hret hlk (by decide) (by decide) ⟨(by simp +decide [hitv, k0, hc1, hc2]), e0, rfl⟩
set_option maxRecDepth 65536 in
set_option maxHeartbeats 40000000 in
theorem c29_hit (l : Launch) {Z : State} {a0 : Array Value} (hw : ∀ d ∈ tables_1, d.before a0 Z = true) (ws : List Jvm.Cond) {w_ONE_CHAR_A_BYTE w_ASCII w_UTF_8 : Addr} {n0 : Nat} {h0 : Heap} (C : Ctx Z w_ONE_CHAR_A_BYTE w_ASCII w_UTF_8) (O0 : Old Z n0 h0) (Z0 : n0 ≤ h0.size) (x2 : Int32) (x3 : Int32) (x4 : Int32) (b900 : Addr) (x5 : Int32) (x6 : Int32) (x7 : Int32) (x8 : Int32) (x9 : Int32) (x10 : Int32) (x11 : Int32) (x12 : Int32) (g_b900 : n0 ≤ b900) (A_b900 : zLst Z h0 b900 .byte [(.int x5), (.int x6), (.int x7), (.int x8), (.int x9), (.int x10), (.int x11), (.int x12)]) (k0 : ¬ ((8 : Int32) < x3)) : zCon l Z (⟨"com/example/kakehashi/kakehashi/message/ReadingCountPinLaw", "hit", "([BIIII)I"⟩ : MethodName) method_4_code 5 (some .int) ws ({ frames := 0, cells := 0, slots := 0, locals := 0 } : Room) #[(.ref b900), (.int 4), (.int x2), (.int x3), (.int x4)] h0 (zSame (some (.int (hitv x2 x3 (4 : Int32) x9 x4))) h0) := by
  obtain ⟨S_w_ONE_CHAR_A_BYTE, S_w_ASCII, S_w_UTF_8, E_w_ONE_CHAR_A_BYTE, E_w_ASCII, E_w_UTF_8⟩ := C
  refine zenter (plainFor_of_name pn_0) (L0 := #[rv b900, iv 4, iv x2, iv x3, iv x4]) (fun m => by first | rfl | simp [entryFrame, mkF, argsToLocals, Value.category, maxLocals]) ?_
  intro p e s m below meth c T0 hx hZ hby hml hown0 hnm hret hlk X0 e0
  have hown : s.vm.findClass "com/example/kakehashi/kakehashi/message/ReadingCountPinLaw" = some m.cls := hown0
  have K0 := Keep.refl h0 []
  have N0 := Fr.nil n0
  show zEnds p e below s T0 (mkF m 0 #[rv b900, iv 4, iv x2, iv x3, iv x4] []) _ _ _
  refine ziloadN X0 hx hby d_method_4_0 rfl (ziloadN X0 hx hby d_method_4_1 rfl ?_)
  show zEnds p e below s T0 (mkF m 2 #[rv b900, iv 4, iv x2, iv x3, iv x4] [(.int x2), (.int 4)]) _ _ _
  by_cases hc1 : (4 : Int32) < x2
  · refine zicmpYes X0 hx hby d_method_4_2 24 (tlt hc1).1 (by decide) (by decide) (ziconst X0 hx hby d_method_4_24 (z := (0 : Int32)) rfl ?_)
    show zEnds p e below s T0 (mkF m 25 #[rv b900, iv 4, iv x2, iv x3, iv x4] [(.int 0)]) _ _ _
    exact zretI X0 hx hby d_method_4_25 hret hlk (by decide) (by decide) ⟨(by simp +decide [hitv, k0, hc1]), e0, rfl⟩
  · refine zicmpNo X0 hx hby d_method_4_2 (flt hc1).1 (ziloadN X0 hx hby d_method_4_5 rfl (ziloadN X0 hx hby d_method_4_6 rfl ?_))
    show zEnds p e below s T0 (mkF m 7 #[rv b900, iv 4, iv x2, iv x3, iv x4] [(.int x3), (.int 4)]) _ _ _
    by_cases hc2 : (4 : Int32) < x3
    · refine zicmpNo X0 hx hby d_method_4_7 (tlt hc2).2.1 (zaloadN X0 hx hby d_method_4_10 rfl rfl (ziloadN X0 hx hby d_method_4_11 rfl (zbaload X0 hx hby d_method_4_12 hZ e0 A_b900 (by decide) (v := (.int x9)) rfl (zsipush X0 hx hby d_method_4_13 (z := (255 : Int32)) rfl (ziand X0 hx hby d_method_4_16 (x9 &&& (255 : Int32)) rfl (ziload X0 hx hby d_method_4_17 rfl ?_))))))
      show zEnds p e below s T0 (mkF m 19 #[rv b900, iv 4, iv x2, iv x3, iv x4] [(.int x4), (.int (x9 &&& (255 : Int32)))]) _ _ _
      by_cases hc3 : (x9 &&& (255 : Int32)) = x4
      · refine zicmpNo X0 hx hby d_method_4_19 (teq hc3).2 (ziconst X0 hx hby d_method_4_22 (z := (1 : Int32)) rfl ?_)
        show zEnds p e below s T0 (mkF m 23 #[rv b900, iv 4, iv x2, iv x3, iv x4] [(.int 1)]) _ _ _
        exact zretI X0 hx hby d_method_4_23 hret hlk (by decide) (by decide) ⟨(by simp +decide [hitv, k0, hc1, hc2, hc3]), e0, rfl⟩
      · refine zicmpYes X0 hx hby d_method_4_19 24 (feq hc3).2 (by decide) (by decide) (ziconst X0 hx hby d_method_4_24 (z := (0 : Int32)) rfl ?_)
        show zEnds p e below s T0 (mkF m 25 #[rv b900, iv 4, iv x2, iv x3, iv x4] [(.int 0)]) _ _ _
        exact zretI X0 hx hby d_method_4_25 hret hlk (by decide) (by decide) ⟨(by simp +decide [hitv, k0, hc1, hc2, hc3]), e0, rfl⟩
    · refine zicmpYes X0 hx hby d_method_4_7 24 (flt hc2).2.1 (by decide) (by decide) (ziconst X0 hx hby d_method_4_24 (z := (0 : Int32)) rfl ?_)
      show zEnds p e below s T0 (mkF m 25 #[rv b900, iv 4, iv x2, iv x3, iv x4] [(.int 0)]) _ _ _
      exact zretI X0 hx hby d_method_4_25 hret hlk (by decide) (by decide) ⟨(by simp +decide [hitv, k0, hc1, hc2]), e0, rfl⟩
set_option maxRecDepth 65536 in
set_option maxHeartbeats 40000000 in
theorem c31_hit (l : Launch) {Z : State} {a0 : Array Value} (hw : ∀ d ∈ tables_1, d.before a0 Z = true) (ws : List Jvm.Cond) {w_ONE_CHAR_A_BYTE w_ASCII w_UTF_8 : Addr} {n0 : Nat} {h0 : Heap} (C : Ctx Z w_ONE_CHAR_A_BYTE w_ASCII w_UTF_8) (O0 : Old Z n0 h0) (Z0 : n0 ≤ h0.size) (x2 : Int32) (x3 : Int32) (x4 : Int32) (b900 : Addr) (x5 : Int32) (x6 : Int32) (x7 : Int32) (x8 : Int32) (x9 : Int32) (x10 : Int32) (x11 : Int32) (x12 : Int32) (g_b900 : n0 ≤ b900) (A_b900 : zLst Z h0 b900 .byte [(.int x5), (.int x6), (.int x7), (.int x8), (.int x9), (.int x10), (.int x11), (.int x12)]) (k0 : ¬ ((8 : Int32) < x3)) : zCon l Z (⟨"com/example/kakehashi/kakehashi/message/ReadingCountPinLaw", "hit", "([BIIII)I"⟩ : MethodName) method_4_code 5 (some .int) ws ({ frames := 0, cells := 0, slots := 0, locals := 0 } : Room) #[(.ref b900), (.int 5), (.int x2), (.int x3), (.int x4)] h0 (zSame (some (.int (hitv x2 x3 (5 : Int32) x10 x4))) h0) := by
  obtain ⟨S_w_ONE_CHAR_A_BYTE, S_w_ASCII, S_w_UTF_8, E_w_ONE_CHAR_A_BYTE, E_w_ASCII, E_w_UTF_8⟩ := C
  refine zenter (plainFor_of_name pn_0) (L0 := #[rv b900, iv 5, iv x2, iv x3, iv x4]) (fun m => by first | rfl | simp [entryFrame, mkF, argsToLocals, Value.category, maxLocals]) ?_
  intro p e s m below meth c T0 hx hZ hby hml hown0 hnm hret hlk X0 e0
  have hown : s.vm.findClass "com/example/kakehashi/kakehashi/message/ReadingCountPinLaw" = some m.cls := hown0
  have K0 := Keep.refl h0 []
  have N0 := Fr.nil n0
  show zEnds p e below s T0 (mkF m 0 #[rv b900, iv 5, iv x2, iv x3, iv x4] []) _ _ _
  refine ziloadN X0 hx hby d_method_4_0 rfl (ziloadN X0 hx hby d_method_4_1 rfl ?_)
  show zEnds p e below s T0 (mkF m 2 #[rv b900, iv 5, iv x2, iv x3, iv x4] [(.int x2), (.int 5)]) _ _ _
  by_cases hc1 : (5 : Int32) < x2
  · refine zicmpYes X0 hx hby d_method_4_2 24 (tlt hc1).1 (by decide) (by decide) (ziconst X0 hx hby d_method_4_24 (z := (0 : Int32)) rfl ?_)
    show zEnds p e below s T0 (mkF m 25 #[rv b900, iv 5, iv x2, iv x3, iv x4] [(.int 0)]) _ _ _
    exact zretI X0 hx hby d_method_4_25 hret hlk (by decide) (by decide) ⟨(by simp +decide [hitv, k0, hc1]), e0, rfl⟩
  · refine zicmpNo X0 hx hby d_method_4_2 (flt hc1).1 (ziloadN X0 hx hby d_method_4_5 rfl (ziloadN X0 hx hby d_method_4_6 rfl ?_))
    show zEnds p e below s T0 (mkF m 7 #[rv b900, iv 5, iv x2, iv x3, iv x4] [(.int x3), (.int 5)]) _ _ _
    by_cases hc2 : (5 : Int32) < x3
    · refine zicmpNo X0 hx hby d_method_4_7 (tlt hc2).2.1 (zaloadN X0 hx hby d_method_4_10 rfl rfl (ziloadN X0 hx hby d_method_4_11 rfl (zbaload X0 hx hby d_method_4_12 hZ e0 A_b900 (by decide) (v := (.int x10)) rfl (zsipush X0 hx hby d_method_4_13 (z := (255 : Int32)) rfl (ziand X0 hx hby d_method_4_16 (x10 &&& (255 : Int32)) rfl (ziload X0 hx hby d_method_4_17 rfl ?_))))))
      show zEnds p e below s T0 (mkF m 19 #[rv b900, iv 5, iv x2, iv x3, iv x4] [(.int x4), (.int (x10 &&& (255 : Int32)))]) _ _ _
      by_cases hc3 : (x10 &&& (255 : Int32)) = x4
      · refine zicmpNo X0 hx hby d_method_4_19 (teq hc3).2 (ziconst X0 hx hby d_method_4_22 (z := (1 : Int32)) rfl ?_)
        show zEnds p e below s T0 (mkF m 23 #[rv b900, iv 5, iv x2, iv x3, iv x4] [(.int 1)]) _ _ _
        exact zretI X0 hx hby d_method_4_23 hret hlk (by decide) (by decide) ⟨(by simp +decide [hitv, k0, hc1, hc2, hc3]), e0, rfl⟩
      · refine zicmpYes X0 hx hby d_method_4_19 24 (feq hc3).2 (by decide) (by decide) (ziconst X0 hx hby d_method_4_24 (z := (0 : Int32)) rfl ?_)
        show zEnds p e below s T0 (mkF m 25 #[rv b900, iv 5, iv x2, iv x3, iv x4] [(.int 0)]) _ _ _
        exact zretI X0 hx hby d_method_4_25 hret hlk (by decide) (by decide) ⟨(by simp +decide [hitv, k0, hc1, hc2, hc3]), e0, rfl⟩
    · refine zicmpYes X0 hx hby d_method_4_7 24 (flt hc2).2.1 (by decide) (by decide) (ziconst X0 hx hby d_method_4_24 (z := (0 : Int32)) rfl ?_)
      show zEnds p e below s T0 (mkF m 25 #[rv b900, iv 5, iv x2, iv x3, iv x4] [(.int 0)]) _ _ _
      exact zretI X0 hx hby d_method_4_25 hret hlk (by decide) (by decide) ⟨(by simp +decide [hitv, k0, hc1, hc2]), e0, rfl⟩
set_option maxRecDepth 65536 in
set_option maxHeartbeats 40000000 in
theorem c33_hit (l : Launch) {Z : State} {a0 : Array Value} (hw : ∀ d ∈ tables_1, d.before a0 Z = true) (ws : List Jvm.Cond) {w_ONE_CHAR_A_BYTE w_ASCII w_UTF_8 : Addr} {n0 : Nat} {h0 : Heap} (C : Ctx Z w_ONE_CHAR_A_BYTE w_ASCII w_UTF_8) (O0 : Old Z n0 h0) (Z0 : n0 ≤ h0.size) (x2 : Int32) (x3 : Int32) (x4 : Int32) (b900 : Addr) (x5 : Int32) (x6 : Int32) (x7 : Int32) (x8 : Int32) (x9 : Int32) (x10 : Int32) (x11 : Int32) (x12 : Int32) (g_b900 : n0 ≤ b900) (A_b900 : zLst Z h0 b900 .byte [(.int x5), (.int x6), (.int x7), (.int x8), (.int x9), (.int x10), (.int x11), (.int x12)]) (k0 : ¬ ((8 : Int32) < x3)) : zCon l Z (⟨"com/example/kakehashi/kakehashi/message/ReadingCountPinLaw", "hit", "([BIIII)I"⟩ : MethodName) method_4_code 5 (some .int) ws ({ frames := 0, cells := 0, slots := 0, locals := 0 } : Room) #[(.ref b900), (.int 6), (.int x2), (.int x3), (.int x4)] h0 (zSame (some (.int (hitv x2 x3 (6 : Int32) x11 x4))) h0) := by
  obtain ⟨S_w_ONE_CHAR_A_BYTE, S_w_ASCII, S_w_UTF_8, E_w_ONE_CHAR_A_BYTE, E_w_ASCII, E_w_UTF_8⟩ := C
  refine zenter (plainFor_of_name pn_0) (L0 := #[rv b900, iv 6, iv x2, iv x3, iv x4]) (fun m => by first | rfl | simp [entryFrame, mkF, argsToLocals, Value.category, maxLocals]) ?_
  intro p e s m below meth c T0 hx hZ hby hml hown0 hnm hret hlk X0 e0
  have hown : s.vm.findClass "com/example/kakehashi/kakehashi/message/ReadingCountPinLaw" = some m.cls := hown0
  have K0 := Keep.refl h0 []
  have N0 := Fr.nil n0
  show zEnds p e below s T0 (mkF m 0 #[rv b900, iv 6, iv x2, iv x3, iv x4] []) _ _ _
  refine ziloadN X0 hx hby d_method_4_0 rfl (ziloadN X0 hx hby d_method_4_1 rfl ?_)
  show zEnds p e below s T0 (mkF m 2 #[rv b900, iv 6, iv x2, iv x3, iv x4] [(.int x2), (.int 6)]) _ _ _
  by_cases hc1 : (6 : Int32) < x2
  · refine zicmpYes X0 hx hby d_method_4_2 24 (tlt hc1).1 (by decide) (by decide) (ziconst X0 hx hby d_method_4_24 (z := (0 : Int32)) rfl ?_)
    show zEnds p e below s T0 (mkF m 25 #[rv b900, iv 6, iv x2, iv x3, iv x4] [(.int 0)]) _ _ _
    exact zretI X0 hx hby d_method_4_25 hret hlk (by decide) (by decide) ⟨(by simp +decide [hitv, k0, hc1]), e0, rfl⟩
  · refine zicmpNo X0 hx hby d_method_4_2 (flt hc1).1 (ziloadN X0 hx hby d_method_4_5 rfl (ziloadN X0 hx hby d_method_4_6 rfl ?_))
    show zEnds p e below s T0 (mkF m 7 #[rv b900, iv 6, iv x2, iv x3, iv x4] [(.int x3), (.int 6)]) _ _ _
    by_cases hc2 : (6 : Int32) < x3
    · refine zicmpNo X0 hx hby d_method_4_7 (tlt hc2).2.1 (zaloadN X0 hx hby d_method_4_10 rfl rfl (ziloadN X0 hx hby d_method_4_11 rfl (zbaload X0 hx hby d_method_4_12 hZ e0 A_b900 (by decide) (v := (.int x11)) rfl (zsipush X0 hx hby d_method_4_13 (z := (255 : Int32)) rfl (ziand X0 hx hby d_method_4_16 (x11 &&& (255 : Int32)) rfl (ziload X0 hx hby d_method_4_17 rfl ?_))))))
      show zEnds p e below s T0 (mkF m 19 #[rv b900, iv 6, iv x2, iv x3, iv x4] [(.int x4), (.int (x11 &&& (255 : Int32)))]) _ _ _
      by_cases hc3 : (x11 &&& (255 : Int32)) = x4
      · refine zicmpNo X0 hx hby d_method_4_19 (teq hc3).2 (ziconst X0 hx hby d_method_4_22 (z := (1 : Int32)) rfl ?_)
        show zEnds p e below s T0 (mkF m 23 #[rv b900, iv 6, iv x2, iv x3, iv x4] [(.int 1)]) _ _ _
        exact zretI X0 hx hby d_method_4_23 hret hlk (by decide) (by decide) ⟨(by simp +decide [hitv, k0, hc1, hc2, hc3]), e0, rfl⟩
      · refine zicmpYes X0 hx hby d_method_4_19 24 (feq hc3).2 (by decide) (by decide) (ziconst X0 hx hby d_method_4_24 (z := (0 : Int32)) rfl ?_)
        show zEnds p e below s T0 (mkF m 25 #[rv b900, iv 6, iv x2, iv x3, iv x4] [(.int 0)]) _ _ _
        exact zretI X0 hx hby d_method_4_25 hret hlk (by decide) (by decide) ⟨(by simp +decide [hitv, k0, hc1, hc2, hc3]), e0, rfl⟩
    · refine zicmpYes X0 hx hby d_method_4_7 24 (flt hc2).2.1 (by decide) (by decide) (ziconst X0 hx hby d_method_4_24 (z := (0 : Int32)) rfl ?_)
      show zEnds p e below s T0 (mkF m 25 #[rv b900, iv 6, iv x2, iv x3, iv x4] [(.int 0)]) _ _ _
      exact zretI X0 hx hby d_method_4_25 hret hlk (by decide) (by decide) ⟨(by simp +decide [hitv, k0, hc1, hc2]), e0, rfl⟩
set_option maxRecDepth 65536 in
set_option maxHeartbeats 40000000 in
theorem c35_hit (l : Launch) {Z : State} {a0 : Array Value} (hw : ∀ d ∈ tables_1, d.before a0 Z = true) (ws : List Jvm.Cond) {w_ONE_CHAR_A_BYTE w_ASCII w_UTF_8 : Addr} {n0 : Nat} {h0 : Heap} (C : Ctx Z w_ONE_CHAR_A_BYTE w_ASCII w_UTF_8) (O0 : Old Z n0 h0) (Z0 : n0 ≤ h0.size) (x2 : Int32) (x3 : Int32) (x4 : Int32) (b900 : Addr) (x5 : Int32) (x6 : Int32) (x7 : Int32) (x8 : Int32) (x9 : Int32) (x10 : Int32) (x11 : Int32) (x12 : Int32) (g_b900 : n0 ≤ b900) (A_b900 : zLst Z h0 b900 .byte [(.int x5), (.int x6), (.int x7), (.int x8), (.int x9), (.int x10), (.int x11), (.int x12)]) (k0 : ¬ ((8 : Int32) < x3)) : zCon l Z (⟨"com/example/kakehashi/kakehashi/message/ReadingCountPinLaw", "hit", "([BIIII)I"⟩ : MethodName) method_4_code 5 (some .int) ws ({ frames := 0, cells := 0, slots := 0, locals := 0 } : Room) #[(.ref b900), (.int 7), (.int x2), (.int x3), (.int x4)] h0 (zSame (some (.int (hitv x2 x3 (7 : Int32) x12 x4))) h0) := by
  obtain ⟨S_w_ONE_CHAR_A_BYTE, S_w_ASCII, S_w_UTF_8, E_w_ONE_CHAR_A_BYTE, E_w_ASCII, E_w_UTF_8⟩ := C
  refine zenter (plainFor_of_name pn_0) (L0 := #[rv b900, iv 7, iv x2, iv x3, iv x4]) (fun m => by first | rfl | simp [entryFrame, mkF, argsToLocals, Value.category, maxLocals]) ?_
  intro p e s m below meth c T0 hx hZ hby hml hown0 hnm hret hlk X0 e0
  have hown : s.vm.findClass "com/example/kakehashi/kakehashi/message/ReadingCountPinLaw" = some m.cls := hown0
  have K0 := Keep.refl h0 []
  have N0 := Fr.nil n0
  show zEnds p e below s T0 (mkF m 0 #[rv b900, iv 7, iv x2, iv x3, iv x4] []) _ _ _
  refine ziloadN X0 hx hby d_method_4_0 rfl (ziloadN X0 hx hby d_method_4_1 rfl ?_)
  show zEnds p e below s T0 (mkF m 2 #[rv b900, iv 7, iv x2, iv x3, iv x4] [(.int x2), (.int 7)]) _ _ _
  by_cases hc1 : (7 : Int32) < x2
  · refine zicmpYes X0 hx hby d_method_4_2 24 (tlt hc1).1 (by decide) (by decide) (ziconst X0 hx hby d_method_4_24 (z := (0 : Int32)) rfl ?_)
    show zEnds p e below s T0 (mkF m 25 #[rv b900, iv 7, iv x2, iv x3, iv x4] [(.int 0)]) _ _ _
    exact zretI X0 hx hby d_method_4_25 hret hlk (by decide) (by decide) ⟨(by simp +decide [hitv, k0, hc1]), e0, rfl⟩
  · refine zicmpNo X0 hx hby d_method_4_2 (flt hc1).1 (ziloadN X0 hx hby d_method_4_5 rfl (ziloadN X0 hx hby d_method_4_6 rfl ?_))
    show zEnds p e below s T0 (mkF m 7 #[rv b900, iv 7, iv x2, iv x3, iv x4] [(.int x3), (.int 7)]) _ _ _
    by_cases hc2 : (7 : Int32) < x3
    · refine zicmpNo X0 hx hby d_method_4_7 (tlt hc2).2.1 (zaloadN X0 hx hby d_method_4_10 rfl rfl (ziloadN X0 hx hby d_method_4_11 rfl (zbaload X0 hx hby d_method_4_12 hZ e0 A_b900 (by decide) (v := (.int x12)) rfl (zsipush X0 hx hby d_method_4_13 (z := (255 : Int32)) rfl (ziand X0 hx hby d_method_4_16 (x12 &&& (255 : Int32)) rfl (ziload X0 hx hby d_method_4_17 rfl ?_))))))
      show zEnds p e below s T0 (mkF m 19 #[rv b900, iv 7, iv x2, iv x3, iv x4] [(.int x4), (.int (x12 &&& (255 : Int32)))]) _ _ _
      by_cases hc3 : (x12 &&& (255 : Int32)) = x4
      · refine zicmpNo X0 hx hby d_method_4_19 (teq hc3).2 (ziconst X0 hx hby d_method_4_22 (z := (1 : Int32)) rfl ?_)
        show zEnds p e below s T0 (mkF m 23 #[rv b900, iv 7, iv x2, iv x3, iv x4] [(.int 1)]) _ _ _
        exact zretI X0 hx hby d_method_4_23 hret hlk (by decide) (by decide) ⟨(by simp +decide [hitv, k0, hc1, hc2, hc3]), e0, rfl⟩
      · refine zicmpYes X0 hx hby d_method_4_19 24 (feq hc3).2 (by decide) (by decide) (ziconst X0 hx hby d_method_4_24 (z := (0 : Int32)) rfl ?_)
        show zEnds p e below s T0 (mkF m 25 #[rv b900, iv 7, iv x2, iv x3, iv x4] [(.int 0)]) _ _ _
        exact zretI X0 hx hby d_method_4_25 hret hlk (by decide) (by decide) ⟨(by simp +decide [hitv, k0, hc1, hc2, hc3]), e0, rfl⟩
    · refine zicmpYes X0 hx hby d_method_4_7 24 (flt hc2).2.1 (by decide) (by decide) (ziconst X0 hx hby d_method_4_24 (z := (0 : Int32)) rfl ?_)
      show zEnds p e below s T0 (mkF m 25 #[rv b900, iv 7, iv x2, iv x3, iv x4] [(.int 0)]) _ _ _
      exact zretI X0 hx hby d_method_4_25 hret hlk (by decide) (by decide) ⟨(by simp +decide [hitv, k0, hc1, hc2]), e0, rfl⟩
set_option maxRecDepth 65536 in
set_option maxHeartbeats 40000000 in
theorem stgc_8 {p : Program} {l : Launch} {e : Env} {R : Room} {s : State} {m : MethodId} {args : Array Value} {below : List Frame} {meth : Method} {c : Code} {T0 : State} {Z : State} {a0 : Array Value} {h0 : Heap} {cs ss : Nat} {b1 : Addr} {r1 : Addr} {lo hi cc n x1 x2 x3 x4 x5 x6 x7 x8 : Int32}
    (X0 : Stand p l e R s m args below meth c T0 [] 0 0) (hx : p.tables.exec = Jvm.exec) (hZ : Z.Warmed39 s.vm) (hw : ∀ d ∈ tables_1, d.before a0 Z = true) (hby : c.code = prog_64_method_12_code) (hml : c.maxLocals = 7) (hown : s.vm.findClass "com/example/kakehashi/kakehashi/message/Reading" = some m.cls) (hret : meth.sig.returnType = (some .int)) (hlk : meth.locks = false) (e0 : T0.heap = h0) (A_b1 : zLst Z h0 b1 .byte [(.int x1), (.int x2), (.int x3), (.int x4), (.int x5), (.int x6), (.int x7), (.int x8)]) (k8 : ¬ ((8 : Int32) < hi)) :
    zEnds p e below s T0 (mkF m 6 #[rv r1, rv b1, iv lo, iv hi, iv cc, iv n, iv 8] []) cs ss (zSame (some (.int (cnt8 n hi cc))) h0) := by
  show zEnds p e below s T0 (mkF m 6 #[rv r1, rv b1, iv lo, iv hi, iv cc, iv n, iv 8] []) _ _ _
  refine ziload X0 hx hby d_prog_64_method_12_6 rfl (ziloadN X0 hx hby d_prog_64_method_12_8 rfl (zicmpYes X0 hx hby d_prog_64_method_12_9 30 (flt k8).2.1 (by decide) (by decide) (ziload X0 hx hby d_prog_64_method_12_30 rfl ?_)))
  show zEnds p e below s T0 (mkF m 32 #[rv r1, rv b1, iv lo, iv hi, iv cc, iv n, iv 8] [(.int n)]) _ _ _
  exact zretI X0 hx hby d_prog_64_method_12_32 hret hlk (Nat.zero_le _) (Nat.zero_le _) ⟨(by simp [cnt8, k8]), e0, rfl⟩
set_option maxRecDepth 65536 in
set_option maxHeartbeats 40000000 in
theorem stgc_7 {p : Program} {l : Launch} {e : Env} {R : Room} {s : State} {m : MethodId} {args : Array Value} {below : List Frame} {meth : Method} {c : Code} {T0 : State} {Z : State} {a0 : Array Value} {h0 : Heap} {cs ss : Nat} {b1 : Addr} {r1 : Addr} {lo hi cc n x1 x2 x3 x4 x5 x6 x7 x8 : Int32}
    (X0 : Stand p l e R s m args below meth c T0 [] 0 0) (hx : p.tables.exec = Jvm.exec) (hZ : Z.Warmed39 s.vm) (hw : ∀ d ∈ tables_1, d.before a0 Z = true) (hby : c.code = prog_64_method_12_code) (hml : c.maxLocals = 7) (hown : s.vm.findClass "com/example/kakehashi/kakehashi/message/Reading" = some m.cls) (hret : meth.sig.returnType = (some .int)) (hlk : meth.locks = false) (e0 : T0.heap = h0) (A_b1 : zLst Z h0 b1 .byte [(.int x1), (.int x2), (.int x3), (.int x4), (.int x5), (.int x6), (.int x7), (.int x8)]) (k8 : ¬ ((8 : Int32) < hi)) :
    zEnds p e below s T0 (mkF m 6 #[rv r1, rv b1, iv lo, iv hi, iv cc, iv n, iv 7] []) cs ss (zSame (some (.int (cnt7 n hi cc x8))) h0) := by
  show zEnds p e below s T0 (mkF m 6 #[rv r1, rv b1, iv lo, iv hi, iv cc, iv n, iv 7] []) _ _ _
  refine ziload X0 hx hby d_prog_64_method_12_6 rfl (ziloadN X0 hx hby d_prog_64_method_12_8 rfl ?_)
  show zEnds p e below s T0 (mkF m 9 #[rv r1, rv b1, iv lo, iv hi, iv cc, iv n, iv 7] [(.int hi), (.int 7)]) _ _ _
  by_cases hc1 : (7 : Int32) < hi
  · refine zicmpNo X0 hx hby d_prog_64_method_12_9 (tlt hc1).2.1 (zaloadN X0 hx hby d_prog_64_method_12_12 rfl rfl (ziload X0 hx hby d_prog_64_method_12_13 rfl (zbaload X0 hx hby d_prog_64_method_12_15 hZ e0 A_b1 (by decide) (v := (.int x8)) rfl (ziload X0 hx hby d_prog_64_method_12_16 rfl ?_))))
    show zEnds p e below s T0 (mkF m 18 #[rv r1, rv b1, iv lo, iv hi, iv cc, iv n, iv 7] [(.int cc), (.int x8)]) _ _ _
    by_cases hc2 : x8 = cc
    · refine zicmpNo X0 hx hby d_prog_64_method_12_18 (teq hc2).2 (ziinc X0 hx hby d_prog_64_method_12_21 (L' := #[rv r1, rv b1, iv lo, iv hi, iv cc, iv (n + (1 : Int32)), iv 7]) rfl rfl (ziinc X0 hx hby d_prog_64_method_12_24 (L' := #[rv r1, rv b1, iv lo, iv hi, iv cc, iv (n + (1 : Int32)), iv 8]) rfl rfl (zgoto X0 hx hby d_prog_64_method_12_27 6 (by decide) (by decide) ?_)))
      show zEnds p e below s T0 (mkF m 6 #[rv r1, rv b1, iv lo, iv hi, iv cc, iv (n + (1 : Int32)), iv 8] []) _ _ _
      exact zsameTo (stgc_8 X0 hx hZ hw hby hml hown hret hlk e0 A_b1 k8) (by simp [cnt7, k8, hc1, hc2])
    · refine zicmpYes X0 hx hby d_prog_64_method_12_18 24 (feq hc2).2 (by decide) (by decide) (ziinc X0 hx hby d_prog_64_method_12_24 (L' := #[rv r1, rv b1, iv lo, iv hi, iv cc, iv n, iv 8]) rfl rfl (zgoto X0 hx hby d_prog_64_method_12_27 6 (by decide) (by decide) ?_))
      show zEnds p e below s T0 (mkF m 6 #[rv r1, rv b1, iv lo, iv hi, iv cc, iv n, iv 8] []) _ _ _
      exact zsameTo (stgc_8 X0 hx hZ hw hby hml hown hret hlk e0 A_b1 k8) (by simp [cnt7, k8, hc1, hc2])
  · refine zicmpYes X0 hx hby d_prog_64_method_12_9 30 (flt hc1).2.1 (by decide) (by decide) (ziload X0 hx hby d_prog_64_method_12_30 rfl ?_)
    show zEnds p e below s T0 (mkF m 32 #[rv r1, rv b1, iv lo, iv hi, iv cc, iv n, iv 7] [(.int n)]) _ _ _
    exact zretI X0 hx hby d_prog_64_method_12_32 hret hlk (Nat.zero_le _) (Nat.zero_le _) ⟨(by simp [cnt7, k8, hc1]), e0, rfl⟩
set_option maxRecDepth 65536 in
set_option maxHeartbeats 40000000 in
theorem stgc_6 {p : Program} {l : Launch} {e : Env} {R : Room} {s : State} {m : MethodId} {args : Array Value} {below : List Frame} {meth : Method} {c : Code} {T0 : State} {Z : State} {a0 : Array Value} {h0 : Heap} {cs ss : Nat} {b1 : Addr} {r1 : Addr} {lo hi cc n x1 x2 x3 x4 x5 x6 x7 x8 : Int32}
    (X0 : Stand p l e R s m args below meth c T0 [] 0 0) (hx : p.tables.exec = Jvm.exec) (hZ : Z.Warmed39 s.vm) (hw : ∀ d ∈ tables_1, d.before a0 Z = true) (hby : c.code = prog_64_method_12_code) (hml : c.maxLocals = 7) (hown : s.vm.findClass "com/example/kakehashi/kakehashi/message/Reading" = some m.cls) (hret : meth.sig.returnType = (some .int)) (hlk : meth.locks = false) (e0 : T0.heap = h0) (A_b1 : zLst Z h0 b1 .byte [(.int x1), (.int x2), (.int x3), (.int x4), (.int x5), (.int x6), (.int x7), (.int x8)]) (k8 : ¬ ((8 : Int32) < hi)) :
    zEnds p e below s T0 (mkF m 6 #[rv r1, rv b1, iv lo, iv hi, iv cc, iv n, iv 6] []) cs ss (zSame (some (.int (cnt6 n hi cc x7 x8))) h0) := by
  show zEnds p e below s T0 (mkF m 6 #[rv r1, rv b1, iv lo, iv hi, iv cc, iv n, iv 6] []) _ _ _
  refine ziload X0 hx hby d_prog_64_method_12_6 rfl (ziloadN X0 hx hby d_prog_64_method_12_8 rfl ?_)
  show zEnds p e below s T0 (mkF m 9 #[rv r1, rv b1, iv lo, iv hi, iv cc, iv n, iv 6] [(.int hi), (.int 6)]) _ _ _
  by_cases hc1 : (6 : Int32) < hi
  · refine zicmpNo X0 hx hby d_prog_64_method_12_9 (tlt hc1).2.1 (zaloadN X0 hx hby d_prog_64_method_12_12 rfl rfl (ziload X0 hx hby d_prog_64_method_12_13 rfl (zbaload X0 hx hby d_prog_64_method_12_15 hZ e0 A_b1 (by decide) (v := (.int x7)) rfl (ziload X0 hx hby d_prog_64_method_12_16 rfl ?_))))
    show zEnds p e below s T0 (mkF m 18 #[rv r1, rv b1, iv lo, iv hi, iv cc, iv n, iv 6] [(.int cc), (.int x7)]) _ _ _
    by_cases hc2 : x7 = cc
    · refine zicmpNo X0 hx hby d_prog_64_method_12_18 (teq hc2).2 (ziinc X0 hx hby d_prog_64_method_12_21 (L' := #[rv r1, rv b1, iv lo, iv hi, iv cc, iv (n + (1 : Int32)), iv 6]) rfl rfl (ziinc X0 hx hby d_prog_64_method_12_24 (L' := #[rv r1, rv b1, iv lo, iv hi, iv cc, iv (n + (1 : Int32)), iv 7]) rfl rfl (zgoto X0 hx hby d_prog_64_method_12_27 6 (by decide) (by decide) ?_)))
      show zEnds p e below s T0 (mkF m 6 #[rv r1, rv b1, iv lo, iv hi, iv cc, iv (n + (1 : Int32)), iv 7] []) _ _ _
      exact zsameTo (stgc_7 X0 hx hZ hw hby hml hown hret hlk e0 A_b1 k8) (by simp [cnt6, k8, hc1, hc2])
    · refine zicmpYes X0 hx hby d_prog_64_method_12_18 24 (feq hc2).2 (by decide) (by decide) (ziinc X0 hx hby d_prog_64_method_12_24 (L' := #[rv r1, rv b1, iv lo, iv hi, iv cc, iv n, iv 7]) rfl rfl (zgoto X0 hx hby d_prog_64_method_12_27 6 (by decide) (by decide) ?_))
      show zEnds p e below s T0 (mkF m 6 #[rv r1, rv b1, iv lo, iv hi, iv cc, iv n, iv 7] []) _ _ _
      exact zsameTo (stgc_7 X0 hx hZ hw hby hml hown hret hlk e0 A_b1 k8) (by simp [cnt6, k8, hc1, hc2])
  · refine zicmpYes X0 hx hby d_prog_64_method_12_9 30 (flt hc1).2.1 (by decide) (by decide) (ziload X0 hx hby d_prog_64_method_12_30 rfl ?_)
    show zEnds p e below s T0 (mkF m 32 #[rv r1, rv b1, iv lo, iv hi, iv cc, iv n, iv 6] [(.int n)]) _ _ _
    exact zretI X0 hx hby d_prog_64_method_12_32 hret hlk (Nat.zero_le _) (Nat.zero_le _) ⟨(by simp [cnt6, k8, hc1]), e0, rfl⟩
set_option maxRecDepth 65536 in
set_option maxHeartbeats 40000000 in
theorem stgc_5 {p : Program} {l : Launch} {e : Env} {R : Room} {s : State} {m : MethodId} {args : Array Value} {below : List Frame} {meth : Method} {c : Code} {T0 : State} {Z : State} {a0 : Array Value} {h0 : Heap} {cs ss : Nat} {b1 : Addr} {r1 : Addr} {lo hi cc n x1 x2 x3 x4 x5 x6 x7 x8 : Int32}
    (X0 : Stand p l e R s m args below meth c T0 [] 0 0) (hx : p.tables.exec = Jvm.exec) (hZ : Z.Warmed39 s.vm) (hw : ∀ d ∈ tables_1, d.before a0 Z = true) (hby : c.code = prog_64_method_12_code) (hml : c.maxLocals = 7) (hown : s.vm.findClass "com/example/kakehashi/kakehashi/message/Reading" = some m.cls) (hret : meth.sig.returnType = (some .int)) (hlk : meth.locks = false) (e0 : T0.heap = h0) (A_b1 : zLst Z h0 b1 .byte [(.int x1), (.int x2), (.int x3), (.int x4), (.int x5), (.int x6), (.int x7), (.int x8)]) (k8 : ¬ ((8 : Int32) < hi)) :
    zEnds p e below s T0 (mkF m 6 #[rv r1, rv b1, iv lo, iv hi, iv cc, iv n, iv 5] []) cs ss (zSame (some (.int (cnt5 n hi cc x6 x7 x8))) h0) := by
  show zEnds p e below s T0 (mkF m 6 #[rv r1, rv b1, iv lo, iv hi, iv cc, iv n, iv 5] []) _ _ _
  refine ziload X0 hx hby d_prog_64_method_12_6 rfl (ziloadN X0 hx hby d_prog_64_method_12_8 rfl ?_)
  show zEnds p e below s T0 (mkF m 9 #[rv r1, rv b1, iv lo, iv hi, iv cc, iv n, iv 5] [(.int hi), (.int 5)]) _ _ _
  by_cases hc1 : (5 : Int32) < hi
  · refine zicmpNo X0 hx hby d_prog_64_method_12_9 (tlt hc1).2.1 (zaloadN X0 hx hby d_prog_64_method_12_12 rfl rfl (ziload X0 hx hby d_prog_64_method_12_13 rfl (zbaload X0 hx hby d_prog_64_method_12_15 hZ e0 A_b1 (by decide) (v := (.int x6)) rfl (ziload X0 hx hby d_prog_64_method_12_16 rfl ?_))))
    show zEnds p e below s T0 (mkF m 18 #[rv r1, rv b1, iv lo, iv hi, iv cc, iv n, iv 5] [(.int cc), (.int x6)]) _ _ _
    by_cases hc2 : x6 = cc
    · refine zicmpNo X0 hx hby d_prog_64_method_12_18 (teq hc2).2 (ziinc X0 hx hby d_prog_64_method_12_21 (L' := #[rv r1, rv b1, iv lo, iv hi, iv cc, iv (n + (1 : Int32)), iv 5]) rfl rfl (ziinc X0 hx hby d_prog_64_method_12_24 (L' := #[rv r1, rv b1, iv lo, iv hi, iv cc, iv (n + (1 : Int32)), iv 6]) rfl rfl (zgoto X0 hx hby d_prog_64_method_12_27 6 (by decide) (by decide) ?_)))
      show zEnds p e below s T0 (mkF m 6 #[rv r1, rv b1, iv lo, iv hi, iv cc, iv (n + (1 : Int32)), iv 6] []) _ _ _
      exact zsameTo (stgc_6 X0 hx hZ hw hby hml hown hret hlk e0 A_b1 k8) (by simp [cnt5, k8, hc1, hc2])
    · refine zicmpYes X0 hx hby d_prog_64_method_12_18 24 (feq hc2).2 (by decide) (by decide) (ziinc X0 hx hby d_prog_64_method_12_24 (L' := #[rv r1, rv b1, iv lo, iv hi, iv cc, iv n, iv 6]) rfl rfl (zgoto X0 hx hby d_prog_64_method_12_27 6 (by decide) (by decide) ?_))
      show zEnds p e below s T0 (mkF m 6 #[rv r1, rv b1, iv lo, iv hi, iv cc, iv n, iv 6] []) _ _ _
      exact zsameTo (stgc_6 X0 hx hZ hw hby hml hown hret hlk e0 A_b1 k8) (by simp [cnt5, k8, hc1, hc2])
  · refine zicmpYes X0 hx hby d_prog_64_method_12_9 30 (flt hc1).2.1 (by decide) (by decide) (ziload X0 hx hby d_prog_64_method_12_30 rfl ?_)
    show zEnds p e below s T0 (mkF m 32 #[rv r1, rv b1, iv lo, iv hi, iv cc, iv n, iv 5] [(.int n)]) _ _ _
    exact zretI X0 hx hby d_prog_64_method_12_32 hret hlk (Nat.zero_le _) (Nat.zero_le _) ⟨(by simp [cnt5, k8, hc1]), e0, rfl⟩
set_option maxRecDepth 65536 in
set_option maxHeartbeats 40000000 in
theorem stgc_4 {p : Program} {l : Launch} {e : Env} {R : Room} {s : State} {m : MethodId} {args : Array Value} {below : List Frame} {meth : Method} {c : Code} {T0 : State} {Z : State} {a0 : Array Value} {h0 : Heap} {cs ss : Nat} {b1 : Addr} {r1 : Addr} {lo hi cc n x1 x2 x3 x4 x5 x6 x7 x8 : Int32}
    (X0 : Stand p l e R s m args below meth c T0 [] 0 0) (hx : p.tables.exec = Jvm.exec) (hZ : Z.Warmed39 s.vm) (hw : ∀ d ∈ tables_1, d.before a0 Z = true) (hby : c.code = prog_64_method_12_code) (hml : c.maxLocals = 7) (hown : s.vm.findClass "com/example/kakehashi/kakehashi/message/Reading" = some m.cls) (hret : meth.sig.returnType = (some .int)) (hlk : meth.locks = false) (e0 : T0.heap = h0) (A_b1 : zLst Z h0 b1 .byte [(.int x1), (.int x2), (.int x3), (.int x4), (.int x5), (.int x6), (.int x7), (.int x8)]) (k8 : ¬ ((8 : Int32) < hi)) :
    zEnds p e below s T0 (mkF m 6 #[rv r1, rv b1, iv lo, iv hi, iv cc, iv n, iv 4] []) cs ss (zSame (some (.int (cnt4 n hi cc x5 x6 x7 x8))) h0) := by
  show zEnds p e below s T0 (mkF m 6 #[rv r1, rv b1, iv lo, iv hi, iv cc, iv n, iv 4] []) _ _ _
  refine ziload X0 hx hby d_prog_64_method_12_6 rfl (ziloadN X0 hx hby d_prog_64_method_12_8 rfl ?_)
  show zEnds p e below s T0 (mkF m 9 #[rv r1, rv b1, iv lo, iv hi, iv cc, iv n, iv 4] [(.int hi), (.int 4)]) _ _ _
  by_cases hc1 : (4 : Int32) < hi
  · refine zicmpNo X0 hx hby d_prog_64_method_12_9 (tlt hc1).2.1 (zaloadN X0 hx hby d_prog_64_method_12_12 rfl rfl (ziload X0 hx hby d_prog_64_method_12_13 rfl (zbaload X0 hx hby d_prog_64_method_12_15 hZ e0 A_b1 (by decide) (v := (.int x5)) rfl (ziload X0 hx hby d_prog_64_method_12_16 rfl ?_))))
    show zEnds p e below s T0 (mkF m 18 #[rv r1, rv b1, iv lo, iv hi, iv cc, iv n, iv 4] [(.int cc), (.int x5)]) _ _ _
    by_cases hc2 : x5 = cc
    · refine zicmpNo X0 hx hby d_prog_64_method_12_18 (teq hc2).2 (ziinc X0 hx hby d_prog_64_method_12_21 (L' := #[rv r1, rv b1, iv lo, iv hi, iv cc, iv (n + (1 : Int32)), iv 4]) rfl rfl (ziinc X0 hx hby d_prog_64_method_12_24 (L' := #[rv r1, rv b1, iv lo, iv hi, iv cc, iv (n + (1 : Int32)), iv 5]) rfl rfl (zgoto X0 hx hby d_prog_64_method_12_27 6 (by decide) (by decide) ?_)))
      show zEnds p e below s T0 (mkF m 6 #[rv r1, rv b1, iv lo, iv hi, iv cc, iv (n + (1 : Int32)), iv 5] []) _ _ _
      exact zsameTo (stgc_5 X0 hx hZ hw hby hml hown hret hlk e0 A_b1 k8) (by simp [cnt4, k8, hc1, hc2])
    · refine zicmpYes X0 hx hby d_prog_64_method_12_18 24 (feq hc2).2 (by decide) (by decide) (ziinc X0 hx hby d_prog_64_method_12_24 (L' := #[rv r1, rv b1, iv lo, iv hi, iv cc, iv n, iv 5]) rfl rfl (zgoto X0 hx hby d_prog_64_method_12_27 6 (by decide) (by decide) ?_))
      show zEnds p e below s T0 (mkF m 6 #[rv r1, rv b1, iv lo, iv hi, iv cc, iv n, iv 5] []) _ _ _
      exact zsameTo (stgc_5 X0 hx hZ hw hby hml hown hret hlk e0 A_b1 k8) (by simp [cnt4, k8, hc1, hc2])
  · refine zicmpYes X0 hx hby d_prog_64_method_12_9 30 (flt hc1).2.1 (by decide) (by decide) (ziload X0 hx hby d_prog_64_method_12_30 rfl ?_)
    show zEnds p e below s T0 (mkF m 32 #[rv r1, rv b1, iv lo, iv hi, iv cc, iv n, iv 4] [(.int n)]) _ _ _
    exact zretI X0 hx hby d_prog_64_method_12_32 hret hlk (Nat.zero_le _) (Nat.zero_le _) ⟨(by simp [cnt4, k8, hc1]), e0, rfl⟩
set_option maxRecDepth 65536 in
set_option maxHeartbeats 40000000 in
theorem stgc_3 {p : Program} {l : Launch} {e : Env} {R : Room} {s : State} {m : MethodId} {args : Array Value} {below : List Frame} {meth : Method} {c : Code} {T0 : State} {Z : State} {a0 : Array Value} {h0 : Heap} {cs ss : Nat} {b1 : Addr} {r1 : Addr} {lo hi cc n x1 x2 x3 x4 x5 x6 x7 x8 : Int32}
    (X0 : Stand p l e R s m args below meth c T0 [] 0 0) (hx : p.tables.exec = Jvm.exec) (hZ : Z.Warmed39 s.vm) (hw : ∀ d ∈ tables_1, d.before a0 Z = true) (hby : c.code = prog_64_method_12_code) (hml : c.maxLocals = 7) (hown : s.vm.findClass "com/example/kakehashi/kakehashi/message/Reading" = some m.cls) (hret : meth.sig.returnType = (some .int)) (hlk : meth.locks = false) (e0 : T0.heap = h0) (A_b1 : zLst Z h0 b1 .byte [(.int x1), (.int x2), (.int x3), (.int x4), (.int x5), (.int x6), (.int x7), (.int x8)]) (k8 : ¬ ((8 : Int32) < hi)) :
    zEnds p e below s T0 (mkF m 6 #[rv r1, rv b1, iv lo, iv hi, iv cc, iv n, iv 3] []) cs ss (zSame (some (.int (cnt3 n hi cc x4 x5 x6 x7 x8))) h0) := by
  show zEnds p e below s T0 (mkF m 6 #[rv r1, rv b1, iv lo, iv hi, iv cc, iv n, iv 3] []) _ _ _
  refine ziload X0 hx hby d_prog_64_method_12_6 rfl (ziloadN X0 hx hby d_prog_64_method_12_8 rfl ?_)
  show zEnds p e below s T0 (mkF m 9 #[rv r1, rv b1, iv lo, iv hi, iv cc, iv n, iv 3] [(.int hi), (.int 3)]) _ _ _
  by_cases hc1 : (3 : Int32) < hi
  · refine zicmpNo X0 hx hby d_prog_64_method_12_9 (tlt hc1).2.1 (zaloadN X0 hx hby d_prog_64_method_12_12 rfl rfl (ziload X0 hx hby d_prog_64_method_12_13 rfl (zbaload X0 hx hby d_prog_64_method_12_15 hZ e0 A_b1 (by decide) (v := (.int x4)) rfl (ziload X0 hx hby d_prog_64_method_12_16 rfl ?_))))
    show zEnds p e below s T0 (mkF m 18 #[rv r1, rv b1, iv lo, iv hi, iv cc, iv n, iv 3] [(.int cc), (.int x4)]) _ _ _
    by_cases hc2 : x4 = cc
    · refine zicmpNo X0 hx hby d_prog_64_method_12_18 (teq hc2).2 (ziinc X0 hx hby d_prog_64_method_12_21 (L' := #[rv r1, rv b1, iv lo, iv hi, iv cc, iv (n + (1 : Int32)), iv 3]) rfl rfl (ziinc X0 hx hby d_prog_64_method_12_24 (L' := #[rv r1, rv b1, iv lo, iv hi, iv cc, iv (n + (1 : Int32)), iv 4]) rfl rfl (zgoto X0 hx hby d_prog_64_method_12_27 6 (by decide) (by decide) ?_)))
      show zEnds p e below s T0 (mkF m 6 #[rv r1, rv b1, iv lo, iv hi, iv cc, iv (n + (1 : Int32)), iv 4] []) _ _ _
      exact zsameTo (stgc_4 X0 hx hZ hw hby hml hown hret hlk e0 A_b1 k8) (by simp [cnt3, k8, hc1, hc2])
    · refine zicmpYes X0 hx hby d_prog_64_method_12_18 24 (feq hc2).2 (by decide) (by decide) (ziinc X0 hx hby d_prog_64_method_12_24 (L' := #[rv r1, rv b1, iv lo, iv hi, iv cc, iv n, iv 4]) rfl rfl (zgoto X0 hx hby d_prog_64_method_12_27 6 (by decide) (by decide) ?_))
      show zEnds p e below s T0 (mkF m 6 #[rv r1, rv b1, iv lo, iv hi, iv cc, iv n, iv 4] []) _ _ _
      exact zsameTo (stgc_4 X0 hx hZ hw hby hml hown hret hlk e0 A_b1 k8) (by simp [cnt3, k8, hc1, hc2])
  · refine zicmpYes X0 hx hby d_prog_64_method_12_9 30 (flt hc1).2.1 (by decide) (by decide) (ziload X0 hx hby d_prog_64_method_12_30 rfl ?_)
    show zEnds p e below s T0 (mkF m 32 #[rv r1, rv b1, iv lo, iv hi, iv cc, iv n, iv 3] [(.int n)]) _ _ _
    exact zretI X0 hx hby d_prog_64_method_12_32 hret hlk (Nat.zero_le _) (Nat.zero_le _) ⟨(by simp [cnt3, k8, hc1]), e0, rfl⟩
set_option maxRecDepth 65536 in
set_option maxHeartbeats 40000000 in
theorem stgc_2 {p : Program} {l : Launch} {e : Env} {R : Room} {s : State} {m : MethodId} {args : Array Value} {below : List Frame} {meth : Method} {c : Code} {T0 : State} {Z : State} {a0 : Array Value} {h0 : Heap} {cs ss : Nat} {b1 : Addr} {r1 : Addr} {lo hi cc n x1 x2 x3 x4 x5 x6 x7 x8 : Int32}
    (X0 : Stand p l e R s m args below meth c T0 [] 0 0) (hx : p.tables.exec = Jvm.exec) (hZ : Z.Warmed39 s.vm) (hw : ∀ d ∈ tables_1, d.before a0 Z = true) (hby : c.code = prog_64_method_12_code) (hml : c.maxLocals = 7) (hown : s.vm.findClass "com/example/kakehashi/kakehashi/message/Reading" = some m.cls) (hret : meth.sig.returnType = (some .int)) (hlk : meth.locks = false) (e0 : T0.heap = h0) (A_b1 : zLst Z h0 b1 .byte [(.int x1), (.int x2), (.int x3), (.int x4), (.int x5), (.int x6), (.int x7), (.int x8)]) (k8 : ¬ ((8 : Int32) < hi)) :
    zEnds p e below s T0 (mkF m 6 #[rv r1, rv b1, iv lo, iv hi, iv cc, iv n, iv 2] []) cs ss (zSame (some (.int (cnt2 n hi cc x3 x4 x5 x6 x7 x8))) h0) := by
  show zEnds p e below s T0 (mkF m 6 #[rv r1, rv b1, iv lo, iv hi, iv cc, iv n, iv 2] []) _ _ _
  refine ziload X0 hx hby d_prog_64_method_12_6 rfl (ziloadN X0 hx hby d_prog_64_method_12_8 rfl ?_)
  show zEnds p e below s T0 (mkF m 9 #[rv r1, rv b1, iv lo, iv hi, iv cc, iv n, iv 2] [(.int hi), (.int 2)]) _ _ _
  by_cases hc1 : (2 : Int32) < hi
  · refine zicmpNo X0 hx hby d_prog_64_method_12_9 (tlt hc1).2.1 (zaloadN X0 hx hby d_prog_64_method_12_12 rfl rfl (ziload X0 hx hby d_prog_64_method_12_13 rfl (zbaload X0 hx hby d_prog_64_method_12_15 hZ e0 A_b1 (by decide) (v := (.int x3)) rfl (ziload X0 hx hby d_prog_64_method_12_16 rfl ?_))))
    show zEnds p e below s T0 (mkF m 18 #[rv r1, rv b1, iv lo, iv hi, iv cc, iv n, iv 2] [(.int cc), (.int x3)]) _ _ _
    by_cases hc2 : x3 = cc
    · refine zicmpNo X0 hx hby d_prog_64_method_12_18 (teq hc2).2 (ziinc X0 hx hby d_prog_64_method_12_21 (L' := #[rv r1, rv b1, iv lo, iv hi, iv cc, iv (n + (1 : Int32)), iv 2]) rfl rfl (ziinc X0 hx hby d_prog_64_method_12_24 (L' := #[rv r1, rv b1, iv lo, iv hi, iv cc, iv (n + (1 : Int32)), iv 3]) rfl rfl (zgoto X0 hx hby d_prog_64_method_12_27 6 (by decide) (by decide) ?_)))
      show zEnds p e below s T0 (mkF m 6 #[rv r1, rv b1, iv lo, iv hi, iv cc, iv (n + (1 : Int32)), iv 3] []) _ _ _
      exact zsameTo (stgc_3 X0 hx hZ hw hby hml hown hret hlk e0 A_b1 k8) (by simp [cnt2, k8, hc1, hc2])
    · refine zicmpYes X0 hx hby d_prog_64_method_12_18 24 (feq hc2).2 (by decide) (by decide) (ziinc X0 hx hby d_prog_64_method_12_24 (L' := #[rv r1, rv b1, iv lo, iv hi, iv cc, iv n, iv 3]) rfl rfl (zgoto X0 hx hby d_prog_64_method_12_27 6 (by decide) (by decide) ?_))
      show zEnds p e below s T0 (mkF m 6 #[rv r1, rv b1, iv lo, iv hi, iv cc, iv n, iv 3] []) _ _ _
      exact zsameTo (stgc_3 X0 hx hZ hw hby hml hown hret hlk e0 A_b1 k8) (by simp [cnt2, k8, hc1, hc2])
  · refine zicmpYes X0 hx hby d_prog_64_method_12_9 30 (flt hc1).2.1 (by decide) (by decide) (ziload X0 hx hby d_prog_64_method_12_30 rfl ?_)
    show zEnds p e below s T0 (mkF m 32 #[rv r1, rv b1, iv lo, iv hi, iv cc, iv n, iv 2] [(.int n)]) _ _ _
    exact zretI X0 hx hby d_prog_64_method_12_32 hret hlk (Nat.zero_le _) (Nat.zero_le _) ⟨(by simp [cnt2, k8, hc1]), e0, rfl⟩
set_option maxRecDepth 65536 in
set_option maxHeartbeats 40000000 in
theorem stgc_1 {p : Program} {l : Launch} {e : Env} {R : Room} {s : State} {m : MethodId} {args : Array Value} {below : List Frame} {meth : Method} {c : Code} {T0 : State} {Z : State} {a0 : Array Value} {h0 : Heap} {cs ss : Nat} {b1 : Addr} {r1 : Addr} {lo hi cc n x1 x2 x3 x4 x5 x6 x7 x8 : Int32}
    (X0 : Stand p l e R s m args below meth c T0 [] 0 0) (hx : p.tables.exec = Jvm.exec) (hZ : Z.Warmed39 s.vm) (hw : ∀ d ∈ tables_1, d.before a0 Z = true) (hby : c.code = prog_64_method_12_code) (hml : c.maxLocals = 7) (hown : s.vm.findClass "com/example/kakehashi/kakehashi/message/Reading" = some m.cls) (hret : meth.sig.returnType = (some .int)) (hlk : meth.locks = false) (e0 : T0.heap = h0) (A_b1 : zLst Z h0 b1 .byte [(.int x1), (.int x2), (.int x3), (.int x4), (.int x5), (.int x6), (.int x7), (.int x8)]) (k8 : ¬ ((8 : Int32) < hi)) :
    zEnds p e below s T0 (mkF m 6 #[rv r1, rv b1, iv lo, iv hi, iv cc, iv n, iv 1] []) cs ss (zSame (some (.int (cnt1 n hi cc x2 x3 x4 x5 x6 x7 x8))) h0) := by
  show zEnds p e below s T0 (mkF m 6 #[rv r1, rv b1, iv lo, iv hi, iv cc, iv n, iv 1] []) _ _ _
  refine ziload X0 hx hby d_prog_64_method_12_6 rfl (ziloadN X0 hx hby d_prog_64_method_12_8 rfl ?_)
  show zEnds p e below s T0 (mkF m 9 #[rv r1, rv b1, iv lo, iv hi, iv cc, iv n, iv 1] [(.int hi), (.int 1)]) _ _ _
  by_cases hc1 : (1 : Int32) < hi
  · refine zicmpNo X0 hx hby d_prog_64_method_12_9 (tlt hc1).2.1 (zaloadN X0 hx hby d_prog_64_method_12_12 rfl rfl (ziload X0 hx hby d_prog_64_method_12_13 rfl (zbaload X0 hx hby d_prog_64_method_12_15 hZ e0 A_b1 (by decide) (v := (.int x2)) rfl (ziload X0 hx hby d_prog_64_method_12_16 rfl ?_))))
    show zEnds p e below s T0 (mkF m 18 #[rv r1, rv b1, iv lo, iv hi, iv cc, iv n, iv 1] [(.int cc), (.int x2)]) _ _ _
    by_cases hc2 : x2 = cc
    · refine zicmpNo X0 hx hby d_prog_64_method_12_18 (teq hc2).2 (ziinc X0 hx hby d_prog_64_method_12_21 (L' := #[rv r1, rv b1, iv lo, iv hi, iv cc, iv (n + (1 : Int32)), iv 1]) rfl rfl (ziinc X0 hx hby d_prog_64_method_12_24 (L' := #[rv r1, rv b1, iv lo, iv hi, iv cc, iv (n + (1 : Int32)), iv 2]) rfl rfl (zgoto X0 hx hby d_prog_64_method_12_27 6 (by decide) (by decide) ?_)))
      show zEnds p e below s T0 (mkF m 6 #[rv r1, rv b1, iv lo, iv hi, iv cc, iv (n + (1 : Int32)), iv 2] []) _ _ _
      exact zsameTo (stgc_2 X0 hx hZ hw hby hml hown hret hlk e0 A_b1 k8) (by simp [cnt1, k8, hc1, hc2])
    · refine zicmpYes X0 hx hby d_prog_64_method_12_18 24 (feq hc2).2 (by decide) (by decide) (ziinc X0 hx hby d_prog_64_method_12_24 (L' := #[rv r1, rv b1, iv lo, iv hi, iv cc, iv n, iv 2]) rfl rfl (zgoto X0 hx hby d_prog_64_method_12_27 6 (by decide) (by decide) ?_))
      show zEnds p e below s T0 (mkF m 6 #[rv r1, rv b1, iv lo, iv hi, iv cc, iv n, iv 2] []) _ _ _
      exact zsameTo (stgc_2 X0 hx hZ hw hby hml hown hret hlk e0 A_b1 k8) (by simp [cnt1, k8, hc1, hc2])
  · refine zicmpYes X0 hx hby d_prog_64_method_12_9 30 (flt hc1).2.1 (by decide) (by decide) (ziload X0 hx hby d_prog_64_method_12_30 rfl ?_)
    show zEnds p e below s T0 (mkF m 32 #[rv r1, rv b1, iv lo, iv hi, iv cc, iv n, iv 1] [(.int n)]) _ _ _
    exact zretI X0 hx hby d_prog_64_method_12_32 hret hlk (Nat.zero_le _) (Nat.zero_le _) ⟨(by simp [cnt1, k8, hc1]), e0, rfl⟩
set_option maxRecDepth 65536 in
set_option maxHeartbeats 40000000 in
theorem stgc_0 {p : Program} {l : Launch} {e : Env} {R : Room} {s : State} {m : MethodId} {args : Array Value} {below : List Frame} {meth : Method} {c : Code} {T0 : State} {Z : State} {a0 : Array Value} {h0 : Heap} {cs ss : Nat} {b1 : Addr} {r1 : Addr} {lo hi cc n x1 x2 x3 x4 x5 x6 x7 x8 : Int32}
    (X0 : Stand p l e R s m args below meth c T0 [] 0 0) (hx : p.tables.exec = Jvm.exec) (hZ : Z.Warmed39 s.vm) (hw : ∀ d ∈ tables_1, d.before a0 Z = true) (hby : c.code = prog_64_method_12_code) (hml : c.maxLocals = 7) (hown : s.vm.findClass "com/example/kakehashi/kakehashi/message/Reading" = some m.cls) (hret : meth.sig.returnType = (some .int)) (hlk : meth.locks = false) (e0 : T0.heap = h0) (A_b1 : zLst Z h0 b1 .byte [(.int x1), (.int x2), (.int x3), (.int x4), (.int x5), (.int x6), (.int x7), (.int x8)]) (k8 : ¬ ((8 : Int32) < hi)) :
    zEnds p e below s T0 (mkF m 6 #[rv r1, rv b1, iv lo, iv hi, iv cc, iv n, iv 0] []) cs ss (zSame (some (.int (cnt0 n hi cc x1 x2 x3 x4 x5 x6 x7 x8))) h0) := by
  show zEnds p e below s T0 (mkF m 6 #[rv r1, rv b1, iv lo, iv hi, iv cc, iv n, iv 0] []) _ _ _
  refine ziload X0 hx hby d_prog_64_method_12_6 rfl (ziloadN X0 hx hby d_prog_64_method_12_8 rfl ?_)
  show zEnds p e below s T0 (mkF m 9 #[rv r1, rv b1, iv lo, iv hi, iv cc, iv n, iv 0] [(.int hi), (.int 0)]) _ _ _
  by_cases hc1 : (0 : Int32) < hi
  · refine zicmpNo X0 hx hby d_prog_64_method_12_9 (tlt hc1).2.1 (zaloadN X0 hx hby d_prog_64_method_12_12 rfl rfl (ziload X0 hx hby d_prog_64_method_12_13 rfl (zbaload X0 hx hby d_prog_64_method_12_15 hZ e0 A_b1 (by decide) (v := (.int x1)) rfl (ziload X0 hx hby d_prog_64_method_12_16 rfl ?_))))
    show zEnds p e below s T0 (mkF m 18 #[rv r1, rv b1, iv lo, iv hi, iv cc, iv n, iv 0] [(.int cc), (.int x1)]) _ _ _
    by_cases hc2 : x1 = cc
    · refine zicmpNo X0 hx hby d_prog_64_method_12_18 (teq hc2).2 (ziinc X0 hx hby d_prog_64_method_12_21 (L' := #[rv r1, rv b1, iv lo, iv hi, iv cc, iv (n + (1 : Int32)), iv 0]) rfl rfl (ziinc X0 hx hby d_prog_64_method_12_24 (L' := #[rv r1, rv b1, iv lo, iv hi, iv cc, iv (n + (1 : Int32)), iv 1]) rfl rfl (zgoto X0 hx hby d_prog_64_method_12_27 6 (by decide) (by decide) ?_)))
      show zEnds p e below s T0 (mkF m 6 #[rv r1, rv b1, iv lo, iv hi, iv cc, iv (n + (1 : Int32)), iv 1] []) _ _ _
      exact zsameTo (stgc_1 X0 hx hZ hw hby hml hown hret hlk e0 A_b1 k8) (by simp [cnt0, k8, hc1, hc2])
    · refine zicmpYes X0 hx hby d_prog_64_method_12_18 24 (feq hc2).2 (by decide) (by decide) (ziinc X0 hx hby d_prog_64_method_12_24 (L' := #[rv r1, rv b1, iv lo, iv hi, iv cc, iv n, iv 1]) rfl rfl (zgoto X0 hx hby d_prog_64_method_12_27 6 (by decide) (by decide) ?_))
      show zEnds p e below s T0 (mkF m 6 #[rv r1, rv b1, iv lo, iv hi, iv cc, iv n, iv 1] []) _ _ _
      exact zsameTo (stgc_1 X0 hx hZ hw hby hml hown hret hlk e0 A_b1 k8) (by simp [cnt0, k8, hc1, hc2])
  · refine zicmpYes X0 hx hby d_prog_64_method_12_9 30 (flt hc1).2.1 (by decide) (by decide) (ziload X0 hx hby d_prog_64_method_12_30 rfl ?_)
    show zEnds p e below s T0 (mkF m 32 #[rv r1, rv b1, iv lo, iv hi, iv cc, iv n, iv 0] [(.int n)]) _ _ _
    exact zretI X0 hx hby d_prog_64_method_12_32 hret hlk (Nat.zero_le _) (Nat.zero_le _) ⟨(by simp [cnt0, k8, hc1]), e0, rfl⟩
set_option maxRecDepth 65536 in
set_option maxHeartbeats 40000000 in
theorem c37_count (l : Launch) {Z : State} {a0 : Array Value} (hw : ∀ d ∈ tables_1, d.before a0 Z = true) (ws : List Jvm.Cond) {w_ONE_CHAR_A_BYTE w_ASCII w_UTF_8 : Addr} {n0 : Nat} {h0 : Heap} (C : Ctx Z w_ONE_CHAR_A_BYTE w_ASCII w_UTF_8) (O0 : Old Z n0 h0) (Z0 : n0 ≤ h0.size) (r1 : Addr) (x3 : Int32) (x4 : Int32) (x5 : Int32) (b901 : Addr) (x6 : Int32) (x7 : Int32) (x8 : Int32) (x9 : Int32) (x10 : Int32) (x11 : Int32) (x12 : Int32) (x13 : Int32) (g_b901 : n0 ≤ b901) (A_b901 : zLst Z h0 b901 .byte [(.int x6), (.int x7), (.int x8), (.int x9), (.int x10), (.int x11), (.int x12), (.int x13)]) (k0 : ¬ ((8 : Int32) < x4)) (kf : x3 = (0 : Int32) ∨ x3 = (1 : Int32) ∨ x3 = (2 : Int32) ∨ x3 = (3 : Int32) ∨ x3 = (4 : Int32) ∨ x3 = (5 : Int32) ∨ x3 = (6 : Int32) ∨ x3 = (7 : Int32) ∨ x3 = (8 : Int32)) : zCon l Z (⟨"com/example/kakehashi/kakehashi/message/Reading", "count", "([BIIC)I"⟩ : MethodName) prog_64_method_12_code 7 (some .int) ws ({ frames := 0, cells := 0, slots := 0, locals := 0 } : Room) #[(.ref r1), (.ref b901), (.int x3), (.int x4), (.int x5)] h0 (zSame (some (.int (cntv x3 x4 x5 x6 x7 x8 x9 x10 x11 x12 x13))) h0) := by
  obtain ⟨S_w_ONE_CHAR_A_BYTE, S_w_ASCII, S_w_UTF_8, E_w_ONE_CHAR_A_BYTE, E_w_ASCII, E_w_UTF_8⟩ := C
  refine zenter (plainFor_of_name pn_1) (L0 := #[rv r1, rv b901, iv x3, iv x4, iv x5, .unset, .unset]) (fun m => by first | rfl | simp [entryFrame, mkF, argsToLocals, Value.category, maxLocals]) ?_
  intro p e s m below meth c T0 hx hZ hby hml hown0 hnm hret hlk X0 e0
  have hown : s.vm.findClass "com/example/kakehashi/kakehashi/message/Reading" = some m.cls := hown0
  have K0 := Keep.refl h0 []
  have N0 := Fr.nil n0
  show zEnds p e below s T0 (mkF m 0 #[rv r1, rv b901, iv x3, iv x4, iv x5, .unset, .unset] []) _ _ _
  rcases kf with rfl | rfl | rfl | rfl | rfl | rfl | rfl | rfl | rfl
  · show zEnds p e below s T0 (mkF m 0 #[rv r1, rv b901, iv 0, iv x4, iv x5, .unset, .unset] []) _ _ _
    refine ziconst X0 hx hby d_prog_64_method_12_0 (z := (0 : Int32)) rfl (zistore X0 hx hby d_prog_64_method_12_1 (L' := #[rv r1, rv b901, iv 0, iv x4, iv x5, iv 0, .unset]) rfl (ziloadN X0 hx hby d_prog_64_method_12_3 rfl (zistore X0 hx hby d_prog_64_method_12_4 (L' := #[rv r1, rv b901, iv 0, iv x4, iv x5, iv 0, iv 0]) rfl ?_)))
    show zEnds p e below s T0 (mkF m 6 #[rv r1, rv b901, iv 0, iv x4, iv x5, iv 0, iv 0] []) _ _ _
    exact zsameTo (stgc_0 X0 hx hZ hw hby hml hown hret hlk e0 A_b901 k0) (by simp +decide [cntv])
  · show zEnds p e below s T0 (mkF m 0 #[rv r1, rv b901, iv 1, iv x4, iv x5, .unset, .unset] []) _ _ _
    refine ziconst X0 hx hby d_prog_64_method_12_0 (z := (0 : Int32)) rfl (zistore X0 hx hby d_prog_64_method_12_1 (L' := #[rv r1, rv b901, iv 1, iv x4, iv x5, iv 0, .unset]) rfl (ziloadN X0 hx hby d_prog_64_method_12_3 rfl (zistore X0 hx hby d_prog_64_method_12_4 (L' := #[rv r1, rv b901, iv 1, iv x4, iv x5, iv 0, iv 1]) rfl ?_)))
    show zEnds p e below s T0 (mkF m 6 #[rv r1, rv b901, iv 1, iv x4, iv x5, iv 0, iv 1] []) _ _ _
    exact zsameTo (stgc_1 X0 hx hZ hw hby hml hown hret hlk e0 A_b901 k0) (by simp +decide [cntv])
  · show zEnds p e below s T0 (mkF m 0 #[rv r1, rv b901, iv 2, iv x4, iv x5, .unset, .unset] []) _ _ _
    refine ziconst X0 hx hby d_prog_64_method_12_0 (z := (0 : Int32)) rfl (zistore X0 hx hby d_prog_64_method_12_1 (L' := #[rv r1, rv b901, iv 2, iv x4, iv x5, iv 0, .unset]) rfl (ziloadN X0 hx hby d_prog_64_method_12_3 rfl (zistore X0 hx hby d_prog_64_method_12_4 (L' := #[rv r1, rv b901, iv 2, iv x4, iv x5, iv 0, iv 2]) rfl ?_)))
    show zEnds p e below s T0 (mkF m 6 #[rv r1, rv b901, iv 2, iv x4, iv x5, iv 0, iv 2] []) _ _ _
    exact zsameTo (stgc_2 X0 hx hZ hw hby hml hown hret hlk e0 A_b901 k0) (by simp +decide [cntv])
  · show zEnds p e below s T0 (mkF m 0 #[rv r1, rv b901, iv 3, iv x4, iv x5, .unset, .unset] []) _ _ _
    refine ziconst X0 hx hby d_prog_64_method_12_0 (z := (0 : Int32)) rfl (zistore X0 hx hby d_prog_64_method_12_1 (L' := #[rv r1, rv b901, iv 3, iv x4, iv x5, iv 0, .unset]) rfl (ziloadN X0 hx hby d_prog_64_method_12_3 rfl (zistore X0 hx hby d_prog_64_method_12_4 (L' := #[rv r1, rv b901, iv 3, iv x4, iv x5, iv 0, iv 3]) rfl ?_)))
    show zEnds p e below s T0 (mkF m 6 #[rv r1, rv b901, iv 3, iv x4, iv x5, iv 0, iv 3] []) _ _ _
    exact zsameTo (stgc_3 X0 hx hZ hw hby hml hown hret hlk e0 A_b901 k0) (by simp +decide [cntv])
  · show zEnds p e below s T0 (mkF m 0 #[rv r1, rv b901, iv 4, iv x4, iv x5, .unset, .unset] []) _ _ _
    refine ziconst X0 hx hby d_prog_64_method_12_0 (z := (0 : Int32)) rfl (zistore X0 hx hby d_prog_64_method_12_1 (L' := #[rv r1, rv b901, iv 4, iv x4, iv x5, iv 0, .unset]) rfl (ziloadN X0 hx hby d_prog_64_method_12_3 rfl (zistore X0 hx hby d_prog_64_method_12_4 (L' := #[rv r1, rv b901, iv 4, iv x4, iv x5, iv 0, iv 4]) rfl ?_)))
    show zEnds p e below s T0 (mkF m 6 #[rv r1, rv b901, iv 4, iv x4, iv x5, iv 0, iv 4] []) _ _ _
    exact zsameTo (stgc_4 X0 hx hZ hw hby hml hown hret hlk e0 A_b901 k0) (by simp +decide [cntv])
  · show zEnds p e below s T0 (mkF m 0 #[rv r1, rv b901, iv 5, iv x4, iv x5, .unset, .unset] []) _ _ _
    refine ziconst X0 hx hby d_prog_64_method_12_0 (z := (0 : Int32)) rfl (zistore X0 hx hby d_prog_64_method_12_1 (L' := #[rv r1, rv b901, iv 5, iv x4, iv x5, iv 0, .unset]) rfl (ziloadN X0 hx hby d_prog_64_method_12_3 rfl (zistore X0 hx hby d_prog_64_method_12_4 (L' := #[rv r1, rv b901, iv 5, iv x4, iv x5, iv 0, iv 5]) rfl ?_)))
    show zEnds p e below s T0 (mkF m 6 #[rv r1, rv b901, iv 5, iv x4, iv x5, iv 0, iv 5] []) _ _ _
    exact zsameTo (stgc_5 X0 hx hZ hw hby hml hown hret hlk e0 A_b901 k0) (by simp +decide [cntv])
  · show zEnds p e below s T0 (mkF m 0 #[rv r1, rv b901, iv 6, iv x4, iv x5, .unset, .unset] []) _ _ _
    refine ziconst X0 hx hby d_prog_64_method_12_0 (z := (0 : Int32)) rfl (zistore X0 hx hby d_prog_64_method_12_1 (L' := #[rv r1, rv b901, iv 6, iv x4, iv x5, iv 0, .unset]) rfl (ziloadN X0 hx hby d_prog_64_method_12_3 rfl (zistore X0 hx hby d_prog_64_method_12_4 (L' := #[rv r1, rv b901, iv 6, iv x4, iv x5, iv 0, iv 6]) rfl ?_)))
    show zEnds p e below s T0 (mkF m 6 #[rv r1, rv b901, iv 6, iv x4, iv x5, iv 0, iv 6] []) _ _ _
    exact zsameTo (stgc_6 X0 hx hZ hw hby hml hown hret hlk e0 A_b901 k0) (by simp +decide [cntv])
  · show zEnds p e below s T0 (mkF m 0 #[rv r1, rv b901, iv 7, iv x4, iv x5, .unset, .unset] []) _ _ _
    refine ziconst X0 hx hby d_prog_64_method_12_0 (z := (0 : Int32)) rfl (zistore X0 hx hby d_prog_64_method_12_1 (L' := #[rv r1, rv b901, iv 7, iv x4, iv x5, iv 0, .unset]) rfl (ziloadN X0 hx hby d_prog_64_method_12_3 rfl (zistore X0 hx hby d_prog_64_method_12_4 (L' := #[rv r1, rv b901, iv 7, iv x4, iv x5, iv 0, iv 7]) rfl ?_)))
    show zEnds p e below s T0 (mkF m 6 #[rv r1, rv b901, iv 7, iv x4, iv x5, iv 0, iv 7] []) _ _ _
    exact zsameTo (stgc_7 X0 hx hZ hw hby hml hown hret hlk e0 A_b901 k0) (by simp +decide [cntv])
  · show zEnds p e below s T0 (mkF m 0 #[rv r1, rv b901, iv 8, iv x4, iv x5, .unset, .unset] []) _ _ _
    refine ziconst X0 hx hby d_prog_64_method_12_0 (z := (0 : Int32)) rfl (zistore X0 hx hby d_prog_64_method_12_1 (L' := #[rv r1, rv b901, iv 8, iv x4, iv x5, iv 0, .unset]) rfl (ziloadN X0 hx hby d_prog_64_method_12_3 rfl (zistore X0 hx hby d_prog_64_method_12_4 (L' := #[rv r1, rv b901, iv 8, iv x4, iv x5, iv 0, iv 8]) rfl ?_)))
    show zEnds p e below s T0 (mkF m 6 #[rv r1, rv b901, iv 8, iv x4, iv x5, iv 0, iv 8] []) _ _ _
    exact zsameTo (stgc_8 X0 hx hZ hw hby hml hown hret hlk e0 A_b901 k0) (by simp +decide [cntv])
set_option maxRecDepth 65536 in
set_option maxHeartbeats 40000000 in
theorem rm0 (l : Launch) {Z : State} {a0 : Array Value} (hw : ∀ d ∈ tables_1, d.before a0 Z = true) (ws : List Jvm.Cond) {w_ONE_CHAR_A_BYTE w_ASCII w_UTF_8 : Addr} {n0 : Nat} {h0 : Heap} (C : Ctx Z w_ONE_CHAR_A_BYTE w_ASCII w_UTF_8) (O0 : Old Z n0 h0) (Z0 : n0 ≤ h0.size) (p1 : Int64) (p2 : Int32) (p3 : Int32) (p4 : Int32) (p5 : Int32) (p6 : Int32) : zCon l Z x code maxLocals ret ws room_1 #[(.long p1), (.int p2), (.int p3), (.int p4), (.int p5), (.int p6)] h0 (fun v h L => v = some (.int (1 : Int32)) ∧ Fr n0 L) := by
  obtain ⟨S_w_ONE_CHAR_A_BYTE, S_w_ASCII, S_w_UTF_8, E_w_ONE_CHAR_A_BYTE, E_w_ASCII, E_w_UTF_8⟩ := C
  refine zenter (plainFor_of_name pn_0) (L0 := #[.val (.long p1), .second, iv p2, iv p3, iv p4, iv p5, iv p6, .unset, .unset, .unset, .unset, .unset, .unset, .unset, .unset, .unset, .unset]) (fun m => by first | rfl | simp [entryFrame, mkF, argsToLocals, Value.category, maxLocals]) ?_
  intro p e s m below meth c T0 hx hZ hby hml hown0 hnm hret hlk X0 e0
  have hown : s.vm.findClass "com/example/kakehashi/kakehashi/message/ReadingCountPinLaw" = some m.cls := hown0
  have K0 := Keep.refl h0 []
  have N0 := Fr.nil n0
  show zEnds p e below s T0 (mkF m 0 #[.val (.long p1), .second, iv p2, iv p3, iv p4, iv p5, iv p6, .unset, .unset, .unset, .unset, .unset, .unset, .unset, .unset, .unset, .unset] []) _ _ _
  refine ziloadN X0 hx hby at_0 rfl (zbipush X0 hx hby at_1 (z := (127 : Int32)) rfl (ziand X0 hx hby at_3 (p3 &&& (127 : Int32)) rfl (zi2c X0 hx hby at_4 ((p3 &&& (127 : Int32)).toUInt32.toUInt16.toUInt32.toInt32) rfl ?_)))
  show zEnds p e below s T0 (mkF m 5 #[.val (.long p1), .second, iv p2, iv p3, iv p4, iv p5, iv p6, .unset, .unset, .unset, .unset, .unset, .unset, .unset, .unset, .unset, .unset] [(.int ((p3 &&& (127 : Int32)).toUInt32.toUInt16.toUInt32.toInt32))]) _ _ _
  generalize e_vc : ((p3 &&& (127 : Int32)).toUInt32.toUInt16.toUInt32.toInt32) = vc
  have kc : 0 ≤ vc.toInt ∧ vc.toInt ≤ 127 := by rw [← e_vc]; exact own_c p3
  refine zistore X0 hx hby at_5 (L' := #[.val (.long p1), .second, iv p2, iv p3, iv p4, iv p5, iv p6, iv vc, .unset, .unset, .unset, .unset, .unset, .unset, .unset, .unset, .unset]) rfl (ziload X0 hx hby at_7 rfl (zistore X0 hx hby at_9 (L' := #[.val (.long p1), .second, iv p2, iv p3, iv p4, iv p5, iv p6, iv vc, iv vc, .unset, .unset, .unset, .unset, .unset, .unset, .unset, .unset]) rfl (zbipush X0 hx hby at_11 (z := (8 : Int32)) rfl (znewprim X0 hx hby at_13 hZ (w0 hw) e0 (by decide) 8 (by decide) (by decide) (by decide) (by decide) fun T1 h1 b1 X1 e1 y1 Ex1 A1_b1 => ?_))))
  change zLst Z h1 b1 .byte [(.int 0), (.int 0), (.int 0), (.int 0), (.int 0), (.int 0), (.int 0), (.int 0)] at A1_b1
  have O1 := O0.ext Ex1
  have K1 := Keep.ext K0 Ex1
  have g1 : n0 ≤ b1 := by rw [y1]; exact Nat.le_trans Z0 K0.1
  have z1 : h0.size ≤ b1 := by rw [y1]; exact K0.1
  refine zdup X1 hx hby at_15 rfl (ziconst X1 hx hby at_16 (z := (0 : Int32)) rfl (zlloadN X1 hx hby at_17 rfl (ziloadN X1 hx hby at_18 rfl (ziload X1 hx hby at_19 rfl (ziconst X1 hx hby at_21 (z := (0 : Int32)) rfl (zcalls X1 hx hby at_22 hZ hown (w1 hw) (w2 hw) (w3 hw) (w4 hw) e1 (c1_bt l hw [] ⟨S_w_ONE_CHAR_A_BYTE, S_w_ASCII, S_w_UTF_8, E_w_ONE_CHAR_A_BYTE, E_w_ASCII, E_w_UTF_8⟩ O1 (Nat.le_trans Z0 K1.1) p1 p2 vc) (by decide) (by rw [hml]; rfl) 3 (Nat.le_of_eq rfl) (by decide) (by decide) (by decide) (by decide) pd_0 rfl (argsL := [(.long p1), (.int p2), (.int vc), (.int 0)]) (st := [(.int 0), (.ref b1), (.ref b1)]) rfl (zpureK ⟨rfl, rfl⟩ fun T2 X2 e2 => ?_)))))))
  show zEnds p e below s T2 (mkF m 25 #[.val (.long p1), .second, iv p2, iv p3, iv p4, iv p5, iv p6, iv vc, iv vc, .unset, .unset, .unset, .unset, .unset, .unset, .unset, .unset] [(.int (btv p1 p2 vc (0 : Int32) (0 : Int32))), (.int 0), (.ref b1), (.ref b1)]) _ _ _
  generalize e_vb0 : (btv p1 p2 vc (0 : Int32) (0 : Int32)) = vb0
  have hb0 : -128 ≤ vb0.toInt ∧ vb0.toInt < 128 := by rw [← e_vb0]; exact (own_bt _ _ _ _ _).1
  have hn0 : nar .byte vb0 = vb0 := by rw [← e_vb0]; exact (own_bt _ _ _ _ _).2
  refine zbastore X2 hx hby at_25 hZ e2 A1_b1 (by decide) (by show Int32.toNatClampNeg 0 < 8; decide) vb0 hn0 fun T3 h3 X3 e3 W3 A3_b1 => ?_
  change zLst Z h3 b1 .byte [(.int vb0), (.int 0), (.int 0), (.int 0), (.int 0), (.int 0), (.int 0), (.int 0)] at A3_b1
  have O3 := O1.wr W3 g1
  have K3 := Keep.wr K1 W3 (Or.inr z1)
  have N3 := Fr.snoc X3 N0 g1
  refine zdup X3 hx hby at_26 rfl (ziconst X3 hx hby at_27 (z := (1 : Int32)) rfl (zlloadN X3 hx hby at_28 rfl (ziloadN X3 hx hby at_29 rfl (ziload X3 hx hby at_30 rfl (ziconst X3 hx hby at_32 (z := (1 : Int32)) rfl (zcalls X3 hx hby at_33 hZ hown (w1 hw) (w2 hw) (w3 hw) (w4 hw) e3 (c3_bt l hw [] ⟨S_w_ONE_CHAR_A_BYTE, S_w_ASCII, S_w_UTF_8, E_w_ONE_CHAR_A_BYTE, E_w_ASCII, E_w_UTF_8⟩ O3 (Nat.le_trans Z0 K3.1) p1 p2 vc) (by decide) (by rw [hml]; rfl) 3 (Nat.le_of_eq rfl) (by decide) (by decide) (by decide) (by decide) pd_0 rfl (argsL := [(.long p1), (.int p2), (.int vc), (.int 1)]) (st := [(.int 1), (.ref b1), (.ref b1)]) rfl (zpureK ⟨rfl, rfl⟩ fun T4 X4 e4 => ?_)))))))
  show zEnds p e below s T4 (mkF m 36 #[.val (.long p1), .second, iv p2, iv p3, iv p4, iv p5, iv p6, iv vc, iv vc, .unset, .unset, .unset, .unset, .unset, .unset, .unset, .unset] [(.int (btv p1 p2 vc (1 : Int32) (8 : Int32))), (.int 1), (.ref b1), (.ref b1)]) _ _ _
  generalize e_vb1 : (btv p1 p2 vc (1 : Int32) (8 : Int32)) = vb1
  have hb1 : -128 ≤ vb1.toInt ∧ vb1.toInt < 128 := by rw [← e_vb1]; exact (own_bt _ _ _ _ _).1
  have hn1 : nar .byte vb1 = vb1 := by rw [← e_vb1]; exact (own_bt _ _ _ _ _).2
  refine zbastore X4 hx hby at_36 hZ e4 A3_b1 (by decide) (by show Int32.toNatClampNeg 1 < 8; decide) vb1 hn1 fun T5 h5 X5 e5 W5 A5_b1 => ?_
  change zLst Z h5 b1 .byte [(.int vb0), (.int vb1), (.int 0), (.int 0), (.int 0), (.int 0), (.int 0), (.int 0)] at A5_b1
  have O5 := O3.wr W5 g1
  have K5 := Keep.wr K3 W5 (Or.inr z1)
  have N5 := Fr.snoc X5 N3 g1
  refine zdup X5 hx hby at_37 rfl (ziconst X5 hx hby at_38 (z := (2 : Int32)) rfl (zlloadN X5 hx hby at_39 rfl (ziloadN X5 hx hby at_40 rfl (ziload X5 hx hby at_41 rfl (ziconst X5 hx hby at_43 (z := (2 : Int32)) rfl (zcalls X5 hx hby at_44 hZ hown (w1 hw) (w2 hw) (w3 hw) (w4 hw) e5 (c5_bt l hw [] ⟨S_w_ONE_CHAR_A_BYTE, S_w_ASCII, S_w_UTF_8, E_w_ONE_CHAR_A_BYTE, E_w_ASCII, E_w_UTF_8⟩ O5 (Nat.le_trans Z0 K5.1) p1 p2 vc) (by decide) (by rw [hml]; rfl) 3 (Nat.le_of_eq rfl) (by decide) (by decide) (by decide) (by decide) pd_0 rfl (argsL := [(.long p1), (.int p2), (.int vc), (.int 2)]) (st := [(.int 2), (.ref b1), (.ref b1)]) rfl (zpureK ⟨rfl, rfl⟩ fun T6 X6 e6 => ?_)))))))
  show zEnds p e below s T6 (mkF m 47 #[.val (.long p1), .second, iv p2, iv p3, iv p4, iv p5, iv p6, iv vc, iv vc, .unset, .unset, .unset, .unset, .unset, .unset, .unset, .unset] [(.int (btv p1 p2 vc (2 : Int32) (16 : Int32))), (.int 2), (.ref b1), (.ref b1)]) _ _ _
  generalize e_vb2 : (btv p1 p2 vc (2 : Int32) (16 : Int32)) = vb2
  have hb2 : -128 ≤ vb2.toInt ∧ vb2.toInt < 128 := by rw [← e_vb2]; exact (own_bt _ _ _ _ _).1
  have hn2 : nar .byte vb2 = vb2 := by rw [← e_vb2]; exact (own_bt _ _ _ _ _).2
  refine zbastore X6 hx hby at_47 hZ e6 A5_b1 (by decide) (by show Int32.toNatClampNeg 2 < 8; decide) vb2 hn2 fun T7 h7 X7 e7 W7 A7_b1 => ?_
  change zLst Z h7 b1 .byte [(.int vb0), (.int vb1), (.int vb2), (.int 0), (.int 0), (.int 0), (.int 0), (.int 0)] at A7_b1
  have O7 := O5.wr W7 g1
  have K7 := Keep.wr K5 W7 (Or.inr z1)
  have N7 := Fr.snoc X7 N5 g1
  refine zdup X7 hx hby at_48 rfl (ziconst X7 hx hby at_49 (z := (3 : Int32)) rfl (zlloadN X7 hx hby at_50 rfl (ziloadN X7 hx hby at_51 rfl (ziload X7 hx hby at_52 rfl (ziconst X7 hx hby at_54 (z := (3 : Int32)) rfl (zcalls X7 hx hby at_55 hZ hown (w1 hw) (w2 hw) (w3 hw) (w4 hw) e7 (c7_bt l hw [] ⟨S_w_ONE_CHAR_A_BYTE, S_w_ASCII, S_w_UTF_8, E_w_ONE_CHAR_A_BYTE, E_w_ASCII, E_w_UTF_8⟩ O7 (Nat.le_trans Z0 K7.1) p1 p2 vc) (by decide) (by rw [hml]; rfl) 3 (Nat.le_of_eq rfl) (by decide) (by decide) (by decide) (by decide) pd_0 rfl (argsL := [(.long p1), (.int p2), (.int vc), (.int 3)]) (st := [(.int 3), (.ref b1), (.ref b1)]) rfl (zpureK ⟨rfl, rfl⟩ fun T8 X8 e8 => ?_)))))))
  show zEnds p e below s T8 (mkF m 58 #[.val (.long p1), .second, iv p2, iv p3, iv p4, iv p5, iv p6, iv vc, iv vc, .unset, .unset, .unset, .unset, .unset, .unset, .unset, .unset] [(.int (btv p1 p2 vc (3 : Int32) (24 : Int32))), (.int 3), (.ref b1), (.ref b1)]) _ _ _
  generalize e_vb3 : (btv p1 p2 vc (3 : Int32) (24 : Int32)) = vb3
  have hb3 : -128 ≤ vb3.toInt ∧ vb3.toInt < 128 := by rw [← e_vb3]; exact (own_bt _ _ _ _ _).1
  have hn3 : nar .byte vb3 = vb3 := by rw [← e_vb3]; exact (own_bt _ _ _ _ _).2
  refine zbastore X8 hx hby at_58 hZ e8 A7_b1 (by decide) (by show Int32.toNatClampNeg 3 < 8; decide) vb3 hn3 fun T9 h9 X9 e9 W9 A9_b1 => ?_
  change zLst Z h9 b1 .byte [(.int vb0), (.int vb1), (.int vb2), (.int vb3), (.int 0), (.int 0), (.int 0), (.int 0)] at A9_b1
  have O9 := O7.wr W9 g1
  have K9 := Keep.wr K7 W9 (Or.inr z1)
  have N9 := Fr.snoc X9 N7 g1
  refine zdup X9 hx hby at_59 rfl (ziconst X9 hx hby at_60 (z := (4 : Int32)) rfl (zlloadN X9 hx hby at_61 rfl (ziloadN X9 hx hby at_62 rfl (ziload X9 hx hby at_63 rfl (ziconst X9 hx hby at_65 (z := (4 : Int32)) rfl (zcalls X9 hx hby at_66 hZ hown (w1 hw) (w2 hw) (w3 hw) (w4 hw) e9 (c9_bt l hw [] ⟨S_w_ONE_CHAR_A_BYTE, S_w_ASCII, S_w_UTF_8, E_w_ONE_CHAR_A_BYTE, E_w_ASCII, E_w_UTF_8⟩ O9 (Nat.le_trans Z0 K9.1) p1 p2 vc) (by decide) (by rw [hml]; rfl) 3 (Nat.le_of_eq rfl) (by decide) (by decide) (by decide) (by decide) pd_0 rfl (argsL := [(.long p1), (.int p2), (.int vc), (.int 4)]) (st := [(.int 4), (.ref b1), (.ref b1)]) rfl (zpureK ⟨rfl, rfl⟩ fun T10 X10 e10 => ?_)))))))
  show zEnds p e below s T10 (mkF m 69 #[.val (.long p1), .second, iv p2, iv p3, iv p4, iv p5, iv p6, iv vc, iv vc, .unset, .unset, .unset, .unset, .unset, .unset, .unset, .unset] [(.int (btv p1 p2 vc (4 : Int32) (32 : Int32))), (.int 4), (.ref b1), (.ref b1)]) _ _ _
  generalize e_vb4 : (btv p1 p2 vc (4 : Int32) (32 : Int32)) = vb4
  have hb4 : -128 ≤ vb4.toInt ∧ vb4.toInt < 128 := by rw [← e_vb4]; exact (own_bt _ _ _ _ _).1
  have hn4 : nar .byte vb4 = vb4 := by rw [← e_vb4]; exact (own_bt _ _ _ _ _).2
  refine zbastore X10 hx hby at_69 hZ e10 A9_b1 (by decide) (by show Int32.toNatClampNeg 4 < 8; decide) vb4 hn4 fun T11 h11 X11 e11 W11 A11_b1 => ?_
  change zLst Z h11 b1 .byte [(.int vb0), (.int vb1), (.int vb2), (.int vb3), (.int vb4), (.int 0), (.int 0), (.int 0)] at A11_b1
  have O11 := O9.wr W11 g1
  have K11 := Keep.wr K9 W11 (Or.inr z1)
  have N11 := Fr.snoc X11 N9 g1
  refine zdup X11 hx hby at_70 rfl (ziconst X11 hx hby at_71 (z := (5 : Int32)) rfl (zlloadN X11 hx hby at_72 rfl (ziloadN X11 hx hby at_73 rfl (ziload X11 hx hby at_74 rfl (ziconst X11 hx hby at_76 (z := (5 : Int32)) rfl (zcalls X11 hx hby at_77 hZ hown (w1 hw) (w2 hw) (w3 hw) (w4 hw) e11 (c11_bt l hw [] ⟨S_w_ONE_CHAR_A_BYTE, S_w_ASCII, S_w_UTF_8, E_w_ONE_CHAR_A_BYTE, E_w_ASCII, E_w_UTF_8⟩ O11 (Nat.le_trans Z0 K11.1) p1 p2 vc) (by decide) (by rw [hml]; rfl) 3 (Nat.le_of_eq rfl) (by decide) (by decide) (by decide) (by decide) pd_0 rfl (argsL := [(.long p1), (.int p2), (.int vc), (.int 5)]) (st := [(.int 5), (.ref b1), (.ref b1)]) rfl (zpureK ⟨rfl, rfl⟩ fun T12 X12 e12 => ?_)))))))
  show zEnds p e below s T12 (mkF m 80 #[.val (.long p1), .second, iv p2, iv p3, iv p4, iv p5, iv p6, iv vc, iv vc, .unset, .unset, .unset, .unset, .unset, .unset, .unset, .unset] [(.int (btv p1 p2 vc (5 : Int32) (40 : Int32))), (.int 5), (.ref b1), (.ref b1)]) _ _ _
  generalize e_vb5 : (btv p1 p2 vc (5 : Int32) (40 : Int32)) = vb5
  have hb5 : -128 ≤ vb5.toInt ∧ vb5.toInt < 128 := by rw [← e_vb5]; exact (own_bt _ _ _ _ _).1
  have hn5 : nar .byte vb5 = vb5 := by rw [← e_vb5]; exact (own_bt _ _ _ _ _).2
  refine zbastore X12 hx hby at_80 hZ e12 A11_b1 (by decide) (by show Int32.toNatClampNeg 5 < 8; decide) vb5 hn5 fun T13 h13 X13 e13 W13 A13_b1 => ?_
  change zLst Z h13 b1 .byte [(.int vb0), (.int vb1), (.int vb2), (.int vb3), (.int vb4), (.int vb5), (.int 0), (.int 0)] at A13_b1
  have O13 := O11.wr W13 g1
  have K13 := Keep.wr K11 W13 (Or.inr z1)
  have N13 := Fr.snoc X13 N11 g1
  refine zdup X13 hx hby at_81 rfl (zbipush X13 hx hby at_82 (z := (6 : Int32)) rfl (zlloadN X13 hx hby at_84 rfl (ziloadN X13 hx hby at_85 rfl (ziload X13 hx hby at_86 rfl (zbipush X13 hx hby at_88 (z := (6 : Int32)) rfl (zcalls X13 hx hby at_90 hZ hown (w1 hw) (w2 hw) (w3 hw) (w4 hw) e13 (c13_bt l hw [] ⟨S_w_ONE_CHAR_A_BYTE, S_w_ASCII, S_w_UTF_8, E_w_ONE_CHAR_A_BYTE, E_w_ASCII, E_w_UTF_8⟩ O13 (Nat.le_trans Z0 K13.1) p1 p2 vc) (by decide) (by rw [hml]; rfl) 3 (Nat.le_of_eq rfl) (by decide) (by decide) (by decide) (by decide) pd_0 rfl (argsL := [(.long p1), (.int p2), (.int vc), (.int 6)]) (st := [(.int 6), (.ref b1), (.ref b1)]) rfl (zpureK ⟨rfl, rfl⟩ fun T14 X14 e14 => ?_)))))))
  show zEnds p e below s T14 (mkF m 93 #[.val (.long p1), .second, iv p2, iv p3, iv p4, iv p5, iv p6, iv vc, iv vc, .unset, .unset, .unset, .unset, .unset, .unset, .unset, .unset] [(.int (btv p1 p2 vc (6 : Int32) (48 : Int32))), (.int 6), (.ref b1), (.ref b1)]) _ _ _
  generalize e_vb6 : (btv p1 p2 vc (6 : Int32) (48 : Int32)) = vb6
  have hb6 : -128 ≤ vb6.toInt ∧ vb6.toInt < 128 := by rw [← e_vb6]; exact (own_bt _ _ _ _ _).1
  have hn6 : nar .byte vb6 = vb6 := by rw [← e_vb6]; exact (own_bt _ _ _ _ _).2
  refine zbastore X14 hx hby at_93 hZ e14 A13_b1 (by decide) (by show Int32.toNatClampNeg 6 < 8; decide) vb6 hn6 fun T15 h15 X15 e15 W15 A15_b1 => ?_
  change zLst Z h15 b1 .byte [(.int vb0), (.int vb1), (.int vb2), (.int vb3), (.int vb4), (.int vb5), (.int vb6), (.int 0)] at A15_b1
  have O15 := O13.wr W15 g1
  have K15 := Keep.wr K13 W15 (Or.inr z1)
  have N15 := Fr.snoc X15 N13 g1
  refine zdup X15 hx hby at_94 rfl (zbipush X15 hx hby at_95 (z := (7 : Int32)) rfl (zlloadN X15 hx hby at_97 rfl (ziloadN X15 hx hby at_98 rfl (ziload X15 hx hby at_99 rfl (zbipush X15 hx hby at_101 (z := (7 : Int32)) rfl (zcalls X15 hx hby at_103 hZ hown (w1 hw) (w2 hw) (w3 hw) (w4 hw) e15 (c15_bt l hw [] ⟨S_w_ONE_CHAR_A_BYTE, S_w_ASCII, S_w_UTF_8, E_w_ONE_CHAR_A_BYTE, E_w_ASCII, E_w_UTF_8⟩ O15 (Nat.le_trans Z0 K15.1) p1 p2 vc) (by decide) (by rw [hml]; rfl) 3 (Nat.le_of_eq rfl) (by decide) (by decide) (by decide) (by decide) pd_0 rfl (argsL := [(.long p1), (.int p2), (.int vc), (.int 7)]) (st := [(.int 7), (.ref b1), (.ref b1)]) rfl (zpureK ⟨rfl, rfl⟩ fun T16 X16 e16 => ?_)))))))
  show zEnds p e below s T16 (mkF m 106 #[.val (.long p1), .second, iv p2, iv p3, iv p4, iv p5, iv p6, iv vc, iv vc, .unset, .unset, .unset, .unset, .unset, .unset, .unset, .unset] [(.int (btv p1 p2 vc (7 : Int32) (56 : Int32))), (.int 7), (.ref b1), (.ref b1)]) _ _ _
  generalize e_vb7 : (btv p1 p2 vc (7 : Int32) (56 : Int32)) = vb7
  have hb7 : -128 ≤ vb7.toInt ∧ vb7.toInt < 128 := by rw [← e_vb7]; exact (own_bt _ _ _ _ _).1
  have hn7 : nar .byte vb7 = vb7 := by rw [← e_vb7]; exact (own_bt _ _ _ _ _).2
  refine zbastore X16 hx hby at_106 hZ e16 A15_b1 (by decide) (by show Int32.toNatClampNeg 7 < 8; decide) vb7 hn7 fun T17 h17 X17 e17 W17 A17_b1 => ?_
  change zLst Z h17 b1 .byte [(.int vb0), (.int vb1), (.int vb2), (.int vb3), (.int vb4), (.int vb5), (.int vb6), (.int vb7)] at A17_b1
  have O17 := O15.wr W17 g1
  have K17 := Keep.wr K15 W17 (Or.inr z1)
  have N17 := Fr.snoc X17 N15 g1
  refine zastore X17 hx hby at_107 (hv := rfl) (L' := #[.val (.long p1), .second, iv p2, iv p3, iv p4, iv p5, iv p6, iv vc, iv vc, rv b1, .unset, .unset, .unset, .unset, .unset, .unset, .unset]) rfl (ziload X17 hx hby at_109 rfl (zldcI X17 hx hby at_111 (2147483647 : Int32) hZ hown (w5 hw) (ziand X17 hx hby at_113 (p4 &&& (2147483647 : Int32)) rfl (zbipush X17 hx hby at_114 (z := (9 : Int32)) rfl (zirem X17 hx hby at_116 ((p4 &&& (2147483647 : Int32)) % (9 : Int32)) (by decide) rfl ?_)))))
  show zEnds p e below s T17 (mkF m 117 #[.val (.long p1), .second, iv p2, iv p3, iv p4, iv p5, iv p6, iv vc, iv vc, rv b1, .unset, .unset, .unset, .unset, .unset, .unset, .unset] [(.int ((p4 &&& (2147483647 : Int32)) % (9 : Int32)))]) _ _ _
  generalize e_vf : ((p4 &&& (2147483647 : Int32)) % (9 : Int32)) = vf
  refine zistore X17 hx hby at_117 (L' := #[.val (.long p1), .second, iv p2, iv p3, iv p4, iv p5, iv p6, iv vc, iv vc, rv b1, iv vf, .unset, .unset, .unset, .unset, .unset, .unset]) rfl (ziload X17 hx hby at_119 rfl (zldcI X17 hx hby at_121 (2147483647 : Int32) hZ hown (w5 hw) (ziand X17 hx hby at_123 (p5 &&& (2147483647 : Int32)) rfl (zbipush X17 hx hby at_124 (z := (9 : Int32)) rfl (zirem X17 hx hby at_126 ((p5 &&& (2147483647 : Int32)) % (9 : Int32)) (by decide) rfl ?_)))))
  show zEnds p e below s T17 (mkF m 127 #[.val (.long p1), .second, iv p2, iv p3, iv p4, iv p5, iv p6, iv vc, iv vc, rv b1, iv vf, .unset, .unset, .unset, .unset, .unset, .unset] [(.int ((p5 &&& (2147483647 : Int32)) % (9 : Int32)))]) _ _ _
  generalize e_vt : ((p5 &&& (2147483647 : Int32)) % (9 : Int32)) = vt
  refine zistore X17 hx hby at_127 (L' := #[.val (.long p1), .second, iv p2, iv p3, iv p4, iv p5, iv p6, iv vc, iv vc, rv b1, iv vf, iv vt, .unset, .unset, .unset, .unset, .unset]) rfl (ziload X17 hx hby at_129 rfl (ziload X17 hx hby at_131 rfl (zcalls X17 hx hby at_133 hZ hown (w6 hw) (w7 hw) (w8 hw) (w9 hw) e17 (c17_min l hw [] ⟨S_w_ONE_CHAR_A_BYTE, S_w_ASCII, S_w_UTF_8, E_w_ONE_CHAR_A_BYTE, E_w_ASCII, E_w_UTF_8⟩ O17 (Nat.le_trans Z0 K17.1) vf vt) (by decide) (by rw [hml]; rfl) 0 (Nat.le_of_eq rfl) (by decide) (by decide) (by decide) (by decide) pd_1 rfl (argsL := [(.int vf), (.int vt)]) (st := []) rfl (zpureK ⟨rfl, rfl⟩ fun T18 X18 e18 => ?_))))
  show zEnds p e below s T18 (mkF m 136 #[.val (.long p1), .second, iv p2, iv p3, iv p4, iv p5, iv p6, iv vc, iv vc, rv b1, iv vf, iv vt, .unset, .unset, .unset, .unset, .unset] [(.int (minv vf vt))]) _ _ _
  generalize e_vlo : (minv vf vt) = vlo
  have kL : vlo = (0 : Int32) ∨ vlo = (1 : Int32) ∨ vlo = (2 : Int32) ∨ vlo = (3 : Int32) ∨ vlo = (4 : Int32) ∨ vlo = (5 : Int32) ∨ vlo = (6 : Int32) ∨ vlo = (7 : Int32) ∨ vlo = (8 : Int32) := by rw [← e_vlo]; exact own_min (by rw [← e_vf]; exact rem_9 p4) (by rw [← e_vt]; exact rem_9 p5)
  refine zistore X18 hx hby at_136 (L' := #[.val (.long p1), .second, iv p2, iv p3, iv p4, iv p5, iv p6, iv vc, iv vc, rv b1, iv vf, iv vt, iv vlo, .unset, .unset, .unset, .unset]) rfl (ziload X18 hx hby at_138 rfl (ziload X18 hx hby at_140 rfl (zcalls X18 hx hby at_142 hZ hown (w10 hw) (w11 hw) (w8 hw) (w12 hw) e18 (c19_max l hw [] ⟨S_w_ONE_CHAR_A_BYTE, S_w_ASCII, S_w_UTF_8, E_w_ONE_CHAR_A_BYTE, E_w_ASCII, E_w_UTF_8⟩ O17 (Nat.le_trans Z0 K17.1) vf vt) (by decide) (by rw [hml]; rfl) 0 (Nat.le_of_eq rfl) (by decide) (by decide) (by decide) (by decide) pd_1 rfl (argsL := [(.int vf), (.int vt)]) (st := []) rfl (zpureK ⟨rfl, rfl⟩ fun T19 X19 e19 => ?_))))
  show zEnds p e below s T19 (mkF m 145 #[.val (.long p1), .second, iv p2, iv p3, iv p4, iv p5, iv p6, iv vc, iv vc, rv b1, iv vf, iv vt, iv vlo, .unset, .unset, .unset, .unset] [(.int (maxv vf vt))]) _ _ _
  generalize e_vhi : (maxv vf vt) = vhi
  have k8 : ¬ ((8 : Int32) < vhi) := by rw [← e_vhi]; exact own_max (by rw [← e_vf]; exact rem_9 p4) (by rw [← e_vt]; exact rem_9 p5)
  refine zistore X19 hx hby at_145 (L' := #[.val (.long p1), .second, iv p2, iv p3, iv p4, iv p5, iv p6, iv vc, iv vc, rv b1, iv vf, iv vt, iv vlo, iv vhi, .unset, .unset, .unset]) rfl (ziconst X19 hx hby at_147 (z := (3 : Int32)) rfl (znewref X19 hx hby at_148 hZ hown (w13 hw) (w14 hw) e19 (by decide) 3 (by decide) (by decide) (by decide) (by decide) fun T20 h20 b20 X20 e20 y20 Ex20 A20_b20 => ?_))
  change zLstR Z h20 b20 "com/example/kakehashi/kakehashi/message/Reading" [.null, .null, .null] at A20_b20
  have A20_b1 := A17_b1.ext Ex20
  have O20 := O17.ext Ex20
  have K20 := Keep.ext K17 Ex20
  have ne20_b1 : b1 ≠ b20 := Nat.ne_of_lt (Nat.lt_of_lt_of_eq A17_b1.lt y20.symm)
  have g20 : n0 ≤ b20 := by rw [y20]; exact Nat.le_trans Z0 K17.1
  have z20 : h0.size ≤ b20 := by rw [y20]; exact K17.1
  refine zdup X20 hx hby at_151 rfl (ziconst X20 hx hby at_152 (z := (0 : Int32)) rfl (zgetstat X20 hx hby at_153 hZ hown (host := "") (Or.inl (w15 hw)) Via.refl e20 (S_w_ONE_CHAR_A_BYTE.ext O20.2) fun T21 X21 e21 => (zaastore X21 hx hby at_156 hZ e21 A20_b20 (by decide) (by show Int32.toNatClampNeg 0 < 3; decide) (Ins.of_exa (E_w_ONE_CHAR_A_BYTE.ext O20.2) (w18 hw)) fun T22 h22 X22 e22 W22 A22_b20 => ?_)))
  change zLstR Z h22 b20 "com/example/kakehashi/kakehashi/message/Reading" [(.ref w_ONE_CHAR_A_BYTE), .null, .null] at A22_b20
  have A22_b1 := A20_b1.other W22 ne20_b1
  have O22 := O20.wr W22 g20
  have K22 := Keep.wr K20 W22 (Or.inr z20)
  have N22 := Fr.snoc X22 N17 g20
  refine zdup X22 hx hby at_157 rfl (ziconst X22 hx hby at_158 (z := (1 : Int32)) rfl (zgetstat X22 hx hby at_159 hZ hown (host := "") (Or.inl (w19 hw)) Via.refl e22 (S_w_ASCII.ext O22.2) fun T23 X23 e23 => (zaastore X23 hx hby at_162 hZ e23 A22_b20 (by decide) (by show Int32.toNatClampNeg 1 < 3; decide) (Ins.of_exa (E_w_ASCII.ext O22.2) (w21 hw)) fun T24 h24 X24 e24 W24 A24_b20 => ?_)))
  change zLstR Z h24 b20 "com/example/kakehashi/kakehashi/message/Reading" [(.ref w_ONE_CHAR_A_BYTE), (.ref w_ASCII), .null] at A24_b20
  have A24_b1 := A22_b1.other W24 ne20_b1
  have O24 := O22.wr W24 g20
  have K24 := Keep.wr K22 W24 (Or.inr z20)
  have N24 := Fr.snoc X24 N22 g20
  refine zdup X24 hx hby at_163 rfl (ziconst X24 hx hby at_164 (z := (2 : Int32)) rfl (zgetstat X24 hx hby at_165 hZ hown (host := "") (Or.inl (w22 hw)) Via.refl e24 (S_w_UTF_8.ext O24.2) fun T25 X25 e25 => (zaastore X25 hx hby at_168 hZ e25 A24_b20 (by decide) (by show Int32.toNatClampNeg 2 < 3; decide) (Ins.of_exa (E_w_UTF_8.ext O24.2) (w24 hw)) fun T26 h26 X26 e26 W26 A26_b20 => ?_)))
  change zLstR Z h26 b20 "com/example/kakehashi/kakehashi/message/Reading" [(.ref w_ONE_CHAR_A_BYTE), (.ref w_ASCII), (.ref w_UTF_8)] at A26_b20
  have A26_b1 := A24_b1.other W26 ne20_b1
  have O26 := O24.wr W26 g20
  have K26 := Keep.wr K24 W26 (Or.inr z20)
  have N26 := Fr.snoc X26 N24 g20
  refine zastore X26 hx hby at_169 (hv := rfl) (L' := #[.val (.long p1), .second, iv p2, iv p3, iv p4, iv p5, iv p6, iv vc, iv vc, rv b1, iv vf, iv vt, iv vlo, iv vhi, rv b20, .unset, .unset]) rfl (zaload X26 hx hby at_171 rfl rfl (ziload X26 hx hby at_173 rfl (zldcI X26 hx hby at_175 (2147483647 : Int32) hZ hown (w5 hw) (ziand X26 hx hby at_177 (p6 &&& (2147483647 : Int32)) rfl (ziconst X26 hx hby at_178 (z := (3 : Int32)) rfl (zirem X26 hx hby at_179 ((p6 &&& (2147483647 : Int32)) % (3 : Int32)) (by decide) rfl ?_))))))
  show zEnds p e below s T26 (mkF m 180 #[.val (.long p1), .second, iv p2, iv p3, iv p4, iv p5, iv p6, iv vc, iv vc, rv b1, iv vf, iv vt, iv vlo, iv vhi, rv b20, .unset, .unset] [(.int ((p6 &&& (2147483647 : Int32)) % (3 : Int32))), (.ref b20)]) _ _ _
  rcases (rem_3 p6) with q27 | q27 | q27
  · rw [q27]
    refine zaaload X26 hx hby at_180 hZ e26 rfl A26_b20.lst (by decide) (v := (.ref w_ONE_CHAR_A_BYTE)) rfl (zastore X26 hx hby at_181 (hv := rfl) (L' := #[.val (.long p1), .second, iv p2, iv p3, iv p4, iv p5, iv p6, iv vc, iv vc, rv b1, iv vf, iv vt, iv vlo, iv vhi, rv b20, rv w_ONE_CHAR_A_BYTE, .unset]) rfl (zaload X26 hx hby at_183 rfl rfl (ziconst X26 hx hby at_185 (z := (0 : Int32)) rfl (ziload X26 hx hby at_186 rfl (ziload X26 hx hby at_188 rfl (ziload X26 hx hby at_190 rfl (zcalls X26 hx hby at_192 hZ hown (w25 hw) (w26 hw) (w3 hw) (w27 hw) e26 (c21_hit l hw [] ⟨S_w_ONE_CHAR_A_BYTE, S_w_ASCII, S_w_UTF_8, E_w_ONE_CHAR_A_BYTE, E_w_ASCII, E_w_UTF_8⟩ O26 (Nat.le_trans Z0 K26.1) vlo vhi vc b1 vb0 vb1 vb2 vb3 vb4 vb5 vb6 vb7 g1 A26_b1 k8) (by decide) (by rw [hml]; rfl) 0 (Nat.le_of_eq rfl) (by decide) (by decide) (by decide) (by decide) pd_2 rfl (argsL := [(.ref b1), (.int 0), (.int vlo), (.int vhi), (.int vc)]) (st := []) rfl (zpureK ⟨rfl, rfl⟩ fun T28 X28 e28 => ?_))))))))
    show zEnds p e below s T28 (mkF m 195 #[.val (.long p1), .second, iv p2, iv p3, iv p4, iv p5, iv p6, iv vc, iv vc, rv b1, iv vf, iv vt, iv vlo, iv vhi, rv b20, rv w_ONE_CHAR_A_BYTE, .unset] [(.int (hitv vlo vhi (0 : Int32) vb0 vc))]) _ _ _
    refine zaload X28 hx hby at_195 rfl rfl (ziconst X28 hx hby at_197 (z := (1 : Int32)) rfl (ziload X28 hx hby at_198 rfl (ziload X28 hx hby at_200 rfl (ziload X28 hx hby at_202 rfl (zcalls X28 hx hby at_204 hZ hown (w25 hw) (w26 hw) (w3 hw) (w27 hw) e28 (c23_hit l hw [] ⟨S_w_ONE_CHAR_A_BYTE, S_w_ASCII, S_w_UTF_8, E_w_ONE_CHAR_A_BYTE, E_w_ASCII, E_w_UTF_8⟩ O26 (Nat.le_trans Z0 K26.1) vlo vhi vc b1 vb0 vb1 vb2 vb3 vb4 vb5 vb6 vb7 g1 A26_b1 k8) (by decide) (by rw [hml]; rfl) 1 (Nat.le_of_eq rfl) (by decide) (by decide) (by decide) (by decide) pd_2 rfl (argsL := [(.ref b1), (.int 1), (.int vlo), (.int vhi), (.int vc)]) (st := [(.int (hitv vlo vhi (0 : Int32) vb0 vc))]) rfl (zpureK ⟨rfl, rfl⟩ fun T29 X29 e29 => ?_))))))
    show zEnds p e below s T29 (mkF m 207 #[.val (.long p1), .second, iv p2, iv p3, iv p4, iv p5, iv p6, iv vc, iv vc, rv b1, iv vf, iv vt, iv vlo, iv vhi, rv b20, rv w_ONE_CHAR_A_BYTE, .unset] [(.int (hitv vlo vhi (1 : Int32) vb1 vc)), (.int (hitv vlo vhi (0 : Int32) vb0 vc))]) _ _ _
    refine ziadd X29 hx hby at_207 ((hitv vlo vhi (0 : Int32) vb0 vc) + (hitv vlo vhi (1 : Int32) vb1 vc)) rfl (zaload X29 hx hby at_208 rfl rfl (ziconst X29 hx hby at_210 (z := (2 : Int32)) rfl (ziload X29 hx hby at_211 rfl (ziload X29 hx hby at_213 rfl (ziload X29 hx hby at_215 rfl (zcalls X29 hx hby at_217 hZ hown (w25 hw) (w26 hw) (w3 hw) (w27 hw) e29 (c25_hit l hw [] ⟨S_w_ONE_CHAR_A_BYTE, S_w_ASCII, S_w_UTF_8, E_w_ONE_CHAR_A_BYTE, E_w_ASCII, E_w_UTF_8⟩ O26 (Nat.le_trans Z0 K26.1) vlo vhi vc b1 vb0 vb1 vb2 vb3 vb4 vb5 vb6 vb7 g1 A26_b1 k8) (by decide) (by rw [hml]; rfl) 1 (Nat.le_of_eq rfl) (by decide) (by decide) (by decide) (by decide) pd_2 rfl (argsL := [(.ref b1), (.int 2), (.int vlo), (.int vhi), (.int vc)]) (st := [(.int ((hitv vlo vhi (0 : Int32) vb0 vc) + (hitv vlo vhi (1 : Int32) vb1 vc)))]) rfl (zpureK ⟨rfl, rfl⟩ fun T30 X30 e30 => ?_)))))))
    show zEnds p e below s T30 (mkF m 220 #[.val (.long p1), .second, iv p2, iv p3, iv p4, iv p5, iv p6, iv vc, iv vc, rv b1, iv vf, iv vt, iv vlo, iv vhi, rv b20, rv w_ONE_CHAR_A_BYTE, .unset] [(.int (hitv vlo vhi (2 : Int32) vb2 vc)), (.int ((hitv vlo vhi (0 : Int32) vb0 vc) + (hitv vlo vhi (1 : Int32) vb1 vc)))]) _ _ _
    refine ziadd X30 hx hby at_220 (((hitv vlo vhi (0 : Int32) vb0 vc) + (hitv vlo vhi (1 : Int32) vb1 vc)) + (hitv vlo vhi (2 : Int32) vb2 vc)) rfl (zaload X30 hx hby at_221 rfl rfl (ziconst X30 hx hby at_223 (z := (3 : Int32)) rfl (ziload X30 hx hby at_224 rfl (ziload X30 hx hby at_226 rfl (ziload X30 hx hby at_228 rfl (zcalls X30 hx hby at_230 hZ hown (w25 hw) (w26 hw) (w3 hw) (w27 hw) e30 (c27_hit l hw [] ⟨S_w_ONE_CHAR_A_BYTE, S_w_ASCII, S_w_UTF_8, E_w_ONE_CHAR_A_BYTE, E_w_ASCII, E_w_UTF_8⟩ O26 (Nat.le_trans Z0 K26.1) vlo vhi vc b1 vb0 vb1 vb2 vb3 vb4 vb5 vb6 vb7 g1 A26_b1 k8) (by decide) (by rw [hml]; rfl) 1 (Nat.le_of_eq rfl) (by decide) (by decide) (by decide) (by decide) pd_2 rfl (argsL := [(.ref b1), (.int 3), (.int vlo), (.int vhi), (.int vc)]) (st := [(.int (((hitv vlo vhi (0 : Int32) vb0 vc) + (hitv vlo vhi (1 : Int32) vb1 vc)) + (hitv vlo vhi (2 : Int32) vb2 vc)))]) rfl (zpureK ⟨rfl, rfl⟩ fun T31 X31 e31 => ?_)))))))
    show zEnds p e below s T31 (mkF m 233 #[.val (.long p1), .second, iv p2, iv p3, iv p4, iv p5, iv p6, iv vc, iv vc, rv b1, iv vf, iv vt, iv vlo, iv vhi, rv b20, rv w_ONE_CHAR_A_BYTE, .unset] [(.int (hitv vlo vhi (3 : Int32) vb3 vc)), (.int (((hitv vlo vhi (0 : Int32) vb0 vc) + (hitv vlo vhi (1 : Int32) vb1 vc)) + (hitv vlo vhi (2 : Int32) vb2 vc)))]) _ _ _
    refine ziadd X31 hx hby at_233 ((((hitv vlo vhi (0 : Int32) vb0 vc) + (hitv vlo vhi (1 : Int32) vb1 vc)) + (hitv vlo vhi (2 : Int32) vb2 vc)) + (hitv vlo vhi (3 : Int32) vb3 vc)) rfl (zaload X31 hx hby at_234 rfl rfl (ziconst X31 hx hby at_236 (z := (4 : Int32)) rfl (ziload X31 hx hby at_237 rfl (ziload X31 hx hby at_239 rfl (ziload X31 hx hby at_241 rfl (zcalls X31 hx hby at_243 hZ hown (w25 hw) (w26 hw) (w3 hw) (w27 hw) e31 (c29_hit l hw [] ⟨S_w_ONE_CHAR_A_BYTE, S_w_ASCII, S_w_UTF_8, E_w_ONE_CHAR_A_BYTE, E_w_ASCII, E_w_UTF_8⟩ O26 (Nat.le_trans Z0 K26.1) vlo vhi vc b1 vb0 vb1 vb2 vb3 vb4 vb5 vb6 vb7 g1 A26_b1 k8) (by decide) (by rw [hml]; rfl) 1 (Nat.le_of_eq rfl) (by decide) (by decide) (by decide) (by decide) pd_2 rfl (argsL := [(.ref b1), (.int 4), (.int vlo), (.int vhi), (.int vc)]) (st := [(.int ((((hitv vlo vhi (0 : Int32) vb0 vc) + (hitv vlo vhi (1 : Int32) vb1 vc)) + (hitv vlo vhi (2 : Int32) vb2 vc)) + (hitv vlo vhi (3 : Int32) vb3 vc)))]) rfl (zpureK ⟨rfl, rfl⟩ fun T32 X32 e32 => ?_)))))))
    show zEnds p e below s T32 (mkF m 246 #[.val (.long p1), .second, iv p2, iv p3, iv p4, iv p5, iv p6, iv vc, iv vc, rv b1, iv vf, iv vt, iv vlo, iv vhi, rv b20, rv w_ONE_CHAR_A_BYTE, .unset] [(.int (hitv vlo vhi (4 : Int32) vb4 vc)), (.int ((((hitv vlo vhi (0 : Int32) vb0 vc) + (hitv vlo vhi (1 : Int32) vb1 vc)) + (hitv vlo vhi (2 : Int32) vb2 vc)) + (hitv vlo vhi (3 : Int32) vb3 vc)))]) _ _ _
    refine ziadd X32 hx hby at_246 (((((hitv vlo vhi (0 : Int32) vb0 vc) + (hitv vlo vhi (1 : Int32) vb1 vc)) + (hitv vlo vhi (2 : Int32) vb2 vc)) + (hitv vlo vhi (3 : Int32) vb3 vc)) + (hitv vlo vhi (4 : Int32) vb4 vc)) rfl (zaload X32 hx hby at_247 rfl rfl (ziconst X32 hx hby at_249 (z := (5 : Int32)) rfl (ziload X32 hx hby at_250 rfl (ziload X32 hx hby at_252 rfl (ziload X32 hx hby at_254 rfl (zcalls X32 hx hby at_256 hZ hown (w25 hw) (w26 hw) (w3 hw) (w27 hw) e32 (c31_hit l hw [] ⟨S_w_ONE_CHAR_A_BYTE, S_w_ASCII, S_w_UTF_8, E_w_ONE_CHAR_A_BYTE, E_w_ASCII, E_w_UTF_8⟩ O26 (Nat.le_trans Z0 K26.1) vlo vhi vc b1 vb0 vb1 vb2 vb3 vb4 vb5 vb6 vb7 g1 A26_b1 k8) (by decide) (by rw [hml]; rfl) 1 (Nat.le_of_eq rfl) (by decide) (by decide) (by decide) (by decide) pd_2 rfl (argsL := [(.ref b1), (.int 5), (.int vlo), (.int vhi), (.int vc)]) (st := [(.int (((((hitv vlo vhi (0 : Int32) vb0 vc) + (hitv vlo vhi (1 : Int32) vb1 vc)) + (hitv vlo vhi (2 : Int32) vb2 vc)) + (hitv vlo vhi (3 : Int32) vb3 vc)) + (hitv vlo vhi (4 : Int32) vb4 vc)))]) rfl (zpureK ⟨rfl, rfl⟩ fun T33 X33 e33 => ?_)))))))
    show zEnds p e below s T33 (mkF m 259 #[.val (.long p1), .second, iv p2, iv p3, iv p4, iv p5, iv p6, iv vc, iv vc, rv b1, iv vf, iv vt, iv vlo, iv vhi, rv b20, rv w_ONE_CHAR_A_BYTE, .unset] [(.int (hitv vlo vhi (5 : Int32) vb5 vc)), (.int (((((hitv vlo vhi (0 : Int32) vb0 vc) + (hitv vlo vhi (1 : Int32) vb1 vc)) + (hitv vlo vhi (2 : Int32) vb2 vc)) + (hitv vlo vhi (3 : Int32) vb3 vc)) + (hitv vlo vhi (4 : Int32) vb4 vc)))]) _ _ _
    refine ziadd X33 hx hby at_259 ((((((hitv vlo vhi (0 : Int32) vb0 vc) + (hitv vlo vhi (1 : Int32) vb1 vc)) + (hitv vlo vhi (2 : Int32) vb2 vc)) + (hitv vlo vhi (3 : Int32) vb3 vc)) + (hitv vlo vhi (4 : Int32) vb4 vc)) + (hitv vlo vhi (5 : Int32) vb5 vc)) rfl (zaload X33 hx hby at_260 rfl rfl (zbipush X33 hx hby at_262 (z := (6 : Int32)) rfl (ziload X33 hx hby at_264 rfl (ziload X33 hx hby at_266 rfl (ziload X33 hx hby at_268 rfl (zcalls X33 hx hby at_270 hZ hown (w25 hw) (w26 hw) (w3 hw) (w27 hw) e33 (c33_hit l hw [] ⟨S_w_ONE_CHAR_A_BYTE, S_w_ASCII, S_w_UTF_8, E_w_ONE_CHAR_A_BYTE, E_w_ASCII, E_w_UTF_8⟩ O26 (Nat.le_trans Z0 K26.1) vlo vhi vc b1 vb0 vb1 vb2 vb3 vb4 vb5 vb6 vb7 g1 A26_b1 k8) (by decide) (by rw [hml]; rfl) 1 (Nat.le_of_eq rfl) (by decide) (by decide) (by decide) (by decide) pd_2 rfl (argsL := [(.ref b1), (.int 6), (.int vlo), (.int vhi), (.int vc)]) (st := [(.int ((((((hitv vlo vhi (0 : Int32) vb0 vc) + (hitv vlo vhi (1 : Int32) vb1 vc)) + (hitv vlo vhi (2 : Int32) vb2 vc)) + (hitv vlo vhi (3 : Int32) vb3 vc)) + (hitv vlo vhi (4 : Int32) vb4 vc)) + (hitv vlo vhi (5 : Int32) vb5 vc)))]) rfl (zpureK ⟨rfl, rfl⟩ fun T34 X34 e34 => ?_)))))))
    show zEnds p e below s T34 (mkF m 273 #[.val (.long p1), .second, iv p2, iv p3, iv p4, iv p5, iv p6, iv vc, iv vc, rv b1, iv vf, iv vt, iv vlo, iv vhi, rv b20, rv w_ONE_CHAR_A_BYTE, .unset] [(.int (hitv vlo vhi (6 : Int32) vb6 vc)), (.int ((((((hitv vlo vhi (0 : Int32) vb0 vc) + (hitv vlo vhi (1 : Int32) vb1 vc)) + (hitv vlo vhi (2 : Int32) vb2 vc)) + (hitv vlo vhi (3 : Int32) vb3 vc)) + (hitv vlo vhi (4 : Int32) vb4 vc)) + (hitv vlo vhi (5 : Int32) vb5 vc)))]) _ _ _
    refine ziadd X34 hx hby at_273 (((((((hitv vlo vhi (0 : Int32) vb0 vc) + (hitv vlo vhi (1 : Int32) vb1 vc)) + (hitv vlo vhi (2 : Int32) vb2 vc)) + (hitv vlo vhi (3 : Int32) vb3 vc)) + (hitv vlo vhi (4 : Int32) vb4 vc)) + (hitv vlo vhi (5 : Int32) vb5 vc)) + (hitv vlo vhi (6 : Int32) vb6 vc)) rfl (zaload X34 hx hby at_274 rfl rfl (zbipush X34 hx hby at_276 (z := (7 : Int32)) rfl (ziload X34 hx hby at_278 rfl (ziload X34 hx hby at_280 rfl (ziload X34 hx hby at_282 rfl (zcalls X34 hx hby at_284 hZ hown (w25 hw) (w26 hw) (w3 hw) (w27 hw) e34 (c35_hit l hw [] ⟨S_w_ONE_CHAR_A_BYTE, S_w_ASCII, S_w_UTF_8, E_w_ONE_CHAR_A_BYTE, E_w_ASCII, E_w_UTF_8⟩ O26 (Nat.le_trans Z0 K26.1) vlo vhi vc b1 vb0 vb1 vb2 vb3 vb4 vb5 vb6 vb7 g1 A26_b1 k8) (by decide) (by rw [hml]; rfl) 1 (Nat.le_of_eq rfl) (by decide) (by decide) (by decide) (by decide) pd_2 rfl (argsL := [(.ref b1), (.int 7), (.int vlo), (.int vhi), (.int vc)]) (st := [(.int (((((((hitv vlo vhi (0 : Int32) vb0 vc) + (hitv vlo vhi (1 : Int32) vb1 vc)) + (hitv vlo vhi (2 : Int32) vb2 vc)) + (hitv vlo vhi (3 : Int32) vb3 vc)) + (hitv vlo vhi (4 : Int32) vb4 vc)) + (hitv vlo vhi (5 : Int32) vb5 vc)) + (hitv vlo vhi (6 : Int32) vb6 vc)))]) rfl (zpureK ⟨rfl, rfl⟩ fun T35 X35 e35 => ?_)))))))
    show zEnds p e below s T35 (mkF m 287 #[.val (.long p1), .second, iv p2, iv p3, iv p4, iv p5, iv p6, iv vc, iv vc, rv b1, iv vf, iv vt, iv vlo, iv vhi, rv b20, rv w_ONE_CHAR_A_BYTE, .unset] [(.int (hitv vlo vhi (7 : Int32) vb7 vc)), (.int (((((((hitv vlo vhi (0 : Int32) vb0 vc) + (hitv vlo vhi (1 : Int32) vb1 vc)) + (hitv vlo vhi (2 : Int32) vb2 vc)) + (hitv vlo vhi (3 : Int32) vb3 vc)) + (hitv vlo vhi (4 : Int32) vb4 vc)) + (hitv vlo vhi (5 : Int32) vb5 vc)) + (hitv vlo vhi (6 : Int32) vb6 vc)))]) _ _ _
    refine ziadd X35 hx hby at_287 ((((((((hitv vlo vhi (0 : Int32) vb0 vc) + (hitv vlo vhi (1 : Int32) vb1 vc)) + (hitv vlo vhi (2 : Int32) vb2 vc)) + (hitv vlo vhi (3 : Int32) vb3 vc)) + (hitv vlo vhi (4 : Int32) vb4 vc)) + (hitv vlo vhi (5 : Int32) vb5 vc)) + (hitv vlo vhi (6 : Int32) vb6 vc)) + (hitv vlo vhi (7 : Int32) vb7 vc)) rfl (zistore X35 hx hby at_288 (L' := #[.val (.long p1), .second, iv p2, iv p3, iv p4, iv p5, iv p6, iv vc, iv vc, rv b1, iv vf, iv vt, iv vlo, iv vhi, rv b20, rv w_ONE_CHAR_A_BYTE, iv ((((((((hitv vlo vhi (0 : Int32) vb0 vc) + (hitv vlo vhi (1 : Int32) vb1 vc)) + (hitv vlo vhi (2 : Int32) vb2 vc)) + (hitv vlo vhi (3 : Int32) vb3 vc)) + (hitv vlo vhi (4 : Int32) vb4 vc)) + (hitv vlo vhi (5 : Int32) vb5 vc)) + (hitv vlo vhi (6 : Int32) vb6 vc)) + (hitv vlo vhi (7 : Int32) vb7 vc))]) rfl (zaload X35 hx hby at_290 rfl rfl (zaload X35 hx hby at_292 rfl rfl (ziload X35 hx hby at_294 rfl (ziload X35 hx hby at_296 rfl (ziload X35 hx hby at_298 rfl (zcallv X35 hx hby at_300 hZ hown (w28 hw) (w29 hw) (notFace_of_selects (args := #[]) (mvT hZ (w31 hw))) (w31 hw) (w30 hw) (w32 hw) (w16 hw) e35 (E_w_ONE_CHAR_A_BYTE.ext O26.2) (c37_count l hw [] ⟨S_w_ONE_CHAR_A_BYTE, S_w_ASCII, S_w_UTF_8, E_w_ONE_CHAR_A_BYTE, E_w_ASCII, E_w_UTF_8⟩ O26 (Nat.le_trans Z0 K26.1) w_ONE_CHAR_A_BYTE vlo vhi vc b1 vb0 vb1 vb2 vb3 vb4 vb5 vb6 vb7 g1 A26_b1 k8 kL) (by decide) (by rw [hml]; rfl) 0 (Nat.le_of_eq rfl) (by decide) (by decide) (by decide) (by decide) pd_3 rfl (argsL := [(.ref b1), (.int vlo), (.int vhi), (.int vc)]) (st := []) rfl (zpureK ⟨rfl, rfl⟩ fun T36 X36 e36 => ?_))))))))
    show zEnds p e below s T36 (mkF m 303 #[.val (.long p1), .second, iv p2, iv p3, iv p4, iv p5, iv p6, iv vc, iv vc, rv b1, iv vf, iv vt, iv vlo, iv vhi, rv b20, rv w_ONE_CHAR_A_BYTE, iv ((((((((hitv vlo vhi (0 : Int32) vb0 vc) + (hitv vlo vhi (1 : Int32) vb1 vc)) + (hitv vlo vhi (2 : Int32) vb2 vc)) + (hitv vlo vhi (3 : Int32) vb3 vc)) + (hitv vlo vhi (4 : Int32) vb4 vc)) + (hitv vlo vhi (5 : Int32) vb5 vc)) + (hitv vlo vhi (6 : Int32) vb6 vc)) + (hitv vlo vhi (7 : Int32) vb7 vc))] [(.int (cntv vlo vhi vc vb0 vb1 vb2 vb3 vb4 vb5 vb6 vb7))]) _ _ _
    refine ziload X36 hx hby at_303 rfl ?_
    show zEnds p e below s T36 (mkF m 305 #[.val (.long p1), .second, iv p2, iv p3, iv p4, iv p5, iv p6, iv vc, iv vc, rv b1, iv vf, iv vt, iv vlo, iv vhi, rv b20, rv w_ONE_CHAR_A_BYTE, iv ((((((((hitv vlo vhi (0 : Int32) vb0 vc) + (hitv vlo vhi (1 : Int32) vb1 vc)) + (hitv vlo vhi (2 : Int32) vb2 vc)) + (hitv vlo vhi (3 : Int32) vb3 vc)) + (hitv vlo vhi (4 : Int32) vb4 vc)) + (hitv vlo vhi (5 : Int32) vb5 vc)) + (hitv vlo vhi (6 : Int32) vb6 vc)) + (hitv vlo vhi (7 : Int32) vb7 vc))] [(.int ((((((((hitv vlo vhi (0 : Int32) vb0 vc) + (hitv vlo vhi (1 : Int32) vb1 vc)) + (hitv vlo vhi (2 : Int32) vb2 vc)) + (hitv vlo vhi (3 : Int32) vb3 vc)) + (hitv vlo vhi (4 : Int32) vb4 vc)) + (hitv vlo vhi (5 : Int32) vb5 vc)) + (hitv vlo vhi (6 : Int32) vb6 vc)) + (hitv vlo vhi (7 : Int32) vb7 vc))), (.int (cntv vlo vhi vc vb0 vb1 vb2 vb3 vb4 vb5 vb6 vb7))]) _ _ _
    have hh : (cntv vlo vhi vc vb0 vb1 vb2 vb3 vb4 vb5 vb6 vb7) = ((((((((hitv vlo vhi (0 : Int32) vb0 vc) + (hitv vlo vhi (1 : Int32) vb1 vc)) + (hitv vlo vhi (2 : Int32) vb2 vc)) + (hitv vlo vhi (3 : Int32) vb3 vc)) + (hitv vlo vhi (4 : Int32) vb4 vc)) + (hitv vlo vhi (5 : Int32) vb5 vc)) + (hitv vlo vhi (6 : Int32) vb6 vc)) + (hitv vlo vhi (7 : Int32) vb7 vc)) := own_sum _ _ _ kL kc hb0 hb1 hb2 hb3 hb4 hb5 hb6 hb7
    refine zicmpNo X36 hx hby at_305 (teq hh).2 (ziconst X36 hx hby at_308 (z := (1 : Int32)) rfl (zgoto X36 hx hby at_309 313 (by decide) (by decide) ?_))
    show zEnds p e below s T36 (mkF m 313 #[.val (.long p1), .second, iv p2, iv p3, iv p4, iv p5, iv p6, iv vc, iv vc, rv b1, iv vf, iv vt, iv vlo, iv vhi, rv b20, rv w_ONE_CHAR_A_BYTE, iv ((((((((hitv vlo vhi (0 : Int32) vb0 vc) + (hitv vlo vhi (1 : Int32) vb1 vc)) + (hitv vlo vhi (2 : Int32) vb2 vc)) + (hitv vlo vhi (3 : Int32) vb3 vc)) + (hitv vlo vhi (4 : Int32) vb4 vc)) + (hitv vlo vhi (5 : Int32) vb5 vc)) + (hitv vlo vhi (6 : Int32) vb6 vc)) + (hitv vlo vhi (7 : Int32) vb7 vc))] [(.int 1)]) _ _ _
    exact zretZ X36 hx hby at_313 hret hlk (by simp) rfl (by decide) (by decide) ⟨rfl, N26⟩
  · rw [q27]
    refine zaaload X26 hx hby at_180 hZ e26 rfl A26_b20.lst (by decide) (v := (.ref w_ASCII)) rfl (zastore X26 hx hby at_181 (hv := rfl) (L' := #[.val (.long p1), .second, iv p2, iv p3, iv p4, iv p5, iv p6, iv vc, iv vc, rv b1, iv vf, iv vt, iv vlo, iv vhi, rv b20, rv w_ASCII, .unset]) rfl (zaload X26 hx hby at_183 rfl rfl (ziconst X26 hx hby at_185 (z := (0 : Int32)) rfl (ziload X26 hx hby at_186 rfl (ziload X26 hx hby at_188 rfl (ziload X26 hx hby at_190 rfl (zcalls X26 hx hby at_192 hZ hown (w25 hw) (w26 hw) (w3 hw) (w27 hw) e26 (c21_hit l hw [] ⟨S_w_ONE_CHAR_A_BYTE, S_w_ASCII, S_w_UTF_8, E_w_ONE_CHAR_A_BYTE, E_w_ASCII, E_w_UTF_8⟩ O26 (Nat.le_trans Z0 K26.1) vlo vhi vc b1 vb0 vb1 vb2 vb3 vb4 vb5 vb6 vb7 g1 A26_b1 k8) (by decide) (by rw [hml]; rfl) 0 (Nat.le_of_eq rfl) (by decide) (by decide) (by decide) (by decide) pd_2 rfl (argsL := [(.ref b1), (.int 0), (.int vlo), (.int vhi), (.int vc)]) (st := []) rfl (zpureK ⟨rfl, rfl⟩ fun T37 X37 e37 => ?_))))))))
    show zEnds p e below s T37 (mkF m 195 #[.val (.long p1), .second, iv p2, iv p3, iv p4, iv p5, iv p6, iv vc, iv vc, rv b1, iv vf, iv vt, iv vlo, iv vhi, rv b20, rv w_ASCII, .unset] [(.int (hitv vlo vhi (0 : Int32) vb0 vc))]) _ _ _
    refine zaload X37 hx hby at_195 rfl rfl (ziconst X37 hx hby at_197 (z := (1 : Int32)) rfl (ziload X37 hx hby at_198 rfl (ziload X37 hx hby at_200 rfl (ziload X37 hx hby at_202 rfl (zcalls X37 hx hby at_204 hZ hown (w25 hw) (w26 hw) (w3 hw) (w27 hw) e37 (c23_hit l hw [] ⟨S_w_ONE_CHAR_A_BYTE, S_w_ASCII, S_w_UTF_8, E_w_ONE_CHAR_A_BYTE, E_w_ASCII, E_w_UTF_8⟩ O26 (Nat.le_trans Z0 K26.1) vlo vhi vc b1 vb0 vb1 vb2 vb3 vb4 vb5 vb6 vb7 g1 A26_b1 k8) (by decide) (by rw [hml]; rfl) 1 (Nat.le_of_eq rfl) (by decide) (by decide) (by decide) (by decide) pd_2 rfl (argsL := [(.ref b1), (.int 1), (.int vlo), (.int vhi), (.int vc)]) (st := [(.int (hitv vlo vhi (0 : Int32) vb0 vc))]) rfl (zpureK ⟨rfl, rfl⟩ fun T38 X38 e38 => ?_))))))
    show zEnds p e below s T38 (mkF m 207 #[.val (.long p1), .second, iv p2, iv p3, iv p4, iv p5, iv p6, iv vc, iv vc, rv b1, iv vf, iv vt, iv vlo, iv vhi, rv b20, rv w_ASCII, .unset] [(.int (hitv vlo vhi (1 : Int32) vb1 vc)), (.int (hitv vlo vhi (0 : Int32) vb0 vc))]) _ _ _
    refine ziadd X38 hx hby at_207 ((hitv vlo vhi (0 : Int32) vb0 vc) + (hitv vlo vhi (1 : Int32) vb1 vc)) rfl (zaload X38 hx hby at_208 rfl rfl (ziconst X38 hx hby at_210 (z := (2 : Int32)) rfl (ziload X38 hx hby at_211 rfl (ziload X38 hx hby at_213 rfl (ziload X38 hx hby at_215 rfl (zcalls X38 hx hby at_217 hZ hown (w25 hw) (w26 hw) (w3 hw) (w27 hw) e38 (c25_hit l hw [] ⟨S_w_ONE_CHAR_A_BYTE, S_w_ASCII, S_w_UTF_8, E_w_ONE_CHAR_A_BYTE, E_w_ASCII, E_w_UTF_8⟩ O26 (Nat.le_trans Z0 K26.1) vlo vhi vc b1 vb0 vb1 vb2 vb3 vb4 vb5 vb6 vb7 g1 A26_b1 k8) (by decide) (by rw [hml]; rfl) 1 (Nat.le_of_eq rfl) (by decide) (by decide) (by decide) (by decide) pd_2 rfl (argsL := [(.ref b1), (.int 2), (.int vlo), (.int vhi), (.int vc)]) (st := [(.int ((hitv vlo vhi (0 : Int32) vb0 vc) + (hitv vlo vhi (1 : Int32) vb1 vc)))]) rfl (zpureK ⟨rfl, rfl⟩ fun T39 X39 e39 => ?_)))))))
    show zEnds p e below s T39 (mkF m 220 #[.val (.long p1), .second, iv p2, iv p3, iv p4, iv p5, iv p6, iv vc, iv vc, rv b1, iv vf, iv vt, iv vlo, iv vhi, rv b20, rv w_ASCII, .unset] [(.int (hitv vlo vhi (2 : Int32) vb2 vc)), (.int ((hitv vlo vhi (0 : Int32) vb0 vc) + (hitv vlo vhi (1 : Int32) vb1 vc)))]) _ _ _
    refine ziadd X39 hx hby at_220 (((hitv vlo vhi (0 : Int32) vb0 vc) + (hitv vlo vhi (1 : Int32) vb1 vc)) + (hitv vlo vhi (2 : Int32) vb2 vc)) rfl (zaload X39 hx hby at_221 rfl rfl (ziconst X39 hx hby at_223 (z := (3 : Int32)) rfl (ziload X39 hx hby at_224 rfl (ziload X39 hx hby at_226 rfl (ziload X39 hx hby at_228 rfl (zcalls X39 hx hby at_230 hZ hown (w25 hw) (w26 hw) (w3 hw) (w27 hw) e39 (c27_hit l hw [] ⟨S_w_ONE_CHAR_A_BYTE, S_w_ASCII, S_w_UTF_8, E_w_ONE_CHAR_A_BYTE, E_w_ASCII, E_w_UTF_8⟩ O26 (Nat.le_trans Z0 K26.1) vlo vhi vc b1 vb0 vb1 vb2 vb3 vb4 vb5 vb6 vb7 g1 A26_b1 k8) (by decide) (by rw [hml]; rfl) 1 (Nat.le_of_eq rfl) (by decide) (by decide) (by decide) (by decide) pd_2 rfl (argsL := [(.ref b1), (.int 3), (.int vlo), (.int vhi), (.int vc)]) (st := [(.int (((hitv vlo vhi (0 : Int32) vb0 vc) + (hitv vlo vhi (1 : Int32) vb1 vc)) + (hitv vlo vhi (2 : Int32) vb2 vc)))]) rfl (zpureK ⟨rfl, rfl⟩ fun T40 X40 e40 => ?_)))))))
    show zEnds p e below s T40 (mkF m 233 #[.val (.long p1), .second, iv p2, iv p3, iv p4, iv p5, iv p6, iv vc, iv vc, rv b1, iv vf, iv vt, iv vlo, iv vhi, rv b20, rv w_ASCII, .unset] [(.int (hitv vlo vhi (3 : Int32) vb3 vc)), (.int (((hitv vlo vhi (0 : Int32) vb0 vc) + (hitv vlo vhi (1 : Int32) vb1 vc)) + (hitv vlo vhi (2 : Int32) vb2 vc)))]) _ _ _
    refine ziadd X40 hx hby at_233 ((((hitv vlo vhi (0 : Int32) vb0 vc) + (hitv vlo vhi (1 : Int32) vb1 vc)) + (hitv vlo vhi (2 : Int32) vb2 vc)) + (hitv vlo vhi (3 : Int32) vb3 vc)) rfl (zaload X40 hx hby at_234 rfl rfl (ziconst X40 hx hby at_236 (z := (4 : Int32)) rfl (ziload X40 hx hby at_237 rfl (ziload X40 hx hby at_239 rfl (ziload X40 hx hby at_241 rfl (zcalls X40 hx hby at_243 hZ hown (w25 hw) (w26 hw) (w3 hw) (w27 hw) e40 (c29_hit l hw [] ⟨S_w_ONE_CHAR_A_BYTE, S_w_ASCII, S_w_UTF_8, E_w_ONE_CHAR_A_BYTE, E_w_ASCII, E_w_UTF_8⟩ O26 (Nat.le_trans Z0 K26.1) vlo vhi vc b1 vb0 vb1 vb2 vb3 vb4 vb5 vb6 vb7 g1 A26_b1 k8) (by decide) (by rw [hml]; rfl) 1 (Nat.le_of_eq rfl) (by decide) (by decide) (by decide) (by decide) pd_2 rfl (argsL := [(.ref b1), (.int 4), (.int vlo), (.int vhi), (.int vc)]) (st := [(.int ((((hitv vlo vhi (0 : Int32) vb0 vc) + (hitv vlo vhi (1 : Int32) vb1 vc)) + (hitv vlo vhi (2 : Int32) vb2 vc)) + (hitv vlo vhi (3 : Int32) vb3 vc)))]) rfl (zpureK ⟨rfl, rfl⟩ fun T41 X41 e41 => ?_)))))))
    show zEnds p e below s T41 (mkF m 246 #[.val (.long p1), .second, iv p2, iv p3, iv p4, iv p5, iv p6, iv vc, iv vc, rv b1, iv vf, iv vt, iv vlo, iv vhi, rv b20, rv w_ASCII, .unset] [(.int (hitv vlo vhi (4 : Int32) vb4 vc)), (.int ((((hitv vlo vhi (0 : Int32) vb0 vc) + (hitv vlo vhi (1 : Int32) vb1 vc)) + (hitv vlo vhi (2 : Int32) vb2 vc)) + (hitv vlo vhi (3 : Int32) vb3 vc)))]) _ _ _
    refine ziadd X41 hx hby at_246 (((((hitv vlo vhi (0 : Int32) vb0 vc) + (hitv vlo vhi (1 : Int32) vb1 vc)) + (hitv vlo vhi (2 : Int32) vb2 vc)) + (hitv vlo vhi (3 : Int32) vb3 vc)) + (hitv vlo vhi (4 : Int32) vb4 vc)) rfl (zaload X41 hx hby at_247 rfl rfl (ziconst X41 hx hby at_249 (z := (5 : Int32)) rfl (ziload X41 hx hby at_250 rfl (ziload X41 hx hby at_252 rfl (ziload X41 hx hby at_254 rfl (zcalls X41 hx hby at_256 hZ hown (w25 hw) (w26 hw) (w3 hw) (w27 hw) e41 (c31_hit l hw [] ⟨S_w_ONE_CHAR_A_BYTE, S_w_ASCII, S_w_UTF_8, E_w_ONE_CHAR_A_BYTE, E_w_ASCII, E_w_UTF_8⟩ O26 (Nat.le_trans Z0 K26.1) vlo vhi vc b1 vb0 vb1 vb2 vb3 vb4 vb5 vb6 vb7 g1 A26_b1 k8) (by decide) (by rw [hml]; rfl) 1 (Nat.le_of_eq rfl) (by decide) (by decide) (by decide) (by decide) pd_2 rfl (argsL := [(.ref b1), (.int 5), (.int vlo), (.int vhi), (.int vc)]) (st := [(.int (((((hitv vlo vhi (0 : Int32) vb0 vc) + (hitv vlo vhi (1 : Int32) vb1 vc)) + (hitv vlo vhi (2 : Int32) vb2 vc)) + (hitv vlo vhi (3 : Int32) vb3 vc)) + (hitv vlo vhi (4 : Int32) vb4 vc)))]) rfl (zpureK ⟨rfl, rfl⟩ fun T42 X42 e42 => ?_)))))))
    show zEnds p e below s T42 (mkF m 259 #[.val (.long p1), .second, iv p2, iv p3, iv p4, iv p5, iv p6, iv vc, iv vc, rv b1, iv vf, iv vt, iv vlo, iv vhi, rv b20, rv w_ASCII, .unset] [(.int (hitv vlo vhi (5 : Int32) vb5 vc)), (.int (((((hitv vlo vhi (0 : Int32) vb0 vc) + (hitv vlo vhi (1 : Int32) vb1 vc)) + (hitv vlo vhi (2 : Int32) vb2 vc)) + (hitv vlo vhi (3 : Int32) vb3 vc)) + (hitv vlo vhi (4 : Int32) vb4 vc)))]) _ _ _
    refine ziadd X42 hx hby at_259 ((((((hitv vlo vhi (0 : Int32) vb0 vc) + (hitv vlo vhi (1 : Int32) vb1 vc)) + (hitv vlo vhi (2 : Int32) vb2 vc)) + (hitv vlo vhi (3 : Int32) vb3 vc)) + (hitv vlo vhi (4 : Int32) vb4 vc)) + (hitv vlo vhi (5 : Int32) vb5 vc)) rfl (zaload X42 hx hby at_260 rfl rfl (zbipush X42 hx hby at_262 (z := (6 : Int32)) rfl (ziload X42 hx hby at_264 rfl (ziload X42 hx hby at_266 rfl (ziload X42 hx hby at_268 rfl (zcalls X42 hx hby at_270 hZ hown (w25 hw) (w26 hw) (w3 hw) (w27 hw) e42 (c33_hit l hw [] ⟨S_w_ONE_CHAR_A_BYTE, S_w_ASCII, S_w_UTF_8, E_w_ONE_CHAR_A_BYTE, E_w_ASCII, E_w_UTF_8⟩ O26 (Nat.le_trans Z0 K26.1) vlo vhi vc b1 vb0 vb1 vb2 vb3 vb4 vb5 vb6 vb7 g1 A26_b1 k8) (by decide) (by rw [hml]; rfl) 1 (Nat.le_of_eq rfl) (by decide) (by decide) (by decide) (by decide) pd_2 rfl (argsL := [(.ref b1), (.int 6), (.int vlo), (.int vhi), (.int vc)]) (st := [(.int ((((((hitv vlo vhi (0 : Int32) vb0 vc) + (hitv vlo vhi (1 : Int32) vb1 vc)) + (hitv vlo vhi (2 : Int32) vb2 vc)) + (hitv vlo vhi (3 : Int32) vb3 vc)) + (hitv vlo vhi (4 : Int32) vb4 vc)) + (hitv vlo vhi (5 : Int32) vb5 vc)))]) rfl (zpureK ⟨rfl, rfl⟩ fun T43 X43 e43 => ?_)))))))
    show zEnds p e below s T43 (mkF m 273 #[.val (.long p1), .second, iv p2, iv p3, iv p4, iv p5, iv p6, iv vc, iv vc, rv b1, iv vf, iv vt, iv vlo, iv vhi, rv b20, rv w_ASCII, .unset] [(.int (hitv vlo vhi (6 : Int32) vb6 vc)), (.int ((((((hitv vlo vhi (0 : Int32) vb0 vc) + (hitv vlo vhi (1 : Int32) vb1 vc)) + (hitv vlo vhi (2 : Int32) vb2 vc)) + (hitv vlo vhi (3 : Int32) vb3 vc)) + (hitv vlo vhi (4 : Int32) vb4 vc)) + (hitv vlo vhi (5 : Int32) vb5 vc)))]) _ _ _
    refine ziadd X43 hx hby at_273 (((((((hitv vlo vhi (0 : Int32) vb0 vc) + (hitv vlo vhi (1 : Int32) vb1 vc)) + (hitv vlo vhi (2 : Int32) vb2 vc)) + (hitv vlo vhi (3 : Int32) vb3 vc)) + (hitv vlo vhi (4 : Int32) vb4 vc)) + (hitv vlo vhi (5 : Int32) vb5 vc)) + (hitv vlo vhi (6 : Int32) vb6 vc)) rfl (zaload X43 hx hby at_274 rfl rfl (zbipush X43 hx hby at_276 (z := (7 : Int32)) rfl (ziload X43 hx hby at_278 rfl (ziload X43 hx hby at_280 rfl (ziload X43 hx hby at_282 rfl (zcalls X43 hx hby at_284 hZ hown (w25 hw) (w26 hw) (w3 hw) (w27 hw) e43 (c35_hit l hw [] ⟨S_w_ONE_CHAR_A_BYTE, S_w_ASCII, S_w_UTF_8, E_w_ONE_CHAR_A_BYTE, E_w_ASCII, E_w_UTF_8⟩ O26 (Nat.le_trans Z0 K26.1) vlo vhi vc b1 vb0 vb1 vb2 vb3 vb4 vb5 vb6 vb7 g1 A26_b1 k8) (by decide) (by rw [hml]; rfl) 1 (Nat.le_of_eq rfl) (by decide) (by decide) (by decide) (by decide) pd_2 rfl (argsL := [(.ref b1), (.int 7), (.int vlo), (.int vhi), (.int vc)]) (st := [(.int (((((((hitv vlo vhi (0 : Int32) vb0 vc) + (hitv vlo vhi (1 : Int32) vb1 vc)) + (hitv vlo vhi (2 : Int32) vb2 vc)) + (hitv vlo vhi (3 : Int32) vb3 vc)) + (hitv vlo vhi (4 : Int32) vb4 vc)) + (hitv vlo vhi (5 : Int32) vb5 vc)) + (hitv vlo vhi (6 : Int32) vb6 vc)))]) rfl (zpureK ⟨rfl, rfl⟩ fun T44 X44 e44 => ?_)))))))
    show zEnds p e below s T44 (mkF m 287 #[.val (.long p1), .second, iv p2, iv p3, iv p4, iv p5, iv p6, iv vc, iv vc, rv b1, iv vf, iv vt, iv vlo, iv vhi, rv b20, rv w_ASCII, .unset] [(.int (hitv vlo vhi (7 : Int32) vb7 vc)), (.int (((((((hitv vlo vhi (0 : Int32) vb0 vc) + (hitv vlo vhi (1 : Int32) vb1 vc)) + (hitv vlo vhi (2 : Int32) vb2 vc)) + (hitv vlo vhi (3 : Int32) vb3 vc)) + (hitv vlo vhi (4 : Int32) vb4 vc)) + (hitv vlo vhi (5 : Int32) vb5 vc)) + (hitv vlo vhi (6 : Int32) vb6 vc)))]) _ _ _
    refine ziadd X44 hx hby at_287 ((((((((hitv vlo vhi (0 : Int32) vb0 vc) + (hitv vlo vhi (1 : Int32) vb1 vc)) + (hitv vlo vhi (2 : Int32) vb2 vc)) + (hitv vlo vhi (3 : Int32) vb3 vc)) + (hitv vlo vhi (4 : Int32) vb4 vc)) + (hitv vlo vhi (5 : Int32) vb5 vc)) + (hitv vlo vhi (6 : Int32) vb6 vc)) + (hitv vlo vhi (7 : Int32) vb7 vc)) rfl (zistore X44 hx hby at_288 (L' := #[.val (.long p1), .second, iv p2, iv p3, iv p4, iv p5, iv p6, iv vc, iv vc, rv b1, iv vf, iv vt, iv vlo, iv vhi, rv b20, rv w_ASCII, iv ((((((((hitv vlo vhi (0 : Int32) vb0 vc) + (hitv vlo vhi (1 : Int32) vb1 vc)) + (hitv vlo vhi (2 : Int32) vb2 vc)) + (hitv vlo vhi (3 : Int32) vb3 vc)) + (hitv vlo vhi (4 : Int32) vb4 vc)) + (hitv vlo vhi (5 : Int32) vb5 vc)) + (hitv vlo vhi (6 : Int32) vb6 vc)) + (hitv vlo vhi (7 : Int32) vb7 vc))]) rfl (zaload X44 hx hby at_290 rfl rfl (zaload X44 hx hby at_292 rfl rfl (ziload X44 hx hby at_294 rfl (ziload X44 hx hby at_296 rfl (ziload X44 hx hby at_298 rfl (zcallv X44 hx hby at_300 hZ hown (w28 hw) (w29 hw) (notFace_of_selects (args := #[]) (mvT hZ (w34 hw))) (w34 hw) (w30 hw) (w32 hw) (w16 hw) e44 (E_w_ASCII.ext O26.2) (c37_count l hw [] ⟨S_w_ONE_CHAR_A_BYTE, S_w_ASCII, S_w_UTF_8, E_w_ONE_CHAR_A_BYTE, E_w_ASCII, E_w_UTF_8⟩ O26 (Nat.le_trans Z0 K26.1) w_ASCII vlo vhi vc b1 vb0 vb1 vb2 vb3 vb4 vb5 vb6 vb7 g1 A26_b1 k8 kL) (by decide) (by rw [hml]; rfl) 0 (Nat.le_of_eq rfl) (by decide) (by decide) (by decide) (by decide) pd_3 rfl (argsL := [(.ref b1), (.int vlo), (.int vhi), (.int vc)]) (st := []) rfl (zpureK ⟨rfl, rfl⟩ fun T45 X45 e45 => ?_))))))))
    show zEnds p e below s T45 (mkF m 303 #[.val (.long p1), .second, iv p2, iv p3, iv p4, iv p5, iv p6, iv vc, iv vc, rv b1, iv vf, iv vt, iv vlo, iv vhi, rv b20, rv w_ASCII, iv ((((((((hitv vlo vhi (0 : Int32) vb0 vc) + (hitv vlo vhi (1 : Int32) vb1 vc)) + (hitv vlo vhi (2 : Int32) vb2 vc)) + (hitv vlo vhi (3 : Int32) vb3 vc)) + (hitv vlo vhi (4 : Int32) vb4 vc)) + (hitv vlo vhi (5 : Int32) vb5 vc)) + (hitv vlo vhi (6 : Int32) vb6 vc)) + (hitv vlo vhi (7 : Int32) vb7 vc))] [(.int (cntv vlo vhi vc vb0 vb1 vb2 vb3 vb4 vb5 vb6 vb7))]) _ _ _
    refine ziload X45 hx hby at_303 rfl ?_
    show zEnds p e below s T45 (mkF m 305 #[.val (.long p1), .second, iv p2, iv p3, iv p4, iv p5, iv p6, iv vc, iv vc, rv b1, iv vf, iv vt, iv vlo, iv vhi, rv b20, rv w_ASCII, iv ((((((((hitv vlo vhi (0 : Int32) vb0 vc) + (hitv vlo vhi (1 : Int32) vb1 vc)) + (hitv vlo vhi (2 : Int32) vb2 vc)) + (hitv vlo vhi (3 : Int32) vb3 vc)) + (hitv vlo vhi (4 : Int32) vb4 vc)) + (hitv vlo vhi (5 : Int32) vb5 vc)) + (hitv vlo vhi (6 : Int32) vb6 vc)) + (hitv vlo vhi (7 : Int32) vb7 vc))] [(.int ((((((((hitv vlo vhi (0 : Int32) vb0 vc) + (hitv vlo vhi (1 : Int32) vb1 vc)) + (hitv vlo vhi (2 : Int32) vb2 vc)) + (hitv vlo vhi (3 : Int32) vb3 vc)) + (hitv vlo vhi (4 : Int32) vb4 vc)) + (hitv vlo vhi (5 : Int32) vb5 vc)) + (hitv vlo vhi (6 : Int32) vb6 vc)) + (hitv vlo vhi (7 : Int32) vb7 vc))), (.int (cntv vlo vhi vc vb0 vb1 vb2 vb3 vb4 vb5 vb6 vb7))]) _ _ _
    have hh : (cntv vlo vhi vc vb0 vb1 vb2 vb3 vb4 vb5 vb6 vb7) = ((((((((hitv vlo vhi (0 : Int32) vb0 vc) + (hitv vlo vhi (1 : Int32) vb1 vc)) + (hitv vlo vhi (2 : Int32) vb2 vc)) + (hitv vlo vhi (3 : Int32) vb3 vc)) + (hitv vlo vhi (4 : Int32) vb4 vc)) + (hitv vlo vhi (5 : Int32) vb5 vc)) + (hitv vlo vhi (6 : Int32) vb6 vc)) + (hitv vlo vhi (7 : Int32) vb7 vc)) := own_sum _ _ _ kL kc hb0 hb1 hb2 hb3 hb4 hb5 hb6 hb7
    refine zicmpNo X45 hx hby at_305 (teq hh).2 (ziconst X45 hx hby at_308 (z := (1 : Int32)) rfl (zgoto X45 hx hby at_309 313 (by decide) (by decide) ?_))
    show zEnds p e below s T45 (mkF m 313 #[.val (.long p1), .second, iv p2, iv p3, iv p4, iv p5, iv p6, iv vc, iv vc, rv b1, iv vf, iv vt, iv vlo, iv vhi, rv b20, rv w_ASCII, iv ((((((((hitv vlo vhi (0 : Int32) vb0 vc) + (hitv vlo vhi (1 : Int32) vb1 vc)) + (hitv vlo vhi (2 : Int32) vb2 vc)) + (hitv vlo vhi (3 : Int32) vb3 vc)) + (hitv vlo vhi (4 : Int32) vb4 vc)) + (hitv vlo vhi (5 : Int32) vb5 vc)) + (hitv vlo vhi (6 : Int32) vb6 vc)) + (hitv vlo vhi (7 : Int32) vb7 vc))] [(.int 1)]) _ _ _
    exact zretZ X45 hx hby at_313 hret hlk (by simp) rfl (by decide) (by decide) ⟨rfl, N26⟩
  · rw [q27]
    refine zaaload X26 hx hby at_180 hZ e26 rfl A26_b20.lst (by decide) (v := (.ref w_UTF_8)) rfl (zastore X26 hx hby at_181 (hv := rfl) (L' := #[.val (.long p1), .second, iv p2, iv p3, iv p4, iv p5, iv p6, iv vc, iv vc, rv b1, iv vf, iv vt, iv vlo, iv vhi, rv b20, rv w_UTF_8, .unset]) rfl (zaload X26 hx hby at_183 rfl rfl (ziconst X26 hx hby at_185 (z := (0 : Int32)) rfl (ziload X26 hx hby at_186 rfl (ziload X26 hx hby at_188 rfl (ziload X26 hx hby at_190 rfl (zcalls X26 hx hby at_192 hZ hown (w25 hw) (w26 hw) (w3 hw) (w27 hw) e26 (c21_hit l hw [] ⟨S_w_ONE_CHAR_A_BYTE, S_w_ASCII, S_w_UTF_8, E_w_ONE_CHAR_A_BYTE, E_w_ASCII, E_w_UTF_8⟩ O26 (Nat.le_trans Z0 K26.1) vlo vhi vc b1 vb0 vb1 vb2 vb3 vb4 vb5 vb6 vb7 g1 A26_b1 k8) (by decide) (by rw [hml]; rfl) 0 (Nat.le_of_eq rfl) (by decide) (by decide) (by decide) (by decide) pd_2 rfl (argsL := [(.ref b1), (.int 0), (.int vlo), (.int vhi), (.int vc)]) (st := []) rfl (zpureK ⟨rfl, rfl⟩ fun T46 X46 e46 => ?_))))))))
    show zEnds p e below s T46 (mkF m 195 #[.val (.long p1), .second, iv p2, iv p3, iv p4, iv p5, iv p6, iv vc, iv vc, rv b1, iv vf, iv vt, iv vlo, iv vhi, rv b20, rv w_UTF_8, .unset] [(.int (hitv vlo vhi (0 : Int32) vb0 vc))]) _ _ _
    refine zaload X46 hx hby at_195 rfl rfl (ziconst X46 hx hby at_197 (z := (1 : Int32)) rfl (ziload X46 hx hby at_198 rfl (ziload X46 hx hby at_200 rfl (ziload X46 hx hby at_202 rfl (zcalls X46 hx hby at_204 hZ hown (w25 hw) (w26 hw) (w3 hw) (w27 hw) e46 (c23_hit l hw [] ⟨S_w_ONE_CHAR_A_BYTE, S_w_ASCII, S_w_UTF_8, E_w_ONE_CHAR_A_BYTE, E_w_ASCII, E_w_UTF_8⟩ O26 (Nat.le_trans Z0 K26.1) vlo vhi vc b1 vb0 vb1 vb2 vb3 vb4 vb5 vb6 vb7 g1 A26_b1 k8) (by decide) (by rw [hml]; rfl) 1 (Nat.le_of_eq rfl) (by decide) (by decide) (by decide) (by decide) pd_2 rfl (argsL := [(.ref b1), (.int 1), (.int vlo), (.int vhi), (.int vc)]) (st := [(.int (hitv vlo vhi (0 : Int32) vb0 vc))]) rfl (zpureK ⟨rfl, rfl⟩ fun T47 X47 e47 => ?_))))))
    show zEnds p e below s T47 (mkF m 207 #[.val (.long p1), .second, iv p2, iv p3, iv p4, iv p5, iv p6, iv vc, iv vc, rv b1, iv vf, iv vt, iv vlo, iv vhi, rv b20, rv w_UTF_8, .unset] [(.int (hitv vlo vhi (1 : Int32) vb1 vc)), (.int (hitv vlo vhi (0 : Int32) vb0 vc))]) _ _ _
    refine ziadd X47 hx hby at_207 ((hitv vlo vhi (0 : Int32) vb0 vc) + (hitv vlo vhi (1 : Int32) vb1 vc)) rfl (zaload X47 hx hby at_208 rfl rfl (ziconst X47 hx hby at_210 (z := (2 : Int32)) rfl (ziload X47 hx hby at_211 rfl (ziload X47 hx hby at_213 rfl (ziload X47 hx hby at_215 rfl (zcalls X47 hx hby at_217 hZ hown (w25 hw) (w26 hw) (w3 hw) (w27 hw) e47 (c25_hit l hw [] ⟨S_w_ONE_CHAR_A_BYTE, S_w_ASCII, S_w_UTF_8, E_w_ONE_CHAR_A_BYTE, E_w_ASCII, E_w_UTF_8⟩ O26 (Nat.le_trans Z0 K26.1) vlo vhi vc b1 vb0 vb1 vb2 vb3 vb4 vb5 vb6 vb7 g1 A26_b1 k8) (by decide) (by rw [hml]; rfl) 1 (Nat.le_of_eq rfl) (by decide) (by decide) (by decide) (by decide) pd_2 rfl (argsL := [(.ref b1), (.int 2), (.int vlo), (.int vhi), (.int vc)]) (st := [(.int ((hitv vlo vhi (0 : Int32) vb0 vc) + (hitv vlo vhi (1 : Int32) vb1 vc)))]) rfl (zpureK ⟨rfl, rfl⟩ fun T48 X48 e48 => ?_)))))))
    show zEnds p e below s T48 (mkF m 220 #[.val (.long p1), .second, iv p2, iv p3, iv p4, iv p5, iv p6, iv vc, iv vc, rv b1, iv vf, iv vt, iv vlo, iv vhi, rv b20, rv w_UTF_8, .unset] [(.int (hitv vlo vhi (2 : Int32) vb2 vc)), (.int ((hitv vlo vhi (0 : Int32) vb0 vc) + (hitv vlo vhi (1 : Int32) vb1 vc)))]) _ _ _
    refine ziadd X48 hx hby at_220 (((hitv vlo vhi (0 : Int32) vb0 vc) + (hitv vlo vhi (1 : Int32) vb1 vc)) + (hitv vlo vhi (2 : Int32) vb2 vc)) rfl (zaload X48 hx hby at_221 rfl rfl (ziconst X48 hx hby at_223 (z := (3 : Int32)) rfl (ziload X48 hx hby at_224 rfl (ziload X48 hx hby at_226 rfl (ziload X48 hx hby at_228 rfl (zcalls X48 hx hby at_230 hZ hown (w25 hw) (w26 hw) (w3 hw) (w27 hw) e48 (c27_hit l hw [] ⟨S_w_ONE_CHAR_A_BYTE, S_w_ASCII, S_w_UTF_8, E_w_ONE_CHAR_A_BYTE, E_w_ASCII, E_w_UTF_8⟩ O26 (Nat.le_trans Z0 K26.1) vlo vhi vc b1 vb0 vb1 vb2 vb3 vb4 vb5 vb6 vb7 g1 A26_b1 k8) (by decide) (by rw [hml]; rfl) 1 (Nat.le_of_eq rfl) (by decide) (by decide) (by decide) (by decide) pd_2 rfl (argsL := [(.ref b1), (.int 3), (.int vlo), (.int vhi), (.int vc)]) (st := [(.int (((hitv vlo vhi (0 : Int32) vb0 vc) + (hitv vlo vhi (1 : Int32) vb1 vc)) + (hitv vlo vhi (2 : Int32) vb2 vc)))]) rfl (zpureK ⟨rfl, rfl⟩ fun T49 X49 e49 => ?_)))))))
    show zEnds p e below s T49 (mkF m 233 #[.val (.long p1), .second, iv p2, iv p3, iv p4, iv p5, iv p6, iv vc, iv vc, rv b1, iv vf, iv vt, iv vlo, iv vhi, rv b20, rv w_UTF_8, .unset] [(.int (hitv vlo vhi (3 : Int32) vb3 vc)), (.int (((hitv vlo vhi (0 : Int32) vb0 vc) + (hitv vlo vhi (1 : Int32) vb1 vc)) + (hitv vlo vhi (2 : Int32) vb2 vc)))]) _ _ _
    refine ziadd X49 hx hby at_233 ((((hitv vlo vhi (0 : Int32) vb0 vc) + (hitv vlo vhi (1 : Int32) vb1 vc)) + (hitv vlo vhi (2 : Int32) vb2 vc)) + (hitv vlo vhi (3 : Int32) vb3 vc)) rfl (zaload X49 hx hby at_234 rfl rfl (ziconst X49 hx hby at_236 (z := (4 : Int32)) rfl (ziload X49 hx hby at_237 rfl (ziload X49 hx hby at_239 rfl (ziload X49 hx hby at_241 rfl (zcalls X49 hx hby at_243 hZ hown (w25 hw) (w26 hw) (w3 hw) (w27 hw) e49 (c29_hit l hw [] ⟨S_w_ONE_CHAR_A_BYTE, S_w_ASCII, S_w_UTF_8, E_w_ONE_CHAR_A_BYTE, E_w_ASCII, E_w_UTF_8⟩ O26 (Nat.le_trans Z0 K26.1) vlo vhi vc b1 vb0 vb1 vb2 vb3 vb4 vb5 vb6 vb7 g1 A26_b1 k8) (by decide) (by rw [hml]; rfl) 1 (Nat.le_of_eq rfl) (by decide) (by decide) (by decide) (by decide) pd_2 rfl (argsL := [(.ref b1), (.int 4), (.int vlo), (.int vhi), (.int vc)]) (st := [(.int ((((hitv vlo vhi (0 : Int32) vb0 vc) + (hitv vlo vhi (1 : Int32) vb1 vc)) + (hitv vlo vhi (2 : Int32) vb2 vc)) + (hitv vlo vhi (3 : Int32) vb3 vc)))]) rfl (zpureK ⟨rfl, rfl⟩ fun T50 X50 e50 => ?_)))))))
    show zEnds p e below s T50 (mkF m 246 #[.val (.long p1), .second, iv p2, iv p3, iv p4, iv p5, iv p6, iv vc, iv vc, rv b1, iv vf, iv vt, iv vlo, iv vhi, rv b20, rv w_UTF_8, .unset] [(.int (hitv vlo vhi (4 : Int32) vb4 vc)), (.int ((((hitv vlo vhi (0 : Int32) vb0 vc) + (hitv vlo vhi (1 : Int32) vb1 vc)) + (hitv vlo vhi (2 : Int32) vb2 vc)) + (hitv vlo vhi (3 : Int32) vb3 vc)))]) _ _ _
    refine ziadd X50 hx hby at_246 (((((hitv vlo vhi (0 : Int32) vb0 vc) + (hitv vlo vhi (1 : Int32) vb1 vc)) + (hitv vlo vhi (2 : Int32) vb2 vc)) + (hitv vlo vhi (3 : Int32) vb3 vc)) + (hitv vlo vhi (4 : Int32) vb4 vc)) rfl (zaload X50 hx hby at_247 rfl rfl (ziconst X50 hx hby at_249 (z := (5 : Int32)) rfl (ziload X50 hx hby at_250 rfl (ziload X50 hx hby at_252 rfl (ziload X50 hx hby at_254 rfl (zcalls X50 hx hby at_256 hZ hown (w25 hw) (w26 hw) (w3 hw) (w27 hw) e50 (c31_hit l hw [] ⟨S_w_ONE_CHAR_A_BYTE, S_w_ASCII, S_w_UTF_8, E_w_ONE_CHAR_A_BYTE, E_w_ASCII, E_w_UTF_8⟩ O26 (Nat.le_trans Z0 K26.1) vlo vhi vc b1 vb0 vb1 vb2 vb3 vb4 vb5 vb6 vb7 g1 A26_b1 k8) (by decide) (by rw [hml]; rfl) 1 (Nat.le_of_eq rfl) (by decide) (by decide) (by decide) (by decide) pd_2 rfl (argsL := [(.ref b1), (.int 5), (.int vlo), (.int vhi), (.int vc)]) (st := [(.int (((((hitv vlo vhi (0 : Int32) vb0 vc) + (hitv vlo vhi (1 : Int32) vb1 vc)) + (hitv vlo vhi (2 : Int32) vb2 vc)) + (hitv vlo vhi (3 : Int32) vb3 vc)) + (hitv vlo vhi (4 : Int32) vb4 vc)))]) rfl (zpureK ⟨rfl, rfl⟩ fun T51 X51 e51 => ?_)))))))
    show zEnds p e below s T51 (mkF m 259 #[.val (.long p1), .second, iv p2, iv p3, iv p4, iv p5, iv p6, iv vc, iv vc, rv b1, iv vf, iv vt, iv vlo, iv vhi, rv b20, rv w_UTF_8, .unset] [(.int (hitv vlo vhi (5 : Int32) vb5 vc)), (.int (((((hitv vlo vhi (0 : Int32) vb0 vc) + (hitv vlo vhi (1 : Int32) vb1 vc)) + (hitv vlo vhi (2 : Int32) vb2 vc)) + (hitv vlo vhi (3 : Int32) vb3 vc)) + (hitv vlo vhi (4 : Int32) vb4 vc)))]) _ _ _
    refine ziadd X51 hx hby at_259 ((((((hitv vlo vhi (0 : Int32) vb0 vc) + (hitv vlo vhi (1 : Int32) vb1 vc)) + (hitv vlo vhi (2 : Int32) vb2 vc)) + (hitv vlo vhi (3 : Int32) vb3 vc)) + (hitv vlo vhi (4 : Int32) vb4 vc)) + (hitv vlo vhi (5 : Int32) vb5 vc)) rfl (zaload X51 hx hby at_260 rfl rfl (zbipush X51 hx hby at_262 (z := (6 : Int32)) rfl (ziload X51 hx hby at_264 rfl (ziload X51 hx hby at_266 rfl (ziload X51 hx hby at_268 rfl (zcalls X51 hx hby at_270 hZ hown (w25 hw) (w26 hw) (w3 hw) (w27 hw) e51 (c33_hit l hw [] ⟨S_w_ONE_CHAR_A_BYTE, S_w_ASCII, S_w_UTF_8, E_w_ONE_CHAR_A_BYTE, E_w_ASCII, E_w_UTF_8⟩ O26 (Nat.le_trans Z0 K26.1) vlo vhi vc b1 vb0 vb1 vb2 vb3 vb4 vb5 vb6 vb7 g1 A26_b1 k8) (by decide) (by rw [hml]; rfl) 1 (Nat.le_of_eq rfl) (by decide) (by decide) (by decide) (by decide) pd_2 rfl (argsL := [(.ref b1), (.int 6), (.int vlo), (.int vhi), (.int vc)]) (st := [(.int ((((((hitv vlo vhi (0 : Int32) vb0 vc) + (hitv vlo vhi (1 : Int32) vb1 vc)) + (hitv vlo vhi (2 : Int32) vb2 vc)) + (hitv vlo vhi (3 : Int32) vb3 vc)) + (hitv vlo vhi (4 : Int32) vb4 vc)) + (hitv vlo vhi (5 : Int32) vb5 vc)))]) rfl (zpureK ⟨rfl, rfl⟩ fun T52 X52 e52 => ?_)))))))
    show zEnds p e below s T52 (mkF m 273 #[.val (.long p1), .second, iv p2, iv p3, iv p4, iv p5, iv p6, iv vc, iv vc, rv b1, iv vf, iv vt, iv vlo, iv vhi, rv b20, rv w_UTF_8, .unset] [(.int (hitv vlo vhi (6 : Int32) vb6 vc)), (.int ((((((hitv vlo vhi (0 : Int32) vb0 vc) + (hitv vlo vhi (1 : Int32) vb1 vc)) + (hitv vlo vhi (2 : Int32) vb2 vc)) + (hitv vlo vhi (3 : Int32) vb3 vc)) + (hitv vlo vhi (4 : Int32) vb4 vc)) + (hitv vlo vhi (5 : Int32) vb5 vc)))]) _ _ _
    refine ziadd X52 hx hby at_273 (((((((hitv vlo vhi (0 : Int32) vb0 vc) + (hitv vlo vhi (1 : Int32) vb1 vc)) + (hitv vlo vhi (2 : Int32) vb2 vc)) + (hitv vlo vhi (3 : Int32) vb3 vc)) + (hitv vlo vhi (4 : Int32) vb4 vc)) + (hitv vlo vhi (5 : Int32) vb5 vc)) + (hitv vlo vhi (6 : Int32) vb6 vc)) rfl (zaload X52 hx hby at_274 rfl rfl (zbipush X52 hx hby at_276 (z := (7 : Int32)) rfl (ziload X52 hx hby at_278 rfl (ziload X52 hx hby at_280 rfl (ziload X52 hx hby at_282 rfl (zcalls X52 hx hby at_284 hZ hown (w25 hw) (w26 hw) (w3 hw) (w27 hw) e52 (c35_hit l hw [] ⟨S_w_ONE_CHAR_A_BYTE, S_w_ASCII, S_w_UTF_8, E_w_ONE_CHAR_A_BYTE, E_w_ASCII, E_w_UTF_8⟩ O26 (Nat.le_trans Z0 K26.1) vlo vhi vc b1 vb0 vb1 vb2 vb3 vb4 vb5 vb6 vb7 g1 A26_b1 k8) (by decide) (by rw [hml]; rfl) 1 (Nat.le_of_eq rfl) (by decide) (by decide) (by decide) (by decide) pd_2 rfl (argsL := [(.ref b1), (.int 7), (.int vlo), (.int vhi), (.int vc)]) (st := [(.int (((((((hitv vlo vhi (0 : Int32) vb0 vc) + (hitv vlo vhi (1 : Int32) vb1 vc)) + (hitv vlo vhi (2 : Int32) vb2 vc)) + (hitv vlo vhi (3 : Int32) vb3 vc)) + (hitv vlo vhi (4 : Int32) vb4 vc)) + (hitv vlo vhi (5 : Int32) vb5 vc)) + (hitv vlo vhi (6 : Int32) vb6 vc)))]) rfl (zpureK ⟨rfl, rfl⟩ fun T53 X53 e53 => ?_)))))))
    show zEnds p e below s T53 (mkF m 287 #[.val (.long p1), .second, iv p2, iv p3, iv p4, iv p5, iv p6, iv vc, iv vc, rv b1, iv vf, iv vt, iv vlo, iv vhi, rv b20, rv w_UTF_8, .unset] [(.int (hitv vlo vhi (7 : Int32) vb7 vc)), (.int (((((((hitv vlo vhi (0 : Int32) vb0 vc) + (hitv vlo vhi (1 : Int32) vb1 vc)) + (hitv vlo vhi (2 : Int32) vb2 vc)) + (hitv vlo vhi (3 : Int32) vb3 vc)) + (hitv vlo vhi (4 : Int32) vb4 vc)) + (hitv vlo vhi (5 : Int32) vb5 vc)) + (hitv vlo vhi (6 : Int32) vb6 vc)))]) _ _ _
    refine ziadd X53 hx hby at_287 ((((((((hitv vlo vhi (0 : Int32) vb0 vc) + (hitv vlo vhi (1 : Int32) vb1 vc)) + (hitv vlo vhi (2 : Int32) vb2 vc)) + (hitv vlo vhi (3 : Int32) vb3 vc)) + (hitv vlo vhi (4 : Int32) vb4 vc)) + (hitv vlo vhi (5 : Int32) vb5 vc)) + (hitv vlo vhi (6 : Int32) vb6 vc)) + (hitv vlo vhi (7 : Int32) vb7 vc)) rfl (zistore X53 hx hby at_288 (L' := #[.val (.long p1), .second, iv p2, iv p3, iv p4, iv p5, iv p6, iv vc, iv vc, rv b1, iv vf, iv vt, iv vlo, iv vhi, rv b20, rv w_UTF_8, iv ((((((((hitv vlo vhi (0 : Int32) vb0 vc) + (hitv vlo vhi (1 : Int32) vb1 vc)) + (hitv vlo vhi (2 : Int32) vb2 vc)) + (hitv vlo vhi (3 : Int32) vb3 vc)) + (hitv vlo vhi (4 : Int32) vb4 vc)) + (hitv vlo vhi (5 : Int32) vb5 vc)) + (hitv vlo vhi (6 : Int32) vb6 vc)) + (hitv vlo vhi (7 : Int32) vb7 vc))]) rfl (zaload X53 hx hby at_290 rfl rfl (zaload X53 hx hby at_292 rfl rfl (ziload X53 hx hby at_294 rfl (ziload X53 hx hby at_296 rfl (ziload X53 hx hby at_298 rfl (zcallv X53 hx hby at_300 hZ hown (w28 hw) (w29 hw) (notFace_of_selects (args := #[]) (mvT hZ (w33 hw))) (w33 hw) (w30 hw) (w32 hw) (w16 hw) e53 (E_w_UTF_8.ext O26.2) (c37_count l hw [] ⟨S_w_ONE_CHAR_A_BYTE, S_w_ASCII, S_w_UTF_8, E_w_ONE_CHAR_A_BYTE, E_w_ASCII, E_w_UTF_8⟩ O26 (Nat.le_trans Z0 K26.1) w_UTF_8 vlo vhi vc b1 vb0 vb1 vb2 vb3 vb4 vb5 vb6 vb7 g1 A26_b1 k8 kL) (by decide) (by rw [hml]; rfl) 0 (Nat.le_of_eq rfl) (by decide) (by decide) (by decide) (by decide) pd_3 rfl (argsL := [(.ref b1), (.int vlo), (.int vhi), (.int vc)]) (st := []) rfl (zpureK ⟨rfl, rfl⟩ fun T54 X54 e54 => ?_))))))))
    show zEnds p e below s T54 (mkF m 303 #[.val (.long p1), .second, iv p2, iv p3, iv p4, iv p5, iv p6, iv vc, iv vc, rv b1, iv vf, iv vt, iv vlo, iv vhi, rv b20, rv w_UTF_8, iv ((((((((hitv vlo vhi (0 : Int32) vb0 vc) + (hitv vlo vhi (1 : Int32) vb1 vc)) + (hitv vlo vhi (2 : Int32) vb2 vc)) + (hitv vlo vhi (3 : Int32) vb3 vc)) + (hitv vlo vhi (4 : Int32) vb4 vc)) + (hitv vlo vhi (5 : Int32) vb5 vc)) + (hitv vlo vhi (6 : Int32) vb6 vc)) + (hitv vlo vhi (7 : Int32) vb7 vc))] [(.int (cntv vlo vhi vc vb0 vb1 vb2 vb3 vb4 vb5 vb6 vb7))]) _ _ _
    refine ziload X54 hx hby at_303 rfl ?_
    show zEnds p e below s T54 (mkF m 305 #[.val (.long p1), .second, iv p2, iv p3, iv p4, iv p5, iv p6, iv vc, iv vc, rv b1, iv vf, iv vt, iv vlo, iv vhi, rv b20, rv w_UTF_8, iv ((((((((hitv vlo vhi (0 : Int32) vb0 vc) + (hitv vlo vhi (1 : Int32) vb1 vc)) + (hitv vlo vhi (2 : Int32) vb2 vc)) + (hitv vlo vhi (3 : Int32) vb3 vc)) + (hitv vlo vhi (4 : Int32) vb4 vc)) + (hitv vlo vhi (5 : Int32) vb5 vc)) + (hitv vlo vhi (6 : Int32) vb6 vc)) + (hitv vlo vhi (7 : Int32) vb7 vc))] [(.int ((((((((hitv vlo vhi (0 : Int32) vb0 vc) + (hitv vlo vhi (1 : Int32) vb1 vc)) + (hitv vlo vhi (2 : Int32) vb2 vc)) + (hitv vlo vhi (3 : Int32) vb3 vc)) + (hitv vlo vhi (4 : Int32) vb4 vc)) + (hitv vlo vhi (5 : Int32) vb5 vc)) + (hitv vlo vhi (6 : Int32) vb6 vc)) + (hitv vlo vhi (7 : Int32) vb7 vc))), (.int (cntv vlo vhi vc vb0 vb1 vb2 vb3 vb4 vb5 vb6 vb7))]) _ _ _
    have hh : (cntv vlo vhi vc vb0 vb1 vb2 vb3 vb4 vb5 vb6 vb7) = ((((((((hitv vlo vhi (0 : Int32) vb0 vc) + (hitv vlo vhi (1 : Int32) vb1 vc)) + (hitv vlo vhi (2 : Int32) vb2 vc)) + (hitv vlo vhi (3 : Int32) vb3 vc)) + (hitv vlo vhi (4 : Int32) vb4 vc)) + (hitv vlo vhi (5 : Int32) vb5 vc)) + (hitv vlo vhi (6 : Int32) vb6 vc)) + (hitv vlo vhi (7 : Int32) vb7 vc)) := own_sum _ _ _ kL kc hb0 hb1 hb2 hb3 hb4 hb5 hb6 hb7
    refine zicmpNo X54 hx hby at_305 (teq hh).2 (ziconst X54 hx hby at_308 (z := (1 : Int32)) rfl (zgoto X54 hx hby at_309 313 (by decide) (by decide) ?_))
    show zEnds p e below s T54 (mkF m 313 #[.val (.long p1), .second, iv p2, iv p3, iv p4, iv p5, iv p6, iv vc, iv vc, rv b1, iv vf, iv vt, iv vlo, iv vhi, rv b20, rv w_UTF_8, iv ((((((((hitv vlo vhi (0 : Int32) vb0 vc) + (hitv vlo vhi (1 : Int32) vb1 vc)) + (hitv vlo vhi (2 : Int32) vb2 vc)) + (hitv vlo vhi (3 : Int32) vb3 vc)) + (hitv vlo vhi (4 : Int32) vb4 vc)) + (hitv vlo vhi (5 : Int32) vb5 vc)) + (hitv vlo vhi (6 : Int32) vb6 vc)) + (hitv vlo vhi (7 : Int32) vb7 vc))] [(.int 1)]) _ _ _
    exact zretZ X54 hx hby at_313 hret hlk (by simp) rfl (by decide) (by decide) ⟨rfl, N26⟩
set_option maxRecDepth 65536 in
set_option maxHeartbeats 40000000 in
theorem comes_1 {Post : Tables → Env → Array Value → State → Outcome → State → Prop} (hpost : ∀ tb e args s v u, (limb_1_1.after args s (.returned v) u = true ∧ limb_1_2.after args s (.returned v) u = true ∧ True) → FrameEnd s (.returned v) u (Jvm.fieldLocs frame_1_writes args s ++ Jvm.arrayLocs frame_1_arrays args s ++ Jvm.staticLocs frame_1_statics s) 16 128 → Post tb e args s (.returned v) u) :
    ArmFor flags0 classFile x code maxLocals ret World_1 tables_1 room_1 Calls_1 rest_1 Pre_1 Post := by
  intro l hfl _ _ p e ha hc hk s m args below hf hA hF happ hP
  obtain ⟨hcalls, hrest, hpre⟩ := hP
  obtain ⟨-, -, -, hnamed, -, -, -, hat⟩ := (Spec.applies_iff hf).mp happ
  obtain ⟨hg, hn⟩ := and_e (Cond.before_iff.mp (show (Jvm.Cond.and given_1 narrow_1).before args s = true from hpre))
  obtain ⟨gc, hg⟩ := and_e hg
  obtain ⟨g0, hg⟩ := and_e hg
  obtain ⟨g1, hg⟩ := and_e hg
  obtain ⟨g2, hg⟩ := and_e hg
  obtain ⟨g3, hg⟩ := and_e hg
  obtain ⟨g4, hg⟩ := and_e hg
  obtain ⟨u0, u1, u2, u3, u4, u5, rfl⟩ : ∃ u0 u1 u2 u3 u4 u5 : Value, args = #[u0, u1, u2, u3, u4, u5] := by
    have hs : args.size = 6 := by simpa [Cond.value, given_1] using gc
    obtain ⟨L⟩ := args
    match L, hs with
    | [u0, u1, u2, u3, u4, u5], _ => exact ⟨u0, u1, u2, u3, u4, u5, rfl⟩
  obtain ⟨i0, ei0⟩ := isL_v g0
  obtain rfl : u0 = (.long i0) := Option.some.inj ei0
  obtain ⟨i1, ei1⟩ := is_v g1
  obtain rfl : u1 = (.int i1) := Option.some.inj ei1
  obtain ⟨i2, ei2⟩ := is_v g2
  obtain rfl : u2 = (.int i2) := Option.some.inj ei2
  obtain ⟨i3, ei3⟩ := is_v g3
  obtain rfl : u3 = (.int i3) := Option.some.inj ei3
  obtain ⟨i4, ei4⟩ := is_v g4
  obtain rfl : u4 = (.int i4) := Option.some.inj ei4
  obtain ⟨i5, ei5⟩ := is_v hg
  obtain rfl : u5 = (.int i5) := Option.some.inj ei5
  have hw := fun d (hd : d ∈ tables_1) => atoms_spec (ws := Jvm.Cond.code x code maxLocals ret :: tables_1) hat d (List.mem_cons_of_mem _ hd)
  obtain ⟨n1, n2⟩ := and_e hn
  obtain ⟨n3, n4⟩ := and_e n2
  obtain ⟨w_ONE_CHAR_A_BYTE, v_w_ONE_CHAR_A_BYTE⟩ := exa_v n1
  have E_w_ONE_CHAR_A_BYTE := Exa.start v_w_ONE_CHAR_A_BYTE n1
  have S_w_ONE_CHAR_A_BYTE := Sta.start v_w_ONE_CHAR_A_BYTE (Or.inr ⟨(w16 hw), (w17 hw)⟩)
  obtain ⟨w_ASCII, v_w_ASCII⟩ := exa_v n3
  have E_w_ASCII := Exa.start v_w_ASCII n3
  have S_w_ASCII := Sta.start v_w_ASCII (Or.inr ⟨(w16 hw), (w20 hw)⟩)
  obtain ⟨w_UTF_8, v_w_UTF_8⟩ := exa_v n4
  have E_w_UTF_8 := Exa.start v_w_UTF_8 n4
  have S_w_UTF_8 := Sta.start v_w_UTF_8 (Or.inr ⟨(w16 hw), (w23 hw)⟩)
  obtain ⟨n, o, h1, h2, h3, _, L, rfl, ⟨rfl, N⟩, hq⟩ := rm0 l (Z := s) hw tables_1 (h0 := s.heap) (n0 := s.heap.size) ⟨S_w_ONE_CHAR_A_BYTE, S_w_ASCII, S_w_UTF_8, E_w_ONE_CHAR_A_BYTE, E_w_ASCII, E_w_UTF_8⟩ (Old.start s) (Nat.le_refl _) i0 i1 i2 i3 i4 i5 p e ha hc hk s m _ below hf ((Spec.applies_iff_loose hf).mp happ).1 ⟨rfl, State.Warmed39.refl s, rfl⟩ trivial
  refine ⟨n, _, h1, h2, h3, hpost _ _ _ _ _ _ ⟨Cond.after_iff.mpr rfl, Cond.after_iff.mpr (eq_i res_at (Term.int_eval (1)) rfl), trivial⟩ ⟨hq.1, hq.2.1, (hq.2.2.sift fun y hy => Or.inr (N y hy)).mono (by decide) (by decide)⟩⟩
theorem main_1_1 : Claimed_1_1 := comes_1 fun _ _ _ _ _ _ h hF => ⟨h.1, hF⟩
theorem main_1_2 : Claimed_1_2 := comes_1 fun _ _ _ _ _ _ h hF => ⟨h.2.1, hF⟩
end Jvm.Pilot.@@N@@
namespace Jvm.Pilot.@@N@@
open Jvm Jvm.ClassFile Sem Op Lib Jvm.Free Jvm.Stand Jvm.Pilot.@@N@@.Jvm.D
/-! MADE BY PROGRAM (witnessworld.py) out of the Statement's table words and the real class files: 17 classes; the members and pool entries that the words name. The judged class is class 1, her method 1. -/
namespace start1
open Jvm.ClassFile
def u (s : String) : CpInfo := .utf8 (stringToUtf16 s)
/-- a pool by its gaps: so many unusable entries, then the entry; so many at the end -/
def gap : Nat → List CpInfo → List CpInfo
  | 0, r => r
  | n + 1, r => .unusable :: gap n r
def poolList (es : List (Nat × CpInfo)) (last : Nat) : List CpInfo := es.foldr (fun e r => gap e.1 (e.2 :: r)) (gap last [])
def pool (es : List (Nat × CpInfo)) (last : Nat) : Array CpInfo := ⟨poolList es last⟩
def fileOf (pool : Array CpInfo) (this : Nat) (attrs : Array Attribute := #[]) (ms : Array MethodInfo := #[]) (fl : Nat := 33) (sup : Nat := 0) (ifs : Array Nat := #[]) (fds : Array FieldInfo := #[]) : ClassFile where
  minorVersion := 0
  majorVersion := 65
  constantPool := pool
  accessFlags := fl
  thisClass := this
  superClass := sup
  interfaces := ifs
  fields := fds
  methods := ms
  attributes := attrs
def plain (name : String) (sup : Option ClassId) : Class where
  name := name
  kind := .ordinary
  loader := none
  accessFlags := 33
  super := sup
  interfaces := #[]
  cf := none
  fields := #[]
  methods := #[]
  instanceTypes := #[]
  staticTypes := #[]
  resolved := #[]
  callSites := []
  init := .initialized
  statics := none
  mirror := none

def pool0 : Array CpInfo := pool [(5, u "<init>"), (0, u "()V"), (1, .class_ 10), (1, u "java/lang/Object")] 113

def k0m0 : Method := { name := "<init>", desc := "()V", sig := { parameters := [], returnType := none }, accessFlags := 1, code := none }
/-- java/lang/Object -/
def k0 : Class := { plain "java/lang/Object" none with
  accessFlags := 33
  interfaces := #[]
  cf := some (fileOf pool0 8 #[] #[{ accessFlags := 1, nameIndex := 5, descriptorIndex := 6, attributes := #[] }] 33 0 #[] #[])
  fields := #[]
  methods := #[k0m0]
  instanceTypes := #[]
  staticTypes := #[]
  resolved := Array.replicate 124 none
  statics := none }

def pool1 : Array CpInfo := pool [(2, .class_ 4), (1, u "java/lang/Object"), (0, u "<init>"), (0, u "()V"), (0, .methodref 8 9), (0, .class_ 10), (0, .nameAndType 11 12), (0, u "com/example/kakehashi/kakehashi/message/ReadingCountPinLaw"), (0, u "bt"), (0, u "(JIII)B"), (0, .integer 2147483647), (0, .methodref 15 16), (0, .class_ 17), (0, .nameAndType 18 19), (0, u "java/lang/Math"), (0, u "min"), (0, u "(II)I"), (0, .methodref 15 21), (0, .nameAndType 22 19), (0, u "max"), (0, .class_ 24), (0, u "com/example/kakehashi/kakehashi/message/Reading"), (0, .fieldref 23 26), (0, .nameAndType 27 28), (0, u "ONE_CHAR_A_BYTE"), (0, u "Lcom/example/kakehashi/kakehashi/message/Reading;"), (0, .fieldref 23 30), (0, .nameAndType 31 28), (0, u "ASCII"), (0, .fieldref 23 33), (0, .nameAndType 34 28), (0, u "UTF_8"), (0, .methodref 8 36), (0, .nameAndType 37 38), (0, u "hit"), (0, u "([BIIII)I"), (0, .methodref 23 40), (0, .nameAndType 41 42), (0, u "count"), (0, u "([BIIC)I"), (2, u "law"), (0, u "(JIIIII)Z")] 7

def k1m0 : Method := { name := "<init>", desc := "()V", sig := { parameters := [], returnType := none }, accessFlags := 1, code := none }
def k1c1 : Code := { maxStack := 8, maxLocals := 17, code := code, exceptionTable := #[], attributes := #[] }
def k1m1 : Method := { name := "law", desc := "(JIIIII)Z", sig := { parameters := [.long, .int, .int, .int, .int, .int], returnType := some .boolean }, accessFlags := 9, code := some k1c1 }
def k1c2 : Code := { maxStack := 4, maxLocals := 5, code := method_3_code, exceptionTable := #[], attributes := #[] }
def k1m2 : Method := { name := "bt", desc := "(JIII)B", sig := { parameters := [.long, .int, .int, .int], returnType := some .byte }, accessFlags := 10, code := some k1c2 }
def k1c3 : Code := { maxStack := 2, maxLocals := 5, code := method_4_code, exceptionTable := #[], attributes := #[] }
def k1m3 : Method := { name := "hit", desc := "([BIIII)I", sig := { parameters := [(.array .byte), .int, .int, .int, .int], returnType := some .int }, accessFlags := 10, code := some k1c3 }
/-- com/example/kakehashi/kakehashi/message/ReadingCountPinLaw -/
def k1 : Class := { plain "com/example/kakehashi/kakehashi/message/ReadingCountPinLaw" (some 0) with
  accessFlags := 49
  interfaces := #[]
  cf := some (fileOf pool1 8 #[] #[{ accessFlags := 1, nameIndex := 5, descriptorIndex := 6, attributes := #[] }, { accessFlags := 9, nameIndex := 45, descriptorIndex := 46, attributes := #[] }, { accessFlags := 10, nameIndex := 11, descriptorIndex := 12, attributes := #[] }, { accessFlags := 10, nameIndex := 37, descriptorIndex := 38, attributes := #[] }] 49 2 #[] #[])
  fields := #[]
  methods := #[k1m0, k1m1, k1m2, k1m3]
  instanceTypes := #[]
  staticTypes := #[]
  resolved := Array.replicate 54 none
  statics := none }

def pool2 : Array CpInfo := pool [(1, .class_ 2), (0, u "java/lang/Math"), (1, .class_ 6), (1, u "java/lang/Object"), (0, u "<init>"), (0, u "()V"), (89, .class_ 100), (1, u "java/lang/Math$RandomNumberGeneratorHolder"), (71, u "negativeZeroFloatBits"), (0, u "J"), (2, u "negativeZeroDoubleBits"), (21, u "max"), (2, u "min"), (43, u "$assertionsDisabled"), (0, u "Z"), (88, u "(II)I"), (2, u "twoToTheDoubleScaleDown"), (0, u "D"), (4, u "twoToTheDoubleScaleUp"), (9, u "E"), (3, u "PI"), (2, u "TAU"), (2, u "DEGREES_TO_RADIANS"), (0, u "RADIANS_TO_DEGREES")] 94

def k2m0 : Method := { name := "<init>", desc := "()V", sig := { parameters := [], returnType := none }, accessFlags := 2, code := none }
def k2c1 : Code := { maxStack := 2, maxLocals := 2, code := jdk_29_method_65_code, exceptionTable := #[], attributes := #[] }
def k2m1 : Method := { name := "max", desc := "(II)I", sig := { parameters := [.int, .int], returnType := some .int }, accessFlags := 9, code := some k2c1 }
def k2c2 : Code := { maxStack := 2, maxLocals := 2, code := jdk_29_method_69_code, exceptionTable := #[], attributes := #[] }
def k2m2 : Method := { name := "min", desc := "(II)I", sig := { parameters := [.int, .int], returnType := some .int }, accessFlags := 9, code := some k2c2 }
/-- java/lang/Math -/
def k2 : Class := { plain "java/lang/Math" (some 0) with
  accessFlags := 49
  interfaces := #[]
  cf := some (fileOf pool2 1 #[.nestMembers #[98]] #[{ accessFlags := 2, nameIndex := 7, descriptorIndex := 8, attributes := #[] }, { accessFlags := 9, nameIndex := 198, descriptorIndex := 335, attributes := #[] }, { accessFlags := 9, nameIndex := 201, descriptorIndex := 335, attributes := #[] }] 49 4 #[] #[{ accessFlags := 25, nameIndex := 354, descriptorIndex := 339, attributes := #[] }, { accessFlags := 25, nameIndex := 358, descriptorIndex := 339, attributes := #[] }, { accessFlags := 25, nameIndex := 361, descriptorIndex := 339, attributes := #[] }, { accessFlags := 26, nameIndex := 364, descriptorIndex := 339, attributes := #[] }, { accessFlags := 26, nameIndex := 365, descriptorIndex := 339, attributes := #[] }, { accessFlags := 26, nameIndex := 172, descriptorIndex := 173, attributes := #[] }, { accessFlags := 26, nameIndex := 176, descriptorIndex := 173, attributes := #[] }, { accessFlags := 8, nameIndex := 344, descriptorIndex := 339, attributes := #[] }, { accessFlags := 8, nameIndex := 338, descriptorIndex := 339, attributes := #[] }, { accessFlags := 4120, nameIndex := 245, descriptorIndex := 246, attributes := #[] }])
  fields := #[{ name := "E", type := .double, accessFlags := 25, slot := 0, constantValue := 0 }, { name := "PI", type := .double, accessFlags := 25, slot := 1, constantValue := 0 }, { name := "TAU", type := .double, accessFlags := 25, slot := 2, constantValue := 0 }, { name := "DEGREES_TO_RADIANS", type := .double, accessFlags := 26, slot := 3, constantValue := 0 }, { name := "RADIANS_TO_DEGREES", type := .double, accessFlags := 26, slot := 4, constantValue := 0 }, { name := "negativeZeroFloatBits", type := .long, accessFlags := 26, slot := 5, constantValue := 0 }, { name := "negativeZeroDoubleBits", type := .long, accessFlags := 26, slot := 6, constantValue := 0 }, { name := "twoToTheDoubleScaleUp", type := .double, accessFlags := 8, slot := 7, constantValue := 0 }, { name := "twoToTheDoubleScaleDown", type := .double, accessFlags := 8, slot := 8, constantValue := 0 }, { name := "$assertionsDisabled", type := .boolean, accessFlags := 4120, slot := 9, constantValue := 0 }]
  methods := #[k2m0, k2m1, k2m2]
  instanceTypes := #[]
  staticTypes := #[.double, .double, .double, .double, .double, .long, .long, .double, .double, .boolean]
  resolved := Array.replicate 460 none
  statics := none }

def pool3 : Array CpInfo := pool [(1, .class_ 2), (0, u "java/lang/constant/Constable"), (0, .class_ 4), (0, u "java/lang/Object")] 6

/-- java/lang/constant/Constable -/
def k3 : Class := { plain "java/lang/constant/Constable" (some 0) with
  accessFlags := 1537
  interfaces := #[]
  cf := some (fileOf pool3 1 #[] #[] 1537 3 #[] #[])
  fields := #[]
  methods := #[]
  instanceTypes := #[]
  staticTypes := #[]
  resolved := Array.replicate 11 none
  statics := none }

def pool4 : Array CpInfo := pool [(1, .class_ 2), (0, u "java/lang/Comparable"), (0, .class_ 4), (0, u "java/lang/Object")] 7

/-- java/lang/Comparable -/
def k4 : Class := { plain "java/lang/Comparable" (some 0) with
  accessFlags := 1537
  interfaces := #[]
  cf := some (fileOf pool4 1 #[] #[] 1537 3 #[] #[])
  fields := #[]
  methods := #[]
  instanceTypes := #[]
  staticTypes := #[]
  resolved := Array.replicate 12 none
  statics := none }

def pool5 : Array CpInfo := pool [(1, .class_ 2), (0, u "java/io/Serializable"), (0, .class_ 4), (0, u "java/lang/Object")] 2

/-- java/io/Serializable -/
def k5 : Class := { plain "java/io/Serializable" (some 0) with
  accessFlags := 1537
  interfaces := #[]
  cf := some (fileOf pool5 1 #[] #[] 1537 3 #[] #[])
  fields := #[]
  methods := #[]
  instanceTypes := #[]
  staticTypes := #[]
  resolved := Array.replicate 7 none
  statics := none }

def pool6 : Array CpInfo := pool [(2, .class_ 4), (1, u "java/lang/Enum"), (0, u "name"), (0, u "Ljava/lang/String;"), (2, u "ordinal"), (0, u "I"), (1, .class_ 14), (1, u "java/lang/Object"), (4, u "hash"), (86, .class_ 108), (1, u "java/lang/Enum$EnumDesc"), (2, .class_ 112), (0, u "java/lang/constant/Constable"), (0, .class_ 114), (0, u "java/lang/Comparable"), (0, .class_ 116), (0, u "java/io/Serializable")] 87

/-- java/lang/Enum -/
def k6 : Class := { plain "java/lang/Enum" (some 0) with
  accessFlags := 1057
  interfaces := #[3, 4, 5]
  cf := some (fileOf pool6 2 #[.nestMembers #[106]] #[] 1057 12 #[111, 113, 115] #[{ accessFlags := 18, nameIndex := 5, descriptorIndex := 6, attributes := #[] }, { accessFlags := 18, nameIndex := 9, descriptorIndex := 10, attributes := #[] }, { accessFlags := 2, nameIndex := 19, descriptorIndex := 10, attributes := #[] }])
  fields := #[{ name := "name", type := (.object "java/lang/String"), accessFlags := 18, slot := 0, constantValue := 0 }, { name := "ordinal", type := .int, accessFlags := 18, slot := 1, constantValue := 0 }, { name := "hash", type := .int, accessFlags := 2, slot := 2, constantValue := 0 }]
  methods := #[]
  instanceTypes := #[(.object "java/lang/String"), .int, .int]
  staticTypes := #[]
  resolved := Array.replicate 204 none
  statics := none }

def pool7 : Array CpInfo := pool [(1, .class_ 2), (0, u "com/example/kakehashi/kakehashi/message/Reading"), (2, u "ONE_CHAR_A_BYTE"), (0, u "Lcom/example/kakehashi/kakehashi/message/Reading;"), (2, u "ASCII"), (2, u "UTF_8"), (2, u "ISO_2022"), (2, u "$VALUES"), (0, u "[Lcom/example/kakehashi/kakehashi/message/Reading;"), (6, .class_ 28), (1, u "java/lang/Enum"), (44, .class_ 74), (0, u "com/example/kakehashi/kakehashi/message/Reading$1"), (2, .class_ 78), (0, u "com/example/kakehashi/kakehashi/message/Reading$2"), (2, .class_ 82), (0, u "com/example/kakehashi/kakehashi/message/Reading$3"), (2, .class_ 86), (0, u "com/example/kakehashi/kakehashi/message/Reading$4"), (6, u "DECODED_AT_A_TIME"), (0, u "I"), (25, u "([BIIC)I"), (0, u "count"), (7, .class_ 130), (0, u "com/example/kakehashi/kakehashi/message/Reading$Characters")] 3

def k7c0 : Code := { maxStack := 2, maxLocals := 7, code := prog_64_method_12_code, exceptionTable := #[], attributes := #[] }
def k7m0 : Method := { name := "count", desc := "([BIIC)I", sig := { parameters := [(.array .byte), .int, .int, .char], returnType := some .int }, accessFlags := 0, code := some k7c0 }
/-- com/example/kakehashi/kakehashi/message/Reading -/
def k7 : Class := { plain "com/example/kakehashi/kakehashi/message/Reading" (some 6) with
  accessFlags := 17440
  interfaces := #[]
  cf := some (fileOf pool7 1 #[.nestMembers #[129, 85, 81, 77, 73]] #[{ accessFlags := 0, nameIndex := 121, descriptorIndex := 120, attributes := #[] }] 17440 26 #[] #[{ accessFlags := 16409, nameIndex := 5, descriptorIndex := 6, attributes := #[] }, { accessFlags := 16409, nameIndex := 9, descriptorIndex := 6, attributes := #[] }, { accessFlags := 16409, nameIndex := 12, descriptorIndex := 6, attributes := #[] }, { accessFlags := 16409, nameIndex := 15, descriptorIndex := 6, attributes := #[] }, { accessFlags := 26, nameIndex := 93, descriptorIndex := 94, attributes := #[] }, { accessFlags := 4122, nameIndex := 18, descriptorIndex := 19, attributes := #[] }])
  fields := #[{ name := "ONE_CHAR_A_BYTE", type := (.object "com/example/kakehashi/kakehashi/message/Reading"), accessFlags := 16409, slot := 0, constantValue := 0 }, { name := "ASCII", type := (.object "com/example/kakehashi/kakehashi/message/Reading"), accessFlags := 16409, slot := 1, constantValue := 0 }, { name := "UTF_8", type := (.object "com/example/kakehashi/kakehashi/message/Reading"), accessFlags := 16409, slot := 2, constantValue := 0 }, { name := "ISO_2022", type := (.object "com/example/kakehashi/kakehashi/message/Reading"), accessFlags := 16409, slot := 3, constantValue := 0 }, { name := "DECODED_AT_A_TIME", type := .int, accessFlags := 26, slot := 4, constantValue := 0 }, { name := "$VALUES", type := (.array (.object "com/example/kakehashi/kakehashi/message/Reading")), accessFlags := 4122, slot := 5, constantValue := 0 }]
  methods := #[k7m0]
  instanceTypes := #[(.object "java/lang/String"), .int, .int]
  staticTypes := #[(.object "com/example/kakehashi/kakehashi/message/Reading"), (.object "com/example/kakehashi/kakehashi/message/Reading"), (.object "com/example/kakehashi/kakehashi/message/Reading"), (.object "com/example/kakehashi/kakehashi/message/Reading"), .int, (.array (.object "com/example/kakehashi/kakehashi/message/Reading"))]
  resolved := Array.replicate 134 none
  statics := some 0 }

def pool8 : Array CpInfo := pool [(2, .class_ 4), (1, u "com/example/kakehashi/kakehashi/message/Reading"), (8, .class_ 14), (0, u "com/example/kakehashi/kakehashi/message/Reading$1")] 12

/-- com/example/kakehashi/kakehashi/message/Reading$1 -/
def k8 : Class := { plain "com/example/kakehashi/kakehashi/message/Reading$1" (some 7) with
  accessFlags := 16432
  interfaces := #[]
  cf := some (fileOf pool8 13 #[.nestHost 2] #[] 16432 2 #[] #[])
  fields := #[]
  methods := #[]
  instanceTypes := #[(.object "java/lang/String"), .int, .int]
  staticTypes := #[]
  resolved := Array.replicate 27 none
  statics := none }

def pool9 : Array CpInfo := pool [(2, .class_ 4), (1, u "com/example/kakehashi/kakehashi/message/Reading"), (15, .class_ 21), (0, u "com/example/kakehashi/kakehashi/message/Reading$2")] 13

/-- com/example/kakehashi/kakehashi/message/Reading$2 -/
def k9 : Class := { plain "com/example/kakehashi/kakehashi/message/Reading$2" (some 7) with
  accessFlags := 16432
  interfaces := #[]
  cf := some (fileOf pool9 20 #[.nestHost 2] #[] 16432 2 #[] #[])
  fields := #[]
  methods := #[]
  instanceTypes := #[(.object "java/lang/String"), .int, .int]
  staticTypes := #[]
  resolved := Array.replicate 35 none
  statics := none }

def pool10 : Array CpInfo := pool [(1, .class_ 2), (0, u "com/example/kakehashi/kakehashi/message/Reading"), (107, .class_ 112), (1, u "com/example/kakehashi/kakehashi/message/Reading$3")] 26

/-- com/example/kakehashi/kakehashi/message/Reading$3 -/
def k10 : Class := { plain "com/example/kakehashi/kakehashi/message/Reading$3" (some 7) with
  accessFlags := 16432
  interfaces := #[]
  cf := some (fileOf pool10 110 #[.nestHost 1] #[] 16432 1 #[] #[])
  fields := #[]
  methods := #[]
  instanceTypes := #[(.object "java/lang/String"), .int, .int]
  staticTypes := #[]
  resolved := Array.replicate 139 none
  statics := none }

def pool11 : Array CpInfo := pool [(1, u "java/lang/Cloneable"), (0, .class_ 1), (0, u "java/lang/Object"), (0, .class_ 3)] 3

/-- java/lang/Cloneable -/
def k11 : Class := { plain "java/lang/Cloneable" (some 0) with
  accessFlags := 1537
  interfaces := #[]
  cf := some (fileOf pool11 2 #[] #[] 1537 4 #[] #[])
  fields := #[]
  methods := #[]
  instanceTypes := #[]
  staticTypes := #[]
  resolved := Array.replicate 8 none
  statics := none }

/-- the primitive byte -/
def k12 : Class := { plain "byte" none with kind := .primitive 'B', accessFlags := 0x411 }
/-- [B -/
def k13 : Class := { plain "[B" (some 0) with kind := .array 12 .byte, interfaces := #[11, 5], accessFlags := 1041 }

/-- the primitive int -/
def k14 : Class := { plain "int" none with kind := .primitive 'I', accessFlags := 0x411 }
/-- [I -/
def k15 : Class := { plain "[I" (some 0) with kind := .array 14 .int, interfaces := #[11, 5], accessFlags := 1041 }

/-- [Lcom/example/kakehashi/kakehashi/message/Reading; -/
def k16 : Class := { plain "[Lcom/example/kakehashi/kakehashi/message/Reading;" (some 0) with kind := .array 7 (.object "com/example/kakehashi/kakehashi/message/Reading"), interfaces := #[11, 5], accessFlags := 1041 }

def heap : Heap := #[{ cls := 7, slots := #[.ref 1, .ref 2, .ref 3, .null, .int 0, .null], vm := .statics 7 },
  { cls := 8, slots := #[.null, .int 0, .int 0], vm := .none },
  { cls := 9, slots := #[.null, .int 1, .int 0], vm := .none },
  { cls := 10, slots := #[.null, .int 2, .int 0], vm := .none }]
def classes : Array Class := #[k0, k1, k2, k3, k4, k5, k6, k7, k8, k9, k10, k11, k12, k13, k14, k15, k16]
def interned : List (Array UInt16 × Addr) := []
def slotsUsed : Nat := 15
def theMethod : MethodId := ⟨1, 1⟩
def args0 : Array Value := #[.long 77, .int 5, .int 6, .int 7, .int 8, .int 9]
def aboutOver (below : List Frame) : State where
  vm := { classes := classes, interned := interned.toArray }
  heap := heap
  slotsUsed := slotsUsed
  threads := #[{ frames := .invoking theMethod args0 :: below }]
def below0 : List Frame := [.native { method := ⟨0, 0⟩, args := #[] }]
def about1 : State := aboutOver below0
def p0 : Program := .bare "" "" ""
def e0 : Env := launch0.env 0 0 0
theorem w_frames : about1.frames = Frame.invoking theMethod args0 :: below0 := rfl
set_option maxRecDepth 65536 in
theorem w_args : argsFit about1.vm theMethod args0 = true := by decide +kernel
set_option maxRecDepth 65536 in
theorem w_heap : heapFits about1 = true := by decide +kernel
set_option maxRecDepth 65536 in
theorem w_runnable : about1.curStatus? = some .runnable := by decide +kernel
set_option maxRecDepth 65536 in
theorem w_alone : about1.alone = true := by decide +kernel
set_option maxRecDepth 65536 in
theorem w_named : about1.methodNamed? x = some theMethod := by decide +kernel
set_option maxRecDepth 65536 in
theorem w_hears : about1.hears theMethod below0 = true := by decide +kernel
set_option maxRecDepth 65536 in
theorem w_ripe : about1.ripe theMethod args0 below0 = true := by decide +kernel
theorem w_running : about1.status = .running := rfl
set_option maxRecDepth 65536 in
theorem w_room : about1.hasRoom e0.platform room_1 = true :=
  launch0.hasRoom_least _ room_1 (by decide +kernel) (by decide +kernel) (by decide +kernel) (by decide +kernel) (by decide +kernel) (by decide +kernel)
theorem allAtoms_all (ts : List Jvm.Cond) (a : Array Jvm.Value) (st : Jvm.State) : (allAtoms ts).before a st = ts.all (fun c => c.before a st) := by
  induction ts with
  | nil => rfl
  | cons c t ih =>
    show (Jvm.Cond.and c (allAtoms t)).before a st = _
    rw [Jvm.Cond.before_and, ih, List.all_cons]
def words1 : List Jvm.Cond := Jvm.Cond.code x code maxLocals ret :: tables_1
/-- a 'code' word, met by the world's own term for the bytes: nothing is compared byte by byte -/
theorem code_word {y : MethodName} {bytes : ByteArray} {mx : Nat} {rt : Option FieldType} {a : Array Value} {s : State} {m : MethodId} {meth : Method} {c : Code} (h1 : s.methodNamed? y = some m) (h2 : s.vm.method? m = some meth) (h3 : meth.code = some c) (h4 : c.code = bytes)
    (h5 : (c.maxLocals == mx && c.exceptionTable.isEmpty && decide (c.maxStack ≤ mostOperands) && decide (meth.sig.returnType = rt) && !meth.locks && decide (parseMethodDescriptor y.desc = some meth.sig)) = true) : (Jvm.Cond.code y bytes mx rt).before a s = true := by
  simp only [Bool.and_eq_true, beq_iff_eq, Bool.not_eq_true', decide_eq_true_eq] at h5
  obtain ⟨⟨⟨⟨⟨g1, g2⟩, g3⟩, g4⟩, g5⟩, g6⟩ := h5
  simp [Cond.before, Cond.holds, Cond.value, h1, h2, h3, h4, g1, g2, g3, g4, g5, g6]
def isCode : Jvm.Cond → Bool
  | .code _ _ _ _ => true
  | _ => false
theorem all_split {L : List Jvm.Cond} {P : Jvm.Cond → Bool} (h1 : L.all (fun c => isCode c || P c) = true) (h2 : ∀ c ∈ L.filter isCode, P c = true) : L.all P = true := by
  refine List.all_eq_true.mpr fun c hc => ?_
  have h := List.all_eq_true.mp h1 c hc
  rcases Bool.eq_false_or_eq_true (isCode c) with hi | hi
  · exact h2 c (List.mem_filter.mpr ⟨hc, hi⟩)
  · simpa [hi] using h
set_option maxRecDepth 65536 in
theorem w_c0 : (Jvm.Cond.code x code maxLocals ret).before args0 about1 = true := code_word (m := ⟨1, 1⟩) (meth := k1m1) (c := k1c1) (by decide +kernel) rfl rfl rfl (by decide +kernel)
set_option maxRecDepth 65536 in
theorem w_c1 : (Jvm.Cond.code ({ cls := "com/example/kakehashi/kakehashi/message/ReadingCountPinLaw", name := "bt", desc := "(JIII)B" } : Jvm.MethodName) method_3_code (5 : Nat) (Option.some Jvm.ClassFile.FieldType.byte)).before args0 about1 = true := code_word (m := ⟨1, 2⟩) (meth := k1m2) (c := k1c2) (by decide +kernel) rfl rfl rfl (by decide +kernel)
set_option maxRecDepth 65536 in
theorem w_c2 : (Jvm.Cond.code ({ cls := "java/lang/Math", name := "min", desc := "(II)I" } : Jvm.MethodName) jdk_29_method_69_code (2 : Nat) (Option.some Jvm.ClassFile.FieldType.int)).before args0 about1 = true := code_word (m := ⟨2, 2⟩) (meth := k2m2) (c := k2c2) (by decide +kernel) rfl rfl rfl (by decide +kernel)
set_option maxRecDepth 65536 in
theorem w_c3 : (Jvm.Cond.code ({ cls := "java/lang/Math", name := "max", desc := "(II)I" } : Jvm.MethodName) jdk_29_method_65_code (2 : Nat) (Option.some Jvm.ClassFile.FieldType.int)).before args0 about1 = true := code_word (m := ⟨2, 1⟩) (meth := k2m1) (c := k2c1) (by decide +kernel) rfl rfl rfl (by decide +kernel)
set_option maxRecDepth 65536 in
theorem w_c4 : (Jvm.Cond.code ({ cls := "com/example/kakehashi/kakehashi/message/ReadingCountPinLaw", name := "hit", desc := "([BIIII)I" } : Jvm.MethodName) method_4_code (5 : Nat) (Option.some Jvm.ClassFile.FieldType.int)).before args0 about1 = true := code_word (m := ⟨1, 3⟩) (meth := k1m3) (c := k1c3) (by decide +kernel) rfl rfl rfl (by decide +kernel)
set_option maxRecDepth 65536 in
theorem w_c5 : (Jvm.Cond.code ({ cls := "com/example/kakehashi/kakehashi/message/Reading", name := "count", desc := "([BIIC)I" } : Jvm.MethodName) prog_64_method_12_code (7 : Nat) (Option.some Jvm.ClassFile.FieldType.int)).before args0 about1 = true := code_word (m := ⟨7, 0⟩) (meth := k7m0) (c := k7c0) (by decide +kernel) rfl rfl rfl (by decide +kernel)
def codes1 : List Jvm.Cond := [Jvm.Cond.code x code maxLocals ret, Jvm.Cond.code ({ cls := "com/example/kakehashi/kakehashi/message/ReadingCountPinLaw", name := "bt", desc := "(JIII)B" } : Jvm.MethodName) method_3_code (5 : Nat) (Option.some Jvm.ClassFile.FieldType.byte), Jvm.Cond.code ({ cls := "java/lang/Math", name := "min", desc := "(II)I" } : Jvm.MethodName) jdk_29_method_69_code (2 : Nat) (Option.some Jvm.ClassFile.FieldType.int), Jvm.Cond.code ({ cls := "java/lang/Math", name := "max", desc := "(II)I" } : Jvm.MethodName) jdk_29_method_65_code (2 : Nat) (Option.some Jvm.ClassFile.FieldType.int), Jvm.Cond.code ({ cls := "com/example/kakehashi/kakehashi/message/ReadingCountPinLaw", name := "hit", desc := "([BIIII)I" } : Jvm.MethodName) method_4_code (5 : Nat) (Option.some Jvm.ClassFile.FieldType.int), Jvm.Cond.code ({ cls := "com/example/kakehashi/kakehashi/message/Reading", name := "count", desc := "([BIIC)I" } : Jvm.MethodName) prog_64_method_12_code (7 : Nat) (Option.some Jvm.ClassFile.FieldType.int)]
set_option maxRecDepth 65536 in
theorem codes_eq : words1.filter isCode = codes1 := rfl
theorem w_codes : ∀ c ∈ words1.filter isCode, c.before args0 about1 = true := by
  rw [codes_eq]
  intro c hc
  simp only [codes1, List.mem_cons, List.not_mem_nil, or_false] at hc
  rcases hc with rfl | rfl | rfl | rfl | rfl | rfl
  · exact w_c0
  · exact w_c1
  · exact w_c2
  · exact w_c3
  · exact w_c4
  · exact w_c5
set_option maxRecDepth 65536 in
theorem w_t1 : (words1.take 24).all (fun c => isCode c || c.before args0 about1) = true := by decide +kernel
set_option maxRecDepth 65536 in
theorem w_t2 : (words1.drop 24).all (fun c => isCode c || c.before args0 about1) = true := by decide +kernel
theorem w_tables : (allAtoms (Jvm.Cond.code x code maxLocals ret :: tables_1)).before args0 about1 = true := by
  rw [allAtoms_all]
  show words1.all (fun c => c.before args0 about1) = true
  refine all_split ?_ w_codes
  rw [← List.take_append_drop 24 words1, List.all_append, w_t1, w_t2]
  rfl
set_option maxRecDepth 65536 in
theorem w_case : (Jvm.Cond.and given_1 narrow_1).before args0 about1 = true := by decide +kernel
theorem w_applies : (headSpec (Jvm.Cond.code x code maxLocals ret :: tables_1) room_1).applies x e0.platform about1 = true :=
  (Spec.applies_iff w_frames).mpr ⟨w_running, w_runnable, w_alone, w_named, w_hears, w_ripe, w_room, w_tables⟩
theorem atStart : AtStart classFile x code maxLocals ret World_1 tables_1 room_1 Calls_1 rest_1 Pre_1 launch0 p0 e0 about1 theMethod args0 below0 :=
  ⟨lists_1, trivial, launch0.admits_env _ _ _, launch0.least_env, fairChoices_fair.cas, fairChoices_fair.clock, w_frames, w_args, w_heap, w_applies, trivial, trivial, w_case⟩
end start1
theorem witness_1 : WitnessClaimed_1 := ⟨start1.p0, start1.e0, start1.about1, start1.theMethod, start1.args0, start1.below0, start1.atStart⟩
end Jvm.Pilot.@@N@@
