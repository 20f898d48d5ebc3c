import JvmDerived
import JvmDerived.Pilot.@@N@@Statement
import JvmDerived.Pilot.@@N@@Code
set_option linter.unusedVariables false
set_option linter.unusedSimpArgs false
namespace Jvm.OwnKit
open Sem ClassFile Op Lib Jvm.Stand Jvm.Free Jvm.LawKit Jvm.RoadKit
section Own
variable {p : Program} {l : Launch} {e : Env} {R : Room} {s : State} {m : MethodId} {args : Array Value} {below : List Frame} {meth : Method} {c : Code} {T : State} {locs : List Loc} {cells slots : Nat} {Z : State} {a0 : Array Value} {h : Heap} {bytes : ByteArray} {pc : Nat} {Ls : Array Slot} {st : List Value} {cs ss : Nat} {Q : Option Value → Heap → List Loc → Prop}
/-- from the state T with the frame F on top the run comes to the method's end, returns, and Q holds of what it returned, of the heap and of the places written -/
def zEnds (p : Program) (e : Env) (below : List Frame) (s T : State) (F : JFrame) (cs ss : Nat) (Q : Option Value → Heap → List Loc → Prop) : Prop :=
  ∃ s₂ o, Steps p.tables e below (T.setTop F) s₂ ∧ s₂.status = .running ∧ Ended s₂ below o ∧ ∃ v L, o = .returned v ∧ Q v s₂.heap L ∧ FrameEnd s o s₂ L cs ss
theorem zstp {T T' : State} {F F' : JFrame} (st : ∀ target, Steps p.tables e below (T'.setTop F') target → Steps p.tables e below (T.setTop F) target) (k : zEnds p e below s T' F' cs ss Q) : zEnds p e below s T F cs ss Q := by
  obtain ⟨s2, o, h1, r⟩ := k; exact ⟨s2, o, st _ h1, r⟩
/-- what a callee promises: with these arguments, over this heap, it returns, and Q holds -/
def zCon (l : Launch) (Z : State) (y : MethodName) (bytes : ByteArray) (maxL : Nat) (ret : Option FieldType) (ws : List Jvm.Cond) (rm : Room) (as' : Array Value) (h0 : Heap) (Q : Option Value → Heap → List Loc → Prop) : Prop :=
  MetFree l y (head1 (Jvm.Cond.code y bytes maxL ret :: ws) rm) (fun a U => a = as' ∧ Z.Warmed39 U.vm ∧ U.heap = h0) (fun _ _ _ _ _ => True) (fun _ U o U' => ∃ v L, o = .returned v ∧ Q v U'.heap L ∧ FrameEnd U o U' L rm.cells rm.slots)
/-- a callee that writes nothing -/
def zSame (v : Option Value) (h0 : Heap) : Option Value → Heap → List Loc → Prop := fun v' h L => v' = v ∧ h = h0 ∧ L = []
theorem zenter {y : MethodName} {maxL : Nat} {ret : Option FieldType} {ws : List Jvm.Cond} {rm : Room} {as' : Array Value} {h0 : Heap} (hpl : plainFor y = true) {L0 : Array Slot} (hef : ∀ m, entryFrame m as' maxL = mkF m 0 L0 [])
    (H : ∀ (p : Program) (e : Env) (s : State) (m : MethodId) (below : List Frame) (meth : Method) (c : Code) (T : State), p.tables.exec = Jvm.exec → Z.Warmed39 s.vm → c.code = bytes → c.maxLocals = maxL → s.vm.findClass y.cls = some m.cls → meth.name = y.name → meth.sig.returnType = ret → meth.locks = false →
      Stand p l e rm s m as' below meth c T [] 0 0 → T.heap = h0 → zEnds p e below s T (mkF m 0 L0 []) rm.cells rm.slots Q) : zCon l Z y bytes maxL ret ws rm as' h0 Q := by
  refine MetFree.of_bodySF hpl hisR ?_
  intro p e s m args below meth c s₁ Bd hml0 hP hK
  obtain ⟨rfl, hZ, hh⟩ := hP
  have := H p e s m below meth c s₁ Bd.exec hZ Bd.bytes hml0 (findClass_of_methodNamed Bd.named) (name_of_methodNamed Bd.named Bd.method).1 Bd.returns Bd.notSynchronized (Stand.of_body Bd) (by rw [← hh, Bd.state]; rfl)
  rw [← hef m] at this
  exact this
theorem zCon.weak {y : MethodName} {maxL : Nat} {ret : Option FieldType} {ws : List Jvm.Cond} {rm : Room} {as' : Array Value} {h0 : Heap} {Q' : Option Value → Heap → List Loc → Prop} (C : zCon l Z y bytes maxL ret ws rm as' h0 Q) (q : ∀ v h L, Q v h L → Q' v h L) : zCon l Z y bytes maxL ret ws rm as' h0 Q' := by
  intro p e ha hc hk s m args below hf happ hP hK
  obtain ⟨n, o, h1, h2, h3, v, L, h4, h5, h6⟩ := C p e ha hc hk s m args below hf happ hP hK
  exact ⟨n, o, h1, h2, h3, v, L, h4, q v _ L h5, h6⟩
theorem zsameTo {T : State} {F : JFrame} {a b : Value} {h0 : Heap} (k : zEnds p e below s T F cs ss (zSame (some a) h0)) (q : a = b) : zEnds p e below s T F cs ss (zSame (some b) h0) := q ▸ k
/-! returns -/
theorem zretG {w : Value} {t : FieldType} {i : Instr} (X : Stand p l e R s m args below meth c T locs cells slots) (hx : p.tables.exec = Jvm.exec) (hby : c.code = bytes) (hd : decode bytes pc = .ok (i, 1)) (hret : meth.sig.returnType = some t) (hlk : meth.locks = false) (hn : narrow t w = w)
    (hi : (i = .ireturn ∧ (t = .int ∨ t = .boolean ∨ t = .byte ∨ t = .char ∨ t = .short) ∧ ∃ z, w = .int z) ∨ (i = .lreturn ∧ t = .long ∧ ∃ z, w = .long z) ∨ (i = .dreturn ∧ t = .double ∧ ∃ z, w = .double z) ∨ (i = .freturn ∧ t = .float ∧ ∃ z, w = .float z) ∨ (i = .areturn ∧ t.isReference = true ∧ w.isRef = true))
    (hc : cells ≤ cs) (hs : slots ≤ ss) (hq : Q (some w) T.heap locs) : zEnds p e below s T (mkF m pc Ls (w :: st)) cs ss Q := by
  obtain ⟨fs, hr, hrun, hended, hW, hsame⟩ := X.leave (v := some w) (fun q => by rw [hret] at q; cases q) hlk
  exact ⟨_, _, retOut X hx hret hn hi (hb hby hd) hr, hrun, hended, _, _, rfl, hq, ⟨_, rfl⟩, hW, hsame.mono hc hs⟩
theorem zretI {z : Int32} (X : Stand p l e R s m args below meth c T locs cells slots) (hx : p.tables.exec = Jvm.exec) (hby : c.code = bytes) (hd : decode bytes pc = .ok (.ireturn, 1)) (hret : meth.sig.returnType = some .int) (hlk : meth.locks = false) (hc : cells ≤ cs) (hs : slots ≤ ss) (hq : Q (some (.int z)) T.heap locs) : zEnds p e below s T (mkF m pc Ls (.int z :: st)) cs ss Q :=
  zretG X hx hby hd hret hlk rfl (Or.inl ⟨rfl, Or.inl rfl, z, rfl⟩) hc hs hq
theorem zretZ {z : Int32} {t : FieldType} (X : Stand p l e R s m args below meth c T locs cells slots) (hx : p.tables.exec = Jvm.exec) (hby : c.code = bytes) (hd : decode bytes pc = .ok (.ireturn, 1)) (hret : meth.sig.returnType = some t) (hlk : meth.locks = false) (ht : t = .boolean ∨ t = .byte ∨ t = .char ∨ t = .short) (hn : narrow t (.int z) = .int z) (hc : cells ≤ cs) (hs : slots ≤ ss) (hq : Q (some (.int z)) T.heap locs) : zEnds p e below s T (mkF m pc Ls (.int z :: st)) cs ss Q :=
  zretG X hx hby hd hret hlk hn (Or.inl ⟨rfl, Or.inr ht, z, rfl⟩) hc hs hq
theorem zretL {z : Int64} (X : Stand p l e R s m args below meth c T locs cells slots) (hx : p.tables.exec = Jvm.exec) (hby : c.code = bytes) (hd : decode bytes pc = .ok (.lreturn, 1)) (hret : meth.sig.returnType = some .long) (hlk : meth.locks = false) (hc : cells ≤ cs) (hs : slots ≤ ss) (hq : Q (some (.long z)) T.heap locs) : zEnds p e below s T (mkF m pc Ls (.long z :: st)) cs ss Q :=
  zretG X hx hby hd hret hlk rfl (Or.inr (Or.inl ⟨rfl, rfl, z, rfl⟩)) hc hs hq
theorem zretA {w : Value} {t : FieldType} (X : Stand p l e R s m args below meth c T locs cells slots) (hx : p.tables.exec = Jvm.exec) (hby : c.code = bytes) (hd : decode bytes pc = .ok (.areturn, 1)) (hret : meth.sig.returnType = some t) (hlk : meth.locks = false) (ht : t.isReference = true) (hw : w.isRef = true) (hn : narrow t w = w) (hc : cells ≤ cs) (hs : slots ≤ ss) (hq : Q (some w) T.heap locs) : zEnds p e below s T (mkF m pc Ls (w :: st)) cs ss Q :=
  zretG X hx hby hd hret hlk hn (Or.inr (Or.inr (Or.inr (Or.inr ⟨rfl, ht, hw⟩)))) hc hs hq
theorem zretV (X : Stand p l e R s m args below meth c T locs cells slots) (hx : p.tables.exec = Jvm.exec) (hby : c.code = bytes) (hd : decode bytes pc = .ok (.return_, 1)) (hret : meth.sig.returnType = none) (hlk : meth.locks = false) (hc : cells ≤ cs) (hs : slots ≤ ss) (hq : Q none T.heap locs) : zEnds p e below s T (mkF m pc Ls []) cs ss Q := by
  obtain ⟨fs, hr, hrun, hended, hW, hsame⟩ := X.leave (v := none) (fun _ => rfl) hlk
  exact ⟨_, _, X.returnOut hx hret (hb hby hd) hr, hrun, hended, _, _, rfl, hq, ⟨_, rfl⟩, hW, hsame.mono hc hs⟩
/-! single steps -/

theorem ziloadN (X : Stand p l e R s m args below meth c T locs cells slots) (hx : p.tables.exec = Jvm.exec) (hby : c.code = bytes) {k : Fin 4} {v : Int32} (hd : decode bytes pc = .ok (.iload_n k, 1)) (hl : Ls[k.val]? = some (.val (.int v))) (r : zEnds p e below s T (mkF m (pc + 1) Ls (.int v :: st)) cs ss Q) : zEnds p e below s T (mkF m pc Ls st) cs ss Q := zstp (fun _ k => XS.iloadN X.here hx rfl (hb hby hd) hl k) r
theorem ziload (X : Stand p l e R s m args below meth c T locs cells slots) (hx : p.tables.exec = Jvm.exec) (hby : c.code = bytes) {k : Nat} {v : Int32} (hd : decode bytes pc = .ok (.iload k, 2)) (hl : Ls[k]? = some (.val (.int v))) (r : zEnds p e below s T (mkF m (pc + 2) Ls (.int v :: st)) cs ss Q) : zEnds p e below s T (mkF m pc Ls st) cs ss Q := zstp (fun _ k => XS.iload X.here hx rfl (hb hby hd) hl k) r
theorem zlloadN (X : Stand p l e R s m args below meth c T locs cells slots) (hx : p.tables.exec = Jvm.exec) (hby : c.code = bytes) {k : Fin 4} {v : Int64} (hd : decode bytes pc = .ok (.lload_n k, 1)) (hl : Ls[k.val]? = some (.val (.long v))) (r : zEnds p e below s T (mkF m (pc + 1) Ls (.long v :: st)) cs ss Q) : zEnds p e below s T (mkF m pc Ls st) cs ss Q := zstp (fun _ k => XS.lloadN X.here hx rfl (hb hby hd) hl k) r
theorem zlload (X : Stand p l e R s m args below meth c T locs cells slots) (hx : p.tables.exec = Jvm.exec) (hby : c.code = bytes) {k : Nat} {v : Int64} (hd : decode bytes pc = .ok (.lload k, 2)) (hl : Ls[k]? = some (.val (.long v))) (r : zEnds p e below s T (mkF m (pc + 2) Ls (.long v :: st)) cs ss Q) : zEnds p e below s T (mkF m pc Ls st) cs ss Q := zstp (fun _ k => XS.lload X.here hx rfl (hb hby hd) hl k) r
theorem zaloadN (X : Stand p l e R s m args below meth c T locs cells slots) (hx : p.tables.exec = Jvm.exec) (hby : c.code = bytes) {k : Fin 4} {v : Value} (hd : decode bytes pc = .ok (.aload_n k, 1)) (hl : Ls[k.val]? = some (.val v)) (hv : v.isRef = true) (r : zEnds p e below s T (mkF m (pc + 1) Ls (v :: st)) cs ss Q) : zEnds p e below s T (mkF m pc Ls st) cs ss Q := zstp (fun _ k => XS.aloadN X.here hx rfl (hb hby hd) hl hv k) r
theorem zaload (X : Stand p l e R s m args below meth c T locs cells slots) (hx : p.tables.exec = Jvm.exec) (hby : c.code = bytes) {k : Nat} {v : Value} (hd : decode bytes pc = .ok (.aload k, 2)) (hl : Ls[k]? = some (.val v)) (hv : v.isRef = true) (r : zEnds p e below s T (mkF m (pc + 2) Ls (v :: st)) cs ss Q) : zEnds p e below s T (mkF m pc Ls st) cs ss Q := zstp (fun _ k => XS.aload X.here hx rfl (hb hby hd) hl hv k) r
theorem zistoreN (X : Stand p l e R s m args below meth c T locs cells slots) (hx : p.tables.exec = Jvm.exec) (hby : c.code = bytes) {k : Fin 4} {v : Int32} (hd : decode bytes pc = .ok (.istore_n k, 1)) (L' : Array Slot) (hl : storeLocals Ls k.val (.int v) = some L') (r : zEnds p e below s T (mkF m (pc + 1) L' st) cs ss Q) : zEnds p e below s T (mkF m pc Ls (.int v :: st)) cs ss Q := zstp (fun _ k => XS.istoreN X.here hx rfl (hb hby hd) rfl hl k) r
theorem zistore (X : Stand p l e R s m args below meth c T locs cells slots) (hx : p.tables.exec = Jvm.exec) (hby : c.code = bytes) {k : Nat} {v : Int32} (hd : decode bytes pc = .ok (.istore k, 2)) (L' : Array Slot) (hl : storeLocals Ls k (.int v) = some L') (r : zEnds p e below s T (mkF m (pc + 2) L' st) cs ss Q) : zEnds p e below s T (mkF m pc Ls (.int v :: st)) cs ss Q := zstp (fun _ k => XS.istore X.here hx rfl (hb hby hd) rfl hl k) r
theorem zlstoreN (X : Stand p l e R s m args below meth c T locs cells slots) (hx : p.tables.exec = Jvm.exec) (hby : c.code = bytes) {k : Fin 4} {v : Int64} (hd : decode bytes pc = .ok (.lstore_n k, 1)) (L' : Array Slot) (hl : storeLocals Ls k.val (.long v) = some L') (r : zEnds p e below s T (mkF m (pc + 1) L' st) cs ss Q) : zEnds p e below s T (mkF m pc Ls (.long v :: st)) cs ss Q := zstp (fun _ k => XS.lstoreN X.here hx rfl (hb hby hd) rfl hl k) r
theorem zlstore (X : Stand p l e R s m args below meth c T locs cells slots) (hx : p.tables.exec = Jvm.exec) (hby : c.code = bytes) {k : Nat} {v : Int64} (hd : decode bytes pc = .ok (.lstore k, 2)) (L' : Array Slot) (hl : storeLocals Ls k (.long v) = some L') (r : zEnds p e below s T (mkF m (pc + 2) L' st) cs ss Q) : zEnds p e below s T (mkF m pc Ls (.long v :: st)) cs ss Q := zstp (fun _ k => XS.lstore X.here hx rfl (hb hby hd) rfl hl k) r
theorem zastoreN (X : Stand p l e R s m args below meth c T locs cells slots) (hx : p.tables.exec = Jvm.exec) (hby : c.code = bytes) {k : Fin 4} {v : Value} (hd : decode bytes pc = .ok (.astore_n k, 1)) (L' : Array Slot) (hv : v.isRef = true) (hl : storeLocals Ls k.val v = some L') (r : zEnds p e below s T (mkF m (pc + 1) L' st) cs ss Q) : zEnds p e below s T (mkF m pc Ls (v :: st)) cs ss Q := zstp (fun _ k => XS.astoreN X.here hx rfl (hb hby hd) rfl hv hl k) r
theorem zastore (X : Stand p l e R s m args below meth c T locs cells slots) (hx : p.tables.exec = Jvm.exec) (hby : c.code = bytes) {k : Nat} {v : Value} (hd : decode bytes pc = .ok (.astore k, 2)) (L' : Array Slot) (hv : v.isRef = true) (hl : storeLocals Ls k v = some L') (r : zEnds p e below s T (mkF m (pc + 2) L' st) cs ss Q) : zEnds p e below s T (mkF m pc Ls (v :: st)) cs ss Q := zstp (fun _ k => XS.astore X.here hx rfl (hb hby hd) rfl hv hl k) r
theorem ziconst (X : Stand p l e R s m args below meth c T locs cells slots) (hx : p.tables.exec = Jvm.exec) (hby : c.code = bytes) {i : Int} (hd : decode bytes pc = .ok (.iconst i, 1)) (z : Int32) (hz : Int32.ofInt i = z) (r : zEnds p e below s T (mkF m (pc + 1) Ls (.int z :: st)) cs ss Q) : zEnds p e below s T (mkF m pc Ls st) cs ss Q := zstp (fun _ k => XS.iconst X.here hx rfl (hb hby hd) (hz ▸ k)) r
theorem zbipush (X : Stand p l e R s m args below meth c T locs cells slots) (hx : p.tables.exec = Jvm.exec) (hby : c.code = bytes) {i : Int} (hd : decode bytes pc = .ok (.bipush i, 2)) (z : Int32) (hz : (Int8.ofInt i).toInt32 = z) (r : zEnds p e below s T (mkF m (pc + 2) Ls (.int z :: st)) cs ss Q) : zEnds p e below s T (mkF m pc Ls st) cs ss Q := zstp (fun _ k => XS.bipush X.here hx rfl (hb hby hd) (hz ▸ k)) r
theorem zsipush (X : Stand p l e R s m args below meth c T locs cells slots) (hx : p.tables.exec = Jvm.exec) (hby : c.code = bytes) {i : Int} (hd : decode bytes pc = .ok (.sipush i, 3)) (z : Int32) (hz : (Int16.ofInt i).toInt32 = z) (r : zEnds p e below s T (mkF m (pc + 3) Ls (.int z :: st)) cs ss Q) : zEnds p e below s T (mkF m pc Ls st) cs ss Q := zstp (fun _ k => XS.sipush X.here hx rfl (hb hby hd) (hz ▸ k)) r
theorem zlconst (X : Stand p l e R s m args below meth c T locs cells slots) (hx : p.tables.exec = Jvm.exec) (hby : c.code = bytes) {i : Fin 2} (hd : decode bytes pc = .ok (.lconst i, 1)) (z : Int64) (hz : Int64.ofNat i = z) (r : zEnds p e below s T (mkF m (pc + 1) Ls (.long z :: st)) cs ss Q) : zEnds p e below s T (mkF m pc Ls st) cs ss Q := zstp (fun _ k => XS.lconst X.here hx rfl (hb hby hd) (hz ▸ k)) r
theorem zaconstNull (X : Stand p l e R s m args below meth c T locs cells slots) (hx : p.tables.exec = Jvm.exec) (hby : c.code = bytes)  (hd : decode bytes pc = .ok (.aconst_null, 1))  (r : zEnds p e below s T (mkF m (pc + 1) Ls (.null :: st)) cs ss Q) : zEnds p e below s T (mkF m pc Ls st) cs ss Q := zstp (fun _ k => XS.aconstNull X.here hx rfl (hb hby hd) k) r
theorem ziadd (X : Stand p l e R s m args below meth c T locs cells slots) (hx : p.tables.exec = Jvm.exec) (hby : c.code = bytes) {x y : Int32} (hd : decode bytes pc = .ok (.iadd, 1)) (z : Int32) (hz : x + y = z) (r : zEnds p e below s T (mkF m (pc + 1) Ls (.int z :: st)) cs ss Q) : zEnds p e below s T (mkF m pc Ls (.int y :: .int x :: st)) cs ss Q := zstp (fun _ k => XS.iadd X.here hx rfl (hb hby hd) rfl (hz ▸ k)) r
theorem zisub (X : Stand p l e R s m args below meth c T locs cells slots) (hx : p.tables.exec = Jvm.exec) (hby : c.code = bytes) {x y : Int32} (hd : decode bytes pc = .ok (.isub, 1)) (z : Int32) (hz : x - y = z) (r : zEnds p e below s T (mkF m (pc + 1) Ls (.int z :: st)) cs ss Q) : zEnds p e below s T (mkF m pc Ls (.int y :: .int x :: st)) cs ss Q := zstp (fun _ k => XS.isub X.here hx rfl (hb hby hd) rfl (hz ▸ k)) r
theorem zimul (X : Stand p l e R s m args below meth c T locs cells slots) (hx : p.tables.exec = Jvm.exec) (hby : c.code = bytes) {x y : Int32} (hd : decode bytes pc = .ok (.imul, 1)) (z : Int32) (hz : x * y = z) (r : zEnds p e below s T (mkF m (pc + 1) Ls (.int z :: st)) cs ss Q) : zEnds p e below s T (mkF m pc Ls (.int y :: .int x :: st)) cs ss Q := zstp (fun _ k => XS.imul X.here hx rfl (hb hby hd) rfl (hz ▸ k)) r
theorem ziand (X : Stand p l e R s m args below meth c T locs cells slots) (hx : p.tables.exec = Jvm.exec) (hby : c.code = bytes) {x y : Int32} (hd : decode bytes pc = .ok (.iand, 1)) (z : Int32) (hz : x &&& y = z) (r : zEnds p e below s T (mkF m (pc + 1) Ls (.int z :: st)) cs ss Q) : zEnds p e below s T (mkF m pc Ls (.int y :: .int x :: st)) cs ss Q := zstp (fun _ k => XS.iand X.here hx rfl (hb hby hd) rfl (hz ▸ k)) r
theorem zior (X : Stand p l e R s m args below meth c T locs cells slots) (hx : p.tables.exec = Jvm.exec) (hby : c.code = bytes) {x y : Int32} (hd : decode bytes pc = .ok (.ior, 1)) (z : Int32) (hz : x ||| y = z) (r : zEnds p e below s T (mkF m (pc + 1) Ls (.int z :: st)) cs ss Q) : zEnds p e below s T (mkF m pc Ls (.int y :: .int x :: st)) cs ss Q := zstp (fun _ k => XS.ior X.here hx rfl (hb hby hd) rfl (hz ▸ k)) r
theorem zixor (X : Stand p l e R s m args below meth c T locs cells slots) (hx : p.tables.exec = Jvm.exec) (hby : c.code = bytes) {x y : Int32} (hd : decode bytes pc = .ok (.ixor, 1)) (z : Int32) (hz : x ^^^ y = z) (r : zEnds p e below s T (mkF m (pc + 1) Ls (.int z :: st)) cs ss Q) : zEnds p e below s T (mkF m pc Ls (.int y :: .int x :: st)) cs ss Q := zstp (fun _ k => XS.ixor X.here hx rfl (hb hby hd) rfl (hz ▸ k)) r
theorem zishl (X : Stand p l e R s m args below meth c T locs cells slots) (hx : p.tables.exec = Jvm.exec) (hby : c.code = bytes) {x y : Int32} (hd : decode bytes pc = .ok (.ishl, 1)) (z : Int32) (hz : x <<< (y &&& 31) = z) (r : zEnds p e below s T (mkF m (pc + 1) Ls (.int z :: st)) cs ss Q) : zEnds p e below s T (mkF m pc Ls (.int y :: .int x :: st)) cs ss Q := zstp (fun _ k => XS.ishl X.here hx rfl (hb hby hd) rfl (hz ▸ k)) r
theorem zishr (X : Stand p l e R s m args below meth c T locs cells slots) (hx : p.tables.exec = Jvm.exec) (hby : c.code = bytes) {x y : Int32} (hd : decode bytes pc = .ok (.ishr, 1)) (z : Int32) (hz : x >>> (y &&& 31) = z) (r : zEnds p e below s T (mkF m (pc + 1) Ls (.int z :: st)) cs ss Q) : zEnds p e below s T (mkF m pc Ls (.int y :: .int x :: st)) cs ss Q := zstp (fun _ k => XS.ishr X.here hx rfl (hb hby hd) rfl (hz ▸ k)) r
theorem ziushr (X : Stand p l e R s m args below meth c T locs cells slots) (hx : p.tables.exec = Jvm.exec) (hby : c.code = bytes) {x y : Int32} (hd : decode bytes pc = .ok (.iushr, 1)) (z : Int32) (hz : (x.toUInt32 >>> (y &&& 31).toUInt32).toInt32 = z) (r : zEnds p e below s T (mkF m (pc + 1) Ls (.int z :: st)) cs ss Q) : zEnds p e below s T (mkF m pc Ls (.int y :: .int x :: st)) cs ss Q := zstp (fun _ k => XS.iushr X.here hx rfl (hb hby hd) rfl (hz ▸ k)) r
theorem zladd (X : Stand p l e R s m args below meth c T locs cells slots) (hx : p.tables.exec = Jvm.exec) (hby : c.code = bytes) {x y : Int64} (hd : decode bytes pc = .ok (.ladd, 1)) (z : Int64) (hz : x + y = z) (r : zEnds p e below s T (mkF m (pc + 1) Ls (.long z :: st)) cs ss Q) : zEnds p e below s T (mkF m pc Ls (.long y :: .long x :: st)) cs ss Q := zstp (fun _ k => XS.ladd X.here hx rfl (hb hby hd) rfl (hz ▸ k)) r
theorem zlsub (X : Stand p l e R s m args below meth c T locs cells slots) (hx : p.tables.exec = Jvm.exec) (hby : c.code = bytes) {x y : Int64} (hd : decode bytes pc = .ok (.lsub, 1)) (z : Int64) (hz : x - y = z) (r : zEnds p e below s T (mkF m (pc + 1) Ls (.long z :: st)) cs ss Q) : zEnds p e below s T (mkF m pc Ls (.long y :: .long x :: st)) cs ss Q := zstp (fun _ k => XS.lsub X.here hx rfl (hb hby hd) rfl (hz ▸ k)) r
theorem zlmul (X : Stand p l e R s m args below meth c T locs cells slots) (hx : p.tables.exec = Jvm.exec) (hby : c.code = bytes) {x y : Int64} (hd : decode bytes pc = .ok (.lmul, 1)) (z : Int64) (hz : x * y = z) (r : zEnds p e below s T (mkF m (pc + 1) Ls (.long z :: st)) cs ss Q) : zEnds p e below s T (mkF m pc Ls (.long y :: .long x :: st)) cs ss Q := zstp (fun _ k => XS.lmul X.here hx rfl (hb hby hd) rfl (hz ▸ k)) r
theorem zland (X : Stand p l e R s m args below meth c T locs cells slots) (hx : p.tables.exec = Jvm.exec) (hby : c.code = bytes) {x y : Int64} (hd : decode bytes pc = .ok (.land, 1)) (z : Int64) (hz : x &&& y = z) (r : zEnds p e below s T (mkF m (pc + 1) Ls (.long z :: st)) cs ss Q) : zEnds p e below s T (mkF m pc Ls (.long y :: .long x :: st)) cs ss Q := zstp (fun _ k => XS.land X.here hx rfl (hb hby hd) rfl (hz ▸ k)) r
theorem zlor (X : Stand p l e R s m args below meth c T locs cells slots) (hx : p.tables.exec = Jvm.exec) (hby : c.code = bytes) {x y : Int64} (hd : decode bytes pc = .ok (.lor, 1)) (z : Int64) (hz : x ||| y = z) (r : zEnds p e below s T (mkF m (pc + 1) Ls (.long z :: st)) cs ss Q) : zEnds p e below s T (mkF m pc Ls (.long y :: .long x :: st)) cs ss Q := zstp (fun _ k => XS.lor X.here hx rfl (hb hby hd) rfl (hz ▸ k)) r
theorem zlxor (X : Stand p l e R s m args below meth c T locs cells slots) (hx : p.tables.exec = Jvm.exec) (hby : c.code = bytes) {x y : Int64} (hd : decode bytes pc = .ok (.lxor, 1)) (z : Int64) (hz : x ^^^ y = z) (r : zEnds p e below s T (mkF m (pc + 1) Ls (.long z :: st)) cs ss Q) : zEnds p e below s T (mkF m pc Ls (.long y :: .long x :: st)) cs ss Q := zstp (fun _ k => XS.lxor X.here hx rfl (hb hby hd) rfl (hz ▸ k)) r
theorem zlshl (X : Stand p l e R s m args below meth c T locs cells slots) (hx : p.tables.exec = Jvm.exec) (hby : c.code = bytes) {x : Int64} {y : Int32} (hd : decode bytes pc = .ok (.lshl, 1)) (z : Int64) (hz : x <<< (y &&& 0x3f).toInt64 = z) (r : zEnds p e below s T (mkF m (pc + 1) Ls (.long z :: st)) cs ss Q) : zEnds p e below s T (mkF m pc Ls (.int y :: .long x :: st)) cs ss Q := zstp (fun _ k => XS.lshl X.here hx rfl (hb hby hd) rfl (hz ▸ k)) r
theorem zlshr (X : Stand p l e R s m args below meth c T locs cells slots) (hx : p.tables.exec = Jvm.exec) (hby : c.code = bytes) {x : Int64} {y : Int32} (hd : decode bytes pc = .ok (.lshr, 1)) (z : Int64) (hz : x >>> (y &&& 0x3f).toInt64 = z) (r : zEnds p e below s T (mkF m (pc + 1) Ls (.long z :: st)) cs ss Q) : zEnds p e below s T (mkF m pc Ls (.int y :: .long x :: st)) cs ss Q := zstp (fun _ k => XS.lshr X.here hx rfl (hb hby hd) rfl (hz ▸ k)) r
theorem zlushr (X : Stand p l e R s m args below meth c T locs cells slots) (hx : p.tables.exec = Jvm.exec) (hby : c.code = bytes) {x : Int64} {y : Int32} (hd : decode bytes pc = .ok (.lushr, 1)) (z : Int64) (hz : (x.toUInt64 >>> (y &&& 0x3f).toInt64.toUInt64).toInt64 = z) (r : zEnds p e below s T (mkF m (pc + 1) Ls (.long z :: st)) cs ss Q) : zEnds p e below s T (mkF m pc Ls (.int y :: .long x :: st)) cs ss Q := zstp (fun _ k => XS.lushr X.here hx rfl (hb hby hd) rfl (hz ▸ k)) r
theorem zineg (X : Stand p l e R s m args below meth c T locs cells slots) (hx : p.tables.exec = Jvm.exec) (hby : c.code = bytes) {x : Int32} (hd : decode bytes pc = .ok (.ineg, 1)) (z : Int32) (hz : -x = z) (r : zEnds p e below s T (mkF m (pc + 1) Ls (.int z :: st)) cs ss Q) : zEnds p e below s T (mkF m pc Ls (.int x :: st)) cs ss Q := zstp (fun _ k => XS.ineg X.here hx rfl (hb hby hd) rfl (hz ▸ k)) r
theorem zlneg (X : Stand p l e R s m args below meth c T locs cells slots) (hx : p.tables.exec = Jvm.exec) (hby : c.code = bytes) {x : Int64} (hd : decode bytes pc = .ok (.lneg, 1)) (z : Int64) (hz : -x = z) (r : zEnds p e below s T (mkF m (pc + 1) Ls (.long z :: st)) cs ss Q) : zEnds p e below s T (mkF m pc Ls (.long x :: st)) cs ss Q := zstp (fun _ k => XS.lneg X.here hx rfl (hb hby hd) rfl (hz ▸ k)) r
theorem zidiv (X : Stand p l e R s m args below meth c T locs cells slots) (hx : p.tables.exec = Jvm.exec) (hby : c.code = bytes) {x y : Int32} (hd : decode bytes pc = .ok (.idiv, 1)) (z : Int32) (hy : y ≠ 0) (hz : x / y = z) (r : zEnds p e below s T (mkF m (pc + 1) Ls (.int z :: st)) cs ss Q) : zEnds p e below s T (mkF m pc Ls (.int y :: .int x :: st)) cs ss Q := zstp (fun _ k => XS.idiv X.here hx rfl (hb hby hd) rfl hy (hz ▸ k)) r
theorem zirem (X : Stand p l e R s m args below meth c T locs cells slots) (hx : p.tables.exec = Jvm.exec) (hby : c.code = bytes) {x y : Int32} (hd : decode bytes pc = .ok (.irem, 1)) (z : Int32) (hy : y ≠ 0) (hz : x % y = z) (r : zEnds p e below s T (mkF m (pc + 1) Ls (.int z :: st)) cs ss Q) : zEnds p e below s T (mkF m pc Ls (.int y :: .int x :: st)) cs ss Q := zstp (fun _ k => iremM X hx rfl (hb hby hd) rfl hy (hz ▸ k)) r
theorem zldiv (X : Stand p l e R s m args below meth c T locs cells slots) (hx : p.tables.exec = Jvm.exec) (hby : c.code = bytes) {x y : Int64} (hd : decode bytes pc = .ok (.ldiv, 1)) (z : Int64) (hy : y ≠ 0) (hz : x / y = z) (r : zEnds p e below s T (mkF m (pc + 1) Ls (.long z :: st)) cs ss Q) : zEnds p e below s T (mkF m pc Ls (.long y :: .long x :: st)) cs ss Q := zstp (fun _ k => XS.ldiv X.here hx rfl (hb hby hd) rfl hy (hz ▸ k)) r
theorem zlrem (X : Stand p l e R s m args below meth c T locs cells slots) (hx : p.tables.exec = Jvm.exec) (hby : c.code = bytes) {x y : Int64} (hd : decode bytes pc = .ok (.lrem, 1)) (z : Int64) (hy : y ≠ 0) (hz : x % y = z) (r : zEnds p e below s T (mkF m (pc + 1) Ls (.long z :: st)) cs ss Q) : zEnds p e below s T (mkF m pc Ls (.long y :: .long x :: st)) cs ss Q := zstp (fun _ k => XS.lrem X.here hx rfl (hb hby hd) rfl hy (by rw [lrem_mod, hz]; exact k)) r
theorem zi2l (X : Stand p l e R s m args below meth c T locs cells slots) (hx : p.tables.exec = Jvm.exec) (hby : c.code = bytes) {v : Int32} (hd : decode bytes pc = .ok (.i2l, 1)) (z : Int64) (hz : v.toInt64 = z) (r : zEnds p e below s T (mkF m (pc + 1) Ls (.long z :: st)) cs ss Q) : zEnds p e below s T (mkF m pc Ls (.int v :: st)) cs ss Q := zstp (fun _ k => XS.i2l X.here hx rfl (hb hby hd) rfl (hz ▸ k)) r
theorem zl2i (X : Stand p l e R s m args below meth c T locs cells slots) (hx : p.tables.exec = Jvm.exec) (hby : c.code = bytes) {v : Int64} (hd : decode bytes pc = .ok (.l2i, 1)) (z : Int32) (hz : v.toInt32 = z) (r : zEnds p e below s T (mkF m (pc + 1) Ls (.int z :: st)) cs ss Q) : zEnds p e below s T (mkF m pc Ls (.long v :: st)) cs ss Q := zstp (fun _ k => XS.l2i X.here hx rfl (hb hby hd) rfl (hz ▸ k)) r
theorem zi2b (X : Stand p l e R s m args below meth c T locs cells slots) (hx : p.tables.exec = Jvm.exec) (hby : c.code = bytes) {v : Int32} (hd : decode bytes pc = .ok (.i2b, 1)) (z : Int32) (hz : v.toInt8.toInt32 = z) (r : zEnds p e below s T (mkF m (pc + 1) Ls (.int z :: st)) cs ss Q) : zEnds p e below s T (mkF m pc Ls (.int v :: st)) cs ss Q := zstp (fun _ k => XS.i2b X.here hx rfl (hb hby hd) rfl (hz ▸ k)) r
theorem zi2c (X : Stand p l e R s m args below meth c T locs cells slots) (hx : p.tables.exec = Jvm.exec) (hby : c.code = bytes) {v : Int32} (hd : decode bytes pc = .ok (.i2c, 1)) (z : Int32) (hz : v.toUInt32.toUInt16.toUInt32.toInt32 = z) (r : zEnds p e below s T (mkF m (pc + 1) Ls (.int z :: st)) cs ss Q) : zEnds p e below s T (mkF m pc Ls (.int v :: st)) cs ss Q := zstp (fun _ k => XS.i2c X.here hx rfl (hb hby hd) rfl (hz ▸ k)) r
theorem zi2s (X : Stand p l e R s m args below meth c T locs cells slots) (hx : p.tables.exec = Jvm.exec) (hby : c.code = bytes) {v : Int32} (hd : decode bytes pc = .ok (.i2s, 1)) (z : Int32) (hz : v.toInt16.toInt32 = z) (r : zEnds p e below s T (mkF m (pc + 1) Ls (.int z :: st)) cs ss Q) : zEnds p e below s T (mkF m pc Ls (.int v :: st)) cs ss Q := zstp (fun _ k => XS.i2s X.here hx rfl (hb hby hd) rfl (hz ▸ k)) r
theorem zlcmp (X : Stand p l e R s m args below meth c T locs cells slots) (hx : p.tables.exec = Jvm.exec) (hby : c.code = bytes) {x y : Int64} (hd : decode bytes pc = .ok (.lcmp, 1)) (z : Int32) (hz : lcmpW x y = z) (r : zEnds p e below s T (mkF m (pc + 1) Ls (.int z :: st)) cs ss Q) : zEnds p e below s T (mkF m pc Ls (.long y :: .long x :: st)) cs ss Q := zstp (fun _ k => XS.lcmp X.here hx rfl (hb hby hd) rfl (by subst hz; exact k)) r
theorem zdup (X : Stand p l e R s m args below meth c T locs cells slots) (hx : p.tables.exec = Jvm.exec) (hby : c.code = bytes) {x : Value} (hd : decode bytes pc = .ok (.dup, 1)) (hc : x.category = 1) (r : zEnds p e below s T (mkF m (pc + 1) Ls (x :: x :: st)) cs ss Q) : zEnds p e below s T (mkF m pc Ls (x :: st)) cs ss Q := zstp (fun _ k => XS.dup X.here hx rfl (hb hby hd) rfl hc k) r
theorem zpop (X : Stand p l e R s m args below meth c T locs cells slots) (hx : p.tables.exec = Jvm.exec) (hby : c.code = bytes) {x : Value} (hd : decode bytes pc = .ok (.pop, 1)) (hc : x.category = 1) (r : zEnds p e below s T (mkF m (pc + 1) Ls st) cs ss Q) : zEnds p e below s T (mkF m pc Ls (x :: st)) cs ss Q := zstp (fun _ k => XS.pop X.here hx rfl (hb hby hd) rfl hc k) r
theorem zdupX1 (X : Stand p l e R s m args below meth c T locs cells slots) (hx : p.tables.exec = Jvm.exec) (hby : c.code = bytes) {x y : Value} (hd : decode bytes pc = .ok (.dup_x1, 1)) (hc : x.category = 1) (hc' : y.category = 1) (r : zEnds p e below s T (mkF m (pc + 1) Ls (x :: y :: x :: st)) cs ss Q) : zEnds p e below s T (mkF m pc Ls (x :: y :: st)) cs ss Q := zstp (fun _ k => XS.dupX1 X.here hx rfl (hb hby hd) rfl hc hc' k) r
theorem ziinc (X : Stand p l e R s m args below meth c T locs cells slots) (hx : p.tables.exec = Jvm.exec) (hby : c.code = bytes) {k : Nat} {i : Int} {x : Int32} (hd : decode bytes pc = .ok (.iinc k i, 3)) (L' : Array Slot) (hl : Ls[k]? = some (.val (.int x))) (hl' : storeLocals Ls k (.int (x + Int32.ofInt i)) = some L') (r : zEnds p e below s T (mkF m (pc + 3) L' st) cs ss Q) : zEnds p e below s T (mkF m pc Ls st) cs ss Q := zstp (fun _ k => XS.iinc X.here hx rfl (hb hby hd) hl hl' k) r
theorem zgoto (X : Stand p l e R s m args below meth c T locs cells slots) (hx : p.tables.exec = Jvm.exec) (hby : c.code = bytes) {o : Int} (hd : decode bytes pc = .ok (.goto o, 3)) (pc' : Nat) (ho : 0 ≤ (pc : Int) + o) (hp : ((pc : Int) + o).toNat = pc') (r : zEnds p e below s T (mkF m pc' Ls st) cs ss Q) : zEnds p e below s T (mkF m pc Ls st) cs ss Q := zstp (fun _ k => XS.goto X.here hx rfl rfl (hb hby hd) ho hp k) r
theorem zifYes (X : Stand p l e R s m args below meth c T locs cells slots) (hx : p.tables.exec = Jvm.exec) (hby : c.code = bytes) {cd : ClassFile.Cond} {x : Int32} {o : Int} (hd : decode bytes pc = .ok (.ifCond cd o, 3)) (pc' : Nat) (hc : ifCond.holds cd x = true) (ho : 0 ≤ (pc : Int) + o) (hp : ((pc : Int) + o).toNat = pc') (r : zEnds p e below s T (mkF m pc' Ls st) cs ss Q) : zEnds p e below s T (mkF m pc Ls (.int x :: st)) cs ss Q := zstp (fun _ k => XS.ifYes X.here hx rfl rfl (hb hby hd) rfl hc ho hp k) r
theorem zifNo (X : Stand p l e R s m args below meth c T locs cells slots) (hx : p.tables.exec = Jvm.exec) (hby : c.code = bytes) {cd : ClassFile.Cond} {x : Int32} {o : Int} (hd : decode bytes pc = .ok (.ifCond cd o, 3)) (hc : ifCond.holds cd x = false) (r : zEnds p e below s T (mkF m (pc + 3) Ls st) cs ss Q) : zEnds p e below s T (mkF m pc Ls (.int x :: st)) cs ss Q := zstp (fun _ k => XS.ifNo X.here hx rfl (hb hby hd) rfl hc k) r
theorem zicmpYes (X : Stand p l e R s m args below meth c T locs cells slots) (hx : p.tables.exec = Jvm.exec) (hby : c.code = bytes) {cd : ClassFile.Cond} {x y : Int32} {o : Int} (hd : decode bytes pc = .ok (.if_icmp cd o, 3)) (pc' : Nat) (hc : if_icmp.holds cd x y = true) (ho : 0 ≤ (pc : Int) + o) (hp : ((pc : Int) + o).toNat = pc') (r : zEnds p e below s T (mkF m pc' Ls st) cs ss Q) : zEnds p e below s T (mkF m pc Ls (.int y :: .int x :: st)) cs ss Q := zstp (fun _ k => XS.icmpYes X.here hx rfl rfl (hb hby hd) rfl hc ho hp k) r
theorem zicmpNo (X : Stand p l e R s m args below meth c T locs cells slots) (hx : p.tables.exec = Jvm.exec) (hby : c.code = bytes) {cd : ClassFile.Cond} {x y : Int32} {o : Int} (hd : decode bytes pc = .ok (.if_icmp cd o, 3)) (hc : if_icmp.holds cd x y = false) (r : zEnds p e below s T (mkF m (pc + 3) Ls st) cs ss Q) : zEnds p e below s T (mkF m pc Ls (.int y :: .int x :: st)) cs ss Q := zstp (fun _ k => XS.icmpNo X.here hx rfl (hb hby hd) rfl hc k) r
theorem zifnullYes (X : Stand p l e R s m args below meth c T locs cells slots) (hx : p.tables.exec = Jvm.exec) (hby : c.code = bytes) {o : Int} (hd : decode bytes pc = .ok (.ifnull o, 3)) (pc' : Nat) (ho : 0 ≤ (pc : Int) + o) (hp : ((pc : Int) + o).toNat = pc') (r : zEnds p e below s T (mkF m pc' Ls st) cs ss Q) : zEnds p e below s T (mkF m pc Ls (.null :: st)) cs ss Q := zstp (fun _ k => XS.ifnullYes X.here hx rfl rfl (hb hby hd) rfl ho hp k) r
theorem zifnullNo (X : Stand p l e R s m args below meth c T locs cells slots) (hx : p.tables.exec = Jvm.exec) (hby : c.code = bytes) {b : Addr} {o : Int} (hd : decode bytes pc = .ok (.ifnull o, 3))  (r : zEnds p e below s T (mkF m (pc + 3) Ls st) cs ss Q) : zEnds p e below s T (mkF m pc Ls (.ref b :: st)) cs ss Q := zstp (fun _ k => XS.ifnullNo X.here hx rfl (hb hby hd) rfl k) r
theorem zifnonnullYes (X : Stand p l e R s m args below meth c T locs cells slots) (hx : p.tables.exec = Jvm.exec) (hby : c.code = bytes) {b : Addr} {o : Int} (hd : decode bytes pc = .ok (.ifnonnull o, 3)) (pc' : Nat) (ho : 0 ≤ (pc : Int) + o) (hp : ((pc : Int) + o).toNat = pc') (r : zEnds p e below s T (mkF m pc' Ls st) cs ss Q) : zEnds p e below s T (mkF m pc Ls (.ref b :: st)) cs ss Q := zstp (fun _ k => XS.ifnonnullYes X.here hx rfl rfl (hb hby hd) rfl ho hp k) r
theorem zifnonnullNo (X : Stand p l e R s m args below meth c T locs cells slots) (hx : p.tables.exec = Jvm.exec) (hby : c.code = bytes) {o : Int} (hd : decode bytes pc = .ok (.ifnonnull o, 3))  (r : zEnds p e below s T (mkF m (pc + 3) Ls st) cs ss Q) : zEnds p e below s T (mkF m pc Ls (.null :: st)) cs ss Q := zstp (fun _ k => XS.ifnonnullNo X.here hx rfl (hb hby hd) rfl k) r
theorem zacmp (X : Stand p l e R s m args below meth c T locs cells slots) (hx : p.tables.exec = Jvm.exec) (hby : c.code = bytes) {cd : ACond} {x y : Value} {o : Int} (hd : decode bytes pc = .ok (.if_acmp cd o, 3)) (pc' : Nat) (same : Bool) (h1 : x.isRef = true) (h2 : y.isRef = true) (hq : decide (x = y) = same) (ho : 0 ≤ (pc : Int) + o) (hp : pc' = if acV cd same = true then ((pc : Int) + o).toNat else pc + 3) (r : zEnds p e below s T (mkF m pc' Ls st) cs ss Q) : zEnds p e below s T (mkF m pc Ls (y :: x :: st)) cs ss Q := zstp (fun _ k => Jvm.RoadKit.acmp X hx rfl h1 h2 rfl (hb hby hd) rfl hq ho hp k) r
theorem ztswIn (X : Stand p l e R s m args below meth c T locs cells slots) (hx : p.tables.exec = Jvm.exec) (hby : c.code = bytes) {dflt low high o : Int} {offs : Array Int} {len : Nat} {i : Int32} (hd : decode bytes pc = .ok (.tableswitch dflt low high offs, len)) (pc' : Nat) (hin : ¬ (i.toInt < low ∨ i.toInt > high)) (hoff : offs[(i.toInt - low).toNat]? = some o) (ho : 0 ≤ (pc : Int) + o) (hp : ((pc : Int) + o).toNat = pc') (r : zEnds p e below s T (mkF m pc' Ls st) cs ss Q) : zEnds p e below s T (mkF m pc Ls (.int i :: st)) cs ss Q := zstp (fun _ k => XS.tswIn X.here hx rfl rfl (hb hby hd) rfl hin hoff ho hp k) r
theorem ztswOut (X : Stand p l e R s m args below meth c T locs cells slots) (hx : p.tables.exec = Jvm.exec) (hby : c.code = bytes) {dflt low high : Int} {offs : Array Int} {len : Nat} {i : Int32} (hd : decode bytes pc = .ok (.tableswitch dflt low high offs, len)) (pc' : Nat) (hout : i.toInt < low ∨ i.toInt > high) (ho : 0 ≤ (pc : Int) + dflt) (hp : ((pc : Int) + dflt).toNat = pc') (r : zEnds p e below s T (mkF m pc' Ls st) cs ss Q) : zEnds p e below s T (mkF m pc Ls (.int i :: st)) cs ss Q := zstp (fun _ k => XS.tswOut X.here hx rfl rfl (hb hby hd) rfl hout ho hp k) r
theorem zldcI (X : Stand p l e R s m args below meth c T locs cells slots) (hx : p.tables.exec = Jvm.exec) (hby : c.code = bytes) {own : String} {i : Nat} (hd : decode bytes pc = .ok (.ldc i, 2)) (z : Int32) (hZ : Z.Warmed39 s.vm) (hown : s.vm.findClass own = some m.cls) (w : (Jvm.Cond.constant own i z).before a0 Z = true) (r : zEnds p e below s T (mkF m (pc + 2) Ls (.int z :: st)) cs ss Q) : zEnds p e below s T (mkF m pc Ls st) cs ss Q := zstp (fun _ k => X.ldcInt hx hown (mvT hZ w) (g := mkF m pc Ls st) rfl (hb hby hd) _ k) r
theorem zldcwI (X : Stand p l e R s m args below meth c T locs cells slots) (hx : p.tables.exec = Jvm.exec) (hby : c.code = bytes) {own : String} {i : Nat} (hd : decode bytes pc = .ok (.ldc_w i, 3)) (z : Int32) (hZ : Z.Warmed39 s.vm) (hown : s.vm.findClass own = some m.cls) (w : (Jvm.Cond.constant own i z).before a0 Z = true) (r : zEnds p e below s T (mkF m (pc + 3) Ls (.int z :: st)) cs ss Q) : zEnds p e below s T (mkF m pc Ls st) cs ss Q := zstp (fun _ k => X.ldcwInt hx hown (mvT hZ w) (g := mkF m pc Ls st) rfl (hb hby hd) _ k) r
theorem zldc2J (X : Stand p l e R s m args below meth c T locs cells slots) (hx : p.tables.exec = Jvm.exec) (hby : c.code = bytes) {own : String} {i : Nat} (hd : decode bytes pc = .ok (.ldc2_w i, 3)) (z : Int64) (hZ : Z.Warmed39 s.vm) (hown : s.vm.findClass own = some m.cls) (w : (Jvm.Cond.constantLong own i z).before a0 Z = true) (r : zEnds p e below s T (mkF m (pc + 3) Ls (.long z :: st)) cs ss Q) : zEnds p e below s T (mkF m pc Ls st) cs ss Q := zstp (fun _ k => X.ldc2Long hx hown (mvT hZ w) (g := mkF m pc Ls st) rfl (hb hby hd) _ k) r
/-! steps that hand back a new state -/
theorem zgetstat (X : Stand p l e R s m args below meth c T locs cells slots) (hx : p.tables.exec = Jvm.exec) (hby : c.code = bytes) {own R0 O n d host : String} {i : Nat} (hd : decode bytes pc = .ok (.getstatic i, 3)) (hZ : Z.Warmed39 s.vm) (hown : s.vm.findClass own = some m.cls) (w : (Jvm.Cond.fieldLink own i R0 n d).before a0 Z = true ∨ (Jvm.Cond.fieldLinkNest own i R0 n d host).before a0 Z = true) (via : Via Z R0 O n d) (eT : T.heap = h) {v : Value} (F : Sta Z h O n d v)
    (r : ∀ T', Stand p l e R s m args below meth c T' locs cells slots → T'.heap = h → zEnds p e below s T' (mkF m (pc + 3) Ls (v :: st)) cs ss Q) : zEnds p e below s T (mkF m pc Ls st) cs ss Q := by
  obtain ⟨T', X', e', k⟩ := getS2 X hx hZ hown w via eT F (g := mkF m pc Ls st) rfl (hb hby hd)
  exact zstp k (r T' X' e')
theorem zgetfld (X : Stand p l e R s m args below meth c T locs cells slots) (hx : p.tables.exec = Jvm.exec) (hby : c.code = bytes) {own R0 O n d host : String} {i : Nat} (hd : decode bytes pc = .ok (.getfield i, 3)) (hZ : Z.Warmed39 s.vm) (hown : s.vm.findClass own = some m.cls) (w : (Jvm.Cond.fieldLink own i R0 n d).before a0 Z = true ∨ (Jvm.Cond.fieldLinkNest own i R0 n d host).before a0 Z = true) (via : Via Z R0 O n d) (eT : T.heap = h) {a : Addr} {v : Value} (F : Fld Z h a O n d v)
    (r : ∀ T', Stand p l e R s m args below meth c T' locs cells slots → T'.heap = h → zEnds p e below s T' (mkF m (pc + 3) Ls (v :: st)) cs ss Q) : zEnds p e below s T (mkF m pc Ls (.ref a :: st)) cs ss Q := by
  obtain ⟨T', X', e', k⟩ := getF X hx hZ hown w via eT F (g := mkF m pc Ls (.ref a :: st)) rfl rfl (hb hby hd)
  exact zstp k (r T' X' e')
theorem zputfld (X : Stand p l e R s m args below meth c T locs cells slots) (hx : p.tables.exec = Jvm.exec) (hby : c.code = bytes) {own R0 O n d host C : String} {i kk : Nat} {ty : FieldType} (hd : decode bytes pc = .ok (.putfield i, 3)) (hZ : Z.Warmed39 s.vm) (hown : s.vm.findClass own = some m.cls) (w : (Jvm.Cond.fieldLink own i R0 n d).before a0 Z = true ∨ (Jvm.Cond.fieldLinkNest own i R0 n d host).before a0 Z = true) (via : Via Z R0 O n d) (eT : T.heap = h) {a : Addr} {v old : Value} (F : Fld Z h a O n d old) (E : Exa Z h a C) (L : (Jvm.Cond.lays C O n d).before a0 Z = true ∨ ((Jvm.Cond.laysFinal C O n d).before a0 Z = true ∧ own = O ∧ meth.name = "<init>")) (wi : (Jvm.Cond.instantiable C kk).before a0 Z = true) (hty : parseFieldDescriptor d = some ty) (hn : narrow ty v = v) (hf : fits ty v = true)
    (r : ∀ T' h', Stand p l e R s m args below meth c T' (locs ++ [⟨a, Jvm.RoadKit.slotOf Z O n d⟩]) cells slots → T'.heap = h' → Wr h h' a (Jvm.RoadKit.slotOf Z O n d) v → zEnds p e below s T' (mkF m (pc + 3) Ls st) cs ss Q) : zEnds p e below s T (mkF m pc Ls (v :: .ref a :: st)) cs ss Q := by
  obtain ⟨T', h', X', e', W, k⟩ := putF X hx hZ hown w via eT F E L wi hty hn hf (g := mkF m pc Ls (v :: .ref a :: st)) rfl rfl (hb hby hd)
  exact zstp k (r T' h' X' e' W)
theorem znewobj (X : Stand p l e R s m args below meth c T locs cells slots) (hx : p.tables.exec = Jvm.exec) (hby : c.code = bytes) {own C : String} {i n : Nat} (hd : decode bytes pc = .ok (.new i, 3)) (hZ : Z.Warmed39 s.vm) (hown : s.vm.findClass own = some m.cls) (w : (Jvm.Cond.classLink own i C).before a0 Z = true) (wi : (Jvm.Cond.instantiable C n).before a0 Z = true) (wz : (Jvm.Cond.initialized C).before a0 Z = true) (eT : T.heap = h) (hc : cells + 1 ≤ R.cells) (hl : slots + n ≤ R.slots)
    (r : ∀ T' h' b, Stand p l e R s m args below meth c T' locs (cells + 1) (slots + n) → T'.heap = h' → b = h.size → Ext h h' → Exa Z h' b C → (∀ {O nm d : String} {ty : FieldType}, Laid Z a0 C O nm d → parseFieldDescriptor d = some ty → Fld Z h' b O nm d (defaultValue ty)) → zEnds p e below s T' (mkF m (pc + 3) Ls (.ref b :: st)) cs ss Q) : zEnds p e below s T (mkF m pc Ls st) cs ss Q := by
  obtain ⟨T', h', X', e', E, A, D, -, k⟩ := newO X hx hZ hown w wi wz eT (g := mkF m pc Ls st) rfl (hb hby hd) hc hl
  exact zstp k (r T' h' _ X' e' rfl E A D)
theorem zobjinit (X : Stand p l e R s m args below meth c T locs cells slots) (hx : p.tables.exec = Jvm.exec) (hby : c.code = bytes) {own : String} {i : Nat} (hd : decode bytes pc = .ok (.invokespecial i, 3)) (hZ : Z.Warmed39 s.vm) (hown : s.vm.findClass own = some m.cls) (w1 : (Jvm.Cond.methodLink own i Lib.objectInit).before a0 Z = true) (w2 : (Jvm.Cond.instanceMethod Lib.objectInit).before a0 Z = true) (w3 : (Jvm.Cond.code Lib.objectInit ⟨#[0xb1]⟩ 1 none).before a0 Z = true) (eT : T.heap = h) (hml : Ls.size = c.maxLocals) (W : Nat) (hW : (st.map fun v => v.category).sum ≤ W) (hf : 1 ≤ R.frames) (hl : W + 12 ≤ R.locals) {a : Addr}
    (r : ∀ T', Stand p l e R s m args below meth c T' locs cells slots → T'.heap = h → zEnds p e below s T' (mkF m (pc + 3) Ls st) cs ss Q) : zEnds p e below s T (mkF m pc Ls (.ref a :: st)) cs ss Q := by
  obtain ⟨T', X', e', k⟩ := initO X hx hZ hown w1 w2 w3 eT (g := mkF m pc Ls (.ref a :: st)) rfl hml rfl (hb hby hd) hf (W := W) (by show 2 * 0 + _ ≤ _; rw [Nat.mul_zero, Nat.zero_add]; exact hW) hl
  exact zstp k (r T' X' e')
/-- the array at a holds just these values -/
def zLst (Z : State) (h : Heap) (a : Addr) (ty : FieldType) (vs : List Value) : Prop := ∃ cl : Cell, Arr Z h a cl ty ∧ cl.slots.toList = vs
theorem zLst.ext {h' : Heap} {a : Addr} {ty : FieldType} {vs : List Value} (F : zLst Z h a ty vs) (E : Ext h h') : zLst Z h' a ty vs := by obtain ⟨c, A, r⟩ := F; exact ⟨c, A.ext E, r⟩
theorem zLst.lt {a : Addr} {ty : FieldType} {vs : List Value} (F : zLst Z h a ty vs) : a < h.size := by obtain ⟨c, A, r⟩ := F; exact A.lt
theorem zLst.other {h' : Heap} {a b : Addr} {sl : Nat} {v : Value} {ty : FieldType} {vs : List Value} (F : zLst Z h b ty vs) (W : Wr h h' a sl v) (q : b ≠ a) : zLst Z h' b ty vs := by obtain ⟨c, A, r⟩ := F; exact ⟨c, A.other W q, r⟩
theorem zLst.keep {h' : Heap} {a : Addr} {ty : FieldType} {vs : List Value} {ws : List Addr} (F : zLst Z h a ty vs) (K : Keep h h' ws) (q : a ∉ ws) : zLst Z h' a ty vs := by obtain ⟨c, A, r⟩ := F; exact ⟨c, ⟨K.2.1 a c A.1 q, A.2⟩, r⟩
theorem zLst.same {h' : Heap} {a : Addr} {sl : Nat} {v : Value} {ty : FieldType} {vs : List Value} (F : zLst Z h a ty vs) (W : Wr h h' a sl v) : zLst Z h' a ty (vs.set sl v) := by
  obtain ⟨c, A, r⟩ := F
  refine ⟨_, A.same W, ?_⟩
  show (c.slots.setIfInBounds sl v).toList = _
  rw [Array.toList_setIfInBounds, r]
theorem zlst_in {cl : Cell} {vs : List Value} {j : Int32} (r : cl.slots.toList = vs) (hj : ¬ j < 0) (hlt : j.toNatClampNeg < vs.length) : ¬ (j < 0 ∨ cl.slots.size ≤ j.toNatClampNeg) := by
  rintro (q | q)
  · exact hj q
  · rw [← r, Array.length_toList] at hlt; exact absurd q (Nat.not_le.mpr hlt)
theorem zlst_at {cl : Cell} {vs : List Value} {k : Nat} {v : Value} (r : cl.slots.toList = vs) (hv : vs[k]? = some v) : cl.slots[k]? = some v := by
  rw [← r, Array.getElem?_toList] at hv; exact hv
theorem znewprim (X : Stand p l e R s m args below meth c T locs cells slots) (hx : p.tables.exec = Jvm.exec) (hby : c.code = bytes) {aty : ArrayType} (hd : decode bytes pc = .ok (.newarray aty, 2)) (hZ : Z.Warmed39 s.vm) (w : (Jvm.Cond.arrayClass (newarray.typeOf aty)).before a0 Z = true) (eT : T.heap = h) {n : Int32} (hn : ¬ n < 0) (cap : Nat) (hcap : n.toNatClampNeg ≤ cap) (hb8 : cap * 8 ≤ 536870912) (hc : cells + 1 ≤ R.cells) (hl : slots + cap ≤ R.slots)
    (r : ∀ T' h' b, Stand p l e R s m args below meth c T' locs (cells + 1) (slots + cap) → T'.heap = h' → b = h.size → Ext h h' → zLst Z h' b (newarray.typeOf aty) (List.replicate n.toNatClampNeg (defaultValue (newarray.typeOf aty))) → zEnds p e below s T' (mkF m (pc + 2) Ls (.ref b :: st)) cs ss Q) : zEnds p e below s T (mkF m pc Ls (.int n :: st)) cs ss Q := by
  obtain ⟨T', h', cA, X', e', E, A, k⟩ := newP X hx hZ w eT (g := mkF m pc Ls (.int n :: st)) rfl (hb hby hd) rfl hn hcap hb8 hc hl
  exact zstp k (r T' h' _ X' e' rfl E ⟨_, A, by simp [newA]⟩)
theorem zbaload (X : Stand p l e R s m args below meth c T locs cells slots) (hx : p.tables.exec = Jvm.exec) (hby : c.code = bytes) (hd : decode bytes pc = .ok (.baload, 1)) (hZ : Z.Warmed39 s.vm) (eT : T.heap = h) {a : Addr} {vs : List Value} (A : zLst Z h a .byte vs) {j : Int32} (hj : ¬ j < 0) {v : Value} (hv : vs[j.toNatClampNeg]? = some v)
    (r : zEnds p e below s T (mkF m (pc + 1) Ls (v :: st)) cs ss Q) : zEnds p e below s T (mkF m pc Ls (.int j :: .ref a :: st)) cs ss Q := by
  obtain ⟨cl, A, q⟩ := A
  exact zstp (fun _ k => X.baloadBytes hx (by rw [eT]; exact A.1) (State.isArrayOf_alike hZ.alike A.2.1) A.2.2 (zlst_in q hj (List.getElem?_eq_some_iff.mp hv).1) (zlst_at q hv) (g := mkF m pc Ls (.int j :: .ref a :: st)) rfl rfl (hb hby hd) _ k) r
theorem zlaload (X : Stand p l e R s m args below meth c T locs cells slots) (hx : p.tables.exec = Jvm.exec) (hby : c.code = bytes) (hd : decode bytes pc = .ok (.laload, 1)) (hZ : Z.Warmed39 s.vm) (eT : T.heap = h) {a : Addr} {vs : List Value} (A : zLst Z h a .long vs) {j : Int32} (hj : ¬ j < 0) {v : Value} (hv : vs[j.toNatClampNeg]? = some v)
    (r : zEnds p e below s T (mkF m (pc + 1) Ls (v :: st)) cs ss Q) : zEnds p e below s T (mkF m pc Ls (.int j :: .ref a :: st)) cs ss Q := by
  obtain ⟨cl, A, q⟩ := A
  exact zstp (fun _ k => X.laload hx (by rw [eT]; exact A.1) (State.isArrayOf_alike hZ.alike A.2.1) A.2.2 (zlst_in q hj (List.getElem?_eq_some_iff.mp hv).1) (zlst_at q hv) (g := mkF m pc Ls (.int j :: .ref a :: st)) rfl rfl (hb hby hd) _ k) r
theorem zaaload (X : Stand p l e R s m args below meth c T locs cells slots) (hx : p.tables.exec = Jvm.exec) (hby : c.code = bytes) (hd : decode bytes pc = .ok (.aaload, 1)) (hZ : Z.Warmed39 s.vm) (eT : T.heap = h) {a : Addr} {vs : List Value} {ty : FieldType} (hty : ty.isReference = true) (A : zLst Z h a ty vs) {j : Int32} (hj : ¬ j < 0) {v : Value} (hv : vs[j.toNatClampNeg]? = some v)
    (r : zEnds p e below s T (mkF m (pc + 1) Ls (v :: st)) cs ss Q) : zEnds p e below s T (mkF m pc Ls (.int j :: .ref a :: st)) cs ss Q := by
  obtain ⟨cl, A, q⟩ := A
  exact zstp (fun _ k => X.aaload hx (by rw [eT]; exact A.1) (State.isArrayOf_alike hZ.alike A.2.1) hty A.2.2 (zlst_in q hj (List.getElem?_eq_some_iff.mp hv).1) (zlst_at q hv) (g := mkF m pc Ls (.int j :: .ref a :: st)) rfl rfl (hb hby hd) _ k) r
theorem zialoadC (X : Stand p l e R s m args below meth c T locs cells slots) (hx : p.tables.exec = Jvm.exec) (hby : c.code = bytes) (hd : decode bytes pc = .ok (.iaload, 1)) (hZ : Z.Warmed39 s.vm) (eT : T.heap = h) {a : Addr} {cl : Cell} (A : Arr Z h a cl .int) {j : Int32} {v : Value} (hv : ¬ (j < 0 ∨ cl.slots.size ≤ j.toNatClampNeg) ∧ cl.slots[j.toNatClampNeg]? = some v)
    (r : zEnds p e below s T (mkF m (pc + 1) Ls (v :: st)) cs ss Q) : zEnds p e below s T (mkF m pc Ls (.int j :: .ref a :: st)) cs ss Q :=
  zstp (fun _ k => X.iaload hx (by rw [eT]; exact A.1) (State.isArrayOf_alike hZ.alike A.2.1) A.2.2 hv.1 hv.2 (g := mkF m pc Ls (.int j :: .ref a :: st)) rfl rfl (hb hby hd) _ k) r
theorem zalenC (X : Stand p l e R s m args below meth c T locs cells slots) (hx : p.tables.exec = Jvm.exec) (hby : c.code = bytes) (hd : decode bytes pc = .ok (.arraylength, 1)) (hZ : Z.Warmed39 s.vm) (eT : T.heap = h) {a : Addr} {cl : Cell} {ty : FieldType} (A : Arr Z h a cl ty) (z : Int32) (hz : cl.slots.size.toInt32 = z)
    (r : zEnds p e below s T (mkF m (pc + 1) Ls (.int z :: st)) cs ss Q) : zEnds p e below s T (mkF m pc Ls (.ref a :: st)) cs ss Q :=
  zstp (fun _ k => X.arraylength hx (by rw [eT]; exact A.1) (State.isArrayOf_alike hZ.alike A.2.1) (g := mkF m pc Ls (.ref a :: st)) rfl rfl (hb hby hd) _ (hz ▸ k)) r
theorem zbastore (X : Stand p l e R s m args below meth c T locs cells slots) (hx : p.tables.exec = Jvm.exec) (hby : c.code = bytes) (hd : decode bytes pc = .ok (.bastore, 1)) (hZ : Z.Warmed39 s.vm) (eT : T.heap = h) {a : Addr} {vs : List Value} (A : zLst Z h a .byte vs) {j x : Int32} (hj : ¬ j < 0) (hlt : j.toNatClampNeg < vs.length) (x' : Int32) (hx' : nar .byte x = x')
    (r : ∀ T' h', Stand p l e R s m args below meth c T' (locs ++ [⟨a, j.toNatClampNeg⟩]) cells slots → T'.heap = h' → Wr h h' a j.toNatClampNeg (.int x') → zLst Z h' a .byte (vs.set j.toNatClampNeg (.int x')) → zEnds p e below s T' (mkF m (pc + 1) Ls st) cs ss Q) : zEnds p e below s T (mkF m pc Ls (.int x :: .int j :: .ref a :: st)) cs ss Q := by
  obtain ⟨cl, A', q⟩ := A
  subst hx'
  obtain ⟨T', h', X', e', W, k⟩ := stB X hx hZ eT A' (j := j) (x := x) (zlst_in q hj hlt) (g := mkF m pc Ls (.int x :: .int j :: .ref a :: st)) rfl rfl (hb hby hd)
  exact zstp k (r T' h' X' e' W (zLst.same ⟨cl, A', q⟩ W))
theorem zlastore (X : Stand p l e R s m args below meth c T locs cells slots) (hx : p.tables.exec = Jvm.exec) (hby : c.code = bytes) (hd : decode bytes pc = .ok (.lastore, 1)) (hZ : Z.Warmed39 s.vm) (eT : T.heap = h) {a : Addr} {vs : List Value} (A : zLst Z h a .long vs) {j : Int32} {x : Int64} (hj : ¬ j < 0) (hlt : j.toNatClampNeg < vs.length)
    (r : ∀ T' h', Stand p l e R s m args below meth c T' (locs ++ [⟨a, j.toNatClampNeg⟩]) cells slots → T'.heap = h' → Wr h h' a j.toNatClampNeg (.long x) → zLst Z h' a .long (vs.set j.toNatClampNeg (.long x)) → zEnds p e below s T' (mkF m (pc + 1) Ls st) cs ss Q) : zEnds p e below s T (mkF m pc Ls (.long x :: .int j :: .ref a :: st)) cs ss Q := by
  obtain ⟨cl, A', q⟩ := A
  obtain ⟨T', h', X', e', W, k⟩ := stJ X hx hZ eT A' (j := j) (x := x) (zlst_in q hj hlt) (g := mkF m pc Ls (.long x :: .int j :: .ref a :: st)) rfl rfl (hb hby hd)
  exact zstp k (r T' h' X' e' W (zLst.same ⟨cl, A', q⟩ W))
/-- an array of references over C that holds just these values -/
def zLstR (Z : State) (h : Heap) (a : Addr) (C : String) (vs : List Value) : Prop := ∃ cl : Cell, Arr Z h a cl (.object C) ∧ Ovr Z cl.cls C ∧ cl.slots.toList = vs
theorem zLstR.lst {a : Addr} {C : String} {vs : List Value} (F : zLstR Z h a C vs) : zLst Z h a (.object C) vs := by obtain ⟨c, A, -, r⟩ := F; exact ⟨c, A, r⟩
theorem zLstR.ext {h' : Heap} {a : Addr} {C : String} {vs : List Value} (F : zLstR Z h a C vs) (E : Ext h h') : zLstR Z h' a C vs := by obtain ⟨c, A, r⟩ := F; exact ⟨c, A.ext E, r⟩
theorem zLstR.lt {a : Addr} {C : String} {vs : List Value} (F : zLstR Z h a C vs) : a < h.size := by obtain ⟨c, A, r⟩ := F; exact A.lt
theorem zLstR.other {h' : Heap} {a b : Addr} {sl : Nat} {v : Value} {C : String} {vs : List Value} (F : zLstR Z h b C vs) (W : Wr h h' a sl v) (q : b ≠ a) : zLstR Z h' b C vs := by obtain ⟨c, A, r⟩ := F; exact ⟨c, A.other W q, r⟩
theorem zLstR.keep {h' : Heap} {a : Addr} {C : String} {vs : List Value} {ws : List Addr} (F : zLstR Z h a C vs) (K : Keep h h' ws) (q : a ∉ ws) : zLstR Z h' a C vs := by obtain ⟨c, A, r⟩ := F; exact ⟨c, ⟨K.2.1 a c A.1 q, A.2⟩, r⟩
theorem zLstR.same {h' : Heap} {a : Addr} {sl : Nat} {v : Value} {C : String} {vs : List Value} (F : zLstR Z h a C vs) (W : Wr h h' a sl v) : zLstR Z h' a C (vs.set sl v) := by
  obtain ⟨c, A, O, r⟩ := F
  refine ⟨_, A.same W, O, ?_⟩
  show (c.slots.setIfInBounds sl v).toList = _
  rw [Array.toList_setIfInBounds, r]
theorem znewref (X : Stand p l e R s m args below meth c T locs cells slots) (hx : p.tables.exec = Jvm.exec) (hby : c.code = bytes) {own C : String} {i : Nat} (hd : decode bytes pc = .ok (.anewarray i, 3)) (hZ : Z.Warmed39 s.vm) (hown : s.vm.findClass own = some m.cls) (w1 : (Jvm.Cond.classLink own i C).before a0 Z = true) (w2 : (Jvm.Cond.arrayOver (.object C)).before a0 Z = true) (eT : T.heap = h) {n : Int32} (hn : ¬ n < 0) (cap : Nat) (hcap : n.toNatClampNeg ≤ cap) (hb8 : cap * 8 ≤ 536870912) (hc : cells + 1 ≤ R.cells) (hl : slots + cap ≤ R.slots)
    (r : ∀ T' h' b, Stand p l e R s m args below meth c T' locs (cells + 1) (slots + cap) → T'.heap = h' → b = h.size → Ext h h' → zLstR Z h' b C (List.replicate n.toNatClampNeg .null) → zEnds p e below s T' (mkF m (pc + 3) Ls (.ref b :: st)) cs ss Q) : zEnds p e below s T (mkF m pc Ls (.int n :: st)) cs ss Q := by
  obtain ⟨T', h', cA, X', e', E, A, O, k⟩ := newR X hx hZ hown w1 w2 eT (g := mkF m pc Ls (.int n :: st)) rfl (hb hby hd) rfl hn hcap hb8 hc hl
  exact zstp k (r T' h' _ X' e' rfl E ⟨_, A, O, by simp [newA, defaultValue]⟩)
theorem zaastore (X : Stand p l e R s m args below meth c T locs cells slots) (hx : p.tables.exec = Jvm.exec) (hby : c.code = bytes) (hd : decode bytes pc = .ok (.aastore, 1)) (hZ : Z.Warmed39 s.vm) (eT : T.heap = h) {a y : Addr} {C : String} {vs : List Value} (A : zLstR Z h a C vs) {j : Int32} (hj : ¬ j < 0) (hlt : j.toNatClampNeg < vs.length) (I : Ins Z h y C true)
    (r : ∀ T' h', Stand p l e R s m args below meth c T' (locs ++ [⟨a, j.toNatClampNeg⟩]) cells slots → T'.heap = h' → Wr h h' a j.toNatClampNeg (.ref y) → zLstR Z h' a C (vs.set j.toNatClampNeg (.ref y)) → zEnds p e below s T' (mkF m (pc + 1) Ls st) cs ss Q) : zEnds p e below s T (mkF m pc Ls (.ref y :: .int j :: .ref a :: st)) cs ss Q := by
  obtain ⟨cl, A', O, q⟩ := A
  obtain ⟨T', h', X', e', W, k⟩ := stR X hx hZ eT A' (j := j) (v := .ref y) (zlst_in q hj hlt) rfl (Sto.of A' O I) (g := mkF m pc Ls (.ref y :: .int j :: .ref a :: st)) rfl rfl (hb hby hd)
  exact zstp k (r T' h' X' e' W (zLstR.same ⟨cl, A', O, q⟩ W))
/-! zcalls -/
theorem zcalls (X : Stand p l e R s m args below meth c T locs cells slots) (hx : p.tables.exec = Jvm.exec) (hby : c.code = bytes) {own : String} {i : Nat} {y : MethodName} {by' : ByteArray} {maxL : Nat} {rt : Option FieldType} {rm : Room} {argsL : List Value} {Q' : Option Value → Heap → List Loc → Prop} (hd : decode bytes pc = .ok (.invokestatic i, 3)) (hZ : Z.Warmed39 s.vm) (hown : s.vm.findClass own = some m.cls) (w1 : (Jvm.Cond.methodLink own i y).before a0 Z = true) (w2 : (Jvm.Cond.static y).before a0 Z = true) (w3 : (Jvm.Cond.initialized y.cls).before a0 Z = true) (w4 : (Jvm.Cond.code y by' maxL rt).before a0 Z = true) (eT : T.heap = h)
    (con : zCon l Z y by' maxL rt [] rm argsL.toArray h Q') (hy : y.cls ≠ "java/lang/invoke/MethodHandle" ∧ y.cls ≠ "java/lang/invoke/VarHandle") (hml : Ls.size = c.maxLocals) (W : Nat) (hW : (st.map fun v => v.category).sum ≤ W) (hf : rm.frames + 1 ≤ R.frames) (hl : W + (maxL + 11) + rm.locals ≤ R.locals) (hcl : cells + rm.cells ≤ R.cells) (hsl : slots + rm.slots ≤ R.slots) {ps : List FieldType} {rv : Option FieldType} (hp : parseMethodDescriptor y.desc = some ⟨ps, rv⟩) (hn : argsL.length = ps.length) {S0 : List Value} (hS : S0 = argsL.reverse ++ st)
    (r : ∀ T' h' v L, T'.heap = h' → Stand p l e R s m args below meth c T' (locs ++ L) (cells + rm.cells) (slots + rm.slots) → Q' v h' L → zEnds p e below s T' (mkF m (pc + 3) Ls (v.toList ++ st)) cs ss Q) : zEnds p e below s T (mkF m pc Ls S0) cs ss Q := by
  obtain ⟨v, _, ⟨T', L', k', n'⟩, -, X', ⟨L, hq, l1, l2, l3⟩, k⟩ := Jvm.LawKit.callS X hx (y := y) hown (mvT hZ w1) (mvT hZ w2) (mvT hZ w3) (mvT hZ w4) hy (backOf (W := W) con hZ w4 w3 hf hl) (g := mkF m pc Ls S0) rfl hml (argsL := argsL) (rest := st) (lenOf hp hn) hS (by show 2 * 0 + _ ≤ _; rw [Nat.mul_zero, Nat.zero_add]; exact hW) (hb hby hd) (fun _ _ => ⟨rfl, eT, hcl, hsl⟩)
  dsimp only [Pt.U, Pt.locs, Pt.cells, Pt.slots] at X' l1 l2 l3 k hq
  subst l1 l2 l3
  exact zstp k (r T' _ v L rfl X' hq)
theorem zcallv (X : Stand p l e R s m args below meth c T locs cells slots) (hx : p.tables.exec = Jvm.exec) (hby : c.code = bytes) {own C : String} {i : Nat} {y z : MethodName} {by' : ByteArray} {maxL : Nat} {rt : Option FieldType} {rm : Room} {a : Addr} {argsL : List Value} {Q' : Option Value → Heap → List Loc → Prop} (hd : decode bytes pc = .ok (.invokevirtual i, 3)) (hZ : Z.Warmed39 s.vm) (hown : s.vm.findClass own = some m.cls) (w1 : (Jvm.Cond.methodLink own i y).before a0 Z = true) (w2 : (Jvm.Cond.declares y).before a0 Z = true) (hnf : NotFace s y) (w3 : (Jvm.Cond.selects C y z).before a0 Z = true) (w4 : (Jvm.Cond.instanceMethod z).before a0 Z = true) (w5 : (Jvm.Cond.code z by' maxL rt).before a0 Z = true) (w6 : (Jvm.Cond.initialized z.cls).before a0 Z = true) (eT : T.heap = h) (E : Exa Z h a C)
    (con : zCon l Z z by' maxL rt [] rm (.ref a :: argsL).toArray h Q') (hy : y.cls ≠ "java/lang/invoke/MethodHandle" ∧ y.cls ≠ "java/lang/invoke/VarHandle") (hml : Ls.size = c.maxLocals) (W : Nat) (hW : (st.map fun v => v.category).sum ≤ W) (hf : rm.frames + 1 ≤ R.frames) (hl : W + (maxL + 11) + rm.locals ≤ R.locals) (hcl : cells + rm.cells ≤ R.cells) (hsl : slots + rm.slots ≤ R.slots) {ps : List FieldType} {rv : Option FieldType} (hp : parseMethodDescriptor y.desc = some ⟨ps, rv⟩) (hn : argsL.length = ps.length) {S0 : List Value} (hS : S0 = argsL.reverse ++ .ref a :: st)
    (r : ∀ T' h' v L, T'.heap = h' → Stand p l e R s m args below meth c T' (locs ++ L) (cells + rm.cells) (slots + rm.slots) → Q' v h' L → zEnds p e below s T' (mkF m (pc + 3) Ls (v.toList ++ st)) cs ss Q) : zEnds p e below s T (mkF m pc Ls S0) cs ss Q := by
  obtain ⟨_, _, qa, -, qc⟩ := isOf hZ eT E
  obtain ⟨v, _, ⟨T', L', k', n'⟩, -, X', ⟨L, hq, l1, l2, l3⟩, k⟩ := X.virtualBack hx (y := y) (z := z) hown (mvT hZ w1) (mvT hZ w2) hnf (mvT hZ w3) (mvT hZ w4) hy (backOf (W := W) con hZ w5 w6 hf hl) qa qc (g := mkF m pc Ls S0) rfl hml (Steps.refl _) (argsL := argsL) (rest := st) (lenOf hp hn) hS (by show 2 * 0 + _ ≤ _; rw [Nat.mul_zero, Nat.zero_add]; exact hW) (hb hby hd) (fun _ _ => ⟨rfl, eT, hcl, hsl⟩)
  dsimp only [Pt.U, Pt.locs, Pt.cells, Pt.slots] at X' l1 l2 l3 k hq
  subst l1 l2 l3
  exact zstp (fun _ q => k.trans q) (r T' _ v L rfl X' hq)
theorem zcallsp (X : Stand p l e R s m args below meth c T locs cells slots) (hx : p.tables.exec = Jvm.exec) (hby : c.code = bytes) {own : String} {i : Nat} {y : MethodName} {by' : ByteArray} {maxL : Nat} {rm : Room} {a : Addr} {argsL : List Value} {Q' : Option Value → Heap → List Loc → Prop} (hd : decode bytes pc = .ok (.invokespecial i, 3)) (hZ : Z.Warmed39 s.vm) (hown : s.vm.findClass own = some m.cls) (hyn : y.name = "<init>") (w1 : (Jvm.Cond.methodLink own i y).before a0 Z = true) (w2 : (Jvm.Cond.instanceMethod y).before a0 Z = true) (w3 : (Jvm.Cond.code y by' maxL none).before a0 Z = true) (w4 : (Jvm.Cond.initialized y.cls).before a0 Z = true) (eT : T.heap = h)
    (con : zCon l Z y by' maxL none [] rm (.ref a :: argsL).toArray h Q') (hy : y.cls ≠ "java/lang/invoke/MethodHandle" ∧ y.cls ≠ "java/lang/invoke/VarHandle") (hml : Ls.size = c.maxLocals) (W : Nat) (hW : (st.map fun v => v.category).sum ≤ W) (hf : rm.frames + 1 ≤ R.frames) (hl : W + (maxL + 11) + rm.locals ≤ R.locals) (hcl : cells + rm.cells ≤ R.cells) (hsl : slots + rm.slots ≤ R.slots) {ps : List FieldType} {rv : Option FieldType} (hp : parseMethodDescriptor y.desc = some ⟨ps, rv⟩) (hn : argsL.length = ps.length) {S0 : List Value} (hS : S0 = argsL.reverse ++ .ref a :: st)
    (r : ∀ T' h' v L, T'.heap = h' → Stand p l e R s m args below meth c T' (locs ++ L) (cells + rm.cells) (slots + rm.slots) → Q' v h' L → zEnds p e below s T' (mkF m (pc + 3) Ls (v.toList ++ st)) cs ss Q) : zEnds p e below s T (mkF m pc Ls S0) cs ss Q := by
  obtain ⟨v, _, ⟨T', L', k', n'⟩, -, X', ⟨L, hq, l1, l2, l3⟩, k⟩ := X.specialBack hx (y := y) hyn hown (mvT hZ w1) (mvT hZ w2) (mvT hZ w3) hy (backOf (W := W) con hZ w3 w4 hf hl) (g := mkF m pc Ls S0) rfl hml (Steps.refl _) (a := a) (argsL := argsL) (rest := st) (lenOf hp hn) hS (by show 2 * 0 + _ ≤ _; rw [Nat.mul_zero, Nat.zero_add]; exact hW) (hb hby hd) (fun _ _ => ⟨rfl, eT, hcl, hsl⟩)
  dsimp only [Pt.U, Pt.locs, Pt.cells, Pt.slots] at X' l1 l2 l3 k hq
  subst l1 l2 l3
  exact zstp (fun _ q => k.trans q) (r T' _ v L rfl X' hq)
theorem zcallup (X : Stand p l e R s m args below meth c T locs cells slots) (hx : p.tables.exec = Jvm.exec) (hby : c.code = bytes) {own C owner : String} {i : Nat} {x y : MethodName} {by' : ByteArray} {maxL : Nat} {rt : Option FieldType} {rm : Room} {a : Addr} {argsL : List Value} {Q' : Option Value → Heap → List Loc → Prop} (hd : decode bytes pc = .ok (.invokevirtual i, 3)) (hZ : Z.Warmed39 s.vm) (hown : s.vm.findClass own = some m.cls) (w1 : (Jvm.Cond.methodLink own i x).before a0 Z = true) (w2 : (Jvm.Cond.sameMethod x.cls owner x.name x.desc).before a0 Z = true) (w2' : (Jvm.Cond.declares ⟨owner, x.name, x.desc⟩).before a0 Z = true) (w3 : (Jvm.Cond.selects C x y).before a0 Z = true) (w4 : (Jvm.Cond.instanceMethod y).before a0 Z = true) (w5 : (Jvm.Cond.code y by' maxL rt).before a0 Z = true) (w6 : (Jvm.Cond.initialized y.cls).before a0 Z = true) (eT : T.heap = h) (E : Exa Z h a C)
    (con : zCon l Z y by' maxL rt [] rm (.ref a :: argsL).toArray h Q') (hy : owner ≠ "java/lang/invoke/MethodHandle" ∧ owner ≠ "java/lang/invoke/VarHandle") (hml : Ls.size = c.maxLocals) (W : Nat) (hW : (st.map fun v => v.category).sum ≤ W) (hf : rm.frames + 1 ≤ R.frames) (hl : W + (maxL + 11) + rm.locals ≤ R.locals) (hcl : cells + rm.cells ≤ R.cells) (hsl : slots + rm.slots ≤ R.slots) {ps : List FieldType} {rv : Option FieldType} (hp : parseMethodDescriptor x.desc = some ⟨ps, rv⟩) (hn : argsL.length = ps.length) {S0 : List Value} (hS : S0 = argsL.reverse ++ .ref a :: st)
    (r : ∀ T' h' v L, T'.heap = h' → Stand p l e R s m args below meth c T' (locs ++ L) (cells + rm.cells) (slots + rm.slots) → Q' v h' L → zEnds p e below s T' (mkF m (pc + 3) Ls (v.toList ++ st)) cs ss Q) : zEnds p e below s T (mkF m pc Ls S0) cs ss Q := by
  obtain ⟨_, _, qa, -, qc⟩ := isOf hZ eT E
  obtain ⟨v, _, ⟨T', L', k', n'⟩, -, X', ⟨L, hq, l1, l2, l3⟩, k⟩ := X.virtualBackUp hx (x := x) (y := y) hown (mvT hZ w1) (mvT hZ w2) (mvT hZ w2') hy (mvT hZ w3) (mvT hZ w4) (backOf (W := W) con hZ w5 w6 hf hl) qa qc (g := mkF m pc Ls S0) rfl hml (Steps.refl _) (argsL := argsL) (rest := st) (lenOf hp hn) hS (by show 2 * 0 + _ ≤ _; rw [Nat.mul_zero, Nat.zero_add]; exact hW) (hb hby hd) (fun _ _ => ⟨rfl, eT, hcl, hsl⟩)
  dsimp only [Pt.U, Pt.locs, Pt.cells, Pt.slots] at X' l1 l2 l3 k hq
  subst l1 l2 l3
  exact zstp (fun _ q => k.trans q) (r T' _ v L rfl X' hq)
/-- the continuation behind a callee that wrote nothing -/
theorem zpureK {w : Option Value} {rm : Room} (hr : rm.cells = 0 ∧ rm.slots = 0) (r : ∀ T', Stand p l e R s m args below meth c T' locs cells slots → T'.heap = h → zEnds p e below s T' (mkF m pc Ls (w.toList ++ st)) cs ss Q) :
    ∀ T' h' v L, T'.heap = h' → Stand p l e R s m args below meth c T' (locs ++ L) (cells + rm.cells) (slots + rm.slots) → zSame w h v h' L → zEnds p e below s T' (mkF m pc Ls (v.toList ++ st)) cs ss Q := by
  rintro T' h' v L e' X ⟨rfl, rfl, rfl⟩
  rw [hr.1, hr.2, List.append_nil] at X
  exact r T' X e'
/-! from the words of a case to facts -/
theorem zfld_int {t : Term} {x : Addr} {C n d : String} {k : Int32} {args : Array Value} {s : State} (ev : t.eval args s none [] s = some (.ref x)) (q : (Jvm.Cond.eq (Term.field t C n d) (Term.int k)).value args s none s [] = some true) : Fld s s.heap x C n d (.int k) := by
  obtain ⟨u, w, e1, e2, k1, k2⟩ := cmp_v (Or.inl q)
  rw [fld_at ev] at e1
  cases (Term.int_eval k).symm.trans e2
  obtain ⟨z, rfl⟩ := k2
  have h1 : (Term.field t C n d).eval args s none [] s = some (.int z) := (fld_at ev).trans e1
  have : z = k := by simpa [Jvm.Cond.value, h1, Term.int_eval] using q
  subst this
  exact Fld.start e1
theorem zelem_at0 {t : Term} {x : Addr} {i v : Int32} {cl : Cell} {args : Array Value} {s : State} (ev : t.eval args s none [] s = some (.ref x)) (hc : s.heap[x]? = some cl) (q : (Jvm.Cond.eq (Term.elem t (Term.int i)) (Term.int v)).value args s none s [] = some true) : ¬ (i < 0 ∨ cl.slots.size ≤ i.toNatClampNeg) ∧ cl.slots[i.toNatClampNeg]? = some (.int v) := by
  obtain ⟨u, w, e1, e2, k1, k2⟩ := cmp_v (Or.inl q)
  cases (Term.int_eval v).symm.trans e2
  obtain ⟨z, rfl⟩ := k2
  have : z = v := by simpa [Jvm.Cond.value, e1, Term.int_eval] using q
  subst this
  exact elem_in e1 ev (Term.int_eval i) hc
theorem zlen_is {t : Term} {x : Addr} {k : Int32} {cl : Cell} {ty : FieldType} {args : Array Value} {s : State} (ev : t.eval args s none [] s = some (.ref x)) (A : Arr s s.heap x cl ty) (q : (Jvm.Cond.eq (Term.length t) (Term.int k)).value args s none s [] = some true) : cl.slots.size.toInt32 = k := by
  obtain ⟨u, w, e1, e2, k1, k2⟩ := cmp_v (Or.inl q)
  cases (Term.int_eval k).symm.trans e2
  obtain ⟨z, rfl⟩ := k2
  have h0 : z = k := by simpa [Jvm.Cond.value, e1, Term.int_eval] using q
  subst h0
  have h1 : s.arrayAt? x = some cl := Arr.fin (Vm.Alike.refl _) A
  by_cases hl : cl.slots.size < 2 ^ 31
  · have := (len_f (args := args) (first := s) (o := none) (idx := []) ev h1 hl).symm.trans e1
    exact Value.int.inj (Option.some.inj this)
  · exfalso; simp [Term.eval, ev, h1, hl] at e1
theorem zfld_ref {t t' : Term} {x y : Addr} {C n d : String} {args : Array Value} {s : State} (ev : t.eval args s none [] s = some (.ref x)) (ev' : t'.eval args s none [] s = some (.ref y)) (q : (Jvm.Cond.eq (Term.field t C n d) t').value args s none s [] = some true) : Fld s s.heap x C n d (.ref y) := by
  obtain ⟨u, w, e1, e2, k1, k2⟩ := cmp_v (Or.inl q)
  cases ev'.symm.trans e2
  have k3 : u.isRef = true := k2.2
  have q2 := gotT (eq_R e1 ev' k3 rfl) q
  subst q2
  rw [fld_at ev] at e1
  exact Fld.start e1
end Own
end Jvm.OwnKit
namespace Jvm.Pilot.@@N@@
open Jvm Jvm.ClassFile Sem Op Lib Jvm.Free Jvm.Stand Jvm.LawKit Jvm.RoadKit Jvm.OwnKit Bundle Jvm.Pilot.@@N@@.Jvm.D
theorem w0 {Z : State} {a0 : Array Value} (hw : ∀ d ∈ tables_1, d.before a0 Z = true) : (Jvm.Cond.arrayClass Jvm.ClassFile.FieldType.byte).before a0 Z = true := hw _ (List.mem_of_getElem? (i := 0) rfl)
theorem w1 {Z : State} {a0 : Array Value} (hw : ∀ d ∈ tables_1, d.before a0 Z = true) : (Jvm.Cond.constant "com/example/kakehashi/kakehashi/message/ReadingIndexOfPinLaw" (7 : Nat) (2147483647 : Int32)).before a0 Z = true := hw _ (List.mem_of_getElem? (i := 1) rfl)
theorem w2 {Z : State} {a0 : Array Value} (hw : ∀ d ∈ tables_1, d.before a0 Z = true) : (Jvm.Cond.fieldLink "com/example/kakehashi/kakehashi/message/ReadingIndexOfPinLaw" (8 : Nat) "com/example/kakehashi/kakehashi/message/Reading" "ONE_CHAR_A_BYTE" "Lcom/example/kakehashi/kakehashi/message/Reading;").before a0 Z = true := hw _ (List.mem_of_getElem? (i := 2) rfl)
theorem w3 {Z : State} {a0 : Array Value} (hw : ∀ d ∈ tables_1, d.before a0 Z = true) : (Jvm.Cond.initialized "com/example/kakehashi/kakehashi/message/Reading").before a0 Z = true := hw _ (List.mem_of_getElem? (i := 3) rfl)
theorem w4 {Z : State} {a0 : Array Value} (hw : ∀ d ∈ tables_1, d.before a0 Z = true) : (Jvm.Cond.laysStatic "com/example/kakehashi/kakehashi/message/Reading" "ONE_CHAR_A_BYTE" "Lcom/example/kakehashi/kakehashi/message/Reading;").before a0 Z = true := hw _ (List.mem_of_getElem? (i := 4) rfl)
theorem w5 {Z : State} {a0 : Array Value} (hw : ∀ d ∈ tables_1, d.before a0 Z = true) : (Jvm.Cond.methodLink "com/example/kakehashi/kakehashi/message/ReadingIndexOfPinLaw" (20 : Nat) ({ cls := "com/example/kakehashi/kakehashi/message/ReadingIndexOfPinLaw", name := "hit", desc := "([BIIIC)Z" } : Jvm.MethodName)).before a0 Z = true := hw _ (List.mem_of_getElem? (i := 5) rfl)
theorem w6 {Z : State} {a0 : Array Value} (hw : ∀ d ∈ tables_1, d.before a0 Z = true) : (Jvm.Cond.static ({ cls := "com/example/kakehashi/kakehashi/message/ReadingIndexOfPinLaw", name := "hit", desc := "([BIIIC)Z" } : Jvm.MethodName)).before a0 Z = true := hw _ (List.mem_of_getElem? (i := 6) rfl)
theorem w7 {Z : State} {a0 : Array Value} (hw : ∀ d ∈ tables_1, d.before a0 Z = true) : (Jvm.Cond.initialized "com/example/kakehashi/kakehashi/message/ReadingIndexOfPinLaw").before a0 Z = true := hw _ (List.mem_of_getElem? (i := 7) rfl)
theorem w8 {Z : State} {a0 : Array Value} (hw : ∀ d ∈ tables_1, d.before a0 Z = true) : (Jvm.Cond.code ({ cls := "com/example/kakehashi/kakehashi/message/ReadingIndexOfPinLaw", name := "hit", desc := "([BIIIC)Z" } : Jvm.MethodName) method_3_code (5 : Nat) (Option.some Jvm.ClassFile.FieldType.boolean)).before a0 Z = true := hw _ (List.mem_of_getElem? (i := 8) rfl)
theorem w9 {Z : State} {a0 : Array Value} (hw : ∀ d ∈ tables_1, d.before a0 Z = true) : (Jvm.Cond.methodLink "com/example/kakehashi/kakehashi/message/ReadingIndexOfPinLaw" (26 : Nat) ({ cls := "com/example/kakehashi/kakehashi/message/Reading", name := "indexOf", desc := "([BIIC)I" } : Jvm.MethodName)).before a0 Z = true := hw _ (List.mem_of_getElem? (i := 9) rfl)
theorem w10 {Z : State} {a0 : Array Value} (hw : ∀ d ∈ tables_1, d.before a0 Z = true) : (Jvm.Cond.declares ({ cls := "com/example/kakehashi/kakehashi/message/Reading", name := "indexOf", desc := "([BIIC)I" } : Jvm.MethodName)).before a0 Z = true := hw _ (List.mem_of_getElem? (i := 10) rfl)
theorem w11 {Z : State} {a0 : Array Value} (hw : ∀ d ∈ tables_1, d.before a0 Z = true) : (Jvm.Cond.instanceMethod ({ cls := "com/example/kakehashi/kakehashi/message/Reading", name := "indexOf", desc := "([BIIC)I" } : Jvm.MethodName)).before a0 Z = true := hw _ (List.mem_of_getElem? (i := 11) rfl)
theorem w12 {Z : State} {a0 : Array Value} (hw : ∀ d ∈ tables_1, d.before a0 Z = true) : (Jvm.Cond.selects "com/example/kakehashi/kakehashi/message/Reading$1" ({ cls := "com/example/kakehashi/kakehashi/message/Reading", name := "indexOf", desc := "([BIIC)I" } : Jvm.MethodName) ({ cls := "com/example/kakehashi/kakehashi/message/Reading", name := "indexOf", desc := "([BIIC)I" } : Jvm.MethodName)).before a0 Z = true := hw _ (List.mem_of_getElem? (i := 12) rfl)
theorem w13 {Z : State} {a0 : Array Value} (hw : ∀ d ∈ tables_1, d.before a0 Z = true) : (Jvm.Cond.code ({ cls := "com/example/kakehashi/kakehashi/message/Reading", name := "indexOf", desc := "([BIIC)I" } : Jvm.MethodName) prog_64_method_11_code (6 : Nat) (Option.some Jvm.ClassFile.FieldType.int)).before a0 Z = true := hw _ (List.mem_of_getElem? (i := 13) rfl)
theorem w14 {Z : State} {a0 : Array Value} (hw : ∀ d ∈ tables_1, d.before a0 Z = true) : (Jvm.Cond.fieldLink "com/example/kakehashi/kakehashi/message/ReadingIndexOfPinLaw" (14 : Nat) "com/example/kakehashi/kakehashi/message/Reading" "ASCII" "Lcom/example/kakehashi/kakehashi/message/Reading;").before a0 Z = true := hw _ (List.mem_of_getElem? (i := 14) rfl)
theorem w15 {Z : State} {a0 : Array Value} (hw : ∀ d ∈ tables_1, d.before a0 Z = true) : (Jvm.Cond.laysStatic "com/example/kakehashi/kakehashi/message/Reading" "ASCII" "Lcom/example/kakehashi/kakehashi/message/Reading;").before a0 Z = true := hw _ (List.mem_of_getElem? (i := 15) rfl)
theorem w16 {Z : State} {a0 : Array Value} (hw : ∀ d ∈ tables_1, d.before a0 Z = true) : (Jvm.Cond.selects "com/example/kakehashi/kakehashi/message/Reading$2" ({ cls := "com/example/kakehashi/kakehashi/message/Reading", name := "indexOf", desc := "([BIIC)I" } : Jvm.MethodName) ({ cls := "com/example/kakehashi/kakehashi/message/Reading", name := "indexOf", desc := "([BIIC)I" } : Jvm.MethodName)).before a0 Z = true := hw _ (List.mem_of_getElem? (i := 16) rfl)
theorem w17 {Z : State} {a0 : Array Value} (hw : ∀ d ∈ tables_1, d.before a0 Z = true) : (Jvm.Cond.fieldLink "com/example/kakehashi/kakehashi/message/ReadingIndexOfPinLaw" (17 : Nat) "com/example/kakehashi/kakehashi/message/Reading" "UTF_8" "Lcom/example/kakehashi/kakehashi/message/Reading;").before a0 Z = true := hw _ (List.mem_of_getElem? (i := 17) rfl)
theorem w18 {Z : State} {a0 : Array Value} (hw : ∀ d ∈ tables_1, d.before a0 Z = true) : (Jvm.Cond.laysStatic "com/example/kakehashi/kakehashi/message/Reading" "UTF_8" "Lcom/example/kakehashi/kakehashi/message/Reading;").before a0 Z = true := hw _ (List.mem_of_getElem? (i := 18) rfl)
theorem w19 {Z : State} {a0 : Array Value} (hw : ∀ d ∈ tables_1, d.before a0 Z = true) : (Jvm.Cond.selects "com/example/kakehashi/kakehashi/message/Reading$3" ({ cls := "com/example/kakehashi/kakehashi/message/Reading", name := "indexOf", desc := "([BIIC)I" } : Jvm.MethodName) ({ cls := "com/example/kakehashi/kakehashi/message/Reading", name := "indexOf", desc := "([BIIC)I" } : Jvm.MethodName)).before a0 Z = true := hw _ (List.mem_of_getElem? (i := 19) rfl)
theorem d_method_3_0 : decode method_3_code 0 = .ok (.iload_n 1, 1) := by decide +kernel
theorem d_method_3_1 : decode method_3_code 1 = .ok (.iload_n 3, 1) := by decide +kernel
theorem d_method_3_2 : decode method_3_code 2 = .ok (.if_icmp .gt 24, 3) := by decide +kernel
theorem d_method_3_5 : decode method_3_code 5 = .ok (.iload_n 3, 1) := by decide +kernel
theorem d_method_3_6 : decode method_3_code 6 = .ok (.iload_n 2, 1) := by decide +kernel
theorem d_method_3_7 : decode method_3_code 7 = .ok (.if_icmp .ge 19, 3) := by decide +kernel
theorem d_method_3_10 : decode method_3_code 10 = .ok (.aload_n 0, 1) := by decide +kernel
theorem d_method_3_11 : decode method_3_code 11 = .ok (.iload_n 3, 1) := by decide +kernel
theorem d_method_3_12 : decode method_3_code 12 = .ok (.baload, 1) := by decide +kernel
theorem d_method_3_13 : decode method_3_code 13 = .ok (.sipush 255, 3) := by decide +kernel
theorem d_method_3_16 : decode method_3_code 16 = .ok (.iand, 1) := by decide +kernel
theorem d_method_3_17 : decode method_3_code 17 = .ok (.iload 4, 2) := by decide +kernel
theorem d_method_3_19 : decode method_3_code 19 = .ok (.if_icmp .ne 7, 3) := by decide +kernel
theorem d_method_3_22 : decode method_3_code 22 = .ok (.iconst 1, 1) := by decide +kernel
theorem d_method_3_23 : decode method_3_code 23 = .ok (.goto 4, 3) := by decide +kernel
theorem d_method_3_26 : decode method_3_code 26 = .ok (.iconst 0, 1) := by decide +kernel
theorem d_method_3_27 : decode method_3_code 27 = .ok (.ireturn, 1) := by decide +kernel
theorem d_prog_64_method_11_0 : decode prog_64_method_11_code 0 = .ok (.iload_n 2, 1) := by decide +kernel
theorem d_prog_64_method_11_1 : decode prog_64_method_11_code 1 = .ok (.istore 5, 2) := by decide +kernel
theorem d_prog_64_method_11_3 : decode prog_64_method_11_code 3 = .ok (.iload 5, 2) := by decide +kernel
theorem d_prog_64_method_11_5 : decode prog_64_method_11_code 5 = .ok (.iload_n 3, 1) := by decide +kernel
theorem d_prog_64_method_11_6 : decode prog_64_method_11_code 6 = .ok (.if_icmp .ge 21, 3) := by decide +kernel
theorem d_prog_64_method_11_9 : decode prog_64_method_11_code 9 = .ok (.aload_n 1, 1) := by decide +kernel
theorem d_prog_64_method_11_10 : decode prog_64_method_11_code 10 = .ok (.iload 5, 2) := by decide +kernel
theorem d_prog_64_method_11_12 : decode prog_64_method_11_code 12 = .ok (.baload, 1) := by decide +kernel
theorem d_prog_64_method_11_13 : decode prog_64_method_11_code 13 = .ok (.iload 4, 2) := by decide +kernel
theorem d_prog_64_method_11_15 : decode prog_64_method_11_code 15 = .ok (.if_icmp .ne 6, 3) := by decide +kernel
theorem d_prog_64_method_11_18 : decode prog_64_method_11_code 18 = .ok (.iload 5, 2) := by decide +kernel
theorem d_prog_64_method_11_20 : decode prog_64_method_11_code 20 = .ok (.ireturn, 1) := by decide +kernel
theorem d_prog_64_method_11_21 : decode prog_64_method_11_code 21 = .ok (.iinc 5 1, 3) := by decide +kernel
theorem d_prog_64_method_11_24 : decode prog_64_method_11_code 24 = .ok (.goto (-21), 3) := by decide +kernel
theorem d_prog_64_method_11_27 : decode prog_64_method_11_code 27 = .ok (.iload_n 3, 1) := by decide +kernel
theorem d_prog_64_method_11_28 : decode prog_64_method_11_code 28 = .ok (.ireturn, 1) := by decide +kernel
theorem pd_0 : parseMethodDescriptor "([BIIIC)Z" = some ⟨[(.array .byte), .int, .int, .int, .char], some .boolean⟩ := by decide +kernel
theorem pd_1 : parseMethodDescriptor "([BIIC)I" = some ⟨[(.array .byte), .int, .int, .char], some .int⟩ := by decide +kernel
theorem pn_0 : plainName "com/example/kakehashi/kakehashi/message/ReadingIndexOfPinLaw" = true := by first | (simp [plainName, overriddenIn]; done) | decide +kernel
theorem pn_1 : plainName "com/example/kakehashi/kakehashi/message/Reading" = true := by first | (simp [plainName, overriddenIn]; done) | decide +kernel
theorem oneof_3 (z : Int32) (h1 : 0 ≤ z.toInt) (h2 : z.toInt < 3) : z = 0 ∨ z = 1 ∨ z = 2 := by
  have q : z.toInt = 0 ∨ z.toInt = 1 ∨ z.toInt = 2 := by omega
  rcases q with q | q | q
  · exact Or.inl (Int32.toInt_inj.mp (q.trans rfl))
  · exact Or.inr (Or.inl (Int32.toInt_inj.mp (q.trans rfl)))
  · exact Or.inr (Or.inr ((Int32.toInt_inj.mp (q.trans rfl))))
theorem oneof_5 (z : Int32) (h1 : 0 ≤ z.toInt) (h2 : z.toInt < 5) : z = 0 ∨ z = 1 ∨ z = 2 ∨ z = 3 ∨ z = 4 := by
  have q : z.toInt = 0 ∨ z.toInt = 1 ∨ z.toInt = 2 ∨ z.toInt = 3 ∨ z.toInt = 4 := by omega
  rcases q with q | q | q | q | q
  · exact Or.inl (Int32.toInt_inj.mp (q.trans rfl))
  · exact Or.inr (Or.inl (Int32.toInt_inj.mp (q.trans rfl)))
  · exact Or.inr (Or.inr (Or.inl (Int32.toInt_inj.mp (q.trans rfl))))
  · exact Or.inr (Or.inr (Or.inr (Or.inl (Int32.toInt_inj.mp (q.trans rfl)))))
  · exact Or.inr (Or.inr (Or.inr (Or.inr ((Int32.toInt_inj.mp (q.trans rfl))))))
theorem rem_3 (x : Int32) : (x &&& (2147483647 : Int32)) % (3 : Int32) = (0 : Int32) ∨ (x &&& (2147483647 : Int32)) % (3 : Int32) = (1 : Int32) ∨ (x &&& (2147483647 : Int32)) % (3 : Int32) = (2 : Int32) := by
  have h0 : 0 ≤ (x &&& (2147483647 : Int32)).toInt := (c_andS x 2147483647).2.2 (by decide)
  have p := (c_irem (x &&& (2147483647 : Int32)) 3 3 rfl).1 h0
  exact oneof_3 _ (by rw [p]; omega) (by rw [p]; omega)
theorem rem_5 (x : Int32) : (x &&& (2147483647 : Int32)) % (5 : Int32) = (0 : Int32) ∨ (x &&& (2147483647 : Int32)) % (5 : Int32) = (1 : Int32) ∨ (x &&& (2147483647 : Int32)) % (5 : Int32) = (2 : Int32) ∨ (x &&& (2147483647 : Int32)) % (5 : Int32) = (3 : Int32) ∨ (x &&& (2147483647 : Int32)) % (5 : Int32) = (4 : Int32) := by
  have h0 : 0 ≤ (x &&& (2147483647 : Int32)).toInt := (c_andS x 2147483647).2.2 (by decide)
  have p := (c_irem (x &&& (2147483647 : Int32)) 5 5 rfl).1 h0
  exact oneof_5 _ (by rw [p]; omega) (by rw [p]; omega)
theorem own_nar8 (x : Int32) : nar .byte (x.toInt8.toInt32) = x.toInt8.toInt32 := by simp [nar]
def hitv (fr to i b c : Int32) : Int32 := if i < fr then 0 else if i < to then (if (b &&& (255 : Int32)) = c then 1 else 0) else 0
def ix3 (to c b3 : Int32) : Int32 := if (3 : Int32) < to then (if b3 = c then 3 else to) else to
def ix2 (to c b2 b3 : Int32) : Int32 := if (2 : Int32) < to then (if b2 = c then 2 else ix3 to c b3) else to
def ix1 (to c b1 b2 b3 : Int32) : Int32 := if (1 : Int32) < to then (if b1 = c then 1 else ix2 to c b2 b3) else to
def ix0 (to c b0 b1 b2 b3 : Int32) : Int32 := if (0 : Int32) < to then (if b0 = c then 0 else ix1 to c b1 b2 b3) else to
def idxv (fr to c b0 b1 b2 b3 : Int32) : Int32 := if fr = 0 then ix0 to c b0 b1 b2 b3 else if fr = 1 then ix1 to c b1 b2 b3 else if fr = 2 then ix2 to c b2 b3 else if fr = 3 then ix3 to c b3 else to
def expv (fr to c b0 b1 b2 b3 : Int32) : Int32 := if hitv fr to 0 b0 c = 0 then (if hitv fr to 1 b1 c = 0 then (if hitv fr to 2 b2 c = 0 then (if hitv fr to 3 b3 c = 0 then to else 3) else 2) else 1) else 0
theorem own_c (d : Int32) : 0 ≤ ((d &&& (127 : Int32)).toUInt32.toUInt16.toUInt32.toInt32).toInt ∧ ((d &&& (127 : Int32)).toUInt32.toUInt16.toUInt32.toInt32).toInt ≤ 127 := by
  have h1 := c_and d 127 (by decide); have h2 := c_i2c (d &&& (127 : Int32)); have e : (127 : Int32).toInt = 127 := rfl
  omega
theorem own_b (x : Int32) : -128 ≤ (x.toInt8.toInt32).toInt ∧ (x.toInt8.toInt32).toInt < 128 := (c_i2b x).2
theorem own_eqv {b c : Int32} (hc : 0 ≤ c.toInt ∧ c.toInt ≤ 127) (hb : -128 ≤ b.toInt ∧ b.toInt < 128) : ((b &&& (255 : Int32)) = c) ↔ b = c := by
  have h := c_mask b 255 8 (by decide) (by decide)
  rw [← Int32.toInt_inj, ← Int32.toInt_inj, h]
  show b.toInt % ((2 ^ 8 : Nat) : Int) = _ ↔ _
  have e : ((2 ^ 8 : Nat) : Int) = 256 := by decide
  rw [e]; omega
theorem own_lit {i j : Int32} {to : Int32} (hij : i < j) (h : ¬ (i < to)) : ¬ (j < to) := by
  rw [Int32.lt_iff_toInt_lt] at *; omega
theorem own_link (fr to c b0 b1 b2 b3 : Int32) (kf : fr = 0 ∨ fr = 1 ∨ fr = 2 ∨ fr = 3 ∨ fr = 4) (kT : ¬ ((4 : Int32) < to)) (hc : 0 ≤ c.toInt ∧ c.toInt ≤ 127) (h0 : -128 ≤ b0.toInt ∧ b0.toInt < 128) (h1 : -128 ≤ b1.toInt ∧ b1.toInt < 128) (h2 : -128 ≤ b2.toInt ∧ b2.toInt < 128) (h3 : -128 ≤ b3.toInt ∧ b3.toInt < 128) :
    idxv fr to c b0 b1 b2 b3 = expv fr to c b0 b1 b2 b3 := by
  unfold expv hitv
  simp only [own_eqv hc h0, own_eqv hc h1, own_eqv hc h2, own_eqv hc h3]
  by_cases l0 : (0 : Int32) < to
  · by_cases l1 : (1 : Int32) < to
    · by_cases l2 : (2 : Int32) < to
      · by_cases l3 : (3 : Int32) < to
        · rcases kf with rfl | rfl | rfl | rfl | rfl <;> by_cases e0 : b0 = c <;> by_cases e1 : b1 = c <;> by_cases e2 : b2 = c <;> by_cases e3 : b3 = c <;> simp +decide [idxv, ix0, ix1, ix2, ix3, l0, l1, l2, l3, e0, e1, e2, e3]
        · rcases kf with rfl | rfl | rfl | rfl | rfl <;> by_cases e0 : b0 = c <;> by_cases e1 : b1 = c <;> by_cases e2 : b2 = c <;> simp +decide [idxv, ix0, ix1, ix2, ix3, l0, l1, l2, l3, e0, e1, e2]
      · have l3 := own_lit (j := 3) (by decide) l2
        rcases kf with rfl | rfl | rfl | rfl | rfl <;> by_cases e0 : b0 = c <;> by_cases e1 : b1 = c <;> simp +decide [idxv, ix0, ix1, ix2, ix3, l0, l1, l2, l3, e0, e1]
    · have l2 := own_lit (j := 2) (by decide) l1
      have l3 := own_lit (j := 3) (by decide) l1
      rcases kf with rfl | rfl | rfl | rfl | rfl <;> by_cases e0 : b0 = c <;> simp +decide [idxv, ix0, ix1, ix2, ix3, l0, l1, l2, l3, e0]
  · have l1 := own_lit (j := 1) (by decide) l0
    have l2 := own_lit (j := 2) (by decide) l0
    have l3 := own_lit (j := 3) (by decide) l0
    rcases kf with rfl | rfl | rfl | rfl | rfl <;> simp +decide [idxv, ix0, ix1, ix2, ix3, l0, l1, l2, l3]
theorem own_fr (f : Int32) : 0 ≤ (((f &&& (2147483647 : Int32)) % (5 : Int32))).toInt ∧ (((f &&& (2147483647 : Int32)) % (5 : Int32))).toInt < 5 := by
  have h0 : 0 ≤ (f &&& (2147483647 : Int32)).toInt := (c_andS f 2147483647).2.2 (by decide)
  have p := (c_irem (f &&& (2147483647 : Int32)) 5 5 rfl).1 h0
  rw [p]; omega
theorem own_sub (f : Int32) : ((5 : Int32) - ((f &&& (2147483647 : Int32)) % (5 : Int32))).toInt = 5 - (((f &&& (2147483647 : Int32)) % (5 : Int32))).toInt := by
  have h := own_fr f; have a := c_isub (5 : Int32) ((f &&& (2147483647 : Int32)) % (5 : Int32)); have r := rng32 ((5 : Int32) - ((f &&& (2147483647 : Int32)) % (5 : Int32))); have e : (5 : Int32).toInt = 5 := rfl
  omega
theorem own_nz (f : Int32) : ((5 : Int32) - ((f &&& (2147483647 : Int32)) % (5 : Int32))) ≠ 0 := by
  intro q; have h := own_fr f; have a := own_sub f; rw [q] at a; have e : (0 : Int32).toInt = 0 := rfl
  omega
theorem own_to (f t : Int32) : ¬ ((4 : Int32) < (((f &&& (2147483647 : Int32)) % (5 : Int32)) + ((t &&& (2147483647 : Int32)) % ((5 : Int32) - ((f &&& (2147483647 : Int32)) % (5 : Int32)))))) := by
  have h := own_fr f; have a := own_sub f
  have h0 : 0 ≤ (t &&& (2147483647 : Int32)).toInt := (c_andS t 2147483647).2.2 (by decide)
  have p := (c_irem (t &&& (2147483647 : Int32)) ((5 : Int32) - ((f &&& (2147483647 : Int32)) % (5 : Int32))) _ rfl).1 h0
  have a2 := Int.emod_nonneg (t &&& (2147483647 : Int32)).toInt (show ((5 : Int32) - ((f &&& (2147483647 : Int32)) % (5 : Int32))).toInt ≠ 0 by omega)
  have a3 := Int.emod_lt_of_pos (t &&& (2147483647 : Int32)).toInt (show 0 < ((5 : Int32) - ((f &&& (2147483647 : Int32)) % (5 : Int32))).toInt by omega)
  rw [← p] at a2 a3
  have b := c_iadd ((f &&& (2147483647 : Int32)) % (5 : Int32)) ((t &&& (2147483647 : Int32)) % ((5 : Int32) - ((f &&& (2147483647 : Int32)) % (5 : Int32))))
  have r := rng32 (((f &&& (2147483647 : Int32)) % (5 : Int32)) + ((t &&& (2147483647 : Int32)) % ((5 : Int32) - ((f &&& (2147483647 : Int32)) % (5 : Int32)))))
  have e : (4 : Int32).toInt = 4 := rfl
  rw [Int32.lt_iff_toInt_lt]; omega
def Ctx (Z : State) (w_ONE_CHAR_A_BYTE w_ASCII w_UTF_8 : Addr) : Prop := Sta Z Z.heap "com/example/kakehashi/kakehashi/message/Reading" "ONE_CHAR_A_BYTE" "Lcom/example/kakehashi/kakehashi/message/Reading;" (.ref w_ONE_CHAR_A_BYTE) ∧ Sta Z Z.heap "com/example/kakehashi/kakehashi/message/Reading" "ASCII" "Lcom/example/kakehashi/kakehashi/message/Reading;" (.ref w_ASCII) ∧ Sta Z Z.heap "com/example/kakehashi/kakehashi/message/Reading" "UTF_8" "Lcom/example/kakehashi/kakehashi/message/Reading;" (.ref w_UTF_8) ∧ Exa Z Z.heap w_ONE_CHAR_A_BYTE "com/example/kakehashi/kakehashi/message/Reading$1" ∧ Exa Z Z.heap w_ASCII "com/example/kakehashi/kakehashi/message/Reading$2" ∧ Exa Z Z.heap w_UTF_8 "com/example/kakehashi/kakehashi/message/Reading$3"
set_option maxRecDepth 65536 in
set_option maxHeartbeats 40000000 in
theorem c1_hit (l : Launch) {Z : State} {a0 : Array Value} (hw : ∀ d ∈ tables_1, d.before a0 Z = true) (ws : List Jvm.Cond) {w_ONE_CHAR_A_BYTE w_ASCII w_UTF_8 : Addr} {n0 : Nat} {h0 : Heap} (C : Ctx Z w_ONE_CHAR_A_BYTE w_ASCII w_UTF_8) (O0 : Old Z n0 h0) (Z0 : n0 ≤ h0.size) (x2 : Int32) (x3 : Int32) (x4 : Int32) (b900 : Addr) (x5 : Int32) (x6 : Int32) (x7 : Int32) (x8 : Int32) (g_b900 : n0 ≤ b900) (A_b900 : zLst Z h0 b900 .byte [(.int x5), (.int x6), (.int x7), (.int x8)]) (k0 : ¬ ((4 : Int32) < x3)) : zCon l Z (⟨"com/example/kakehashi/kakehashi/message/ReadingIndexOfPinLaw", "hit", "([BIIIC)Z"⟩ : MethodName) method_3_code 5 (some .boolean) ws ({ frames := 0, cells := 0, slots := 0, locals := 0 } : Room) #[(.ref b900), (.int x2), (.int x3), (.int 3), (.int x4)] h0 (zSame (some (.int (hitv x2 x3 (3 : Int32) x8 x4))) h0) := by
  obtain ⟨S_w_ONE_CHAR_A_BYTE, S_w_ASCII, S_w_UTF_8, E_w_ONE_CHAR_A_BYTE, E_w_ASCII, E_w_UTF_8⟩ := C
  refine zenter (plainFor_of_name pn_0) (L0 := #[rv b900, iv x2, iv x3, iv 3, iv x4]) (fun m => by first | rfl | simp [entryFrame, mkF, argsToLocals, Value.category, maxLocals]) ?_
  intro p e s m below meth c T0 hx hZ hby hml hown0 hnm hret hlk X0 e0
  have hown : s.vm.findClass "com/example/kakehashi/kakehashi/message/ReadingIndexOfPinLaw" = some m.cls := hown0
  have K0 := Keep.refl h0 []
  have N0 := Fr.nil n0
  show zEnds p e below s T0 (mkF m 0 #[rv b900, iv x2, iv x3, iv 3, iv x4] []) _ _ _
  refine ziloadN X0 hx hby d_method_3_0 rfl (ziloadN X0 hx hby d_method_3_1 rfl ?_)
  show zEnds p e below s T0 (mkF m 2 #[rv b900, iv x2, iv x3, iv 3, iv x4] [(.int 3), (.int x2)]) _ _ _
  by_cases hc1 : (3 : Int32) < x2
  · refine zicmpYes X0 hx hby d_method_3_2 26 (tlt hc1).2.2.1 (by decide) (by decide) (ziconst X0 hx hby d_method_3_26 (z := (0 : Int32)) rfl ?_)
    show zEnds p e below s T0 (mkF m 27 #[rv b900, iv x2, iv x3, iv 3, iv x4] [(.int 0)]) _ _ _
    exact zretZ X0 hx hby d_method_3_27 hret hlk (by simp) rfl (by decide) (by decide) ⟨(by simp +decide [hitv, k0, hc1]), e0, rfl⟩
  · refine zicmpNo X0 hx hby d_method_3_2 (flt hc1).2.2.1 (ziloadN X0 hx hby d_method_3_5 rfl (ziloadN X0 hx hby d_method_3_6 rfl ?_))
    show zEnds p e below s T0 (mkF m 7 #[rv b900, iv x2, iv x3, iv 3, iv x4] [(.int x3), (.int 3)]) _ _ _
    by_cases hc2 : (3 : Int32) < x3
    · refine zicmpNo X0 hx hby d_method_3_7 (tlt hc2).2.1 (zaloadN X0 hx hby d_method_3_10 rfl rfl (ziloadN X0 hx hby d_method_3_11 rfl (zbaload X0 hx hby d_method_3_12 hZ e0 A_b900 (by decide) (v := (.int x8)) rfl (zsipush X0 hx hby d_method_3_13 (z := (255 : Int32)) rfl (ziand X0 hx hby d_method_3_16 (x8 &&& (255 : Int32)) rfl (ziload X0 hx hby d_method_3_17 rfl ?_))))))
      show zEnds p e below s T0 (mkF m 19 #[rv b900, iv x2, iv x3, iv 3, iv x4] [(.int x4), (.int (x8 &&& (255 : Int32)))]) _ _ _
      by_cases hc3 : (x8 &&& (255 : Int32)) = x4
      · refine zicmpNo X0 hx hby d_method_3_19 (teq hc3).2 (ziconst X0 hx hby d_method_3_22 (z := (1 : Int32)) rfl (zgoto X0 hx hby d_method_3_23 27 (by decide) (by decide) ?_))
        show zEnds p e below s T0 (mkF m 27 #[rv b900, iv x2, iv x3, iv 3, iv x4] [(.int 1)]) _ _ _
        exact zretZ X0 hx hby d_method_3_27 hret hlk (by simp) rfl (by decide) (by decide) ⟨(by simp +decide [hitv, k0, hc1, hc2, hc3]), e0, rfl⟩
      · refine zicmpYes X0 hx hby d_method_3_19 26 (feq hc3).2 (by decide) (by decide) (ziconst X0 hx hby d_method_3_26 (z := (0 : Int32)) rfl ?_)
        show zEnds p e below s T0 (mkF m 27 #[rv b900, iv x2, iv x3, iv 3, iv x4] [(.int 0)]) _ _ _
        exact zretZ X0 hx hby d_method_3_27 hret hlk (by simp) rfl (by decide) (by decide) ⟨(by simp +decide [hitv, k0, hc1, hc2, hc3]), e0, rfl⟩
    · refine zicmpYes X0 hx hby d_method_3_7 26 (flt hc2).2.1 (by decide) (by decide) (ziconst X0 hx hby d_method_3_26 (z := (0 : Int32)) rfl ?_)
      show zEnds p e below s T0 (mkF m 27 #[rv b900, iv x2, iv x3, iv 3, iv x4] [(.int 0)]) _ _ _
      exact zretZ X0 hx hby d_method_3_27 hret hlk (by simp) rfl (by decide) (by decide) ⟨(by simp +decide [hitv, k0, hc1, hc2]), e0, rfl⟩
set_option maxRecDepth 65536 in
set_option maxHeartbeats 40000000 in
theorem c3_hit (l : Launch) {Z : State} {a0 : Array Value} (hw : ∀ d ∈ tables_1, d.before a0 Z = true) (ws : List Jvm.Cond) {w_ONE_CHAR_A_BYTE w_ASCII w_UTF_8 : Addr} {n0 : Nat} {h0 : Heap} (C : Ctx Z w_ONE_CHAR_A_BYTE w_ASCII w_UTF_8) (O0 : Old Z n0 h0) (Z0 : n0 ≤ h0.size) (x2 : Int32) (x3 : Int32) (x4 : Int32) (b900 : Addr) (x5 : Int32) (x6 : Int32) (x7 : Int32) (x8 : Int32) (g_b900 : n0 ≤ b900) (A_b900 : zLst Z h0 b900 .byte [(.int x5), (.int x6), (.int x7), (.int x8)]) (k0 : ¬ ((4 : Int32) < x3)) : zCon l Z (⟨"com/example/kakehashi/kakehashi/message/ReadingIndexOfPinLaw", "hit", "([BIIIC)Z"⟩ : MethodName) method_3_code 5 (some .boolean) ws ({ frames := 0, cells := 0, slots := 0, locals := 0 } : Room) #[(.ref b900), (.int x2), (.int x3), (.int 2), (.int x4)] h0 (zSame (some (.int (hitv x2 x3 (2 : Int32) x7 x4))) h0) := by
  obtain ⟨S_w_ONE_CHAR_A_BYTE, S_w_ASCII, S_w_UTF_8, E_w_ONE_CHAR_A_BYTE, E_w_ASCII, E_w_UTF_8⟩ := C
  refine zenter (plainFor_of_name pn_0) (L0 := #[rv b900, iv x2, iv x3, iv 2, iv x4]) (fun m => by first | rfl | simp [entryFrame, mkF, argsToLocals, Value.category, maxLocals]) ?_
  intro p e s m below meth c T0 hx hZ hby hml hown0 hnm hret hlk X0 e0
  have hown : s.vm.findClass "com/example/kakehashi/kakehashi/message/ReadingIndexOfPinLaw" = some m.cls := hown0
  have K0 := Keep.refl h0 []
  have N0 := Fr.nil n0
  show zEnds p e below s T0 (mkF m 0 #[rv b900, iv x2, iv x3, iv 2, iv x4] []) _ _ _
  refine ziloadN X0 hx hby d_method_3_0 rfl (ziloadN X0 hx hby d_method_3_1 rfl ?_)
  show zEnds p e below s T0 (mkF m 2 #[rv b900, iv x2, iv x3, iv 2, iv x4] [(.int 2), (.int x2)]) _ _ _
  by_cases hc1 : (2 : Int32) < x2
  · refine zicmpYes X0 hx hby d_method_3_2 26 (tlt hc1).2.2.1 (by decide) (by decide) (ziconst X0 hx hby d_method_3_26 (z := (0 : Int32)) rfl ?_)
    show zEnds p e below s T0 (mkF m 27 #[rv b900, iv x2, iv x3, iv 2, iv x4] [(.int 0)]) _ _ _
    exact zretZ X0 hx hby d_method_3_27 hret hlk (by simp) rfl (by decide) (by decide) ⟨(by simp +decide [hitv, k0, hc1]), e0, rfl⟩
  · refine zicmpNo X0 hx hby d_method_3_2 (flt hc1).2.2.1 (ziloadN X0 hx hby d_method_3_5 rfl (ziloadN X0 hx hby d_method_3_6 rfl ?_))
    show zEnds p e below s T0 (mkF m 7 #[rv b900, iv x2, iv x3, iv 2, iv x4] [(.int x3), (.int 2)]) _ _ _
    by_cases hc2 : (2 : Int32) < x3
    · refine zicmpNo X0 hx hby d_method_3_7 (tlt hc2).2.1 (zaloadN X0 hx hby d_method_3_10 rfl rfl (ziloadN X0 hx hby d_method_3_11 rfl (zbaload X0 hx hby d_method_3_12 hZ e0 A_b900 (by decide) (v := (.int x7)) rfl (zsipush X0 hx hby d_method_3_13 (z := (255 : Int32)) rfl (ziand X0 hx hby d_method_3_16 (x7 &&& (255 : Int32)) rfl (ziload X0 hx hby d_method_3_17 rfl ?_))))))
      show zEnds p e below s T0 (mkF m 19 #[rv b900, iv x2, iv x3, iv 2, iv x4] [(.int x4), (.int (x7 &&& (255 : Int32)))]) _ _ _
      by_cases hc3 : (x7 &&& (255 : Int32)) = x4
      · refine zicmpNo X0 hx hby d_method_3_19 (teq hc3).2 (ziconst X0 hx hby d_method_3_22 (z := (1 : Int32)) rfl (zgoto X0 hx hby d_method_3_23 27 (by decide) (by decide) ?_))
        show zEnds p e below s T0 (mkF m 27 #[rv b900, iv x2, iv x3, iv 2, iv x4] [(.int 1)]) _ _ _
        exact zretZ X0 hx hby d_method_3_27 hret hlk (by simp) rfl (by decide) (by decide) ⟨(by simp +decide [hitv, k0, hc1, hc2, hc3]), e0, rfl⟩
      · refine zicmpYes X0 hx hby d_method_3_19 26 (feq hc3).2 (by decide) (by decide) (ziconst X0 hx hby d_method_3_26 (z := (0 : Int32)) rfl ?_)
        show zEnds p e below s T0 (mkF m 27 #[rv b900, iv x2, iv x3, iv 2, iv x4] [(.int 0)]) _ _ _
        exact zretZ X0 hx hby d_method_3_27 hret hlk (by simp) rfl (by decide) (by decide) ⟨(by simp +decide [hitv, k0, hc1, hc2, hc3]), e0, rfl⟩
    · refine zicmpYes X0 hx hby d_method_3_7 26 (flt hc2).2.1 (by decide) (by decide) (ziconst X0 hx hby d_method_3_26 (z := (0 : Int32)) rfl ?_)
      show zEnds p e below s T0 (mkF m 27 #[rv b900, iv x2, iv x3, iv 2, iv x4] [(.int 0)]) _ _ _
      exact zretZ X0 hx hby d_method_3_27 hret hlk (by simp) rfl (by decide) (by decide) ⟨(by simp +decide [hitv, k0, hc1, hc2]), e0, rfl⟩
set_option maxRecDepth 65536 in
set_option maxHeartbeats 40000000 in
theorem c5_hit (l : Launch) {Z : State} {a0 : Array Value} (hw : ∀ d ∈ tables_1, d.before a0 Z = true) (ws : List Jvm.Cond) {w_ONE_CHAR_A_BYTE w_ASCII w_UTF_8 : Addr} {n0 : Nat} {h0 : Heap} (C : Ctx Z w_ONE_CHAR_A_BYTE w_ASCII w_UTF_8) (O0 : Old Z n0 h0) (Z0 : n0 ≤ h0.size) (x2 : Int32) (x3 : Int32) (x4 : Int32) (b900 : Addr) (x5 : Int32) (x6 : Int32) (x7 : Int32) (x8 : Int32) (g_b900 : n0 ≤ b900) (A_b900 : zLst Z h0 b900 .byte [(.int x5), (.int x6), (.int x7), (.int x8)]) (k0 : ¬ ((4 : Int32) < x3)) : zCon l Z (⟨"com/example/kakehashi/kakehashi/message/ReadingIndexOfPinLaw", "hit", "([BIIIC)Z"⟩ : MethodName) method_3_code 5 (some .boolean) ws ({ frames := 0, cells := 0, slots := 0, locals := 0 } : Room) #[(.ref b900), (.int x2), (.int x3), (.int 1), (.int x4)] h0 (zSame (some (.int (hitv x2 x3 (1 : Int32) x6 x4))) h0) := by
  obtain ⟨S_w_ONE_CHAR_A_BYTE, S_w_ASCII, S_w_UTF_8, E_w_ONE_CHAR_A_BYTE, E_w_ASCII, E_w_UTF_8⟩ := C
  refine zenter (plainFor_of_name pn_0) (L0 := #[rv b900, iv x2, iv x3, iv 1, iv x4]) (fun m => by first | rfl | simp [entryFrame, mkF, argsToLocals, Value.category, maxLocals]) ?_
  intro p e s m below meth c T0 hx hZ hby hml hown0 hnm hret hlk X0 e0
  have hown : s.vm.findClass "com/example/kakehashi/kakehashi/message/ReadingIndexOfPinLaw" = some m.cls := hown0
  have K0 := Keep.refl h0 []
  have N0 := Fr.nil n0
  show zEnds p e below s T0 (mkF m 0 #[rv b900, iv x2, iv x3, iv 1, iv x4] []) _ _ _
  refine ziloadN X0 hx hby d_method_3_0 rfl (ziloadN X0 hx hby d_method_3_1 rfl ?_)
  show zEnds p e below s T0 (mkF m 2 #[rv b900, iv x2, iv x3, iv 1, iv x4] [(.int 1), (.int x2)]) _ _ _
  by_cases hc1 : (1 : Int32) < x2
  · refine zicmpYes X0 hx hby d_method_3_2 26 (tlt hc1).2.2.1 (by decide) (by decide) (ziconst X0 hx hby d_method_3_26 (z := (0 : Int32)) rfl ?_)
    show zEnds p e below s T0 (mkF m 27 #[rv b900, iv x2, iv x3, iv 1, iv x4] [(.int 0)]) _ _ _
    exact zretZ X0 hx hby d_method_3_27 hret hlk (by simp) rfl (by decide) (by decide) ⟨(by simp +decide [hitv, k0, hc1]), e0, rfl⟩
  · refine zicmpNo X0 hx hby d_method_3_2 (flt hc1).2.2.1 (ziloadN X0 hx hby d_method_3_5 rfl (ziloadN X0 hx hby d_method_3_6 rfl ?_))
    show zEnds p e below s T0 (mkF m 7 #[rv b900, iv x2, iv x3, iv 1, iv x4] [(.int x3), (.int 1)]) _ _ _
    by_cases hc2 : (1 : Int32) < x3
    · refine zicmpNo X0 hx hby d_method_3_7 (tlt hc2).2.1 (zaloadN X0 hx hby d_method_3_10 rfl rfl (ziloadN X0 hx hby d_method_3_11 rfl (zbaload X0 hx hby d_method_3_12 hZ e0 A_b900 (by decide) (v := (.int x6)) rfl (zsipush X0 hx hby d_method_3_13 (z := (255 : Int32)) rfl (ziand X0 hx hby d_method_3_16 (x6 &&& (255 : Int32)) rfl (ziload X0 hx hby d_method_3_17 rfl ?_))))))
      show zEnds p e below s T0 (mkF m 19 #[rv b900, iv x2, iv x3, iv 1, iv x4] [(.int x4), (.int (x6 &&& (255 : Int32)))]) _ _ _
      by_cases hc3 : (x6 &&& (255 : Int32)) = x4
      · refine zicmpNo X0 hx hby d_method_3_19 (teq hc3).2 (ziconst X0 hx hby d_method_3_22 (z := (1 : Int32)) rfl (zgoto X0 hx hby d_method_3_23 27 (by decide) (by decide) ?_))
        show zEnds p e below s T0 (mkF m 27 #[rv b900, iv x2, iv x3, iv 1, iv x4] [(.int 1)]) _ _ _
        exact zretZ X0 hx hby d_method_3_27 hret hlk (by simp) rfl (by decide) (by decide) ⟨(by simp +decide [hitv, k0, hc1, hc2, hc3]), e0, rfl⟩
      · refine zicmpYes X0 hx hby d_method_3_19 26 (feq hc3).2 (by decide) (by decide) (ziconst X0 hx hby d_method_3_26 (z := (0 : Int32)) rfl ?_)
        show zEnds p e below s T0 (mkF m 27 #[rv b900, iv x2, iv x3, iv 1, iv x4] [(.int 0)]) _ _ _
        exact zretZ X0 hx hby d_method_3_27 hret hlk (by simp) rfl (by decide) (by decide) ⟨(by simp +decide [hitv, k0, hc1, hc2, hc3]), e0, rfl⟩
    · refine zicmpYes X0 hx hby d_method_3_7 26 (flt hc2).2.1 (by decide) (by decide) (ziconst X0 hx hby d_method_3_26 (z := (0 : Int32)) rfl ?_)
      show zEnds p e below s T0 (mkF m 27 #[rv b900, iv x2, iv x3, iv 1, iv x4] [(.int 0)]) _ _ _
      exact zretZ X0 hx hby d_method_3_27 hret hlk (by simp) rfl (by decide) (by decide) ⟨(by simp +decide [hitv, k0, hc1, hc2]), e0, rfl⟩
set_option maxRecDepth 65536 in
set_option maxHeartbeats 40000000 in
theorem c7_hit (l : Launch) {Z : State} {a0 : Array Value} (hw : ∀ d ∈ tables_1, d.before a0 Z = true) (ws : List Jvm.Cond) {w_ONE_CHAR_A_BYTE w_ASCII w_UTF_8 : Addr} {n0 : Nat} {h0 : Heap} (C : Ctx Z w_ONE_CHAR_A_BYTE w_ASCII w_UTF_8) (O0 : Old Z n0 h0) (Z0 : n0 ≤ h0.size) (x2 : Int32) (x3 : Int32) (x4 : Int32) (b900 : Addr) (x5 : Int32) (x6 : Int32) (x7 : Int32) (x8 : Int32) (g_b900 : n0 ≤ b900) (A_b900 : zLst Z h0 b900 .byte [(.int x5), (.int x6), (.int x7), (.int x8)]) (k0 : ¬ ((4 : Int32) < x3)) : zCon l Z (⟨"com/example/kakehashi/kakehashi/message/ReadingIndexOfPinLaw", "hit", "([BIIIC)Z"⟩ : MethodName) method_3_code 5 (some .boolean) ws ({ frames := 0, cells := 0, slots := 0, locals := 0 } : Room) #[(.ref b900), (.int x2), (.int x3), (.int 0), (.int x4)] h0 (zSame (some (.int (hitv x2 x3 (0 : Int32) x5 x4))) h0) := by
  obtain ⟨S_w_ONE_CHAR_A_BYTE, S_w_ASCII, S_w_UTF_8, E_w_ONE_CHAR_A_BYTE, E_w_ASCII, E_w_UTF_8⟩ := C
  refine zenter (plainFor_of_name pn_0) (L0 := #[rv b900, iv x2, iv x3, iv 0, iv x4]) (fun m => by first | rfl | simp [entryFrame, mkF, argsToLocals, Value.category, maxLocals]) ?_
  intro p e s m below meth c T0 hx hZ hby hml hown0 hnm hret hlk X0 e0
  have hown : s.vm.findClass "com/example/kakehashi/kakehashi/message/ReadingIndexOfPinLaw" = some m.cls := hown0
  have K0 := Keep.refl h0 []
  have N0 := Fr.nil n0
  show zEnds p e below s T0 (mkF m 0 #[rv b900, iv x2, iv x3, iv 0, iv x4] []) _ _ _
  refine ziloadN X0 hx hby d_method_3_0 rfl (ziloadN X0 hx hby d_method_3_1 rfl ?_)
  show zEnds p e below s T0 (mkF m 2 #[rv b900, iv x2, iv x3, iv 0, iv x4] [(.int 0), (.int x2)]) _ _ _
  by_cases hc1 : (0 : Int32) < x2
  · refine zicmpYes X0 hx hby d_method_3_2 26 (tlt hc1).2.2.1 (by decide) (by decide) (ziconst X0 hx hby d_method_3_26 (z := (0 : Int32)) rfl ?_)
    show zEnds p e below s T0 (mkF m 27 #[rv b900, iv x2, iv x3, iv 0, iv x4] [(.int 0)]) _ _ _
    exact zretZ X0 hx hby d_method_3_27 hret hlk (by simp) rfl (by decide) (by decide) ⟨(by simp +decide [hitv, k0, hc1]), e0, rfl⟩
  · refine zicmpNo X0 hx hby d_method_3_2 (flt hc1).2.2.1 (ziloadN X0 hx hby d_method_3_5 rfl (ziloadN X0 hx hby d_method_3_6 rfl ?_))
    show zEnds p e below s T0 (mkF m 7 #[rv b900, iv x2, iv x3, iv 0, iv x4] [(.int x3), (.int 0)]) _ _ _
    by_cases hc2 : (0 : Int32) < x3
    · refine zicmpNo X0 hx hby d_method_3_7 (tlt hc2).2.1 (zaloadN X0 hx hby d_method_3_10 rfl rfl (ziloadN X0 hx hby d_method_3_11 rfl (zbaload X0 hx hby d_method_3_12 hZ e0 A_b900 (by decide) (v := (.int x5)) rfl (zsipush X0 hx hby d_method_3_13 (z := (255 : Int32)) rfl (ziand X0 hx hby d_method_3_16 (x5 &&& (255 : Int32)) rfl (ziload X0 hx hby d_method_3_17 rfl ?_))))))
      show zEnds p e below s T0 (mkF m 19 #[rv b900, iv x2, iv x3, iv 0, iv x4] [(.int x4), (.int (x5 &&& (255 : Int32)))]) _ _ _
      by_cases hc3 : (x5 &&& (255 : Int32)) = x4
      · refine zicmpNo X0 hx hby d_method_3_19 (teq hc3).2 (ziconst X0 hx hby d_method_3_22 (z := (1 : Int32)) rfl (zgoto X0 hx hby d_method_3_23 27 (by decide) (by decide) ?_))
        show zEnds p e below s T0 (mkF m 27 #[rv b900, iv x2, iv x3, iv 0, iv x4] [(.int 1)]) _ _ _
        exact zretZ X0 hx hby d_method_3_27 hret hlk (by simp) rfl (by decide) (by decide) ⟨(by simp +decide [hitv, k0, hc1, hc2, hc3]), e0, rfl⟩
      · refine zicmpYes X0 hx hby d_method_3_19 26 (feq hc3).2 (by decide) (by decide) (ziconst X0 hx hby d_method_3_26 (z := (0 : Int32)) rfl ?_)
        show zEnds p e below s T0 (mkF m 27 #[rv b900, iv x2, iv x3, iv 0, iv x4] [(.int 0)]) _ _ _
        exact zretZ X0 hx hby d_method_3_27 hret hlk (by simp) rfl (by decide) (by decide) ⟨(by simp +decide [hitv, k0, hc1, hc2, hc3]), e0, rfl⟩
    · refine zicmpYes X0 hx hby d_method_3_7 26 (flt hc2).2.1 (by decide) (by decide) (ziconst X0 hx hby d_method_3_26 (z := (0 : Int32)) rfl ?_)
      show zEnds p e below s T0 (mkF m 27 #[rv b900, iv x2, iv x3, iv 0, iv x4] [(.int 0)]) _ _ _
      exact zretZ X0 hx hby d_method_3_27 hret hlk (by simp) rfl (by decide) (by decide) ⟨(by simp +decide [hitv, k0, hc1, hc2]), e0, rfl⟩
set_option maxRecDepth 65536 in
set_option maxHeartbeats 40000000 in
theorem c9_indexOf (l : Launch) {Z : State} {a0 : Array Value} (hw : ∀ d ∈ tables_1, d.before a0 Z = true) (ws : List Jvm.Cond) {w_ONE_CHAR_A_BYTE w_ASCII w_UTF_8 : Addr} {n0 : Nat} {h0 : Heap} (C : Ctx Z w_ONE_CHAR_A_BYTE w_ASCII w_UTF_8) (O0 : Old Z n0 h0) (Z0 : n0 ≤ h0.size) (r1 : Addr) (x3 : Int32) (x4 : Int32) (x5 : Int32) (b901 : Addr) (x6 : Int32) (x7 : Int32) (x8 : Int32) (x9 : Int32) (g_b901 : n0 ≤ b901) (A_b901 : zLst Z h0 b901 .byte [(.int x6), (.int x7), (.int x8), (.int x9)]) (k0 : ¬ ((4 : Int32) < x4)) (kf : x3 = (0 : Int32) ∨ x3 = (1 : Int32) ∨ x3 = (2 : Int32) ∨ x3 = (3 : Int32) ∨ x3 = (4 : Int32)) : zCon l Z (⟨"com/example/kakehashi/kakehashi/message/Reading", "indexOf", "([BIIC)I"⟩ : MethodName) prog_64_method_11_code 6 (some .int) ws ({ frames := 0, cells := 0, slots := 0, locals := 0 } : Room) #[(.ref r1), (.ref b901), (.int x3), (.int x4), (.int x5)] h0 (zSame (some (.int (idxv x3 x4 x5 x6 x7 x8 x9))) h0) := by
  obtain ⟨S_w_ONE_CHAR_A_BYTE, S_w_ASCII, S_w_UTF_8, E_w_ONE_CHAR_A_BYTE, E_w_ASCII, E_w_UTF_8⟩ := C
  refine zenter (plainFor_of_name pn_1) (L0 := #[rv r1, rv b901, iv x3, iv x4, iv x5, .unset]) (fun m => by first | rfl | simp [entryFrame, mkF, argsToLocals, Value.category, maxLocals]) ?_
  intro p e s m below meth c T0 hx hZ hby hml hown0 hnm hret hlk X0 e0
  have hown : s.vm.findClass "com/example/kakehashi/kakehashi/message/Reading" = some m.cls := hown0
  have K0 := Keep.refl h0 []
  have N0 := Fr.nil n0
  show zEnds p e below s T0 (mkF m 0 #[rv r1, rv b901, iv x3, iv x4, iv x5, .unset] []) _ _ _
  rcases kf with rfl | rfl | rfl | rfl | rfl
  · show zEnds p e below s T0 (mkF m 0 #[rv r1, rv b901, iv 0, iv x4, iv x5, .unset] []) _ _ _
    refine ziloadN X0 hx hby d_prog_64_method_11_0 rfl (zistore X0 hx hby d_prog_64_method_11_1 (L' := #[rv r1, rv b901, iv 0, iv x4, iv x5, iv 0]) rfl (ziload X0 hx hby d_prog_64_method_11_3 rfl (ziloadN X0 hx hby d_prog_64_method_11_5 rfl ?_)))
    show zEnds p e below s T0 (mkF m 6 #[rv r1, rv b901, iv 0, iv x4, iv x5, iv 0] [(.int x4), (.int 0)]) _ _ _
    by_cases hc1 : (0 : Int32) < x4
    · refine zicmpNo X0 hx hby d_prog_64_method_11_6 (tlt hc1).2.1 (zaloadN X0 hx hby d_prog_64_method_11_9 rfl rfl (ziload X0 hx hby d_prog_64_method_11_10 rfl (zbaload X0 hx hby d_prog_64_method_11_12 hZ e0 A_b901 (by decide) (v := (.int x6)) rfl (ziload X0 hx hby d_prog_64_method_11_13 rfl ?_))))
      show zEnds p e below s T0 (mkF m 15 #[rv r1, rv b901, iv 0, iv x4, iv x5, iv 0] [(.int x5), (.int x6)]) _ _ _
      by_cases hc2 : x6 = x5
      · refine zicmpNo X0 hx hby d_prog_64_method_11_15 (teq hc2).2 (ziload X0 hx hby d_prog_64_method_11_18 rfl ?_)
        show zEnds p e below s T0 (mkF m 20 #[rv r1, rv b901, iv 0, iv x4, iv x5, iv 0] [(.int 0)]) _ _ _
        exact zretI X0 hx hby d_prog_64_method_11_20 hret hlk (by decide) (by decide) ⟨(by simp +decide [idxv, ix0, ix1, ix2, ix3, k0, hc1, hc2]), e0, rfl⟩
      · refine zicmpYes X0 hx hby d_prog_64_method_11_15 21 (feq hc2).2 (by decide) (by decide) (ziinc X0 hx hby d_prog_64_method_11_21 (L' := #[rv r1, rv b901, iv 0, iv x4, iv x5, iv 1]) rfl rfl (zgoto X0 hx hby d_prog_64_method_11_24 3 (by decide) (by decide) (ziload X0 hx hby d_prog_64_method_11_3 rfl (ziloadN X0 hx hby d_prog_64_method_11_5 rfl ?_))))
        show zEnds p e below s T0 (mkF m 6 #[rv r1, rv b901, iv 0, iv x4, iv x5, iv 1] [(.int x4), (.int 1)]) _ _ _
        by_cases hc3 : (1 : Int32) < x4
        · refine zicmpNo X0 hx hby d_prog_64_method_11_6 (tlt hc3).2.1 (zaloadN X0 hx hby d_prog_64_method_11_9 rfl rfl (ziload X0 hx hby d_prog_64_method_11_10 rfl (zbaload X0 hx hby d_prog_64_method_11_12 hZ e0 A_b901 (by decide) (v := (.int x7)) rfl (ziload X0 hx hby d_prog_64_method_11_13 rfl ?_))))
          show zEnds p e below s T0 (mkF m 15 #[rv r1, rv b901, iv 0, iv x4, iv x5, iv 1] [(.int x5), (.int x7)]) _ _ _
          by_cases hc4 : x7 = x5
          · refine zicmpNo X0 hx hby d_prog_64_method_11_15 (teq hc4).2 (ziload X0 hx hby d_prog_64_method_11_18 rfl ?_)
            show zEnds p e below s T0 (mkF m 20 #[rv r1, rv b901, iv 0, iv x4, iv x5, iv 1] [(.int 1)]) _ _ _
            exact zretI X0 hx hby d_prog_64_method_11_20 hret hlk (by decide) (by decide) ⟨(by simp +decide [idxv, ix0, ix1, ix2, ix3, k0, hc1, hc2, hc3, hc4]), e0, rfl⟩
          · refine zicmpYes X0 hx hby d_prog_64_method_11_15 21 (feq hc4).2 (by decide) (by decide) (ziinc X0 hx hby d_prog_64_method_11_21 (L' := #[rv r1, rv b901, iv 0, iv x4, iv x5, iv 2]) rfl rfl (zgoto X0 hx hby d_prog_64_method_11_24 3 (by decide) (by decide) (ziload X0 hx hby d_prog_64_method_11_3 rfl (ziloadN X0 hx hby d_prog_64_method_11_5 rfl ?_))))
            show zEnds p e below s T0 (mkF m 6 #[rv r1, rv b901, iv 0, iv x4, iv x5, iv 2] [(.int x4), (.int 2)]) _ _ _
            by_cases hc5 : (2 : Int32) < x4
            · refine zicmpNo X0 hx hby d_prog_64_method_11_6 (tlt hc5).2.1 (zaloadN X0 hx hby d_prog_64_method_11_9 rfl rfl (ziload X0 hx hby d_prog_64_method_11_10 rfl (zbaload X0 hx hby d_prog_64_method_11_12 hZ e0 A_b901 (by decide) (v := (.int x8)) rfl (ziload X0 hx hby d_prog_64_method_11_13 rfl ?_))))
              show zEnds p e below s T0 (mkF m 15 #[rv r1, rv b901, iv 0, iv x4, iv x5, iv 2] [(.int x5), (.int x8)]) _ _ _
              by_cases hc6 : x8 = x5
              · refine zicmpNo X0 hx hby d_prog_64_method_11_15 (teq hc6).2 (ziload X0 hx hby d_prog_64_method_11_18 rfl ?_)
                show zEnds p e below s T0 (mkF m 20 #[rv r1, rv b901, iv 0, iv x4, iv x5, iv 2] [(.int 2)]) _ _ _
                exact zretI X0 hx hby d_prog_64_method_11_20 hret hlk (by decide) (by decide) ⟨(by simp +decide [idxv, ix0, ix1, ix2, ix3, k0, hc1, hc2, hc3, hc4, hc5, hc6]), e0, rfl⟩
              · refine zicmpYes X0 hx hby d_prog_64_method_11_15 21 (feq hc6).2 (by decide) (by decide) (ziinc X0 hx hby d_prog_64_method_11_21 (L' := #[rv r1, rv b901, iv 0, iv x4, iv x5, iv 3]) rfl rfl (zgoto X0 hx hby d_prog_64_method_11_24 3 (by decide) (by decide) (ziload X0 hx hby d_prog_64_method_11_3 rfl (ziloadN X0 hx hby d_prog_64_method_11_5 rfl ?_))))
                show zEnds p e below s T0 (mkF m 6 #[rv r1, rv b901, iv 0, iv x4, iv x5, iv 3] [(.int x4), (.int 3)]) _ _ _
                by_cases hc7 : (3 : Int32) < x4
                · refine zicmpNo X0 hx hby d_prog_64_method_11_6 (tlt hc7).2.1 (zaloadN X0 hx hby d_prog_64_method_11_9 rfl rfl (ziload X0 hx hby d_prog_64_method_11_10 rfl (zbaload X0 hx hby d_prog_64_method_11_12 hZ e0 A_b901 (by decide) (v := (.int x9)) rfl (ziload X0 hx hby d_prog_64_method_11_13 rfl ?_))))
                  show zEnds p e below s T0 (mkF m 15 #[rv r1, rv b901, iv 0, iv x4, iv x5, iv 3] [(.int x5), (.int x9)]) _ _ _
                  by_cases hc8 : x9 = x5
                  · refine zicmpNo X0 hx hby d_prog_64_method_11_15 (teq hc8).2 (ziload X0 hx hby d_prog_64_method_11_18 rfl ?_)
                    show zEnds p e below s T0 (mkF m 20 #[rv r1, rv b901, iv 0, iv x4, iv x5, iv 3] [(.int 3)]) _ _ _
                    exact zretI X0 hx hby d_prog_64_method_11_20 hret hlk (by decide) (by decide) ⟨(by simp +decide [idxv, ix0, ix1, ix2, ix3, k0, hc1, hc2, hc3, hc4, hc5, hc6, hc7, hc8]), e0, rfl⟩
                  · refine zicmpYes X0 hx hby d_prog_64_method_11_15 21 (feq hc8).2 (by decide) (by decide) (ziinc X0 hx hby d_prog_64_method_11_21 (L' := #[rv r1, rv b901, iv 0, iv x4, iv x5, iv 4]) rfl rfl (zgoto X0 hx hby d_prog_64_method_11_24 3 (by decide) (by decide) (ziload X0 hx hby d_prog_64_method_11_3 rfl (ziloadN X0 hx hby d_prog_64_method_11_5 rfl (zicmpYes X0 hx hby d_prog_64_method_11_6 27 (flt k0).2.1 (by decide) (by decide) (ziloadN X0 hx hby d_prog_64_method_11_27 rfl ?_))))))
                    show zEnds p e below s T0 (mkF m 28 #[rv r1, rv b901, iv 0, iv x4, iv x5, iv 4] [(.int x4)]) _ _ _
                    exact zretI X0 hx hby d_prog_64_method_11_28 hret hlk (by decide) (by decide) ⟨(by simp +decide [idxv, ix0, ix1, ix2, ix3, k0, hc1, hc2, hc3, hc4, hc5, hc6, hc7, hc8]), e0, rfl⟩
                · refine zicmpYes X0 hx hby d_prog_64_method_11_6 27 (flt hc7).2.1 (by decide) (by decide) (ziloadN X0 hx hby d_prog_64_method_11_27 rfl ?_)
                  show zEnds p e below s T0 (mkF m 28 #[rv r1, rv b901, iv 0, iv x4, iv x5, iv 3] [(.int x4)]) _ _ _
                  exact zretI X0 hx hby d_prog_64_method_11_28 hret hlk (by decide) (by decide) ⟨(by simp +decide [idxv, ix0, ix1, ix2, ix3, k0, hc1, hc2, hc3, hc4, hc5, hc6, hc7]), e0, rfl⟩
            · refine zicmpYes X0 hx hby d_prog_64_method_11_6 27 (flt hc5).2.1 (by decide) (by decide) (ziloadN X0 hx hby d_prog_64_method_11_27 rfl ?_)
              show zEnds p e below s T0 (mkF m 28 #[rv r1, rv b901, iv 0, iv x4, iv x5, iv 2] [(.int x4)]) _ _ _
              exact zretI X0 hx hby d_prog_64_method_11_28 hret hlk (by decide) (by decide) ⟨(by simp +decide [idxv, ix0, ix1, ix2, ix3, k0, hc1, hc2, hc3, hc4, hc5]), e0, rfl⟩
        · refine zicmpYes X0 hx hby d_prog_64_method_11_6 27 (flt hc3).2.1 (by decide) (by decide) (ziloadN X0 hx hby d_prog_64_method_11_27 rfl ?_)
          show zEnds p e below s T0 (mkF m 28 #[rv r1, rv b901, iv 0, iv x4, iv x5, iv 1] [(.int x4)]) _ _ _
          exact zretI X0 hx hby d_prog_64_method_11_28 hret hlk (by decide) (by decide) ⟨(by simp +decide [idxv, ix0, ix1, ix2, ix3, k0, hc1, hc2, hc3]), e0, rfl⟩
    · refine zicmpYes X0 hx hby d_prog_64_method_11_6 27 (flt hc1).2.1 (by decide) (by decide) (ziloadN X0 hx hby d_prog_64_method_11_27 rfl ?_)
      show zEnds p e below s T0 (mkF m 28 #[rv r1, rv b901, iv 0, iv x4, iv x5, iv 0] [(.int x4)]) _ _ _
      exact zretI X0 hx hby d_prog_64_method_11_28 hret hlk (by decide) (by decide) ⟨(by simp +decide [idxv, ix0, ix1, ix2, ix3, k0, hc1]), e0, rfl⟩
  · show zEnds p e below s T0 (mkF m 0 #[rv r1, rv b901, iv 1, iv x4, iv x5, .unset] []) _ _ _
    refine ziloadN X0 hx hby d_prog_64_method_11_0 rfl (zistore X0 hx hby d_prog_64_method_11_1 (L' := #[rv r1, rv b901, iv 1, iv x4, iv x5, iv 1]) rfl (ziload X0 hx hby d_prog_64_method_11_3 rfl (ziloadN X0 hx hby d_prog_64_method_11_5 rfl ?_)))
    show zEnds p e below s T0 (mkF m 6 #[rv r1, rv b901, iv 1, iv x4, iv x5, iv 1] [(.int x4), (.int 1)]) _ _ _
    by_cases hc9 : (1 : Int32) < x4
    · refine zicmpNo X0 hx hby d_prog_64_method_11_6 (tlt hc9).2.1 (zaloadN X0 hx hby d_prog_64_method_11_9 rfl rfl (ziload X0 hx hby d_prog_64_method_11_10 rfl (zbaload X0 hx hby d_prog_64_method_11_12 hZ e0 A_b901 (by decide) (v := (.int x7)) rfl (ziload X0 hx hby d_prog_64_method_11_13 rfl ?_))))
      show zEnds p e below s T0 (mkF m 15 #[rv r1, rv b901, iv 1, iv x4, iv x5, iv 1] [(.int x5), (.int x7)]) _ _ _
      by_cases hc10 : x7 = x5
      · refine zicmpNo X0 hx hby d_prog_64_method_11_15 (teq hc10).2 (ziload X0 hx hby d_prog_64_method_11_18 rfl ?_)
        show zEnds p e below s T0 (mkF m 20 #[rv r1, rv b901, iv 1, iv x4, iv x5, iv 1] [(.int 1)]) _ _ _
        exact zretI X0 hx hby d_prog_64_method_11_20 hret hlk (by decide) (by decide) ⟨(by simp +decide [idxv, ix0, ix1, ix2, ix3, k0, hc9, hc10]), e0, rfl⟩
      · refine zicmpYes X0 hx hby d_prog_64_method_11_15 21 (feq hc10).2 (by decide) (by decide) (ziinc X0 hx hby d_prog_64_method_11_21 (L' := #[rv r1, rv b901, iv 1, iv x4, iv x5, iv 2]) rfl rfl (zgoto X0 hx hby d_prog_64_method_11_24 3 (by decide) (by decide) (ziload X0 hx hby d_prog_64_method_11_3 rfl (ziloadN X0 hx hby d_prog_64_method_11_5 rfl ?_))))
        show zEnds p e below s T0 (mkF m 6 #[rv r1, rv b901, iv 1, iv x4, iv x5, iv 2] [(.int x4), (.int 2)]) _ _ _
        by_cases hc11 : (2 : Int32) < x4
        · refine zicmpNo X0 hx hby d_prog_64_method_11_6 (tlt hc11).2.1 (zaloadN X0 hx hby d_prog_64_method_11_9 rfl rfl (ziload X0 hx hby d_prog_64_method_11_10 rfl (zbaload X0 hx hby d_prog_64_method_11_12 hZ e0 A_b901 (by decide) (v := (.int x8)) rfl (ziload X0 hx hby d_prog_64_method_11_13 rfl ?_))))
          show zEnds p e below s T0 (mkF m 15 #[rv r1, rv b901, iv 1, iv x4, iv x5, iv 2] [(.int x5), (.int x8)]) _ _ _
          by_cases hc12 : x8 = x5
          · refine zicmpNo X0 hx hby d_prog_64_method_11_15 (teq hc12).2 (ziload X0 hx hby d_prog_64_method_11_18 rfl ?_)
            show zEnds p e below s T0 (mkF m 20 #[rv r1, rv b901, iv 1, iv x4, iv x5, iv 2] [(.int 2)]) _ _ _
            exact zretI X0 hx hby d_prog_64_method_11_20 hret hlk (by decide) (by decide) ⟨(by simp +decide [idxv, ix0, ix1, ix2, ix3, k0, hc9, hc10, hc11, hc12]), e0, rfl⟩
          · refine zicmpYes X0 hx hby d_prog_64_method_11_15 21 (feq hc12).2 (by decide) (by decide) (ziinc X0 hx hby d_prog_64_method_11_21 (L' := #[rv r1, rv b901, iv 1, iv x4, iv x5, iv 3]) rfl rfl (zgoto X0 hx hby d_prog_64_method_11_24 3 (by decide) (by decide) (ziload X0 hx hby d_prog_64_method_11_3 rfl (ziloadN X0 hx hby d_prog_64_method_11_5 rfl ?_))))
            show zEnds p e below s T0 (mkF m 6 #[rv r1, rv b901, iv 1, iv x4, iv x5, iv 3] [(.int x4), (.int 3)]) _ _ _
            by_cases hc13 : (3 : Int32) < x4
            · refine zicmpNo X0 hx hby d_prog_64_method_11_6 (tlt hc13).2.1 (zaloadN X0 hx hby d_prog_64_method_11_9 rfl rfl (ziload X0 hx hby d_prog_64_method_11_10 rfl (zbaload X0 hx hby d_prog_64_method_11_12 hZ e0 A_b901 (by decide) (v := (.int x9)) rfl (ziload X0 hx hby d_prog_64_method_11_13 rfl ?_))))
              show zEnds p e below s T0 (mkF m 15 #[rv r1, rv b901, iv 1, iv x4, iv x5, iv 3] [(.int x5), (.int x9)]) _ _ _
              by_cases hc14 : x9 = x5
              · refine zicmpNo X0 hx hby d_prog_64_method_11_15 (teq hc14).2 (ziload X0 hx hby d_prog_64_method_11_18 rfl ?_)
                show zEnds p e below s T0 (mkF m 20 #[rv r1, rv b901, iv 1, iv x4, iv x5, iv 3] [(.int 3)]) _ _ _
                exact zretI X0 hx hby d_prog_64_method_11_20 hret hlk (by decide) (by decide) ⟨(by simp +decide [idxv, ix0, ix1, ix2, ix3, k0, hc9, hc10, hc11, hc12, hc13, hc14]), e0, rfl⟩
              · refine zicmpYes X0 hx hby d_prog_64_method_11_15 21 (feq hc14).2 (by decide) (by decide) (ziinc X0 hx hby d_prog_64_method_11_21 (L' := #[rv r1, rv b901, iv 1, iv x4, iv x5, iv 4]) rfl rfl (zgoto X0 hx hby d_prog_64_method_11_24 3 (by decide) (by decide) (ziload X0 hx hby d_prog_64_method_11_3 rfl (ziloadN X0 hx hby d_prog_64_method_11_5 rfl (zicmpYes X0 hx hby d_prog_64_method_11_6 27 (flt k0).2.1 (by decide) (by decide) (ziloadN X0 hx hby d_prog_64_method_11_27 rfl ?_))))))
                show zEnds p e below s T0 (mkF m 28 #[rv r1, rv b901, iv 1, iv x4, iv x5, iv 4] [(.int x4)]) _ _ _
                exact zretI X0 hx hby d_prog_64_method_11_28 hret hlk (by decide) (by decide) ⟨(by simp +decide [idxv, ix0, ix1, ix2, ix3, k0, hc9, hc10, hc11, hc12, hc13, hc14]), e0, rfl⟩
            · refine zicmpYes X0 hx hby d_prog_64_method_11_6 27 (flt hc13).2.1 (by decide) (by decide) (ziloadN X0 hx hby d_prog_64_method_11_27 rfl ?_)
              show zEnds p e below s T0 (mkF m 28 #[rv r1, rv b901, iv 1, iv x4, iv x5, iv 3] [(.int x4)]) _ _ _
              exact zretI X0 hx hby d_prog_64_method_11_28 hret hlk (by decide) (by decide) ⟨(by simp +decide [idxv, ix0, ix1, ix2, ix3, k0, hc9, hc10, hc11, hc12, hc13]), e0, rfl⟩
        · refine zicmpYes X0 hx hby d_prog_64_method_11_6 27 (flt hc11).2.1 (by decide) (by decide) (ziloadN X0 hx hby d_prog_64_method_11_27 rfl ?_)
          show zEnds p e below s T0 (mkF m 28 #[rv r1, rv b901, iv 1, iv x4, iv x5, iv 2] [(.int x4)]) _ _ _
          exact zretI X0 hx hby d_prog_64_method_11_28 hret hlk (by decide) (by decide) ⟨(by simp +decide [idxv, ix0, ix1, ix2, ix3, k0, hc9, hc10, hc11]), e0, rfl⟩
    · refine zicmpYes X0 hx hby d_prog_64_method_11_6 27 (flt hc9).2.1 (by decide) (by decide) (ziloadN X0 hx hby d_prog_64_method_11_27 rfl ?_)
      show zEnds p e below s T0 (mkF m 28 #[rv r1, rv b901, iv 1, iv x4, iv x5, iv 1] [(.int x4)]) _ _ _
      exact zretI X0 hx hby d_prog_64_method_11_28 hret hlk (by decide) (by decide) ⟨(by simp +decide [idxv, ix0, ix1, ix2, ix3, k0, hc9]), e0, rfl⟩
  · show zEnds p e below s T0 (mkF m 0 #[rv r1, rv b901, iv 2, iv x4, iv x5, .unset] []) _ _ _
    refine ziloadN X0 hx hby d_prog_64_method_11_0 rfl (zistore X0 hx hby d_prog_64_method_11_1 (L' := #[rv r1, rv b901, iv 2, iv x4, iv x5, iv 2]) rfl (ziload X0 hx hby d_prog_64_method_11_3 rfl (ziloadN X0 hx hby d_prog_64_method_11_5 rfl ?_)))
    show zEnds p e below s T0 (mkF m 6 #[rv r1, rv b901, iv 2, iv x4, iv x5, iv 2] [(.int x4), (.int 2)]) _ _ _
    by_cases hc15 : (2 : Int32) < x4
    · refine zicmpNo X0 hx hby d_prog_64_method_11_6 (tlt hc15).2.1 (zaloadN X0 hx hby d_prog_64_method_11_9 rfl rfl (ziload X0 hx hby d_prog_64_method_11_10 rfl (zbaload X0 hx hby d_prog_64_method_11_12 hZ e0 A_b901 (by decide) (v := (.int x8)) rfl (ziload X0 hx hby d_prog_64_method_11_13 rfl ?_))))
      show zEnds p e below s T0 (mkF m 15 #[rv r1, rv b901, iv 2, iv x4, iv x5, iv 2] [(.int x5), (.int x8)]) _ _ _
      by_cases hc16 : x8 = x5
      · refine zicmpNo X0 hx hby d_prog_64_method_11_15 (teq hc16).2 (ziload X0 hx hby d_prog_64_method_11_18 rfl ?_)
        show zEnds p e below s T0 (mkF m 20 #[rv r1, rv b901, iv 2, iv x4, iv x5, iv 2] [(.int 2)]) _ _ _
        exact zretI X0 hx hby d_prog_64_method_11_20 hret hlk (by decide) (by decide) ⟨(by simp +decide [idxv, ix0, ix1, ix2, ix3, k0, hc15, hc16]), e0, rfl⟩
      · refine zicmpYes X0 hx hby d_prog_64_method_11_15 21 (feq hc16).2 (by decide) (by decide) (ziinc X0 hx hby d_prog_64_method_11_21 (L' := #[rv r1, rv b901, iv 2, iv x4, iv x5, iv 3]) rfl rfl (zgoto X0 hx hby d_prog_64_method_11_24 3 (by decide) (by decide) (ziload X0 hx hby d_prog_64_method_11_3 rfl (ziloadN X0 hx hby d_prog_64_method_11_5 rfl ?_))))
        show zEnds p e below s T0 (mkF m 6 #[rv r1, rv b901, iv 2, iv x4, iv x5, iv 3] [(.int x4), (.int 3)]) _ _ _
        by_cases hc17 : (3 : Int32) < x4
        · refine zicmpNo X0 hx hby d_prog_64_method_11_6 (tlt hc17).2.1 (zaloadN X0 hx hby d_prog_64_method_11_9 rfl rfl (ziload X0 hx hby d_prog_64_method_11_10 rfl (zbaload X0 hx hby d_prog_64_method_11_12 hZ e0 A_b901 (by decide) (v := (.int x9)) rfl (ziload X0 hx hby d_prog_64_method_11_13 rfl ?_))))
          show zEnds p e below s T0 (mkF m 15 #[rv r1, rv b901, iv 2, iv x4, iv x5, iv 3] [(.int x5), (.int x9)]) _ _ _
          by_cases hc18 : x9 = x5
          · refine zicmpNo X0 hx hby d_prog_64_method_11_15 (teq hc18).2 (ziload X0 hx hby d_prog_64_method_11_18 rfl ?_)
            show zEnds p e below s T0 (mkF m 20 #[rv r1, rv b901, iv 2, iv x4, iv x5, iv 3] [(.int 3)]) _ _ _
            exact zretI X0 hx hby d_prog_64_method_11_20 hret hlk (by decide) (by decide) ⟨(by simp +decide [idxv, ix0, ix1, ix2, ix3, k0, hc15, hc16, hc17, hc18]), e0, rfl⟩
          · refine zicmpYes X0 hx hby d_prog_64_method_11_15 21 (feq hc18).2 (by decide) (by decide) (ziinc X0 hx hby d_prog_64_method_11_21 (L' := #[rv r1, rv b901, iv 2, iv x4, iv x5, iv 4]) rfl rfl (zgoto X0 hx hby d_prog_64_method_11_24 3 (by decide) (by decide) (ziload X0 hx hby d_prog_64_method_11_3 rfl (ziloadN X0 hx hby d_prog_64_method_11_5 rfl (zicmpYes X0 hx hby d_prog_64_method_11_6 27 (flt k0).2.1 (by decide) (by decide) (ziloadN X0 hx hby d_prog_64_method_11_27 rfl ?_))))))
            show zEnds p e below s T0 (mkF m 28 #[rv r1, rv b901, iv 2, iv x4, iv x5, iv 4] [(.int x4)]) _ _ _
            exact zretI X0 hx hby d_prog_64_method_11_28 hret hlk (by decide) (by decide) ⟨(by simp +decide [idxv, ix0, ix1, ix2, ix3, k0, hc15, hc16, hc17, hc18]), e0, rfl⟩
        · refine zicmpYes X0 hx hby d_prog_64_method_11_6 27 (flt hc17).2.1 (by decide) (by decide) (ziloadN X0 hx hby d_prog_64_method_11_27 rfl ?_)
          show zEnds p e below s T0 (mkF m 28 #[rv r1, rv b901, iv 2, iv x4, iv x5, iv 3] [(.int x4)]) _ _ _
          exact zretI X0 hx hby d_prog_64_method_11_28 hret hlk (by decide) (by decide) ⟨(by simp +decide [idxv, ix0, ix1, ix2, ix3, k0, hc15, hc16, hc17]), e0, rfl⟩
    · refine zicmpYes X0 hx hby d_prog_64_method_11_6 27 (flt hc15).2.1 (by decide) (by decide) (ziloadN X0 hx hby d_prog_64_method_11_27 rfl ?_)
      show zEnds p e below s T0 (mkF m 28 #[rv r1, rv b901, iv 2, iv x4, iv x5, iv 2] [(.int x4)]) _ _ _
      exact zretI X0 hx hby d_prog_64_method_11_28 hret hlk (by decide) (by decide) ⟨(by simp +decide [idxv, ix0, ix1, ix2, ix3, k0, hc15]), e0, rfl⟩
  · show zEnds p e below s T0 (mkF m 0 #[rv r1, rv b901, iv 3, iv x4, iv x5, .unset] []) _ _ _
    refine ziloadN X0 hx hby d_prog_64_method_11_0 rfl (zistore X0 hx hby d_prog_64_method_11_1 (L' := #[rv r1, rv b901, iv 3, iv x4, iv x5, iv 3]) rfl (ziload X0 hx hby d_prog_64_method_11_3 rfl (ziloadN X0 hx hby d_prog_64_method_11_5 rfl ?_)))
    show zEnds p e below s T0 (mkF m 6 #[rv r1, rv b901, iv 3, iv x4, iv x5, iv 3] [(.int x4), (.int 3)]) _ _ _
    by_cases hc19 : (3 : Int32) < x4
    · refine zicmpNo X0 hx hby d_prog_64_method_11_6 (tlt hc19).2.1 (zaloadN X0 hx hby d_prog_64_method_11_9 rfl rfl (ziload X0 hx hby d_prog_64_method_11_10 rfl (zbaload X0 hx hby d_prog_64_method_11_12 hZ e0 A_b901 (by decide) (v := (.int x9)) rfl (ziload X0 hx hby d_prog_64_method_11_13 rfl ?_))))
      show zEnds p e below s T0 (mkF m 15 #[rv r1, rv b901, iv 3, iv x4, iv x5, iv 3] [(.int x5), (.int x9)]) _ _ _
      by_cases hc20 : x9 = x5
      · refine zicmpNo X0 hx hby d_prog_64_method_11_15 (teq hc20).2 (ziload X0 hx hby d_prog_64_method_11_18 rfl ?_)
        show zEnds p e below s T0 (mkF m 20 #[rv r1, rv b901, iv 3, iv x4, iv x5, iv 3] [(.int 3)]) _ _ _
        exact zretI X0 hx hby d_prog_64_method_11_20 hret hlk (by decide) (by decide) ⟨(by simp +decide [idxv, ix0, ix1, ix2, ix3, k0, hc19, hc20]), e0, rfl⟩
      · refine zicmpYes X0 hx hby d_prog_64_method_11_15 21 (feq hc20).2 (by decide) (by decide) (ziinc X0 hx hby d_prog_64_method_11_21 (L' := #[rv r1, rv b901, iv 3, iv x4, iv x5, iv 4]) rfl rfl (zgoto X0 hx hby d_prog_64_method_11_24 3 (by decide) (by decide) (ziload X0 hx hby d_prog_64_method_11_3 rfl (ziloadN X0 hx hby d_prog_64_method_11_5 rfl (zicmpYes X0 hx hby d_prog_64_method_11_6 27 (flt k0).2.1 (by decide) (by decide) (ziloadN X0 hx hby d_prog_64_method_11_27 rfl ?_))))))
        show zEnds p e below s T0 (mkF m 28 #[rv r1, rv b901, iv 3, iv x4, iv x5, iv 4] [(.int x4)]) _ _ _
        exact zretI X0 hx hby d_prog_64_method_11_28 hret hlk (by decide) (by decide) ⟨(by simp +decide [idxv, ix0, ix1, ix2, ix3, k0, hc19, hc20]), e0, rfl⟩
    · refine zicmpYes X0 hx hby d_prog_64_method_11_6 27 (flt hc19).2.1 (by decide) (by decide) (ziloadN X0 hx hby d_prog_64_method_11_27 rfl ?_)
      show zEnds p e below s T0 (mkF m 28 #[rv r1, rv b901, iv 3, iv x4, iv x5, iv 3] [(.int x4)]) _ _ _
      exact zretI X0 hx hby d_prog_64_method_11_28 hret hlk (by decide) (by decide) ⟨(by simp +decide [idxv, ix0, ix1, ix2, ix3, k0, hc19]), e0, rfl⟩
  · show zEnds p e below s T0 (mkF m 0 #[rv r1, rv b901, iv 4, iv x4, iv x5, .unset] []) _ _ _
    refine ziloadN X0 hx hby d_prog_64_method_11_0 rfl (zistore X0 hx hby d_prog_64_method_11_1 (L' := #[rv r1, rv b901, iv 4, iv x4, iv x5, iv 4]) rfl (ziload X0 hx hby d_prog_64_method_11_3 rfl (ziloadN X0 hx hby d_prog_64_method_11_5 rfl (zicmpYes X0 hx hby d_prog_64_method_11_6 27 (flt k0).2.1 (by decide) (by decide) (ziloadN X0 hx hby d_prog_64_method_11_27 rfl ?_)))))
    show zEnds p e below s T0 (mkF m 28 #[rv r1, rv b901, iv 4, iv x4, iv x5, iv 4] [(.int x4)]) _ _ _
    exact zretI X0 hx hby d_prog_64_method_11_28 hret hlk (by decide) (by decide) ⟨(by simp +decide [idxv, ix0, ix1, ix2, ix3, k0]), e0, rfl⟩
set_option maxRecDepth 65536 in
set_option maxHeartbeats 40000000 in
theorem rm0 (l : Launch) {Z : State} {a0 : Array Value} (hw : ∀ d ∈ tables_1, d.before a0 Z = true) (ws : List Jvm.Cond) {w_ONE_CHAR_A_BYTE w_ASCII w_UTF_8 : Addr} {n0 : Nat} {h0 : Heap} (C : Ctx Z w_ONE_CHAR_A_BYTE w_ASCII w_UTF_8) (O0 : Old Z n0 h0) (Z0 : n0 ≤ h0.size) (p1 : Int32) (p2 : Int32) (p3 : Int32) (p4 : Int32) (p5 : Int32) : zCon l Z x code maxLocals ret ws room_1 #[(.int p1), (.int p2), (.int p3), (.int p4), (.int p5)] h0 (fun v h L => v = some (.int (1 : Int32)) ∧ Fr n0 L) := by
  obtain ⟨S_w_ONE_CHAR_A_BYTE, S_w_ASCII, S_w_UTF_8, E_w_ONE_CHAR_A_BYTE, E_w_ASCII, E_w_UTF_8⟩ := C
  refine zenter (plainFor_of_name pn_0) (L0 := #[iv p1, iv p2, iv p3, iv p4, iv p5, .unset, .unset, .unset, .unset, .unset, .unset, .unset]) (fun m => by first | rfl | simp [entryFrame, mkF, argsToLocals, Value.category, maxLocals]) ?_
  intro p e s m below meth c T0 hx hZ hby hml hown0 hnm hret hlk X0 e0
  have hown : s.vm.findClass "com/example/kakehashi/kakehashi/message/ReadingIndexOfPinLaw" = some m.cls := hown0
  have K0 := Keep.refl h0 []
  have N0 := Fr.nil n0
  show zEnds p e below s T0 (mkF m 0 #[iv p1, iv p2, iv p3, iv p4, iv p5, .unset, .unset, .unset, .unset, .unset, .unset, .unset] []) _ _ _
  refine ziconst X0 hx hby at_0 (z := (4 : Int32)) rfl (znewprim X0 hx hby at_1 hZ (w0 hw) e0 (by decide) 4 (by decide) (by decide) (by decide) (by decide) fun T1 h1 b1 X1 e1 y1 Ex1 A1_b1 => ?_)
  change zLst Z h1 b1 .byte [(.int 0), (.int 0), (.int 0), (.int 0)] at A1_b1
  have O1 := O0.ext Ex1
  have K1 := Keep.ext K0 Ex1
  have g1 : n0 ≤ b1 := by rw [y1]; exact Nat.le_trans Z0 K0.1
  have z1 : h0.size ≤ b1 := by rw [y1]; exact K0.1
  refine zastore X1 hx hby at_3 (hv := rfl) (L' := #[iv p1, iv p2, iv p3, iv p4, iv p5, rv b1, .unset, .unset, .unset, .unset, .unset, .unset]) rfl (zaload X1 hx hby at_5 rfl rfl (ziconst X1 hx hby at_7 (z := (0 : Int32)) rfl (ziloadN X1 hx hby at_8 rfl (zi2b X1 hx hby at_9 (p1.toInt8.toInt32) rfl ?_))))
  show zEnds p e below s T1 (mkF m 10 #[iv p1, iv p2, iv p3, iv p4, iv p5, rv b1, .unset, .unset, .unset, .unset, .unset, .unset] [(.int (p1.toInt8.toInt32)), (.int 0), (.ref b1)]) _ _ _
  generalize e_vb0 : (p1.toInt8.toInt32) = vb0
  have hb0 : -128 ≤ vb0.toInt ∧ vb0.toInt < 128 := by rw [← e_vb0]; exact own_b _
  have hn0 : nar .byte vb0 = vb0 := by rw [← e_vb0]; exact own_nar8 _
  refine zbastore X1 hx hby at_10 hZ e1 A1_b1 (by decide) (by show Int32.toNatClampNeg 0 < 4; decide) vb0 hn0 fun T2 h2 X2 e2 W2 A2_b1 => ?_
  change zLst Z h2 b1 .byte [(.int vb0), (.int 0), (.int 0), (.int 0)] at A2_b1
  have O2 := O1.wr W2 g1
  have K2 := Keep.wr K1 W2 (Or.inr z1)
  have N2 := Fr.snoc X2 N0 g1
  refine zaload X2 hx hby at_11 rfl rfl (ziconst X2 hx hby at_13 (z := (1 : Int32)) rfl (ziloadN X2 hx hby at_14 rfl (zbipush X2 hx hby at_15 (z := (8 : Int32)) rfl (zishr X2 hx hby at_17 (p1 >>> ((8 : Int32) &&& 31)) rfl (zi2b X2 hx hby at_18 ((p1 >>> ((8 : Int32) &&& 31)).toInt8.toInt32) rfl ?_)))))
  show zEnds p e below s T2 (mkF m 19 #[iv p1, iv p2, iv p3, iv p4, iv p5, rv b1, .unset, .unset, .unset, .unset, .unset, .unset] [(.int ((p1 >>> ((8 : Int32) &&& 31)).toInt8.toInt32)), (.int 1), (.ref b1)]) _ _ _
  generalize e_vb1 : ((p1 >>> ((8 : Int32) &&& 31)).toInt8.toInt32) = vb1
  have hb1 : -128 ≤ vb1.toInt ∧ vb1.toInt < 128 := by rw [← e_vb1]; exact own_b _
  have hn1 : nar .byte vb1 = vb1 := by rw [← e_vb1]; exact own_nar8 _
  refine zbastore X2 hx hby at_19 hZ e2 A2_b1 (by decide) (by show Int32.toNatClampNeg 1 < 4; decide) vb1 hn1 fun T3 h3 X3 e3 W3 A3_b1 => ?_
  change zLst Z h3 b1 .byte [(.int vb0), (.int vb1), (.int 0), (.int 0)] at A3_b1
  have O3 := O2.wr W3 g1
  have K3 := Keep.wr K2 W3 (Or.inr z1)
  have N3 := Fr.snoc X3 N2 g1
  refine zaload X3 hx hby at_20 rfl rfl (ziconst X3 hx hby at_22 (z := (2 : Int32)) rfl (ziloadN X3 hx hby at_23 rfl (zbipush X3 hx hby at_24 (z := (16 : Int32)) rfl (zishr X3 hx hby at_26 (p1 >>> ((16 : Int32) &&& 31)) rfl (zi2b X3 hx hby at_27 ((p1 >>> ((16 : Int32) &&& 31)).toInt8.toInt32) rfl ?_)))))
  show zEnds p e below s T3 (mkF m 28 #[iv p1, iv p2, iv p3, iv p4, iv p5, rv b1, .unset, .unset, .unset, .unset, .unset, .unset] [(.int ((p1 >>> ((16 : Int32) &&& 31)).toInt8.toInt32)), (.int 2), (.ref b1)]) _ _ _
  generalize e_vb2 : ((p1 >>> ((16 : Int32) &&& 31)).toInt8.toInt32) = vb2
  have hb2 : -128 ≤ vb2.toInt ∧ vb2.toInt < 128 := by rw [← e_vb2]; exact own_b _
  have hn2 : nar .byte vb2 = vb2 := by rw [← e_vb2]; exact own_nar8 _
  refine zbastore X3 hx hby at_28 hZ e3 A3_b1 (by decide) (by show Int32.toNatClampNeg 2 < 4; decide) vb2 hn2 fun T4 h4 X4 e4 W4 A4_b1 => ?_
  change zLst Z h4 b1 .byte [(.int vb0), (.int vb1), (.int vb2), (.int 0)] at A4_b1
  have O4 := O3.wr W4 g1
  have K4 := Keep.wr K3 W4 (Or.inr z1)
  have N4 := Fr.snoc X4 N3 g1
  refine zaload X4 hx hby at_29 rfl rfl (ziconst X4 hx hby at_31 (z := (3 : Int32)) rfl (ziloadN X4 hx hby at_32 rfl (zbipush X4 hx hby at_33 (z := (24 : Int32)) rfl (ziushr X4 hx hby at_35 ((p1.toUInt32 >>> ((24 : Int32) &&& 31).toUInt32).toInt32) rfl (zi2b X4 hx hby at_36 (((p1.toUInt32 >>> ((24 : Int32) &&& 31).toUInt32).toInt32).toInt8.toInt32) rfl ?_)))))
  show zEnds p e below s T4 (mkF m 37 #[iv p1, iv p2, iv p3, iv p4, iv p5, rv b1, .unset, .unset, .unset, .unset, .unset, .unset] [(.int (((p1.toUInt32 >>> ((24 : Int32) &&& 31).toUInt32).toInt32).toInt8.toInt32)), (.int 3), (.ref b1)]) _ _ _
  generalize e_vb3 : (((p1.toUInt32 >>> ((24 : Int32) &&& 31).toUInt32).toInt32).toInt8.toInt32) = vb3
  have hb3 : -128 ≤ vb3.toInt ∧ vb3.toInt < 128 := by rw [← e_vb3]; exact own_b _
  have hn3 : nar .byte vb3 = vb3 := by rw [← e_vb3]; exact own_nar8 _
  refine zbastore X4 hx hby at_37 hZ e4 A4_b1 (by decide) (by show Int32.toNatClampNeg 3 < 4; decide) vb3 hn3 fun T5 h5 X5 e5 W5 A5_b1 => ?_
  change zLst Z h5 b1 .byte [(.int vb0), (.int vb1), (.int vb2), (.int vb3)] at A5_b1
  have O5 := O4.wr W5 g1
  have K5 := Keep.wr K4 W5 (Or.inr z1)
  have N5 := Fr.snoc X5 N4 g1
  refine ziloadN X5 hx hby at_38 rfl (zldcI X5 hx hby at_39 (2147483647 : Int32) hZ hown (w1 hw) (ziand X5 hx hby at_41 (p3 &&& (2147483647 : Int32)) rfl (ziconst X5 hx hby at_42 (z := (5 : Int32)) rfl (zirem X5 hx hby at_43 ((p3 &&& (2147483647 : Int32)) % (5 : Int32)) (by decide) rfl ?_))))
  show zEnds p e below s T5 (mkF m 44 #[iv p1, iv p2, iv p3, iv p4, iv p5, rv b1, .unset, .unset, .unset, .unset, .unset, .unset] [(.int ((p3 &&& (2147483647 : Int32)) % (5 : Int32)))]) _ _ _
  generalize e_vF : ((p3 &&& (2147483647 : Int32)) % (5 : Int32)) = vF
  have kF : vF = (0 : Int32) ∨ vF = (1 : Int32) ∨ vF = (2 : Int32) ∨ vF = (3 : Int32) ∨ vF = (4 : Int32) := by rw [← e_vF]; exact rem_5 p3
  refine zistore X5 hx hby at_44 (L' := #[iv p1, iv p2, iv p3, iv p4, iv p5, rv b1, iv vF, .unset, .unset, .unset, .unset, .unset]) rfl (ziload X5 hx hby at_46 rfl (ziloadN X5 hx hby at_48 rfl (zldcI X5 hx hby at_49 (2147483647 : Int32) hZ hown (w1 hw) (ziand X5 hx hby at_51 (p4 &&& (2147483647 : Int32)) rfl (ziconst X5 hx hby at_52 (z := (5 : Int32)) rfl (ziload X5 hx hby at_53 rfl (zisub X5 hx hby at_55 ((5 : Int32) - vF) rfl ?_)))))))
  show zEnds p e below s T5 (mkF m 56 #[iv p1, iv p2, iv p3, iv p4, iv p5, rv b1, iv vF, .unset, .unset, .unset, .unset, .unset] [(.int ((5 : Int32) - vF)), (.int (p4 &&& (2147483647 : Int32))), (.int vF)]) _ _ _
  have nz : ((5 : Int32) - vF) ≠ 0 := by rw [← e_vF]; exact own_nz p3
  refine zirem X5 hx hby at_56 ((p4 &&& (2147483647 : Int32)) % ((5 : Int32) - vF)) nz rfl (ziadd X5 hx hby at_57 (vF + ((p4 &&& (2147483647 : Int32)) % ((5 : Int32) - vF))) rfl ?_)
  show zEnds p e below s T5 (mkF m 58 #[iv p1, iv p2, iv p3, iv p4, iv p5, rv b1, iv vF, .unset, .unset, .unset, .unset, .unset] [(.int (vF + ((p4 &&& (2147483647 : Int32)) % ((5 : Int32) - vF))))]) _ _ _
  generalize e_vT : (vF + ((p4 &&& (2147483647 : Int32)) % ((5 : Int32) - vF))) = vT
  have kT : ¬ ((4 : Int32) < vT) := by rw [← e_vT, ← e_vF]; exact own_to p3 p4
  refine zistore X5 hx hby at_58 (L' := #[iv p1, iv p2, iv p3, iv p4, iv p5, rv b1, iv vF, iv vT, .unset, .unset, .unset, .unset]) rfl (ziloadN X5 hx hby at_60 rfl (zbipush X5 hx hby at_61 (z := (127 : Int32)) rfl (ziand X5 hx hby at_63 (p2 &&& (127 : Int32)) rfl (zi2c X5 hx hby at_64 ((p2 &&& (127 : Int32)).toUInt32.toUInt16.toUInt32.toInt32) rfl ?_))))
  show zEnds p e below s T5 (mkF m 65 #[iv p1, iv p2, iv p3, iv p4, iv p5, rv b1, iv vF, iv vT, .unset, .unset, .unset, .unset] [(.int ((p2 &&& (127 : Int32)).toUInt32.toUInt16.toUInt32.toInt32))]) _ _ _
  generalize e_vc : ((p2 &&& (127 : Int32)).toUInt32.toUInt16.toUInt32.toInt32) = vc
  have kc : 0 ≤ vc.toInt ∧ vc.toInt ≤ 127 := by rw [← e_vc]; exact own_c p2
  refine zistore X5 hx hby at_65 (L' := #[iv p1, iv p2, iv p3, iv p4, iv p5, rv b1, iv vF, iv vT, iv vc, .unset, .unset, .unset]) rfl (ziload X5 hx hby at_67 rfl (zldcI X5 hx hby at_69 (2147483647 : Int32) hZ hown (w1 hw) (ziand X5 hx hby at_71 (p5 &&& (2147483647 : Int32)) rfl (ziconst X5 hx hby at_72 (z := (3 : Int32)) rfl (zirem X5 hx hby at_73 ((p5 &&& (2147483647 : Int32)) % (3 : Int32)) (by decide) rfl ?_)))))
  show zEnds p e below s T5 (mkF m 74 #[iv p1, iv p2, iv p3, iv p4, iv p5, rv b1, iv vF, iv vT, iv vc, .unset, .unset, .unset] [(.int ((p5 &&& (2147483647 : Int32)) % (3 : Int32)))]) _ _ _
  rcases (rem_3 p5) with q6 | q6 | q6
  · rw [q6]
    refine zistore X5 hx hby at_74 (L' := #[iv p1, iv p2, iv p3, iv p4, iv p5, rv b1, iv vF, iv vT, iv vc, iv 0, .unset, .unset]) rfl (ziload X5 hx hby at_76 rfl (zifNo X5 hx hby at_78 (by decide) (zgetstat X5 hx hby at_81 hZ hown (host := "") (Or.inl (w2 hw)) Via.refl e5 (S_w_ONE_CHAR_A_BYTE.ext O5.2) fun T7 X7 e7 => (zastore X7 hx hby at_84 (hv := rfl) (L' := #[iv p1, iv p2, iv p3, iv p4, iv p5, rv b1, iv vF, iv vT, iv vc, iv 0, rv w_ONE_CHAR_A_BYTE, .unset]) rfl (zgoto X7 hx hby at_86 108 (by decide) (by decide) (ziload X7 hx hby at_108 rfl (zistore X7 hx hby at_110 (L' := #[iv p1, iv p2, iv p3, iv p4, iv p5, rv b1, iv vF, iv vT, iv vc, iv 0, rv w_ONE_CHAR_A_BYTE, iv vT]) rfl (zaload X7 hx hby at_112 rfl rfl (ziload X7 hx hby at_114 rfl ?_)))))))))
    show zEnds p e below s T7 (mkF m 116 #[iv p1, iv p2, iv p3, iv p4, iv p5, rv b1, iv vF, iv vT, iv vc, iv 0, rv w_ONE_CHAR_A_BYTE, iv vT] [(.int vF), (.ref b1)]) _ _ _
    refine ziload X7 hx hby at_116 rfl (ziconst X7 hx hby at_118 (z := (3 : Int32)) rfl (ziload X7 hx hby at_119 rfl (zcalls X7 hx hby at_121 hZ hown (w5 hw) (w6 hw) (w7 hw) (w8 hw) e7 (c1_hit l hw [] ⟨S_w_ONE_CHAR_A_BYTE, S_w_ASCII, S_w_UTF_8, E_w_ONE_CHAR_A_BYTE, E_w_ASCII, E_w_UTF_8⟩ O5 (Nat.le_trans Z0 K5.1) vF vT vc b1 vb0 vb1 vb2 vb3 g1 A5_b1 kT) (by decide) (by rw [hml]; rfl) 0 (Nat.le_of_eq rfl) (by decide) (by decide) (by decide) (by decide) pd_0 rfl (argsL := [(.ref b1), (.int vF), (.int vT), (.int 3), (.int vc)]) (st := []) rfl (zpureK ⟨rfl, rfl⟩ fun T8 X8 e8 => ?_))))
    show zEnds p e below s T8 (mkF m 124 #[iv p1, iv p2, iv p3, iv p4, iv p5, rv b1, iv vF, iv vT, iv vc, iv 0, rv w_ONE_CHAR_A_BYTE, iv vT] [(.int (hitv vF vT (3 : Int32) vb3 vc))]) _ _ _
    by_cases hc9 : (hitv vF vT (3 : Int32) vb3 vc) = (0 : Int32)
    · refine zifYes X8 hx hby at_124 130 ((if0 _ _).trans (teq hc9).1) (by decide) (by decide) (zaload X8 hx hby at_130 rfl rfl (ziload X8 hx hby at_132 rfl (ziload X8 hx hby at_134 rfl (ziconst X8 hx hby at_136 (z := (2 : Int32)) rfl (ziload X8 hx hby at_137 rfl (zcalls X8 hx hby at_139 hZ hown (w5 hw) (w6 hw) (w7 hw) (w8 hw) e8 (c3_hit l hw [] ⟨S_w_ONE_CHAR_A_BYTE, S_w_ASCII, S_w_UTF_8, E_w_ONE_CHAR_A_BYTE, E_w_ASCII, E_w_UTF_8⟩ O5 (Nat.le_trans Z0 K5.1) vF vT vc b1 vb0 vb1 vb2 vb3 g1 A5_b1 kT) (by decide) (by rw [hml]; rfl) 0 (Nat.le_of_eq rfl) (by decide) (by decide) (by decide) (by decide) pd_0 rfl (argsL := [(.ref b1), (.int vF), (.int vT), (.int 2), (.int vc)]) (st := []) rfl (zpureK ⟨rfl, rfl⟩ fun T10 X10 e10 => ?_)))))))
      show zEnds p e below s T10 (mkF m 142 #[iv p1, iv p2, iv p3, iv p4, iv p5, rv b1, iv vF, iv vT, iv vc, iv 0, rv w_ONE_CHAR_A_BYTE, iv vT] [(.int (hitv vF vT (2 : Int32) vb2 vc))]) _ _ _
      by_cases hc11 : (hitv vF vT (2 : Int32) vb2 vc) = (0 : Int32)
      · refine zifYes X10 hx hby at_142 148 ((if0 _ _).trans (teq hc11).1) (by decide) (by decide) (zaload X10 hx hby at_148 rfl rfl (ziload X10 hx hby at_150 rfl (ziload X10 hx hby at_152 rfl (ziconst X10 hx hby at_154 (z := (1 : Int32)) rfl (ziload X10 hx hby at_155 rfl (zcalls X10 hx hby at_157 hZ hown (w5 hw) (w6 hw) (w7 hw) (w8 hw) e10 (c5_hit l hw [] ⟨S_w_ONE_CHAR_A_BYTE, S_w_ASCII, S_w_UTF_8, E_w_ONE_CHAR_A_BYTE, E_w_ASCII, E_w_UTF_8⟩ O5 (Nat.le_trans Z0 K5.1) vF vT vc b1 vb0 vb1 vb2 vb3 g1 A5_b1 kT) (by decide) (by rw [hml]; rfl) 0 (Nat.le_of_eq rfl) (by decide) (by decide) (by decide) (by decide) pd_0 rfl (argsL := [(.ref b1), (.int vF), (.int vT), (.int 1), (.int vc)]) (st := []) rfl (zpureK ⟨rfl, rfl⟩ fun T12 X12 e12 => ?_)))))))
        show zEnds p e below s T12 (mkF m 160 #[iv p1, iv p2, iv p3, iv p4, iv p5, rv b1, iv vF, iv vT, iv vc, iv 0, rv w_ONE_CHAR_A_BYTE, iv vT] [(.int (hitv vF vT (1 : Int32) vb1 vc))]) _ _ _
        by_cases hc13 : (hitv vF vT (1 : Int32) vb1 vc) = (0 : Int32)
        · refine zifYes X12 hx hby at_160 166 ((if0 _ _).trans (teq hc13).1) (by decide) (by decide) (zaload X12 hx hby at_166 rfl rfl (ziload X12 hx hby at_168 rfl (ziload X12 hx hby at_170 rfl (ziconst X12 hx hby at_172 (z := (0 : Int32)) rfl (ziload X12 hx hby at_173 rfl (zcalls X12 hx hby at_175 hZ hown (w5 hw) (w6 hw) (w7 hw) (w8 hw) e12 (c7_hit l hw [] ⟨S_w_ONE_CHAR_A_BYTE, S_w_ASCII, S_w_UTF_8, E_w_ONE_CHAR_A_BYTE, E_w_ASCII, E_w_UTF_8⟩ O5 (Nat.le_trans Z0 K5.1) vF vT vc b1 vb0 vb1 vb2 vb3 g1 A5_b1 kT) (by decide) (by rw [hml]; rfl) 0 (Nat.le_of_eq rfl) (by decide) (by decide) (by decide) (by decide) pd_0 rfl (argsL := [(.ref b1), (.int vF), (.int vT), (.int 0), (.int vc)]) (st := []) rfl (zpureK ⟨rfl, rfl⟩ fun T14 X14 e14 => ?_)))))))
          show zEnds p e below s T14 (mkF m 178 #[iv p1, iv p2, iv p3, iv p4, iv p5, rv b1, iv vF, iv vT, iv vc, iv 0, rv w_ONE_CHAR_A_BYTE, iv vT] [(.int (hitv vF vT (0 : Int32) vb0 vc))]) _ _ _
          by_cases hc15 : (hitv vF vT (0 : Int32) vb0 vc) = (0 : Int32)
          · refine zifYes X14 hx hby at_178 184 ((if0 _ _).trans (teq hc15).1) (by decide) (by decide) (zaload X14 hx hby at_184 rfl rfl (zaload X14 hx hby at_186 rfl rfl (ziload X14 hx hby at_188 rfl (ziload X14 hx hby at_190 rfl (ziload X14 hx hby at_192 rfl (zcallv X14 hx hby at_194 hZ hown (w9 hw) (w10 hw) (notFace_of_selects (args := #[]) (mvT hZ (w12 hw))) (w12 hw) (w11 hw) (w13 hw) (w3 hw) e14 (E_w_ONE_CHAR_A_BYTE.ext O5.2) (c9_indexOf l hw [] ⟨S_w_ONE_CHAR_A_BYTE, S_w_ASCII, S_w_UTF_8, E_w_ONE_CHAR_A_BYTE, E_w_ASCII, E_w_UTF_8⟩ O5 (Nat.le_trans Z0 K5.1) w_ONE_CHAR_A_BYTE vF vT vc b1 vb0 vb1 vb2 vb3 g1 A5_b1 kT kF) (by decide) (by rw [hml]; rfl) 0 (Nat.le_of_eq rfl) (by decide) (by decide) (by decide) (by decide) pd_1 rfl (argsL := [(.ref b1), (.int vF), (.int vT), (.int vc)]) (st := []) rfl (zpureK ⟨rfl, rfl⟩ fun T16 X16 e16 => ?_)))))))
            show zEnds p e below s T16 (mkF m 197 #[iv p1, iv p2, iv p3, iv p4, iv p5, rv b1, iv vF, iv vT, iv vc, iv 0, rv w_ONE_CHAR_A_BYTE, iv vT] [(.int (idxv vF vT vc vb0 vb1 vb2 vb3))]) _ _ _
            refine ziload X16 hx hby at_197 rfl ?_
            show zEnds p e below s T16 (mkF m 199 #[iv p1, iv p2, iv p3, iv p4, iv p5, rv b1, iv vF, iv vT, iv vc, iv 0, rv w_ONE_CHAR_A_BYTE, iv vT] [(.int vT), (.int (idxv vF vT vc vb0 vb1 vb2 vb3))]) _ _ _
            have hh : (idxv vF vT vc vb0 vb1 vb2 vb3) = vT := by rw [own_link _ _ _ _ _ _ _ kF kT kc hb0 hb1 hb2 hb3]; simp +decide [expv, hc9, hc11, hc13, hc15]
            refine zicmpNo X16 hx hby at_199 (teq hh).2 (ziconst X16 hx hby at_202 (z := (1 : Int32)) rfl (zgoto X16 hx hby at_203 207 (by decide) (by decide) ?_))
            show zEnds p e below s T16 (mkF m 207 #[iv p1, iv p2, iv p3, iv p4, iv p5, rv b1, iv vF, iv vT, iv vc, iv 0, rv w_ONE_CHAR_A_BYTE, iv vT] [(.int 1)]) _ _ _
            exact zretZ X16 hx hby at_207 hret hlk (by simp) rfl (by decide) (by decide) ⟨rfl, N5⟩
          · refine zifNo X14 hx hby at_178 ((if0 _ _).trans (feq hc15).1) (ziconst X14 hx hby at_181 (z := (0 : Int32)) rfl (zistore X14 hx hby at_182 (L' := #[iv p1, iv p2, iv p3, iv p4, iv p5, rv b1, iv vF, iv vT, iv vc, iv 0, rv w_ONE_CHAR_A_BYTE, iv 0]) rfl (zaload X14 hx hby at_184 rfl rfl (zaload X14 hx hby at_186 rfl rfl (ziload X14 hx hby at_188 rfl (ziload X14 hx hby at_190 rfl (ziload X14 hx hby at_192 rfl (zcallv X14 hx hby at_194 hZ hown (w9 hw) (w10 hw) (notFace_of_selects (args := #[]) (mvT hZ (w12 hw))) (w12 hw) (w11 hw) (w13 hw) (w3 hw) e14 (E_w_ONE_CHAR_A_BYTE.ext O5.2) (c9_indexOf l hw [] ⟨S_w_ONE_CHAR_A_BYTE, S_w_ASCII, S_w_UTF_8, E_w_ONE_CHAR_A_BYTE, E_w_ASCII, E_w_UTF_8⟩ O5 (Nat.le_trans Z0 K5.1) w_ONE_CHAR_A_BYTE vF vT vc b1 vb0 vb1 vb2 vb3 g1 A5_b1 kT kF) (by decide) (by rw [hml]; rfl) 0 (Nat.le_of_eq rfl) (by decide) (by decide) (by decide) (by decide) pd_1 rfl (argsL := [(.ref b1), (.int vF), (.int vT), (.int vc)]) (st := []) rfl (zpureK ⟨rfl, rfl⟩ fun T17 X17 e17 => ?_)))))))))
            show zEnds p e below s T17 (mkF m 197 #[iv p1, iv p2, iv p3, iv p4, iv p5, rv b1, iv vF, iv vT, iv vc, iv 0, rv w_ONE_CHAR_A_BYTE, iv 0] [(.int (idxv vF vT vc vb0 vb1 vb2 vb3))]) _ _ _
            refine ziload X17 hx hby at_197 rfl ?_
            show zEnds p e below s T17 (mkF m 199 #[iv p1, iv p2, iv p3, iv p4, iv p5, rv b1, iv vF, iv vT, iv vc, iv 0, rv w_ONE_CHAR_A_BYTE, iv 0] [(.int 0), (.int (idxv vF vT vc vb0 vb1 vb2 vb3))]) _ _ _
            have hh : (idxv vF vT vc vb0 vb1 vb2 vb3) = (0 : Int32) := by rw [own_link _ _ _ _ _ _ _ kF kT kc hb0 hb1 hb2 hb3]; simp +decide [expv, hc9, hc11, hc13, hc15]
            refine zicmpNo X17 hx hby at_199 (teq hh).2 (ziconst X17 hx hby at_202 (z := (1 : Int32)) rfl (zgoto X17 hx hby at_203 207 (by decide) (by decide) ?_))
            show zEnds p e below s T17 (mkF m 207 #[iv p1, iv p2, iv p3, iv p4, iv p5, rv b1, iv vF, iv vT, iv vc, iv 0, rv w_ONE_CHAR_A_BYTE, iv 0] [(.int 1)]) _ _ _
            exact zretZ X17 hx hby at_207 hret hlk (by simp) rfl (by decide) (by decide) ⟨rfl, N5⟩
        · refine zifNo X12 hx hby at_160 ((if0 _ _).trans (feq hc13).1) (ziconst X12 hx hby at_163 (z := (1 : Int32)) rfl (zistore X12 hx hby at_164 (L' := #[iv p1, iv p2, iv p3, iv p4, iv p5, rv b1, iv vF, iv vT, iv vc, iv 0, rv w_ONE_CHAR_A_BYTE, iv 1]) rfl (zaload X12 hx hby at_166 rfl rfl (ziload X12 hx hby at_168 rfl (ziload X12 hx hby at_170 rfl (ziconst X12 hx hby at_172 (z := (0 : Int32)) rfl (ziload X12 hx hby at_173 rfl (zcalls X12 hx hby at_175 hZ hown (w5 hw) (w6 hw) (w7 hw) (w8 hw) e12 (c7_hit l hw [] ⟨S_w_ONE_CHAR_A_BYTE, S_w_ASCII, S_w_UTF_8, E_w_ONE_CHAR_A_BYTE, E_w_ASCII, E_w_UTF_8⟩ O5 (Nat.le_trans Z0 K5.1) vF vT vc b1 vb0 vb1 vb2 vb3 g1 A5_b1 kT) (by decide) (by rw [hml]; rfl) 0 (Nat.le_of_eq rfl) (by decide) (by decide) (by decide) (by decide) pd_0 rfl (argsL := [(.ref b1), (.int vF), (.int vT), (.int 0), (.int vc)]) (st := []) rfl (zpureK ⟨rfl, rfl⟩ fun T18 X18 e18 => ?_)))))))))
          show zEnds p e below s T18 (mkF m 178 #[iv p1, iv p2, iv p3, iv p4, iv p5, rv b1, iv vF, iv vT, iv vc, iv 0, rv w_ONE_CHAR_A_BYTE, iv 1] [(.int (hitv vF vT (0 : Int32) vb0 vc))]) _ _ _
          by_cases hc19 : (hitv vF vT (0 : Int32) vb0 vc) = (0 : Int32)
          · refine zifYes X18 hx hby at_178 184 ((if0 _ _).trans (teq hc19).1) (by decide) (by decide) (zaload X18 hx hby at_184 rfl rfl (zaload X18 hx hby at_186 rfl rfl (ziload X18 hx hby at_188 rfl (ziload X18 hx hby at_190 rfl (ziload X18 hx hby at_192 rfl (zcallv X18 hx hby at_194 hZ hown (w9 hw) (w10 hw) (notFace_of_selects (args := #[]) (mvT hZ (w12 hw))) (w12 hw) (w11 hw) (w13 hw) (w3 hw) e18 (E_w_ONE_CHAR_A_BYTE.ext O5.2) (c9_indexOf l hw [] ⟨S_w_ONE_CHAR_A_BYTE, S_w_ASCII, S_w_UTF_8, E_w_ONE_CHAR_A_BYTE, E_w_ASCII, E_w_UTF_8⟩ O5 (Nat.le_trans Z0 K5.1) w_ONE_CHAR_A_BYTE vF vT vc b1 vb0 vb1 vb2 vb3 g1 A5_b1 kT kF) (by decide) (by rw [hml]; rfl) 0 (Nat.le_of_eq rfl) (by decide) (by decide) (by decide) (by decide) pd_1 rfl (argsL := [(.ref b1), (.int vF), (.int vT), (.int vc)]) (st := []) rfl (zpureK ⟨rfl, rfl⟩ fun T20 X20 e20 => ?_)))))))
            show zEnds p e below s T20 (mkF m 197 #[iv p1, iv p2, iv p3, iv p4, iv p5, rv b1, iv vF, iv vT, iv vc, iv 0, rv w_ONE_CHAR_A_BYTE, iv 1] [(.int (idxv vF vT vc vb0 vb1 vb2 vb3))]) _ _ _
            refine ziload X20 hx hby at_197 rfl ?_
            show zEnds p e below s T20 (mkF m 199 #[iv p1, iv p2, iv p3, iv p4, iv p5, rv b1, iv vF, iv vT, iv vc, iv 0, rv w_ONE_CHAR_A_BYTE, iv 1] [(.int 1), (.int (idxv vF vT vc vb0 vb1 vb2 vb3))]) _ _ _
            have hh : (idxv vF vT vc vb0 vb1 vb2 vb3) = (1 : Int32) := by rw [own_link _ _ _ _ _ _ _ kF kT kc hb0 hb1 hb2 hb3]; simp +decide [expv, hc9, hc11, hc13, hc19]
            refine zicmpNo X20 hx hby at_199 (teq hh).2 (ziconst X20 hx hby at_202 (z := (1 : Int32)) rfl (zgoto X20 hx hby at_203 207 (by decide) (by decide) ?_))
            show zEnds p e below s T20 (mkF m 207 #[iv p1, iv p2, iv p3, iv p4, iv p5, rv b1, iv vF, iv vT, iv vc, iv 0, rv w_ONE_CHAR_A_BYTE, iv 1] [(.int 1)]) _ _ _
            exact zretZ X20 hx hby at_207 hret hlk (by simp) rfl (by decide) (by decide) ⟨rfl, N5⟩
          · refine zifNo X18 hx hby at_178 ((if0 _ _).trans (feq hc19).1) (ziconst X18 hx hby at_181 (z := (0 : Int32)) rfl (zistore X18 hx hby at_182 (L' := #[iv p1, iv p2, iv p3, iv p4, iv p5, rv b1, iv vF, iv vT, iv vc, iv 0, rv w_ONE_CHAR_A_BYTE, iv 0]) rfl (zaload X18 hx hby at_184 rfl rfl (zaload X18 hx hby at_186 rfl rfl (ziload X18 hx hby at_188 rfl (ziload X18 hx hby at_190 rfl (ziload X18 hx hby at_192 rfl (zcallv X18 hx hby at_194 hZ hown (w9 hw) (w10 hw) (notFace_of_selects (args := #[]) (mvT hZ (w12 hw))) (w12 hw) (w11 hw) (w13 hw) (w3 hw) e18 (E_w_ONE_CHAR_A_BYTE.ext O5.2) (c9_indexOf l hw [] ⟨S_w_ONE_CHAR_A_BYTE, S_w_ASCII, S_w_UTF_8, E_w_ONE_CHAR_A_BYTE, E_w_ASCII, E_w_UTF_8⟩ O5 (Nat.le_trans Z0 K5.1) w_ONE_CHAR_A_BYTE vF vT vc b1 vb0 vb1 vb2 vb3 g1 A5_b1 kT kF) (by decide) (by rw [hml]; rfl) 0 (Nat.le_of_eq rfl) (by decide) (by decide) (by decide) (by decide) pd_1 rfl (argsL := [(.ref b1), (.int vF), (.int vT), (.int vc)]) (st := []) rfl (zpureK ⟨rfl, rfl⟩ fun T21 X21 e21 => ?_)))))))))
            show zEnds p e below s T21 (mkF m 197 #[iv p1, iv p2, iv p3, iv p4, iv p5, rv b1, iv vF, iv vT, iv vc, iv 0, rv w_ONE_CHAR_A_BYTE, iv 0] [(.int (idxv vF vT vc vb0 vb1 vb2 vb3))]) _ _ _
            refine ziload X21 hx hby at_197 rfl ?_
            show zEnds p e below s T21 (mkF m 199 #[iv p1, iv p2, iv p3, iv p4, iv p5, rv b1, iv vF, iv vT, iv vc, iv 0, rv w_ONE_CHAR_A_BYTE, iv 0] [(.int 0), (.int (idxv vF vT vc vb0 vb1 vb2 vb3))]) _ _ _
            have hh : (idxv vF vT vc vb0 vb1 vb2 vb3) = (0 : Int32) := by rw [own_link _ _ _ _ _ _ _ kF kT kc hb0 hb1 hb2 hb3]; simp +decide [expv, hc9, hc11, hc13, hc19]
            refine zicmpNo X21 hx hby at_199 (teq hh).2 (ziconst X21 hx hby at_202 (z := (1 : Int32)) rfl (zgoto X21 hx hby at_203 207 (by decide) (by decide) ?_))
            show zEnds p e below s T21 (mkF m 207 #[iv p1, iv p2, iv p3, iv p4, iv p5, rv b1, iv vF, iv vT, iv vc, iv 0, rv w_ONE_CHAR_A_BYTE, iv 0] [(.int 1)]) _ _ _
            exact zretZ X21 hx hby at_207 hret hlk (by simp) rfl (by decide) (by decide) ⟨rfl, N5⟩
      · refine zifNo X10 hx hby at_142 ((if0 _ _).trans (feq hc11).1) (ziconst X10 hx hby at_145 (z := (2 : Int32)) rfl (zistore X10 hx hby at_146 (L' := #[iv p1, iv p2, iv p3, iv p4, iv p5, rv b1, iv vF, iv vT, iv vc, iv 0, rv w_ONE_CHAR_A_BYTE, iv 2]) rfl (zaload X10 hx hby at_148 rfl rfl (ziload X10 hx hby at_150 rfl (ziload X10 hx hby at_152 rfl (ziconst X10 hx hby at_154 (z := (1 : Int32)) rfl (ziload X10 hx hby at_155 rfl (zcalls X10 hx hby at_157 hZ hown (w5 hw) (w6 hw) (w7 hw) (w8 hw) e10 (c5_hit l hw [] ⟨S_w_ONE_CHAR_A_BYTE, S_w_ASCII, S_w_UTF_8, E_w_ONE_CHAR_A_BYTE, E_w_ASCII, E_w_UTF_8⟩ O5 (Nat.le_trans Z0 K5.1) vF vT vc b1 vb0 vb1 vb2 vb3 g1 A5_b1 kT) (by decide) (by rw [hml]; rfl) 0 (Nat.le_of_eq rfl) (by decide) (by decide) (by decide) (by decide) pd_0 rfl (argsL := [(.ref b1), (.int vF), (.int vT), (.int 1), (.int vc)]) (st := []) rfl (zpureK ⟨rfl, rfl⟩ fun T22 X22 e22 => ?_)))))))))
        show zEnds p e below s T22 (mkF m 160 #[iv p1, iv p2, iv p3, iv p4, iv p5, rv b1, iv vF, iv vT, iv vc, iv 0, rv w_ONE_CHAR_A_BYTE, iv 2] [(.int (hitv vF vT (1 : Int32) vb1 vc))]) _ _ _
        by_cases hc23 : (hitv vF vT (1 : Int32) vb1 vc) = (0 : Int32)
        · refine zifYes X22 hx hby at_160 166 ((if0 _ _).trans (teq hc23).1) (by decide) (by decide) (zaload X22 hx hby at_166 rfl rfl (ziload X22 hx hby at_168 rfl (ziload X22 hx hby at_170 rfl (ziconst X22 hx hby at_172 (z := (0 : Int32)) rfl (ziload X22 hx hby at_173 rfl (zcalls X22 hx hby at_175 hZ hown (w5 hw) (w6 hw) (w7 hw) (w8 hw) e22 (c7_hit l hw [] ⟨S_w_ONE_CHAR_A_BYTE, S_w_ASCII, S_w_UTF_8, E_w_ONE_CHAR_A_BYTE, E_w_ASCII, E_w_UTF_8⟩ O5 (Nat.le_trans Z0 K5.1) vF vT vc b1 vb0 vb1 vb2 vb3 g1 A5_b1 kT) (by decide) (by rw [hml]; rfl) 0 (Nat.le_of_eq rfl) (by decide) (by decide) (by decide) (by decide) pd_0 rfl (argsL := [(.ref b1), (.int vF), (.int vT), (.int 0), (.int vc)]) (st := []) rfl (zpureK ⟨rfl, rfl⟩ fun T24 X24 e24 => ?_)))))))
          show zEnds p e below s T24 (mkF m 178 #[iv p1, iv p2, iv p3, iv p4, iv p5, rv b1, iv vF, iv vT, iv vc, iv 0, rv w_ONE_CHAR_A_BYTE, iv 2] [(.int (hitv vF vT (0 : Int32) vb0 vc))]) _ _ _
          by_cases hc25 : (hitv vF vT (0 : Int32) vb0 vc) = (0 : Int32)
          · refine zifYes X24 hx hby at_178 184 ((if0 _ _).trans (teq hc25).1) (by decide) (by decide) (zaload X24 hx hby at_184 rfl rfl (zaload X24 hx hby at_186 rfl rfl (ziload X24 hx hby at_188 rfl (ziload X24 hx hby at_190 rfl (ziload X24 hx hby at_192 rfl (zcallv X24 hx hby at_194 hZ hown (w9 hw) (w10 hw) (notFace_of_selects (args := #[]) (mvT hZ (w12 hw))) (w12 hw) (w11 hw) (w13 hw) (w3 hw) e24 (E_w_ONE_CHAR_A_BYTE.ext O5.2) (c9_indexOf l hw [] ⟨S_w_ONE_CHAR_A_BYTE, S_w_ASCII, S_w_UTF_8, E_w_ONE_CHAR_A_BYTE, E_w_ASCII, E_w_UTF_8⟩ O5 (Nat.le_trans Z0 K5.1) w_ONE_CHAR_A_BYTE vF vT vc b1 vb0 vb1 vb2 vb3 g1 A5_b1 kT kF) (by decide) (by rw [hml]; rfl) 0 (Nat.le_of_eq rfl) (by decide) (by decide) (by decide) (by decide) pd_1 rfl (argsL := [(.ref b1), (.int vF), (.int vT), (.int vc)]) (st := []) rfl (zpureK ⟨rfl, rfl⟩ fun T26 X26 e26 => ?_)))))))
            show zEnds p e below s T26 (mkF m 197 #[iv p1, iv p2, iv p3, iv p4, iv p5, rv b1, iv vF, iv vT, iv vc, iv 0, rv w_ONE_CHAR_A_BYTE, iv 2] [(.int (idxv vF vT vc vb0 vb1 vb2 vb3))]) _ _ _
            refine ziload X26 hx hby at_197 rfl ?_
            show zEnds p e below s T26 (mkF m 199 #[iv p1, iv p2, iv p3, iv p4, iv p5, rv b1, iv vF, iv vT, iv vc, iv 0, rv w_ONE_CHAR_A_BYTE, iv 2] [(.int 2), (.int (idxv vF vT vc vb0 vb1 vb2 vb3))]) _ _ _
            have hh : (idxv vF vT vc vb0 vb1 vb2 vb3) = (2 : Int32) := by rw [own_link _ _ _ _ _ _ _ kF kT kc hb0 hb1 hb2 hb3]; simp +decide [expv, hc9, hc11, hc23, hc25]
            refine zicmpNo X26 hx hby at_199 (teq hh).2 (ziconst X26 hx hby at_202 (z := (1 : Int32)) rfl (zgoto X26 hx hby at_203 207 (by decide) (by decide) ?_))
            show zEnds p e below s T26 (mkF m 207 #[iv p1, iv p2, iv p3, iv p4, iv p5, rv b1, iv vF, iv vT, iv vc, iv 0, rv w_ONE_CHAR_A_BYTE, iv 2] [(.int 1)]) _ _ _
            exact zretZ X26 hx hby at_207 hret hlk (by simp) rfl (by decide) (by decide) ⟨rfl, N5⟩
          · refine zifNo X24 hx hby at_178 ((if0 _ _).trans (feq hc25).1) (ziconst X24 hx hby at_181 (z := (0 : Int32)) rfl (zistore X24 hx hby at_182 (L' := #[iv p1, iv p2, iv p3, iv p4, iv p5, rv b1, iv vF, iv vT, iv vc, iv 0, rv w_ONE_CHAR_A_BYTE, iv 0]) rfl (zaload X24 hx hby at_184 rfl rfl (zaload X24 hx hby at_186 rfl rfl (ziload X24 hx hby at_188 rfl (ziload X24 hx hby at_190 rfl (ziload X24 hx hby at_192 rfl (zcallv X24 hx hby at_194 hZ hown (w9 hw) (w10 hw) (notFace_of_selects (args := #[]) (mvT hZ (w12 hw))) (w12 hw) (w11 hw) (w13 hw) (w3 hw) e24 (E_w_ONE_CHAR_A_BYTE.ext O5.2) (c9_indexOf l hw [] ⟨S_w_ONE_CHAR_A_BYTE, S_w_ASCII, S_w_UTF_8, E_w_ONE_CHAR_A_BYTE, E_w_ASCII, E_w_UTF_8⟩ O5 (Nat.le_trans Z0 K5.1) w_ONE_CHAR_A_BYTE vF vT vc b1 vb0 vb1 vb2 vb3 g1 A5_b1 kT kF) (by decide) (by rw [hml]; rfl) 0 (Nat.le_of_eq rfl) (by decide) (by decide) (by decide) (by decide) pd_1 rfl (argsL := [(.ref b1), (.int vF), (.int vT), (.int vc)]) (st := []) rfl (zpureK ⟨rfl, rfl⟩ fun T27 X27 e27 => ?_)))))))))
            show zEnds p e below s T27 (mkF m 197 #[iv p1, iv p2, iv p3, iv p4, iv p5, rv b1, iv vF, iv vT, iv vc, iv 0, rv w_ONE_CHAR_A_BYTE, iv 0] [(.int (idxv vF vT vc vb0 vb1 vb2 vb3))]) _ _ _
            refine ziload X27 hx hby at_197 rfl ?_
            show zEnds p e below s T27 (mkF m 199 #[iv p1, iv p2, iv p3, iv p4, iv p5, rv b1, iv vF, iv vT, iv vc, iv 0, rv w_ONE_CHAR_A_BYTE, iv 0] [(.int 0), (.int (idxv vF vT vc vb0 vb1 vb2 vb3))]) _ _ _
            have hh : (idxv vF vT vc vb0 vb1 vb2 vb3) = (0 : Int32) := by rw [own_link _ _ _ _ _ _ _ kF kT kc hb0 hb1 hb2 hb3]; simp +decide [expv, hc9, hc11, hc23, hc25]
            refine zicmpNo X27 hx hby at_199 (teq hh).2 (ziconst X27 hx hby at_202 (z := (1 : Int32)) rfl (zgoto X27 hx hby at_203 207 (by decide) (by decide) ?_))
            show zEnds p e below s T27 (mkF m 207 #[iv p1, iv p2, iv p3, iv p4, iv p5, rv b1, iv vF, iv vT, iv vc, iv 0, rv w_ONE_CHAR_A_BYTE, iv 0] [(.int 1)]) _ _ _
            exact zretZ X27 hx hby at_207 hret hlk (by simp) rfl (by decide) (by decide) ⟨rfl, N5⟩
        · refine zifNo X22 hx hby at_160 ((if0 _ _).trans (feq hc23).1) (ziconst X22 hx hby at_163 (z := (1 : Int32)) rfl (zistore X22 hx hby at_164 (L' := #[iv p1, iv p2, iv p3, iv p4, iv p5, rv b1, iv vF, iv vT, iv vc, iv 0, rv w_ONE_CHAR_A_BYTE, iv 1]) rfl (zaload X22 hx hby at_166 rfl rfl (ziload X22 hx hby at_168 rfl (ziload X22 hx hby at_170 rfl (ziconst X22 hx hby at_172 (z := (0 : Int32)) rfl (ziload X22 hx hby at_173 rfl (zcalls X22 hx hby at_175 hZ hown (w5 hw) (w6 hw) (w7 hw) (w8 hw) e22 (c7_hit l hw [] ⟨S_w_ONE_CHAR_A_BYTE, S_w_ASCII, S_w_UTF_8, E_w_ONE_CHAR_A_BYTE, E_w_ASCII, E_w_UTF_8⟩ O5 (Nat.le_trans Z0 K5.1) vF vT vc b1 vb0 vb1 vb2 vb3 g1 A5_b1 kT) (by decide) (by rw [hml]; rfl) 0 (Nat.le_of_eq rfl) (by decide) (by decide) (by decide) (by decide) pd_0 rfl (argsL := [(.ref b1), (.int vF), (.int vT), (.int 0), (.int vc)]) (st := []) rfl (zpureK ⟨rfl, rfl⟩ fun T28 X28 e28 => ?_)))))))))
          show zEnds p e below s T28 (mkF m 178 #[iv p1, iv p2, iv p3, iv p4, iv p5, rv b1, iv vF, iv vT, iv vc, iv 0, rv w_ONE_CHAR_A_BYTE, iv 1] [(.int (hitv vF vT (0 : Int32) vb0 vc))]) _ _ _
          by_cases hc29 : (hitv vF vT (0 : Int32) vb0 vc) = (0 : Int32)
          · refine zifYes X28 hx hby at_178 184 ((if0 _ _).trans (teq hc29).1) (by decide) (by decide) (zaload X28 hx hby at_184 rfl rfl (zaload X28 hx hby at_186 rfl rfl (ziload X28 hx hby at_188 rfl (ziload X28 hx hby at_190 rfl (ziload X28 hx hby at_192 rfl (zcallv X28 hx hby at_194 hZ hown (w9 hw) (w10 hw) (notFace_of_selects (args := #[]) (mvT hZ (w12 hw))) (w12 hw) (w11 hw) (w13 hw) (w3 hw) e28 (E_w_ONE_CHAR_A_BYTE.ext O5.2) (c9_indexOf l hw [] ⟨S_w_ONE_CHAR_A_BYTE, S_w_ASCII, S_w_UTF_8, E_w_ONE_CHAR_A_BYTE, E_w_ASCII, E_w_UTF_8⟩ O5 (Nat.le_trans Z0 K5.1) w_ONE_CHAR_A_BYTE vF vT vc b1 vb0 vb1 vb2 vb3 g1 A5_b1 kT kF) (by decide) (by rw [hml]; rfl) 0 (Nat.le_of_eq rfl) (by decide) (by decide) (by decide) (by decide) pd_1 rfl (argsL := [(.ref b1), (.int vF), (.int vT), (.int vc)]) (st := []) rfl (zpureK ⟨rfl, rfl⟩ fun T30 X30 e30 => ?_)))))))
            show zEnds p e below s T30 (mkF m 197 #[iv p1, iv p2, iv p3, iv p4, iv p5, rv b1, iv vF, iv vT, iv vc, iv 0, rv w_ONE_CHAR_A_BYTE, iv 1] [(.int (idxv vF vT vc vb0 vb1 vb2 vb3))]) _ _ _
            refine ziload X30 hx hby at_197 rfl ?_
            show zEnds p e below s T30 (mkF m 199 #[iv p1, iv p2, iv p3, iv p4, iv p5, rv b1, iv vF, iv vT, iv vc, iv 0, rv w_ONE_CHAR_A_BYTE, iv 1] [(.int 1), (.int (idxv vF vT vc vb0 vb1 vb2 vb3))]) _ _ _
            have hh : (idxv vF vT vc vb0 vb1 vb2 vb3) = (1 : Int32) := by rw [own_link _ _ _ _ _ _ _ kF kT kc hb0 hb1 hb2 hb3]; simp +decide [expv, hc9, hc11, hc23, hc29]
            refine zicmpNo X30 hx hby at_199 (teq hh).2 (ziconst X30 hx hby at_202 (z := (1 : Int32)) rfl (zgoto X30 hx hby at_203 207 (by decide) (by decide) ?_))
            show zEnds p e below s T30 (mkF m 207 #[iv p1, iv p2, iv p3, iv p4, iv p5, rv b1, iv vF, iv vT, iv vc, iv 0, rv w_ONE_CHAR_A_BYTE, iv 1] [(.int 1)]) _ _ _
            exact zretZ X30 hx hby at_207 hret hlk (by simp) rfl (by decide) (by decide) ⟨rfl, N5⟩
          · refine zifNo X28 hx hby at_178 ((if0 _ _).trans (feq hc29).1) (ziconst X28 hx hby at_181 (z := (0 : Int32)) rfl (zistore X28 hx hby at_182 (L' := #[iv p1, iv p2, iv p3, iv p4, iv p5, rv b1, iv vF, iv vT, iv vc, iv 0, rv w_ONE_CHAR_A_BYTE, iv 0]) rfl (zaload X28 hx hby at_184 rfl rfl (zaload X28 hx hby at_186 rfl rfl (ziload X28 hx hby at_188 rfl (ziload X28 hx hby at_190 rfl (ziload X28 hx hby at_192 rfl (zcallv X28 hx hby at_194 hZ hown (w9 hw) (w10 hw) (notFace_of_selects (args := #[]) (mvT hZ (w12 hw))) (w12 hw) (w11 hw) (w13 hw) (w3 hw) e28 (E_w_ONE_CHAR_A_BYTE.ext O5.2) (c9_indexOf l hw [] ⟨S_w_ONE_CHAR_A_BYTE, S_w_ASCII, S_w_UTF_8, E_w_ONE_CHAR_A_BYTE, E_w_ASCII, E_w_UTF_8⟩ O5 (Nat.le_trans Z0 K5.1) w_ONE_CHAR_A_BYTE vF vT vc b1 vb0 vb1 vb2 vb3 g1 A5_b1 kT kF) (by decide) (by rw [hml]; rfl) 0 (Nat.le_of_eq rfl) (by decide) (by decide) (by decide) (by decide) pd_1 rfl (argsL := [(.ref b1), (.int vF), (.int vT), (.int vc)]) (st := []) rfl (zpureK ⟨rfl, rfl⟩ fun T31 X31 e31 => ?_)))))))))
            show zEnds p e below s T31 (mkF m 197 #[iv p1, iv p2, iv p3, iv p4, iv p5, rv b1, iv vF, iv vT, iv vc, iv 0, rv w_ONE_CHAR_A_BYTE, iv 0] [(.int (idxv vF vT vc vb0 vb1 vb2 vb3))]) _ _ _
            refine ziload X31 hx hby at_197 rfl ?_
            show zEnds p e below s T31 (mkF m 199 #[iv p1, iv p2, iv p3, iv p4, iv p5, rv b1, iv vF, iv vT, iv vc, iv 0, rv w_ONE_CHAR_A_BYTE, iv 0] [(.int 0), (.int (idxv vF vT vc vb0 vb1 vb2 vb3))]) _ _ _
            have hh : (idxv vF vT vc vb0 vb1 vb2 vb3) = (0 : Int32) := by rw [own_link _ _ _ _ _ _ _ kF kT kc hb0 hb1 hb2 hb3]; simp +decide [expv, hc9, hc11, hc23, hc29]
            refine zicmpNo X31 hx hby at_199 (teq hh).2 (ziconst X31 hx hby at_202 (z := (1 : Int32)) rfl (zgoto X31 hx hby at_203 207 (by decide) (by decide) ?_))
            show zEnds p e below s T31 (mkF m 207 #[iv p1, iv p2, iv p3, iv p4, iv p5, rv b1, iv vF, iv vT, iv vc, iv 0, rv w_ONE_CHAR_A_BYTE, iv 0] [(.int 1)]) _ _ _
            exact zretZ X31 hx hby at_207 hret hlk (by simp) rfl (by decide) (by decide) ⟨rfl, N5⟩
    · refine zifNo X8 hx hby at_124 ((if0 _ _).trans (feq hc9).1) (ziconst X8 hx hby at_127 (z := (3 : Int32)) rfl (zistore X8 hx hby at_128 (L' := #[iv p1, iv p2, iv p3, iv p4, iv p5, rv b1, iv vF, iv vT, iv vc, iv 0, rv w_ONE_CHAR_A_BYTE, iv 3]) rfl (zaload X8 hx hby at_130 rfl rfl (ziload X8 hx hby at_132 rfl (ziload X8 hx hby at_134 rfl (ziconst X8 hx hby at_136 (z := (2 : Int32)) rfl (ziload X8 hx hby at_137 rfl (zcalls X8 hx hby at_139 hZ hown (w5 hw) (w6 hw) (w7 hw) (w8 hw) e8 (c3_hit l hw [] ⟨S_w_ONE_CHAR_A_BYTE, S_w_ASCII, S_w_UTF_8, E_w_ONE_CHAR_A_BYTE, E_w_ASCII, E_w_UTF_8⟩ O5 (Nat.le_trans Z0 K5.1) vF vT vc b1 vb0 vb1 vb2 vb3 g1 A5_b1 kT) (by decide) (by rw [hml]; rfl) 0 (Nat.le_of_eq rfl) (by decide) (by decide) (by decide) (by decide) pd_0 rfl (argsL := [(.ref b1), (.int vF), (.int vT), (.int 2), (.int vc)]) (st := []) rfl (zpureK ⟨rfl, rfl⟩ fun T32 X32 e32 => ?_)))))))))
      show zEnds p e below s T32 (mkF m 142 #[iv p1, iv p2, iv p3, iv p4, iv p5, rv b1, iv vF, iv vT, iv vc, iv 0, rv w_ONE_CHAR_A_BYTE, iv 3] [(.int (hitv vF vT (2 : Int32) vb2 vc))]) _ _ _
      by_cases hc33 : (hitv vF vT (2 : Int32) vb2 vc) = (0 : Int32)
      · refine zifYes X32 hx hby at_142 148 ((if0 _ _).trans (teq hc33).1) (by decide) (by decide) (zaload X32 hx hby at_148 rfl rfl (ziload X32 hx hby at_150 rfl (ziload X32 hx hby at_152 rfl (ziconst X32 hx hby at_154 (z := (1 : Int32)) rfl (ziload X32 hx hby at_155 rfl (zcalls X32 hx hby at_157 hZ hown (w5 hw) (w6 hw) (w7 hw) (w8 hw) e32 (c5_hit l hw [] ⟨S_w_ONE_CHAR_A_BYTE, S_w_ASCII, S_w_UTF_8, E_w_ONE_CHAR_A_BYTE, E_w_ASCII, E_w_UTF_8⟩ O5 (Nat.le_trans Z0 K5.1) vF vT vc b1 vb0 vb1 vb2 vb3 g1 A5_b1 kT) (by decide) (by rw [hml]; rfl) 0 (Nat.le_of_eq rfl) (by decide) (by decide) (by decide) (by decide) pd_0 rfl (argsL := [(.ref b1), (.int vF), (.int vT), (.int 1), (.int vc)]) (st := []) rfl (zpureK ⟨rfl, rfl⟩ fun T34 X34 e34 => ?_)))))))
        show zEnds p e below s T34 (mkF m 160 #[iv p1, iv p2, iv p3, iv p4, iv p5, rv b1, iv vF, iv vT, iv vc, iv 0, rv w_ONE_CHAR_A_BYTE, iv 3] [(.int (hitv vF vT (1 : Int32) vb1 vc))]) _ _ _
        by_cases hc35 : (hitv vF vT (1 : Int32) vb1 vc) = (0 : Int32)
        · refine zifYes X34 hx hby at_160 166 ((if0 _ _).trans (teq hc35).1) (by decide) (by decide) (zaload X34 hx hby at_166 rfl rfl (ziload X34 hx hby at_168 rfl (ziload X34 hx hby at_170 rfl (ziconst X34 hx hby at_172 (z := (0 : Int32)) rfl (ziload X34 hx hby at_173 rfl (zcalls X34 hx hby at_175 hZ hown (w5 hw) (w6 hw) (w7 hw) (w8 hw) e34 (c7_hit l hw [] ⟨S_w_ONE_CHAR_A_BYTE, S_w_ASCII, S_w_UTF_8, E_w_ONE_CHAR_A_BYTE, E_w_ASCII, E_w_UTF_8⟩ O5 (Nat.le_trans Z0 K5.1) vF vT vc b1 vb0 vb1 vb2 vb3 g1 A5_b1 kT) (by decide) (by rw [hml]; rfl) 0 (Nat.le_of_eq rfl) (by decide) (by decide) (by decide) (by decide) pd_0 rfl (argsL := [(.ref b1), (.int vF), (.int vT), (.int 0), (.int vc)]) (st := []) rfl (zpureK ⟨rfl, rfl⟩ fun T36 X36 e36 => ?_)))))))
          show zEnds p e below s T36 (mkF m 178 #[iv p1, iv p2, iv p3, iv p4, iv p5, rv b1, iv vF, iv vT, iv vc, iv 0, rv w_ONE_CHAR_A_BYTE, iv 3] [(.int (hitv vF vT (0 : Int32) vb0 vc))]) _ _ _
          by_cases hc37 : (hitv vF vT (0 : Int32) vb0 vc) = (0 : Int32)
          · refine zifYes X36 hx hby at_178 184 ((if0 _ _).trans (teq hc37).1) (by decide) (by decide) (zaload X36 hx hby at_184 rfl rfl (zaload X36 hx hby at_186 rfl rfl (ziload X36 hx hby at_188 rfl (ziload X36 hx hby at_190 rfl (ziload X36 hx hby at_192 rfl (zcallv X36 hx hby at_194 hZ hown (w9 hw) (w10 hw) (notFace_of_selects (args := #[]) (mvT hZ (w12 hw))) (w12 hw) (w11 hw) (w13 hw) (w3 hw) e36 (E_w_ONE_CHAR_A_BYTE.ext O5.2) (c9_indexOf l hw [] ⟨S_w_ONE_CHAR_A_BYTE, S_w_ASCII, S_w_UTF_8, E_w_ONE_CHAR_A_BYTE, E_w_ASCII, E_w_UTF_8⟩ O5 (Nat.le_trans Z0 K5.1) w_ONE_CHAR_A_BYTE vF vT vc b1 vb0 vb1 vb2 vb3 g1 A5_b1 kT kF) (by decide) (by rw [hml]; rfl) 0 (Nat.le_of_eq rfl) (by decide) (by decide) (by decide) (by decide) pd_1 rfl (argsL := [(.ref b1), (.int vF), (.int vT), (.int vc)]) (st := []) rfl (zpureK ⟨rfl, rfl⟩ fun T38 X38 e38 => ?_)))))))
            show zEnds p e below s T38 (mkF m 197 #[iv p1, iv p2, iv p3, iv p4, iv p5, rv b1, iv vF, iv vT, iv vc, iv 0, rv w_ONE_CHAR_A_BYTE, iv 3] [(.int (idxv vF vT vc vb0 vb1 vb2 vb3))]) _ _ _
            refine ziload X38 hx hby at_197 rfl ?_
            show zEnds p e below s T38 (mkF m 199 #[iv p1, iv p2, iv p3, iv p4, iv p5, rv b1, iv vF, iv vT, iv vc, iv 0, rv w_ONE_CHAR_A_BYTE, iv 3] [(.int 3), (.int (idxv vF vT vc vb0 vb1 vb2 vb3))]) _ _ _
            have hh : (idxv vF vT vc vb0 vb1 vb2 vb3) = (3 : Int32) := by rw [own_link _ _ _ _ _ _ _ kF kT kc hb0 hb1 hb2 hb3]; simp +decide [expv, hc9, hc33, hc35, hc37]
            refine zicmpNo X38 hx hby at_199 (teq hh).2 (ziconst X38 hx hby at_202 (z := (1 : Int32)) rfl (zgoto X38 hx hby at_203 207 (by decide) (by decide) ?_))
            show zEnds p e below s T38 (mkF m 207 #[iv p1, iv p2, iv p3, iv p4, iv p5, rv b1, iv vF, iv vT, iv vc, iv 0, rv w_ONE_CHAR_A_BYTE, iv 3] [(.int 1)]) _ _ _
            exact zretZ X38 hx hby at_207 hret hlk (by simp) rfl (by decide) (by decide) ⟨rfl, N5⟩
          · refine zifNo X36 hx hby at_178 ((if0 _ _).trans (feq hc37).1) (ziconst X36 hx hby at_181 (z := (0 : Int32)) rfl (zistore X36 hx hby at_182 (L' := #[iv p1, iv p2, iv p3, iv p4, iv p5, rv b1, iv vF, iv vT, iv vc, iv 0, rv w_ONE_CHAR_A_BYTE, iv 0]) rfl (zaload X36 hx hby at_184 rfl rfl (zaload X36 hx hby at_186 rfl rfl (ziload X36 hx hby at_188 rfl (ziload X36 hx hby at_190 rfl (ziload X36 hx hby at_192 rfl (zcallv X36 hx hby at_194 hZ hown (w9 hw) (w10 hw) (notFace_of_selects (args := #[]) (mvT hZ (w12 hw))) (w12 hw) (w11 hw) (w13 hw) (w3 hw) e36 (E_w_ONE_CHAR_A_BYTE.ext O5.2) (c9_indexOf l hw [] ⟨S_w_ONE_CHAR_A_BYTE, S_w_ASCII, S_w_UTF_8, E_w_ONE_CHAR_A_BYTE, E_w_ASCII, E_w_UTF_8⟩ O5 (Nat.le_trans Z0 K5.1) w_ONE_CHAR_A_BYTE vF vT vc b1 vb0 vb1 vb2 vb3 g1 A5_b1 kT kF) (by decide) (by rw [hml]; rfl) 0 (Nat.le_of_eq rfl) (by decide) (by decide) (by decide) (by decide) pd_1 rfl (argsL := [(.ref b1), (.int vF), (.int vT), (.int vc)]) (st := []) rfl (zpureK ⟨rfl, rfl⟩ fun T39 X39 e39 => ?_)))))))))
            show zEnds p e below s T39 (mkF m 197 #[iv p1, iv p2, iv p3, iv p4, iv p5, rv b1, iv vF, iv vT, iv vc, iv 0, rv w_ONE_CHAR_A_BYTE, iv 0] [(.int (idxv vF vT vc vb0 vb1 vb2 vb3))]) _ _ _
            refine ziload X39 hx hby at_197 rfl ?_
            show zEnds p e below s T39 (mkF m 199 #[iv p1, iv p2, iv p3, iv p4, iv p5, rv b1, iv vF, iv vT, iv vc, iv 0, rv w_ONE_CHAR_A_BYTE, iv 0] [(.int 0), (.int (idxv vF vT vc vb0 vb1 vb2 vb3))]) _ _ _
            have hh : (idxv vF vT vc vb0 vb1 vb2 vb3) = (0 : Int32) := by rw [own_link _ _ _ _ _ _ _ kF kT kc hb0 hb1 hb2 hb3]; simp +decide [expv, hc9, hc33, hc35, hc37]
            refine zicmpNo X39 hx hby at_199 (teq hh).2 (ziconst X39 hx hby at_202 (z := (1 : Int32)) rfl (zgoto X39 hx hby at_203 207 (by decide) (by decide) ?_))
            show zEnds p e below s T39 (mkF m 207 #[iv p1, iv p2, iv p3, iv p4, iv p5, rv b1, iv vF, iv vT, iv vc, iv 0, rv w_ONE_CHAR_A_BYTE, iv 0] [(.int 1)]) _ _ _
            exact zretZ X39 hx hby at_207 hret hlk (by simp) rfl (by decide) (by decide) ⟨rfl, N5⟩
        · refine zifNo X34 hx hby at_160 ((if0 _ _).trans (feq hc35).1) (ziconst X34 hx hby at_163 (z := (1 : Int32)) rfl (zistore X34 hx hby at_164 (L' := #[iv p1, iv p2, iv p3, iv p4, iv p5, rv b1, iv vF, iv vT, iv vc, iv 0, rv w_ONE_CHAR_A_BYTE, iv 1]) rfl (zaload X34 hx hby at_166 rfl rfl (ziload X34 hx hby at_168 rfl (ziload X34 hx hby at_170 rfl (ziconst X34 hx hby at_172 (z := (0 : Int32)) rfl (ziload X34 hx hby at_173 rfl (zcalls X34 hx hby at_175 hZ hown (w5 hw) (w6 hw) (w7 hw) (w8 hw) e34 (c7_hit l hw [] ⟨S_w_ONE_CHAR_A_BYTE, S_w_ASCII, S_w_UTF_8, E_w_ONE_CHAR_A_BYTE, E_w_ASCII, E_w_UTF_8⟩ O5 (Nat.le_trans Z0 K5.1) vF vT vc b1 vb0 vb1 vb2 vb3 g1 A5_b1 kT) (by decide) (by rw [hml]; rfl) 0 (Nat.le_of_eq rfl) (by decide) (by decide) (by decide) (by decide) pd_0 rfl (argsL := [(.ref b1), (.int vF), (.int vT), (.int 0), (.int vc)]) (st := []) rfl (zpureK ⟨rfl, rfl⟩ fun T40 X40 e40 => ?_)))))))))
          show zEnds p e below s T40 (mkF m 178 #[iv p1, iv p2, iv p3, iv p4, iv p5, rv b1, iv vF, iv vT, iv vc, iv 0, rv w_ONE_CHAR_A_BYTE, iv 1] [(.int (hitv vF vT (0 : Int32) vb0 vc))]) _ _ _
          by_cases hc41 : (hitv vF vT (0 : Int32) vb0 vc) = (0 : Int32)
          · refine zifYes X40 hx hby at_178 184 ((if0 _ _).trans (teq hc41).1) (by decide) (by decide) (zaload X40 hx hby at_184 rfl rfl (zaload X40 hx hby at_186 rfl rfl (ziload X40 hx hby at_188 rfl (ziload X40 hx hby at_190 rfl (ziload X40 hx hby at_192 rfl (zcallv X40 hx hby at_194 hZ hown (w9 hw) (w10 hw) (notFace_of_selects (args := #[]) (mvT hZ (w12 hw))) (w12 hw) (w11 hw) (w13 hw) (w3 hw) e40 (E_w_ONE_CHAR_A_BYTE.ext O5.2) (c9_indexOf l hw [] ⟨S_w_ONE_CHAR_A_BYTE, S_w_ASCII, S_w_UTF_8, E_w_ONE_CHAR_A_BYTE, E_w_ASCII, E_w_UTF_8⟩ O5 (Nat.le_trans Z0 K5.1) w_ONE_CHAR_A_BYTE vF vT vc b1 vb0 vb1 vb2 vb3 g1 A5_b1 kT kF) (by decide) (by rw [hml]; rfl) 0 (Nat.le_of_eq rfl) (by decide) (by decide) (by decide) (by decide) pd_1 rfl (argsL := [(.ref b1), (.int vF), (.int vT), (.int vc)]) (st := []) rfl (zpureK ⟨rfl, rfl⟩ fun T42 X42 e42 => ?_)))))))
            show zEnds p e below s T42 (mkF m 197 #[iv p1, iv p2, iv p3, iv p4, iv p5, rv b1, iv vF, iv vT, iv vc, iv 0, rv w_ONE_CHAR_A_BYTE, iv 1] [(.int (idxv vF vT vc vb0 vb1 vb2 vb3))]) _ _ _
            refine ziload X42 hx hby at_197 rfl ?_
            show zEnds p e below s T42 (mkF m 199 #[iv p1, iv p2, iv p3, iv p4, iv p5, rv b1, iv vF, iv vT, iv vc, iv 0, rv w_ONE_CHAR_A_BYTE, iv 1] [(.int 1), (.int (idxv vF vT vc vb0 vb1 vb2 vb3))]) _ _ _
            have hh : (idxv vF vT vc vb0 vb1 vb2 vb3) = (1 : Int32) := by rw [own_link _ _ _ _ _ _ _ kF kT kc hb0 hb1 hb2 hb3]; simp +decide [expv, hc9, hc33, hc35, hc41]
            refine zicmpNo X42 hx hby at_199 (teq hh).2 (ziconst X42 hx hby at_202 (z := (1 : Int32)) rfl (zgoto X42 hx hby at_203 207 (by decide) (by decide) ?_))
            show zEnds p e below s T42 (mkF m 207 #[iv p1, iv p2, iv p3, iv p4, iv p5, rv b1, iv vF, iv vT, iv vc, iv 0, rv w_ONE_CHAR_A_BYTE, iv 1] [(.int 1)]) _ _ _
            exact zretZ X42 hx hby at_207 hret hlk (by simp) rfl (by decide) (by decide) ⟨rfl, N5⟩
          · refine zifNo X40 hx hby at_178 ((if0 _ _).trans (feq hc41).1) (ziconst X40 hx hby at_181 (z := (0 : Int32)) rfl (zistore X40 hx hby at_182 (L' := #[iv p1, iv p2, iv p3, iv p4, iv p5, rv b1, iv vF, iv vT, iv vc, iv 0, rv w_ONE_CHAR_A_BYTE, iv 0]) rfl (zaload X40 hx hby at_184 rfl rfl (zaload X40 hx hby at_186 rfl rfl (ziload X40 hx hby at_188 rfl (ziload X40 hx hby at_190 rfl (ziload X40 hx hby at_192 rfl (zcallv X40 hx hby at_194 hZ hown (w9 hw) (w10 hw) (notFace_of_selects (args := #[]) (mvT hZ (w12 hw))) (w12 hw) (w11 hw) (w13 hw) (w3 hw) e40 (E_w_ONE_CHAR_A_BYTE.ext O5.2) (c9_indexOf l hw [] ⟨S_w_ONE_CHAR_A_BYTE, S_w_ASCII, S_w_UTF_8, E_w_ONE_CHAR_A_BYTE, E_w_ASCII, E_w_UTF_8⟩ O5 (Nat.le_trans Z0 K5.1) w_ONE_CHAR_A_BYTE vF vT vc b1 vb0 vb1 vb2 vb3 g1 A5_b1 kT kF) (by decide) (by rw [hml]; rfl) 0 (Nat.le_of_eq rfl) (by decide) (by decide) (by decide) (by decide) pd_1 rfl (argsL := [(.ref b1), (.int vF), (.int vT), (.int vc)]) (st := []) rfl (zpureK ⟨rfl, rfl⟩ fun T43 X43 e43 => ?_)))))))))
            show zEnds p e below s T43 (mkF m 197 #[iv p1, iv p2, iv p3, iv p4, iv p5, rv b1, iv vF, iv vT, iv vc, iv 0, rv w_ONE_CHAR_A_BYTE, iv 0] [(.int (idxv vF vT vc vb0 vb1 vb2 vb3))]) _ _ _
            refine ziload X43 hx hby at_197 rfl ?_
            show zEnds p e below s T43 (mkF m 199 #[iv p1, iv p2, iv p3, iv p4, iv p5, rv b1, iv vF, iv vT, iv vc, iv 0, rv w_ONE_CHAR_A_BYTE, iv 0] [(.int 0), (.int (idxv vF vT vc vb0 vb1 vb2 vb3))]) _ _ _
            have hh : (idxv vF vT vc vb0 vb1 vb2 vb3) = (0 : Int32) := by rw [own_link _ _ _ _ _ _ _ kF kT kc hb0 hb1 hb2 hb3]; simp +decide [expv, hc9, hc33, hc35, hc41]
            refine zicmpNo X43 hx hby at_199 (teq hh).2 (ziconst X43 hx hby at_202 (z := (1 : Int32)) rfl (zgoto X43 hx hby at_203 207 (by decide) (by decide) ?_))
            show zEnds p e below s T43 (mkF m 207 #[iv p1, iv p2, iv p3, iv p4, iv p5, rv b1, iv vF, iv vT, iv vc, iv 0, rv w_ONE_CHAR_A_BYTE, iv 0] [(.int 1)]) _ _ _
            exact zretZ X43 hx hby at_207 hret hlk (by simp) rfl (by decide) (by decide) ⟨rfl, N5⟩
      · refine zifNo X32 hx hby at_142 ((if0 _ _).trans (feq hc33).1) (ziconst X32 hx hby at_145 (z := (2 : Int32)) rfl (zistore X32 hx hby at_146 (L' := #[iv p1, iv p2, iv p3, iv p4, iv p5, rv b1, iv vF, iv vT, iv vc, iv 0, rv w_ONE_CHAR_A_BYTE, iv 2]) rfl (zaload X32 hx hby at_148 rfl rfl (ziload X32 hx hby at_150 rfl (ziload X32 hx hby at_152 rfl (ziconst X32 hx hby at_154 (z := (1 : Int32)) rfl (ziload X32 hx hby at_155 rfl (zcalls X32 hx hby at_157 hZ hown (w5 hw) (w6 hw) (w7 hw) (w8 hw) e32 (c5_hit l hw [] ⟨S_w_ONE_CHAR_A_BYTE, S_w_ASCII, S_w_UTF_8, E_w_ONE_CHAR_A_BYTE, E_w_ASCII, E_w_UTF_8⟩ O5 (Nat.le_trans Z0 K5.1) vF vT vc b1 vb0 vb1 vb2 vb3 g1 A5_b1 kT) (by decide) (by rw [hml]; rfl) 0 (Nat.le_of_eq rfl) (by decide) (by decide) (by decide) (by decide) pd_0 rfl (argsL := [(.ref b1), (.int vF), (.int vT), (.int 1), (.int vc)]) (st := []) rfl (zpureK ⟨rfl, rfl⟩ fun T44 X44 e44 => ?_)))))))))
        show zEnds p e below s T44 (mkF m 160 #[iv p1, iv p2, iv p3, iv p4, iv p5, rv b1, iv vF, iv vT, iv vc, iv 0, rv w_ONE_CHAR_A_BYTE, iv 2] [(.int (hitv vF vT (1 : Int32) vb1 vc))]) _ _ _
        by_cases hc45 : (hitv vF vT (1 : Int32) vb1 vc) = (0 : Int32)
        · refine zifYes X44 hx hby at_160 166 ((if0 _ _).trans (teq hc45).1) (by decide) (by decide) (zaload X44 hx hby at_166 rfl rfl (ziload X44 hx hby at_168 rfl (ziload X44 hx hby at_170 rfl (ziconst X44 hx hby at_172 (z := (0 : Int32)) rfl (ziload X44 hx hby at_173 rfl (zcalls X44 hx hby at_175 hZ hown (w5 hw) (w6 hw) (w7 hw) (w8 hw) e44 (c7_hit l hw [] ⟨S_w_ONE_CHAR_A_BYTE, S_w_ASCII, S_w_UTF_8, E_w_ONE_CHAR_A_BYTE, E_w_ASCII, E_w_UTF_8⟩ O5 (Nat.le_trans Z0 K5.1) vF vT vc b1 vb0 vb1 vb2 vb3 g1 A5_b1 kT) (by decide) (by rw [hml]; rfl) 0 (Nat.le_of_eq rfl) (by decide) (by decide) (by decide) (by decide) pd_0 rfl (argsL := [(.ref b1), (.int vF), (.int vT), (.int 0), (.int vc)]) (st := []) rfl (zpureK ⟨rfl, rfl⟩ fun T46 X46 e46 => ?_)))))))
          show zEnds p e below s T46 (mkF m 178 #[iv p1, iv p2, iv p3, iv p4, iv p5, rv b1, iv vF, iv vT, iv vc, iv 0, rv w_ONE_CHAR_A_BYTE, iv 2] [(.int (hitv vF vT (0 : Int32) vb0 vc))]) _ _ _
          by_cases hc47 : (hitv vF vT (0 : Int32) vb0 vc) = (0 : Int32)
          · refine zifYes X46 hx hby at_178 184 ((if0 _ _).trans (teq hc47).1) (by decide) (by decide) (zaload X46 hx hby at_184 rfl rfl (zaload X46 hx hby at_186 rfl rfl (ziload X46 hx hby at_188 rfl (ziload X46 hx hby at_190 rfl (ziload X46 hx hby at_192 rfl (zcallv X46 hx hby at_194 hZ hown (w9 hw) (w10 hw) (notFace_of_selects (args := #[]) (mvT hZ (w12 hw))) (w12 hw) (w11 hw) (w13 hw) (w3 hw) e46 (E_w_ONE_CHAR_A_BYTE.ext O5.2) (c9_indexOf l hw [] ⟨S_w_ONE_CHAR_A_BYTE, S_w_ASCII, S_w_UTF_8, E_w_ONE_CHAR_A_BYTE, E_w_ASCII, E_w_UTF_8⟩ O5 (Nat.le_trans Z0 K5.1) w_ONE_CHAR_A_BYTE vF vT vc b1 vb0 vb1 vb2 vb3 g1 A5_b1 kT kF) (by decide) (by rw [hml]; rfl) 0 (Nat.le_of_eq rfl) (by decide) (by decide) (by decide) (by decide) pd_1 rfl (argsL := [(.ref b1), (.int vF), (.int vT), (.int vc)]) (st := []) rfl (zpureK ⟨rfl, rfl⟩ fun T48 X48 e48 => ?_)))))))
            show zEnds p e below s T48 (mkF m 197 #[iv p1, iv p2, iv p3, iv p4, iv p5, rv b1, iv vF, iv vT, iv vc, iv 0, rv w_ONE_CHAR_A_BYTE, iv 2] [(.int (idxv vF vT vc vb0 vb1 vb2 vb3))]) _ _ _
            refine ziload X48 hx hby at_197 rfl ?_
            show zEnds p e below s T48 (mkF m 199 #[iv p1, iv p2, iv p3, iv p4, iv p5, rv b1, iv vF, iv vT, iv vc, iv 0, rv w_ONE_CHAR_A_BYTE, iv 2] [(.int 2), (.int (idxv vF vT vc vb0 vb1 vb2 vb3))]) _ _ _
            have hh : (idxv vF vT vc vb0 vb1 vb2 vb3) = (2 : Int32) := by rw [own_link _ _ _ _ _ _ _ kF kT kc hb0 hb1 hb2 hb3]; simp +decide [expv, hc9, hc33, hc45, hc47]
            refine zicmpNo X48 hx hby at_199 (teq hh).2 (ziconst X48 hx hby at_202 (z := (1 : Int32)) rfl (zgoto X48 hx hby at_203 207 (by decide) (by decide) ?_))
            show zEnds p e below s T48 (mkF m 207 #[iv p1, iv p2, iv p3, iv p4, iv p5, rv b1, iv vF, iv vT, iv vc, iv 0, rv w_ONE_CHAR_A_BYTE, iv 2] [(.int 1)]) _ _ _
            exact zretZ X48 hx hby at_207 hret hlk (by simp) rfl (by decide) (by decide) ⟨rfl, N5⟩
          · refine zifNo X46 hx hby at_178 ((if0 _ _).trans (feq hc47).1) (ziconst X46 hx hby at_181 (z := (0 : Int32)) rfl (zistore X46 hx hby at_182 (L' := #[iv p1, iv p2, iv p3, iv p4, iv p5, rv b1, iv vF, iv vT, iv vc, iv 0, rv w_ONE_CHAR_A_BYTE, iv 0]) rfl (zaload X46 hx hby at_184 rfl rfl (zaload X46 hx hby at_186 rfl rfl (ziload X46 hx hby at_188 rfl (ziload X46 hx hby at_190 rfl (ziload X46 hx hby at_192 rfl (zcallv X46 hx hby at_194 hZ hown (w9 hw) (w10 hw) (notFace_of_selects (args := #[]) (mvT hZ (w12 hw))) (w12 hw) (w11 hw) (w13 hw) (w3 hw) e46 (E_w_ONE_CHAR_A_BYTE.ext O5.2) (c9_indexOf l hw [] ⟨S_w_ONE_CHAR_A_BYTE, S_w_ASCII, S_w_UTF_8, E_w_ONE_CHAR_A_BYTE, E_w_ASCII, E_w_UTF_8⟩ O5 (Nat.le_trans Z0 K5.1) w_ONE_CHAR_A_BYTE vF vT vc b1 vb0 vb1 vb2 vb3 g1 A5_b1 kT kF) (by decide) (by rw [hml]; rfl) 0 (Nat.le_of_eq rfl) (by decide) (by decide) (by decide) (by decide) pd_1 rfl (argsL := [(.ref b1), (.int vF), (.int vT), (.int vc)]) (st := []) rfl (zpureK ⟨rfl, rfl⟩ fun T49 X49 e49 => ?_)))))))))
            show zEnds p e below s T49 (mkF m 197 #[iv p1, iv p2, iv p3, iv p4, iv p5, rv b1, iv vF, iv vT, iv vc, iv 0, rv w_ONE_CHAR_A_BYTE, iv 0] [(.int (idxv vF vT vc vb0 vb1 vb2 vb3))]) _ _ _
            refine ziload X49 hx hby at_197 rfl ?_
            show zEnds p e below s T49 (mkF m 199 #[iv p1, iv p2, iv p3, iv p4, iv p5, rv b1, iv vF, iv vT, iv vc, iv 0, rv w_ONE_CHAR_A_BYTE, iv 0] [(.int 0), (.int (idxv vF vT vc vb0 vb1 vb2 vb3))]) _ _ _
            have hh : (idxv vF vT vc vb0 vb1 vb2 vb3) = (0 : Int32) := by rw [own_link _ _ _ _ _ _ _ kF kT kc hb0 hb1 hb2 hb3]; simp +decide [expv, hc9, hc33, hc45, hc47]
            refine zicmpNo X49 hx hby at_199 (teq hh).2 (ziconst X49 hx hby at_202 (z := (1 : Int32)) rfl (zgoto X49 hx hby at_203 207 (by decide) (by decide) ?_))
            show zEnds p e below s T49 (mkF m 207 #[iv p1, iv p2, iv p3, iv p4, iv p5, rv b1, iv vF, iv vT, iv vc, iv 0, rv w_ONE_CHAR_A_BYTE, iv 0] [(.int 1)]) _ _ _
            exact zretZ X49 hx hby at_207 hret hlk (by simp) rfl (by decide) (by decide) ⟨rfl, N5⟩
        · refine zifNo X44 hx hby at_160 ((if0 _ _).trans (feq hc45).1) (ziconst X44 hx hby at_163 (z := (1 : Int32)) rfl (zistore X44 hx hby at_164 (L' := #[iv p1, iv p2, iv p3, iv p4, iv p5, rv b1, iv vF, iv vT, iv vc, iv 0, rv w_ONE_CHAR_A_BYTE, iv 1]) rfl (zaload X44 hx hby at_166 rfl rfl (ziload X44 hx hby at_168 rfl (ziload X44 hx hby at_170 rfl (ziconst X44 hx hby at_172 (z := (0 : Int32)) rfl (ziload X44 hx hby at_173 rfl (zcalls X44 hx hby at_175 hZ hown (w5 hw) (w6 hw) (w7 hw) (w8 hw) e44 (c7_hit l hw [] ⟨S_w_ONE_CHAR_A_BYTE, S_w_ASCII, S_w_UTF_8, E_w_ONE_CHAR_A_BYTE, E_w_ASCII, E_w_UTF_8⟩ O5 (Nat.le_trans Z0 K5.1) vF vT vc b1 vb0 vb1 vb2 vb3 g1 A5_b1 kT) (by decide) (by rw [hml]; rfl) 0 (Nat.le_of_eq rfl) (by decide) (by decide) (by decide) (by decide) pd_0 rfl (argsL := [(.ref b1), (.int vF), (.int vT), (.int 0), (.int vc)]) (st := []) rfl (zpureK ⟨rfl, rfl⟩ fun T50 X50 e50 => ?_)))))))))
          show zEnds p e below s T50 (mkF m 178 #[iv p1, iv p2, iv p3, iv p4, iv p5, rv b1, iv vF, iv vT, iv vc, iv 0, rv w_ONE_CHAR_A_BYTE, iv 1] [(.int (hitv vF vT (0 : Int32) vb0 vc))]) _ _ _
          by_cases hc51 : (hitv vF vT (0 : Int32) vb0 vc) = (0 : Int32)
          · refine zifYes X50 hx hby at_178 184 ((if0 _ _).trans (teq hc51).1) (by decide) (by decide) (zaload X50 hx hby at_184 rfl rfl (zaload X50 hx hby at_186 rfl rfl (ziload X50 hx hby at_188 rfl (ziload X50 hx hby at_190 rfl (ziload X50 hx hby at_192 rfl (zcallv X50 hx hby at_194 hZ hown (w9 hw) (w10 hw) (notFace_of_selects (args := #[]) (mvT hZ (w12 hw))) (w12 hw) (w11 hw) (w13 hw) (w3 hw) e50 (E_w_ONE_CHAR_A_BYTE.ext O5.2) (c9_indexOf l hw [] ⟨S_w_ONE_CHAR_A_BYTE, S_w_ASCII, S_w_UTF_8, E_w_ONE_CHAR_A_BYTE, E_w_ASCII, E_w_UTF_8⟩ O5 (Nat.le_trans Z0 K5.1) w_ONE_CHAR_A_BYTE vF vT vc b1 vb0 vb1 vb2 vb3 g1 A5_b1 kT kF) (by decide) (by rw [hml]; rfl) 0 (Nat.le_of_eq rfl) (by decide) (by decide) (by decide) (by decide) pd_1 rfl (argsL := [(.ref b1), (.int vF), (.int vT), (.int vc)]) (st := []) rfl (zpureK ⟨rfl, rfl⟩ fun T52 X52 e52 => ?_)))))))
            show zEnds p e below s T52 (mkF m 197 #[iv p1, iv p2, iv p3, iv p4, iv p5, rv b1, iv vF, iv vT, iv vc, iv 0, rv w_ONE_CHAR_A_BYTE, iv 1] [(.int (idxv vF vT vc vb0 vb1 vb2 vb3))]) _ _ _
            refine ziload X52 hx hby at_197 rfl ?_
            show zEnds p e below s T52 (mkF m 199 #[iv p1, iv p2, iv p3, iv p4, iv p5, rv b1, iv vF, iv vT, iv vc, iv 0, rv w_ONE_CHAR_A_BYTE, iv 1] [(.int 1), (.int (idxv vF vT vc vb0 vb1 vb2 vb3))]) _ _ _
            have hh : (idxv vF vT vc vb0 vb1 vb2 vb3) = (1 : Int32) := by rw [own_link _ _ _ _ _ _ _ kF kT kc hb0 hb1 hb2 hb3]; simp +decide [expv, hc9, hc33, hc45, hc51]
            refine zicmpNo X52 hx hby at_199 (teq hh).2 (ziconst X52 hx hby at_202 (z := (1 : Int32)) rfl (zgoto X52 hx hby at_203 207 (by decide) (by decide) ?_))
            show zEnds p e below s T52 (mkF m 207 #[iv p1, iv p2, iv p3, iv p4, iv p5, rv b1, iv vF, iv vT, iv vc, iv 0, rv w_ONE_CHAR_A_BYTE, iv 1] [(.int 1)]) _ _ _
            exact zretZ X52 hx hby at_207 hret hlk (by simp) rfl (by decide) (by decide) ⟨rfl, N5⟩
          · refine zifNo X50 hx hby at_178 ((if0 _ _).trans (feq hc51).1) (ziconst X50 hx hby at_181 (z := (0 : Int32)) rfl (zistore X50 hx hby at_182 (L' := #[iv p1, iv p2, iv p3, iv p4, iv p5, rv b1, iv vF, iv vT, iv vc, iv 0, rv w_ONE_CHAR_A_BYTE, iv 0]) rfl (zaload X50 hx hby at_184 rfl rfl (zaload X50 hx hby at_186 rfl rfl (ziload X50 hx hby at_188 rfl (ziload X50 hx hby at_190 rfl (ziload X50 hx hby at_192 rfl (zcallv X50 hx hby at_194 hZ hown (w9 hw) (w10 hw) (notFace_of_selects (args := #[]) (mvT hZ (w12 hw))) (w12 hw) (w11 hw) (w13 hw) (w3 hw) e50 (E_w_ONE_CHAR_A_BYTE.ext O5.2) (c9_indexOf l hw [] ⟨S_w_ONE_CHAR_A_BYTE, S_w_ASCII, S_w_UTF_8, E_w_ONE_CHAR_A_BYTE, E_w_ASCII, E_w_UTF_8⟩ O5 (Nat.le_trans Z0 K5.1) w_ONE_CHAR_A_BYTE vF vT vc b1 vb0 vb1 vb2 vb3 g1 A5_b1 kT kF) (by decide) (by rw [hml]; rfl) 0 (Nat.le_of_eq rfl) (by decide) (by decide) (by decide) (by decide) pd_1 rfl (argsL := [(.ref b1), (.int vF), (.int vT), (.int vc)]) (st := []) rfl (zpureK ⟨rfl, rfl⟩ fun T53 X53 e53 => ?_)))))))))
            show zEnds p e below s T53 (mkF m 197 #[iv p1, iv p2, iv p3, iv p4, iv p5, rv b1, iv vF, iv vT, iv vc, iv 0, rv w_ONE_CHAR_A_BYTE, iv 0] [(.int (idxv vF vT vc vb0 vb1 vb2 vb3))]) _ _ _
            refine ziload X53 hx hby at_197 rfl ?_
            show zEnds p e below s T53 (mkF m 199 #[iv p1, iv p2, iv p3, iv p4, iv p5, rv b1, iv vF, iv vT, iv vc, iv 0, rv w_ONE_CHAR_A_BYTE, iv 0] [(.int 0), (.int (idxv vF vT vc vb0 vb1 vb2 vb3))]) _ _ _
            have hh : (idxv vF vT vc vb0 vb1 vb2 vb3) = (0 : Int32) := by rw [own_link _ _ _ _ _ _ _ kF kT kc hb0 hb1 hb2 hb3]; simp +decide [expv, hc9, hc33, hc45, hc51]
            refine zicmpNo X53 hx hby at_199 (teq hh).2 (ziconst X53 hx hby at_202 (z := (1 : Int32)) rfl (zgoto X53 hx hby at_203 207 (by decide) (by decide) ?_))
            show zEnds p e below s T53 (mkF m 207 #[iv p1, iv p2, iv p3, iv p4, iv p5, rv b1, iv vF, iv vT, iv vc, iv 0, rv w_ONE_CHAR_A_BYTE, iv 0] [(.int 1)]) _ _ _
            exact zretZ X53 hx hby at_207 hret hlk (by simp) rfl (by decide) (by decide) ⟨rfl, N5⟩
  · rw [q6]
    refine zistore X5 hx hby at_74 (L' := #[iv p1, iv p2, iv p3, iv p4, iv p5, rv b1, iv vF, iv vT, iv vc, iv 1, .unset, .unset]) rfl (ziload X5 hx hby at_76 rfl (zifYes X5 hx hby at_78 89 (by decide) (by decide) (by decide) (ziload X5 hx hby at_89 rfl (ziconst X5 hx hby at_91 (z := (1 : Int32)) rfl (zicmpNo X5 hx hby at_92 (by decide) (zgetstat X5 hx hby at_95 hZ hown (host := "") (Or.inl (w14 hw)) Via.refl e5 (S_w_ASCII.ext O5.2) fun T54 X54 e54 => (zastore X54 hx hby at_98 (hv := rfl) (L' := #[iv p1, iv p2, iv p3, iv p4, iv p5, rv b1, iv vF, iv vT, iv vc, iv 1, rv w_ASCII, .unset]) rfl (zgoto X54 hx hby at_100 108 (by decide) (by decide) (ziload X54 hx hby at_108 rfl ?_)))))))))
    show zEnds p e below s T54 (mkF m 110 #[iv p1, iv p2, iv p3, iv p4, iv p5, rv b1, iv vF, iv vT, iv vc, iv 1, rv w_ASCII, .unset] [(.int vT)]) _ _ _
    refine zistore X54 hx hby at_110 (L' := #[iv p1, iv p2, iv p3, iv p4, iv p5, rv b1, iv vF, iv vT, iv vc, iv 1, rv w_ASCII, iv vT]) rfl (zaload X54 hx hby at_112 rfl rfl (ziload X54 hx hby at_114 rfl (ziload X54 hx hby at_116 rfl (ziconst X54 hx hby at_118 (z := (3 : Int32)) rfl (ziload X54 hx hby at_119 rfl (zcalls X54 hx hby at_121 hZ hown (w5 hw) (w6 hw) (w7 hw) (w8 hw) e54 (c1_hit l hw [] ⟨S_w_ONE_CHAR_A_BYTE, S_w_ASCII, S_w_UTF_8, E_w_ONE_CHAR_A_BYTE, E_w_ASCII, E_w_UTF_8⟩ O5 (Nat.le_trans Z0 K5.1) vF vT vc b1 vb0 vb1 vb2 vb3 g1 A5_b1 kT) (by decide) (by rw [hml]; rfl) 0 (Nat.le_of_eq rfl) (by decide) (by decide) (by decide) (by decide) pd_0 rfl (argsL := [(.ref b1), (.int vF), (.int vT), (.int 3), (.int vc)]) (st := []) rfl (zpureK ⟨rfl, rfl⟩ fun T55 X55 e55 => ?_)))))))
    show zEnds p e below s T55 (mkF m 124 #[iv p1, iv p2, iv p3, iv p4, iv p5, rv b1, iv vF, iv vT, iv vc, iv 1, rv w_ASCII, iv vT] [(.int (hitv vF vT (3 : Int32) vb3 vc))]) _ _ _
    by_cases hc56 : (hitv vF vT (3 : Int32) vb3 vc) = (0 : Int32)
    · refine zifYes X55 hx hby at_124 130 ((if0 _ _).trans (teq hc56).1) (by decide) (by decide) (zaload X55 hx hby at_130 rfl rfl (ziload X55 hx hby at_132 rfl (ziload X55 hx hby at_134 rfl (ziconst X55 hx hby at_136 (z := (2 : Int32)) rfl (ziload X55 hx hby at_137 rfl (zcalls X55 hx hby at_139 hZ hown (w5 hw) (w6 hw) (w7 hw) (w8 hw) e55 (c3_hit l hw [] ⟨S_w_ONE_CHAR_A_BYTE, S_w_ASCII, S_w_UTF_8, E_w_ONE_CHAR_A_BYTE, E_w_ASCII, E_w_UTF_8⟩ O5 (Nat.le_trans Z0 K5.1) vF vT vc b1 vb0 vb1 vb2 vb3 g1 A5_b1 kT) (by decide) (by rw [hml]; rfl) 0 (Nat.le_of_eq rfl) (by decide) (by decide) (by decide) (by decide) pd_0 rfl (argsL := [(.ref b1), (.int vF), (.int vT), (.int 2), (.int vc)]) (st := []) rfl (zpureK ⟨rfl, rfl⟩ fun T57 X57 e57 => ?_)))))))
      show zEnds p e below s T57 (mkF m 142 #[iv p1, iv p2, iv p3, iv p4, iv p5, rv b1, iv vF, iv vT, iv vc, iv 1, rv w_ASCII, iv vT] [(.int (hitv vF vT (2 : Int32) vb2 vc))]) _ _ _
      by_cases hc58 : (hitv vF vT (2 : Int32) vb2 vc) = (0 : Int32)
      · refine zifYes X57 hx hby at_142 148 ((if0 _ _).trans (teq hc58).1) (by decide) (by decide) (zaload X57 hx hby at_148 rfl rfl (ziload X57 hx hby at_150 rfl (ziload X57 hx hby at_152 rfl (ziconst X57 hx hby at_154 (z := (1 : Int32)) rfl (ziload X57 hx hby at_155 rfl (zcalls X57 hx hby at_157 hZ hown (w5 hw) (w6 hw) (w7 hw) (w8 hw) e57 (c5_hit l hw [] ⟨S_w_ONE_CHAR_A_BYTE, S_w_ASCII, S_w_UTF_8, E_w_ONE_CHAR_A_BYTE, E_w_ASCII, E_w_UTF_8⟩ O5 (Nat.le_trans Z0 K5.1) vF vT vc b1 vb0 vb1 vb2 vb3 g1 A5_b1 kT) (by decide) (by rw [hml]; rfl) 0 (Nat.le_of_eq rfl) (by decide) (by decide) (by decide) (by decide) pd_0 rfl (argsL := [(.ref b1), (.int vF), (.int vT), (.int 1), (.int vc)]) (st := []) rfl (zpureK ⟨rfl, rfl⟩ fun T59 X59 e59 => ?_)))))))
        show zEnds p e below s T59 (mkF m 160 #[iv p1, iv p2, iv p3, iv p4, iv p5, rv b1, iv vF, iv vT, iv vc, iv 1, rv w_ASCII, iv vT] [(.int (hitv vF vT (1 : Int32) vb1 vc))]) _ _ _
        by_cases hc60 : (hitv vF vT (1 : Int32) vb1 vc) = (0 : Int32)
        · refine zifYes X59 hx hby at_160 166 ((if0 _ _).trans (teq hc60).1) (by decide) (by decide) (zaload X59 hx hby at_166 rfl rfl (ziload X59 hx hby at_168 rfl (ziload X59 hx hby at_170 rfl (ziconst X59 hx hby at_172 (z := (0 : Int32)) rfl (ziload X59 hx hby at_173 rfl (zcalls X59 hx hby at_175 hZ hown (w5 hw) (w6 hw) (w7 hw) (w8 hw) e59 (c7_hit l hw [] ⟨S_w_ONE_CHAR_A_BYTE, S_w_ASCII, S_w_UTF_8, E_w_ONE_CHAR_A_BYTE, E_w_ASCII, E_w_UTF_8⟩ O5 (Nat.le_trans Z0 K5.1) vF vT vc b1 vb0 vb1 vb2 vb3 g1 A5_b1 kT) (by decide) (by rw [hml]; rfl) 0 (Nat.le_of_eq rfl) (by decide) (by decide) (by decide) (by decide) pd_0 rfl (argsL := [(.ref b1), (.int vF), (.int vT), (.int 0), (.int vc)]) (st := []) rfl (zpureK ⟨rfl, rfl⟩ fun T61 X61 e61 => ?_)))))))
          show zEnds p e below s T61 (mkF m 178 #[iv p1, iv p2, iv p3, iv p4, iv p5, rv b1, iv vF, iv vT, iv vc, iv 1, rv w_ASCII, iv vT] [(.int (hitv vF vT (0 : Int32) vb0 vc))]) _ _ _
          by_cases hc62 : (hitv vF vT (0 : Int32) vb0 vc) = (0 : Int32)
          · refine zifYes X61 hx hby at_178 184 ((if0 _ _).trans (teq hc62).1) (by decide) (by decide) (zaload X61 hx hby at_184 rfl rfl (zaload X61 hx hby at_186 rfl rfl (ziload X61 hx hby at_188 rfl (ziload X61 hx hby at_190 rfl (ziload X61 hx hby at_192 rfl (zcallv X61 hx hby at_194 hZ hown (w9 hw) (w10 hw) (notFace_of_selects (args := #[]) (mvT hZ (w16 hw))) (w16 hw) (w11 hw) (w13 hw) (w3 hw) e61 (E_w_ASCII.ext O5.2) (c9_indexOf l hw [] ⟨S_w_ONE_CHAR_A_BYTE, S_w_ASCII, S_w_UTF_8, E_w_ONE_CHAR_A_BYTE, E_w_ASCII, E_w_UTF_8⟩ O5 (Nat.le_trans Z0 K5.1) w_ASCII vF vT vc b1 vb0 vb1 vb2 vb3 g1 A5_b1 kT kF) (by decide) (by rw [hml]; rfl) 0 (Nat.le_of_eq rfl) (by decide) (by decide) (by decide) (by decide) pd_1 rfl (argsL := [(.ref b1), (.int vF), (.int vT), (.int vc)]) (st := []) rfl (zpureK ⟨rfl, rfl⟩ fun T63 X63 e63 => ?_)))))))
            show zEnds p e below s T63 (mkF m 197 #[iv p1, iv p2, iv p3, iv p4, iv p5, rv b1, iv vF, iv vT, iv vc, iv 1, rv w_ASCII, iv vT] [(.int (idxv vF vT vc vb0 vb1 vb2 vb3))]) _ _ _
            refine ziload X63 hx hby at_197 rfl ?_
            show zEnds p e below s T63 (mkF m 199 #[iv p1, iv p2, iv p3, iv p4, iv p5, rv b1, iv vF, iv vT, iv vc, iv 1, rv w_ASCII, iv vT] [(.int vT), (.int (idxv vF vT vc vb0 vb1 vb2 vb3))]) _ _ _
            have hh : (idxv vF vT vc vb0 vb1 vb2 vb3) = vT := by rw [own_link _ _ _ _ _ _ _ kF kT kc hb0 hb1 hb2 hb3]; simp +decide [expv, hc56, hc58, hc60, hc62]
            refine zicmpNo X63 hx hby at_199 (teq hh).2 (ziconst X63 hx hby at_202 (z := (1 : Int32)) rfl (zgoto X63 hx hby at_203 207 (by decide) (by decide) ?_))
            show zEnds p e below s T63 (mkF m 207 #[iv p1, iv p2, iv p3, iv p4, iv p5, rv b1, iv vF, iv vT, iv vc, iv 1, rv w_ASCII, iv vT] [(.int 1)]) _ _ _
            exact zretZ X63 hx hby at_207 hret hlk (by simp) rfl (by decide) (by decide) ⟨rfl, N5⟩
          · refine zifNo X61 hx hby at_178 ((if0 _ _).trans (feq hc62).1) (ziconst X61 hx hby at_181 (z := (0 : Int32)) rfl (zistore X61 hx hby at_182 (L' := #[iv p1, iv p2, iv p3, iv p4, iv p5, rv b1, iv vF, iv vT, iv vc, iv 1, rv w_ASCII, iv 0]) rfl (zaload X61 hx hby at_184 rfl rfl (zaload X61 hx hby at_186 rfl rfl (ziload X61 hx hby at_188 rfl (ziload X61 hx hby at_190 rfl (ziload X61 hx hby at_192 rfl (zcallv X61 hx hby at_194 hZ hown (w9 hw) (w10 hw) (notFace_of_selects (args := #[]) (mvT hZ (w16 hw))) (w16 hw) (w11 hw) (w13 hw) (w3 hw) e61 (E_w_ASCII.ext O5.2) (c9_indexOf l hw [] ⟨S_w_ONE_CHAR_A_BYTE, S_w_ASCII, S_w_UTF_8, E_w_ONE_CHAR_A_BYTE, E_w_ASCII, E_w_UTF_8⟩ O5 (Nat.le_trans Z0 K5.1) w_ASCII vF vT vc b1 vb0 vb1 vb2 vb3 g1 A5_b1 kT kF) (by decide) (by rw [hml]; rfl) 0 (Nat.le_of_eq rfl) (by decide) (by decide) (by decide) (by decide) pd_1 rfl (argsL := [(.ref b1), (.int vF), (.int vT), (.int vc)]) (st := []) rfl (zpureK ⟨rfl, rfl⟩ fun T64 X64 e64 => ?_)))))))))
            show zEnds p e below s T64 (mkF m 197 #[iv p1, iv p2, iv p3, iv p4, iv p5, rv b1, iv vF, iv vT, iv vc, iv 1, rv w_ASCII, iv 0] [(.int (idxv vF vT vc vb0 vb1 vb2 vb3))]) _ _ _
            refine ziload X64 hx hby at_197 rfl ?_
            show zEnds p e below s T64 (mkF m 199 #[iv p1, iv p2, iv p3, iv p4, iv p5, rv b1, iv vF, iv vT, iv vc, iv 1, rv w_ASCII, iv 0] [(.int 0), (.int (idxv vF vT vc vb0 vb1 vb2 vb3))]) _ _ _
            have hh : (idxv vF vT vc vb0 vb1 vb2 vb3) = (0 : Int32) := by rw [own_link _ _ _ _ _ _ _ kF kT kc hb0 hb1 hb2 hb3]; simp +decide [expv, hc56, hc58, hc60, hc62]
            refine zicmpNo X64 hx hby at_199 (teq hh).2 (ziconst X64 hx hby at_202 (z := (1 : Int32)) rfl (zgoto X64 hx hby at_203 207 (by decide) (by decide) ?_))
            show zEnds p e below s T64 (mkF m 207 #[iv p1, iv p2, iv p3, iv p4, iv p5, rv b1, iv vF, iv vT, iv vc, iv 1, rv w_ASCII, iv 0] [(.int 1)]) _ _ _
            exact zretZ X64 hx hby at_207 hret hlk (by simp) rfl (by decide) (by decide) ⟨rfl, N5⟩
        · refine zifNo X59 hx hby at_160 ((if0 _ _).trans (feq hc60).1) (ziconst X59 hx hby at_163 (z := (1 : Int32)) rfl (zistore X59 hx hby at_164 (L' := #[iv p1, iv p2, iv p3, iv p4, iv p5, rv b1, iv vF, iv vT, iv vc, iv 1, rv w_ASCII, iv 1]) rfl (zaload X59 hx hby at_166 rfl rfl (ziload X59 hx hby at_168 rfl (ziload X59 hx hby at_170 rfl (ziconst X59 hx hby at_172 (z := (0 : Int32)) rfl (ziload X59 hx hby at_173 rfl (zcalls X59 hx hby at_175 hZ hown (w5 hw) (w6 hw) (w7 hw) (w8 hw) e59 (c7_hit l hw [] ⟨S_w_ONE_CHAR_A_BYTE, S_w_ASCII, S_w_UTF_8, E_w_ONE_CHAR_A_BYTE, E_w_ASCII, E_w_UTF_8⟩ O5 (Nat.le_trans Z0 K5.1) vF vT vc b1 vb0 vb1 vb2 vb3 g1 A5_b1 kT) (by decide) (by rw [hml]; rfl) 0 (Nat.le_of_eq rfl) (by decide) (by decide) (by decide) (by decide) pd_0 rfl (argsL := [(.ref b1), (.int vF), (.int vT), (.int 0), (.int vc)]) (st := []) rfl (zpureK ⟨rfl, rfl⟩ fun T65 X65 e65 => ?_)))))))))
          show zEnds p e below s T65 (mkF m 178 #[iv p1, iv p2, iv p3, iv p4, iv p5, rv b1, iv vF, iv vT, iv vc, iv 1, rv w_ASCII, iv 1] [(.int (hitv vF vT (0 : Int32) vb0 vc))]) _ _ _
          by_cases hc66 : (hitv vF vT (0 : Int32) vb0 vc) = (0 : Int32)
          · refine zifYes X65 hx hby at_178 184 ((if0 _ _).trans (teq hc66).1) (by decide) (by decide) (zaload X65 hx hby at_184 rfl rfl (zaload X65 hx hby at_186 rfl rfl (ziload X65 hx hby at_188 rfl (ziload X65 hx hby at_190 rfl (ziload X65 hx hby at_192 rfl (zcallv X65 hx hby at_194 hZ hown (w9 hw) (w10 hw) (notFace_of_selects (args := #[]) (mvT hZ (w16 hw))) (w16 hw) (w11 hw) (w13 hw) (w3 hw) e65 (E_w_ASCII.ext O5.2) (c9_indexOf l hw [] ⟨S_w_ONE_CHAR_A_BYTE, S_w_ASCII, S_w_UTF_8, E_w_ONE_CHAR_A_BYTE, E_w_ASCII, E_w_UTF_8⟩ O5 (Nat.le_trans Z0 K5.1) w_ASCII vF vT vc b1 vb0 vb1 vb2 vb3 g1 A5_b1 kT kF) (by decide) (by rw [hml]; rfl) 0 (Nat.le_of_eq rfl) (by decide) (by decide) (by decide) (by decide) pd_1 rfl (argsL := [(.ref b1), (.int vF), (.int vT), (.int vc)]) (st := []) rfl (zpureK ⟨rfl, rfl⟩ fun T67 X67 e67 => ?_)))))))
            show zEnds p e below s T67 (mkF m 197 #[iv p1, iv p2, iv p3, iv p4, iv p5, rv b1, iv vF, iv vT, iv vc, iv 1, rv w_ASCII, iv 1] [(.int (idxv vF vT vc vb0 vb1 vb2 vb3))]) _ _ _
            refine ziload X67 hx hby at_197 rfl ?_
            show zEnds p e below s T67 (mkF m 199 #[iv p1, iv p2, iv p3, iv p4, iv p5, rv b1, iv vF, iv vT, iv vc, iv 1, rv w_ASCII, iv 1] [(.int 1), (.int (idxv vF vT vc vb0 vb1 vb2 vb3))]) _ _ _
            have hh : (idxv vF vT vc vb0 vb1 vb2 vb3) = (1 : Int32) := by rw [own_link _ _ _ _ _ _ _ kF kT kc hb0 hb1 hb2 hb3]; simp +decide [expv, hc56, hc58, hc60, hc66]
            refine zicmpNo X67 hx hby at_199 (teq hh).2 (ziconst X67 hx hby at_202 (z := (1 : Int32)) rfl (zgoto X67 hx hby at_203 207 (by decide) (by decide) ?_))
            show zEnds p e below s T67 (mkF m 207 #[iv p1, iv p2, iv p3, iv p4, iv p5, rv b1, iv vF, iv vT, iv vc, iv 1, rv w_ASCII, iv 1] [(.int 1)]) _ _ _
            exact zretZ X67 hx hby at_207 hret hlk (by simp) rfl (by decide) (by decide) ⟨rfl, N5⟩
          · refine zifNo X65 hx hby at_178 ((if0 _ _).trans (feq hc66).1) (ziconst X65 hx hby at_181 (z := (0 : Int32)) rfl (zistore X65 hx hby at_182 (L' := #[iv p1, iv p2, iv p3, iv p4, iv p5, rv b1, iv vF, iv vT, iv vc, iv 1, rv w_ASCII, iv 0]) rfl (zaload X65 hx hby at_184 rfl rfl (zaload X65 hx hby at_186 rfl rfl (ziload X65 hx hby at_188 rfl (ziload X65 hx hby at_190 rfl (ziload X65 hx hby at_192 rfl (zcallv X65 hx hby at_194 hZ hown (w9 hw) (w10 hw) (notFace_of_selects (args := #[]) (mvT hZ (w16 hw))) (w16 hw) (w11 hw) (w13 hw) (w3 hw) e65 (E_w_ASCII.ext O5.2) (c9_indexOf l hw [] ⟨S_w_ONE_CHAR_A_BYTE, S_w_ASCII, S_w_UTF_8, E_w_ONE_CHAR_A_BYTE, E_w_ASCII, E_w_UTF_8⟩ O5 (Nat.le_trans Z0 K5.1) w_ASCII vF vT vc b1 vb0 vb1 vb2 vb3 g1 A5_b1 kT kF) (by decide) (by rw [hml]; rfl) 0 (Nat.le_of_eq rfl) (by decide) (by decide) (by decide) (by decide) pd_1 rfl (argsL := [(.ref b1), (.int vF), (.int vT), (.int vc)]) (st := []) rfl (zpureK ⟨rfl, rfl⟩ fun T68 X68 e68 => ?_)))))))))
            show zEnds p e below s T68 (mkF m 197 #[iv p1, iv p2, iv p3, iv p4, iv p5, rv b1, iv vF, iv vT, iv vc, iv 1, rv w_ASCII, iv 0] [(.int (idxv vF vT vc vb0 vb1 vb2 vb3))]) _ _ _
            refine ziload X68 hx hby at_197 rfl ?_
            show zEnds p e below s T68 (mkF m 199 #[iv p1, iv p2, iv p3, iv p4, iv p5, rv b1, iv vF, iv vT, iv vc, iv 1, rv w_ASCII, iv 0] [(.int 0), (.int (idxv vF vT vc vb0 vb1 vb2 vb3))]) _ _ _
            have hh : (idxv vF vT vc vb0 vb1 vb2 vb3) = (0 : Int32) := by rw [own_link _ _ _ _ _ _ _ kF kT kc hb0 hb1 hb2 hb3]; simp +decide [expv, hc56, hc58, hc60, hc66]
            refine zicmpNo X68 hx hby at_199 (teq hh).2 (ziconst X68 hx hby at_202 (z := (1 : Int32)) rfl (zgoto X68 hx hby at_203 207 (by decide) (by decide) ?_))
            show zEnds p e below s T68 (mkF m 207 #[iv p1, iv p2, iv p3, iv p4, iv p5, rv b1, iv vF, iv vT, iv vc, iv 1, rv w_ASCII, iv 0] [(.int 1)]) _ _ _
            exact zretZ X68 hx hby at_207 hret hlk (by simp) rfl (by decide) (by decide) ⟨rfl, N5⟩
      · refine zifNo X57 hx hby at_142 ((if0 _ _).trans (feq hc58).1) (ziconst X57 hx hby at_145 (z := (2 : Int32)) rfl (zistore X57 hx hby at_146 (L' := #[iv p1, iv p2, iv p3, iv p4, iv p5, rv b1, iv vF, iv vT, iv vc, iv 1, rv w_ASCII, iv 2]) rfl (zaload X57 hx hby at_148 rfl rfl (ziload X57 hx hby at_150 rfl (ziload X57 hx hby at_152 rfl (ziconst X57 hx hby at_154 (z := (1 : Int32)) rfl (ziload X57 hx hby at_155 rfl (zcalls X57 hx hby at_157 hZ hown (w5 hw) (w6 hw) (w7 hw) (w8 hw) e57 (c5_hit l hw [] ⟨S_w_ONE_CHAR_A_BYTE, S_w_ASCII, S_w_UTF_8, E_w_ONE_CHAR_A_BYTE, E_w_ASCII, E_w_UTF_8⟩ O5 (Nat.le_trans Z0 K5.1) vF vT vc b1 vb0 vb1 vb2 vb3 g1 A5_b1 kT) (by decide) (by rw [hml]; rfl) 0 (Nat.le_of_eq rfl) (by decide) (by decide) (by decide) (by decide) pd_0 rfl (argsL := [(.ref b1), (.int vF), (.int vT), (.int 1), (.int vc)]) (st := []) rfl (zpureK ⟨rfl, rfl⟩ fun T69 X69 e69 => ?_)))))))))
        show zEnds p e below s T69 (mkF m 160 #[iv p1, iv p2, iv p3, iv p4, iv p5, rv b1, iv vF, iv vT, iv vc, iv 1, rv w_ASCII, iv 2] [(.int (hitv vF vT (1 : Int32) vb1 vc))]) _ _ _
        by_cases hc70 : (hitv vF vT (1 : Int32) vb1 vc) = (0 : Int32)
        · refine zifYes X69 hx hby at_160 166 ((if0 _ _).trans (teq hc70).1) (by decide) (by decide) (zaload X69 hx hby at_166 rfl rfl (ziload X69 hx hby at_168 rfl (ziload X69 hx hby at_170 rfl (ziconst X69 hx hby at_172 (z := (0 : Int32)) rfl (ziload X69 hx hby at_173 rfl (zcalls X69 hx hby at_175 hZ hown (w5 hw) (w6 hw) (w7 hw) (w8 hw) e69 (c7_hit l hw [] ⟨S_w_ONE_CHAR_A_BYTE, S_w_ASCII, S_w_UTF_8, E_w_ONE_CHAR_A_BYTE, E_w_ASCII, E_w_UTF_8⟩ O5 (Nat.le_trans Z0 K5.1) vF vT vc b1 vb0 vb1 vb2 vb3 g1 A5_b1 kT) (by decide) (by rw [hml]; rfl) 0 (Nat.le_of_eq rfl) (by decide) (by decide) (by decide) (by decide) pd_0 rfl (argsL := [(.ref b1), (.int vF), (.int vT), (.int 0), (.int vc)]) (st := []) rfl (zpureK ⟨rfl, rfl⟩ fun T71 X71 e71 => ?_)))))))
          show zEnds p e below s T71 (mkF m 178 #[iv p1, iv p2, iv p3, iv p4, iv p5, rv b1, iv vF, iv vT, iv vc, iv 1, rv w_ASCII, iv 2] [(.int (hitv vF vT (0 : Int32) vb0 vc))]) _ _ _
          by_cases hc72 : (hitv vF vT (0 : Int32) vb0 vc) = (0 : Int32)
          · refine zifYes X71 hx hby at_178 184 ((if0 _ _).trans (teq hc72).1) (by decide) (by decide) (zaload X71 hx hby at_184 rfl rfl (zaload X71 hx hby at_186 rfl rfl (ziload X71 hx hby at_188 rfl (ziload X71 hx hby at_190 rfl (ziload X71 hx hby at_192 rfl (zcallv X71 hx hby at_194 hZ hown (w9 hw) (w10 hw) (notFace_of_selects (args := #[]) (mvT hZ (w16 hw))) (w16 hw) (w11 hw) (w13 hw) (w3 hw) e71 (E_w_ASCII.ext O5.2) (c9_indexOf l hw [] ⟨S_w_ONE_CHAR_A_BYTE, S_w_ASCII, S_w_UTF_8, E_w_ONE_CHAR_A_BYTE, E_w_ASCII, E_w_UTF_8⟩ O5 (Nat.le_trans Z0 K5.1) w_ASCII vF vT vc b1 vb0 vb1 vb2 vb3 g1 A5_b1 kT kF) (by decide) (by rw [hml]; rfl) 0 (Nat.le_of_eq rfl) (by decide) (by decide) (by decide) (by decide) pd_1 rfl (argsL := [(.ref b1), (.int vF), (.int vT), (.int vc)]) (st := []) rfl (zpureK ⟨rfl, rfl⟩ fun T73 X73 e73 => ?_)))))))
            show zEnds p e below s T73 (mkF m 197 #[iv p1, iv p2, iv p3, iv p4, iv p5, rv b1, iv vF, iv vT, iv vc, iv 1, rv w_ASCII, iv 2] [(.int (idxv vF vT vc vb0 vb1 vb2 vb3))]) _ _ _
            refine ziload X73 hx hby at_197 rfl ?_
            show zEnds p e below s T73 (mkF m 199 #[iv p1, iv p2, iv p3, iv p4, iv p5, rv b1, iv vF, iv vT, iv vc, iv 1, rv w_ASCII, iv 2] [(.int 2), (.int (idxv vF vT vc vb0 vb1 vb2 vb3))]) _ _ _
            have hh : (idxv vF vT vc vb0 vb1 vb2 vb3) = (2 : Int32) := by rw [own_link _ _ _ _ _ _ _ kF kT kc hb0 hb1 hb2 hb3]; simp +decide [expv, hc56, hc58, hc70, hc72]
            refine zicmpNo X73 hx hby at_199 (teq hh).2 (ziconst X73 hx hby at_202 (z := (1 : Int32)) rfl (zgoto X73 hx hby at_203 207 (by decide) (by decide) ?_))
            show zEnds p e below s T73 (mkF m 207 #[iv p1, iv p2, iv p3, iv p4, iv p5, rv b1, iv vF, iv vT, iv vc, iv 1, rv w_ASCII, iv 2] [(.int 1)]) _ _ _
            exact zretZ X73 hx hby at_207 hret hlk (by simp) rfl (by decide) (by decide) ⟨rfl, N5⟩
          · refine zifNo X71 hx hby at_178 ((if0 _ _).trans (feq hc72).1) (ziconst X71 hx hby at_181 (z := (0 : Int32)) rfl (zistore X71 hx hby at_182 (L' := #[iv p1, iv p2, iv p3, iv p4, iv p5, rv b1, iv vF, iv vT, iv vc, iv 1, rv w_ASCII, iv 0]) rfl (zaload X71 hx hby at_184 rfl rfl (zaload X71 hx hby at_186 rfl rfl (ziload X71 hx hby at_188 rfl (ziload X71 hx hby at_190 rfl (ziload X71 hx hby at_192 rfl (zcallv X71 hx hby at_194 hZ hown (w9 hw) (w10 hw) (notFace_of_selects (args := #[]) (mvT hZ (w16 hw))) (w16 hw) (w11 hw) (w13 hw) (w3 hw) e71 (E_w_ASCII.ext O5.2) (c9_indexOf l hw [] ⟨S_w_ONE_CHAR_A_BYTE, S_w_ASCII, S_w_UTF_8, E_w_ONE_CHAR_A_BYTE, E_w_ASCII, E_w_UTF_8⟩ O5 (Nat.le_trans Z0 K5.1) w_ASCII vF vT vc b1 vb0 vb1 vb2 vb3 g1 A5_b1 kT kF) (by decide) (by rw [hml]; rfl) 0 (Nat.le_of_eq rfl) (by decide) (by decide) (by decide) (by decide) pd_1 rfl (argsL := [(.ref b1), (.int vF), (.int vT), (.int vc)]) (st := []) rfl (zpureK ⟨rfl, rfl⟩ fun T74 X74 e74 => ?_)))))))))
            show zEnds p e below s T74 (mkF m 197 #[iv p1, iv p2, iv p3, iv p4, iv p5, rv b1, iv vF, iv vT, iv vc, iv 1, rv w_ASCII, iv 0] [(.int (idxv vF vT vc vb0 vb1 vb2 vb3))]) _ _ _
            refine ziload X74 hx hby at_197 rfl ?_
            show zEnds p e below s T74 (mkF m 199 #[iv p1, iv p2, iv p3, iv p4, iv p5, rv b1, iv vF, iv vT, iv vc, iv 1, rv w_ASCII, iv 0] [(.int 0), (.int (idxv vF vT vc vb0 vb1 vb2 vb3))]) _ _ _
            have hh : (idxv vF vT vc vb0 vb1 vb2 vb3) = (0 : Int32) := by rw [own_link _ _ _ _ _ _ _ kF kT kc hb0 hb1 hb2 hb3]; simp +decide [expv, hc56, hc58, hc70, hc72]
            refine zicmpNo X74 hx hby at_199 (teq hh).2 (ziconst X74 hx hby at_202 (z := (1 : Int32)) rfl (zgoto X74 hx hby at_203 207 (by decide) (by decide) ?_))
            show zEnds p e below s T74 (mkF m 207 #[iv p1, iv p2, iv p3, iv p4, iv p5, rv b1, iv vF, iv vT, iv vc, iv 1, rv w_ASCII, iv 0] [(.int 1)]) _ _ _
            exact zretZ X74 hx hby at_207 hret hlk (by simp) rfl (by decide) (by decide) ⟨rfl, N5⟩
        · refine zifNo X69 hx hby at_160 ((if0 _ _).trans (feq hc70).1) (ziconst X69 hx hby at_163 (z := (1 : Int32)) rfl (zistore X69 hx hby at_164 (L' := #[iv p1, iv p2, iv p3, iv p4, iv p5, rv b1, iv vF, iv vT, iv vc, iv 1, rv w_ASCII, iv 1]) rfl (zaload X69 hx hby at_166 rfl rfl (ziload X69 hx hby at_168 rfl (ziload X69 hx hby at_170 rfl (ziconst X69 hx hby at_172 (z := (0 : Int32)) rfl (ziload X69 hx hby at_173 rfl (zcalls X69 hx hby at_175 hZ hown (w5 hw) (w6 hw) (w7 hw) (w8 hw) e69 (c7_hit l hw [] ⟨S_w_ONE_CHAR_A_BYTE, S_w_ASCII, S_w_UTF_8, E_w_ONE_CHAR_A_BYTE, E_w_ASCII, E_w_UTF_8⟩ O5 (Nat.le_trans Z0 K5.1) vF vT vc b1 vb0 vb1 vb2 vb3 g1 A5_b1 kT) (by decide) (by rw [hml]; rfl) 0 (Nat.le_of_eq rfl) (by decide) (by decide) (by decide) (by decide) pd_0 rfl (argsL := [(.ref b1), (.int vF), (.int vT), (.int 0), (.int vc)]) (st := []) rfl (zpureK ⟨rfl, rfl⟩ fun T75 X75 e75 => ?_)))))))))
          show zEnds p e below s T75 (mkF m 178 #[iv p1, iv p2, iv p3, iv p4, iv p5, rv b1, iv vF, iv vT, iv vc, iv 1, rv w_ASCII, iv 1] [(.int (hitv vF vT (0 : Int32) vb0 vc))]) _ _ _
          by_cases hc76 : (hitv vF vT (0 : Int32) vb0 vc) = (0 : Int32)
          · refine zifYes X75 hx hby at_178 184 ((if0 _ _).trans (teq hc76).1) (by decide) (by decide) (zaload X75 hx hby at_184 rfl rfl (zaload X75 hx hby at_186 rfl rfl (ziload X75 hx hby at_188 rfl (ziload X75 hx hby at_190 rfl (ziload X75 hx hby at_192 rfl (zcallv X75 hx hby at_194 hZ hown (w9 hw) (w10 hw) (notFace_of_selects (args := #[]) (mvT hZ (w16 hw))) (w16 hw) (w11 hw) (w13 hw) (w3 hw) e75 (E_w_ASCII.ext O5.2) (c9_indexOf l hw [] ⟨S_w_ONE_CHAR_A_BYTE, S_w_ASCII, S_w_UTF_8, E_w_ONE_CHAR_A_BYTE, E_w_ASCII, E_w_UTF_8⟩ O5 (Nat.le_trans Z0 K5.1) w_ASCII vF vT vc b1 vb0 vb1 vb2 vb3 g1 A5_b1 kT kF) (by decide) (by rw [hml]; rfl) 0 (Nat.le_of_eq rfl) (by decide) (by decide) (by decide) (by decide) pd_1 rfl (argsL := [(.ref b1), (.int vF), (.int vT), (.int vc)]) (st := []) rfl (zpureK ⟨rfl, rfl⟩ fun T77 X77 e77 => ?_)))))))
            show zEnds p e below s T77 (mkF m 197 #[iv p1, iv p2, iv p3, iv p4, iv p5, rv b1, iv vF, iv vT, iv vc, iv 1, rv w_ASCII, iv 1] [(.int (idxv vF vT vc vb0 vb1 vb2 vb3))]) _ _ _
            refine ziload X77 hx hby at_197 rfl ?_
            show zEnds p e below s T77 (mkF m 199 #[iv p1, iv p2, iv p3, iv p4, iv p5, rv b1, iv vF, iv vT, iv vc, iv 1, rv w_ASCII, iv 1] [(.int 1), (.int (idxv vF vT vc vb0 vb1 vb2 vb3))]) _ _ _
            have hh : (idxv vF vT vc vb0 vb1 vb2 vb3) = (1 : Int32) := by rw [own_link _ _ _ _ _ _ _ kF kT kc hb0 hb1 hb2 hb3]; simp +decide [expv, hc56, hc58, hc70, hc76]
            refine zicmpNo X77 hx hby at_199 (teq hh).2 (ziconst X77 hx hby at_202 (z := (1 : Int32)) rfl (zgoto X77 hx hby at_203 207 (by decide) (by decide) ?_))
            show zEnds p e below s T77 (mkF m 207 #[iv p1, iv p2, iv p3, iv p4, iv p5, rv b1, iv vF, iv vT, iv vc, iv 1, rv w_ASCII, iv 1] [(.int 1)]) _ _ _
            exact zretZ X77 hx hby at_207 hret hlk (by simp) rfl (by decide) (by decide) ⟨rfl, N5⟩
          · refine zifNo X75 hx hby at_178 ((if0 _ _).trans (feq hc76).1) (ziconst X75 hx hby at_181 (z := (0 : Int32)) rfl (zistore X75 hx hby at_182 (L' := #[iv p1, iv p2, iv p3, iv p4, iv p5, rv b1, iv vF, iv vT, iv vc, iv 1, rv w_ASCII, iv 0]) rfl (zaload X75 hx hby at_184 rfl rfl (zaload X75 hx hby at_186 rfl rfl (ziload X75 hx hby at_188 rfl (ziload X75 hx hby at_190 rfl (ziload X75 hx hby at_192 rfl (zcallv X75 hx hby at_194 hZ hown (w9 hw) (w10 hw) (notFace_of_selects (args := #[]) (mvT hZ (w16 hw))) (w16 hw) (w11 hw) (w13 hw) (w3 hw) e75 (E_w_ASCII.ext O5.2) (c9_indexOf l hw [] ⟨S_w_ONE_CHAR_A_BYTE, S_w_ASCII, S_w_UTF_8, E_w_ONE_CHAR_A_BYTE, E_w_ASCII, E_w_UTF_8⟩ O5 (Nat.le_trans Z0 K5.1) w_ASCII vF vT vc b1 vb0 vb1 vb2 vb3 g1 A5_b1 kT kF) (by decide) (by rw [hml]; rfl) 0 (Nat.le_of_eq rfl) (by decide) (by decide) (by decide) (by decide) pd_1 rfl (argsL := [(.ref b1), (.int vF), (.int vT), (.int vc)]) (st := []) rfl (zpureK ⟨rfl, rfl⟩ fun T78 X78 e78 => ?_)))))))))
            show zEnds p e below s T78 (mkF m 197 #[iv p1, iv p2, iv p3, iv p4, iv p5, rv b1, iv vF, iv vT, iv vc, iv 1, rv w_ASCII, iv 0] [(.int (idxv vF vT vc vb0 vb1 vb2 vb3))]) _ _ _
            refine ziload X78 hx hby at_197 rfl ?_
            show zEnds p e below s T78 (mkF m 199 #[iv p1, iv p2, iv p3, iv p4, iv p5, rv b1, iv vF, iv vT, iv vc, iv 1, rv w_ASCII, iv 0] [(.int 0), (.int (idxv vF vT vc vb0 vb1 vb2 vb3))]) _ _ _
            have hh : (idxv vF vT vc vb0 vb1 vb2 vb3) = (0 : Int32) := by rw [own_link _ _ _ _ _ _ _ kF kT kc hb0 hb1 hb2 hb3]; simp +decide [expv, hc56, hc58, hc70, hc76]
            refine zicmpNo X78 hx hby at_199 (teq hh).2 (ziconst X78 hx hby at_202 (z := (1 : Int32)) rfl (zgoto X78 hx hby at_203 207 (by decide) (by decide) ?_))
            show zEnds p e below s T78 (mkF m 207 #[iv p1, iv p2, iv p3, iv p4, iv p5, rv b1, iv vF, iv vT, iv vc, iv 1, rv w_ASCII, iv 0] [(.int 1)]) _ _ _
            exact zretZ X78 hx hby at_207 hret hlk (by simp) rfl (by decide) (by decide) ⟨rfl, N5⟩
    · refine zifNo X55 hx hby at_124 ((if0 _ _).trans (feq hc56).1) (ziconst X55 hx hby at_127 (z := (3 : Int32)) rfl (zistore X55 hx hby at_128 (L' := #[iv p1, iv p2, iv p3, iv p4, iv p5, rv b1, iv vF, iv vT, iv vc, iv 1, rv w_ASCII, iv 3]) rfl (zaload X55 hx hby at_130 rfl rfl (ziload X55 hx hby at_132 rfl (ziload X55 hx hby at_134 rfl (ziconst X55 hx hby at_136 (z := (2 : Int32)) rfl (ziload X55 hx hby at_137 rfl (zcalls X55 hx hby at_139 hZ hown (w5 hw) (w6 hw) (w7 hw) (w8 hw) e55 (c3_hit l hw [] ⟨S_w_ONE_CHAR_A_BYTE, S_w_ASCII, S_w_UTF_8, E_w_ONE_CHAR_A_BYTE, E_w_ASCII, E_w_UTF_8⟩ O5 (Nat.le_trans Z0 K5.1) vF vT vc b1 vb0 vb1 vb2 vb3 g1 A5_b1 kT) (by decide) (by rw [hml]; rfl) 0 (Nat.le_of_eq rfl) (by decide) (by decide) (by decide) (by decide) pd_0 rfl (argsL := [(.ref b1), (.int vF), (.int vT), (.int 2), (.int vc)]) (st := []) rfl (zpureK ⟨rfl, rfl⟩ fun T79 X79 e79 => ?_)))))))))
      show zEnds p e below s T79 (mkF m 142 #[iv p1, iv p2, iv p3, iv p4, iv p5, rv b1, iv vF, iv vT, iv vc, iv 1, rv w_ASCII, iv 3] [(.int (hitv vF vT (2 : Int32) vb2 vc))]) _ _ _
      by_cases hc80 : (hitv vF vT (2 : Int32) vb2 vc) = (0 : Int32)
      · refine zifYes X79 hx hby at_142 148 ((if0 _ _).trans (teq hc80).1) (by decide) (by decide) (zaload X79 hx hby at_148 rfl rfl (ziload X79 hx hby at_150 rfl (ziload X79 hx hby at_152 rfl (ziconst X79 hx hby at_154 (z := (1 : Int32)) rfl (ziload X79 hx hby at_155 rfl (zcalls X79 hx hby at_157 hZ hown (w5 hw) (w6 hw) (w7 hw) (w8 hw) e79 (c5_hit l hw [] ⟨S_w_ONE_CHAR_A_BYTE, S_w_ASCII, S_w_UTF_8, E_w_ONE_CHAR_A_BYTE, E_w_ASCII, E_w_UTF_8⟩ O5 (Nat.le_trans Z0 K5.1) vF vT vc b1 vb0 vb1 vb2 vb3 g1 A5_b1 kT) (by decide) (by rw [hml]; rfl) 0 (Nat.le_of_eq rfl) (by decide) (by decide) (by decide) (by decide) pd_0 rfl (argsL := [(.ref b1), (.int vF), (.int vT), (.int 1), (.int vc)]) (st := []) rfl (zpureK ⟨rfl, rfl⟩ fun T81 X81 e81 => ?_)))))))
        show zEnds p e below s T81 (mkF m 160 #[iv p1, iv p2, iv p3, iv p4, iv p5, rv b1, iv vF, iv vT, iv vc, iv 1, rv w_ASCII, iv 3] [(.int (hitv vF vT (1 : Int32) vb1 vc))]) _ _ _
        by_cases hc82 : (hitv vF vT (1 : Int32) vb1 vc) = (0 : Int32)
        · refine zifYes X81 hx hby at_160 166 ((if0 _ _).trans (teq hc82).1) (by decide) (by decide) (zaload X81 hx hby at_166 rfl rfl (ziload X81 hx hby at_168 rfl (ziload X81 hx hby at_170 rfl (ziconst X81 hx hby at_172 (z := (0 : Int32)) rfl (ziload X81 hx hby at_173 rfl (zcalls X81 hx hby at_175 hZ hown (w5 hw) (w6 hw) (w7 hw) (w8 hw) e81 (c7_hit l hw [] ⟨S_w_ONE_CHAR_A_BYTE, S_w_ASCII, S_w_UTF_8, E_w_ONE_CHAR_A_BYTE, E_w_ASCII, E_w_UTF_8⟩ O5 (Nat.le_trans Z0 K5.1) vF vT vc b1 vb0 vb1 vb2 vb3 g1 A5_b1 kT) (by decide) (by rw [hml]; rfl) 0 (Nat.le_of_eq rfl) (by decide) (by decide) (by decide) (by decide) pd_0 rfl (argsL := [(.ref b1), (.int vF), (.int vT), (.int 0), (.int vc)]) (st := []) rfl (zpureK ⟨rfl, rfl⟩ fun T83 X83 e83 => ?_)))))))
          show zEnds p e below s T83 (mkF m 178 #[iv p1, iv p2, iv p3, iv p4, iv p5, rv b1, iv vF, iv vT, iv vc, iv 1, rv w_ASCII, iv 3] [(.int (hitv vF vT (0 : Int32) vb0 vc))]) _ _ _
          by_cases hc84 : (hitv vF vT (0 : Int32) vb0 vc) = (0 : Int32)
          · refine zifYes X83 hx hby at_178 184 ((if0 _ _).trans (teq hc84).1) (by decide) (by decide) (zaload X83 hx hby at_184 rfl rfl (zaload X83 hx hby at_186 rfl rfl (ziload X83 hx hby at_188 rfl (ziload X83 hx hby at_190 rfl (ziload X83 hx hby at_192 rfl (zcallv X83 hx hby at_194 hZ hown (w9 hw) (w10 hw) (notFace_of_selects (args := #[]) (mvT hZ (w16 hw))) (w16 hw) (w11 hw) (w13 hw) (w3 hw) e83 (E_w_ASCII.ext O5.2) (c9_indexOf l hw [] ⟨S_w_ONE_CHAR_A_BYTE, S_w_ASCII, S_w_UTF_8, E_w_ONE_CHAR_A_BYTE, E_w_ASCII, E_w_UTF_8⟩ O5 (Nat.le_trans Z0 K5.1) w_ASCII vF vT vc b1 vb0 vb1 vb2 vb3 g1 A5_b1 kT kF) (by decide) (by rw [hml]; rfl) 0 (Nat.le_of_eq rfl) (by decide) (by decide) (by decide) (by decide) pd_1 rfl (argsL := [(.ref b1), (.int vF), (.int vT), (.int vc)]) (st := []) rfl (zpureK ⟨rfl, rfl⟩ fun T85 X85 e85 => ?_)))))))
            show zEnds p e below s T85 (mkF m 197 #[iv p1, iv p2, iv p3, iv p4, iv p5, rv b1, iv vF, iv vT, iv vc, iv 1, rv w_ASCII, iv 3] [(.int (idxv vF vT vc vb0 vb1 vb2 vb3))]) _ _ _
            refine ziload X85 hx hby at_197 rfl ?_
            show zEnds p e below s T85 (mkF m 199 #[iv p1, iv p2, iv p3, iv p4, iv p5, rv b1, iv vF, iv vT, iv vc, iv 1, rv w_ASCII, iv 3] [(.int 3), (.int (idxv vF vT vc vb0 vb1 vb2 vb3))]) _ _ _
            have hh : (idxv vF vT vc vb0 vb1 vb2 vb3) = (3 : Int32) := by rw [own_link _ _ _ _ _ _ _ kF kT kc hb0 hb1 hb2 hb3]; simp +decide [expv, hc56, hc80, hc82, hc84]
            refine zicmpNo X85 hx hby at_199 (teq hh).2 (ziconst X85 hx hby at_202 (z := (1 : Int32)) rfl (zgoto X85 hx hby at_203 207 (by decide) (by decide) ?_))
            show zEnds p e below s T85 (mkF m 207 #[iv p1, iv p2, iv p3, iv p4, iv p5, rv b1, iv vF, iv vT, iv vc, iv 1, rv w_ASCII, iv 3] [(.int 1)]) _ _ _
            exact zretZ X85 hx hby at_207 hret hlk (by simp) rfl (by decide) (by decide) ⟨rfl, N5⟩
          · refine zifNo X83 hx hby at_178 ((if0 _ _).trans (feq hc84).1) (ziconst X83 hx hby at_181 (z := (0 : Int32)) rfl (zistore X83 hx hby at_182 (L' := #[iv p1, iv p2, iv p3, iv p4, iv p5, rv b1, iv vF, iv vT, iv vc, iv 1, rv w_ASCII, iv 0]) rfl (zaload X83 hx hby at_184 rfl rfl (zaload X83 hx hby at_186 rfl rfl (ziload X83 hx hby at_188 rfl (ziload X83 hx hby at_190 rfl (ziload X83 hx hby at_192 rfl (zcallv X83 hx hby at_194 hZ hown (w9 hw) (w10 hw) (notFace_of_selects (args := #[]) (mvT hZ (w16 hw))) (w16 hw) (w11 hw) (w13 hw) (w3 hw) e83 (E_w_ASCII.ext O5.2) (c9_indexOf l hw [] ⟨S_w_ONE_CHAR_A_BYTE, S_w_ASCII, S_w_UTF_8, E_w_ONE_CHAR_A_BYTE, E_w_ASCII, E_w_UTF_8⟩ O5 (Nat.le_trans Z0 K5.1) w_ASCII vF vT vc b1 vb0 vb1 vb2 vb3 g1 A5_b1 kT kF) (by decide) (by rw [hml]; rfl) 0 (Nat.le_of_eq rfl) (by decide) (by decide) (by decide) (by decide) pd_1 rfl (argsL := [(.ref b1), (.int vF), (.int vT), (.int vc)]) (st := []) rfl (zpureK ⟨rfl, rfl⟩ fun T86 X86 e86 => ?_)))))))))
            show zEnds p e below s T86 (mkF m 197 #[iv p1, iv p2, iv p3, iv p4, iv p5, rv b1, iv vF, iv vT, iv vc, iv 1, rv w_ASCII, iv 0] [(.int (idxv vF vT vc vb0 vb1 vb2 vb3))]) _ _ _
            refine ziload X86 hx hby at_197 rfl ?_
            show zEnds p e below s T86 (mkF m 199 #[iv p1, iv p2, iv p3, iv p4, iv p5, rv b1, iv vF, iv vT, iv vc, iv 1, rv w_ASCII, iv 0] [(.int 0), (.int (idxv vF vT vc vb0 vb1 vb2 vb3))]) _ _ _
            have hh : (idxv vF vT vc vb0 vb1 vb2 vb3) = (0 : Int32) := by rw [own_link _ _ _ _ _ _ _ kF kT kc hb0 hb1 hb2 hb3]; simp +decide [expv, hc56, hc80, hc82, hc84]
            refine zicmpNo X86 hx hby at_199 (teq hh).2 (ziconst X86 hx hby at_202 (z := (1 : Int32)) rfl (zgoto X86 hx hby at_203 207 (by decide) (by decide) ?_))
            show zEnds p e below s T86 (mkF m 207 #[iv p1, iv p2, iv p3, iv p4, iv p5, rv b1, iv vF, iv vT, iv vc, iv 1, rv w_ASCII, iv 0] [(.int 1)]) _ _ _
            exact zretZ X86 hx hby at_207 hret hlk (by simp) rfl (by decide) (by decide) ⟨rfl, N5⟩
        · refine zifNo X81 hx hby at_160 ((if0 _ _).trans (feq hc82).1) (ziconst X81 hx hby at_163 (z := (1 : Int32)) rfl (zistore X81 hx hby at_164 (L' := #[iv p1, iv p2, iv p3, iv p4, iv p5, rv b1, iv vF, iv vT, iv vc, iv 1, rv w_ASCII, iv 1]) rfl (zaload X81 hx hby at_166 rfl rfl (ziload X81 hx hby at_168 rfl (ziload X81 hx hby at_170 rfl (ziconst X81 hx hby at_172 (z := (0 : Int32)) rfl (ziload X81 hx hby at_173 rfl (zcalls X81 hx hby at_175 hZ hown (w5 hw) (w6 hw) (w7 hw) (w8 hw) e81 (c7_hit l hw [] ⟨S_w_ONE_CHAR_A_BYTE, S_w_ASCII, S_w_UTF_8, E_w_ONE_CHAR_A_BYTE, E_w_ASCII, E_w_UTF_8⟩ O5 (Nat.le_trans Z0 K5.1) vF vT vc b1 vb0 vb1 vb2 vb3 g1 A5_b1 kT) (by decide) (by rw [hml]; rfl) 0 (Nat.le_of_eq rfl) (by decide) (by decide) (by decide) (by decide) pd_0 rfl (argsL := [(.ref b1), (.int vF), (.int vT), (.int 0), (.int vc)]) (st := []) rfl (zpureK ⟨rfl, rfl⟩ fun T87 X87 e87 => ?_)))))))))
          show zEnds p e below s T87 (mkF m 178 #[iv p1, iv p2, iv p3, iv p4, iv p5, rv b1, iv vF, iv vT, iv vc, iv 1, rv w_ASCII, iv 1] [(.int (hitv vF vT (0 : Int32) vb0 vc))]) _ _ _
          by_cases hc88 : (hitv vF vT (0 : Int32) vb0 vc) = (0 : Int32)
          · refine zifYes X87 hx hby at_178 184 ((if0 _ _).trans (teq hc88).1) (by decide) (by decide) (zaload X87 hx hby at_184 rfl rfl (zaload X87 hx hby at_186 rfl rfl (ziload X87 hx hby at_188 rfl (ziload X87 hx hby at_190 rfl (ziload X87 hx hby at_192 rfl (zcallv X87 hx hby at_194 hZ hown (w9 hw) (w10 hw) (notFace_of_selects (args := #[]) (mvT hZ (w16 hw))) (w16 hw) (w11 hw) (w13 hw) (w3 hw) e87 (E_w_ASCII.ext O5.2) (c9_indexOf l hw [] ⟨S_w_ONE_CHAR_A_BYTE, S_w_ASCII, S_w_UTF_8, E_w_ONE_CHAR_A_BYTE, E_w_ASCII, E_w_UTF_8⟩ O5 (Nat.le_trans Z0 K5.1) w_ASCII vF vT vc b1 vb0 vb1 vb2 vb3 g1 A5_b1 kT kF) (by decide) (by rw [hml]; rfl) 0 (Nat.le_of_eq rfl) (by decide) (by decide) (by decide) (by decide) pd_1 rfl (argsL := [(.ref b1), (.int vF), (.int vT), (.int vc)]) (st := []) rfl (zpureK ⟨rfl, rfl⟩ fun T89 X89 e89 => ?_)))))))
            show zEnds p e below s T89 (mkF m 197 #[iv p1, iv p2, iv p3, iv p4, iv p5, rv b1, iv vF, iv vT, iv vc, iv 1, rv w_ASCII, iv 1] [(.int (idxv vF vT vc vb0 vb1 vb2 vb3))]) _ _ _
            refine ziload X89 hx hby at_197 rfl ?_
            show zEnds p e below s T89 (mkF m 199 #[iv p1, iv p2, iv p3, iv p4, iv p5, rv b1, iv vF, iv vT, iv vc, iv 1, rv w_ASCII, iv 1] [(.int 1), (.int (idxv vF vT vc vb0 vb1 vb2 vb3))]) _ _ _
            have hh : (idxv vF vT vc vb0 vb1 vb2 vb3) = (1 : Int32) := by rw [own_link _ _ _ _ _ _ _ kF kT kc hb0 hb1 hb2 hb3]; simp +decide [expv, hc56, hc80, hc82, hc88]
            refine zicmpNo X89 hx hby at_199 (teq hh).2 (ziconst X89 hx hby at_202 (z := (1 : Int32)) rfl (zgoto X89 hx hby at_203 207 (by decide) (by decide) ?_))
            show zEnds p e below s T89 (mkF m 207 #[iv p1, iv p2, iv p3, iv p4, iv p5, rv b1, iv vF, iv vT, iv vc, iv 1, rv w_ASCII, iv 1] [(.int 1)]) _ _ _
            exact zretZ X89 hx hby at_207 hret hlk (by simp) rfl (by decide) (by decide) ⟨rfl, N5⟩
          · refine zifNo X87 hx hby at_178 ((if0 _ _).trans (feq hc88).1) (ziconst X87 hx hby at_181 (z := (0 : Int32)) rfl (zistore X87 hx hby at_182 (L' := #[iv p1, iv p2, iv p3, iv p4, iv p5, rv b1, iv vF, iv vT, iv vc, iv 1, rv w_ASCII, iv 0]) rfl (zaload X87 hx hby at_184 rfl rfl (zaload X87 hx hby at_186 rfl rfl (ziload X87 hx hby at_188 rfl (ziload X87 hx hby at_190 rfl (ziload X87 hx hby at_192 rfl (zcallv X87 hx hby at_194 hZ hown (w9 hw) (w10 hw) (notFace_of_selects (args := #[]) (mvT hZ (w16 hw))) (w16 hw) (w11 hw) (w13 hw) (w3 hw) e87 (E_w_ASCII.ext O5.2) (c9_indexOf l hw [] ⟨S_w_ONE_CHAR_A_BYTE, S_w_ASCII, S_w_UTF_8, E_w_ONE_CHAR_A_BYTE, E_w_ASCII, E_w_UTF_8⟩ O5 (Nat.le_trans Z0 K5.1) w_ASCII vF vT vc b1 vb0 vb1 vb2 vb3 g1 A5_b1 kT kF) (by decide) (by rw [hml]; rfl) 0 (Nat.le_of_eq rfl) (by decide) (by decide) (by decide) (by decide) pd_1 rfl (argsL := [(.ref b1), (.int vF), (.int vT), (.int vc)]) (st := []) rfl (zpureK ⟨rfl, rfl⟩ fun T90 X90 e90 => ?_)))))))))
            show zEnds p e below s T90 (mkF m 197 #[iv p1, iv p2, iv p3, iv p4, iv p5, rv b1, iv vF, iv vT, iv vc, iv 1, rv w_ASCII, iv 0] [(.int (idxv vF vT vc vb0 vb1 vb2 vb3))]) _ _ _
            refine ziload X90 hx hby at_197 rfl ?_
            show zEnds p e below s T90 (mkF m 199 #[iv p1, iv p2, iv p3, iv p4, iv p5, rv b1, iv vF, iv vT, iv vc, iv 1, rv w_ASCII, iv 0] [(.int 0), (.int (idxv vF vT vc vb0 vb1 vb2 vb3))]) _ _ _
            have hh : (idxv vF vT vc vb0 vb1 vb2 vb3) = (0 : Int32) := by rw [own_link _ _ _ _ _ _ _ kF kT kc hb0 hb1 hb2 hb3]; simp +decide [expv, hc56, hc80, hc82, hc88]
            refine zicmpNo X90 hx hby at_199 (teq hh).2 (ziconst X90 hx hby at_202 (z := (1 : Int32)) rfl (zgoto X90 hx hby at_203 207 (by decide) (by decide) ?_))
            show zEnds p e below s T90 (mkF m 207 #[iv p1, iv p2, iv p3, iv p4, iv p5, rv b1, iv vF, iv vT, iv vc, iv 1, rv w_ASCII, iv 0] [(.int 1)]) _ _ _
            exact zretZ X90 hx hby at_207 hret hlk (by simp) rfl (by decide) (by decide) ⟨rfl, N5⟩
      · refine zifNo X79 hx hby at_142 ((if0 _ _).trans (feq hc80).1) (ziconst X79 hx hby at_145 (z := (2 : Int32)) rfl (zistore X79 hx hby at_146 (L' := #[iv p1, iv p2, iv p3, iv p4, iv p5, rv b1, iv vF, iv vT, iv vc, iv 1, rv w_ASCII, iv 2]) rfl (zaload X79 hx hby at_148 rfl rfl (ziload X79 hx hby at_150 rfl (ziload X79 hx hby at_152 rfl (ziconst X79 hx hby at_154 (z := (1 : Int32)) rfl (ziload X79 hx hby at_155 rfl (zcalls X79 hx hby at_157 hZ hown (w5 hw) (w6 hw) (w7 hw) (w8 hw) e79 (c5_hit l hw [] ⟨S_w_ONE_CHAR_A_BYTE, S_w_ASCII, S_w_UTF_8, E_w_ONE_CHAR_A_BYTE, E_w_ASCII, E_w_UTF_8⟩ O5 (Nat.le_trans Z0 K5.1) vF vT vc b1 vb0 vb1 vb2 vb3 g1 A5_b1 kT) (by decide) (by rw [hml]; rfl) 0 (Nat.le_of_eq rfl) (by decide) (by decide) (by decide) (by decide) pd_0 rfl (argsL := [(.ref b1), (.int vF), (.int vT), (.int 1), (.int vc)]) (st := []) rfl (zpureK ⟨rfl, rfl⟩ fun T91 X91 e91 => ?_)))))))))
        show zEnds p e below s T91 (mkF m 160 #[iv p1, iv p2, iv p3, iv p4, iv p5, rv b1, iv vF, iv vT, iv vc, iv 1, rv w_ASCII, iv 2] [(.int (hitv vF vT (1 : Int32) vb1 vc))]) _ _ _
        by_cases hc92 : (hitv vF vT (1 : Int32) vb1 vc) = (0 : Int32)
        · refine zifYes X91 hx hby at_160 166 ((if0 _ _).trans (teq hc92).1) (by decide) (by decide) (zaload X91 hx hby at_166 rfl rfl (ziload X91 hx hby at_168 rfl (ziload X91 hx hby at_170 rfl (ziconst X91 hx hby at_172 (z := (0 : Int32)) rfl (ziload X91 hx hby at_173 rfl (zcalls X91 hx hby at_175 hZ hown (w5 hw) (w6 hw) (w7 hw) (w8 hw) e91 (c7_hit l hw [] ⟨S_w_ONE_CHAR_A_BYTE, S_w_ASCII, S_w_UTF_8, E_w_ONE_CHAR_A_BYTE, E_w_ASCII, E_w_UTF_8⟩ O5 (Nat.le_trans Z0 K5.1) vF vT vc b1 vb0 vb1 vb2 vb3 g1 A5_b1 kT) (by decide) (by rw [hml]; rfl) 0 (Nat.le_of_eq rfl) (by decide) (by decide) (by decide) (by decide) pd_0 rfl (argsL := [(.ref b1), (.int vF), (.int vT), (.int 0), (.int vc)]) (st := []) rfl (zpureK ⟨rfl, rfl⟩ fun T93 X93 e93 => ?_)))))))
          show zEnds p e below s T93 (mkF m 178 #[iv p1, iv p2, iv p3, iv p4, iv p5, rv b1, iv vF, iv vT, iv vc, iv 1, rv w_ASCII, iv 2] [(.int (hitv vF vT (0 : Int32) vb0 vc))]) _ _ _
          by_cases hc94 : (hitv vF vT (0 : Int32) vb0 vc) = (0 : Int32)
          · refine zifYes X93 hx hby at_178 184 ((if0 _ _).trans (teq hc94).1) (by decide) (by decide) (zaload X93 hx hby at_184 rfl rfl (zaload X93 hx hby at_186 rfl rfl (ziload X93 hx hby at_188 rfl (ziload X93 hx hby at_190 rfl (ziload X93 hx hby at_192 rfl (zcallv X93 hx hby at_194 hZ hown (w9 hw) (w10 hw) (notFace_of_selects (args := #[]) (mvT hZ (w16 hw))) (w16 hw) (w11 hw) (w13 hw) (w3 hw) e93 (E_w_ASCII.ext O5.2) (c9_indexOf l hw [] ⟨S_w_ONE_CHAR_A_BYTE, S_w_ASCII, S_w_UTF_8, E_w_ONE_CHAR_A_BYTE, E_w_ASCII, E_w_UTF_8⟩ O5 (Nat.le_trans Z0 K5.1) w_ASCII vF vT vc b1 vb0 vb1 vb2 vb3 g1 A5_b1 kT kF) (by decide) (by rw [hml]; rfl) 0 (Nat.le_of_eq rfl) (by decide) (by decide) (by decide) (by decide) pd_1 rfl (argsL := [(.ref b1), (.int vF), (.int vT), (.int vc)]) (st := []) rfl (zpureK ⟨rfl, rfl⟩ fun T95 X95 e95 => ?_)))))))
            show zEnds p e below s T95 (mkF m 197 #[iv p1, iv p2, iv p3, iv p4, iv p5, rv b1, iv vF, iv vT, iv vc, iv 1, rv w_ASCII, iv 2] [(.int (idxv vF vT vc vb0 vb1 vb2 vb3))]) _ _ _
            refine ziload X95 hx hby at_197 rfl ?_
            show zEnds p e below s T95 (mkF m 199 #[iv p1, iv p2, iv p3, iv p4, iv p5, rv b1, iv vF, iv vT, iv vc, iv 1, rv w_ASCII, iv 2] [(.int 2), (.int (idxv vF vT vc vb0 vb1 vb2 vb3))]) _ _ _
            have hh : (idxv vF vT vc vb0 vb1 vb2 vb3) = (2 : Int32) := by rw [own_link _ _ _ _ _ _ _ kF kT kc hb0 hb1 hb2 hb3]; simp +decide [expv, hc56, hc80, hc92, hc94]
            refine zicmpNo X95 hx hby at_199 (teq hh).2 (ziconst X95 hx hby at_202 (z := (1 : Int32)) rfl (zgoto X95 hx hby at_203 207 (by decide) (by decide) ?_))
            show zEnds p e below s T95 (mkF m 207 #[iv p1, iv p2, iv p3, iv p4, iv p5, rv b1, iv vF, iv vT, iv vc, iv 1, rv w_ASCII, iv 2] [(.int 1)]) _ _ _
            exact zretZ X95 hx hby at_207 hret hlk (by simp) rfl (by decide) (by decide) ⟨rfl, N5⟩
          · refine zifNo X93 hx hby at_178 ((if0 _ _).trans (feq hc94).1) (ziconst X93 hx hby at_181 (z := (0 : Int32)) rfl (zistore X93 hx hby at_182 (L' := #[iv p1, iv p2, iv p3, iv p4, iv p5, rv b1, iv vF, iv vT, iv vc, iv 1, rv w_ASCII, iv 0]) rfl (zaload X93 hx hby at_184 rfl rfl (zaload X93 hx hby at_186 rfl rfl (ziload X93 hx hby at_188 rfl (ziload X93 hx hby at_190 rfl (ziload X93 hx hby at_192 rfl (zcallv X93 hx hby at_194 hZ hown (w9 hw) (w10 hw) (notFace_of_selects (args := #[]) (mvT hZ (w16 hw))) (w16 hw) (w11 hw) (w13 hw) (w3 hw) e93 (E_w_ASCII.ext O5.2) (c9_indexOf l hw [] ⟨S_w_ONE_CHAR_A_BYTE, S_w_ASCII, S_w_UTF_8, E_w_ONE_CHAR_A_BYTE, E_w_ASCII, E_w_UTF_8⟩ O5 (Nat.le_trans Z0 K5.1) w_ASCII vF vT vc b1 vb0 vb1 vb2 vb3 g1 A5_b1 kT kF) (by decide) (by rw [hml]; rfl) 0 (Nat.le_of_eq rfl) (by decide) (by decide) (by decide) (by decide) pd_1 rfl (argsL := [(.ref b1), (.int vF), (.int vT), (.int vc)]) (st := []) rfl (zpureK ⟨rfl, rfl⟩ fun T96 X96 e96 => ?_)))))))))
            show zEnds p e below s T96 (mkF m 197 #[iv p1, iv p2, iv p3, iv p4, iv p5, rv b1, iv vF, iv vT, iv vc, iv 1, rv w_ASCII, iv 0] [(.int (idxv vF vT vc vb0 vb1 vb2 vb3))]) _ _ _
            refine ziload X96 hx hby at_197 rfl ?_
            show zEnds p e below s T96 (mkF m 199 #[iv p1, iv p2, iv p3, iv p4, iv p5, rv b1, iv vF, iv vT, iv vc, iv 1, rv w_ASCII, iv 0] [(.int 0), (.int (idxv vF vT vc vb0 vb1 vb2 vb3))]) _ _ _
            have hh : (idxv vF vT vc vb0 vb1 vb2 vb3) = (0 : Int32) := by rw [own_link _ _ _ _ _ _ _ kF kT kc hb0 hb1 hb2 hb3]; simp +decide [expv, hc56, hc80, hc92, hc94]
            refine zicmpNo X96 hx hby at_199 (teq hh).2 (ziconst X96 hx hby at_202 (z := (1 : Int32)) rfl (zgoto X96 hx hby at_203 207 (by decide) (by decide) ?_))
            show zEnds p e below s T96 (mkF m 207 #[iv p1, iv p2, iv p3, iv p4, iv p5, rv b1, iv vF, iv vT, iv vc, iv 1, rv w_ASCII, iv 0] [(.int 1)]) _ _ _
            exact zretZ X96 hx hby at_207 hret hlk (by simp) rfl (by decide) (by decide) ⟨rfl, N5⟩
        · refine zifNo X91 hx hby at_160 ((if0 _ _).trans (feq hc92).1) (ziconst X91 hx hby at_163 (z := (1 : Int32)) rfl (zistore X91 hx hby at_164 (L' := #[iv p1, iv p2, iv p3, iv p4, iv p5, rv b1, iv vF, iv vT, iv vc, iv 1, rv w_ASCII, iv 1]) rfl (zaload X91 hx hby at_166 rfl rfl (ziload X91 hx hby at_168 rfl (ziload X91 hx hby at_170 rfl (ziconst X91 hx hby at_172 (z := (0 : Int32)) rfl (ziload X91 hx hby at_173 rfl (zcalls X91 hx hby at_175 hZ hown (w5 hw) (w6 hw) (w7 hw) (w8 hw) e91 (c7_hit l hw [] ⟨S_w_ONE_CHAR_A_BYTE, S_w_ASCII, S_w_UTF_8, E_w_ONE_CHAR_A_BYTE, E_w_ASCII, E_w_UTF_8⟩ O5 (Nat.le_trans Z0 K5.1) vF vT vc b1 vb0 vb1 vb2 vb3 g1 A5_b1 kT) (by decide) (by rw [hml]; rfl) 0 (Nat.le_of_eq rfl) (by decide) (by decide) (by decide) (by decide) pd_0 rfl (argsL := [(.ref b1), (.int vF), (.int vT), (.int 0), (.int vc)]) (st := []) rfl (zpureK ⟨rfl, rfl⟩ fun T97 X97 e97 => ?_)))))))))
          show zEnds p e below s T97 (mkF m 178 #[iv p1, iv p2, iv p3, iv p4, iv p5, rv b1, iv vF, iv vT, iv vc, iv 1, rv w_ASCII, iv 1] [(.int (hitv vF vT (0 : Int32) vb0 vc))]) _ _ _
          by_cases hc98 : (hitv vF vT (0 : Int32) vb0 vc) = (0 : Int32)
          · refine zifYes X97 hx hby at_178 184 ((if0 _ _).trans (teq hc98).1) (by decide) (by decide) (zaload X97 hx hby at_184 rfl rfl (zaload X97 hx hby at_186 rfl rfl (ziload X97 hx hby at_188 rfl (ziload X97 hx hby at_190 rfl (ziload X97 hx hby at_192 rfl (zcallv X97 hx hby at_194 hZ hown (w9 hw) (w10 hw) (notFace_of_selects (args := #[]) (mvT hZ (w16 hw))) (w16 hw) (w11 hw) (w13 hw) (w3 hw) e97 (E_w_ASCII.ext O5.2) (c9_indexOf l hw [] ⟨S_w_ONE_CHAR_A_BYTE, S_w_ASCII, S_w_UTF_8, E_w_ONE_CHAR_A_BYTE, E_w_ASCII, E_w_UTF_8⟩ O5 (Nat.le_trans Z0 K5.1) w_ASCII vF vT vc b1 vb0 vb1 vb2 vb3 g1 A5_b1 kT kF) (by decide) (by rw [hml]; rfl) 0 (Nat.le_of_eq rfl) (by decide) (by decide) (by decide) (by decide) pd_1 rfl (argsL := [(.ref b1), (.int vF), (.int vT), (.int vc)]) (st := []) rfl (zpureK ⟨rfl, rfl⟩ fun T99 X99 e99 => ?_)))))))
            show zEnds p e below s T99 (mkF m 197 #[iv p1, iv p2, iv p3, iv p4, iv p5, rv b1, iv vF, iv vT, iv vc, iv 1, rv w_ASCII, iv 1] [(.int (idxv vF vT vc vb0 vb1 vb2 vb3))]) _ _ _
            refine ziload X99 hx hby at_197 rfl ?_
            show zEnds p e below s T99 (mkF m 199 #[iv p1, iv p2, iv p3, iv p4, iv p5, rv b1, iv vF, iv vT, iv vc, iv 1, rv w_ASCII, iv 1] [(.int 1), (.int (idxv vF vT vc vb0 vb1 vb2 vb3))]) _ _ _
            have hh : (idxv vF vT vc vb0 vb1 vb2 vb3) = (1 : Int32) := by rw [own_link _ _ _ _ _ _ _ kF kT kc hb0 hb1 hb2 hb3]; simp +decide [expv, hc56, hc80, hc92, hc98]
            refine zicmpNo X99 hx hby at_199 (teq hh).2 (ziconst X99 hx hby at_202 (z := (1 : Int32)) rfl (zgoto X99 hx hby at_203 207 (by decide) (by decide) ?_))
            show zEnds p e below s T99 (mkF m 207 #[iv p1, iv p2, iv p3, iv p4, iv p5, rv b1, iv vF, iv vT, iv vc, iv 1, rv w_ASCII, iv 1] [(.int 1)]) _ _ _
            exact zretZ X99 hx hby at_207 hret hlk (by simp) rfl (by decide) (by decide) ⟨rfl, N5⟩
          · refine zifNo X97 hx hby at_178 ((if0 _ _).trans (feq hc98).1) (ziconst X97 hx hby at_181 (z := (0 : Int32)) rfl (zistore X97 hx hby at_182 (L' := #[iv p1, iv p2, iv p3, iv p4, iv p5, rv b1, iv vF, iv vT, iv vc, iv 1, rv w_ASCII, iv 0]) rfl (zaload X97 hx hby at_184 rfl rfl (zaload X97 hx hby at_186 rfl rfl (ziload X97 hx hby at_188 rfl (ziload X97 hx hby at_190 rfl (ziload X97 hx hby at_192 rfl (zcallv X97 hx hby at_194 hZ hown (w9 hw) (w10 hw) (notFace_of_selects (args := #[]) (mvT hZ (w16 hw))) (w16 hw) (w11 hw) (w13 hw) (w3 hw) e97 (E_w_ASCII.ext O5.2) (c9_indexOf l hw [] ⟨S_w_ONE_CHAR_A_BYTE, S_w_ASCII, S_w_UTF_8, E_w_ONE_CHAR_A_BYTE, E_w_ASCII, E_w_UTF_8⟩ O5 (Nat.le_trans Z0 K5.1) w_ASCII vF vT vc b1 vb0 vb1 vb2 vb3 g1 A5_b1 kT kF) (by decide) (by rw [hml]; rfl) 0 (Nat.le_of_eq rfl) (by decide) (by decide) (by decide) (by decide) pd_1 rfl (argsL := [(.ref b1), (.int vF), (.int vT), (.int vc)]) (st := []) rfl (zpureK ⟨rfl, rfl⟩ fun T100 X100 e100 => ?_)))))))))
            show zEnds p e below s T100 (mkF m 197 #[iv p1, iv p2, iv p3, iv p4, iv p5, rv b1, iv vF, iv vT, iv vc, iv 1, rv w_ASCII, iv 0] [(.int (idxv vF vT vc vb0 vb1 vb2 vb3))]) _ _ _
            refine ziload X100 hx hby at_197 rfl ?_
            show zEnds p e below s T100 (mkF m 199 #[iv p1, iv p2, iv p3, iv p4, iv p5, rv b1, iv vF, iv vT, iv vc, iv 1, rv w_ASCII, iv 0] [(.int 0), (.int (idxv vF vT vc vb0 vb1 vb2 vb3))]) _ _ _
            have hh : (idxv vF vT vc vb0 vb1 vb2 vb3) = (0 : Int32) := by rw [own_link _ _ _ _ _ _ _ kF kT kc hb0 hb1 hb2 hb3]; simp +decide [expv, hc56, hc80, hc92, hc98]
            refine zicmpNo X100 hx hby at_199 (teq hh).2 (ziconst X100 hx hby at_202 (z := (1 : Int32)) rfl (zgoto X100 hx hby at_203 207 (by decide) (by decide) ?_))
            show zEnds p e below s T100 (mkF m 207 #[iv p1, iv p2, iv p3, iv p4, iv p5, rv b1, iv vF, iv vT, iv vc, iv 1, rv w_ASCII, iv 0] [(.int 1)]) _ _ _
            exact zretZ X100 hx hby at_207 hret hlk (by simp) rfl (by decide) (by decide) ⟨rfl, N5⟩
  · rw [q6]
    refine zistore X5 hx hby at_74 (L' := #[iv p1, iv p2, iv p3, iv p4, iv p5, rv b1, iv vF, iv vT, iv vc, iv 2, .unset, .unset]) rfl (ziload X5 hx hby at_76 rfl (zifYes X5 hx hby at_78 89 (by decide) (by decide) (by decide) (ziload X5 hx hby at_89 rfl (ziconst X5 hx hby at_91 (z := (1 : Int32)) rfl (zicmpYes X5 hx hby at_92 103 (by decide) (by decide) (by decide) (zgetstat X5 hx hby at_103 hZ hown (host := "") (Or.inl (w17 hw)) Via.refl e5 (S_w_UTF_8.ext O5.2) fun T101 X101 e101 => (zastore X101 hx hby at_106 (hv := rfl) (L' := #[iv p1, iv p2, iv p3, iv p4, iv p5, rv b1, iv vF, iv vT, iv vc, iv 2, rv w_UTF_8, .unset]) rfl (ziload X101 hx hby at_108 rfl (zistore X101 hx hby at_110 (L' := #[iv p1, iv p2, iv p3, iv p4, iv p5, rv b1, iv vF, iv vT, iv vc, iv 2, rv w_UTF_8, iv vT]) rfl ?_)))))))))
    show zEnds p e below s T101 (mkF m 112 #[iv p1, iv p2, iv p3, iv p4, iv p5, rv b1, iv vF, iv vT, iv vc, iv 2, rv w_UTF_8, iv vT] []) _ _ _
    refine zaload X101 hx hby at_112 rfl rfl (ziload X101 hx hby at_114 rfl (ziload X101 hx hby at_116 rfl (ziconst X101 hx hby at_118 (z := (3 : Int32)) rfl (ziload X101 hx hby at_119 rfl (zcalls X101 hx hby at_121 hZ hown (w5 hw) (w6 hw) (w7 hw) (w8 hw) e101 (c1_hit l hw [] ⟨S_w_ONE_CHAR_A_BYTE, S_w_ASCII, S_w_UTF_8, E_w_ONE_CHAR_A_BYTE, E_w_ASCII, E_w_UTF_8⟩ O5 (Nat.le_trans Z0 K5.1) vF vT vc b1 vb0 vb1 vb2 vb3 g1 A5_b1 kT) (by decide) (by rw [hml]; rfl) 0 (Nat.le_of_eq rfl) (by decide) (by decide) (by decide) (by decide) pd_0 rfl (argsL := [(.ref b1), (.int vF), (.int vT), (.int 3), (.int vc)]) (st := []) rfl (zpureK ⟨rfl, rfl⟩ fun T102 X102 e102 => ?_))))))
    show zEnds p e below s T102 (mkF m 124 #[iv p1, iv p2, iv p3, iv p4, iv p5, rv b1, iv vF, iv vT, iv vc, iv 2, rv w_UTF_8, iv vT] [(.int (hitv vF vT (3 : Int32) vb3 vc))]) _ _ _
    by_cases hc103 : (hitv vF vT (3 : Int32) vb3 vc) = (0 : Int32)
    · refine zifYes X102 hx hby at_124 130 ((if0 _ _).trans (teq hc103).1) (by decide) (by decide) (zaload X102 hx hby at_130 rfl rfl (ziload X102 hx hby at_132 rfl (ziload X102 hx hby at_134 rfl (ziconst X102 hx hby at_136 (z := (2 : Int32)) rfl (ziload X102 hx hby at_137 rfl (zcalls X102 hx hby at_139 hZ hown (w5 hw) (w6 hw) (w7 hw) (w8 hw) e102 (c3_hit l hw [] ⟨S_w_ONE_CHAR_A_BYTE, S_w_ASCII, S_w_UTF_8, E_w_ONE_CHAR_A_BYTE, E_w_ASCII, E_w_UTF_8⟩ O5 (Nat.le_trans Z0 K5.1) vF vT vc b1 vb0 vb1 vb2 vb3 g1 A5_b1 kT) (by decide) (by rw [hml]; rfl) 0 (Nat.le_of_eq rfl) (by decide) (by decide) (by decide) (by decide) pd_0 rfl (argsL := [(.ref b1), (.int vF), (.int vT), (.int 2), (.int vc)]) (st := []) rfl (zpureK ⟨rfl, rfl⟩ fun T104 X104 e104 => ?_)))))))
      show zEnds p e below s T104 (mkF m 142 #[iv p1, iv p2, iv p3, iv p4, iv p5, rv b1, iv vF, iv vT, iv vc, iv 2, rv w_UTF_8, iv vT] [(.int (hitv vF vT (2 : Int32) vb2 vc))]) _ _ _
      by_cases hc105 : (hitv vF vT (2 : Int32) vb2 vc) = (0 : Int32)
      · refine zifYes X104 hx hby at_142 148 ((if0 _ _).trans (teq hc105).1) (by decide) (by decide) (zaload X104 hx hby at_148 rfl rfl (ziload X104 hx hby at_150 rfl (ziload X104 hx hby at_152 rfl (ziconst X104 hx hby at_154 (z := (1 : Int32)) rfl (ziload X104 hx hby at_155 rfl (zcalls X104 hx hby at_157 hZ hown (w5 hw) (w6 hw) (w7 hw) (w8 hw) e104 (c5_hit l hw [] ⟨S_w_ONE_CHAR_A_BYTE, S_w_ASCII, S_w_UTF_8, E_w_ONE_CHAR_A_BYTE, E_w_ASCII, E_w_UTF_8⟩ O5 (Nat.le_trans Z0 K5.1) vF vT vc b1 vb0 vb1 vb2 vb3 g1 A5_b1 kT) (by decide) (by rw [hml]; rfl) 0 (Nat.le_of_eq rfl) (by decide) (by decide) (by decide) (by decide) pd_0 rfl (argsL := [(.ref b1), (.int vF), (.int vT), (.int 1), (.int vc)]) (st := []) rfl (zpureK ⟨rfl, rfl⟩ fun T106 X106 e106 => ?_)))))))
        show zEnds p e below s T106 (mkF m 160 #[iv p1, iv p2, iv p3, iv p4, iv p5, rv b1, iv vF, iv vT, iv vc, iv 2, rv w_UTF_8, iv vT] [(.int (hitv vF vT (1 : Int32) vb1 vc))]) _ _ _
        by_cases hc107 : (hitv vF vT (1 : Int32) vb1 vc) = (0 : Int32)
        · refine zifYes X106 hx hby at_160 166 ((if0 _ _).trans (teq hc107).1) (by decide) (by decide) (zaload X106 hx hby at_166 rfl rfl (ziload X106 hx hby at_168 rfl (ziload X106 hx hby at_170 rfl (ziconst X106 hx hby at_172 (z := (0 : Int32)) rfl (ziload X106 hx hby at_173 rfl (zcalls X106 hx hby at_175 hZ hown (w5 hw) (w6 hw) (w7 hw) (w8 hw) e106 (c7_hit l hw [] ⟨S_w_ONE_CHAR_A_BYTE, S_w_ASCII, S_w_UTF_8, E_w_ONE_CHAR_A_BYTE, E_w_ASCII, E_w_UTF_8⟩ O5 (Nat.le_trans Z0 K5.1) vF vT vc b1 vb0 vb1 vb2 vb3 g1 A5_b1 kT) (by decide) (by rw [hml]; rfl) 0 (Nat.le_of_eq rfl) (by decide) (by decide) (by decide) (by decide) pd_0 rfl (argsL := [(.ref b1), (.int vF), (.int vT), (.int 0), (.int vc)]) (st := []) rfl (zpureK ⟨rfl, rfl⟩ fun T108 X108 e108 => ?_)))))))
          show zEnds p e below s T108 (mkF m 178 #[iv p1, iv p2, iv p3, iv p4, iv p5, rv b1, iv vF, iv vT, iv vc, iv 2, rv w_UTF_8, iv vT] [(.int (hitv vF vT (0 : Int32) vb0 vc))]) _ _ _
          by_cases hc109 : (hitv vF vT (0 : Int32) vb0 vc) = (0 : Int32)
          · refine zifYes X108 hx hby at_178 184 ((if0 _ _).trans (teq hc109).1) (by decide) (by decide) (zaload X108 hx hby at_184 rfl rfl (zaload X108 hx hby at_186 rfl rfl (ziload X108 hx hby at_188 rfl (ziload X108 hx hby at_190 rfl (ziload X108 hx hby at_192 rfl (zcallv X108 hx hby at_194 hZ hown (w9 hw) (w10 hw) (notFace_of_selects (args := #[]) (mvT hZ (w19 hw))) (w19 hw) (w11 hw) (w13 hw) (w3 hw) e108 (E_w_UTF_8.ext O5.2) (c9_indexOf l hw [] ⟨S_w_ONE_CHAR_A_BYTE, S_w_ASCII, S_w_UTF_8, E_w_ONE_CHAR_A_BYTE, E_w_ASCII, E_w_UTF_8⟩ O5 (Nat.le_trans Z0 K5.1) w_UTF_8 vF vT vc b1 vb0 vb1 vb2 vb3 g1 A5_b1 kT kF) (by decide) (by rw [hml]; rfl) 0 (Nat.le_of_eq rfl) (by decide) (by decide) (by decide) (by decide) pd_1 rfl (argsL := [(.ref b1), (.int vF), (.int vT), (.int vc)]) (st := []) rfl (zpureK ⟨rfl, rfl⟩ fun T110 X110 e110 => ?_)))))))
            show zEnds p e below s T110 (mkF m 197 #[iv p1, iv p2, iv p3, iv p4, iv p5, rv b1, iv vF, iv vT, iv vc, iv 2, rv w_UTF_8, iv vT] [(.int (idxv vF vT vc vb0 vb1 vb2 vb3))]) _ _ _
            refine ziload X110 hx hby at_197 rfl ?_
            show zEnds p e below s T110 (mkF m 199 #[iv p1, iv p2, iv p3, iv p4, iv p5, rv b1, iv vF, iv vT, iv vc, iv 2, rv w_UTF_8, iv vT] [(.int vT), (.int (idxv vF vT vc vb0 vb1 vb2 vb3))]) _ _ _
            have hh : (idxv vF vT vc vb0 vb1 vb2 vb3) = vT := by rw [own_link _ _ _ _ _ _ _ kF kT kc hb0 hb1 hb2 hb3]; simp +decide [expv, hc103, hc105, hc107, hc109]
            refine zicmpNo X110 hx hby at_199 (teq hh).2 (ziconst X110 hx hby at_202 (z := (1 : Int32)) rfl (zgoto X110 hx hby at_203 207 (by decide) (by decide) ?_))
            show zEnds p e below s T110 (mkF m 207 #[iv p1, iv p2, iv p3, iv p4, iv p5, rv b1, iv vF, iv vT, iv vc, iv 2, rv w_UTF_8, iv vT] [(.int 1)]) _ _ _
            exact zretZ X110 hx hby at_207 hret hlk (by simp) rfl (by decide) (by decide) ⟨rfl, N5⟩
          · refine zifNo X108 hx hby at_178 ((if0 _ _).trans (feq hc109).1) (ziconst X108 hx hby at_181 (z := (0 : Int32)) rfl (zistore X108 hx hby at_182 (L' := #[iv p1, iv p2, iv p3, iv p4, iv p5, rv b1, iv vF, iv vT, iv vc, iv 2, rv w_UTF_8, iv 0]) rfl (zaload X108 hx hby at_184 rfl rfl (zaload X108 hx hby at_186 rfl rfl (ziload X108 hx hby at_188 rfl (ziload X108 hx hby at_190 rfl (ziload X108 hx hby at_192 rfl (zcallv X108 hx hby at_194 hZ hown (w9 hw) (w10 hw) (notFace_of_selects (args := #[]) (mvT hZ (w19 hw))) (w19 hw) (w11 hw) (w13 hw) (w3 hw) e108 (E_w_UTF_8.ext O5.2) (c9_indexOf l hw [] ⟨S_w_ONE_CHAR_A_BYTE, S_w_ASCII, S_w_UTF_8, E_w_ONE_CHAR_A_BYTE, E_w_ASCII, E_w_UTF_8⟩ O5 (Nat.le_trans Z0 K5.1) w_UTF_8 vF vT vc b1 vb0 vb1 vb2 vb3 g1 A5_b1 kT kF) (by decide) (by rw [hml]; rfl) 0 (Nat.le_of_eq rfl) (by decide) (by decide) (by decide) (by decide) pd_1 rfl (argsL := [(.ref b1), (.int vF), (.int vT), (.int vc)]) (st := []) rfl (zpureK ⟨rfl, rfl⟩ fun T111 X111 e111 => ?_)))))))))
            show zEnds p e below s T111 (mkF m 197 #[iv p1, iv p2, iv p3, iv p4, iv p5, rv b1, iv vF, iv vT, iv vc, iv 2, rv w_UTF_8, iv 0] [(.int (idxv vF vT vc vb0 vb1 vb2 vb3))]) _ _ _
            refine ziload X111 hx hby at_197 rfl ?_
            show zEnds p e below s T111 (mkF m 199 #[iv p1, iv p2, iv p3, iv p4, iv p5, rv b1, iv vF, iv vT, iv vc, iv 2, rv w_UTF_8, iv 0] [(.int 0), (.int (idxv vF vT vc vb0 vb1 vb2 vb3))]) _ _ _
            have hh : (idxv vF vT vc vb0 vb1 vb2 vb3) = (0 : Int32) := by rw [own_link _ _ _ _ _ _ _ kF kT kc hb0 hb1 hb2 hb3]; simp +decide [expv, hc103, hc105, hc107, hc109]
            refine zicmpNo X111 hx hby at_199 (teq hh).2 (ziconst X111 hx hby at_202 (z := (1 : Int32)) rfl (zgoto X111 hx hby at_203 207 (by decide) (by decide) ?_))
            show zEnds p e below s T111 (mkF m 207 #[iv p1, iv p2, iv p3, iv p4, iv p5, rv b1, iv vF, iv vT, iv vc, iv 2, rv w_UTF_8, iv 0] [(.int 1)]) _ _ _
            exact zretZ X111 hx hby at_207 hret hlk (by simp) rfl (by decide) (by decide) ⟨rfl, N5⟩
        · refine zifNo X106 hx hby at_160 ((if0 _ _).trans (feq hc107).1) (ziconst X106 hx hby at_163 (z := (1 : Int32)) rfl (zistore X106 hx hby at_164 (L' := #[iv p1, iv p2, iv p3, iv p4, iv p5, rv b1, iv vF, iv vT, iv vc, iv 2, rv w_UTF_8, iv 1]) rfl (zaload X106 hx hby at_166 rfl rfl (ziload X106 hx hby at_168 rfl (ziload X106 hx hby at_170 rfl (ziconst X106 hx hby at_172 (z := (0 : Int32)) rfl (ziload X106 hx hby at_173 rfl (zcalls X106 hx hby at_175 hZ hown (w5 hw) (w6 hw) (w7 hw) (w8 hw) e106 (c7_hit l hw [] ⟨S_w_ONE_CHAR_A_BYTE, S_w_ASCII, S_w_UTF_8, E_w_ONE_CHAR_A_BYTE, E_w_ASCII, E_w_UTF_8⟩ O5 (Nat.le_trans Z0 K5.1) vF vT vc b1 vb0 vb1 vb2 vb3 g1 A5_b1 kT) (by decide) (by rw [hml]; rfl) 0 (Nat.le_of_eq rfl) (by decide) (by decide) (by decide) (by decide) pd_0 rfl (argsL := [(.ref b1), (.int vF), (.int vT), (.int 0), (.int vc)]) (st := []) rfl (zpureK ⟨rfl, rfl⟩ fun T112 X112 e112 => ?_)))))))))
          show zEnds p e below s T112 (mkF m 178 #[iv p1, iv p2, iv p3, iv p4, iv p5, rv b1, iv vF, iv vT, iv vc, iv 2, rv w_UTF_8, iv 1] [(.int (hitv vF vT (0 : Int32) vb0 vc))]) _ _ _
          by_cases hc113 : (hitv vF vT (0 : Int32) vb0 vc) = (0 : Int32)
          · refine zifYes X112 hx hby at_178 184 ((if0 _ _).trans (teq hc113).1) (by decide) (by decide) (zaload X112 hx hby at_184 rfl rfl (zaload X112 hx hby at_186 rfl rfl (ziload X112 hx hby at_188 rfl (ziload X112 hx hby at_190 rfl (ziload X112 hx hby at_192 rfl (zcallv X112 hx hby at_194 hZ hown (w9 hw) (w10 hw) (notFace_of_selects (args := #[]) (mvT hZ (w19 hw))) (w19 hw) (w11 hw) (w13 hw) (w3 hw) e112 (E_w_UTF_8.ext O5.2) (c9_indexOf l hw [] ⟨S_w_ONE_CHAR_A_BYTE, S_w_ASCII, S_w_UTF_8, E_w_ONE_CHAR_A_BYTE, E_w_ASCII, E_w_UTF_8⟩ O5 (Nat.le_trans Z0 K5.1) w_UTF_8 vF vT vc b1 vb0 vb1 vb2 vb3 g1 A5_b1 kT kF) (by decide) (by rw [hml]; rfl) 0 (Nat.le_of_eq rfl) (by decide) (by decide) (by decide) (by decide) pd_1 rfl (argsL := [(.ref b1), (.int vF), (.int vT), (.int vc)]) (st := []) rfl (zpureK ⟨rfl, rfl⟩ fun T114 X114 e114 => ?_)))))))
            show zEnds p e below s T114 (mkF m 197 #[iv p1, iv p2, iv p3, iv p4, iv p5, rv b1, iv vF, iv vT, iv vc, iv 2, rv w_UTF_8, iv 1] [(.int (idxv vF vT vc vb0 vb1 vb2 vb3))]) _ _ _
            refine ziload X114 hx hby at_197 rfl ?_
            show zEnds p e below s T114 (mkF m 199 #[iv p1, iv p2, iv p3, iv p4, iv p5, rv b1, iv vF, iv vT, iv vc, iv 2, rv w_UTF_8, iv 1] [(.int 1), (.int (idxv vF vT vc vb0 vb1 vb2 vb3))]) _ _ _
            have hh : (idxv vF vT vc vb0 vb1 vb2 vb3) = (1 : Int32) := by rw [own_link _ _ _ _ _ _ _ kF kT kc hb0 hb1 hb2 hb3]; simp +decide [expv, hc103, hc105, hc107, hc113]
            refine zicmpNo X114 hx hby at_199 (teq hh).2 (ziconst X114 hx hby at_202 (z := (1 : Int32)) rfl (zgoto X114 hx hby at_203 207 (by decide) (by decide) ?_))
            show zEnds p e below s T114 (mkF m 207 #[iv p1, iv p2, iv p3, iv p4, iv p5, rv b1, iv vF, iv vT, iv vc, iv 2, rv w_UTF_8, iv 1] [(.int 1)]) _ _ _
            exact zretZ X114 hx hby at_207 hret hlk (by simp) rfl (by decide) (by decide) ⟨rfl, N5⟩
          · refine zifNo X112 hx hby at_178 ((if0 _ _).trans (feq hc113).1) (ziconst X112 hx hby at_181 (z := (0 : Int32)) rfl (zistore X112 hx hby at_182 (L' := #[iv p1, iv p2, iv p3, iv p4, iv p5, rv b1, iv vF, iv vT, iv vc, iv 2, rv w_UTF_8, iv 0]) rfl (zaload X112 hx hby at_184 rfl rfl (zaload X112 hx hby at_186 rfl rfl (ziload X112 hx hby at_188 rfl (ziload X112 hx hby at_190 rfl (ziload X112 hx hby at_192 rfl (zcallv X112 hx hby at_194 hZ hown (w9 hw) (w10 hw) (notFace_of_selects (args := #[]) (mvT hZ (w19 hw))) (w19 hw) (w11 hw) (w13 hw) (w3 hw) e112 (E_w_UTF_8.ext O5.2) (c9_indexOf l hw [] ⟨S_w_ONE_CHAR_A_BYTE, S_w_ASCII, S_w_UTF_8, E_w_ONE_CHAR_A_BYTE, E_w_ASCII, E_w_UTF_8⟩ O5 (Nat.le_trans Z0 K5.1) w_UTF_8 vF vT vc b1 vb0 vb1 vb2 vb3 g1 A5_b1 kT kF) (by decide) (by rw [hml]; rfl) 0 (Nat.le_of_eq rfl) (by decide) (by decide) (by decide) (by decide) pd_1 rfl (argsL := [(.ref b1), (.int vF), (.int vT), (.int vc)]) (st := []) rfl (zpureK ⟨rfl, rfl⟩ fun T115 X115 e115 => ?_)))))))))
            show zEnds p e below s T115 (mkF m 197 #[iv p1, iv p2, iv p3, iv p4, iv p5, rv b1, iv vF, iv vT, iv vc, iv 2, rv w_UTF_8, iv 0] [(.int (idxv vF vT vc vb0 vb1 vb2 vb3))]) _ _ _
            refine ziload X115 hx hby at_197 rfl ?_
            show zEnds p e below s T115 (mkF m 199 #[iv p1, iv p2, iv p3, iv p4, iv p5, rv b1, iv vF, iv vT, iv vc, iv 2, rv w_UTF_8, iv 0] [(.int 0), (.int (idxv vF vT vc vb0 vb1 vb2 vb3))]) _ _ _
            have hh : (idxv vF vT vc vb0 vb1 vb2 vb3) = (0 : Int32) := by rw [own_link _ _ _ _ _ _ _ kF kT kc hb0 hb1 hb2 hb3]; simp +decide [expv, hc103, hc105, hc107, hc113]
            refine zicmpNo X115 hx hby at_199 (teq hh).2 (ziconst X115 hx hby at_202 (z := (1 : Int32)) rfl (zgoto X115 hx hby at_203 207 (by decide) (by decide) ?_))
            show zEnds p e below s T115 (mkF m 207 #[iv p1, iv p2, iv p3, iv p4, iv p5, rv b1, iv vF, iv vT, iv vc, iv 2, rv w_UTF_8, iv 0] [(.int 1)]) _ _ _
            exact zretZ X115 hx hby at_207 hret hlk (by simp) rfl (by decide) (by decide) ⟨rfl, N5⟩
      · refine zifNo X104 hx hby at_142 ((if0 _ _).trans (feq hc105).1) (ziconst X104 hx hby at_145 (z := (2 : Int32)) rfl (zistore X104 hx hby at_146 (L' := #[iv p1, iv p2, iv p3, iv p4, iv p5, rv b1, iv vF, iv vT, iv vc, iv 2, rv w_UTF_8, iv 2]) rfl (zaload X104 hx hby at_148 rfl rfl (ziload X104 hx hby at_150 rfl (ziload X104 hx hby at_152 rfl (ziconst X104 hx hby at_154 (z := (1 : Int32)) rfl (ziload X104 hx hby at_155 rfl (zcalls X104 hx hby at_157 hZ hown (w5 hw) (w6 hw) (w7 hw) (w8 hw) e104 (c5_hit l hw [] ⟨S_w_ONE_CHAR_A_BYTE, S_w_ASCII, S_w_UTF_8, E_w_ONE_CHAR_A_BYTE, E_w_ASCII, E_w_UTF_8⟩ O5 (Nat.le_trans Z0 K5.1) vF vT vc b1 vb0 vb1 vb2 vb3 g1 A5_b1 kT) (by decide) (by rw [hml]; rfl) 0 (Nat.le_of_eq rfl) (by decide) (by decide) (by decide) (by decide) pd_0 rfl (argsL := [(.ref b1), (.int vF), (.int vT), (.int 1), (.int vc)]) (st := []) rfl (zpureK ⟨rfl, rfl⟩ fun T116 X116 e116 => ?_)))))))))
        show zEnds p e below s T116 (mkF m 160 #[iv p1, iv p2, iv p3, iv p4, iv p5, rv b1, iv vF, iv vT, iv vc, iv 2, rv w_UTF_8, iv 2] [(.int (hitv vF vT (1 : Int32) vb1 vc))]) _ _ _
        by_cases hc117 : (hitv vF vT (1 : Int32) vb1 vc) = (0 : Int32)
        · refine zifYes X116 hx hby at_160 166 ((if0 _ _).trans (teq hc117).1) (by decide) (by decide) (zaload X116 hx hby at_166 rfl rfl (ziload X116 hx hby at_168 rfl (ziload X116 hx hby at_170 rfl (ziconst X116 hx hby at_172 (z := (0 : Int32)) rfl (ziload X116 hx hby at_173 rfl (zcalls X116 hx hby at_175 hZ hown (w5 hw) (w6 hw) (w7 hw) (w8 hw) e116 (c7_hit l hw [] ⟨S_w_ONE_CHAR_A_BYTE, S_w_ASCII, S_w_UTF_8, E_w_ONE_CHAR_A_BYTE, E_w_ASCII, E_w_UTF_8⟩ O5 (Nat.le_trans Z0 K5.1) vF vT vc b1 vb0 vb1 vb2 vb3 g1 A5_b1 kT) (by decide) (by rw [hml]; rfl) 0 (Nat.le_of_eq rfl) (by decide) (by decide) (by decide) (by decide) pd_0 rfl (argsL := [(.ref b1), (.int vF), (.int vT), (.int 0), (.int vc)]) (st := []) rfl (zpureK ⟨rfl, rfl⟩ fun T118 X118 e118 => ?_)))))))
          show zEnds p e below s T118 (mkF m 178 #[iv p1, iv p2, iv p3, iv p4, iv p5, rv b1, iv vF, iv vT, iv vc, iv 2, rv w_UTF_8, iv 2] [(.int (hitv vF vT (0 : Int32) vb0 vc))]) _ _ _
          by_cases hc119 : (hitv vF vT (0 : Int32) vb0 vc) = (0 : Int32)
          · refine zifYes X118 hx hby at_178 184 ((if0 _ _).trans (teq hc119).1) (by decide) (by decide) (zaload X118 hx hby at_184 rfl rfl (zaload X118 hx hby at_186 rfl rfl (ziload X118 hx hby at_188 rfl (ziload X118 hx hby at_190 rfl (ziload X118 hx hby at_192 rfl (zcallv X118 hx hby at_194 hZ hown (w9 hw) (w10 hw) (notFace_of_selects (args := #[]) (mvT hZ (w19 hw))) (w19 hw) (w11 hw) (w13 hw) (w3 hw) e118 (E_w_UTF_8.ext O5.2) (c9_indexOf l hw [] ⟨S_w_ONE_CHAR_A_BYTE, S_w_ASCII, S_w_UTF_8, E_w_ONE_CHAR_A_BYTE, E_w_ASCII, E_w_UTF_8⟩ O5 (Nat.le_trans Z0 K5.1) w_UTF_8 vF vT vc b1 vb0 vb1 vb2 vb3 g1 A5_b1 kT kF) (by decide) (by rw [hml]; rfl) 0 (Nat.le_of_eq rfl) (by decide) (by decide) (by decide) (by decide) pd_1 rfl (argsL := [(.ref b1), (.int vF), (.int vT), (.int vc)]) (st := []) rfl (zpureK ⟨rfl, rfl⟩ fun T120 X120 e120 => ?_)))))))
            show zEnds p e below s T120 (mkF m 197 #[iv p1, iv p2, iv p3, iv p4, iv p5, rv b1, iv vF, iv vT, iv vc, iv 2, rv w_UTF_8, iv 2] [(.int (idxv vF vT vc vb0 vb1 vb2 vb3))]) _ _ _
            refine ziload X120 hx hby at_197 rfl ?_
            show zEnds p e below s T120 (mkF m 199 #[iv p1, iv p2, iv p3, iv p4, iv p5, rv b1, iv vF, iv vT, iv vc, iv 2, rv w_UTF_8, iv 2] [(.int 2), (.int (idxv vF vT vc vb0 vb1 vb2 vb3))]) _ _ _
            have hh : (idxv vF vT vc vb0 vb1 vb2 vb3) = (2 : Int32) := by rw [own_link _ _ _ _ _ _ _ kF kT kc hb0 hb1 hb2 hb3]; simp +decide [expv, hc103, hc105, hc117, hc119]
            refine zicmpNo X120 hx hby at_199 (teq hh).2 (ziconst X120 hx hby at_202 (z := (1 : Int32)) rfl (zgoto X120 hx hby at_203 207 (by decide) (by decide) ?_))
            show zEnds p e below s T120 (mkF m 207 #[iv p1, iv p2, iv p3, iv p4, iv p5, rv b1, iv vF, iv vT, iv vc, iv 2, rv w_UTF_8, iv 2] [(.int 1)]) _ _ _
            exact zretZ X120 hx hby at_207 hret hlk (by simp) rfl (by decide) (by decide) ⟨rfl, N5⟩
          · refine zifNo X118 hx hby at_178 ((if0 _ _).trans (feq hc119).1) (ziconst X118 hx hby at_181 (z := (0 : Int32)) rfl (zistore X118 hx hby at_182 (L' := #[iv p1, iv p2, iv p3, iv p4, iv p5, rv b1, iv vF, iv vT, iv vc, iv 2, rv w_UTF_8, iv 0]) rfl (zaload X118 hx hby at_184 rfl rfl (zaload X118 hx hby at_186 rfl rfl (ziload X118 hx hby at_188 rfl (ziload X118 hx hby at_190 rfl (ziload X118 hx hby at_192 rfl (zcallv X118 hx hby at_194 hZ hown (w9 hw) (w10 hw) (notFace_of_selects (args := #[]) (mvT hZ (w19 hw))) (w19 hw) (w11 hw) (w13 hw) (w3 hw) e118 (E_w_UTF_8.ext O5.2) (c9_indexOf l hw [] ⟨S_w_ONE_CHAR_A_BYTE, S_w_ASCII, S_w_UTF_8, E_w_ONE_CHAR_A_BYTE, E_w_ASCII, E_w_UTF_8⟩ O5 (Nat.le_trans Z0 K5.1) w_UTF_8 vF vT vc b1 vb0 vb1 vb2 vb3 g1 A5_b1 kT kF) (by decide) (by rw [hml]; rfl) 0 (Nat.le_of_eq rfl) (by decide) (by decide) (by decide) (by decide) pd_1 rfl (argsL := [(.ref b1), (.int vF), (.int vT), (.int vc)]) (st := []) rfl (zpureK ⟨rfl, rfl⟩ fun T121 X121 e121 => ?_)))))))))
            show zEnds p e below s T121 (mkF m 197 #[iv p1, iv p2, iv p3, iv p4, iv p5, rv b1, iv vF, iv vT, iv vc, iv 2, rv w_UTF_8, iv 0] [(.int (idxv vF vT vc vb0 vb1 vb2 vb3))]) _ _ _
            refine ziload X121 hx hby at_197 rfl ?_
            show zEnds p e below s T121 (mkF m 199 #[iv p1, iv p2, iv p3, iv p4, iv p5, rv b1, iv vF, iv vT, iv vc, iv 2, rv w_UTF_8, iv 0] [(.int 0), (.int (idxv vF vT vc vb0 vb1 vb2 vb3))]) _ _ _
            have hh : (idxv vF vT vc vb0 vb1 vb2 vb3) = (0 : Int32) := by rw [own_link _ _ _ _ _ _ _ kF kT kc hb0 hb1 hb2 hb3]; simp +decide [expv, hc103, hc105, hc117, hc119]
            refine zicmpNo X121 hx hby at_199 (teq hh).2 (ziconst X121 hx hby at_202 (z := (1 : Int32)) rfl (zgoto X121 hx hby at_203 207 (by decide) (by decide) ?_))
            show zEnds p e below s T121 (mkF m 207 #[iv p1, iv p2, iv p3, iv p4, iv p5, rv b1, iv vF, iv vT, iv vc, iv 2, rv w_UTF_8, iv 0] [(.int 1)]) _ _ _
            exact zretZ X121 hx hby at_207 hret hlk (by simp) rfl (by decide) (by decide) ⟨rfl, N5⟩
        · refine zifNo X116 hx hby at_160 ((if0 _ _).trans (feq hc117).1) (ziconst X116 hx hby at_163 (z := (1 : Int32)) rfl (zistore X116 hx hby at_164 (L' := #[iv p1, iv p2, iv p3, iv p4, iv p5, rv b1, iv vF, iv vT, iv vc, iv 2, rv w_UTF_8, iv 1]) rfl (zaload X116 hx hby at_166 rfl rfl (ziload X116 hx hby at_168 rfl (ziload X116 hx hby at_170 rfl (ziconst X116 hx hby at_172 (z := (0 : Int32)) rfl (ziload X116 hx hby at_173 rfl (zcalls X116 hx hby at_175 hZ hown (w5 hw) (w6 hw) (w7 hw) (w8 hw) e116 (c7_hit l hw [] ⟨S_w_ONE_CHAR_A_BYTE, S_w_ASCII, S_w_UTF_8, E_w_ONE_CHAR_A_BYTE, E_w_ASCII, E_w_UTF_8⟩ O5 (Nat.le_trans Z0 K5.1) vF vT vc b1 vb0 vb1 vb2 vb3 g1 A5_b1 kT) (by decide) (by rw [hml]; rfl) 0 (Nat.le_of_eq rfl) (by decide) (by decide) (by decide) (by decide) pd_0 rfl (argsL := [(.ref b1), (.int vF), (.int vT), (.int 0), (.int vc)]) (st := []) rfl (zpureK ⟨rfl, rfl⟩ fun T122 X122 e122 => ?_)))))))))
          show zEnds p e below s T122 (mkF m 178 #[iv p1, iv p2, iv p3, iv p4, iv p5, rv b1, iv vF, iv vT, iv vc, iv 2, rv w_UTF_8, iv 1] [(.int (hitv vF vT (0 : Int32) vb0 vc))]) _ _ _
          by_cases hc123 : (hitv vF vT (0 : Int32) vb0 vc) = (0 : Int32)
          · refine zifYes X122 hx hby at_178 184 ((if0 _ _).trans (teq hc123).1) (by decide) (by decide) (zaload X122 hx hby at_184 rfl rfl (zaload X122 hx hby at_186 rfl rfl (ziload X122 hx hby at_188 rfl (ziload X122 hx hby at_190 rfl (ziload X122 hx hby at_192 rfl (zcallv X122 hx hby at_194 hZ hown (w9 hw) (w10 hw) (notFace_of_selects (args := #[]) (mvT hZ (w19 hw))) (w19 hw) (w11 hw) (w13 hw) (w3 hw) e122 (E_w_UTF_8.ext O5.2) (c9_indexOf l hw [] ⟨S_w_ONE_CHAR_A_BYTE, S_w_ASCII, S_w_UTF_8, E_w_ONE_CHAR_A_BYTE, E_w_ASCII, E_w_UTF_8⟩ O5 (Nat.le_trans Z0 K5.1) w_UTF_8 vF vT vc b1 vb0 vb1 vb2 vb3 g1 A5_b1 kT kF) (by decide) (by rw [hml]; rfl) 0 (Nat.le_of_eq rfl) (by decide) (by decide) (by decide) (by decide) pd_1 rfl (argsL := [(.ref b1), (.int vF), (.int vT), (.int vc)]) (st := []) rfl (zpureK ⟨rfl, rfl⟩ fun T124 X124 e124 => ?_)))))))
            show zEnds p e below s T124 (mkF m 197 #[iv p1, iv p2, iv p3, iv p4, iv p5, rv b1, iv vF, iv vT, iv vc, iv 2, rv w_UTF_8, iv 1] [(.int (idxv vF vT vc vb0 vb1 vb2 vb3))]) _ _ _
            refine ziload X124 hx hby at_197 rfl ?_
            show zEnds p e below s T124 (mkF m 199 #[iv p1, iv p2, iv p3, iv p4, iv p5, rv b1, iv vF, iv vT, iv vc, iv 2, rv w_UTF_8, iv 1] [(.int 1), (.int (idxv vF vT vc vb0 vb1 vb2 vb3))]) _ _ _
            have hh : (idxv vF vT vc vb0 vb1 vb2 vb3) = (1 : Int32) := by rw [own_link _ _ _ _ _ _ _ kF kT kc hb0 hb1 hb2 hb3]; simp +decide [expv, hc103, hc105, hc117, hc123]
            refine zicmpNo X124 hx hby at_199 (teq hh).2 (ziconst X124 hx hby at_202 (z := (1 : Int32)) rfl (zgoto X124 hx hby at_203 207 (by decide) (by decide) ?_))
            show zEnds p e below s T124 (mkF m 207 #[iv p1, iv p2, iv p3, iv p4, iv p5, rv b1, iv vF, iv vT, iv vc, iv 2, rv w_UTF_8, iv 1] [(.int 1)]) _ _ _
            exact zretZ X124 hx hby at_207 hret hlk (by simp) rfl (by decide) (by decide) ⟨rfl, N5⟩
          · refine zifNo X122 hx hby at_178 ((if0 _ _).trans (feq hc123).1) (ziconst X122 hx hby at_181 (z := (0 : Int32)) rfl (zistore X122 hx hby at_182 (L' := #[iv p1, iv p2, iv p3, iv p4, iv p5, rv b1, iv vF, iv vT, iv vc, iv 2, rv w_UTF_8, iv 0]) rfl (zaload X122 hx hby at_184 rfl rfl (zaload X122 hx hby at_186 rfl rfl (ziload X122 hx hby at_188 rfl (ziload X122 hx hby at_190 rfl (ziload X122 hx hby at_192 rfl (zcallv X122 hx hby at_194 hZ hown (w9 hw) (w10 hw) (notFace_of_selects (args := #[]) (mvT hZ (w19 hw))) (w19 hw) (w11 hw) (w13 hw) (w3 hw) e122 (E_w_UTF_8.ext O5.2) (c9_indexOf l hw [] ⟨S_w_ONE_CHAR_A_BYTE, S_w_ASCII, S_w_UTF_8, E_w_ONE_CHAR_A_BYTE, E_w_ASCII, E_w_UTF_8⟩ O5 (Nat.le_trans Z0 K5.1) w_UTF_8 vF vT vc b1 vb0 vb1 vb2 vb3 g1 A5_b1 kT kF) (by decide) (by rw [hml]; rfl) 0 (Nat.le_of_eq rfl) (by decide) (by decide) (by decide) (by decide) pd_1 rfl (argsL := [(.ref b1), (.int vF), (.int vT), (.int vc)]) (st := []) rfl (zpureK ⟨rfl, rfl⟩ fun T125 X125 e125 => ?_)))))))))
            show zEnds p e below s T125 (mkF m 197 #[iv p1, iv p2, iv p3, iv p4, iv p5, rv b1, iv vF, iv vT, iv vc, iv 2, rv w_UTF_8, iv 0] [(.int (idxv vF vT vc vb0 vb1 vb2 vb3))]) _ _ _
            refine ziload X125 hx hby at_197 rfl ?_
            show zEnds p e below s T125 (mkF m 199 #[iv p1, iv p2, iv p3, iv p4, iv p5, rv b1, iv vF, iv vT, iv vc, iv 2, rv w_UTF_8, iv 0] [(.int 0), (.int (idxv vF vT vc vb0 vb1 vb2 vb3))]) _ _ _
            have hh : (idxv vF vT vc vb0 vb1 vb2 vb3) = (0 : Int32) := by rw [own_link _ _ _ _ _ _ _ kF kT kc hb0 hb1 hb2 hb3]; simp +decide [expv, hc103, hc105, hc117, hc123]
            refine zicmpNo X125 hx hby at_199 (teq hh).2 (ziconst X125 hx hby at_202 (z := (1 : Int32)) rfl (zgoto X125 hx hby at_203 207 (by decide) (by decide) ?_))
            show zEnds p e below s T125 (mkF m 207 #[iv p1, iv p2, iv p3, iv p4, iv p5, rv b1, iv vF, iv vT, iv vc, iv 2, rv w_UTF_8, iv 0] [(.int 1)]) _ _ _
            exact zretZ X125 hx hby at_207 hret hlk (by simp) rfl (by decide) (by decide) ⟨rfl, N5⟩
    · refine zifNo X102 hx hby at_124 ((if0 _ _).trans (feq hc103).1) (ziconst X102 hx hby at_127 (z := (3 : Int32)) rfl (zistore X102 hx hby at_128 (L' := #[iv p1, iv p2, iv p3, iv p4, iv p5, rv b1, iv vF, iv vT, iv vc, iv 2, rv w_UTF_8, iv 3]) rfl (zaload X102 hx hby at_130 rfl rfl (ziload X102 hx hby at_132 rfl (ziload X102 hx hby at_134 rfl (ziconst X102 hx hby at_136 (z := (2 : Int32)) rfl (ziload X102 hx hby at_137 rfl (zcalls X102 hx hby at_139 hZ hown (w5 hw) (w6 hw) (w7 hw) (w8 hw) e102 (c3_hit l hw [] ⟨S_w_ONE_CHAR_A_BYTE, S_w_ASCII, S_w_UTF_8, E_w_ONE_CHAR_A_BYTE, E_w_ASCII, E_w_UTF_8⟩ O5 (Nat.le_trans Z0 K5.1) vF vT vc b1 vb0 vb1 vb2 vb3 g1 A5_b1 kT) (by decide) (by rw [hml]; rfl) 0 (Nat.le_of_eq rfl) (by decide) (by decide) (by decide) (by decide) pd_0 rfl (argsL := [(.ref b1), (.int vF), (.int vT), (.int 2), (.int vc)]) (st := []) rfl (zpureK ⟨rfl, rfl⟩ fun T126 X126 e126 => ?_)))))))))
      show zEnds p e below s T126 (mkF m 142 #[iv p1, iv p2, iv p3, iv p4, iv p5, rv b1, iv vF, iv vT, iv vc, iv 2, rv w_UTF_8, iv 3] [(.int (hitv vF vT (2 : Int32) vb2 vc))]) _ _ _
      by_cases hc127 : (hitv vF vT (2 : Int32) vb2 vc) = (0 : Int32)
      · refine zifYes X126 hx hby at_142 148 ((if0 _ _).trans (teq hc127).1) (by decide) (by decide) (zaload X126 hx hby at_148 rfl rfl (ziload X126 hx hby at_150 rfl (ziload X126 hx hby at_152 rfl (ziconst X126 hx hby at_154 (z := (1 : Int32)) rfl (ziload X126 hx hby at_155 rfl (zcalls X126 hx hby at_157 hZ hown (w5 hw) (w6 hw) (w7 hw) (w8 hw) e126 (c5_hit l hw [] ⟨S_w_ONE_CHAR_A_BYTE, S_w_ASCII, S_w_UTF_8, E_w_ONE_CHAR_A_BYTE, E_w_ASCII, E_w_UTF_8⟩ O5 (Nat.le_trans Z0 K5.1) vF vT vc b1 vb0 vb1 vb2 vb3 g1 A5_b1 kT) (by decide) (by rw [hml]; rfl) 0 (Nat.le_of_eq rfl) (by decide) (by decide) (by decide) (by decide) pd_0 rfl (argsL := [(.ref b1), (.int vF), (.int vT), (.int 1), (.int vc)]) (st := []) rfl (zpureK ⟨rfl, rfl⟩ fun T128 X128 e128 => ?_)))))))
        show zEnds p e below s T128 (mkF m 160 #[iv p1, iv p2, iv p3, iv p4, iv p5, rv b1, iv vF, iv vT, iv vc, iv 2, rv w_UTF_8, iv 3] [(.int (hitv vF vT (1 : Int32) vb1 vc))]) _ _ _
        by_cases hc129 : (hitv vF vT (1 : Int32) vb1 vc) = (0 : Int32)
        · refine zifYes X128 hx hby at_160 166 ((if0 _ _).trans (teq hc129).1) (by decide) (by decide) (zaload X128 hx hby at_166 rfl rfl (ziload X128 hx hby at_168 rfl (ziload X128 hx hby at_170 rfl (ziconst X128 hx hby at_172 (z := (0 : Int32)) rfl (ziload X128 hx hby at_173 rfl (zcalls X128 hx hby at_175 hZ hown (w5 hw) (w6 hw) (w7 hw) (w8 hw) e128 (c7_hit l hw [] ⟨S_w_ONE_CHAR_A_BYTE, S_w_ASCII, S_w_UTF_8, E_w_ONE_CHAR_A_BYTE, E_w_ASCII, E_w_UTF_8⟩ O5 (Nat.le_trans Z0 K5.1) vF vT vc b1 vb0 vb1 vb2 vb3 g1 A5_b1 kT) (by decide) (by rw [hml]; rfl) 0 (Nat.le_of_eq rfl) (by decide) (by decide) (by decide) (by decide) pd_0 rfl (argsL := [(.ref b1), (.int vF), (.int vT), (.int 0), (.int vc)]) (st := []) rfl (zpureK ⟨rfl, rfl⟩ fun T130 X130 e130 => ?_)))))))
          show zEnds p e below s T130 (mkF m 178 #[iv p1, iv p2, iv p3, iv p4, iv p5, rv b1, iv vF, iv vT, iv vc, iv 2, rv w_UTF_8, iv 3] [(.int (hitv vF vT (0 : Int32) vb0 vc))]) _ _ _
          by_cases hc131 : (hitv vF vT (0 : Int32) vb0 vc) = (0 : Int32)
          · refine zifYes X130 hx hby at_178 184 ((if0 _ _).trans (teq hc131).1) (by decide) (by decide) (zaload X130 hx hby at_184 rfl rfl (zaload X130 hx hby at_186 rfl rfl (ziload X130 hx hby at_188 rfl (ziload X130 hx hby at_190 rfl (ziload X130 hx hby at_192 rfl (zcallv X130 hx hby at_194 hZ hown (w9 hw) (w10 hw) (notFace_of_selects (args := #[]) (mvT hZ (w19 hw))) (w19 hw) (w11 hw) (w13 hw) (w3 hw) e130 (E_w_UTF_8.ext O5.2) (c9_indexOf l hw [] ⟨S_w_ONE_CHAR_A_BYTE, S_w_ASCII, S_w_UTF_8, E_w_ONE_CHAR_A_BYTE, E_w_ASCII, E_w_UTF_8⟩ O5 (Nat.le_trans Z0 K5.1) w_UTF_8 vF vT vc b1 vb0 vb1 vb2 vb3 g1 A5_b1 kT kF) (by decide) (by rw [hml]; rfl) 0 (Nat.le_of_eq rfl) (by decide) (by decide) (by decide) (by decide) pd_1 rfl (argsL := [(.ref b1), (.int vF), (.int vT), (.int vc)]) (st := []) rfl (zpureK ⟨rfl, rfl⟩ fun T132 X132 e132 => ?_)))))))
            show zEnds p e below s T132 (mkF m 197 #[iv p1, iv p2, iv p3, iv p4, iv p5, rv b1, iv vF, iv vT, iv vc, iv 2, rv w_UTF_8, iv 3] [(.int (idxv vF vT vc vb0 vb1 vb2 vb3))]) _ _ _
            refine ziload X132 hx hby at_197 rfl ?_
            show zEnds p e below s T132 (mkF m 199 #[iv p1, iv p2, iv p3, iv p4, iv p5, rv b1, iv vF, iv vT, iv vc, iv 2, rv w_UTF_8, iv 3] [(.int 3), (.int (idxv vF vT vc vb0 vb1 vb2 vb3))]) _ _ _
            have hh : (idxv vF vT vc vb0 vb1 vb2 vb3) = (3 : Int32) := by rw [own_link _ _ _ _ _ _ _ kF kT kc hb0 hb1 hb2 hb3]; simp +decide [expv, hc103, hc127, hc129, hc131]
            refine zicmpNo X132 hx hby at_199 (teq hh).2 (ziconst X132 hx hby at_202 (z := (1 : Int32)) rfl (zgoto X132 hx hby at_203 207 (by decide) (by decide) ?_))
            show zEnds p e below s T132 (mkF m 207 #[iv p1, iv p2, iv p3, iv p4, iv p5, rv b1, iv vF, iv vT, iv vc, iv 2, rv w_UTF_8, iv 3] [(.int 1)]) _ _ _
            exact zretZ X132 hx hby at_207 hret hlk (by simp) rfl (by decide) (by decide) ⟨rfl, N5⟩
          · refine zifNo X130 hx hby at_178 ((if0 _ _).trans (feq hc131).1) (ziconst X130 hx hby at_181 (z := (0 : Int32)) rfl (zistore X130 hx hby at_182 (L' := #[iv p1, iv p2, iv p3, iv p4, iv p5, rv b1, iv vF, iv vT, iv vc, iv 2, rv w_UTF_8, iv 0]) rfl (zaload X130 hx hby at_184 rfl rfl (zaload X130 hx hby at_186 rfl rfl (ziload X130 hx hby at_188 rfl (ziload X130 hx hby at_190 rfl (ziload X130 hx hby at_192 rfl (zcallv X130 hx hby at_194 hZ hown (w9 hw) (w10 hw) (notFace_of_selects (args := #[]) (mvT hZ (w19 hw))) (w19 hw) (w11 hw) (w13 hw) (w3 hw) e130 (E_w_UTF_8.ext O5.2) (c9_indexOf l hw [] ⟨S_w_ONE_CHAR_A_BYTE, S_w_ASCII, S_w_UTF_8, E_w_ONE_CHAR_A_BYTE, E_w_ASCII, E_w_UTF_8⟩ O5 (Nat.le_trans Z0 K5.1) w_UTF_8 vF vT vc b1 vb0 vb1 vb2 vb3 g1 A5_b1 kT kF) (by decide) (by rw [hml]; rfl) 0 (Nat.le_of_eq rfl) (by decide) (by decide) (by decide) (by decide) pd_1 rfl (argsL := [(.ref b1), (.int vF), (.int vT), (.int vc)]) (st := []) rfl (zpureK ⟨rfl, rfl⟩ fun T133 X133 e133 => ?_)))))))))
            show zEnds p e below s T133 (mkF m 197 #[iv p1, iv p2, iv p3, iv p4, iv p5, rv b1, iv vF, iv vT, iv vc, iv 2, rv w_UTF_8, iv 0] [(.int (idxv vF vT vc vb0 vb1 vb2 vb3))]) _ _ _
            refine ziload X133 hx hby at_197 rfl ?_
            show zEnds p e below s T133 (mkF m 199 #[iv p1, iv p2, iv p3, iv p4, iv p5, rv b1, iv vF, iv vT, iv vc, iv 2, rv w_UTF_8, iv 0] [(.int 0), (.int (idxv vF vT vc vb0 vb1 vb2 vb3))]) _ _ _
            have hh : (idxv vF vT vc vb0 vb1 vb2 vb3) = (0 : Int32) := by rw [own_link _ _ _ _ _ _ _ kF kT kc hb0 hb1 hb2 hb3]; simp +decide [expv, hc103, hc127, hc129, hc131]
            refine zicmpNo X133 hx hby at_199 (teq hh).2 (ziconst X133 hx hby at_202 (z := (1 : Int32)) rfl (zgoto X133 hx hby at_203 207 (by decide) (by decide) ?_))
            show zEnds p e below s T133 (mkF m 207 #[iv p1, iv p2, iv p3, iv p4, iv p5, rv b1, iv vF, iv vT, iv vc, iv 2, rv w_UTF_8, iv 0] [(.int 1)]) _ _ _
            exact zretZ X133 hx hby at_207 hret hlk (by simp) rfl (by decide) (by decide) ⟨rfl, N5⟩
        · refine zifNo X128 hx hby at_160 ((if0 _ _).trans (feq hc129).1) (ziconst X128 hx hby at_163 (z := (1 : Int32)) rfl (zistore X128 hx hby at_164 (L' := #[iv p1, iv p2, iv p3, iv p4, iv p5, rv b1, iv vF, iv vT, iv vc, iv 2, rv w_UTF_8, iv 1]) rfl (zaload X128 hx hby at_166 rfl rfl (ziload X128 hx hby at_168 rfl (ziload X128 hx hby at_170 rfl (ziconst X128 hx hby at_172 (z := (0 : Int32)) rfl (ziload X128 hx hby at_173 rfl (zcalls X128 hx hby at_175 hZ hown (w5 hw) (w6 hw) (w7 hw) (w8 hw) e128 (c7_hit l hw [] ⟨S_w_ONE_CHAR_A_BYTE, S_w_ASCII, S_w_UTF_8, E_w_ONE_CHAR_A_BYTE, E_w_ASCII, E_w_UTF_8⟩ O5 (Nat.le_trans Z0 K5.1) vF vT vc b1 vb0 vb1 vb2 vb3 g1 A5_b1 kT) (by decide) (by rw [hml]; rfl) 0 (Nat.le_of_eq rfl) (by decide) (by decide) (by decide) (by decide) pd_0 rfl (argsL := [(.ref b1), (.int vF), (.int vT), (.int 0), (.int vc)]) (st := []) rfl (zpureK ⟨rfl, rfl⟩ fun T134 X134 e134 => ?_)))))))))
          show zEnds p e below s T134 (mkF m 178 #[iv p1, iv p2, iv p3, iv p4, iv p5, rv b1, iv vF, iv vT, iv vc, iv 2, rv w_UTF_8, iv 1] [(.int (hitv vF vT (0 : Int32) vb0 vc))]) _ _ _
          by_cases hc135 : (hitv vF vT (0 : Int32) vb0 vc) = (0 : Int32)
          · refine zifYes X134 hx hby at_178 184 ((if0 _ _).trans (teq hc135).1) (by decide) (by decide) (zaload X134 hx hby at_184 rfl rfl (zaload X134 hx hby at_186 rfl rfl (ziload X134 hx hby at_188 rfl (ziload X134 hx hby at_190 rfl (ziload X134 hx hby at_192 rfl (zcallv X134 hx hby at_194 hZ hown (w9 hw) (w10 hw) (notFace_of_selects (args := #[]) (mvT hZ (w19 hw))) (w19 hw) (w11 hw) (w13 hw) (w3 hw) e134 (E_w_UTF_8.ext O5.2) (c9_indexOf l hw [] ⟨S_w_ONE_CHAR_A_BYTE, S_w_ASCII, S_w_UTF_8, E_w_ONE_CHAR_A_BYTE, E_w_ASCII, E_w_UTF_8⟩ O5 (Nat.le_trans Z0 K5.1) w_UTF_8 vF vT vc b1 vb0 vb1 vb2 vb3 g1 A5_b1 kT kF) (by decide) (by rw [hml]; rfl) 0 (Nat.le_of_eq rfl) (by decide) (by decide) (by decide) (by decide) pd_1 rfl (argsL := [(.ref b1), (.int vF), (.int vT), (.int vc)]) (st := []) rfl (zpureK ⟨rfl, rfl⟩ fun T136 X136 e136 => ?_)))))))
            show zEnds p e below s T136 (mkF m 197 #[iv p1, iv p2, iv p3, iv p4, iv p5, rv b1, iv vF, iv vT, iv vc, iv 2, rv w_UTF_8, iv 1] [(.int (idxv vF vT vc vb0 vb1 vb2 vb3))]) _ _ _
            refine ziload X136 hx hby at_197 rfl ?_
            show zEnds p e below s T136 (mkF m 199 #[iv p1, iv p2, iv p3, iv p4, iv p5, rv b1, iv vF, iv vT, iv vc, iv 2, rv w_UTF_8, iv 1] [(.int 1), (.int (idxv vF vT vc vb0 vb1 vb2 vb3))]) _ _ _
            have hh : (idxv vF vT vc vb0 vb1 vb2 vb3) = (1 : Int32) := by rw [own_link _ _ _ _ _ _ _ kF kT kc hb0 hb1 hb2 hb3]; simp +decide [expv, hc103, hc127, hc129, hc135]
            refine zicmpNo X136 hx hby at_199 (teq hh).2 (ziconst X136 hx hby at_202 (z := (1 : Int32)) rfl (zgoto X136 hx hby at_203 207 (by decide) (by decide) ?_))
            show zEnds p e below s T136 (mkF m 207 #[iv p1, iv p2, iv p3, iv p4, iv p5, rv b1, iv vF, iv vT, iv vc, iv 2, rv w_UTF_8, iv 1] [(.int 1)]) _ _ _
            exact zretZ X136 hx hby at_207 hret hlk (by simp) rfl (by decide) (by decide) ⟨rfl, N5⟩
          · refine zifNo X134 hx hby at_178 ((if0 _ _).trans (feq hc135).1) (ziconst X134 hx hby at_181 (z := (0 : Int32)) rfl (zistore X134 hx hby at_182 (L' := #[iv p1, iv p2, iv p3, iv p4, iv p5, rv b1, iv vF, iv vT, iv vc, iv 2, rv w_UTF_8, iv 0]) rfl (zaload X134 hx hby at_184 rfl rfl (zaload X134 hx hby at_186 rfl rfl (ziload X134 hx hby at_188 rfl (ziload X134 hx hby at_190 rfl (ziload X134 hx hby at_192 rfl (zcallv X134 hx hby at_194 hZ hown (w9 hw) (w10 hw) (notFace_of_selects (args := #[]) (mvT hZ (w19 hw))) (w19 hw) (w11 hw) (w13 hw) (w3 hw) e134 (E_w_UTF_8.ext O5.2) (c9_indexOf l hw [] ⟨S_w_ONE_CHAR_A_BYTE, S_w_ASCII, S_w_UTF_8, E_w_ONE_CHAR_A_BYTE, E_w_ASCII, E_w_UTF_8⟩ O5 (Nat.le_trans Z0 K5.1) w_UTF_8 vF vT vc b1 vb0 vb1 vb2 vb3 g1 A5_b1 kT kF) (by decide) (by rw [hml]; rfl) 0 (Nat.le_of_eq rfl) (by decide) (by decide) (by decide) (by decide) pd_1 rfl (argsL := [(.ref b1), (.int vF), (.int vT), (.int vc)]) (st := []) rfl (zpureK ⟨rfl, rfl⟩ fun T137 X137 e137 => ?_)))))))))
            show zEnds p e below s T137 (mkF m 197 #[iv p1, iv p2, iv p3, iv p4, iv p5, rv b1, iv vF, iv vT, iv vc, iv 2, rv w_UTF_8, iv 0] [(.int (idxv vF vT vc vb0 vb1 vb2 vb3))]) _ _ _
            refine ziload X137 hx hby at_197 rfl ?_
            show zEnds p e below s T137 (mkF m 199 #[iv p1, iv p2, iv p3, iv p4, iv p5, rv b1, iv vF, iv vT, iv vc, iv 2, rv w_UTF_8, iv 0] [(.int 0), (.int (idxv vF vT vc vb0 vb1 vb2 vb3))]) _ _ _
            have hh : (idxv vF vT vc vb0 vb1 vb2 vb3) = (0 : Int32) := by rw [own_link _ _ _ _ _ _ _ kF kT kc hb0 hb1 hb2 hb3]; simp +decide [expv, hc103, hc127, hc129, hc135]
            refine zicmpNo X137 hx hby at_199 (teq hh).2 (ziconst X137 hx hby at_202 (z := (1 : Int32)) rfl (zgoto X137 hx hby at_203 207 (by decide) (by decide) ?_))
            show zEnds p e below s T137 (mkF m 207 #[iv p1, iv p2, iv p3, iv p4, iv p5, rv b1, iv vF, iv vT, iv vc, iv 2, rv w_UTF_8, iv 0] [(.int 1)]) _ _ _
            exact zretZ X137 hx hby at_207 hret hlk (by simp) rfl (by decide) (by decide) ⟨rfl, N5⟩
      · refine zifNo X126 hx hby at_142 ((if0 _ _).trans (feq hc127).1) (ziconst X126 hx hby at_145 (z := (2 : Int32)) rfl (zistore X126 hx hby at_146 (L' := #[iv p1, iv p2, iv p3, iv p4, iv p5, rv b1, iv vF, iv vT, iv vc, iv 2, rv w_UTF_8, iv 2]) rfl (zaload X126 hx hby at_148 rfl rfl (ziload X126 hx hby at_150 rfl (ziload X126 hx hby at_152 rfl (ziconst X126 hx hby at_154 (z := (1 : Int32)) rfl (ziload X126 hx hby at_155 rfl (zcalls X126 hx hby at_157 hZ hown (w5 hw) (w6 hw) (w7 hw) (w8 hw) e126 (c5_hit l hw [] ⟨S_w_ONE_CHAR_A_BYTE, S_w_ASCII, S_w_UTF_8, E_w_ONE_CHAR_A_BYTE, E_w_ASCII, E_w_UTF_8⟩ O5 (Nat.le_trans Z0 K5.1) vF vT vc b1 vb0 vb1 vb2 vb3 g1 A5_b1 kT) (by decide) (by rw [hml]; rfl) 0 (Nat.le_of_eq rfl) (by decide) (by decide) (by decide) (by decide) pd_0 rfl (argsL := [(.ref b1), (.int vF), (.int vT), (.int 1), (.int vc)]) (st := []) rfl (zpureK ⟨rfl, rfl⟩ fun T138 X138 e138 => ?_)))))))))
        show zEnds p e below s T138 (mkF m 160 #[iv p1, iv p2, iv p3, iv p4, iv p5, rv b1, iv vF, iv vT, iv vc, iv 2, rv w_UTF_8, iv 2] [(.int (hitv vF vT (1 : Int32) vb1 vc))]) _ _ _
        by_cases hc139 : (hitv vF vT (1 : Int32) vb1 vc) = (0 : Int32)
        · refine zifYes X138 hx hby at_160 166 ((if0 _ _).trans (teq hc139).1) (by decide) (by decide) (zaload X138 hx hby at_166 rfl rfl (ziload X138 hx hby at_168 rfl (ziload X138 hx hby at_170 rfl (ziconst X138 hx hby at_172 (z := (0 : Int32)) rfl (ziload X138 hx hby at_173 rfl (zcalls X138 hx hby at_175 hZ hown (w5 hw) (w6 hw) (w7 hw) (w8 hw) e138 (c7_hit l hw [] ⟨S_w_ONE_CHAR_A_BYTE, S_w_ASCII, S_w_UTF_8, E_w_ONE_CHAR_A_BYTE, E_w_ASCII, E_w_UTF_8⟩ O5 (Nat.le_trans Z0 K5.1) vF vT vc b1 vb0 vb1 vb2 vb3 g1 A5_b1 kT) (by decide) (by rw [hml]; rfl) 0 (Nat.le_of_eq rfl) (by decide) (by decide) (by decide) (by decide) pd_0 rfl (argsL := [(.ref b1), (.int vF), (.int vT), (.int 0), (.int vc)]) (st := []) rfl (zpureK ⟨rfl, rfl⟩ fun T140 X140 e140 => ?_)))))))
          show zEnds p e below s T140 (mkF m 178 #[iv p1, iv p2, iv p3, iv p4, iv p5, rv b1, iv vF, iv vT, iv vc, iv 2, rv w_UTF_8, iv 2] [(.int (hitv vF vT (0 : Int32) vb0 vc))]) _ _ _
          by_cases hc141 : (hitv vF vT (0 : Int32) vb0 vc) = (0 : Int32)
          · refine zifYes X140 hx hby at_178 184 ((if0 _ _).trans (teq hc141).1) (by decide) (by decide) (zaload X140 hx hby at_184 rfl rfl (zaload X140 hx hby at_186 rfl rfl (ziload X140 hx hby at_188 rfl (ziload X140 hx hby at_190 rfl (ziload X140 hx hby at_192 rfl (zcallv X140 hx hby at_194 hZ hown (w9 hw) (w10 hw) (notFace_of_selects (args := #[]) (mvT hZ (w19 hw))) (w19 hw) (w11 hw) (w13 hw) (w3 hw) e140 (E_w_UTF_8.ext O5.2) (c9_indexOf l hw [] ⟨S_w_ONE_CHAR_A_BYTE, S_w_ASCII, S_w_UTF_8, E_w_ONE_CHAR_A_BYTE, E_w_ASCII, E_w_UTF_8⟩ O5 (Nat.le_trans Z0 K5.1) w_UTF_8 vF vT vc b1 vb0 vb1 vb2 vb3 g1 A5_b1 kT kF) (by decide) (by rw [hml]; rfl) 0 (Nat.le_of_eq rfl) (by decide) (by decide) (by decide) (by decide) pd_1 rfl (argsL := [(.ref b1), (.int vF), (.int vT), (.int vc)]) (st := []) rfl (zpureK ⟨rfl, rfl⟩ fun T142 X142 e142 => ?_)))))))
            show zEnds p e below s T142 (mkF m 197 #[iv p1, iv p2, iv p3, iv p4, iv p5, rv b1, iv vF, iv vT, iv vc, iv 2, rv w_UTF_8, iv 2] [(.int (idxv vF vT vc vb0 vb1 vb2 vb3))]) _ _ _
            refine ziload X142 hx hby at_197 rfl ?_
            show zEnds p e below s T142 (mkF m 199 #[iv p1, iv p2, iv p3, iv p4, iv p5, rv b1, iv vF, iv vT, iv vc, iv 2, rv w_UTF_8, iv 2] [(.int 2), (.int (idxv vF vT vc vb0 vb1 vb2 vb3))]) _ _ _
            have hh : (idxv vF vT vc vb0 vb1 vb2 vb3) = (2 : Int32) := by rw [own_link _ _ _ _ _ _ _ kF kT kc hb0 hb1 hb2 hb3]; simp +decide [expv, hc103, hc127, hc139, hc141]
            refine zicmpNo X142 hx hby at_199 (teq hh).2 (ziconst X142 hx hby at_202 (z := (1 : Int32)) rfl (zgoto X142 hx hby at_203 207 (by decide) (by decide) ?_))
            show zEnds p e below s T142 (mkF m 207 #[iv p1, iv p2, iv p3, iv p4, iv p5, rv b1, iv vF, iv vT, iv vc, iv 2, rv w_UTF_8, iv 2] [(.int 1)]) _ _ _
            exact zretZ X142 hx hby at_207 hret hlk (by simp) rfl (by decide) (by decide) ⟨rfl, N5⟩
          · refine zifNo X140 hx hby at_178 ((if0 _ _).trans (feq hc141).1) (ziconst X140 hx hby at_181 (z := (0 : Int32)) rfl (zistore X140 hx hby at_182 (L' := #[iv p1, iv p2, iv p3, iv p4, iv p5, rv b1, iv vF, iv vT, iv vc, iv 2, rv w_UTF_8, iv 0]) rfl (zaload X140 hx hby at_184 rfl rfl (zaload X140 hx hby at_186 rfl rfl (ziload X140 hx hby at_188 rfl (ziload X140 hx hby at_190 rfl (ziload X140 hx hby at_192 rfl (zcallv X140 hx hby at_194 hZ hown (w9 hw) (w10 hw) (notFace_of_selects (args := #[]) (mvT hZ (w19 hw))) (w19 hw) (w11 hw) (w13 hw) (w3 hw) e140 (E_w_UTF_8.ext O5.2) (c9_indexOf l hw [] ⟨S_w_ONE_CHAR_A_BYTE, S_w_ASCII, S_w_UTF_8, E_w_ONE_CHAR_A_BYTE, E_w_ASCII, E_w_UTF_8⟩ O5 (Nat.le_trans Z0 K5.1) w_UTF_8 vF vT vc b1 vb0 vb1 vb2 vb3 g1 A5_b1 kT kF) (by decide) (by rw [hml]; rfl) 0 (Nat.le_of_eq rfl) (by decide) (by decide) (by decide) (by decide) pd_1 rfl (argsL := [(.ref b1), (.int vF), (.int vT), (.int vc)]) (st := []) rfl (zpureK ⟨rfl, rfl⟩ fun T143 X143 e143 => ?_)))))))))
            show zEnds p e below s T143 (mkF m 197 #[iv p1, iv p2, iv p3, iv p4, iv p5, rv b1, iv vF, iv vT, iv vc, iv 2, rv w_UTF_8, iv 0] [(.int (idxv vF vT vc vb0 vb1 vb2 vb3))]) _ _ _
            refine ziload X143 hx hby at_197 rfl ?_
            show zEnds p e below s T143 (mkF m 199 #[iv p1, iv p2, iv p3, iv p4, iv p5, rv b1, iv vF, iv vT, iv vc, iv 2, rv w_UTF_8, iv 0] [(.int 0), (.int (idxv vF vT vc vb0 vb1 vb2 vb3))]) _ _ _
            have hh : (idxv vF vT vc vb0 vb1 vb2 vb3) = (0 : Int32) := by rw [own_link _ _ _ _ _ _ _ kF kT kc hb0 hb1 hb2 hb3]; simp +decide [expv, hc103, hc127, hc139, hc141]
            refine zicmpNo X143 hx hby at_199 (teq hh).2 (ziconst X143 hx hby at_202 (z := (1 : Int32)) rfl (zgoto X143 hx hby at_203 207 (by decide) (by decide) ?_))
            show zEnds p e below s T143 (mkF m 207 #[iv p1, iv p2, iv p3, iv p4, iv p5, rv b1, iv vF, iv vT, iv vc, iv 2, rv w_UTF_8, iv 0] [(.int 1)]) _ _ _
            exact zretZ X143 hx hby at_207 hret hlk (by simp) rfl (by decide) (by decide) ⟨rfl, N5⟩
        · refine zifNo X138 hx hby at_160 ((if0 _ _).trans (feq hc139).1) (ziconst X138 hx hby at_163 (z := (1 : Int32)) rfl (zistore X138 hx hby at_164 (L' := #[iv p1, iv p2, iv p3, iv p4, iv p5, rv b1, iv vF, iv vT, iv vc, iv 2, rv w_UTF_8, iv 1]) rfl (zaload X138 hx hby at_166 rfl rfl (ziload X138 hx hby at_168 rfl (ziload X138 hx hby at_170 rfl (ziconst X138 hx hby at_172 (z := (0 : Int32)) rfl (ziload X138 hx hby at_173 rfl (zcalls X138 hx hby at_175 hZ hown (w5 hw) (w6 hw) (w7 hw) (w8 hw) e138 (c7_hit l hw [] ⟨S_w_ONE_CHAR_A_BYTE, S_w_ASCII, S_w_UTF_8, E_w_ONE_CHAR_A_BYTE, E_w_ASCII, E_w_UTF_8⟩ O5 (Nat.le_trans Z0 K5.1) vF vT vc b1 vb0 vb1 vb2 vb3 g1 A5_b1 kT) (by decide) (by rw [hml]; rfl) 0 (Nat.le_of_eq rfl) (by decide) (by decide) (by decide) (by decide) pd_0 rfl (argsL := [(.ref b1), (.int vF), (.int vT), (.int 0), (.int vc)]) (st := []) rfl (zpureK ⟨rfl, rfl⟩ fun T144 X144 e144 => ?_)))))))))
          show zEnds p e below s T144 (mkF m 178 #[iv p1, iv p2, iv p3, iv p4, iv p5, rv b1, iv vF, iv vT, iv vc, iv 2, rv w_UTF_8, iv 1] [(.int (hitv vF vT (0 : Int32) vb0 vc))]) _ _ _
          by_cases hc145 : (hitv vF vT (0 : Int32) vb0 vc) = (0 : Int32)
          · refine zifYes X144 hx hby at_178 184 ((if0 _ _).trans (teq hc145).1) (by decide) (by decide) (zaload X144 hx hby at_184 rfl rfl (zaload X144 hx hby at_186 rfl rfl (ziload X144 hx hby at_188 rfl (ziload X144 hx hby at_190 rfl (ziload X144 hx hby at_192 rfl (zcallv X144 hx hby at_194 hZ hown (w9 hw) (w10 hw) (notFace_of_selects (args := #[]) (mvT hZ (w19 hw))) (w19 hw) (w11 hw) (w13 hw) (w3 hw) e144 (E_w_UTF_8.ext O5.2) (c9_indexOf l hw [] ⟨S_w_ONE_CHAR_A_BYTE, S_w_ASCII, S_w_UTF_8, E_w_ONE_CHAR_A_BYTE, E_w_ASCII, E_w_UTF_8⟩ O5 (Nat.le_trans Z0 K5.1) w_UTF_8 vF vT vc b1 vb0 vb1 vb2 vb3 g1 A5_b1 kT kF) (by decide) (by rw [hml]; rfl) 0 (Nat.le_of_eq rfl) (by decide) (by decide) (by decide) (by decide) pd_1 rfl (argsL := [(.ref b1), (.int vF), (.int vT), (.int vc)]) (st := []) rfl (zpureK ⟨rfl, rfl⟩ fun T146 X146 e146 => ?_)))))))
            show zEnds p e below s T146 (mkF m 197 #[iv p1, iv p2, iv p3, iv p4, iv p5, rv b1, iv vF, iv vT, iv vc, iv 2, rv w_UTF_8, iv 1] [(.int (idxv vF vT vc vb0 vb1 vb2 vb3))]) _ _ _
            refine ziload X146 hx hby at_197 rfl ?_
            show zEnds p e below s T146 (mkF m 199 #[iv p1, iv p2, iv p3, iv p4, iv p5, rv b1, iv vF, iv vT, iv vc, iv 2, rv w_UTF_8, iv 1] [(.int 1), (.int (idxv vF vT vc vb0 vb1 vb2 vb3))]) _ _ _
            have hh : (idxv vF vT vc vb0 vb1 vb2 vb3) = (1 : Int32) := by rw [own_link _ _ _ _ _ _ _ kF kT kc hb0 hb1 hb2 hb3]; simp +decide [expv, hc103, hc127, hc139, hc145]
            refine zicmpNo X146 hx hby at_199 (teq hh).2 (ziconst X146 hx hby at_202 (z := (1 : Int32)) rfl (zgoto X146 hx hby at_203 207 (by decide) (by decide) ?_))
            show zEnds p e below s T146 (mkF m 207 #[iv p1, iv p2, iv p3, iv p4, iv p5, rv b1, iv vF, iv vT, iv vc, iv 2, rv w_UTF_8, iv 1] [(.int 1)]) _ _ _
            exact zretZ X146 hx hby at_207 hret hlk (by simp) rfl (by decide) (by decide) ⟨rfl, N5⟩
          · refine zifNo X144 hx hby at_178 ((if0 _ _).trans (feq hc145).1) (ziconst X144 hx hby at_181 (z := (0 : Int32)) rfl (zistore X144 hx hby at_182 (L' := #[iv p1, iv p2, iv p3, iv p4, iv p5, rv b1, iv vF, iv vT, iv vc, iv 2, rv w_UTF_8, iv 0]) rfl (zaload X144 hx hby at_184 rfl rfl (zaload X144 hx hby at_186 rfl rfl (ziload X144 hx hby at_188 rfl (ziload X144 hx hby at_190 rfl (ziload X144 hx hby at_192 rfl (zcallv X144 hx hby at_194 hZ hown (w9 hw) (w10 hw) (notFace_of_selects (args := #[]) (mvT hZ (w19 hw))) (w19 hw) (w11 hw) (w13 hw) (w3 hw) e144 (E_w_UTF_8.ext O5.2) (c9_indexOf l hw [] ⟨S_w_ONE_CHAR_A_BYTE, S_w_ASCII, S_w_UTF_8, E_w_ONE_CHAR_A_BYTE, E_w_ASCII, E_w_UTF_8⟩ O5 (Nat.le_trans Z0 K5.1) w_UTF_8 vF vT vc b1 vb0 vb1 vb2 vb3 g1 A5_b1 kT kF) (by decide) (by rw [hml]; rfl) 0 (Nat.le_of_eq rfl) (by decide) (by decide) (by decide) (by decide) pd_1 rfl (argsL := [(.ref b1), (.int vF), (.int vT), (.int vc)]) (st := []) rfl (zpureK ⟨rfl, rfl⟩ fun T147 X147 e147 => ?_)))))))))
            show zEnds p e below s T147 (mkF m 197 #[iv p1, iv p2, iv p3, iv p4, iv p5, rv b1, iv vF, iv vT, iv vc, iv 2, rv w_UTF_8, iv 0] [(.int (idxv vF vT vc vb0 vb1 vb2 vb3))]) _ _ _
            refine ziload X147 hx hby at_197 rfl ?_
            show zEnds p e below s T147 (mkF m 199 #[iv p1, iv p2, iv p3, iv p4, iv p5, rv b1, iv vF, iv vT, iv vc, iv 2, rv w_UTF_8, iv 0] [(.int 0), (.int (idxv vF vT vc vb0 vb1 vb2 vb3))]) _ _ _
            have hh : (idxv vF vT vc vb0 vb1 vb2 vb3) = (0 : Int32) := by rw [own_link _ _ _ _ _ _ _ kF kT kc hb0 hb1 hb2 hb3]; simp +decide [expv, hc103, hc127, hc139, hc145]
            refine zicmpNo X147 hx hby at_199 (teq hh).2 (ziconst X147 hx hby at_202 (z := (1 : Int32)) rfl (zgoto X147 hx hby at_203 207 (by decide) (by decide) ?_))
            show zEnds p e below s T147 (mkF m 207 #[iv p1, iv p2, iv p3, iv p4, iv p5, rv b1, iv vF, iv vT, iv vc, iv 2, rv w_UTF_8, iv 0] [(.int 1)]) _ _ _
            exact zretZ X147 hx hby at_207 hret hlk (by simp) rfl (by decide) (by decide) ⟨rfl, N5⟩
set_option maxRecDepth 65536 in
set_option maxHeartbeats 40000000 in
theorem comes_1 {Post : Tables → Env → Array Value → State → Outcome → State → Prop} (hpost : ∀ tb e args s v u, (limb_1_1.after args s (.returned v) u = true ∧ limb_1_2.after args s (.returned v) u = true ∧ True) → FrameEnd s (.returned v) u (Jvm.fieldLocs frame_1_writes args s ++ Jvm.arrayLocs frame_1_arrays args s ++ Jvm.staticLocs frame_1_statics s) 16 128 → Post tb e args s (.returned v) u) :
    ArmFor flags0 classFile x code maxLocals ret World_1 tables_1 room_1 Calls_1 rest_1 Pre_1 Post := by
  intro l hfl _ _ p e ha hc hk s m args below hf hA hF happ hP
  obtain ⟨hcalls, hrest, hpre⟩ := hP
  obtain ⟨-, -, -, hnamed, -, -, -, hat⟩ := (Spec.applies_iff hf).mp happ
  obtain ⟨hg, hn⟩ := and_e (Cond.before_iff.mp (show (Jvm.Cond.and given_1 narrow_1).before args s = true from hpre))
  obtain ⟨gc, hg⟩ := and_e hg
  obtain ⟨g0, hg⟩ := and_e hg
  obtain ⟨g1, hg⟩ := and_e hg
  obtain ⟨g2, hg⟩ := and_e hg
  obtain ⟨g3, hg⟩ := and_e hg
  obtain ⟨u0, u1, u2, u3, u4, rfl⟩ : ∃ u0 u1 u2 u3 u4 : Value, args = #[u0, u1, u2, u3, u4] := by
    have hs : args.size = 5 := by simpa [Cond.value, given_1] using gc
    obtain ⟨L⟩ := args
    match L, hs with
    | [u0, u1, u2, u3, u4], _ => exact ⟨u0, u1, u2, u3, u4, rfl⟩
  obtain ⟨i0, ei0⟩ := is_v g0
  obtain rfl : u0 = (.int i0) := Option.some.inj ei0
  obtain ⟨i1, ei1⟩ := is_v g1
  obtain rfl : u1 = (.int i1) := Option.some.inj ei1
  obtain ⟨i2, ei2⟩ := is_v g2
  obtain rfl : u2 = (.int i2) := Option.some.inj ei2
  obtain ⟨i3, ei3⟩ := is_v g3
  obtain rfl : u3 = (.int i3) := Option.some.inj ei3
  obtain ⟨i4, ei4⟩ := is_v hg
  obtain rfl : u4 = (.int i4) := Option.some.inj ei4
  have hw := fun d (hd : d ∈ tables_1) => atoms_spec (ws := Jvm.Cond.code x code maxLocals ret :: tables_1) hat d (List.mem_cons_of_mem _ hd)
  obtain ⟨n1, n2⟩ := and_e hn
  obtain ⟨n3, n4⟩ := and_e n2
  obtain ⟨w_ONE_CHAR_A_BYTE, v_w_ONE_CHAR_A_BYTE⟩ := exa_v n1
  have E_w_ONE_CHAR_A_BYTE := Exa.start v_w_ONE_CHAR_A_BYTE n1
  have S_w_ONE_CHAR_A_BYTE := Sta.start v_w_ONE_CHAR_A_BYTE (Or.inr ⟨(w3 hw), (w4 hw)⟩)
  obtain ⟨w_ASCII, v_w_ASCII⟩ := exa_v n3
  have E_w_ASCII := Exa.start v_w_ASCII n3
  have S_w_ASCII := Sta.start v_w_ASCII (Or.inr ⟨(w3 hw), (w15 hw)⟩)
  obtain ⟨w_UTF_8, v_w_UTF_8⟩ := exa_v n4
  have E_w_UTF_8 := Exa.start v_w_UTF_8 n4
  have S_w_UTF_8 := Sta.start v_w_UTF_8 (Or.inr ⟨(w3 hw), (w18 hw)⟩)
  obtain ⟨n, o, h1, h2, h3, _, L, rfl, ⟨rfl, N⟩, hq⟩ := rm0 l (Z := s) hw tables_1 (h0 := s.heap) (n0 := s.heap.size) ⟨S_w_ONE_CHAR_A_BYTE, S_w_ASCII, S_w_UTF_8, E_w_ONE_CHAR_A_BYTE, E_w_ASCII, E_w_UTF_8⟩ (Old.start s) (Nat.le_refl _) i0 i1 i2 i3 i4 p e ha hc hk s m _ below hf ((Spec.applies_iff_loose hf).mp happ).1 ⟨rfl, State.Warmed39.refl s, rfl⟩ trivial
  refine ⟨n, _, h1, h2, h3, hpost _ _ _ _ _ _ ⟨Cond.after_iff.mpr rfl, Cond.after_iff.mpr (eq_i res_at (Term.int_eval (1)) rfl), trivial⟩ ⟨hq.1, hq.2.1, (hq.2.2.sift fun y hy => Or.inr (N y hy)).mono (by decide) (by decide)⟩⟩
theorem main_1_1 : Claimed_1_1 := comes_1 fun _ _ _ _ _ _ h hF => ⟨h.1, hF⟩
theorem main_1_2 : Claimed_1_2 := comes_1 fun _ _ _ _ _ _ h hF => ⟨h.2.1, hF⟩
end Jvm.Pilot.@@N@@
namespace Jvm.Pilot.@@N@@
open Jvm Jvm.ClassFile Sem Op Lib Jvm.Free Jvm.Stand Jvm.Pilot.@@N@@.Jvm.D
/-! MADE BY PROGRAM (witnessworld.py) out of the Statement's table words and the real class files: 15 classes; the members and pool entries that the words name. The judged class is class 1, her method 1. -/
namespace start1
open Jvm.ClassFile
def u (s : String) : CpInfo := .utf8 (stringToUtf16 s)
/-- a pool by its gaps: so many unusable entries, then the entry; so many at the end -/
def gap : Nat → List CpInfo → List CpInfo
  | 0, r => r
  | n + 1, r => .unusable :: gap n r
def poolList (es : List (Nat × CpInfo)) (last : Nat) : List CpInfo := es.foldr (fun e r => gap e.1 (e.2 :: r)) (gap last [])
def pool (es : List (Nat × CpInfo)) (last : Nat) : Array CpInfo := ⟨poolList es last⟩
def fileOf (pool : Array CpInfo) (this : Nat) (attrs : Array Attribute := #[]) (ms : Array MethodInfo := #[]) (fl : Nat := 33) (sup : Nat := 0) (ifs : Array Nat := #[]) (fds : Array FieldInfo := #[]) : ClassFile where
  minorVersion := 0
  majorVersion := 65
  constantPool := pool
  accessFlags := fl
  thisClass := this
  superClass := sup
  interfaces := ifs
  fields := fds
  methods := ms
  attributes := attrs
def plain (name : String) (sup : Option ClassId) : Class where
  name := name
  kind := .ordinary
  loader := none
  accessFlags := 33
  super := sup
  interfaces := #[]
  cf := none
  fields := #[]
  methods := #[]
  instanceTypes := #[]
  staticTypes := #[]
  resolved := #[]
  callSites := []
  init := .initialized
  statics := none
  mirror := none

def pool0 : Array CpInfo := pool [(5, u "<init>"), (0, u "()V"), (1, .class_ 10), (1, u "java/lang/Object")] 113

def k0m0 : Method := { name := "<init>", desc := "()V", sig := { parameters := [], returnType := none }, accessFlags := 1, code := none }
/-- java/lang/Object -/
def k0 : Class := { plain "java/lang/Object" none with
  accessFlags := 33
  interfaces := #[]
  cf := some (fileOf pool0 8 #[] #[{ accessFlags := 1, nameIndex := 5, descriptorIndex := 6, attributes := #[] }] 33 0 #[] #[])
  fields := #[]
  methods := #[k0m0]
  instanceTypes := #[]
  staticTypes := #[]
  resolved := Array.replicate 124 none
  statics := none }

def pool1 : Array CpInfo := pool [(2, .class_ 4), (1, u "java/lang/Object"), (0, u "<init>"), (0, u "()V"), (0, .integer 2147483647), (0, .fieldref 9 10), (0, .class_ 11), (0, .nameAndType 12 13), (0, u "com/example/kakehashi/kakehashi/message/Reading"), (0, u "ONE_CHAR_A_BYTE"), (0, u "Lcom/example/kakehashi/kakehashi/message/Reading;"), (0, .fieldref 9 15), (0, .nameAndType 16 13), (0, u "ASCII"), (0, .fieldref 9 18), (0, .nameAndType 19 13), (0, u "UTF_8"), (0, .methodref 21 22), (0, .class_ 23), (0, .nameAndType 24 25), (0, u "com/example/kakehashi/kakehashi/message/ReadingIndexOfPinLaw"), (0, u "hit"), (0, u "([BIIIC)Z"), (0, .methodref 9 27), (0, .nameAndType 28 29), (0, u "indexOf"), (0, u "([BIIC)I"), (2, u "law"), (0, u "(IIIII)Z")] 5

def k1m0 : Method := { name := "<init>", desc := "()V", sig := { parameters := [], returnType := none }, accessFlags := 1, code := none }
def k1c1 : Code := { maxStack := 5, maxLocals := 12, code := code, exceptionTable := #[], attributes := #[] }
def k1m1 : Method := { name := "law", desc := "(IIIII)Z", sig := { parameters := [.int, .int, .int, .int, .int], returnType := some .boolean }, accessFlags := 9, code := some k1c1 }
def k1c2 : Code := { maxStack := 2, maxLocals := 5, code := method_3_code, exceptionTable := #[], attributes := #[] }
def k1m2 : Method := { name := "hit", desc := "([BIIIC)Z", sig := { parameters := [(.array .byte), .int, .int, .int, .char], returnType := some .boolean }, accessFlags := 10, code := some k1c2 }
/-- com/example/kakehashi/kakehashi/message/ReadingIndexOfPinLaw -/
def k1 : Class := { plain "com/example/kakehashi/kakehashi/message/ReadingIndexOfPinLaw" (some 0) with
  accessFlags := 49
  interfaces := #[]
  cf := some (fileOf pool1 21 #[] #[{ accessFlags := 1, nameIndex := 5, descriptorIndex := 6, attributes := #[] }, { accessFlags := 9, nameIndex := 32, descriptorIndex := 33, attributes := #[] }, { accessFlags := 10, nameIndex := 24, descriptorIndex := 25, attributes := #[] }] 49 2 #[] #[])
  fields := #[]
  methods := #[k1m0, k1m1, k1m2]
  instanceTypes := #[]
  staticTypes := #[]
  resolved := Array.replicate 39 none
  statics := none }

def pool2 : Array CpInfo := pool [(1, .class_ 2), (0, u "java/lang/constant/Constable"), (0, .class_ 4), (0, u "java/lang/Object")] 6

/-- java/lang/constant/Constable -/
def k2 : Class := { plain "java/lang/constant/Constable" (some 0) with
  accessFlags := 1537
  interfaces := #[]
  cf := some (fileOf pool2 1 #[] #[] 1537 3 #[] #[])
  fields := #[]
  methods := #[]
  instanceTypes := #[]
  staticTypes := #[]
  resolved := Array.replicate 11 none
  statics := none }

def pool3 : Array CpInfo := pool [(1, .class_ 2), (0, u "java/lang/Comparable"), (0, .class_ 4), (0, u "java/lang/Object")] 7

/-- java/lang/Comparable -/
def k3 : Class := { plain "java/lang/Comparable" (some 0) with
  accessFlags := 1537
  interfaces := #[]
  cf := some (fileOf pool3 1 #[] #[] 1537 3 #[] #[])
  fields := #[]
  methods := #[]
  instanceTypes := #[]
  staticTypes := #[]
  resolved := Array.replicate 12 none
  statics := none }

def pool4 : Array CpInfo := pool [(1, .class_ 2), (0, u "java/io/Serializable"), (0, .class_ 4), (0, u "java/lang/Object")] 2

/-- java/io/Serializable -/
def k4 : Class := { plain "java/io/Serializable" (some 0) with
  accessFlags := 1537
  interfaces := #[]
  cf := some (fileOf pool4 1 #[] #[] 1537 3 #[] #[])
  fields := #[]
  methods := #[]
  instanceTypes := #[]
  staticTypes := #[]
  resolved := Array.replicate 7 none
  statics := none }

def pool5 : Array CpInfo := pool [(2, .class_ 4), (1, u "java/lang/Enum"), (0, u "name"), (0, u "Ljava/lang/String;"), (2, u "ordinal"), (0, u "I"), (1, .class_ 14), (1, u "java/lang/Object"), (4, u "hash"), (86, .class_ 108), (1, u "java/lang/Enum$EnumDesc"), (2, .class_ 112), (0, u "java/lang/constant/Constable"), (0, .class_ 114), (0, u "java/lang/Comparable"), (0, .class_ 116), (0, u "java/io/Serializable")] 87

/-- java/lang/Enum -/
def k5 : Class := { plain "java/lang/Enum" (some 0) with
  accessFlags := 1057
  interfaces := #[2, 3, 4]
  cf := some (fileOf pool5 2 #[.nestMembers #[106]] #[] 1057 12 #[111, 113, 115] #[{ accessFlags := 18, nameIndex := 5, descriptorIndex := 6, attributes := #[] }, { accessFlags := 18, nameIndex := 9, descriptorIndex := 10, attributes := #[] }, { accessFlags := 2, nameIndex := 19, descriptorIndex := 10, attributes := #[] }])
  fields := #[{ name := "name", type := (.object "java/lang/String"), accessFlags := 18, slot := 0, constantValue := 0 }, { name := "ordinal", type := .int, accessFlags := 18, slot := 1, constantValue := 0 }, { name := "hash", type := .int, accessFlags := 2, slot := 2, constantValue := 0 }]
  methods := #[]
  instanceTypes := #[(.object "java/lang/String"), .int, .int]
  staticTypes := #[]
  resolved := Array.replicate 204 none
  statics := none }

def pool6 : Array CpInfo := pool [(1, .class_ 2), (0, u "com/example/kakehashi/kakehashi/message/Reading"), (2, u "ONE_CHAR_A_BYTE"), (0, u "Lcom/example/kakehashi/kakehashi/message/Reading;"), (2, u "ASCII"), (2, u "UTF_8"), (2, u "ISO_2022"), (2, u "$VALUES"), (0, u "[Lcom/example/kakehashi/kakehashi/message/Reading;"), (6, .class_ 28), (1, u "java/lang/Enum"), (44, .class_ 74), (0, u "com/example/kakehashi/kakehashi/message/Reading$1"), (2, .class_ 78), (0, u "com/example/kakehashi/kakehashi/message/Reading$2"), (2, .class_ 82), (0, u "com/example/kakehashi/kakehashi/message/Reading$3"), (2, .class_ 86), (0, u "com/example/kakehashi/kakehashi/message/Reading$4"), (6, u "DECODED_AT_A_TIME"), (0, u "I"), (24, u "indexOf"), (0, u "([BIIC)I"), (8, .class_ 130), (0, u "com/example/kakehashi/kakehashi/message/Reading$Characters")] 3

def k6c0 : Code := { maxStack := 2, maxLocals := 6, code := prog_64_method_11_code, exceptionTable := #[], attributes := #[] }
def k6m0 : Method := { name := "indexOf", desc := "([BIIC)I", sig := { parameters := [(.array .byte), .int, .int, .char], returnType := some .int }, accessFlags := 0, code := some k6c0 }
/-- com/example/kakehashi/kakehashi/message/Reading -/
def k6 : Class := { plain "com/example/kakehashi/kakehashi/message/Reading" (some 5) with
  accessFlags := 17440
  interfaces := #[]
  cf := some (fileOf pool6 1 #[.nestMembers #[129, 85, 81, 77, 73]] #[{ accessFlags := 0, nameIndex := 119, descriptorIndex := 120, attributes := #[] }] 17440 26 #[] #[{ accessFlags := 16409, nameIndex := 5, descriptorIndex := 6, attributes := #[] }, { accessFlags := 16409, nameIndex := 9, descriptorIndex := 6, attributes := #[] }, { accessFlags := 16409, nameIndex := 12, descriptorIndex := 6, attributes := #[] }, { accessFlags := 16409, nameIndex := 15, descriptorIndex := 6, attributes := #[] }, { accessFlags := 26, nameIndex := 93, descriptorIndex := 94, attributes := #[] }, { accessFlags := 4122, nameIndex := 18, descriptorIndex := 19, attributes := #[] }])
  fields := #[{ name := "ONE_CHAR_A_BYTE", type := (.object "com/example/kakehashi/kakehashi/message/Reading"), accessFlags := 16409, slot := 0, constantValue := 0 }, { name := "ASCII", type := (.object "com/example/kakehashi/kakehashi/message/Reading"), accessFlags := 16409, slot := 1, constantValue := 0 }, { name := "UTF_8", type := (.object "com/example/kakehashi/kakehashi/message/Reading"), accessFlags := 16409, slot := 2, constantValue := 0 }, { name := "ISO_2022", type := (.object "com/example/kakehashi/kakehashi/message/Reading"), accessFlags := 16409, slot := 3, constantValue := 0 }, { name := "DECODED_AT_A_TIME", type := .int, accessFlags := 26, slot := 4, constantValue := 0 }, { name := "$VALUES", type := (.array (.object "com/example/kakehashi/kakehashi/message/Reading")), accessFlags := 4122, slot := 5, constantValue := 0 }]
  methods := #[k6m0]
  instanceTypes := #[(.object "java/lang/String"), .int, .int]
  staticTypes := #[(.object "com/example/kakehashi/kakehashi/message/Reading"), (.object "com/example/kakehashi/kakehashi/message/Reading"), (.object "com/example/kakehashi/kakehashi/message/Reading"), (.object "com/example/kakehashi/kakehashi/message/Reading"), .int, (.array (.object "com/example/kakehashi/kakehashi/message/Reading"))]
  resolved := Array.replicate 134 none
  statics := some 0 }

def pool7 : Array CpInfo := pool [(2, .class_ 4), (1, u "com/example/kakehashi/kakehashi/message/Reading"), (8, .class_ 14), (0, u "com/example/kakehashi/kakehashi/message/Reading$1")] 12

/-- com/example/kakehashi/kakehashi/message/Reading$1 -/
def k7 : Class := { plain "com/example/kakehashi/kakehashi/message/Reading$1" (some 6) with
  accessFlags := 16432
  interfaces := #[]
  cf := some (fileOf pool7 13 #[.nestHost 2] #[] 16432 2 #[] #[])
  fields := #[]
  methods := #[]
  instanceTypes := #[(.object "java/lang/String"), .int, .int]
  staticTypes := #[]
  resolved := Array.replicate 27 none
  statics := none }

def pool8 : Array CpInfo := pool [(2, .class_ 4), (1, u "com/example/kakehashi/kakehashi/message/Reading"), (15, .class_ 21), (0, u "com/example/kakehashi/kakehashi/message/Reading$2")] 13

/-- com/example/kakehashi/kakehashi/message/Reading$2 -/
def k8 : Class := { plain "com/example/kakehashi/kakehashi/message/Reading$2" (some 6) with
  accessFlags := 16432
  interfaces := #[]
  cf := some (fileOf pool8 20 #[.nestHost 2] #[] 16432 2 #[] #[])
  fields := #[]
  methods := #[]
  instanceTypes := #[(.object "java/lang/String"), .int, .int]
  staticTypes := #[]
  resolved := Array.replicate 35 none
  statics := none }

def pool9 : Array CpInfo := pool [(1, .class_ 2), (0, u "com/example/kakehashi/kakehashi/message/Reading"), (107, .class_ 112), (1, u "com/example/kakehashi/kakehashi/message/Reading$3")] 26

/-- com/example/kakehashi/kakehashi/message/Reading$3 -/
def k9 : Class := { plain "com/example/kakehashi/kakehashi/message/Reading$3" (some 6) with
  accessFlags := 16432
  interfaces := #[]
  cf := some (fileOf pool9 110 #[.nestHost 1] #[] 16432 1 #[] #[])
  fields := #[]
  methods := #[]
  instanceTypes := #[(.object "java/lang/String"), .int, .int]
  staticTypes := #[]
  resolved := Array.replicate 139 none
  statics := none }

def pool10 : Array CpInfo := pool [(1, u "java/lang/Cloneable"), (0, .class_ 1), (0, u "java/lang/Object"), (0, .class_ 3)] 3

/-- java/lang/Cloneable -/
def k10 : Class := { plain "java/lang/Cloneable" (some 0) with
  accessFlags := 1537
  interfaces := #[]
  cf := some (fileOf pool10 2 #[] #[] 1537 4 #[] #[])
  fields := #[]
  methods := #[]
  instanceTypes := #[]
  staticTypes := #[]
  resolved := Array.replicate 8 none
  statics := none }

/-- the primitive byte -/
def k11 : Class := { plain "byte" none with kind := .primitive 'B', accessFlags := 0x411 }
/-- [B -/
def k12 : Class := { plain "[B" (some 0) with kind := .array 11 .byte, interfaces := #[10, 4], accessFlags := 1041 }

/-- the primitive int -/
def k13 : Class := { plain "int" none with kind := .primitive 'I', accessFlags := 0x411 }
/-- [I -/
def k14 : Class := { plain "[I" (some 0) with kind := .array 13 .int, interfaces := #[10, 4], accessFlags := 1041 }

def heap : Heap := #[{ cls := 6, slots := #[.ref 1, .ref 2, .ref 3, .null, .int 0, .null], vm := .statics 6 },
  { cls := 7, slots := #[.null, .int 0, .int 0], vm := .none },
  { cls := 8, slots := #[.null, .int 1, .int 0], vm := .none },
  { cls := 9, slots := #[.null, .int 2, .int 0], vm := .none }]
def classes : Array Class := #[k0, k1, k2, k3, k4, k5, k6, k7, k8, k9, k10, k11, k12, k13, k14]
def interned : List (Array UInt16 × Addr) := []
def slotsUsed : Nat := 15
def theMethod : MethodId := ⟨1, 1⟩
def args0 : Array Value := #[.int 5, .int 6, .int 7, .int 8, .int 9]
def aboutOver (below : List Frame) : State where
  vm := { classes := classes, interned := interned.toArray }
  heap := heap
  slotsUsed := slotsUsed
  threads := #[{ frames := .invoking theMethod args0 :: below }]
def below0 : List Frame := [.native { method := ⟨0, 0⟩, args := #[] }]
def about1 : State := aboutOver below0
def p0 : Program := .bare "" "" ""
def e0 : Env := launch0.env 0 0 0
theorem w_frames : about1.frames = Frame.invoking theMethod args0 :: below0 := rfl
set_option maxRecDepth 65536 in
theorem w_args : argsFit about1.vm theMethod args0 = true := by decide +kernel
set_option maxRecDepth 65536 in
theorem w_heap : heapFits about1 = true := by decide +kernel
set_option maxRecDepth 65536 in
theorem w_runnable : about1.curStatus? = some .runnable := by decide +kernel
set_option maxRecDepth 65536 in
theorem w_alone : about1.alone = true := by decide +kernel
set_option maxRecDepth 65536 in
theorem w_named : about1.methodNamed? x = some theMethod := by decide +kernel
set_option maxRecDepth 65536 in
theorem w_hears : about1.hears theMethod below0 = true := by decide +kernel
set_option maxRecDepth 65536 in
theorem w_ripe : about1.ripe theMethod args0 below0 = true := by decide +kernel
theorem w_running : about1.status = .running := rfl
set_option maxRecDepth 65536 in
theorem w_room : about1.hasRoom e0.platform room_1 = true :=
  launch0.hasRoom_least _ room_1 (by decide +kernel) (by decide +kernel) (by decide +kernel) (by decide +kernel) (by decide +kernel) (by decide +kernel)
theorem allAtoms_all (ts : List Jvm.Cond) (a : Array Jvm.Value) (st : Jvm.State) : (allAtoms ts).before a st = ts.all (fun c => c.before a st) := by
  induction ts with
  | nil => rfl
  | cons c t ih =>
    show (Jvm.Cond.and c (allAtoms t)).before a st = _
    rw [Jvm.Cond.before_and, ih, List.all_cons]
def words1 : List Jvm.Cond := Jvm.Cond.code x code maxLocals ret :: tables_1
/-- a 'code' word, met by the world's own term for the bytes: nothing is compared byte by byte -/
theorem code_word {y : MethodName} {bytes : ByteArray} {mx : Nat} {rt : Option FieldType} {a : Array Value} {s : State} {m : MethodId} {meth : Method} {c : Code} (h1 : s.methodNamed? y = some m) (h2 : s.vm.method? m = some meth) (h3 : meth.code = some c) (h4 : c.code = bytes)
    (h5 : (c.maxLocals == mx && c.exceptionTable.isEmpty && decide (c.maxStack ≤ mostOperands) && decide (meth.sig.returnType = rt) && !meth.locks && decide (parseMethodDescriptor y.desc = some meth.sig)) = true) : (Jvm.Cond.code y bytes mx rt).before a s = true := by
  simp only [Bool.and_eq_true, beq_iff_eq, Bool.not_eq_true', decide_eq_true_eq] at h5
  obtain ⟨⟨⟨⟨⟨g1, g2⟩, g3⟩, g4⟩, g5⟩, g6⟩ := h5
  simp [Cond.before, Cond.holds, Cond.value, h1, h2, h3, h4, g1, g2, g3, g4, g5, g6]
def isCode : Jvm.Cond → Bool
  | .code _ _ _ _ => true
  | _ => false
theorem all_split {L : List Jvm.Cond} {P : Jvm.Cond → Bool} (h1 : L.all (fun c => isCode c || P c) = true) (h2 : ∀ c ∈ L.filter isCode, P c = true) : L.all P = true := by
  refine List.all_eq_true.mpr fun c hc => ?_
  have h := List.all_eq_true.mp h1 c hc
  rcases Bool.eq_false_or_eq_true (isCode c) with hi | hi
  · exact h2 c (List.mem_filter.mpr ⟨hc, hi⟩)
  · simpa [hi] using h
set_option maxRecDepth 65536 in
theorem w_c0 : (Jvm.Cond.code x code maxLocals ret).before args0 about1 = true := code_word (m := ⟨1, 1⟩) (meth := k1m1) (c := k1c1) (by decide +kernel) rfl rfl rfl (by decide +kernel)
set_option maxRecDepth 65536 in
theorem w_c1 : (Jvm.Cond.code ({ cls := "com/example/kakehashi/kakehashi/message/ReadingIndexOfPinLaw", name := "hit", desc := "([BIIIC)Z" } : Jvm.MethodName) method_3_code (5 : Nat) (Option.some Jvm.ClassFile.FieldType.boolean)).before args0 about1 = true := code_word (m := ⟨1, 2⟩) (meth := k1m2) (c := k1c2) (by decide +kernel) rfl rfl rfl (by decide +kernel)
set_option maxRecDepth 65536 in
theorem w_c2 : (Jvm.Cond.code ({ cls := "com/example/kakehashi/kakehashi/message/Reading", name := "indexOf", desc := "([BIIC)I" } : Jvm.MethodName) prog_64_method_11_code (6 : Nat) (Option.some Jvm.ClassFile.FieldType.int)).before args0 about1 = true := code_word (m := ⟨6, 0⟩) (meth := k6m0) (c := k6c0) (by decide +kernel) rfl rfl rfl (by decide +kernel)
def codes1 : List Jvm.Cond := [Jvm.Cond.code x code maxLocals ret, Jvm.Cond.code ({ cls := "com/example/kakehashi/kakehashi/message/ReadingIndexOfPinLaw", name := "hit", desc := "([BIIIC)Z" } : Jvm.MethodName) method_3_code (5 : Nat) (Option.some Jvm.ClassFile.FieldType.boolean), Jvm.Cond.code ({ cls := "com/example/kakehashi/kakehashi/message/Reading", name := "indexOf", desc := "([BIIC)I" } : Jvm.MethodName) prog_64_method_11_code (6 : Nat) (Option.some Jvm.ClassFile.FieldType.int)]
set_option maxRecDepth 65536 in
theorem codes_eq : words1.filter isCode = codes1 := rfl
theorem w_codes : ∀ c ∈ words1.filter isCode, c.before args0 about1 = true := by
  rw [codes_eq]
  intro c hc
  simp only [codes1, List.mem_cons, List.not_mem_nil, or_false] at hc
  rcases hc with rfl | rfl | rfl
  · exact w_c0
  · exact w_c1
  · exact w_c2
set_option maxRecDepth 65536 in
theorem w_t1 : words1.all (fun c => isCode c || c.before args0 about1) = true := by decide +kernel
theorem w_tables : (allAtoms (Jvm.Cond.code x code maxLocals ret :: tables_1)).before args0 about1 = true := by
  rw [allAtoms_all]
  show words1.all (fun c => c.before args0 about1) = true
  refine all_split ?_ w_codes
  rw [w_t1]
set_option maxRecDepth 65536 in
theorem w_case : (Jvm.Cond.and given_1 narrow_1).before args0 about1 = true := by decide +kernel
theorem w_applies : (headSpec (Jvm.Cond.code x code maxLocals ret :: tables_1) room_1).applies x e0.platform about1 = true :=
  (Spec.applies_iff w_frames).mpr ⟨w_running, w_runnable, w_alone, w_named, w_hears, w_ripe, w_room, w_tables⟩
theorem atStart : AtStart classFile x code maxLocals ret World_1 tables_1 room_1 Calls_1 rest_1 Pre_1 launch0 p0 e0 about1 theMethod args0 below0 :=
  ⟨lists_1, trivial, launch0.admits_env _ _ _, launch0.least_env, fairChoices_fair.cas, fairChoices_fair.clock, w_frames, w_args, w_heap, w_applies, trivial, trivial, w_case⟩
end start1
theorem witness_1 : WitnessClaimed_1 := ⟨start1.p0, start1.e0, start1.about1, start1.theMethod, start1.args0, start1.below0, start1.atStart⟩
end Jvm.Pilot.@@N@@
