import JvmDerived
import JvmDerived.Pilot.@@N@@Statement
import JvmDerived.Pilot.@@N@@Code
set_option linter.unusedVariables false
set_option linter.unusedSimpArgs false
set_option maxRecDepth 65536
set_option maxHeartbeats 40000000
namespace Jvm.OwnKit
open Sem ClassFile Op Lib Jvm.Stand Jvm.Free Jvm.LawKit Jvm.RoadKit
section Own
variable {p : Program} {l : Launch} {e : Env} {R : Room} {s : State} {m : MethodId} {args : Array Value} {below : List Frame} {meth : Method} {c : Code} {T : State} {locs : List Loc} {cells slots : Nat} {Z : State} {a0 : Array Value} {h : Heap} {bytes : ByteArray} {pc : Nat} {Ls : Array Slot} {st : List Value} {cs ss : Nat} {Q : Option Value → Heap → List Loc → Prop}
def zEnds (p : Program) (e : Env) (below : List Frame) (s T : State) (F : JFrame) (cs ss : Nat) (Q : Option Value → Heap → List Loc → Prop) : Prop :=
  ∃ s₂ o, Steps p.tables e below (T.setTop F) s₂ ∧ s₂.status = .running ∧ Ended s₂ below o ∧ ∃ v L, o = .returned v ∧ Q v s₂.heap L ∧ FrameEnd s o s₂ L cs ss
theorem zstp {T T' : State} {F F' : JFrame} (st : ∀ target, Steps p.tables e below (T'.setTop F') target → Steps p.tables e below (T.setTop F) target) (k : zEnds p e below s T' F' cs ss Q) : zEnds p e below s T F cs ss Q := by
  obtain ⟨s2, o, h1, r⟩ := k; exact ⟨s2, o, st _ h1, r⟩
def zCon (l : Launch) (Z : State) (y : MethodName) (bytes : ByteArray) (maxL : Nat) (ret : Option FieldType) (ws : List Jvm.Cond) (rm : Room) (as' : Array Value) (h0 : Heap) (Q : Option Value → Heap → List Loc → Prop) : Prop :=
  MetFree l y (head1 (Jvm.Cond.code y bytes maxL ret :: ws) rm) (fun a U => a = as' ∧ Z.Warmed39 U.vm ∧ U.heap = h0) (fun _ _ _ _ _ => True) (fun _ U o U' => ∃ v L, o = .returned v ∧ Q v U'.heap L ∧ FrameEnd U o U' L rm.cells rm.slots)
def zSame (v : Option Value) (h0 : Heap) : Option Value → Heap → List Loc → Prop := fun v' h L => v' = v ∧ h = h0 ∧ L = []
theorem zenter {y : MethodName} {maxL : Nat} {ret : Option FieldType} {ws : List Jvm.Cond} {rm : Room} {as' : Array Value} {h0 : Heap} (hpl : plainFor y = true) {L0 : Array Slot} (hef : ∀ m, entryFrame m as' maxL = mkF m 0 L0 [] := by intro m; first | rfl | simp [entryFrame, mkF, argsToLocals, Value.category])
    (H : ∀ (p : Program) (e : Env) (s : State) (m : MethodId) (below : List Frame) (meth : Method) (c : Code) (T : State), p.tables.exec = Jvm.exec → Z.Warmed39 s.vm → c.code = bytes → c.maxLocals = maxL → s.vm.findClass y.cls = some m.cls → meth.name = y.name → meth.sig.returnType = ret → meth.locks = false →
      Stand p l e rm s m as' below meth c T [] 0 0 → T.heap = h0 → zEnds p e below s T (mkF m 0 L0 []) rm.cells rm.slots Q) : zCon l Z y bytes maxL ret ws rm as' h0 Q := by
  refine MetFree.of_bodySF hpl hisR ?_
  intro p e s m args below meth c s₁ Bd hml0 hP hK
  obtain ⟨rfl, hZ, hh⟩ := hP
  have := H p e s m below meth c s₁ Bd.exec hZ Bd.bytes hml0 (findClass_of_methodNamed Bd.named) (name_of_methodNamed Bd.named Bd.method).1 Bd.returns Bd.notSynchronized (Stand.of_body Bd) (by rw [← hh, Bd.state]; rfl)
  rw [← hef m] at this
  exact this
theorem zCon.weak {y : MethodName} {maxL : Nat} {ret : Option FieldType} {ws : List Jvm.Cond} {rm : Room} {as' : Array Value} {h0 : Heap} {Q' : Option Value → Heap → List Loc → Prop} (C : zCon l Z y bytes maxL ret ws rm as' h0 Q) (q : ∀ v h L, Q v h L → Q' v h L) : zCon l Z y bytes maxL ret ws rm as' h0 Q' := by
  intro p e ha hc hk s m args below hf happ hP hK
  obtain ⟨n, o, h1, h2, h3, v, L, h4, h5, h6⟩ := C p e ha hc hk s m args below hf happ hP hK
  exact ⟨n, o, h1, h2, h3, v, L, h4, q v _ L h5, h6⟩
theorem zretG {w : Value} {t : FieldType} {i : Instr} (X : Stand p l e R s m args below meth c T locs cells slots) (hx : p.tables.exec = Jvm.exec) (hby : c.code = bytes) (hd : decode bytes pc = .ok (i, 1)) (hret : meth.sig.returnType = some t) (hlk : meth.locks = false) (hn : narrow t w = w)
    (hi : (i = .ireturn ∧ (t = .int ∨ t = .boolean ∨ t = .byte ∨ t = .char ∨ t = .short) ∧ ∃ z, w = .int z) ∨ (i = .lreturn ∧ t = .long ∧ ∃ z, w = .long z) ∨ (i = .dreturn ∧ t = .double ∧ ∃ z, w = .double z) ∨ (i = .freturn ∧ t = .float ∧ ∃ z, w = .float z) ∨ (i = .areturn ∧ t.isReference = true ∧ w.isRef = true))
    (hc : cells ≤ cs) (hs : slots ≤ ss) (hq : Q (some w) T.heap locs) : zEnds p e below s T (mkF m pc Ls (w :: st)) cs ss Q := by
  obtain ⟨fs, hr, hrun, hended, hW, hsame⟩ := X.leave (v := some w) (fun q => by rw [hret] at q; cases q) hlk
  exact ⟨_, _, retOut X hx hret hn hi (hb hby hd) hr, hrun, hended, _, _, rfl, hq, ⟨_, rfl⟩, hW, hsame.mono hc hs⟩
theorem zretI {z : Int32} (X : Stand p l e R s m args below meth c T locs cells slots) (hx : p.tables.exec = Jvm.exec) (hby : c.code = bytes) (hd : decode bytes pc = .ok (.ireturn, 1)) (hret : meth.sig.returnType = some .int) (hlk : meth.locks = false) (hc : cells ≤ cs) (hs : slots ≤ ss) (hq : Q (some (.int z)) T.heap locs) : zEnds p e below s T (mkF m pc Ls (.int z :: st)) cs ss Q :=
  zretG X hx hby hd hret hlk rfl (Or.inl ⟨rfl, Or.inl rfl, z, rfl⟩) hc hs hq
theorem zretZ {z : Int32} {t : FieldType} (X : Stand p l e R s m args below meth c T locs cells slots) (hx : p.tables.exec = Jvm.exec) (hby : c.code = bytes) (hd : decode bytes pc = .ok (.ireturn, 1)) (hret : meth.sig.returnType = some t) (hlk : meth.locks = false) (ht : t = .boolean ∨ t = .byte ∨ t = .char ∨ t = .short) (hn : narrow t (.int z) = .int z) (hc : cells ≤ cs) (hs : slots ≤ ss) (hq : Q (some (.int z)) T.heap locs) : zEnds p e below s T (mkF m pc Ls (.int z :: st)) cs ss Q :=
  zretG X hx hby hd hret hlk hn (Or.inl ⟨rfl, Or.inr ht, z, rfl⟩) hc hs hq
theorem zretL {z : Int64} (X : Stand p l e R s m args below meth c T locs cells slots) (hx : p.tables.exec = Jvm.exec) (hby : c.code = bytes) (hd : decode bytes pc = .ok (.lreturn, 1)) (hret : meth.sig.returnType = some .long) (hlk : meth.locks = false) (hc : cells ≤ cs) (hs : slots ≤ ss) (hq : Q (some (.long z)) T.heap locs) : zEnds p e below s T (mkF m pc Ls (.long z :: st)) cs ss Q :=
  zretG X hx hby hd hret hlk rfl (Or.inr (Or.inl ⟨rfl, rfl, z, rfl⟩)) hc hs hq
theorem zretA {w : Value} {t : FieldType} (X : Stand p l e R s m args below meth c T locs cells slots) (hx : p.tables.exec = Jvm.exec) (hby : c.code = bytes) (hd : decode bytes pc = .ok (.areturn, 1)) (hret : meth.sig.returnType = some t) (hlk : meth.locks = false) (ht : t.isReference = true) (hw : w.isRef = true) (hn : narrow t w = w) (hc : cells ≤ cs) (hs : slots ≤ ss) (hq : Q (some w) T.heap locs) : zEnds p e below s T (mkF m pc Ls (w :: st)) cs ss Q :=
  zretG X hx hby hd hret hlk hn (Or.inr (Or.inr (Or.inr (Or.inr ⟨rfl, ht, hw⟩)))) hc hs hq
theorem zretV (X : Stand p l e R s m args below meth c T locs cells slots) (hx : p.tables.exec = Jvm.exec) (hby : c.code = bytes) (hd : decode bytes pc = .ok (.return_, 1)) (hret : meth.sig.returnType = none) (hlk : meth.locks = false) (hc : cells ≤ cs) (hs : slots ≤ ss) (hq : Q none T.heap locs) : zEnds p e below s T (mkF m pc Ls []) cs ss Q := by
  obtain ⟨fs, hr, hrun, hended, hW, hsame⟩ := X.leave (v := none) (fun _ => rfl) hlk
  exact ⟨_, _, X.returnOut hx hret (hb hby hd) hr, hrun, hended, _, _, rfl, hq, ⟨_, rfl⟩, hW, hsame.mono hc hs⟩
theorem ziloadN (X : Stand p l e R s m args below meth c T locs cells slots) (hx : p.tables.exec = Jvm.exec) (hby : c.code = bytes) {k : Fin 4} {v : Int32} (hd : decode bytes pc = .ok (.iload_n k, 1)) (hl : Ls[k.val]? = some (.val (.int v))) (r : zEnds p e below s T (mkF m (pc + 1) Ls (.int v :: st)) cs ss Q) : zEnds p e below s T (mkF m pc Ls st) cs ss Q := zstp (fun _ k => XS.iloadN X.here hx rfl (hb hby hd) hl k) r
theorem ziload (X : Stand p l e R s m args below meth c T locs cells slots) (hx : p.tables.exec = Jvm.exec) (hby : c.code = bytes) {k : Nat} {v : Int32} (hd : decode bytes pc = .ok (.iload k, 2)) (hl : Ls[k]? = some (.val (.int v))) (r : zEnds p e below s T (mkF m (pc + 2) Ls (.int v :: st)) cs ss Q) : zEnds p e below s T (mkF m pc Ls st) cs ss Q := zstp (fun _ k => XS.iload X.here hx rfl (hb hby hd) hl k) r
theorem zlloadN (X : Stand p l e R s m args below meth c T locs cells slots) (hx : p.tables.exec = Jvm.exec) (hby : c.code = bytes) {k : Fin 4} {v : Int64} (hd : decode bytes pc = .ok (.lload_n k, 1)) (hl : Ls[k.val]? = some (.val (.long v))) (r : zEnds p e below s T (mkF m (pc + 1) Ls (.long v :: st)) cs ss Q) : zEnds p e below s T (mkF m pc Ls st) cs ss Q := zstp (fun _ k => XS.lloadN X.here hx rfl (hb hby hd) hl k) r
theorem zlload (X : Stand p l e R s m args below meth c T locs cells slots) (hx : p.tables.exec = Jvm.exec) (hby : c.code = bytes) {k : Nat} {v : Int64} (hd : decode bytes pc = .ok (.lload k, 2)) (hl : Ls[k]? = some (.val (.long v))) (r : zEnds p e below s T (mkF m (pc + 2) Ls (.long v :: st)) cs ss Q) : zEnds p e below s T (mkF m pc Ls st) cs ss Q := zstp (fun _ k => XS.lload X.here hx rfl (hb hby hd) hl k) r
theorem zaloadN (X : Stand p l e R s m args below meth c T locs cells slots) (hx : p.tables.exec = Jvm.exec) (hby : c.code = bytes) {k : Fin 4} {v : Value} (hd : decode bytes pc = .ok (.aload_n k, 1)) (hl : Ls[k.val]? = some (.val v)) (hv : v.isRef = true) (r : zEnds p e below s T (mkF m (pc + 1) Ls (v :: st)) cs ss Q) : zEnds p e below s T (mkF m pc Ls st) cs ss Q := zstp (fun _ k => XS.aloadN X.here hx rfl (hb hby hd) hl hv k) r
theorem zaload (X : Stand p l e R s m args below meth c T locs cells slots) (hx : p.tables.exec = Jvm.exec) (hby : c.code = bytes) {k : Nat} {v : Value} (hd : decode bytes pc = .ok (.aload k, 2)) (hl : Ls[k]? = some (.val v)) (hv : v.isRef = true) (r : zEnds p e below s T (mkF m (pc + 2) Ls (v :: st)) cs ss Q) : zEnds p e below s T (mkF m pc Ls st) cs ss Q := zstp (fun _ k => XS.aload X.here hx rfl (hb hby hd) hl hv k) r
theorem zistoreN (X : Stand p l e R s m args below meth c T locs cells slots) (hx : p.tables.exec = Jvm.exec) (hby : c.code = bytes) {k : Fin 4} {v : Int32} (hd : decode bytes pc = .ok (.istore_n k, 1)) (L' : Array Slot) (hl : storeLocals Ls k.val (.int v) = some L') (r : zEnds p e below s T (mkF m (pc + 1) L' st) cs ss Q) : zEnds p e below s T (mkF m pc Ls (.int v :: st)) cs ss Q := zstp (fun _ k => XS.istoreN X.here hx rfl (hb hby hd) rfl hl k) r
theorem zistore (X : Stand p l e R s m args below meth c T locs cells slots) (hx : p.tables.exec = Jvm.exec) (hby : c.code = bytes) {k : Nat} {v : Int32} (hd : decode bytes pc = .ok (.istore k, 2)) (L' : Array Slot) (hl : storeLocals Ls k (.int v) = some L') (r : zEnds p e below s T (mkF m (pc + 2) L' st) cs ss Q) : zEnds p e below s T (mkF m pc Ls (.int v :: st)) cs ss Q := zstp (fun _ k => XS.istore X.here hx rfl (hb hby hd) rfl hl k) r
theorem zlstoreN (X : Stand p l e R s m args below meth c T locs cells slots) (hx : p.tables.exec = Jvm.exec) (hby : c.code = bytes) {k : Fin 4} {v : Int64} (hd : decode bytes pc = .ok (.lstore_n k, 1)) (L' : Array Slot) (hl : storeLocals Ls k.val (.long v) = some L') (r : zEnds p e below s T (mkF m (pc + 1) L' st) cs ss Q) : zEnds p e below s T (mkF m pc Ls (.long v :: st)) cs ss Q := zstp (fun _ k => XS.lstoreN X.here hx rfl (hb hby hd) rfl hl k) r
theorem zlstore (X : Stand p l e R s m args below meth c T locs cells slots) (hx : p.tables.exec = Jvm.exec) (hby : c.code = bytes) {k : Nat} {v : Int64} (hd : decode bytes pc = .ok (.lstore k, 2)) (L' : Array Slot) (hl : storeLocals Ls k (.long v) = some L') (r : zEnds p e below s T (mkF m (pc + 2) L' st) cs ss Q) : zEnds p e below s T (mkF m pc Ls (.long v :: st)) cs ss Q := zstp (fun _ k => XS.lstore X.here hx rfl (hb hby hd) rfl hl k) r
theorem zastoreN (X : Stand p l e R s m args below meth c T locs cells slots) (hx : p.tables.exec = Jvm.exec) (hby : c.code = bytes) {k : Fin 4} {v : Value} (hd : decode bytes pc = .ok (.astore_n k, 1)) (L' : Array Slot) (hv : v.isRef = true) (hl : storeLocals Ls k.val v = some L') (r : zEnds p e below s T (mkF m (pc + 1) L' st) cs ss Q) : zEnds p e below s T (mkF m pc Ls (v :: st)) cs ss Q := zstp (fun _ k => XS.astoreN X.here hx rfl (hb hby hd) rfl hv hl k) r
theorem zastore (X : Stand p l e R s m args below meth c T locs cells slots) (hx : p.tables.exec = Jvm.exec) (hby : c.code = bytes) {k : Nat} {v : Value} (hd : decode bytes pc = .ok (.astore k, 2)) (L' : Array Slot) (hv : v.isRef = true) (hl : storeLocals Ls k v = some L') (r : zEnds p e below s T (mkF m (pc + 2) L' st) cs ss Q) : zEnds p e below s T (mkF m pc Ls (v :: st)) cs ss Q := zstp (fun _ k => XS.astore X.here hx rfl (hb hby hd) rfl hv hl k) r
theorem ziconst (X : Stand p l e R s m args below meth c T locs cells slots) (hx : p.tables.exec = Jvm.exec) (hby : c.code = bytes) {i : Int} (hd : decode bytes pc = .ok (.iconst i, 1)) (z : Int32) (hz : Int32.ofInt i = z) (r : zEnds p e below s T (mkF m (pc + 1) Ls (.int z :: st)) cs ss Q) : zEnds p e below s T (mkF m pc Ls st) cs ss Q := zstp (fun _ k => XS.iconst X.here hx rfl (hb hby hd) (hz ▸ k)) r
theorem zbipush (X : Stand p l e R s m args below meth c T locs cells slots) (hx : p.tables.exec = Jvm.exec) (hby : c.code = bytes) {i : Int} (hd : decode bytes pc = .ok (.bipush i, 2)) (z : Int32) (hz : (Int8.ofInt i).toInt32 = z) (r : zEnds p e below s T (mkF m (pc + 2) Ls (.int z :: st)) cs ss Q) : zEnds p e below s T (mkF m pc Ls st) cs ss Q := zstp (fun _ k => XS.bipush X.here hx rfl (hb hby hd) (hz ▸ k)) r
theorem zsipush (X : Stand p l e R s m args below meth c T locs cells slots) (hx : p.tables.exec = Jvm.exec) (hby : c.code = bytes) {i : Int} (hd : decode bytes pc = .ok (.sipush i, 3)) (z : Int32) (hz : (Int16.ofInt i).toInt32 = z) (r : zEnds p e below s T (mkF m (pc + 3) Ls (.int z :: st)) cs ss Q) : zEnds p e below s T (mkF m pc Ls st) cs ss Q := zstp (fun _ k => XS.sipush X.here hx rfl (hb hby hd) (hz ▸ k)) r
theorem zlconst (X : Stand p l e R s m args below meth c T locs cells slots) (hx : p.tables.exec = Jvm.exec) (hby : c.code = bytes) {i : Fin 2} (hd : decode bytes pc = .ok (.lconst i, 1)) (z : Int64) (hz : Int64.ofNat i = z) (r : zEnds p e below s T (mkF m (pc + 1) Ls (.long z :: st)) cs ss Q) : zEnds p e below s T (mkF m pc Ls st) cs ss Q := zstp (fun _ k => XS.lconst X.here hx rfl (hb hby hd) (hz ▸ k)) r
theorem zaconstNull (X : Stand p l e R s m args below meth c T locs cells slots) (hx : p.tables.exec = Jvm.exec) (hby : c.code = bytes)  (hd : decode bytes pc = .ok (.aconst_null, 1))  (r : zEnds p e below s T (mkF m (pc + 1) Ls (.null :: st)) cs ss Q) : zEnds p e below s T (mkF m pc Ls st) cs ss Q := zstp (fun _ k => XS.aconstNull X.here hx rfl (hb hby hd) k) r
theorem ziadd (X : Stand p l e R s m args below meth c T locs cells slots) (hx : p.tables.exec = Jvm.exec) (hby : c.code = bytes) {x y : Int32} (hd : decode bytes pc = .ok (.iadd, 1)) (z : Int32) (hz : x + y = z) (r : zEnds p e below s T (mkF m (pc + 1) Ls (.int z :: st)) cs ss Q) : zEnds p e below s T (mkF m pc Ls (.int y :: .int x :: st)) cs ss Q := zstp (fun _ k => XS.iadd X.here hx rfl (hb hby hd) rfl (hz ▸ k)) r
theorem zisub (X : Stand p l e R s m args below meth c T locs cells slots) (hx : p.tables.exec = Jvm.exec) (hby : c.code = bytes) {x y : Int32} (hd : decode bytes pc = .ok (.isub, 1)) (z : Int32) (hz : x - y = z) (r : zEnds p e below s T (mkF m (pc + 1) Ls (.int z :: st)) cs ss Q) : zEnds p e below s T (mkF m pc Ls (.int y :: .int x :: st)) cs ss Q := zstp (fun _ k => XS.isub X.here hx rfl (hb hby hd) rfl (hz ▸ k)) r
theorem zimul (X : Stand p l e R s m args below meth c T locs cells slots) (hx : p.tables.exec = Jvm.exec) (hby : c.code = bytes) {x y : Int32} (hd : decode bytes pc = .ok (.imul, 1)) (z : Int32) (hz : x * y = z) (r : zEnds p e below s T (mkF m (pc + 1) Ls (.int z :: st)) cs ss Q) : zEnds p e below s T (mkF m pc Ls (.int y :: .int x :: st)) cs ss Q := zstp (fun _ k => XS.imul X.here hx rfl (hb hby hd) rfl (hz ▸ k)) r
theorem ziand (X : Stand p l e R s m args below meth c T locs cells slots) (hx : p.tables.exec = Jvm.exec) (hby : c.code = bytes) {x y : Int32} (hd : decode bytes pc = .ok (.iand, 1)) (z : Int32) (hz : x &&& y = z) (r : zEnds p e below s T (mkF m (pc + 1) Ls (.int z :: st)) cs ss Q) : zEnds p e below s T (mkF m pc Ls (.int y :: .int x :: st)) cs ss Q := zstp (fun _ k => XS.iand X.here hx rfl (hb hby hd) rfl (hz ▸ k)) r
theorem zishl (X : Stand p l e R s m args below meth c T locs cells slots) (hx : p.tables.exec = Jvm.exec) (hby : c.code = bytes) {x y : Int32} (hd : decode bytes pc = .ok (.ishl, 1)) (z : Int32) (hz : x <<< (y &&& 31) = z) (r : zEnds p e below s T (mkF m (pc + 1) Ls (.int z :: st)) cs ss Q) : zEnds p e below s T (mkF m pc Ls (.int y :: .int x :: st)) cs ss Q := zstp (fun _ k => XS.ishl X.here hx rfl (hb hby hd) rfl (hz ▸ k)) r
theorem zishr (X : Stand p l e R s m args below meth c T locs cells slots) (hx : p.tables.exec = Jvm.exec) (hby : c.code = bytes) {x y : Int32} (hd : decode bytes pc = .ok (.ishr, 1)) (z : Int32) (hz : x >>> (y &&& 31) = z) (r : zEnds p e below s T (mkF m (pc + 1) Ls (.int z :: st)) cs ss Q) : zEnds p e below s T (mkF m pc Ls (.int y :: .int x :: st)) cs ss Q := zstp (fun _ k => XS.ishr X.here hx rfl (hb hby hd) rfl (hz ▸ k)) r
theorem zlsub (X : Stand p l e R s m args below meth c T locs cells slots) (hx : p.tables.exec = Jvm.exec) (hby : c.code = bytes) {x y : Int64} (hd : decode bytes pc = .ok (.lsub, 1)) (z : Int64) (hz : x - y = z) (r : zEnds p e below s T (mkF m (pc + 1) Ls (.long z :: st)) cs ss Q) : zEnds p e below s T (mkF m pc Ls (.long y :: .long x :: st)) cs ss Q := zstp (fun _ k => XS.lsub X.here hx rfl (hb hby hd) rfl (hz ▸ k)) r
theorem zlmul (X : Stand p l e R s m args below meth c T locs cells slots) (hx : p.tables.exec = Jvm.exec) (hby : c.code = bytes) {x y : Int64} (hd : decode bytes pc = .ok (.lmul, 1)) (z : Int64) (hz : x * y = z) (r : zEnds p e below s T (mkF m (pc + 1) Ls (.long z :: st)) cs ss Q) : zEnds p e below s T (mkF m pc Ls (.long y :: .long x :: st)) cs ss Q := zstp (fun _ k => XS.lmul X.here hx rfl (hb hby hd) rfl (hz ▸ k)) r
theorem zineg (X : Stand p l e R s m args below meth c T locs cells slots) (hx : p.tables.exec = Jvm.exec) (hby : c.code = bytes) {x : Int32} (hd : decode bytes pc = .ok (.ineg, 1)) (z : Int32) (hz : -x = z) (r : zEnds p e below s T (mkF m (pc + 1) Ls (.int z :: st)) cs ss Q) : zEnds p e below s T (mkF m pc Ls (.int x :: st)) cs ss Q := zstp (fun _ k => XS.ineg X.here hx rfl (hb hby hd) rfl (hz ▸ k)) r
theorem zlneg (X : Stand p l e R s m args below meth c T locs cells slots) (hx : p.tables.exec = Jvm.exec) (hby : c.code = bytes) {x : Int64} (hd : decode bytes pc = .ok (.lneg, 1)) (z : Int64) (hz : -x = z) (r : zEnds p e below s T (mkF m (pc + 1) Ls (.long z :: st)) cs ss Q) : zEnds p e below s T (mkF m pc Ls (.long x :: st)) cs ss Q := zstp (fun _ k => XS.lneg X.here hx rfl (hb hby hd) rfl (hz ▸ k)) r
theorem zidiv (X : Stand p l e R s m args below meth c T locs cells slots) (hx : p.tables.exec = Jvm.exec) (hby : c.code = bytes) {x y : Int32} (hd : decode bytes pc = .ok (.idiv, 1)) (z : Int32) (hy : y ≠ 0) (hz : x / y = z) (r : zEnds p e below s T (mkF m (pc + 1) Ls (.int z :: st)) cs ss Q) : zEnds p e below s T (mkF m pc Ls (.int y :: .int x :: st)) cs ss Q := zstp (fun _ k => XS.idiv X.here hx rfl (hb hby hd) rfl hy (hz ▸ k)) r
theorem zldiv (X : Stand p l e R s m args below meth c T locs cells slots) (hx : p.tables.exec = Jvm.exec) (hby : c.code = bytes) {x y : Int64} (hd : decode bytes pc = .ok (.ldiv, 1)) (z : Int64) (hy : y ≠ 0) (hz : x / y = z) (r : zEnds p e below s T (mkF m (pc + 1) Ls (.long z :: st)) cs ss Q) : zEnds p e below s T (mkF m pc Ls (.long y :: .long x :: st)) cs ss Q := zstp (fun _ k => XS.ldiv X.here hx rfl (hb hby hd) rfl hy (hz ▸ k)) r
theorem zlrem (X : Stand p l e R s m args below meth c T locs cells slots) (hx : p.tables.exec = Jvm.exec) (hby : c.code = bytes) {x y : Int64} (hd : decode bytes pc = .ok (.lrem, 1)) (z : Int64) (hy : y ≠ 0) (hz : x % y = z) (r : zEnds p e below s T (mkF m (pc + 1) Ls (.long z :: st)) cs ss Q) : zEnds p e below s T (mkF m pc Ls (.long y :: .long x :: st)) cs ss Q := zstp (fun _ k => XS.lrem X.here hx rfl (hb hby hd) rfl hy (by rw [lrem_mod, hz]; exact k)) r
theorem zi2l (X : Stand p l e R s m args below meth c T locs cells slots) (hx : p.tables.exec = Jvm.exec) (hby : c.code = bytes) {v : Int32} (hd : decode bytes pc = .ok (.i2l, 1)) (z : Int64) (hz : v.toInt64 = z) (r : zEnds p e below s T (mkF m (pc + 1) Ls (.long z :: st)) cs ss Q) : zEnds p e below s T (mkF m pc Ls (.int v :: st)) cs ss Q := zstp (fun _ k => XS.i2l X.here hx rfl (hb hby hd) rfl (hz ▸ k)) r
theorem zl2i (X : Stand p l e R s m args below meth c T locs cells slots) (hx : p.tables.exec = Jvm.exec) (hby : c.code = bytes) {v : Int64} (hd : decode bytes pc = .ok (.l2i, 1)) (z : Int32) (hz : v.toInt32 = z) (r : zEnds p e below s T (mkF m (pc + 1) Ls (.int z :: st)) cs ss Q) : zEnds p e below s T (mkF m pc Ls (.long v :: st)) cs ss Q := zstp (fun _ k => XS.l2i X.here hx rfl (hb hby hd) rfl (hz ▸ k)) r
theorem zi2b (X : Stand p l e R s m args below meth c T locs cells slots) (hx : p.tables.exec = Jvm.exec) (hby : c.code = bytes) {v : Int32} (hd : decode bytes pc = .ok (.i2b, 1)) (z : Int32) (hz : v.toInt8.toInt32 = z) (r : zEnds p e below s T (mkF m (pc + 1) Ls (.int z :: st)) cs ss Q) : zEnds p e below s T (mkF m pc Ls (.int v :: st)) cs ss Q := zstp (fun _ k => XS.i2b X.here hx rfl (hb hby hd) rfl (hz ▸ k)) r
theorem zi2c (X : Stand p l e R s m args below meth c T locs cells slots) (hx : p.tables.exec = Jvm.exec) (hby : c.code = bytes) {v : Int32} (hd : decode bytes pc = .ok (.i2c, 1)) (z : Int32) (hz : v.toUInt32.toUInt16.toUInt32.toInt32 = z) (r : zEnds p e below s T (mkF m (pc + 1) Ls (.int z :: st)) cs ss Q) : zEnds p e below s T (mkF m pc Ls (.int v :: st)) cs ss Q := zstp (fun _ k => XS.i2c X.here hx rfl (hb hby hd) rfl (hz ▸ k)) r
theorem zlcmp (X : Stand p l e R s m args below meth c T locs cells slots) (hx : p.tables.exec = Jvm.exec) (hby : c.code = bytes) {x y : Int64} (hd : decode bytes pc = .ok (.lcmp, 1)) (z : Int32) (hz : lcmpW x y = z) (r : zEnds p e below s T (mkF m (pc + 1) Ls (.int z :: st)) cs ss Q) : zEnds p e below s T (mkF m pc Ls (.long y :: .long x :: st)) cs ss Q := zstp (fun _ k => XS.lcmp X.here hx rfl (hb hby hd) rfl (by subst hz; exact k)) r
theorem zdup (X : Stand p l e R s m args below meth c T locs cells slots) (hx : p.tables.exec = Jvm.exec) (hby : c.code = bytes) {x : Value} (hd : decode bytes pc = .ok (.dup, 1)) (hc : x.category = 1) (r : zEnds p e below s T (mkF m (pc + 1) Ls (x :: x :: st)) cs ss Q) : zEnds p e below s T (mkF m pc Ls (x :: st)) cs ss Q := zstp (fun _ k => XS.dup X.here hx rfl (hb hby hd) rfl hc k) r
theorem zpop (X : Stand p l e R s m args below meth c T locs cells slots) (hx : p.tables.exec = Jvm.exec) (hby : c.code = bytes) {x : Value} (hd : decode bytes pc = .ok (.pop, 1)) (hc : x.category = 1) (r : zEnds p e below s T (mkF m (pc + 1) Ls st) cs ss Q) : zEnds p e below s T (mkF m pc Ls (x :: st)) cs ss Q := zstp (fun _ k => XS.pop X.here hx rfl (hb hby hd) rfl hc k) r
theorem zdupX1 (X : Stand p l e R s m args below meth c T locs cells slots) (hx : p.tables.exec = Jvm.exec) (hby : c.code = bytes) {x y : Value} (hd : decode bytes pc = .ok (.dup_x1, 1)) (hc : x.category = 1) (hc' : y.category = 1) (r : zEnds p e below s T (mkF m (pc + 1) Ls (x :: y :: x :: st)) cs ss Q) : zEnds p e below s T (mkF m pc Ls (x :: y :: st)) cs ss Q := zstp (fun _ k => XS.dupX1 X.here hx rfl (hb hby hd) rfl hc hc' k) r
theorem ziinc (X : Stand p l e R s m args below meth c T locs cells slots) (hx : p.tables.exec = Jvm.exec) (hby : c.code = bytes) {k : Nat} {i : Int} {x : Int32} (hd : decode bytes pc = .ok (.iinc k i, 3)) (L' : Array Slot) (hl : Ls[k]? = some (.val (.int x))) (hl' : storeLocals Ls k (.int (x + Int32.ofInt i)) = some L') (r : zEnds p e below s T (mkF m (pc + 3) L' st) cs ss Q) : zEnds p e below s T (mkF m pc Ls st) cs ss Q := zstp (fun _ k => XS.iinc X.here hx rfl (hb hby hd) hl hl' k) r
theorem zgoto (X : Stand p l e R s m args below meth c T locs cells slots) (hx : p.tables.exec = Jvm.exec) (hby : c.code = bytes) {o : Int} (hd : decode bytes pc = .ok (.goto o, 3)) (pc' : Nat) (ho : 0 ≤ (pc : Int) + o) (hp : ((pc : Int) + o).toNat = pc') (r : zEnds p e below s T (mkF m pc' Ls st) cs ss Q) : zEnds p e below s T (mkF m pc Ls st) cs ss Q := zstp (fun _ k => XS.goto X.here hx rfl rfl (hb hby hd) ho hp k) r
theorem zifYes (X : Stand p l e R s m args below meth c T locs cells slots) (hx : p.tables.exec = Jvm.exec) (hby : c.code = bytes) {cd : ClassFile.Cond} {x : Int32} {o : Int} (hd : decode bytes pc = .ok (.ifCond cd o, 3)) (pc' : Nat) (hc : ifCond.holds cd x = true) (ho : 0 ≤ (pc : Int) + o) (hp : ((pc : Int) + o).toNat = pc') (r : zEnds p e below s T (mkF m pc' Ls st) cs ss Q) : zEnds p e below s T (mkF m pc Ls (.int x :: st)) cs ss Q := zstp (fun _ k => XS.ifYes X.here hx rfl rfl (hb hby hd) rfl hc ho hp k) r
theorem zifNo (X : Stand p l e R s m args below meth c T locs cells slots) (hx : p.tables.exec = Jvm.exec) (hby : c.code = bytes) {cd : ClassFile.Cond} {x : Int32} {o : Int} (hd : decode bytes pc = .ok (.ifCond cd o, 3)) (hc : ifCond.holds cd x = false) (r : zEnds p e below s T (mkF m (pc + 3) Ls st) cs ss Q) : zEnds p e below s T (mkF m pc Ls (.int x :: st)) cs ss Q := zstp (fun _ k => XS.ifNo X.here hx rfl (hb hby hd) rfl hc k) r
theorem zicmpYes (X : Stand p l e R s m args below meth c T locs cells slots) (hx : p.tables.exec = Jvm.exec) (hby : c.code = bytes) {cd : ClassFile.Cond} {x y : Int32} {o : Int} (hd : decode bytes pc = .ok (.if_icmp cd o, 3)) (pc' : Nat) (hc : if_icmp.holds cd x y = true) (ho : 0 ≤ (pc : Int) + o) (hp : ((pc : Int) + o).toNat = pc') (r : zEnds p e below s T (mkF m pc' Ls st) cs ss Q) : zEnds p e below s T (mkF m pc Ls (.int y :: .int x :: st)) cs ss Q := zstp (fun _ k => XS.icmpYes X.here hx rfl rfl (hb hby hd) rfl hc ho hp k) r
theorem zicmpNo (X : Stand p l e R s m args below meth c T locs cells slots) (hx : p.tables.exec = Jvm.exec) (hby : c.code = bytes) {cd : ClassFile.Cond} {x y : Int32} {o : Int} (hd : decode bytes pc = .ok (.if_icmp cd o, 3)) (hc : if_icmp.holds cd x y = false) (r : zEnds p e below s T (mkF m (pc + 3) Ls st) cs ss Q) : zEnds p e below s T (mkF m pc Ls (.int y :: .int x :: st)) cs ss Q := zstp (fun _ k => XS.icmpNo X.here hx rfl (hb hby hd) rfl hc k) r
theorem zifnonnullYes (X : Stand p l e R s m args below meth c T locs cells slots) (hx : p.tables.exec = Jvm.exec) (hby : c.code = bytes) {b : Addr} {o : Int} (hd : decode bytes pc = .ok (.ifnonnull o, 3)) (pc' : Nat) (ho : 0 ≤ (pc : Int) + o) (hp : ((pc : Int) + o).toNat = pc') (r : zEnds p e below s T (mkF m pc' Ls st) cs ss Q) : zEnds p e below s T (mkF m pc Ls (.ref b :: st)) cs ss Q := zstp (fun _ k => XS.ifnonnullYes X.here hx rfl rfl (hb hby hd) rfl ho hp k) r
theorem zacmp (X : Stand p l e R s m args below meth c T locs cells slots) (hx : p.tables.exec = Jvm.exec) (hby : c.code = bytes) {cd : ACond} {x y : Value} {o : Int} (hd : decode bytes pc = .ok (.if_acmp cd o, 3)) (pc' : Nat) (same : Bool) (h1 : x.isRef = true) (h2 : y.isRef = true) (hq : decide (x = y) = same) (ho : 0 ≤ (pc : Int) + o) (hp : pc' = if acV cd same = true then ((pc : Int) + o).toNat else pc + 3) (r : zEnds p e below s T (mkF m pc' Ls st) cs ss Q) : zEnds p e below s T (mkF m pc Ls (y :: x :: st)) cs ss Q := zstp (fun _ k => Jvm.RoadKit.acmp X hx rfl h1 h2 rfl (hb hby hd) rfl hq ho hp k) r
theorem ztswIn (X : Stand p l e R s m args below meth c T locs cells slots) (hx : p.tables.exec = Jvm.exec) (hby : c.code = bytes) {dflt low high o : Int} {offs : Array Int} {len : Nat} {i : Int32} (hd : decode bytes pc = .ok (.tableswitch dflt low high offs, len)) (pc' : Nat) (hin : ¬ (i.toInt < low ∨ i.toInt > high)) (hoff : offs[(i.toInt - low).toNat]? = some o) (ho : 0 ≤ (pc : Int) + o) (hp : ((pc : Int) + o).toNat = pc') (r : zEnds p e below s T (mkF m pc' Ls st) cs ss Q) : zEnds p e below s T (mkF m pc Ls (.int i :: st)) cs ss Q := zstp (fun _ k => XS.tswIn X.here hx rfl rfl (hb hby hd) rfl hin hoff ho hp k) r
theorem ztswOut (X : Stand p l e R s m args below meth c T locs cells slots) (hx : p.tables.exec = Jvm.exec) (hby : c.code = bytes) {dflt low high : Int} {offs : Array Int} {len : Nat} {i : Int32} (hd : decode bytes pc = .ok (.tableswitch dflt low high offs, len)) (pc' : Nat) (hout : i.toInt < low ∨ i.toInt > high) (ho : 0 ≤ (pc : Int) + dflt) (hp : ((pc : Int) + dflt).toNat = pc') (r : zEnds p e below s T (mkF m pc' Ls st) cs ss Q) : zEnds p e below s T (mkF m pc Ls (.int i :: st)) cs ss Q := zstp (fun _ k => XS.tswOut X.here hx rfl rfl (hb hby hd) rfl hout ho hp k) r
theorem zldcI (X : Stand p l e R s m args below meth c T locs cells slots) (hx : p.tables.exec = Jvm.exec) (hby : c.code = bytes) {own : String} {i : Nat} (hd : decode bytes pc = .ok (.ldc i, 2)) (z : Int32) (hZ : Z.Warmed39 s.vm) (hown : s.vm.findClass own = some m.cls) (w : (Jvm.Cond.constant own i z).before a0 Z = true) (r : zEnds p e below s T (mkF m (pc + 2) Ls (.int z :: st)) cs ss Q) : zEnds p e below s T (mkF m pc Ls st) cs ss Q := zstp (fun _ k => X.ldcInt hx hown (mvT hZ w) (g := mkF m pc Ls st) rfl (hb hby hd) _ k) r
theorem zldc2J (X : Stand p l e R s m args below meth c T locs cells slots) (hx : p.tables.exec = Jvm.exec) (hby : c.code = bytes) {own : String} {i : Nat} (hd : decode bytes pc = .ok (.ldc2_w i, 3)) (z : Int64) (hZ : Z.Warmed39 s.vm) (hown : s.vm.findClass own = some m.cls) (w : (Jvm.Cond.constantLong own i z).before a0 Z = true) (r : zEnds p e below s T (mkF m (pc + 3) Ls (.long z :: st)) cs ss Q) : zEnds p e below s T (mkF m pc Ls st) cs ss Q := zstp (fun _ k => X.ldc2Long hx hown (mvT hZ w) (g := mkF m pc Ls st) rfl (hb hby hd) _ k) r
theorem zgetstat (X : Stand p l e R s m args below meth c T locs cells slots) (hx : p.tables.exec = Jvm.exec) (hby : c.code = bytes) {own R0 O n d host : String} {i : Nat} (hd : decode bytes pc = .ok (.getstatic i, 3)) (hZ : Z.Warmed39 s.vm) (hown : s.vm.findClass own = some m.cls) (w : (Jvm.Cond.fieldLink own i R0 n d).before a0 Z = true ∨ (Jvm.Cond.fieldLinkNest own i R0 n d host).before a0 Z = true) (via : Via Z R0 O n d) (eT : T.heap = h) {v : Value} (F : Sta Z h O n d v)
    (r : ∀ T', Stand p l e R s m args below meth c T' locs cells slots → T'.heap = h → zEnds p e below s T' (mkF m (pc + 3) Ls (v :: st)) cs ss Q) : zEnds p e below s T (mkF m pc Ls st) cs ss Q := by
  obtain ⟨T', X', e', k⟩ := getS2 X hx hZ hown w via eT F (g := mkF m pc Ls st) rfl (hb hby hd)
  exact zstp k (r T' X' e')
theorem zgetfld (X : Stand p l e R s m args below meth c T locs cells slots) (hx : p.tables.exec = Jvm.exec) (hby : c.code = bytes) {own R0 O n d host : String} {i : Nat} (hd : decode bytes pc = .ok (.getfield i, 3)) (hZ : Z.Warmed39 s.vm) (hown : s.vm.findClass own = some m.cls) (w : (Jvm.Cond.fieldLink own i R0 n d).before a0 Z = true ∨ (Jvm.Cond.fieldLinkNest own i R0 n d host).before a0 Z = true) (via : Via Z R0 O n d) (eT : T.heap = h) {a : Addr} {v : Value} (F : Fld Z h a O n d v)
    (r : ∀ T', Stand p l e R s m args below meth c T' locs cells slots → T'.heap = h → zEnds p e below s T' (mkF m (pc + 3) Ls (v :: st)) cs ss Q) : zEnds p e below s T (mkF m pc Ls (.ref a :: st)) cs ss Q := by
  obtain ⟨T', X', e', k⟩ := getF X hx hZ hown w via eT F (g := mkF m pc Ls (.ref a :: st)) rfl rfl (hb hby hd)
  exact zstp k (r T' X' e')
theorem zputfld (X : Stand p l e R s m args below meth c T locs cells slots) (hx : p.tables.exec = Jvm.exec) (hby : c.code = bytes) {own R0 O n d host C : String} {i kk : Nat} {ty : FieldType} (hd : decode bytes pc = .ok (.putfield i, 3)) (hZ : Z.Warmed39 s.vm) (hown : s.vm.findClass own = some m.cls) (w : (Jvm.Cond.fieldLink own i R0 n d).before a0 Z = true ∨ (Jvm.Cond.fieldLinkNest own i R0 n d host).before a0 Z = true) (via : Via Z R0 O n d) (eT : T.heap = h) {a : Addr} {v old : Value} (F : Fld Z h a O n d old) (E : Exa Z h a C) (L : (Jvm.Cond.lays C O n d).before a0 Z = true ∨ ((Jvm.Cond.laysFinal C O n d).before a0 Z = true ∧ own = O ∧ meth.name = "<init>")) (wi : (Jvm.Cond.instantiable C kk).before a0 Z = true) (hty : parseFieldDescriptor d = some ty) (hn : narrow ty v = v) (hf : fits ty v = true)
    (r : ∀ T' h', Stand p l e R s m args below meth c T' (locs ++ [⟨a, Jvm.RoadKit.slotOf Z O n d⟩]) cells slots → T'.heap = h' → Wr h h' a (Jvm.RoadKit.slotOf Z O n d) v → zEnds p e below s T' (mkF m (pc + 3) Ls st) cs ss Q) : zEnds p e below s T (mkF m pc Ls (v :: .ref a :: st)) cs ss Q := by
  obtain ⟨T', h', X', e', W, k⟩ := putF X hx hZ hown w via eT F E L wi hty hn hf (g := mkF m pc Ls (v :: .ref a :: st)) rfl rfl (hb hby hd)
  exact zstp k (r T' h' X' e' W)
theorem znewobj (X : Stand p l e R s m args below meth c T locs cells slots) (hx : p.tables.exec = Jvm.exec) (hby : c.code = bytes) {own C : String} {i n : Nat} (hd : decode bytes pc = .ok (.new i, 3)) (hZ : Z.Warmed39 s.vm) (hown : s.vm.findClass own = some m.cls) (w : (Jvm.Cond.classLink own i C).before a0 Z = true) (wi : (Jvm.Cond.instantiable C n).before a0 Z = true) (wz : (Jvm.Cond.initialized C).before a0 Z = true) (eT : T.heap = h) (hc : cells + 1 ≤ R.cells) (hl : slots + n ≤ R.slots)
    (r : ∀ T' h' b, Stand p l e R s m args below meth c T' locs (cells + 1) (slots + n) → T'.heap = h' → b = h.size → Ext h h' → Exa Z h' b C → (∀ {O nm d : String} {ty : FieldType}, Laid Z a0 C O nm d → parseFieldDescriptor d = some ty → Fld Z h' b O nm d (defaultValue ty)) → zEnds p e below s T' (mkF m (pc + 3) Ls (.ref b :: st)) cs ss Q) : zEnds p e below s T (mkF m pc Ls st) cs ss Q := by
  obtain ⟨T', h', X', e', E, A, D, -, k⟩ := newO X hx hZ hown w wi wz eT (g := mkF m pc Ls st) rfl (hb hby hd) hc hl
  exact zstp k (r T' h' _ X' e' rfl E A D)
theorem zobjinit (X : Stand p l e R s m args below meth c T locs cells slots) (hx : p.tables.exec = Jvm.exec) (hby : c.code = bytes) {own : String} {i : Nat} (hd : decode bytes pc = .ok (.invokespecial i, 3)) (hZ : Z.Warmed39 s.vm) (hown : s.vm.findClass own = some m.cls) (w1 : (Jvm.Cond.methodLink own i Lib.objectInit).before a0 Z = true) (w2 : (Jvm.Cond.instanceMethod Lib.objectInit).before a0 Z = true) (w3 : (Jvm.Cond.code Lib.objectInit ⟨#[0xb1]⟩ 1 none).before a0 Z = true) (eT : T.heap = h) {nl : Nat} (hmx : c.maxLocals = nl) (W : Nat) {a : Addr}
    (r : ∀ T', Stand p l e R s m args below meth c T' locs cells slots → T'.heap = h → zEnds p e below s T' (mkF m (pc + 3) Ls st) cs ss Q)
    (hml : Ls.size = nl := by rfl) (hW : (st.map fun v => v.category).sum ≤ W := by exact Nat.le_of_eq rfl) (hf : 1 ≤ R.frames := by first | decide | omega | (dsimp only; omega)) (hl : W + 12 ≤ R.locals := by first | decide | omega | (dsimp only; omega)) : zEnds p e below s T (mkF m pc Ls (.ref a :: st)) cs ss Q := by
  obtain ⟨T', X', e', k⟩ := initO X hx hZ hown w1 w2 w3 eT (g := mkF m pc Ls (.ref a :: st)) rfl (hml.trans hmx.symm) rfl (hb hby hd) hf (W := W) (by show 2 * 0 + _ ≤ _; rw [Nat.mul_zero, Nat.zero_add]; exact hW) hl
  exact zstp k (r T' X' e')
def zLst (Z : State) (h : Heap) (a : Addr) (ty : FieldType) (vs : List Value) : Prop := ∃ cl : Cell, Arr Z h a cl ty ∧ cl.slots.toList = vs
theorem zLst.ext {h' : Heap} {a : Addr} {ty : FieldType} {vs : List Value} (F : zLst Z h a ty vs) (E : Ext h h') : zLst Z h' a ty vs := by obtain ⟨c, A, r⟩ := F; exact ⟨c, A.ext E, r⟩
theorem zLst.lt {a : Addr} {ty : FieldType} {vs : List Value} (F : zLst Z h a ty vs) : a < h.size := by obtain ⟨c, A, r⟩ := F; exact A.lt
theorem zLst.other {h' : Heap} {a b : Addr} {sl : Nat} {v : Value} {ty : FieldType} {vs : List Value} (F : zLst Z h b ty vs) (W : Wr h h' a sl v) (q : b ≠ a) : zLst Z h' b ty vs := by obtain ⟨c, A, r⟩ := F; exact ⟨c, A.other W q, r⟩
theorem zLst.keep {h' : Heap} {a : Addr} {ty : FieldType} {vs : List Value} {ws : List Addr} (F : zLst Z h a ty vs) (K : Keep h h' ws) (q : a ∉ ws) : zLst Z h' a ty vs := by obtain ⟨c, A, r⟩ := F; exact ⟨c, ⟨K.2.1 a c A.1 q, A.2⟩, r⟩
theorem zLst.same {h' : Heap} {a : Addr} {sl : Nat} {v : Value} {ty : FieldType} {vs : List Value} (F : zLst Z h a ty vs) (W : Wr h h' a sl v) : zLst Z h' a ty (vs.set sl v) := by
  obtain ⟨c, A, r⟩ := F
  refine ⟨_, A.same W, ?_⟩
  show (c.slots.setIfInBounds sl v).toList = _
  rw [Array.toList_setIfInBounds, r]
theorem zlst_in {cl : Cell} {vs : List Value} {j : Int32} (r : cl.slots.toList = vs) (hj : ¬ j < 0) (hlt : j.toNatClampNeg < vs.length) : ¬ (j < 0 ∨ cl.slots.size ≤ j.toNatClampNeg) := by
  rintro (q | q)
  · exact hj q
  · rw [← r, Array.length_toList] at hlt; exact absurd q (Nat.not_le.mpr hlt)
theorem zlst_at {cl : Cell} {vs : List Value} {k : Nat} {v : Value} (r : cl.slots.toList = vs) (hv : vs[k]? = some v) : cl.slots[k]? = some v := by
  rw [← r, Array.getElem?_toList] at hv; exact hv
theorem zbaload (X : Stand p l e R s m args below meth c T locs cells slots) (hx : p.tables.exec = Jvm.exec) (hby : c.code = bytes) (hd : decode bytes pc = .ok (.baload, 1)) (hZ : Z.Warmed39 s.vm) (eT : T.heap = h) {a : Addr} {vs : List Value} (A : zLst Z h a .byte vs) {j : Int32} (hj : ¬ j < 0) {v : Value} (hv : vs[j.toNatClampNeg]? = some v)
    (r : zEnds p e below s T (mkF m (pc + 1) Ls (v :: st)) cs ss Q) : zEnds p e below s T (mkF m pc Ls (.int j :: .ref a :: st)) cs ss Q := by
  obtain ⟨cl, A, q⟩ := A
  exact zstp (fun _ k => X.baloadBytes hx (by rw [eT]; exact A.1) (State.isArrayOf_alike hZ.alike A.2.1) A.2.2 (zlst_in q hj (List.getElem?_eq_some_iff.mp hv).1) (zlst_at q hv) (g := mkF m pc Ls (.int j :: .ref a :: st)) rfl rfl (hb hby hd) _ k) r
theorem zaaload (X : Stand p l e R s m args below meth c T locs cells slots) (hx : p.tables.exec = Jvm.exec) (hby : c.code = bytes) (hd : decode bytes pc = .ok (.aaload, 1)) (hZ : Z.Warmed39 s.vm) (eT : T.heap = h) {a : Addr} {vs : List Value} {ty : FieldType} (hty : ty.isReference = true) (A : zLst Z h a ty vs) {j : Int32} (hj : ¬ j < 0) {v : Value} (hv : vs[j.toNatClampNeg]? = some v)
    (r : zEnds p e below s T (mkF m (pc + 1) Ls (v :: st)) cs ss Q) : zEnds p e below s T (mkF m pc Ls (.int j :: .ref a :: st)) cs ss Q := by
  obtain ⟨cl, A, q⟩ := A
  exact zstp (fun _ k => X.aaload hx (by rw [eT]; exact A.1) (State.isArrayOf_alike hZ.alike A.2.1) hty A.2.2 (zlst_in q hj (List.getElem?_eq_some_iff.mp hv).1) (zlst_at q hv) (g := mkF m pc Ls (.int j :: .ref a :: st)) rfl rfl (hb hby hd) _ k) r
theorem zalenC (X : Stand p l e R s m args below meth c T locs cells slots) (hx : p.tables.exec = Jvm.exec) (hby : c.code = bytes) (hd : decode bytes pc = .ok (.arraylength, 1)) (hZ : Z.Warmed39 s.vm) (eT : T.heap = h) {a : Addr} {cl : Cell} {ty : FieldType} (A : Arr Z h a cl ty) (z : Int32) (hz : cl.slots.size.toInt32 = z)
    (r : zEnds p e below s T (mkF m (pc + 1) Ls (.int z :: st)) cs ss Q) : zEnds p e below s T (mkF m pc Ls (.ref a :: st)) cs ss Q :=
  zstp (fun _ k => X.arraylength hx (by rw [eT]; exact A.1) (State.isArrayOf_alike hZ.alike A.2.1) (g := mkF m pc Ls (.ref a :: st)) rfl rfl (hb hby hd) _ (hz ▸ k)) r
theorem zbastore (X : Stand p l e R s m args below meth c T locs cells slots) (hx : p.tables.exec = Jvm.exec) (hby : c.code = bytes) (hd : decode bytes pc = .ok (.bastore, 1)) (hZ : Z.Warmed39 s.vm) (eT : T.heap = h) {a : Addr} {vs : List Value} (A : zLst Z h a .byte vs) {j x : Int32} (hj : ¬ j < 0) (hlt : j.toNatClampNeg < vs.length) (x' : Int32) (hx' : nar .byte x = x')
    (r : ∀ T' h', Stand p l e R s m args below meth c T' (locs ++ [⟨a, j.toNatClampNeg⟩]) cells slots → T'.heap = h' → Wr h h' a j.toNatClampNeg (.int x') → zLst Z h' a .byte (vs.set j.toNatClampNeg (.int x')) → zEnds p e below s T' (mkF m (pc + 1) Ls st) cs ss Q) : zEnds p e below s T (mkF m pc Ls (.int x :: .int j :: .ref a :: st)) cs ss Q := by
  obtain ⟨cl, A', q⟩ := A
  subst hx'
  obtain ⟨T', h', X', e', W, k⟩ := stB X hx hZ eT A' (j := j) (x := x) (zlst_in q hj hlt) (g := mkF m pc Ls (.int x :: .int j :: .ref a :: st)) rfl rfl (hb hby hd)
  exact zstp k (r T' h' X' e' W (zLst.same ⟨cl, A', q⟩ W))
def zLstR (Z : State) (h : Heap) (a : Addr) (C : String) (vs : List Value) : Prop := ∃ cl : Cell, Arr Z h a cl (.object C) ∧ Ovr Z cl.cls C ∧ cl.slots.toList = vs
theorem zLstR.lst {a : Addr} {C : String} {vs : List Value} (F : zLstR Z h a C vs) : zLst Z h a (.object C) vs := by obtain ⟨c, A, -, r⟩ := F; exact ⟨c, A, r⟩
theorem zLstR.ext {h' : Heap} {a : Addr} {C : String} {vs : List Value} (F : zLstR Z h a C vs) (E : Ext h h') : zLstR Z h' a C vs := by obtain ⟨c, A, r⟩ := F; exact ⟨c, A.ext E, r⟩
theorem zLstR.lt {a : Addr} {C : String} {vs : List Value} (F : zLstR Z h a C vs) : a < h.size := by obtain ⟨c, A, r⟩ := F; exact A.lt
theorem zLstR.other {h' : Heap} {a b : Addr} {sl : Nat} {v : Value} {C : String} {vs : List Value} (F : zLstR Z h b C vs) (W : Wr h h' a sl v) (q : b ≠ a) : zLstR Z h' b C vs := by obtain ⟨c, A, r⟩ := F; exact ⟨c, A.other W q, r⟩
theorem zLstR.keep {h' : Heap} {a : Addr} {C : String} {vs : List Value} {ws : List Addr} (F : zLstR Z h a C vs) (K : Keep h h' ws) (q : a ∉ ws) : zLstR Z h' a C vs := by obtain ⟨c, A, r⟩ := F; exact ⟨c, ⟨K.2.1 a c A.1 q, A.2⟩, r⟩
theorem zLstR.same {h' : Heap} {a : Addr} {sl : Nat} {v : Value} {C : String} {vs : List Value} (F : zLstR Z h a C vs) (W : Wr h h' a sl v) : zLstR Z h' a C (vs.set sl v) := by
  obtain ⟨c, A, O, r⟩ := F
  refine ⟨_, A.same W, O, ?_⟩
  show (c.slots.setIfInBounds sl v).toList = _
  rw [Array.toList_setIfInBounds, r]
theorem zaastore (X : Stand p l e R s m args below meth c T locs cells slots) (hx : p.tables.exec = Jvm.exec) (hby : c.code = bytes) (hd : decode bytes pc = .ok (.aastore, 1)) (hZ : Z.Warmed39 s.vm) (eT : T.heap = h) {a y : Addr} {C : String} {vs : List Value} (A : zLstR Z h a C vs) {j : Int32} (hj : ¬ j < 0) (hlt : j.toNatClampNeg < vs.length) (I : Ins Z h y C true)
    (r : ∀ T' h', Stand p l e R s m args below meth c T' (locs ++ [⟨a, j.toNatClampNeg⟩]) cells slots → T'.heap = h' → Wr h h' a j.toNatClampNeg (.ref y) → zLstR Z h' a C (vs.set j.toNatClampNeg (.ref y)) → zEnds p e below s T' (mkF m (pc + 1) Ls st) cs ss Q) : zEnds p e below s T (mkF m pc Ls (.ref y :: .int j :: .ref a :: st)) cs ss Q := by
  obtain ⟨cl, A', O, q⟩ := A
  obtain ⟨T', h', X', e', W, k⟩ := stR X hx hZ eT A' (j := j) (v := .ref y) (zlst_in q hj hlt) rfl (Sto.of A' O I) (g := mkF m pc Ls (.ref y :: .int j :: .ref a :: st)) rfl rfl (hb hby hd)
  exact zstp k (r T' h' X' e' W (zLstR.same ⟨cl, A', O, q⟩ W))
theorem zcalls (X : Stand p l e R s m args below meth c T locs cells slots) (hx : p.tables.exec = Jvm.exec) (hby : c.code = bytes) {own : String} {i : Nat} {y : MethodName} {by' : ByteArray} {maxL : Nat} {rt : Option FieldType} {rm : Room} {argsL : List Value} {Q' : Option Value → Heap → List Loc → Prop} (hd : decode bytes pc = .ok (.invokestatic i, 3)) (hZ : Z.Warmed39 s.vm) (hown : s.vm.findClass own = some m.cls) (w1 : (Jvm.Cond.methodLink own i y).before a0 Z = true) (w2 : (Jvm.Cond.static y).before a0 Z = true) (w3 : (Jvm.Cond.initialized y.cls).before a0 Z = true) (w4 : (Jvm.Cond.code y by' maxL rt).before a0 Z = true) (eT : T.heap = h)
    (con : zCon l Z y by' maxL rt [] rm argsL.toArray h Q') {nl : Nat} (hmx : c.maxLocals = nl) (W : Nat) {ps : List FieldType} {rv : Option FieldType} (hp : parseMethodDescriptor y.desc = some ⟨ps, rv⟩) {S0 : List Value}
    (r : ∀ T' h' v L, T'.heap = h' → Stand p l e R s m args below meth c T' (locs ++ L) (cells + rm.cells) (slots + rm.slots) → Q' v h' L → zEnds p e below s T' (mkF m (pc + 3) Ls (v.toList ++ st)) cs ss Q)
    (hy : y.cls ≠ "java/lang/invoke/MethodHandle" ∧ y.cls ≠ "java/lang/invoke/VarHandle" := by decide) (hml : Ls.size = nl := by rfl) (hW : (st.map fun v => v.category).sum ≤ W := by exact Nat.le_of_eq rfl) (hf : rm.frames + 1 ≤ R.frames := by first | decide | omega | (dsimp only; omega)) (hl : W + (maxL + 11) + rm.locals ≤ R.locals := by first | decide | omega | (dsimp only; omega)) (hcl : cells + rm.cells ≤ R.cells := by first | decide | omega | (dsimp only; omega)) (hsl : slots + rm.slots ≤ R.slots := by first | decide | omega | (dsimp only; omega)) (hn : argsL.length = ps.length := by rfl) (hS : S0 = argsL.reverse ++ st := by rfl) : zEnds p e below s T (mkF m pc Ls S0) cs ss Q := by
  obtain ⟨v, _, ⟨T', L', k', n'⟩, -, X', ⟨L, hq, l1, l2, l3⟩, k⟩ := Jvm.LawKit.callS X hx (y := y) hown (mvT hZ w1) (mvT hZ w2) (mvT hZ w3) (mvT hZ w4) hy (backOf (W := W) con hZ w4 w3 hf hl) (g := mkF m pc Ls S0) rfl (hml.trans hmx.symm) (argsL := argsL) (rest := st) (lenOf hp hn) hS (by show 2 * 0 + _ ≤ _; rw [Nat.mul_zero, Nat.zero_add]; exact hW) (hb hby hd) (fun _ _ => ⟨rfl, eT, hcl, hsl⟩)
  dsimp only [Pt.U, Pt.locs, Pt.cells, Pt.slots] at X' l1 l2 l3 k hq
  subst l1 l2 l3
  exact zstp k (r T' _ v L rfl X' hq)
theorem zcallv (X : Stand p l e R s m args below meth c T locs cells slots) (hx : p.tables.exec = Jvm.exec) (hby : c.code = bytes) {own C : String} {i : Nat} {y z : MethodName} {by' : ByteArray} {maxL : Nat} {rt : Option FieldType} {rm : Room} {a : Addr} {argsL : List Value} {Q' : Option Value → Heap → List Loc → Prop} (hd : decode bytes pc = .ok (.invokevirtual i, 3)) (hZ : Z.Warmed39 s.vm) (hown : s.vm.findClass own = some m.cls) (w1 : (Jvm.Cond.methodLink own i y).before a0 Z = true) (w2 : (Jvm.Cond.declares y).before a0 Z = true) (hnf : NotFace s y) (w3 : (Jvm.Cond.selects C y z).before a0 Z = true) (w4 : (Jvm.Cond.instanceMethod z).before a0 Z = true) (w5 : (Jvm.Cond.code z by' maxL rt).before a0 Z = true) (w6 : (Jvm.Cond.initialized z.cls).before a0 Z = true) (eT : T.heap = h) (E : Exa Z h a C)
    (con : zCon l Z z by' maxL rt [] rm (.ref a :: argsL).toArray h Q') {nl : Nat} (hmx : c.maxLocals = nl) (W : Nat) {ps : List FieldType} {rv : Option FieldType} (hp : parseMethodDescriptor y.desc = some ⟨ps, rv⟩) {S0 : List Value}
    (r : ∀ T' h' v L, T'.heap = h' → Stand p l e R s m args below meth c T' (locs ++ L) (cells + rm.cells) (slots + rm.slots) → Q' v h' L → zEnds p e below s T' (mkF m (pc + 3) Ls (v.toList ++ st)) cs ss Q)
    (hy : y.cls ≠ "java/lang/invoke/MethodHandle" ∧ y.cls ≠ "java/lang/invoke/VarHandle" := by decide) (hml : Ls.size = nl := by rfl) (hW : (st.map fun v => v.category).sum ≤ W := by exact Nat.le_of_eq rfl) (hf : rm.frames + 1 ≤ R.frames := by first | decide | omega | (dsimp only; omega)) (hl : W + (maxL + 11) + rm.locals ≤ R.locals := by first | decide | omega | (dsimp only; omega)) (hcl : cells + rm.cells ≤ R.cells := by first | decide | omega | (dsimp only; omega)) (hsl : slots + rm.slots ≤ R.slots := by first | decide | omega | (dsimp only; omega)) (hn : argsL.length = ps.length := by rfl) (hS : S0 = argsL.reverse ++ .ref a :: st := by rfl) : zEnds p e below s T (mkF m pc Ls S0) cs ss Q := by
  obtain ⟨_, _, qa, -, qc⟩ := isOf hZ eT E
  obtain ⟨v, _, ⟨T', L', k', n'⟩, -, X', ⟨L, hq, l1, l2, l3⟩, k⟩ := X.virtualBack hx (y := y) (z := z) hown (mvT hZ w1) (mvT hZ w2) hnf (mvT hZ w3) (mvT hZ w4) hy (backOf (W := W) con hZ w5 w6 hf hl) qa qc (g := mkF m pc Ls S0) rfl (hml.trans hmx.symm) (Steps.refl _) (argsL := argsL) (rest := st) (lenOf hp hn) hS (by show 2 * 0 + _ ≤ _; rw [Nat.mul_zero, Nat.zero_add]; exact hW) (hb hby hd) (fun _ _ => ⟨rfl, eT, hcl, hsl⟩)
  dsimp only [Pt.U, Pt.locs, Pt.cells, Pt.slots] at X' l1 l2 l3 k hq
  subst l1 l2 l3
  exact zstp (fun _ q => k.trans q) (r T' _ v L rfl X' hq)
theorem zcallsp (X : Stand p l e R s m args below meth c T locs cells slots) (hx : p.tables.exec = Jvm.exec) (hby : c.code = bytes) {own : String} {i : Nat} {y : MethodName} {by' : ByteArray} {maxL : Nat} {rm : Room} {a : Addr} {argsL : List Value} {Q' : Option Value → Heap → List Loc → Prop} (hd : decode bytes pc = .ok (.invokespecial i, 3)) (hZ : Z.Warmed39 s.vm) (hown : s.vm.findClass own = some m.cls) (hyn : y.name = "<init>") (w1 : (Jvm.Cond.methodLink own i y).before a0 Z = true) (w2 : (Jvm.Cond.instanceMethod y).before a0 Z = true) (w3 : (Jvm.Cond.code y by' maxL none).before a0 Z = true) (w4 : (Jvm.Cond.initialized y.cls).before a0 Z = true) (eT : T.heap = h)
    (con : zCon l Z y by' maxL none [] rm (.ref a :: argsL).toArray h Q') {nl : Nat} (hmx : c.maxLocals = nl) (W : Nat) {ps : List FieldType} {rv : Option FieldType} (hp : parseMethodDescriptor y.desc = some ⟨ps, rv⟩) {S0 : List Value}
    (r : ∀ T' h' v L, T'.heap = h' → Stand p l e R s m args below meth c T' (locs ++ L) (cells + rm.cells) (slots + rm.slots) → Q' v h' L → zEnds p e below s T' (mkF m (pc + 3) Ls (v.toList ++ st)) cs ss Q)
    (hy : y.cls ≠ "java/lang/invoke/MethodHandle" ∧ y.cls ≠ "java/lang/invoke/VarHandle" := by decide) (hml : Ls.size = nl := by rfl) (hW : (st.map fun v => v.category).sum ≤ W := by exact Nat.le_of_eq rfl) (hf : rm.frames + 1 ≤ R.frames := by first | decide | omega | (dsimp only; omega)) (hl : W + (maxL + 11) + rm.locals ≤ R.locals := by first | decide | omega | (dsimp only; omega)) (hcl : cells + rm.cells ≤ R.cells := by first | decide | omega | (dsimp only; omega)) (hsl : slots + rm.slots ≤ R.slots := by first | decide | omega | (dsimp only; omega)) (hn : argsL.length = ps.length := by rfl) (hS : S0 = argsL.reverse ++ .ref a :: st := by rfl) : zEnds p e below s T (mkF m pc Ls S0) cs ss Q := by
  obtain ⟨v, _, ⟨T', L', k', n'⟩, -, X', ⟨L, hq, l1, l2, l3⟩, k⟩ := X.specialBack hx (y := y) hyn hown (mvT hZ w1) (mvT hZ w2) (mvT hZ w3) hy (backOf (W := W) con hZ w3 w4 hf hl) (g := mkF m pc Ls S0) rfl (hml.trans hmx.symm) (Steps.refl _) (a := a) (argsL := argsL) (rest := st) (lenOf hp hn) hS (by show 2 * 0 + _ ≤ _; rw [Nat.mul_zero, Nat.zero_add]; exact hW) (hb hby hd) (fun _ _ => ⟨rfl, eT, hcl, hsl⟩)
  dsimp only [Pt.U, Pt.locs, Pt.cells, Pt.slots] at X' l1 l2 l3 k hq
  subst l1 l2 l3
  exact zstp (fun _ q => k.trans q) (r T' _ v L rfl X' hq)
theorem zpureK {w : Option Value} {rm : Room} (hr : rm.cells = 0 ∧ rm.slots = 0) (r : ∀ T', Stand p l e R s m args below meth c T' locs cells slots → T'.heap = h → zEnds p e below s T' (mkF m pc Ls (w.toList ++ st)) cs ss Q) :
    ∀ T' h' v L, T'.heap = h' → Stand p l e R s m args below meth c T' (locs ++ L) (cells + rm.cells) (slots + rm.slots) → zSame w h v h' L → zEnds p e below s T' (mkF m pc Ls (v.toList ++ st)) cs ss Q := by
  rintro T' h' v L e' X ⟨rfl, rfl, rfl⟩
  rw [hr.1, hr.2, List.append_nil] at X
  exact r T' X e'
theorem zsz {n0 : Nat} (O : Old Z n0 h) : n0 ≤ h.size := by rw [← O.1]; exact O.2.1
end Own
end Jvm.OwnKit
namespace Jvm.OwnKit
open Sem ClassFile Op Lib Jvm.Stand Jvm.Free Jvm.LawKit Jvm.RoadKit
section Sb
variable {p : Program} {l : Launch} {e : Env} {R : Room} {s : State} {m : MethodId} {args : Array Value} {below : List Frame} {meth : Method} {c : Code} {T : State} {locs : List Loc} {cells slots : Nat} {Z : State} {a0 : Array Value} {h h' : Heap} {bytes : ByteArray} {pc : Nat} {Ls : Array Slot} {st : List Value} {cs ss : Nat} {Q : Option Value → Heap → List Loc → Prop}
theorem zofN_toInt {n : Nat} (q : n < 2147483648) : (Int32.ofNat n).toInt = n := Int32.toInt_ofNat_small q
theorem zofN_clamp {n : Nat} (q : n < 2147483648) : (Int32.ofNat n).toNatClampNeg = n := by
  simp only [Int32.toNatClampNeg, zofN_toInt q]; rfl
theorem zofN_nn {n : Nat} (q : n < 2147483648) : ¬ Int32.ofNat n < 0 := by
  rw [Int32.lt_iff_toInt_lt, zofN_toInt q]; show ¬ (n : Int) < 0; omega
theorem zofN_lt {a b : Nat} (qa : a < 2147483648) (qb : b < 2147483648) : (Int32.ofNat a < Int32.ofNat b) = (a < b) := by
  rw [Int32.lt_iff_toInt_lt, zofN_toInt qa, zofN_toInt qb]; exact propext (by omega)
theorem zofN_eq {a b : Nat} (qa : a < 2147483648) (qb : b < 2147483648) : (Int32.ofNat a = Int32.ofNat b) = (a = b) := by
  refine propext ⟨fun q => ?_, fun q => by rw [q]⟩
  have := congrArg Int32.toInt q
  rw [zofN_toInt qa, zofN_toInt qb] at this; omega
theorem zofN_add (a b : Nat) : Int32.ofNat a + Int32.ofNat b = Int32.ofNat (a + b) := (Int32.ofNat_add a b).symm
theorem zofN_sub {a b : Nat} (q : b ≤ a) : Int32.ofNat a - Int32.ofNat b = Int32.ofNat (a - b) := (Int32.ofNat_sub a b q).symm
theorem zofN_sub_le {m c : Nat} (q : m ≤ c) (hc : c < 2147483648) : ¬ (0 : Int32) < Int32.ofNat m - Int32.ofNat c := by
  have e : Int32.ofNat m - Int32.ofNat c = -(Int32.ofNat (c - m)) := by
    rw [← zofN_sub q]; exact (Int32.neg_sub ..).symm
  rw [e, Int32.lt_iff_toInt_lt, Int32.toInt_neg, zofN_toInt (by omega)]
  show ¬ (0 : Int) < _
  rw [Int.bmod_eq_of_le (by omega) (by omega)]; omega
theorem zcopy_ext (ys : List Int8) {n : Nat} (q : ys.length ≤ n) : List.take 0 (List.replicate n (0 : Int8)) ++ List.take (min ys.length n) (List.drop 0 ys) ++ List.drop (0 + min ys.length n) (List.replicate n 0) = ys ++ List.replicate (n - ys.length) 0 := by
  rw [Nat.min_eq_left q, List.take_zero, List.nil_append, List.drop_zero, List.take_length, List.drop_replicate, Nat.zero_add]
theorem zcopy_range (ys : List Int8) {n : Nat} (q : n ≤ ys.length) : List.take 0 (List.replicate n (0 : Int8)) ++ List.take (min ys.length n) (List.drop 0 ys) ++ List.drop (0 + min ys.length n) (List.replicate n 0) = ys.take n := by
  rw [Nat.min_eq_right q, List.take_zero, List.nil_append, List.drop_zero, List.drop_replicate, Nat.zero_add, Nat.sub_self, List.replicate_zero, List.append_nil]
theorem zput_tail (bs jk zs xs : List Int8) : List.take bs.length (bs ++ jk ++ zs) ++ xs ++ List.drop (bs.length + xs.length) (bs ++ jk ++ zs) = bs ++ xs ++ List.drop xs.length (jk ++ zs) := by
  rw [List.append_assoc bs jk zs, List.take_left, ← List.drop_drop, List.drop_left]
theorem zput_len {bs jk zs xs : List Int8} (q : bs.length + xs.length ≤ (bs ++ jk ++ zs).length) : (bs ++ xs ++ List.drop xs.length (jk ++ zs)).length = (bs ++ jk ++ zs).length := by
  simp only [List.length_append, List.length_drop] at q ⊢; omega
theorem zshr0 (x : Int32) : x >>> ((0 : Int32) &&& 31) = x := by
  have : ((0 : Int32) &&& 31) = 0 := by decide
  rw [this]; simp
theorem zshl0 (x : Int32) : x <<< ((0 : Int32) &&& 31) = x := by
  have : ((0 : Int32) &&& 31) = 0 := by decide
  rw [this]; simp
def zOd (Z : State) (n0 : Nat) (h : Heap) : Prop := Z.heap.size ≤ n0 ∧ n0 ≤ h.size ∧ Ext Z.heap h
theorem zOd.ext {n0 : Nat} (O : zOd Z n0 h) (E : Ext h h') : zOd Z n0 h' := ⟨O.1, Nat.le_trans O.2.1 E.1, Nat.le_trans O.2.2.1 E.1, fun x c q => E.2 x c (O.2.2.2 x c q)⟩
theorem zOd.keep {n0 : Nat} {ws : List Addr} (O : zOd Z n0 h) (K : Keep h h' ws) (q : ∀ x ∈ ws, n0 ≤ x) : zOd Z n0 h' := ⟨O.1, Nat.le_trans O.2.1 K.1, Nat.le_trans O.2.2.1 K.1, fun x c r => K.2.1 x c (O.2.2.2 x c r) fun z => absurd (Nat.lt_of_lt_of_le (Array.getElem?_eq_some_iff.mp r).1 O.1) (Nat.not_lt.mpr (q x z))⟩
theorem zOd.wr {n0 : Nat} {a : Addr} {sl : Nat} {v : Value} (O : zOd Z n0 h) (W : Wr h h' a sl v) (q : n0 ≤ a) : zOd Z n0 h' := O.keep (Keep.of_wr W) (allS q all0)
theorem zodsz {n0 : Nat} (O : zOd Z n0 h) : n0 ≤ h.size := O.2.1
def zbv (b : Int8) : Value := .int b.toInt32
def zBt (Z : State) (h : Heap) (a : Addr) (bs : List Int8) : Prop := zLst Z h a .byte (bs.map zbv)
theorem zBt.ext {a : Addr} {bs : List Int8} (B : zBt Z h a bs) (E : Ext h h') : zBt Z h' a bs := zLst.ext B E
theorem zBt.lt {a : Addr} {bs : List Int8} (B : zBt Z h a bs) : a < h.size := zLst.lt B
theorem zBt.other {a b : Addr} {sl : Nat} {v : Value} {bs : List Int8} (B : zBt Z h b bs) (W : Wr h h' a sl v) (q : b ≠ a) : zBt Z h' b bs := zLst.other B W q
theorem zBt.keep {a : Addr} {ws : List Addr} {bs : List Int8} (B : zBt Z h a bs) (K : Keep h h' ws) (q : a ∉ ws) : zBt Z h' a bs := zLst.keep B K q
theorem zbv_fits (b : Int8) : fits .byte (zbv b) = true := SBG.fits_of_int8 b
theorem zbv_getD_fits (bs : List Int8) (i : Nat) : fits .byte ((bs.map zbv).getD i (.int 0)) = true := by
  rw [List.getD_eq_getElem?_getD, List.getElem?_map]
  cases bs[i]? with
  | none => decide
  | some b => exact zbv_fits b
theorem zBt.arv {a : Addr} {bs : List Int8} (B : zBt Z h a bs) (q : bs.length < 2147483648) : ∃ k, Arv Z h a k .byte (Int32.ofNat bs.length) (bs.map zbv) (.int 0) := by
  obtain ⟨cl, A, r⟩ := B
  have zsz : cl.slots.size = bs.length := by rw [← Array.length_toList, r, List.length_map]
  refine ⟨cl.cls, cl, A, rfl, by rw [zofN_clamp q, zsz], zofN_nn q, fun k hk => ?_, fun i hi => zbv_getD_fits bs i⟩
  rw [← Array.getElem?_toList, r, List.getD_eq_getElem?_getD]
  rw [zsz] at hk
  have : k < (bs.map zbv).length := by rw [List.length_map]; exact hk
  rw [List.getElem?_eq_getElem this]; rfl
theorem zBt.of_arv {a : Addr} {bs : List Int8} {k : ClassId} {z : Int32} {d : Value} (A : Arv Z h a k .byte z (bs.map zbv) d) (q : z.toNatClampNeg = bs.length) : zBt Z h a bs := by
  obtain ⟨cl, A, -, S, -, H, -⟩ := A
  refine ⟨cl, A, ?_⟩
  apply List.ext_getElem?
  intro i
  rw [Array.getElem?_toList]
  by_cases hi : i < cl.slots.size
  · rw [H i hi, List.getD_eq_getElem?_getD]
    have : i < (bs.map zbv).length := by rw [List.length_map, ← q, ← S]; exact hi
    rw [List.getElem?_eq_getElem this]; rfl
  · rw [Array.getElem?_eq_none (by omega), List.getElem?_eq_none (by rw [List.length_map, ← q, ← S]; omega)]
theorem zalenB (X : Stand p l e R s m args below meth c T locs cells slots) (hx : p.tables.exec = Jvm.exec) (hby : c.code = bytes) (hd : decode bytes pc = .ok (.arraylength, 1)) (hZ : Z.Warmed39 s.vm) (eT : T.heap = h) {a : Addr} {bs : List Int8} (B : zBt Z h a bs) (n : Nat) (hn : bs.length = n)
    (r : zEnds p e below s T (mkF m (pc + 1) Ls (.int (Int32.ofNat n) :: st)) cs ss Q) : zEnds p e below s T (mkF m pc Ls (.ref a :: st)) cs ss Q := by
  obtain ⟨cl, A, q⟩ := B
  exact zalenC X hx hby hd hZ eT A _ (by rw [← hn, ← List.length_map (f := zbv), ← q, Array.length_toList]) r
theorem zbaloadB (X : Stand p l e R s m args below meth c T locs cells slots) (hx : p.tables.exec = Jvm.exec) (hby : c.code = bytes) (hd : decode bytes pc = .ok (.baload, 1)) (hZ : Z.Warmed39 s.vm) (eT : T.heap = h) {a : Addr} {bs : List Int8} (B : zBt Z h a bs) {i : Nat} (hi : i < 2147483648) {b : Int8} (hv : bs[i]? = some b)
    (r : zEnds p e below s T (mkF m (pc + 1) Ls (.int b.toInt32 :: st)) cs ss Q) : zEnds p e below s T (mkF m pc Ls (.int (Int32.ofNat i) :: .ref a :: st)) cs ss Q :=
  zbaload X hx hby hd hZ eT B (zofN_nn hi) (v := zbv b) (by rw [zofN_clamp hi, List.getElem?_map, hv]; rfl) r
theorem zbastoreB (X : Stand p l e R s m args below meth c T locs cells slots) (hx : p.tables.exec = Jvm.exec) (hby : c.code = bytes) (hd : decode bytes pc = .ok (.bastore, 1)) (hZ : Z.Warmed39 s.vm) (eT : T.heap = h) {a : Addr} {bs : List Int8} (B : zBt Z h a bs) {i : Nat} (hi : i < 2147483648) (hlt : i < bs.length) (x : Int32) (b : Int8) (hx' : nar .byte x = b.toInt32)
    (r : ∀ T' h', Stand p l e R s m args below meth c T' (locs ++ [⟨a, i⟩]) cells slots → T'.heap = h' → Wr h h' a i (zbv b) → zBt Z h' a (bs.set i b) → zEnds p e below s T' (mkF m (pc + 1) Ls st) cs ss Q) : zEnds p e below s T (mkF m pc Ls (.int x :: .int (Int32.ofNat i) :: .ref a :: st)) cs ss Q := by
  refine zbastore X hx hby hd hZ eT B (zofN_nn hi) (by rw [zofN_clamp hi, List.length_map]; exact hlt) b.toInt32 hx' ?_
  rw [zofN_clamp hi]
  intro T' h' X' e' W L
  refine r T' h' X' e' W ?_
  show zLst Z h' a .byte ((bs.set i b).map zbv)
  rw [List.map_set]; exact L
theorem znewB (X : Stand p l e R s m args below meth c T locs cells slots) (hx : p.tables.exec = Jvm.exec) (hby : c.code = bytes) (hd : decode bytes pc = .ok (.newarray .byte, 2)) (hZ : Z.Warmed39 s.vm) (w : (Jvm.Cond.arrayClass .byte).before a0 Z = true) (eT : T.heap = h) {n : Nat} (hn : n * 8 ≤ 536870912) (hc : cells + 1 ≤ R.cells) (hl : slots + n ≤ R.slots)
    (r : ∀ T' h' b, Stand p l e R s m args below meth c T' locs (cells + 1) (slots + n) → T'.heap = h' → b = h.size → Ext h h' → Exa Z h' b "[B" → zBt Z h' b (List.replicate n 0) → zEnds p e below s T' (mkF m (pc + 2) Ls (.ref b :: st)) cs ss Q) : zEnds p e below s T (mkF m pc Ls (.int (Int32.ofNat n) :: st)) cs ss Q := by
  have hn' : n < 2147483648 := by omega
  obtain ⟨T', h', cA, X', e', E, A, Ex, k⟩ := newPE X hx hZ (aty := .byte) w eT (g := mkF m pc Ls (.int (Int32.ofNat n) :: st)) rfl (hb hby hd) rfl (zofN_nn hn') (cap := n) (by rw [zofN_clamp hn']; exact Nat.le_refl _) hn hc hl (ad := "[B") (by decide +kernel)
  refine zstp k (r T' h' _ X' e' rfl E Ex ⟨_, A, ?_⟩)
  simp only [newA, zofN_clamp hn', Array.toList_replicate, List.map_replicate]
  rfl
theorem zcopyB (X : Stand p l e R s m args below meth c T locs cells slots) (hx : p.tables.exec = Jvm.exec) (hby : c.code = bytes) {own : String} {i : Nat} (hd : decode bytes pc = .ok (.invokestatic i, 3)) (hZ : Z.Warmed39 s.vm) (hown : s.vm.findClass own = some m.cls)
    (w1 : (Jvm.Cond.methodLink own i Jvm.Stand.acN).before a0 Z = true) (w2 : (Jvm.Cond.native Jvm.Stand.acN).before a0 Z = true) (w3 : (Jvm.Cond.static Jvm.Stand.acN).before a0 Z = true) (w4 : (Jvm.Cond.initialized "java/lang/System").before a0 Z = true) (eT : T.heap = h)
    {a b : Addr} {xs ys : List Int8} (A : zBt Z h a xs) (B : zBt Z h b ys) {sp dp nn : Nat} (hx' : xs.length < 2147483648) (hy' : ys.length < 2147483648) (h1 : sp + nn ≤ xs.length) (h2 : dp + nn ≤ ys.length) {n0 : Nat} (N : Fr n0 locs) (ge : n0 ≤ b) {nl : Nat} (hmx : c.maxLocals = nl) (W : Nat)
    (r : ∀ T' h' L, Stand p l e R s m args below meth c T' L cells slots → T'.heap = h' → Fr n0 L → Keep h h' [b] → zBt Z h' b (ys.take dp ++ (xs.drop sp).take nn ++ ys.drop (dp + nn)) → zEnds p e below s T' (mkF m (pc + 3) Ls st) cs ss Q)
    (hml : Ls.size = nl := by rfl) (hW : (st.map fun v => v.category).sum ≤ W := by exact Nat.le_of_eq rfl) (hf : 1 ≤ R.frames := by first | decide | omega | (dsimp only; omega)) (hl : W + 29 ≤ R.locals := by first | decide | omega | (dsimp only; omega)) : zEnds p e below s T (mkF m pc Ls (.int (Int32.ofNat nn) :: .int (Int32.ofNat dp) :: .ref b :: .int (Int32.ofNat sp) :: .ref a :: st)) cs ss Q := by
  obtain ⟨k, A'⟩ := A.arv hx'
  obtain ⟨k', B'⟩ := B.arv hy'
  have c1 : (Int32.ofNat sp).toNatClampNeg = sp := zofN_clamp (by omega)
  have c2 : (Int32.ofNat dp).toNatClampNeg = dp := zofN_clamp (by omega)
  have c3 : (Int32.ofNat nn).toNatClampNeg = nn := zofN_clamp (by omega)
  obtain ⟨T', h', L, X', e', N', K, B2, kk⟩ := cpA X hx hZ hown w1 w2 w3 w4 eT A' B' (Or.inl ⟨rfl, rfl⟩) (sp := Int32.ofNat sp) (dp := Int32.ofNat dp) (nn := Int32.ofNat nn) (zofN_nn (by omega)) (zofN_nn (by omega)) (zofN_nn (by omega)) (by rw [c1, c3, zofN_clamp hx']; exact h1) (by rw [c2, c3, zofN_clamp hy']; exact h2) rfl (by rw [c2, c3, List.length_map]; exact h2) N ge
    (g := mkF m pc Ls (.int (Int32.ofNat nn) :: .int (Int32.ofNat dp) :: .ref b :: .int (Int32.ofNat sp) :: .ref a :: st)) rfl (hml.trans hmx.symm) (rest := st) rfl (hb hby hd) hf (W := W) (by show 2 * 0 + _ ≤ _; rw [Nat.mul_zero, Nat.zero_add]; exact hW) (Nat.le_trans (Nat.add_le_add_left (by decide) W) hl)
  refine zstp kk (r T' h' L X' e' N' K (zBt.of_arv (k := k') (z := Int32.ofNat ys.length) (d := .int 0) ?_ ?_))
  · rw [c1, c2, c3] at B2
    have : (List.range nn).map (fun i => (xs.map zbv).getD (sp + i) (.int 0)) = ((xs.drop sp).take nn).map zbv := by
      apply List.ext_getElem?
      intro j
      rw [List.getElem?_map, List.getElem?_map]
      by_cases hj : j < nn
      · rw [List.getElem?_eq_getElem (by rw [List.length_range]; exact hj), List.getElem_range, Option.map_some, List.getElem?_take_of_lt hj, List.getElem?_drop, List.getD_eq_getElem?_getD, List.getElem?_map]
        rw [List.getElem?_eq_getElem (show sp + j < xs.length by omega)]; rfl
      · rw [List.getElem?_eq_none (by rw [List.length_range]; omega), List.getElem?_eq_none (by rw [List.length_take]; omega)]; rfl
    rw [this, ← List.map_take, ← List.map_drop, ← List.map_append, ← List.map_append] at B2
    exact B2
  · rw [zofN_clamp hy']
    simp only [List.length_append, List.length_take, List.length_drop]; omega
theorem zcloneB (X : Stand p l e R s m args below meth c T locs cells slots) (hx : p.tables.exec = Jvm.exec) (hby : c.code = bytes) {own : String} {i : Nat} (hd : decode bytes pc = .ok (.invokevirtual i, 3)) (hZ : Z.Warmed39 s.vm) (hown : s.vm.findClass own = some m.cls)
    (w1 : (Jvm.Cond.methodLink own i ⟨"[B", "clone", "()Ljava/lang/Object;"⟩).before a0 Z = true) (w2 : (Jvm.Cond.sameMethod "[B" "java/lang/Object" "clone" "()Ljava/lang/Object;").before a0 Z = true) (w3 : (Jvm.Cond.native ⟨"java/lang/Object", "clone", "()Ljava/lang/Object;"⟩).before a0 Z = true)
    (w4 : (Jvm.Cond.instanceMethod ⟨"java/lang/Object", "clone", "()Ljava/lang/Object;"⟩).before a0 Z = true) (w5 : (Jvm.Cond.selects "[B" ⟨"[B", "clone", "()Ljava/lang/Object;"⟩ ⟨"java/lang/Object", "clone", "()Ljava/lang/Object;"⟩).before a0 Z = true) (w6 : (Jvm.Cond.castable "[B" "java/lang/Cloneable").before a0 Z = true) (eT : T.heap = h)
    {a : Addr} {bs : List Int8} (B : zBt Z h a bs) (E : Exa Z h a "[B") (hq : bs.length < 2147483648) {nl : Nat} (hmx : c.maxLocals = nl) (W : Nat) (hc : cells + 1 ≤ R.cells) (hsl : slots + bs.length ≤ R.slots)
    (r : ∀ T' h' b, Stand p l e R s m args below meth c T' locs (cells + 1) (slots + bs.length) → T'.heap = h' → b = h.size → Ext h h' → Exa Z h' b "[B" → zBt Z h' b bs → zEnds p e below s T' (mkF m (pc + 3) Ls (.ref b :: st)) cs ss Q)
    (hml : Ls.size = nl := by rfl) (hW : (st.map fun v => v.category).sum ≤ W := by exact Nat.le_of_eq rfl) (hf : 1 ≤ R.frames := by first | decide | omega | (dsimp only; omega)) (hl : W + 14 ≤ R.locals := by first | decide | omega | (dsimp only; omega)) : zEnds p e below s T (mkF m pc Ls (.ref a :: st)) cs ss Q := by
  obtain ⟨k, A⟩ := B.arv hq
  obtain ⟨T', h', X', e', Ex, A', E', kk⟩ := cloneH X hx hZ hown w1 w2 w3 w4 w5 w6 eT A.arh E (g := mkF m pc Ls (.ref a :: st)) rfl (hml.trans hmx.symm) rfl (hb hby hd) hf (W := W) (cap := bs.length) (by show 2 * 0 + _ ≤ _; rw [Nat.mul_zero, Nat.zero_add]; exact hW) hl (by rw [zofN_clamp hq]; exact Nat.le_refl _) hc hsl
  exact zstp kk (r T' h' _ X' e' rfl Ex E' (zBt.of_arv (z := Int32.ofNat bs.length) A' (zofN_clamp hq)))
theorem zcastok (X : Stand p l e R s m args below meth c T locs cells slots) (hx : p.tables.exec = Jvm.exec) (hby : c.code = bytes) {own K : String} {i : Nat} (hd : decode bytes pc = .ok (.checkcast i, 3)) (hZ : Z.Warmed39 s.vm) (hown : s.vm.findClass own = some m.cls) (w : (Jvm.Cond.classLink own i K).before a0 Z = true) (eT : T.heap = h) {a : Addr} (I : Ins Z h a K true)
    (r : ∀ T', Stand p l e R s m args below meth c T' locs cells slots → T'.heap = h → zEnds p e below s T' (mkF m (pc + 3) Ls (.ref a :: st)) cs ss Q) : zEnds p e below s T (mkF m pc Ls (.ref a :: st)) cs ss Q := by
  obtain ⟨T', X', e', k⟩ := castY X hx hZ hown w eT I (g := mkF m pc Ls (.ref a :: st)) rfl rfl (hb hby hd)
  exact zstp k (r T' X' e')
theorem zdecl_of {y : MethodName} {by' : ByteArray} {n : Nat} {rt : Option FieldType} (w : (Jvm.Cond.instanceMethod y).before a0 Z = true) (w' : (Jvm.Cond.code y by' n rt).before a0 Z = true) : (Jvm.Cond.declares y).before a0 Z = true := by
  obtain ⟨mk, me, h1, h2, h3, -⟩ := Cond.instanceMethod_spec w
  obtain ⟨m2, cM, q1, -, -, -, -, -, -, hsig⟩ := Cond.code_spec h1 w'
  cases h2.symm.trans q1
  simp [Cond.before, Cond.holds, Cond.value, h1, h2, h3, hsig]
theorem znf_of {y y' : MethodName} (w : (Jvm.Cond.instanceMethod y).before a0 Z = true) (F : NotFace Z y) (q : y.cls = y'.cls) : NotFace Z y' := fun r0 h0 => by
  obtain ⟨mk, me, h1, -⟩ := Cond.instanceMethod_spec w
  obtain ⟨kr, k1, k2⟩ := F mk h1
  have e1 := findClass_of_methodNamed h1
  have e2 := findClass_of_methodNamed h0
  rw [q] at e1
  have e3 : mk.cls = r0.cls := Option.some.inj (e1.symm.trans e2)
  exact ⟨kr, by rw [← e3]; exact k1, k2⟩
theorem zsame_of {y : MethodName} (w : (Jvm.Cond.instanceMethod y).before a0 Z = true) (F : NotFace Z y) (hy : y.cls ≠ "java/lang/invoke/MethodHandle" ∧ y.cls ≠ "java/lang/invoke/VarHandle") : (Jvm.Cond.sameMethod y.cls y.cls y.name y.desc).before a0 Z = true := by
  obtain ⟨mk, me, h1, -⟩ := Cond.instanceMethod_spec w
  obtain ⟨kr, k1, k2⟩ := F mk h1
  have e1 := findClass_of_methodNamed h1
  have e2 := State.methodFound?_of_named h1 hy
  have h1' : Z.methodNamed? ⟨y.cls, y.name, y.desc⟩ = some mk := h1
  simp [Cond.before, Cond.holds, Cond.value, e1, e2, h1', k1, k2]
theorem znf_warm {y : MethodName} (w : (Jvm.Cond.instanceMethod y).before a0 Z = true) (F : NotFace Z y) (hZ : Z.Warmed39 s.vm) : NotFace s y := fun r0 h0 => by
  obtain ⟨mk, me, h1, -⟩ := Cond.instanceMethod_spec w
  obtain ⟨kr, k1, k2⟩ := F mk h1
  have e1 := findClass_of_methodNamed h1
  have e2 := findClass_of_methodNamed h0
  rw [hZ.alike.findClass] at e2
  have e3 : mk.cls = r0.cls := Option.some.inj (e1.symm.trans e2)
  obtain ⟨k', q1, q2⟩ := hZ.alike.2.2 _ _ k1
  exact ⟨k', by rw [← e3]; exact q1, by rw [q2]; exact k2⟩
theorem zcallsup (X : Stand p l e R s m args below meth c T locs cells slots) (hx : p.tables.exec = Jvm.exec) (hby : c.code = bytes) {own C : String} {i : Nat} {y : MethodName} {by' : ByteArray} {maxL : Nat} {rt : Option FieldType} {rm : Room} {a : Addr} {argsL : List Value} {Q' : Option Value → Heap → List Loc → Prop} (hd : decode bytes pc = .ok (.invokespecial i, 3)) (hZ : Z.Warmed39 s.vm) (hown : s.vm.findClass own = some m.cls) (hyn : y.name ≠ "<init>") (w1 : (Jvm.Cond.methodLink own i y).before a0 Z = true) (hnf : NotFace Z y) (w2 : (Jvm.Cond.instanceMethod y).before a0 Z = true) (w3 : (Jvm.Cond.superclass own y.cls).before a0 Z = true) (w5 : (Jvm.Cond.code y by' maxL rt).before a0 Z = true) (w6 : (Jvm.Cond.initialized y.cls).before a0 Z = true) (eT : T.heap = h) (E : Exa Z h a C)
    (con : zCon l Z y by' maxL rt [] rm (.ref a :: argsL).toArray h Q') {nl : Nat} (hmx : c.maxLocals = nl) (W : Nat) {ps : List FieldType} {rv : Option FieldType} (hp : parseMethodDescriptor y.desc = some ⟨ps, rv⟩) {S0 : List Value}
    (r : ∀ T' h' v L, T'.heap = h' → Stand p l e R s m args below meth c T' (locs ++ L) (cells + rm.cells) (slots + rm.slots) → Q' v h' L → zEnds p e below s T' (mkF m (pc + 3) Ls (v.toList ++ st)) cs ss Q)
    (hy : y.cls ≠ "java/lang/invoke/MethodHandle" ∧ y.cls ≠ "java/lang/invoke/VarHandle" := by decide) (hml : Ls.size = nl := by rfl) (hW : (st.map fun v => v.category).sum ≤ W := by exact Nat.le_of_eq rfl) (hf : rm.frames + 1 ≤ R.frames := by first | decide | omega | (dsimp only; omega)) (hl : W + (maxL + 11) + rm.locals ≤ R.locals := by first | decide | omega | (dsimp only; omega)) (hcl : cells + rm.cells ≤ R.cells := by first | decide | omega | (dsimp only; omega)) (hsl : slots + rm.slots ≤ R.slots := by first | decide | omega | (dsimp only; omega)) (hn : argsL.length = ps.length := by rfl) (hS : S0 = argsL.reverse ++ .ref a :: st := by rfl) : zEnds p e below s T (mkF m pc Ls S0) cs ss Q := by
  obtain ⟨v, _, ⟨T', L', k', n'⟩, -, X', ⟨L, hq, l1, l2, l3⟩, k⟩ := superBack X hx hZ (y := y) (K := C) hown w1 (zsame_of w2 hnf hy) w2 w3 hyn (backOf (W := W) con hZ w5 w6 hf hl) eT (Ins.self E) (g := mkF m pc Ls S0) rfl (hml.trans hmx.symm) w5 (argsL := argsL) (rest := st) (lenOf hp hn) hS (by show 2 * 0 + _ ≤ _; rw [Nat.mul_zero, Nat.zero_add]; exact hW) (hb hby hd) (fun _ _ => ⟨rfl, eT, hcl, hsl⟩)
  dsimp only [Pt.U, Pt.locs, Pt.cells, Pt.slots] at X' l1 l2 l3 k hq
  subst l1 l2 l3
  exact zstp (fun _ q => k.trans q) (r T' _ v L rfl X' hq)
end Sb
end Jvm.OwnKit
namespace Jvm.OwnKit
open Sem ClassFile Op Lib Jvm.Stand Jvm.Free Jvm.LawKit Jvm.RoadKit
section Ls3
variable {p : Program} {l : Launch} {e : Env} {R : Room} {s : State} {m : MethodId} {args : Array Value} {below : List Frame} {meth : Method} {c : Code} {T : State} {locs : List Loc} {cells slots : Nat} {Z : State} {a0 : Array Value} {h h' : Heap} {bytes : ByteArray} {pc : Nat} {Ls : Array Slot} {st : List Value} {cs ss : Nat} {Q : Option Value → Heap → List Loc → Prop}
theorem zalenL (X : Stand p l e R s m args below meth c T locs cells slots) (hx : p.tables.exec = Jvm.exec) (hby : c.code = bytes) (hd : decode bytes pc = .ok (.arraylength, 1)) (hZ : Z.Warmed39 s.vm) (eT : T.heap = h) {a : Addr} {vs : List Value} {ty : FieldType} (A : zLst Z h a ty vs) (z : Int32) (hz : vs.length.toInt32 = z)
    (r : zEnds p e below s T (mkF m (pc + 1) Ls (.int z :: st)) cs ss Q) : zEnds p e below s T (mkF m pc Ls (.ref a :: st)) cs ss Q := by
  obtain ⟨cl, A, q⟩ := A
  exact zalenC X hx hby hd hZ eT A z (by rw [← hz, ← q, Array.length_toList]) r
theorem zinstNo (X : Stand p l e R s m args below meth c T locs cells slots) (hx : p.tables.exec = Jvm.exec) (hby : c.code = bytes) {own K C : String} {i n : Nat} {t : List String} (hd : decode bytes pc = .ok (.instanceof i, 3)) (hZ : Z.Warmed39 s.vm) (hown : s.vm.findClass own = some m.cls) (w : (Jvm.Cond.classLink own i K).before a0 Z = true) (eT : T.heap = h) {a : Addr} (E : Exa Z h a C) (wi : (Jvm.Cond.instantiable K n).before a0 Z = true) (hch : ∀ w ∈ Cond.chainWords (C :: t), w.before a0 Z = true) (hn : K ∉ C :: t)
    (r : ∀ T', Stand p l e R s m args below meth c T' locs cells slots → T'.heap = h → zEnds p e below s T' (mkF m (pc + 3) Ls (.int 0 :: st)) cs ss Q) : zEnds p e below s T (mkF m pc Ls (.ref a :: st)) cs ss Q := by
  obtain ⟨cell, k, e1, e2, e3, e4, -⟩ := E
  obtain ⟨ck, kk, i1, i2, i3, i4, -⟩ := Cond.instantiable_spec wi
  have hna : Z.vm.assignable cell.cls ck = false := Vm.notAssignable_of_chain e2 i1 i2 i3 (by simp only [Bool.or_eq_false_iff] at i4; exact i4.1) hch hn
  obtain ⟨k', q, -⟩ := hZ.alike.2.2 _ _ e3
  obtain ⟨vm', X', k2⟩ := Jvm.Sym.instanceofNoAt X hx hown (mv hZ w) (by rw [eT]; exact e1) e4 q (by rw [hZ.alike.findClass]; exact i1) (by rw [hZ.alike.assignable]; exact hna) (g := mkF m pc Ls (.ref a :: st)) rfl rfl (hb hby hd)
  exact zstp k2 (r _ X' eT)
def zMir (Z : State) (C : String) (a : Addr) : Prop := ∃ (c : ClassId) (k : Class), Z.vm.findClass C = some c ∧ Z.vm.classes[c]? = some k ∧ k.mirror = some a
theorem zldcCls (X : Stand p l e R s m args below meth c T locs cells slots) (hx : p.tables.exec = Jvm.exec) (hby : c.code = bytes) {own C : String} {i : Nat} (hd : decode bytes pc = .ok (.ldc i, 2)) (hZ : Z.Warmed39 s.vm) (hown : s.vm.findClass own = some m.cls) (w : (Jvm.Cond.classLink own i C).before a0 Z = true) (eT : T.heap = h) {a : Addr} (M : zMir Z C a)
    (r : ∀ T', Stand p l e R s m args below meth c T' locs cells slots → T'.heap = h → zEnds p e below s T' (mkF m (pc + 2) Ls (.ref a :: st)) cs ss Q) : zEnds p e below s T (mkF m pc Ls st) cs ss Q := by
  obtain ⟨ck, k, h1, h2, h3⟩ := M
  obtain ⟨k', q1, q2⟩ := hZ.alike.2.2 _ _ h2
  have h4 : k'.mirror = some a := by rw [q2]; exact h3
  have ev : (Term.mirror C).eval args s none [] s = some (.ref a) := by simp [Term.eval, hZ.alike.findClass, h1, q1, h4]
  obtain ⟨vm', X', k2⟩ := ldcMirror X hx hown (mv hZ w) ev (g := mkF m pc Ls st) rfl (hb hby hd)
  exact zstp k2 (r _ X' eT)
theorem znfObj {y : MethodName} (w : (Jvm.Cond.noSuperclass "java/lang/Object").before a0 Z = true) (q : y.cls = "java/lang/Object") (hZ : Z.Warmed39 s.vm) : NotFace s y := fun r0 h0 => by
  obtain ⟨c, k, h1, h2, -, -, h4⟩ := Cond.noSuperclass_spec w
  obtain ⟨k', q1, q2⟩ := hZ.alike.2.2 _ _ h2
  have h5 := findClass_of_methodNamed h0
  rw [q, hZ.alike.findClass, h1] at h5
  exact ⟨k', by rw [← Option.some.inj h5]; exact q1, by rw [q2]; exact h4⟩
theorem zgetCls (X : Stand p l e R s m args below meth c T locs cells slots) (hx : p.tables.exec = Jvm.exec) (hby : c.code = bytes) {own C : String} {i : Nat} (hd : decode bytes pc = .ok (.invokevirtual i, 3)) (hZ : Z.Warmed39 s.vm) (hown : s.vm.findClass own = some m.cls) (w1 : (Jvm.Cond.methodLink own i Jvm.Stand.gcN).before a0 Z = true) (w2 : (Jvm.Cond.declares Jvm.Stand.gcN).before a0 Z = true) (w3 : (Jvm.Cond.selects C Jvm.Stand.gcN Jvm.Stand.gcN).before a0 Z = true) (w4 : (Jvm.Cond.instanceMethod Jvm.Stand.gcN).before a0 Z = true) (w5 : (Jvm.Cond.native Jvm.Stand.gcN).before a0 Z = true) (w6 : (Jvm.Cond.noSuperclass "java/lang/Object").before a0 Z = true) (eT : T.heap = h) {a b : Addr} (E : Exa Z h b C) (M : zMir Z C a) {nl : Nat} (hmx : c.maxLocals = nl) (W : Nat)
    (r : ∀ T', Stand p l e R s m args below meth c T' locs cells slots → T'.heap = h → zEnds p e below s T' (mkF m (pc + 3) Ls (.ref a :: st)) cs ss Q) (hml : Ls.size = nl := by rfl) (hW : (st.map fun v => v.category).sum ≤ W := by exact Nat.le_of_eq rfl) (hf : 1 ≤ R.frames := by first | decide | omega | (dsimp only; omega)) (hl : W + 14 ≤ R.locals := by first | decide | omega | (dsimp only; omega)) : zEnds p e below s T (mkF m pc Ls (.ref b :: st)) cs ss Q := by
  obtain ⟨ck, k, h1, h2, h3⟩ := M
  obtain ⟨k', q1, q2⟩ := hZ.alike.2.2 _ _ h2
  obtain ⟨cB, kB, qa, -, qc⟩ := isOf hZ eT E
  have h5 : ck = cB := by have := qa; rw [hZ.alike.findClass, h1] at this; exact Option.some.inj this
  subst h5
  obtain ⟨vm', X', k2⟩ := getClassOf X hx hown (mvT hZ w1) (mvT hZ w2) (znfObj w6 rfl hZ) (mvT hZ w3) (mvT hZ w4) (mvT hZ w5) qa qc q1 (by rw [q2]; exact h3) (g := mkF m pc Ls (.ref b :: st)) rfl (hml.trans hmx.symm) rfl (hb hby hd) hf (by rw [show nativeFrameWords "java/lang/Object" "getClass" 1 = 3 from by decide]; show 2 * 0 + _ + _ ≤ _; omega)
  exact zstp k2 (r _ X' eT)
theorem znewref3 (X : Stand p l e R s m args below meth c T locs cells slots) (hx : p.tables.exec = Jvm.exec) (hby : c.code = bytes) {own C : String} {i : Nat} (hd : decode bytes pc = .ok (.anewarray i, 3)) (hZ : Z.Warmed39 s.vm) (hown : s.vm.findClass own = some m.cls) (w1 : (Jvm.Cond.classLink own i C).before a0 Z = true) (w2 : (Jvm.Cond.arrayOver (.object C)).before a0 Z = true) (eT : T.heap = h) {n : Int32} (hn : ¬ n < 0) (cap : Nat) (hcap : n.toNatClampNeg ≤ cap) (hb8 : cap * 8 ≤ 536870912) (hc : cells + 1 ≤ R.cells) (hl : slots + cap ≤ R.slots) {D : String} (hD : "[" ++ (FieldType.object C).toString = D)
    (r : ∀ T' h' b, Stand p l e R s m args below meth c T' locs (cells + 1) (slots + cap) → T'.heap = h' → b = h.size → Ext h h' → Exa Z h' b D → zLstR Z h' b C (List.replicate n.toNatClampNeg .null) → zEnds p e below s T' (mkF m (pc + 3) Ls (.ref b :: st)) cs ss Q) : zEnds p e below s T (mkF m pc Ls (.int n :: st)) cs ss Q := by
  have w2' : (Cond.arrayOver (.object C)).before args s = true := Cond.arrayOver_alike hZ.alike w2
  obtain ⟨vm₁, cA, kA, comp, -, h1, h2, h3, h4, X', k⟩ := X.anewarrayRefK hx hown (mv hZ w1) w2' (g := mkF m pc Ls (.int n :: st)) rfl (hb hby hd) rfl hn (by omega) hc (by omega)
  subst eT
  rw [hZ.alike.findClass, hD] at h1
  obtain ⟨kZ, z1, -⟩ := Vm.findClass_spec h1
  obtain ⟨k', z2, z3⟩ := hZ.alike.2.2 _ _ z1
  cases h2.symm.trans z2
  have hk : kZ.kind = .array comp (.object C) := by rw [← h3, z3]
  refine zstp k (r _ _ _ (X'.more (Nat.le_refl _) (by omega)) rfl rfl (ext_of fun a q => Array.getElem?_push_lt q |>.trans (Array.getElem?_eq_getElem q).symm) ⟨{ cls := cA, slots := Array.replicate n.toNatClampNeg .null, vm := .none }, kZ, by show (T.heap.push _)[T.heap.size]? = _; simp, h1, z1, rfl, fun q => by rw [hk] at q; cases q⟩ ⟨newA cA (.object C) n, ⟨by show (T.heap.push _)[T.heap.size]? = _; simp [newA, defaultValue], ⟨by simp [newA], kZ, z1, comp, hk⟩, by simp [newA]⟩, ⟨kZ, comp, z1, hk, by rw [← hZ.alike.findClass]; exact h4⟩, by simp [newA, defaultValue]⟩)
theorem zmvI {ref name desc : String} (hZ : Z.Warmed39 s.vm) (w : (Jvm.Cond.interfaceMethod ref ref name desc).before a0 Z = true) (hx : ref ≠ "java/lang/invoke/MethodHandle" ∧ ref ≠ "java/lang/invoke/VarHandle") : (Jvm.Cond.interfaceMethod ref ref name desc).before args s = true := by
  obtain ⟨_, _, r, _, _, _, _, hn⟩ := Cond.interfaceMethod_spec w
  have q := Cond.interfaceMethod_setVm (args := a0) hZ.alike hn hx
  exact (q.trans w :)
theorem zcalli (X : Stand p l e R s m args below meth c T locs cells slots) (hx : p.tables.exec = Jvm.exec) (hby : c.code = bytes) {own C : String} {i ct : Nat} {y z : MethodName} {by' : ByteArray} {maxL : Nat} {rt : Option FieldType} {rm : Room} {a : Addr} {argsL : List Value} {Q' : Option Value → Heap → List Loc → Prop} (hd : decode bytes pc = .ok (.invokeinterface i ct, 5)) (hZ : Z.Warmed39 s.vm) (hown : s.vm.findClass own = some m.cls) (w1 : (Jvm.Cond.methodLink own i y).before a0 Z = true) (w2 : (Jvm.Cond.declares y).before a0 Z = true) (w3 : (Jvm.Cond.interfaceMethod y.cls y.cls y.name y.desc).before a0 Z = true) (w4 : (Jvm.Cond.selects C y z).before a0 Z = true) (w5 : (Jvm.Cond.instanceMethod z).before a0 Z = true) (w6 : (Jvm.Cond.publicMethod z).before a0 Z = true) (w7 : (Jvm.Cond.unhidden C y.name y.desc).before a0 Z = true) (w8 : (Jvm.Cond.castable C y.cls).before a0 Z = true) (w9 : (Jvm.Cond.code z by' maxL rt).before a0 Z = true) (wi : (Jvm.Cond.initialized z.cls).before a0 Z = true) (eT : T.heap = h) (E : Exa Z h a C)
    (con : zCon l Z z by' maxL rt [] rm (.ref a :: argsL).toArray h Q') {nl : Nat} (hmx : c.maxLocals = nl) (W : Nat) {ps : List FieldType} {rv : Option FieldType} (hp : parseMethodDescriptor y.desc = some ⟨ps, rv⟩) {S0 : List Value}
    (r : ∀ T' h' v L, T'.heap = h' → Stand p l e R s m args below meth c T' (locs ++ L) (cells + rm.cells) (slots + rm.slots) → Q' v h' L → zEnds p e below s T' (mkF m (pc + 5) Ls (v.toList ++ st)) cs ss Q)
    (hy : y.cls ≠ "java/lang/invoke/MethodHandle" ∧ y.cls ≠ "java/lang/invoke/VarHandle" := by decide) (hml : Ls.size = nl := by rfl) (hW : (st.map fun v => v.category).sum ≤ W := by exact Nat.le_of_eq rfl) (hf : rm.frames + 1 ≤ R.frames := by first | decide | omega | (dsimp only; omega)) (hl : W + (maxL + 11) + rm.locals ≤ R.locals := by first | decide | omega | (dsimp only; omega)) (hcl : cells + rm.cells ≤ R.cells := by first | decide | omega | (dsimp only; omega)) (hsl : slots + rm.slots ≤ R.slots := by first | decide | omega | (dsimp only; omega)) (hn : argsL.length = ps.length := by rfl) (hS : S0 = argsL.reverse ++ .ref a :: st := by rfl) : zEnds p e below s T (mkF m pc Ls S0) cs ss Q := by
  obtain ⟨_, _, qa, qb, qc⟩ := isOf hZ eT E
  obtain ⟨v, _, ⟨T', L', k', n'⟩, -, X', ⟨L, hq, l1, l2, l3⟩, k⟩ := X.interfaceBack hx (xi := y) (y := z) hown (mvT hZ w1) (mvT hZ w2) (zmvI hZ w3 hy) (mvT hZ w4) (mvT hZ w5) (mvT hZ w6) (mvT hZ w7) (mvT hZ w8) hy (backOf (W := W) con hZ w9 wi hf hl) qa qb qc (g := mkF m pc Ls S0) rfl (hml.trans hmx.symm) (Steps.refl _) (argsL := argsL) (rest := st) (lenOf hp hn) hS (by show 2 * 0 + _ ≤ _; rw [Nat.mul_zero, Nat.zero_add]; exact hW) (hb hby hd) (fun _ _ => ⟨rfl, eT, hcl, hsl⟩)
  dsimp only [Pt.U, Pt.locs, Pt.cells, Pt.slots] at X' l1 l2 l3 k hq
  subst l1 l2 l3
  exact zstp (fun _ q => k.trans q) (r T' _ v L rfl X' hq)
theorem zcallspn (X : Stand p l e R s m args below meth c T locs cells slots) (hx : p.tables.exec = Jvm.exec) (hby : c.code = bytes) {own host : String} {i : Nat} {y : MethodName} {by' : ByteArray} {maxL : Nat} {rm : Room} {a : Addr} {argsL : List Value} {Q' : Option Value → Heap → List Loc → Prop} (hd : decode bytes pc = .ok (.invokespecial i, 3)) (hZ : Z.Warmed39 s.vm) (hown : s.vm.findClass own = some m.cls) (hyn : y.name = "<init>") (w1 : (Jvm.Cond.methodLinkNest own i y host).before a0 Z = true) (w2 : (Jvm.Cond.instanceMethod y).before a0 Z = true) (w3 : (Jvm.Cond.code y by' maxL none).before a0 Z = true) (w4 : (Jvm.Cond.initialized y.cls).before a0 Z = true) (eT : T.heap = h)
    (con : zCon l Z y by' maxL none [] rm (.ref a :: argsL).toArray h Q') {nl : Nat} (hmx : c.maxLocals = nl) (W : Nat) {ps : List FieldType} {rv : Option FieldType} (hp : parseMethodDescriptor y.desc = some ⟨ps, rv⟩) {S0 : List Value}
    (r : ∀ T' h' v L, T'.heap = h' → Stand p l e R s m args below meth c T' (locs ++ L) (cells + rm.cells) (slots + rm.slots) → Q' v h' L → zEnds p e below s T' (mkF m (pc + 3) Ls (v.toList ++ st)) cs ss Q)
    (hy : y.cls ≠ "java/lang/invoke/MethodHandle" ∧ y.cls ≠ "java/lang/invoke/VarHandle" := by decide) (hml : Ls.size = nl := by rfl) (hW : (st.map fun v => v.category).sum ≤ W := by exact Nat.le_of_eq rfl) (hf : rm.frames + 1 ≤ R.frames := by first | decide | omega | (dsimp only; omega)) (hl : W + (maxL + 11) + rm.locals ≤ R.locals := by first | decide | omega | (dsimp only; omega)) (hcl : cells + rm.cells ≤ R.cells := by first | decide | omega | (dsimp only; omega)) (hsl : slots + rm.slots ≤ R.slots := by first | decide | omega | (dsimp only; omega)) (hn : argsL.length = ps.length := by rfl) (hS : S0 = argsL.reverse ++ .ref a :: st := by rfl) : zEnds p e below s T (mkF m pc Ls S0) cs ss Q := by
  obtain ⟨v, _, ⟨T', L', k', n'⟩, -, X', ⟨L, hq, l1, l2, l3⟩, k⟩ := X.specialBackNest hx (y := y) hyn hown (Cond.methodLinkNest_wide hZ w1 :) (mvT hZ w2) (mvT hZ w3) hy (backOf (W := W) con hZ w3 w4 hf hl) (g := mkF m pc Ls S0) rfl (hml.trans hmx.symm) (Steps.refl _) (a := a) (argsL := argsL) (rest := st) (lenOf hp hn) hS (by show 2 * 0 + _ ≤ _; rw [Nat.mul_zero, Nat.zero_add]; exact hW) (hb hby hd) (fun _ _ => ⟨rfl, eT, hcl, hsl⟩)
  dsimp only [Pt.U, Pt.locs, Pt.cells, Pt.slots] at X' l1 l2 l3 k hq
  subst l1 l2 l3
  exact zstp (fun _ q => k.trans q) (r T' _ v L rfl X' hq)
theorem zvl0 {P : Value → Prop} : ∀ v ∈ ([] : List Value), P v := fun _ q => nomatch q
theorem zvlS {P : Value → Prop} {u : Value} {L : List Value} (q : P u) (r : ∀ v ∈ L, P v) : ∀ v ∈ u :: L, P v := fun x z => (List.mem_cons.mp z).elim (fun e => e ▸ q) (r x)
theorem zcopyR (X : Stand p l e R s m args below meth c T locs cells slots) (hx : p.tables.exec = Jvm.exec) (hby : c.code = bytes) {own C : String} {i : Nat} (hd : decode bytes pc = .ok (.invokestatic i, 3)) (hZ : Z.Warmed39 s.vm) (hown : s.vm.findClass own = some m.cls)
    (w1 : (Jvm.Cond.methodLink own i Jvm.Stand.acN).before a0 Z = true) (w2 : (Jvm.Cond.native Jvm.Stand.acN).before a0 Z = true) (w3 : (Jvm.Cond.static Jvm.Stand.acN).before a0 Z = true) (w4 : (Jvm.Cond.initialized "java/lang/System").before a0 Z = true) (eT : T.heap = h)
    {a b : Addr} {vs vd : List Value} {nn : Nat} (A : zLstR Z h a C vs) (B : zLstR Z h b C vd) (hv : ∀ v ∈ vs, v = .null ∨ ∃ y, v = .ref y ∧ Ins Z h y C true) (hd' : ∀ v ∈ vd, v = .null) (h4 : nn ≤ vs.length) (h5 : nn = vd.length) (hM : vs.length < 1000000) {n0 : Nat} (N : Fr n0 locs) (ge : n0 ≤ b) {nl : Nat} (hmx : c.maxLocals = nl) (W : Nat)
    (r : ∀ T' h' L, Stand p l e R s m args below meth c T' L cells slots → T'.heap = h' → Fr n0 L → Keep h h' [b] → zLstR Z h' b C (vs.take nn) → zEnds p e below s T' (mkF m (pc + 3) Ls st) cs ss Q) (hml : Ls.size = nl := by rfl) (hW : (st.map fun v => v.category).sum ≤ W := by exact Nat.le_of_eq rfl) (hf : 1 ≤ R.frames := by first | decide | omega | (dsimp only; omega)) (hl : W + 29 ≤ R.locals := by first | decide | omega | (dsimp only; omega)) :
    zEnds p e below s T (mkF m pc Ls (.int (Int32.ofNat nn) :: .int 0 :: .ref b :: .int 0 :: .ref a :: st)) cs ss Q := by
  have ar : ∀ {x : Addr} {us : List Value}, zLstR Z h x C us → us.length < 1000000 → (∀ v ∈ us, v = .null ∨ ∃ y, v = .ref y ∧ Ins Z h y C true) → ∃ k, Ovr Z k C ∧ Arv Z h x k (.object C) (Int32.ofNat us.length) us .null := by
    intro x us ⟨cl, A, O, q⟩ hM hu
    have zsz : cl.slots.size = us.length := by rw [← Array.length_toList, q]
    refine ⟨cl.cls, O, cl, A, rfl, by rw [zofN_clamp (by omega), zsz], zofN_nn (by omega), fun k hk => ?_, fun j hj => ?_⟩
    · rw [← Array.getElem?_toList, q, List.getD_eq_getElem?_getD]
      have : k < us.length := by rw [← zsz]; exact hk
      rw [List.getElem?_eq_getElem this]; rfl
    · have hj' : j < us.length := by rw [← zsz]; exact hj
      rw [List.getD_eq_getElem?_getD, List.getElem?_eq_getElem hj']
      rcases hu _ (List.getElem_mem hj') with q | ⟨y, q, -⟩ <;> rw [Option.getD_some, q] <;> rfl
  obtain ⟨k1, -, A1⟩ := ar A hM hv
  obtain ⟨k2, O2, B1⟩ := ar B (by omega) (fun v q => Or.inl (hd' v q))
  have c0 : (0 : Int32).toNatClampNeg = 0 := rfl
  have cn : (Int32.ofNat nn).toNatClampNeg = nn := zofN_clamp (by omega)
  have us : (List.range nn).map (fun i => vs.getD (0 + i) .null) = vs.take nn := by
    apply List.ext_getElem?
    intro j
    by_cases hj : j < nn
    · rw [List.getElem?_map, List.getElem?_range hj, List.getElem?_take_of_lt hj, Option.map_some, Nat.zero_add, List.getD_eq_getElem?_getD, List.getElem?_eq_getElem (by omega)]; rfl
    · rw [List.getElem?_eq_none (by rw [List.length_map, List.length_range]; omega), List.getElem?_eq_none (by rw [List.length_take]; omega)]
  have st' : ∀ (us : List Value), (∀ v ∈ us, v = .null ∨ ∃ y, v = .ref y ∧ Ins Z h y C true) → StoL Z h b us := by
    intro us
    induction us with
    | nil => intro _; trivial
    | cons v r ih =>
      intro hu
      refine ⟨?_, ih fun w q => hu w (List.mem_cons_of_mem _ q)⟩
      rcases hu v (List.mem_cons_self ..) with q | ⟨y, q, I⟩
      · exact Or.inl q
      · obtain ⟨cl, B', OB, -⟩ := B
        rw [q]; exact Sto.of B' OB I
  obtain ⟨T', h', L, X', e', N', K, B2, k⟩ := cpA X hx hZ hown w1 w2 w3 w4 eT (sp := 0) (dp := 0) (nn := Int32.ofNat nn) (us := vs.take nn) A1 B1 (Or.inr ⟨rfl, rfl, st' _ fun v q => hv v (List.mem_of_mem_take q)⟩) (by decide) (by decide) (zofN_nn (by omega)) (by rw [c0, cn, zofN_clamp (by omega)]; omega) (by rw [c0, cn, zofN_clamp (by omega)]; omega) (by rw [c0, cn]; exact us.symm) (by rw [c0, cn]; omega) N ge (g := mkF m pc Ls (.int (Int32.ofNat nn) :: .int 0 :: .ref b :: .int 0 :: .ref a :: st)) rfl (hml.trans hmx.symm) rfl (hb hby hd) hf (W := W) (by show 2 * 0 + _ ≤ _; omega) (Nat.le_trans (Nat.add_le_add_left (by decide) W) hl)
  refine zstp k (r T' h' L X' e' N' K ?_)
  rw [c0, cn] at B2
  obtain ⟨cl, A', q1, q2, -, H, -⟩ := B2
  refine ⟨cl, A', q1 ▸ O2, ?_⟩
  rw [List.take_zero, List.nil_append, Nat.zero_add, h5, List.drop_length, List.append_nil] at H
  rw [zofN_clamp (by omega)] at q2
  apply List.ext_getElem?
  intro j
  rw [Array.getElem?_toList]
  by_cases hj : j < cl.slots.size
  · rw [H j hj, List.getD_eq_getElem?_getD]
    have : j < (vs.take vd.length).length := by rw [List.length_take]; omega
    rw [h5, List.getElem?_eq_getElem this]; rfl
  · rw [Array.getElem?_eq_none (by omega), List.getElem?_eq_none (by rw [List.length_take]; omega)]
end Ls3
end Jvm.OwnKit
namespace Jvm.OwnKitW
open Sem ClassFile Op Lib Jvm.Stand Jvm.Free Jvm.LawKit Jvm.RoadKit Jvm.OwnKit
section OwnW
variable {p : Program} {l : Launch} {e : Env} {R : Room} {s s0 : State} {v0 : Vm} {m : MethodId} {args : Array Value} {below : List Frame} {meth : Method} {c : Code} {T : State} {locs : List Loc} {cells slots : Nat} {Z : State} {a0 : Array Value} {h : Heap} {bytes : ByteArray} {pc : Nat} {Ls : Array Slot} {st : List Value} {cs ss : Nat} {Q : Option Value → Vm → Heap → List Loc → Prop}
def yEndsW (p : Program) (e : Env) (below : List Frame) (s0 T : State) (F : JFrame) (cs ss : Nat) (Q : Option Value → Vm → Heap → List Loc → Prop) : Prop :=
  ∃ s₂ o, Steps p.tables e below (T.setTop F) s₂ ∧ s₂.status = .running ∧ Ended s₂ below o ∧ ∃ v L, o = .returned v ∧ Q v s₂.vm s₂.heap L ∧ ReturnedEndW s0 o s₂ L cs ss
theorem ystp {T T' : State} {F F' : JFrame} (st : ∀ target, Steps p.tables e below (T'.setTop F') target → Steps p.tables e below (T.setTop F) target) (k : yEndsW p e below s0 T' F' cs ss Q) : yEndsW p e below s0 T F cs ss Q := by
  obtain ⟨s2, o, h1, r⟩ := k; exact ⟨s2, o, st _ h1, r⟩
def ySin (s : State) (v : Vm) (h : Heap) : Prop := ∃ k, s.Since v k ∧ k ≤ h.size
theorem ySin.ext {h' : Heap} (S : ySin s v0 h) (E : Ext h h') : ySin s v0 h' := by obtain ⟨k, a, b⟩ := S; exact ⟨k, a, Nat.le_trans b E.1⟩
theorem ySin.wr {h' : Heap} {a : Addr} {sl : Nat} {v : Value} (S : ySin s v0 h) (W : Wr h h' a sl v) : ySin s v0 h' := by obtain ⟨k, a, b⟩ := S; exact ⟨k, a, Nat.le_trans b (Nat.le_of_eq W.size.symm)⟩
theorem ySin.keep {h' : Heap} {ws : List Addr} (S : ySin s v0 h) (K : Keep h h' ws) : ySin s v0 h' := by obtain ⟨k, a, b⟩ := S; exact ⟨k, a, Nat.le_trans b K.1⟩
def yConW (l : Launch) (Z : State) (y : MethodName) (bytes : ByteArray) (maxL : Nat) (ret : Option FieldType) (ws : List Jvm.Cond) (rm : Room) (as' : Array Value) (P : Vm → Prop) (h0 : Heap) (Q : Option Value → Vm → Heap → List Loc → Prop) : Prop :=
  MetFree l y (head1 (Jvm.Cond.code y bytes maxL ret :: ws) rm) (fun a U => a = as' ∧ Z.Warmed39 U.vm ∧ U.heap = h0 ∧ P U.vm) (fun _ _ _ _ _ => True) (fun _ U o U' => ∃ v L, o = .returned v ∧ Q v U'.vm U'.heap L ∧ ReturnedEndW U o U' L rm.cells rm.slots)
theorem yenterW {y : MethodName} {maxL : Nat} {ret : Option FieldType} {ws : List Jvm.Cond} {rm : Room} {as' : Array Value} {P : Vm → Prop} {h0 : Heap} (hpl : plainFor y = true) {L0 : Array Slot} (hef : ∀ m, entryFrame m as' maxL = mkF m 0 L0 [])
    (H : ∀ (p : Program) (e : Env) (s : State) (v0 : Vm) (m : MethodId) (below : List Frame) (meth : Method) (c : Code) (T : State), p.tables.exec = Jvm.exec → Z.Warmed39 v0 → c.code = bytes → c.maxLocals = maxL → v0.findClass y.cls = some m.cls → meth.name = y.name → meth.sig.returnType = ret → meth.locks = false →
      Stand p l e rm (s.setVm v0) m as' below meth c T [] 0 0 → T.heap = h0 → ySin s v0 h0 → s.heap = h0 → P v0 → yEndsW p e below s T (mkF m 0 L0 []) rm.cells rm.slots Q) : yConW l Z y bytes maxL ret ws rm as' P h0 Q := by
  refine MetFree.of_bodySF hpl hisR ?_
  intro p e s m args below meth c s₁ Bd hml0 hP hK
  obtain ⟨rfl, hZ, hh, hPv⟩ := hP
  have e1 : s₁.heap = h0 := by rw [← hh, Bd.state]; rfl
  have := H p e s s.vm m below meth c s₁ Bd.exec hZ Bd.bytes hml0 (findClass_of_methodNamed Bd.named) (name_of_methodNamed Bd.named Bd.method).1 Bd.returns Bd.notSynchronized (Stand.of_body Bd) e1 ⟨_, (State.WarmedH.refl s).since s.heap.size, by rw [hh]; exact Nat.le_refl _⟩ hh hPv
  rw [← hef m] at this
  exact this
theorem yretG {w : Value} {t : FieldType} {i : Instr} (X : Stand p l e R (s0.setVm v0) m args below meth c T locs cells slots) (hx : p.tables.exec = Jvm.exec) (hby : c.code = bytes) (hd : decode bytes pc = .ok (i, 1)) (hret : meth.sig.returnType = some t) (hlk : meth.locks = false) (eT : T.heap = h) (hS : ySin s0 v0 h) (hn : narrow t w = w)
    (hi : (i = .ireturn ∧ (t = .int ∨ t = .boolean ∨ t = .byte ∨ t = .char ∨ t = .short) ∧ ∃ z, w = .int z) ∨ (i = .lreturn ∧ t = .long ∧ ∃ z, w = .long z) ∨ (i = .dreturn ∧ t = .double ∧ ∃ z, w = .double z) ∨ (i = .freturn ∧ t = .float ∧ ∃ z, w = .float z) ∨ (i = .areturn ∧ t.isReference = true ∧ w.isRef = true))
    (hc : cells ≤ cs) (hs : slots ≤ ss) (hq : ∀ v1, (s0.setVm v0).WarmedH v1 → Q (some w) v1 T.heap locs) : yEndsW p e below s0 T (mkF m pc Ls (w :: st)) cs ss Q := by
  obtain ⟨k, hk, hk2⟩ := hS
  obtain ⟨fs, hr, hrun, hended, q1, q2, q3, q4⟩ := X.leaveW hk (by rw [eT]; exact hk2) (v := some w) (fun q => by rw [hret] at q; cases q) hlk
  exact ⟨_, _, retOut X hx hret hn hi (hb hby hd) hr, hrun, hended, _, _, rfl, hq _ X.warmed, q1, q2, q3, q4.mono hc hs⟩
theorem yretZ {z : Int32} {t : FieldType} (X : Stand p l e R (s0.setVm v0) m args below meth c T locs cells slots) (hx : p.tables.exec = Jvm.exec) (hby : c.code = bytes) (hd : decode bytes pc = .ok (.ireturn, 1)) (hret : meth.sig.returnType = some t) (hlk : meth.locks = false) (eT : T.heap = h) (hS : ySin s0 v0 h) (ht : t = .boolean ∨ t = .byte ∨ t = .char ∨ t = .short) (hn : narrow t (.int z) = .int z) (hc : cells ≤ cs) (hs : slots ≤ ss) (hq : ∀ v1, (s0.setVm v0).WarmedH v1 → Q (some (.int z)) v1 T.heap locs) : yEndsW p e below s0 T (mkF m pc Ls (.int z :: st)) cs ss Q :=
  yretG X hx hby hd hret hlk eT hS hn (Or.inl ⟨rfl, Or.inr ht, z, rfl⟩) hc hs hq
theorem yretA {w : Value} {t : FieldType} (X : Stand p l e R (s0.setVm v0) m args below meth c T locs cells slots) (hx : p.tables.exec = Jvm.exec) (hby : c.code = bytes) (hd : decode bytes pc = .ok (.areturn, 1)) (hret : meth.sig.returnType = some t) (hlk : meth.locks = false) (eT : T.heap = h) (hS : ySin s0 v0 h) (ht : t.isReference = true) (hw : w.isRef = true) (hn : narrow t w = w) (hc : cells ≤ cs) (hs : slots ≤ ss) (hq : ∀ v1, (s0.setVm v0).WarmedH v1 → Q (some w) v1 T.heap locs) : yEndsW p e below s0 T (mkF m pc Ls (w :: st)) cs ss Q :=
  yretG X hx hby hd hret hlk eT hS hn (Or.inr (Or.inr (Or.inr (Or.inr ⟨rfl, ht, hw⟩)))) hc hs hq
theorem yiload (X : Stand p l e R s m args below meth c T locs cells slots) (hx : p.tables.exec = Jvm.exec) (hby : c.code = bytes) {k : Nat} {v : Int32} (hd : decode bytes pc = .ok (.iload k, 2)) (hl : Ls[k]? = some (.val (.int v))) (r : yEndsW p e below s0 T (mkF m (pc + 2) Ls (.int v :: st)) cs ss Q) : yEndsW p e below s0 T (mkF m pc Ls st) cs ss Q := ystp (fun _ k => XS.iload X.here hx rfl (hb hby hd) hl k) r
theorem ylloadN (X : Stand p l e R s m args below meth c T locs cells slots) (hx : p.tables.exec = Jvm.exec) (hby : c.code = bytes) {k : Fin 4} {v : Int64} (hd : decode bytes pc = .ok (.lload_n k, 1)) (hl : Ls[k.val]? = some (.val (.long v))) (r : yEndsW p e below s0 T (mkF m (pc + 1) Ls (.long v :: st)) cs ss Q) : yEndsW p e below s0 T (mkF m pc Ls st) cs ss Q := ystp (fun _ k => XS.lloadN X.here hx rfl (hb hby hd) hl k) r
theorem ylload (X : Stand p l e R s m args below meth c T locs cells slots) (hx : p.tables.exec = Jvm.exec) (hby : c.code = bytes) {k : Nat} {v : Int64} (hd : decode bytes pc = .ok (.lload k, 2)) (hl : Ls[k]? = some (.val (.long v))) (r : yEndsW p e below s0 T (mkF m (pc + 2) Ls (.long v :: st)) cs ss Q) : yEndsW p e below s0 T (mkF m pc Ls st) cs ss Q := ystp (fun _ k => XS.lload X.here hx rfl (hb hby hd) hl k) r
theorem yaloadN (X : Stand p l e R s m args below meth c T locs cells slots) (hx : p.tables.exec = Jvm.exec) (hby : c.code = bytes) {k : Fin 4} {v : Value} (hd : decode bytes pc = .ok (.aload_n k, 1)) (hl : Ls[k.val]? = some (.val v)) (hv : v.isRef = true) (r : yEndsW p e below s0 T (mkF m (pc + 1) Ls (v :: st)) cs ss Q) : yEndsW p e below s0 T (mkF m pc Ls st) cs ss Q := ystp (fun _ k => XS.aloadN X.here hx rfl (hb hby hd) hl hv k) r
theorem yaload (X : Stand p l e R s m args below meth c T locs cells slots) (hx : p.tables.exec = Jvm.exec) (hby : c.code = bytes) {k : Nat} {v : Value} (hd : decode bytes pc = .ok (.aload k, 2)) (hl : Ls[k]? = some (.val v)) (hv : v.isRef = true) (r : yEndsW p e below s0 T (mkF m (pc + 2) Ls (v :: st)) cs ss Q) : yEndsW p e below s0 T (mkF m pc Ls st) cs ss Q := ystp (fun _ k => XS.aload X.here hx rfl (hb hby hd) hl hv k) r
theorem yistore (X : Stand p l e R s m args below meth c T locs cells slots) (hx : p.tables.exec = Jvm.exec) (hby : c.code = bytes) {k : Nat} {v : Int32} (hd : decode bytes pc = .ok (.istore k, 2)) (L' : Array Slot) (hl : storeLocals Ls k (.int v) = some L') (r : yEndsW p e below s0 T (mkF m (pc + 2) L' st) cs ss Q) : yEndsW p e below s0 T (mkF m pc Ls (.int v :: st)) cs ss Q := ystp (fun _ k => XS.istore X.here hx rfl (hb hby hd) rfl hl k) r
theorem ylstore (X : Stand p l e R s m args below meth c T locs cells slots) (hx : p.tables.exec = Jvm.exec) (hby : c.code = bytes) {k : Nat} {v : Int64} (hd : decode bytes pc = .ok (.lstore k, 2)) (L' : Array Slot) (hl : storeLocals Ls k (.long v) = some L') (r : yEndsW p e below s0 T (mkF m (pc + 2) L' st) cs ss Q) : yEndsW p e below s0 T (mkF m pc Ls (.long v :: st)) cs ss Q := ystp (fun _ k => XS.lstore X.here hx rfl (hb hby hd) rfl hl k) r
theorem yastore (X : Stand p l e R s m args below meth c T locs cells slots) (hx : p.tables.exec = Jvm.exec) (hby : c.code = bytes) {k : Nat} {v : Value} (hd : decode bytes pc = .ok (.astore k, 2)) (L' : Array Slot) (hv : v.isRef = true) (hl : storeLocals Ls k v = some L') (r : yEndsW p e below s0 T (mkF m (pc + 2) L' st) cs ss Q) : yEndsW p e below s0 T (mkF m pc Ls (v :: st)) cs ss Q := ystp (fun _ k => XS.astore X.here hx rfl (hb hby hd) rfl hv hl k) r
theorem yiconst (X : Stand p l e R s m args below meth c T locs cells slots) (hx : p.tables.exec = Jvm.exec) (hby : c.code = bytes) {i : Int} (hd : decode bytes pc = .ok (.iconst i, 1)) (z : Int32) (hz : Int32.ofInt i = z) (r : yEndsW p e below s0 T (mkF m (pc + 1) Ls (.int z :: st)) cs ss Q) : yEndsW p e below s0 T (mkF m pc Ls st) cs ss Q := ystp (fun _ k => XS.iconst X.here hx rfl (hb hby hd) (hz ▸ k)) r
theorem ybipush (X : Stand p l e R s m args below meth c T locs cells slots) (hx : p.tables.exec = Jvm.exec) (hby : c.code = bytes) {i : Int} (hd : decode bytes pc = .ok (.bipush i, 2)) (z : Int32) (hz : (Int8.ofInt i).toInt32 = z) (r : yEndsW p e below s0 T (mkF m (pc + 2) Ls (.int z :: st)) cs ss Q) : yEndsW p e below s0 T (mkF m pc Ls st) cs ss Q := ystp (fun _ k => XS.bipush X.here hx rfl (hb hby hd) (hz ▸ k)) r
theorem ysipush (X : Stand p l e R s m args below meth c T locs cells slots) (hx : p.tables.exec = Jvm.exec) (hby : c.code = bytes) {i : Int} (hd : decode bytes pc = .ok (.sipush i, 3)) (z : Int32) (hz : (Int16.ofInt i).toInt32 = z) (r : yEndsW p e below s0 T (mkF m (pc + 3) Ls (.int z :: st)) cs ss Q) : yEndsW p e below s0 T (mkF m pc Ls st) cs ss Q := ystp (fun _ k => XS.sipush X.here hx rfl (hb hby hd) (hz ▸ k)) r
theorem yiadd (X : Stand p l e R s m args below meth c T locs cells slots) (hx : p.tables.exec = Jvm.exec) (hby : c.code = bytes) {x y : Int32} (hd : decode bytes pc = .ok (.iadd, 1)) (z : Int32) (hz : x + y = z) (r : yEndsW p e below s0 T (mkF m (pc + 1) Ls (.int z :: st)) cs ss Q) : yEndsW p e below s0 T (mkF m pc Ls (.int y :: .int x :: st)) cs ss Q := ystp (fun _ k => XS.iadd X.here hx rfl (hb hby hd) rfl (hz ▸ k)) r
theorem yiand (X : Stand p l e R s m args below meth c T locs cells slots) (hx : p.tables.exec = Jvm.exec) (hby : c.code = bytes) {x y : Int32} (hd : decode bytes pc = .ok (.iand, 1)) (z : Int32) (hz : x &&& y = z) (r : yEndsW p e below s0 T (mkF m (pc + 1) Ls (.int z :: st)) cs ss Q) : yEndsW p e below s0 T (mkF m pc Ls (.int y :: .int x :: st)) cs ss Q := ystp (fun _ k => XS.iand X.here hx rfl (hb hby hd) rfl (hz ▸ k)) r
theorem yiushr (X : Stand p l e R s m args below meth c T locs cells slots) (hx : p.tables.exec = Jvm.exec) (hby : c.code = bytes) {x y : Int32} (hd : decode bytes pc = .ok (.iushr, 1)) (z : Int32) (hz : (x.toUInt32 >>> (y &&& 31).toUInt32).toInt32 = z) (r : yEndsW p e below s0 T (mkF m (pc + 1) Ls (.int z :: st)) cs ss Q) : yEndsW p e below s0 T (mkF m pc Ls (.int y :: .int x :: st)) cs ss Q := ystp (fun _ k => XS.iushr X.here hx rfl (hb hby hd) rfl (hz ▸ k)) r
theorem yland (X : Stand p l e R s m args below meth c T locs cells slots) (hx : p.tables.exec = Jvm.exec) (hby : c.code = bytes) {x y : Int64} (hd : decode bytes pc = .ok (.land, 1)) (z : Int64) (hz : x &&& y = z) (r : yEndsW p e below s0 T (mkF m (pc + 1) Ls (.long z :: st)) cs ss Q) : yEndsW p e below s0 T (mkF m pc Ls (.long y :: .long x :: st)) cs ss Q := ystp (fun _ k => XS.land X.here hx rfl (hb hby hd) rfl (hz ▸ k)) r
theorem yi2c (X : Stand p l e R s m args below meth c T locs cells slots) (hx : p.tables.exec = Jvm.exec) (hby : c.code = bytes) {v : Int32} (hd : decode bytes pc = .ok (.i2c, 1)) (z : Int32) (hz : v.toUInt32.toUInt16.toUInt32.toInt32 = z) (r : yEndsW p e below s0 T (mkF m (pc + 1) Ls (.int z :: st)) cs ss Q) : yEndsW p e below s0 T (mkF m pc Ls (.int v :: st)) cs ss Q := ystp (fun _ k => XS.i2c X.here hx rfl (hb hby hd) rfl (hz ▸ k)) r
theorem ydup (X : Stand p l e R s m args below meth c T locs cells slots) (hx : p.tables.exec = Jvm.exec) (hby : c.code = bytes) {x : Value} (hd : decode bytes pc = .ok (.dup, 1)) (hc : x.category = 1) (r : yEndsW p e below s0 T (mkF m (pc + 1) Ls (x :: x :: st)) cs ss Q) : yEndsW p e below s0 T (mkF m pc Ls (x :: st)) cs ss Q := ystp (fun _ k => XS.dup X.here hx rfl (hb hby hd) rfl hc k) r
theorem ypop (X : Stand p l e R s m args below meth c T locs cells slots) (hx : p.tables.exec = Jvm.exec) (hby : c.code = bytes) {x : Value} (hd : decode bytes pc = .ok (.pop, 1)) (hc : x.category = 1) (r : yEndsW p e below s0 T (mkF m (pc + 1) Ls st) cs ss Q) : yEndsW p e below s0 T (mkF m pc Ls (x :: st)) cs ss Q := ystp (fun _ k => XS.pop X.here hx rfl (hb hby hd) rfl hc k) r
theorem ygoto (X : Stand p l e R s m args below meth c T locs cells slots) (hx : p.tables.exec = Jvm.exec) (hby : c.code = bytes) {o : Int} (hd : decode bytes pc = .ok (.goto o, 3)) (pc' : Nat) (ho : 0 ≤ (pc : Int) + o) (hp : ((pc : Int) + o).toNat = pc') (r : yEndsW p e below s0 T (mkF m pc' Ls st) cs ss Q) : yEndsW p e below s0 T (mkF m pc Ls st) cs ss Q := ystp (fun _ k => XS.goto X.here hx rfl rfl (hb hby hd) ho hp k) r
theorem yifYes (X : Stand p l e R s m args below meth c T locs cells slots) (hx : p.tables.exec = Jvm.exec) (hby : c.code = bytes) {cd : ClassFile.Cond} {x : Int32} {o : Int} (hd : decode bytes pc = .ok (.ifCond cd o, 3)) (pc' : Nat) (hc : ifCond.holds cd x = true) (ho : 0 ≤ (pc : Int) + o) (hp : ((pc : Int) + o).toNat = pc') (r : yEndsW p e below s0 T (mkF m pc' Ls st) cs ss Q) : yEndsW p e below s0 T (mkF m pc Ls (.int x :: st)) cs ss Q := ystp (fun _ k => XS.ifYes X.here hx rfl rfl (hb hby hd) rfl hc ho hp k) r
theorem yifNo (X : Stand p l e R s m args below meth c T locs cells slots) (hx : p.tables.exec = Jvm.exec) (hby : c.code = bytes) {cd : ClassFile.Cond} {x : Int32} {o : Int} (hd : decode bytes pc = .ok (.ifCond cd o, 3)) (hc : ifCond.holds cd x = false) (r : yEndsW p e below s0 T (mkF m (pc + 3) Ls st) cs ss Q) : yEndsW p e below s0 T (mkF m pc Ls (.int x :: st)) cs ss Q := ystp (fun _ k => XS.ifNo X.here hx rfl (hb hby hd) rfl hc k) r
theorem yicmpYes (X : Stand p l e R s m args below meth c T locs cells slots) (hx : p.tables.exec = Jvm.exec) (hby : c.code = bytes) {cd : ClassFile.Cond} {x y : Int32} {o : Int} (hd : decode bytes pc = .ok (.if_icmp cd o, 3)) (pc' : Nat) (hc : if_icmp.holds cd x y = true) (ho : 0 ≤ (pc : Int) + o) (hp : ((pc : Int) + o).toNat = pc') (r : yEndsW p e below s0 T (mkF m pc' Ls st) cs ss Q) : yEndsW p e below s0 T (mkF m pc Ls (.int y :: .int x :: st)) cs ss Q := ystp (fun _ k => XS.icmpYes X.here hx rfl rfl (hb hby hd) rfl hc ho hp k) r
theorem yicmpNo (X : Stand p l e R s m args below meth c T locs cells slots) (hx : p.tables.exec = Jvm.exec) (hby : c.code = bytes) {cd : ClassFile.Cond} {x y : Int32} {o : Int} (hd : decode bytes pc = .ok (.if_icmp cd o, 3)) (hc : if_icmp.holds cd x y = false) (r : yEndsW p e below s0 T (mkF m (pc + 3) Ls st) cs ss Q) : yEndsW p e below s0 T (mkF m pc Ls (.int y :: .int x :: st)) cs ss Q := ystp (fun _ k => XS.icmpNo X.here hx rfl (hb hby hd) rfl hc k) r
theorem yifnullNo (X : Stand p l e R s m args below meth c T locs cells slots) (hx : p.tables.exec = Jvm.exec) (hby : c.code = bytes) {b : Addr} {o : Int} (hd : decode bytes pc = .ok (.ifnull o, 3))  (r : yEndsW p e below s0 T (mkF m (pc + 3) Ls st) cs ss Q) : yEndsW p e below s0 T (mkF m pc Ls (.ref b :: st)) cs ss Q := ystp (fun _ k => XS.ifnullNo X.here hx rfl (hb hby hd) rfl k) r
theorem yldc2J (X : Stand p l e R s m args below meth c T locs cells slots) (hx : p.tables.exec = Jvm.exec) (hby : c.code = bytes) {own : String} {i : Nat} (hd : decode bytes pc = .ok (.ldc2_w i, 3)) (z : Int64) (hZ : Z.Warmed39 s.vm) (hown : s.vm.findClass own = some m.cls) (w : (Jvm.Cond.constantLong own i z).before a0 Z = true) (r : yEndsW p e below s0 T (mkF m (pc + 3) Ls (.long z :: st)) cs ss Q) : yEndsW p e below s0 T (mkF m pc Ls st) cs ss Q := ystp (fun _ k => X.ldc2Long hx hown (mvT hZ w) (g := mkF m pc Ls st) rfl (hb hby hd) _ k) r
theorem ygetfld (X : Stand p l e R s m args below meth c T locs cells slots) (hx : p.tables.exec = Jvm.exec) (hby : c.code = bytes) {own R0 O n d host : String} {i : Nat} (hd : decode bytes pc = .ok (.getfield i, 3)) (hZ : Z.Warmed39 s.vm) (hown : s.vm.findClass own = some m.cls) (w : (Jvm.Cond.fieldLink own i R0 n d).before a0 Z = true ∨ (Jvm.Cond.fieldLinkNest own i R0 n d host).before a0 Z = true) (via : Via Z R0 O n d) (eT : T.heap = h) {a : Addr} {v : Value} (F : Fld Z h a O n d v)
    (r : ∀ T', Stand p l e R s m args below meth c T' locs cells slots → T'.heap = h → yEndsW p e below s0 T' (mkF m (pc + 3) Ls (v :: st)) cs ss Q) : yEndsW p e below s0 T (mkF m pc Ls (.ref a :: st)) cs ss Q := by
  obtain ⟨T', X', e', k⟩ := getF X hx hZ hown w via eT F (g := mkF m pc Ls (.ref a :: st)) rfl rfl (hb hby hd)
  exact ystp k (r T' X' e')
theorem ynewobj (X : Stand p l e R s m args below meth c T locs cells slots) (hx : p.tables.exec = Jvm.exec) (hby : c.code = bytes) {own C : String} {i n : Nat} (hd : decode bytes pc = .ok (.new i, 3)) (hZ : Z.Warmed39 s.vm) (hown : s.vm.findClass own = some m.cls) (w : (Jvm.Cond.classLink own i C).before a0 Z = true) (wi : (Jvm.Cond.instantiable C n).before a0 Z = true) (wz : (Jvm.Cond.initialized C).before a0 Z = true) (eT : T.heap = h) (hc : cells + 1 ≤ R.cells) (hl : slots + n ≤ R.slots)
    (r : ∀ T' h' b, Stand p l e R s m args below meth c T' locs (cells + 1) (slots + n) → T'.heap = h' → b = h.size → Ext h h' → Exa Z h' b C → (∀ {O nm d : String} {ty : FieldType}, Laid Z a0 C O nm d → parseFieldDescriptor d = some ty → Fld Z h' b O nm d (defaultValue ty)) → yEndsW p e below s0 T' (mkF m (pc + 3) Ls (.ref b :: st)) cs ss Q) : yEndsW p e below s0 T (mkF m pc Ls st) cs ss Q := by
  obtain ⟨T', h', X', e', E, A, D, -, k⟩ := newO X hx hZ hown w wi wz eT (g := mkF m pc Ls st) rfl (hb hby hd) hc hl
  exact ystp k (r T' h' _ X' e' rfl E A D)
theorem ycalls (X : Stand p l e R s m args below meth c T locs cells slots) (hx : p.tables.exec = Jvm.exec) (hby : c.code = bytes) {own : String} {i : Nat} {y : MethodName} {by' : ByteArray} {maxL : Nat} {rt : Option FieldType} {rm : Room} {argsL : List Value} {Q' : Option Value → Heap → List Loc → Prop} (hd : decode bytes pc = .ok (.invokestatic i, 3)) (hZ : Z.Warmed39 s.vm) (hown : s.vm.findClass own = some m.cls) (w1 : (Jvm.Cond.methodLink own i y).before a0 Z = true) (w2 : (Jvm.Cond.static y).before a0 Z = true) (w3 : (Jvm.Cond.initialized y.cls).before a0 Z = true) (w4 : (Jvm.Cond.code y by' maxL rt).before a0 Z = true) (eT : T.heap = h)
    (con : zCon l Z y by' maxL rt [] rm argsL.toArray h Q') {nl : Nat} (hmx : c.maxLocals = nl) (W : Nat) {ps : List FieldType} {rv : Option FieldType} (hp : parseMethodDescriptor y.desc = some ⟨ps, rv⟩) {S0 : List Value}
    (r : ∀ T' h' v L, T'.heap = h' → Stand p l e R s m args below meth c T' (locs ++ L) (cells + rm.cells) (slots + rm.slots) → Q' v h' L → yEndsW p e below s0 T' (mkF m (pc + 3) Ls (v.toList ++ st)) cs ss Q)
    (hy : y.cls ≠ "java/lang/invoke/MethodHandle" ∧ y.cls ≠ "java/lang/invoke/VarHandle" := by decide) (hml : Ls.size = nl := by rfl) (hW : (st.map fun v => v.category).sum ≤ W := by exact Nat.le_of_eq rfl) (hf : rm.frames + 1 ≤ R.frames := by first | decide | omega | (dsimp only; omega)) (hl : W + (maxL + 11) + rm.locals ≤ R.locals := by first | decide | omega | (dsimp only; omega)) (hcl : cells + rm.cells ≤ R.cells := by first | decide | omega | (dsimp only; omega)) (hsl : slots + rm.slots ≤ R.slots := by first | decide | omega | (dsimp only; omega)) (hn : argsL.length = ps.length := by rfl) (hS : S0 = argsL.reverse ++ st := by rfl) : yEndsW p e below s0 T (mkF m pc Ls S0) cs ss Q := by
  obtain ⟨v, _, ⟨T', L', k', n'⟩, -, X', ⟨L, hq, l1, l2, l3⟩, k⟩ := Jvm.LawKit.callS X hx (y := y) hown (mvT hZ w1) (mvT hZ w2) (mvT hZ w3) (mvT hZ w4) hy (backOf (W := W) con hZ w4 w3 hf hl) (g := mkF m pc Ls S0) rfl (hml.trans hmx.symm) (argsL := argsL) (rest := st) (lenOf hp hn) hS (by show 2 * 0 + _ ≤ _; rw [Nat.mul_zero, Nat.zero_add]; exact hW) (hb hby hd) (fun _ _ => ⟨rfl, eT, hcl, hsl⟩)
  dsimp only [Pt.U, Pt.locs, Pt.cells, Pt.slots] at X' l1 l2 l3 k hq
  subst l1 l2 l3
  exact ystp k (r T' _ v L rfl X' hq)
theorem ycallv (X : Stand p l e R s m args below meth c T locs cells slots) (hx : p.tables.exec = Jvm.exec) (hby : c.code = bytes) {own C : String} {i : Nat} {y z : MethodName} {by' : ByteArray} {maxL : Nat} {rt : Option FieldType} {rm : Room} {a : Addr} {argsL : List Value} {Q' : Option Value → Heap → List Loc → Prop} (hd : decode bytes pc = .ok (.invokevirtual i, 3)) (hZ : Z.Warmed39 s.vm) (hown : s.vm.findClass own = some m.cls) (w1 : (Jvm.Cond.methodLink own i y).before a0 Z = true) (w2 : (Jvm.Cond.declares y).before a0 Z = true) (hnf : NotFace s y) (w3 : (Jvm.Cond.selects C y z).before a0 Z = true) (w4 : (Jvm.Cond.instanceMethod z).before a0 Z = true) (w5 : (Jvm.Cond.code z by' maxL rt).before a0 Z = true) (w6 : (Jvm.Cond.initialized z.cls).before a0 Z = true) (eT : T.heap = h) (E : Exa Z h a C)
    (con : zCon l Z z by' maxL rt [] rm (.ref a :: argsL).toArray h Q') {nl : Nat} (hmx : c.maxLocals = nl) (W : Nat) {ps : List FieldType} {rv : Option FieldType} (hp : parseMethodDescriptor y.desc = some ⟨ps, rv⟩) {S0 : List Value}
    (r : ∀ T' h' v L, T'.heap = h' → Stand p l e R s m args below meth c T' (locs ++ L) (cells + rm.cells) (slots + rm.slots) → Q' v h' L → yEndsW p e below s0 T' (mkF m (pc + 3) Ls (v.toList ++ st)) cs ss Q)
    (hy : y.cls ≠ "java/lang/invoke/MethodHandle" ∧ y.cls ≠ "java/lang/invoke/VarHandle" := by decide) (hml : Ls.size = nl := by rfl) (hW : (st.map fun v => v.category).sum ≤ W := by exact Nat.le_of_eq rfl) (hf : rm.frames + 1 ≤ R.frames := by first | decide | omega | (dsimp only; omega)) (hl : W + (maxL + 11) + rm.locals ≤ R.locals := by first | decide | omega | (dsimp only; omega)) (hcl : cells + rm.cells ≤ R.cells := by first | decide | omega | (dsimp only; omega)) (hsl : slots + rm.slots ≤ R.slots := by first | decide | omega | (dsimp only; omega)) (hn : argsL.length = ps.length := by rfl) (hS : S0 = argsL.reverse ++ .ref a :: st := by rfl) : yEndsW p e below s0 T (mkF m pc Ls S0) cs ss Q := by
  obtain ⟨_, _, qa, -, qc⟩ := isOf hZ eT E
  obtain ⟨v, _, ⟨T', L', k', n'⟩, -, X', ⟨L, hq, l1, l2, l3⟩, k⟩ := X.virtualBack hx (y := y) (z := z) hown (mvT hZ w1) (mvT hZ w2) hnf (mvT hZ w3) (mvT hZ w4) hy (backOf (W := W) con hZ w5 w6 hf hl) qa qc (g := mkF m pc Ls S0) rfl (hml.trans hmx.symm) (Steps.refl _) (argsL := argsL) (rest := st) (lenOf hp hn) hS (by show 2 * 0 + _ ≤ _; rw [Nat.mul_zero, Nat.zero_add]; exact hW) (hb hby hd) (fun _ _ => ⟨rfl, eT, hcl, hsl⟩)
  dsimp only [Pt.U, Pt.locs, Pt.cells, Pt.slots] at X' l1 l2 l3 k hq
  subst l1 l2 l3
  exact ystp (fun _ q => k.trans q) (r T' _ v L rfl X' hq)
theorem ycallsp (X : Stand p l e R s m args below meth c T locs cells slots) (hx : p.tables.exec = Jvm.exec) (hby : c.code = bytes) {own : String} {i : Nat} {y : MethodName} {by' : ByteArray} {maxL : Nat} {rm : Room} {a : Addr} {argsL : List Value} {Q' : Option Value → Heap → List Loc → Prop} (hd : decode bytes pc = .ok (.invokespecial i, 3)) (hZ : Z.Warmed39 s.vm) (hown : s.vm.findClass own = some m.cls) (hyn : y.name = "<init>") (w1 : (Jvm.Cond.methodLink own i y).before a0 Z = true) (w2 : (Jvm.Cond.instanceMethod y).before a0 Z = true) (w3 : (Jvm.Cond.code y by' maxL none).before a0 Z = true) (w4 : (Jvm.Cond.initialized y.cls).before a0 Z = true) (eT : T.heap = h)
    (con : zCon l Z y by' maxL none [] rm (.ref a :: argsL).toArray h Q') {nl : Nat} (hmx : c.maxLocals = nl) (W : Nat) {ps : List FieldType} {rv : Option FieldType} (hp : parseMethodDescriptor y.desc = some ⟨ps, rv⟩) {S0 : List Value}
    (r : ∀ T' h' v L, T'.heap = h' → Stand p l e R s m args below meth c T' (locs ++ L) (cells + rm.cells) (slots + rm.slots) → Q' v h' L → yEndsW p e below s0 T' (mkF m (pc + 3) Ls (v.toList ++ st)) cs ss Q)
    (hy : y.cls ≠ "java/lang/invoke/MethodHandle" ∧ y.cls ≠ "java/lang/invoke/VarHandle" := by decide) (hml : Ls.size = nl := by rfl) (hW : (st.map fun v => v.category).sum ≤ W := by exact Nat.le_of_eq rfl) (hf : rm.frames + 1 ≤ R.frames := by first | decide | omega | (dsimp only; omega)) (hl : W + (maxL + 11) + rm.locals ≤ R.locals := by first | decide | omega | (dsimp only; omega)) (hcl : cells + rm.cells ≤ R.cells := by first | decide | omega | (dsimp only; omega)) (hsl : slots + rm.slots ≤ R.slots := by first | decide | omega | (dsimp only; omega)) (hn : argsL.length = ps.length := by rfl) (hS : S0 = argsL.reverse ++ .ref a :: st := by rfl) : yEndsW p e below s0 T (mkF m pc Ls S0) cs ss Q := by
  obtain ⟨v, _, ⟨T', L', k', n'⟩, -, X', ⟨L, hq, l1, l2, l3⟩, k⟩ := X.specialBack hx (y := y) hyn hown (mvT hZ w1) (mvT hZ w2) (mvT hZ w3) hy (backOf (W := W) con hZ w3 w4 hf hl) (g := mkF m pc Ls S0) rfl (hml.trans hmx.symm) (Steps.refl _) (a := a) (argsL := argsL) (rest := st) (lenOf hp hn) hS (by show 2 * 0 + _ ≤ _; rw [Nat.mul_zero, Nat.zero_add]; exact hW) (hb hby hd) (fun _ _ => ⟨rfl, eT, hcl, hsl⟩)
  dsimp only [Pt.U, Pt.locs, Pt.cells, Pt.slots] at X' l1 l2 l3 k hq
  subst l1 l2 l3
  exact ystp (fun _ q => k.trans q) (r T' _ v L rfl X' hq)
theorem ypureK {w : Option Value} {rm : Room} (hr : rm.cells = 0 ∧ rm.slots = 0) (r : ∀ T', Stand p l e R s m args below meth c T' locs cells slots → T'.heap = h → yEndsW p e below s0 T' (mkF m pc Ls (w.toList ++ st)) cs ss Q) :
    ∀ T' h' v L, T'.heap = h' → Stand p l e R s m args below meth c T' (locs ++ L) (cells + rm.cells) (slots + rm.slots) → zSame w h v h' L → yEndsW p e below s0 T' (mkF m pc Ls (v.toList ++ st)) cs ss Q := by
  rintro T' h' v L e' X ⟨rfl, rfl, rfl⟩
  rw [hr.1, hr.2, List.append_nil] at X
  exact r T' X e'
theorem ybackOfW {y : MethodName} {bytes : ByteArray} {maxL : Nat} {ret : Option FieldType} {rm : Room} {len W : Nat} {as' : Array Value} {P : Vm → Prop} (hM : yConW l Z y bytes maxL ret [] rm as' P h Q)
    (hZ : Z.Warmed39 s.vm) (wc : (Cond.code y bytes maxL ret).before a0 Z = true) (wz : (Cond.initialized y.cls).before a0 Z = true) (hf : rm.frames + 1 ≤ R.frames) (hl : W + (maxL + 11) + rm.locals ≤ R.locals) :
    BackS l R p e below s args y len W (fun A a => a = as' ∧ A.U.heap = h ∧ A.cells + rm.cells ≤ R.cells ∧ A.slots + rm.slots ≤ R.slots ∧ P A.U.vm)
      (fun A _ v B => ∃ L, Q v B.U.vm B.U.heap L ∧ B.locs = A.locs ++ L ∧ B.cells = A.cells + rm.cells ∧ B.slots = A.slots + rm.slots) :=
  BackS.of_freeW (bytes := bytes) (maxL := maxL) (ret := ret) (E := fun _ _ o t L k n => k = rm.cells ∧ n = rm.slots ∧ ∃ v, o = .returned v ∧ Q v t.vm t.heap L) hM hf hl
    (fun m meth c A a Y hp => have hU : Z.Warmed39 A.U.vm := wtrans hZ Y.warmed
      ⟨by show (Cond.and _ .tt).before a A.U = true; rw [Cond.before_and, mv hU wc]; rfl, mv hU wc, mv hU wz, hp.2.2.1, hp.2.2.2.1⟩)
    (fun m meth c A a g mk Y hp => ⟨hp.1, wtrans hZ Y.warmed, hp.2.1, hp.2.2.2.2⟩) (fun _ _ _ _ _ _ _ _ _ => trivial)
    (fun _ _ _ _ ⟨v, L, h1, h2, h3⟩ => ⟨L, _, _, h3, rfl, rfl, v, h1, h2⟩)
    (fun m meth c A a g mk v t L k n Y hp _ _ ⟨e1, e2, v', e3, e4⟩ => by cases e3; subst e1 e2; exact ⟨L, e4, rfl, rfl, rfl⟩)
theorem ycallvW (X : Stand p l e R (s0.setVm v0) m args below meth c T locs cells slots) (hx : p.tables.exec = Jvm.exec) (hby : c.code = bytes) {own C : String} {i : Nat} {y z : MethodName} {by' : ByteArray} {maxL : Nat} {rt : Option FieldType} {rm : Room} {a : Addr} {argsL : List Value} {Q' : Option Value → Vm → Heap → List Loc → Prop} (hd : decode bytes pc = .ok (.invokevirtual i, 3)) (hZ : Z.Warmed39 v0) (hown : v0.findClass own = some m.cls) (w1 : (Jvm.Cond.methodLink own i y).before a0 Z = true) (w2 : (Jvm.Cond.declares y).before a0 Z = true) (hnf : NotFace (s0.setVm v0) y) (w3 : (Jvm.Cond.selects C y z).before a0 Z = true) (w4 : (Jvm.Cond.instanceMethod z).before a0 Z = true) (w5 : (Jvm.Cond.code z by' maxL rt).before a0 Z = true) (w6 : (Jvm.Cond.initialized z.cls).before a0 Z = true) (eT : T.heap = h) (hS : ySin s0 v0 h) {P : Vm → Prop} (hP : ∀ v1, (s0.setVm v0).WarmedH v1 → P v1) (E : Exa Z h a C)
    (con : yConW l Z z by' maxL rt [] rm (.ref a :: argsL).toArray P h Q') {nl : Nat} (hmx : c.maxLocals = nl) (W : Nat) {ps : List FieldType} {rv : Option FieldType} (hp : parseMethodDescriptor y.desc = some ⟨ps, rv⟩) {S0 : List Value}
    (r : ∀ (v1 : Vm) T' h' v L, T'.heap = h' → Stand p l e R (s0.setVm v1) m args below meth c T' (locs ++ L) (cells + rm.cells) (slots + rm.slots) → Z.Warmed39 v1 → v1.findClass own = some m.cls → ySin s0 v1 h' → (s0.setVm v0).Warmed39 v1 → Q' v v1 h' L → yEndsW p e below s0 T' (mkF m (pc + 3) Ls (v.toList ++ st)) cs ss Q)
    (hy : y.cls ≠ "java/lang/invoke/MethodHandle" ∧ y.cls ≠ "java/lang/invoke/VarHandle" := by decide) (hml : Ls.size = nl := by rfl) (hW : (st.map fun v => v.category).sum ≤ W := by exact Nat.le_of_eq rfl) (hf : rm.frames + 1 ≤ R.frames := by first | decide | omega | (dsimp only; omega)) (hl : W + (maxL + 11) + rm.locals ≤ R.locals := by first | decide | omega | (dsimp only; omega)) (hcl : cells + rm.cells ≤ R.cells := by first | decide | omega | (dsimp only; omega)) (hsl : slots + rm.slots ≤ R.slots := by first | decide | omega | (dsimp only; omega)) (hn : argsL.length = ps.length := by rfl) (hS' : S0 = argsL.reverse ++ .ref a :: st := by rfl) : yEndsW p e below s0 T (mkF m pc Ls S0) cs ss Q := by
  obtain ⟨_, _, qa, -, qc⟩ := isOf (s := s0.setVm v0) hZ eT E
  obtain ⟨v, _, ⟨T', L', k', n'⟩, -, X', hSi, hg, ⟨L, hq, l1, l2, l3⟩, k⟩ := X.virtualBackS hx (y := y) (z := z) hown (mvT hZ w1) (mvT hZ w2) hnf (mvT hZ w3) (mvT hZ w4) hy (ybackOfW (s := s0.setVm v0) (W := W) con hZ w5 w6 hf hl) qa qc (g := mkF m pc Ls S0) rfl (hml.trans hmx.symm) (Steps.refl _) (argsL := argsL) (rest := st) (lenOf hp hn) hS' (by show 2 * 0 + _ ≤ _; rw [Nat.mul_zero, Nat.zero_add]; exact hW) (hb hby hd) (fun v1 hw1 => ⟨rfl, eT, hcl, hsl, hP v1 hw1⟩)
  dsimp only [Pt.U, Pt.locs, Pt.cells, Pt.slots] at X' l1 l2 l3 k hq hSi hg
  subst l1 l2 l3
  obtain ⟨k0, hk, hk2⟩ := hS
  exact ystp (fun _ q => k.trans q) (r T'.vm T' _ v L rfl X' (State.Warmed39.trans (t := s0.setVm v0) hZ hSi.1) (by rw [hSi.1.alike.findClass]; exact hown) ⟨_, hk.trans hSi (by rw [eT] at hg; exact Nat.le_trans hk2 hg), Nat.le_refl _⟩ hSi.1 hq)
theorem ychw {EL : List (String × Nat)} {v1 : Vm} (hZ : Z.Warmed39 v0) (hEL : EW Z a0 EL) (H : CHv Z EL v0 h) (hv : (s0.setVm v0).WarmedH v1) : CHv Z EL v1 h := (CHv.later (h' := h) hZ (show (Wst Z v0 h).Warmed39 v1 from hv.wide) hEL ⟨Nat.le_refl _, fun _ _ q => q⟩ (Or.inl hv.interned_eq) H).1
theorem ysafeNew {EL : List (String × Nat)} {h' : Heap} {ws : List Addr} {b : Addr} (H : CHv Z EL v0 h) (K : Keep h h' ws) (hs : ∀ x ∈ ws, Safe Z EL v0 h x) (q : h.size ≤ b) : Safe Z EL v0 h' b := fun B => by
  obtain ⟨cell, hc⟩ := Bk.there ((H.keepStep K hs).2 _ B)
  exact absurd (Array.getElem?_eq_some_iff.mp hc).1 (Nat.not_lt.mpr q)
theorem yldcH (X : Stand p l e R (s0.setVm v0) m args below meth c T locs cells slots) (hx : p.tables.exec = Jvm.exec) (hby : c.code = bytes) {own text : String} {i : Nat} (hd : decode bytes pc = .ok (.ldc i, 2)) (hZ : Z.Warmed39 v0) (hown : v0.findClass own = some m.cls) (w : (Jvm.Cond.stringLink own i text).before a0 Z = true) (wS : ∀ a ∈ Bundle.stringAtoms, a.before a0 Z = true) (eT : T.heap = h) (hS : ySin s0 v0 h)
    {EL : List (String × Nat)} (hEL : EW Z a0 EL) (hmem : (own, i) ∈ EL) (H : CHv Z EL v0 h) (xs : List Int8) (ht : (∀ c ∈ text.toList, c.toNat < 256) ∧ text.toList.map (fun c => Value.int (Jvm.Lit.byteI c.toNat.toUInt16)) = xs.map zbv) (hxl : xs.length < 100000) (n : Nat)
    (r : ∀ (v1 : Vm) T' h' a b, Stand p l e R (s0.setVm v1) m args below meth c T' locs (cells + 2) (slots + (n + 4)) → T'.heap = h' → Ext h h' → Z.Warmed39 v1 → v1.findClass own = some m.cls → ySin s0 v1 h' → Exa Z h' a "java/lang/String" → Fld Z h' a "java/lang/String" "value" "[B" (.ref b) → Fld Z h' a "java/lang/String" "coder" "B" (.int 0) → zBt Z h' b xs → CHr Z EL v0 h v1 h' → (∀ x, Safe Z EL v1 h' x → x ≠ a ∧ x ≠ b) → yEndsW p e below s0 T' (mkF m (pc + 2) Ls (.ref a :: st)) cs ss Q)
    (hn : 4 * text.toList.length ≤ n) (hbig : n ≤ 536870912) (hc : cells + 2 ≤ R.cells) (hl : slots + (n + 4) ≤ R.slots) : yEndsW p e below s0 T (mkF m pc Ls st) cs ss Q := by
  obtain ⟨k, hk, hk2⟩ := hS
  obtain ⟨a, T', h', k1, b, kc, X', e', E, q1, q2, q3, q4, q5, q6, q7, q8, -, -, q9, -, q11, kk⟩ := ldcCH (s := s0) (vm0 := v0) X hx hZ hown w wS eT hk hk2 hEL hmem H (z := Int32.ofNat xs.length) ht (zofN_nn (by omega)) (by rw [zofN_clamp (by omega), List.length_map]) (g := mkF m pc Ls st) rfl (hb hby hd) hn hbig hc hl
  exact ystp kk (r T'.vm T' h' a b X' e' E q3 q4 ⟨k1, q1, q2⟩ q5 q7 q6 (zBt.of_arv q8 (zofN_clamp (by omega))) q9 q11)

end OwnW
end Jvm.OwnKitW
namespace Jvm.Pilot.@@N@@
open Jvm Jvm.ClassFile Sem Op Lib Jvm.Free Jvm.Stand Jvm.LawKit Jvm.RoadKit Jvm.OwnKit Jvm.OwnKitW Bundle Jvm.Pilot.@@N@@.Jvm.D
variable {Z : State} {a0 : Array Value}
variable (l : Launch) {cs : Int32} {d1 d2 : Addr} {o1 o2 : List Int8} {n0 : Nat} {h0 : Heap}
def HW (a0 : Array Value) (Z : State) : Prop := ∀ d ∈ tables_1, d.before a0 Z = true
theorem hwi (hw : HW a0 Z) (i : Nat) {d : Cond} (q : tables_1[i]? = some d) : d.before a0 Z = true := hw d (List.mem_of_getElem? q)
theorem w84 (hw : HW a0 Z) : (Cond.initialized "java/lang/AbstractStringBuilder").before a0 Z = true := hwi hw 84 rfl
theorem w87 (hw : HW a0 Z) : (Cond.fieldLink "java/lang/AbstractStringBuilder" 18 "java/lang/String" "COMPACT_STRINGS" "Z").before a0 Z = true := hwi hw 87 rfl
theorem w88 (hw : HW a0 Z) : (Cond.initialized "java/lang/String").before a0 Z = true := hwi hw 88 rfl
theorem w90 (hw : HW a0 Z) : (Cond.fieldLink "java/lang/AbstractStringBuilder" 15 "java/lang/AbstractStringBuilder" "value" "[B").before a0 Z = true := hwi hw 90 rfl
theorem w92 (hw : HW a0 Z) : (Cond.fieldLink "java/lang/AbstractStringBuilder" 22 "java/lang/AbstractStringBuilder" "coder" "B").before a0 Z = true := hwi hw 92 rfl
theorem w107 (hw : HW a0 Z) : (Cond.superclass "java/lang/StringBuilder" "java/lang/AbstractStringBuilder").before a0 Z = true := hwi hw 107 rfl
theorem w115 (hw : HW a0 Z) : (Cond.fieldLink "java/lang/String" 9 "java/lang/String" "value" "[B").before a0 Z = true := hwi hw 115 rfl
theorem w116 (hw : HW a0 Z) : (Cond.methodLink "java/lang/String" 335 ⟨"java/lang/String", "coder", "()B"⟩).before a0 Z = true := hwi hw 116 rfl
theorem w117 (hw : HW a0 Z) : (Cond.declares ⟨"java/lang/String", "coder", "()B"⟩).before a0 Z = true := hwi hw 117 rfl
theorem w118 (hw : HW a0 Z) : (Cond.instanceMethod ⟨"java/lang/String", "coder", "()B"⟩).before a0 Z = true := hwi hw 118 rfl
theorem w119 (hw : HW a0 Z) : (Cond.selects "java/lang/String" ⟨"java/lang/String", "coder", "()B"⟩ ⟨"java/lang/String", "coder", "()B"⟩).before a0 Z = true := hwi hw 119 rfl
theorem w120 (hw : HW a0 Z) : (Cond.code ⟨"java/lang/String", "coder", "()B"⟩ jdk_42_method_152_code 1 (Option.some FieldType.byte)).before a0 Z = true := hwi hw 120 rfl
theorem w121 (hw : HW a0 Z) : (Cond.fieldLink "java/lang/String" 38 "java/lang/String" "COMPACT_STRINGS" "Z").before a0 Z = true := hwi hw 121 rfl
theorem w122 (hw : HW a0 Z) : (Cond.fieldLink "java/lang/String" 15 "java/lang/String" "coder" "B").before a0 Z = true := hwi hw 122 rfl
theorem w123 (hw : HW a0 Z) : (Cond.fieldLink "java/lang/AbstractStringBuilder" 79 "java/lang/AbstractStringBuilder" "count" "I").before a0 Z = true := hwi hw 123 rfl
theorem w189 (hw : HW a0 Z) : (Cond.instanceMethod ⟨"java/lang/AbstractStringBuilder", "isLatin1", "()Z"⟩).before a0 Z = true := hwi hw 189 rfl
theorem w190 (hw : HW a0 Z) : (Cond.selects "java/lang/StringBuilder" ⟨"java/lang/AbstractStringBuilder", "isLatin1", "()Z"⟩ ⟨"java/lang/AbstractStringBuilder", "isLatin1", "()Z"⟩).before a0 Z = true := hwi hw 190 rfl
theorem w239 (hw : HW a0 Z) : (Cond.instanceMethod ⟨"java/lang/AbstractStringBuilder", "length", "()I"⟩).before a0 Z = true := hwi hw 239 rfl
theorem w243 (hw : HW a0 Z) : (Cond.methodLink "java/lang/StringBuilder" 343 ⟨"java/lang/AbstractStringBuilder", "length", "()I"⟩).before a0 Z = true := hwi hw 243 rfl
theorem w244 (hw : HW a0 Z) : (Cond.code ⟨"java/lang/AbstractStringBuilder", "length", "()I"⟩ jdk_68_method_6_code 1 (Option.some FieldType.int)).before a0 Z = true := hwi hw 244 rfl
theorem d6_0 : decode jdk_29_method_65_code 0 = .ok (.iload_n 0, 1) := by decide +kernel
theorem d6_1 : decode jdk_29_method_65_code 1 = .ok (.iload_n 1, 1) := by decide +kernel
theorem d6_2 : decode jdk_29_method_65_code 2 = .ok (.if_icmp .lt 7, 3) := by decide +kernel
theorem d6_5 : decode jdk_29_method_65_code 5 = .ok (.iload_n 0, 1) := by decide +kernel
theorem d6_6 : decode jdk_29_method_65_code 6 = .ok (.goto 4, 3) := by decide +kernel
theorem d6_9 : decode jdk_29_method_65_code 9 = .ok (.iload_n 1, 1) := by decide +kernel
theorem d6_10 : decode jdk_29_method_65_code 10 = .ok (.ireturn, 1) := by decide +kernel
theorem d7_0 : decode jdk_29_method_69_code 0 = .ok (.iload_n 0, 1) := by decide +kernel
theorem d7_1 : decode jdk_29_method_69_code 1 = .ok (.iload_n 1, 1) := by decide +kernel
theorem d7_2 : decode jdk_29_method_69_code 2 = .ok (.if_icmp .gt 7, 3) := by decide +kernel
theorem d7_5 : decode jdk_29_method_69_code 5 = .ok (.iload_n 0, 1) := by decide +kernel
theorem d7_6 : decode jdk_29_method_69_code 6 = .ok (.goto 4, 3) := by decide +kernel
theorem d7_9 : decode jdk_29_method_69_code 9 = .ok (.iload_n 1, 1) := by decide +kernel
theorem d7_10 : decode jdk_29_method_69_code 10 = .ok (.ireturn, 1) := by decide +kernel
theorem d0_0 : decode jdk_42_method_152_code 0 = .ok (.getstatic 38, 3) := by decide +kernel
theorem d0_3 : decode jdk_42_method_152_code 3 = .ok (.ifCond .eq 10, 3) := by decide +kernel
theorem d0_6 : decode jdk_42_method_152_code 6 = .ok (.aload_n 0, 1) := by decide +kernel
theorem d0_7 : decode jdk_42_method_152_code 7 = .ok (.getfield 15, 3) := by decide +kernel
theorem d0_10 : decode jdk_42_method_152_code 10 = .ok (.goto 4, 3) := by decide +kernel
theorem d0_14 : decode jdk_42_method_152_code 14 = .ok (.ireturn, 1) := by decide +kernel
theorem d1_0 : decode jdk_42_method_54_code 0 = .ok (.aload_n 0, 1) := by decide +kernel
theorem d1_1 : decode jdk_42_method_54_code 1 = .ok (.getfield 9, 3) := by decide +kernel
theorem d1_4 : decode jdk_42_method_54_code 4 = .ok (.arraylength, 1) := by decide +kernel
theorem d1_5 : decode jdk_42_method_54_code 5 = .ok (.aload_n 0, 1) := by decide +kernel
theorem d1_6 : decode jdk_42_method_54_code 6 = .ok (.invokevirtual 335, 3) := by decide +kernel
theorem d1_9 : decode jdk_42_method_54_code 9 = .ok (.ishr, 1) := by decide +kernel
theorem d1_10 : decode jdk_42_method_54_code 10 = .ok (.ireturn, 1) := by decide +kernel
theorem d5_0 : decode jdk_67_method_93_code 0 = .ok (.aload_n 0, 1) := by decide +kernel
theorem d5_1 : decode jdk_67_method_93_code 1 = .ok (.invokespecial 343, 3) := by decide +kernel
theorem d5_4 : decode jdk_67_method_93_code 4 = .ok (.ireturn, 1) := by decide +kernel
theorem d3_0 : decode jdk_68_method_64_code 0 = .ok (.aload_n 0, 1) := by decide +kernel
theorem d3_1 : decode jdk_68_method_64_code 1 = .ok (.getfield 15, 3) := by decide +kernel
theorem d3_4 : decode jdk_68_method_64_code 4 = .ok (.areturn, 1) := by decide +kernel
theorem d2_0 : decode jdk_68_method_68_code 0 = .ok (.getstatic 18, 3) := by decide +kernel
theorem d2_3 : decode jdk_68_method_68_code 3 = .ok (.ifCond .eq 14, 3) := by decide +kernel
theorem d2_6 : decode jdk_68_method_68_code 6 = .ok (.aload_n 0, 1) := by decide +kernel
theorem d2_7 : decode jdk_68_method_68_code 7 = .ok (.getfield 22, 3) := by decide +kernel
theorem d2_10 : decode jdk_68_method_68_code 10 = .ok (.ifCond .ne 7, 3) := by decide +kernel
theorem d2_13 : decode jdk_68_method_68_code 13 = .ok (.iconst 1, 1) := by decide +kernel
theorem d2_14 : decode jdk_68_method_68_code 14 = .ok (.goto 4, 3) := by decide +kernel
theorem d2_18 : decode jdk_68_method_68_code 18 = .ok (.ireturn, 1) := by decide +kernel
theorem d4_0 : decode jdk_68_method_6_code 0 = .ok (.aload_n 0, 1) := by decide +kernel
theorem d4_1 : decode jdk_68_method_6_code 1 = .ok (.getfield 79, 3) := by decide +kernel
theorem d4_4 : decode jdk_68_method_6_code 4 = .ok (.ireturn, 1) := by decide +kernel
theorem pd_0 : parseMethodDescriptor "()B" = some ⟨[], some .byte⟩ := by decide +kernel
theorem pd_1 : parseMethodDescriptor "()I" = some ⟨[], some .int⟩ := by decide +kernel
theorem pn_0 : plainName "java/lang/String" = true := by first | (simp [plainName, overriddenIn]; done) | decide +kernel
theorem pn_1 : plainName "java/lang/AbstractStringBuilder" = true := by first | (simp [plainName, overriddenIn]; done) | decide +kernel
theorem pn_2 : plainName "java/lang/StringBuilder" = true := by first | (simp [plainName, overriddenIn]; done) | decide +kernel
def dg (d : Nat) : Int8 := Int8.ofNat (48 + d)
def Ctx (Z : State) (cs : Int32) (d1 d2 : Addr) (o1 o2 : List Int8) : Prop :=
  Sta Z Z.heap "java/lang/String" "COMPACT_STRINGS" "Z" (.int cs) ∧ ¬ (cs = (0 : Int32)) ∧ Sta Z Z.heap "java/lang/Integer" "DigitOnes" "[B" (.ref d1) ∧ zBt Z Z.heap d1 o1 ∧ (∀ i, i < 100 → o1[i]? = some (dg (i % 10))) ∧
  Sta Z Z.heap "java/lang/Integer" "DigitTens" "[B" (.ref d2) ∧ zBt Z Z.heap d2 o2 ∧ ∀ i, i < 100 → o2[i]? = some (dg (i / 10))
def Sx (Z : State) (h : Heap) (r b : Addr) (xs : List Int8) : Prop := Exa Z h r "java/lang/String" ∧ Fld Z h r "java/lang/String" "value" "[B" (.ref b) ∧ Fld Z h r "java/lang/String" "coder" "B" (.int 0) ∧ zBt Z h b xs
def Bd (Z : State) (h : Heap) (a b : Addr) (n : Nat) (ys : List Int8) : Prop := Exa Z h a "java/lang/StringBuilder" ∧ Fld Z h a "java/lang/AbstractStringBuilder" "value" "[B" (.ref b) ∧ Fld Z h a "java/lang/AbstractStringBuilder" "coder" "B" (.int 0) ∧ Fld Z h a "java/lang/AbstractStringBuilder" "count" "I" (.int (Int32.ofNat (n))) ∧ zBt Z h b ys ∧ Exa Z h b "[B" ∧ a ≠ b
theorem c_coder (hw : HW a0 Z) (C : Ctx Z cs d1 d2 o1 o2) (O0 : zOd Z n0 h0) (r x : Addr) (xs : List Int8) (B1 : Sx Z h0 r x xs) : zCon l Z (⟨"java/lang/String", "coder", "()B"⟩ : MethodName) jdk_42_method_152_code 1 (some .byte) [] ({ frames := 0, cells := 0, slots := 0, locals := 0 } : Room) #[(.ref r)] h0 (zSame (some (.int 0)) h0) := by
  obtain ⟨S_cs, hcs, S_d1, B_d1, H_d1, S_d2, B_d2, H_d2⟩ := id C
  refine zenter (plainFor_of_name pn_0) (L0 := #[rv r]) (H := ?_)
  intro p e s m below meth c T0 hx hZ hby hml hown0 hnm hret hlk X0 e0
  have hown : s.vm.findClass "java/lang/String" = some m.cls := hown0
  obtain ⟨E_r, F_r_v, F_r_c, A_x⟩ := id B1
  show zEnds p e below s T0 (mkF m 0 #[rv r] []) _ _ _
  refine zgetstat X0 hx hby d0_0 hZ hown (host := "") (Or.inl (w121 hw)) Via.refl e0 (S_cs.ext O0.2.2) fun T1 X1 e1 => (zifNo X1 hx hby d0_3 ((if0 _ _).trans (feq hcs).1) (zaloadN X1 hx hby d0_6 rfl rfl (zgetfld X1 hx hby d0_7 hZ hown (host := "") (Or.inl (w122 hw)) Via.refl e1 F_r_c fun T2 X2 e2 => (zgoto X2 hx hby d0_10 14 (by decide) (by decide) ?_))))
  show zEnds p e below s T2 (mkF m 14 #[rv r] [(.int 0)]) _ _ _
  exact zretZ X2 hx hby d0_14 hret hlk (by simp) rfl (by first | decide | omega | (dsimp only; omega)) (by first | decide | omega | (dsimp only; omega)) (⟨rfl, e2, rfl⟩)
theorem c_length (hw : HW a0 Z) (C : Ctx Z cs d1 d2 o1 o2) (O0 : zOd Z n0 h0) (r x : Addr) (xs : List Int8) (B1 : Sx Z h0 r x xs) : zCon l Z (⟨"java/lang/String", "length", "()I"⟩ : MethodName) jdk_42_method_54_code 1 (some .int) [] ({ frames := 1, cells := 0, slots := 0, locals := 13 } : Room) #[(.ref r)] h0 (zSame (some (.int (Int32.ofNat (xs.length)))) h0) := by
  refine zenter (plainFor_of_name pn_0) (L0 := #[rv r]) (H := ?_)
  intro p e s m below meth c T0 hx hZ hby hml hown0 hnm hret hlk X0 e0
  have hown : s.vm.findClass "java/lang/String" = some m.cls := hown0
  obtain ⟨E_r, F_r_v, F_r_c, A_x⟩ := id B1
  show zEnds p e below s T0 (mkF m 0 #[rv r] []) _ _ _
  refine zaloadN X0 hx hby d1_0 rfl rfl (zgetfld X0 hx hby d1_1 hZ hown (host := "") (Or.inl (w115 hw)) Via.refl e0 F_r_v fun T1 X1 e1 => (zalenB X1 hx hby d1_4 hZ e1 A_x (xs.length) rfl (zaloadN X1 hx hby d1_5 rfl rfl (zcallv X1 hx hby d1_6 hZ hown (w116 hw) (w117 hw) (notFace_of_selects (args := #[]) (mvT hZ (w119 hw))) (w119 hw) (w118 hw) (w120 hw) (w88 hw) e1 E_r (c_coder l hw  C O0 r x (xs) ⟨E_r, F_r_v, F_r_c, A_x⟩) hml 1 pd_0 (argsL := []) (st := [(.int (Int32.ofNat (xs.length)))]) (zpureK ⟨rfl, rfl⟩ fun T2 X2 e2 => ?_)))))
  refine zishr X2 hx hby d1_9 (Int32.ofNat (xs.length)) (zshr0 _) ?_
  show zEnds p e below s T2 (mkF m 10 #[rv r] [(.int (Int32.ofNat (xs.length)))]) _ _ _
  exact zretI X2 hx hby d1_10 hret hlk (by first | decide | omega | (dsimp only; omega)) (by first | decide | omega | (dsimp only; omega)) (⟨rfl, e2, rfl⟩)
theorem c_latin (hw : HW a0 Z) (C : Ctx Z cs d1 d2 o1 o2) (O0 : zOd Z n0 h0) (a b : Addr) (n : Nat) (ys : List Int8) (B0 : Bd Z h0 a b n ys) : zCon l Z (⟨"java/lang/AbstractStringBuilder", "isLatin1", "()Z"⟩ : MethodName) jdk_68_method_68_code 1 (some .boolean) [] ({ frames := 0, cells := 0, slots := 0, locals := 0 } : Room) #[(.ref a)] h0 (zSame (some (.int 1)) h0) := by
  obtain ⟨S_cs, hcs, S_d1, B_d1, H_d1, S_d2, B_d2, H_d2⟩ := id C
  refine zenter (plainFor_of_name pn_1) (L0 := #[rv a]) (H := ?_)
  intro p e s m below meth c T0 hx hZ hby hml hown0 hnm hret hlk X0 e0
  have hown : s.vm.findClass "java/lang/AbstractStringBuilder" = some m.cls := hown0
  obtain ⟨E_a, F_a_v, F_a_c, F_a_n, A_b, E_b, ne_ab⟩ := id B0
  show zEnds p e below s T0 (mkF m 0 #[rv a] []) _ _ _
  refine zgetstat X0 hx hby d2_0 hZ hown (host := "") (Or.inl (w87 hw)) Via.refl e0 (S_cs.ext O0.2.2) fun T1 X1 e1 => (zifNo X1 hx hby d2_3 ((if0 _ _).trans (feq hcs).1) (zaloadN X1 hx hby d2_6 rfl rfl (zgetfld X1 hx hby d2_7 hZ hown (host := "") (Or.inl (w92 hw)) Via.refl e1 F_a_c fun T2 X2 e2 => (zifNo X2 hx hby d2_10 (by decide) (ziconst X2 hx hby d2_13 (z := (1 : Int32)) rfl (zgoto X2 hx hby d2_14 18 (by decide) (by decide) ?_))))))
  show zEnds p e below s T2 (mkF m 18 #[rv a] [(.int 1)]) _ _ _
  exact zretZ X2 hx hby d2_18 hret hlk (by simp) rfl (by first | decide | omega | (dsimp only; omega)) (by first | decide | omega | (dsimp only; omega)) (⟨rfl, e2, rfl⟩)
theorem c_value (hw : HW a0 Z) (C : Ctx Z cs d1 d2 o1 o2) (O0 : zOd Z n0 h0) (a b : Addr) (n : Nat) (ys : List Int8) (B0 : Bd Z h0 a b n ys) : zCon l Z (⟨"java/lang/AbstractStringBuilder", "getValue", "()[B"⟩ : MethodName) jdk_68_method_64_code 1 (some (.array .byte)) [] ({ frames := 0, cells := 0, slots := 0, locals := 0 } : Room) #[(.ref a)] h0 (zSame (some (.ref b)) h0) := by
  refine zenter (plainFor_of_name pn_1) (L0 := #[rv a]) (H := ?_)
  intro p e s m below meth c T0 hx hZ hby hml hown0 hnm hret hlk X0 e0
  have hown : s.vm.findClass "java/lang/AbstractStringBuilder" = some m.cls := hown0
  obtain ⟨E_a, F_a_v, F_a_c, F_a_n, A_b, E_b, ne_ab⟩ := id B0
  show zEnds p e below s T0 (mkF m 0 #[rv a] []) _ _ _
  refine zaloadN X0 hx hby d3_0 rfl rfl (zgetfld X0 hx hby d3_1 hZ hown (host := "") (Or.inl (w90 hw)) Via.refl e0 F_a_v fun T1 X1 e1 => ?_)
  show zEnds p e below s T1 (mkF m 4 #[rv a] [(.ref b)]) _ _ _
  exact zretA X1 hx hby d3_4 hret hlk rfl rfl rfl (by first | decide | omega | (dsimp only; omega)) (by first | decide | omega | (dsimp only; omega)) (⟨rfl, e1, rfl⟩)
theorem nfASB {Z : State} {a0 : Array Value} (hw : HW a0 Z) {y : MethodName} (w : (Jvm.Cond.instanceMethod y).before a0 Z = true) (q : "java/lang/AbstractStringBuilder" = y.cls) : NotFace Z y := znf_of (w189 hw) (notFace_of_selects (w190 hw)) q
theorem c_blen0 (hw : HW a0 Z) (C : Ctx Z cs d1 d2 o1 o2) (O0 : zOd Z n0 h0) (a b : Addr) (n : Nat) (ys : List Int8) (B0 : Bd Z h0 a b n ys) : zCon l Z (⟨"java/lang/AbstractStringBuilder", "length", "()I"⟩ : MethodName) jdk_68_method_6_code 1 (some .int) [] ({ frames := 0, cells := 0, slots := 0, locals := 0 } : Room) #[(.ref a)] h0 (zSame (some (.int (Int32.ofNat (n)))) h0) := by
  refine zenter (plainFor_of_name pn_1) (L0 := #[rv a]) (H := ?_)
  intro p e s m below meth c T0 hx hZ hby hml hown0 hnm hret hlk X0 e0
  have hown : s.vm.findClass "java/lang/AbstractStringBuilder" = some m.cls := hown0
  obtain ⟨E_a, F_a_v, F_a_c, F_a_n, A_b, E_b, ne_ab⟩ := id B0
  show zEnds p e below s T0 (mkF m 0 #[rv a] []) _ _ _
  refine zaloadN X0 hx hby d4_0 rfl rfl (zgetfld X0 hx hby d4_1 hZ hown (host := "") (Or.inl (w123 hw)) Via.refl e0 F_a_n fun T1 X1 e1 => ?_)
  show zEnds p e below s T1 (mkF m 4 #[rv a] [(.int (Int32.ofNat (n)))]) _ _ _
  exact zretI X1 hx hby d4_4 hret hlk (by first | decide | omega | (dsimp only; omega)) (by first | decide | omega | (dsimp only; omega)) (⟨rfl, e1, rfl⟩)
theorem c_blen (hw : HW a0 Z) (C : Ctx Z cs d1 d2 o1 o2) (O0 : zOd Z n0 h0) (a b : Addr) (n : Nat) (ys : List Int8) (B0 : Bd Z h0 a b n ys) : zCon l Z (⟨"java/lang/StringBuilder", "length", "()I"⟩ : MethodName) jdk_67_method_93_code 1 (some .int) [] ({ frames := 1, cells := 0, slots := 0, locals := 12 } : Room) #[(.ref a)] h0 (zSame (some (.int (Int32.ofNat (n)))) h0) := by
  refine zenter (plainFor_of_name pn_2) (L0 := #[rv a]) (H := ?_)
  intro p e s m below meth c T0 hx hZ hby hml hown0 hnm hret hlk X0 e0
  have hown : s.vm.findClass "java/lang/StringBuilder" = some m.cls := hown0
  obtain ⟨E_a, F_a_v, F_a_c, F_a_n, A_b, E_b, ne_ab⟩ := id B0
  show zEnds p e below s T0 (mkF m 0 #[rv a] []) _ _ _
  refine zaloadN X0 hx hby d5_0 rfl rfl (zcallsup X0 hx hby d5_1 hZ hown (by decide) (w243 hw) (nfASB hw (w239 hw) rfl) (w239 hw) (w107 hw) (w244 hw) (w84 hw) e0 E_a (c_blen0 l hw  C O0 a b (n) (ys) ⟨E_a, F_a_v, F_a_c, F_a_n, A_b, E_b, ne_ab⟩) hml 0 pd_1 (argsL := []) (st := []) (zpureK ⟨rfl, rfl⟩ fun T1 X1 e1 => ?_))
  show zEnds p e below s T1 (mkF m 4 #[rv a] [(.int (Int32.ofNat (n)))]) _ _ _
  exact zretI X1 hx hby d5_4 hret hlk (by first | decide | omega | (dsimp only; omega)) (by first | decide | omega | (dsimp only; omega)) (⟨rfl, e1, rfl⟩)
theorem c_max (hw : HW a0 Z) (C : Ctx Z cs d1 d2 o1 o2) (O0 : zOd Z n0 h0) (i j : Nat) (hi : i < 2147483648) (hj : j < 2147483648) : zCon l Z (⟨"java/lang/Math", "max", "(II)I"⟩ : MethodName) jdk_29_method_65_code 2 (some .int) [] ({ frames := 0, cells := 0, slots := 0, locals := 0 } : Room) #[(.int (Int32.ofNat (i))), (.int (Int32.ofNat (j)))] h0 (zSame (some (.int (Int32.ofNat (max i j)))) h0) := by
  refine zenter (Jvm.Free.JP.mathPlain rfl (by decide +kernel)) (L0 := #[iv (Int32.ofNat (i)), iv (Int32.ofNat (j))]) (H := ?_)
  intro p e s m below meth c T0 hx hZ hby hml hown0 hnm hret hlk X0 e0
  have hown : s.vm.findClass "java/lang/Math" = some m.cls := hown0
  show zEnds p e below s T0 (mkF m 0 #[iv (Int32.ofNat (i)), iv (Int32.ofNat (j))] []) _ _ _
  refine ziloadN X0 hx hby d6_0 rfl (ziloadN X0 hx hby d6_1 rfl ?_)
  show zEnds p e below s T0 (mkF m 2 #[iv (Int32.ofNat (i)), iv (Int32.ofNat (j))] [(.int (Int32.ofNat (j))), (.int (Int32.ofNat (i)))]) _ _ _
  by_cases hc1 : (Int32.ofNat (i)) < (Int32.ofNat (j))
  · refine zicmpYes X0 hx hby d6_2 9 (tlt hc1).1 (by decide) (by decide) (ziloadN X0 hx hby d6_9 rfl ?_)
    show zEnds p e below s T0 (mkF m 10 #[iv (Int32.ofNat (i)), iv (Int32.ofNat (j))] [(.int (Int32.ofNat (j)))]) _ _ _
    exact zretI X0 hx hby d6_10 hret hlk (by first | decide | omega | (dsimp only; omega)) (by first | decide | omega | (dsimp only; omega)) (⟨by rw [zofN_lt (by omega) (by omega)] at hc1; rw [show max i j = j from by omega], e0, rfl⟩)
  · refine zicmpNo X0 hx hby d6_2 (flt hc1).1 (ziloadN X0 hx hby d6_5 rfl (zgoto X0 hx hby d6_6 10 (by decide) (by decide) ?_))
    show zEnds p e below s T0 (mkF m 10 #[iv (Int32.ofNat (i)), iv (Int32.ofNat (j))] [(.int (Int32.ofNat (i)))]) _ _ _
    exact zretI X0 hx hby d6_10 hret hlk (by first | decide | omega | (dsimp only; omega)) (by first | decide | omega | (dsimp only; omega)) (⟨by rw [zofN_lt (by omega) (by omega)] at hc1; rw [show max i j = i from by omega], e0, rfl⟩)
theorem c_min (hw : HW a0 Z) (C : Ctx Z cs d1 d2 o1 o2) (O0 : zOd Z n0 h0) (i j : Nat) (hi : i < 2147483648) (hj : j < 2147483648) : zCon l Z (⟨"java/lang/Math", "min", "(II)I"⟩ : MethodName) jdk_29_method_69_code 2 (some .int) [] ({ frames := 0, cells := 0, slots := 0, locals := 0 } : Room) #[(.int (Int32.ofNat (i))), (.int (Int32.ofNat (j)))] h0 (zSame (some (.int (Int32.ofNat (min i j)))) h0) := by
  refine zenter (Jvm.Free.JP.mathPlain rfl (by decide +kernel)) (L0 := #[iv (Int32.ofNat (i)), iv (Int32.ofNat (j))]) (H := ?_)
  intro p e s m below meth c T0 hx hZ hby hml hown0 hnm hret hlk X0 e0
  have hown : s.vm.findClass "java/lang/Math" = some m.cls := hown0
  show zEnds p e below s T0 (mkF m 0 #[iv (Int32.ofNat (i)), iv (Int32.ofNat (j))] []) _ _ _
  refine ziloadN X0 hx hby d7_0 rfl (ziloadN X0 hx hby d7_1 rfl ?_)
  show zEnds p e below s T0 (mkF m 2 #[iv (Int32.ofNat (i)), iv (Int32.ofNat (j))] [(.int (Int32.ofNat (j))), (.int (Int32.ofNat (i)))]) _ _ _
  by_cases hc1 : (Int32.ofNat (j)) < (Int32.ofNat (i))
  · refine zicmpYes X0 hx hby d7_2 9 (tlt hc1).2.2.1 (by decide) (by decide) (ziloadN X0 hx hby d7_9 rfl ?_)
    show zEnds p e below s T0 (mkF m 10 #[iv (Int32.ofNat (i)), iv (Int32.ofNat (j))] [(.int (Int32.ofNat (j)))]) _ _ _
    exact zretI X0 hx hby d7_10 hret hlk (by first | decide | omega | (dsimp only; omega)) (by first | decide | omega | (dsimp only; omega)) (⟨by rw [zofN_lt (by omega) (by omega)] at hc1; rw [show min i j = j from by omega], e0, rfl⟩)
  · refine zicmpNo X0 hx hby d7_2 (flt hc1).2.2.1 (ziloadN X0 hx hby d7_5 rfl (zgoto X0 hx hby d7_6 10 (by decide) (by decide) ?_))
    show zEnds p e below s T0 (mkF m 10 #[iv (Int32.ofNat (i)), iv (Int32.ofNat (j))] [(.int (Int32.ofNat (i)))]) _ _ _
    exact zretI X0 hx hby d7_10 hret hlk (by first | decide | omega | (dsimp only; omega)) (by first | decide | omega | (dsimp only; omega)) (⟨by rw [zofN_lt (by omega) (by omega)] at hc1; rw [show min i j = i from by omega], e0, rfl⟩)
theorem w89 (hw : HW a0 Z) : (Cond.arrayClass FieldType.byte).before a0 Z = true := hwi hw 89 rfl
theorem w135 (hw : HW a0 Z) : (Cond.methodLink "java/lang/AbstractStringBuilder" 114 ⟨"jdk/internal/util/ArraysSupport", "newLength", "(III)I"⟩).before a0 Z = true := hwi hw 135 rfl
theorem w136 (hw : HW a0 Z) : (Cond.static ⟨"jdk/internal/util/ArraysSupport", "newLength", "(III)I"⟩).before a0 Z = true := hwi hw 136 rfl
theorem w137 (hw : HW a0 Z) : (Cond.initialized "jdk/internal/util/ArraysSupport").before a0 Z = true := hwi hw 137 rfl
theorem w138 (hw : HW a0 Z) : (Cond.code ⟨"jdk/internal/util/ArraysSupport", "newLength", "(III)I"⟩ jdk_48_method_27_code 4 (Option.some FieldType.int)).before a0 Z = true := hwi hw 138 rfl
theorem w139 (hw : HW a0 Z) : (Cond.methodLink "jdk/internal/util/ArraysSupport" 194 ⟨"java/lang/Math", "max", "(II)I"⟩).before a0 Z = true := hwi hw 139 rfl
theorem w140 (hw : HW a0 Z) : (Cond.static ⟨"java/lang/Math", "max", "(II)I"⟩).before a0 Z = true := hwi hw 140 rfl
theorem w141 (hw : HW a0 Z) : (Cond.initialized "java/lang/Math").before a0 Z = true := hwi hw 141 rfl
theorem w142 (hw : HW a0 Z) : (Cond.code ⟨"java/lang/Math", "max", "(II)I"⟩ jdk_29_method_65_code 2 (Option.some FieldType.int)).before a0 Z = true := hwi hw 142 rfl
theorem w143 (hw : HW a0 Z) : (Cond.constant "jdk/internal/util/ArraysSupport" 200 (2147483639 : Int32)).before a0 Z = true := hwi hw 143 rfl
theorem w144 (hw : HW a0 Z) : (Cond.constant "java/lang/AbstractStringBuilder" 39 (2147483647 : Int32)).before a0 Z = true := hwi hw 144 rfl
theorem w149 (hw : HW a0 Z) : (Cond.methodLink "java/util/Arrays" 304 ⟨"java/lang/Math", "min", "(II)I"⟩).before a0 Z = true := hwi hw 149 rfl
theorem w150 (hw : HW a0 Z) : (Cond.static ⟨"java/lang/Math", "min", "(II)I"⟩).before a0 Z = true := hwi hw 150 rfl
theorem w151 (hw : HW a0 Z) : (Cond.code ⟨"java/lang/Math", "min", "(II)I"⟩ jdk_29_method_69_code 2 (Option.some FieldType.int)).before a0 Z = true := hwi hw 151 rfl
theorem w152 (hw : HW a0 Z) : (Cond.methodLink "java/util/Arrays" 150 ⟨"java/lang/System", "arraycopy", "(Ljava/lang/Object;ILjava/lang/Object;II)V"⟩).before a0 Z = true := hwi hw 152 rfl
theorem w153 (hw : HW a0 Z) : (Cond.static ⟨"java/lang/System", "arraycopy", "(Ljava/lang/Object;ILjava/lang/Object;II)V"⟩).before a0 Z = true := hwi hw 153 rfl
theorem w154 (hw : HW a0 Z) : (Cond.initialized "java/lang/System").before a0 Z = true := hwi hw 154 rfl
theorem w155 (hw : HW a0 Z) : (Cond.native ⟨"java/lang/System", "arraycopy", "(Ljava/lang/Object;ILjava/lang/Object;II)V"⟩).before a0 Z = true := hwi hw 155 rfl
theorem d8_0 : decode jdk_48_method_27_code 0 = .ok (.iload_n 0, 1) := by decide +kernel
theorem d8_1 : decode jdk_48_method_27_code 1 = .ok (.iload_n 1, 1) := by decide +kernel
theorem d8_2 : decode jdk_48_method_27_code 2 = .ok (.iload_n 2, 1) := by decide +kernel
theorem d8_3 : decode jdk_48_method_27_code 3 = .ok (.invokestatic 194, 3) := by decide +kernel
theorem d8_6 : decode jdk_48_method_27_code 6 = .ok (.iadd, 1) := by decide +kernel
theorem d8_7 : decode jdk_48_method_27_code 7 = .ok (.istore_n 3, 1) := by decide +kernel
theorem d8_8 : decode jdk_48_method_27_code 8 = .ok (.iconst 0, 1) := by decide +kernel
theorem d8_9 : decode jdk_48_method_27_code 9 = .ok (.iload_n 3, 1) := by decide +kernel
theorem d8_10 : decode jdk_48_method_27_code 10 = .ok (.if_icmp .ge 11, 3) := by decide +kernel
theorem d8_13 : decode jdk_48_method_27_code 13 = .ok (.iload_n 3, 1) := by decide +kernel
theorem d8_14 : decode jdk_48_method_27_code 14 = .ok (.ldc 200, 2) := by decide +kernel
theorem d8_16 : decode jdk_48_method_27_code 16 = .ok (.if_icmp .gt 5, 3) := by decide +kernel
theorem d8_19 : decode jdk_48_method_27_code 19 = .ok (.iload_n 3, 1) := by decide +kernel
theorem d8_20 : decode jdk_48_method_27_code 20 = .ok (.ireturn, 1) := by decide +kernel
theorem d10_0 : decode jdk_65_method_121_code 0 = .ok (.iload_n 1, 1) := by decide +kernel
theorem d10_1 : decode jdk_65_method_121_code 1 = .ok (.aload_n 0, 1) := by decide +kernel
theorem d10_2 : decode jdk_65_method_121_code 2 = .ok (.arraylength, 1) := by decide +kernel
theorem d10_3 : decode jdk_65_method_121_code 3 = .ok (.if_icmp .ne 11, 3) := by decide +kernel
theorem d10_14 : decode jdk_65_method_121_code 14 = .ok (.iload_n 1, 1) := by decide +kernel
theorem d10_15 : decode jdk_65_method_121_code 15 = .ok (.newarray .byte, 2) := by decide +kernel
theorem d10_17 : decode jdk_65_method_121_code 17 = .ok (.astore_n 2, 1) := by decide +kernel
theorem d10_18 : decode jdk_65_method_121_code 18 = .ok (.aload_n 0, 1) := by decide +kernel
theorem d10_19 : decode jdk_65_method_121_code 19 = .ok (.iconst 0, 1) := by decide +kernel
theorem d10_20 : decode jdk_65_method_121_code 20 = .ok (.aload_n 2, 1) := by decide +kernel
theorem d10_21 : decode jdk_65_method_121_code 21 = .ok (.iconst 0, 1) := by decide +kernel
theorem d10_22 : decode jdk_65_method_121_code 22 = .ok (.aload_n 0, 1) := by decide +kernel
theorem d10_23 : decode jdk_65_method_121_code 23 = .ok (.arraylength, 1) := by decide +kernel
theorem d10_24 : decode jdk_65_method_121_code 24 = .ok (.iload_n 1, 1) := by decide +kernel
theorem d10_25 : decode jdk_65_method_121_code 25 = .ok (.invokestatic 304, 3) := by decide +kernel
theorem d10_28 : decode jdk_65_method_121_code 28 = .ok (.invokestatic 150, 3) := by decide +kernel
theorem d10_31 : decode jdk_65_method_121_code 31 = .ok (.aload_n 2, 1) := by decide +kernel
theorem d10_32 : decode jdk_65_method_121_code 32 = .ok (.areturn, 1) := by decide +kernel
theorem d9_0 : decode jdk_68_method_10_code 0 = .ok (.aload_n 0, 1) := by decide +kernel
theorem d9_1 : decode jdk_68_method_10_code 1 = .ok (.getfield 15, 3) := by decide +kernel
theorem d9_4 : decode jdk_68_method_10_code 4 = .ok (.arraylength, 1) := by decide +kernel
theorem d9_5 : decode jdk_68_method_10_code 5 = .ok (.istore_n 2, 1) := by decide +kernel
theorem d9_6 : decode jdk_68_method_10_code 6 = .ok (.iload_n 1, 1) := by decide +kernel
theorem d9_7 : decode jdk_68_method_10_code 7 = .ok (.aload_n 0, 1) := by decide +kernel
theorem d9_8 : decode jdk_68_method_10_code 8 = .ok (.getfield 22, 3) := by decide +kernel
theorem d9_11 : decode jdk_68_method_10_code 11 = .ok (.ishl, 1) := by decide +kernel
theorem d9_12 : decode jdk_68_method_10_code 12 = .ok (.istore_n 3, 1) := by decide +kernel
theorem d9_13 : decode jdk_68_method_10_code 13 = .ok (.iload_n 3, 1) := by decide +kernel
theorem d9_14 : decode jdk_68_method_10_code 14 = .ok (.iload_n 2, 1) := by decide +kernel
theorem d9_15 : decode jdk_68_method_10_code 15 = .ok (.isub, 1) := by decide +kernel
theorem d9_16 : decode jdk_68_method_10_code 16 = .ok (.istore 4, 2) := by decide +kernel
theorem d9_18 : decode jdk_68_method_10_code 18 = .ok (.iload_n 2, 1) := by decide +kernel
theorem d9_19 : decode jdk_68_method_10_code 19 = .ok (.iload 4, 2) := by decide +kernel
theorem d9_21 : decode jdk_68_method_10_code 21 = .ok (.iload_n 2, 1) := by decide +kernel
theorem d9_22 : decode jdk_68_method_10_code 22 = .ok (.iconst 2, 1) := by decide +kernel
theorem d9_23 : decode jdk_68_method_10_code 23 = .ok (.aload_n 0, 1) := by decide +kernel
theorem d9_24 : decode jdk_68_method_10_code 24 = .ok (.getfield 22, 3) := by decide +kernel
theorem d9_27 : decode jdk_68_method_10_code 27 = .ok (.ishl, 1) := by decide +kernel
theorem d9_28 : decode jdk_68_method_10_code 28 = .ok (.iadd, 1) := by decide +kernel
theorem d9_29 : decode jdk_68_method_10_code 29 = .ok (.invokestatic 114, 3) := by decide +kernel
theorem d9_32 : decode jdk_68_method_10_code 32 = .ok (.istore 5, 2) := by decide +kernel
theorem d9_34 : decode jdk_68_method_10_code 34 = .ok (.iload 5, 2) := by decide +kernel
theorem d9_36 : decode jdk_68_method_10_code 36 = .ok (.ldc 39, 2) := by decide +kernel
theorem d9_38 : decode jdk_68_method_10_code 38 = .ok (.if_icmp .ne 13, 3) := by decide +kernel
theorem d9_51 : decode jdk_68_method_10_code 51 = .ok (.iload 5, 2) := by decide +kernel
theorem d9_53 : decode jdk_68_method_10_code 53 = .ok (.aload_n 0, 1) := by decide +kernel
theorem d9_54 : decode jdk_68_method_10_code 54 = .ok (.getfield 22, 3) := by decide +kernel
theorem d9_57 : decode jdk_68_method_10_code 57 = .ok (.ishr, 1) := by decide +kernel
theorem d9_58 : decode jdk_68_method_10_code 58 = .ok (.ireturn, 1) := by decide +kernel
theorem pd_2 : parseMethodDescriptor "(II)I" = some ⟨[.int, .int], some .int⟩ := by decide +kernel
theorem pd_3 : parseMethodDescriptor "(III)I" = some ⟨[.int, .int, .int], some .int⟩ := by decide +kernel
theorem pn_3 : plainName "jdk/internal/util/ArraysSupport" = true := by first | (simp [plainName, overriddenIn]; done) | decide +kernel
theorem pn_4 : plainName "java/util/Arrays" = true := by first | (simp [plainName, overriddenIn]; done) | decide +kernel
def ncap (c m : Nat) : Nat := c + max (m - c) (c + 2)
def gcap (c m : Nat) : Nat := if m ≤ c then c else ncap c m
def gcell (c m : Nat) : Nat := if m ≤ c then 0 else 1
def gslot (c m : Nat) : Nat := if m ≤ c then 0 else ncap c m
theorem c_newlen (hw : HW a0 Z) (C : Ctx Z cs d1 d2 o1 o2) (O0 : zOd Z n0 h0) (o i j : Nat) (ho : 0 < o + max i j) (hi : o + max i j < 1073741824) : zCon l Z (⟨"jdk/internal/util/ArraysSupport", "newLength", "(III)I"⟩ : MethodName) jdk_48_method_27_code 4 (some .int) [] ({ frames := 1, cells := 0, slots := 0, locals := 14 } : Room) #[(.int (Int32.ofNat (o))), (.int (Int32.ofNat (i))), (.int (Int32.ofNat (j)))] h0 (zSame (some (.int (Int32.ofNat (o + max i j)))) h0) := by
  refine zenter (plainFor_of_name pn_3) (L0 := #[iv (Int32.ofNat (o)), iv (Int32.ofNat (i)), iv (Int32.ofNat (j)), .unset]) (H := ?_)
  intro p e s m below meth c T0 hx hZ hby hml hown0 hnm hret hlk X0 e0
  have hown : s.vm.findClass "jdk/internal/util/ArraysSupport" = some m.cls := hown0
  show zEnds p e below s T0 (mkF m 0 #[iv (Int32.ofNat (o)), iv (Int32.ofNat (i)), iv (Int32.ofNat (j)), .unset] []) _ _ _
  refine ziloadN X0 hx hby d8_0 rfl (ziloadN X0 hx hby d8_1 rfl (ziloadN X0 hx hby d8_2 rfl (zcalls X0 hx hby d8_3 hZ hown (w139 hw) (w140 hw) (w141 hw) (w142 hw) e0 (c_max l hw  C O0 (i) (j) (by omega) (by omega)) hml 1 pd_2 (argsL := [(.int (Int32.ofNat (i))), (.int (Int32.ofNat (j)))]) (st := [(.int (Int32.ofNat (o)))]) (zpureK ⟨rfl, rfl⟩ fun T1 X1 e1 => ?_))))
  refine ziadd X1 hx hby d8_6 (Int32.ofNat (o + max (i) (j))) (zofN_add _ _) (zistoreN X1 hx hby d8_7 (L' := #[iv (Int32.ofNat (o)), iv (Int32.ofNat (i)), iv (Int32.ofNat (j)), iv (Int32.ofNat (o + max (i) (j)))]) rfl (ziconst X1 hx hby d8_8 (z := (0 : Int32)) rfl (ziloadN X1 hx hby d8_9 rfl (zicmpNo X1 hx hby d8_10 (tlt (show Int32.ofNat (0) < (Int32.ofNat (o + max (i) (j))) from by rw [zofN_lt (by omega) (by omega)]; omega)).2.1 (ziloadN X1 hx hby d8_13 rfl (zldcI X1 hx hby d8_14 (2147483639 : Int32) hZ hown (w143 hw) (zicmpNo X1 hx hby d8_16 (flt (show ¬ (Int32.ofNat (2147483639) < (Int32.ofNat (o + max (i) (j)))) from by rw [zofN_lt (by omega) (by omega)]; omega)).2.2.1 (ziloadN X1 hx hby d8_19 rfl ?_))))))))
  show zEnds p e below s T1 (mkF m 20 #[iv (Int32.ofNat (o)), iv (Int32.ofNat (i)), iv (Int32.ofNat (j)), iv (Int32.ofNat (o + max (i) (j)))] [(.int (Int32.ofNat (o + max (i) (j))))]) _ _ _
  exact zretI X1 hx hby d8_20 hret hlk (by first | decide | omega | (dsimp only; omega)) (by first | decide | omega | (dsimp only; omega)) (⟨rfl, e1, rfl⟩)
theorem c_newcap (hw : HW a0 Z) (C : Ctx Z cs d1 d2 o1 o2) (O0 : zOd Z n0 h0) (a b : Addr) (n : Nat) (ys : List Int8) (B0 : Bd Z h0 a b n ys) (mc : Nat) (hm : ys.length < mc) (hM : mc < 1000000) : zCon l Z (⟨"java/lang/AbstractStringBuilder", "newCapacity", "(I)I"⟩ : MethodName) jdk_68_method_10_code 6 (some .int) [] ({ frames := 2, cells := 0, slots := 0, locals := 29 } : Room) #[(.ref a), (.int (Int32.ofNat (mc)))] h0 (zSame (some (.int (Int32.ofNat (ncap ys.length mc)))) h0) := by
  refine zenter (plainFor_of_name pn_1) (L0 := #[rv a, iv (Int32.ofNat (mc)), .unset, .unset, .unset, .unset]) (H := ?_)
  intro p e s m below meth c T0 hx hZ hby hml hown0 hnm hret hlk X0 e0
  have hown : s.vm.findClass "java/lang/AbstractStringBuilder" = some m.cls := hown0
  obtain ⟨E_a, F_a_v, F_a_c, F_a_n, A_b, E_b, ne_ab⟩ := id B0
  show zEnds p e below s T0 (mkF m 0 #[rv a, iv (Int32.ofNat (mc)), .unset, .unset, .unset, .unset] []) _ _ _
  refine zaloadN X0 hx hby d9_0 rfl rfl (zgetfld X0 hx hby d9_1 hZ hown (host := "") (Or.inl (w90 hw)) Via.refl e0 F_a_v fun T1 X1 e1 => (zalenB X1 hx hby d9_4 hZ e1 A_b ((ys).length) rfl (zistoreN X1 hx hby d9_5 (L' := #[rv a, iv (Int32.ofNat (mc)), iv (Int32.ofNat ((ys).length)), .unset, .unset, .unset]) rfl (ziloadN X1 hx hby d9_6 rfl (zaloadN X1 hx hby d9_7 rfl rfl (zgetfld X1 hx hby d9_8 hZ hown (host := "") (Or.inl (w92 hw)) Via.refl e1 F_a_c fun T2 X2 e2 => (zishl X2 hx hby d9_11 (Int32.ofNat (mc)) (zshl0 _) (zistoreN X2 hx hby d9_12 (L' := #[rv a, iv (Int32.ofNat (mc)), iv (Int32.ofNat ((ys).length)), iv (Int32.ofNat (mc)), .unset, .unset]) rfl (ziloadN X2 hx hby d9_13 rfl ?_)))))))))
  show zEnds p e below s T2 (mkF m 14 #[rv a, iv (Int32.ofNat (mc)), iv (Int32.ofNat ((ys).length)), iv (Int32.ofNat (mc)), .unset, .unset] [(.int (Int32.ofNat (mc)))]) _ _ _
  refine ziloadN X2 hx hby d9_14 rfl (zisub X2 hx hby d9_15 (Int32.ofNat (mc - ((ys).length))) (zofN_sub (by omega)) (zistore X2 hx hby d9_16 (L' := #[rv a, iv (Int32.ofNat (mc)), iv (Int32.ofNat ((ys).length)), iv (Int32.ofNat (mc)), iv (Int32.ofNat (mc - ((ys).length))), .unset]) rfl (ziloadN X2 hx hby d9_18 rfl (ziload X2 hx hby d9_19 rfl (ziloadN X2 hx hby d9_21 rfl (ziconst X2 hx hby d9_22 (z := (2 : Int32)) rfl (zaloadN X2 hx hby d9_23 rfl rfl (zgetfld X2 hx hby d9_24 hZ hown (host := "") (Or.inl (w92 hw)) Via.refl e2 F_a_c fun T3 X3 e3 => (zishl X3 hx hby d9_27 (2 : Int32) (by decide) ?_)))))))))
  show zEnds p e below s T3 (mkF m 28 #[rv a, iv (Int32.ofNat (mc)), iv (Int32.ofNat ((ys).length)), iv (Int32.ofNat (mc)), iv (Int32.ofNat (mc - ((ys).length))), .unset] [(.int 2), (.int (Int32.ofNat ((ys).length))), (.int (Int32.ofNat (mc - ((ys).length)))), (.int (Int32.ofNat ((ys).length)))]) _ _ _
  refine ziadd X3 hx hby d9_28 (Int32.ofNat ((ys).length + 2)) (zofN_add _ _) (zcalls X3 hx hby d9_29 hZ hown (w135 hw) (w136 hw) (w137 hw) (w138 hw) e3 (c_newlen l hw  C O0 ((ys).length) (mc - ((ys).length)) ((ys).length + 2) (by omega) (by omega)) hml 0 pd_3 (argsL := [(.int (Int32.ofNat ((ys).length))), (.int (Int32.ofNat (mc - ((ys).length)))), (.int (Int32.ofNat ((ys).length + 2)))]) (st := []) (zpureK ⟨rfl, rfl⟩ fun T4 X4 e4 => ?_))
  refine zistore X4 hx hby d9_32 (L' := #[rv a, iv (Int32.ofNat (mc)), iv (Int32.ofNat ((ys).length)), iv (Int32.ofNat (mc)), iv (Int32.ofNat (mc - ((ys).length))), iv (Int32.ofNat ((ys).length + max (mc - ((ys).length)) ((ys).length + 2)))]) rfl (ziload X4 hx hby d9_34 rfl (zldcI X4 hx hby d9_36 (2147483647 : Int32) hZ hown (w144 hw) (zicmpYes X4 hx hby d9_38 51 (feq (show ¬ ((Int32.ofNat ((ys).length + max (mc - ((ys).length)) ((ys).length + 2))) = Int32.ofNat (2147483647)) from by rw [zofN_eq (by omega) (by omega)]; omega)).2 (by decide) (by decide) (ziload X4 hx hby d9_51 rfl (zaloadN X4 hx hby d9_53 rfl rfl (zgetfld X4 hx hby d9_54 hZ hown (host := "") (Or.inl (w92 hw)) Via.refl e4 F_a_c fun T5 X5 e5 => (zishr X5 hx hby d9_57 (Int32.ofNat ((ys).length + max (mc - ((ys).length)) ((ys).length + 2))) (zshr0 _) ?_)))))))
  show zEnds p e below s T5 (mkF m 58 #[rv a, iv (Int32.ofNat (mc)), iv (Int32.ofNat ((ys).length)), iv (Int32.ofNat (mc)), iv (Int32.ofNat (mc - ((ys).length))), iv (Int32.ofNat ((ys).length + max (mc - ((ys).length)) ((ys).length + 2)))] [(.int (Int32.ofNat ((ys).length + max (mc - ((ys).length)) ((ys).length + 2))))]) _ _ _
  exact zretI X5 hx hby d9_58 hret hlk (by first | decide | omega | (dsimp only; omega)) (by first | decide | omega | (dsimp only; omega)) (⟨rfl, e5, rfl⟩)
theorem c_copyof (hw : HW a0 Z) (C : Ctx Z cs d1 d2 o1 o2) (O0 : zOd Z n0 h0) (b : Addr) (ys : List Int8) (n : Nat) (A_b : zBt Z h0 b ys) (hn : ys.length < n) (hM : n < 10000000) : zCon l Z (⟨"java/util/Arrays", "copyOf", "([BI)[B"⟩ : MethodName) jdk_65_method_121_code 3 (some (.array .byte)) [] ({ frames := 1, cells := 1, slots := n, locals := 29 } : Room) #[(.ref b), (.int (Int32.ofNat (n)))] h0 (fun v h L => ∃ b2 : Addr, v = some (.ref b2) ∧ Fr n0 L ∧ Keep h0 h [] ∧ h0.size ≤ b2 ∧ n0 ≤ b2 ∧ Exa Z h b2 "[B" ∧ zBt Z h b2 (ys ++ List.replicate (n - ys.length) 0)) := by
  refine zenter (plainFor_of_name pn_4) (L0 := #[rv b, iv (Int32.ofNat (n)), .unset]) (H := ?_)
  intro p e s m below meth c T0 hx hZ hby hml hown0 hnm hret hlk X0 e0
  have hown : s.vm.findClass "java/util/Arrays" = some m.cls := hown0
  have K0 := Keep.refl h0 []
  have N0 := Fr.nil n0
  show zEnds p e below s T0 (mkF m 0 #[rv b, iv (Int32.ofNat (n)), .unset] []) _ _ _
  refine ziloadN X0 hx hby d10_0 rfl (zaloadN X0 hx hby d10_1 rfl rfl (zalenB X0 hx hby d10_2 hZ e0 A_b (ys.length) rfl (zicmpYes X0 hx hby d10_3 14 (feq (show ¬ ((Int32.ofNat (n)) = (Int32.ofNat (ys.length))) from by rw [zofN_eq (by omega) (by omega)]; omega)).2 (by decide) (by decide) (ziloadN X0 hx hby d10_14 rfl (znewB X0 hx hby d10_15 hZ (w89 hw) e0 (n := n) (by omega) (by first | decide | omega | (dsimp only; omega)) (by first | decide | omega | (dsimp only; omega)) fun T1 h1 b1 X1 e1 y1 Ex1 E1_b1 A1_b1 => ?_)))))
  have A1_b := A_b.ext Ex1
  have O1 := O0.ext Ex1
  have K1 := Keep.ext K0 Ex1
  have g1 : n0 ≤ b1 := by rw [y1]; exact zodsz O0
  have z1 : h0.size ≤ b1 := by rw [y1]; exact K0.1
  refine zastoreN X1 hx hby d10_17 (hv := rfl) (L' := #[rv b, iv (Int32.ofNat (n)), rv b1]) rfl (zaloadN X1 hx hby d10_18 rfl rfl (ziconst X1 hx hby d10_19 (z := (0 : Int32)) rfl (zaloadN X1 hx hby d10_20 rfl rfl (ziconst X1 hx hby d10_21 (z := (0 : Int32)) rfl (zaloadN X1 hx hby d10_22 rfl rfl (zalenB X1 hx hby d10_23 hZ e1 A1_b (ys.length) rfl (ziloadN X1 hx hby d10_24 rfl (zcalls X1 hx hby d10_25 hZ hown (w149 hw) (w150 hw) (w141 hw) (w151 hw) e1 (c_min l hw  C O1 (ys.length) (n) (by first | omega | (simp only [List.length_replicate, List.length_append, List.length_take, List.length_drop, List.length_nil, List.length_cons]; omega)) (by first | omega | (simp only [List.length_replicate, List.length_append, List.length_take, List.length_drop, List.length_nil, List.length_cons]; omega))) hml 4 pd_2 (argsL := [(.int (Int32.ofNat (ys.length))), (.int (Int32.ofNat (n)))]) (st := [(.int 0), (.ref b1), (.int 0), (.ref b)]) (zpureK ⟨rfl, rfl⟩ fun T2 X2 e2 => ?_)))))))))
  show zEnds p e below s T2 (mkF m 28 #[rv b, iv (Int32.ofNat (n)), rv b1] [(.int (Int32.ofNat (min (ys.length) (n)))), (.int 0), (.ref b1), (.int 0), (.ref b)]) _ _ _
  refine zcopyB X2 hx hby d10_28 hZ hown (w152 hw) (w155 hw) (w153 hw) (w154 hw) e2 (sp := 0) (dp := 0) (nn := min (ys.length) (n)) A1_b A1_b1 (by first | omega | (simp only [List.length_replicate, List.length_append, List.length_take, List.length_drop, List.length_nil, List.length_cons]; omega)) (by first | omega | (simp only [List.length_replicate, List.length_append, List.length_take, List.length_drop, List.length_nil, List.length_cons]; omega)) (by first | omega | (simp only [List.length_replicate, List.length_append, List.length_take, List.length_drop, List.length_nil, List.length_cons]; omega)) (by first | omega | (simp only [List.length_replicate, List.length_append, List.length_take, List.length_drop, List.length_nil, List.length_cons]; omega)) N0 g1 hml 0 (fun T3 h3 L3 X3 e3 N3 K3q A3_b1 => ?_)
  have K3 := Keep.trans K1 K3q (allS (Or.inr z1) all0)
  have E3_b1 := E1_b1.keep K3q
  show zEnds p e below s T3 (mkF m 31 #[rv b, iv (Int32.ofNat (n)), rv b1] []) _ _ _
  refine zaloadN X3 hx hby d10_31 rfl rfl ?_
  show zEnds p e below s T3 (mkF m 32 #[rv b, iv (Int32.ofNat (n)), rv b1] [(.ref b1)]) _ _ _
  exact zretA X3 hx hby d10_32 hret hlk rfl rfl rfl (by first | decide | omega | (dsimp only; omega)) (by first | decide | omega | (dsimp only; omega)) (by rw [e3]; exact ⟨b1, rfl, N3, K3, z1, g1, E3_b1, by have q := A3_b1; rw [zcopy_ext ys (by omega)] at q; exact q⟩)
theorem w75 (hw : HW a0 Z) : (Cond.instantiable "java/lang/StringBuilder" 4).before a0 Z = true := hwi hw 75 rfl
theorem w91 (hw : HW a0 Z) : (Cond.lays "java/lang/StringBuilder" "java/lang/AbstractStringBuilder" "value" "[B").before a0 Z = true := hwi hw 91 rfl
theorem w93 (hw : HW a0 Z) : (Cond.lays "java/lang/StringBuilder" "java/lang/AbstractStringBuilder" "coder" "B").before a0 Z = true := hwi hw 93 rfl
theorem w124 (hw : HW a0 Z) : (Cond.lays "java/lang/StringBuilder" "java/lang/AbstractStringBuilder" "count" "I").before a0 Z = true := hwi hw 124 rfl
theorem w130 (hw : HW a0 Z) : (Cond.methodLink "java/lang/AbstractStringBuilder" 104 ⟨"java/lang/AbstractStringBuilder", "newCapacity", "(I)I"⟩).before a0 Z = true := hwi hw 130 rfl
theorem w131 (hw : HW a0 Z) : (Cond.instanceMethod ⟨"java/lang/AbstractStringBuilder", "newCapacity", "(I)I"⟩).before a0 Z = true := hwi hw 131 rfl
theorem w133 (hw : HW a0 Z) : (Cond.selects "java/lang/StringBuilder" ⟨"java/lang/AbstractStringBuilder", "newCapacity", "(I)I"⟩ ⟨"java/lang/AbstractStringBuilder", "newCapacity", "(I)I"⟩).before a0 Z = true := hwi hw 133 rfl
theorem w134 (hw : HW a0 Z) : (Cond.code ⟨"java/lang/AbstractStringBuilder", "newCapacity", "(I)I"⟩ jdk_68_method_10_code 6 (Option.some FieldType.int)).before a0 Z = true := hwi hw 134 rfl
theorem w145 (hw : HW a0 Z) : (Cond.methodLink "java/lang/AbstractStringBuilder" 108 ⟨"java/util/Arrays", "copyOf", "([BI)[B"⟩).before a0 Z = true := hwi hw 145 rfl
theorem w146 (hw : HW a0 Z) : (Cond.static ⟨"java/util/Arrays", "copyOf", "([BI)[B"⟩).before a0 Z = true := hwi hw 146 rfl
theorem w147 (hw : HW a0 Z) : (Cond.initialized "java/util/Arrays").before a0 Z = true := hwi hw 147 rfl
theorem w148 (hw : HW a0 Z) : (Cond.code ⟨"java/util/Arrays", "copyOf", "([BI)[B"⟩ jdk_65_method_121_code 3 (Option.some (FieldType.array FieldType.byte))).before a0 Z = true := hwi hw 148 rfl
theorem d11_0 : decode jdk_68_method_9_code 0 = .ok (.aload_n 0, 1) := by decide +kernel
theorem d11_1 : decode jdk_68_method_9_code 1 = .ok (.getfield 15, 3) := by decide +kernel
theorem d11_4 : decode jdk_68_method_9_code 4 = .ok (.arraylength, 1) := by decide +kernel
theorem d11_5 : decode jdk_68_method_9_code 5 = .ok (.aload_n 0, 1) := by decide +kernel
theorem d11_6 : decode jdk_68_method_9_code 6 = .ok (.getfield 22, 3) := by decide +kernel
theorem d11_9 : decode jdk_68_method_9_code 9 = .ok (.ishr, 1) := by decide +kernel
theorem d11_10 : decode jdk_68_method_9_code 10 = .ok (.istore_n 2, 1) := by decide +kernel
theorem d11_11 : decode jdk_68_method_9_code 11 = .ok (.iload_n 1, 1) := by decide +kernel
theorem d11_12 : decode jdk_68_method_9_code 12 = .ok (.iload_n 2, 1) := by decide +kernel
theorem d11_13 : decode jdk_68_method_9_code 13 = .ok (.isub, 1) := by decide +kernel
theorem d11_14 : decode jdk_68_method_9_code 14 = .ok (.ifCond .le 24, 3) := by decide +kernel
theorem d11_17 : decode jdk_68_method_9_code 17 = .ok (.aload_n 0, 1) := by decide +kernel
theorem d11_18 : decode jdk_68_method_9_code 18 = .ok (.aload_n 0, 1) := by decide +kernel
theorem d11_19 : decode jdk_68_method_9_code 19 = .ok (.getfield 15, 3) := by decide +kernel
theorem d11_22 : decode jdk_68_method_9_code 22 = .ok (.aload_n 0, 1) := by decide +kernel
theorem d11_23 : decode jdk_68_method_9_code 23 = .ok (.iload_n 1, 1) := by decide +kernel
theorem d11_24 : decode jdk_68_method_9_code 24 = .ok (.invokevirtual 104, 3) := by decide +kernel
theorem d11_27 : decode jdk_68_method_9_code 27 = .ok (.aload_n 0, 1) := by decide +kernel
theorem d11_28 : decode jdk_68_method_9_code 28 = .ok (.getfield 22, 3) := by decide +kernel
theorem d11_31 : decode jdk_68_method_9_code 31 = .ok (.ishl, 1) := by decide +kernel
theorem d11_32 : decode jdk_68_method_9_code 32 = .ok (.invokestatic 108, 3) := by decide +kernel
theorem d11_35 : decode jdk_68_method_9_code 35 = .ok (.putfield 15, 3) := by decide +kernel
theorem d11_38 : decode jdk_68_method_9_code 38 = .ok (.return_, 1) := by decide +kernel
theorem pd_4 : parseMethodDescriptor "(I)I" = some ⟨[.int], some .int⟩ := by decide +kernel
theorem pd_5 : parseMethodDescriptor "([BI)[B" = some ⟨[(.array .byte), .int], some (.array .byte)⟩ := by decide +kernel
theorem c_ensure (hw : HW a0 Z) (C : Ctx Z cs d1 d2 o1 o2) (O0 : zOd Z n0 h0) (a b : Addr) (n : Nat) (ys : List Int8) (B0 : Bd Z h0 a b n ys) (mc : Nat) (hM : mc < 1000000) (hY : ys.length < 1000000) (g_a : n0 ≤ a) (g_b : n0 ≤ b) : zCon l Z (⟨"java/lang/AbstractStringBuilder", "ensureCapacityInternal", "(I)V"⟩ : MethodName) jdk_68_method_9_code 3 none [] ({ frames := 3, cells := gcell ys.length mc, slots := gslot ys.length mc, locals := 48 } : Room) #[(.ref a), (.int (Int32.ofNat (mc)))] h0 (fun v h L => v = none ∧ Fr n0 L ∧ Keep h0 h [a] ∧ ∃ (b2 : Addr) (zs : List Int8), Bd Z h a b2 n (ys ++ zs) ∧ n0 ≤ b2 ∧ (b2 = b ∨ h0.size ≤ b2) ∧ (ys ++ zs).length = gcap ys.length mc) := by
  refine zenter (plainFor_of_name pn_1) (L0 := #[rv a, iv (Int32.ofNat (mc)), .unset]) (H := ?_)
  intro p e s m below meth c T0 hx hZ hby hml hown0 hnm hret hlk X0 e0
  have hown : s.vm.findClass "java/lang/AbstractStringBuilder" = some m.cls := hown0
  have K0 := Keep.refl h0 [a]
  have N0 := Fr.nil n0
  obtain ⟨E_a, F_a_v, F_a_c, F_a_n, A_b, E_b, ne_ab⟩ := id B0
  show zEnds p e below s T0 (mkF m 0 #[rv a, iv (Int32.ofNat (mc)), .unset] []) _ _ _
  by_cases hm : mc ≤ ys.length
  · have gc : gcell ys.length mc = 0 := if_pos hm
    have gs : gslot ys.length mc = 0 := if_pos hm
    refine zaloadN X0 hx hby d11_0 rfl rfl (zgetfld X0 hx hby d11_1 hZ hown (host := "") (Or.inl (w90 hw)) Via.refl e0 F_a_v fun T1 X1 e1 => (zalenB X1 hx hby d11_4 hZ e1 A_b ((ys).length) rfl (zaloadN X1 hx hby d11_5 rfl rfl (zgetfld X1 hx hby d11_6 hZ hown (host := "") (Or.inl (w92 hw)) Via.refl e1 F_a_c fun T2 X2 e2 => (zishr X2 hx hby d11_9 (Int32.ofNat ((ys).length)) (zshr0 _) (zistoreN X2 hx hby d11_10 (L' := #[rv a, iv (Int32.ofNat (mc)), iv (Int32.ofNat ((ys).length))]) rfl (ziloadN X2 hx hby d11_11 rfl (ziloadN X2 hx hby d11_12 rfl (zisub X2 hx hby d11_13 ((Int32.ofNat (mc)) - (Int32.ofNat ((ys).length))) rfl ?_)))))))))
    show zEnds p e below s T2 (mkF m 14 #[rv a, iv (Int32.ofNat (mc)), iv (Int32.ofNat ((ys).length))] [(.int ((Int32.ofNat (mc)) - (Int32.ofNat ((ys).length))))]) _ _ _
    refine zifYes X2 hx hby d11_14 38 ((if0 _ _).trans (flt (zofN_sub_le hm (by omega))).2.2.2) (by decide) (by decide) ?_
    show zEnds p e below s T2 (mkF m 38 #[rv a, iv (Int32.ofNat (mc)), iv (Int32.ofNat ((ys).length))] []) _ _ _
    exact zretV X2 hx hby d11_38 hret hlk (by first | decide | omega | (dsimp only; omega)) (by first | decide | omega | (dsimp only; omega)) (by rw [e2]; exact ⟨rfl, N0, K0, b, [], ⟨E_a, F_a_v, F_a_c, F_a_n, by rw [List.append_nil]; exact A_b, E_b, ne_ab⟩, g_b, Or.inl rfl, by rw [List.append_nil]; exact (if_pos hm).symm⟩)
  · have gc : gcell ys.length mc = 1 := if_neg hm
    have gs : gslot ys.length mc = ncap ys.length mc := if_neg hm
    have nc : ys.length < ncap ys.length mc ∧ ncap ys.length mc < 3000002 := by unfold ncap; omega
    refine zaloadN X0 hx hby d11_0 rfl rfl (zgetfld X0 hx hby d11_1 hZ hown (host := "") (Or.inl (w90 hw)) Via.refl e0 F_a_v fun T3 X3 e3 => (zalenB X3 hx hby d11_4 hZ e3 A_b ((ys).length) rfl (zaloadN X3 hx hby d11_5 rfl rfl (zgetfld X3 hx hby d11_6 hZ hown (host := "") (Or.inl (w92 hw)) Via.refl e3 F_a_c fun T4 X4 e4 => (zishr X4 hx hby d11_9 (Int32.ofNat ((ys).length)) (zshr0 _) (zistoreN X4 hx hby d11_10 (L' := #[rv a, iv (Int32.ofNat (mc)), iv (Int32.ofNat ((ys).length))]) rfl (ziloadN X4 hx hby d11_11 rfl (ziloadN X4 hx hby d11_12 rfl (zisub X4 hx hby d11_13 (Int32.ofNat (mc - ((ys).length))) (zofN_sub (by omega)) ?_)))))))))
    show zEnds p e below s T4 (mkF m 14 #[rv a, iv (Int32.ofNat (mc)), iv (Int32.ofNat ((ys).length))] [(.int (Int32.ofNat (mc - ((ys).length))))]) _ _ _
    refine zifNo X4 hx hby d11_14 ((if0 _ _).trans (tlt (show Int32.ofNat (0) < (Int32.ofNat (mc - ((ys).length))) from by rw [zofN_lt (by omega) (by omega)]; omega)).2.2.2) (zaloadN X4 hx hby d11_17 rfl rfl (zaloadN X4 hx hby d11_18 rfl rfl (zgetfld X4 hx hby d11_19 hZ hown (host := "") (Or.inl (w90 hw)) Via.refl e4 F_a_v fun T5 X5 e5 => (zaloadN X5 hx hby d11_22 rfl rfl (ziloadN X5 hx hby d11_23 rfl (zcallv X5 hx hby d11_24 hZ hown (w130 hw) (zdecl_of (w131 hw) (w134 hw)) (notFace_of_selects (args := #[]) (mvT hZ (w133 hw))) (w133 hw) (w131 hw) (w134 hw) (w84 hw) e5 E_a (c_newcap l hw  C O0 a b (n) (ys) ⟨E_a, F_a_v, F_a_c, F_a_n, A_b, E_b, ne_ab⟩ (mc) (by first | omega | (simp only [List.length_replicate, List.length_append, List.length_take, List.length_drop, List.length_nil, List.length_cons]; omega)) (by first | omega | (simp only [List.length_replicate, List.length_append, List.length_take, List.length_drop, List.length_nil, List.length_cons]; omega))) hml 2 pd_4 (argsL := [(.int (Int32.ofNat (mc)))]) (st := [(.ref b), (.ref a)]) (zpureK ⟨rfl, rfl⟩ fun T6 X6 e6 => ?_)))))))
    refine zaloadN X6 hx hby d11_27 rfl rfl (zgetfld X6 hx hby d11_28 hZ hown (host := "") (Or.inl (w92 hw)) Via.refl e6 F_a_c fun T7 X7 e7 => (zishl X7 hx hby d11_31 (Int32.ofNat (ncap (ys).length (mc))) (zshl0 _) (zcalls X7 hx hby d11_32 hZ hown (w145 hw) (w146 hw) (w147 hw) (w148 hw) e7 (c_copyof l hw  C O0 b (ys) (ncap (ys).length (mc)) A_b (by first | omega | (simp only [List.length_replicate, List.length_append, List.length_take, List.length_drop, List.length_nil, List.length_cons]; omega)) (by first | omega | (simp only [List.length_replicate, List.length_append, List.length_take, List.length_drop, List.length_nil, List.length_cons]; omega))) hml 1 pd_5 (argsL := [(.ref b), (.int (Int32.ofNat (ncap (ys).length (mc))))]) (st := [(.ref a)]) fun T8 h8 v8 L8 e8 X8 q8 => ?_)))
    obtain ⟨b8, rfl, N8q, K8q, y8, g8, E8_b8, A8_b8⟩ := q8
    have F8_a_value := F_a_v.keep K8q nin0
    have F8_a_coder := F_a_c.keep K8q nin0
    have F8_a_count := F_a_n.keep K8q nin0
    have E8_a := E_a.keep K8q
    have K8 := Keep.trans K0 K8q all0
    have N8 := Fr.app N0 N8q
    have z8 : h0.size ≤ b8 := Nat.le_trans K0.1 y8
    have ne8_a : a ≠ b8 := Nat.ne_of_lt (Nat.lt_of_lt_of_le E_a.lt y8)
    refine zputfld X8 hx hby d11_35 hZ hown (host := "") (Or.inl (w90 hw)) Via.refl e8 F8_a_value E8_a (Or.inl (w91 hw)) (w75 hw) (ty := (.array .byte)) (by decide) rfl rfl fun T9 h9 X9 e9 W9 => ?_
    have F9_a_value : Fld Z h9 a "java/lang/AbstractStringBuilder" "value" "[B" (.ref b8) := F8_a_value.same W9
    have F9_a_coder := F8_a_coder.other W9 (Or.inr (slot_ne (Or.inl (w93 hw)) (Or.inl (w91 hw)) (by decide) (t := .byte) (t' := (.array .byte)) (by decide) (by decide)))
    have F9_a_count := F8_a_count.other W9 (Or.inr (slot_ne (Or.inl (w124 hw)) (Or.inl (w91 hw)) (by decide) (t := .int) (t' := (.array .byte)) (by decide) (by decide)))
    have E9_a := E8_a.wr W9
    have E9_b8 := E8_b8.wr W9
    have A9_b8 := A8_b8.other W9 (Ne.symm ne8_a)
    have K9 := Keep.wr K8 W9 (Or.inl (List.mem_of_getElem? (i := 0) rfl))
    have N9 := Fr.snoc X9 N8 g_a
    show zEnds p e below s T9 (mkF m 38 #[rv a, iv (Int32.ofNat (mc)), iv (Int32.ofNat ((ys).length))] []) _ _ _
    exact zretV X9 hx hby d11_38 hret hlk (by first | decide | omega | (dsimp only; omega)) (by first | decide | omega | (dsimp only; omega)) (by rw [e9]; exact ⟨rfl, N9, K9, b8, _, ⟨E9_a, F9_a_value, F9_a_coder, F9_a_count, A9_b8, E9_b8, ne8_a⟩, g8, Or.inr z8, by rw [List.length_append, List.length_replicate, gcap, if_neg hm]; omega⟩)
theorem w161 (hw : HW a0 Z) : (Cond.methodLink "java/lang/AbstractStringBuilder" 397 ⟨"java/lang/AbstractStringBuilder", "inflateIfNeededFor", "(Ljava/lang/String;)V"⟩).before a0 Z = true := hwi hw 161 rfl
theorem w162 (hw : HW a0 Z) : (Cond.instanceMethod ⟨"java/lang/AbstractStringBuilder", "inflateIfNeededFor", "(Ljava/lang/String;)V"⟩).before a0 Z = true := hwi hw 162 rfl
theorem w164 (hw : HW a0 Z) : (Cond.selects "java/lang/StringBuilder" ⟨"java/lang/AbstractStringBuilder", "inflateIfNeededFor", "(Ljava/lang/String;)V"⟩ ⟨"java/lang/AbstractStringBuilder", "inflateIfNeededFor", "(Ljava/lang/String;)V"⟩).before a0 Z = true := hwi hw 164 rfl
theorem w165 (hw : HW a0 Z) : (Cond.code ⟨"java/lang/AbstractStringBuilder", "inflateIfNeededFor", "(Ljava/lang/String;)V"⟩ jdk_68_method_71_code 2 (Option.none : Option Jvm.ClassFile.FieldType)).before a0 Z = true := hwi hw 165 rfl
theorem w166 (hw : HW a0 Z) : (Cond.methodLink "java/lang/AbstractStringBuilder" 40 ⟨"java/lang/String", "coder", "()B"⟩).before a0 Z = true := hwi hw 166 rfl
theorem w167 (hw : HW a0 Z) : (Cond.methodLink "java/lang/AbstractStringBuilder" 399 ⟨"java/lang/String", "getBytes", "([BIB)V"⟩).before a0 Z = true := hwi hw 167 rfl
theorem w168 (hw : HW a0 Z) : (Cond.declares ⟨"java/lang/String", "getBytes", "([BIB)V"⟩).before a0 Z = true := hwi hw 168 rfl
theorem w169 (hw : HW a0 Z) : (Cond.instanceMethod ⟨"java/lang/String", "getBytes", "([BIB)V"⟩).before a0 Z = true := hwi hw 169 rfl
theorem w170 (hw : HW a0 Z) : (Cond.selects "java/lang/String" ⟨"java/lang/String", "getBytes", "([BIB)V"⟩ ⟨"java/lang/String", "getBytes", "([BIB)V"⟩).before a0 Z = true := hwi hw 170 rfl
theorem w171 (hw : HW a0 Z) : (Cond.code ⟨"java/lang/String", "getBytes", "([BIB)V"⟩ jdk_42_method_147_code 4 (Option.none : Option Jvm.ClassFile.FieldType)).before a0 Z = true := hwi hw 171 rfl
theorem w172 (hw : HW a0 Z) : (Cond.methodLink "java/lang/String" 212 ⟨"java/lang/System", "arraycopy", "(Ljava/lang/Object;ILjava/lang/Object;II)V"⟩).before a0 Z = true := hwi hw 172 rfl
theorem d13_0 : decode jdk_42_method_147_code 0 = .ok (.aload_n 0, 1) := by decide +kernel
theorem d13_1 : decode jdk_42_method_147_code 1 = .ok (.invokevirtual 335, 3) := by decide +kernel
theorem d13_4 : decode jdk_42_method_147_code 4 = .ok (.iload_n 3, 1) := by decide +kernel
theorem d13_5 : decode jdk_42_method_147_code 5 = .ok (.if_icmp .ne 23, 3) := by decide +kernel
theorem d13_8 : decode jdk_42_method_147_code 8 = .ok (.aload_n 0, 1) := by decide +kernel
theorem d13_9 : decode jdk_42_method_147_code 9 = .ok (.getfield 9, 3) := by decide +kernel
theorem d13_12 : decode jdk_42_method_147_code 12 = .ok (.iconst 0, 1) := by decide +kernel
theorem d13_13 : decode jdk_42_method_147_code 13 = .ok (.aload_n 1, 1) := by decide +kernel
theorem d13_14 : decode jdk_42_method_147_code 14 = .ok (.iload_n 2, 1) := by decide +kernel
theorem d13_15 : decode jdk_42_method_147_code 15 = .ok (.iload_n 3, 1) := by decide +kernel
theorem d13_16 : decode jdk_42_method_147_code 16 = .ok (.ishl, 1) := by decide +kernel
theorem d13_17 : decode jdk_42_method_147_code 17 = .ok (.aload_n 0, 1) := by decide +kernel
theorem d13_18 : decode jdk_42_method_147_code 18 = .ok (.getfield 9, 3) := by decide +kernel
theorem d13_21 : decode jdk_42_method_147_code 21 = .ok (.arraylength, 1) := by decide +kernel
theorem d13_22 : decode jdk_42_method_147_code 22 = .ok (.invokestatic 212, 3) := by decide +kernel
theorem d13_25 : decode jdk_42_method_147_code 25 = .ok (.goto 18, 3) := by decide +kernel
theorem d13_43 : decode jdk_42_method_147_code 43 = .ok (.return_, 1) := by decide +kernel
theorem d12_0 : decode jdk_68_method_71_code 0 = .ok (.getstatic 18, 3) := by decide +kernel
theorem d12_3 : decode jdk_68_method_71_code 3 = .ok (.ifCond .eq 18, 3) := by decide +kernel
theorem d12_6 : decode jdk_68_method_71_code 6 = .ok (.aload_n 0, 1) := by decide +kernel
theorem d12_7 : decode jdk_68_method_71_code 7 = .ok (.getfield 22, 3) := by decide +kernel
theorem d12_10 : decode jdk_68_method_71_code 10 = .ok (.aload_n 1, 1) := by decide +kernel
theorem d12_11 : decode jdk_68_method_71_code 11 = .ok (.invokevirtual 40, 3) := by decide +kernel
theorem d12_14 : decode jdk_68_method_71_code 14 = .ok (.if_icmp .eq 7, 3) := by decide +kernel
theorem d12_21 : decode jdk_68_method_71_code 21 = .ok (.return_, 1) := by decide +kernel
theorem d14_0 : decode jdk_68_method_73_code 0 = .ok (.aload_n 0, 1) := by decide +kernel
theorem d14_1 : decode jdk_68_method_73_code 1 = .ok (.aload_n 2, 1) := by decide +kernel
theorem d14_2 : decode jdk_68_method_73_code 2 = .ok (.invokevirtual 397, 3) := by decide +kernel
theorem d14_5 : decode jdk_68_method_73_code 5 = .ok (.aload_n 2, 1) := by decide +kernel
theorem d14_6 : decode jdk_68_method_73_code 6 = .ok (.aload_n 0, 1) := by decide +kernel
theorem d14_7 : decode jdk_68_method_73_code 7 = .ok (.getfield 15, 3) := by decide +kernel
theorem d14_10 : decode jdk_68_method_73_code 10 = .ok (.iload_n 1, 1) := by decide +kernel
theorem d14_11 : decode jdk_68_method_73_code 11 = .ok (.aload_n 0, 1) := by decide +kernel
theorem d14_12 : decode jdk_68_method_73_code 12 = .ok (.getfield 22, 3) := by decide +kernel
theorem d14_15 : decode jdk_68_method_73_code 15 = .ok (.invokevirtual 399, 3) := by decide +kernel
theorem d14_18 : decode jdk_68_method_73_code 18 = .ok (.return_, 1) := by decide +kernel
theorem pd_6 : parseMethodDescriptor "(Ljava/lang/String;)V" = some ⟨[(.object "java/lang/String")], none⟩ := by decide +kernel
theorem pd_7 : parseMethodDescriptor "([BIB)V" = some ⟨[(.array .byte), .int, .byte], none⟩ := by decide +kernel
theorem c_inflate (hw : HW a0 Z) (C : Ctx Z cs d1 d2 o1 o2) (O0 : zOd Z n0 h0) (a b : Addr) (n : Nat) (ys : List Int8) (B0 : Bd Z h0 a b n ys) (r x : Addr) (xs : List Int8) (B1 : Sx Z h0 r x xs) : zCon l Z (⟨"java/lang/AbstractStringBuilder", "inflateIfNeededFor", "(Ljava/lang/String;)V"⟩ : MethodName) jdk_68_method_71_code 2 none [] ({ frames := 1, cells := 0, slots := 0, locals := 13 } : Room) #[(.ref a), (.ref r)] h0 (zSame none h0) := by
  obtain ⟨S_cs, hcs, S_d1, B_d1, H_d1, S_d2, B_d2, H_d2⟩ := id C
  refine zenter (plainFor_of_name pn_1) (L0 := #[rv a, rv r]) (H := ?_)
  intro p e s m below meth c T0 hx hZ hby hml hown0 hnm hret hlk X0 e0
  have hown : s.vm.findClass "java/lang/AbstractStringBuilder" = some m.cls := hown0
  obtain ⟨E_a, F_a_v, F_a_c, F_a_n, A_b, E_b, ne_ab⟩ := id B0
  obtain ⟨E_r, F_r_v, F_r_c, A_x⟩ := id B1
  show zEnds p e below s T0 (mkF m 0 #[rv a, rv r] []) _ _ _
  refine zgetstat X0 hx hby d12_0 hZ hown (host := "") (Or.inl (w87 hw)) Via.refl e0 (S_cs.ext O0.2.2) fun T1 X1 e1 => (zifNo X1 hx hby d12_3 ((if0 _ _).trans (feq hcs).1) (zaloadN X1 hx hby d12_6 rfl rfl (zgetfld X1 hx hby d12_7 hZ hown (host := "") (Or.inl (w92 hw)) Via.refl e1 F_a_c fun T2 X2 e2 => (zaloadN X2 hx hby d12_10 rfl rfl (zcallv X2 hx hby d12_11 hZ hown (w166 hw) (w117 hw) (notFace_of_selects (args := #[]) (mvT hZ (w119 hw))) (w119 hw) (w118 hw) (w120 hw) (w88 hw) e2 E_r (c_coder l hw  C O0 r x (xs) ⟨E_r, F_r_v, F_r_c, A_x⟩) hml 1 pd_0 (argsL := []) (st := [(.int 0)]) (zpureK ⟨rfl, rfl⟩ fun T3 X3 e3 => ?_))))))
  refine zicmpYes X3 hx hby d12_14 21 (by decide) (by decide) (by decide) ?_
  show zEnds p e below s T3 (mkF m 21 #[rv a, rv r] []) _ _ _
  exact zretV X3 hx hby d12_21 hret hlk (by first | decide | omega | (dsimp only; omega)) (by first | decide | omega | (dsimp only; omega)) (⟨rfl, e3, rfl⟩)
theorem c_getbytes (hw : HW a0 Z) (C : Ctx Z cs d1 d2 o1 o2) (O0 : zOd Z n0 h0) (r x : Addr) (xs : List Int8) (B1 : Sx Z h0 r x xs) (b : Addr) (ys : List Int8) (A_b : zBt Z h0 b ys) (g_b : n0 ≤ b) (ne_rb : r ≠ b) (ne_xb : x ≠ b) (dp : Nat) (hd : dp + xs.length ≤ ys.length) (hM : ys.length < 10000000) : zCon l Z (⟨"java/lang/String", "getBytes", "([BIB)V"⟩ : MethodName) jdk_42_method_147_code 4 none [] ({ frames := 1, cells := 0, slots := 0, locals := 29 } : Room) #[(.ref r), (.ref b), (.int (Int32.ofNat (dp))), (.int 0)] h0 (fun v h L => v = none ∧ Fr n0 L ∧ Keep h0 h [b] ∧ zBt Z h b (ys.take dp ++ xs ++ ys.drop (dp + xs.length))) := by
  refine zenter (plainFor_of_name pn_0) (L0 := #[rv r, rv b, iv (Int32.ofNat (dp)), iv 0]) (H := ?_)
  intro p e s m below meth c T0 hx hZ hby hml hown0 hnm hret hlk X0 e0
  have hown : s.vm.findClass "java/lang/String" = some m.cls := hown0
  have K0 := Keep.refl h0 [b]
  have N0 := Fr.nil n0
  obtain ⟨E_r, F_r_v, F_r_c, A_x⟩ := id B1
  show zEnds p e below s T0 (mkF m 0 #[rv r, rv b, iv (Int32.ofNat (dp)), iv 0] []) _ _ _
  refine zaloadN X0 hx hby d13_0 rfl rfl (zcallv X0 hx hby d13_1 hZ hown (w116 hw) (w117 hw) (notFace_of_selects (args := #[]) (mvT hZ (w119 hw))) (w119 hw) (w118 hw) (w120 hw) (w88 hw) e0 E_r (c_coder l hw  C O0 r x (xs) ⟨E_r, F_r_v, F_r_c, A_x⟩) hml 0 pd_0 (argsL := []) (st := []) (zpureK ⟨rfl, rfl⟩ fun T1 X1 e1 => ?_))
  refine ziloadN X1 hx hby d13_4 rfl (zicmpNo X1 hx hby d13_5 (by decide) (zaloadN X1 hx hby d13_8 rfl rfl (zgetfld X1 hx hby d13_9 hZ hown (host := "") (Or.inl (w115 hw)) Via.refl e1 F_r_v fun T2 X2 e2 => (ziconst X2 hx hby d13_12 (z := (0 : Int32)) rfl (zaloadN X2 hx hby d13_13 rfl rfl (ziloadN X2 hx hby d13_14 rfl (ziloadN X2 hx hby d13_15 rfl (zishl X2 hx hby d13_16 (Int32.ofNat (dp)) (zshl0 _) (zaloadN X2 hx hby d13_17 rfl rfl ?_)))))))))
  show zEnds p e below s T2 (mkF m 18 #[rv r, rv b, iv (Int32.ofNat (dp)), iv 0] [(.ref r), (.int (Int32.ofNat (dp))), (.ref b), (.int 0), (.ref x)]) _ _ _
  refine zgetfld X2 hx hby d13_18 hZ hown (host := "") (Or.inl (w115 hw)) Via.refl e2 F_r_v fun T3 X3 e3 => (zalenB X3 hx hby d13_21 hZ e3 A_x (xs.length) rfl (zcopyB X3 hx hby d13_22 hZ hown (w172 hw) (w155 hw) (w153 hw) (w154 hw) e3 (sp := 0) (dp := dp) (nn := xs.length) A_x A_b (by first | omega | (simp only [List.length_replicate, List.length_append, List.length_take, List.length_drop, List.length_nil, List.length_cons]; omega)) (by first | omega | (simp only [List.length_replicate, List.length_append, List.length_take, List.length_drop, List.length_nil, List.length_cons]; omega)) (by first | omega | (simp only [List.length_replicate, List.length_append, List.length_take, List.length_drop, List.length_nil, List.length_cons]; omega)) (by first | omega | (simp only [List.length_replicate, List.length_append, List.length_take, List.length_drop, List.length_nil, List.length_cons]; omega)) N0 g_b hml 0 (fun T4 h4 L4 X4 e4 N4 K4q A4_b => ?_)))
  have K4 := Keep.trans K0 K4q (allS (Or.inl (List.mem_of_getElem? (i := 0) rfl)) all0)
  show zEnds p e below s T4 (mkF m 25 #[rv r, rv b, iv (Int32.ofNat (dp)), iv 0] []) _ _ _
  refine zgoto X4 hx hby d13_25 43 (by decide) (by decide) ?_
  show zEnds p e below s T4 (mkF m 43 #[rv r, rv b, iv (Int32.ofNat (dp)), iv 0] []) _ _ _
  exact zretV X4 hx hby d13_43 hret hlk (by first | decide | omega | (dsimp only; omega)) (by first | decide | omega | (dsimp only; omega)) (by rw [e4]; exact ⟨rfl, N4, K4, by have q := A4_b; rw [List.drop_zero, List.take_length] at q; exact q⟩)
theorem c_putstr (hw : HW a0 Z) (C : Ctx Z cs d1 d2 o1 o2) (O0 : zOd Z n0 h0) (a b : Addr) (n : Nat) (ys : List Int8) (B0 : Bd Z h0 a b n ys) (r x : Addr) (xs : List Int8) (B1 : Sx Z h0 r x xs) (g_b : n0 ≤ b) (ne_rb : r ≠ b) (ne_xb : x ≠ b) (dp : Nat) (hd : dp + xs.length ≤ ys.length) (hM : ys.length < 10000000) : zCon l Z (⟨"java/lang/AbstractStringBuilder", "putStringAt", "(ILjava/lang/String;)V"⟩ : MethodName) jdk_68_method_73_code 3 none [] ({ frames := 2, cells := 0, slots := 0, locals := 44 } : Room) #[(.ref a), (.int (Int32.ofNat (dp))), (.ref r)] h0 (fun v h L => v = none ∧ Fr n0 L ∧ Keep h0 h [b] ∧ Bd Z h a b n (ys.take dp ++ xs ++ ys.drop (dp + xs.length))) := by
  refine zenter (plainFor_of_name pn_1) (L0 := #[rv a, iv (Int32.ofNat (dp)), rv r]) (H := ?_)
  intro p e s m below meth c T0 hx hZ hby hml hown0 hnm hret hlk X0 e0
  have hown : s.vm.findClass "java/lang/AbstractStringBuilder" = some m.cls := hown0
  have K0 := Keep.refl h0 [b]
  have N0 := Fr.nil n0
  obtain ⟨E_a, F_a_v, F_a_c, F_a_n, A_b, E_b, ne_ab⟩ := id B0
  obtain ⟨E_r, F_r_v, F_r_c, A_x⟩ := id B1
  show zEnds p e below s T0 (mkF m 0 #[rv a, iv (Int32.ofNat (dp)), rv r] []) _ _ _
  refine zaloadN X0 hx hby d14_0 rfl rfl (zaloadN X0 hx hby d14_1 rfl rfl (zcallv X0 hx hby d14_2 hZ hown (w161 hw) (zdecl_of (w162 hw) (w165 hw)) (notFace_of_selects (args := #[]) (mvT hZ (w164 hw))) (w164 hw) (w162 hw) (w165 hw) (w84 hw) e0 E_a (c_inflate l hw  C O0 a b (n) (ys) ⟨E_a, F_a_v, F_a_c, F_a_n, A_b, E_b, ne_ab⟩ r x (xs) ⟨E_r, F_r_v, F_r_c, A_x⟩) hml 0 pd_6 (argsL := [(.ref r)]) (st := []) (zpureK ⟨rfl, rfl⟩ fun T1 X1 e1 => ?_)))
  refine zaloadN X1 hx hby d14_5 rfl rfl (zaloadN X1 hx hby d14_6 rfl rfl (zgetfld X1 hx hby d14_7 hZ hown (host := "") (Or.inl (w90 hw)) Via.refl e1 F_a_v fun T2 X2 e2 => (ziloadN X2 hx hby d14_10 rfl (zaloadN X2 hx hby d14_11 rfl rfl (zgetfld X2 hx hby d14_12 hZ hown (host := "") (Or.inl (w92 hw)) Via.refl e2 F_a_c fun T3 X3 e3 => (zcallv X3 hx hby d14_15 hZ hown (w167 hw) (w168 hw) (notFace_of_selects (args := #[]) (mvT hZ (w170 hw))) (w170 hw) (w169 hw) (w171 hw) (w88 hw) e3 E_r (c_getbytes l hw  C O0 r x (xs) ⟨E_r, F_r_v, F_r_c, A_x⟩ b (ys) A_b g_b ne_rb ne_xb (dp) (by first | omega | (simp only [List.length_replicate, List.length_append, List.length_take, List.length_drop, List.length_nil, List.length_cons]; omega)) (by first | omega | (simp only [List.length_replicate, List.length_append, List.length_take, List.length_drop, List.length_nil, List.length_cons]; omega))) hml 0 pd_7 (argsL := [(.ref b), (.int (Int32.ofNat (dp))), (.int 0)]) (st := []) fun T4 h4 v4 L4 e4 X4 q4 => ?_))))))
  obtain ⟨rfl, N4q, K4q, A4_b⟩ := q4
  have F4_a_value := F_a_v.keep K4q (ninS ne_ab nin0)
  have F4_a_coder := F_a_c.keep K4q (ninS ne_ab nin0)
  have F4_a_count := F_a_n.keep K4q (ninS ne_ab nin0)
  have E4_a := E_a.keep K4q
  have K4 := Keep.trans K0 K4q (allS (Or.inl (List.mem_of_getElem? (i := 0) rfl)) all0)
  have N4 := Fr.app N0 N4q
  have E4_b := E_b.keep K4q
  show zEnds p e below s T4 (mkF m 18 #[rv a, iv (Int32.ofNat (dp)), rv r] []) _ _ _
  exact zretV X4 hx hby d14_18 hret hlk (by first | decide | omega | (dsimp only; omega)) (by first | decide | omega | (dsimp only; omega)) (by rw [e4]; exact ⟨rfl, N4, K4, ⟨E4_a, F4_a_value, F4_a_coder, F4_a_count, A4_b, E4_b, ne_ab⟩⟩)
def Sb (Z : State) (h : Heap) (a b : Addr) (bs : List Int8) (cap : Nat) : Prop := ∃ jk, Bd Z h a b bs.length (bs ++ jk) ∧ (bs ++ jk).length = cap
theorem Sb.exa {Z : State} {h : Heap} {a b : Addr} {bs : List Int8} {cap : Nat} (B : Sb Z h a b bs cap) : Exa Z h a "java/lang/StringBuilder" := by obtain ⟨jk, B, -⟩ := B; exact B.1
theorem gcap_le {c m : Nat} : m ≤ gcap c m ∧ c ≤ gcap c m := by unfold gcap ncap; split <;> omega
theorem w110 (hw : HW a0 Z) : (Cond.methodLink "java/lang/AbstractStringBuilder" 32 ⟨"java/lang/String", "length", "()I"⟩).before a0 Z = true := hwi hw 110 rfl
theorem w111 (hw : HW a0 Z) : (Cond.declares ⟨"java/lang/String", "length", "()I"⟩).before a0 Z = true := hwi hw 111 rfl
theorem w112 (hw : HW a0 Z) : (Cond.instanceMethod ⟨"java/lang/String", "length", "()I"⟩).before a0 Z = true := hwi hw 112 rfl
theorem w113 (hw : HW a0 Z) : (Cond.selects "java/lang/String" ⟨"java/lang/String", "length", "()I"⟩ ⟨"java/lang/String", "length", "()I"⟩).before a0 Z = true := hwi hw 113 rfl
theorem w114 (hw : HW a0 Z) : (Cond.code ⟨"java/lang/String", "length", "()I"⟩ jdk_42_method_54_code 1 (Option.some FieldType.int)).before a0 Z = true := hwi hw 114 rfl
theorem w125 (hw : HW a0 Z) : (Cond.methodLink "java/lang/AbstractStringBuilder" 100 ⟨"java/lang/AbstractStringBuilder", "ensureCapacityInternal", "(I)V"⟩).before a0 Z = true := hwi hw 125 rfl
theorem w126 (hw : HW a0 Z) : (Cond.instanceMethod ⟨"java/lang/AbstractStringBuilder", "ensureCapacityInternal", "(I)V"⟩).before a0 Z = true := hwi hw 126 rfl
theorem w128 (hw : HW a0 Z) : (Cond.selects "java/lang/StringBuilder" ⟨"java/lang/AbstractStringBuilder", "ensureCapacityInternal", "(I)V"⟩ ⟨"java/lang/AbstractStringBuilder", "ensureCapacityInternal", "(I)V"⟩).before a0 Z = true := hwi hw 128 rfl
theorem w129 (hw : HW a0 Z) : (Cond.code ⟨"java/lang/AbstractStringBuilder", "ensureCapacityInternal", "(I)V"⟩ jdk_68_method_9_code 3 (Option.none : Option Jvm.ClassFile.FieldType)).before a0 Z = true := hwi hw 129 rfl
theorem w156 (hw : HW a0 Z) : (Cond.methodLink "java/lang/AbstractStringBuilder" 208 ⟨"java/lang/AbstractStringBuilder", "putStringAt", "(ILjava/lang/String;)V"⟩).before a0 Z = true := hwi hw 156 rfl
theorem w157 (hw : HW a0 Z) : (Cond.instanceMethod ⟨"java/lang/AbstractStringBuilder", "putStringAt", "(ILjava/lang/String;)V"⟩).before a0 Z = true := hwi hw 157 rfl
theorem w159 (hw : HW a0 Z) : (Cond.selects "java/lang/StringBuilder" ⟨"java/lang/AbstractStringBuilder", "putStringAt", "(ILjava/lang/String;)V"⟩ ⟨"java/lang/AbstractStringBuilder", "putStringAt", "(ILjava/lang/String;)V"⟩).before a0 Z = true := hwi hw 159 rfl
theorem w160 (hw : HW a0 Z) : (Cond.code ⟨"java/lang/AbstractStringBuilder", "putStringAt", "(ILjava/lang/String;)V"⟩ jdk_68_method_73_code 3 (Option.none : Option Jvm.ClassFile.FieldType)).before a0 Z = true := hwi hw 160 rfl
theorem d15_0 : decode jdk_68_method_22_code 0 = .ok (.aload_n 1, 1) := by decide +kernel
theorem d15_1 : decode jdk_68_method_22_code 1 = .ok (.ifnonnull 8, 3) := by decide +kernel
theorem d15_9 : decode jdk_68_method_22_code 9 = .ok (.aload_n 1, 1) := by decide +kernel
theorem d15_10 : decode jdk_68_method_22_code 10 = .ok (.invokevirtual 32, 3) := by decide +kernel
theorem d15_13 : decode jdk_68_method_22_code 13 = .ok (.istore_n 2, 1) := by decide +kernel
theorem d15_14 : decode jdk_68_method_22_code 14 = .ok (.aload_n 0, 1) := by decide +kernel
theorem d15_15 : decode jdk_68_method_22_code 15 = .ok (.aload_n 0, 1) := by decide +kernel
theorem d15_16 : decode jdk_68_method_22_code 16 = .ok (.getfield 79, 3) := by decide +kernel
theorem d15_19 : decode jdk_68_method_22_code 19 = .ok (.iload_n 2, 1) := by decide +kernel
theorem d15_20 : decode jdk_68_method_22_code 20 = .ok (.iadd, 1) := by decide +kernel
theorem d15_21 : decode jdk_68_method_22_code 21 = .ok (.invokevirtual 100, 3) := by decide +kernel
theorem d15_24 : decode jdk_68_method_22_code 24 = .ok (.aload_n 0, 1) := by decide +kernel
theorem d15_25 : decode jdk_68_method_22_code 25 = .ok (.aload_n 0, 1) := by decide +kernel
theorem d15_26 : decode jdk_68_method_22_code 26 = .ok (.getfield 79, 3) := by decide +kernel
theorem d15_29 : decode jdk_68_method_22_code 29 = .ok (.aload_n 1, 1) := by decide +kernel
theorem d15_30 : decode jdk_68_method_22_code 30 = .ok (.invokevirtual 208, 3) := by decide +kernel
theorem d15_33 : decode jdk_68_method_22_code 33 = .ok (.aload_n 0, 1) := by decide +kernel
theorem d15_34 : decode jdk_68_method_22_code 34 = .ok (.dup, 1) := by decide +kernel
theorem d15_35 : decode jdk_68_method_22_code 35 = .ok (.getfield 79, 3) := by decide +kernel
theorem d15_38 : decode jdk_68_method_22_code 38 = .ok (.iload_n 2, 1) := by decide +kernel
theorem d15_39 : decode jdk_68_method_22_code 39 = .ok (.iadd, 1) := by decide +kernel
theorem d15_40 : decode jdk_68_method_22_code 40 = .ok (.putfield 79, 3) := by decide +kernel
theorem d15_43 : decode jdk_68_method_22_code 43 = .ok (.aload_n 0, 1) := by decide +kernel
theorem d15_44 : decode jdk_68_method_22_code 44 = .ok (.areturn, 1) := by decide +kernel
theorem pd_8 : parseMethodDescriptor "(I)V" = some ⟨[.int], none⟩ := by decide +kernel
theorem pd_9 : parseMethodDescriptor "(ILjava/lang/String;)V" = some ⟨[.int, (.object "java/lang/String")], none⟩ := by decide +kernel
theorem c_appstr0 (hw : HW a0 Z) (C : Ctx Z cs d1 d2 o1 o2) (O0 : zOd Z n0 h0) (a b : Addr) (bs : List Int8) (cap : Nat) (B0 : Sb Z h0 a b bs cap) (hC : cap < 400000) (g_a : n0 ≤ a) (g_b : n0 ≤ b) (r x : Addr) (xs : List Int8) (B1 : Sx Z h0 r x xs) (hX : xs.length < 400000) (ne_ra : r ≠ a) (ne_rb : r ≠ b) (ne_xa : x ≠ a) (ne_xb : x ≠ b) : zCon l Z (⟨"java/lang/AbstractStringBuilder", "append", "(Ljava/lang/String;)Ljava/lang/AbstractStringBuilder;"⟩ : MethodName) jdk_68_method_22_code 3 (some (.object "java/lang/AbstractStringBuilder")) [] ({ frames := 4, cells := gcell cap (bs.length + xs.length), slots := gslot cap (bs.length + xs.length), locals := 62 } : Room) #[(.ref a), (.ref r)] h0 (fun v h L => v = some (.ref a) ∧ Fr n0 L ∧ Keep h0 h [a, b] ∧ ∃ b2 : Addr, Sb Z h a b2 (bs ++ xs) (gcap cap (bs.length + (xs).length)) ∧ n0 ≤ b2 ∧ (b2 = b ∨ h0.size ≤ b2)) := by
  refine zenter (plainFor_of_name pn_1) (L0 := #[rv a, rv r, .unset]) (H := ?_)
  intro p e s m below meth c T0 hx hZ hby hml hown0 hnm hret hlk X0 e0
  have hown : s.vm.findClass "java/lang/AbstractStringBuilder" = some m.cls := hown0
  have K0 := Keep.refl h0 [a, b]
  have N0 := Fr.nil n0
  obtain ⟨jk, ⟨E_a, F_a_v, F_a_c, F_a_n, A_b, E_b, ne_ab⟩, rfl⟩ := id B0
  have hbs : bs.length ≤ (bs ++ jk).length := by rw [List.length_append]; omega
  obtain ⟨E_r, F_r_v, F_r_c, A_x⟩ := id B1
  show zEnds p e below s T0 (mkF m 0 #[rv a, rv r, .unset] []) _ _ _
  refine zaloadN X0 hx hby d15_0 rfl rfl (zifnonnullYes X0 hx hby d15_1 9 (by decide) (by decide) (zaloadN X0 hx hby d15_9 rfl rfl (zcallv X0 hx hby d15_10 hZ hown (w110 hw) (w111 hw) (notFace_of_selects (args := #[]) (mvT hZ (w113 hw))) (w113 hw) (w112 hw) (w114 hw) (w88 hw) e0 E_r (c_length l hw  C O0 r x (xs) ⟨E_r, F_r_v, F_r_c, A_x⟩) hml 0 pd_1 (argsL := []) (st := []) (zpureK ⟨rfl, rfl⟩ fun T1 X1 e1 => ?_))))
  refine zistoreN X1 hx hby d15_13 (L' := #[rv a, rv r, iv (Int32.ofNat (xs.length))]) rfl (zaloadN X1 hx hby d15_14 rfl rfl (zaloadN X1 hx hby d15_15 rfl rfl (zgetfld X1 hx hby d15_16 hZ hown (host := "") (Or.inl (w123 hw)) Via.refl e1 F_a_n fun T2 X2 e2 => (ziloadN X2 hx hby d15_19 rfl (ziadd X2 hx hby d15_20 (Int32.ofNat (bs.length + xs.length)) (zofN_add _ _) (zcallv X2 hx hby d15_21 hZ hown (w125 hw) (zdecl_of (w126 hw) (w129 hw)) (notFace_of_selects (args := #[]) (mvT hZ (w128 hw))) (w128 hw) (w126 hw) (w129 hw) (w84 hw) e2 E_a (c_ensure l hw  C O0 a b (bs.length) (bs ++ jk) ⟨E_a, F_a_v, F_a_c, F_a_n, A_b, E_b, ne_ab⟩ (bs.length + xs.length) (by first | omega | (simp only [List.length_replicate, List.length_append, List.length_take, List.length_drop, List.length_nil, List.length_cons]; omega)) (by first | omega | (simp only [List.length_replicate, List.length_append, List.length_take, List.length_drop, List.length_nil, List.length_cons]; omega)) g_a g_b) hml 0 pd_8 (argsL := [(.int (Int32.ofNat (bs.length + xs.length)))]) (st := []) fun T3 h3 v3 L3 e3 X3 q3 => ?_))))))
  obtain ⟨rfl, N3q, K3q, b3, zs3, ⟨E3_a, V3_a, C3_a, M3_a, A3_b, E3_b, ne3_ab⟩, g3_b, o3, l3⟩ := q3
  have F3_r_value := F_r_v.keep K3q (ninS ne_ra nin0)
  have F3_r_coder := F_r_c.keep K3q (ninS ne_ra nin0)
  have E3_r := E_r.keep K3q
  have A3_x := A_x.keep K3q (ninS ne_xa nin0)
  have O3 := O0.keep K3q (allS g_a all0)
  have K3 := Keep.trans K0 K3q (allS (Or.inl (List.mem_of_getElem? (i := 0) rfl)) all0)
  have N3 := Fr.app N0 N3q
  have ne3_r : r ≠ b3 := o3.elim (fun q => q ▸ ne_rb) (fun q => Nat.ne_of_lt (Nat.lt_of_lt_of_le E_r.lt q))
  have ne3_x : x ≠ b3 := o3.elim (fun q => q ▸ ne_xb) (fun q => Nat.ne_of_lt (Nat.lt_of_lt_of_le A_x.lt q))
  refine zaloadN X3 hx hby d15_24 rfl rfl (zaloadN X3 hx hby d15_25 rfl rfl (zgetfld X3 hx hby d15_26 hZ hown (host := "") (Or.inl (w123 hw)) Via.refl e3 M3_a fun T4 X4 e4 => (zaloadN X4 hx hby d15_29 rfl rfl (zcallv X4 hx hby d15_30 hZ hown (w156 hw) (zdecl_of (w157 hw) (w160 hw)) (notFace_of_selects (args := #[]) (mvT hZ (w159 hw))) (w159 hw) (w157 hw) (w160 hw) (w84 hw) e4 E3_a (c_putstr l hw  C O3 a b3 (bs.length) (bs ++ jk ++ zs3) ⟨E3_a, V3_a, C3_a, M3_a, A3_b, E3_b, ne3_ab⟩ r x (xs) ⟨E3_r, F3_r_value, F3_r_coder, A3_x⟩ g3_b ne3_r ne3_x (bs.length) (by rw [l3]; have q1 := @gcap_le (bs ++ jk).length (bs.length + (xs).length); have q2 : gcap (bs ++ jk).length (bs.length + (xs).length) < 3000000 := (by unfold gcap ncap; split <;> omega); omega) (by rw [l3]; have q1 := @gcap_le (bs ++ jk).length (bs.length + (xs).length); have q2 : gcap (bs ++ jk).length (bs.length + (xs).length) < 3000000 := (by unfold gcap ncap; split <;> omega); omega)) hml 0 pd_9 (argsL := [(.int (Int32.ofNat (bs.length))), (.ref r)]) (st := []) fun T5 h5 v5 L5 e5 X5 q5 => ?_))))
  obtain ⟨rfl, N5q, K5q, ⟨E5_a, V5_a, C5_a, M5_a, A5_b, E5_b, -⟩⟩ := q5
  have K5 := Keep.trans K3 K5q (allS (o3.elim (fun q => Or.inl (by rw [q]; exact List.mem_of_getElem? (i := 1) rfl)) (fun q => Or.inr (Nat.le_trans K0.1 q))) all0)
  have N5 := Fr.app N3 N5q
  show zEnds p e below s T5 (mkF m 33 #[rv a, rv r, iv (Int32.ofNat (xs.length))] []) _ _ _
  refine zaloadN X5 hx hby d15_33 rfl rfl (zdup X5 hx hby d15_34 rfl (zgetfld X5 hx hby d15_35 hZ hown (host := "") (Or.inl (w123 hw)) Via.refl e5 M5_a fun T6 X6 e6 => (ziloadN X6 hx hby d15_38 rfl (ziadd X6 hx hby d15_39 (Int32.ofNat (bs.length + xs.length)) (zofN_add _ _) (zputfld X6 hx hby d15_40 hZ hown (host := "") (Or.inl (w123 hw)) Via.refl e6 M5_a E5_a (Or.inl (w124 hw)) (w75 hw) (ty := .int) (by decide) rfl rfl fun T7 h7 X7 e7 W7 => ?_)))))
  have F7_a_count : Fld Z h7 a "java/lang/AbstractStringBuilder" "count" "I" (.int (Int32.ofNat (bs.length + xs.length))) := M5_a.same W7
  have F7_a_value := V5_a.other W7 (Or.inr (slot_ne (Or.inl (w91 hw)) (Or.inl (w124 hw)) (by decide) (t := (.array .byte)) (t' := .int) (by decide) (by decide)))
  have F7_a_coder := C5_a.other W7 (Or.inr (slot_ne (Or.inl (w93 hw)) (Or.inl (w124 hw)) (by decide) (t := .byte) (t' := .int) (by decide) (by decide)))
  have E7_a := E5_a.wr W7
  have E7_b3 := E5_b.wr W7
  have A7_b3 := A5_b.other W7 (Ne.symm ne3_ab)
  have K7 := Keep.wr K5 W7 (Or.inl (List.mem_of_getElem? (i := 0) rfl))
  have N7 := Fr.snoc X7 N5 g_a
  refine zaloadN X7 hx hby d15_43 rfl rfl ?_
  show zEnds p e below s T7 (mkF m 44 #[rv a, rv r, iv (Int32.ofNat (xs.length))] [(.ref a)]) _ _ _
  exact zretA X7 hx hby d15_44 hret hlk rfl rfl rfl (by first | decide | omega | (dsimp only; omega)) (by first | decide | omega | (dsimp only; omega)) (by rw [e7]; exact ⟨rfl, N7, K7, b3, ⟨List.drop (xs).length (jk ++ zs3), ⟨E7_a, F7_a_value, F7_a_coder, by rw [List.length_append]; exact F7_a_count, by have q := A7_b3; rw [zput_tail] at q; exact q, E7_b3, ne3_ab⟩, by rw [zput_len (by rw [l3]; have q1 := @gcap_le (bs ++ jk).length (bs.length + (xs).length); have q2 : gcap (bs ++ jk).length (bs.length + (xs).length) < 3000000 := (by unfold gcap ncap; split <;> omega); omega), l3]⟩, g3_b, o3⟩)
theorem w105 (hw : HW a0 Z) : (Cond.methodLink "java/lang/StringBuilder" 29 ⟨"java/lang/AbstractStringBuilder", "append", "(Ljava/lang/String;)Ljava/lang/AbstractStringBuilder;"⟩).before a0 Z = true := hwi hw 105 rfl
theorem w106 (hw : HW a0 Z) : (Cond.instanceMethod ⟨"java/lang/AbstractStringBuilder", "append", "(Ljava/lang/String;)Ljava/lang/AbstractStringBuilder;"⟩).before a0 Z = true := hwi hw 106 rfl
theorem w109 (hw : HW a0 Z) : (Cond.code ⟨"java/lang/AbstractStringBuilder", "append", "(Ljava/lang/String;)Ljava/lang/AbstractStringBuilder;"⟩ jdk_68_method_22_code 3 (Option.some (FieldType.object "java/lang/AbstractStringBuilder"))).before a0 Z = true := hwi hw 109 rfl
theorem d16_0 : decode jdk_67_method_7_code 0 = .ok (.aload_n 0, 1) := by decide +kernel
theorem d16_1 : decode jdk_67_method_7_code 1 = .ok (.aload_n 1, 1) := by decide +kernel
theorem d16_2 : decode jdk_67_method_7_code 2 = .ok (.invokespecial 29, 3) := by decide +kernel
theorem d16_5 : decode jdk_67_method_7_code 5 = .ok (.pop, 1) := by decide +kernel
theorem d16_6 : decode jdk_67_method_7_code 6 = .ok (.aload_n 0, 1) := by decide +kernel
theorem d16_7 : decode jdk_67_method_7_code 7 = .ok (.areturn, 1) := by decide +kernel
theorem pd_10 : parseMethodDescriptor "(Ljava/lang/String;)Ljava/lang/AbstractStringBuilder;" = some ⟨[(.object "java/lang/String")], some (.object "java/lang/AbstractStringBuilder")⟩ := by decide +kernel
theorem c_appstr (hw : HW a0 Z) (C : Ctx Z cs d1 d2 o1 o2) (O0 : zOd Z n0 h0) (a b : Addr) (bs : List Int8) (cap : Nat) (B0 : Sb Z h0 a b bs cap) (hC : cap < 400000) (g_a : n0 ≤ a) (g_b : n0 ≤ b) (r x : Addr) (xs : List Int8) (B1 : Sx Z h0 r x xs) (hX : xs.length < 400000) (ne_ra : r ≠ a) (ne_rb : r ≠ b) (ne_xa : x ≠ a) (ne_xb : x ≠ b) : zCon l Z (⟨"java/lang/StringBuilder", "append", "(Ljava/lang/String;)Ljava/lang/StringBuilder;"⟩ : MethodName) jdk_67_method_7_code 2 (some (.object "java/lang/StringBuilder")) [] ({ frames := 5, cells := gcell cap (bs.length + xs.length), slots := gslot cap (bs.length + xs.length), locals := 76 } : Room) #[(.ref a), (.ref r)] h0 (fun v h L => v = some (.ref a) ∧ Fr n0 L ∧ Keep h0 h [a, b] ∧ ∃ b2 : Addr, Sb Z h a b2 (bs ++ xs) (gcap cap (bs.length + (xs).length)) ∧ n0 ≤ b2 ∧ (b2 = b ∨ h0.size ≤ b2)) := by
  refine zenter (plainFor_of_name pn_2) (L0 := #[rv a, rv r]) (H := ?_)
  intro p e s m below meth c T0 hx hZ hby hml hown0 hnm hret hlk X0 e0
  have hown : s.vm.findClass "java/lang/StringBuilder" = some m.cls := hown0
  have K0 := Keep.refl h0 [a, b]
  have N0 := Fr.nil n0
  obtain ⟨E_r, F_r_v, F_r_c, A_x⟩ := id B1
  show zEnds p e below s T0 (mkF m 0 #[rv a, rv r] []) _ _ _
  refine zaloadN X0 hx hby d16_0 rfl rfl (zaloadN X0 hx hby d16_1 rfl rfl (zcallsup X0 hx hby d16_2 hZ hown (by decide) (w105 hw) (nfASB hw (w106 hw) rfl) (w106 hw) (w107 hw) (w109 hw) (w84 hw) e0 (Sb.exa B0) (c_appstr0 l hw  C O0 a b (bs) cap B0 (by first | omega | (simp only [List.length_replicate, List.length_append, List.length_take, List.length_drop, List.length_nil, List.length_cons]; omega)) g_a g_b r x (xs) ⟨E_r, F_r_v, F_r_c, A_x⟩ (by first | omega | (simp only [List.length_replicate, List.length_append, List.length_take, List.length_drop, List.length_nil, List.length_cons]; omega)) ne_ra ne_rb ne_xa ne_xb) hml 0 pd_10 (argsL := [(.ref r)]) (st := []) fun T1 h1 v1 L1 e1 X1 q1 => ?_))
  obtain ⟨rfl, N1q, K1q, b1, B1_a, g1_b, o1⟩ := q1
  have K1 := Keep.trans K0 K1q (allS (Or.inl (List.mem_of_getElem? (i := 0) rfl)) (allS (Or.inl (List.mem_of_getElem? (i := 1) rfl)) all0))
  have N1 := Fr.app N0 N1q
  refine zpop X1 hx hby d16_5 rfl (zaloadN X1 hx hby d16_6 rfl rfl ?_)
  show zEnds p e below s T1 (mkF m 7 #[rv a, rv r] [(.ref a)]) _ _ _
  exact zretA X1 hx hby d16_7 hret hlk rfl rfl rfl (by first | decide | omega | (dsimp only; omega)) (by first | decide | omega | (dsimp only; omega)) (by rw [e1]; exact ⟨rfl, N1, K1, b1, B1_a, g1_b, o1⟩)
/-! decimal digits -/
theorem dec_wf {n : Nat} (h : ¬ n < 10) : n / 10 < n := by omega
def dec (n : Nat) : List Int8 := if h : n < 10 then [dg n] else dec (n / 10) ++ [dg (n % 10)]
termination_by n
decreasing_by exact dec_wf h
theorem dec_lt {n : Nat} (h : n < 10) : dec n = [dg n] := by rw [dec, dif_pos h]
theorem dec_ge {n : Nat} (h : ¬ n < 10) : dec n = dec (n / 10) ++ [dg (n % 10)] := by rw [dec, dif_neg h]
theorem dec_ge100 {n : Nat} (h : 100 ≤ n) : dec n = dec (n / 100) ++ [dg (n % 100 / 10), dg (n % 100 % 10)] := by
  rw [dec_ge (by omega), dec_ge (n := n / 10) (by omega), List.append_assoc, Nat.div_div_eq_div_mul]
  have e1 : n / 10 % 10 = n % 100 / 10 := by omega
  have e2 : n % 10 = n % 100 % 10 := by omega
  rw [e1, e2]; rfl
theorem dec_two {n : Nat} (h : 9 < n) (h' : n < 100) : dec n = [dg (n / 10), dg (n % 10)] := by
  rw [dec_ge (by omega), dec_lt (n := n / 10) (by omega)]; rfl
theorem dec_len_pos (n : Nat) : 1 ≤ (dec n).length := by
  by_cases h : n < 10
  · rw [dec_lt h]; simp
  · rw [dec_ge h]; simp
theorem dec_len : ∀ (i n : Nat), n < 10 ^ (i + 1) → (i = 0 ∨ 10 ^ i ≤ n) → (dec n).length = i + 1
  | 0, n, h, _ => by rw [dec_lt (by simpa using h)]; rfl
  | i + 1, n, h, h' => by
    have h1 : 10 ^ (i + 1) ≤ n := h'.resolve_left (by omega)
    have h2 : 10 ≤ 10 ^ (i + 1) := by rw [Nat.pow_succ]; have := Nat.pow_pos (n := i) (show 0 < 10 by omega); omega
    rw [dec_ge (by omega), List.length_append, dec_len i (n / 10) (by rw [Nat.pow_succ] at h; omega) ?_]
    · rfl
    · rw [Nat.pow_succ] at h1; exact Or.inr (by omega)
theorem dec_len_le : ∀ (i n : Nat), n < 10 ^ (i + 1) → (dec n).length ≤ i + 1
  | 0, n, h => by rw [dec_lt (by simpa using h)]; exact Nat.le_refl _
  | i + 1, n, h => by
    by_cases h1 : n < 10
    · rw [dec_lt h1]; simp
    · rw [dec_ge h1, List.length_append]; have := dec_len_le i (n / 10) (by rw [Nat.pow_succ] at h; omega); simp; omega
theorem dg_inj {a b : Nat} (ha : a < 10) (hb : b < 10) (h : dg a = dg b) : a = b := by
  have key : ∀ a : Fin 10, ∀ b : Fin 10, dg a.val = dg b.val → a.val = b.val := by decide
  exact key ⟨a, ha⟩ ⟨b, hb⟩ h
theorem dec_inj : ∀ {a b : Nat}, dec a = dec b → a = b := by
  intro a
  induction a using Nat.strongRecOn with
  | ind a ih =>
    intro b h
    by_cases ha : a < 10
    · by_cases hb : b < 10
      · rw [dec_lt ha, dec_lt hb] at h
        exact dg_inj ha hb (List.cons.inj h).1
      · exfalso
        rw [dec_lt ha, dec_ge hb] at h
        have := congrArg List.length h
        have q := dec_len_pos (b / 10)
        rw [List.length_append] at this; simp only [List.length_cons, List.length_nil] at this; omega
    · by_cases hb : b < 10
      · exfalso
        rw [dec_ge ha, dec_lt hb] at h
        have := congrArg List.length h
        have q := dec_len_pos (a / 10)
        rw [List.length_append] at this; simp only [List.length_cons, List.length_nil] at this; omega
      · rw [dec_ge ha, dec_ge hb] at h
        obtain ⟨h1, h2⟩ := List.append_inj' h rfl
        have e1 := ih (a / 10) (by omega) h1
        have e2 := dg_inj (by omega) (by omega) (List.cons.inj h2).1
        omega
/-- ds written from q on -/
def wrt (ys : List Int8) (q : Nat) (ds : List Int8) : List Int8 := ys.take q ++ ds ++ ys.drop (q + ds.length)
theorem wrt_one {ys : List Int8} {q : Nat} (d : Int8) (h : q < ys.length) : ys.set q d = wrt ys q [d] := by
  rw [List.set_eq_take_append_cons_drop, if_pos h, wrt, List.append_assoc]; rfl
theorem wrt_two {ys : List Int8} {q : Nat} (d e : Int8) (h : q + 1 < ys.length) : (ys.set (q + 1) e).set q d = wrt ys q [d, e] := by
  apply List.ext_getElem?
  intro i
  simp only [wrt, List.getElem?_set, List.length_set]
  by_cases h1 : i < q
  · rw [if_neg (by omega), if_neg (by omega), List.append_assoc, List.getElem?_append_left (by rw [List.length_take]; omega), List.getElem?_take_of_lt h1]
  · rw [List.append_assoc, List.getElem?_append_right (by rw [List.length_take]; omega), List.length_take, Nat.min_eq_left (by omega)]
    by_cases h2 : i = q
    · subst h2; rw [if_pos rfl, if_pos (by omega), Nat.sub_self]; rfl
    · rw [if_neg (by omega)]
      by_cases h3 : i = q + 1
      · subst h3; rw [if_pos rfl, if_pos h, show q + 1 - q = 1 by omega]; rfl
      · rw [if_neg (by omega), List.getElem?_append_right (by simp; omega), List.getElem?_drop]
        congr 1; simp; omega
theorem wrt_wrt {ys ds es : List Int8} {q : Nat} (h : q + ds.length + es.length ≤ ys.length) : wrt (wrt ys (q + ds.length) es) q ds = wrt ys q (ds ++ es) := by
  simp only [wrt, List.length_append]
  rw [List.append_assoc (List.take (q + ds.length) ys), List.take_append_of_le_length (by rw [List.length_take]; omega), List.take_take, Nat.min_eq_left (by omega)]
  rw [List.drop_append, List.drop_eq_nil_of_le (by rw [List.length_take]; omega), List.length_take, Nat.min_eq_left (by omega), Nat.sub_self, List.drop_zero, List.nil_append, List.append_assoc, List.append_assoc, List.append_assoc, Nat.add_assoc]
theorem wrt_len {ys ds : List Int8} {q : Nat} (h : q + ds.length ≤ ys.length) : (wrt ys q ds).length = ys.length := by
  simp only [wrt, List.length_append, List.length_take, List.length_drop]; omega
theorem negI_ofN (n : Nat) : -(Int32.ofNat n) = SBG.negI n := by
  show _ = Int32.ofInt (-(n : Int))
  rw [Int32.ofInt_neg]; congr 1
theorem negL_ofN (n : Nat) : -(Int64.ofNat n) = SBG.negL n := by
  show _ = Int64.ofInt (-(n : Int))
  rw [Int64.ofInt_neg]; congr 1
theorem lcmp_pos (x y : Int64) : ((0 : Int32) < lcmpW x y) = (y < x) := by
  unfold lcmpW
  by_cases h : x > y
  · rw [if_pos h]; exact propext ⟨fun _ => h, fun _ => by decide⟩
  · rw [if_neg h]
    split
    · exact propext ⟨fun q => absurd q (by decide), fun q => absurd q h⟩
    · exact propext ⟨fun q => absurd q (by decide), fun q => absurd q h⟩
theorem lcmp_neg (x y : Int64) : (lcmpW x y < (0 : Int32)) = (x < y) := by
  unfold lcmpW
  by_cases h : x > y
  · rw [if_pos h]; exact propext ⟨fun q => absurd q (by decide), fun q => absurd (Int64.lt_trans q h) (Int64.lt_irrefl)⟩
  · rw [if_neg h]
    by_cases h2 : x = y
    · rw [if_pos h2, h2]; exact propext ⟨fun q => absurd q (by decide), fun q => absurd q (Int64.lt_irrefl)⟩
    · rw [if_neg h2]; exact propext ⟨fun _ => by
        have h : ¬ y < x := h; rw [Int64.lt_iff_toInt_lt] at h ⊢; have : x.toInt ≠ y.toInt := fun q => h2 (Int64.toInt_inj.mp q); omega, fun _ => by decide⟩
theorem ofL_toInt {n : Nat} (q : n < 9223372036854775808) : (Int64.ofNat n).toInt = n := Int64.toInt_ofNat_of_lt q
theorem ofL_nn {n : Nat} (q : n < 9223372036854775808) : ¬ Int64.ofNat n < 0 := by
  rw [Int64.lt_iff_toInt_lt, ofL_toInt q]; show ¬ (n : Int) < 0; omega
theorem dec1 {k : Nat} (h : 1 ≤ k) : Int32.ofNat k + Int32.ofInt (-1) = Int32.ofNat (k - 1) := by
  rw [Int32.ofNat_sub _ _ h, Int32.sub_eq_add_neg]; rfl
theorem nar_b (b : Int8) : nar .byte b.toInt32 = b.toInt32 := by
  show b.toInt32.toInt8.toInt32 = _
  simp
theorem inc1 (k : Nat) : Int32.ofNat k + Int32.ofInt 1 = Int32.ofNat (k + 1) := (Int32.ofNat_add k 1).symm
theorem ofL_lt {a b : Nat} (qa : a < 9223372036854775808) (qb : b < 9223372036854775808) : (Int64.ofNat a < Int64.ofNat b) = (a < b) := by
  rw [Int64.lt_iff_toInt_lt, ofL_toInt qa, ofL_toInt qb]; exact propext (by omega)
theorem i2l_ofN {n : Nat} (q : n < 2147483648) : (Int32.ofNat n).toInt64 = Int64.ofNat n := by
  apply Int64.toInt_inj.mp
  rw [Int32.toInt_toInt64, Int32.toInt_ofNat_of_lt q, ofL_toInt (by omega)]
theorem l2i_ofN {n : Nat} (q : n < 2147483648) : (Int64.ofNat n).toInt32 = Int32.ofNat n := by simp
theorem take_next {xs zs : List Int8} {i : Nat} {u : Int8} (h : xs.take i = zs.take i) (h1 : xs[i]? = some u) (h2 : zs[i]? = some u) : xs.take (i + 1) = zs.take (i + 1) := by
  rw [List.take_add_one, List.take_add_one, h, h1, h2]
theorem take_all {xs zs : List Int8} {i : Nat} (h : xs.take i = zs.take i) (h1 : ¬ i < xs.length) (h2 : xs.length = zs.length) : xs = zs := by
  rw [List.take_of_length_le (by omega), List.take_of_length_le (by omega)] at h; exact h
theorem i8_inj {a b : Int8} (h : a.toInt32 = b.toInt32) : a = b := by
  have q := congrArg Int32.toInt h
  rw [Int8.toInt_toInt32, Int8.toInt_toInt32] at q
  exact Int8.toInt_inj.mp q

theorem w186 (hw : HW a0 Z) : (Cond.constantLong "java/lang/Long" 140 (-10 : Int64)).before a0 Z = true := hwi hw 186 rfl
theorem w301 (hw : HW a0 Z) : (Cond.constantLong "java/lang/Long" 53 (10 : Int64)).before a0 Z = true := hwi hw 301 rfl
theorem d17_0 : decode jdk_35_method_15_code 0 = .ok (.iconst 1, 1) := by decide +kernel
theorem d17_1 : decode jdk_35_method_15_code 1 = .ok (.istore_n 2, 1) := by decide +kernel
theorem d17_2 : decode jdk_35_method_15_code 2 = .ok (.lload_n 0, 1) := by decide +kernel
theorem d17_3 : decode jdk_35_method_15_code 3 = .ok (.lconst 0, 1) := by decide +kernel
theorem d17_4 : decode jdk_35_method_15_code 4 = .ok (.lcmp, 1) := by decide +kernel
theorem d17_5 : decode jdk_35_method_15_code 5 = .ok (.ifCond .lt 8, 3) := by decide +kernel
theorem d17_8 : decode jdk_35_method_15_code 8 = .ok (.iconst 0, 1) := by decide +kernel
theorem d17_9 : decode jdk_35_method_15_code 9 = .ok (.istore_n 2, 1) := by decide +kernel
theorem d17_10 : decode jdk_35_method_15_code 10 = .ok (.lload_n 0, 1) := by decide +kernel
theorem d17_11 : decode jdk_35_method_15_code 11 = .ok (.lneg, 1) := by decide +kernel
theorem d17_12 : decode jdk_35_method_15_code 12 = .ok (.lstore_n 0, 1) := by decide +kernel
theorem d17_13 : decode jdk_35_method_15_code 13 = .ok (.ldc2_w 140, 3) := by decide +kernel
theorem d17_16 : decode jdk_35_method_15_code 16 = .ok (.lstore_n 3, 1) := by decide +kernel
theorem d17_17 : decode jdk_35_method_15_code 17 = .ok (.iconst 1, 1) := by decide +kernel
theorem d17_18 : decode jdk_35_method_15_code 18 = .ok (.istore 5, 2) := by decide +kernel
theorem d17_20 : decode jdk_35_method_15_code 20 = .ok (.iload 5, 2) := by decide +kernel
theorem d17_22 : decode jdk_35_method_15_code 22 = .ok (.bipush 19, 2) := by decide +kernel
theorem d17_24 : decode jdk_35_method_15_code 24 = .ok (.if_icmp .ge 26, 3) := by decide +kernel
theorem d17_27 : decode jdk_35_method_15_code 27 = .ok (.lload_n 0, 1) := by decide +kernel
theorem d17_28 : decode jdk_35_method_15_code 28 = .ok (.lload_n 3, 1) := by decide +kernel
theorem d17_29 : decode jdk_35_method_15_code 29 = .ok (.lcmp, 1) := by decide +kernel
theorem d17_30 : decode jdk_35_method_15_code 30 = .ok (.ifCond .le 8, 3) := by decide +kernel
theorem d17_33 : decode jdk_35_method_15_code 33 = .ok (.iload 5, 2) := by decide +kernel
theorem d17_35 : decode jdk_35_method_15_code 35 = .ok (.iload_n 2, 1) := by decide +kernel
theorem d17_36 : decode jdk_35_method_15_code 36 = .ok (.iadd, 1) := by decide +kernel
theorem d17_37 : decode jdk_35_method_15_code 37 = .ok (.ireturn, 1) := by decide +kernel
theorem d17_38 : decode jdk_35_method_15_code 38 = .ok (.ldc2_w 53, 3) := by decide +kernel
theorem d17_41 : decode jdk_35_method_15_code 41 = .ok (.lload_n 3, 1) := by decide +kernel
theorem d17_42 : decode jdk_35_method_15_code 42 = .ok (.lmul, 1) := by decide +kernel
theorem d17_43 : decode jdk_35_method_15_code 43 = .ok (.lstore_n 3, 1) := by decide +kernel
theorem d17_44 : decode jdk_35_method_15_code 44 = .ok (.iinc 5 1, 3) := by decide +kernel
theorem d17_47 : decode jdk_35_method_15_code 47 = .ok (.goto (-27), 3) := by decide +kernel
theorem d17_50 : decode jdk_35_method_15_code 50 = .ok (.bipush 19, 2) := by decide +kernel
theorem d17_52 : decode jdk_35_method_15_code 52 = .ok (.iload_n 2, 1) := by decide +kernel
theorem d17_53 : decode jdk_35_method_15_code 53 = .ok (.iadd, 1) := by decide +kernel
theorem d17_54 : decode jdk_35_method_15_code 54 = .ok (.ireturn, 1) := by decide +kernel
theorem pn_5 : plainName "java/lang/Long" = true := by first | (simp [plainName, overriddenIn]; done) | decide +kernel
theorem negL_m10 (i : Nat) : (10 : Int64) * SBG.negL (10 ^ i) = SBG.negL (10 ^ (i + 1)) := by
  unfold SBG.negL
  rw [show (10 : Int64) = Int64.ofInt 10 from rfl, ← Int64.ofInt_mul]
  congr 1
  rw [Nat.pow_succ]; simp only [Int.natCast_mul]; omega
theorem szJ {p : Program} {l : Launch} {e : Env} {R : Room} {s : State} {m : MethodId} {args : Array Value} {below : List Frame} {meth : Method} {c : Code} {Z : State} {a0 : Array Value} {h0 : Heap} {n cs_ ss_ : Nat} (hx : p.tables.exec = Jvm.exec) (hZ : Z.Warmed39 s.vm) (hw : HW a0 Z) (hby : c.code = jdk_35_method_15_code) (hml : c.maxLocals = 6) (hown : s.vm.findClass "java/lang/Long" = some m.cls) (hret : meth.sig.returnType = (some .int)) (hlk : meth.locks = false) (hn : n < 9223372036854775808) : ∀ (k i : Nat), i + k = 19 → 1 ≤ i → (i = 1 ∨ 10 ^ (i - 1) ≤ n) → ∀ {T0 : State}, Stand p l e R s m args below meth c T0 [] 0 0 → T0.heap = h0 → zEnds p e below s T0 (mkF m 20 #[.val (.long (SBG.negL (n))), .second, iv 0, .val (.long (SBG.negL (10 ^ i))), .second, iv (Int32.ofNat (i))] []) cs_ ss_ (zSame (some (.int (Int32.ofNat ((dec n).length)))) h0) := by
  intro k
  induction k with
  | zero =>
    intro i hik hi1 h1 T0 X0 e0
    replace h1 : 10 ^ (i - 1) ≤ n := h1.resolve_left (by omega)
    show zEnds p e below s T0 (mkF m 20 #[.val (.long (SBG.negL (n))), .second, iv 0, .val (.long (SBG.negL (10 ^ i))), .second, iv (Int32.ofNat (i))] []) _ _ _
    refine ziload X0 hx hby d17_20 rfl (zbipush X0 hx hby d17_22 (z := (19 : Int32)) rfl (zicmpYes X0 hx hby d17_24 50 (flt (show ¬ ((Int32.ofNat (i)) < Int32.ofNat (19)) from by rw [zofN_lt (by omega) (by omega)]; omega)).2.1 (by decide) (by decide) (zbipush X0 hx hby d17_50 (z := (19 : Int32)) rfl (ziloadN X0 hx hby d17_52 rfl (ziadd X0 hx hby d17_53 (19 : Int32) (by decide) ?_)))))
    show zEnds p e below s T0 (mkF m 54 #[.val (.long (SBG.negL (n))), .second, iv 0, .val (.long (SBG.negL (10 ^ i))), .second, iv (Int32.ofNat (i))] [(.int 19)]) _ _ _
    exact zretI X0 hx hby d17_54 hret hlk (by first | decide | omega | (dsimp only; omega)) (by first | decide | omega | (dsimp only; omega)) (⟨by rw [dec_len 18 n (by omega) (Or.inr (by simpa [show i = 19 from by omega] using h1))]; rfl, e0, rfl⟩)
  | succ k ih =>
    intro i hik hi1 h1 T0 X0 e0
    show zEnds p e below s T0 (mkF m 20 #[.val (.long (SBG.negL (n))), .second, iv 0, .val (.long (SBG.negL (10 ^ i))), .second, iv (Int32.ofNat (i))] []) _ _ _
    refine ziload X0 hx hby d17_20 rfl (zbipush X0 hx hby d17_22 (z := (19 : Int32)) rfl (zicmpNo X0 hx hby d17_24 (tlt (show (Int32.ofNat (i)) < Int32.ofNat (19) from by rw [zofN_lt (by omega) (by omega)]; omega)).2.1 (zlloadN X0 hx hby d17_27 rfl (zlloadN X0 hx hby d17_28 rfl (zlcmp X0 hx hby d17_29 (lcmpW (SBG.negL (n)) (SBG.negL (10 ^ i))) rfl ?_)))))
    show zEnds p e below s T0 (mkF m 30 #[.val (.long (SBG.negL (n))), .second, iv 0, .val (.long (SBG.negL (10 ^ i))), .second, iv (Int32.ofNat (i))] [(.int (lcmpW (SBG.negL (n)) (SBG.negL (10 ^ i))))]) _ _ _
    have hq : 10 ^ i ≤ 2 ^ 63 := Nat.le_trans (Nat.pow_le_pow_right (by decide) (show i ≤ 18 by omega)) (by decide)
    by_cases hd : n < 10 ^ i
    · refine zifNo X0 hx hby d17_30 ((if0 _ _).trans (tlt (show (0 : Int32) < (lcmpW (SBG.negL (n)) (SBG.negL (10 ^ i))) from by rw [lcmp_pos, SBG.negL_lt (by omega) _ hq]; exact hd)).2.2.2) (ziload X0 hx hby d17_33 rfl (ziloadN X0 hx hby d17_35 rfl (ziadd X0 hx hby d17_36 (Int32.ofNat (i + 0)) (zofN_add _ _) ?_)))
      show zEnds p e below s T0 (mkF m 37 #[.val (.long (SBG.negL (n))), .second, iv 0, .val (.long (SBG.negL (10 ^ i))), .second, iv (Int32.ofNat (i))] [(.int (Int32.ofNat (i + 0)))]) _ _ _
      exact zretI X0 hx hby d17_37 hret hlk (by first | decide | omega | (dsimp only; omega)) (by first | decide | omega | (dsimp only; omega)) (⟨by rw [dec_len (i - 1) n (by rw [show i - 1 + 1 = i from by omega]; exact hd) (by omega), show i - 1 + 1 = i + 0 from by omega], e0, rfl⟩)
    · refine zifYes X0 hx hby d17_30 38 ((if0 _ _).trans (flt (show ¬ ((0 : Int32) < (lcmpW (SBG.negL (n)) (SBG.negL (10 ^ i)))) from by rw [lcmp_pos, SBG.negL_lt (by omega) _ hq]; exact hd)).2.2.2) (by decide) (by decide) (zldc2J X0 hx hby d17_38 (10 : Int64) hZ hown (w301 hw) (zlloadN X0 hx hby d17_41 rfl (zlmul X0 hx hby d17_42 (SBG.negL (10 ^ (i + 1))) (negL_m10 i) (zlstoreN X0 hx hby d17_43 (L' := #[.val (.long (SBG.negL (n))), .second, iv 0, .val (.long (SBG.negL (10 ^ (i + 1)))), .second, iv (Int32.ofNat (i))]) rfl (ziinc X0 hx hby d17_44 (L' := #[.val (.long (SBG.negL (n))), .second, iv 0, .val (.long (SBG.negL (10 ^ (i + 1)))), .second, iv (Int32.ofNat (i + 1))]) rfl (by rw [inc1]; rfl) (zgoto X0 hx hby d17_47 20 (by decide) (by decide) ?_))))))
      show zEnds p e below s T0 (mkF m 20 #[.val (.long (SBG.negL (n))), .second, iv 0, .val (.long (SBG.negL (10 ^ (i + 1)))), .second, iv (Int32.ofNat (i + 1))] []) _ _ _
      exact ih (i + 1) (by omega) (by omega) (Or.inr (by rw [Nat.add_sub_cancel]; omega)) X0 e0
theorem c_sizeJ (hw : HW a0 Z) (C : Ctx Z cs d1 d2 o1 o2) (O0 : zOd Z n0 h0) (n : Nat) (hn : n < 9223372036854775808) : zCon l Z (⟨"java/lang/Long", "stringSize", "(J)I"⟩ : MethodName) jdk_35_method_15_code 6 (some .int) [] ({ frames := 0, cells := 0, slots := 0, locals := 0 } : Room) #[(.long (Int64.ofNat (n)))] h0 (zSame (some (.int (Int32.ofNat ((dec n).length)))) h0) := by
  refine zenter (plainFor_of_name pn_5) (L0 := #[.val (.long (Int64.ofNat (n))), .second, .unset, .unset, .unset, .unset]) (H := ?_)
  intro p e s m below meth c T0 hx hZ hby hml hown0 hnm hret hlk X0 e0
  have hown : s.vm.findClass "java/lang/Long" = some m.cls := hown0
  show zEnds p e below s T0 (mkF m 0 #[.val (.long (Int64.ofNat (n))), .second, .unset, .unset, .unset, .unset] []) _ _ _
  refine ziconst X0 hx hby d17_0 (z := (1 : Int32)) rfl (zistoreN X0 hx hby d17_1 (L' := #[.val (.long (Int64.ofNat (n))), .second, iv 1, .unset, .unset, .unset]) rfl (zlloadN X0 hx hby d17_2 rfl (zlconst X0 hx hby d17_3 (z := (0 : Int64)) rfl (zlcmp X0 hx hby d17_4 (lcmpW (Int64.ofNat (n)) (0 : Int64)) rfl (zifNo X0 hx hby d17_5 ((if0 _ _).trans (flt (show ¬ ((lcmpW (Int64.ofNat (n)) (0 : Int64)) < (0 : Int32)) from by rw [lcmp_neg]; exact ofL_nn (by omega))).1) (ziconst X0 hx hby d17_8 (z := (0 : Int32)) rfl (zistoreN X0 hx hby d17_9 (L' := #[.val (.long (Int64.ofNat (n))), .second, iv 0, .unset, .unset, .unset]) rfl (zlloadN X0 hx hby d17_10 rfl (zlneg X0 hx hby d17_11 (SBG.negL (n)) (negL_ofN _) ?_)))))))))
  show zEnds p e below s T0 (mkF m 12 #[.val (.long (Int64.ofNat (n))), .second, iv 0, .unset, .unset, .unset] [(.long (SBG.negL (n)))]) _ _ _
  refine zlstoreN X0 hx hby d17_12 (L' := #[.val (.long (SBG.negL (n))), .second, iv 0, .unset, .unset, .unset]) rfl (zldc2J X0 hx hby d17_13 (-10 : Int64) hZ hown (w186 hw) (zlstoreN X0 hx hby d17_16 (L' := #[.val (.long (SBG.negL (n))), .second, iv 0, .val (.long (-10)), .second, .unset]) rfl (ziconst X0 hx hby d17_17 (z := (1 : Int32)) rfl (zistore X0 hx hby d17_18 (L' := #[.val (.long (SBG.negL (n))), .second, iv 0, .val (.long (-10)), .second, iv 1]) rfl ?_))))
  show zEnds p e below s T0 (mkF m 20 #[.val (.long (SBG.negL (n))), .second, iv 0, .val (.long (-10)), .second, iv 1] []) _ _ _
  exact szJ hx hZ hw hby hml hown hret hlk hn 18 1 rfl (Nat.le_refl _) (Or.inl rfl) X0 e0
def Pl (x : Slot) : Prop := x = .unset ∨ ∃ a : Int32, x = .val (.int a)
def Pj (x y : Slot) : Prop := (x = .unset ∧ y = .unset) ∨ ∃ a : Int64, x = .val (.long a) ∧ y = .second
theorem wrt_turn {ys : List Int8} {q pos n : Nat} (h : 100 ≤ n) (hp : pos = q + (dec n).length) (hl : pos ≤ ys.length) : wrt ((ys.set (pos - 1) (dg (n % 100 % 10))).set (pos - 1 - 1) (dg (n % 100 / 10))) q (dec (n / 100)) = wrt ys q (dec n) := by
  have e := dec_ge100 h
  have el : (dec n).length = (dec (n / 100)).length + 2 := by rw [e, List.length_append]; rfl
  have p1 : pos - 1 = q + (dec (n / 100)).length + 1 := by omega
  have p2 : pos - 1 - 1 = q + (dec (n / 100)).length := by omega
  rw [p2, p1, wrt_two _ _ (by omega), wrt_wrt (by show q + _ + 2 ≤ _; omega), ← e]
theorem w195 (hw : HW a0 Z) : (Cond.constantLong "java/lang/Long" 129 (-2147483648 : Int64)).before a0 Z = true := hwi hw 195 rfl
theorem w196 (hw : HW a0 Z) : (Cond.fieldLink "java/lang/Long" 133 "java/lang/Integer" "DigitOnes" "[B").before a0 Z = true := hwi hw 196 rfl
theorem w302 (hw : HW a0 Z) : (Cond.fieldLink "java/lang/Long" 137 "java/lang/Integer" "DigitTens" "[B").before a0 Z = true := hwi hw 302 rfl
theorem w403 (hw : HW a0 Z) : (Cond.constantLong "java/lang/Long" 131 (100 : Int64)).before a0 Z = true := hwi hw 403 rfl
theorem d18_0 : decode jdk_35_method_14_code 0 = .ok (.iload_n 2, 1) := by decide +kernel
theorem d18_1 : decode jdk_35_method_14_code 1 = .ok (.istore 7, 2) := by decide +kernel
theorem d18_3 : decode jdk_35_method_14_code 3 = .ok (.lload_n 0, 1) := by decide +kernel
theorem d18_4 : decode jdk_35_method_14_code 4 = .ok (.lconst 0, 1) := by decide +kernel
theorem d18_5 : decode jdk_35_method_14_code 5 = .ok (.lcmp, 1) := by decide +kernel
theorem d18_6 : decode jdk_35_method_14_code 6 = .ok (.ifCond .ge 7, 3) := by decide +kernel
theorem d18_13 : decode jdk_35_method_14_code 13 = .ok (.iconst 0, 1) := by decide +kernel
theorem d18_14 : decode jdk_35_method_14_code 14 = .ok (.istore 8, 2) := by decide +kernel
theorem d18_16 : decode jdk_35_method_14_code 16 = .ok (.iload 8, 2) := by decide +kernel
theorem d18_18 : decode jdk_35_method_14_code 18 = .ok (.ifCond .ne 6, 3) := by decide +kernel
theorem d18_21 : decode jdk_35_method_14_code 21 = .ok (.lload_n 0, 1) := by decide +kernel
theorem d18_22 : decode jdk_35_method_14_code 22 = .ok (.lneg, 1) := by decide +kernel
theorem d18_23 : decode jdk_35_method_14_code 23 = .ok (.lstore_n 0, 1) := by decide +kernel
theorem d18_24 : decode jdk_35_method_14_code 24 = .ok (.lload_n 0, 1) := by decide +kernel
theorem d18_25 : decode jdk_35_method_14_code 25 = .ok (.ldc2_w 129, 3) := by decide +kernel
theorem d18_28 : decode jdk_35_method_14_code 28 = .ok (.lcmp, 1) := by decide +kernel
theorem d18_29 : decode jdk_35_method_14_code 29 = .ok (.ifCond .gt 53, 3) := by decide +kernel
theorem d18_32 : decode jdk_35_method_14_code 32 = .ok (.lload_n 0, 1) := by decide +kernel
theorem d18_33 : decode jdk_35_method_14_code 33 = .ok (.ldc2_w 131, 3) := by decide +kernel
theorem d18_36 : decode jdk_35_method_14_code 36 = .ok (.ldiv, 1) := by decide +kernel
theorem d18_37 : decode jdk_35_method_14_code 37 = .ok (.lstore 4, 2) := by decide +kernel
theorem d18_39 : decode jdk_35_method_14_code 39 = .ok (.lload 4, 2) := by decide +kernel
theorem d18_41 : decode jdk_35_method_14_code 41 = .ok (.ldc2_w 131, 3) := by decide +kernel
theorem d18_44 : decode jdk_35_method_14_code 44 = .ok (.lmul, 1) := by decide +kernel
theorem d18_45 : decode jdk_35_method_14_code 45 = .ok (.lload_n 0, 1) := by decide +kernel
theorem d18_46 : decode jdk_35_method_14_code 46 = .ok (.lsub, 1) := by decide +kernel
theorem d18_47 : decode jdk_35_method_14_code 47 = .ok (.l2i, 1) := by decide +kernel
theorem d18_48 : decode jdk_35_method_14_code 48 = .ok (.istore 6, 2) := by decide +kernel
theorem d18_50 : decode jdk_35_method_14_code 50 = .ok (.lload 4, 2) := by decide +kernel
theorem d18_52 : decode jdk_35_method_14_code 52 = .ok (.lstore_n 0, 1) := by decide +kernel
theorem d18_53 : decode jdk_35_method_14_code 53 = .ok (.aload_n 3, 1) := by decide +kernel
theorem d18_54 : decode jdk_35_method_14_code 54 = .ok (.iinc 7 (-1), 3) := by decide +kernel
theorem d18_57 : decode jdk_35_method_14_code 57 = .ok (.iload 7, 2) := by decide +kernel
theorem d18_59 : decode jdk_35_method_14_code 59 = .ok (.getstatic 133, 3) := by decide +kernel
theorem d18_62 : decode jdk_35_method_14_code 62 = .ok (.iload 6, 2) := by decide +kernel
theorem d18_64 : decode jdk_35_method_14_code 64 = .ok (.baload, 1) := by decide +kernel
theorem d18_65 : decode jdk_35_method_14_code 65 = .ok (.bastore, 1) := by decide +kernel
theorem d18_66 : decode jdk_35_method_14_code 66 = .ok (.aload_n 3, 1) := by decide +kernel
theorem d18_67 : decode jdk_35_method_14_code 67 = .ok (.iinc 7 (-1), 3) := by decide +kernel
theorem d18_70 : decode jdk_35_method_14_code 70 = .ok (.iload 7, 2) := by decide +kernel
theorem d18_72 : decode jdk_35_method_14_code 72 = .ok (.getstatic 137, 3) := by decide +kernel
theorem d18_75 : decode jdk_35_method_14_code 75 = .ok (.iload 6, 2) := by decide +kernel
theorem d18_77 : decode jdk_35_method_14_code 77 = .ok (.baload, 1) := by decide +kernel
theorem d18_78 : decode jdk_35_method_14_code 78 = .ok (.bastore, 1) := by decide +kernel
theorem d18_79 : decode jdk_35_method_14_code 79 = .ok (.goto (-55), 3) := by decide +kernel
theorem d18_82 : decode jdk_35_method_14_code 82 = .ok (.lload_n 0, 1) := by decide +kernel
theorem d18_83 : decode jdk_35_method_14_code 83 = .ok (.l2i, 1) := by decide +kernel
theorem d18_84 : decode jdk_35_method_14_code 84 = .ok (.istore 10, 2) := by decide +kernel
theorem d18_86 : decode jdk_35_method_14_code 86 = .ok (.iload 10, 2) := by decide +kernel
theorem d18_88 : decode jdk_35_method_14_code 88 = .ok (.bipush (-100), 2) := by decide +kernel
theorem d18_90 : decode jdk_35_method_14_code 90 = .ok (.if_icmp .gt 53, 3) := by decide +kernel
theorem d18_93 : decode jdk_35_method_14_code 93 = .ok (.iload 10, 2) := by decide +kernel
theorem d18_95 : decode jdk_35_method_14_code 95 = .ok (.bipush 100, 2) := by decide +kernel
theorem d18_97 : decode jdk_35_method_14_code 97 = .ok (.idiv, 1) := by decide +kernel
theorem d18_98 : decode jdk_35_method_14_code 98 = .ok (.istore 9, 2) := by decide +kernel
theorem d18_100 : decode jdk_35_method_14_code 100 = .ok (.iload 9, 2) := by decide +kernel
theorem d18_102 : decode jdk_35_method_14_code 102 = .ok (.bipush 100, 2) := by decide +kernel
theorem d18_104 : decode jdk_35_method_14_code 104 = .ok (.imul, 1) := by decide +kernel
theorem d18_105 : decode jdk_35_method_14_code 105 = .ok (.iload 10, 2) := by decide +kernel
theorem d18_107 : decode jdk_35_method_14_code 107 = .ok (.isub, 1) := by decide +kernel
theorem d18_108 : decode jdk_35_method_14_code 108 = .ok (.istore 6, 2) := by decide +kernel
theorem d18_110 : decode jdk_35_method_14_code 110 = .ok (.iload 9, 2) := by decide +kernel
theorem d18_112 : decode jdk_35_method_14_code 112 = .ok (.istore 10, 2) := by decide +kernel
theorem d18_114 : decode jdk_35_method_14_code 114 = .ok (.aload_n 3, 1) := by decide +kernel
theorem d18_115 : decode jdk_35_method_14_code 115 = .ok (.iinc 7 (-1), 3) := by decide +kernel
theorem d18_118 : decode jdk_35_method_14_code 118 = .ok (.iload 7, 2) := by decide +kernel
theorem d18_120 : decode jdk_35_method_14_code 120 = .ok (.getstatic 133, 3) := by decide +kernel
theorem d18_123 : decode jdk_35_method_14_code 123 = .ok (.iload 6, 2) := by decide +kernel
theorem d18_125 : decode jdk_35_method_14_code 125 = .ok (.baload, 1) := by decide +kernel
theorem d18_126 : decode jdk_35_method_14_code 126 = .ok (.bastore, 1) := by decide +kernel
theorem d18_127 : decode jdk_35_method_14_code 127 = .ok (.aload_n 3, 1) := by decide +kernel
theorem d18_128 : decode jdk_35_method_14_code 128 = .ok (.iinc 7 (-1), 3) := by decide +kernel
theorem d18_131 : decode jdk_35_method_14_code 131 = .ok (.iload 7, 2) := by decide +kernel
theorem d18_133 : decode jdk_35_method_14_code 133 = .ok (.getstatic 137, 3) := by decide +kernel
theorem d18_136 : decode jdk_35_method_14_code 136 = .ok (.iload 6, 2) := by decide +kernel
theorem d18_138 : decode jdk_35_method_14_code 138 = .ok (.baload, 1) := by decide +kernel
theorem d18_139 : decode jdk_35_method_14_code 139 = .ok (.bastore, 1) := by decide +kernel
theorem d18_140 : decode jdk_35_method_14_code 140 = .ok (.goto (-54), 3) := by decide +kernel
theorem d18_143 : decode jdk_35_method_14_code 143 = .ok (.aload_n 3, 1) := by decide +kernel
theorem d18_144 : decode jdk_35_method_14_code 144 = .ok (.iinc 7 (-1), 3) := by decide +kernel
theorem d18_147 : decode jdk_35_method_14_code 147 = .ok (.iload 7, 2) := by decide +kernel
theorem d18_149 : decode jdk_35_method_14_code 149 = .ok (.getstatic 133, 3) := by decide +kernel
theorem d18_152 : decode jdk_35_method_14_code 152 = .ok (.iload 10, 2) := by decide +kernel
theorem d18_154 : decode jdk_35_method_14_code 154 = .ok (.ineg, 1) := by decide +kernel
theorem d18_155 : decode jdk_35_method_14_code 155 = .ok (.baload, 1) := by decide +kernel
theorem d18_156 : decode jdk_35_method_14_code 156 = .ok (.bastore, 1) := by decide +kernel
theorem d18_157 : decode jdk_35_method_14_code 157 = .ok (.iload 10, 2) := by decide +kernel
theorem d18_159 : decode jdk_35_method_14_code 159 = .ok (.bipush (-9), 2) := by decide +kernel
theorem d18_161 : decode jdk_35_method_14_code 161 = .ok (.if_icmp .ge 17, 3) := by decide +kernel
theorem d18_164 : decode jdk_35_method_14_code 164 = .ok (.aload_n 3, 1) := by decide +kernel
theorem d18_165 : decode jdk_35_method_14_code 165 = .ok (.iinc 7 (-1), 3) := by decide +kernel
theorem d18_168 : decode jdk_35_method_14_code 168 = .ok (.iload 7, 2) := by decide +kernel
theorem d18_170 : decode jdk_35_method_14_code 170 = .ok (.getstatic 137, 3) := by decide +kernel
theorem d18_173 : decode jdk_35_method_14_code 173 = .ok (.iload 10, 2) := by decide +kernel
theorem d18_175 : decode jdk_35_method_14_code 175 = .ok (.ineg, 1) := by decide +kernel
theorem d18_176 : decode jdk_35_method_14_code 176 = .ok (.baload, 1) := by decide +kernel
theorem d18_177 : decode jdk_35_method_14_code 177 = .ok (.bastore, 1) := by decide +kernel
theorem d18_178 : decode jdk_35_method_14_code 178 = .ok (.iload 8, 2) := by decide +kernel
theorem d18_180 : decode jdk_35_method_14_code 180 = .ok (.ifCond .eq 12, 3) := by decide +kernel
theorem d18_192 : decode jdk_35_method_14_code 192 = .ok (.iload 7, 2) := by decide +kernel
theorem d18_194 : decode jdk_35_method_14_code 194 = .ok (.ireturn, 1) := by decide +kernel
theorem gcJ2 {p : Program} {l : Launch} {e : Env} {R : Room} {s : State} {m : MethodId} {args : Array Value} {below : List Frame} {meth : Method} {c : Code} {Z : State} {a0 : Array Value} {h0 : Heap} {n0 q cs_ ss_ : Nat} {b : Addr} {cs : Int32} {d1 d2 : Addr} {o1 o2 : List Int8}
    (hx : p.tables.exec = Jvm.exec) (hZ : Z.Warmed39 s.vm) (hw : HW a0 Z) (hby : c.code = jdk_35_method_14_code) (hml : c.maxLocals = 11) (hown : s.vm.findClass "java/lang/Long" = some m.cls) (hret : meth.sig.returnType = (some .int)) (hlk : meth.locks = false) (C : Ctx Z cs d1 d2 o1 o2) (g_b : n0 ≤ b) (ix : Int32) :
    ∀ (n : Nat) {T0 : State} {locs : List Loc} {h : Heap} {ys : List Int8} {pos : Nat} {y0 : Int64} {x4 x5 x6 x9 : Slot}, n < 2147483648 → Pl x6 → Pl x9 → pos = q + (dec n).length → pos ≤ ys.length → ys.length < 10000000 → Stand p l e R s m args below meth c T0 locs 0 0 → T0.heap = h → zOd Z n0 h → Keep h0 h [b] → Fr n0 locs → zBt Z h b ys →
      zEnds p e below s T0 (mkF m 86 #[.val (.long y0), .second, iv ix, rv b, x4, x5, x6, iv (Int32.ofNat (pos)), iv 0, x9, iv (SBG.negI (n))] []) cs_ ss_ (fun v h L => v = some (.int (Int32.ofNat (q))) ∧ Fr n0 L ∧ Keep h0 h [b] ∧ zBt Z h b (wrt ys q (dec n))) := by
  obtain ⟨S_cs, hcs, S_d1, B_d1, H_d1, S_d2, B_d2, H_d2⟩ := id C
  intro n
  induction n using Nat.strongRecOn with
  | ind n ih =>
    intro T0 locs h ys pos y0 x4 x5 x6 x9 hn hx6 hx9 hp hl hy X0 e0 O0 K0 N0 A_b
    show zEnds p e below s T0 (mkF m 86 #[.val (.long y0), .second, iv ix, rv b, x4, x5, x6, iv (Int32.ofNat (pos)), iv 0, x9, iv (SBG.negI (n))] []) _ _ _
    refine ziload X0 hx hby d18_86 rfl (zbipush X0 hx hby d18_88 (z := (-100 : Int32)) rfl ?_)
    show zEnds p e below s T0 (mkF m 90 #[.val (.long y0), .second, iv ix, rv b, x4, x5, x6, iv (Int32.ofNat (pos)), iv 0, x9, iv (SBG.negI (n))] [(.int (-100)), (.int (SBG.negI (n)))]) _ _ _
    by_cases hh : n < 100
    · have h1 := dec_len_pos n
      refine zicmpYes X0 hx hby d18_90 143 (tlt (show (-100 : Int32) < (SBG.negI (n)) from by rw [show (-100 : Int32) = SBG.negI 100 from by decide, SBG.negI_lt (by omega) _ (by omega)]; omega)).2.2.1 (by decide) (by decide) (zaloadN X0 hx hby d18_143 rfl rfl (ziinc X0 hx hby d18_144 (L' := #[.val (.long y0), .second, iv ix, rv b, x4, x5, x6, iv (Int32.ofNat (pos - 1)), iv 0, x9, iv (SBG.negI (n))]) rfl (by rw [dec1 (by omega)]; rfl) (ziload X0 hx hby d18_147 rfl (zgetstat X0 hx hby d18_149 hZ hown (host := "") (Or.inl (w196 hw)) Via.refl e0 (S_d1.ext O0.2.2) fun T1 X1 e1 => (ziload X1 hx hby d18_152 rfl (zineg X1 hx hby d18_154 (Int32.ofNat (n)) (SBG.neg_negI (by omega)) (zbaloadB X1 hx hby d18_155 hZ e1 (B_d1.ext O0.2.2) (i := n) (by omega) (b := (dg (n % 10))) (H_d1 (n) (by omega)) (zbastoreB X1 hx hby d18_156 hZ e1 A_b (i := pos - 1) (by omega) (by first | omega | decide | (simp only [List.length_set]; omega)) _ (dg (n % 10)) (nar_b _) fun T2 h2 X2 e2 W2 A2_b => ?_))))))))
      have O2 := O0.wr W2 g_b
      have K2 := Keep.wr K0 W2 (Or.inl (List.mem_of_getElem? (i := 0) rfl))
      have N2 := Fr.snoc X2 N0 g_b
      refine ziload X2 hx hby d18_157 rfl (zbipush X2 hx hby d18_159 (z := (-9 : Int32)) rfl ?_)
      show zEnds p e below s T2 (mkF m 161 #[.val (.long y0), .second, iv ix, rv b, x4, x5, x6, iv (Int32.ofNat (pos - 1)), iv 0, x9, iv (SBG.negI (n))] [(.int (-9)), (.int (SBG.negI (n)))]) _ _ _
      by_cases h9 : 9 < n
      · have hd := congrArg List.length (dec_two h9 hh)
        simp only [List.length_cons, List.length_nil] at hd
        refine zicmpNo X2 hx hby d18_161 (tlt (show (SBG.negI (n)) < (-9 : Int32) from by rw [show (-9 : Int32) = SBG.negI 9 from by decide, SBG.negI_lt (by omega) _ (by omega)]; omega)).2.1 (zaloadN X2 hx hby d18_164 rfl rfl (ziinc X2 hx hby d18_165 (L' := #[.val (.long y0), .second, iv ix, rv b, x4, x5, x6, iv (Int32.ofNat (pos - 1 - 1)), iv 0, x9, iv (SBG.negI (n))]) rfl (by rw [dec1 (by omega)]; rfl) (ziload X2 hx hby d18_168 rfl (zgetstat X2 hx hby d18_170 hZ hown (host := "") (Or.inl (w302 hw)) Via.refl e2 (S_d2.ext O2.2.2) fun T3 X3 e3 => (ziload X3 hx hby d18_173 rfl (zineg X3 hx hby d18_175 (Int32.ofNat (n)) (SBG.neg_negI (by omega)) (zbaloadB X3 hx hby d18_176 hZ e3 (B_d2.ext O2.2.2) (i := n) (by omega) (b := (dg (n / 10))) (H_d2 (n) (by omega)) (zbastoreB X3 hx hby d18_177 hZ e3 A2_b (i := pos - 1 - 1) (by omega) (by first | omega | decide | (simp only [List.length_set]; omega)) _ (dg (n / 10)) (nar_b _) fun T4 h4 X4 e4 W4 A4_b => ?_))))))))
        have K4 := Keep.wr K2 W4 (Or.inl (List.mem_of_getElem? (i := 0) rfl))
        have N4 := Fr.snoc X4 N2 g_b
        refine ziload X4 hx hby d18_178 rfl (zifYes X4 hx hby d18_180 192 (by decide) (by decide) (by decide) (ziload X4 hx hby d18_192 rfl ?_))
        show zEnds p e below s T4 (mkF m 194 #[.val (.long y0), .second, iv ix, rv b, x4, x5, x6, iv (Int32.ofNat (pos - 1 - 1)), iv 0, x9, iv (SBG.negI (n))] [(.int (Int32.ofNat (pos - 1 - 1)))]) _ _ _
        exact zretI X4 hx hby d18_194 hret hlk (by first | decide | omega | (dsimp only; omega)) (by first | decide | omega | (dsimp only; omega)) (by rw [e4]; exact ⟨by rw [show pos - 1 - 1 = q from by omega], N4, K4, by have r := A4_b; rw [show pos - 1 - 1 = q from by omega, show pos - 1 = q + 1 from by omega, wrt_two _ _ (by omega), ← dec_two h9 hh] at r; exact r⟩)
      · have hd := congrArg List.length (dec_lt (n := n) (by omega))
        simp only [List.length_cons, List.length_nil] at hd
        refine zicmpYes X2 hx hby d18_161 178 (flt (show ¬ ((SBG.negI (n)) < (-9 : Int32)) from by rw [show (-9 : Int32) = SBG.negI 9 from by decide, SBG.negI_lt (by omega) _ (by omega)]; omega)).2.1 (by decide) (by decide) (ziload X2 hx hby d18_178 rfl (zifYes X2 hx hby d18_180 192 (by decide) (by decide) (by decide) (ziload X2 hx hby d18_192 rfl ?_)))
        show zEnds p e below s T2 (mkF m 194 #[.val (.long y0), .second, iv ix, rv b, x4, x5, x6, iv (Int32.ofNat (pos - 1)), iv 0, x9, iv (SBG.negI (n))] [(.int (Int32.ofNat (pos - 1)))]) _ _ _
        exact zretI X2 hx hby d18_194 hret hlk (by first | decide | omega | (dsimp only; omega)) (by first | decide | omega | (dsimp only; omega)) (by rw [e2]; exact ⟨by rw [show pos - 1 = q from by omega], N2, K2, by have r := A2_b; rw [show pos - 1 = q from by omega, wrt_one _ (by omega), Nat.mod_eq_of_lt (by omega), ← dec_lt (by omega)] at r; exact r⟩)
    · have h1 := dec_len_pos (n / 100)
      have h2 : (dec n).length = (dec (n / 100)).length + 2 := by rw [dec_ge100 (by omega), List.length_append]; rfl
      refine zicmpNo X0 hx hby d18_90 (flt (show ¬ ((-100 : Int32) < (SBG.negI (n))) from by rw [show (-100 : Int32) = SBG.negI 100 from by decide, SBG.negI_lt (by omega) _ (by omega)]; omega)).2.2.1 (ziload X0 hx hby d18_93 rfl (zbipush X0 hx hby d18_95 (z := (100 : Int32)) rfl (zidiv X0 hx hby d18_97 (SBG.negI (n / 100)) (by decide) (SBG.negI_div100 (by omega)) (zistore X0 hx hby d18_98 (L' := #[.val (.long y0), .second, iv ix, rv b, x4, x5, x6, iv (Int32.ofNat (pos)), iv 0, iv (SBG.negI (n / 100)), iv (SBG.negI (n))]) (by rcases hx9 with rfl | ⟨_, rfl⟩ <;> rfl) (ziload X0 hx hby d18_100 rfl (zbipush X0 hx hby d18_102 (z := (100 : Int32)) rfl (zimul X0 hx hby d18_104 ((SBG.negI (n / 100)) * (100 : Int32)) rfl (ziload X0 hx hby d18_105 rfl (zisub X0 hx hby d18_107 (Int32.ofNat (n % 100)) (SBG.negI_rem (by omega)) ?_)))))))))
      show zEnds p e below s T0 (mkF m 108 #[.val (.long y0), .second, iv ix, rv b, x4, x5, x6, iv (Int32.ofNat (pos)), iv 0, iv (SBG.negI (n / 100)), iv (SBG.negI (n))] [(.int (Int32.ofNat (n % 100)))]) _ _ _
      refine zistore X0 hx hby d18_108 (L' := #[.val (.long y0), .second, iv ix, rv b, x4, x5, iv (Int32.ofNat (n % 100)), iv (Int32.ofNat (pos)), iv 0, iv (SBG.negI (n / 100)), iv (SBG.negI (n))]) (by rcases hx6 with rfl | ⟨_, rfl⟩ <;> rfl) (ziload X0 hx hby d18_110 rfl (zistore X0 hx hby d18_112 (L' := #[.val (.long y0), .second, iv ix, rv b, x4, x5, iv (Int32.ofNat (n % 100)), iv (Int32.ofNat (pos)), iv 0, iv (SBG.negI (n / 100)), iv (SBG.negI (n / 100))]) rfl (zaloadN X0 hx hby d18_114 rfl rfl (ziinc X0 hx hby d18_115 (L' := #[.val (.long y0), .second, iv ix, rv b, x4, x5, iv (Int32.ofNat (n % 100)), iv (Int32.ofNat (pos - 1)), iv 0, iv (SBG.negI (n / 100)), iv (SBG.negI (n / 100))]) rfl (by rw [dec1 (by omega)]; rfl) (ziload X0 hx hby d18_118 rfl (zgetstat X0 hx hby d18_120 hZ hown (host := "") (Or.inl (w196 hw)) Via.refl e0 (S_d1.ext O0.2.2) fun T5 X5 e5 => (ziload X5 hx hby d18_123 rfl (zbaloadB X5 hx hby d18_125 hZ e5 (B_d1.ext O0.2.2) (i := n % 100) (by omega) (b := (dg ((n % 100) % 10))) (H_d1 (n % 100) (by omega)) (zbastoreB X5 hx hby d18_126 hZ e5 A_b (i := pos - 1) (by omega) (by first | omega | decide | (simp only [List.length_set]; omega)) _ (dg ((n % 100) % 10)) (nar_b _) fun T6 h6 X6 e6 W6 A6_b => ?_)))))))))
      have O6 := O0.wr W6 g_b
      have K6 := Keep.wr K0 W6 (Or.inl (List.mem_of_getElem? (i := 0) rfl))
      have N6 := Fr.snoc X6 N0 g_b
      refine zaloadN X6 hx hby d18_127 rfl rfl (ziinc X6 hx hby d18_128 (L' := #[.val (.long y0), .second, iv ix, rv b, x4, x5, iv (Int32.ofNat (n % 100)), iv (Int32.ofNat (pos - 1 - 1)), iv 0, iv (SBG.negI (n / 100)), iv (SBG.negI (n / 100))]) rfl (by rw [dec1 (by omega)]; rfl) (ziload X6 hx hby d18_131 rfl (zgetstat X6 hx hby d18_133 hZ hown (host := "") (Or.inl (w302 hw)) Via.refl e6 (S_d2.ext O6.2.2) fun T7 X7 e7 => (ziload X7 hx hby d18_136 rfl (zbaloadB X7 hx hby d18_138 hZ e7 (B_d2.ext O6.2.2) (i := n % 100) (by omega) (b := (dg ((n % 100) / 10))) (H_d2 (n % 100) (by omega)) (zbastoreB X7 hx hby d18_139 hZ e7 A6_b (i := pos - 1 - 1) (by omega) (by first | omega | decide | (simp only [List.length_set]; omega)) _ (dg ((n % 100) / 10)) (nar_b _) fun T8 h8 X8 e8 W8 A8_b => ?_))))))
      have O8 := O6.wr W8 g_b
      have K8 := Keep.wr K6 W8 (Or.inl (List.mem_of_getElem? (i := 0) rfl))
      have N8 := Fr.snoc X8 N6 g_b
      refine zgoto X8 hx hby d18_140 86 (by decide) (by decide) ?_
      show zEnds p e below s T8 (mkF m 86 #[.val (.long y0), .second, iv ix, rv b, x4, x5, iv (Int32.ofNat (n % 100)), iv (Int32.ofNat (pos - 1 - 1)), iv 0, iv (SBG.negI (n / 100)), iv (SBG.negI (n / 100))] []) _ _ _
      rw [← wrt_turn (by omega) hp hl]
      exact ih (n / 100) (by omega) (pos := pos - 1 - 1) (by omega) (Or.inr ⟨_, rfl⟩) (Or.inr ⟨_, rfl⟩) (by omega) (by simp only [List.length_set]; omega) (by simp only [List.length_set]; omega) X8 e8 O8 K8 N8 A8_b
theorem gcJ1 {p : Program} {l : Launch} {e : Env} {R : Room} {s : State} {m : MethodId} {args : Array Value} {below : List Frame} {meth : Method} {c : Code} {Z : State} {a0 : Array Value} {h0 : Heap} {n0 q cs_ ss_ : Nat} {b : Addr} {cs : Int32} {d1 d2 : Addr} {o1 o2 : List Int8}
    (hx : p.tables.exec = Jvm.exec) (hZ : Z.Warmed39 s.vm) (hw : HW a0 Z) (hby : c.code = jdk_35_method_14_code) (hml : c.maxLocals = 11) (hown : s.vm.findClass "java/lang/Long" = some m.cls) (hret : meth.sig.returnType = (some .int)) (hlk : meth.locks = false) (C : Ctx Z cs d1 d2 o1 o2) (g_b : n0 ≤ b) (ix : Int32) :
    ∀ (n : Nat) {T0 : State} {locs : List Loc} {h : Heap} {ys : List Int8} {pos : Nat} {x4 x5 x6 : Slot}, n < 9223372036854775808 → Pj x4 x5 → Pl x6 → pos = q + (dec n).length → pos ≤ ys.length → ys.length < 10000000 → Stand p l e R s m args below meth c T0 locs 0 0 → T0.heap = h → zOd Z n0 h → Keep h0 h [b] → Fr n0 locs → zBt Z h b ys →
      zEnds p e below s T0 (mkF m 24 #[.val (.long (SBG.negL (n))), .second, iv ix, rv b, x4, x5, x6, iv (Int32.ofNat (pos)), iv 0, .unset, .unset] []) cs_ ss_ (fun v h L => v = some (.int (Int32.ofNat (q))) ∧ Fr n0 L ∧ Keep h0 h [b] ∧ zBt Z h b (wrt ys q (dec n))) := by
  obtain ⟨S_cs, hcs, S_d1, B_d1, H_d1, S_d2, B_d2, H_d2⟩ := id C
  intro n
  induction n using Nat.strongRecOn with
  | ind n ih =>
    intro T0 locs h ys pos x4 x5 x6 hn hx4 hx6 hp hl hy X0 e0 O0 K0 N0 A_b
    show zEnds p e below s T0 (mkF m 24 #[.val (.long (SBG.negL (n))), .second, iv ix, rv b, x4, x5, x6, iv (Int32.ofNat (pos)), iv 0, .unset, .unset] []) _ _ _
    refine zlloadN X0 hx hby d18_24 rfl (zldc2J X0 hx hby d18_25 (-2147483648 : Int64) hZ hown (w195 hw) (zlcmp X0 hx hby d18_28 (lcmpW (SBG.negL (n)) (-2147483648 : Int64)) rfl ?_))
    show zEnds p e below s T0 (mkF m 29 #[.val (.long (SBG.negL (n))), .second, iv ix, rv b, x4, x5, x6, iv (Int32.ofNat (pos)), iv 0, .unset, .unset] [(.int (lcmpW (SBG.negL (n)) (-2147483648 : Int64)))]) _ _ _
    by_cases hh : n < 2147483648
    · skip
      refine zifYes X0 hx hby d18_29 82 ((if0 _ _).trans (tlt (show (0 : Int32) < (lcmpW (SBG.negL (n)) (-2147483648 : Int64)) from by rw [lcmp_pos, show (-2147483648 : Int64) = SBG.negL 2147483648 from by decide, SBG.negL_lt (by omega) _ (by omega)]; omega)).2.2.1) (by decide) (by decide) (zlloadN X0 hx hby d18_82 rfl (zl2i X0 hx hby d18_83 (SBG.negI (n)) (SBG.negL_toInt32 (by omega)) (zistore X0 hx hby d18_84 (L' := #[.val (.long (SBG.negL (n))), .second, iv ix, rv b, x4, x5, x6, iv (Int32.ofNat (pos)), iv 0, .unset, iv (SBG.negI (n))]) rfl ?_)))
      show zEnds p e below s T0 (mkF m 86 #[.val (.long (SBG.negL (n))), .second, iv ix, rv b, x4, x5, x6, iv (Int32.ofNat (pos)), iv 0, .unset, iv (SBG.negI (n))] []) _ _ _
      exact gcJ2 hx hZ hw hby hml hown hret hlk C g_b _ n hh hx6 (Or.inl rfl) hp hl hy X0 e0 O0 K0 N0 A_b
    · have h1 := dec_len_pos (n / 100)
      have h2 : (dec n).length = (dec (n / 100)).length + 2 := by rw [dec_ge100 (by omega), List.length_append]; rfl
      refine zifNo X0 hx hby d18_29 ((if0 _ _).trans (flt (show ¬ ((0 : Int32) < (lcmpW (SBG.negL (n)) (-2147483648 : Int64))) from by rw [lcmp_pos, show (-2147483648 : Int64) = SBG.negL 2147483648 from by decide, SBG.negL_lt (by omega) _ (by omega)]; omega)).2.2.1) (zlloadN X0 hx hby d18_32 rfl (zldc2J X0 hx hby d18_33 (100 : Int64) hZ hown (w403 hw) (zldiv X0 hx hby d18_36 (SBG.negL (n / 100)) (by decide) (SBG.negL_div100 (by omega)) (zlstore X0 hx hby d18_37 (L' := #[.val (.long (SBG.negL (n))), .second, iv ix, rv b, .val (.long (SBG.negL (n / 100))), .second, x6, iv (Int32.ofNat (pos)), iv 0, .unset, .unset]) (by rcases hx4 with ⟨rfl, rfl⟩ | ⟨_, rfl, rfl⟩ <;> rfl) (zlload X0 hx hby d18_39 rfl (zldc2J X0 hx hby d18_41 (100 : Int64) hZ hown (w403 hw) (zlmul X0 hx hby d18_44 ((SBG.negL (n / 100)) * (100 : Int64)) rfl (zlloadN X0 hx hby d18_45 rfl (zlsub X0 hx hby d18_46 (((SBG.negL (n / 100)) * (100 : Int64)) - (SBG.negL (n))) rfl ?_)))))))))
      show zEnds p e below s T0 (mkF m 47 #[.val (.long (SBG.negL (n))), .second, iv ix, rv b, .val (.long (SBG.negL (n / 100))), .second, x6, iv (Int32.ofNat (pos)), iv 0, .unset, .unset] [(.long (((SBG.negL (n / 100)) * (100 : Int64)) - (SBG.negL (n))))]) _ _ _
      refine zl2i X0 hx hby d18_47 (Int32.ofNat (n % 100)) (SBG.negL_rem (by omega)) (zistore X0 hx hby d18_48 (L' := #[.val (.long (SBG.negL (n))), .second, iv ix, rv b, .val (.long (SBG.negL (n / 100))), .second, iv (Int32.ofNat (n % 100)), iv (Int32.ofNat (pos)), iv 0, .unset, .unset]) (by rcases hx6 with rfl | ⟨_, rfl⟩ <;> rfl) (zlload X0 hx hby d18_50 rfl (zlstoreN X0 hx hby d18_52 (L' := #[.val (.long (SBG.negL (n / 100))), .second, iv ix, rv b, .val (.long (SBG.negL (n / 100))), .second, iv (Int32.ofNat (n % 100)), iv (Int32.ofNat (pos)), iv 0, .unset, .unset]) rfl (zaloadN X0 hx hby d18_53 rfl rfl (ziinc X0 hx hby d18_54 (L' := #[.val (.long (SBG.negL (n / 100))), .second, iv ix, rv b, .val (.long (SBG.negL (n / 100))), .second, iv (Int32.ofNat (n % 100)), iv (Int32.ofNat (pos - 1)), iv 0, .unset, .unset]) rfl (by rw [dec1 (by omega)]; rfl) (ziload X0 hx hby d18_57 rfl (zgetstat X0 hx hby d18_59 hZ hown (host := "") (Or.inl (w196 hw)) Via.refl e0 (S_d1.ext O0.2.2) fun T1 X1 e1 => (ziload X1 hx hby d18_62 rfl (zbaloadB X1 hx hby d18_64 hZ e1 (B_d1.ext O0.2.2) (i := n % 100) (by omega) (b := (dg ((n % 100) % 10))) (H_d1 (n % 100) (by omega)) ?_)))))))))
      show zEnds p e below s T1 (mkF m 65 #[.val (.long (SBG.negL (n / 100))), .second, iv ix, rv b, .val (.long (SBG.negL (n / 100))), .second, iv (Int32.ofNat (n % 100)), iv (Int32.ofNat (pos - 1)), iv 0, .unset, .unset] [(.int ((dg ((n % 100) % 10)).toInt32)), (.int (Int32.ofNat (pos - 1))), (.ref b)]) _ _ _
      refine zbastoreB X1 hx hby d18_65 hZ e1 A_b (i := pos - 1) (by omega) (by first | omega | decide | (simp only [List.length_set]; omega)) _ (dg ((n % 100) % 10)) (nar_b _) fun T2 h2 X2 e2 W2 A2_b => ?_
      have O2 := O0.wr W2 g_b
      have K2 := Keep.wr K0 W2 (Or.inl (List.mem_of_getElem? (i := 0) rfl))
      have N2 := Fr.snoc X2 N0 g_b
      refine zaloadN X2 hx hby d18_66 rfl rfl (ziinc X2 hx hby d18_67 (L' := #[.val (.long (SBG.negL (n / 100))), .second, iv ix, rv b, .val (.long (SBG.negL (n / 100))), .second, iv (Int32.ofNat (n % 100)), iv (Int32.ofNat (pos - 1 - 1)), iv 0, .unset, .unset]) rfl (by rw [dec1 (by omega)]; rfl) (ziload X2 hx hby d18_70 rfl (zgetstat X2 hx hby d18_72 hZ hown (host := "") (Or.inl (w302 hw)) Via.refl e2 (S_d2.ext O2.2.2) fun T3 X3 e3 => (ziload X3 hx hby d18_75 rfl (zbaloadB X3 hx hby d18_77 hZ e3 (B_d2.ext O2.2.2) (i := n % 100) (by omega) (b := (dg ((n % 100) / 10))) (H_d2 (n % 100) (by omega)) (zbastoreB X3 hx hby d18_78 hZ e3 A2_b (i := pos - 1 - 1) (by omega) (by first | omega | decide | (simp only [List.length_set]; omega)) _ (dg ((n % 100) / 10)) (nar_b _) fun T4 h4 X4 e4 W4 A4_b => ?_))))))
      have O4 := O2.wr W4 g_b
      have K4 := Keep.wr K2 W4 (Or.inl (List.mem_of_getElem? (i := 0) rfl))
      have N4 := Fr.snoc X4 N2 g_b
      refine zgoto X4 hx hby d18_79 24 (by decide) (by decide) ?_
      show zEnds p e below s T4 (mkF m 24 #[.val (.long (SBG.negL (n / 100))), .second, iv ix, rv b, .val (.long (SBG.negL (n / 100))), .second, iv (Int32.ofNat (n % 100)), iv (Int32.ofNat (pos - 1 - 1)), iv 0, .unset, .unset] []) _ _ _
      rw [← wrt_turn (by omega) hp hl]
      exact ih (n / 100) (by omega) (pos := pos - 1 - 1) (by omega) (Or.inr ⟨_, rfl, rfl⟩) (Or.inr ⟨_, rfl⟩) (by omega) (by simp only [List.length_set]; omega) (by simp only [List.length_set]; omega) X4 e4 O4 K4 N4 A4_b
theorem c_charsJ (hw : HW a0 Z) (C : Ctx Z cs d1 d2 o1 o2) (O0 : zOd Z n0 h0) (b : Addr) (ys : List Int8) (A_b : zBt Z h0 b ys) (g_b : n0 ≤ b) (n q : Nat) (hn : n < 9223372036854775808) (hl : q + (dec n).length ≤ ys.length) (hy : ys.length < 10000000) : zCon l Z (⟨"java/lang/Long", "getChars", "(JI[B)I"⟩ : MethodName) jdk_35_method_14_code 11 (some .int) [] ({ frames := 0, cells := 0, slots := 0, locals := 0 } : Room) #[(.long (Int64.ofNat (n))), (.int (Int32.ofNat (q + (dec n).length))), (.ref b)] h0 (fun v h L => v = some (.int (Int32.ofNat (q))) ∧ Fr n0 L ∧ Keep h0 h [b] ∧ zBt Z h b (wrt ys q (dec n))) := by
  refine zenter (plainFor_of_name pn_5) (L0 := #[.val (.long (Int64.ofNat (n))), .second, iv (Int32.ofNat (q + (dec n).length)), rv b, .unset, .unset, .unset, .unset, .unset, .unset, .unset]) (H := ?_)
  intro p e s m below meth c T0 hx hZ hby hml hown0 hnm hret hlk X0 e0
  have hown : s.vm.findClass "java/lang/Long" = some m.cls := hown0
  have K0 := Keep.refl h0 [b]
  have N0 := Fr.nil n0
  show zEnds p e below s T0 (mkF m 0 #[.val (.long (Int64.ofNat (n))), .second, iv (Int32.ofNat (q + (dec n).length)), rv b, .unset, .unset, .unset, .unset, .unset, .unset, .unset] []) _ _ _
  refine ziloadN X0 hx hby d18_0 rfl (zistore X0 hx hby d18_1 (L' := #[.val (.long (Int64.ofNat (n))), .second, iv (Int32.ofNat (q + (dec n).length)), rv b, .unset, .unset, .unset, iv (Int32.ofNat (q + (dec n).length)), .unset, .unset, .unset]) rfl (zlloadN X0 hx hby d18_3 rfl (zlconst X0 hx hby d18_4 (z := (0 : Int64)) rfl (zlcmp X0 hx hby d18_5 (lcmpW (Int64.ofNat (n)) (0 : Int64)) rfl (zifYes X0 hx hby d18_6 13 ((if0 _ _).trans (flt (show ¬ ((lcmpW (Int64.ofNat (n)) (0 : Int64)) < (0 : Int32)) from by rw [lcmp_neg]; exact ofL_nn (by omega))).2.1) (by decide) (by decide) (ziconst X0 hx hby d18_13 (z := (0 : Int32)) rfl (zistore X0 hx hby d18_14 (L' := #[.val (.long (Int64.ofNat (n))), .second, iv (Int32.ofNat (q + (dec n).length)), rv b, .unset, .unset, .unset, iv (Int32.ofNat (q + (dec n).length)), iv 0, .unset, .unset]) rfl (ziload X0 hx hby d18_16 rfl (zifNo X0 hx hby d18_18 (by decide) ?_)))))))))
  show zEnds p e below s T0 (mkF m 21 #[.val (.long (Int64.ofNat (n))), .second, iv (Int32.ofNat (q + (dec n).length)), rv b, .unset, .unset, .unset, iv (Int32.ofNat (q + (dec n).length)), iv 0, .unset, .unset] []) _ _ _
  refine zlloadN X0 hx hby d18_21 rfl (zlneg X0 hx hby d18_22 (SBG.negL (n)) (negL_ofN _) (zlstoreN X0 hx hby d18_23 (L' := #[.val (.long (SBG.negL (n))), .second, iv (Int32.ofNat (q + (dec n).length)), rv b, .unset, .unset, .unset, iv (Int32.ofNat (q + (dec n).length)), iv 0, .unset, .unset]) rfl ?_))
  show zEnds p e below s T0 (mkF m 24 #[.val (.long (SBG.negL (n))), .second, iv (Int32.ofNat (q + (dec n).length)), rv b, .unset, .unset, .unset, iv (Int32.ofNat (q + (dec n).length)), iv 0, .unset, .unset] []) _ _ _
  exact gcJ1 hx hZ hw hby hml hown hret hlk C g_b _ n hn (Or.inl ⟨rfl, rfl⟩) (Or.inl rfl) rfl hl hy X0 e0 O0 K0 N0 A_b
theorem w178 (hw : HW a0 Z) : (Cond.methodLink "java/lang/StringBuilder" 56 ⟨"java/lang/AbstractStringBuilder", "append", "(J)Ljava/lang/AbstractStringBuilder;"⟩).before a0 Z = true := hwi hw 178 rfl
theorem w179 (hw : HW a0 Z) : (Cond.instanceMethod ⟨"java/lang/AbstractStringBuilder", "append", "(J)Ljava/lang/AbstractStringBuilder;"⟩).before a0 Z = true := hwi hw 179 rfl
theorem w181 (hw : HW a0 Z) : (Cond.code ⟨"java/lang/AbstractStringBuilder", "append", "(J)Ljava/lang/AbstractStringBuilder;"⟩ jdk_68_method_33_code 5 (Option.some (FieldType.object "java/lang/AbstractStringBuilder"))).before a0 Z = true := hwi hw 181 rfl
theorem w182 (hw : HW a0 Z) : (Cond.methodLink "java/lang/AbstractStringBuilder" 254 ⟨"java/lang/Long", "stringSize", "(J)I"⟩).before a0 Z = true := hwi hw 182 rfl
theorem w183 (hw : HW a0 Z) : (Cond.static ⟨"java/lang/Long", "stringSize", "(J)I"⟩).before a0 Z = true := hwi hw 183 rfl
theorem w184 (hw : HW a0 Z) : (Cond.initialized "java/lang/Long").before a0 Z = true := hwi hw 184 rfl
theorem w185 (hw : HW a0 Z) : (Cond.code ⟨"java/lang/Long", "stringSize", "(J)I"⟩ jdk_35_method_15_code 6 (Option.some FieldType.int)).before a0 Z = true := hwi hw 185 rfl
theorem w187 (hw : HW a0 Z) : (Cond.methodLink "java/lang/AbstractStringBuilder" 83 ⟨"java/lang/AbstractStringBuilder", "isLatin1", "()Z"⟩).before a0 Z = true := hwi hw 187 rfl
theorem w188 (hw : HW a0 Z) : (Cond.declares ⟨"java/lang/AbstractStringBuilder", "isLatin1", "()Z"⟩).before a0 Z = true := hwi hw 188 rfl
theorem w191 (hw : HW a0 Z) : (Cond.code ⟨"java/lang/AbstractStringBuilder", "isLatin1", "()Z"⟩ jdk_68_method_68_code 1 (Option.some FieldType.boolean)).before a0 Z = true := hwi hw 191 rfl
theorem w192 (hw : HW a0 Z) : (Cond.methodLink "java/lang/AbstractStringBuilder" 259 ⟨"java/lang/Long", "getChars", "(JI[B)I"⟩).before a0 Z = true := hwi hw 192 rfl
theorem w193 (hw : HW a0 Z) : (Cond.static ⟨"java/lang/Long", "getChars", "(JI[B)I"⟩).before a0 Z = true := hwi hw 193 rfl
theorem w194 (hw : HW a0 Z) : (Cond.code ⟨"java/lang/Long", "getChars", "(JI[B)I"⟩ jdk_35_method_14_code 11 (Option.some FieldType.int)).before a0 Z = true := hwi hw 194 rfl
theorem d20_0 : decode jdk_67_method_16_code 0 = .ok (.aload_n 0, 1) := by decide +kernel
theorem d20_1 : decode jdk_67_method_16_code 1 = .ok (.lload_n 1, 1) := by decide +kernel
theorem d20_2 : decode jdk_67_method_16_code 2 = .ok (.invokespecial 56, 3) := by decide +kernel
theorem d20_5 : decode jdk_67_method_16_code 5 = .ok (.pop, 1) := by decide +kernel
theorem d20_6 : decode jdk_67_method_16_code 6 = .ok (.aload_n 0, 1) := by decide +kernel
theorem d20_7 : decode jdk_67_method_16_code 7 = .ok (.areturn, 1) := by decide +kernel
theorem d19_0 : decode jdk_68_method_33_code 0 = .ok (.aload_n 0, 1) := by decide +kernel
theorem d19_1 : decode jdk_68_method_33_code 1 = .ok (.getfield 79, 3) := by decide +kernel
theorem d19_4 : decode jdk_68_method_33_code 4 = .ok (.istore_n 3, 1) := by decide +kernel
theorem d19_5 : decode jdk_68_method_33_code 5 = .ok (.iload_n 3, 1) := by decide +kernel
theorem d19_6 : decode jdk_68_method_33_code 6 = .ok (.lload_n 1, 1) := by decide +kernel
theorem d19_7 : decode jdk_68_method_33_code 7 = .ok (.invokestatic 254, 3) := by decide +kernel
theorem d19_10 : decode jdk_68_method_33_code 10 = .ok (.iadd, 1) := by decide +kernel
theorem d19_11 : decode jdk_68_method_33_code 11 = .ok (.istore 4, 2) := by decide +kernel
theorem d19_13 : decode jdk_68_method_33_code 13 = .ok (.aload_n 0, 1) := by decide +kernel
theorem d19_14 : decode jdk_68_method_33_code 14 = .ok (.iload 4, 2) := by decide +kernel
theorem d19_16 : decode jdk_68_method_33_code 16 = .ok (.invokevirtual 100, 3) := by decide +kernel
theorem d19_19 : decode jdk_68_method_33_code 19 = .ok (.aload_n 0, 1) := by decide +kernel
theorem d19_20 : decode jdk_68_method_33_code 20 = .ok (.invokevirtual 83, 3) := by decide +kernel
theorem d19_23 : decode jdk_68_method_33_code 23 = .ok (.ifCond .eq 17, 3) := by decide +kernel
theorem d19_26 : decode jdk_68_method_33_code 26 = .ok (.lload_n 1, 1) := by decide +kernel
theorem d19_27 : decode jdk_68_method_33_code 27 = .ok (.iload 4, 2) := by decide +kernel
theorem d19_29 : decode jdk_68_method_33_code 29 = .ok (.aload_n 0, 1) := by decide +kernel
theorem d19_30 : decode jdk_68_method_33_code 30 = .ok (.getfield 15, 3) := by decide +kernel
theorem d19_33 : decode jdk_68_method_33_code 33 = .ok (.invokestatic 259, 3) := by decide +kernel
theorem d19_36 : decode jdk_68_method_33_code 36 = .ok (.pop, 1) := by decide +kernel
theorem d19_37 : decode jdk_68_method_33_code 37 = .ok (.goto 15, 3) := by decide +kernel
theorem d19_52 : decode jdk_68_method_33_code 52 = .ok (.aload_n 0, 1) := by decide +kernel
theorem d19_53 : decode jdk_68_method_33_code 53 = .ok (.iload 4, 2) := by decide +kernel
theorem d19_55 : decode jdk_68_method_33_code 55 = .ok (.putfield 79, 3) := by decide +kernel
theorem d19_58 : decode jdk_68_method_33_code 58 = .ok (.aload_n 0, 1) := by decide +kernel
theorem d19_59 : decode jdk_68_method_33_code 59 = .ok (.areturn, 1) := by decide +kernel
theorem pd_11 : parseMethodDescriptor "(J)I" = some ⟨[.long], some .int⟩ := by decide +kernel
theorem pd_12 : parseMethodDescriptor "()Z" = some ⟨[], some .boolean⟩ := by decide +kernel
theorem pd_13 : parseMethodDescriptor "(JI[B)I" = some ⟨[.long, .int, (.array .byte)], some .int⟩ := by decide +kernel
theorem pd_14 : parseMethodDescriptor "(J)Ljava/lang/AbstractStringBuilder;" = some ⟨[.long], some (.object "java/lang/AbstractStringBuilder")⟩ := by decide +kernel
theorem c_appJ0 (hw : HW a0 Z) (C : Ctx Z cs d1 d2 o1 o2) (O0 : zOd Z n0 h0) (a b : Addr) (bs : List Int8) (cap : Nat) (B0 : Sb Z h0 a b bs cap) (hC : cap < 400000) (g_a : n0 ≤ a) (g_b : n0 ≤ b) (n : Nat) (hn : n < 9223372036854775808) : zCon l Z (⟨"java/lang/AbstractStringBuilder", "append", "(J)Ljava/lang/AbstractStringBuilder;"⟩ : MethodName) jdk_68_method_33_code 5 (some (.object "java/lang/AbstractStringBuilder")) [] ({ frames := 4, cells := gcell cap (bs.length + (dec n).length), slots := gslot cap (bs.length + (dec n).length), locals := 62 } : Room) #[(.ref a), (.long (Int64.ofNat (n)))] h0 (fun v h L => v = some (.ref a) ∧ Fr n0 L ∧ Keep h0 h [a, b] ∧ ∃ b2 : Addr, Sb Z h a b2 (bs ++ dec n) (gcap cap (bs.length + (dec n).length)) ∧ n0 ≤ b2 ∧ (b2 = b ∨ h0.size ≤ b2)) := by
  refine zenter (plainFor_of_name pn_1) (L0 := #[rv a, .val (.long (Int64.ofNat (n))), .second, .unset, .unset]) (H := ?_)
  intro p e s m below meth c T0 hx hZ hby hml hown0 hnm hret hlk X0 e0
  have hown : s.vm.findClass "java/lang/AbstractStringBuilder" = some m.cls := hown0
  have K0 := Keep.refl h0 [a, b]
  have N0 := Fr.nil n0
  have hdn := dec_len_le 18 n (by omega)
  obtain ⟨jk, ⟨E_a, F_a_v, F_a_c, F_a_n, A_b, E_b, ne_ab⟩, rfl⟩ := id B0
  have hbs : bs.length ≤ (bs ++ jk).length := by rw [List.length_append]; omega
  show zEnds p e below s T0 (mkF m 0 #[rv a, .val (.long (Int64.ofNat (n))), .second, .unset, .unset] []) _ _ _
  refine zaloadN X0 hx hby d19_0 rfl rfl (zgetfld X0 hx hby d19_1 hZ hown (host := "") (Or.inl (w123 hw)) Via.refl e0 F_a_n fun T1 X1 e1 => (zistoreN X1 hx hby d19_4 (L' := #[rv a, .val (.long (Int64.ofNat (n))), .second, iv (Int32.ofNat (bs.length)), .unset]) rfl (ziloadN X1 hx hby d19_5 rfl (zlloadN X1 hx hby d19_6 rfl (zcalls X1 hx hby d19_7 hZ hown (w182 hw) (w183 hw) (w184 hw) (w185 hw) e1 (c_sizeJ l hw  C O0 (n) (by omega)) hml 1 pd_11 (argsL := [(.long (Int64.ofNat (n)))]) (st := [(.int (Int32.ofNat (bs.length)))]) (zpureK ⟨rfl, rfl⟩ fun T2 X2 e2 => ?_))))))
  refine ziadd X2 hx hby d19_10 (Int32.ofNat (bs.length + (dec n).length)) (zofN_add _ _) (zistore X2 hx hby d19_11 (L' := #[rv a, .val (.long (Int64.ofNat (n))), .second, iv (Int32.ofNat (bs.length)), iv (Int32.ofNat (bs.length + (dec n).length))]) rfl (zaloadN X2 hx hby d19_13 rfl rfl (ziload X2 hx hby d19_14 rfl (zcallv X2 hx hby d19_16 hZ hown (w125 hw) (zdecl_of (w126 hw) (w129 hw)) (notFace_of_selects (args := #[]) (mvT hZ (w128 hw))) (w128 hw) (w126 hw) (w129 hw) (w84 hw) e2 E_a (c_ensure l hw  C O0 a b (bs.length) (bs ++ jk) ⟨E_a, F_a_v, F_a_c, F_a_n, A_b, E_b, ne_ab⟩ (bs.length + (dec n).length) (by first | omega | (simp only [List.length_replicate, List.length_append, List.length_take, List.length_drop, List.length_nil, List.length_cons]; omega)) (by first | omega | (simp only [List.length_replicate, List.length_append, List.length_take, List.length_drop, List.length_nil, List.length_cons]; omega)) g_a g_b) hml 0 pd_8 (argsL := [(.int (Int32.ofNat (bs.length + (dec n).length)))]) (st := []) fun T3 h3 v3 L3 e3 X3 q3 => ?_))))
  obtain ⟨rfl, N3q, K3q, b3, zs3, ⟨E3_a, V3_a, C3_a, M3_a, A3_b, E3_b, ne3_ab⟩, g3_b, o3, l3⟩ := q3
  have O3 := O0.keep K3q (allS g_a all0)
  have K3 := Keep.trans K0 K3q (allS (Or.inl (List.mem_of_getElem? (i := 0) rfl)) all0)
  have N3 := Fr.app N0 N3q
  refine zaloadN X3 hx hby d19_19 rfl rfl (zcallv X3 hx hby d19_20 hZ hown (w187 hw) (w188 hw) (notFace_of_selects (args := #[]) (mvT hZ (w190 hw))) (w190 hw) (w189 hw) (w191 hw) (w84 hw) e3 E3_a (c_latin l hw  C O3 a b3 (bs.length) (bs ++ jk ++ zs3) ⟨E3_a, V3_a, C3_a, M3_a, A3_b, E3_b, ne3_ab⟩) hml 0 pd_12 (argsL := []) (st := []) (zpureK ⟨rfl, rfl⟩ fun T4 X4 e4 => ?_))
  show zEnds p e below s T4 (mkF m 23 #[rv a, .val (.long (Int64.ofNat (n))), .second, iv (Int32.ofNat (bs.length)), iv (Int32.ofNat (bs.length + (dec n).length))] [(.int 1)]) _ _ _
  refine zifNo X4 hx hby d19_23 (by decide) (zlloadN X4 hx hby d19_26 rfl (ziload X4 hx hby d19_27 rfl (zaloadN X4 hx hby d19_29 rfl rfl (zgetfld X4 hx hby d19_30 hZ hown (host := "") (Or.inl (w90 hw)) Via.refl e4 V3_a fun T5 X5 e5 => (zcalls X5 hx hby d19_33 hZ hown (w192 hw) (w193 hw) (w184 hw) (w194 hw) e5 (c_charsJ l hw  C O3 b3 (bs ++ jk ++ zs3) A3_b g3_b n (bs.length) (by omega) (by rw [l3]; have q1 := @gcap_le (bs ++ jk).length (bs.length + (dec n).length); have q2 : gcap (bs ++ jk).length (bs.length + (dec n).length) < 3000000 := (by unfold gcap ncap; split <;> omega); omega) (by rw [l3]; have q1 := @gcap_le (bs ++ jk).length (bs.length + (dec n).length); have q2 : gcap (bs ++ jk).length (bs.length + (dec n).length) < 3000000 := (by unfold gcap ncap; split <;> omega); omega)) hml 0 pd_13 (argsL := [(.long (Int64.ofNat (n))), (.int (Int32.ofNat (bs.length + (dec n).length))), (.ref b3)]) (st := []) fun T6 h6 v6 L6 e6 X6 q6 => ?_)))))
  obtain ⟨rfl, N6q, K6q, A6_b⟩ := q6
  have F6_a_value := V3_a.keep K6q (ninS ne3_ab nin0)
  have F6_a_coder := C3_a.keep K6q (ninS ne3_ab nin0)
  have F6_a_count := M3_a.keep K6q (ninS ne3_ab nin0)
  have E6_a := E3_a.keep K6q
  have K6 := Keep.trans K3 K6q (allS (o3.elim (fun q => Or.inl (by rw [q]; exact List.mem_of_getElem? (i := 1) rfl)) (fun q => Or.inr (Nat.le_trans K0.1 q))) all0)
  have N6 := Fr.app N3 N6q
  have E6_b := E3_b.keep K6q
  refine zpop X6 hx hby d19_36 rfl (zgoto X6 hx hby d19_37 52 (by decide) (by decide) (zaloadN X6 hx hby d19_52 rfl rfl (ziload X6 hx hby d19_53 rfl (zputfld X6 hx hby d19_55 hZ hown (host := "") (Or.inl (w123 hw)) Via.refl e6 F6_a_count E6_a (Or.inl (w124 hw)) (w75 hw) (ty := .int) (by decide) rfl rfl fun T7 h7 X7 e7 W7 => ?_))))
  have F7_a_count : Fld Z h7 a "java/lang/AbstractStringBuilder" "count" "I" (.int (Int32.ofNat (bs.length + (dec n).length))) := F6_a_count.same W7
  have F7_a_value := F6_a_value.other W7 (Or.inr (slot_ne (Or.inl (w91 hw)) (Or.inl (w124 hw)) (by decide) (t := (.array .byte)) (t' := .int) (by decide) (by decide)))
  have F7_a_coder := F6_a_coder.other W7 (Or.inr (slot_ne (Or.inl (w93 hw)) (Or.inl (w124 hw)) (by decide) (t := .byte) (t' := .int) (by decide) (by decide)))
  have E7_a := E6_a.wr W7
  have E7_b3 := E6_b.wr W7
  have A7_b3 := A6_b.other W7 (Ne.symm ne3_ab)
  have K7 := Keep.wr K6 W7 (Or.inl (List.mem_of_getElem? (i := 0) rfl))
  have N7 := Fr.snoc X7 N6 g_a
  refine zaloadN X7 hx hby d19_58 rfl rfl ?_
  show zEnds p e below s T7 (mkF m 59 #[rv a, .val (.long (Int64.ofNat (n))), .second, iv (Int32.ofNat (bs.length)), iv (Int32.ofNat (bs.length + (dec n).length))] [(.ref a)]) _ _ _
  exact zretA X7 hx hby d19_59 hret hlk rfl rfl rfl (by first | decide | omega | (dsimp only; omega)) (by first | decide | omega | (dsimp only; omega)) (by rw [e7]; exact ⟨rfl, N7, K7, b3, ⟨List.drop (dec n).length (jk ++ zs3), ⟨E7_a, F7_a_value, F7_a_coder, by rw [List.length_append]; exact F7_a_count, by have q := A7_b3; rw [wrt, zput_tail] at q; exact q, E7_b3, ne3_ab⟩, by rw [zput_len (by rw [l3]; have q1 := @gcap_le (bs ++ jk).length (bs.length + (dec n).length); have q2 : gcap (bs ++ jk).length (bs.length + (dec n).length) < 3000000 := (by unfold gcap ncap; split <;> omega); omega), l3]⟩, g3_b, o3⟩)
theorem c_appJ (hw : HW a0 Z) (C : Ctx Z cs d1 d2 o1 o2) (O0 : zOd Z n0 h0) (a b : Addr) (bs : List Int8) (cap : Nat) (B0 : Sb Z h0 a b bs cap) (hC : cap < 400000) (g_a : n0 ≤ a) (g_b : n0 ≤ b) (n : Nat) (hn : n < 9223372036854775808) : zCon l Z (⟨"java/lang/StringBuilder", "append", "(J)Ljava/lang/StringBuilder;"⟩ : MethodName) jdk_67_method_16_code 3 (some (.object "java/lang/StringBuilder")) [] ({ frames := 5, cells := gcell cap (bs.length + (dec n).length), slots := gslot cap (bs.length + (dec n).length), locals := 78 } : Room) #[(.ref a), (.long (Int64.ofNat (n)))] h0 (fun v h L => v = some (.ref a) ∧ Fr n0 L ∧ Keep h0 h [a, b] ∧ ∃ b2 : Addr, Sb Z h a b2 (bs ++ dec n) (gcap cap (bs.length + (dec n).length)) ∧ n0 ≤ b2 ∧ (b2 = b ∨ h0.size ≤ b2)) := by
  refine zenter (plainFor_of_name pn_2) (L0 := #[rv a, .val (.long (Int64.ofNat (n))), .second]) (H := ?_)
  intro p e s m below meth c T0 hx hZ hby hml hown0 hnm hret hlk X0 e0
  have hown : s.vm.findClass "java/lang/StringBuilder" = some m.cls := hown0
  have K0 := Keep.refl h0 [a, b]
  have N0 := Fr.nil n0
  have hdn := dec_len_le 18 n (by omega)
  show zEnds p e below s T0 (mkF m 0 #[rv a, .val (.long (Int64.ofNat (n))), .second] []) _ _ _
  refine zaloadN X0 hx hby d20_0 rfl rfl (zlloadN X0 hx hby d20_1 rfl (zcallsup X0 hx hby d20_2 hZ hown (by decide) (w178 hw) (nfASB hw (w179 hw) rfl) (w179 hw) (w107 hw) (w181 hw) (w84 hw) e0 (Sb.exa B0) (c_appJ0 l hw  C O0 a b (bs) cap B0 (by first | omega | (simp only [List.length_replicate, List.length_append, List.length_take, List.length_drop, List.length_nil, List.length_cons]; omega)) g_a g_b (n) (by omega)) hml 0 pd_14 (argsL := [(.long (Int64.ofNat (n)))]) (st := []) fun T1 h1 v1 L1 e1 X1 q1 => ?_))
  obtain ⟨rfl, N1q, K1q, b1, B1_a, g1_b, o1⟩ := q1
  have K1 := Keep.trans K0 K1q (allS (Or.inl (List.mem_of_getElem? (i := 0) rfl)) (allS (Or.inl (List.mem_of_getElem? (i := 1) rfl)) all0))
  have N1 := Fr.app N0 N1q
  refine zpop X1 hx hby d20_5 rfl (zaloadN X1 hx hby d20_6 rfl rfl ?_)
  show zEnds p e below s T1 (mkF m 7 #[rv a, .val (.long (Int64.ofNat (n))), .second] [(.ref a)]) _ _ _
  exact zretA X1 hx hby d20_7 hret hlk rfl rfl rfl (by first | decide | omega | (dsimp only; omega)) (by first | decide | omega | (dsimp only; omega)) (by rw [e1]; exact ⟨rfl, N1, K1, b1, B1_a, g1_b, o1⟩)
theorem w20 (hw : HW a0 Z) : (Cond.instanceMethod ⟨"java/lang/Object", "<init>", "()V"⟩).before a0 Z = true := hwi hw 20 rfl
theorem w21 (hw : HW a0 Z) : (Cond.code ⟨"java/lang/Object", "<init>", "()V"⟩ object_method_1_code 1 (Option.none : Option Jvm.ClassFile.FieldType)).before a0 Z = true := hwi hw 21 rfl
theorem w80 (hw : HW a0 Z) : (Cond.methodLink "java/lang/StringBuilder" 1 ⟨"java/lang/AbstractStringBuilder", "<init>", "(I)V"⟩).before a0 Z = true := hwi hw 80 rfl
theorem w81 (hw : HW a0 Z) : (Cond.instanceMethod ⟨"java/lang/AbstractStringBuilder", "<init>", "(I)V"⟩).before a0 Z = true := hwi hw 81 rfl
theorem w85 (hw : HW a0 Z) : (Cond.code ⟨"java/lang/AbstractStringBuilder", "<init>", "(I)V"⟩ jdk_68_method_2_code 2 (Option.none : Option Jvm.ClassFile.FieldType)).before a0 Z = true := hwi hw 85 rfl
theorem w86 (hw : HW a0 Z) : (Cond.methodLink "java/lang/AbstractStringBuilder" 3 ⟨"java/lang/Object", "<init>", "()V"⟩).before a0 Z = true := hwi hw 86 rfl
theorem d22_0 : decode jdk_67_method_1_code 0 = .ok (.aload_n 0, 1) := by decide +kernel
theorem d22_1 : decode jdk_67_method_1_code 1 = .ok (.bipush 16, 2) := by decide +kernel
theorem d22_3 : decode jdk_67_method_1_code 3 = .ok (.invokespecial 1, 3) := by decide +kernel
theorem d22_6 : decode jdk_67_method_1_code 6 = .ok (.return_, 1) := by decide +kernel
theorem d21_0 : decode jdk_68_method_2_code 0 = .ok (.aload_n 0, 1) := by decide +kernel
theorem d21_1 : decode jdk_68_method_2_code 1 = .ok (.invokespecial 3, 3) := by decide +kernel
theorem d21_4 : decode jdk_68_method_2_code 4 = .ok (.getstatic 18, 3) := by decide +kernel
theorem d21_7 : decode jdk_68_method_2_code 7 = .ok (.ifCond .eq 18, 3) := by decide +kernel
theorem d21_10 : decode jdk_68_method_2_code 10 = .ok (.aload_n 0, 1) := by decide +kernel
theorem d21_11 : decode jdk_68_method_2_code 11 = .ok (.iload_n 1, 1) := by decide +kernel
theorem d21_12 : decode jdk_68_method_2_code 12 = .ok (.newarray .byte, 2) := by decide +kernel
theorem d21_14 : decode jdk_68_method_2_code 14 = .ok (.putfield 15, 3) := by decide +kernel
theorem d21_17 : decode jdk_68_method_2_code 17 = .ok (.aload_n 0, 1) := by decide +kernel
theorem d21_18 : decode jdk_68_method_2_code 18 = .ok (.iconst 0, 1) := by decide +kernel
theorem d21_19 : decode jdk_68_method_2_code 19 = .ok (.putfield 22, 3) := by decide +kernel
theorem d21_22 : decode jdk_68_method_2_code 22 = .ok (.goto 16, 3) := by decide +kernel
theorem d21_38 : decode jdk_68_method_2_code 38 = .ok (.return_, 1) := by decide +kernel
theorem c_init0 (hw : HW a0 Z) (C : Ctx Z cs d1 d2 o1 o2) (O0 : zOd Z n0 h0) (a : Addr) (E_a : Exa Z h0 a "java/lang/StringBuilder") (F_a_v : Fld Z h0 a "java/lang/AbstractStringBuilder" "value" "[B" .null) (F_a_c : Fld Z h0 a "java/lang/AbstractStringBuilder" "coder" "B" (.int 0)) (F_a_n : Fld Z h0 a "java/lang/AbstractStringBuilder" "count" "I" (.int 0)) (g_a : n0 ≤ a) : zCon l Z (⟨"java/lang/AbstractStringBuilder", "<init>", "(I)V"⟩ : MethodName) jdk_68_method_2_code 2 none [] ({ frames := 1, cells := 1, slots := 16, locals := 12 } : Room) #[(.ref a), (.int 16)] h0 (fun v h L => v = none ∧ Fr n0 L ∧ Keep h0 h [a] ∧ ∃ b : Addr, Sb Z h a b [] 16 ∧ n0 ≤ b ∧ h0.size ≤ b) := by
  obtain ⟨S_cs, hcs, S_d1, B_d1, H_d1, S_d2, B_d2, H_d2⟩ := id C
  refine zenter (plainFor_of_name pn_1) (L0 := #[rv a, iv 16]) (H := ?_)
  intro p e s m below meth c T0 hx hZ hby hml hown0 hnm hret hlk X0 e0
  have hown : s.vm.findClass "java/lang/AbstractStringBuilder" = some m.cls := hown0
  have K0 := Keep.refl h0 [a]
  have N0 := Fr.nil n0
  show zEnds p e below s T0 (mkF m 0 #[rv a, iv 16] []) _ _ _
  refine zaloadN X0 hx hby d21_0 rfl rfl (zobjinit X0 hx hby d21_1 hZ hown (w86 hw) (w20 hw) (w21 hw) e0 hml 0 (fun T1 X1 e1 => ?_))
  refine zgetstat X1 hx hby d21_4 hZ hown (host := "") (Or.inl (w87 hw)) Via.refl e1 (S_cs.ext O0.2.2) fun T2 X2 e2 => (zifNo X2 hx hby d21_7 ((if0 _ _).trans (feq hcs).1) (zaloadN X2 hx hby d21_10 rfl rfl (ziloadN X2 hx hby d21_11 rfl (znewB X2 hx hby d21_12 hZ (w89 hw) e2 (n := 16) (by decide) (by first | decide | omega | (dsimp only; omega)) (by first | decide | omega | (dsimp only; omega)) fun T3 h3 b3 X3 e3 y3 Ex3 E3_b3 A3_b3 => ?_))))
  have F3_a_value := F_a_v.ext Ex3
  have F3_a_coder := F_a_c.ext Ex3
  have F3_a_count := F_a_n.ext Ex3
  have E3_a := E_a.ext Ex3
  have K3 := Keep.ext K0 Ex3
  have ne3_a : a ≠ b3 := Nat.ne_of_lt (Nat.lt_of_lt_of_eq E_a.lt y3.symm)
  have g3 : n0 ≤ b3 := by rw [y3]; exact zodsz O0
  have z3 : h0.size ≤ b3 := by rw [y3]; exact K0.1
  refine zputfld X3 hx hby d21_14 hZ hown (host := "") (Or.inl (w90 hw)) Via.refl e3 F3_a_value E3_a (Or.inl (w91 hw)) (w75 hw) (ty := (.array .byte)) (by decide) rfl rfl fun T4 h4 X4 e4 W4 => ?_
  have F4_a_value : Fld Z h4 a "java/lang/AbstractStringBuilder" "value" "[B" (.ref b3) := F3_a_value.same W4
  have F4_a_coder := F3_a_coder.other W4 (Or.inr (slot_ne (Or.inl (w93 hw)) (Or.inl (w91 hw)) (by decide) (t := .byte) (t' := (.array .byte)) (by decide) (by decide)))
  have F4_a_count := F3_a_count.other W4 (Or.inr (slot_ne (Or.inl (w124 hw)) (Or.inl (w91 hw)) (by decide) (t := .int) (t' := (.array .byte)) (by decide) (by decide)))
  have E4_a := E3_a.wr W4
  have E4_b3 := E3_b3.wr W4
  have A4_b3 := A3_b3.other W4 (Ne.symm ne3_a)
  have K4 := Keep.wr K3 W4 (Or.inl (List.mem_of_getElem? (i := 0) rfl))
  have N4 := Fr.snoc X4 N0 g_a
  refine zaloadN X4 hx hby d21_17 rfl rfl (ziconst X4 hx hby d21_18 (z := (0 : Int32)) rfl (zputfld X4 hx hby d21_19 hZ hown (host := "") (Or.inl (w92 hw)) Via.refl e4 F4_a_coder E4_a (Or.inl (w93 hw)) (w75 hw) (ty := .byte) (by decide) rfl rfl fun T5 h5 X5 e5 W5 => ?_))
  have F5_a_coder : Fld Z h5 a "java/lang/AbstractStringBuilder" "coder" "B" (.int 0) := F4_a_coder.same W5
  have F5_a_value := F4_a_value.other W5 (Or.inr (slot_ne (Or.inl (w91 hw)) (Or.inl (w93 hw)) (by decide) (t := (.array .byte)) (t' := .byte) (by decide) (by decide)))
  have F5_a_count := F4_a_count.other W5 (Or.inr (slot_ne (Or.inl (w124 hw)) (Or.inl (w93 hw)) (by decide) (t := .int) (t' := .byte) (by decide) (by decide)))
  have E5_a := E4_a.wr W5
  have E5_b3 := E4_b3.wr W5
  have A5_b3 := A4_b3.other W5 (Ne.symm ne3_a)
  have K5 := Keep.wr K4 W5 (Or.inl (List.mem_of_getElem? (i := 0) rfl))
  have N5 := Fr.snoc X5 N4 g_a
  refine zgoto X5 hx hby d21_22 38 (by decide) (by decide) ?_
  show zEnds p e below s T5 (mkF m 38 #[rv a, iv 16] []) _ _ _
  exact zretV X5 hx hby d21_38 hret hlk (by first | decide | omega | (dsimp only; omega)) (by first | decide | omega | (dsimp only; omega)) (by rw [e5]; exact ⟨rfl, N5, K5, b3, ⟨List.replicate 16 0, ⟨E5_a, F5_a_value, F5_a_coder, F5_a_count, A5_b3, E5_b3, ne3_a⟩, rfl⟩, g3, z3⟩)
theorem c_init (hw : HW a0 Z) (C : Ctx Z cs d1 d2 o1 o2) (O0 : zOd Z n0 h0) (a : Addr) (E_a : Exa Z h0 a "java/lang/StringBuilder") (F_a_v : Fld Z h0 a "java/lang/AbstractStringBuilder" "value" "[B" .null) (F_a_c : Fld Z h0 a "java/lang/AbstractStringBuilder" "coder" "B" (.int 0)) (F_a_n : Fld Z h0 a "java/lang/AbstractStringBuilder" "count" "I" (.int 0)) (g_a : n0 ≤ a) : zCon l Z (⟨"java/lang/StringBuilder", "<init>", "()V"⟩ : MethodName) jdk_67_method_1_code 1 none [] ({ frames := 2, cells := 1, slots := 16, locals := 25 } : Room) #[(.ref a)] h0 (fun v h L => v = none ∧ Fr n0 L ∧ Keep h0 h [a] ∧ ∃ b : Addr, Sb Z h a b [] 16 ∧ n0 ≤ b ∧ h0.size ≤ b) := by
  refine zenter (plainFor_of_name pn_2) (L0 := #[rv a]) (H := ?_)
  intro p e s m below meth c T0 hx hZ hby hml hown0 hnm hret hlk X0 e0
  have hown : s.vm.findClass "java/lang/StringBuilder" = some m.cls := hown0
  have K0 := Keep.refl h0 [a]
  have N0 := Fr.nil n0
  show zEnds p e below s T0 (mkF m 0 #[rv a] []) _ _ _
  refine zaloadN X0 hx hby d22_0 rfl rfl (zbipush X0 hx hby d22_1 (z := (16 : Int32)) rfl (zcallsp X0 hx hby d22_3 hZ hown rfl (w80 hw) (w81 hw) (w85 hw) (w84 hw) e0 (c_init0 l hw  C O0 a E_a F_a_v F_a_c F_a_n g_a) hml 0 pd_8 (argsL := [(.int 16)]) (st := []) fun T1 h1 v1 L1 e1 X1 q1 => ?_))
  obtain ⟨rfl, N1q, K1q, b1, B1_a, g1_b, y1⟩ := q1
  have K1 := Keep.trans K0 K1q (allS (Or.inl (List.mem_of_getElem? (i := 0) rfl)) all0)
  have N1 := Fr.app N0 N1q
  have z1 : h0.size ≤ b1 := Nat.le_trans K0.1 y1
  show zEnds p e below s T1 (mkF m 6 #[rv a] []) _ _ _
  exact zretV X1 hx hby d22_6 hret hlk (by first | decide | omega | (dsimp only; omega)) (by first | decide | omega | (dsimp only; omega)) (by rw [e1]; exact ⟨rfl, N1, K1, b1, B1_a, g1_b, z1⟩)
theorem w249 (hw : HW a0 Z) : (Cond.methodLink "java/util/Arrays" 339 ⟨"java/util/Arrays", "copyOfRangeByte", "([BII)[B"⟩).before a0 Z = true := hwi hw 249 rfl
theorem w250 (hw : HW a0 Z) : (Cond.static ⟨"java/util/Arrays", "copyOfRangeByte", "([BII)[B"⟩).before a0 Z = true := hwi hw 250 rfl
theorem w251 (hw : HW a0 Z) : (Cond.code ⟨"java/util/Arrays", "copyOfRangeByte", "([BII)[B"⟩ jdk_65_method_133_code 5 (Option.some (FieldType.array FieldType.byte))).before a0 Z = true := hwi hw 251 rfl
theorem w252 (hw : HW a0 Z) : (Cond.methodLink "java/util/Arrays" 343 ⟨"java/util/Arrays", "checkLength", "(II)V"⟩).before a0 Z = true := hwi hw 252 rfl
theorem w253 (hw : HW a0 Z) : (Cond.static ⟨"java/util/Arrays", "checkLength", "(II)V"⟩).before a0 Z = true := hwi hw 253 rfl
theorem w254 (hw : HW a0 Z) : (Cond.code ⟨"java/util/Arrays", "checkLength", "(II)V"⟩ jdk_65_method_131_code 2 (Option.none : Option Jvm.ClassFile.FieldType)).before a0 Z = true := hwi hw 254 rfl
theorem w423 (hw : HW a0 Z) : (Cond.methodLink "java/util/Arrays" 310 ⟨"[B", "clone", "()Ljava/lang/Object;"⟩).before a0 Z = true := hwi hw 423 rfl
theorem w424 (hw : HW a0 Z) : (Cond.sameMethod "[B" "java/lang/Object" "clone" "()Ljava/lang/Object;").before a0 Z = true := hwi hw 424 rfl
theorem w426 (hw : HW a0 Z) : (Cond.instanceMethod ⟨"java/lang/Object", "clone", "()Ljava/lang/Object;"⟩).before a0 Z = true := hwi hw 426 rfl
theorem w427 (hw : HW a0 Z) : (Cond.selects "[B" ⟨"[B", "clone", "()Ljava/lang/Object;"⟩ ⟨"java/lang/Object", "clone", "()Ljava/lang/Object;"⟩).before a0 Z = true := hwi hw 427 rfl
theorem w428 (hw : HW a0 Z) : (Cond.native ⟨"java/lang/Object", "clone", "()Ljava/lang/Object;"⟩).before a0 Z = true := hwi hw 428 rfl
theorem w429 (hw : HW a0 Z) : (Cond.castable "[B" "java/lang/Cloneable").before a0 Z = true := hwi hw 429 rfl
theorem w430 (hw : HW a0 Z) : (Cond.classLink "java/util/Arrays" 311 "[B").before a0 Z = true := hwi hw 430 rfl
theorem w431 (hw : HW a0 Z) : (Cond.castable "[B" "[B").before a0 Z = true := hwi hw 431 rfl
theorem d23_0 : decode jdk_65_method_131_code 0 = .ok (.iload_n 1, 1) := by decide +kernel
theorem d23_1 : decode jdk_65_method_131_code 1 = .ok (.iload_n 0, 1) := by decide +kernel
theorem d23_2 : decode jdk_65_method_131_code 2 = .ok (.if_icmp .ge 35, 3) := by decide +kernel
theorem d23_37 : decode jdk_65_method_131_code 37 = .ok (.return_, 1) := by decide +kernel
theorem d25_0 : decode jdk_65_method_132_code 0 = .ok (.iload_n 1, 1) := by decide +kernel
theorem d25_1 : decode jdk_65_method_132_code 1 = .ok (.ifCond .ne 9, 3) := by decide +kernel
theorem d25_4 : decode jdk_65_method_132_code 4 = .ok (.iload_n 2, 1) := by decide +kernel
theorem d25_5 : decode jdk_65_method_132_code 5 = .ok (.aload_n 0, 1) := by decide +kernel
theorem d25_6 : decode jdk_65_method_132_code 6 = .ok (.arraylength, 1) := by decide +kernel
theorem d25_7 : decode jdk_65_method_132_code 7 = .ok (.if_icmp .eq 10, 3) := by decide +kernel
theorem d25_10 : decode jdk_65_method_132_code 10 = .ok (.aload_n 0, 1) := by decide +kernel
theorem d25_11 : decode jdk_65_method_132_code 11 = .ok (.iload_n 1, 1) := by decide +kernel
theorem d25_12 : decode jdk_65_method_132_code 12 = .ok (.iload_n 2, 1) := by decide +kernel
theorem d25_13 : decode jdk_65_method_132_code 13 = .ok (.invokestatic 339, 3) := by decide +kernel
theorem d25_16 : decode jdk_65_method_132_code 16 = .ok (.areturn, 1) := by decide +kernel
theorem d25_17 : decode jdk_65_method_132_code 17 = .ok (.aload_n 0, 1) := by decide +kernel
theorem d25_18 : decode jdk_65_method_132_code 18 = .ok (.invokevirtual 310, 3) := by decide +kernel
theorem d25_21 : decode jdk_65_method_132_code 21 = .ok (.checkcast 311, 3) := by decide +kernel
theorem d25_24 : decode jdk_65_method_132_code 24 = .ok (.areturn, 1) := by decide +kernel
theorem d24_0 : decode jdk_65_method_133_code 0 = .ok (.iload_n 1, 1) := by decide +kernel
theorem d24_1 : decode jdk_65_method_133_code 1 = .ok (.iload_n 2, 1) := by decide +kernel
theorem d24_2 : decode jdk_65_method_133_code 2 = .ok (.invokestatic 343, 3) := by decide +kernel
theorem d24_5 : decode jdk_65_method_133_code 5 = .ok (.iload_n 2, 1) := by decide +kernel
theorem d24_6 : decode jdk_65_method_133_code 6 = .ok (.iload_n 1, 1) := by decide +kernel
theorem d24_7 : decode jdk_65_method_133_code 7 = .ok (.isub, 1) := by decide +kernel
theorem d24_8 : decode jdk_65_method_133_code 8 = .ok (.istore_n 3, 1) := by decide +kernel
theorem d24_9 : decode jdk_65_method_133_code 9 = .ok (.iload_n 3, 1) := by decide +kernel
theorem d24_10 : decode jdk_65_method_133_code 10 = .ok (.newarray .byte, 2) := by decide +kernel
theorem d24_12 : decode jdk_65_method_133_code 12 = .ok (.astore 4, 2) := by decide +kernel
theorem d24_14 : decode jdk_65_method_133_code 14 = .ok (.aload_n 0, 1) := by decide +kernel
theorem d24_15 : decode jdk_65_method_133_code 15 = .ok (.iload_n 1, 1) := by decide +kernel
theorem d24_16 : decode jdk_65_method_133_code 16 = .ok (.aload 4, 2) := by decide +kernel
theorem d24_18 : decode jdk_65_method_133_code 18 = .ok (.iconst 0, 1) := by decide +kernel
theorem d24_19 : decode jdk_65_method_133_code 19 = .ok (.aload_n 0, 1) := by decide +kernel
theorem d24_20 : decode jdk_65_method_133_code 20 = .ok (.arraylength, 1) := by decide +kernel
theorem d24_21 : decode jdk_65_method_133_code 21 = .ok (.iload_n 1, 1) := by decide +kernel
theorem d24_22 : decode jdk_65_method_133_code 22 = .ok (.isub, 1) := by decide +kernel
theorem d24_23 : decode jdk_65_method_133_code 23 = .ok (.iload_n 3, 1) := by decide +kernel
theorem d24_24 : decode jdk_65_method_133_code 24 = .ok (.invokestatic 304, 3) := by decide +kernel
theorem d24_27 : decode jdk_65_method_133_code 27 = .ok (.invokestatic 150, 3) := by decide +kernel
theorem d24_30 : decode jdk_65_method_133_code 30 = .ok (.aload 4, 2) := by decide +kernel
theorem d24_32 : decode jdk_65_method_133_code 32 = .ok (.areturn, 1) := by decide +kernel
theorem pd_15 : parseMethodDescriptor "(II)V" = some ⟨[.int, .int], none⟩ := by decide +kernel
theorem pd_16 : parseMethodDescriptor "([BII)[B" = some ⟨[(.array .byte), .int, .int], some (.array .byte)⟩ := by decide +kernel
theorem c_chk (hw : HW a0 Z) (C : Ctx Z cs d1 d2 o1 o2) (O0 : zOd Z n0 h0) (n : Nat) (hn : n < 10000000) : zCon l Z (⟨"java/util/Arrays", "checkLength", "(II)V"⟩ : MethodName) jdk_65_method_131_code 2 none [] ({ frames := 0, cells := 0, slots := 0, locals := 0 } : Room) #[(.int 0), (.int (Int32.ofNat (n)))] h0 (zSame none h0) := by
  refine zenter (plainFor_of_name pn_4) (L0 := #[iv 0, iv (Int32.ofNat (n))]) (H := ?_)
  intro p e s m below meth c T0 hx hZ hby hml hown0 hnm hret hlk X0 e0
  have hown : s.vm.findClass "java/util/Arrays" = some m.cls := hown0
  show zEnds p e below s T0 (mkF m 0 #[iv 0, iv (Int32.ofNat (n))] []) _ _ _
  refine ziloadN X0 hx hby d23_0 rfl (ziloadN X0 hx hby d23_1 rfl (zicmpYes X0 hx hby d23_2 37 (flt (show ¬ ((Int32.ofNat (n)) < Int32.ofNat (0)) from by rw [zofN_lt (by omega) (by omega)]; omega)).2.1 (by decide) (by decide) ?_))
  show zEnds p e below s T0 (mkF m 37 #[iv 0, iv (Int32.ofNat (n))] []) _ _ _
  exact zretV X0 hx hby d23_37 hret hlk (by first | decide | omega | (dsimp only; omega)) (by first | decide | omega | (dsimp only; omega)) (⟨rfl, e0, rfl⟩)
theorem c_crb (hw : HW a0 Z) (C : Ctx Z cs d1 d2 o1 o2) (O0 : zOd Z n0 h0) (b : Addr) (ys : List Int8) (n : Nat) (A_b : zBt Z h0 b ys) (hn : n ≤ ys.length) (hM : ys.length < 10000000) : zCon l Z (⟨"java/util/Arrays", "copyOfRangeByte", "([BII)[B"⟩ : MethodName) jdk_65_method_133_code 5 (some (.array .byte)) [] ({ frames := 1, cells := 1, slots := n, locals := 29 } : Room) #[(.ref b), (.int 0), (.int (Int32.ofNat (n)))] h0 (fun v h L => ∃ b2 : Addr, v = some (.ref b2) ∧ Fr n0 L ∧ Keep h0 h [] ∧ h0.size ≤ b2 ∧ n0 ≤ b2 ∧ Exa Z h b2 "[B" ∧ zBt Z h b2 (ys.take n)) := by
  refine zenter (plainFor_of_name pn_4) (L0 := #[rv b, iv 0, iv (Int32.ofNat (n)), .unset, .unset]) (H := ?_)
  intro p e s m below meth c T0 hx hZ hby hml hown0 hnm hret hlk X0 e0
  have hown : s.vm.findClass "java/util/Arrays" = some m.cls := hown0
  have K0 := Keep.refl h0 []
  have N0 := Fr.nil n0
  show zEnds p e below s T0 (mkF m 0 #[rv b, iv 0, iv (Int32.ofNat (n)), .unset, .unset] []) _ _ _
  refine ziloadN X0 hx hby d24_0 rfl (ziloadN X0 hx hby d24_1 rfl (zcalls X0 hx hby d24_2 hZ hown (w252 hw) (w253 hw) (w147 hw) (w254 hw) e0 (c_chk l hw  C O0 (n) (by first | omega | (simp only [List.length_replicate, List.length_append, List.length_take, List.length_drop, List.length_nil, List.length_cons]; omega))) hml 0 pd_15 (argsL := [(.int 0), (.int (Int32.ofNat (n)))]) (st := []) (zpureK ⟨rfl, rfl⟩ fun T1 X1 e1 => ?_)))
  refine ziloadN X1 hx hby d24_5 rfl (ziloadN X1 hx hby d24_6 rfl (zisub X1 hx hby d24_7 (Int32.ofNat (n)) (Int32.sub_zero _) (zistoreN X1 hx hby d24_8 (L' := #[rv b, iv 0, iv (Int32.ofNat (n)), iv (Int32.ofNat (n)), .unset]) rfl (ziloadN X1 hx hby d24_9 rfl (znewB X1 hx hby d24_10 hZ (w89 hw) e1 (n := n) (by omega) (by first | decide | omega | (dsimp only; omega)) (by first | decide | omega | (dsimp only; omega)) fun T2 h2 b2 X2 e2 y2 Ex2 E2_b2 A2_b2 => ?_)))))
  have A2_b := A_b.ext Ex2
  have O2 := O0.ext Ex2
  have K2 := Keep.ext K0 Ex2
  have g2 : n0 ≤ b2 := by rw [y2]; exact zodsz O0
  have z2 : h0.size ≤ b2 := by rw [y2]; exact K0.1
  refine zastore X2 hx hby d24_12 (hv := rfl) (L' := #[rv b, iv 0, iv (Int32.ofNat (n)), iv (Int32.ofNat (n)), rv b2]) rfl (zaloadN X2 hx hby d24_14 rfl rfl (ziloadN X2 hx hby d24_15 rfl (zaload X2 hx hby d24_16 rfl rfl (ziconst X2 hx hby d24_18 (z := (0 : Int32)) rfl (zaloadN X2 hx hby d24_19 rfl rfl (zalenB X2 hx hby d24_20 hZ e2 A2_b (ys.length) rfl (ziloadN X2 hx hby d24_21 rfl (zisub X2 hx hby d24_22 (Int32.ofNat (ys.length)) (Int32.sub_zero _) (ziloadN X2 hx hby d24_23 rfl ?_)))))))))
  show zEnds p e below s T2 (mkF m 24 #[rv b, iv 0, iv (Int32.ofNat (n)), iv (Int32.ofNat (n)), rv b2] [(.int (Int32.ofNat (n))), (.int (Int32.ofNat (ys.length))), (.int 0), (.ref b2), (.int 0), (.ref b)]) _ _ _
  refine zcalls X2 hx hby d24_24 hZ hown (w149 hw) (w150 hw) (w141 hw) (w151 hw) e2 (c_min l hw  C O2 (ys.length) (n) (by first | omega | (simp only [List.length_replicate, List.length_append, List.length_take, List.length_drop, List.length_nil, List.length_cons]; omega)) (by first | omega | (simp only [List.length_replicate, List.length_append, List.length_take, List.length_drop, List.length_nil, List.length_cons]; omega))) hml 4 pd_2 (argsL := [(.int (Int32.ofNat (ys.length))), (.int (Int32.ofNat (n)))]) (st := [(.int 0), (.ref b2), (.int 0), (.ref b)]) (zpureK ⟨rfl, rfl⟩ fun T3 X3 e3 => ?_)
  refine zcopyB X3 hx hby d24_27 hZ hown (w152 hw) (w155 hw) (w153 hw) (w154 hw) e3 (sp := 0) (dp := 0) (nn := min (ys.length) (n)) A2_b A2_b2 (by first | omega | (simp only [List.length_replicate, List.length_append, List.length_take, List.length_drop, List.length_nil, List.length_cons]; omega)) (by first | omega | (simp only [List.length_replicate, List.length_append, List.length_take, List.length_drop, List.length_nil, List.length_cons]; omega)) (by first | omega | (simp only [List.length_replicate, List.length_append, List.length_take, List.length_drop, List.length_nil, List.length_cons]; omega)) (by first | omega | (simp only [List.length_replicate, List.length_append, List.length_take, List.length_drop, List.length_nil, List.length_cons]; omega)) N0 g2 hml 0 (fun T4 h4 L4 X4 e4 N4 K4q A4_b2 => ?_)
  have K4 := Keep.trans K2 K4q (allS (Or.inr z2) all0)
  have E4_b2 := E2_b2.keep K4q
  show zEnds p e below s T4 (mkF m 30 #[rv b, iv 0, iv (Int32.ofNat (n)), iv (Int32.ofNat (n)), rv b2] []) _ _ _
  refine zaload X4 hx hby d24_30 rfl rfl ?_
  show zEnds p e below s T4 (mkF m 32 #[rv b, iv 0, iv (Int32.ofNat (n)), iv (Int32.ofNat (n)), rv b2] [(.ref b2)]) _ _ _
  exact zretA X4 hx hby d24_32 hret hlk rfl rfl rfl (by first | decide | omega | (dsimp only; omega)) (by first | decide | omega | (dsimp only; omega)) (by rw [e4]; exact ⟨b2, rfl, N4, K4, z2, g2, E4_b2, by have q := A4_b2; rw [zcopy_range ys hn] at q; exact q⟩)
theorem c_cr (hw : HW a0 Z) (C : Ctx Z cs d1 d2 o1 o2) (O0 : zOd Z n0 h0) (b : Addr) (ys : List Int8) (n : Nat) (A_b : zBt Z h0 b ys) (hn : n ≤ ys.length) (hM : ys.length < 10000000) (E_b : Exa Z h0 b "[B") : zCon l Z (⟨"java/util/Arrays", "copyOfRange", "([BII)[B"⟩ : MethodName) jdk_65_method_132_code 3 (some (.array .byte)) [] ({ frames := 2, cells := 1, slots := n, locals := 45 } : Room) #[(.ref b), (.int 0), (.int (Int32.ofNat (n)))] h0 (fun v h L => ∃ b2 : Addr, v = some (.ref b2) ∧ Fr n0 L ∧ Keep h0 h [] ∧ h0.size ≤ b2 ∧ n0 ≤ b2 ∧ Exa Z h b2 "[B" ∧ zBt Z h b2 (ys.take n)) := by
  refine zenter (plainFor_of_name pn_4) (L0 := #[rv b, iv 0, iv (Int32.ofNat (n))]) (H := ?_)
  intro p e s m below meth c T0 hx hZ hby hml hown0 hnm hret hlk X0 e0
  have hown : s.vm.findClass "java/util/Arrays" = some m.cls := hown0
  have K0 := Keep.refl h0 []
  have N0 := Fr.nil n0
  show zEnds p e below s T0 (mkF m 0 #[rv b, iv 0, iv (Int32.ofNat (n))] []) _ _ _
  refine ziloadN X0 hx hby d25_0 rfl (zifNo X0 hx hby d25_1 (by decide) (ziloadN X0 hx hby d25_4 rfl (zaloadN X0 hx hby d25_5 rfl rfl (zalenB X0 hx hby d25_6 hZ e0 A_b (ys.length) rfl ?_))))
  show zEnds p e below s T0 (mkF m 7 #[rv b, iv 0, iv (Int32.ofNat (n))] [(.int (Int32.ofNat (ys.length))), (.int (Int32.ofNat (n)))]) _ _ _
  by_cases hk : n = ys.length
  · refine zicmpYes X0 hx hby d25_7 17 (teq (show (Int32.ofNat (n)) = (Int32.ofNat (ys.length)) from by rw [zofN_eq (by omega) (by omega)]; omega)).1 (by decide) (by decide) (zaloadN X0 hx hby d25_17 rfl rfl (zcloneB X0 hx hby d25_18 hZ hown (w423 hw) (w424 hw) (w428 hw) (w426 hw) (w427 hw) (w429 hw) e0 A_b E_b (by first | omega | (simp only [List.length_replicate, List.length_append, List.length_take, List.length_drop, List.length_nil, List.length_cons]; omega)) hml 0 (by first | decide | omega | (dsimp only; omega)) (by first | decide | omega | (dsimp only; omega)) (fun T1 h1 b1 X1 e1 y1 Ex1 E1_b1 A1_b1 => ?_)))
    have K1 := Keep.ext K0 Ex1
    have g1 : n0 ≤ b1 := by rw [y1]; exact zodsz O0
    have z1 : h0.size ≤ b1 := by rw [y1]; exact K0.1
    show zEnds p e below s T1 (mkF m 21 #[rv b, iv 0, iv (Int32.ofNat (n))] [(.ref b1)]) _ _ _
    refine zcastok X1 hx hby d25_21 hZ hown (w430 hw) e1 (Ins.of_exa E1_b1 (w431 hw)) fun T2 X2 e2 => ?_
    show zEnds p e below s T2 (mkF m 24 #[rv b, iv 0, iv (Int32.ofNat (n))] [(.ref b1)]) _ _ _
    exact zretA X2 hx hby d25_24 hret hlk rfl rfl rfl (by first | decide | omega | (dsimp only; omega)) (by first | decide | omega | (dsimp only; omega)) (by rw [e2]; exact ⟨b1, rfl, N0, K1, z1, g1, E1_b1, by have q := A1_b1; rw [hk, List.take_length]; exact q⟩)
  · refine zicmpNo X0 hx hby d25_7 (feq (show ¬ ((Int32.ofNat (n)) = (Int32.ofNat (ys.length))) from by rw [zofN_eq (by omega) (by omega)]; omega)).1 (zaloadN X0 hx hby d25_10 rfl rfl (ziloadN X0 hx hby d25_11 rfl (ziloadN X0 hx hby d25_12 rfl (zcalls X0 hx hby d25_13 hZ hown (w249 hw) (w250 hw) (w147 hw) (w251 hw) e0 (c_crb l hw  C O0 b (ys) (n) A_b (by first | omega | (simp only [List.length_replicate, List.length_append, List.length_take, List.length_drop, List.length_nil, List.length_cons]; omega)) (by first | omega | (simp only [List.length_replicate, List.length_append, List.length_take, List.length_drop, List.length_nil, List.length_cons]; omega))) hml 0 pd_16 (argsL := [(.ref b), (.int 0), (.int (Int32.ofNat (n)))]) (st := []) fun T3 h3 v3 L3 e3 X3 q3 => ?_))))
    obtain ⟨b3, rfl, N3q, K3q, y3, g3, E3_b3, A3_b3⟩ := q3
    have K3 := Keep.trans K0 K3q all0
    have N3 := Fr.app N0 N3q
    have z3 : h0.size ≤ b3 := Nat.le_trans K0.1 y3
    show zEnds p e below s T3 (mkF m 16 #[rv b, iv 0, iv (Int32.ofNat (n))] [(.ref b3)]) _ _ _
    exact zretA X3 hx hby d25_16 hret hlk rfl rfl rfl (by first | decide | omega | (dsimp only; omega)) (by first | decide | omega | (dsimp only; omega)) (by rw [e3]; exact ⟨b3, rfl, N3, K3, z3, g3, E3_b3, by have q := A3_b3; exact q⟩)
theorem w76 (hw : HW a0 Z) : (Cond.initialized "java/lang/StringBuilder").before a0 Z = true := hwi hw 76 rfl
theorem w95 (hw : HW a0 Z) : (Cond.instantiable "java/lang/String" 4).before a0 Z = true := hwi hw 95 rfl
theorem w96 (hw : HW a0 Z) : (Cond.laysFinal "java/lang/String" "java/lang/String" "value" "[B").before a0 Z = true := hwi hw 96 rfl
theorem w97 (hw : HW a0 Z) : (Cond.laysFinal "java/lang/String" "java/lang/String" "coder" "B").before a0 Z = true := hwi hw 97 rfl
theorem w223 (hw : HW a0 Z) : (Cond.classLink "java/lang/StringBuilder" 18 "java/lang/String").before a0 Z = true := hwi hw 223 rfl
theorem w224 (hw : HW a0 Z) : (Cond.methodLink "java/lang/StringBuilder" 137 ⟨"java/lang/String", "<init>", "(Ljava/lang/StringBuilder;)V"⟩).before a0 Z = true := hwi hw 224 rfl
theorem w225 (hw : HW a0 Z) : (Cond.instanceMethod ⟨"java/lang/String", "<init>", "(Ljava/lang/StringBuilder;)V"⟩).before a0 Z = true := hwi hw 225 rfl
theorem w227 (hw : HW a0 Z) : (Cond.code ⟨"java/lang/String", "<init>", "(Ljava/lang/StringBuilder;)V"⟩ jdk_42_method_53_code 2 (Option.none : Option Jvm.ClassFile.FieldType)).before a0 Z = true := hwi hw 227 rfl
theorem w228 (hw : HW a0 Z) : (Cond.methodLink "java/lang/String" 489 ⟨"java/lang/String", "<init>", "(Ljava/lang/AbstractStringBuilder;Ljava/lang/Void;)V"⟩).before a0 Z = true := hwi hw 228 rfl
theorem w229 (hw : HW a0 Z) : (Cond.instanceMethod ⟨"java/lang/String", "<init>", "(Ljava/lang/AbstractStringBuilder;Ljava/lang/Void;)V"⟩).before a0 Z = true := hwi hw 229 rfl
theorem w230 (hw : HW a0 Z) : (Cond.code ⟨"java/lang/String", "<init>", "(Ljava/lang/AbstractStringBuilder;Ljava/lang/Void;)V"⟩ jdk_42_method_150_code 5 (Option.none : Option Jvm.ClassFile.FieldType)).before a0 Z = true := hwi hw 230 rfl
theorem w231 (hw : HW a0 Z) : (Cond.methodLink "java/lang/String" 1 ⟨"java/lang/Object", "<init>", "()V"⟩).before a0 Z = true := hwi hw 231 rfl
theorem w232 (hw : HW a0 Z) : (Cond.methodLink "java/lang/String" 552 ⟨"java/lang/AbstractStringBuilder", "getValue", "()[B"⟩).before a0 Z = true := hwi hw 232 rfl
theorem w233 (hw : HW a0 Z) : (Cond.declares ⟨"java/lang/AbstractStringBuilder", "getValue", "()[B"⟩).before a0 Z = true := hwi hw 233 rfl
theorem w234 (hw : HW a0 Z) : (Cond.instanceMethod ⟨"java/lang/AbstractStringBuilder", "getValue", "()[B"⟩).before a0 Z = true := hwi hw 234 rfl
theorem w235 (hw : HW a0 Z) : (Cond.selects "java/lang/StringBuilder" ⟨"java/lang/AbstractStringBuilder", "getValue", "()[B"⟩ ⟨"java/lang/AbstractStringBuilder", "getValue", "()[B"⟩).before a0 Z = true := hwi hw 235 rfl
theorem w236 (hw : HW a0 Z) : (Cond.code ⟨"java/lang/AbstractStringBuilder", "getValue", "()[B"⟩ jdk_68_method_64_code 1 (Option.some (FieldType.array FieldType.byte))).before a0 Z = true := hwi hw 236 rfl
theorem w237 (hw : HW a0 Z) : (Cond.methodLink "java/lang/String" 549 ⟨"java/lang/AbstractStringBuilder", "length", "()I"⟩).before a0 Z = true := hwi hw 237 rfl
theorem w238 (hw : HW a0 Z) : (Cond.declares ⟨"java/lang/AbstractStringBuilder", "length", "()I"⟩).before a0 Z = true := hwi hw 238 rfl
theorem w240 (hw : HW a0 Z) : (Cond.selects "java/lang/StringBuilder" ⟨"java/lang/AbstractStringBuilder", "length", "()I"⟩ ⟨"java/lang/StringBuilder", "length", "()I"⟩).before a0 Z = true := hwi hw 240 rfl
theorem w241 (hw : HW a0 Z) : (Cond.instanceMethod ⟨"java/lang/StringBuilder", "length", "()I"⟩).before a0 Z = true := hwi hw 241 rfl
theorem w242 (hw : HW a0 Z) : (Cond.code ⟨"java/lang/StringBuilder", "length", "()I"⟩ jdk_67_method_93_code 1 (Option.some FieldType.int)).before a0 Z = true := hwi hw 242 rfl
theorem w245 (hw : HW a0 Z) : (Cond.methodLink "java/lang/String" 1047 ⟨"java/lang/AbstractStringBuilder", "isLatin1", "()Z"⟩).before a0 Z = true := hwi hw 245 rfl
theorem w246 (hw : HW a0 Z) : (Cond.methodLink "java/lang/String" 54 ⟨"java/util/Arrays", "copyOfRange", "([BII)[B"⟩).before a0 Z = true := hwi hw 246 rfl
theorem w247 (hw : HW a0 Z) : (Cond.static ⟨"java/util/Arrays", "copyOfRange", "([BII)[B"⟩).before a0 Z = true := hwi hw 247 rfl
theorem w248 (hw : HW a0 Z) : (Cond.code ⟨"java/util/Arrays", "copyOfRange", "([BII)[B"⟩ jdk_65_method_132_code 3 (Option.some (FieldType.array FieldType.byte))).before a0 Z = true := hwi hw 248 rfl
theorem d26_0 : decode jdk_42_method_150_code 0 = .ok (.aload_n 0, 1) := by decide +kernel
theorem d26_1 : decode jdk_42_method_150_code 1 = .ok (.invokespecial 1, 3) := by decide +kernel
theorem d26_4 : decode jdk_42_method_150_code 4 = .ok (.aload_n 1, 1) := by decide +kernel
theorem d26_5 : decode jdk_42_method_150_code 5 = .ok (.invokevirtual 552, 3) := by decide +kernel
theorem d26_8 : decode jdk_42_method_150_code 8 = .ok (.astore_n 3, 1) := by decide +kernel
theorem d26_9 : decode jdk_42_method_150_code 9 = .ok (.aload_n 1, 1) := by decide +kernel
theorem d26_10 : decode jdk_42_method_150_code 10 = .ok (.invokevirtual 549, 3) := by decide +kernel
theorem d26_13 : decode jdk_42_method_150_code 13 = .ok (.istore 4, 2) := by decide +kernel
theorem d26_15 : decode jdk_42_method_150_code 15 = .ok (.aload_n 1, 1) := by decide +kernel
theorem d26_16 : decode jdk_42_method_150_code 16 = .ok (.invokevirtual 1047, 3) := by decide +kernel
theorem d26_19 : decode jdk_42_method_150_code 19 = .ok (.ifCond .eq 22, 3) := by decide +kernel
theorem d26_22 : decode jdk_42_method_150_code 22 = .ok (.aload_n 0, 1) := by decide +kernel
theorem d26_23 : decode jdk_42_method_150_code 23 = .ok (.iconst 0, 1) := by decide +kernel
theorem d26_24 : decode jdk_42_method_150_code 24 = .ok (.putfield 15, 3) := by decide +kernel
theorem d26_27 : decode jdk_42_method_150_code 27 = .ok (.aload_n 0, 1) := by decide +kernel
theorem d26_28 : decode jdk_42_method_150_code 28 = .ok (.aload_n 3, 1) := by decide +kernel
theorem d26_29 : decode jdk_42_method_150_code 29 = .ok (.iconst 0, 1) := by decide +kernel
theorem d26_30 : decode jdk_42_method_150_code 30 = .ok (.iload 4, 2) := by decide +kernel
theorem d26_32 : decode jdk_42_method_150_code 32 = .ok (.invokestatic 54, 3) := by decide +kernel
theorem d26_35 : decode jdk_42_method_150_code 35 = .ok (.putfield 9, 3) := by decide +kernel
theorem d26_38 : decode jdk_42_method_150_code 38 = .ok (.goto 59, 3) := by decide +kernel
theorem d26_97 : decode jdk_42_method_150_code 97 = .ok (.return_, 1) := by decide +kernel
theorem d27_0 : decode jdk_42_method_53_code 0 = .ok (.aload_n 0, 1) := by decide +kernel
theorem d27_1 : decode jdk_42_method_53_code 1 = .ok (.aload_n 1, 1) := by decide +kernel
theorem d27_2 : decode jdk_42_method_53_code 2 = .ok (.aconst_null, 1) := by decide +kernel
theorem d27_3 : decode jdk_42_method_53_code 3 = .ok (.invokespecial 489, 3) := by decide +kernel
theorem d27_6 : decode jdk_42_method_53_code 6 = .ok (.return_, 1) := by decide +kernel
theorem d28_0 : decode jdk_67_method_42_code 0 = .ok (.new 18, 3) := by decide +kernel
theorem d28_3 : decode jdk_67_method_42_code 3 = .ok (.dup, 1) := by decide +kernel
theorem d28_4 : decode jdk_67_method_42_code 4 = .ok (.aload_n 0, 1) := by decide +kernel
theorem d28_5 : decode jdk_67_method_42_code 5 = .ok (.invokespecial 137, 3) := by decide +kernel
theorem d28_8 : decode jdk_67_method_42_code 8 = .ok (.areturn, 1) := by decide +kernel
theorem pd_17 : parseMethodDescriptor "()[B" = some ⟨[], some (.array .byte)⟩ := by decide +kernel
theorem pd_18 : parseMethodDescriptor "(Ljava/lang/AbstractStringBuilder;Ljava/lang/Void;)V" = some ⟨[(.object "java/lang/AbstractStringBuilder"), (.object "java/lang/Void")], none⟩ := by decide +kernel
theorem pd_19 : parseMethodDescriptor "(Ljava/lang/StringBuilder;)V" = some ⟨[(.object "java/lang/StringBuilder")], none⟩ := by decide +kernel
theorem c_str0 (hw : HW a0 Z) (C : Ctx Z cs d1 d2 o1 o2) (O0 : zOd Z n0 h0) (t : Addr) (E_t : Exa Z h0 t "java/lang/String") (F_t_v : Fld Z h0 t "java/lang/String" "value" "[B" .null) (F_t_c : Fld Z h0 t "java/lang/String" "coder" "B" (.int 0)) (g_t : n0 ≤ t) (a b : Addr) (bs : List Int8) (cap : Nat) (B0 : Sb Z h0 a b bs cap) (hC : cap < 400000) (ne_ta : t ≠ a) (ne_tb : t ≠ b) : zCon l Z (⟨"java/lang/String", "<init>", "(Ljava/lang/AbstractStringBuilder;Ljava/lang/Void;)V"⟩ : MethodName) jdk_42_method_150_code 5 none [] ({ frames := 3, cells := 1, slots := bs.length, locals := 60 } : Room) #[(.ref t), (.ref a), .null] h0 (fun v h L => v = none ∧ Fr n0 L ∧ Keep h0 h [t] ∧ ∃ x : Addr, Sx Z h t x bs ∧ n0 ≤ x ∧ h0.size ≤ x) := by
  refine zenter (plainFor_of_name pn_0) (L0 := #[rv t, rv a, .val .null, .unset, .unset]) (H := ?_)
  intro p e s m below meth c T0 hx hZ hby hml hown0 hnm hret hlk X0 e0
  have hown : s.vm.findClass "java/lang/String" = some m.cls := hown0
  have K0 := Keep.refl h0 [t]
  have N0 := Fr.nil n0
  obtain ⟨jk, ⟨E_a, F_a_v, F_a_c, F_a_n, A_b, E_b, ne_ab⟩, rfl⟩ := id B0
  have hbs : bs.length ≤ (bs ++ jk).length := by rw [List.length_append]; omega
  show zEnds p e below s T0 (mkF m 0 #[rv t, rv a, .val .null, .unset, .unset] []) _ _ _
  refine zaloadN X0 hx hby d26_0 rfl rfl (zobjinit X0 hx hby d26_1 hZ hown (w231 hw) (w20 hw) (w21 hw) e0 hml 0 (fun T1 X1 e1 => ?_))
  refine zaloadN X1 hx hby d26_4 rfl rfl (zcallv X1 hx hby d26_5 hZ hown (w232 hw) (w233 hw) (notFace_of_selects (args := #[]) (mvT hZ (w235 hw))) (w235 hw) (w234 hw) (w236 hw) (w84 hw) e1 E_a (c_value l hw  C O0 a b (bs.length) (bs ++ jk) ⟨E_a, F_a_v, F_a_c, F_a_n, A_b, E_b, ne_ab⟩) hml 0 pd_17 (argsL := []) (st := []) (zpureK ⟨rfl, rfl⟩ fun T2 X2 e2 => ?_))
  refine zastoreN X2 hx hby d26_8 (hv := rfl) (L' := #[rv t, rv a, .val .null, rv b, .unset]) rfl (zaloadN X2 hx hby d26_9 rfl rfl (zcallv X2 hx hby d26_10 hZ hown (w237 hw) (w238 hw) (znf_warm (w239 hw) (nfASB hw (w239 hw) rfl) hZ) (w240 hw) (w241 hw) (w242 hw) (w76 hw) e2 E_a (c_blen l hw  C O0 a b (bs.length) (bs ++ jk) ⟨E_a, F_a_v, F_a_c, F_a_n, A_b, E_b, ne_ab⟩) hml 0 pd_1 (argsL := []) (st := []) (zpureK ⟨rfl, rfl⟩ fun T3 X3 e3 => ?_)))
  refine zistore X3 hx hby d26_13 (L' := #[rv t, rv a, .val .null, rv b, iv (Int32.ofNat (bs.length))]) rfl (zaloadN X3 hx hby d26_15 rfl rfl (zcallv X3 hx hby d26_16 hZ hown (w245 hw) (w188 hw) (notFace_of_selects (args := #[]) (mvT hZ (w190 hw))) (w190 hw) (w189 hw) (w191 hw) (w84 hw) e3 E_a (c_latin l hw  C O0 a b (bs.length) (bs ++ jk) ⟨E_a, F_a_v, F_a_c, F_a_n, A_b, E_b, ne_ab⟩) hml 0 pd_12 (argsL := []) (st := []) (zpureK ⟨rfl, rfl⟩ fun T4 X4 e4 => ?_)))
  refine zifNo X4 hx hby d26_19 (by decide) (zaloadN X4 hx hby d26_22 rfl rfl (ziconst X4 hx hby d26_23 (z := (0 : Int32)) rfl (zputfld X4 hx hby d26_24 hZ hown (host := "") (Or.inl (w122 hw)) Via.refl e4 F_t_c E_t (Or.inr ⟨(w97 hw), rfl, hnm⟩) (w95 hw) (ty := .byte) (by decide) rfl rfl fun T5 h5 X5 e5 W5 => ?_)))
  have F5_t_coder : Fld Z h5 t "java/lang/String" "coder" "B" (.int 0) := F_t_c.same W5
  have F5_t_value := F_t_v.other W5 (Or.inr (slot_ne (Or.inr (w96 hw)) (Or.inr (w97 hw)) (by decide) (t := (.array .byte)) (t' := .byte) (by decide) (by decide)))
  have E5_t := E_t.wr W5
  have E5_b := E_b.wr W5
  have A5_b := A_b.other W5 (Ne.symm ne_tb)
  have O5 := O0.wr W5 g_t
  have K5 := Keep.wr K0 W5 (Or.inl (List.mem_of_getElem? (i := 0) rfl))
  have N5 := Fr.snoc X5 N0 g_t
  refine zaloadN X5 hx hby d26_27 rfl rfl (zaloadN X5 hx hby d26_28 rfl rfl (ziconst X5 hx hby d26_29 (z := (0 : Int32)) rfl (ziload X5 hx hby d26_30 rfl (zcalls X5 hx hby d26_32 hZ hown (w246 hw) (w247 hw) (w147 hw) (w248 hw) e5 (c_cr l hw  C O5 b (bs ++ jk) (bs.length) A5_b (by first | omega | (simp only [List.length_replicate, List.length_append, List.length_take, List.length_drop, List.length_nil, List.length_cons]; omega)) (by first | omega | (simp only [List.length_replicate, List.length_append, List.length_take, List.length_drop, List.length_nil, List.length_cons]; omega)) E5_b) hml 1 pd_16 (argsL := [(.ref b), (.int 0), (.int (Int32.ofNat (bs.length)))]) (st := [(.ref t)]) fun T6 h6 v6 L6 e6 X6 q6 => ?_))))
  obtain ⟨b6, rfl, N6q, K6q, y6, g6, E6_b6, A6_b6⟩ := q6
  have F6_t_value := F5_t_value.keep K6q nin0
  have F6_t_coder := F5_t_coder.keep K6q nin0
  have E6_t := E5_t.keep K6q
  have K6 := Keep.trans K5 K6q all0
  have N6 := Fr.app N5 N6q
  have z6 : h0.size ≤ b6 := Nat.le_trans K5.1 y6
  have ne6_t : t ≠ b6 := Nat.ne_of_lt (Nat.lt_of_lt_of_le E5_t.lt y6)
  show zEnds p e below s T6 (mkF m 35 #[rv t, rv a, .val .null, rv b, iv (Int32.ofNat (bs.length))] [(.ref b6), (.ref t)]) _ _ _
  refine zputfld X6 hx hby d26_35 hZ hown (host := "") (Or.inl (w115 hw)) Via.refl e6 F6_t_value E6_t (Or.inr ⟨(w96 hw), rfl, hnm⟩) (w95 hw) (ty := (.array .byte)) (by decide) rfl rfl fun T7 h7 X7 e7 W7 => ?_
  have F7_t_value : Fld Z h7 t "java/lang/String" "value" "[B" (.ref b6) := F6_t_value.same W7
  have F7_t_coder := F6_t_coder.other W7 (Or.inr (slot_ne (Or.inr (w97 hw)) (Or.inr (w96 hw)) (by decide) (t := .byte) (t' := (.array .byte)) (by decide) (by decide)))
  have E7_t := E6_t.wr W7
  have A7_b6 := A6_b6.other W7 (Ne.symm ne6_t)
  have K7 := Keep.wr K6 W7 (Or.inl (List.mem_of_getElem? (i := 0) rfl))
  have N7 := Fr.snoc X7 N6 g_t
  refine zgoto X7 hx hby d26_38 97 (by decide) (by decide) ?_
  show zEnds p e below s T7 (mkF m 97 #[rv t, rv a, .val .null, rv b, iv (Int32.ofNat (bs.length))] []) _ _ _
  exact zretV X7 hx hby d26_97 hret hlk (by first | decide | omega | (dsimp only; omega)) (by first | decide | omega | (dsimp only; omega)) (by rw [e7]; exact ⟨rfl, N7, K7, b6, ⟨E7_t, F7_t_value, F7_t_coder, by have q := A7_b6; rw [List.take_left] at q; exact q⟩, g6, z6⟩)
theorem c_str1 (hw : HW a0 Z) (C : Ctx Z cs d1 d2 o1 o2) (O0 : zOd Z n0 h0) (t : Addr) (E_t : Exa Z h0 t "java/lang/String") (F_t_v : Fld Z h0 t "java/lang/String" "value" "[B" .null) (F_t_c : Fld Z h0 t "java/lang/String" "coder" "B" (.int 0)) (g_t : n0 ≤ t) (a b : Addr) (bs : List Int8) (cap : Nat) (B0 : Sb Z h0 a b bs cap) (hC : cap < 400000) (ne_ta : t ≠ a) (ne_tb : t ≠ b) : zCon l Z (⟨"java/lang/String", "<init>", "(Ljava/lang/StringBuilder;)V"⟩ : MethodName) jdk_42_method_53_code 2 none [] ({ frames := 4, cells := 1, slots := bs.length, locals := 76 } : Room) #[(.ref t), (.ref a)] h0 (fun v h L => v = none ∧ Fr n0 L ∧ Keep h0 h [t] ∧ ∃ x : Addr, Sx Z h t x bs ∧ n0 ≤ x ∧ h0.size ≤ x) := by
  refine zenter (plainFor_of_name pn_0) (L0 := #[rv t, rv a]) (H := ?_)
  intro p e s m below meth c T0 hx hZ hby hml hown0 hnm hret hlk X0 e0
  have hown : s.vm.findClass "java/lang/String" = some m.cls := hown0
  have K0 := Keep.refl h0 [t]
  have N0 := Fr.nil n0
  show zEnds p e below s T0 (mkF m 0 #[rv t, rv a] []) _ _ _
  refine zaloadN X0 hx hby d27_0 rfl rfl (zaloadN X0 hx hby d27_1 rfl rfl (zaconstNull X0 hx hby d27_2 (zcallsp X0 hx hby d27_3 hZ hown rfl (w228 hw) (w229 hw) (w230 hw) (w88 hw) e0 (c_str0 l hw  C O0 t E_t F_t_v F_t_c g_t a b (bs) cap B0 (by first | omega | (simp only [List.length_replicate, List.length_append, List.length_take, List.length_drop, List.length_nil, List.length_cons]; omega)) ne_ta ne_tb) hml 0 pd_18 (argsL := [(.ref a), .null]) (st := []) fun T1 h1 v1 L1 e1 X1 q1 => ?_)))
  obtain ⟨rfl, N1q, K1q, x1, B1_t, g1_x, y1⟩ := q1
  have K1 := Keep.trans K0 K1q (allS (Or.inl (List.mem_of_getElem? (i := 0) rfl)) all0)
  have N1 := Fr.app N0 N1q
  show zEnds p e below s T1 (mkF m 6 #[rv t, rv a] []) _ _ _
  exact zretV X1 hx hby d27_6 hret hlk (by first | decide | omega | (dsimp only; omega)) (by first | decide | omega | (dsimp only; omega)) (by rw [e1]; exact ⟨rfl, N1, K1, x1, B1_t, g1_x, y1⟩)
theorem Sb.ext {Z : State} {h h' : Heap} {a b : Addr} {bs : List Int8} {cap : Nat} (B : Sb Z h a b bs cap) (E : Ext h h') : Sb Z h' a b bs cap := by obtain ⟨jk, ⟨q1, q2, q3, q4, q5, q6, q7⟩, q8⟩ := B; exact ⟨jk, ⟨q1.ext E, q2.ext E, q3.ext E, q4.ext E, q5.ext E, q6.ext E, q7⟩, q8⟩
theorem Sb.lt {Z : State} {h : Heap} {a b : Addr} {bs : List Int8} {cap : Nat} (B : Sb Z h a b bs cap) : b < h.size := by obtain ⟨jk, ⟨q1, q2, q3, q4, q5, q6, q7⟩, q8⟩ := B; exact q5.lt
theorem c_tos (hw : HW a0 Z) (C : Ctx Z cs d1 d2 o1 o2) (O0 : zOd Z n0 h0) (a b : Addr) (bs : List Int8) (cap : Nat) (B0 : Sb Z h0 a b bs cap) (hC : cap < 400000) : zCon l Z (⟨"java/lang/StringBuilder", "toString", "()Ljava/lang/String;"⟩ : MethodName) jdk_67_method_42_code 1 (some (.object "java/lang/String")) [] ({ frames := 5, cells := 2, slots := bs.length + 4, locals := 90 } : Room) #[(.ref a)] h0 (fun v h L => ∃ t x : Addr, v = some (.ref t) ∧ Fr n0 L ∧ Keep h0 h [] ∧ Sx Z h t x bs ∧ n0 ≤ t ∧ n0 ≤ x ∧ h0.size ≤ t ∧ h0.size ≤ x) := by
  refine zenter (plainFor_of_name pn_2) (L0 := #[rv a]) (H := ?_)
  intro p e s m below meth c T0 hx hZ hby hml hown0 hnm hret hlk X0 e0
  have hown : s.vm.findClass "java/lang/StringBuilder" = some m.cls := hown0
  have K0 := Keep.refl h0 []
  have N0 := Fr.nil n0
  show zEnds p e below s T0 (mkF m 0 #[rv a] []) _ _ _
  refine znewobj X0 hx hby d28_0 hZ hown (w223 hw) (w95 hw) (w88 hw) e0 (by first | decide | omega | (dsimp only; omega)) (by first | decide | omega | (dsimp only; omega)) fun T1 h1 b1 X1 e1 y1 Ex1 E1_b1 D1 => ?_
  have O1 := O0.ext Ex1
  have K1 := Keep.ext K0 Ex1
  have ne1_a : a ≠ b1 := Nat.ne_of_lt (Nat.lt_of_lt_of_eq (Sb.exa B0).lt y1.symm)
  have g1 : n0 ≤ b1 := by rw [y1]; exact zodsz O0
  have z1 : h0.size ≤ b1 := by rw [y1]; exact K0.1
  have F1_b1_value : Fld Z h1 b1 "java/lang/String" "value" "[B" .null := D1 (Or.inr (w96 hw)) (ty := (.array .byte)) (by decide)
  have F1_b1_coder : Fld Z h1 b1 "java/lang/String" "coder" "B" (.int 0) := D1 (Or.inr (w97 hw)) (ty := .byte) (by decide)
  show zEnds p e below s T1 (mkF m 3 #[rv a] [(.ref b1)]) _ _ _
  have ne_tb : b1 ≠ b := Nat.ne_of_gt (Nat.lt_of_lt_of_eq B0.lt y1.symm)
  refine zdup X1 hx hby d28_3 rfl (zaloadN X1 hx hby d28_4 rfl rfl (zcallsp X1 hx hby d28_5 hZ hown rfl (w224 hw) (w225 hw) (w227 hw) (w88 hw) e1 (c_str1 l hw  C O1 b1 E1_b1 F1_b1_value F1_b1_coder g1 a b (bs) cap (B0.ext Ex1) (by first | omega | (simp only [List.length_replicate, List.length_append, List.length_take, List.length_drop, List.length_nil, List.length_cons]; omega)) (Ne.symm ne1_a) ne_tb) hml 1 pd_19 (argsL := [(.ref a)]) (st := [(.ref b1)]) fun T2 h2 v2 L2 e2 X2 q2 => ?_))
  obtain ⟨rfl, N2q, K2q, x2, B2_t, g2_x, y2⟩ := q2
  have K2 := Keep.trans K1 K2q (allS (Or.inr z1) all0)
  have N2 := Fr.app N0 N2q
  show zEnds p e below s T2 (mkF m 8 #[rv a] [(.ref b1)]) _ _ _
  exact zretA X2 hx hby d28_8 hret hlk rfl rfl rfl (by first | decide | omega | (dsimp only; omega)) (by first | decide | omega | (dsimp only; omega)) (by rw [e2]; exact ⟨b1, x2, rfl, N2, K2, B2_t, g1, g2_x, z1, Nat.le_trans K1.1 y2⟩)
theorem w47 (hw : HW a0 Z) : (Cond.superclass "java/util/ArrayList" "java/util/AbstractList").before a0 Z = true := hwi hw 47 rfl
theorem w48 (hw : HW a0 Z) : (Cond.superclass "java/util/AbstractList" "java/util/AbstractCollection").before a0 Z = true := hwi hw 48 rfl
theorem w49 (hw : HW a0 Z) : (Cond.superclass "java/util/AbstractCollection" "java/lang/Object").before a0 Z = true := hwi hw 49 rfl
theorem w50 (hw : HW a0 Z) : (Cond.noSuperclass "java/lang/Object").before a0 Z = true := hwi hw 50 rfl
def Ctx2 (Z : State) (wd wl we em mo : Addr) : Prop := Sta Z Z.heap "java/util/ArrayList" "DEFAULTCAPACITY_EMPTY_ELEMENTDATA" "[Ljava/lang/Object;" (.ref wd) ∧ zLst Z Z.heap wd (.object "java/lang/Object") [] ∧ Sta Z Z.heap "java/util/ImmutableCollections" "EMPTY_LIST" "Ljava/util/ImmutableCollections$ListN;" (.ref wl) ∧ Exa Z Z.heap wl "java/util/ImmutableCollections$ListN" ∧ Fld Z Z.heap wl "java/util/ImmutableCollections$ListN" "elements" "[Ljava/lang/Object;" (.ref we) ∧ Exa Z Z.heap we "[Ljava/lang/Object;" ∧ zLst Z Z.heap we (.object "java/lang/Object") [] ∧ Sta Z Z.heap "java/util/ImmutableCollections" "EMPTY" "Ljava/lang/Object;" (.ref em) ∧ Exa Z Z.heap em "java/lang/Object" ∧ zMir Z "[Ljava/lang/Object;" mo
theorem chainAL (hw : HW a0 Z) : ∀ w ∈ Cond.chainWords ["java/util/ArrayList", "java/util/AbstractList", "java/util/AbstractCollection", "java/lang/Object"], w.before a0 Z = true := by
  intro w h
  simp only [Cond.chainWords, List.mem_cons, List.not_mem_nil, or_false] at h
  rcases h with rfl | rfl | rfl | rfl
  · exact (w47 hw)
  · exact (w48 hw)
  · exact (w49 hw)
  · exact (w50 hw)
def cs8 (b : Int8) : Bool := decide ((b.toInt32 &&& 255).toUInt32.toUInt16.toUInt32.toInt32 = b.toInt32)
theorem cs8_e {b : Int8} (h : cs8 b = true) : (b.toInt32 &&& 255).toUInt32.toUInt16.toUInt32.toInt32 = b.toInt32 := of_decide_eq_true h
theorem cs8_n {b : Int8} (h : cs8 b = true) : narrow .char (.int b.toInt32) = .int b.toInt32 := by rw [← cs8_e h]; exact Jvm.Free.XT.narrow_c _
theorem cs8_dg {d : Nat} (h : d < 10) : cs8 (dg d) = true := by
  have q : d = 0 ∨ d = 1 ∨ d = 2 ∨ d = 3 ∨ d = 4 ∨ d = 5 ∨ d = 6 ∨ d = 7 ∨ d = 8 ∨ d = 9 := by omega
  rcases q with rfl | rfl | rfl | rfl | rfl | rfl | rfl | rfl | rfl | rfl <;> decide
theorem dgN {d : Nat} (h : d < 10) : (dg d).toInt32 = Int32.ofNat (48 + d) := by
  have q : d = 0 ∨ d = 1 ∨ d = 2 ∨ d = 3 ∨ d = 4 ∨ d = 5 ∨ d = 6 ∨ d = 7 ∨ d = 8 ∨ d = 9 := by omega
  rcases q with rfl | rfl | rfl | rfl | rfl | rfl | rfl | rfl | rfl | rfl <;> decide
theorem i2c_ofN {k : Nat} (h : k < 65536) : (Int32.ofNat k).toUInt32.toUInt16.toUInt32.toInt32 = Int32.ofNat k := by
  apply Int32.toInt_inj.mp
  rw [zofN_toInt (by omega)]
  have e : (Int32.ofNat k).toUInt32 = UInt32.ofNat k := rfl
  rw [e]
  have e2 : (UInt32.ofNat k).toUInt16.toUInt32 = UInt32.ofNat k := by
    apply UInt32.toNat_inj.mp
    simp
    omega
  rw [e2]
  exact zofN_toInt (by omega)
theorem lcmp_0 (x y : Int64) : (lcmpW x y = (0 : Int32)) = (x = y) := by
  refine propext ⟨fun h => ?_, fun h => by subst h; unfold lcmpW; rw [if_neg (fun q => Int64.lt_irrefl q), if_pos rfl]⟩
  unfold lcmpW at h
  split at h
  · exact absurd h (by decide)
  · split at h
    · assumption
    · exact absurd h (by decide)
theorem ofL_eq {a b : Nat} (qa : a < 9223372036854775808) (qb : b < 9223372036854775808) : (Int64.ofNat a = Int64.ofNat b) = (a = b) := by
  refine propext ⟨fun q => ?_, fun q => by rw [q]⟩
  have := congrArg Int64.toInt q
  rw [ofL_toInt qa, ofL_toInt qb] at this; omega
theorem ofL_div {n : Nat} (h : n < 9223372036854775808) : Int64.ofNat n / 10 = Int64.ofNat (n / 10) := by
  apply Int64.toInt_inj.mp
  rw [Int64.toInt_div_of_ne_right _ _ (by decide), ofL_toInt h, ofL_toInt (by omega)]
  show (n : Int).tdiv 10 = _
  rw [Int.tdiv_eq_ediv_of_nonneg (by omega)]; omega
theorem ofL_mod {n : Nat} (h : n < 9223372036854775808) : Int64.ofNat n % 10 = Int64.ofNat (n % 10) := by
  apply Int64.toInt_inj.mp
  rw [Int64.toInt_mod, ofL_toInt h, ofL_toInt (by omega)]
  show (n : Int).tmod 10 = _
  rw [Int.tmod_eq_emod_of_nonneg (by omega)]; omega
def nz (n : Nat) : Nat := if n = 0 then 0 else 1
theorem nz_0 {n : Nat} (h : n = 0) : nz n = 0 := if_pos h
theorem nz_1 {n : Nat} (h : ¬ n = 0) : nz n = 1 := if_neg h
def nds : Nat → Nat → Nat
  | 0, _ => 0
  | k + 1, n => nz (n / 10) + nds k (n / 10)
theorem nds_0 : ∀ k, nds k 0 = 0
  | 0 => rfl
  | k + 1 => by rw [nds, Nat.zero_div, nds_0 k]; rfl
theorem nds_dec : ∀ (k n : Nat), n < 10 ^ (k + 1) → (dec n).length = 1 + nds k n
  | 0, n, h => by rw [dec_lt (by omega)]; rfl
  | k + 1, n, h => by
    rw [nds]
    by_cases q : n < 10
    · rw [dec_lt q, show n / 10 = 0 from by omega, nds_0, nz_0 rfl]; rfl
    · have h2 : n / 10 < 10 ^ (k + 1) := by rw [Nat.div_lt_iff_lt_mul (by omega), ← Nat.pow_succ]; exact h
      rw [dec_ge q, List.length_append, nds_dec k (n / 10) h2, nz_1 (by omega)]
      show _ + 1 = _
      omega
theorem w276 (hw : HW a0 Z) : (Cond.methodLink "java/lang/String" 492 ⟨"java/lang/String", "isLatin1", "()Z"⟩).before a0 Z = true := hwi hw 276 rfl
theorem w277 (hw : HW a0 Z) : (Cond.declares ⟨"java/lang/String", "isLatin1", "()Z"⟩).before a0 Z = true := hwi hw 277 rfl
theorem w278 (hw : HW a0 Z) : (Cond.instanceMethod ⟨"java/lang/String", "isLatin1", "()Z"⟩).before a0 Z = true := hwi hw 278 rfl
theorem w279 (hw : HW a0 Z) : (Cond.selects "java/lang/String" ⟨"java/lang/String", "isLatin1", "()Z"⟩ ⟨"java/lang/String", "isLatin1", "()Z"⟩).before a0 Z = true := hwi hw 279 rfl
theorem w280 (hw : HW a0 Z) : (Cond.code ⟨"java/lang/String", "isLatin1", "()Z"⟩ jdk_42_method_154_code 1 (Option.some FieldType.boolean)).before a0 Z = true := hwi hw 280 rfl
theorem w281 (hw : HW a0 Z) : (Cond.methodLink "java/lang/String" 495 ⟨"java/lang/StringLatin1", "charAt", "([BI)C"⟩).before a0 Z = true := hwi hw 281 rfl
theorem w282 (hw : HW a0 Z) : (Cond.static ⟨"java/lang/StringLatin1", "charAt", "([BI)C"⟩).before a0 Z = true := hwi hw 282 rfl
theorem w283 (hw : HW a0 Z) : (Cond.initialized "java/lang/StringLatin1").before a0 Z = true := hwi hw 283 rfl
theorem w284 (hw : HW a0 Z) : (Cond.code ⟨"java/lang/StringLatin1", "charAt", "([BI)C"⟩ jdk_43_method_2_code 2 (Option.some FieldType.char)).before a0 Z = true := hwi hw 284 rfl
theorem w285 (hw : HW a0 Z) : (Cond.methodLink "java/lang/StringLatin1" 9 ⟨"java/lang/String", "checkIndex", "(II)V"⟩).before a0 Z = true := hwi hw 285 rfl
theorem w286 (hw : HW a0 Z) : (Cond.static ⟨"java/lang/String", "checkIndex", "(II)V"⟩).before a0 Z = true := hwi hw 286 rfl
theorem w287 (hw : HW a0 Z) : (Cond.code ⟨"java/lang/String", "checkIndex", "(II)V"⟩ jdk_42_method_155_code 2 (Option.none : Option Jvm.ClassFile.FieldType)).before a0 Z = true := hwi hw 287 rfl
theorem w288 (hw : HW a0 Z) : (Cond.fieldLink "java/lang/String" 1053 "jdk/internal/util/Preconditions" "SIOOBE_FORMATTER" "Ljava/util/function/BiFunction;").before a0 Z = true := hwi hw 288 rfl
theorem w289 (hw : HW a0 Z) : (Cond.initialized "jdk/internal/util/Preconditions").before a0 Z = true := hwi hw 289 rfl
theorem w290 (hw : HW a0 Z) : (Cond.methodLink "java/lang/String" 1059 ⟨"jdk/internal/util/Preconditions", "checkIndex", "(IILjava/util/function/BiFunction;)I"⟩).before a0 Z = true := hwi hw 290 rfl
theorem w291 (hw : HW a0 Z) : (Cond.static ⟨"jdk/internal/util/Preconditions", "checkIndex", "(IILjava/util/function/BiFunction;)I"⟩).before a0 Z = true := hwi hw 291 rfl
theorem w292 (hw : HW a0 Z) : (Cond.code ⟨"jdk/internal/util/Preconditions", "checkIndex", "(IILjava/util/function/BiFunction;)I"⟩ jdk_41_method_11_code 3 (Option.some FieldType.int)).before a0 Z = true := hwi hw 292 rfl
theorem d30_0 : decode jdk_41_method_11_code 0 = .ok (.iload_n 0, 1) := by decide +kernel
theorem d30_1 : decode jdk_41_method_11_code 1 = .ok (.ifCond .lt 8, 3) := by decide +kernel
theorem d30_4 : decode jdk_41_method_11_code 4 = .ok (.iload_n 0, 1) := by decide +kernel
theorem d30_5 : decode jdk_41_method_11_code 5 = .ok (.iload_n 1, 1) := by decide +kernel
theorem d30_6 : decode jdk_41_method_11_code 6 = .ok (.if_icmp .lt 10, 3) := by decide +kernel
theorem d30_16 : decode jdk_41_method_11_code 16 = .ok (.iload_n 0, 1) := by decide +kernel
theorem d30_17 : decode jdk_41_method_11_code 17 = .ok (.ireturn, 1) := by decide +kernel
theorem d29_0 : decode jdk_42_method_154_code 0 = .ok (.getstatic 38, 3) := by decide +kernel
theorem d29_3 : decode jdk_42_method_154_code 3 = .ok (.ifCond .eq 14, 3) := by decide +kernel
theorem d29_6 : decode jdk_42_method_154_code 6 = .ok (.aload_n 0, 1) := by decide +kernel
theorem d29_7 : decode jdk_42_method_154_code 7 = .ok (.getfield 15, 3) := by decide +kernel
theorem d29_10 : decode jdk_42_method_154_code 10 = .ok (.ifCond .ne 7, 3) := by decide +kernel
theorem d29_13 : decode jdk_42_method_154_code 13 = .ok (.iconst 1, 1) := by decide +kernel
theorem d29_14 : decode jdk_42_method_154_code 14 = .ok (.goto 4, 3) := by decide +kernel
theorem d29_18 : decode jdk_42_method_154_code 18 = .ok (.ireturn, 1) := by decide +kernel
theorem d31_0 : decode jdk_42_method_155_code 0 = .ok (.iload_n 0, 1) := by decide +kernel
theorem d31_1 : decode jdk_42_method_155_code 1 = .ok (.iload_n 1, 1) := by decide +kernel
theorem d31_2 : decode jdk_42_method_155_code 2 = .ok (.getstatic 1053, 3) := by decide +kernel
theorem d31_5 : decode jdk_42_method_155_code 5 = .ok (.invokestatic 1059, 3) := by decide +kernel
theorem d31_8 : decode jdk_42_method_155_code 8 = .ok (.pop, 1) := by decide +kernel
theorem d31_9 : decode jdk_42_method_155_code 9 = .ok (.return_, 1) := by decide +kernel
theorem d33_0 : decode jdk_42_method_56_code 0 = .ok (.aload_n 0, 1) := by decide +kernel
theorem d33_1 : decode jdk_42_method_56_code 1 = .ok (.invokevirtual 492, 3) := by decide +kernel
theorem d33_4 : decode jdk_42_method_56_code 4 = .ok (.ifCond .eq 12, 3) := by decide +kernel
theorem d33_7 : decode jdk_42_method_56_code 7 = .ok (.aload_n 0, 1) := by decide +kernel
theorem d33_8 : decode jdk_42_method_56_code 8 = .ok (.getfield 9, 3) := by decide +kernel
theorem d33_11 : decode jdk_42_method_56_code 11 = .ok (.iload_n 1, 1) := by decide +kernel
theorem d33_12 : decode jdk_42_method_56_code 12 = .ok (.invokestatic 495, 3) := by decide +kernel
theorem d33_15 : decode jdk_42_method_56_code 15 = .ok (.ireturn, 1) := by decide +kernel
theorem d32_0 : decode jdk_43_method_2_code 0 = .ok (.iload_n 1, 1) := by decide +kernel
theorem d32_1 : decode jdk_43_method_2_code 1 = .ok (.aload_n 0, 1) := by decide +kernel
theorem d32_2 : decode jdk_43_method_2_code 2 = .ok (.arraylength, 1) := by decide +kernel
theorem d32_3 : decode jdk_43_method_2_code 3 = .ok (.invokestatic 9, 3) := by decide +kernel
theorem d32_6 : decode jdk_43_method_2_code 6 = .ok (.aload_n 0, 1) := by decide +kernel
theorem d32_7 : decode jdk_43_method_2_code 7 = .ok (.iload_n 1, 1) := by decide +kernel
theorem d32_8 : decode jdk_43_method_2_code 8 = .ok (.baload, 1) := by decide +kernel
theorem d32_9 : decode jdk_43_method_2_code 9 = .ok (.sipush 255, 3) := by decide +kernel
theorem d32_12 : decode jdk_43_method_2_code 12 = .ok (.iand, 1) := by decide +kernel
theorem d32_13 : decode jdk_43_method_2_code 13 = .ok (.i2c, 1) := by decide +kernel
theorem d32_14 : decode jdk_43_method_2_code 14 = .ok (.ireturn, 1) := by decide +kernel
theorem pd_20 : parseMethodDescriptor "(IILjava/util/function/BiFunction;)I" = some ⟨[.int, .int, (.object "java/util/function/BiFunction")], some .int⟩ := by decide +kernel
theorem pd_21 : parseMethodDescriptor "([BI)C" = some ⟨[(.array .byte), .int], some .char⟩ := by decide +kernel
theorem pn_6 : plainName "jdk/internal/util/Preconditions" = true := by first | (simp [plainName, overriddenIn]; done) | decide +kernel
theorem pn_7 : plainName "java/lang/StringLatin1" = true := by first | (simp [plainName, overriddenIn]; done) | decide +kernel
theorem c_islat (hw : HW a0 Z) (C : Ctx Z cs d1 d2 o1 o2) (O0 : zOd Z n0 h0) (r x : Addr) (xs : List Int8) (B1 : Sx Z h0 r x xs) : zCon l Z (⟨"java/lang/String", "isLatin1", "()Z"⟩ : MethodName) jdk_42_method_154_code 1 (some .boolean) [] ({ frames := 0, cells := 0, slots := 0, locals := 0 } : Room) #[(.ref r)] h0 (zSame (some (.int 1)) h0) := by
  obtain ⟨S_cs, hcs, S_d1, B_d1, H_d1, S_d2, B_d2, H_d2⟩ := id C
  refine zenter (plainFor_of_name pn_0) (L0 := #[rv r]) (fun m => by first | (rcases hvf with rfl | ⟨_, rfl⟩ <;> rfl) | simp [entryFrame, mkF, argsToLocals, Value.category]) ?_
  intro p e s m below meth c T0 hx hZ hby hml hown0 hnm hret hlk X0 e0
  have hown : s.vm.findClass "java/lang/String" = some m.cls := hown0
  obtain ⟨E_r, F_r_v, F_r_c, A_x⟩ := id B1
  show zEnds p e below s T0 (mkF m 0 #[rv r] []) _ _ _
  refine zgetstat X0 hx hby d29_0 hZ hown (host := "") (Or.inl (w121 hw)) Via.refl e0 (S_cs.ext O0.2.2) fun T1 X1 e1 => (zifNo X1 hx hby d29_3 ((if0 _ _).trans (feq hcs).1) (zaloadN X1 hx hby d29_6 rfl rfl (zgetfld X1 hx hby d29_7 hZ hown (host := "") (Or.inl (w122 hw)) Via.refl e1 F_r_c fun T2 X2 e2 => (zifNo X2 hx hby d29_10 (by decide) (ziconst X2 hx hby d29_13 (z := (1 : Int32)) rfl (zgoto X2 hx hby d29_14 18 (by decide) (by decide) ?_))))))
  show zEnds p e below s T2 (mkF m 18 #[rv r] [(.int 1)]) _ _ _
  exact zretZ X2 hx hby d29_18 hret hlk (by simp) rfl (by first | decide | omega | (dsimp only; omega)) (by first | decide | omega | (dsimp only; omega)) (⟨rfl, e2, rfl⟩)
theorem c_pck (hw : HW a0 Z) (C : Ctx Z cs d1 d2 o1 o2) (O0 : zOd Z n0 h0) (i j : Nat) (vf : Value) (hvf : vf = .null ∨ ∃ a, vf = .ref a) (hi : i < j) (hj : j < 10000000) : zCon l Z (⟨"jdk/internal/util/Preconditions", "checkIndex", "(IILjava/util/function/BiFunction;)I"⟩ : MethodName) jdk_41_method_11_code 3 (some .int) [] ({ frames := 0, cells := 0, slots := 0, locals := 0 } : Room) #[(.int (Int32.ofNat (i))), (.int (Int32.ofNat (j))), vf] h0 (zSame (some (.int (Int32.ofNat (i)))) h0) := by
  refine zenter (plainFor_of_name pn_6) (L0 := #[iv (Int32.ofNat (i)), iv (Int32.ofNat (j)), .val vf]) (fun m => by first | (rcases hvf with rfl | ⟨_, rfl⟩ <;> rfl) | simp [entryFrame, mkF, argsToLocals, Value.category]) ?_
  intro p e s m below meth c T0 hx hZ hby hml hown0 hnm hret hlk X0 e0
  have hown : s.vm.findClass "jdk/internal/util/Preconditions" = some m.cls := hown0
  show zEnds p e below s T0 (mkF m 0 #[iv (Int32.ofNat (i)), iv (Int32.ofNat (j)), .val vf] []) _ _ _
  refine ziloadN X0 hx hby d30_0 rfl (zifNo X0 hx hby d30_1 ((if0 _ _).trans (flt (show ¬ ((Int32.ofNat (i)) < Int32.ofNat (0)) from by rw [zofN_lt (by omega) (by omega)]; omega)).1) (ziloadN X0 hx hby d30_4 rfl (ziloadN X0 hx hby d30_5 rfl (zicmpYes X0 hx hby d30_6 16 (tlt (show (Int32.ofNat (i)) < (Int32.ofNat (j)) from by rw [zofN_lt (by omega) (by omega)]; omega)).1 (by decide) (by decide) (ziloadN X0 hx hby d30_16 rfl ?_)))))
  show zEnds p e below s T0 (mkF m 17 #[iv (Int32.ofNat (i)), iv (Int32.ofNat (j)), .val vf] [(.int (Int32.ofNat (i)))]) _ _ _
  exact zretI X0 hx hby d30_17 hret hlk (by first | decide | omega | (dsimp only; omega)) (by first | decide | omega | (dsimp only; omega)) (⟨rfl, e0, rfl⟩)
theorem c_ckix (hw : HW a0 Z) (C : Ctx Z cs d1 d2 o1 o2) (O0 : zOd Z n0 h0) (vf : Value) (hvf : vf = .null ∨ ∃ a, vf = .ref a) (S_vf : Sta Z Z.heap "jdk/internal/util/Preconditions" "SIOOBE_FORMATTER" "Ljava/util/function/BiFunction;" vf) (i j : Nat) (hi : i < j) (hj : j < 10000000) : zCon l Z (⟨"java/lang/String", "checkIndex", "(II)V"⟩ : MethodName) jdk_42_method_155_code 2 none [] ({ frames := 1, cells := 0, slots := 0, locals := 14 } : Room) #[(.int (Int32.ofNat (i))), (.int (Int32.ofNat (j)))] h0 (zSame none h0) := by
  refine zenter (plainFor_of_name pn_0) (L0 := #[iv (Int32.ofNat (i)), iv (Int32.ofNat (j))]) (H := ?_)
  intro p e s m below meth c T0 hx hZ hby hml hown0 hnm hret hlk X0 e0
  have hown : s.vm.findClass "java/lang/String" = some m.cls := hown0
  show zEnds p e below s T0 (mkF m 0 #[iv (Int32.ofNat (i)), iv (Int32.ofNat (j))] []) _ _ _
  refine ziloadN X0 hx hby d31_0 rfl (ziloadN X0 hx hby d31_1 rfl (zgetstat X0 hx hby d31_2 hZ hown (host := "") (Or.inl (w288 hw)) Via.refl e0 (S_vf.ext O0.2.2) fun T1 X1 e1 => (zcalls X1 hx hby d31_5 hZ hown (w290 hw) (w291 hw) (w289 hw) (w292 hw) e1 (c_pck l hw  C O0 (i) (j) vf hvf (by omega) (by omega)) hml 0 pd_20 (argsL := [(.int (Int32.ofNat (i))), (.int (Int32.ofNat (j))), vf]) (st := []) (zpureK ⟨rfl, rfl⟩ fun T2 X2 e2 => ?_))))
  refine zpop X2 hx hby d31_8 rfl ?_
  show zEnds p e below s T2 (mkF m 9 #[iv (Int32.ofNat (i)), iv (Int32.ofNat (j))] []) _ _ _
  exact zretV X2 hx hby d31_9 hret hlk (by first | decide | omega | (dsimp only; omega)) (by first | decide | omega | (dsimp only; omega)) (⟨rfl, e2, rfl⟩)
theorem c_lchar (hw : HW a0 Z) (C : Ctx Z cs d1 d2 o1 o2) (O0 : zOd Z n0 h0) (vf : Value) (hvf : vf = .null ∨ ∃ a, vf = .ref a) (S_vf : Sta Z Z.heap "jdk/internal/util/Preconditions" "SIOOBE_FORMATTER" "Ljava/util/function/BiFunction;" vf) (x : Addr) (xs : List Int8) (A_x : zBt Z h0 x xs) (i : Nat) (b : Int8) (hb : xs[i]? = some b) (hs : cs8 b = true) (hM : xs.length < 10000000) : zCon l Z (⟨"java/lang/StringLatin1", "charAt", "([BI)C"⟩ : MethodName) jdk_43_method_2_code 2 (some .char) [] ({ frames := 2, cells := 0, slots := 0, locals := 27 } : Room) #[(.ref x), (.int (Int32.ofNat (i)))] h0 (zSame (some (.int (b.toInt32))) h0) := by
  refine zenter (plainFor_of_name pn_7) (L0 := #[rv x, iv (Int32.ofNat (i))]) (H := ?_)
  intro p e s m below meth c T0 hx hZ hby hml hown0 hnm hret hlk X0 e0
  have hown : s.vm.findClass "java/lang/StringLatin1" = some m.cls := hown0
  have hi := (List.getElem?_eq_some_iff.mp hb).1
  show zEnds p e below s T0 (mkF m 0 #[rv x, iv (Int32.ofNat (i))] []) _ _ _
  refine ziloadN X0 hx hby d32_0 rfl (zaloadN X0 hx hby d32_1 rfl rfl (zalenB X0 hx hby d32_2 hZ e0 A_x (xs.length) rfl (zcalls X0 hx hby d32_3 hZ hown (w285 hw) (w286 hw) (w88 hw) (w287 hw) e0 (c_ckix l hw  C O0 vf hvf S_vf (i) (xs.length) (by omega) (by omega)) hml 0 pd_15 (argsL := [(.int (Int32.ofNat (i))), (.int (Int32.ofNat (xs.length)))]) (st := []) (zpureK ⟨rfl, rfl⟩ fun T1 X1 e1 => ?_))))
  refine zaloadN X1 hx hby d32_6 rfl rfl (ziloadN X1 hx hby d32_7 rfl (zbaloadB X1 hx hby d32_8 hZ e1 A_x (i := i) (by omega) (b := b) hb (zsipush X1 hx hby d32_9 (z := (255 : Int32)) rfl (ziand X1 hx hby d32_12 ((b.toInt32) &&& (255 : Int32)) rfl (zi2c X1 hx hby d32_13 (b.toInt32) (cs8_e hs) ?_)))))
  show zEnds p e below s T1 (mkF m 14 #[rv x, iv (Int32.ofNat (i))] [(.int (b.toInt32))]) _ _ _
  exact zretZ X1 hx hby d32_14 hret hlk (by simp) (cs8_n hs) (by first | decide | omega | (dsimp only; omega)) (by first | decide | omega | (dsimp only; omega)) (⟨rfl, e1, rfl⟩)
theorem c_charat (hw : HW a0 Z) (C : Ctx Z cs d1 d2 o1 o2) (O0 : zOd Z n0 h0) (vf : Value) (hvf : vf = .null ∨ ∃ a, vf = .ref a) (S_vf : Sta Z Z.heap "jdk/internal/util/Preconditions" "SIOOBE_FORMATTER" "Ljava/util/function/BiFunction;" vf) (r x : Addr) (xs : List Int8) (B1 : Sx Z h0 r x xs) (i : Nat) (b : Int8) (hb : xs[i]? = some b) (hs : cs8 b = true) (hM : xs.length < 10000000) : zCon l Z (⟨"java/lang/String", "charAt", "(I)C"⟩ : MethodName) jdk_42_method_56_code 2 (some .char) [] ({ frames := 3, cells := 0, slots := 0, locals := 40 } : Room) #[(.ref r), (.int (Int32.ofNat (i)))] h0 (zSame (some (.int (b.toInt32))) h0) := by
  refine zenter (plainFor_of_name pn_0) (L0 := #[rv r, iv (Int32.ofNat (i))]) (H := ?_)
  intro p e s m below meth c T0 hx hZ hby hml hown0 hnm hret hlk X0 e0
  have hown : s.vm.findClass "java/lang/String" = some m.cls := hown0
  obtain ⟨E_r, F_r_v, F_r_c, A_x⟩ := id B1
  show zEnds p e below s T0 (mkF m 0 #[rv r, iv (Int32.ofNat (i))] []) _ _ _
  refine zaloadN X0 hx hby d33_0 rfl rfl (zcallv X0 hx hby d33_1 hZ hown (w276 hw) (w277 hw) (notFace_of_selects (args := #[]) (mvT hZ (w279 hw))) (w279 hw) (w278 hw) (w280 hw) (w88 hw) e0 E_r (c_islat l hw  C O0 r x (xs) ⟨E_r, F_r_v, F_r_c, A_x⟩) hml 0 pd_12 (argsL := []) (st := []) (zpureK ⟨rfl, rfl⟩ fun T1 X1 e1 => ?_))
  refine zifNo X1 hx hby d33_4 (by decide) (zaloadN X1 hx hby d33_7 rfl rfl (zgetfld X1 hx hby d33_8 hZ hown (host := "") (Or.inl (w115 hw)) Via.refl e1 F_r_v fun T2 X2 e2 => (ziloadN X2 hx hby d33_11 rfl (zcalls X2 hx hby d33_12 hZ hown (w281 hw) (w282 hw) (w283 hw) (w284 hw) e2 (c_lchar l hw  C O0 vf hvf S_vf x (xs) A_x (i) b hb hs (by omega)) hml 0 pd_21 (argsL := [(.ref x), (.int (Int32.ofNat (i)))]) (st := []) (zpureK ⟨rfl, rfl⟩ fun T3 X3 e3 => ?_)))))
  show zEnds p e below s T3 (mkF m 15 #[rv r, iv (Int32.ofNat (i))] [(.int (b.toInt32))]) _ _ _
  exact zretZ X3 hx hby d33_15 hret hlk (by simp) (cs8_n hs) (by first | decide | omega | (dsimp only; omega)) (by first | decide | omega | (dsimp only; omega)) (⟨rfl, e3, rfl⟩)
theorem w257 (hw : HW a0 Z) : (Cond.initialized "com/example/kick/kick/value/CloseReportToStringPinLaw").before a0 Z = true := hwi hw 257 rfl
theorem w263 (hw : HW a0 Z) : (Cond.methodLink "com/example/kick/kick/value/CloseReportToStringPinLaw" 39 ⟨"java/lang/String", "length", "()I"⟩).before a0 Z = true := hwi hw 263 rfl
theorem w268 (hw : HW a0 Z) : (Cond.methodLink "com/example/kick/kick/value/CloseReportToStringPinLaw" 70 ⟨"com/example/kick/kick/value/CloseReportToStringPinLaw", "ch", "(Ljava/lang/String;ILjava/lang/String;I)Z"⟩).before a0 Z = true := hwi hw 268 rfl
theorem w269 (hw : HW a0 Z) : (Cond.static ⟨"com/example/kick/kick/value/CloseReportToStringPinLaw", "ch", "(Ljava/lang/String;ILjava/lang/String;I)Z"⟩).before a0 Z = true := hwi hw 269 rfl
theorem w270 (hw : HW a0 Z) : (Cond.code ⟨"com/example/kick/kick/value/CloseReportToStringPinLaw", "ch", "(Ljava/lang/String;ILjava/lang/String;I)Z"⟩ method_7_code 4 (Option.some FieldType.boolean)).before a0 Z = true := hwi hw 270 rfl
theorem w271 (hw : HW a0 Z) : (Cond.methodLink "com/example/kick/kick/value/CloseReportToStringPinLaw" 55 ⟨"java/lang/String", "charAt", "(I)C"⟩).before a0 Z = true := hwi hw 271 rfl
theorem w272 (hw : HW a0 Z) : (Cond.declares ⟨"java/lang/String", "charAt", "(I)C"⟩).before a0 Z = true := hwi hw 272 rfl
theorem w273 (hw : HW a0 Z) : (Cond.instanceMethod ⟨"java/lang/String", "charAt", "(I)C"⟩).before a0 Z = true := hwi hw 273 rfl
theorem w274 (hw : HW a0 Z) : (Cond.selects "java/lang/String" ⟨"java/lang/String", "charAt", "(I)C"⟩ ⟨"java/lang/String", "charAt", "(I)C"⟩).before a0 Z = true := hwi hw 274 rfl
theorem w275 (hw : HW a0 Z) : (Cond.code ⟨"java/lang/String", "charAt", "(I)C"⟩ jdk_42_method_56_code 2 (Option.some FieldType.char)).before a0 Z = true := hwi hw 275 rfl
theorem d34_0 : decode method_7_code 0 = .ok (.iload_n 3, 1) := by decide +kernel
theorem d34_1 : decode method_7_code 1 = .ok (.aload_n 2, 1) := by decide +kernel
theorem d34_2 : decode method_7_code 2 = .ok (.invokevirtual 39, 3) := by decide +kernel
theorem d34_5 : decode method_7_code 5 = .ok (.if_icmp .ge 18, 3) := by decide +kernel
theorem d34_8 : decode method_7_code 8 = .ok (.aload_n 0, 1) := by decide +kernel
theorem d34_9 : decode method_7_code 9 = .ok (.iload_n 1, 1) := by decide +kernel
theorem d34_10 : decode method_7_code 10 = .ok (.iload_n 3, 1) := by decide +kernel
theorem d34_11 : decode method_7_code 11 = .ok (.iadd, 1) := by decide +kernel
theorem d34_12 : decode method_7_code 12 = .ok (.invokevirtual 55, 3) := by decide +kernel
theorem d34_15 : decode method_7_code 15 = .ok (.aload_n 2, 1) := by decide +kernel
theorem d34_16 : decode method_7_code 16 = .ok (.iload_n 3, 1) := by decide +kernel
theorem d34_17 : decode method_7_code 17 = .ok (.invokevirtual 55, 3) := by decide +kernel
theorem d34_20 : decode method_7_code 20 = .ok (.if_icmp .ne 7, 3) := by decide +kernel
theorem d34_23 : decode method_7_code 23 = .ok (.iconst 1, 1) := by decide +kernel
theorem d34_24 : decode method_7_code 24 = .ok (.goto 4, 3) := by decide +kernel
theorem d34_28 : decode method_7_code 28 = .ok (.ireturn, 1) := by decide +kernel
theorem d35_0 : decode method_8_code 0 = .ok (.aload_n 0, 1) := by decide +kernel
theorem d35_1 : decode method_8_code 1 = .ok (.iload_n 1, 1) := by decide +kernel
theorem d35_2 : decode method_8_code 2 = .ok (.aload_n 2, 1) := by decide +kernel
theorem d35_3 : decode method_8_code 3 = .ok (.iconst 0, 1) := by decide +kernel
theorem d35_4 : decode method_8_code 4 = .ok (.invokestatic 70, 3) := by decide +kernel
theorem d35_7 : decode method_8_code 7 = .ok (.ifCond .eq 233, 3) := by decide +kernel
theorem d35_10 : decode method_8_code 10 = .ok (.aload_n 0, 1) := by decide +kernel
theorem d35_11 : decode method_8_code 11 = .ok (.iload_n 1, 1) := by decide +kernel
theorem d35_12 : decode method_8_code 12 = .ok (.aload_n 2, 1) := by decide +kernel
theorem d35_13 : decode method_8_code 13 = .ok (.iconst 1, 1) := by decide +kernel
theorem d35_14 : decode method_8_code 14 = .ok (.invokestatic 70, 3) := by decide +kernel
theorem d35_17 : decode method_8_code 17 = .ok (.ifCond .eq 223, 3) := by decide +kernel
theorem d35_20 : decode method_8_code 20 = .ok (.aload_n 0, 1) := by decide +kernel
theorem d35_21 : decode method_8_code 21 = .ok (.iload_n 1, 1) := by decide +kernel
theorem d35_22 : decode method_8_code 22 = .ok (.aload_n 2, 1) := by decide +kernel
theorem d35_23 : decode method_8_code 23 = .ok (.iconst 2, 1) := by decide +kernel
theorem d35_24 : decode method_8_code 24 = .ok (.invokestatic 70, 3) := by decide +kernel
theorem d35_27 : decode method_8_code 27 = .ok (.ifCond .eq 213, 3) := by decide +kernel
theorem d35_30 : decode method_8_code 30 = .ok (.aload_n 0, 1) := by decide +kernel
theorem d35_31 : decode method_8_code 31 = .ok (.iload_n 1, 1) := by decide +kernel
theorem d35_32 : decode method_8_code 32 = .ok (.aload_n 2, 1) := by decide +kernel
theorem d35_33 : decode method_8_code 33 = .ok (.iconst 3, 1) := by decide +kernel
theorem d35_34 : decode method_8_code 34 = .ok (.invokestatic 70, 3) := by decide +kernel
theorem d35_37 : decode method_8_code 37 = .ok (.ifCond .eq 203, 3) := by decide +kernel
theorem d35_40 : decode method_8_code 40 = .ok (.aload_n 0, 1) := by decide +kernel
theorem d35_41 : decode method_8_code 41 = .ok (.iload_n 1, 1) := by decide +kernel
theorem d35_42 : decode method_8_code 42 = .ok (.aload_n 2, 1) := by decide +kernel
theorem d35_43 : decode method_8_code 43 = .ok (.iconst 4, 1) := by decide +kernel
theorem d35_44 : decode method_8_code 44 = .ok (.invokestatic 70, 3) := by decide +kernel
theorem d35_47 : decode method_8_code 47 = .ok (.ifCond .eq 193, 3) := by decide +kernel
theorem d35_50 : decode method_8_code 50 = .ok (.aload_n 0, 1) := by decide +kernel
theorem d35_51 : decode method_8_code 51 = .ok (.iload_n 1, 1) := by decide +kernel
theorem d35_52 : decode method_8_code 52 = .ok (.aload_n 2, 1) := by decide +kernel
theorem d35_53 : decode method_8_code 53 = .ok (.iconst 5, 1) := by decide +kernel
theorem d35_54 : decode method_8_code 54 = .ok (.invokestatic 70, 3) := by decide +kernel
theorem d35_57 : decode method_8_code 57 = .ok (.ifCond .eq 183, 3) := by decide +kernel
theorem d35_60 : decode method_8_code 60 = .ok (.aload_n 0, 1) := by decide +kernel
theorem d35_61 : decode method_8_code 61 = .ok (.iload_n 1, 1) := by decide +kernel
theorem d35_62 : decode method_8_code 62 = .ok (.aload_n 2, 1) := by decide +kernel
theorem d35_63 : decode method_8_code 63 = .ok (.bipush 6, 2) := by decide +kernel
theorem d35_65 : decode method_8_code 65 = .ok (.invokestatic 70, 3) := by decide +kernel
theorem d35_68 : decode method_8_code 68 = .ok (.ifCond .eq 172, 3) := by decide +kernel
theorem d35_71 : decode method_8_code 71 = .ok (.aload_n 0, 1) := by decide +kernel
theorem d35_72 : decode method_8_code 72 = .ok (.iload_n 1, 1) := by decide +kernel
theorem d35_73 : decode method_8_code 73 = .ok (.aload_n 2, 1) := by decide +kernel
theorem d35_74 : decode method_8_code 74 = .ok (.bipush 7, 2) := by decide +kernel
theorem d35_76 : decode method_8_code 76 = .ok (.invokestatic 70, 3) := by decide +kernel
theorem d35_79 : decode method_8_code 79 = .ok (.ifCond .eq 161, 3) := by decide +kernel
theorem d35_82 : decode method_8_code 82 = .ok (.aload_n 0, 1) := by decide +kernel
theorem d35_83 : decode method_8_code 83 = .ok (.iload_n 1, 1) := by decide +kernel
theorem d35_84 : decode method_8_code 84 = .ok (.aload_n 2, 1) := by decide +kernel
theorem d35_85 : decode method_8_code 85 = .ok (.bipush 8, 2) := by decide +kernel
theorem d35_87 : decode method_8_code 87 = .ok (.invokestatic 70, 3) := by decide +kernel
theorem d35_90 : decode method_8_code 90 = .ok (.ifCond .eq 150, 3) := by decide +kernel
theorem d35_93 : decode method_8_code 93 = .ok (.aload_n 0, 1) := by decide +kernel
theorem d35_94 : decode method_8_code 94 = .ok (.iload_n 1, 1) := by decide +kernel
theorem d35_95 : decode method_8_code 95 = .ok (.aload_n 2, 1) := by decide +kernel
theorem d35_96 : decode method_8_code 96 = .ok (.bipush 9, 2) := by decide +kernel
theorem d35_98 : decode method_8_code 98 = .ok (.invokestatic 70, 3) := by decide +kernel
theorem d35_101 : decode method_8_code 101 = .ok (.ifCond .eq 139, 3) := by decide +kernel
theorem d35_104 : decode method_8_code 104 = .ok (.aload_n 0, 1) := by decide +kernel
theorem d35_105 : decode method_8_code 105 = .ok (.iload_n 1, 1) := by decide +kernel
theorem d35_106 : decode method_8_code 106 = .ok (.aload_n 2, 1) := by decide +kernel
theorem d35_107 : decode method_8_code 107 = .ok (.bipush 10, 2) := by decide +kernel
theorem d35_109 : decode method_8_code 109 = .ok (.invokestatic 70, 3) := by decide +kernel
theorem d35_112 : decode method_8_code 112 = .ok (.ifCond .eq 128, 3) := by decide +kernel
theorem d35_115 : decode method_8_code 115 = .ok (.aload_n 0, 1) := by decide +kernel
theorem d35_116 : decode method_8_code 116 = .ok (.iload_n 1, 1) := by decide +kernel
theorem d35_117 : decode method_8_code 117 = .ok (.aload_n 2, 1) := by decide +kernel
theorem d35_118 : decode method_8_code 118 = .ok (.bipush 11, 2) := by decide +kernel
theorem d35_120 : decode method_8_code 120 = .ok (.invokestatic 70, 3) := by decide +kernel
theorem d35_123 : decode method_8_code 123 = .ok (.ifCond .eq 117, 3) := by decide +kernel
theorem d35_126 : decode method_8_code 126 = .ok (.aload_n 0, 1) := by decide +kernel
theorem d35_127 : decode method_8_code 127 = .ok (.iload_n 1, 1) := by decide +kernel
theorem d35_128 : decode method_8_code 128 = .ok (.aload_n 2, 1) := by decide +kernel
theorem d35_129 : decode method_8_code 129 = .ok (.bipush 12, 2) := by decide +kernel
theorem d35_131 : decode method_8_code 131 = .ok (.invokestatic 70, 3) := by decide +kernel
theorem d35_134 : decode method_8_code 134 = .ok (.ifCond .eq 106, 3) := by decide +kernel
theorem d35_137 : decode method_8_code 137 = .ok (.aload_n 0, 1) := by decide +kernel
theorem d35_138 : decode method_8_code 138 = .ok (.iload_n 1, 1) := by decide +kernel
theorem d35_139 : decode method_8_code 139 = .ok (.aload_n 2, 1) := by decide +kernel
theorem d35_140 : decode method_8_code 140 = .ok (.bipush 13, 2) := by decide +kernel
theorem d35_142 : decode method_8_code 142 = .ok (.invokestatic 70, 3) := by decide +kernel
theorem d35_145 : decode method_8_code 145 = .ok (.ifCond .eq 95, 3) := by decide +kernel
theorem d35_148 : decode method_8_code 148 = .ok (.aload_n 0, 1) := by decide +kernel
theorem d35_149 : decode method_8_code 149 = .ok (.iload_n 1, 1) := by decide +kernel
theorem d35_150 : decode method_8_code 150 = .ok (.aload_n 2, 1) := by decide +kernel
theorem d35_151 : decode method_8_code 151 = .ok (.bipush 14, 2) := by decide +kernel
theorem d35_153 : decode method_8_code 153 = .ok (.invokestatic 70, 3) := by decide +kernel
theorem d35_156 : decode method_8_code 156 = .ok (.ifCond .eq 84, 3) := by decide +kernel
theorem d35_159 : decode method_8_code 159 = .ok (.aload_n 0, 1) := by decide +kernel
theorem d35_160 : decode method_8_code 160 = .ok (.iload_n 1, 1) := by decide +kernel
theorem d35_161 : decode method_8_code 161 = .ok (.aload_n 2, 1) := by decide +kernel
theorem d35_162 : decode method_8_code 162 = .ok (.bipush 15, 2) := by decide +kernel
theorem d35_164 : decode method_8_code 164 = .ok (.invokestatic 70, 3) := by decide +kernel
theorem d35_167 : decode method_8_code 167 = .ok (.ifCond .eq 73, 3) := by decide +kernel
theorem d35_170 : decode method_8_code 170 = .ok (.aload_n 0, 1) := by decide +kernel
theorem d35_171 : decode method_8_code 171 = .ok (.iload_n 1, 1) := by decide +kernel
theorem d35_172 : decode method_8_code 172 = .ok (.aload_n 2, 1) := by decide +kernel
theorem d35_173 : decode method_8_code 173 = .ok (.bipush 16, 2) := by decide +kernel
theorem d35_175 : decode method_8_code 175 = .ok (.invokestatic 70, 3) := by decide +kernel
theorem d35_178 : decode method_8_code 178 = .ok (.ifCond .eq 62, 3) := by decide +kernel
theorem d35_181 : decode method_8_code 181 = .ok (.aload_n 0, 1) := by decide +kernel
theorem d35_182 : decode method_8_code 182 = .ok (.iload_n 1, 1) := by decide +kernel
theorem d35_183 : decode method_8_code 183 = .ok (.aload_n 2, 1) := by decide +kernel
theorem d35_184 : decode method_8_code 184 = .ok (.bipush 17, 2) := by decide +kernel
theorem d35_186 : decode method_8_code 186 = .ok (.invokestatic 70, 3) := by decide +kernel
theorem d35_189 : decode method_8_code 189 = .ok (.ifCond .eq 51, 3) := by decide +kernel
theorem d35_192 : decode method_8_code 192 = .ok (.aload_n 0, 1) := by decide +kernel
theorem d35_193 : decode method_8_code 193 = .ok (.iload_n 1, 1) := by decide +kernel
theorem d35_194 : decode method_8_code 194 = .ok (.aload_n 2, 1) := by decide +kernel
theorem d35_195 : decode method_8_code 195 = .ok (.bipush 18, 2) := by decide +kernel
theorem d35_197 : decode method_8_code 197 = .ok (.invokestatic 70, 3) := by decide +kernel
theorem d35_200 : decode method_8_code 200 = .ok (.ifCond .eq 40, 3) := by decide +kernel
theorem d35_203 : decode method_8_code 203 = .ok (.aload_n 0, 1) := by decide +kernel
theorem d35_204 : decode method_8_code 204 = .ok (.iload_n 1, 1) := by decide +kernel
theorem d35_205 : decode method_8_code 205 = .ok (.aload_n 2, 1) := by decide +kernel
theorem d35_206 : decode method_8_code 206 = .ok (.bipush 19, 2) := by decide +kernel
theorem d35_208 : decode method_8_code 208 = .ok (.invokestatic 70, 3) := by decide +kernel
theorem d35_211 : decode method_8_code 211 = .ok (.ifCond .eq 29, 3) := by decide +kernel
theorem d35_214 : decode method_8_code 214 = .ok (.aload_n 0, 1) := by decide +kernel
theorem d35_215 : decode method_8_code 215 = .ok (.iload_n 1, 1) := by decide +kernel
theorem d35_216 : decode method_8_code 216 = .ok (.aload_n 2, 1) := by decide +kernel
theorem d35_217 : decode method_8_code 217 = .ok (.bipush 20, 2) := by decide +kernel
theorem d35_219 : decode method_8_code 219 = .ok (.invokestatic 70, 3) := by decide +kernel
theorem d35_222 : decode method_8_code 222 = .ok (.ifCond .eq 18, 3) := by decide +kernel
theorem d35_225 : decode method_8_code 225 = .ok (.aload_n 0, 1) := by decide +kernel
theorem d35_226 : decode method_8_code 226 = .ok (.iload_n 1, 1) := by decide +kernel
theorem d35_227 : decode method_8_code 227 = .ok (.aload_n 2, 1) := by decide +kernel
theorem d35_228 : decode method_8_code 228 = .ok (.bipush 21, 2) := by decide +kernel
theorem d35_230 : decode method_8_code 230 = .ok (.invokestatic 70, 3) := by decide +kernel
theorem d35_233 : decode method_8_code 233 = .ok (.ifCond .eq 7, 3) := by decide +kernel
theorem d35_236 : decode method_8_code 236 = .ok (.iconst 1, 1) := by decide +kernel
theorem d35_237 : decode method_8_code 237 = .ok (.goto 4, 3) := by decide +kernel
theorem d35_241 : decode method_8_code 241 = .ok (.ireturn, 1) := by decide +kernel
theorem pd_22 : parseMethodDescriptor "(I)C" = some ⟨[.int], some .char⟩ := by decide +kernel
theorem pd_23 : parseMethodDescriptor "(Ljava/lang/String;ILjava/lang/String;I)Z" = some ⟨[(.object "java/lang/String"), .int, (.object "java/lang/String"), .int], some .boolean⟩ := by decide +kernel
theorem pn_8 : plainName "com/example/kick/kick/value/CloseReportToStringPinLaw" = true := by first | (simp [plainName, overriddenIn]; done) | decide +kernel
theorem c_ch (hw : HW a0 Z) (C : Ctx Z cs d1 d2 o1 o2) (O0 : zOd Z n0 h0) (vf : Value) (hvf : vf = .null ∨ ∃ a, vf = .ref a) (S_vf : Sta Z Z.heap "jdk/internal/util/Preconditions" "SIOOBE_FORMATTER" "Ljava/util/function/BiFunction;" vf) (r x : Addr) (xs : List Int8) (B1 : Sx Z h0 r x xs) (r2 z : Addr) (zs : List Int8) (B2 : Sx Z h0 r2 z zs) (hs : zs.all cs8 = true) (hM : xs.length < 1000000) (hN : zs.length < 1000000) (p0 k : Nat) (hp : p0 < 1000000) (hk0 : k < 1000000) (hm : k < zs.length → xs[p0 + k]? = zs[k]?) : zCon l Z (⟨"com/example/kick/kick/value/CloseReportToStringPinLaw", "ch", "(Ljava/lang/String;ILjava/lang/String;I)Z"⟩ : MethodName) method_7_code 4 (some .boolean) [] ({ frames := 4, cells := 0, slots := 0, locals := 54 } : Room) #[(.ref r), (.int (Int32.ofNat (p0))), (.ref r2), (.int (Int32.ofNat (k)))] h0 (zSame (some (.int 1)) h0) := by
  refine zenter (plainFor_of_name pn_8) (L0 := #[rv r, iv (Int32.ofNat (p0)), rv r2, iv (Int32.ofNat (k))]) (H := ?_)
  intro p e s m below meth c T0 hx hZ hby hml hown0 hnm hret hlk X0 e0
  have hown : s.vm.findClass "com/example/kick/kick/value/CloseReportToStringPinLaw" = some m.cls := hown0
  obtain ⟨E_r, F_r_v, F_r_c, A_x⟩ := id B1
  obtain ⟨E_r2, F_r2_v, F_r2_c, A_z⟩ := id B2
  show zEnds p e below s T0 (mkF m 0 #[rv r, iv (Int32.ofNat (p0)), rv r2, iv (Int32.ofNat (k))] []) _ _ _
  refine ziloadN X0 hx hby d34_0 rfl (zaloadN X0 hx hby d34_1 rfl rfl (zcallv X0 hx hby d34_2 hZ hown (w263 hw) (w111 hw) (notFace_of_selects (args := #[]) (mvT hZ (w113 hw))) (w113 hw) (w112 hw) (w114 hw) (w88 hw) e0 E_r2 (c_length l hw  C O0 r2 z (zs) ⟨E_r2, F_r2_v, F_r2_c, A_z⟩) hml 1 pd_1 (argsL := []) (st := [(.int (Int32.ofNat (k)))]) (zpureK ⟨rfl, rfl⟩ fun T1 X1 e1 => ?_)))
  show zEnds p e below s T1 (mkF m 5 #[rv r, iv (Int32.ofNat (p0)), rv r2, iv (Int32.ofNat (k))] [(.int (Int32.ofNat (zs.length))), (.int (Int32.ofNat (k)))]) _ _ _
  by_cases hk : k < zs.length
  · obtain ⟨b, hb⟩ : ∃ b, zs[k]? = some b := ⟨_, List.getElem?_eq_getElem hk⟩
    have hb1 : xs[p0 + k]? = some b := (hm hk).trans hb
    have hsb := List.all_eq_true.mp hs b (List.mem_of_getElem? hb)
    have hi1 := (List.getElem?_eq_some_iff.mp hb1).1
    refine zicmpNo X1 hx hby d34_5 (tlt (show (Int32.ofNat (k)) < (Int32.ofNat (zs.length)) from by rw [zofN_lt (by omega) (by omega)]; omega)).2.1 (zaloadN X1 hx hby d34_8 rfl rfl (ziloadN X1 hx hby d34_9 rfl (ziloadN X1 hx hby d34_10 rfl (ziadd X1 hx hby d34_11 (Int32.ofNat (p0 + k)) (zofN_add _ _) (zcallv X1 hx hby d34_12 hZ hown (w271 hw) (w272 hw) (notFace_of_selects (args := #[]) (mvT hZ (w274 hw))) (w274 hw) (w273 hw) (w275 hw) (w88 hw) e1 E_r (c_charat l hw  C O0 vf hvf S_vf r x (xs) ⟨E_r, F_r_v, F_r_c, A_x⟩ (p0 + k) b hb1 hsb (by omega)) hml 0 pd_22 (argsL := [(.int (Int32.ofNat (p0 + k)))]) (st := []) (zpureK ⟨rfl, rfl⟩ fun T2 X2 e2 => ?_))))))
    refine zaloadN X2 hx hby d34_15 rfl rfl (ziloadN X2 hx hby d34_16 rfl (zcallv X2 hx hby d34_17 hZ hown (w271 hw) (w272 hw) (notFace_of_selects (args := #[]) (mvT hZ (w274 hw))) (w274 hw) (w273 hw) (w275 hw) (w88 hw) e2 E_r2 (c_charat l hw  C O0 vf hvf S_vf r2 z (zs) ⟨E_r2, F_r2_v, F_r2_c, A_z⟩ (k) b hb hsb (by omega)) hml 1 pd_22 (argsL := [(.int (Int32.ofNat (k)))]) (st := [(.int (b.toInt32))]) (zpureK ⟨rfl, rfl⟩ fun T3 X3 e3 => ?_)))
    refine zicmpNo X3 hx hby d34_20 (teq (rfl : (b.toInt32) = (b.toInt32))).2 (ziconst X3 hx hby d34_23 (z := (1 : Int32)) rfl (zgoto X3 hx hby d34_24 28 (by decide) (by decide) ?_))
    show zEnds p e below s T3 (mkF m 28 #[rv r, iv (Int32.ofNat (p0)), rv r2, iv (Int32.ofNat (k))] [(.int 1)]) _ _ _
    exact zretZ X3 hx hby d34_28 hret hlk (by simp) rfl (by first | decide | omega | (dsimp only; omega)) (by first | decide | omega | (dsimp only; omega)) (⟨rfl, e3, rfl⟩)
  · refine zicmpYes X1 hx hby d34_5 23 (flt (show ¬ ((Int32.ofNat (k)) < (Int32.ofNat (zs.length))) from by rw [zofN_lt (by omega) (by omega)]; omega)).2.1 (by decide) (by decide) (ziconst X1 hx hby d34_23 (z := (1 : Int32)) rfl (zgoto X1 hx hby d34_24 28 (by decide) (by decide) ?_))
    show zEnds p e below s T1 (mkF m 28 #[rv r, iv (Int32.ofNat (p0)), rv r2, iv (Int32.ofNat (k))] [(.int 1)]) _ _ _
    exact zretZ X1 hx hby d34_28 hret hlk (by simp) rfl (by first | decide | omega | (dsimp only; omega)) (by first | decide | omega | (dsimp only; omega)) (⟨rfl, e1, rfl⟩)
theorem c_lit (hw : HW a0 Z) (C : Ctx Z cs d1 d2 o1 o2) (O0 : zOd Z n0 h0) (vf : Value) (hvf : vf = .null ∨ ∃ a, vf = .ref a) (S_vf : Sta Z Z.heap "jdk/internal/util/Preconditions" "SIOOBE_FORMATTER" "Ljava/util/function/BiFunction;" vf) (r x : Addr) (xs : List Int8) (B1 : Sx Z h0 r x xs) (r2 z : Addr) (zs : List Int8) (B2 : Sx Z h0 r2 z zs) (hs : zs.all cs8 = true) (hM : xs.length < 1000000) (hN : zs.length < 1000000) (p0 : Nat) (hp : p0 < 1000000) (hm : ∀ k, k < zs.length → xs[p0 + k]? = zs[k]?) : zCon l Z (⟨"com/example/kick/kick/value/CloseReportToStringPinLaw", "lit", "(Ljava/lang/String;ILjava/lang/String;)Z"⟩ : MethodName) method_8_code 3 (some .boolean) [] ({ frames := 5, cells := 0, slots := 0, locals := 69 } : Room) #[(.ref r), (.int (Int32.ofNat (p0))), (.ref r2)] h0 (zSame (some (.int 1)) h0) := by
  refine zenter (plainFor_of_name pn_8) (L0 := #[rv r, iv (Int32.ofNat (p0)), rv r2]) (H := ?_)
  intro p e s m below meth c T0 hx hZ hby hml hown0 hnm hret hlk X0 e0
  have hown : s.vm.findClass "com/example/kick/kick/value/CloseReportToStringPinLaw" = some m.cls := hown0
  obtain ⟨E_r, F_r_v, F_r_c, A_x⟩ := id B1
  obtain ⟨E_r2, F_r2_v, F_r2_c, A_z⟩ := id B2
  show zEnds p e below s T0 (mkF m 0 #[rv r, iv (Int32.ofNat (p0)), rv r2] []) _ _ _
  refine zaloadN X0 hx hby d35_0 rfl rfl (ziloadN X0 hx hby d35_1 rfl (zaloadN X0 hx hby d35_2 rfl rfl (ziconst X0 hx hby d35_3 (z := (0 : Int32)) rfl (zcalls X0 hx hby d35_4 hZ hown (w268 hw) (w269 hw) (w257 hw) (w270 hw) e0 (c_ch l hw  C O0 vf hvf S_vf r x (xs) ⟨E_r, F_r_v, F_r_c, A_x⟩ r2 z (zs) ⟨E_r2, F_r2_v, F_r2_c, A_z⟩ hs hM hN (p0) (0) (by omega) (by omega) (hm 0)) hml 0 pd_23 (argsL := [(.ref r), (.int (Int32.ofNat (p0))), (.ref r2), (.int 0)]) (st := []) (zpureK ⟨rfl, rfl⟩ fun T1 X1 e1 => ?_)))))
  refine zifNo X1 hx hby d35_7 (by decide) (zaloadN X1 hx hby d35_10 rfl rfl (ziloadN X1 hx hby d35_11 rfl (zaloadN X1 hx hby d35_12 rfl rfl (ziconst X1 hx hby d35_13 (z := (1 : Int32)) rfl (zcalls X1 hx hby d35_14 hZ hown (w268 hw) (w269 hw) (w257 hw) (w270 hw) e1 (c_ch l hw  C O0 vf hvf S_vf r x (xs) ⟨E_r, F_r_v, F_r_c, A_x⟩ r2 z (zs) ⟨E_r2, F_r2_v, F_r2_c, A_z⟩ hs hM hN (p0) (1) (by omega) (by omega) (hm 1)) hml 0 pd_23 (argsL := [(.ref r), (.int (Int32.ofNat (p0))), (.ref r2), (.int 1)]) (st := []) (zpureK ⟨rfl, rfl⟩ fun T2 X2 e2 => ?_))))))
  refine zifNo X2 hx hby d35_17 (by decide) (zaloadN X2 hx hby d35_20 rfl rfl (ziloadN X2 hx hby d35_21 rfl (zaloadN X2 hx hby d35_22 rfl rfl (ziconst X2 hx hby d35_23 (z := (2 : Int32)) rfl (zcalls X2 hx hby d35_24 hZ hown (w268 hw) (w269 hw) (w257 hw) (w270 hw) e2 (c_ch l hw  C O0 vf hvf S_vf r x (xs) ⟨E_r, F_r_v, F_r_c, A_x⟩ r2 z (zs) ⟨E_r2, F_r2_v, F_r2_c, A_z⟩ hs hM hN (p0) (2) (by omega) (by omega) (hm 2)) hml 0 pd_23 (argsL := [(.ref r), (.int (Int32.ofNat (p0))), (.ref r2), (.int 2)]) (st := []) (zpureK ⟨rfl, rfl⟩ fun T3 X3 e3 => ?_))))))
  show zEnds p e below s T3 (mkF m 27 #[rv r, iv (Int32.ofNat (p0)), rv r2] [(.int 1)]) _ _ _
  refine zifNo X3 hx hby d35_27 (by decide) (zaloadN X3 hx hby d35_30 rfl rfl (ziloadN X3 hx hby d35_31 rfl (zaloadN X3 hx hby d35_32 rfl rfl (ziconst X3 hx hby d35_33 (z := (3 : Int32)) rfl (zcalls X3 hx hby d35_34 hZ hown (w268 hw) (w269 hw) (w257 hw) (w270 hw) e3 (c_ch l hw  C O0 vf hvf S_vf r x (xs) ⟨E_r, F_r_v, F_r_c, A_x⟩ r2 z (zs) ⟨E_r2, F_r2_v, F_r2_c, A_z⟩ hs hM hN (p0) (3) (by omega) (by omega) (hm 3)) hml 0 pd_23 (argsL := [(.ref r), (.int (Int32.ofNat (p0))), (.ref r2), (.int 3)]) (st := []) (zpureK ⟨rfl, rfl⟩ fun T4 X4 e4 => ?_))))))
  refine zifNo X4 hx hby d35_37 (by decide) (zaloadN X4 hx hby d35_40 rfl rfl (ziloadN X4 hx hby d35_41 rfl (zaloadN X4 hx hby d35_42 rfl rfl (ziconst X4 hx hby d35_43 (z := (4 : Int32)) rfl (zcalls X4 hx hby d35_44 hZ hown (w268 hw) (w269 hw) (w257 hw) (w270 hw) e4 (c_ch l hw  C O0 vf hvf S_vf r x (xs) ⟨E_r, F_r_v, F_r_c, A_x⟩ r2 z (zs) ⟨E_r2, F_r2_v, F_r2_c, A_z⟩ hs hM hN (p0) (4) (by omega) (by omega) (hm 4)) hml 0 pd_23 (argsL := [(.ref r), (.int (Int32.ofNat (p0))), (.ref r2), (.int 4)]) (st := []) (zpureK ⟨rfl, rfl⟩ fun T5 X5 e5 => ?_))))))
  refine zifNo X5 hx hby d35_47 (by decide) (zaloadN X5 hx hby d35_50 rfl rfl (ziloadN X5 hx hby d35_51 rfl (zaloadN X5 hx hby d35_52 rfl rfl (ziconst X5 hx hby d35_53 (z := (5 : Int32)) rfl (zcalls X5 hx hby d35_54 hZ hown (w268 hw) (w269 hw) (w257 hw) (w270 hw) e5 (c_ch l hw  C O0 vf hvf S_vf r x (xs) ⟨E_r, F_r_v, F_r_c, A_x⟩ r2 z (zs) ⟨E_r2, F_r2_v, F_r2_c, A_z⟩ hs hM hN (p0) (5) (by omega) (by omega) (hm 5)) hml 0 pd_23 (argsL := [(.ref r), (.int (Int32.ofNat (p0))), (.ref r2), (.int 5)]) (st := []) (zpureK ⟨rfl, rfl⟩ fun T6 X6 e6 => ?_))))))
  show zEnds p e below s T6 (mkF m 57 #[rv r, iv (Int32.ofNat (p0)), rv r2] [(.int 1)]) _ _ _
  refine zifNo X6 hx hby d35_57 (by decide) (zaloadN X6 hx hby d35_60 rfl rfl (ziloadN X6 hx hby d35_61 rfl (zaloadN X6 hx hby d35_62 rfl rfl (zbipush X6 hx hby d35_63 (z := (6 : Int32)) rfl (zcalls X6 hx hby d35_65 hZ hown (w268 hw) (w269 hw) (w257 hw) (w270 hw) e6 (c_ch l hw  C O0 vf hvf S_vf r x (xs) ⟨E_r, F_r_v, F_r_c, A_x⟩ r2 z (zs) ⟨E_r2, F_r2_v, F_r2_c, A_z⟩ hs hM hN (p0) (6) (by omega) (by omega) (hm 6)) hml 0 pd_23 (argsL := [(.ref r), (.int (Int32.ofNat (p0))), (.ref r2), (.int 6)]) (st := []) (zpureK ⟨rfl, rfl⟩ fun T7 X7 e7 => ?_))))))
  refine zifNo X7 hx hby d35_68 (by decide) (zaloadN X7 hx hby d35_71 rfl rfl (ziloadN X7 hx hby d35_72 rfl (zaloadN X7 hx hby d35_73 rfl rfl (zbipush X7 hx hby d35_74 (z := (7 : Int32)) rfl (zcalls X7 hx hby d35_76 hZ hown (w268 hw) (w269 hw) (w257 hw) (w270 hw) e7 (c_ch l hw  C O0 vf hvf S_vf r x (xs) ⟨E_r, F_r_v, F_r_c, A_x⟩ r2 z (zs) ⟨E_r2, F_r2_v, F_r2_c, A_z⟩ hs hM hN (p0) (7) (by omega) (by omega) (hm 7)) hml 0 pd_23 (argsL := [(.ref r), (.int (Int32.ofNat (p0))), (.ref r2), (.int 7)]) (st := []) (zpureK ⟨rfl, rfl⟩ fun T8 X8 e8 => ?_))))))
  refine zifNo X8 hx hby d35_79 (by decide) (zaloadN X8 hx hby d35_82 rfl rfl (ziloadN X8 hx hby d35_83 rfl (zaloadN X8 hx hby d35_84 rfl rfl (zbipush X8 hx hby d35_85 (z := (8 : Int32)) rfl (zcalls X8 hx hby d35_87 hZ hown (w268 hw) (w269 hw) (w257 hw) (w270 hw) e8 (c_ch l hw  C O0 vf hvf S_vf r x (xs) ⟨E_r, F_r_v, F_r_c, A_x⟩ r2 z (zs) ⟨E_r2, F_r2_v, F_r2_c, A_z⟩ hs hM hN (p0) (8) (by omega) (by omega) (hm 8)) hml 0 pd_23 (argsL := [(.ref r), (.int (Int32.ofNat (p0))), (.ref r2), (.int 8)]) (st := []) (zpureK ⟨rfl, rfl⟩ fun T9 X9 e9 => ?_))))))
  show zEnds p e below s T9 (mkF m 90 #[rv r, iv (Int32.ofNat (p0)), rv r2] [(.int 1)]) _ _ _
  refine zifNo X9 hx hby d35_90 (by decide) (zaloadN X9 hx hby d35_93 rfl rfl (ziloadN X9 hx hby d35_94 rfl (zaloadN X9 hx hby d35_95 rfl rfl (zbipush X9 hx hby d35_96 (z := (9 : Int32)) rfl (zcalls X9 hx hby d35_98 hZ hown (w268 hw) (w269 hw) (w257 hw) (w270 hw) e9 (c_ch l hw  C O0 vf hvf S_vf r x (xs) ⟨E_r, F_r_v, F_r_c, A_x⟩ r2 z (zs) ⟨E_r2, F_r2_v, F_r2_c, A_z⟩ hs hM hN (p0) (9) (by omega) (by omega) (hm 9)) hml 0 pd_23 (argsL := [(.ref r), (.int (Int32.ofNat (p0))), (.ref r2), (.int 9)]) (st := []) (zpureK ⟨rfl, rfl⟩ fun T10 X10 e10 => ?_))))))
  refine zifNo X10 hx hby d35_101 (by decide) (zaloadN X10 hx hby d35_104 rfl rfl (ziloadN X10 hx hby d35_105 rfl (zaloadN X10 hx hby d35_106 rfl rfl (zbipush X10 hx hby d35_107 (z := (10 : Int32)) rfl (zcalls X10 hx hby d35_109 hZ hown (w268 hw) (w269 hw) (w257 hw) (w270 hw) e10 (c_ch l hw  C O0 vf hvf S_vf r x (xs) ⟨E_r, F_r_v, F_r_c, A_x⟩ r2 z (zs) ⟨E_r2, F_r2_v, F_r2_c, A_z⟩ hs hM hN (p0) (10) (by omega) (by omega) (hm 10)) hml 0 pd_23 (argsL := [(.ref r), (.int (Int32.ofNat (p0))), (.ref r2), (.int 10)]) (st := []) (zpureK ⟨rfl, rfl⟩ fun T11 X11 e11 => ?_))))))
  refine zifNo X11 hx hby d35_112 (by decide) (zaloadN X11 hx hby d35_115 rfl rfl (ziloadN X11 hx hby d35_116 rfl (zaloadN X11 hx hby d35_117 rfl rfl (zbipush X11 hx hby d35_118 (z := (11 : Int32)) rfl (zcalls X11 hx hby d35_120 hZ hown (w268 hw) (w269 hw) (w257 hw) (w270 hw) e11 (c_ch l hw  C O0 vf hvf S_vf r x (xs) ⟨E_r, F_r_v, F_r_c, A_x⟩ r2 z (zs) ⟨E_r2, F_r2_v, F_r2_c, A_z⟩ hs hM hN (p0) (11) (by omega) (by omega) (hm 11)) hml 0 pd_23 (argsL := [(.ref r), (.int (Int32.ofNat (p0))), (.ref r2), (.int 11)]) (st := []) (zpureK ⟨rfl, rfl⟩ fun T12 X12 e12 => ?_))))))
  show zEnds p e below s T12 (mkF m 123 #[rv r, iv (Int32.ofNat (p0)), rv r2] [(.int 1)]) _ _ _
  refine zifNo X12 hx hby d35_123 (by decide) (zaloadN X12 hx hby d35_126 rfl rfl (ziloadN X12 hx hby d35_127 rfl (zaloadN X12 hx hby d35_128 rfl rfl (zbipush X12 hx hby d35_129 (z := (12 : Int32)) rfl (zcalls X12 hx hby d35_131 hZ hown (w268 hw) (w269 hw) (w257 hw) (w270 hw) e12 (c_ch l hw  C O0 vf hvf S_vf r x (xs) ⟨E_r, F_r_v, F_r_c, A_x⟩ r2 z (zs) ⟨E_r2, F_r2_v, F_r2_c, A_z⟩ hs hM hN (p0) (12) (by omega) (by omega) (hm 12)) hml 0 pd_23 (argsL := [(.ref r), (.int (Int32.ofNat (p0))), (.ref r2), (.int 12)]) (st := []) (zpureK ⟨rfl, rfl⟩ fun T13 X13 e13 => ?_))))))
  refine zifNo X13 hx hby d35_134 (by decide) (zaloadN X13 hx hby d35_137 rfl rfl (ziloadN X13 hx hby d35_138 rfl (zaloadN X13 hx hby d35_139 rfl rfl (zbipush X13 hx hby d35_140 (z := (13 : Int32)) rfl (zcalls X13 hx hby d35_142 hZ hown (w268 hw) (w269 hw) (w257 hw) (w270 hw) e13 (c_ch l hw  C O0 vf hvf S_vf r x (xs) ⟨E_r, F_r_v, F_r_c, A_x⟩ r2 z (zs) ⟨E_r2, F_r2_v, F_r2_c, A_z⟩ hs hM hN (p0) (13) (by omega) (by omega) (hm 13)) hml 0 pd_23 (argsL := [(.ref r), (.int (Int32.ofNat (p0))), (.ref r2), (.int 13)]) (st := []) (zpureK ⟨rfl, rfl⟩ fun T14 X14 e14 => ?_))))))
  refine zifNo X14 hx hby d35_145 (by decide) (zaloadN X14 hx hby d35_148 rfl rfl (ziloadN X14 hx hby d35_149 rfl (zaloadN X14 hx hby d35_150 rfl rfl (zbipush X14 hx hby d35_151 (z := (14 : Int32)) rfl (zcalls X14 hx hby d35_153 hZ hown (w268 hw) (w269 hw) (w257 hw) (w270 hw) e14 (c_ch l hw  C O0 vf hvf S_vf r x (xs) ⟨E_r, F_r_v, F_r_c, A_x⟩ r2 z (zs) ⟨E_r2, F_r2_v, F_r2_c, A_z⟩ hs hM hN (p0) (14) (by omega) (by omega) (hm 14)) hml 0 pd_23 (argsL := [(.ref r), (.int (Int32.ofNat (p0))), (.ref r2), (.int 14)]) (st := []) (zpureK ⟨rfl, rfl⟩ fun T15 X15 e15 => ?_))))))
  show zEnds p e below s T15 (mkF m 156 #[rv r, iv (Int32.ofNat (p0)), rv r2] [(.int 1)]) _ _ _
  refine zifNo X15 hx hby d35_156 (by decide) (zaloadN X15 hx hby d35_159 rfl rfl (ziloadN X15 hx hby d35_160 rfl (zaloadN X15 hx hby d35_161 rfl rfl (zbipush X15 hx hby d35_162 (z := (15 : Int32)) rfl (zcalls X15 hx hby d35_164 hZ hown (w268 hw) (w269 hw) (w257 hw) (w270 hw) e15 (c_ch l hw  C O0 vf hvf S_vf r x (xs) ⟨E_r, F_r_v, F_r_c, A_x⟩ r2 z (zs) ⟨E_r2, F_r2_v, F_r2_c, A_z⟩ hs hM hN (p0) (15) (by omega) (by omega) (hm 15)) hml 0 pd_23 (argsL := [(.ref r), (.int (Int32.ofNat (p0))), (.ref r2), (.int 15)]) (st := []) (zpureK ⟨rfl, rfl⟩ fun T16 X16 e16 => ?_))))))
  refine zifNo X16 hx hby d35_167 (by decide) (zaloadN X16 hx hby d35_170 rfl rfl (ziloadN X16 hx hby d35_171 rfl (zaloadN X16 hx hby d35_172 rfl rfl (zbipush X16 hx hby d35_173 (z := (16 : Int32)) rfl (zcalls X16 hx hby d35_175 hZ hown (w268 hw) (w269 hw) (w257 hw) (w270 hw) e16 (c_ch l hw  C O0 vf hvf S_vf r x (xs) ⟨E_r, F_r_v, F_r_c, A_x⟩ r2 z (zs) ⟨E_r2, F_r2_v, F_r2_c, A_z⟩ hs hM hN (p0) (16) (by omega) (by omega) (hm 16)) hml 0 pd_23 (argsL := [(.ref r), (.int (Int32.ofNat (p0))), (.ref r2), (.int 16)]) (st := []) (zpureK ⟨rfl, rfl⟩ fun T17 X17 e17 => ?_))))))
  refine zifNo X17 hx hby d35_178 (by decide) (zaloadN X17 hx hby d35_181 rfl rfl (ziloadN X17 hx hby d35_182 rfl (zaloadN X17 hx hby d35_183 rfl rfl (zbipush X17 hx hby d35_184 (z := (17 : Int32)) rfl (zcalls X17 hx hby d35_186 hZ hown (w268 hw) (w269 hw) (w257 hw) (w270 hw) e17 (c_ch l hw  C O0 vf hvf S_vf r x (xs) ⟨E_r, F_r_v, F_r_c, A_x⟩ r2 z (zs) ⟨E_r2, F_r2_v, F_r2_c, A_z⟩ hs hM hN (p0) (17) (by omega) (by omega) (hm 17)) hml 0 pd_23 (argsL := [(.ref r), (.int (Int32.ofNat (p0))), (.ref r2), (.int 17)]) (st := []) (zpureK ⟨rfl, rfl⟩ fun T18 X18 e18 => ?_))))))
  show zEnds p e below s T18 (mkF m 189 #[rv r, iv (Int32.ofNat (p0)), rv r2] [(.int 1)]) _ _ _
  refine zifNo X18 hx hby d35_189 (by decide) (zaloadN X18 hx hby d35_192 rfl rfl (ziloadN X18 hx hby d35_193 rfl (zaloadN X18 hx hby d35_194 rfl rfl (zbipush X18 hx hby d35_195 (z := (18 : Int32)) rfl (zcalls X18 hx hby d35_197 hZ hown (w268 hw) (w269 hw) (w257 hw) (w270 hw) e18 (c_ch l hw  C O0 vf hvf S_vf r x (xs) ⟨E_r, F_r_v, F_r_c, A_x⟩ r2 z (zs) ⟨E_r2, F_r2_v, F_r2_c, A_z⟩ hs hM hN (p0) (18) (by omega) (by omega) (hm 18)) hml 0 pd_23 (argsL := [(.ref r), (.int (Int32.ofNat (p0))), (.ref r2), (.int 18)]) (st := []) (zpureK ⟨rfl, rfl⟩ fun T19 X19 e19 => ?_))))))
  refine zifNo X19 hx hby d35_200 (by decide) (zaloadN X19 hx hby d35_203 rfl rfl (ziloadN X19 hx hby d35_204 rfl (zaloadN X19 hx hby d35_205 rfl rfl (zbipush X19 hx hby d35_206 (z := (19 : Int32)) rfl (zcalls X19 hx hby d35_208 hZ hown (w268 hw) (w269 hw) (w257 hw) (w270 hw) e19 (c_ch l hw  C O0 vf hvf S_vf r x (xs) ⟨E_r, F_r_v, F_r_c, A_x⟩ r2 z (zs) ⟨E_r2, F_r2_v, F_r2_c, A_z⟩ hs hM hN (p0) (19) (by omega) (by omega) (hm 19)) hml 0 pd_23 (argsL := [(.ref r), (.int (Int32.ofNat (p0))), (.ref r2), (.int 19)]) (st := []) (zpureK ⟨rfl, rfl⟩ fun T20 X20 e20 => ?_))))))
  refine zifNo X20 hx hby d35_211 (by decide) (zaloadN X20 hx hby d35_214 rfl rfl (ziloadN X20 hx hby d35_215 rfl (zaloadN X20 hx hby d35_216 rfl rfl (zbipush X20 hx hby d35_217 (z := (20 : Int32)) rfl (zcalls X20 hx hby d35_219 hZ hown (w268 hw) (w269 hw) (w257 hw) (w270 hw) e20 (c_ch l hw  C O0 vf hvf S_vf r x (xs) ⟨E_r, F_r_v, F_r_c, A_x⟩ r2 z (zs) ⟨E_r2, F_r2_v, F_r2_c, A_z⟩ hs hM hN (p0) (20) (by omega) (by omega) (hm 20)) hml 0 pd_23 (argsL := [(.ref r), (.int (Int32.ofNat (p0))), (.ref r2), (.int 20)]) (st := []) (zpureK ⟨rfl, rfl⟩ fun T21 X21 e21 => ?_))))))
  show zEnds p e below s T21 (mkF m 222 #[rv r, iv (Int32.ofNat (p0)), rv r2] [(.int 1)]) _ _ _
  refine zifNo X21 hx hby d35_222 (by decide) (zaloadN X21 hx hby d35_225 rfl rfl (ziloadN X21 hx hby d35_226 rfl (zaloadN X21 hx hby d35_227 rfl rfl (zbipush X21 hx hby d35_228 (z := (21 : Int32)) rfl (zcalls X21 hx hby d35_230 hZ hown (w268 hw) (w269 hw) (w257 hw) (w270 hw) e21 (c_ch l hw  C O0 vf hvf S_vf r x (xs) ⟨E_r, F_r_v, F_r_c, A_x⟩ r2 z (zs) ⟨E_r2, F_r2_v, F_r2_c, A_z⟩ hs hM hN (p0) (21) (by omega) (by omega) (hm 21)) hml 0 pd_23 (argsL := [(.ref r), (.int (Int32.ofNat (p0))), (.ref r2), (.int 21)]) (st := []) (zpureK ⟨rfl, rfl⟩ fun T22 X22 e22 => ?_))))))
  refine zifNo X22 hx hby d35_233 (by decide) (ziconst X22 hx hby d35_236 (z := (1 : Int32)) rfl (zgoto X22 hx hby d35_237 241 (by decide) (by decide) ?_))
  show zEnds p e below s T22 (mkF m 241 #[rv r, iv (Int32.ofNat (p0)), rv r2] [(.int 1)]) _ _ _
  exact zretZ X22 hx hby d35_241 hret hlk (by simp) rfl (by first | decide | omega | (dsimp only; omega)) (by first | decide | omega | (dsimp only; omega)) (⟨rfl, e22, rfl⟩)
theorem w259 (hw : HW a0 Z) : (Cond.constantLong "com/example/kick/kick/value/CloseReportToStringPinLaw" 61 (10 : Int64)).before a0 Z = true := hwi hw 259 rfl
theorem w260 (hw : HW a0 Z) : (Cond.methodLink "com/example/kick/kick/value/CloseReportToStringPinLaw" 63 ⟨"com/example/kick/kick/value/CloseReportToStringPinLaw", "more", "(J)I"⟩).before a0 Z = true := hwi hw 260 rfl
theorem w261 (hw : HW a0 Z) : (Cond.static ⟨"com/example/kick/kick/value/CloseReportToStringPinLaw", "more", "(J)I"⟩).before a0 Z = true := hwi hw 261 rfl
theorem w262 (hw : HW a0 Z) : (Cond.code ⟨"com/example/kick/kick/value/CloseReportToStringPinLaw", "more", "(J)I"⟩ method_3_code 2 (Option.some FieldType.int)).before a0 Z = true := hwi hw 262 rfl
theorem d36_0 : decode method_3_code 0 = .ok (.lload_n 0, 1) := by decide +kernel
theorem d36_1 : decode method_3_code 1 = .ok (.lconst 0, 1) := by decide +kernel
theorem d36_2 : decode method_3_code 2 = .ok (.lcmp, 1) := by decide +kernel
theorem d36_3 : decode method_3_code 3 = .ok (.ifCond .eq 7, 3) := by decide +kernel
theorem d36_6 : decode method_3_code 6 = .ok (.iconst 1, 1) := by decide +kernel
theorem d36_7 : decode method_3_code 7 = .ok (.goto 4, 3) := by decide +kernel
theorem d36_10 : decode method_3_code 10 = .ok (.iconst 0, 1) := by decide +kernel
theorem d36_11 : decode method_3_code 11 = .ok (.ireturn, 1) := by decide +kernel
theorem d37_0 : decode method_4_code 0 = .ok (.iconst 1, 1) := by decide +kernel
theorem d37_1 : decode method_4_code 1 = .ok (.istore_n 2, 1) := by decide +kernel
theorem d37_2 : decode method_4_code 2 = .ok (.lload_n 0, 1) := by decide +kernel
theorem d37_3 : decode method_4_code 3 = .ok (.ldc2_w 61, 3) := by decide +kernel
theorem d37_6 : decode method_4_code 6 = .ok (.ldiv, 1) := by decide +kernel
theorem d37_7 : decode method_4_code 7 = .ok (.lstore_n 3, 1) := by decide +kernel
theorem d37_8 : decode method_4_code 8 = .ok (.iload_n 2, 1) := by decide +kernel
theorem d37_9 : decode method_4_code 9 = .ok (.lload_n 3, 1) := by decide +kernel
theorem d37_10 : decode method_4_code 10 = .ok (.invokestatic 63, 3) := by decide +kernel
theorem d37_13 : decode method_4_code 13 = .ok (.iadd, 1) := by decide +kernel
theorem d37_14 : decode method_4_code 14 = .ok (.istore_n 2, 1) := by decide +kernel
theorem d37_15 : decode method_4_code 15 = .ok (.lload_n 3, 1) := by decide +kernel
theorem d37_16 : decode method_4_code 16 = .ok (.ldc2_w 61, 3) := by decide +kernel
theorem d37_19 : decode method_4_code 19 = .ok (.ldiv, 1) := by decide +kernel
theorem d37_20 : decode method_4_code 20 = .ok (.lstore_n 3, 1) := by decide +kernel
theorem d37_21 : decode method_4_code 21 = .ok (.iload_n 2, 1) := by decide +kernel
theorem d37_22 : decode method_4_code 22 = .ok (.lload_n 3, 1) := by decide +kernel
theorem d37_23 : decode method_4_code 23 = .ok (.invokestatic 63, 3) := by decide +kernel
theorem d37_26 : decode method_4_code 26 = .ok (.iadd, 1) := by decide +kernel
theorem d37_27 : decode method_4_code 27 = .ok (.istore_n 2, 1) := by decide +kernel
theorem d37_28 : decode method_4_code 28 = .ok (.lload_n 3, 1) := by decide +kernel
theorem d37_29 : decode method_4_code 29 = .ok (.ldc2_w 61, 3) := by decide +kernel
theorem d37_32 : decode method_4_code 32 = .ok (.ldiv, 1) := by decide +kernel
theorem d37_33 : decode method_4_code 33 = .ok (.lstore_n 3, 1) := by decide +kernel
theorem d37_34 : decode method_4_code 34 = .ok (.iload_n 2, 1) := by decide +kernel
theorem d37_35 : decode method_4_code 35 = .ok (.lload_n 3, 1) := by decide +kernel
theorem d37_36 : decode method_4_code 36 = .ok (.invokestatic 63, 3) := by decide +kernel
theorem d37_39 : decode method_4_code 39 = .ok (.iadd, 1) := by decide +kernel
theorem d37_40 : decode method_4_code 40 = .ok (.istore_n 2, 1) := by decide +kernel
theorem d37_41 : decode method_4_code 41 = .ok (.lload_n 3, 1) := by decide +kernel
theorem d37_42 : decode method_4_code 42 = .ok (.ldc2_w 61, 3) := by decide +kernel
theorem d37_45 : decode method_4_code 45 = .ok (.ldiv, 1) := by decide +kernel
theorem d37_46 : decode method_4_code 46 = .ok (.lstore_n 3, 1) := by decide +kernel
theorem d37_47 : decode method_4_code 47 = .ok (.iload_n 2, 1) := by decide +kernel
theorem d37_48 : decode method_4_code 48 = .ok (.lload_n 3, 1) := by decide +kernel
theorem d37_49 : decode method_4_code 49 = .ok (.invokestatic 63, 3) := by decide +kernel
theorem d37_52 : decode method_4_code 52 = .ok (.iadd, 1) := by decide +kernel
theorem d37_53 : decode method_4_code 53 = .ok (.istore_n 2, 1) := by decide +kernel
theorem d37_54 : decode method_4_code 54 = .ok (.lload_n 3, 1) := by decide +kernel
theorem d37_55 : decode method_4_code 55 = .ok (.ldc2_w 61, 3) := by decide +kernel
theorem d37_58 : decode method_4_code 58 = .ok (.ldiv, 1) := by decide +kernel
theorem d37_59 : decode method_4_code 59 = .ok (.lstore_n 3, 1) := by decide +kernel
theorem d37_60 : decode method_4_code 60 = .ok (.iload_n 2, 1) := by decide +kernel
theorem d37_61 : decode method_4_code 61 = .ok (.lload_n 3, 1) := by decide +kernel
theorem d37_62 : decode method_4_code 62 = .ok (.invokestatic 63, 3) := by decide +kernel
theorem d37_65 : decode method_4_code 65 = .ok (.iadd, 1) := by decide +kernel
theorem d37_66 : decode method_4_code 66 = .ok (.istore_n 2, 1) := by decide +kernel
theorem d37_67 : decode method_4_code 67 = .ok (.lload_n 3, 1) := by decide +kernel
theorem d37_68 : decode method_4_code 68 = .ok (.ldc2_w 61, 3) := by decide +kernel
theorem d37_71 : decode method_4_code 71 = .ok (.ldiv, 1) := by decide +kernel
theorem d37_72 : decode method_4_code 72 = .ok (.lstore_n 3, 1) := by decide +kernel
theorem d37_73 : decode method_4_code 73 = .ok (.iload_n 2, 1) := by decide +kernel
theorem d37_74 : decode method_4_code 74 = .ok (.lload_n 3, 1) := by decide +kernel
theorem d37_75 : decode method_4_code 75 = .ok (.invokestatic 63, 3) := by decide +kernel
theorem d37_78 : decode method_4_code 78 = .ok (.iadd, 1) := by decide +kernel
theorem d37_79 : decode method_4_code 79 = .ok (.istore_n 2, 1) := by decide +kernel
theorem d37_80 : decode method_4_code 80 = .ok (.lload_n 3, 1) := by decide +kernel
theorem d37_81 : decode method_4_code 81 = .ok (.ldc2_w 61, 3) := by decide +kernel
theorem d37_84 : decode method_4_code 84 = .ok (.ldiv, 1) := by decide +kernel
theorem d37_85 : decode method_4_code 85 = .ok (.lstore_n 3, 1) := by decide +kernel
theorem d37_86 : decode method_4_code 86 = .ok (.iload_n 2, 1) := by decide +kernel
theorem d37_87 : decode method_4_code 87 = .ok (.lload_n 3, 1) := by decide +kernel
theorem d37_88 : decode method_4_code 88 = .ok (.invokestatic 63, 3) := by decide +kernel
theorem d37_91 : decode method_4_code 91 = .ok (.iadd, 1) := by decide +kernel
theorem d37_92 : decode method_4_code 92 = .ok (.istore_n 2, 1) := by decide +kernel
theorem d37_93 : decode method_4_code 93 = .ok (.lload_n 3, 1) := by decide +kernel
theorem d37_94 : decode method_4_code 94 = .ok (.ldc2_w 61, 3) := by decide +kernel
theorem d37_97 : decode method_4_code 97 = .ok (.ldiv, 1) := by decide +kernel
theorem d37_98 : decode method_4_code 98 = .ok (.lstore_n 3, 1) := by decide +kernel
theorem d37_99 : decode method_4_code 99 = .ok (.iload_n 2, 1) := by decide +kernel
theorem d37_100 : decode method_4_code 100 = .ok (.lload_n 3, 1) := by decide +kernel
theorem d37_101 : decode method_4_code 101 = .ok (.invokestatic 63, 3) := by decide +kernel
theorem d37_104 : decode method_4_code 104 = .ok (.iadd, 1) := by decide +kernel
theorem d37_105 : decode method_4_code 105 = .ok (.istore_n 2, 1) := by decide +kernel
theorem d37_106 : decode method_4_code 106 = .ok (.lload_n 3, 1) := by decide +kernel
theorem d37_107 : decode method_4_code 107 = .ok (.ldc2_w 61, 3) := by decide +kernel
theorem d37_110 : decode method_4_code 110 = .ok (.ldiv, 1) := by decide +kernel
theorem d37_111 : decode method_4_code 111 = .ok (.lstore_n 3, 1) := by decide +kernel
theorem d37_112 : decode method_4_code 112 = .ok (.iload_n 2, 1) := by decide +kernel
theorem d37_113 : decode method_4_code 113 = .ok (.lload_n 3, 1) := by decide +kernel
theorem d37_114 : decode method_4_code 114 = .ok (.invokestatic 63, 3) := by decide +kernel
theorem d37_117 : decode method_4_code 117 = .ok (.iadd, 1) := by decide +kernel
theorem d37_118 : decode method_4_code 118 = .ok (.istore_n 2, 1) := by decide +kernel
theorem d37_119 : decode method_4_code 119 = .ok (.lload_n 3, 1) := by decide +kernel
theorem d37_120 : decode method_4_code 120 = .ok (.ldc2_w 61, 3) := by decide +kernel
theorem d37_123 : decode method_4_code 123 = .ok (.ldiv, 1) := by decide +kernel
theorem d37_124 : decode method_4_code 124 = .ok (.lstore_n 3, 1) := by decide +kernel
theorem d37_125 : decode method_4_code 125 = .ok (.iload_n 2, 1) := by decide +kernel
theorem d37_126 : decode method_4_code 126 = .ok (.lload_n 3, 1) := by decide +kernel
theorem d37_127 : decode method_4_code 127 = .ok (.invokestatic 63, 3) := by decide +kernel
theorem d37_130 : decode method_4_code 130 = .ok (.iadd, 1) := by decide +kernel
theorem d37_131 : decode method_4_code 131 = .ok (.istore_n 2, 1) := by decide +kernel
theorem d37_132 : decode method_4_code 132 = .ok (.lload_n 3, 1) := by decide +kernel
theorem d37_133 : decode method_4_code 133 = .ok (.ldc2_w 61, 3) := by decide +kernel
theorem d37_136 : decode method_4_code 136 = .ok (.ldiv, 1) := by decide +kernel
theorem d37_137 : decode method_4_code 137 = .ok (.lstore_n 3, 1) := by decide +kernel
theorem d37_138 : decode method_4_code 138 = .ok (.iload_n 2, 1) := by decide +kernel
theorem d37_139 : decode method_4_code 139 = .ok (.lload_n 3, 1) := by decide +kernel
theorem d37_140 : decode method_4_code 140 = .ok (.invokestatic 63, 3) := by decide +kernel
theorem d37_143 : decode method_4_code 143 = .ok (.iadd, 1) := by decide +kernel
theorem d37_144 : decode method_4_code 144 = .ok (.istore_n 2, 1) := by decide +kernel
theorem d37_145 : decode method_4_code 145 = .ok (.lload_n 3, 1) := by decide +kernel
theorem d37_146 : decode method_4_code 146 = .ok (.ldc2_w 61, 3) := by decide +kernel
theorem d37_149 : decode method_4_code 149 = .ok (.ldiv, 1) := by decide +kernel
theorem d37_150 : decode method_4_code 150 = .ok (.lstore_n 3, 1) := by decide +kernel
theorem d37_151 : decode method_4_code 151 = .ok (.iload_n 2, 1) := by decide +kernel
theorem d37_152 : decode method_4_code 152 = .ok (.lload_n 3, 1) := by decide +kernel
theorem d37_153 : decode method_4_code 153 = .ok (.invokestatic 63, 3) := by decide +kernel
theorem d37_156 : decode method_4_code 156 = .ok (.iadd, 1) := by decide +kernel
theorem d37_157 : decode method_4_code 157 = .ok (.istore_n 2, 1) := by decide +kernel
theorem d37_158 : decode method_4_code 158 = .ok (.lload_n 3, 1) := by decide +kernel
theorem d37_159 : decode method_4_code 159 = .ok (.ldc2_w 61, 3) := by decide +kernel
theorem d37_162 : decode method_4_code 162 = .ok (.ldiv, 1) := by decide +kernel
theorem d37_163 : decode method_4_code 163 = .ok (.lstore_n 3, 1) := by decide +kernel
theorem d37_164 : decode method_4_code 164 = .ok (.iload_n 2, 1) := by decide +kernel
theorem d37_165 : decode method_4_code 165 = .ok (.lload_n 3, 1) := by decide +kernel
theorem d37_166 : decode method_4_code 166 = .ok (.invokestatic 63, 3) := by decide +kernel
theorem d37_169 : decode method_4_code 169 = .ok (.iadd, 1) := by decide +kernel
theorem d37_170 : decode method_4_code 170 = .ok (.istore_n 2, 1) := by decide +kernel
theorem d37_171 : decode method_4_code 171 = .ok (.lload_n 3, 1) := by decide +kernel
theorem d37_172 : decode method_4_code 172 = .ok (.ldc2_w 61, 3) := by decide +kernel
theorem d37_175 : decode method_4_code 175 = .ok (.ldiv, 1) := by decide +kernel
theorem d37_176 : decode method_4_code 176 = .ok (.lstore_n 3, 1) := by decide +kernel
theorem d37_177 : decode method_4_code 177 = .ok (.iload_n 2, 1) := by decide +kernel
theorem d37_178 : decode method_4_code 178 = .ok (.lload_n 3, 1) := by decide +kernel
theorem d37_179 : decode method_4_code 179 = .ok (.invokestatic 63, 3) := by decide +kernel
theorem d37_182 : decode method_4_code 182 = .ok (.iadd, 1) := by decide +kernel
theorem d37_183 : decode method_4_code 183 = .ok (.istore_n 2, 1) := by decide +kernel
theorem d37_184 : decode method_4_code 184 = .ok (.lload_n 3, 1) := by decide +kernel
theorem d37_185 : decode method_4_code 185 = .ok (.ldc2_w 61, 3) := by decide +kernel
theorem d37_188 : decode method_4_code 188 = .ok (.ldiv, 1) := by decide +kernel
theorem d37_189 : decode method_4_code 189 = .ok (.lstore_n 3, 1) := by decide +kernel
theorem d37_190 : decode method_4_code 190 = .ok (.iload_n 2, 1) := by decide +kernel
theorem d37_191 : decode method_4_code 191 = .ok (.lload_n 3, 1) := by decide +kernel
theorem d37_192 : decode method_4_code 192 = .ok (.invokestatic 63, 3) := by decide +kernel
theorem d37_195 : decode method_4_code 195 = .ok (.iadd, 1) := by decide +kernel
theorem d37_196 : decode method_4_code 196 = .ok (.istore_n 2, 1) := by decide +kernel
theorem d37_197 : decode method_4_code 197 = .ok (.lload_n 3, 1) := by decide +kernel
theorem d37_198 : decode method_4_code 198 = .ok (.ldc2_w 61, 3) := by decide +kernel
theorem d37_201 : decode method_4_code 201 = .ok (.ldiv, 1) := by decide +kernel
theorem d37_202 : decode method_4_code 202 = .ok (.lstore_n 3, 1) := by decide +kernel
theorem d37_203 : decode method_4_code 203 = .ok (.iload_n 2, 1) := by decide +kernel
theorem d37_204 : decode method_4_code 204 = .ok (.lload_n 3, 1) := by decide +kernel
theorem d37_205 : decode method_4_code 205 = .ok (.invokestatic 63, 3) := by decide +kernel
theorem d37_208 : decode method_4_code 208 = .ok (.iadd, 1) := by decide +kernel
theorem d37_209 : decode method_4_code 209 = .ok (.istore_n 2, 1) := by decide +kernel
theorem d37_210 : decode method_4_code 210 = .ok (.lload_n 3, 1) := by decide +kernel
theorem d37_211 : decode method_4_code 211 = .ok (.ldc2_w 61, 3) := by decide +kernel
theorem d37_214 : decode method_4_code 214 = .ok (.ldiv, 1) := by decide +kernel
theorem d37_215 : decode method_4_code 215 = .ok (.lstore_n 3, 1) := by decide +kernel
theorem d37_216 : decode method_4_code 216 = .ok (.iload_n 2, 1) := by decide +kernel
theorem d37_217 : decode method_4_code 217 = .ok (.lload_n 3, 1) := by decide +kernel
theorem d37_218 : decode method_4_code 218 = .ok (.invokestatic 63, 3) := by decide +kernel
theorem d37_221 : decode method_4_code 221 = .ok (.iadd, 1) := by decide +kernel
theorem d37_222 : decode method_4_code 222 = .ok (.istore_n 2, 1) := by decide +kernel
theorem d37_223 : decode method_4_code 223 = .ok (.lload_n 3, 1) := by decide +kernel
theorem d37_224 : decode method_4_code 224 = .ok (.ldc2_w 61, 3) := by decide +kernel
theorem d37_227 : decode method_4_code 227 = .ok (.ldiv, 1) := by decide +kernel
theorem d37_228 : decode method_4_code 228 = .ok (.lstore_n 3, 1) := by decide +kernel
theorem d37_229 : decode method_4_code 229 = .ok (.iload_n 2, 1) := by decide +kernel
theorem d37_230 : decode method_4_code 230 = .ok (.lload_n 3, 1) := by decide +kernel
theorem d37_231 : decode method_4_code 231 = .ok (.invokestatic 63, 3) := by decide +kernel
theorem d37_234 : decode method_4_code 234 = .ok (.iadd, 1) := by decide +kernel
theorem d37_235 : decode method_4_code 235 = .ok (.istore_n 2, 1) := by decide +kernel
theorem d37_236 : decode method_4_code 236 = .ok (.iload_n 2, 1) := by decide +kernel
theorem d37_237 : decode method_4_code 237 = .ok (.ireturn, 1) := by decide +kernel
theorem c_more (hw : HW a0 Z) (C : Ctx Z cs d1 d2 o1 o2) (O0 : zOd Z n0 h0) (n : Nat) (hn : n < 9223372036854775808) : zCon l Z (⟨"com/example/kick/kick/value/CloseReportToStringPinLaw", "more", "(J)I"⟩ : MethodName) method_3_code 2 (some .int) [] ({ frames := 0, cells := 0, slots := 0, locals := 0 } : Room) #[(.long (Int64.ofNat (n)))] h0 (zSame (some (.int (Int32.ofNat (nz n)))) h0) := by
  refine zenter (plainFor_of_name pn_8) (L0 := #[.val (.long (Int64.ofNat (n))), .second]) (H := ?_)
  intro p e s m below meth c T0 hx hZ hby hml hown0 hnm hret hlk X0 e0
  have hown : s.vm.findClass "com/example/kick/kick/value/CloseReportToStringPinLaw" = some m.cls := hown0
  show zEnds p e below s T0 (mkF m 0 #[.val (.long (Int64.ofNat (n))), .second] []) _ _ _
  refine zlloadN X0 hx hby d36_0 rfl (zlconst X0 hx hby d36_1 (z := (0 : Int64)) rfl (zlcmp X0 hx hby d36_2 (lcmpW (Int64.ofNat (n)) (0 : Int64)) rfl ?_))
  show zEnds p e below s T0 (mkF m 3 #[.val (.long (Int64.ofNat (n))), .second] [(.int (lcmpW (Int64.ofNat (n)) (0 : Int64)))]) _ _ _
  by_cases h0_ : n = 0
  · refine zifYes X0 hx hby d36_3 10 ((if0 _ _).trans (teq (show lcmpW (Int64.ofNat n) 0 = (0 : Int32) from by rw [lcmp_0, show (0 : Int64) = Int64.ofNat 0 from rfl, ofL_eq hn (by omega)]; exact h0_)).1) (by decide) (by decide) (ziconst X0 hx hby d36_10 (z := (0 : Int32)) rfl ?_)
    show zEnds p e below s T0 (mkF m 11 #[.val (.long (Int64.ofNat (n))), .second] [(.int 0)]) _ _ _
    exact zretI X0 hx hby d36_11 hret hlk (by first | decide | omega | (dsimp only; omega)) (by first | decide | omega | (dsimp only; omega)) (⟨by rw [nz_0 h0_]; rfl, e0, rfl⟩)
  · refine zifNo X0 hx hby d36_3 ((if0 _ _).trans (feq (show ¬ (lcmpW (Int64.ofNat n) 0 = (0 : Int32)) from by rw [lcmp_0, show (0 : Int64) = Int64.ofNat 0 from rfl, ofL_eq hn (by omega)]; exact h0_)).1) (ziconst X0 hx hby d36_6 (z := (1 : Int32)) rfl (zgoto X0 hx hby d36_7 11 (by decide) (by decide) ?_))
    show zEnds p e below s T0 (mkF m 11 #[.val (.long (Int64.ofNat (n))), .second] [(.int 1)]) _ _ _
    exact zretI X0 hx hby d36_11 hret hlk (by first | decide | omega | (dsimp only; omega)) (by first | decide | omega | (dsimp only; omega)) (⟨by rw [nz_1 h0_]; rfl, e0, rfl⟩)
theorem c_ndig (hw : HW a0 Z) (C : Ctx Z cs d1 d2 o1 o2) (O0 : zOd Z n0 h0) (n : Nat) (hn : n < 9223372036854775808) : zCon l Z (⟨"com/example/kick/kick/value/CloseReportToStringPinLaw", "ndig", "(J)I"⟩ : MethodName) method_4_code 5 (some .int) [] ({ frames := 1, cells := 0, slots := 0, locals := 14 } : Room) #[(.long (Int64.ofNat (n)))] h0 (zSame (some (.int (Int32.ofNat ((dec n).length)))) h0) := by
  refine zenter (plainFor_of_name pn_8) (L0 := #[.val (.long (Int64.ofNat (n))), .second, .unset, .unset, .unset]) (H := ?_)
  intro p e s m below meth c T0 hx hZ hby hml hown0 hnm hret hlk X0 e0
  have hown : s.vm.findClass "com/example/kick/kick/value/CloseReportToStringPinLaw" = some m.cls := hown0
  show zEnds p e below s T0 (mkF m 0 #[.val (.long (Int64.ofNat (n))), .second, .unset, .unset, .unset] []) _ _ _
  refine ziconst X0 hx hby d37_0 (z := (1 : Int32)) rfl (zistoreN X0 hx hby d37_1 (L' := #[.val (.long (Int64.ofNat (n))), .second, iv 1, .unset, .unset]) rfl (zlloadN X0 hx hby d37_2 rfl (zldc2J X0 hx hby d37_3 (10 : Int64) hZ hown (w259 hw) (zldiv X0 hx hby d37_6 (Int64.ofNat (n / 10)) (by decide) (ofL_div (by omega)) (zlstoreN X0 hx hby d37_7 (L' := #[.val (.long (Int64.ofNat (n))), .second, iv 1, .val (.long (Int64.ofNat (n / 10))), .second]) rfl (ziloadN X0 hx hby d37_8 rfl (zlloadN X0 hx hby d37_9 rfl (zcalls X0 hx hby d37_10 hZ hown (w260 hw) (w261 hw) (w257 hw) (w262 hw) e0 (c_more l hw  C O0 (n / 10) (by omega)) hml 1 pd_11 (argsL := [(.long (Int64.ofNat (n / 10)))]) (st := [(.int 1)]) (zpureK ⟨rfl, rfl⟩ fun T1 X1 e1 => ?_)))))))))
  refine ziadd X1 hx hby d37_13 (Int32.ofNat (1 + nz (n / 10))) (zofN_add _ _) ?_
  show zEnds p e below s T1 (mkF m 14 #[.val (.long (Int64.ofNat (n))), .second, iv 1, .val (.long (Int64.ofNat (n / 10))), .second] [(.int (Int32.ofNat (1 + nz (n / 10))))]) _ _ _
  generalize e1_ : n / 10 = t1
  have b1_ : t1 < 9223372036854775808 := by omega
  generalize f1_ : 1 + nz t1 = s1
  refine zistoreN X1 hx hby d37_14 (L' := #[.val (.long (Int64.ofNat (n))), .second, iv (Int32.ofNat (s1)), .val (.long (Int64.ofNat (t1))), .second]) rfl (zlloadN X1 hx hby d37_15 rfl (zldc2J X1 hx hby d37_16 (10 : Int64) hZ hown (w259 hw) (zldiv X1 hx hby d37_19 (Int64.ofNat (t1 / 10)) (by decide) (ofL_div (by omega)) (zlstoreN X1 hx hby d37_20 (L' := #[.val (.long (Int64.ofNat (n))), .second, iv (Int32.ofNat (s1)), .val (.long (Int64.ofNat (t1 / 10))), .second]) rfl (ziloadN X1 hx hby d37_21 rfl (zlloadN X1 hx hby d37_22 rfl (zcalls X1 hx hby d37_23 hZ hown (w260 hw) (w261 hw) (w257 hw) (w262 hw) e1 (c_more l hw  C O0 (t1 / 10) (by omega)) hml 1 pd_11 (argsL := [(.long (Int64.ofNat (t1 / 10)))]) (st := [(.int (Int32.ofNat (s1)))]) (zpureK ⟨rfl, rfl⟩ fun T2 X2 e2 => ?_))))))))
  refine ziadd X2 hx hby d37_26 (Int32.ofNat (s1 + nz (t1 / 10))) (zofN_add _ _) ?_
  show zEnds p e below s T2 (mkF m 27 #[.val (.long (Int64.ofNat (n))), .second, iv (Int32.ofNat (s1)), .val (.long (Int64.ofNat (t1 / 10))), .second] [(.int (Int32.ofNat (s1 + nz (t1 / 10))))]) _ _ _
  generalize e2_ : t1 / 10 = t2
  have b2_ : t2 < 9223372036854775808 := by omega
  generalize f2_ : s1 + nz t2 = s2
  refine zistoreN X2 hx hby d37_27 (L' := #[.val (.long (Int64.ofNat (n))), .second, iv (Int32.ofNat (s2)), .val (.long (Int64.ofNat (t2))), .second]) rfl (zlloadN X2 hx hby d37_28 rfl (zldc2J X2 hx hby d37_29 (10 : Int64) hZ hown (w259 hw) (zldiv X2 hx hby d37_32 (Int64.ofNat (t2 / 10)) (by decide) (ofL_div (by omega)) (zlstoreN X2 hx hby d37_33 (L' := #[.val (.long (Int64.ofNat (n))), .second, iv (Int32.ofNat (s2)), .val (.long (Int64.ofNat (t2 / 10))), .second]) rfl (ziloadN X2 hx hby d37_34 rfl (zlloadN X2 hx hby d37_35 rfl (zcalls X2 hx hby d37_36 hZ hown (w260 hw) (w261 hw) (w257 hw) (w262 hw) e2 (c_more l hw  C O0 (t2 / 10) (by omega)) hml 1 pd_11 (argsL := [(.long (Int64.ofNat (t2 / 10)))]) (st := [(.int (Int32.ofNat (s2)))]) (zpureK ⟨rfl, rfl⟩ fun T3 X3 e3 => ?_))))))))
  refine ziadd X3 hx hby d37_39 (Int32.ofNat (s2 + nz (t2 / 10))) (zofN_add _ _) ?_
  show zEnds p e below s T3 (mkF m 40 #[.val (.long (Int64.ofNat (n))), .second, iv (Int32.ofNat (s2)), .val (.long (Int64.ofNat (t2 / 10))), .second] [(.int (Int32.ofNat (s2 + nz (t2 / 10))))]) _ _ _
  generalize e3_ : t2 / 10 = t3
  have b3_ : t3 < 9223372036854775808 := by omega
  generalize f3_ : s2 + nz t3 = s3
  refine zistoreN X3 hx hby d37_40 (L' := #[.val (.long (Int64.ofNat (n))), .second, iv (Int32.ofNat (s3)), .val (.long (Int64.ofNat (t3))), .second]) rfl (zlloadN X3 hx hby d37_41 rfl (zldc2J X3 hx hby d37_42 (10 : Int64) hZ hown (w259 hw) (zldiv X3 hx hby d37_45 (Int64.ofNat (t3 / 10)) (by decide) (ofL_div (by omega)) (zlstoreN X3 hx hby d37_46 (L' := #[.val (.long (Int64.ofNat (n))), .second, iv (Int32.ofNat (s3)), .val (.long (Int64.ofNat (t3 / 10))), .second]) rfl (ziloadN X3 hx hby d37_47 rfl (zlloadN X3 hx hby d37_48 rfl (zcalls X3 hx hby d37_49 hZ hown (w260 hw) (w261 hw) (w257 hw) (w262 hw) e3 (c_more l hw  C O0 (t3 / 10) (by omega)) hml 1 pd_11 (argsL := [(.long (Int64.ofNat (t3 / 10)))]) (st := [(.int (Int32.ofNat (s3)))]) (zpureK ⟨rfl, rfl⟩ fun T4 X4 e4 => ?_))))))))
  refine ziadd X4 hx hby d37_52 (Int32.ofNat (s3 + nz (t3 / 10))) (zofN_add _ _) ?_
  show zEnds p e below s T4 (mkF m 53 #[.val (.long (Int64.ofNat (n))), .second, iv (Int32.ofNat (s3)), .val (.long (Int64.ofNat (t3 / 10))), .second] [(.int (Int32.ofNat (s3 + nz (t3 / 10))))]) _ _ _
  generalize e4_ : t3 / 10 = t4
  have b4_ : t4 < 9223372036854775808 := by omega
  generalize f4_ : s3 + nz t4 = s4
  refine zistoreN X4 hx hby d37_53 (L' := #[.val (.long (Int64.ofNat (n))), .second, iv (Int32.ofNat (s4)), .val (.long (Int64.ofNat (t4))), .second]) rfl (zlloadN X4 hx hby d37_54 rfl (zldc2J X4 hx hby d37_55 (10 : Int64) hZ hown (w259 hw) (zldiv X4 hx hby d37_58 (Int64.ofNat (t4 / 10)) (by decide) (ofL_div (by omega)) (zlstoreN X4 hx hby d37_59 (L' := #[.val (.long (Int64.ofNat (n))), .second, iv (Int32.ofNat (s4)), .val (.long (Int64.ofNat (t4 / 10))), .second]) rfl (ziloadN X4 hx hby d37_60 rfl (zlloadN X4 hx hby d37_61 rfl (zcalls X4 hx hby d37_62 hZ hown (w260 hw) (w261 hw) (w257 hw) (w262 hw) e4 (c_more l hw  C O0 (t4 / 10) (by omega)) hml 1 pd_11 (argsL := [(.long (Int64.ofNat (t4 / 10)))]) (st := [(.int (Int32.ofNat (s4)))]) (zpureK ⟨rfl, rfl⟩ fun T5 X5 e5 => ?_))))))))
  refine ziadd X5 hx hby d37_65 (Int32.ofNat (s4 + nz (t4 / 10))) (zofN_add _ _) ?_
  show zEnds p e below s T5 (mkF m 66 #[.val (.long (Int64.ofNat (n))), .second, iv (Int32.ofNat (s4)), .val (.long (Int64.ofNat (t4 / 10))), .second] [(.int (Int32.ofNat (s4 + nz (t4 / 10))))]) _ _ _
  generalize e5_ : t4 / 10 = t5
  have b5_ : t5 < 9223372036854775808 := by omega
  generalize f5_ : s4 + nz t5 = s5
  refine zistoreN X5 hx hby d37_66 (L' := #[.val (.long (Int64.ofNat (n))), .second, iv (Int32.ofNat (s5)), .val (.long (Int64.ofNat (t5))), .second]) rfl (zlloadN X5 hx hby d37_67 rfl (zldc2J X5 hx hby d37_68 (10 : Int64) hZ hown (w259 hw) (zldiv X5 hx hby d37_71 (Int64.ofNat (t5 / 10)) (by decide) (ofL_div (by omega)) (zlstoreN X5 hx hby d37_72 (L' := #[.val (.long (Int64.ofNat (n))), .second, iv (Int32.ofNat (s5)), .val (.long (Int64.ofNat (t5 / 10))), .second]) rfl (ziloadN X5 hx hby d37_73 rfl (zlloadN X5 hx hby d37_74 rfl (zcalls X5 hx hby d37_75 hZ hown (w260 hw) (w261 hw) (w257 hw) (w262 hw) e5 (c_more l hw  C O0 (t5 / 10) (by omega)) hml 1 pd_11 (argsL := [(.long (Int64.ofNat (t5 / 10)))]) (st := [(.int (Int32.ofNat (s5)))]) (zpureK ⟨rfl, rfl⟩ fun T6 X6 e6 => ?_))))))))
  refine ziadd X6 hx hby d37_78 (Int32.ofNat (s5 + nz (t5 / 10))) (zofN_add _ _) ?_
  show zEnds p e below s T6 (mkF m 79 #[.val (.long (Int64.ofNat (n))), .second, iv (Int32.ofNat (s5)), .val (.long (Int64.ofNat (t5 / 10))), .second] [(.int (Int32.ofNat (s5 + nz (t5 / 10))))]) _ _ _
  generalize e6_ : t5 / 10 = t6
  have b6_ : t6 < 9223372036854775808 := by omega
  generalize f6_ : s5 + nz t6 = s6
  refine zistoreN X6 hx hby d37_79 (L' := #[.val (.long (Int64.ofNat (n))), .second, iv (Int32.ofNat (s6)), .val (.long (Int64.ofNat (t6))), .second]) rfl (zlloadN X6 hx hby d37_80 rfl (zldc2J X6 hx hby d37_81 (10 : Int64) hZ hown (w259 hw) (zldiv X6 hx hby d37_84 (Int64.ofNat (t6 / 10)) (by decide) (ofL_div (by omega)) (zlstoreN X6 hx hby d37_85 (L' := #[.val (.long (Int64.ofNat (n))), .second, iv (Int32.ofNat (s6)), .val (.long (Int64.ofNat (t6 / 10))), .second]) rfl (ziloadN X6 hx hby d37_86 rfl (zlloadN X6 hx hby d37_87 rfl (zcalls X6 hx hby d37_88 hZ hown (w260 hw) (w261 hw) (w257 hw) (w262 hw) e6 (c_more l hw  C O0 (t6 / 10) (by omega)) hml 1 pd_11 (argsL := [(.long (Int64.ofNat (t6 / 10)))]) (st := [(.int (Int32.ofNat (s6)))]) (zpureK ⟨rfl, rfl⟩ fun T7 X7 e7 => ?_))))))))
  refine ziadd X7 hx hby d37_91 (Int32.ofNat (s6 + nz (t6 / 10))) (zofN_add _ _) ?_
  show zEnds p e below s T7 (mkF m 92 #[.val (.long (Int64.ofNat (n))), .second, iv (Int32.ofNat (s6)), .val (.long (Int64.ofNat (t6 / 10))), .second] [(.int (Int32.ofNat (s6 + nz (t6 / 10))))]) _ _ _
  generalize e7_ : t6 / 10 = t7
  have b7_ : t7 < 9223372036854775808 := by omega
  generalize f7_ : s6 + nz t7 = s7
  refine zistoreN X7 hx hby d37_92 (L' := #[.val (.long (Int64.ofNat (n))), .second, iv (Int32.ofNat (s7)), .val (.long (Int64.ofNat (t7))), .second]) rfl (zlloadN X7 hx hby d37_93 rfl (zldc2J X7 hx hby d37_94 (10 : Int64) hZ hown (w259 hw) (zldiv X7 hx hby d37_97 (Int64.ofNat (t7 / 10)) (by decide) (ofL_div (by omega)) (zlstoreN X7 hx hby d37_98 (L' := #[.val (.long (Int64.ofNat (n))), .second, iv (Int32.ofNat (s7)), .val (.long (Int64.ofNat (t7 / 10))), .second]) rfl (ziloadN X7 hx hby d37_99 rfl (zlloadN X7 hx hby d37_100 rfl (zcalls X7 hx hby d37_101 hZ hown (w260 hw) (w261 hw) (w257 hw) (w262 hw) e7 (c_more l hw  C O0 (t7 / 10) (by omega)) hml 1 pd_11 (argsL := [(.long (Int64.ofNat (t7 / 10)))]) (st := [(.int (Int32.ofNat (s7)))]) (zpureK ⟨rfl, rfl⟩ fun T8 X8 e8 => ?_))))))))
  refine ziadd X8 hx hby d37_104 (Int32.ofNat (s7 + nz (t7 / 10))) (zofN_add _ _) ?_
  show zEnds p e below s T8 (mkF m 105 #[.val (.long (Int64.ofNat (n))), .second, iv (Int32.ofNat (s7)), .val (.long (Int64.ofNat (t7 / 10))), .second] [(.int (Int32.ofNat (s7 + nz (t7 / 10))))]) _ _ _
  generalize e8_ : t7 / 10 = t8
  have b8_ : t8 < 9223372036854775808 := by omega
  generalize f8_ : s7 + nz t8 = s8
  refine zistoreN X8 hx hby d37_105 (L' := #[.val (.long (Int64.ofNat (n))), .second, iv (Int32.ofNat (s8)), .val (.long (Int64.ofNat (t8))), .second]) rfl (zlloadN X8 hx hby d37_106 rfl (zldc2J X8 hx hby d37_107 (10 : Int64) hZ hown (w259 hw) (zldiv X8 hx hby d37_110 (Int64.ofNat (t8 / 10)) (by decide) (ofL_div (by omega)) (zlstoreN X8 hx hby d37_111 (L' := #[.val (.long (Int64.ofNat (n))), .second, iv (Int32.ofNat (s8)), .val (.long (Int64.ofNat (t8 / 10))), .second]) rfl (ziloadN X8 hx hby d37_112 rfl (zlloadN X8 hx hby d37_113 rfl (zcalls X8 hx hby d37_114 hZ hown (w260 hw) (w261 hw) (w257 hw) (w262 hw) e8 (c_more l hw  C O0 (t8 / 10) (by omega)) hml 1 pd_11 (argsL := [(.long (Int64.ofNat (t8 / 10)))]) (st := [(.int (Int32.ofNat (s8)))]) (zpureK ⟨rfl, rfl⟩ fun T9 X9 e9 => ?_))))))))
  refine ziadd X9 hx hby d37_117 (Int32.ofNat (s8 + nz (t8 / 10))) (zofN_add _ _) ?_
  show zEnds p e below s T9 (mkF m 118 #[.val (.long (Int64.ofNat (n))), .second, iv (Int32.ofNat (s8)), .val (.long (Int64.ofNat (t8 / 10))), .second] [(.int (Int32.ofNat (s8 + nz (t8 / 10))))]) _ _ _
  generalize e9_ : t8 / 10 = t9
  have b9_ : t9 < 9223372036854775808 := by omega
  generalize f9_ : s8 + nz t9 = s9
  refine zistoreN X9 hx hby d37_118 (L' := #[.val (.long (Int64.ofNat (n))), .second, iv (Int32.ofNat (s9)), .val (.long (Int64.ofNat (t9))), .second]) rfl (zlloadN X9 hx hby d37_119 rfl (zldc2J X9 hx hby d37_120 (10 : Int64) hZ hown (w259 hw) (zldiv X9 hx hby d37_123 (Int64.ofNat (t9 / 10)) (by decide) (ofL_div (by omega)) (zlstoreN X9 hx hby d37_124 (L' := #[.val (.long (Int64.ofNat (n))), .second, iv (Int32.ofNat (s9)), .val (.long (Int64.ofNat (t9 / 10))), .second]) rfl (ziloadN X9 hx hby d37_125 rfl (zlloadN X9 hx hby d37_126 rfl (zcalls X9 hx hby d37_127 hZ hown (w260 hw) (w261 hw) (w257 hw) (w262 hw) e9 (c_more l hw  C O0 (t9 / 10) (by omega)) hml 1 pd_11 (argsL := [(.long (Int64.ofNat (t9 / 10)))]) (st := [(.int (Int32.ofNat (s9)))]) (zpureK ⟨rfl, rfl⟩ fun T10 X10 e10 => ?_))))))))
  refine ziadd X10 hx hby d37_130 (Int32.ofNat (s9 + nz (t9 / 10))) (zofN_add _ _) ?_
  show zEnds p e below s T10 (mkF m 131 #[.val (.long (Int64.ofNat (n))), .second, iv (Int32.ofNat (s9)), .val (.long (Int64.ofNat (t9 / 10))), .second] [(.int (Int32.ofNat (s9 + nz (t9 / 10))))]) _ _ _
  generalize e10_ : t9 / 10 = t10
  have b10_ : t10 < 9223372036854775808 := by omega
  generalize f10_ : s9 + nz t10 = s10
  refine zistoreN X10 hx hby d37_131 (L' := #[.val (.long (Int64.ofNat (n))), .second, iv (Int32.ofNat (s10)), .val (.long (Int64.ofNat (t10))), .second]) rfl (zlloadN X10 hx hby d37_132 rfl (zldc2J X10 hx hby d37_133 (10 : Int64) hZ hown (w259 hw) (zldiv X10 hx hby d37_136 (Int64.ofNat (t10 / 10)) (by decide) (ofL_div (by omega)) (zlstoreN X10 hx hby d37_137 (L' := #[.val (.long (Int64.ofNat (n))), .second, iv (Int32.ofNat (s10)), .val (.long (Int64.ofNat (t10 / 10))), .second]) rfl (ziloadN X10 hx hby d37_138 rfl (zlloadN X10 hx hby d37_139 rfl (zcalls X10 hx hby d37_140 hZ hown (w260 hw) (w261 hw) (w257 hw) (w262 hw) e10 (c_more l hw  C O0 (t10 / 10) (by omega)) hml 1 pd_11 (argsL := [(.long (Int64.ofNat (t10 / 10)))]) (st := [(.int (Int32.ofNat (s10)))]) (zpureK ⟨rfl, rfl⟩ fun T11 X11 e11 => ?_))))))))
  refine ziadd X11 hx hby d37_143 (Int32.ofNat (s10 + nz (t10 / 10))) (zofN_add _ _) ?_
  show zEnds p e below s T11 (mkF m 144 #[.val (.long (Int64.ofNat (n))), .second, iv (Int32.ofNat (s10)), .val (.long (Int64.ofNat (t10 / 10))), .second] [(.int (Int32.ofNat (s10 + nz (t10 / 10))))]) _ _ _
  generalize e11_ : t10 / 10 = t11
  have b11_ : t11 < 9223372036854775808 := by omega
  generalize f11_ : s10 + nz t11 = s11
  refine zistoreN X11 hx hby d37_144 (L' := #[.val (.long (Int64.ofNat (n))), .second, iv (Int32.ofNat (s11)), .val (.long (Int64.ofNat (t11))), .second]) rfl (zlloadN X11 hx hby d37_145 rfl (zldc2J X11 hx hby d37_146 (10 : Int64) hZ hown (w259 hw) (zldiv X11 hx hby d37_149 (Int64.ofNat (t11 / 10)) (by decide) (ofL_div (by omega)) (zlstoreN X11 hx hby d37_150 (L' := #[.val (.long (Int64.ofNat (n))), .second, iv (Int32.ofNat (s11)), .val (.long (Int64.ofNat (t11 / 10))), .second]) rfl (ziloadN X11 hx hby d37_151 rfl (zlloadN X11 hx hby d37_152 rfl (zcalls X11 hx hby d37_153 hZ hown (w260 hw) (w261 hw) (w257 hw) (w262 hw) e11 (c_more l hw  C O0 (t11 / 10) (by omega)) hml 1 pd_11 (argsL := [(.long (Int64.ofNat (t11 / 10)))]) (st := [(.int (Int32.ofNat (s11)))]) (zpureK ⟨rfl, rfl⟩ fun T12 X12 e12 => ?_))))))))
  refine ziadd X12 hx hby d37_156 (Int32.ofNat (s11 + nz (t11 / 10))) (zofN_add _ _) ?_
  show zEnds p e below s T12 (mkF m 157 #[.val (.long (Int64.ofNat (n))), .second, iv (Int32.ofNat (s11)), .val (.long (Int64.ofNat (t11 / 10))), .second] [(.int (Int32.ofNat (s11 + nz (t11 / 10))))]) _ _ _
  generalize e12_ : t11 / 10 = t12
  have b12_ : t12 < 9223372036854775808 := by omega
  generalize f12_ : s11 + nz t12 = s12
  refine zistoreN X12 hx hby d37_157 (L' := #[.val (.long (Int64.ofNat (n))), .second, iv (Int32.ofNat (s12)), .val (.long (Int64.ofNat (t12))), .second]) rfl (zlloadN X12 hx hby d37_158 rfl (zldc2J X12 hx hby d37_159 (10 : Int64) hZ hown (w259 hw) (zldiv X12 hx hby d37_162 (Int64.ofNat (t12 / 10)) (by decide) (ofL_div (by omega)) (zlstoreN X12 hx hby d37_163 (L' := #[.val (.long (Int64.ofNat (n))), .second, iv (Int32.ofNat (s12)), .val (.long (Int64.ofNat (t12 / 10))), .second]) rfl (ziloadN X12 hx hby d37_164 rfl (zlloadN X12 hx hby d37_165 rfl (zcalls X12 hx hby d37_166 hZ hown (w260 hw) (w261 hw) (w257 hw) (w262 hw) e12 (c_more l hw  C O0 (t12 / 10) (by omega)) hml 1 pd_11 (argsL := [(.long (Int64.ofNat (t12 / 10)))]) (st := [(.int (Int32.ofNat (s12)))]) (zpureK ⟨rfl, rfl⟩ fun T13 X13 e13 => ?_))))))))
  refine ziadd X13 hx hby d37_169 (Int32.ofNat (s12 + nz (t12 / 10))) (zofN_add _ _) ?_
  show zEnds p e below s T13 (mkF m 170 #[.val (.long (Int64.ofNat (n))), .second, iv (Int32.ofNat (s12)), .val (.long (Int64.ofNat (t12 / 10))), .second] [(.int (Int32.ofNat (s12 + nz (t12 / 10))))]) _ _ _
  generalize e13_ : t12 / 10 = t13
  have b13_ : t13 < 9223372036854775808 := by omega
  generalize f13_ : s12 + nz t13 = s13
  refine zistoreN X13 hx hby d37_170 (L' := #[.val (.long (Int64.ofNat (n))), .second, iv (Int32.ofNat (s13)), .val (.long (Int64.ofNat (t13))), .second]) rfl (zlloadN X13 hx hby d37_171 rfl (zldc2J X13 hx hby d37_172 (10 : Int64) hZ hown (w259 hw) (zldiv X13 hx hby d37_175 (Int64.ofNat (t13 / 10)) (by decide) (ofL_div (by omega)) (zlstoreN X13 hx hby d37_176 (L' := #[.val (.long (Int64.ofNat (n))), .second, iv (Int32.ofNat (s13)), .val (.long (Int64.ofNat (t13 / 10))), .second]) rfl (ziloadN X13 hx hby d37_177 rfl (zlloadN X13 hx hby d37_178 rfl (zcalls X13 hx hby d37_179 hZ hown (w260 hw) (w261 hw) (w257 hw) (w262 hw) e13 (c_more l hw  C O0 (t13 / 10) (by omega)) hml 1 pd_11 (argsL := [(.long (Int64.ofNat (t13 / 10)))]) (st := [(.int (Int32.ofNat (s13)))]) (zpureK ⟨rfl, rfl⟩ fun T14 X14 e14 => ?_))))))))
  refine ziadd X14 hx hby d37_182 (Int32.ofNat (s13 + nz (t13 / 10))) (zofN_add _ _) ?_
  show zEnds p e below s T14 (mkF m 183 #[.val (.long (Int64.ofNat (n))), .second, iv (Int32.ofNat (s13)), .val (.long (Int64.ofNat (t13 / 10))), .second] [(.int (Int32.ofNat (s13 + nz (t13 / 10))))]) _ _ _
  generalize e14_ : t13 / 10 = t14
  have b14_ : t14 < 9223372036854775808 := by omega
  generalize f14_ : s13 + nz t14 = s14
  refine zistoreN X14 hx hby d37_183 (L' := #[.val (.long (Int64.ofNat (n))), .second, iv (Int32.ofNat (s14)), .val (.long (Int64.ofNat (t14))), .second]) rfl (zlloadN X14 hx hby d37_184 rfl (zldc2J X14 hx hby d37_185 (10 : Int64) hZ hown (w259 hw) (zldiv X14 hx hby d37_188 (Int64.ofNat (t14 / 10)) (by decide) (ofL_div (by omega)) (zlstoreN X14 hx hby d37_189 (L' := #[.val (.long (Int64.ofNat (n))), .second, iv (Int32.ofNat (s14)), .val (.long (Int64.ofNat (t14 / 10))), .second]) rfl (ziloadN X14 hx hby d37_190 rfl (zlloadN X14 hx hby d37_191 rfl (zcalls X14 hx hby d37_192 hZ hown (w260 hw) (w261 hw) (w257 hw) (w262 hw) e14 (c_more l hw  C O0 (t14 / 10) (by omega)) hml 1 pd_11 (argsL := [(.long (Int64.ofNat (t14 / 10)))]) (st := [(.int (Int32.ofNat (s14)))]) (zpureK ⟨rfl, rfl⟩ fun T15 X15 e15 => ?_))))))))
  refine ziadd X15 hx hby d37_195 (Int32.ofNat (s14 + nz (t14 / 10))) (zofN_add _ _) ?_
  show zEnds p e below s T15 (mkF m 196 #[.val (.long (Int64.ofNat (n))), .second, iv (Int32.ofNat (s14)), .val (.long (Int64.ofNat (t14 / 10))), .second] [(.int (Int32.ofNat (s14 + nz (t14 / 10))))]) _ _ _
  generalize e15_ : t14 / 10 = t15
  have b15_ : t15 < 9223372036854775808 := by omega
  generalize f15_ : s14 + nz t15 = s15
  refine zistoreN X15 hx hby d37_196 (L' := #[.val (.long (Int64.ofNat (n))), .second, iv (Int32.ofNat (s15)), .val (.long (Int64.ofNat (t15))), .second]) rfl (zlloadN X15 hx hby d37_197 rfl (zldc2J X15 hx hby d37_198 (10 : Int64) hZ hown (w259 hw) (zldiv X15 hx hby d37_201 (Int64.ofNat (t15 / 10)) (by decide) (ofL_div (by omega)) (zlstoreN X15 hx hby d37_202 (L' := #[.val (.long (Int64.ofNat (n))), .second, iv (Int32.ofNat (s15)), .val (.long (Int64.ofNat (t15 / 10))), .second]) rfl (ziloadN X15 hx hby d37_203 rfl (zlloadN X15 hx hby d37_204 rfl (zcalls X15 hx hby d37_205 hZ hown (w260 hw) (w261 hw) (w257 hw) (w262 hw) e15 (c_more l hw  C O0 (t15 / 10) (by omega)) hml 1 pd_11 (argsL := [(.long (Int64.ofNat (t15 / 10)))]) (st := [(.int (Int32.ofNat (s15)))]) (zpureK ⟨rfl, rfl⟩ fun T16 X16 e16 => ?_))))))))
  refine ziadd X16 hx hby d37_208 (Int32.ofNat (s15 + nz (t15 / 10))) (zofN_add _ _) ?_
  show zEnds p e below s T16 (mkF m 209 #[.val (.long (Int64.ofNat (n))), .second, iv (Int32.ofNat (s15)), .val (.long (Int64.ofNat (t15 / 10))), .second] [(.int (Int32.ofNat (s15 + nz (t15 / 10))))]) _ _ _
  generalize e16_ : t15 / 10 = t16
  have b16_ : t16 < 9223372036854775808 := by omega
  generalize f16_ : s15 + nz t16 = s16
  refine zistoreN X16 hx hby d37_209 (L' := #[.val (.long (Int64.ofNat (n))), .second, iv (Int32.ofNat (s16)), .val (.long (Int64.ofNat (t16))), .second]) rfl (zlloadN X16 hx hby d37_210 rfl (zldc2J X16 hx hby d37_211 (10 : Int64) hZ hown (w259 hw) (zldiv X16 hx hby d37_214 (Int64.ofNat (t16 / 10)) (by decide) (ofL_div (by omega)) (zlstoreN X16 hx hby d37_215 (L' := #[.val (.long (Int64.ofNat (n))), .second, iv (Int32.ofNat (s16)), .val (.long (Int64.ofNat (t16 / 10))), .second]) rfl (ziloadN X16 hx hby d37_216 rfl (zlloadN X16 hx hby d37_217 rfl (zcalls X16 hx hby d37_218 hZ hown (w260 hw) (w261 hw) (w257 hw) (w262 hw) e16 (c_more l hw  C O0 (t16 / 10) (by omega)) hml 1 pd_11 (argsL := [(.long (Int64.ofNat (t16 / 10)))]) (st := [(.int (Int32.ofNat (s16)))]) (zpureK ⟨rfl, rfl⟩ fun T17 X17 e17 => ?_))))))))
  refine ziadd X17 hx hby d37_221 (Int32.ofNat (s16 + nz (t16 / 10))) (zofN_add _ _) ?_
  show zEnds p e below s T17 (mkF m 222 #[.val (.long (Int64.ofNat (n))), .second, iv (Int32.ofNat (s16)), .val (.long (Int64.ofNat (t16 / 10))), .second] [(.int (Int32.ofNat (s16 + nz (t16 / 10))))]) _ _ _
  generalize e17_ : t16 / 10 = t17
  have b17_ : t17 < 9223372036854775808 := by omega
  generalize f17_ : s16 + nz t17 = s17
  refine zistoreN X17 hx hby d37_222 (L' := #[.val (.long (Int64.ofNat (n))), .second, iv (Int32.ofNat (s17)), .val (.long (Int64.ofNat (t17))), .second]) rfl (zlloadN X17 hx hby d37_223 rfl (zldc2J X17 hx hby d37_224 (10 : Int64) hZ hown (w259 hw) (zldiv X17 hx hby d37_227 (Int64.ofNat (t17 / 10)) (by decide) (ofL_div (by omega)) (zlstoreN X17 hx hby d37_228 (L' := #[.val (.long (Int64.ofNat (n))), .second, iv (Int32.ofNat (s17)), .val (.long (Int64.ofNat (t17 / 10))), .second]) rfl (ziloadN X17 hx hby d37_229 rfl (zlloadN X17 hx hby d37_230 rfl (zcalls X17 hx hby d37_231 hZ hown (w260 hw) (w261 hw) (w257 hw) (w262 hw) e17 (c_more l hw  C O0 (t17 / 10) (by omega)) hml 1 pd_11 (argsL := [(.long (Int64.ofNat (t17 / 10)))]) (st := [(.int (Int32.ofNat (s17)))]) (zpureK ⟨rfl, rfl⟩ fun T18 X18 e18 => ?_))))))))
  refine ziadd X18 hx hby d37_234 (Int32.ofNat (s17 + nz (t17 / 10))) (zofN_add _ _) ?_
  show zEnds p e below s T18 (mkF m 235 #[.val (.long (Int64.ofNat (n))), .second, iv (Int32.ofNat (s17)), .val (.long (Int64.ofNat (t17 / 10))), .second] [(.int (Int32.ofNat (s17 + nz (t17 / 10))))]) _ _ _
  generalize e18_ : t17 / 10 = t18
  have b18_ : t18 < 9223372036854775808 := by omega
  generalize f18_ : s17 + nz t18 = s18
  refine zistoreN X18 hx hby d37_235 (L' := #[.val (.long (Int64.ofNat (n))), .second, iv (Int32.ofNat (s18)), .val (.long (Int64.ofNat (t18))), .second]) rfl (ziloadN X18 hx hby d37_236 rfl ?_)
  show zEnds p e below s T18 (mkF m 237 #[.val (.long (Int64.ofNat (n))), .second, iv (Int32.ofNat (s18)), .val (.long (Int64.ofNat (t18))), .second] [(.int (Int32.ofNat (s18)))]) _ _ _
  exact zretI X18 hx hby d37_237 hret hlk (by first | decide | omega | (dsimp only; omega)) (by first | decide | omega | (dsimp only; omega)) (⟨by rw [show s18 = (dec n).length from by rw [nds_dec 18 n (by omega)]; subst f18_ f17_ f16_ f15_ f14_ f13_ f12_ f11_ f10_ f9_ f8_ f7_ f6_ f5_ f4_ f3_ f2_ f1_ e18_ e17_ e16_ e15_ e14_ e13_ e12_ e11_ e10_ e9_ e8_ e7_ e6_ e5_ e4_ e3_ e2_ e1_; simp only [nds]; omega], e18, rfl⟩)
theorem w296 (hw : HW a0 Z) : (Cond.methodLink "com/example/kick/kick/value/CloseReportToStringPinLaw" 66 ⟨"com/example/kick/kick/value/CloseReportToStringPinLaw", "dig", "(Ljava/lang/String;IJ)Z"⟩).before a0 Z = true := hwi hw 296 rfl
theorem w297 (hw : HW a0 Z) : (Cond.static ⟨"com/example/kick/kick/value/CloseReportToStringPinLaw", "dig", "(Ljava/lang/String;IJ)Z"⟩).before a0 Z = true := hwi hw 297 rfl
theorem w298 (hw : HW a0 Z) : (Cond.code ⟨"com/example/kick/kick/value/CloseReportToStringPinLaw", "dig", "(Ljava/lang/String;IJ)Z"⟩ method_5_code 4 (Option.some FieldType.boolean)).before a0 Z = true := hwi hw 298 rfl
theorem d38_0 : decode method_5_code 0 = .ok (.aload_n 0, 1) := by decide +kernel
theorem d38_1 : decode method_5_code 1 = .ok (.iload_n 1, 1) := by decide +kernel
theorem d38_2 : decode method_5_code 2 = .ok (.invokevirtual 55, 3) := by decide +kernel
theorem d38_5 : decode method_5_code 5 = .ok (.bipush 48, 2) := by decide +kernel
theorem d38_7 : decode method_5_code 7 = .ok (.lload_n 2, 1) := by decide +kernel
theorem d38_8 : decode method_5_code 8 = .ok (.ldc2_w 61, 3) := by decide +kernel
theorem d38_11 : decode method_5_code 11 = .ok (.lrem, 1) := by decide +kernel
theorem d38_12 : decode method_5_code 12 = .ok (.l2i, 1) := by decide +kernel
theorem d38_13 : decode method_5_code 13 = .ok (.iadd, 1) := by decide +kernel
theorem d38_14 : decode method_5_code 14 = .ok (.i2c, 1) := by decide +kernel
theorem d38_15 : decode method_5_code 15 = .ok (.if_icmp .ne 7, 3) := by decide +kernel
theorem d38_18 : decode method_5_code 18 = .ok (.iconst 1, 1) := by decide +kernel
theorem d38_19 : decode method_5_code 19 = .ok (.goto 4, 3) := by decide +kernel
theorem d38_23 : decode method_5_code 23 = .ok (.ireturn, 1) := by decide +kernel
theorem d39_0 : decode method_6_code 0 = .ok (.lload_n 3, 1) := by decide +kernel
theorem d39_1 : decode method_6_code 1 = .ok (.lstore 5, 2) := by decide +kernel
theorem d39_3 : decode method_6_code 3 = .ok (.aload_n 0, 1) := by decide +kernel
theorem d39_4 : decode method_6_code 4 = .ok (.iload_n 1, 1) := by decide +kernel
theorem d39_5 : decode method_6_code 5 = .ok (.iconst 1, 1) := by decide +kernel
theorem d39_6 : decode method_6_code 6 = .ok (.isub, 1) := by decide +kernel
theorem d39_7 : decode method_6_code 7 = .ok (.lload 5, 2) := by decide +kernel
theorem d39_9 : decode method_6_code 9 = .ok (.invokestatic 66, 3) := by decide +kernel
theorem d39_12 : decode method_6_code 12 = .ok (.istore 7, 2) := by decide +kernel
theorem d39_14 : decode method_6_code 14 = .ok (.lload 5, 2) := by decide +kernel
theorem d39_16 : decode method_6_code 16 = .ok (.ldc2_w 61, 3) := by decide +kernel
theorem d39_19 : decode method_6_code 19 = .ok (.ldiv, 1) := by decide +kernel
theorem d39_20 : decode method_6_code 20 = .ok (.lstore 5, 2) := by decide +kernel
theorem d39_22 : decode method_6_code 22 = .ok (.iload_n 2, 1) := by decide +kernel
theorem d39_23 : decode method_6_code 23 = .ok (.iconst 1, 1) := by decide +kernel
theorem d39_24 : decode method_6_code 24 = .ok (.if_icmp .le 27, 3) := by decide +kernel
theorem d39_27 : decode method_6_code 27 = .ok (.iload 7, 2) := by decide +kernel
theorem d39_29 : decode method_6_code 29 = .ok (.ifCond .eq 19, 3) := by decide +kernel
theorem d39_32 : decode method_6_code 32 = .ok (.aload_n 0, 1) := by decide +kernel
theorem d39_33 : decode method_6_code 33 = .ok (.iload_n 1, 1) := by decide +kernel
theorem d39_34 : decode method_6_code 34 = .ok (.iconst 2, 1) := by decide +kernel
theorem d39_35 : decode method_6_code 35 = .ok (.isub, 1) := by decide +kernel
theorem d39_36 : decode method_6_code 36 = .ok (.lload 5, 2) := by decide +kernel
theorem d39_38 : decode method_6_code 38 = .ok (.invokestatic 66, 3) := by decide +kernel
theorem d39_41 : decode method_6_code 41 = .ok (.ifCond .eq 7, 3) := by decide +kernel
theorem d39_44 : decode method_6_code 44 = .ok (.iconst 1, 1) := by decide +kernel
theorem d39_45 : decode method_6_code 45 = .ok (.goto 4, 3) := by decide +kernel
theorem d39_49 : decode method_6_code 49 = .ok (.istore 7, 2) := by decide +kernel
theorem d39_51 : decode method_6_code 51 = .ok (.lload 5, 2) := by decide +kernel
theorem d39_53 : decode method_6_code 53 = .ok (.ldc2_w 61, 3) := by decide +kernel
theorem d39_56 : decode method_6_code 56 = .ok (.ldiv, 1) := by decide +kernel
theorem d39_57 : decode method_6_code 57 = .ok (.lstore 5, 2) := by decide +kernel
theorem d39_59 : decode method_6_code 59 = .ok (.iload_n 2, 1) := by decide +kernel
theorem d39_60 : decode method_6_code 60 = .ok (.iconst 2, 1) := by decide +kernel
theorem d39_61 : decode method_6_code 61 = .ok (.if_icmp .le 27, 3) := by decide +kernel
theorem d39_64 : decode method_6_code 64 = .ok (.iload 7, 2) := by decide +kernel
theorem d39_66 : decode method_6_code 66 = .ok (.ifCond .eq 19, 3) := by decide +kernel
theorem d39_69 : decode method_6_code 69 = .ok (.aload_n 0, 1) := by decide +kernel
theorem d39_70 : decode method_6_code 70 = .ok (.iload_n 1, 1) := by decide +kernel
theorem d39_71 : decode method_6_code 71 = .ok (.iconst 3, 1) := by decide +kernel
theorem d39_72 : decode method_6_code 72 = .ok (.isub, 1) := by decide +kernel
theorem d39_73 : decode method_6_code 73 = .ok (.lload 5, 2) := by decide +kernel
theorem d39_75 : decode method_6_code 75 = .ok (.invokestatic 66, 3) := by decide +kernel
theorem d39_78 : decode method_6_code 78 = .ok (.ifCond .eq 7, 3) := by decide +kernel
theorem d39_81 : decode method_6_code 81 = .ok (.iconst 1, 1) := by decide +kernel
theorem d39_82 : decode method_6_code 82 = .ok (.goto 4, 3) := by decide +kernel
theorem d39_86 : decode method_6_code 86 = .ok (.istore 7, 2) := by decide +kernel
theorem d39_88 : decode method_6_code 88 = .ok (.lload 5, 2) := by decide +kernel
theorem d39_90 : decode method_6_code 90 = .ok (.ldc2_w 61, 3) := by decide +kernel
theorem d39_93 : decode method_6_code 93 = .ok (.ldiv, 1) := by decide +kernel
theorem d39_94 : decode method_6_code 94 = .ok (.lstore 5, 2) := by decide +kernel
theorem d39_96 : decode method_6_code 96 = .ok (.iload_n 2, 1) := by decide +kernel
theorem d39_97 : decode method_6_code 97 = .ok (.iconst 3, 1) := by decide +kernel
theorem d39_98 : decode method_6_code 98 = .ok (.if_icmp .le 27, 3) := by decide +kernel
theorem d39_101 : decode method_6_code 101 = .ok (.iload 7, 2) := by decide +kernel
theorem d39_103 : decode method_6_code 103 = .ok (.ifCond .eq 19, 3) := by decide +kernel
theorem d39_106 : decode method_6_code 106 = .ok (.aload_n 0, 1) := by decide +kernel
theorem d39_107 : decode method_6_code 107 = .ok (.iload_n 1, 1) := by decide +kernel
theorem d39_108 : decode method_6_code 108 = .ok (.iconst 4, 1) := by decide +kernel
theorem d39_109 : decode method_6_code 109 = .ok (.isub, 1) := by decide +kernel
theorem d39_110 : decode method_6_code 110 = .ok (.lload 5, 2) := by decide +kernel
theorem d39_112 : decode method_6_code 112 = .ok (.invokestatic 66, 3) := by decide +kernel
theorem d39_115 : decode method_6_code 115 = .ok (.ifCond .eq 7, 3) := by decide +kernel
theorem d39_118 : decode method_6_code 118 = .ok (.iconst 1, 1) := by decide +kernel
theorem d39_119 : decode method_6_code 119 = .ok (.goto 4, 3) := by decide +kernel
theorem d39_123 : decode method_6_code 123 = .ok (.istore 7, 2) := by decide +kernel
theorem d39_125 : decode method_6_code 125 = .ok (.lload 5, 2) := by decide +kernel
theorem d39_127 : decode method_6_code 127 = .ok (.ldc2_w 61, 3) := by decide +kernel
theorem d39_130 : decode method_6_code 130 = .ok (.ldiv, 1) := by decide +kernel
theorem d39_131 : decode method_6_code 131 = .ok (.lstore 5, 2) := by decide +kernel
theorem d39_133 : decode method_6_code 133 = .ok (.iload_n 2, 1) := by decide +kernel
theorem d39_134 : decode method_6_code 134 = .ok (.iconst 4, 1) := by decide +kernel
theorem d39_135 : decode method_6_code 135 = .ok (.if_icmp .le 27, 3) := by decide +kernel
theorem d39_138 : decode method_6_code 138 = .ok (.iload 7, 2) := by decide +kernel
theorem d39_140 : decode method_6_code 140 = .ok (.ifCond .eq 19, 3) := by decide +kernel
theorem d39_143 : decode method_6_code 143 = .ok (.aload_n 0, 1) := by decide +kernel
theorem d39_144 : decode method_6_code 144 = .ok (.iload_n 1, 1) := by decide +kernel
theorem d39_145 : decode method_6_code 145 = .ok (.iconst 5, 1) := by decide +kernel
theorem d39_146 : decode method_6_code 146 = .ok (.isub, 1) := by decide +kernel
theorem d39_147 : decode method_6_code 147 = .ok (.lload 5, 2) := by decide +kernel
theorem d39_149 : decode method_6_code 149 = .ok (.invokestatic 66, 3) := by decide +kernel
theorem d39_152 : decode method_6_code 152 = .ok (.ifCond .eq 7, 3) := by decide +kernel
theorem d39_155 : decode method_6_code 155 = .ok (.iconst 1, 1) := by decide +kernel
theorem d39_156 : decode method_6_code 156 = .ok (.goto 4, 3) := by decide +kernel
theorem d39_160 : decode method_6_code 160 = .ok (.istore 7, 2) := by decide +kernel
theorem d39_162 : decode method_6_code 162 = .ok (.lload 5, 2) := by decide +kernel
theorem d39_164 : decode method_6_code 164 = .ok (.ldc2_w 61, 3) := by decide +kernel
theorem d39_167 : decode method_6_code 167 = .ok (.ldiv, 1) := by decide +kernel
theorem d39_168 : decode method_6_code 168 = .ok (.lstore 5, 2) := by decide +kernel
theorem d39_170 : decode method_6_code 170 = .ok (.iload_n 2, 1) := by decide +kernel
theorem d39_171 : decode method_6_code 171 = .ok (.iconst 5, 1) := by decide +kernel
theorem d39_172 : decode method_6_code 172 = .ok (.if_icmp .le 28, 3) := by decide +kernel
theorem d39_175 : decode method_6_code 175 = .ok (.iload 7, 2) := by decide +kernel
theorem d39_177 : decode method_6_code 177 = .ok (.ifCond .eq 20, 3) := by decide +kernel
theorem d39_180 : decode method_6_code 180 = .ok (.aload_n 0, 1) := by decide +kernel
theorem d39_181 : decode method_6_code 181 = .ok (.iload_n 1, 1) := by decide +kernel
theorem d39_182 : decode method_6_code 182 = .ok (.bipush 6, 2) := by decide +kernel
theorem d39_184 : decode method_6_code 184 = .ok (.isub, 1) := by decide +kernel
theorem d39_185 : decode method_6_code 185 = .ok (.lload 5, 2) := by decide +kernel
theorem d39_187 : decode method_6_code 187 = .ok (.invokestatic 66, 3) := by decide +kernel
theorem d39_190 : decode method_6_code 190 = .ok (.ifCond .eq 7, 3) := by decide +kernel
theorem d39_193 : decode method_6_code 193 = .ok (.iconst 1, 1) := by decide +kernel
theorem d39_194 : decode method_6_code 194 = .ok (.goto 4, 3) := by decide +kernel
theorem d39_198 : decode method_6_code 198 = .ok (.istore 7, 2) := by decide +kernel
theorem d39_200 : decode method_6_code 200 = .ok (.lload 5, 2) := by decide +kernel
theorem d39_202 : decode method_6_code 202 = .ok (.ldc2_w 61, 3) := by decide +kernel
theorem d39_205 : decode method_6_code 205 = .ok (.ldiv, 1) := by decide +kernel
theorem d39_206 : decode method_6_code 206 = .ok (.lstore 5, 2) := by decide +kernel
theorem d39_208 : decode method_6_code 208 = .ok (.iload_n 2, 1) := by decide +kernel
theorem d39_209 : decode method_6_code 209 = .ok (.bipush 6, 2) := by decide +kernel
theorem d39_211 : decode method_6_code 211 = .ok (.if_icmp .le 28, 3) := by decide +kernel
theorem d39_214 : decode method_6_code 214 = .ok (.iload 7, 2) := by decide +kernel
theorem d39_216 : decode method_6_code 216 = .ok (.ifCond .eq 20, 3) := by decide +kernel
theorem d39_219 : decode method_6_code 219 = .ok (.aload_n 0, 1) := by decide +kernel
theorem d39_220 : decode method_6_code 220 = .ok (.iload_n 1, 1) := by decide +kernel
theorem d39_221 : decode method_6_code 221 = .ok (.bipush 7, 2) := by decide +kernel
theorem d39_223 : decode method_6_code 223 = .ok (.isub, 1) := by decide +kernel
theorem d39_224 : decode method_6_code 224 = .ok (.lload 5, 2) := by decide +kernel
theorem d39_226 : decode method_6_code 226 = .ok (.invokestatic 66, 3) := by decide +kernel
theorem d39_229 : decode method_6_code 229 = .ok (.ifCond .eq 7, 3) := by decide +kernel
theorem d39_232 : decode method_6_code 232 = .ok (.iconst 1, 1) := by decide +kernel
theorem d39_233 : decode method_6_code 233 = .ok (.goto 4, 3) := by decide +kernel
theorem d39_237 : decode method_6_code 237 = .ok (.istore 7, 2) := by decide +kernel
theorem d39_239 : decode method_6_code 239 = .ok (.lload 5, 2) := by decide +kernel
theorem d39_241 : decode method_6_code 241 = .ok (.ldc2_w 61, 3) := by decide +kernel
theorem d39_244 : decode method_6_code 244 = .ok (.ldiv, 1) := by decide +kernel
theorem d39_245 : decode method_6_code 245 = .ok (.lstore 5, 2) := by decide +kernel
theorem d39_247 : decode method_6_code 247 = .ok (.iload_n 2, 1) := by decide +kernel
theorem d39_248 : decode method_6_code 248 = .ok (.bipush 7, 2) := by decide +kernel
theorem d39_250 : decode method_6_code 250 = .ok (.if_icmp .le 28, 3) := by decide +kernel
theorem d39_253 : decode method_6_code 253 = .ok (.iload 7, 2) := by decide +kernel
theorem d39_255 : decode method_6_code 255 = .ok (.ifCond .eq 20, 3) := by decide +kernel
theorem d39_258 : decode method_6_code 258 = .ok (.aload_n 0, 1) := by decide +kernel
theorem d39_259 : decode method_6_code 259 = .ok (.iload_n 1, 1) := by decide +kernel
theorem d39_260 : decode method_6_code 260 = .ok (.bipush 8, 2) := by decide +kernel
theorem d39_262 : decode method_6_code 262 = .ok (.isub, 1) := by decide +kernel
theorem d39_263 : decode method_6_code 263 = .ok (.lload 5, 2) := by decide +kernel
theorem d39_265 : decode method_6_code 265 = .ok (.invokestatic 66, 3) := by decide +kernel
theorem d39_268 : decode method_6_code 268 = .ok (.ifCond .eq 7, 3) := by decide +kernel
theorem d39_271 : decode method_6_code 271 = .ok (.iconst 1, 1) := by decide +kernel
theorem d39_272 : decode method_6_code 272 = .ok (.goto 4, 3) := by decide +kernel
theorem d39_276 : decode method_6_code 276 = .ok (.istore 7, 2) := by decide +kernel
theorem d39_278 : decode method_6_code 278 = .ok (.lload 5, 2) := by decide +kernel
theorem d39_280 : decode method_6_code 280 = .ok (.ldc2_w 61, 3) := by decide +kernel
theorem d39_283 : decode method_6_code 283 = .ok (.ldiv, 1) := by decide +kernel
theorem d39_284 : decode method_6_code 284 = .ok (.lstore 5, 2) := by decide +kernel
theorem d39_286 : decode method_6_code 286 = .ok (.iload_n 2, 1) := by decide +kernel
theorem d39_287 : decode method_6_code 287 = .ok (.bipush 8, 2) := by decide +kernel
theorem d39_289 : decode method_6_code 289 = .ok (.if_icmp .le 28, 3) := by decide +kernel
theorem d39_292 : decode method_6_code 292 = .ok (.iload 7, 2) := by decide +kernel
theorem d39_294 : decode method_6_code 294 = .ok (.ifCond .eq 20, 3) := by decide +kernel
theorem d39_297 : decode method_6_code 297 = .ok (.aload_n 0, 1) := by decide +kernel
theorem d39_298 : decode method_6_code 298 = .ok (.iload_n 1, 1) := by decide +kernel
theorem d39_299 : decode method_6_code 299 = .ok (.bipush 9, 2) := by decide +kernel
theorem d39_301 : decode method_6_code 301 = .ok (.isub, 1) := by decide +kernel
theorem d39_302 : decode method_6_code 302 = .ok (.lload 5, 2) := by decide +kernel
theorem d39_304 : decode method_6_code 304 = .ok (.invokestatic 66, 3) := by decide +kernel
theorem d39_307 : decode method_6_code 307 = .ok (.ifCond .eq 7, 3) := by decide +kernel
theorem d39_310 : decode method_6_code 310 = .ok (.iconst 1, 1) := by decide +kernel
theorem d39_311 : decode method_6_code 311 = .ok (.goto 4, 3) := by decide +kernel
theorem d39_315 : decode method_6_code 315 = .ok (.istore 7, 2) := by decide +kernel
theorem d39_317 : decode method_6_code 317 = .ok (.lload 5, 2) := by decide +kernel
theorem d39_319 : decode method_6_code 319 = .ok (.ldc2_w 61, 3) := by decide +kernel
theorem d39_322 : decode method_6_code 322 = .ok (.ldiv, 1) := by decide +kernel
theorem d39_323 : decode method_6_code 323 = .ok (.lstore 5, 2) := by decide +kernel
theorem d39_325 : decode method_6_code 325 = .ok (.iload_n 2, 1) := by decide +kernel
theorem d39_326 : decode method_6_code 326 = .ok (.bipush 9, 2) := by decide +kernel
theorem d39_328 : decode method_6_code 328 = .ok (.if_icmp .le 28, 3) := by decide +kernel
theorem d39_331 : decode method_6_code 331 = .ok (.iload 7, 2) := by decide +kernel
theorem d39_333 : decode method_6_code 333 = .ok (.ifCond .eq 20, 3) := by decide +kernel
theorem d39_336 : decode method_6_code 336 = .ok (.aload_n 0, 1) := by decide +kernel
theorem d39_337 : decode method_6_code 337 = .ok (.iload_n 1, 1) := by decide +kernel
theorem d39_338 : decode method_6_code 338 = .ok (.bipush 10, 2) := by decide +kernel
theorem d39_340 : decode method_6_code 340 = .ok (.isub, 1) := by decide +kernel
theorem d39_341 : decode method_6_code 341 = .ok (.lload 5, 2) := by decide +kernel
theorem d39_343 : decode method_6_code 343 = .ok (.invokestatic 66, 3) := by decide +kernel
theorem d39_346 : decode method_6_code 346 = .ok (.ifCond .eq 7, 3) := by decide +kernel
theorem d39_349 : decode method_6_code 349 = .ok (.iconst 1, 1) := by decide +kernel
theorem d39_350 : decode method_6_code 350 = .ok (.goto 4, 3) := by decide +kernel
theorem d39_354 : decode method_6_code 354 = .ok (.istore 7, 2) := by decide +kernel
theorem d39_356 : decode method_6_code 356 = .ok (.lload 5, 2) := by decide +kernel
theorem d39_358 : decode method_6_code 358 = .ok (.ldc2_w 61, 3) := by decide +kernel
theorem d39_361 : decode method_6_code 361 = .ok (.ldiv, 1) := by decide +kernel
theorem d39_362 : decode method_6_code 362 = .ok (.lstore 5, 2) := by decide +kernel
theorem d39_364 : decode method_6_code 364 = .ok (.iload_n 2, 1) := by decide +kernel
theorem d39_365 : decode method_6_code 365 = .ok (.bipush 10, 2) := by decide +kernel
theorem d39_367 : decode method_6_code 367 = .ok (.if_icmp .le 28, 3) := by decide +kernel
theorem d39_370 : decode method_6_code 370 = .ok (.iload 7, 2) := by decide +kernel
theorem d39_372 : decode method_6_code 372 = .ok (.ifCond .eq 20, 3) := by decide +kernel
theorem d39_375 : decode method_6_code 375 = .ok (.aload_n 0, 1) := by decide +kernel
theorem d39_376 : decode method_6_code 376 = .ok (.iload_n 1, 1) := by decide +kernel
theorem d39_377 : decode method_6_code 377 = .ok (.bipush 11, 2) := by decide +kernel
theorem d39_379 : decode method_6_code 379 = .ok (.isub, 1) := by decide +kernel
theorem d39_380 : decode method_6_code 380 = .ok (.lload 5, 2) := by decide +kernel
theorem d39_382 : decode method_6_code 382 = .ok (.invokestatic 66, 3) := by decide +kernel
theorem d39_385 : decode method_6_code 385 = .ok (.ifCond .eq 7, 3) := by decide +kernel
theorem d39_388 : decode method_6_code 388 = .ok (.iconst 1, 1) := by decide +kernel
theorem d39_389 : decode method_6_code 389 = .ok (.goto 4, 3) := by decide +kernel
theorem d39_393 : decode method_6_code 393 = .ok (.istore 7, 2) := by decide +kernel
theorem d39_395 : decode method_6_code 395 = .ok (.lload 5, 2) := by decide +kernel
theorem d39_397 : decode method_6_code 397 = .ok (.ldc2_w 61, 3) := by decide +kernel
theorem d39_400 : decode method_6_code 400 = .ok (.ldiv, 1) := by decide +kernel
theorem d39_401 : decode method_6_code 401 = .ok (.lstore 5, 2) := by decide +kernel
theorem d39_403 : decode method_6_code 403 = .ok (.iload_n 2, 1) := by decide +kernel
theorem d39_404 : decode method_6_code 404 = .ok (.bipush 11, 2) := by decide +kernel
theorem d39_406 : decode method_6_code 406 = .ok (.if_icmp .le 28, 3) := by decide +kernel
theorem d39_409 : decode method_6_code 409 = .ok (.iload 7, 2) := by decide +kernel
theorem d39_411 : decode method_6_code 411 = .ok (.ifCond .eq 20, 3) := by decide +kernel
theorem d39_414 : decode method_6_code 414 = .ok (.aload_n 0, 1) := by decide +kernel
theorem d39_415 : decode method_6_code 415 = .ok (.iload_n 1, 1) := by decide +kernel
theorem d39_416 : decode method_6_code 416 = .ok (.bipush 12, 2) := by decide +kernel
theorem d39_418 : decode method_6_code 418 = .ok (.isub, 1) := by decide +kernel
theorem d39_419 : decode method_6_code 419 = .ok (.lload 5, 2) := by decide +kernel
theorem d39_421 : decode method_6_code 421 = .ok (.invokestatic 66, 3) := by decide +kernel
theorem d39_424 : decode method_6_code 424 = .ok (.ifCond .eq 7, 3) := by decide +kernel
theorem d39_427 : decode method_6_code 427 = .ok (.iconst 1, 1) := by decide +kernel
theorem d39_428 : decode method_6_code 428 = .ok (.goto 4, 3) := by decide +kernel
theorem d39_432 : decode method_6_code 432 = .ok (.istore 7, 2) := by decide +kernel
theorem d39_434 : decode method_6_code 434 = .ok (.lload 5, 2) := by decide +kernel
theorem d39_436 : decode method_6_code 436 = .ok (.ldc2_w 61, 3) := by decide +kernel
theorem d39_439 : decode method_6_code 439 = .ok (.ldiv, 1) := by decide +kernel
theorem d39_440 : decode method_6_code 440 = .ok (.lstore 5, 2) := by decide +kernel
theorem d39_442 : decode method_6_code 442 = .ok (.iload_n 2, 1) := by decide +kernel
theorem d39_443 : decode method_6_code 443 = .ok (.bipush 12, 2) := by decide +kernel
theorem d39_445 : decode method_6_code 445 = .ok (.if_icmp .le 28, 3) := by decide +kernel
theorem d39_448 : decode method_6_code 448 = .ok (.iload 7, 2) := by decide +kernel
theorem d39_450 : decode method_6_code 450 = .ok (.ifCond .eq 20, 3) := by decide +kernel
theorem d39_453 : decode method_6_code 453 = .ok (.aload_n 0, 1) := by decide +kernel
theorem d39_454 : decode method_6_code 454 = .ok (.iload_n 1, 1) := by decide +kernel
theorem d39_455 : decode method_6_code 455 = .ok (.bipush 13, 2) := by decide +kernel
theorem d39_457 : decode method_6_code 457 = .ok (.isub, 1) := by decide +kernel
theorem d39_458 : decode method_6_code 458 = .ok (.lload 5, 2) := by decide +kernel
theorem d39_460 : decode method_6_code 460 = .ok (.invokestatic 66, 3) := by decide +kernel
theorem d39_463 : decode method_6_code 463 = .ok (.ifCond .eq 7, 3) := by decide +kernel
theorem d39_466 : decode method_6_code 466 = .ok (.iconst 1, 1) := by decide +kernel
theorem d39_467 : decode method_6_code 467 = .ok (.goto 4, 3) := by decide +kernel
theorem d39_471 : decode method_6_code 471 = .ok (.istore 7, 2) := by decide +kernel
theorem d39_473 : decode method_6_code 473 = .ok (.lload 5, 2) := by decide +kernel
theorem d39_475 : decode method_6_code 475 = .ok (.ldc2_w 61, 3) := by decide +kernel
theorem d39_478 : decode method_6_code 478 = .ok (.ldiv, 1) := by decide +kernel
theorem d39_479 : decode method_6_code 479 = .ok (.lstore 5, 2) := by decide +kernel
theorem d39_481 : decode method_6_code 481 = .ok (.iload_n 2, 1) := by decide +kernel
theorem d39_482 : decode method_6_code 482 = .ok (.bipush 13, 2) := by decide +kernel
theorem d39_484 : decode method_6_code 484 = .ok (.if_icmp .le 28, 3) := by decide +kernel
theorem d39_487 : decode method_6_code 487 = .ok (.iload 7, 2) := by decide +kernel
theorem d39_489 : decode method_6_code 489 = .ok (.ifCond .eq 20, 3) := by decide +kernel
theorem d39_492 : decode method_6_code 492 = .ok (.aload_n 0, 1) := by decide +kernel
theorem d39_493 : decode method_6_code 493 = .ok (.iload_n 1, 1) := by decide +kernel
theorem d39_494 : decode method_6_code 494 = .ok (.bipush 14, 2) := by decide +kernel
theorem d39_496 : decode method_6_code 496 = .ok (.isub, 1) := by decide +kernel
theorem d39_497 : decode method_6_code 497 = .ok (.lload 5, 2) := by decide +kernel
theorem d39_499 : decode method_6_code 499 = .ok (.invokestatic 66, 3) := by decide +kernel
theorem d39_502 : decode method_6_code 502 = .ok (.ifCond .eq 7, 3) := by decide +kernel
theorem d39_505 : decode method_6_code 505 = .ok (.iconst 1, 1) := by decide +kernel
theorem d39_506 : decode method_6_code 506 = .ok (.goto 4, 3) := by decide +kernel
theorem d39_510 : decode method_6_code 510 = .ok (.istore 7, 2) := by decide +kernel
theorem d39_512 : decode method_6_code 512 = .ok (.lload 5, 2) := by decide +kernel
theorem d39_514 : decode method_6_code 514 = .ok (.ldc2_w 61, 3) := by decide +kernel
theorem d39_517 : decode method_6_code 517 = .ok (.ldiv, 1) := by decide +kernel
theorem d39_518 : decode method_6_code 518 = .ok (.lstore 5, 2) := by decide +kernel
theorem d39_520 : decode method_6_code 520 = .ok (.iload_n 2, 1) := by decide +kernel
theorem d39_521 : decode method_6_code 521 = .ok (.bipush 14, 2) := by decide +kernel
theorem d39_523 : decode method_6_code 523 = .ok (.if_icmp .le 28, 3) := by decide +kernel
theorem d39_526 : decode method_6_code 526 = .ok (.iload 7, 2) := by decide +kernel
theorem d39_528 : decode method_6_code 528 = .ok (.ifCond .eq 20, 3) := by decide +kernel
theorem d39_531 : decode method_6_code 531 = .ok (.aload_n 0, 1) := by decide +kernel
theorem d39_532 : decode method_6_code 532 = .ok (.iload_n 1, 1) := by decide +kernel
theorem d39_533 : decode method_6_code 533 = .ok (.bipush 15, 2) := by decide +kernel
theorem d39_535 : decode method_6_code 535 = .ok (.isub, 1) := by decide +kernel
theorem d39_536 : decode method_6_code 536 = .ok (.lload 5, 2) := by decide +kernel
theorem d39_538 : decode method_6_code 538 = .ok (.invokestatic 66, 3) := by decide +kernel
theorem d39_541 : decode method_6_code 541 = .ok (.ifCond .eq 7, 3) := by decide +kernel
theorem d39_544 : decode method_6_code 544 = .ok (.iconst 1, 1) := by decide +kernel
theorem d39_545 : decode method_6_code 545 = .ok (.goto 4, 3) := by decide +kernel
theorem d39_549 : decode method_6_code 549 = .ok (.istore 7, 2) := by decide +kernel
theorem d39_551 : decode method_6_code 551 = .ok (.lload 5, 2) := by decide +kernel
theorem d39_553 : decode method_6_code 553 = .ok (.ldc2_w 61, 3) := by decide +kernel
theorem d39_556 : decode method_6_code 556 = .ok (.ldiv, 1) := by decide +kernel
theorem d39_557 : decode method_6_code 557 = .ok (.lstore 5, 2) := by decide +kernel
theorem d39_559 : decode method_6_code 559 = .ok (.iload_n 2, 1) := by decide +kernel
theorem d39_560 : decode method_6_code 560 = .ok (.bipush 15, 2) := by decide +kernel
theorem d39_562 : decode method_6_code 562 = .ok (.if_icmp .le 28, 3) := by decide +kernel
theorem d39_565 : decode method_6_code 565 = .ok (.iload 7, 2) := by decide +kernel
theorem d39_567 : decode method_6_code 567 = .ok (.ifCond .eq 20, 3) := by decide +kernel
theorem d39_570 : decode method_6_code 570 = .ok (.aload_n 0, 1) := by decide +kernel
theorem d39_571 : decode method_6_code 571 = .ok (.iload_n 1, 1) := by decide +kernel
theorem d39_572 : decode method_6_code 572 = .ok (.bipush 16, 2) := by decide +kernel
theorem d39_574 : decode method_6_code 574 = .ok (.isub, 1) := by decide +kernel
theorem d39_575 : decode method_6_code 575 = .ok (.lload 5, 2) := by decide +kernel
theorem d39_577 : decode method_6_code 577 = .ok (.invokestatic 66, 3) := by decide +kernel
theorem d39_580 : decode method_6_code 580 = .ok (.ifCond .eq 7, 3) := by decide +kernel
theorem d39_583 : decode method_6_code 583 = .ok (.iconst 1, 1) := by decide +kernel
theorem d39_584 : decode method_6_code 584 = .ok (.goto 4, 3) := by decide +kernel
theorem d39_588 : decode method_6_code 588 = .ok (.istore 7, 2) := by decide +kernel
theorem d39_590 : decode method_6_code 590 = .ok (.lload 5, 2) := by decide +kernel
theorem d39_592 : decode method_6_code 592 = .ok (.ldc2_w 61, 3) := by decide +kernel
theorem d39_595 : decode method_6_code 595 = .ok (.ldiv, 1) := by decide +kernel
theorem d39_596 : decode method_6_code 596 = .ok (.lstore 5, 2) := by decide +kernel
theorem d39_598 : decode method_6_code 598 = .ok (.iload_n 2, 1) := by decide +kernel
theorem d39_599 : decode method_6_code 599 = .ok (.bipush 16, 2) := by decide +kernel
theorem d39_601 : decode method_6_code 601 = .ok (.if_icmp .le 28, 3) := by decide +kernel
theorem d39_604 : decode method_6_code 604 = .ok (.iload 7, 2) := by decide +kernel
theorem d39_606 : decode method_6_code 606 = .ok (.ifCond .eq 20, 3) := by decide +kernel
theorem d39_609 : decode method_6_code 609 = .ok (.aload_n 0, 1) := by decide +kernel
theorem d39_610 : decode method_6_code 610 = .ok (.iload_n 1, 1) := by decide +kernel
theorem d39_611 : decode method_6_code 611 = .ok (.bipush 17, 2) := by decide +kernel
theorem d39_613 : decode method_6_code 613 = .ok (.isub, 1) := by decide +kernel
theorem d39_614 : decode method_6_code 614 = .ok (.lload 5, 2) := by decide +kernel
theorem d39_616 : decode method_6_code 616 = .ok (.invokestatic 66, 3) := by decide +kernel
theorem d39_619 : decode method_6_code 619 = .ok (.ifCond .eq 7, 3) := by decide +kernel
theorem d39_622 : decode method_6_code 622 = .ok (.iconst 1, 1) := by decide +kernel
theorem d39_623 : decode method_6_code 623 = .ok (.goto 4, 3) := by decide +kernel
theorem d39_627 : decode method_6_code 627 = .ok (.istore 7, 2) := by decide +kernel
theorem d39_629 : decode method_6_code 629 = .ok (.lload 5, 2) := by decide +kernel
theorem d39_631 : decode method_6_code 631 = .ok (.ldc2_w 61, 3) := by decide +kernel
theorem d39_634 : decode method_6_code 634 = .ok (.ldiv, 1) := by decide +kernel
theorem d39_635 : decode method_6_code 635 = .ok (.lstore 5, 2) := by decide +kernel
theorem d39_637 : decode method_6_code 637 = .ok (.iload_n 2, 1) := by decide +kernel
theorem d39_638 : decode method_6_code 638 = .ok (.bipush 17, 2) := by decide +kernel
theorem d39_640 : decode method_6_code 640 = .ok (.if_icmp .le 28, 3) := by decide +kernel
theorem d39_643 : decode method_6_code 643 = .ok (.iload 7, 2) := by decide +kernel
theorem d39_645 : decode method_6_code 645 = .ok (.ifCond .eq 20, 3) := by decide +kernel
theorem d39_648 : decode method_6_code 648 = .ok (.aload_n 0, 1) := by decide +kernel
theorem d39_649 : decode method_6_code 649 = .ok (.iload_n 1, 1) := by decide +kernel
theorem d39_650 : decode method_6_code 650 = .ok (.bipush 18, 2) := by decide +kernel
theorem d39_652 : decode method_6_code 652 = .ok (.isub, 1) := by decide +kernel
theorem d39_653 : decode method_6_code 653 = .ok (.lload 5, 2) := by decide +kernel
theorem d39_655 : decode method_6_code 655 = .ok (.invokestatic 66, 3) := by decide +kernel
theorem d39_658 : decode method_6_code 658 = .ok (.ifCond .eq 7, 3) := by decide +kernel
theorem d39_661 : decode method_6_code 661 = .ok (.iconst 1, 1) := by decide +kernel
theorem d39_662 : decode method_6_code 662 = .ok (.goto 4, 3) := by decide +kernel
theorem d39_666 : decode method_6_code 666 = .ok (.istore 7, 2) := by decide +kernel
theorem d39_668 : decode method_6_code 668 = .ok (.lload 5, 2) := by decide +kernel
theorem d39_670 : decode method_6_code 670 = .ok (.ldc2_w 61, 3) := by decide +kernel
theorem d39_673 : decode method_6_code 673 = .ok (.ldiv, 1) := by decide +kernel
theorem d39_674 : decode method_6_code 674 = .ok (.lstore 5, 2) := by decide +kernel
theorem d39_676 : decode method_6_code 676 = .ok (.iload_n 2, 1) := by decide +kernel
theorem d39_677 : decode method_6_code 677 = .ok (.bipush 18, 2) := by decide +kernel
theorem d39_679 : decode method_6_code 679 = .ok (.if_icmp .le 28, 3) := by decide +kernel
theorem d39_682 : decode method_6_code 682 = .ok (.iload 7, 2) := by decide +kernel
theorem d39_684 : decode method_6_code 684 = .ok (.ifCond .eq 20, 3) := by decide +kernel
theorem d39_687 : decode method_6_code 687 = .ok (.aload_n 0, 1) := by decide +kernel
theorem d39_688 : decode method_6_code 688 = .ok (.iload_n 1, 1) := by decide +kernel
theorem d39_689 : decode method_6_code 689 = .ok (.bipush 19, 2) := by decide +kernel
theorem d39_691 : decode method_6_code 691 = .ok (.isub, 1) := by decide +kernel
theorem d39_692 : decode method_6_code 692 = .ok (.lload 5, 2) := by decide +kernel
theorem d39_694 : decode method_6_code 694 = .ok (.invokestatic 66, 3) := by decide +kernel
theorem d39_697 : decode method_6_code 697 = .ok (.ifCond .eq 7, 3) := by decide +kernel
theorem d39_700 : decode method_6_code 700 = .ok (.iconst 1, 1) := by decide +kernel
theorem d39_701 : decode method_6_code 701 = .ok (.goto 4, 3) := by decide +kernel
theorem d39_705 : decode method_6_code 705 = .ok (.istore 7, 2) := by decide +kernel
theorem d39_707 : decode method_6_code 707 = .ok (.iload 7, 2) := by decide +kernel
theorem d39_709 : decode method_6_code 709 = .ok (.ireturn, 1) := by decide +kernel
theorem pd_24 : parseMethodDescriptor "(Ljava/lang/String;IJ)Z" = some ⟨[(.object "java/lang/String"), .int, .long], some .boolean⟩ := by decide +kernel
theorem c_dig (hw : HW a0 Z) (C : Ctx Z cs d1 d2 o1 o2) (O0 : zOd Z n0 h0) (vf : Value) (hvf : vf = .null ∨ ∃ a, vf = .ref a) (S_vf : Sta Z Z.heap "jdk/internal/util/Preconditions" "SIOOBE_FORMATTER" "Ljava/util/function/BiFunction;" vf) (r x : Addr) (xs : List Int8) (B1 : Sx Z h0 r x xs) (hM : xs.length < 1000000) (at_ n : Nat) (hn : n < 9223372036854775808) (hb : xs[at_]? = some (dg (n % 10))) : zCon l Z (⟨"com/example/kick/kick/value/CloseReportToStringPinLaw", "dig", "(Ljava/lang/String;IJ)Z"⟩ : MethodName) method_5_code 4 (some .boolean) [] ({ frames := 4, cells := 0, slots := 0, locals := 53 } : Room) #[(.ref r), (.int (Int32.ofNat (at_))), (.long (Int64.ofNat (n)))] h0 (zSame (some (.int 1)) h0) := by
  refine zenter (plainFor_of_name pn_8) (L0 := #[rv r, iv (Int32.ofNat (at_)), .val (.long (Int64.ofNat (n))), .second]) (H := ?_)
  intro p e s m below meth c T0 hx hZ hby hml hown0 hnm hret hlk X0 e0
  have hown : s.vm.findClass "com/example/kick/kick/value/CloseReportToStringPinLaw" = some m.cls := hown0
  obtain ⟨E_r, F_r_v, F_r_c, A_x⟩ := id B1
  have hi := (List.getElem?_eq_some_iff.mp hb).1
  show zEnds p e below s T0 (mkF m 0 #[rv r, iv (Int32.ofNat (at_)), .val (.long (Int64.ofNat (n))), .second] []) _ _ _
  refine zaloadN X0 hx hby d38_0 rfl rfl (ziloadN X0 hx hby d38_1 rfl (zcallv X0 hx hby d38_2 hZ hown (w271 hw) (w272 hw) (notFace_of_selects (args := #[]) (mvT hZ (w274 hw))) (w274 hw) (w273 hw) (w275 hw) (w88 hw) e0 E_r (c_charat l hw  C O0 vf hvf S_vf r x (xs) ⟨E_r, F_r_v, F_r_c, A_x⟩ (at_) (dg (n % 10)) hb (cs8_dg (by omega)) (by omega)) hml 0 pd_22 (argsL := [(.int (Int32.ofNat (at_)))]) (st := []) (zpureK ⟨rfl, rfl⟩ fun T1 X1 e1 => ?_)))
  refine zbipush X1 hx hby d38_5 (z := (48 : Int32)) rfl (zlloadN X1 hx hby d38_7 rfl (zldc2J X1 hx hby d38_8 (10 : Int64) hZ hown (w259 hw) (zlrem X1 hx hby d38_11 (Int64.ofNat (n % 10)) (by decide) (ofL_mod (by omega)) (zl2i X1 hx hby d38_12 (Int32.ofNat (n % 10)) (l2i_ofN (by omega)) (ziadd X1 hx hby d38_13 (Int32.ofNat (48 + n % 10)) (zofN_add _ _) (zi2c X1 hx hby d38_14 (Int32.ofNat (48 + n % 10)) (i2c_ofN (by omega)) (zicmpNo X1 hx hby d38_15 (teq (dgN (by omega))).2 (ziconst X1 hx hby d38_18 (z := (1 : Int32)) rfl (zgoto X1 hx hby d38_19 23 (by decide) (by decide) ?_)))))))))
  show zEnds p e below s T1 (mkF m 23 #[rv r, iv (Int32.ofNat (at_)), .val (.long (Int64.ofNat (n))), .second] [(.int 1)]) _ _ _
  exact zretZ X1 hx hby d38_23 hret hlk (by simp) rfl (by first | decide | omega | (dsimp only; omega)) (by first | decide | omega | (dsimp only; omega)) (⟨rfl, e1, rfl⟩)
theorem pow_next {n t j : Nat} (h : t = n / 10 ^ j) : t / 10 = n / 10 ^ (j + 1) := by rw [h, Nat.div_div_eq_div_mul, Nat.pow_succ]
def NL (r ee d n t : Nat) : Array Slot := #[rv r, iv (Int32.ofNat (ee)), iv (Int32.ofNat (d)), .val (.long (Int64.ofNat (n))), .second, .val (.long (Int64.ofNat (t))), .second, iv 1]
section Num
variable {p : Program} {l : Launch} {e : Env} {s : State} {m : MethodId} {args : Array Value} {below : List Frame} {meth : Method} {c : Code} {T0 : State} {Z : State} {a0 : Array Value} {h0 : Heap} {n0 cs_ ss_ : Nat} {cs : Int32} {d1 d2 : Addr} {o1 o2 : List Int8} {vf : Value} {r x : Addr} {xs : List Int8} {ee d n : Nat}
def NumB (p : Program) (s : State) (m : MethodId) (meth : Method) (c : Code) (Z : State) (a0 : Array Value) (h0 : Heap) (n0 : Nat) (cs : Int32) (d1 d2 : Addr) (o1 o2 : List Int8) (vf : Value) (r x : Addr) (xs : List Int8) (ee d n : Nat) : Prop :=
  HW a0 Z ∧ (vf = .null ∨ ∃ a, vf = .ref a) ∧ Sta Z Z.heap "jdk/internal/util/Preconditions" "SIOOBE_FORMATTER" "Ljava/util/function/BiFunction;" vf ∧ Sx Z h0 r x xs ∧ xs.length < 1000000 ∧ n < 9223372036854775808 ∧ d ≤ ee ∧ ee < 1000000 ∧ (∀ i, i < d → xs[ee - (i + 1)]? = some (dg (n / 10 ^ i % 10))) ∧ p.tables.exec = Jvm.exec ∧ Z.Warmed39 s.vm ∧ c.code = method_6_code ∧ c.maxLocals = 8 ∧ s.vm.findClass "com/example/kick/kick/value/CloseReportToStringPinLaw" = some m.cls ∧ meth.sig.returnType = (some .boolean) ∧ meth.locks = false ∧ Ctx Z cs d1 d2 o1 o2 ∧ zOd Z n0 h0
theorem num_18 (B : NumB p s m meth c Z a0 h0 n0 cs d1 d2 o1 o2 vf r x xs ee d n) (X0 : Stand p l e ({ frames := 5, cells := 0, slots := 0, locals := 68 } : Room) s m args below meth c T0 [] 0 0) (e0 : T0.heap = h0) (t : Nat) (hT : t < 9223372036854775808) (ht : t = n / 10 ^ 18) : zEnds p e below s T0 (mkF m 676 (NL r ee d n t) []) cs_ ss_ (zSame (some (.int 1)) h0) := by
  obtain ⟨hw, hvf, S_vf, B1, hM, hn, hd1, he, hx_, hx, hZ, hby, hml, hown, hret, hlk, C, O0⟩ := id B
  obtain ⟨E_r, F_r_v, F_r_c, A_x⟩ := id B1
  show zEnds p e below s T0 (mkF m 676 (NL r ee d n (t)) []) _ _ _
  refine ziloadN X0 hx hby d39_676 rfl (zbipush X0 hx hby d39_677 (z := (18 : Int32)) rfl ?_)
  show zEnds p e below s T0 (mkF m 679 (NL r ee d n (t)) [(.int 18), (.int (Int32.ofNat (d)))]) _ _ _
  by_cases hj : 18 < d
  · refine zicmpNo X0 hx hby d39_679 (tlt (show Int32.ofNat (18) < (Int32.ofNat (d)) from by rw [zofN_lt (by omega) (by omega)]; omega)).2.2.2 (ziload X0 hx hby d39_682 rfl (zifNo X0 hx hby d39_684 (by decide) (zaloadN X0 hx hby d39_687 rfl rfl (ziloadN X0 hx hby d39_688 rfl (zbipush X0 hx hby d39_689 (z := (19 : Int32)) rfl (zisub X0 hx hby d39_691 (Int32.ofNat (ee - 19)) (zofN_sub (b := 19) (by omega)) (zlload X0 hx hby d39_692 rfl (zcalls X0 hx hby d39_694 hZ hown (w296 hw) (w297 hw) (w257 hw) (w298 hw) e0 (c_dig l hw  C O0 vf hvf S_vf r x (xs) ⟨E_r, F_r_v, F_r_c, A_x⟩ hM (ee - 19) (t) (by omega) (by rw [show ee - 19 = ee - (18 + 1) from by omega, ht]; exact hx_ 18 hj)) hml 0 pd_24 (argsL := [(.ref r), (.int (Int32.ofNat (ee - 19))), (.long (Int64.ofNat (t)))]) (st := []) (zpureK ⟨rfl, rfl⟩ fun T1 X1 e1 => ?_)))))))))
    refine zifNo X1 hx hby d39_697 (by decide) (ziconst X1 hx hby d39_700 (z := (1 : Int32)) rfl (zgoto X1 hx hby d39_701 705 (by decide) (by decide) (zistore X1 hx hby d39_705 (L' := (NL r ee d n (t))) rfl (ziload X1 hx hby d39_707 rfl ?_))))
    show zEnds p e below s T1 (mkF m 709 (NL r ee d n (t)) [(.int 1)]) _ _ _
    exact zretZ X1 hx hby d39_709 hret hlk (by simp) rfl (by first | decide | omega | (dsimp only; omega)) (by first | decide | omega | (dsimp only; omega)) (⟨rfl, e1, rfl⟩)
  · refine zicmpYes X0 hx hby d39_679 707 (flt (show ¬ (Int32.ofNat (18) < (Int32.ofNat (d))) from by rw [zofN_lt (by omega) (by omega)]; omega)).2.2.2 (by decide) (by decide) (ziload X0 hx hby d39_707 rfl ?_)
    show zEnds p e below s T0 (mkF m 709 (NL r ee d n (t)) [(.int 1)]) _ _ _
    exact zretZ X0 hx hby d39_709 hret hlk (by simp) rfl (by first | decide | omega | (dsimp only; omega)) (by first | decide | omega | (dsimp only; omega)) (⟨rfl, e0, rfl⟩)
theorem num_17 (B : NumB p s m meth c Z a0 h0 n0 cs d1 d2 o1 o2 vf r x xs ee d n) (X0 : Stand p l e ({ frames := 5, cells := 0, slots := 0, locals := 68 } : Room) s m args below meth c T0 [] 0 0) (e0 : T0.heap = h0) (t : Nat) (hT : t < 9223372036854775808) (ht : t = n / 10 ^ 17) : zEnds p e below s T0 (mkF m 637 (NL r ee d n t) []) cs_ ss_ (zSame (some (.int 1)) h0) := by
  obtain ⟨hw, hvf, S_vf, B1, hM, hn, hd1, he, hx_, hx, hZ, hby, hml, hown, hret, hlk, C, O0⟩ := id B
  obtain ⟨E_r, F_r_v, F_r_c, A_x⟩ := id B1
  show zEnds p e below s T0 (mkF m 637 (NL r ee d n (t)) []) _ _ _
  refine ziloadN X0 hx hby d39_637 rfl (zbipush X0 hx hby d39_638 (z := (17 : Int32)) rfl ?_)
  show zEnds p e below s T0 (mkF m 640 (NL r ee d n (t)) [(.int 17), (.int (Int32.ofNat (d)))]) _ _ _
  by_cases hj : 17 < d
  · refine zicmpNo X0 hx hby d39_640 (tlt (show Int32.ofNat (17) < (Int32.ofNat (d)) from by rw [zofN_lt (by omega) (by omega)]; omega)).2.2.2 (ziload X0 hx hby d39_643 rfl (zifNo X0 hx hby d39_645 (by decide) (zaloadN X0 hx hby d39_648 rfl rfl (ziloadN X0 hx hby d39_649 rfl (zbipush X0 hx hby d39_650 (z := (18 : Int32)) rfl (zisub X0 hx hby d39_652 (Int32.ofNat (ee - 18)) (zofN_sub (b := 18) (by omega)) (zlload X0 hx hby d39_653 rfl (zcalls X0 hx hby d39_655 hZ hown (w296 hw) (w297 hw) (w257 hw) (w298 hw) e0 (c_dig l hw  C O0 vf hvf S_vf r x (xs) ⟨E_r, F_r_v, F_r_c, A_x⟩ hM (ee - 18) (t) (by omega) (by rw [show ee - 18 = ee - (17 + 1) from by omega, ht]; exact hx_ 17 hj)) hml 0 pd_24 (argsL := [(.ref r), (.int (Int32.ofNat (ee - 18))), (.long (Int64.ofNat (t)))]) (st := []) (zpureK ⟨rfl, rfl⟩ fun T1 X1 e1 => ?_)))))))))
    refine zifNo X1 hx hby d39_658 (by decide) (ziconst X1 hx hby d39_661 (z := (1 : Int32)) rfl (zgoto X1 hx hby d39_662 666 (by decide) (by decide) (zistore X1 hx hby d39_666 (L' := (NL r ee d n (t))) rfl (zlload X1 hx hby d39_668 rfl (zldc2J X1 hx hby d39_670 (10 : Int64) hZ hown (w259 hw) (zldiv X1 hx hby d39_673 (Int64.ofNat (t / 10)) (by decide) (ofL_div (by omega)) (zlstore X1 hx hby d39_674 (L' := (NL r ee d n (t / 10))) rfl ?_)))))))
    show zEnds p e below s T1 (mkF m 676 (NL r ee d n (t / 10)) []) _ _ _
    exact num_18 B X1 e1 (t / 10) (by omega) (pow_next ht)
  · refine zicmpYes X0 hx hby d39_640 668 (flt (show ¬ (Int32.ofNat (17) < (Int32.ofNat (d))) from by rw [zofN_lt (by omega) (by omega)]; omega)).2.2.2 (by decide) (by decide) (zlload X0 hx hby d39_668 rfl (zldc2J X0 hx hby d39_670 (10 : Int64) hZ hown (w259 hw) (zldiv X0 hx hby d39_673 (Int64.ofNat (t / 10)) (by decide) (ofL_div (by omega)) (zlstore X0 hx hby d39_674 (L' := (NL r ee d n (t / 10))) rfl ?_))))
    show zEnds p e below s T0 (mkF m 676 (NL r ee d n (t / 10)) []) _ _ _
    exact num_18 B X0 e0 (t / 10) (by omega) (pow_next ht)
theorem num_16 (B : NumB p s m meth c Z a0 h0 n0 cs d1 d2 o1 o2 vf r x xs ee d n) (X0 : Stand p l e ({ frames := 5, cells := 0, slots := 0, locals := 68 } : Room) s m args below meth c T0 [] 0 0) (e0 : T0.heap = h0) (t : Nat) (hT : t < 9223372036854775808) (ht : t = n / 10 ^ 16) : zEnds p e below s T0 (mkF m 598 (NL r ee d n t) []) cs_ ss_ (zSame (some (.int 1)) h0) := by
  obtain ⟨hw, hvf, S_vf, B1, hM, hn, hd1, he, hx_, hx, hZ, hby, hml, hown, hret, hlk, C, O0⟩ := id B
  obtain ⟨E_r, F_r_v, F_r_c, A_x⟩ := id B1
  show zEnds p e below s T0 (mkF m 598 (NL r ee d n (t)) []) _ _ _
  refine ziloadN X0 hx hby d39_598 rfl (zbipush X0 hx hby d39_599 (z := (16 : Int32)) rfl ?_)
  show zEnds p e below s T0 (mkF m 601 (NL r ee d n (t)) [(.int 16), (.int (Int32.ofNat (d)))]) _ _ _
  by_cases hj : 16 < d
  · refine zicmpNo X0 hx hby d39_601 (tlt (show Int32.ofNat (16) < (Int32.ofNat (d)) from by rw [zofN_lt (by omega) (by omega)]; omega)).2.2.2 (ziload X0 hx hby d39_604 rfl (zifNo X0 hx hby d39_606 (by decide) (zaloadN X0 hx hby d39_609 rfl rfl (ziloadN X0 hx hby d39_610 rfl (zbipush X0 hx hby d39_611 (z := (17 : Int32)) rfl (zisub X0 hx hby d39_613 (Int32.ofNat (ee - 17)) (zofN_sub (b := 17) (by omega)) (zlload X0 hx hby d39_614 rfl (zcalls X0 hx hby d39_616 hZ hown (w296 hw) (w297 hw) (w257 hw) (w298 hw) e0 (c_dig l hw  C O0 vf hvf S_vf r x (xs) ⟨E_r, F_r_v, F_r_c, A_x⟩ hM (ee - 17) (t) (by omega) (by rw [show ee - 17 = ee - (16 + 1) from by omega, ht]; exact hx_ 16 hj)) hml 0 pd_24 (argsL := [(.ref r), (.int (Int32.ofNat (ee - 17))), (.long (Int64.ofNat (t)))]) (st := []) (zpureK ⟨rfl, rfl⟩ fun T1 X1 e1 => ?_)))))))))
    refine zifNo X1 hx hby d39_619 (by decide) (ziconst X1 hx hby d39_622 (z := (1 : Int32)) rfl (zgoto X1 hx hby d39_623 627 (by decide) (by decide) (zistore X1 hx hby d39_627 (L' := (NL r ee d n (t))) rfl (zlload X1 hx hby d39_629 rfl (zldc2J X1 hx hby d39_631 (10 : Int64) hZ hown (w259 hw) (zldiv X1 hx hby d39_634 (Int64.ofNat (t / 10)) (by decide) (ofL_div (by omega)) (zlstore X1 hx hby d39_635 (L' := (NL r ee d n (t / 10))) rfl ?_)))))))
    show zEnds p e below s T1 (mkF m 637 (NL r ee d n (t / 10)) []) _ _ _
    exact num_17 B X1 e1 (t / 10) (by omega) (pow_next ht)
  · refine zicmpYes X0 hx hby d39_601 629 (flt (show ¬ (Int32.ofNat (16) < (Int32.ofNat (d))) from by rw [zofN_lt (by omega) (by omega)]; omega)).2.2.2 (by decide) (by decide) (zlload X0 hx hby d39_629 rfl (zldc2J X0 hx hby d39_631 (10 : Int64) hZ hown (w259 hw) (zldiv X0 hx hby d39_634 (Int64.ofNat (t / 10)) (by decide) (ofL_div (by omega)) (zlstore X0 hx hby d39_635 (L' := (NL r ee d n (t / 10))) rfl ?_))))
    show zEnds p e below s T0 (mkF m 637 (NL r ee d n (t / 10)) []) _ _ _
    exact num_17 B X0 e0 (t / 10) (by omega) (pow_next ht)
theorem num_15 (B : NumB p s m meth c Z a0 h0 n0 cs d1 d2 o1 o2 vf r x xs ee d n) (X0 : Stand p l e ({ frames := 5, cells := 0, slots := 0, locals := 68 } : Room) s m args below meth c T0 [] 0 0) (e0 : T0.heap = h0) (t : Nat) (hT : t < 9223372036854775808) (ht : t = n / 10 ^ 15) : zEnds p e below s T0 (mkF m 559 (NL r ee d n t) []) cs_ ss_ (zSame (some (.int 1)) h0) := by
  obtain ⟨hw, hvf, S_vf, B1, hM, hn, hd1, he, hx_, hx, hZ, hby, hml, hown, hret, hlk, C, O0⟩ := id B
  obtain ⟨E_r, F_r_v, F_r_c, A_x⟩ := id B1
  show zEnds p e below s T0 (mkF m 559 (NL r ee d n (t)) []) _ _ _
  refine ziloadN X0 hx hby d39_559 rfl (zbipush X0 hx hby d39_560 (z := (15 : Int32)) rfl ?_)
  show zEnds p e below s T0 (mkF m 562 (NL r ee d n (t)) [(.int 15), (.int (Int32.ofNat (d)))]) _ _ _
  by_cases hj : 15 < d
  · refine zicmpNo X0 hx hby d39_562 (tlt (show Int32.ofNat (15) < (Int32.ofNat (d)) from by rw [zofN_lt (by omega) (by omega)]; omega)).2.2.2 (ziload X0 hx hby d39_565 rfl (zifNo X0 hx hby d39_567 (by decide) (zaloadN X0 hx hby d39_570 rfl rfl (ziloadN X0 hx hby d39_571 rfl (zbipush X0 hx hby d39_572 (z := (16 : Int32)) rfl (zisub X0 hx hby d39_574 (Int32.ofNat (ee - 16)) (zofN_sub (b := 16) (by omega)) (zlload X0 hx hby d39_575 rfl (zcalls X0 hx hby d39_577 hZ hown (w296 hw) (w297 hw) (w257 hw) (w298 hw) e0 (c_dig l hw  C O0 vf hvf S_vf r x (xs) ⟨E_r, F_r_v, F_r_c, A_x⟩ hM (ee - 16) (t) (by omega) (by rw [show ee - 16 = ee - (15 + 1) from by omega, ht]; exact hx_ 15 hj)) hml 0 pd_24 (argsL := [(.ref r), (.int (Int32.ofNat (ee - 16))), (.long (Int64.ofNat (t)))]) (st := []) (zpureK ⟨rfl, rfl⟩ fun T1 X1 e1 => ?_)))))))))
    refine zifNo X1 hx hby d39_580 (by decide) (ziconst X1 hx hby d39_583 (z := (1 : Int32)) rfl (zgoto X1 hx hby d39_584 588 (by decide) (by decide) (zistore X1 hx hby d39_588 (L' := (NL r ee d n (t))) rfl (zlload X1 hx hby d39_590 rfl (zldc2J X1 hx hby d39_592 (10 : Int64) hZ hown (w259 hw) (zldiv X1 hx hby d39_595 (Int64.ofNat (t / 10)) (by decide) (ofL_div (by omega)) (zlstore X1 hx hby d39_596 (L' := (NL r ee d n (t / 10))) rfl ?_)))))))
    show zEnds p e below s T1 (mkF m 598 (NL r ee d n (t / 10)) []) _ _ _
    exact num_16 B X1 e1 (t / 10) (by omega) (pow_next ht)
  · refine zicmpYes X0 hx hby d39_562 590 (flt (show ¬ (Int32.ofNat (15) < (Int32.ofNat (d))) from by rw [zofN_lt (by omega) (by omega)]; omega)).2.2.2 (by decide) (by decide) (zlload X0 hx hby d39_590 rfl (zldc2J X0 hx hby d39_592 (10 : Int64) hZ hown (w259 hw) (zldiv X0 hx hby d39_595 (Int64.ofNat (t / 10)) (by decide) (ofL_div (by omega)) (zlstore X0 hx hby d39_596 (L' := (NL r ee d n (t / 10))) rfl ?_))))
    show zEnds p e below s T0 (mkF m 598 (NL r ee d n (t / 10)) []) _ _ _
    exact num_16 B X0 e0 (t / 10) (by omega) (pow_next ht)
theorem num_14 (B : NumB p s m meth c Z a0 h0 n0 cs d1 d2 o1 o2 vf r x xs ee d n) (X0 : Stand p l e ({ frames := 5, cells := 0, slots := 0, locals := 68 } : Room) s m args below meth c T0 [] 0 0) (e0 : T0.heap = h0) (t : Nat) (hT : t < 9223372036854775808) (ht : t = n / 10 ^ 14) : zEnds p e below s T0 (mkF m 520 (NL r ee d n t) []) cs_ ss_ (zSame (some (.int 1)) h0) := by
  obtain ⟨hw, hvf, S_vf, B1, hM, hn, hd1, he, hx_, hx, hZ, hby, hml, hown, hret, hlk, C, O0⟩ := id B
  obtain ⟨E_r, F_r_v, F_r_c, A_x⟩ := id B1
  show zEnds p e below s T0 (mkF m 520 (NL r ee d n (t)) []) _ _ _
  refine ziloadN X0 hx hby d39_520 rfl (zbipush X0 hx hby d39_521 (z := (14 : Int32)) rfl ?_)
  show zEnds p e below s T0 (mkF m 523 (NL r ee d n (t)) [(.int 14), (.int (Int32.ofNat (d)))]) _ _ _
  by_cases hj : 14 < d
  · refine zicmpNo X0 hx hby d39_523 (tlt (show Int32.ofNat (14) < (Int32.ofNat (d)) from by rw [zofN_lt (by omega) (by omega)]; omega)).2.2.2 (ziload X0 hx hby d39_526 rfl (zifNo X0 hx hby d39_528 (by decide) (zaloadN X0 hx hby d39_531 rfl rfl (ziloadN X0 hx hby d39_532 rfl (zbipush X0 hx hby d39_533 (z := (15 : Int32)) rfl (zisub X0 hx hby d39_535 (Int32.ofNat (ee - 15)) (zofN_sub (b := 15) (by omega)) (zlload X0 hx hby d39_536 rfl (zcalls X0 hx hby d39_538 hZ hown (w296 hw) (w297 hw) (w257 hw) (w298 hw) e0 (c_dig l hw  C O0 vf hvf S_vf r x (xs) ⟨E_r, F_r_v, F_r_c, A_x⟩ hM (ee - 15) (t) (by omega) (by rw [show ee - 15 = ee - (14 + 1) from by omega, ht]; exact hx_ 14 hj)) hml 0 pd_24 (argsL := [(.ref r), (.int (Int32.ofNat (ee - 15))), (.long (Int64.ofNat (t)))]) (st := []) (zpureK ⟨rfl, rfl⟩ fun T1 X1 e1 => ?_)))))))))
    refine zifNo X1 hx hby d39_541 (by decide) (ziconst X1 hx hby d39_544 (z := (1 : Int32)) rfl (zgoto X1 hx hby d39_545 549 (by decide) (by decide) (zistore X1 hx hby d39_549 (L' := (NL r ee d n (t))) rfl (zlload X1 hx hby d39_551 rfl (zldc2J X1 hx hby d39_553 (10 : Int64) hZ hown (w259 hw) (zldiv X1 hx hby d39_556 (Int64.ofNat (t / 10)) (by decide) (ofL_div (by omega)) (zlstore X1 hx hby d39_557 (L' := (NL r ee d n (t / 10))) rfl ?_)))))))
    show zEnds p e below s T1 (mkF m 559 (NL r ee d n (t / 10)) []) _ _ _
    exact num_15 B X1 e1 (t / 10) (by omega) (pow_next ht)
  · refine zicmpYes X0 hx hby d39_523 551 (flt (show ¬ (Int32.ofNat (14) < (Int32.ofNat (d))) from by rw [zofN_lt (by omega) (by omega)]; omega)).2.2.2 (by decide) (by decide) (zlload X0 hx hby d39_551 rfl (zldc2J X0 hx hby d39_553 (10 : Int64) hZ hown (w259 hw) (zldiv X0 hx hby d39_556 (Int64.ofNat (t / 10)) (by decide) (ofL_div (by omega)) (zlstore X0 hx hby d39_557 (L' := (NL r ee d n (t / 10))) rfl ?_))))
    show zEnds p e below s T0 (mkF m 559 (NL r ee d n (t / 10)) []) _ _ _
    exact num_15 B X0 e0 (t / 10) (by omega) (pow_next ht)
theorem num_13 (B : NumB p s m meth c Z a0 h0 n0 cs d1 d2 o1 o2 vf r x xs ee d n) (X0 : Stand p l e ({ frames := 5, cells := 0, slots := 0, locals := 68 } : Room) s m args below meth c T0 [] 0 0) (e0 : T0.heap = h0) (t : Nat) (hT : t < 9223372036854775808) (ht : t = n / 10 ^ 13) : zEnds p e below s T0 (mkF m 481 (NL r ee d n t) []) cs_ ss_ (zSame (some (.int 1)) h0) := by
  obtain ⟨hw, hvf, S_vf, B1, hM, hn, hd1, he, hx_, hx, hZ, hby, hml, hown, hret, hlk, C, O0⟩ := id B
  obtain ⟨E_r, F_r_v, F_r_c, A_x⟩ := id B1
  show zEnds p e below s T0 (mkF m 481 (NL r ee d n (t)) []) _ _ _
  refine ziloadN X0 hx hby d39_481 rfl (zbipush X0 hx hby d39_482 (z := (13 : Int32)) rfl ?_)
  show zEnds p e below s T0 (mkF m 484 (NL r ee d n (t)) [(.int 13), (.int (Int32.ofNat (d)))]) _ _ _
  by_cases hj : 13 < d
  · refine zicmpNo X0 hx hby d39_484 (tlt (show Int32.ofNat (13) < (Int32.ofNat (d)) from by rw [zofN_lt (by omega) (by omega)]; omega)).2.2.2 (ziload X0 hx hby d39_487 rfl (zifNo X0 hx hby d39_489 (by decide) (zaloadN X0 hx hby d39_492 rfl rfl (ziloadN X0 hx hby d39_493 rfl (zbipush X0 hx hby d39_494 (z := (14 : Int32)) rfl (zisub X0 hx hby d39_496 (Int32.ofNat (ee - 14)) (zofN_sub (b := 14) (by omega)) (zlload X0 hx hby d39_497 rfl (zcalls X0 hx hby d39_499 hZ hown (w296 hw) (w297 hw) (w257 hw) (w298 hw) e0 (c_dig l hw  C O0 vf hvf S_vf r x (xs) ⟨E_r, F_r_v, F_r_c, A_x⟩ hM (ee - 14) (t) (by omega) (by rw [show ee - 14 = ee - (13 + 1) from by omega, ht]; exact hx_ 13 hj)) hml 0 pd_24 (argsL := [(.ref r), (.int (Int32.ofNat (ee - 14))), (.long (Int64.ofNat (t)))]) (st := []) (zpureK ⟨rfl, rfl⟩ fun T1 X1 e1 => ?_)))))))))
    refine zifNo X1 hx hby d39_502 (by decide) (ziconst X1 hx hby d39_505 (z := (1 : Int32)) rfl (zgoto X1 hx hby d39_506 510 (by decide) (by decide) (zistore X1 hx hby d39_510 (L' := (NL r ee d n (t))) rfl (zlload X1 hx hby d39_512 rfl (zldc2J X1 hx hby d39_514 (10 : Int64) hZ hown (w259 hw) (zldiv X1 hx hby d39_517 (Int64.ofNat (t / 10)) (by decide) (ofL_div (by omega)) (zlstore X1 hx hby d39_518 (L' := (NL r ee d n (t / 10))) rfl ?_)))))))
    show zEnds p e below s T1 (mkF m 520 (NL r ee d n (t / 10)) []) _ _ _
    exact num_14 B X1 e1 (t / 10) (by omega) (pow_next ht)
  · refine zicmpYes X0 hx hby d39_484 512 (flt (show ¬ (Int32.ofNat (13) < (Int32.ofNat (d))) from by rw [zofN_lt (by omega) (by omega)]; omega)).2.2.2 (by decide) (by decide) (zlload X0 hx hby d39_512 rfl (zldc2J X0 hx hby d39_514 (10 : Int64) hZ hown (w259 hw) (zldiv X0 hx hby d39_517 (Int64.ofNat (t / 10)) (by decide) (ofL_div (by omega)) (zlstore X0 hx hby d39_518 (L' := (NL r ee d n (t / 10))) rfl ?_))))
    show zEnds p e below s T0 (mkF m 520 (NL r ee d n (t / 10)) []) _ _ _
    exact num_14 B X0 e0 (t / 10) (by omega) (pow_next ht)
theorem num_12 (B : NumB p s m meth c Z a0 h0 n0 cs d1 d2 o1 o2 vf r x xs ee d n) (X0 : Stand p l e ({ frames := 5, cells := 0, slots := 0, locals := 68 } : Room) s m args below meth c T0 [] 0 0) (e0 : T0.heap = h0) (t : Nat) (hT : t < 9223372036854775808) (ht : t = n / 10 ^ 12) : zEnds p e below s T0 (mkF m 442 (NL r ee d n t) []) cs_ ss_ (zSame (some (.int 1)) h0) := by
  obtain ⟨hw, hvf, S_vf, B1, hM, hn, hd1, he, hx_, hx, hZ, hby, hml, hown, hret, hlk, C, O0⟩ := id B
  obtain ⟨E_r, F_r_v, F_r_c, A_x⟩ := id B1
  show zEnds p e below s T0 (mkF m 442 (NL r ee d n (t)) []) _ _ _
  refine ziloadN X0 hx hby d39_442 rfl (zbipush X0 hx hby d39_443 (z := (12 : Int32)) rfl ?_)
  show zEnds p e below s T0 (mkF m 445 (NL r ee d n (t)) [(.int 12), (.int (Int32.ofNat (d)))]) _ _ _
  by_cases hj : 12 < d
  · refine zicmpNo X0 hx hby d39_445 (tlt (show Int32.ofNat (12) < (Int32.ofNat (d)) from by rw [zofN_lt (by omega) (by omega)]; omega)).2.2.2 (ziload X0 hx hby d39_448 rfl (zifNo X0 hx hby d39_450 (by decide) (zaloadN X0 hx hby d39_453 rfl rfl (ziloadN X0 hx hby d39_454 rfl (zbipush X0 hx hby d39_455 (z := (13 : Int32)) rfl (zisub X0 hx hby d39_457 (Int32.ofNat (ee - 13)) (zofN_sub (b := 13) (by omega)) (zlload X0 hx hby d39_458 rfl (zcalls X0 hx hby d39_460 hZ hown (w296 hw) (w297 hw) (w257 hw) (w298 hw) e0 (c_dig l hw  C O0 vf hvf S_vf r x (xs) ⟨E_r, F_r_v, F_r_c, A_x⟩ hM (ee - 13) (t) (by omega) (by rw [show ee - 13 = ee - (12 + 1) from by omega, ht]; exact hx_ 12 hj)) hml 0 pd_24 (argsL := [(.ref r), (.int (Int32.ofNat (ee - 13))), (.long (Int64.ofNat (t)))]) (st := []) (zpureK ⟨rfl, rfl⟩ fun T1 X1 e1 => ?_)))))))))
    refine zifNo X1 hx hby d39_463 (by decide) (ziconst X1 hx hby d39_466 (z := (1 : Int32)) rfl (zgoto X1 hx hby d39_467 471 (by decide) (by decide) (zistore X1 hx hby d39_471 (L' := (NL r ee d n (t))) rfl (zlload X1 hx hby d39_473 rfl (zldc2J X1 hx hby d39_475 (10 : Int64) hZ hown (w259 hw) (zldiv X1 hx hby d39_478 (Int64.ofNat (t / 10)) (by decide) (ofL_div (by omega)) (zlstore X1 hx hby d39_479 (L' := (NL r ee d n (t / 10))) rfl ?_)))))))
    show zEnds p e below s T1 (mkF m 481 (NL r ee d n (t / 10)) []) _ _ _
    exact num_13 B X1 e1 (t / 10) (by omega) (pow_next ht)
  · refine zicmpYes X0 hx hby d39_445 473 (flt (show ¬ (Int32.ofNat (12) < (Int32.ofNat (d))) from by rw [zofN_lt (by omega) (by omega)]; omega)).2.2.2 (by decide) (by decide) (zlload X0 hx hby d39_473 rfl (zldc2J X0 hx hby d39_475 (10 : Int64) hZ hown (w259 hw) (zldiv X0 hx hby d39_478 (Int64.ofNat (t / 10)) (by decide) (ofL_div (by omega)) (zlstore X0 hx hby d39_479 (L' := (NL r ee d n (t / 10))) rfl ?_))))
    show zEnds p e below s T0 (mkF m 481 (NL r ee d n (t / 10)) []) _ _ _
    exact num_13 B X0 e0 (t / 10) (by omega) (pow_next ht)
theorem num_11 (B : NumB p s m meth c Z a0 h0 n0 cs d1 d2 o1 o2 vf r x xs ee d n) (X0 : Stand p l e ({ frames := 5, cells := 0, slots := 0, locals := 68 } : Room) s m args below meth c T0 [] 0 0) (e0 : T0.heap = h0) (t : Nat) (hT : t < 9223372036854775808) (ht : t = n / 10 ^ 11) : zEnds p e below s T0 (mkF m 403 (NL r ee d n t) []) cs_ ss_ (zSame (some (.int 1)) h0) := by
  obtain ⟨hw, hvf, S_vf, B1, hM, hn, hd1, he, hx_, hx, hZ, hby, hml, hown, hret, hlk, C, O0⟩ := id B
  obtain ⟨E_r, F_r_v, F_r_c, A_x⟩ := id B1
  show zEnds p e below s T0 (mkF m 403 (NL r ee d n (t)) []) _ _ _
  refine ziloadN X0 hx hby d39_403 rfl (zbipush X0 hx hby d39_404 (z := (11 : Int32)) rfl ?_)
  show zEnds p e below s T0 (mkF m 406 (NL r ee d n (t)) [(.int 11), (.int (Int32.ofNat (d)))]) _ _ _
  by_cases hj : 11 < d
  · refine zicmpNo X0 hx hby d39_406 (tlt (show Int32.ofNat (11) < (Int32.ofNat (d)) from by rw [zofN_lt (by omega) (by omega)]; omega)).2.2.2 (ziload X0 hx hby d39_409 rfl (zifNo X0 hx hby d39_411 (by decide) (zaloadN X0 hx hby d39_414 rfl rfl (ziloadN X0 hx hby d39_415 rfl (zbipush X0 hx hby d39_416 (z := (12 : Int32)) rfl (zisub X0 hx hby d39_418 (Int32.ofNat (ee - 12)) (zofN_sub (b := 12) (by omega)) (zlload X0 hx hby d39_419 rfl (zcalls X0 hx hby d39_421 hZ hown (w296 hw) (w297 hw) (w257 hw) (w298 hw) e0 (c_dig l hw  C O0 vf hvf S_vf r x (xs) ⟨E_r, F_r_v, F_r_c, A_x⟩ hM (ee - 12) (t) (by omega) (by rw [show ee - 12 = ee - (11 + 1) from by omega, ht]; exact hx_ 11 hj)) hml 0 pd_24 (argsL := [(.ref r), (.int (Int32.ofNat (ee - 12))), (.long (Int64.ofNat (t)))]) (st := []) (zpureK ⟨rfl, rfl⟩ fun T1 X1 e1 => ?_)))))))))
    refine zifNo X1 hx hby d39_424 (by decide) (ziconst X1 hx hby d39_427 (z := (1 : Int32)) rfl (zgoto X1 hx hby d39_428 432 (by decide) (by decide) (zistore X1 hx hby d39_432 (L' := (NL r ee d n (t))) rfl (zlload X1 hx hby d39_434 rfl (zldc2J X1 hx hby d39_436 (10 : Int64) hZ hown (w259 hw) (zldiv X1 hx hby d39_439 (Int64.ofNat (t / 10)) (by decide) (ofL_div (by omega)) (zlstore X1 hx hby d39_440 (L' := (NL r ee d n (t / 10))) rfl ?_)))))))
    show zEnds p e below s T1 (mkF m 442 (NL r ee d n (t / 10)) []) _ _ _
    exact num_12 B X1 e1 (t / 10) (by omega) (pow_next ht)
  · refine zicmpYes X0 hx hby d39_406 434 (flt (show ¬ (Int32.ofNat (11) < (Int32.ofNat (d))) from by rw [zofN_lt (by omega) (by omega)]; omega)).2.2.2 (by decide) (by decide) (zlload X0 hx hby d39_434 rfl (zldc2J X0 hx hby d39_436 (10 : Int64) hZ hown (w259 hw) (zldiv X0 hx hby d39_439 (Int64.ofNat (t / 10)) (by decide) (ofL_div (by omega)) (zlstore X0 hx hby d39_440 (L' := (NL r ee d n (t / 10))) rfl ?_))))
    show zEnds p e below s T0 (mkF m 442 (NL r ee d n (t / 10)) []) _ _ _
    exact num_12 B X0 e0 (t / 10) (by omega) (pow_next ht)
theorem num_10 (B : NumB p s m meth c Z a0 h0 n0 cs d1 d2 o1 o2 vf r x xs ee d n) (X0 : Stand p l e ({ frames := 5, cells := 0, slots := 0, locals := 68 } : Room) s m args below meth c T0 [] 0 0) (e0 : T0.heap = h0) (t : Nat) (hT : t < 9223372036854775808) (ht : t = n / 10 ^ 10) : zEnds p e below s T0 (mkF m 364 (NL r ee d n t) []) cs_ ss_ (zSame (some (.int 1)) h0) := by
  obtain ⟨hw, hvf, S_vf, B1, hM, hn, hd1, he, hx_, hx, hZ, hby, hml, hown, hret, hlk, C, O0⟩ := id B
  obtain ⟨E_r, F_r_v, F_r_c, A_x⟩ := id B1
  show zEnds p e below s T0 (mkF m 364 (NL r ee d n (t)) []) _ _ _
  refine ziloadN X0 hx hby d39_364 rfl (zbipush X0 hx hby d39_365 (z := (10 : Int32)) rfl ?_)
  show zEnds p e below s T0 (mkF m 367 (NL r ee d n (t)) [(.int 10), (.int (Int32.ofNat (d)))]) _ _ _
  by_cases hj : 10 < d
  · refine zicmpNo X0 hx hby d39_367 (tlt (show Int32.ofNat (10) < (Int32.ofNat (d)) from by rw [zofN_lt (by omega) (by omega)]; omega)).2.2.2 (ziload X0 hx hby d39_370 rfl (zifNo X0 hx hby d39_372 (by decide) (zaloadN X0 hx hby d39_375 rfl rfl (ziloadN X0 hx hby d39_376 rfl (zbipush X0 hx hby d39_377 (z := (11 : Int32)) rfl (zisub X0 hx hby d39_379 (Int32.ofNat (ee - 11)) (zofN_sub (b := 11) (by omega)) (zlload X0 hx hby d39_380 rfl (zcalls X0 hx hby d39_382 hZ hown (w296 hw) (w297 hw) (w257 hw) (w298 hw) e0 (c_dig l hw  C O0 vf hvf S_vf r x (xs) ⟨E_r, F_r_v, F_r_c, A_x⟩ hM (ee - 11) (t) (by omega) (by rw [show ee - 11 = ee - (10 + 1) from by omega, ht]; exact hx_ 10 hj)) hml 0 pd_24 (argsL := [(.ref r), (.int (Int32.ofNat (ee - 11))), (.long (Int64.ofNat (t)))]) (st := []) (zpureK ⟨rfl, rfl⟩ fun T1 X1 e1 => ?_)))))))))
    refine zifNo X1 hx hby d39_385 (by decide) (ziconst X1 hx hby d39_388 (z := (1 : Int32)) rfl (zgoto X1 hx hby d39_389 393 (by decide) (by decide) (zistore X1 hx hby d39_393 (L' := (NL r ee d n (t))) rfl (zlload X1 hx hby d39_395 rfl (zldc2J X1 hx hby d39_397 (10 : Int64) hZ hown (w259 hw) (zldiv X1 hx hby d39_400 (Int64.ofNat (t / 10)) (by decide) (ofL_div (by omega)) (zlstore X1 hx hby d39_401 (L' := (NL r ee d n (t / 10))) rfl ?_)))))))
    show zEnds p e below s T1 (mkF m 403 (NL r ee d n (t / 10)) []) _ _ _
    exact num_11 B X1 e1 (t / 10) (by omega) (pow_next ht)
  · refine zicmpYes X0 hx hby d39_367 395 (flt (show ¬ (Int32.ofNat (10) < (Int32.ofNat (d))) from by rw [zofN_lt (by omega) (by omega)]; omega)).2.2.2 (by decide) (by decide) (zlload X0 hx hby d39_395 rfl (zldc2J X0 hx hby d39_397 (10 : Int64) hZ hown (w259 hw) (zldiv X0 hx hby d39_400 (Int64.ofNat (t / 10)) (by decide) (ofL_div (by omega)) (zlstore X0 hx hby d39_401 (L' := (NL r ee d n (t / 10))) rfl ?_))))
    show zEnds p e below s T0 (mkF m 403 (NL r ee d n (t / 10)) []) _ _ _
    exact num_11 B X0 e0 (t / 10) (by omega) (pow_next ht)
theorem num_9 (B : NumB p s m meth c Z a0 h0 n0 cs d1 d2 o1 o2 vf r x xs ee d n) (X0 : Stand p l e ({ frames := 5, cells := 0, slots := 0, locals := 68 } : Room) s m args below meth c T0 [] 0 0) (e0 : T0.heap = h0) (t : Nat) (hT : t < 9223372036854775808) (ht : t = n / 10 ^ 9) : zEnds p e below s T0 (mkF m 325 (NL r ee d n t) []) cs_ ss_ (zSame (some (.int 1)) h0) := by
  obtain ⟨hw, hvf, S_vf, B1, hM, hn, hd1, he, hx_, hx, hZ, hby, hml, hown, hret, hlk, C, O0⟩ := id B
  obtain ⟨E_r, F_r_v, F_r_c, A_x⟩ := id B1
  show zEnds p e below s T0 (mkF m 325 (NL r ee d n (t)) []) _ _ _
  refine ziloadN X0 hx hby d39_325 rfl (zbipush X0 hx hby d39_326 (z := (9 : Int32)) rfl ?_)
  show zEnds p e below s T0 (mkF m 328 (NL r ee d n (t)) [(.int 9), (.int (Int32.ofNat (d)))]) _ _ _
  by_cases hj : 9 < d
  · refine zicmpNo X0 hx hby d39_328 (tlt (show Int32.ofNat (9) < (Int32.ofNat (d)) from by rw [zofN_lt (by omega) (by omega)]; omega)).2.2.2 (ziload X0 hx hby d39_331 rfl (zifNo X0 hx hby d39_333 (by decide) (zaloadN X0 hx hby d39_336 rfl rfl (ziloadN X0 hx hby d39_337 rfl (zbipush X0 hx hby d39_338 (z := (10 : Int32)) rfl (zisub X0 hx hby d39_340 (Int32.ofNat (ee - 10)) (zofN_sub (b := 10) (by omega)) (zlload X0 hx hby d39_341 rfl (zcalls X0 hx hby d39_343 hZ hown (w296 hw) (w297 hw) (w257 hw) (w298 hw) e0 (c_dig l hw  C O0 vf hvf S_vf r x (xs) ⟨E_r, F_r_v, F_r_c, A_x⟩ hM (ee - 10) (t) (by omega) (by rw [show ee - 10 = ee - (9 + 1) from by omega, ht]; exact hx_ 9 hj)) hml 0 pd_24 (argsL := [(.ref r), (.int (Int32.ofNat (ee - 10))), (.long (Int64.ofNat (t)))]) (st := []) (zpureK ⟨rfl, rfl⟩ fun T1 X1 e1 => ?_)))))))))
    refine zifNo X1 hx hby d39_346 (by decide) (ziconst X1 hx hby d39_349 (z := (1 : Int32)) rfl (zgoto X1 hx hby d39_350 354 (by decide) (by decide) (zistore X1 hx hby d39_354 (L' := (NL r ee d n (t))) rfl (zlload X1 hx hby d39_356 rfl (zldc2J X1 hx hby d39_358 (10 : Int64) hZ hown (w259 hw) (zldiv X1 hx hby d39_361 (Int64.ofNat (t / 10)) (by decide) (ofL_div (by omega)) (zlstore X1 hx hby d39_362 (L' := (NL r ee d n (t / 10))) rfl ?_)))))))
    show zEnds p e below s T1 (mkF m 364 (NL r ee d n (t / 10)) []) _ _ _
    exact num_10 B X1 e1 (t / 10) (by omega) (pow_next ht)
  · refine zicmpYes X0 hx hby d39_328 356 (flt (show ¬ (Int32.ofNat (9) < (Int32.ofNat (d))) from by rw [zofN_lt (by omega) (by omega)]; omega)).2.2.2 (by decide) (by decide) (zlload X0 hx hby d39_356 rfl (zldc2J X0 hx hby d39_358 (10 : Int64) hZ hown (w259 hw) (zldiv X0 hx hby d39_361 (Int64.ofNat (t / 10)) (by decide) (ofL_div (by omega)) (zlstore X0 hx hby d39_362 (L' := (NL r ee d n (t / 10))) rfl ?_))))
    show zEnds p e below s T0 (mkF m 364 (NL r ee d n (t / 10)) []) _ _ _
    exact num_10 B X0 e0 (t / 10) (by omega) (pow_next ht)
theorem num_8 (B : NumB p s m meth c Z a0 h0 n0 cs d1 d2 o1 o2 vf r x xs ee d n) (X0 : Stand p l e ({ frames := 5, cells := 0, slots := 0, locals := 68 } : Room) s m args below meth c T0 [] 0 0) (e0 : T0.heap = h0) (t : Nat) (hT : t < 9223372036854775808) (ht : t = n / 10 ^ 8) : zEnds p e below s T0 (mkF m 286 (NL r ee d n t) []) cs_ ss_ (zSame (some (.int 1)) h0) := by
  obtain ⟨hw, hvf, S_vf, B1, hM, hn, hd1, he, hx_, hx, hZ, hby, hml, hown, hret, hlk, C, O0⟩ := id B
  obtain ⟨E_r, F_r_v, F_r_c, A_x⟩ := id B1
  show zEnds p e below s T0 (mkF m 286 (NL r ee d n (t)) []) _ _ _
  refine ziloadN X0 hx hby d39_286 rfl (zbipush X0 hx hby d39_287 (z := (8 : Int32)) rfl ?_)
  show zEnds p e below s T0 (mkF m 289 (NL r ee d n (t)) [(.int 8), (.int (Int32.ofNat (d)))]) _ _ _
  by_cases hj : 8 < d
  · refine zicmpNo X0 hx hby d39_289 (tlt (show Int32.ofNat (8) < (Int32.ofNat (d)) from by rw [zofN_lt (by omega) (by omega)]; omega)).2.2.2 (ziload X0 hx hby d39_292 rfl (zifNo X0 hx hby d39_294 (by decide) (zaloadN X0 hx hby d39_297 rfl rfl (ziloadN X0 hx hby d39_298 rfl (zbipush X0 hx hby d39_299 (z := (9 : Int32)) rfl (zisub X0 hx hby d39_301 (Int32.ofNat (ee - 9)) (zofN_sub (b := 9) (by omega)) (zlload X0 hx hby d39_302 rfl (zcalls X0 hx hby d39_304 hZ hown (w296 hw) (w297 hw) (w257 hw) (w298 hw) e0 (c_dig l hw  C O0 vf hvf S_vf r x (xs) ⟨E_r, F_r_v, F_r_c, A_x⟩ hM (ee - 9) (t) (by omega) (by rw [show ee - 9 = ee - (8 + 1) from by omega, ht]; exact hx_ 8 hj)) hml 0 pd_24 (argsL := [(.ref r), (.int (Int32.ofNat (ee - 9))), (.long (Int64.ofNat (t)))]) (st := []) (zpureK ⟨rfl, rfl⟩ fun T1 X1 e1 => ?_)))))))))
    refine zifNo X1 hx hby d39_307 (by decide) (ziconst X1 hx hby d39_310 (z := (1 : Int32)) rfl (zgoto X1 hx hby d39_311 315 (by decide) (by decide) (zistore X1 hx hby d39_315 (L' := (NL r ee d n (t))) rfl (zlload X1 hx hby d39_317 rfl (zldc2J X1 hx hby d39_319 (10 : Int64) hZ hown (w259 hw) (zldiv X1 hx hby d39_322 (Int64.ofNat (t / 10)) (by decide) (ofL_div (by omega)) (zlstore X1 hx hby d39_323 (L' := (NL r ee d n (t / 10))) rfl ?_)))))))
    show zEnds p e below s T1 (mkF m 325 (NL r ee d n (t / 10)) []) _ _ _
    exact num_9 B X1 e1 (t / 10) (by omega) (pow_next ht)
  · refine zicmpYes X0 hx hby d39_289 317 (flt (show ¬ (Int32.ofNat (8) < (Int32.ofNat (d))) from by rw [zofN_lt (by omega) (by omega)]; omega)).2.2.2 (by decide) (by decide) (zlload X0 hx hby d39_317 rfl (zldc2J X0 hx hby d39_319 (10 : Int64) hZ hown (w259 hw) (zldiv X0 hx hby d39_322 (Int64.ofNat (t / 10)) (by decide) (ofL_div (by omega)) (zlstore X0 hx hby d39_323 (L' := (NL r ee d n (t / 10))) rfl ?_))))
    show zEnds p e below s T0 (mkF m 325 (NL r ee d n (t / 10)) []) _ _ _
    exact num_9 B X0 e0 (t / 10) (by omega) (pow_next ht)
theorem num_7 (B : NumB p s m meth c Z a0 h0 n0 cs d1 d2 o1 o2 vf r x xs ee d n) (X0 : Stand p l e ({ frames := 5, cells := 0, slots := 0, locals := 68 } : Room) s m args below meth c T0 [] 0 0) (e0 : T0.heap = h0) (t : Nat) (hT : t < 9223372036854775808) (ht : t = n / 10 ^ 7) : zEnds p e below s T0 (mkF m 247 (NL r ee d n t) []) cs_ ss_ (zSame (some (.int 1)) h0) := by
  obtain ⟨hw, hvf, S_vf, B1, hM, hn, hd1, he, hx_, hx, hZ, hby, hml, hown, hret, hlk, C, O0⟩ := id B
  obtain ⟨E_r, F_r_v, F_r_c, A_x⟩ := id B1
  show zEnds p e below s T0 (mkF m 247 (NL r ee d n (t)) []) _ _ _
  refine ziloadN X0 hx hby d39_247 rfl (zbipush X0 hx hby d39_248 (z := (7 : Int32)) rfl ?_)
  show zEnds p e below s T0 (mkF m 250 (NL r ee d n (t)) [(.int 7), (.int (Int32.ofNat (d)))]) _ _ _
  by_cases hj : 7 < d
  · refine zicmpNo X0 hx hby d39_250 (tlt (show Int32.ofNat (7) < (Int32.ofNat (d)) from by rw [zofN_lt (by omega) (by omega)]; omega)).2.2.2 (ziload X0 hx hby d39_253 rfl (zifNo X0 hx hby d39_255 (by decide) (zaloadN X0 hx hby d39_258 rfl rfl (ziloadN X0 hx hby d39_259 rfl (zbipush X0 hx hby d39_260 (z := (8 : Int32)) rfl (zisub X0 hx hby d39_262 (Int32.ofNat (ee - 8)) (zofN_sub (b := 8) (by omega)) (zlload X0 hx hby d39_263 rfl (zcalls X0 hx hby d39_265 hZ hown (w296 hw) (w297 hw) (w257 hw) (w298 hw) e0 (c_dig l hw  C O0 vf hvf S_vf r x (xs) ⟨E_r, F_r_v, F_r_c, A_x⟩ hM (ee - 8) (t) (by omega) (by rw [show ee - 8 = ee - (7 + 1) from by omega, ht]; exact hx_ 7 hj)) hml 0 pd_24 (argsL := [(.ref r), (.int (Int32.ofNat (ee - 8))), (.long (Int64.ofNat (t)))]) (st := []) (zpureK ⟨rfl, rfl⟩ fun T1 X1 e1 => ?_)))))))))
    refine zifNo X1 hx hby d39_268 (by decide) (ziconst X1 hx hby d39_271 (z := (1 : Int32)) rfl (zgoto X1 hx hby d39_272 276 (by decide) (by decide) (zistore X1 hx hby d39_276 (L' := (NL r ee d n (t))) rfl (zlload X1 hx hby d39_278 rfl (zldc2J X1 hx hby d39_280 (10 : Int64) hZ hown (w259 hw) (zldiv X1 hx hby d39_283 (Int64.ofNat (t / 10)) (by decide) (ofL_div (by omega)) (zlstore X1 hx hby d39_284 (L' := (NL r ee d n (t / 10))) rfl ?_)))))))
    show zEnds p e below s T1 (mkF m 286 (NL r ee d n (t / 10)) []) _ _ _
    exact num_8 B X1 e1 (t / 10) (by omega) (pow_next ht)
  · refine zicmpYes X0 hx hby d39_250 278 (flt (show ¬ (Int32.ofNat (7) < (Int32.ofNat (d))) from by rw [zofN_lt (by omega) (by omega)]; omega)).2.2.2 (by decide) (by decide) (zlload X0 hx hby d39_278 rfl (zldc2J X0 hx hby d39_280 (10 : Int64) hZ hown (w259 hw) (zldiv X0 hx hby d39_283 (Int64.ofNat (t / 10)) (by decide) (ofL_div (by omega)) (zlstore X0 hx hby d39_284 (L' := (NL r ee d n (t / 10))) rfl ?_))))
    show zEnds p e below s T0 (mkF m 286 (NL r ee d n (t / 10)) []) _ _ _
    exact num_8 B X0 e0 (t / 10) (by omega) (pow_next ht)
theorem num_6 (B : NumB p s m meth c Z a0 h0 n0 cs d1 d2 o1 o2 vf r x xs ee d n) (X0 : Stand p l e ({ frames := 5, cells := 0, slots := 0, locals := 68 } : Room) s m args below meth c T0 [] 0 0) (e0 : T0.heap = h0) (t : Nat) (hT : t < 9223372036854775808) (ht : t = n / 10 ^ 6) : zEnds p e below s T0 (mkF m 208 (NL r ee d n t) []) cs_ ss_ (zSame (some (.int 1)) h0) := by
  obtain ⟨hw, hvf, S_vf, B1, hM, hn, hd1, he, hx_, hx, hZ, hby, hml, hown, hret, hlk, C, O0⟩ := id B
  obtain ⟨E_r, F_r_v, F_r_c, A_x⟩ := id B1
  show zEnds p e below s T0 (mkF m 208 (NL r ee d n (t)) []) _ _ _
  refine ziloadN X0 hx hby d39_208 rfl (zbipush X0 hx hby d39_209 (z := (6 : Int32)) rfl ?_)
  show zEnds p e below s T0 (mkF m 211 (NL r ee d n (t)) [(.int 6), (.int (Int32.ofNat (d)))]) _ _ _
  by_cases hj : 6 < d
  · refine zicmpNo X0 hx hby d39_211 (tlt (show Int32.ofNat (6) < (Int32.ofNat (d)) from by rw [zofN_lt (by omega) (by omega)]; omega)).2.2.2 (ziload X0 hx hby d39_214 rfl (zifNo X0 hx hby d39_216 (by decide) (zaloadN X0 hx hby d39_219 rfl rfl (ziloadN X0 hx hby d39_220 rfl (zbipush X0 hx hby d39_221 (z := (7 : Int32)) rfl (zisub X0 hx hby d39_223 (Int32.ofNat (ee - 7)) (zofN_sub (b := 7) (by omega)) (zlload X0 hx hby d39_224 rfl (zcalls X0 hx hby d39_226 hZ hown (w296 hw) (w297 hw) (w257 hw) (w298 hw) e0 (c_dig l hw  C O0 vf hvf S_vf r x (xs) ⟨E_r, F_r_v, F_r_c, A_x⟩ hM (ee - 7) (t) (by omega) (by rw [show ee - 7 = ee - (6 + 1) from by omega, ht]; exact hx_ 6 hj)) hml 0 pd_24 (argsL := [(.ref r), (.int (Int32.ofNat (ee - 7))), (.long (Int64.ofNat (t)))]) (st := []) (zpureK ⟨rfl, rfl⟩ fun T1 X1 e1 => ?_)))))))))
    refine zifNo X1 hx hby d39_229 (by decide) (ziconst X1 hx hby d39_232 (z := (1 : Int32)) rfl (zgoto X1 hx hby d39_233 237 (by decide) (by decide) (zistore X1 hx hby d39_237 (L' := (NL r ee d n (t))) rfl (zlload X1 hx hby d39_239 rfl (zldc2J X1 hx hby d39_241 (10 : Int64) hZ hown (w259 hw) (zldiv X1 hx hby d39_244 (Int64.ofNat (t / 10)) (by decide) (ofL_div (by omega)) (zlstore X1 hx hby d39_245 (L' := (NL r ee d n (t / 10))) rfl ?_)))))))
    show zEnds p e below s T1 (mkF m 247 (NL r ee d n (t / 10)) []) _ _ _
    exact num_7 B X1 e1 (t / 10) (by omega) (pow_next ht)
  · refine zicmpYes X0 hx hby d39_211 239 (flt (show ¬ (Int32.ofNat (6) < (Int32.ofNat (d))) from by rw [zofN_lt (by omega) (by omega)]; omega)).2.2.2 (by decide) (by decide) (zlload X0 hx hby d39_239 rfl (zldc2J X0 hx hby d39_241 (10 : Int64) hZ hown (w259 hw) (zldiv X0 hx hby d39_244 (Int64.ofNat (t / 10)) (by decide) (ofL_div (by omega)) (zlstore X0 hx hby d39_245 (L' := (NL r ee d n (t / 10))) rfl ?_))))
    show zEnds p e below s T0 (mkF m 247 (NL r ee d n (t / 10)) []) _ _ _
    exact num_7 B X0 e0 (t / 10) (by omega) (pow_next ht)
theorem num_5 (B : NumB p s m meth c Z a0 h0 n0 cs d1 d2 o1 o2 vf r x xs ee d n) (X0 : Stand p l e ({ frames := 5, cells := 0, slots := 0, locals := 68 } : Room) s m args below meth c T0 [] 0 0) (e0 : T0.heap = h0) (t : Nat) (hT : t < 9223372036854775808) (ht : t = n / 10 ^ 5) : zEnds p e below s T0 (mkF m 170 (NL r ee d n t) []) cs_ ss_ (zSame (some (.int 1)) h0) := by
  obtain ⟨hw, hvf, S_vf, B1, hM, hn, hd1, he, hx_, hx, hZ, hby, hml, hown, hret, hlk, C, O0⟩ := id B
  obtain ⟨E_r, F_r_v, F_r_c, A_x⟩ := id B1
  show zEnds p e below s T0 (mkF m 170 (NL r ee d n (t)) []) _ _ _
  refine ziloadN X0 hx hby d39_170 rfl (ziconst X0 hx hby d39_171 (z := (5 : Int32)) rfl ?_)
  show zEnds p e below s T0 (mkF m 172 (NL r ee d n (t)) [(.int 5), (.int (Int32.ofNat (d)))]) _ _ _
  by_cases hj : 5 < d
  · refine zicmpNo X0 hx hby d39_172 (tlt (show Int32.ofNat (5) < (Int32.ofNat (d)) from by rw [zofN_lt (by omega) (by omega)]; omega)).2.2.2 (ziload X0 hx hby d39_175 rfl (zifNo X0 hx hby d39_177 (by decide) (zaloadN X0 hx hby d39_180 rfl rfl (ziloadN X0 hx hby d39_181 rfl (zbipush X0 hx hby d39_182 (z := (6 : Int32)) rfl (zisub X0 hx hby d39_184 (Int32.ofNat (ee - 6)) (zofN_sub (b := 6) (by omega)) (zlload X0 hx hby d39_185 rfl (zcalls X0 hx hby d39_187 hZ hown (w296 hw) (w297 hw) (w257 hw) (w298 hw) e0 (c_dig l hw  C O0 vf hvf S_vf r x (xs) ⟨E_r, F_r_v, F_r_c, A_x⟩ hM (ee - 6) (t) (by omega) (by rw [show ee - 6 = ee - (5 + 1) from by omega, ht]; exact hx_ 5 hj)) hml 0 pd_24 (argsL := [(.ref r), (.int (Int32.ofNat (ee - 6))), (.long (Int64.ofNat (t)))]) (st := []) (zpureK ⟨rfl, rfl⟩ fun T1 X1 e1 => ?_)))))))))
    refine zifNo X1 hx hby d39_190 (by decide) (ziconst X1 hx hby d39_193 (z := (1 : Int32)) rfl (zgoto X1 hx hby d39_194 198 (by decide) (by decide) (zistore X1 hx hby d39_198 (L' := (NL r ee d n (t))) rfl (zlload X1 hx hby d39_200 rfl (zldc2J X1 hx hby d39_202 (10 : Int64) hZ hown (w259 hw) (zldiv X1 hx hby d39_205 (Int64.ofNat (t / 10)) (by decide) (ofL_div (by omega)) (zlstore X1 hx hby d39_206 (L' := (NL r ee d n (t / 10))) rfl ?_)))))))
    show zEnds p e below s T1 (mkF m 208 (NL r ee d n (t / 10)) []) _ _ _
    exact num_6 B X1 e1 (t / 10) (by omega) (pow_next ht)
  · refine zicmpYes X0 hx hby d39_172 200 (flt (show ¬ (Int32.ofNat (5) < (Int32.ofNat (d))) from by rw [zofN_lt (by omega) (by omega)]; omega)).2.2.2 (by decide) (by decide) (zlload X0 hx hby d39_200 rfl (zldc2J X0 hx hby d39_202 (10 : Int64) hZ hown (w259 hw) (zldiv X0 hx hby d39_205 (Int64.ofNat (t / 10)) (by decide) (ofL_div (by omega)) (zlstore X0 hx hby d39_206 (L' := (NL r ee d n (t / 10))) rfl ?_))))
    show zEnds p e below s T0 (mkF m 208 (NL r ee d n (t / 10)) []) _ _ _
    exact num_6 B X0 e0 (t / 10) (by omega) (pow_next ht)
theorem num_4 (B : NumB p s m meth c Z a0 h0 n0 cs d1 d2 o1 o2 vf r x xs ee d n) (X0 : Stand p l e ({ frames := 5, cells := 0, slots := 0, locals := 68 } : Room) s m args below meth c T0 [] 0 0) (e0 : T0.heap = h0) (t : Nat) (hT : t < 9223372036854775808) (ht : t = n / 10 ^ 4) : zEnds p e below s T0 (mkF m 133 (NL r ee d n t) []) cs_ ss_ (zSame (some (.int 1)) h0) := by
  obtain ⟨hw, hvf, S_vf, B1, hM, hn, hd1, he, hx_, hx, hZ, hby, hml, hown, hret, hlk, C, O0⟩ := id B
  obtain ⟨E_r, F_r_v, F_r_c, A_x⟩ := id B1
  show zEnds p e below s T0 (mkF m 133 (NL r ee d n (t)) []) _ _ _
  refine ziloadN X0 hx hby d39_133 rfl (ziconst X0 hx hby d39_134 (z := (4 : Int32)) rfl ?_)
  show zEnds p e below s T0 (mkF m 135 (NL r ee d n (t)) [(.int 4), (.int (Int32.ofNat (d)))]) _ _ _
  by_cases hj : 4 < d
  · refine zicmpNo X0 hx hby d39_135 (tlt (show Int32.ofNat (4) < (Int32.ofNat (d)) from by rw [zofN_lt (by omega) (by omega)]; omega)).2.2.2 (ziload X0 hx hby d39_138 rfl (zifNo X0 hx hby d39_140 (by decide) (zaloadN X0 hx hby d39_143 rfl rfl (ziloadN X0 hx hby d39_144 rfl (ziconst X0 hx hby d39_145 (z := (5 : Int32)) rfl (zisub X0 hx hby d39_146 (Int32.ofNat (ee - 5)) (zofN_sub (b := 5) (by omega)) (zlload X0 hx hby d39_147 rfl (zcalls X0 hx hby d39_149 hZ hown (w296 hw) (w297 hw) (w257 hw) (w298 hw) e0 (c_dig l hw  C O0 vf hvf S_vf r x (xs) ⟨E_r, F_r_v, F_r_c, A_x⟩ hM (ee - 5) (t) (by omega) (by rw [show ee - 5 = ee - (4 + 1) from by omega, ht]; exact hx_ 4 hj)) hml 0 pd_24 (argsL := [(.ref r), (.int (Int32.ofNat (ee - 5))), (.long (Int64.ofNat (t)))]) (st := []) (zpureK ⟨rfl, rfl⟩ fun T1 X1 e1 => ?_)))))))))
    refine zifNo X1 hx hby d39_152 (by decide) (ziconst X1 hx hby d39_155 (z := (1 : Int32)) rfl (zgoto X1 hx hby d39_156 160 (by decide) (by decide) (zistore X1 hx hby d39_160 (L' := (NL r ee d n (t))) rfl (zlload X1 hx hby d39_162 rfl (zldc2J X1 hx hby d39_164 (10 : Int64) hZ hown (w259 hw) (zldiv X1 hx hby d39_167 (Int64.ofNat (t / 10)) (by decide) (ofL_div (by omega)) (zlstore X1 hx hby d39_168 (L' := (NL r ee d n (t / 10))) rfl ?_)))))))
    show zEnds p e below s T1 (mkF m 170 (NL r ee d n (t / 10)) []) _ _ _
    exact num_5 B X1 e1 (t / 10) (by omega) (pow_next ht)
  · refine zicmpYes X0 hx hby d39_135 162 (flt (show ¬ (Int32.ofNat (4) < (Int32.ofNat (d))) from by rw [zofN_lt (by omega) (by omega)]; omega)).2.2.2 (by decide) (by decide) (zlload X0 hx hby d39_162 rfl (zldc2J X0 hx hby d39_164 (10 : Int64) hZ hown (w259 hw) (zldiv X0 hx hby d39_167 (Int64.ofNat (t / 10)) (by decide) (ofL_div (by omega)) (zlstore X0 hx hby d39_168 (L' := (NL r ee d n (t / 10))) rfl ?_))))
    show zEnds p e below s T0 (mkF m 170 (NL r ee d n (t / 10)) []) _ _ _
    exact num_5 B X0 e0 (t / 10) (by omega) (pow_next ht)
theorem num_3 (B : NumB p s m meth c Z a0 h0 n0 cs d1 d2 o1 o2 vf r x xs ee d n) (X0 : Stand p l e ({ frames := 5, cells := 0, slots := 0, locals := 68 } : Room) s m args below meth c T0 [] 0 0) (e0 : T0.heap = h0) (t : Nat) (hT : t < 9223372036854775808) (ht : t = n / 10 ^ 3) : zEnds p e below s T0 (mkF m 96 (NL r ee d n t) []) cs_ ss_ (zSame (some (.int 1)) h0) := by
  obtain ⟨hw, hvf, S_vf, B1, hM, hn, hd1, he, hx_, hx, hZ, hby, hml, hown, hret, hlk, C, O0⟩ := id B
  obtain ⟨E_r, F_r_v, F_r_c, A_x⟩ := id B1
  show zEnds p e below s T0 (mkF m 96 (NL r ee d n (t)) []) _ _ _
  refine ziloadN X0 hx hby d39_96 rfl (ziconst X0 hx hby d39_97 (z := (3 : Int32)) rfl ?_)
  show zEnds p e below s T0 (mkF m 98 (NL r ee d n (t)) [(.int 3), (.int (Int32.ofNat (d)))]) _ _ _
  by_cases hj : 3 < d
  · refine zicmpNo X0 hx hby d39_98 (tlt (show Int32.ofNat (3) < (Int32.ofNat (d)) from by rw [zofN_lt (by omega) (by omega)]; omega)).2.2.2 (ziload X0 hx hby d39_101 rfl (zifNo X0 hx hby d39_103 (by decide) (zaloadN X0 hx hby d39_106 rfl rfl (ziloadN X0 hx hby d39_107 rfl (ziconst X0 hx hby d39_108 (z := (4 : Int32)) rfl (zisub X0 hx hby d39_109 (Int32.ofNat (ee - 4)) (zofN_sub (b := 4) (by omega)) (zlload X0 hx hby d39_110 rfl (zcalls X0 hx hby d39_112 hZ hown (w296 hw) (w297 hw) (w257 hw) (w298 hw) e0 (c_dig l hw  C O0 vf hvf S_vf r x (xs) ⟨E_r, F_r_v, F_r_c, A_x⟩ hM (ee - 4) (t) (by omega) (by rw [show ee - 4 = ee - (3 + 1) from by omega, ht]; exact hx_ 3 hj)) hml 0 pd_24 (argsL := [(.ref r), (.int (Int32.ofNat (ee - 4))), (.long (Int64.ofNat (t)))]) (st := []) (zpureK ⟨rfl, rfl⟩ fun T1 X1 e1 => ?_)))))))))
    refine zifNo X1 hx hby d39_115 (by decide) (ziconst X1 hx hby d39_118 (z := (1 : Int32)) rfl (zgoto X1 hx hby d39_119 123 (by decide) (by decide) (zistore X1 hx hby d39_123 (L' := (NL r ee d n (t))) rfl (zlload X1 hx hby d39_125 rfl (zldc2J X1 hx hby d39_127 (10 : Int64) hZ hown (w259 hw) (zldiv X1 hx hby d39_130 (Int64.ofNat (t / 10)) (by decide) (ofL_div (by omega)) (zlstore X1 hx hby d39_131 (L' := (NL r ee d n (t / 10))) rfl ?_)))))))
    show zEnds p e below s T1 (mkF m 133 (NL r ee d n (t / 10)) []) _ _ _
    exact num_4 B X1 e1 (t / 10) (by omega) (pow_next ht)
  · refine zicmpYes X0 hx hby d39_98 125 (flt (show ¬ (Int32.ofNat (3) < (Int32.ofNat (d))) from by rw [zofN_lt (by omega) (by omega)]; omega)).2.2.2 (by decide) (by decide) (zlload X0 hx hby d39_125 rfl (zldc2J X0 hx hby d39_127 (10 : Int64) hZ hown (w259 hw) (zldiv X0 hx hby d39_130 (Int64.ofNat (t / 10)) (by decide) (ofL_div (by omega)) (zlstore X0 hx hby d39_131 (L' := (NL r ee d n (t / 10))) rfl ?_))))
    show zEnds p e below s T0 (mkF m 133 (NL r ee d n (t / 10)) []) _ _ _
    exact num_4 B X0 e0 (t / 10) (by omega) (pow_next ht)
theorem num_2 (B : NumB p s m meth c Z a0 h0 n0 cs d1 d2 o1 o2 vf r x xs ee d n) (X0 : Stand p l e ({ frames := 5, cells := 0, slots := 0, locals := 68 } : Room) s m args below meth c T0 [] 0 0) (e0 : T0.heap = h0) (t : Nat) (hT : t < 9223372036854775808) (ht : t = n / 10 ^ 2) : zEnds p e below s T0 (mkF m 59 (NL r ee d n t) []) cs_ ss_ (zSame (some (.int 1)) h0) := by
  obtain ⟨hw, hvf, S_vf, B1, hM, hn, hd1, he, hx_, hx, hZ, hby, hml, hown, hret, hlk, C, O0⟩ := id B
  obtain ⟨E_r, F_r_v, F_r_c, A_x⟩ := id B1
  show zEnds p e below s T0 (mkF m 59 (NL r ee d n (t)) []) _ _ _
  refine ziloadN X0 hx hby d39_59 rfl (ziconst X0 hx hby d39_60 (z := (2 : Int32)) rfl ?_)
  show zEnds p e below s T0 (mkF m 61 (NL r ee d n (t)) [(.int 2), (.int (Int32.ofNat (d)))]) _ _ _
  by_cases hj : 2 < d
  · refine zicmpNo X0 hx hby d39_61 (tlt (show Int32.ofNat (2) < (Int32.ofNat (d)) from by rw [zofN_lt (by omega) (by omega)]; omega)).2.2.2 (ziload X0 hx hby d39_64 rfl (zifNo X0 hx hby d39_66 (by decide) (zaloadN X0 hx hby d39_69 rfl rfl (ziloadN X0 hx hby d39_70 rfl (ziconst X0 hx hby d39_71 (z := (3 : Int32)) rfl (zisub X0 hx hby d39_72 (Int32.ofNat (ee - 3)) (zofN_sub (b := 3) (by omega)) (zlload X0 hx hby d39_73 rfl (zcalls X0 hx hby d39_75 hZ hown (w296 hw) (w297 hw) (w257 hw) (w298 hw) e0 (c_dig l hw  C O0 vf hvf S_vf r x (xs) ⟨E_r, F_r_v, F_r_c, A_x⟩ hM (ee - 3) (t) (by omega) (by rw [show ee - 3 = ee - (2 + 1) from by omega, ht]; exact hx_ 2 hj)) hml 0 pd_24 (argsL := [(.ref r), (.int (Int32.ofNat (ee - 3))), (.long (Int64.ofNat (t)))]) (st := []) (zpureK ⟨rfl, rfl⟩ fun T1 X1 e1 => ?_)))))))))
    refine zifNo X1 hx hby d39_78 (by decide) (ziconst X1 hx hby d39_81 (z := (1 : Int32)) rfl (zgoto X1 hx hby d39_82 86 (by decide) (by decide) (zistore X1 hx hby d39_86 (L' := (NL r ee d n (t))) rfl (zlload X1 hx hby d39_88 rfl (zldc2J X1 hx hby d39_90 (10 : Int64) hZ hown (w259 hw) (zldiv X1 hx hby d39_93 (Int64.ofNat (t / 10)) (by decide) (ofL_div (by omega)) (zlstore X1 hx hby d39_94 (L' := (NL r ee d n (t / 10))) rfl ?_)))))))
    show zEnds p e below s T1 (mkF m 96 (NL r ee d n (t / 10)) []) _ _ _
    exact num_3 B X1 e1 (t / 10) (by omega) (pow_next ht)
  · refine zicmpYes X0 hx hby d39_61 88 (flt (show ¬ (Int32.ofNat (2) < (Int32.ofNat (d))) from by rw [zofN_lt (by omega) (by omega)]; omega)).2.2.2 (by decide) (by decide) (zlload X0 hx hby d39_88 rfl (zldc2J X0 hx hby d39_90 (10 : Int64) hZ hown (w259 hw) (zldiv X0 hx hby d39_93 (Int64.ofNat (t / 10)) (by decide) (ofL_div (by omega)) (zlstore X0 hx hby d39_94 (L' := (NL r ee d n (t / 10))) rfl ?_))))
    show zEnds p e below s T0 (mkF m 96 (NL r ee d n (t / 10)) []) _ _ _
    exact num_3 B X0 e0 (t / 10) (by omega) (pow_next ht)
theorem num_1 (B : NumB p s m meth c Z a0 h0 n0 cs d1 d2 o1 o2 vf r x xs ee d n) (X0 : Stand p l e ({ frames := 5, cells := 0, slots := 0, locals := 68 } : Room) s m args below meth c T0 [] 0 0) (e0 : T0.heap = h0) (t : Nat) (hT : t < 9223372036854775808) (ht : t = n / 10 ^ 1) : zEnds p e below s T0 (mkF m 22 (NL r ee d n t) []) cs_ ss_ (zSame (some (.int 1)) h0) := by
  obtain ⟨hw, hvf, S_vf, B1, hM, hn, hd1, he, hx_, hx, hZ, hby, hml, hown, hret, hlk, C, O0⟩ := id B
  obtain ⟨E_r, F_r_v, F_r_c, A_x⟩ := id B1
  show zEnds p e below s T0 (mkF m 22 (NL r ee d n (t)) []) _ _ _
  refine ziloadN X0 hx hby d39_22 rfl (ziconst X0 hx hby d39_23 (z := (1 : Int32)) rfl ?_)
  show zEnds p e below s T0 (mkF m 24 (NL r ee d n (t)) [(.int 1), (.int (Int32.ofNat (d)))]) _ _ _
  by_cases hj : 1 < d
  · refine zicmpNo X0 hx hby d39_24 (tlt (show Int32.ofNat (1) < (Int32.ofNat (d)) from by rw [zofN_lt (by omega) (by omega)]; omega)).2.2.2 (ziload X0 hx hby d39_27 rfl (zifNo X0 hx hby d39_29 (by decide) (zaloadN X0 hx hby d39_32 rfl rfl (ziloadN X0 hx hby d39_33 rfl (ziconst X0 hx hby d39_34 (z := (2 : Int32)) rfl (zisub X0 hx hby d39_35 (Int32.ofNat (ee - 2)) (zofN_sub (b := 2) (by omega)) (zlload X0 hx hby d39_36 rfl (zcalls X0 hx hby d39_38 hZ hown (w296 hw) (w297 hw) (w257 hw) (w298 hw) e0 (c_dig l hw  C O0 vf hvf S_vf r x (xs) ⟨E_r, F_r_v, F_r_c, A_x⟩ hM (ee - 2) (t) (by omega) (by rw [show ee - 2 = ee - (1 + 1) from by omega, ht]; exact hx_ 1 hj)) hml 0 pd_24 (argsL := [(.ref r), (.int (Int32.ofNat (ee - 2))), (.long (Int64.ofNat (t)))]) (st := []) (zpureK ⟨rfl, rfl⟩ fun T1 X1 e1 => ?_)))))))))
    refine zifNo X1 hx hby d39_41 (by decide) (ziconst X1 hx hby d39_44 (z := (1 : Int32)) rfl (zgoto X1 hx hby d39_45 49 (by decide) (by decide) (zistore X1 hx hby d39_49 (L' := (NL r ee d n (t))) rfl (zlload X1 hx hby d39_51 rfl (zldc2J X1 hx hby d39_53 (10 : Int64) hZ hown (w259 hw) (zldiv X1 hx hby d39_56 (Int64.ofNat (t / 10)) (by decide) (ofL_div (by omega)) (zlstore X1 hx hby d39_57 (L' := (NL r ee d n (t / 10))) rfl ?_)))))))
    show zEnds p e below s T1 (mkF m 59 (NL r ee d n (t / 10)) []) _ _ _
    exact num_2 B X1 e1 (t / 10) (by omega) (pow_next ht)
  · refine zicmpYes X0 hx hby d39_24 51 (flt (show ¬ (Int32.ofNat (1) < (Int32.ofNat (d))) from by rw [zofN_lt (by omega) (by omega)]; omega)).2.2.2 (by decide) (by decide) (zlload X0 hx hby d39_51 rfl (zldc2J X0 hx hby d39_53 (10 : Int64) hZ hown (w259 hw) (zldiv X0 hx hby d39_56 (Int64.ofNat (t / 10)) (by decide) (ofL_div (by omega)) (zlstore X0 hx hby d39_57 (L' := (NL r ee d n (t / 10))) rfl ?_))))
    show zEnds p e below s T0 (mkF m 59 (NL r ee d n (t / 10)) []) _ _ _
    exact num_2 B X0 e0 (t / 10) (by omega) (pow_next ht)
end Num
theorem c_num (hw : HW a0 Z) (C : Ctx Z cs d1 d2 o1 o2) (O0 : zOd Z n0 h0) (vf : Value) (hvf : vf = .null ∨ ∃ a, vf = .ref a) (S_vf : Sta Z Z.heap "jdk/internal/util/Preconditions" "SIOOBE_FORMATTER" "Ljava/util/function/BiFunction;" vf) (r x : Addr) (xs : List Int8) (B1 : Sx Z h0 r x xs) (hM : xs.length < 1000000) (ee d n : Nat) (hn : n < 9223372036854775808) (hd1 : d ≤ ee) (he : ee < 1000000) (hx_ : ∀ i, i < d → xs[ee - (i + 1)]? = some (dg (n / 10 ^ i % 10))) (hd0 : 0 < d) : zCon l Z (⟨"com/example/kick/kick/value/CloseReportToStringPinLaw", "num", "(Ljava/lang/String;IIJ)Z"⟩ : MethodName) method_6_code 8 (some .boolean) [] ({ frames := 5, cells := 0, slots := 0, locals := 68 } : Room) #[(.ref r), (.int (Int32.ofNat (ee))), (.int (Int32.ofNat (d))), (.long (Int64.ofNat (n)))] h0 (zSame (some (.int 1)) h0) := by
  refine zenter (plainFor_of_name pn_8) (L0 := #[rv r, iv (Int32.ofNat (ee)), iv (Int32.ofNat (d)), .val (.long (Int64.ofNat (n))), .second, .unset, .unset, .unset]) (H := ?_)
  intro p e s m below meth c T0 hx hZ hby hml hown0 hnm hret hlk X0 e0
  have hown : s.vm.findClass "com/example/kick/kick/value/CloseReportToStringPinLaw" = some m.cls := hown0
  obtain ⟨E_r, F_r_v, F_r_c, A_x⟩ := id B1
  show zEnds p e below s T0 (mkF m 0 #[rv r, iv (Int32.ofNat (ee)), iv (Int32.ofNat (d)), .val (.long (Int64.ofNat (n))), .second, .unset, .unset, .unset] []) _ _ _
  refine zlloadN X0 hx hby d39_0 rfl (zlstore X0 hx hby d39_1 (L' := #[rv r, iv (Int32.ofNat (ee)), iv (Int32.ofNat (d)), .val (.long (Int64.ofNat (n))), .second, .val (.long (Int64.ofNat (n))), .second, .unset]) rfl (zaloadN X0 hx hby d39_3 rfl rfl (ziloadN X0 hx hby d39_4 rfl (ziconst X0 hx hby d39_5 (z := (1 : Int32)) rfl (zisub X0 hx hby d39_6 (Int32.ofNat (ee - 1)) (zofN_sub (b := 1) (by omega)) (zlload X0 hx hby d39_7 rfl (zcalls X0 hx hby d39_9 hZ hown (w296 hw) (w297 hw) (w257 hw) (w298 hw) e0 (c_dig l hw  C O0 vf hvf S_vf r x (xs) ⟨E_r, F_r_v, F_r_c, A_x⟩ hM (ee - 1) (n) (by omega) (by have q := hx_ 0 (by omega); rw [Nat.pow_zero, Nat.div_one] at q; exact q)) hml 0 pd_24 (argsL := [(.ref r), (.int (Int32.ofNat (ee - 1))), (.long (Int64.ofNat (n)))]) (st := []) (zpureK ⟨rfl, rfl⟩ fun T1 X1 e1 => ?_))))))))
  refine zistore X1 hx hby d39_12 (L' := #[rv r, iv (Int32.ofNat (ee)), iv (Int32.ofNat (d)), .val (.long (Int64.ofNat (n))), .second, .val (.long (Int64.ofNat (n))), .second, iv 1]) rfl (zlload X1 hx hby d39_14 rfl (zldc2J X1 hx hby d39_16 (10 : Int64) hZ hown (w259 hw) (zldiv X1 hx hby d39_19 (Int64.ofNat (n / 10)) (by decide) (ofL_div (by omega)) (zlstore X1 hx hby d39_20 (L' := #[rv r, iv (Int32.ofNat (ee)), iv (Int32.ofNat (d)), .val (.long (Int64.ofNat (n))), .second, .val (.long (Int64.ofNat (n / 10))), .second, iv 1]) rfl ?_))))
  show zEnds p e below s T1 (mkF m 22 #[rv r, iv (Int32.ofNat (ee)), iv (Int32.ofNat (d)), .val (.long (Int64.ofNat (n))), .second, .val (.long (Int64.ofNat (n / 10))), .second, iv 1] []) _ _ _
  exact num_1 ⟨hw, hvf, S_vf, B1, hM, hn, hd1, he, hx_, hx, hZ, hby, hml, hown, hret, hlk, C, O0⟩ X1 e1 (n / 10) (by omega) (by rw [Nat.pow_one])
theorem w306 (hw : HW a0 Z) : (Cond.methodLink "java/lang/String" 1015 ⟨"java/lang/StringLatin1", "canEncode", "(C)Z"⟩).before a0 Z = true := hwi hw 306 rfl
theorem w307 (hw : HW a0 Z) : (Cond.static ⟨"java/lang/StringLatin1", "canEncode", "(C)Z"⟩).before a0 Z = true := hwi hw 307 rfl
theorem w308 (hw : HW a0 Z) : (Cond.code ⟨"java/lang/StringLatin1", "canEncode", "(C)Z"⟩ jdk_43_method_3_code 1 (Option.some FieldType.boolean)).before a0 Z = true := hwi hw 308 rfl
theorem w309 (hw : HW a0 Z) : (Cond.classLink "java/lang/String" 10 "java/lang/String").before a0 Z = true := hwi hw 309 rfl
theorem w310 (hw : HW a0 Z) : (Cond.methodLink "java/lang/String" 1018 ⟨"java/lang/StringLatin1", "toBytes", "(C)[B"⟩).before a0 Z = true := hwi hw 310 rfl
theorem w311 (hw : HW a0 Z) : (Cond.static ⟨"java/lang/StringLatin1", "toBytes", "(C)[B"⟩).before a0 Z = true := hwi hw 311 rfl
theorem w312 (hw : HW a0 Z) : (Cond.code ⟨"java/lang/StringLatin1", "toBytes", "(C)[B"⟩ jdk_43_method_46_code 1 (Option.some (FieldType.array FieldType.byte))).before a0 Z = true := hwi hw 312 rfl
theorem w313 (hw : HW a0 Z) : (Cond.methodLink "java/lang/String" 209 ⟨"java/lang/String", "<init>", "([BB)V"⟩).before a0 Z = true := hwi hw 313 rfl
theorem w314 (hw : HW a0 Z) : (Cond.instanceMethod ⟨"java/lang/String", "<init>", "([BB)V"⟩).before a0 Z = true := hwi hw 314 rfl
theorem w315 (hw : HW a0 Z) : (Cond.code ⟨"java/lang/String", "<init>", "([BB)V"⟩ jdk_42_method_151_code 3 (Option.none : Option Jvm.ClassFile.FieldType)).before a0 Z = true := hwi hw 315 rfl
theorem d43_0 : decode jdk_42_method_139_code 0 = .ok (.getstatic 38, 3) := by decide +kernel
theorem d43_3 : decode jdk_42_method_139_code 3 = .ok (.ifCond .eq 23, 3) := by decide +kernel
theorem d43_6 : decode jdk_42_method_139_code 6 = .ok (.iload_n 0, 1) := by decide +kernel
theorem d43_7 : decode jdk_42_method_139_code 7 = .ok (.invokestatic 1015, 3) := by decide +kernel
theorem d43_10 : decode jdk_42_method_139_code 10 = .ok (.ifCond .eq 16, 3) := by decide +kernel
theorem d43_13 : decode jdk_42_method_139_code 13 = .ok (.new 10, 3) := by decide +kernel
theorem d43_16 : decode jdk_42_method_139_code 16 = .ok (.dup, 1) := by decide +kernel
theorem d43_17 : decode jdk_42_method_139_code 17 = .ok (.iload_n 0, 1) := by decide +kernel
theorem d43_18 : decode jdk_42_method_139_code 18 = .ok (.invokestatic 1018, 3) := by decide +kernel
theorem d43_21 : decode jdk_42_method_139_code 21 = .ok (.iconst 0, 1) := by decide +kernel
theorem d43_22 : decode jdk_42_method_139_code 22 = .ok (.invokespecial 209, 3) := by decide +kernel
theorem d43_25 : decode jdk_42_method_139_code 25 = .ok (.areturn, 1) := by decide +kernel
theorem d42_0 : decode jdk_42_method_151_code 0 = .ok (.aload_n 0, 1) := by decide +kernel
theorem d42_1 : decode jdk_42_method_151_code 1 = .ok (.invokespecial 1, 3) := by decide +kernel
theorem d42_4 : decode jdk_42_method_151_code 4 = .ok (.aload_n 0, 1) := by decide +kernel
theorem d42_5 : decode jdk_42_method_151_code 5 = .ok (.aload_n 1, 1) := by decide +kernel
theorem d42_6 : decode jdk_42_method_151_code 6 = .ok (.putfield 9, 3) := by decide +kernel
theorem d42_9 : decode jdk_42_method_151_code 9 = .ok (.aload_n 0, 1) := by decide +kernel
theorem d42_10 : decode jdk_42_method_151_code 10 = .ok (.iload_n 2, 1) := by decide +kernel
theorem d42_11 : decode jdk_42_method_151_code 11 = .ok (.putfield 15, 3) := by decide +kernel
theorem d42_14 : decode jdk_42_method_151_code 14 = .ok (.return_, 1) := by decide +kernel
theorem d40_0 : decode jdk_43_method_3_code 0 = .ok (.iload_n 0, 1) := by decide +kernel
theorem d40_1 : decode jdk_43_method_3_code 1 = .ok (.sipush 255, 3) := by decide +kernel
theorem d40_4 : decode jdk_43_method_3_code 4 = .ok (.if_icmp .gt 7, 3) := by decide +kernel
theorem d40_7 : decode jdk_43_method_3_code 7 = .ok (.iconst 1, 1) := by decide +kernel
theorem d40_8 : decode jdk_43_method_3_code 8 = .ok (.goto 4, 3) := by decide +kernel
theorem d40_12 : decode jdk_43_method_3_code 12 = .ok (.ireturn, 1) := by decide +kernel
theorem d41_0 : decode jdk_43_method_46_code 0 = .ok (.iconst 1, 1) := by decide +kernel
theorem d41_1 : decode jdk_43_method_46_code 1 = .ok (.newarray .byte, 2) := by decide +kernel
theorem d41_3 : decode jdk_43_method_46_code 3 = .ok (.dup, 1) := by decide +kernel
theorem d41_4 : decode jdk_43_method_46_code 4 = .ok (.iconst 0, 1) := by decide +kernel
theorem d41_5 : decode jdk_43_method_46_code 5 = .ok (.iload_n 0, 1) := by decide +kernel
theorem d41_6 : decode jdk_43_method_46_code 6 = .ok (.i2b, 1) := by decide +kernel
theorem d41_7 : decode jdk_43_method_46_code 7 = .ok (.bastore, 1) := by decide +kernel
theorem d41_8 : decode jdk_43_method_46_code 8 = .ok (.areturn, 1) := by decide +kernel
theorem pd_25 : parseMethodDescriptor "(C)Z" = some ⟨[.char], some .boolean⟩ := by decide +kernel
theorem pd_26 : parseMethodDescriptor "(C)[B" = some ⟨[.char], some (.array .byte)⟩ := by decide +kernel
theorem pd_27 : parseMethodDescriptor "([BB)V" = some ⟨[(.array .byte), .byte], none⟩ := by decide +kernel
theorem c_enc (hw : HW a0 Z) (C : Ctx Z cs d1 d2 o1 o2) (O0 : zOd Z n0 h0) (k : Nat) (hk : k < 256) : zCon l Z (⟨"java/lang/StringLatin1", "canEncode", "(C)Z"⟩ : MethodName) jdk_43_method_3_code 1 (some .boolean) [] ({ frames := 0, cells := 0, slots := 0, locals := 0 } : Room) #[(.int (Int32.ofNat (k)))] h0 (zSame (some (.int 1)) h0) := by
  refine zenter (plainFor_of_name pn_7) (L0 := #[iv (Int32.ofNat (k))]) (H := ?_)
  intro p e s m below meth c T0 hx hZ hby hml hown0 hnm hret hlk X0 e0
  have hown : s.vm.findClass "java/lang/StringLatin1" = some m.cls := hown0
  show zEnds p e below s T0 (mkF m 0 #[iv (Int32.ofNat (k))] []) _ _ _
  refine ziloadN X0 hx hby d40_0 rfl (zsipush X0 hx hby d40_1 (z := (255 : Int32)) rfl (zicmpNo X0 hx hby d40_4 (flt (show ¬ (Int32.ofNat (255) < (Int32.ofNat (k))) from by rw [zofN_lt (by omega) (by omega)]; omega)).2.2.1 (ziconst X0 hx hby d40_7 (z := (1 : Int32)) rfl (zgoto X0 hx hby d40_8 12 (by decide) (by decide) ?_))))
  show zEnds p e below s T0 (mkF m 12 #[iv (Int32.ofNat (k))] [(.int 1)]) _ _ _
  exact zretZ X0 hx hby d40_12 hret hlk (by simp) rfl (by first | decide | omega | (dsimp only; omega)) (by first | decide | omega | (dsimp only; omega)) (⟨rfl, e0, rfl⟩)
theorem c_tob (hw : HW a0 Z) (C : Ctx Z cs d1 d2 o1 o2) (O0 : zOd Z n0 h0) (k : Nat) : zCon l Z (⟨"java/lang/StringLatin1", "toBytes", "(C)[B"⟩ : MethodName) jdk_43_method_46_code 1 (some (.array .byte)) [] ({ frames := 0, cells := 1, slots := 1, locals := 0 } : Room) #[(.int (Int32.ofNat (k)))] h0 (fun v h L => ∃ b2 : Addr, v = some (.ref b2) ∧ Fr n0 L ∧ Keep h0 h [] ∧ h0.size ≤ b2 ∧ n0 ≤ b2 ∧ Exa Z h b2 "[B") := by
  refine zenter (plainFor_of_name pn_7) (L0 := #[iv (Int32.ofNat (k))]) (H := ?_)
  intro p e s m below meth c T0 hx hZ hby hml hown0 hnm hret hlk X0 e0
  have hown : s.vm.findClass "java/lang/StringLatin1" = some m.cls := hown0
  have K0 := Keep.refl h0 []
  have N0 := Fr.nil n0
  show zEnds p e below s T0 (mkF m 0 #[iv (Int32.ofNat (k))] []) _ _ _
  refine ziconst X0 hx hby d41_0 (z := (1 : Int32)) rfl (znewB X0 hx hby d41_1 hZ (w89 hw) e0 (n := 1) (by decide) (by first | decide | omega | (dsimp only; omega)) (by first | decide | omega | (dsimp only; omega)) fun T1 h1 b1 X1 e1 y1 Ex1 E1_b1 A1_b1 => ?_)
  have K1 := Keep.ext K0 Ex1
  have g1 : n0 ≤ b1 := by rw [y1]; exact zodsz O0
  have z1 : h0.size ≤ b1 := by rw [y1]; exact K0.1
  refine zdup X1 hx hby d41_3 rfl (ziconst X1 hx hby d41_4 (z := (0 : Int32)) rfl (ziloadN X1 hx hby d41_5 rfl (zi2b X1 hx hby d41_6 ((Int32.ofNat (k)).toInt8.toInt32) rfl (zbastoreB X1 hx hby d41_7 hZ e1 A1_b1 (i := 0) (by omega) (by first | omega | decide | (simp only [List.length_set]; omega)) _ (Int32.ofNat (k)).toInt8 (nar_b _) fun T2 h2 X2 e2 W2 A2_b1 => ?_))))
  have E2_b1 := E1_b1.wr W2
  have K2 := Keep.wr K1 W2 (Or.inr z1)
  have N2 := Fr.snoc X2 N0 g1
  show zEnds p e below s T2 (mkF m 8 #[iv (Int32.ofNat (k))] [(.ref b1)]) _ _ _
  exact zretA X2 hx hby d41_8 hret hlk rfl rfl rfl (by first | decide | omega | (dsimp only; omega)) (by first | decide | omega | (dsimp only; omega)) (by rw [e2]; exact ⟨b1, rfl, N2, K2, z1, g1, E2_b1⟩)
theorem c_strb (hw : HW a0 Z) (C : Ctx Z cs d1 d2 o1 o2) (O0 : zOd Z n0 h0) (t : Addr) (E_t : Exa Z h0 t "java/lang/String") (F_t_v : Fld Z h0 t "java/lang/String" "value" "[B" .null) (F_t_c : Fld Z h0 t "java/lang/String" "coder" "B" (.int 0)) (g_t : n0 ≤ t) (b : Addr) : zCon l Z (⟨"java/lang/String", "<init>", "([BB)V"⟩ : MethodName) jdk_42_method_151_code 3 none [] ({ frames := 1, cells := 0, slots := 0, locals := 12 } : Room) #[(.ref t), (.ref b), (.int 0)] h0 (fun v h L => v = none ∧ Fr n0 L ∧ Keep h0 h [t] ∧ Exa Z h t "java/lang/String") := by
  refine zenter (plainFor_of_name pn_0) (L0 := #[rv t, rv b, iv 0]) (H := ?_)
  intro p e s m below meth c T0 hx hZ hby hml hown0 hnm hret hlk X0 e0
  have hown : s.vm.findClass "java/lang/String" = some m.cls := hown0
  have K0 := Keep.refl h0 [t]
  have N0 := Fr.nil n0
  show zEnds p e below s T0 (mkF m 0 #[rv t, rv b, iv 0] []) _ _ _
  refine zaloadN X0 hx hby d42_0 rfl rfl (zobjinit X0 hx hby d42_1 hZ hown (w231 hw) (w20 hw) (w21 hw) e0 hml 0 (fun T1 X1 e1 => ?_))
  refine zaloadN X1 hx hby d42_4 rfl rfl (zaloadN X1 hx hby d42_5 rfl rfl (zputfld X1 hx hby d42_6 hZ hown (host := "") (Or.inl (w115 hw)) Via.refl e1 F_t_v E_t (Or.inr ⟨(w96 hw), rfl, hnm⟩) (w95 hw) (ty := (.array .byte)) (by decide) rfl rfl fun T2 h2 X2 e2 W2 => ?_))
  have F2_t_coder := F_t_c.other W2 (Or.inr (slot_ne (Or.inr (w97 hw)) (Or.inr (w96 hw)) (by decide) (t := .byte) (t' := (.array .byte)) (by decide) (by decide)))
  have E2_t := E_t.wr W2
  have K2 := Keep.wr K0 W2 (Or.inl (List.mem_of_getElem? (i := 0) rfl))
  have N2 := Fr.snoc X2 N0 g_t
  refine zaloadN X2 hx hby d42_9 rfl rfl (ziloadN X2 hx hby d42_10 rfl (zputfld X2 hx hby d42_11 hZ hown (host := "") (Or.inl (w122 hw)) Via.refl e2 F2_t_coder E2_t (Or.inr ⟨(w97 hw), rfl, hnm⟩) (w95 hw) (ty := .byte) (by decide) rfl rfl fun T3 h3 X3 e3 W3 => ?_))
  have E3_t := E2_t.wr W3
  have K3 := Keep.wr K2 W3 (Or.inl (List.mem_of_getElem? (i := 0) rfl))
  have N3 := Fr.snoc X3 N2 g_t
  show zEnds p e below s T3 (mkF m 14 #[rv t, rv b, iv 0] []) _ _ _
  exact zretV X3 hx hby d42_14 hret hlk (by first | decide | omega | (dsimp only; omega)) (by first | decide | omega | (dsimp only; omega)) (by rw [e3]; exact ⟨rfl, N3, K3, E3_t⟩)
theorem c_valof (hw : HW a0 Z) (C : Ctx Z cs d1 d2 o1 o2) (O0 : zOd Z n0 h0) (k : Nat) (hk : k < 256) : zCon l Z (⟨"java/lang/String", "valueOf", "(C)Ljava/lang/String;"⟩ : MethodName) jdk_42_method_139_code 1 (some (.object "java/lang/String")) [] ({ frames := 2, cells := 2, slots := 5, locals := 27 } : Room) #[(.int (Int32.ofNat (k)))] h0 (fun v h L => ∃ b2 : Addr, v = some (.ref b2) ∧ Fr n0 L ∧ Keep h0 h [] ∧ h0.size ≤ b2 ∧ n0 ≤ b2 ∧ Exa Z h b2 "java/lang/String") := by
  obtain ⟨S_cs, hcs, S_d1, B_d1, H_d1, S_d2, B_d2, H_d2⟩ := id C
  refine zenter (plainFor_of_name pn_0) (L0 := #[iv (Int32.ofNat (k))]) (H := ?_)
  intro p e s m below meth c T0 hx hZ hby hml hown0 hnm hret hlk X0 e0
  have hown : s.vm.findClass "java/lang/String" = some m.cls := hown0
  have K0 := Keep.refl h0 []
  have N0 := Fr.nil n0
  show zEnds p e below s T0 (mkF m 0 #[iv (Int32.ofNat (k))] []) _ _ _
  refine zgetstat X0 hx hby d43_0 hZ hown (host := "") (Or.inl (w121 hw)) Via.refl e0 (S_cs.ext O0.2.2) fun T1 X1 e1 => (zifNo X1 hx hby d43_3 ((if0 _ _).trans (feq hcs).1) (ziloadN X1 hx hby d43_6 rfl (zcalls X1 hx hby d43_7 hZ hown (w306 hw) (w307 hw) (w283 hw) (w308 hw) e1 (c_enc l hw  C O0 (k) (by omega)) hml 0 pd_25 (argsL := [(.int (Int32.ofNat (k)))]) (st := []) (zpureK ⟨rfl, rfl⟩ fun T2 X2 e2 => ?_))))
  refine zifNo X2 hx hby d43_10 (by decide) (znewobj X2 hx hby d43_13 hZ hown (w309 hw) (w95 hw) (w88 hw) e2 (by first | decide | omega | (dsimp only; omega)) (by first | decide | omega | (dsimp only; omega)) fun T3 h3 b3 X3 e3 y3 Ex3 E3_b3 D3 => ?_)
  have O3 := O0.ext Ex3
  have K3 := Keep.ext K0 Ex3
  have g3 : n0 ≤ b3 := by rw [y3]; exact zodsz O0
  have z3 : h0.size ≤ b3 := by rw [y3]; exact K0.1
  have F3_b3_value : Fld Z h3 b3 "java/lang/String" "value" "[B" .null := D3 (Or.inr (w96 hw)) (ty := (.array .byte)) (by decide)
  have F3_b3_coder : Fld Z h3 b3 "java/lang/String" "coder" "B" (.int 0) := D3 (Or.inr (w97 hw)) (ty := .byte) (by decide)
  refine zdup X3 hx hby d43_16 rfl (ziloadN X3 hx hby d43_17 rfl (zcalls X3 hx hby d43_18 hZ hown (w310 hw) (w311 hw) (w283 hw) (w312 hw) e3 (c_tob l hw  C O3 (k)) hml 2 pd_26 (argsL := [(.int (Int32.ofNat (k)))]) (st := [(.ref b3), (.ref b3)]) fun T4 h4 v4 L4 e4 X4 q4 => ?_))
  obtain ⟨b4, rfl, N4q, K4q, y4, g4, E4_b4⟩ := q4
  have F4_b3_value := F3_b3_value.keep K4q nin0
  have F4_b3_coder := F3_b3_coder.keep K4q nin0
  have E4_b3 := E3_b3.keep K4q
  have O4 := O3.keep K4q all0
  have K4 := Keep.trans K3 K4q all0
  have N4 := Fr.app N0 N4q
  refine ziconst X4 hx hby d43_21 (z := (0 : Int32)) rfl (zcallsp X4 hx hby d43_22 hZ hown rfl (w313 hw) (w314 hw) (w315 hw) (w88 hw) e4 (c_strb l hw  C O4 b3 E4_b3 F4_b3_value F4_b3_coder g3 b4) hml 1 pd_27 (argsL := [(.ref b4), (.int 0)]) (st := [(.ref b3)]) fun T5 h5 v5 L5 e5 X5 q5 => ?_)
  obtain ⟨rfl, N5q, K5q, E5_t⟩ := q5
  have K5 := Keep.trans K4 K5q (allS (Or.inr z3) all0)
  have N5 := Fr.app N4 N5q
  show zEnds p e below s T5 (mkF m 25 #[iv (Int32.ofNat (k))] [(.ref b3)]) _ _ _
  exact zretA X5 hx hby d43_25 hret hlk rfl rfl rfl (by first | decide | omega | (dsimp only; omega)) (by first | decide | omega | (dsimp only; omega)) (by rw [e5]; exact ⟨b3, rfl, N5, K5, z3, g3, E5_t⟩)
theorem w28 (hw : HW a0 Z) : (Cond.instantiable "com/example/kick/kick/value/CloseReport" 3).before a0 Z = true := hwi hw 28 rfl
theorem w33 (hw : HW a0 Z) : (Cond.methodLink "com/example/kick/kick/value/CloseReport" 1 ⟨"java/lang/Object", "<init>", "()V"⟩).before a0 Z = true := hwi hw 33 rfl
theorem w34 (hw : HW a0 Z) : (Cond.fieldLink "com/example/kick/kick/value/CloseReport" 30 "com/example/kick/kick/value/CloseReport" "completed" "J").before a0 Z = true := hwi hw 34 rfl
theorem w35 (hw : HW a0 Z) : (Cond.laysFinal "com/example/kick/kick/value/CloseReport" "com/example/kick/kick/value/CloseReport" "completed" "J").before a0 Z = true := hwi hw 35 rfl
theorem w36 (hw : HW a0 Z) : (Cond.fieldLink "com/example/kick/kick/value/CloseReport" 36 "com/example/kick/kick/value/CloseReport" "interrupted" "J").before a0 Z = true := hwi hw 36 rfl
theorem w37 (hw : HW a0 Z) : (Cond.laysFinal "com/example/kick/kick/value/CloseReport" "com/example/kick/kick/value/CloseReport" "interrupted" "J").before a0 Z = true := hwi hw 37 rfl
theorem w38 (hw : HW a0 Z) : (Cond.methodLink "com/example/kick/kick/value/CloseReport" 39 ⟨"java/util/List", "copyOf", "(Ljava/util/Collection;)Ljava/util/List;"⟩).before a0 Z = true := hwi hw 38 rfl
theorem w39 (hw : HW a0 Z) : (Cond.static ⟨"java/util/List", "copyOf", "(Ljava/util/Collection;)Ljava/util/List;"⟩).before a0 Z = true := hwi hw 39 rfl
theorem w40 (hw : HW a0 Z) : (Cond.initialized "java/util/List").before a0 Z = true := hwi hw 40 rfl
theorem w41 (hw : HW a0 Z) : (Cond.code ⟨"java/util/List", "copyOf", "(Ljava/util/Collection;)Ljava/util/List;"⟩ jdk_40_method_48_code 1 (Option.some (FieldType.object "java/util/List"))).before a0 Z = true := hwi hw 41 rfl
theorem w42 (hw : HW a0 Z) : (Cond.methodLink "java/util/List" 112 ⟨"java/util/ImmutableCollections", "listCopy", "(Ljava/util/Collection;)Ljava/util/List;"⟩).before a0 Z = true := hwi hw 42 rfl
theorem w43 (hw : HW a0 Z) : (Cond.static ⟨"java/util/ImmutableCollections", "listCopy", "(Ljava/util/Collection;)Ljava/util/List;"⟩).before a0 Z = true := hwi hw 43 rfl
theorem w44 (hw : HW a0 Z) : (Cond.initialized "java/util/ImmutableCollections").before a0 Z = true := hwi hw 44 rfl
theorem w45 (hw : HW a0 Z) : (Cond.code ⟨"java/util/ImmutableCollections", "listCopy", "(Ljava/util/Collection;)Ljava/util/List;"⟩ jdk_56_method_3_code 2 (Option.some (FieldType.object "java/util/List"))).before a0 Z = true := hwi hw 45 rfl
theorem w67 (hw : HW a0 Z) : (Cond.fieldLink "com/example/kick/kick/value/CloseReport" 45 "com/example/kick/kick/value/CloseReport" "notStartedTasks" "Ljava/util/List;").before a0 Z = true := hwi hw 67 rfl
theorem w68 (hw : HW a0 Z) : (Cond.laysFinal "com/example/kick/kick/value/CloseReport" "com/example/kick/kick/value/CloseReport" "notStartedTasks" "Ljava/util/List;").before a0 Z = true := hwi hw 68 rfl
theorem d44_0 : decode jdk_40_method_48_code 0 = .ok (.aload_n 0, 1) := by decide +kernel
theorem d44_1 : decode jdk_40_method_48_code 1 = .ok (.invokestatic 112, 3) := by decide +kernel
theorem d44_4 : decode jdk_40_method_48_code 4 = .ok (.areturn, 1) := by decide +kernel
theorem d45_0 : decode prog_9_method_1_code 0 = .ok (.aload_n 0, 1) := by decide +kernel
theorem d45_1 : decode prog_9_method_1_code 1 = .ok (.invokespecial 1, 3) := by decide +kernel
theorem d45_4 : decode prog_9_method_1_code 4 = .ok (.lload_n 1, 1) := by decide +kernel
theorem d45_5 : decode prog_9_method_1_code 5 = .ok (.lconst 0, 1) := by decide +kernel
theorem d45_6 : decode prog_9_method_1_code 6 = .ok (.lcmp, 1) := by decide +kernel
theorem d45_7 : decode prog_9_method_1_code 7 = .ok (.ifCond .ge 30, 3) := by decide +kernel
theorem d45_37 : decode prog_9_method_1_code 37 = .ok (.lload_n 3, 1) := by decide +kernel
theorem d45_38 : decode prog_9_method_1_code 38 = .ok (.lconst 0, 1) := by decide +kernel
theorem d45_39 : decode prog_9_method_1_code 39 = .ok (.lcmp, 1) := by decide +kernel
theorem d45_40 : decode prog_9_method_1_code 40 = .ok (.ifCond .ge 30, 3) := by decide +kernel
theorem d45_70 : decode prog_9_method_1_code 70 = .ok (.aload_n 0, 1) := by decide +kernel
theorem d45_71 : decode prog_9_method_1_code 71 = .ok (.lload_n 1, 1) := by decide +kernel
theorem d45_72 : decode prog_9_method_1_code 72 = .ok (.putfield 30, 3) := by decide +kernel
theorem d45_75 : decode prog_9_method_1_code 75 = .ok (.aload_n 0, 1) := by decide +kernel
theorem d45_76 : decode prog_9_method_1_code 76 = .ok (.lload_n 3, 1) := by decide +kernel
theorem d45_77 : decode prog_9_method_1_code 77 = .ok (.putfield 36, 3) := by decide +kernel
theorem d45_80 : decode prog_9_method_1_code 80 = .ok (.aload_n 0, 1) := by decide +kernel
theorem d45_81 : decode prog_9_method_1_code 81 = .ok (.aload 5, 2) := by decide +kernel
theorem d45_83 : decode prog_9_method_1_code 83 = .ok (.invokestatic 39, 3) := by decide +kernel
theorem d45_86 : decode prog_9_method_1_code 86 = .ok (.putfield 45, 3) := by decide +kernel
theorem d45_89 : decode prog_9_method_1_code 89 = .ok (.return_, 1) := by decide +kernel
theorem pd_28 : parseMethodDescriptor "(Ljava/util/Collection;)Ljava/util/List;" = some ⟨[(.object "java/util/Collection")], some (.object "java/util/List")⟩ := by decide +kernel
theorem pn_9 : plainName "java/util/List" = true := by first | (simp [plainName, overriddenIn]; done) | decide +kernel
theorem pn_10 : plainName "com/example/kick/kick/value/CloseReport" = true := by first | (simp [plainName, overriddenIn]; done) | decide +kernel
def Sz (Z : State) (h : Heap) (L : Addr) (n : Nat) : Prop := (∃ (e : Addr) (vs : List Value), Exa Z h L "java/util/ImmutableCollections$ListN" ∧ Fld Z h L "java/util/ImmutableCollections$ListN" "elements" "[Ljava/lang/Object;" (.ref e) ∧ Exa Z h e "[Ljava/lang/Object;" ∧ zLst Z h e (.object "java/lang/Object") vs ∧ vs.length = n) ∨
  (n = 1 ∧ Exa Z h L "java/util/ImmutableCollections$List12" ∧ ∃ em : Addr, Sta Z Z.heap "java/util/ImmutableCollections" "EMPTY" "Ljava/lang/Object;" (.ref em) ∧ Fld Z h L "java/util/ImmutableCollections$List12" "e1" "Ljava/lang/Object;" (.ref em)) ∨ (n = 2 ∧ Exa Z h L "java/util/ImmutableCollections$List12" ∧ ∃ em x : Addr, Sta Z Z.heap "java/util/ImmutableCollections" "EMPTY" "Ljava/lang/Object;" (.ref em) ∧ Fld Z h L "java/util/ImmutableCollections$List12" "e1" "Ljava/lang/Object;" (.ref x) ∧ x ≠ em)
theorem Sz.keep {Z : State} {h h' : Heap} {L n : Nat} (F : Sz Z h L n) (K : Keep h h' []) : Sz Z h' L n := by
  obtain (⟨e, vs, q1, q2, q5, q3, q4⟩ | ⟨q1, q2, em, q3, q4⟩ | ⟨q1, q2, em, x, q3, q4, q5⟩) := F
  · exact Or.inl ⟨e, vs, q1.keep K, q2.keep K nin0, q5.keep K, q3.keep K nin0, q4⟩
  · exact Or.inr (Or.inl ⟨q1, q2.keep K, em, q3, q4.keep K nin0⟩)
  · exact Or.inr (Or.inr ⟨q1, q2.keep K, em, x, q3, q4.keep K nin0, q5⟩)
theorem Sz.wr {Z : State} {h h' : Heap} {L n o : Addr} {sl : Nat} {v : Value} (F : Sz Z h L n) (W : Wr h h' o sl v) (E : Exa Z h o "com/example/kick/kick/value/CloseReport") : Sz Z h' L n := by
  obtain (⟨e, vs, q1, q2, q5, q3, q4⟩ | ⟨q1, q2, em, q3, q4⟩ | ⟨q1, q2, em, x, q3, q4, q5⟩) := F
  · exact Or.inl ⟨e, vs, q1.wr W, q2.other W (Or.inl (Exa.ne q1 E (by decide))), q5.wr W, q3.other W (Exa.ne q5 E (by decide)), q4⟩
  · exact Or.inr (Or.inl ⟨q1, q2.wr W, em, q3, q4.other W (Or.inl (Exa.ne q2 E (by decide)))⟩)
  · exact Or.inr (Or.inr ⟨q1, q2.wr W, em, x, q3, q4.other W (Or.inl (Exa.ne q2 E (by decide))), q5⟩)
def NS (Z : State) (h : Heap) (o : Addr) (n : Nat) : Prop := ∃ L : Addr, Fld Z h o "com/example/kick/kick/value/CloseReport" "notStartedTasks" "Ljava/util/List;" (.ref L) ∧ Sz Z h L n
theorem NS.keep {Z : State} {h h' : Heap} {o n : Nat} (F : NS Z h o n) (K : Keep h h' []) : NS Z h' o n := by obtain ⟨L, q0, q1⟩ := F; exact ⟨L, q0.keep K nin0, q1.keep K⟩
theorem c_cpof (hw : HW a0 Z) (C : Ctx Z cs d1 d2 o1 o2) (O0 : zOd Z n0 h0) (al : Addr) (n : Nat) (HC : zCon l Z (⟨"java/util/ImmutableCollections", "listCopy", "(Ljava/util/Collection;)Ljava/util/List;"⟩ : MethodName) jdk_56_method_3_code 2 (some (.object "java/util/List")) [] ({ frames := 7, cells := 3, slots := 8, locals := 90 } : Room) #[(.ref al)] h0 (fun v h L => ∃ L' : Addr, v = some (.ref L') ∧ Fr n0 L ∧ Keep h0 h [] ∧ Sz Z h L' n)) : zCon l Z (⟨"java/util/List", "copyOf", "(Ljava/util/Collection;)Ljava/util/List;"⟩ : MethodName) jdk_40_method_48_code 1 (some (.object "java/util/List")) [] ({ frames := 8, cells := 3, slots := 8, locals := 103 } : Room) #[(.ref al)] h0 (fun v h L => ∃ L' : Addr, v = some (.ref L') ∧ Fr n0 L ∧ Keep h0 h [] ∧ Sz Z h L' n) := by
  refine zenter (plainFor_of_name pn_9) (L0 := #[rv al]) (H := ?_)
  intro p e s m below meth c T0 hx hZ hby hml hown0 hnm hret hlk X0 e0
  have hown : s.vm.findClass "java/util/List" = some m.cls := hown0
  have K0 := Keep.refl h0 []
  have N0 := Fr.nil n0
  show zEnds p e below s T0 (mkF m 0 #[rv al] []) _ _ _
  refine zaloadN X0 hx hby d44_0 rfl rfl (zcalls X0 hx hby d44_1 hZ hown (w42 hw) (w43 hw) (w44 hw) (w45 hw) e0 HC hml 0 pd_28 (argsL := [(.ref al)]) (st := []) fun T1 h1 v1 L1 e1 X1 q1 => ?_)
  obtain ⟨L1, rfl, N1q, K1q, sz1⟩ := q1
  have K1 := Keep.trans K0 K1q all0
  have N1 := Fr.app N0 N1q
  show zEnds p e below s T1 (mkF m 4 #[rv al] [(.ref L1)]) _ _ _
  exact zretA X1 hx hby d44_4 hret hlk rfl rfl rfl (by first | decide | omega | (dsimp only; omega)) (by first | decide | omega | (dsimp only; omega)) (by rw [e1]; exact ⟨L1, rfl, N1, K1, sz1⟩)
theorem c_crinit (hw : HW a0 Z) (C : Ctx Z cs d1 d2 o1 o2) (O0 : zOd Z n0 h0) (o : Addr) (E_o : Exa Z h0 o "com/example/kick/kick/value/CloseReport") (F_o_c : Fld Z h0 o "com/example/kick/kick/value/CloseReport" "completed" "J" (.long 0)) (F_o_i : Fld Z h0 o "com/example/kick/kick/value/CloseReport" "interrupted" "J" (.long 0)) (F_o_t : Fld Z h0 o "com/example/kick/kick/value/CloseReport" "notStartedTasks" "Ljava/util/List;" .null) (g_o : n0 ≤ o) (cc ii : Nat) (hcc : cc < 9223372036854775808) (hii : ii < 9223372036854775808) (al : Addr) (n : Nat) (HC : ∀ h', Keep h0 h' [o] → zCon l Z (⟨"java/util/ImmutableCollections", "listCopy", "(Ljava/util/Collection;)Ljava/util/List;"⟩ : MethodName) jdk_56_method_3_code 2 (some (.object "java/util/List")) [] ({ frames := 7, cells := 3, slots := 8, locals := 90 } : Room) #[(.ref al)] h' (fun v h L => ∃ L' : Addr, v = some (.ref L') ∧ Fr n0 L ∧ Keep h' h [] ∧ Sz Z h L' n)) : zCon l Z (⟨"com/example/kick/kick/value/CloseReport", "<init>", "(JJLjava/util/List;)V"⟩ : MethodName) prog_9_method_1_code 6 none [] ({ frames := 9, cells := 3, slots := 8, locals := 116 } : Room) #[(.ref o), (.long (Int64.ofNat (cc))), (.long (Int64.ofNat (ii))), (.ref al)] h0 (fun v h L => v = none ∧ Fr n0 L ∧ Keep h0 h [o] ∧ Exa Z h o "com/example/kick/kick/value/CloseReport" ∧ Fld Z h o "com/example/kick/kick/value/CloseReport" "completed" "J" (.long (Int64.ofNat (cc))) ∧ Fld Z h o "com/example/kick/kick/value/CloseReport" "interrupted" "J" (.long (Int64.ofNat (ii))) ∧ NS Z h o n) := by
  refine zenter (plainFor_of_name pn_10) (L0 := #[rv o, .val (.long (Int64.ofNat (cc))), .second, .val (.long (Int64.ofNat (ii))), .second, rv al]) (H := ?_)
  intro p e s m below meth c T0 hx hZ hby hml hown0 hnm hret hlk X0 e0
  have hown : s.vm.findClass "com/example/kick/kick/value/CloseReport" = some m.cls := hown0
  have K0 := Keep.refl h0 [o]
  have N0 := Fr.nil n0
  show zEnds p e below s T0 (mkF m 0 #[rv o, .val (.long (Int64.ofNat (cc))), .second, .val (.long (Int64.ofNat (ii))), .second, rv al] []) _ _ _
  refine zaloadN X0 hx hby d45_0 rfl rfl (zobjinit X0 hx hby d45_1 hZ hown (w33 hw) (w20 hw) (w21 hw) e0 hml 0 (fun T1 X1 e1 => ?_))
  refine zlloadN X1 hx hby d45_4 rfl (zlconst X1 hx hby d45_5 (z := (0 : Int64)) rfl (zlcmp X1 hx hby d45_6 (lcmpW (Int64.ofNat (cc)) (0 : Int64)) rfl (zifYes X1 hx hby d45_7 37 ((if0 _ _).trans (flt (show ¬ ((lcmpW (Int64.ofNat (cc)) (0 : Int64)) < (0 : Int32)) from by rw [lcmp_neg]; exact ofL_nn (by omega))).2.1) (by decide) (by decide) (zlloadN X1 hx hby d45_37 rfl (zlconst X1 hx hby d45_38 (z := (0 : Int64)) rfl (zlcmp X1 hx hby d45_39 (lcmpW (Int64.ofNat (ii)) (0 : Int64)) rfl (zifYes X1 hx hby d45_40 70 ((if0 _ _).trans (flt (show ¬ ((lcmpW (Int64.ofNat (ii)) (0 : Int64)) < (0 : Int32)) from by rw [lcmp_neg]; exact ofL_nn (by omega))).2.1) (by decide) (by decide) (zaloadN X1 hx hby d45_70 rfl rfl (zlloadN X1 hx hby d45_71 rfl ?_)))))))))
  show zEnds p e below s T1 (mkF m 72 #[rv o, .val (.long (Int64.ofNat (cc))), .second, .val (.long (Int64.ofNat (ii))), .second, rv al] [(.long (Int64.ofNat (cc))), (.ref o)]) _ _ _
  refine zputfld X1 hx hby d45_72 hZ hown (host := "") (Or.inl (w34 hw)) Via.refl e1 F_o_c E_o (Or.inr ⟨(w35 hw), rfl, hnm⟩) (w28 hw) (ty := .long) (by decide) rfl rfl fun T2 h2 X2 e2 W2 => ?_
  have F2_o_completed : Fld Z h2 o "com/example/kick/kick/value/CloseReport" "completed" "J" (.long (Int64.ofNat (cc))) := F_o_c.same W2
  have F2_o_interrupted := F_o_i.other W2 (Or.inr (slot_ne (Or.inr (w37 hw)) (Or.inr (w35 hw)) (by decide) (t := .long) (t' := .long) (by decide) (by decide)))
  have F2_o_notStartedTasks := F_o_t.other W2 (Or.inr (slot_ne (Or.inr (w68 hw)) (Or.inr (w35 hw)) (by decide) (t := (.object "java/util/List")) (t' := .long) (by decide) (by decide)))
  have E2_o := E_o.wr W2
  have O2 := O0.wr W2 g_o
  have K2 := Keep.wr K0 W2 (Or.inl (List.mem_of_getElem? (i := 0) rfl))
  have N2 := Fr.snoc X2 N0 g_o
  refine zaloadN X2 hx hby d45_75 rfl rfl (zlloadN X2 hx hby d45_76 rfl (zputfld X2 hx hby d45_77 hZ hown (host := "") (Or.inl (w36 hw)) Via.refl e2 F2_o_interrupted E2_o (Or.inr ⟨(w37 hw), rfl, hnm⟩) (w28 hw) (ty := .long) (by decide) rfl rfl fun T3 h3 X3 e3 W3 => ?_))
  have F3_o_interrupted : Fld Z h3 o "com/example/kick/kick/value/CloseReport" "interrupted" "J" (.long (Int64.ofNat (ii))) := F2_o_interrupted.same W3
  have F3_o_completed := F2_o_completed.other W3 (Or.inr (slot_ne (Or.inr (w35 hw)) (Or.inr (w37 hw)) (by decide) (t := .long) (t' := .long) (by decide) (by decide)))
  have F3_o_notStartedTasks := F2_o_notStartedTasks.other W3 (Or.inr (slot_ne (Or.inr (w68 hw)) (Or.inr (w37 hw)) (by decide) (t := (.object "java/util/List")) (t' := .long) (by decide) (by decide)))
  have E3_o := E2_o.wr W3
  have O3 := O2.wr W3 g_o
  have K3 := Keep.wr K2 W3 (Or.inl (List.mem_of_getElem? (i := 0) rfl))
  have N3 := Fr.snoc X3 N2 g_o
  refine zaloadN X3 hx hby d45_80 rfl rfl (zaload X3 hx hby d45_81 rfl rfl (zcalls X3 hx hby d45_83 hZ hown (w38 hw) (w39 hw) (w40 hw) (w41 hw) e3 (c_cpof l hw  C O3 al n (HC _ K3)) hml 1 pd_28 (argsL := [(.ref al)]) (st := [(.ref o)]) fun T4 h4 v4 L4 e4 X4 q4 => ?_))
  obtain ⟨L4, rfl, N4q, K4q, sz4⟩ := q4
  have F4_o_completed := F3_o_completed.keep K4q nin0
  have F4_o_interrupted := F3_o_interrupted.keep K4q nin0
  have F4_o_notStartedTasks := F3_o_notStartedTasks.keep K4q nin0
  have E4_o := E3_o.keep K4q
  have K4 := Keep.trans K3 K4q all0
  have N4 := Fr.app N3 N4q
  refine zputfld X4 hx hby d45_86 hZ hown (host := "") (Or.inl (w67 hw)) Via.refl e4 F4_o_notStartedTasks E4_o (Or.inr ⟨(w68 hw), rfl, hnm⟩) (w28 hw) (ty := (.object "java/util/List")) (by decide) rfl rfl fun T5 h5 X5 e5 W5 => ?_
  have F5_o_notStartedTasks : Fld Z h5 o "com/example/kick/kick/value/CloseReport" "notStartedTasks" "Ljava/util/List;" (.ref L4) := F4_o_notStartedTasks.same W5
  have F5_o_completed := F4_o_completed.other W5 (Or.inr (slot_ne (Or.inr (w35 hw)) (Or.inr (w68 hw)) (by decide) (t := .long) (t' := (.object "java/util/List")) (by decide) (by decide)))
  have F5_o_interrupted := F4_o_interrupted.other W5 (Or.inr (slot_ne (Or.inr (w37 hw)) (Or.inr (w68 hw)) (by decide) (t := .long) (t' := (.object "java/util/List")) (by decide) (by decide)))
  have E5_o := E4_o.wr W5
  have K5 := Keep.wr K4 W5 (Or.inl (List.mem_of_getElem? (i := 0) rfl))
  have N5 := Fr.snoc X5 N4 g_o
  show zEnds p e below s T5 (mkF m 89 #[rv o, .val (.long (Int64.ofNat (cc))), .second, .val (.long (Int64.ofNat (ii))), .second, rv al] []) _ _ _
  exact zretV X5 hx hby d45_89 hret hlk (by first | decide | omega | (dsimp only; omega)) (by first | decide | omega | (dsimp only; omega)) (by rw [e5]; exact ⟨rfl, N5, K5, E5_o, F5_o_completed, F5_o_interrupted, L4, F5_o_notStartedTasks, sz4.wr W5 E4_o⟩)
theorem w204 (hw : HW a0 Z) : (Cond.methodLink "com/example/kick/kick/value/CloseReport" 49 ⟨"java/util/List", "size", "()I"⟩).before a0 Z = true := hwi hw 204 rfl
theorem w205 (hw : HW a0 Z) : (Cond.declares ⟨"java/util/List", "size", "()I"⟩).before a0 Z = true := hwi hw 205 rfl
theorem w206 (hw : HW a0 Z) : (Cond.interfaceMethod "java/util/List" "java/util/List" "size" "()I").before a0 Z = true := hwi hw 206 rfl
theorem w207 (hw : HW a0 Z) : (Cond.selects "java/util/ImmutableCollections$ListN" ⟨"java/util/List", "size", "()I"⟩ ⟨"java/util/ImmutableCollections$ListN", "size", "()I"⟩).before a0 Z = true := hwi hw 207 rfl
theorem w208 (hw : HW a0 Z) : (Cond.instanceMethod ⟨"java/util/ImmutableCollections$ListN", "size", "()I"⟩).before a0 Z = true := hwi hw 208 rfl
theorem w209 (hw : HW a0 Z) : (Cond.publicMethod ⟨"java/util/ImmutableCollections$ListN", "size", "()I"⟩).before a0 Z = true := hwi hw 209 rfl
theorem w210 (hw : HW a0 Z) : (Cond.unhidden "java/util/ImmutableCollections$ListN" "size" "()I").before a0 Z = true := hwi hw 210 rfl
theorem w211 (hw : HW a0 Z) : (Cond.castable "java/util/ImmutableCollections$ListN" "java/util/List").before a0 Z = true := hwi hw 211 rfl
theorem w212 (hw : HW a0 Z) : (Cond.initialized "java/util/ImmutableCollections$ListN").before a0 Z = true := hwi hw 212 rfl
theorem w213 (hw : HW a0 Z) : (Cond.code ⟨"java/util/ImmutableCollections$ListN", "size", "()I"⟩ jdk_45_method_3_code 1 (Option.some FieldType.int)).before a0 Z = true := hwi hw 213 rfl
theorem w214 (hw : HW a0 Z) : (Cond.fieldLink "java/util/ImmutableCollections$ListN" 7 "java/util/ImmutableCollections$ListN" "elements" "[Ljava/lang/Object;").before a0 Z = true := hwi hw 214 rfl
theorem w369 (hw : HW a0 Z) : (Cond.initialized "java/util/ImmutableCollections$List12").before a0 Z = true := hwi hw 369 rfl
theorem w394 (hw : HW a0 Z) : (Cond.fieldLinkNest "java/util/ImmutableCollections$List12" 19 "java/util/ImmutableCollections" "EMPTY" "Ljava/lang/Object;" "java/util/ImmutableCollections").before a0 Z = true := hwi hw 394 rfl
theorem w395 (hw : HW a0 Z) : (Cond.fieldLink "java/util/ImmutableCollections$List12" 24 "java/util/ImmutableCollections$List12" "e1" "Ljava/lang/Object;").before a0 Z = true := hwi hw 395 rfl
theorem w397 (hw : HW a0 Z) : (Cond.selects "java/util/ImmutableCollections$List12" ⟨"java/util/List", "size", "()I"⟩ ⟨"java/util/ImmutableCollections$List12", "size", "()I"⟩).before a0 Z = true := hwi hw 397 rfl
theorem w398 (hw : HW a0 Z) : (Cond.instanceMethod ⟨"java/util/ImmutableCollections$List12", "size", "()I"⟩).before a0 Z = true := hwi hw 398 rfl
theorem w399 (hw : HW a0 Z) : (Cond.publicMethod ⟨"java/util/ImmutableCollections$List12", "size", "()I"⟩).before a0 Z = true := hwi hw 399 rfl
theorem w400 (hw : HW a0 Z) : (Cond.unhidden "java/util/ImmutableCollections$List12" "size" "()I").before a0 Z = true := hwi hw 400 rfl
theorem w401 (hw : HW a0 Z) : (Cond.castable "java/util/ImmutableCollections$List12" "java/util/List").before a0 Z = true := hwi hw 401 rfl
theorem w402 (hw : HW a0 Z) : (Cond.code ⟨"java/util/ImmutableCollections$List12", "size", "()I"⟩ jdk_44_method_3_code 1 (Option.some FieldType.int)).before a0 Z = true := hwi hw 402 rfl
theorem d47_0 : decode jdk_44_method_3_code 0 = .ok (.aload_n 0, 1) := by decide +kernel
theorem d47_1 : decode jdk_44_method_3_code 1 = .ok (.getfield 24, 3) := by decide +kernel
theorem d47_4 : decode jdk_44_method_3_code 4 = .ok (.getstatic 19, 3) := by decide +kernel
theorem d47_7 : decode jdk_44_method_3_code 7 = .ok (.if_acmp .eq 7, 3) := by decide +kernel
theorem d47_10 : decode jdk_44_method_3_code 10 = .ok (.iconst 2, 1) := by decide +kernel
theorem d47_11 : decode jdk_44_method_3_code 11 = .ok (.goto 4, 3) := by decide +kernel
theorem d47_14 : decode jdk_44_method_3_code 14 = .ok (.iconst 1, 1) := by decide +kernel
theorem d47_15 : decode jdk_44_method_3_code 15 = .ok (.ireturn, 1) := by decide +kernel
theorem d46_0 : decode jdk_45_method_3_code 0 = .ok (.aload_n 0, 1) := by decide +kernel
theorem d46_1 : decode jdk_45_method_3_code 1 = .ok (.getfield 7, 3) := by decide +kernel
theorem d46_4 : decode jdk_45_method_3_code 4 = .ok (.arraylength, 1) := by decide +kernel
theorem d46_5 : decode jdk_45_method_3_code 5 = .ok (.ireturn, 1) := by decide +kernel
theorem d48_0 : decode prog_9_method_3_code 0 = .ok (.aload_n 0, 1) := by decide +kernel
theorem d48_1 : decode prog_9_method_3_code 1 = .ok (.getfield 45, 3) := by decide +kernel
theorem d48_4 : decode prog_9_method_3_code 4 = .ok (.invokeinterface 49 1, 5) := by decide +kernel
theorem d48_9 : decode prog_9_method_3_code 9 = .ok (.i2l, 1) := by decide +kernel
theorem d48_10 : decode prog_9_method_3_code 10 = .ok (.lreturn, 1) := by decide +kernel
theorem pn_11 : plainName "java/util/ImmutableCollections$ListN" = true := by first | (simp [plainName, overriddenIn]; done) | decide +kernel
theorem pn_12 : plainName "java/util/ImmutableCollections$List12" = true := by first | (simp [plainName, overriddenIn]; done) | decide +kernel
theorem c_sizeN (hw : HW a0 Z) (C : Ctx Z cs d1 d2 o1 o2) (O0 : zOd Z n0 h0) (L el : Addr) (vs : List Value) (E_L : Exa Z h0 L "java/util/ImmutableCollections$ListN") (F_L_e : Fld Z h0 L "java/util/ImmutableCollections$ListN" "elements" "[Ljava/lang/Object;" (.ref el)) (A_e : zLst Z h0 el (.object "java/lang/Object") vs) : zCon l Z (⟨"java/util/ImmutableCollections$ListN", "size", "()I"⟩ : MethodName) jdk_45_method_3_code 1 (some .int) [] ({ frames := 0, cells := 0, slots := 0, locals := 0 } : Room) #[(.ref L)] h0 (zSame (some (.int (Int32.ofNat (vs.length)))) h0) := by
  refine zenter (plainFor_of_name pn_11) (L0 := #[rv L]) (H := ?_)
  intro p e s m below meth c T0 hx hZ hby hml hown0 hnm hret hlk X0 e0
  have hown : s.vm.findClass "java/util/ImmutableCollections$ListN" = some m.cls := hown0
  show zEnds p e below s T0 (mkF m 0 #[rv L] []) _ _ _
  refine zaloadN X0 hx hby d46_0 rfl rfl (zgetfld X0 hx hby d46_1 hZ hown (host := "") (Or.inl (w214 hw)) Via.refl e0 F_L_e fun T1 X1 e1 => (zalenL X1 hx hby d46_4 hZ e1 A_e (Int32.ofNat (vs.length)) rfl ?_))
  show zEnds p e below s T1 (mkF m 5 #[rv L] [(.int (Int32.ofNat (vs.length)))]) _ _ _
  exact zretI X1 hx hby d46_5 hret hlk (by first | decide | omega | (dsimp only; omega)) (by first | decide | omega | (dsimp only; omega)) (⟨rfl, e1, rfl⟩)
theorem c_size1 (hw : HW a0 Z) (C : Ctx Z cs d1 d2 o1 o2) (O0 : zOd Z n0 h0) (L em : Addr) (E_L : Exa Z h0 L "java/util/ImmutableCollections$List12") (S_em : Sta Z Z.heap "java/util/ImmutableCollections" "EMPTY" "Ljava/lang/Object;" (.ref em)) (F_L_e : Fld Z h0 L "java/util/ImmutableCollections$List12" "e1" "Ljava/lang/Object;" (.ref em)) : zCon l Z (⟨"java/util/ImmutableCollections$List12", "size", "()I"⟩ : MethodName) jdk_44_method_3_code 1 (some .int) [] ({ frames := 0, cells := 0, slots := 0, locals := 0 } : Room) #[(.ref L)] h0 (zSame (some (.int 1)) h0) := by
  refine zenter (plainFor_of_name pn_12) (L0 := #[rv L]) (H := ?_)
  intro p e s m below meth c T0 hx hZ hby hml hown0 hnm hret hlk X0 e0
  have hown : s.vm.findClass "java/util/ImmutableCollections$List12" = some m.cls := hown0
  show zEnds p e below s T0 (mkF m 0 #[rv L] []) _ _ _
  refine zaloadN X0 hx hby d47_0 rfl rfl (zgetfld X0 hx hby d47_1 hZ hown (host := "") (Or.inl (w395 hw)) Via.refl e0 F_L_e fun T1 X1 e1 => (zgetstat X1 hx hby d47_4 hZ hown (Or.inr (w394 hw)) Via.refl e1 (S_em.ext O0.2.2) fun T2 X2 e2 => (zacmp X2 hx hby d47_7 14 true rfl rfl (decide_eq_true rfl) (by decide) (by decide) (ziconst X2 hx hby d47_14 (z := (1 : Int32)) rfl ?_))))
  show zEnds p e below s T2 (mkF m 15 #[rv L] [(.int 1)]) _ _ _
  exact zretI X2 hx hby d47_15 hret hlk (by first | decide | omega | (dsimp only; omega)) (by first | decide | omega | (dsimp only; omega)) (⟨rfl, e2, rfl⟩)
theorem c_ns1 (hw : HW a0 Z) (C : Ctx Z cs d1 d2 o1 o2) (O0 : zOd Z n0 h0) (L em : Addr) (E_L : Exa Z h0 L "java/util/ImmutableCollections$List12") (S_em : Sta Z Z.heap "java/util/ImmutableCollections" "EMPTY" "Ljava/lang/Object;" (.ref em)) (F_L_e : Fld Z h0 L "java/util/ImmutableCollections$List12" "e1" "Ljava/lang/Object;" (.ref em)) (o : Addr) (E_o : Exa Z h0 o "com/example/kick/kick/value/CloseReport") (F_o_t : Fld Z h0 o "com/example/kick/kick/value/CloseReport" "notStartedTasks" "Ljava/util/List;" (.ref L)) : zCon l Z (⟨"com/example/kick/kick/value/CloseReport", "notStarted", "()J"⟩ : MethodName) prog_9_method_3_code 1 (some .long) [] ({ frames := 1, cells := 0, slots := 0, locals := 12 } : Room) #[(.ref o)] h0 (zSame (some (.long (Int64.ofNat (1)))) h0) := by
  refine zenter (plainFor_of_name pn_10) (L0 := #[rv o]) (H := ?_)
  intro p e s m below meth c T0 hx hZ hby hml hown0 hnm hret hlk X0 e0
  have hown : s.vm.findClass "com/example/kick/kick/value/CloseReport" = some m.cls := hown0
  show zEnds p e below s T0 (mkF m 0 #[rv o] []) _ _ _
  refine zaloadN X0 hx hby d48_0 rfl rfl (zgetfld X0 hx hby d48_1 hZ hown (host := "") (Or.inl (w67 hw)) Via.refl e0 F_o_t fun T1 X1 e1 => (zcalli X1 hx hby d48_4 hZ hown (w204 hw) (w205 hw) (w206 hw) (w397 hw) (w398 hw) (w399 hw) (w400 hw) (w401 hw) (w402 hw) (w369 hw) e1 E_L (c_size1 l hw  C O0 L em E_L S_em F_L_e) hml 0 pd_1 (argsL := []) (st := []) (zpureK ⟨rfl, rfl⟩ fun T2 X2 e2 => ?_)))
  refine zi2l X2 hx hby d48_9 (1 : Int64) (by decide) ?_
  show zEnds p e below s T2 (mkF m 10 #[rv o] [(.long 1)]) _ _ _
  exact zretL X2 hx hby d48_10 hret hlk (by first | decide | omega | (dsimp only; omega)) (by first | decide | omega | (dsimp only; omega)) (⟨rfl, e2, rfl⟩)
theorem c_size2 (hw : HW a0 Z) (C : Ctx Z cs d1 d2 o1 o2) (O0 : zOd Z n0 h0) (L em x1 : Addr) (E_L : Exa Z h0 L "java/util/ImmutableCollections$List12") (S_em : Sta Z Z.heap "java/util/ImmutableCollections" "EMPTY" "Ljava/lang/Object;" (.ref em)) (F_L_e : Fld Z h0 L "java/util/ImmutableCollections$List12" "e1" "Ljava/lang/Object;" (.ref x1)) (ne_x : x1 ≠ em) : zCon l Z (⟨"java/util/ImmutableCollections$List12", "size", "()I"⟩ : MethodName) jdk_44_method_3_code 1 (some .int) [] ({ frames := 0, cells := 0, slots := 0, locals := 0 } : Room) #[(.ref L)] h0 (zSame (some (.int 2)) h0) := by
  refine zenter (plainFor_of_name pn_12) (L0 := #[rv L]) (H := ?_)
  intro p e s m below meth c T0 hx hZ hby hml hown0 hnm hret hlk X0 e0
  have hown : s.vm.findClass "java/util/ImmutableCollections$List12" = some m.cls := hown0
  show zEnds p e below s T0 (mkF m 0 #[rv L] []) _ _ _
  refine zaloadN X0 hx hby d47_0 rfl rfl (zgetfld X0 hx hby d47_1 hZ hown (host := "") (Or.inl (w395 hw)) Via.refl e0 F_L_e fun T1 X1 e1 => (zgetstat X1 hx hby d47_4 hZ hown (Or.inr (w394 hw)) Via.refl e1 (S_em.ext O0.2.2) fun T2 X2 e2 => (zacmp X2 hx hby d47_7 10 false rfl rfl (decide_eq_false fun q => ne_x (Value.ref.inj q)) (by decide) (by decide) (ziconst X2 hx hby d47_10 (z := (2 : Int32)) rfl (zgoto X2 hx hby d47_11 15 (by decide) (by decide) ?_)))))
  show zEnds p e below s T2 (mkF m 15 #[rv L] [(.int 2)]) _ _ _
  exact zretI X2 hx hby d47_15 hret hlk (by first | decide | omega | (dsimp only; omega)) (by first | decide | omega | (dsimp only; omega)) (⟨rfl, e2, rfl⟩)
theorem c_ns2 (hw : HW a0 Z) (C : Ctx Z cs d1 d2 o1 o2) (O0 : zOd Z n0 h0) (L em x1 : Addr) (E_L : Exa Z h0 L "java/util/ImmutableCollections$List12") (S_em : Sta Z Z.heap "java/util/ImmutableCollections" "EMPTY" "Ljava/lang/Object;" (.ref em)) (F_L_e : Fld Z h0 L "java/util/ImmutableCollections$List12" "e1" "Ljava/lang/Object;" (.ref x1)) (ne_x : x1 ≠ em) (o : Addr) (E_o : Exa Z h0 o "com/example/kick/kick/value/CloseReport") (F_o_t : Fld Z h0 o "com/example/kick/kick/value/CloseReport" "notStartedTasks" "Ljava/util/List;" (.ref L)) : zCon l Z (⟨"com/example/kick/kick/value/CloseReport", "notStarted", "()J"⟩ : MethodName) prog_9_method_3_code 1 (some .long) [] ({ frames := 1, cells := 0, slots := 0, locals := 12 } : Room) #[(.ref o)] h0 (zSame (some (.long (Int64.ofNat (2)))) h0) := by
  refine zenter (plainFor_of_name pn_10) (L0 := #[rv o]) (H := ?_)
  intro p e s m below meth c T0 hx hZ hby hml hown0 hnm hret hlk X0 e0
  have hown : s.vm.findClass "com/example/kick/kick/value/CloseReport" = some m.cls := hown0
  show zEnds p e below s T0 (mkF m 0 #[rv o] []) _ _ _
  refine zaloadN X0 hx hby d48_0 rfl rfl (zgetfld X0 hx hby d48_1 hZ hown (host := "") (Or.inl (w67 hw)) Via.refl e0 F_o_t fun T1 X1 e1 => (zcalli X1 hx hby d48_4 hZ hown (w204 hw) (w205 hw) (w206 hw) (w397 hw) (w398 hw) (w399 hw) (w400 hw) (w401 hw) (w402 hw) (w369 hw) e1 E_L (c_size2 l hw  C O0 L em x1 E_L S_em F_L_e ne_x) hml 0 pd_1 (argsL := []) (st := []) (zpureK ⟨rfl, rfl⟩ fun T2 X2 e2 => ?_)))
  refine zi2l X2 hx hby d48_9 (2 : Int64) (by decide) ?_
  show zEnds p e below s T2 (mkF m 10 #[rv o] [(.long 2)]) _ _ _
  exact zretL X2 hx hby d48_10 hret hlk (by first | decide | omega | (dsimp only; omega)) (by first | decide | omega | (dsimp only; omega)) (⟨rfl, e2, rfl⟩)
theorem c_nsN (hw : HW a0 Z) (C : Ctx Z cs d1 d2 o1 o2) (O0 : zOd Z n0 h0) (L el : Addr) (vs : List Value) (E_L : Exa Z h0 L "java/util/ImmutableCollections$ListN") (F_L_e : Fld Z h0 L "java/util/ImmutableCollections$ListN" "elements" "[Ljava/lang/Object;" (.ref el)) (A_e : zLst Z h0 el (.object "java/lang/Object") vs) (hv : vs.length < 1000000) (o : Addr) (E_o : Exa Z h0 o "com/example/kick/kick/value/CloseReport") (F_o_t : Fld Z h0 o "com/example/kick/kick/value/CloseReport" "notStartedTasks" "Ljava/util/List;" (.ref L)) : zCon l Z (⟨"com/example/kick/kick/value/CloseReport", "notStarted", "()J"⟩ : MethodName) prog_9_method_3_code 1 (some .long) [] ({ frames := 1, cells := 0, slots := 0, locals := 12 } : Room) #[(.ref o)] h0 (zSame (some (.long (Int64.ofNat (vs.length)))) h0) := by
  refine zenter (plainFor_of_name pn_10) (L0 := #[rv o]) (H := ?_)
  intro p e s m below meth c T0 hx hZ hby hml hown0 hnm hret hlk X0 e0
  have hown : s.vm.findClass "com/example/kick/kick/value/CloseReport" = some m.cls := hown0
  show zEnds p e below s T0 (mkF m 0 #[rv o] []) _ _ _
  refine zaloadN X0 hx hby d48_0 rfl rfl (zgetfld X0 hx hby d48_1 hZ hown (host := "") (Or.inl (w67 hw)) Via.refl e0 F_o_t fun T1 X1 e1 => (zcalli X1 hx hby d48_4 hZ hown (w204 hw) (w205 hw) (w206 hw) (w207 hw) (w208 hw) (w209 hw) (w210 hw) (w211 hw) (w213 hw) (w212 hw) e1 E_L (c_sizeN l hw  C O0 L el vs E_L F_L_e A_e) hml 0 pd_1 (argsL := []) (st := []) (zpureK ⟨rfl, rfl⟩ fun T2 X2 e2 => ?_)))
  refine zi2l X2 hx hby d48_9 (Int64.ofNat (vs.length)) (i2l_ofN (by omega)) ?_
  show zEnds p e below s T2 (mkF m 10 #[rv o] [(.long (Int64.ofNat (vs.length)))]) _ _ _
  exact zretL X2 hx hby d48_10 hret hlk (by first | decide | omega | (dsimp only; omega)) (by first | decide | omega | (dsimp only; omega)) (⟨rfl, e2, rfl⟩)
theorem c_ns (hw : HW a0 Z) (C : Ctx Z cs d1 d2 o1 o2) (O0 : zOd Z n0 h0) (o : Addr) (n : Nat) (E_o : Exa Z h0 o "com/example/kick/kick/value/CloseReport") (hN : NS Z h0 o n) (hn : n < 1000000) : zCon l Z (⟨"com/example/kick/kick/value/CloseReport", "notStarted", "()J"⟩ : MethodName) prog_9_method_3_code 1 (some .long) [] ({ frames := 1, cells := 0, slots := 0, locals := 12 } : Room) #[(.ref o)] h0 (zSame (some (.long (Int64.ofNat (n)))) h0) := by
  obtain ⟨L, q0, (⟨e, vs, q1, q2, -, q3, rfl⟩ | ⟨rfl, q2, em, q3, q4⟩ | ⟨rfl, q2, em, x, q3, q4, q5⟩)⟩ := hN
  · exact c_nsN l hw C O0 L e vs q1 q2 q3 hn o E_o q0
  · exact c_ns1 l hw C O0 L em q2 q3 q4 o E_o q0
  · exact c_ns2 l hw C O0 L em x q2 q3 q4 q5 o E_o q0
theorem w94 (hw : HW a0 Z) : (Cond.stringLink "com/example/kick/kick/value/CloseReport" 73 "CloseReport[completed=").before a0 Z = true := hwi hw 94 rfl
theorem w98 (hw : HW a0 Z) : (Cond.soleField "java/lang/String" "value").before a0 Z = true := hwi hw 98 rfl
theorem w99 (hw : HW a0 Z) : (Cond.soleField "java/lang/String" "coder").before a0 Z = true := hwi hw 99 rfl
theorem w198 (hw : HW a0 Z) : (Cond.stringLink "com/example/kick/kick/value/CloseReport" 75 ", notStarted=").before a0 Z = true := hwi hw 198 rfl
theorem w216 (hw : HW a0 Z) : (Cond.stringLink "com/example/kick/kick/value/CloseReport" 81 ", interrupted=").before a0 Z = true := hwi hw 216 rfl
theorem w217 (hw : HW a0 Z) : (Cond.stringLink "com/example/kick/kick/value/CloseReport" 83 "]").before a0 Z = true := hwi hw 217 rfl
theorem w264 (hw : HW a0 Z) : (Cond.stringLink "com/example/kick/kick/value/CloseReportToStringPinLaw" 43 "CloseReport[completed=").before a0 Z = true := hwi hw 264 rfl
theorem w299 (hw : HW a0 Z) : (Cond.stringLink "com/example/kick/kick/value/CloseReportToStringPinLaw" 53 ", notStarted=").before a0 Z = true := hwi hw 299 rfl
theorem w300 (hw : HW a0 Z) : (Cond.stringLink "com/example/kick/kick/value/CloseReportToStringPinLaw" 59 ", interrupted=").before a0 Z = true := hwi hw 300 rfl
def t_0 : List Int8 := [67, 108, 111, 115, 101, 82, 101, 112, 111, 114, 116, 91, 99, 111, 109, 112, 108, 101, 116, 101, 100, 61]
theorem tx_0 : (∀ c ∈ "CloseReport[completed=".toList, c.toNat < 256) ∧ "CloseReport[completed=".toList.map (fun c => Value.int (Jvm.Lit.byteI c.toNat.toUInt16)) = t_0.map zbv := by decide +kernel
theorem tl_0 : t_0.length = 22 := rfl
def t_1 : List Int8 := [44, 32, 110, 111, 116, 83, 116, 97, 114, 116, 101, 100, 61]
theorem tx_1 : (∀ c ∈ ", notStarted=".toList, c.toNat < 256) ∧ ", notStarted=".toList.map (fun c => Value.int (Jvm.Lit.byteI c.toNat.toUInt16)) = t_1.map zbv := by decide +kernel
theorem tl_1 : t_1.length = 13 := rfl
def t_2 : List Int8 := [44, 32, 105, 110, 116, 101, 114, 114, 117, 112, 116, 101, 100, 61]
theorem tx_2 : (∀ c ∈ ", interrupted=".toList, c.toNat < 256) ∧ ", interrupted=".toList.map (fun c => Value.int (Jvm.Lit.byteI c.toNat.toUInt16)) = t_2.map zbv := by decide +kernel
theorem tl_2 : t_2.length = 14 := rfl
def t_3 : List Int8 := [93]
theorem tx_3 : (∀ c ∈ "]".toList, c.toNat < 256) ∧ "]".toList.map (fun c => Value.int (Jvm.Lit.byteI c.toNat.toUInt16)) = t_3.map zbv := by decide +kernel
theorem tl_3 : t_3.length = 1 := rfl
def t_4 : List Int8 := [67, 108, 111, 115, 101, 82, 101, 112, 111, 114, 116, 91, 99, 111, 109, 112, 108, 101, 116, 101, 100, 61]
theorem tx_4 : (∀ c ∈ "CloseReport[completed=".toList, c.toNat < 256) ∧ "CloseReport[completed=".toList.map (fun c => Value.int (Jvm.Lit.byteI c.toNat.toUInt16)) = t_4.map zbv := by decide +kernel
theorem tl_4 : t_4.length = 22 := rfl
def t_5 : List Int8 := [44, 32, 110, 111, 116, 83, 116, 97, 114, 116, 101, 100, 61]
theorem tx_5 : (∀ c ∈ ", notStarted=".toList, c.toNat < 256) ∧ ", notStarted=".toList.map (fun c => Value.int (Jvm.Lit.byteI c.toNat.toUInt16)) = t_5.map zbv := by decide +kernel
theorem tl_5 : t_5.length = 13 := rfl
def t_6 : List Int8 := [44, 32, 105, 110, 116, 101, 114, 114, 117, 112, 116, 101, 100, 61]
theorem tx_6 : (∀ c ∈ ", interrupted=".toList, c.toNat < 256) ∧ ", interrupted=".toList.map (fun c => Value.int (Jvm.Lit.byteI c.toNat.toUInt16)) = t_6.map zbv := by decide +kernel
theorem tl_6 : t_6.length = 14 := rfl
theorem ewc (hw : HW a0 Z) : EW Z a0 consts_1 := (EW.cons (w94 hw) tx_0.1 (EW.cons (w198 hw) tx_1.1 (EW.cons (w216 hw) tx_2.1 (EW.cons (w217 hw) tx_3.1 (EW.cons (w264 hw) tx_4.1 (EW.cons (w299 hw) tx_5.1 (EW.cons (w300 hw) tx_6.1 EW.nil)))))))
theorem Sx.mk {Z : State} {h : Heap} {r b : Addr} {xs : List Int8} (q1 : Exa Z h r "java/lang/String") (q2 : Fld Z h r "java/lang/String" "value" "[B" (.ref b)) (q3 : Fld Z h r "java/lang/String" "coder" "B" (.int 0)) (q4 : zBt Z h b xs) : Sx Z h r b xs := ⟨q1, q2, q3, q4⟩
theorem Sx.ext {Z : State} {h h' : Heap} {r b : Addr} {xs : List Int8} (B : Sx Z h r b xs) (E : Ext h h') : Sx Z h' r b xs := ⟨B.1.ext E, B.2.1.ext E, B.2.2.1.ext E, B.2.2.2.ext E⟩
theorem wS {Z : State} {a0 : Array Value} (hw : HW a0 Z) : ∀ a ∈ Bundle.stringAtoms, a.before a0 Z = true := by
  intro a ha
  simp only [Bundle.stringAtoms, Bundle.sN, List.mem_cons, List.not_mem_nil, or_false] at ha
  rcases ha with rfl | rfl | rfl | rfl | rfl | rfl | rfl
  · exact (w88 hw)
  · exact (w95 hw)
  · exact (w89 hw)
  · exact (w96 hw)
  · exact (w97 hw)
  · exact (w98 hw)
  · exact (w99 hw)
def Sm3 (c n i : Nat) : List Int8 := [] ++ t_0 ++ dec c ++ t_1 ++ dec n ++ t_2 ++ dec i ++ t_3
theorem Sm3_len {c n i : Nat} (hn : n < 10) : (Sm3 c n i).length = 51 + (dec c).length + (dec i).length := by
  unfold Sm3
  rw [dec_lt hn]
  simp only [List.length_append, List.length_nil, List.length_cons, tl_0, tl_1, tl_2, tl_3]; omega
theorem mid_at {A B C : List Int8} {p k : Nat} (hp : p = A.length) (h : k < B.length) : (A ++ B ++ C)[p + k]? = B[k]? := by
  subst hp
  rw [List.append_assoc, List.getElem?_append_right (by omega), Nat.add_sub_cancel_left, List.getElem?_append_left h]
theorem dec_at : ∀ (i n : Nat), i < (dec n).length → (dec n)[(dec n).length - (i + 1)]? = some (dg (n / 10 ^ i % 10))
  | 0, n, _ => by
    by_cases q : n < 10
    · rw [dec_lt q, Nat.pow_zero, Nat.div_one, Nat.mod_eq_of_lt q]; rfl
    · rw [dec_ge q, List.length_append, Nat.pow_zero, Nat.div_one, List.getElem?_append_right (by show _ ≤ _ + 1 - 1; omega)]
      show [dg (n % 10)][_ + 1 - 1 - _]? = _
      rw [Nat.add_sub_cancel, Nat.sub_self]; rfl
  | i + 1, n, h => by
    by_cases q : n < 10
    · rw [dec_lt q] at h; exact absurd h (by show ¬ i + 1 < 1; omega)
    · have hl : (dec n).length = (dec (n / 10)).length + 1 := by rw [dec_ge q, List.length_append]; rfl
      have h2 : i < (dec (n / 10)).length := by omega
      have ih := dec_at i (n / 10) h2
      rw [Nat.div_div_eq_div_mul, ← Nat.pow_succ'] at ih
      rw [← ih, hl, show (dec (n / 10)).length + 1 - (i + 1 + 1) = (dec (n / 10)).length - (i + 1) from by omega, dec_ge q, List.getElem?_append_left (by omega)]
theorem sm_a (c n i : Nat) : Sm3 c n i = [] ++ t_0 ++ (dec c ++ t_1 ++ dec n ++ t_2 ++ dec i ++ t_3) := by simp only [Sm3, List.append_assoc]
theorem sm_b (c n i : Nat) : Sm3 c n i = t_0 ++ dec c ++ (t_1 ++ dec n ++ t_2 ++ dec i ++ t_3) := by simp only [Sm3, List.append_assoc, List.nil_append]
theorem sm_c (c n i : Nat) : Sm3 c n i = (t_0 ++ dec c) ++ t_1 ++ (dec n ++ t_2 ++ dec i ++ t_3) := by simp only [Sm3, List.append_assoc, List.nil_append]
theorem sm_d (c n i : Nat) : Sm3 c n i = (t_0 ++ dec c ++ t_1) ++ dec n ++ (t_2 ++ dec i ++ t_3) := by simp only [Sm3, List.append_assoc, List.nil_append]
theorem sm_e (c n i : Nat) : Sm3 c n i = (t_0 ++ dec c ++ t_1 ++ dec n) ++ t_2 ++ (dec i ++ t_3) := by simp only [Sm3, List.append_assoc, List.nil_append]
theorem sm_f (c n i : Nat) : Sm3 c n i = (t_0 ++ dec c ++ t_1 ++ dec n ++ t_2) ++ dec i ++ t_3 := by simp only [Sm3, List.append_assoc, List.nil_append]
theorem sm_g (c n i : Nat) : Sm3 c n i = (t_0 ++ dec c ++ t_1 ++ dec n ++ t_2 ++ dec i) ++ t_3 ++ [] := by simp only [Sm3, List.append_assoc, List.nil_append, List.append_nil]
theorem l_c (c : Nat) : (t_0 ++ dec c).length = 22 + (dec c).length := by rw [List.length_append, tl_0]
theorem l_d (c : Nat) : (t_0 ++ dec c ++ t_1).length = 22 + (dec c).length + 13 := by rw [List.length_append, l_c, tl_1]
theorem l_e {c n : Nat} (hn : n < 10) : (t_0 ++ dec c ++ t_1 ++ dec n).length = 22 + (dec c).length + 13 + 1 := by rw [List.length_append, l_d, dec_lt hn]; rfl
theorem l_f {c n : Nat} (hn : n < 10) : (t_0 ++ dec c ++ t_1 ++ dec n ++ t_2).length = 22 + (dec c).length + 13 + 1 + 14 := by rw [List.length_append, l_e hn, tl_2]
theorem l_g {c n i : Nat} (hn : n < 10) : (t_0 ++ dec c ++ t_1 ++ dec n ++ t_2 ++ dec i).length = 22 + (dec c).length + 13 + 1 + 14 + (dec i).length := by rw [List.length_append, l_f hn]
theorem at_lit1 {c n i k : Nat} (h : k < t_4.length) : (Sm3 c n i)[0 + k]? = t_4[k]? := by rw [sm_a]; exact mid_at (B := t_0) rfl h
theorem at_num1 {c n i j : Nat} (h : j < (dec c).length) : (Sm3 c n i)[22 + (dec c).length - (j + 1)]? = some (dg (c / 10 ^ j % 10)) := by
  rw [sm_b, show 22 + (dec c).length - (j + 1) = 22 + ((dec c).length - (j + 1)) from by omega, mid_at tl_0.symm (by omega), dec_at j c h]
theorem at_lit2 {c n i k : Nat} (h : k < t_5.length) : (Sm3 c n i)[22 + (dec c).length + k]? = t_5[k]? := by rw [sm_c]; exact mid_at (B := t_1) (l_c c).symm h
theorem at_n {c n i : Nat} (hn : n < 10) : (Sm3 c n i)[22 + (dec c).length + 13]? = some (dg n) := by
  rw [sm_d, ← Nat.add_zero (22 + (dec c).length + 13), mid_at (l_d c).symm (by rw [dec_lt hn]; exact Nat.one_pos), dec_lt hn]; rfl
theorem at_lit3 {c n i k : Nat} (hn : n < 10) (h : k < t_6.length) : (Sm3 c n i)[22 + (dec c).length + 13 + 1 + k]? = t_6[k]? := by rw [sm_e]; exact mid_at (B := t_2) (l_e hn).symm h
theorem at_num2 {c n i j : Nat} (hn : n < 10) (h : j < (dec i).length) : (Sm3 c n i)[22 + (dec c).length + 13 + 1 + 14 + (dec i).length - (j + 1)]? = some (dg (i / 10 ^ j % 10)) := by
  rw [sm_f, show 22 + (dec c).length + 13 + 1 + 14 + (dec i).length - (j + 1) = 22 + (dec c).length + 13 + 1 + 14 + ((dec i).length - (j + 1)) from by omega, mid_at (l_f hn).symm (by omega), dec_at j i h]
theorem at_end {c n i : Nat} (hn : n < 10) : (Sm3 c n i)[22 + (dec c).length + 13 + 1 + 14 + (dec i).length]? = some 93 := by
  rw [sm_g, ← Nat.add_zero (22 + (dec c).length + 13 + 1 + 14 + (dec i).length), mid_at (l_g hn).symm (by rw [tl_3]; exact Nat.one_pos)]; rfl

theorem w29 (hw : HW a0 Z) : (Cond.initialized "com/example/kick/kick/value/CloseReport").before a0 Z = true := hwi hw 29 rfl
theorem w74 (hw : HW a0 Z) : (Cond.classLink "com/example/kick/kick/value/CloseReport" 9 "java/lang/StringBuilder").before a0 Z = true := hwi hw 74 rfl
theorem w77 (hw : HW a0 Z) : (Cond.methodLink "com/example/kick/kick/value/CloseReport" 11 ⟨"java/lang/StringBuilder", "<init>", "()V"⟩).before a0 Z = true := hwi hw 77 rfl
theorem w78 (hw : HW a0 Z) : (Cond.instanceMethod ⟨"java/lang/StringBuilder", "<init>", "()V"⟩).before a0 Z = true := hwi hw 78 rfl
theorem w79 (hw : HW a0 Z) : (Cond.code ⟨"java/lang/StringBuilder", "<init>", "()V"⟩ jdk_67_method_1_code 1 (Option.none : Option Jvm.ClassFile.FieldType)).before a0 Z = true := hwi hw 79 rfl
theorem w100 (hw : HW a0 Z) : (Cond.methodLink "com/example/kick/kick/value/CloseReport" 14 ⟨"java/lang/StringBuilder", "append", "(Ljava/lang/String;)Ljava/lang/StringBuilder;"⟩).before a0 Z = true := hwi hw 100 rfl
theorem w101 (hw : HW a0 Z) : (Cond.declares ⟨"java/lang/StringBuilder", "append", "(Ljava/lang/String;)Ljava/lang/StringBuilder;"⟩).before a0 Z = true := hwi hw 101 rfl
theorem w102 (hw : HW a0 Z) : (Cond.instanceMethod ⟨"java/lang/StringBuilder", "append", "(Ljava/lang/String;)Ljava/lang/StringBuilder;"⟩).before a0 Z = true := hwi hw 102 rfl
theorem w103 (hw : HW a0 Z) : (Cond.selects "java/lang/StringBuilder" ⟨"java/lang/StringBuilder", "append", "(Ljava/lang/String;)Ljava/lang/StringBuilder;"⟩ ⟨"java/lang/StringBuilder", "append", "(Ljava/lang/String;)Ljava/lang/StringBuilder;"⟩).before a0 Z = true := hwi hw 103 rfl
theorem w104 (hw : HW a0 Z) : (Cond.code ⟨"java/lang/StringBuilder", "append", "(Ljava/lang/String;)Ljava/lang/StringBuilder;"⟩ jdk_67_method_7_code 2 (Option.some (FieldType.object "java/lang/StringBuilder"))).before a0 Z = true := hwi hw 104 rfl
theorem w173 (hw : HW a0 Z) : (Cond.methodLink "com/example/kick/kick/value/CloseReport" 18 ⟨"java/lang/StringBuilder", "append", "(J)Ljava/lang/StringBuilder;"⟩).before a0 Z = true := hwi hw 173 rfl
theorem w174 (hw : HW a0 Z) : (Cond.declares ⟨"java/lang/StringBuilder", "append", "(J)Ljava/lang/StringBuilder;"⟩).before a0 Z = true := hwi hw 174 rfl
theorem w175 (hw : HW a0 Z) : (Cond.instanceMethod ⟨"java/lang/StringBuilder", "append", "(J)Ljava/lang/StringBuilder;"⟩).before a0 Z = true := hwi hw 175 rfl
theorem w176 (hw : HW a0 Z) : (Cond.selects "java/lang/StringBuilder" ⟨"java/lang/StringBuilder", "append", "(J)Ljava/lang/StringBuilder;"⟩ ⟨"java/lang/StringBuilder", "append", "(J)Ljava/lang/StringBuilder;"⟩).before a0 Z = true := hwi hw 176 rfl
theorem w177 (hw : HW a0 Z) : (Cond.code ⟨"java/lang/StringBuilder", "append", "(J)Ljava/lang/StringBuilder;"⟩ jdk_67_method_16_code 3 (Option.some (FieldType.object "java/lang/StringBuilder"))).before a0 Z = true := hwi hw 177 rfl
theorem w199 (hw : HW a0 Z) : (Cond.methodLink "com/example/kick/kick/value/CloseReport" 77 ⟨"com/example/kick/kick/value/CloseReport", "notStarted", "()J"⟩).before a0 Z = true := hwi hw 199 rfl
theorem w200 (hw : HW a0 Z) : (Cond.declares ⟨"com/example/kick/kick/value/CloseReport", "notStarted", "()J"⟩).before a0 Z = true := hwi hw 200 rfl
theorem w201 (hw : HW a0 Z) : (Cond.instanceMethod ⟨"com/example/kick/kick/value/CloseReport", "notStarted", "()J"⟩).before a0 Z = true := hwi hw 201 rfl
theorem w202 (hw : HW a0 Z) : (Cond.selects "com/example/kick/kick/value/CloseReport" ⟨"com/example/kick/kick/value/CloseReport", "notStarted", "()J"⟩ ⟨"com/example/kick/kick/value/CloseReport", "notStarted", "()J"⟩).before a0 Z = true := hwi hw 202 rfl
theorem w203 (hw : HW a0 Z) : (Cond.code ⟨"com/example/kick/kick/value/CloseReport", "notStarted", "()J"⟩ prog_9_method_3_code 1 (Option.some FieldType.long)).before a0 Z = true := hwi hw 203 rfl
theorem w218 (hw : HW a0 Z) : (Cond.methodLink "com/example/kick/kick/value/CloseReport" 21 ⟨"java/lang/StringBuilder", "toString", "()Ljava/lang/String;"⟩).before a0 Z = true := hwi hw 218 rfl
theorem w219 (hw : HW a0 Z) : (Cond.declares ⟨"java/lang/StringBuilder", "toString", "()Ljava/lang/String;"⟩).before a0 Z = true := hwi hw 219 rfl
theorem w220 (hw : HW a0 Z) : (Cond.instanceMethod ⟨"java/lang/StringBuilder", "toString", "()Ljava/lang/String;"⟩).before a0 Z = true := hwi hw 220 rfl
theorem w221 (hw : HW a0 Z) : (Cond.selects "java/lang/StringBuilder" ⟨"java/lang/StringBuilder", "toString", "()Ljava/lang/String;"⟩ ⟨"java/lang/StringBuilder", "toString", "()Ljava/lang/String;"⟩).before a0 Z = true := hwi hw 221 rfl
theorem w222 (hw : HW a0 Z) : (Cond.code ⟨"java/lang/StringBuilder", "toString", "()Ljava/lang/String;"⟩ jdk_67_method_42_code 1 (Option.some (FieldType.object "java/lang/String"))).before a0 Z = true := hwi hw 222 rfl
theorem d49_0 : decode prog_9_method_7_code 0 = .ok (.new 9, 3) := by decide +kernel
theorem d49_3 : decode prog_9_method_7_code 3 = .ok (.dup, 1) := by decide +kernel
theorem d49_4 : decode prog_9_method_7_code 4 = .ok (.invokespecial 11, 3) := by decide +kernel
theorem d49_7 : decode prog_9_method_7_code 7 = .ok (.ldc 73, 2) := by decide +kernel
theorem d49_9 : decode prog_9_method_7_code 9 = .ok (.invokevirtual 14, 3) := by decide +kernel
theorem d49_12 : decode prog_9_method_7_code 12 = .ok (.aload_n 0, 1) := by decide +kernel
theorem d49_13 : decode prog_9_method_7_code 13 = .ok (.getfield 30, 3) := by decide +kernel
theorem d49_16 : decode prog_9_method_7_code 16 = .ok (.invokevirtual 18, 3) := by decide +kernel
theorem d49_19 : decode prog_9_method_7_code 19 = .ok (.ldc 75, 2) := by decide +kernel
theorem d49_21 : decode prog_9_method_7_code 21 = .ok (.invokevirtual 14, 3) := by decide +kernel
theorem d49_24 : decode prog_9_method_7_code 24 = .ok (.aload_n 0, 1) := by decide +kernel
theorem d49_25 : decode prog_9_method_7_code 25 = .ok (.invokevirtual 77, 3) := by decide +kernel
theorem d49_28 : decode prog_9_method_7_code 28 = .ok (.invokevirtual 18, 3) := by decide +kernel
theorem d49_31 : decode prog_9_method_7_code 31 = .ok (.ldc 81, 2) := by decide +kernel
theorem d49_33 : decode prog_9_method_7_code 33 = .ok (.invokevirtual 14, 3) := by decide +kernel
theorem d49_36 : decode prog_9_method_7_code 36 = .ok (.aload_n 0, 1) := by decide +kernel
theorem d49_37 : decode prog_9_method_7_code 37 = .ok (.getfield 36, 3) := by decide +kernel
theorem d49_40 : decode prog_9_method_7_code 40 = .ok (.invokevirtual 18, 3) := by decide +kernel
theorem d49_43 : decode prog_9_method_7_code 43 = .ok (.ldc 83, 2) := by decide +kernel
theorem d49_45 : decode prog_9_method_7_code 45 = .ok (.invokevirtual 14, 3) := by decide +kernel
theorem d49_48 : decode prog_9_method_7_code 48 = .ok (.invokevirtual 21, 3) := by decide +kernel
theorem d49_51 : decode prog_9_method_7_code 51 = .ok (.areturn, 1) := by decide +kernel
theorem pd_29 : parseMethodDescriptor "()V" = some ⟨[], none⟩ := by decide +kernel
theorem pd_30 : parseMethodDescriptor "(Ljava/lang/String;)Ljava/lang/StringBuilder;" = some ⟨[(.object "java/lang/String")], some (.object "java/lang/StringBuilder")⟩ := by decide +kernel
theorem pd_31 : parseMethodDescriptor "(J)Ljava/lang/StringBuilder;" = some ⟨[.long], some (.object "java/lang/StringBuilder")⟩ := by decide +kernel
theorem pd_32 : parseMethodDescriptor "()J" = some ⟨[], some .long⟩ := by decide +kernel
theorem pd_33 : parseMethodDescriptor "()Ljava/lang/String;" = some ⟨[], some (.object "java/lang/String")⟩ := by decide +kernel
def GR (cap len cells slots : Nat) : Prop := len ≤ cap ∧ ((cap = 16 ∧ cells = 0 ∧ slots = 0) ∨ (cap = 34 ∧ cells ≤ 1 ∧ slots ≤ 34) ∨ (cap = 70 ∧ 34 < len ∧ cells ≤ 2 ∧ slots ≤ 104) ∨ (cap = 142 ∧ 70 < len ∧ cells ≤ 3 ∧ slots ≤ 246))
theorem GR.le {cap len cells slots : Nat} (G : GR cap len cells slots) : len ≤ cap ∧ cap ≤ 142 ∧ cells ≤ 3 ∧ slots ≤ 246 := by unfold GR at G; omega
theorem GR.step {cap len cells slots len' : Nat} (G : GR cap len cells slots) (h1 : len ≤ len') (h2 : len' ≤ len + 22) (h3 : len' ≤ 142) (h4 : cap = 16 → len = 0 ∧ len' = 22) : GR (gcap cap len') len' (cells + gcell cap len') (slots + gslot cap len') := by
  unfold GR gcap gcell gslot ncap at *
  split <;> omega
theorem GR.start : GR 16 ([] : List Int8).length 0 0 := by unfold GR; decide
theorem t_cold (hw : HW a0 Z) (C : Ctx Z cs d1 d2 o1 o2) (O0 : zOd Z n0 h0) (cc n ii : Nat) (hcc : cc < 9223372036854775808) (hn : n < 10) (hii : ii < 9223372036854775808) (hn0 : n0 = h0.size) (o : Addr) (E_o : Exa Z h0 o "com/example/kick/kick/value/CloseReport") (F_o_completed : Fld Z h0 o "com/example/kick/kick/value/CloseReport" "completed" "J" (.long (Int64.ofNat (cc)))) (F_o_interrupted : Fld Z h0 o "com/example/kick/kick/value/CloseReport" "interrupted" "J" (.long (Int64.ofNat (ii)))) (hN : NS Z h0 o n) : yConW l Z (⟨"com/example/kick/kick/value/CloseReport", "toString", "()Ljava/lang/String;"⟩ : MethodName) prog_9_method_7_code 1 (some (.object "java/lang/String")) [] ({ frames := 6, cells := 16, slots := 900, locals := 102 } : Room) #[(.ref o)] (fun v => CHv Z consts_1 v h0) h0 (fun v' v h L => ∃ t x : Addr, v' = some (.ref t) ∧ Fr n0 L ∧ Keep h0 h [] ∧ Sx Z h t x (Sm3 cc n ii) ∧ h0.size ≤ t ∧ h0.size ≤ x ∧ CHv Z consts_1 v h) := by
  refine yenterW (plainFor_of_name pn_10) (L0 := #[rv o]) (fun m => by first | (simp [entryFrame, mkF, argsToLocals, Value.category]; done) | rfl) ?_
  intro p e s0 v0 m below meth c T0 hx hZ hby hml hown0 hnm hret hlk X0 e0 hS eh hP
  have hown : v0.findClass "com/example/kick/kick/value/CloseReport" = some m.cls := hown0
  have K0 := Keep.refl h0 []
  have N0 := Fr.nil n0
  have H0 := hP
  have d0_ := dec_len_le 18 cc (by omega)
  have d1_ := dec_len_le 18 ii (by omega)
  have d2_ : (dec n).length = 1 := by rw [dec_lt hn]; rfl
  have tl0 := tl_0
  have tl1 := tl_1
  have tl2 := tl_2
  have tl3 := tl_3
  have nl0 : ([] : List Int8).length = 0 := rfl
  show yEndsW p e below s0 T0 (mkF m 0 #[rv o] []) _ _ _
  refine ynewobj X0 hx hby d49_0 hZ hown (w74 hw) (w75 hw) (w76 hw) e0 (by first | decide | omega | (dsimp only; omega)) (by first | decide | omega | (dsimp only; omega)) fun T1 h1 b1 X1 e1 y1 Ex1 E1_b1 D1 => ?_
  have O1 := O0.ext Ex1
  have K1 := Keep.ext K0 Ex1
  have hS := hS.ext Ex1
  have H1 := CHv.ext Ex1 H0
  have g1 : n0 ≤ b1 := by rw [y1]; exact zodsz O0
  have z1 : h0.size ≤ b1 := by rw [y1]; exact K0.1
  have F1_b1_value : Fld Z h1 b1 "java/lang/AbstractStringBuilder" "value" "[B" .null := D1 (Or.inl (w91 hw)) (ty := (.array .byte)) (by decide)
  have F1_b1_coder : Fld Z h1 b1 "java/lang/AbstractStringBuilder" "coder" "B" (.int 0) := D1 (Or.inl (w93 hw)) (ty := .byte) (by decide)
  have F1_b1_count : Fld Z h1 b1 "java/lang/AbstractStringBuilder" "count" "I" (.int 0) := D1 (Or.inl (w124 hw)) (ty := .int) (by decide)
  refine ydup X1 hx hby d49_3 rfl ?_
  show yEndsW p e below s0 T1 (mkF m 4 #[rv o] [(.ref b1), (.ref b1)]) _ _ _
  refine ycallsp X1 hx hby d49_4 hZ hown rfl (w77 hw) (w78 hw) (w79 hw) (w76 hw) e1 (c_init l hw  C O1 b1 E1_b1 F1_b1_value F1_b1_coder F1_b1_count g1) hml 1 pd_29 (argsL := []) (st := [(.ref b1)]) fun T2 h2 v2 L2 e2 X2 q2 => ?_
  obtain ⟨rfl, N2q, K2q, b2, B2_a, g2_b, y2⟩ := q2
  have O2 := O1.keep K2q (allS g1 all0)
  have K2 := Keep.trans K1 K2q (allS (Or.inr z1) all0)
  have hS := hS.keep K2q
  have N2 := Fr.app N0 N2q
  have z2 : h0.size ≤ b2 := Nat.le_trans K1.1 y2
  have hs2 := allS (P := Safe Z consts_1 _ _) (Safe.exa hZ.alike E1_b1 (by decide) (by decide)) all0
  have H2 := CHv.keep K2q hs2 H1
  have sf2 := ysafeNew H1 K2q hs2 y2
  have G0 := GR.start
  have J0 := G0.le
  show yEndsW p e below s0 T2 (mkF m 7 #[rv o] [(.ref b1)]) _ _ _
  refine yldcH X2 hx hby d49_7 hZ hown (w94 hw) (wS hw) e2 hS (ewc hw) (List.mem_of_getElem? (i := 0) rfl) H2 t_0 tx_0 (by decide +kernel) 88 (fun v3 T3 h3 r73 x73 X3 e3 Ex3 hZ hown hS E3_r V3_r C3_r A3_x A3 ns3 => ?_) (by decide +kernel) (by decide +kernel) (by first | decide | omega | (dsimp only; omega)) (by first | decide | omega | (dsimp only; omega))
  have O3 := O2.ext Ex3
  have K3 := Keep.ext K2 Ex3
  have B3_x := B2_a.ext Ex3
  have sf3 := A3.safe B2_a.lt sf2
  have ns3_b1 := ns3 b1 (Safe.exa hZ.alike (Sb.exa B3_x) (by decide) (by decide))
  have ns3_b2 := ns3 b2 sf3
  have L3_r73 := Sx.mk E3_r V3_r C3_r A3_x
  show yEndsW p e below s0 T3 (mkF m 9 #[rv o] [(.ref r73), (.ref b1)]) _ _ _
  have G1 := GR.step G0 (len' := (([] : List Int8).length + (t_0).length)) (by omega) (by omega) (by omega) (by omega)
  have J1 := G1.le
  refine ycallv X3 hx hby d49_9 hZ hown (w100 hw) (w101 hw) (notFace_of_selects (args := #[]) (mvT hZ (w103 hw))) (w103 hw) (w102 hw) (w104 hw) (w76 hw) e3 (Sb.exa B3_x) (c_appstr l hw  C O3 b1 b2 ([]) 16 B3_x (by omega) g1 g2_b r73 x73 t_0 L3_r73 (by decide +kernel) (Ne.symm ns3_b1.1) (Ne.symm ns3_b2.1) (Ne.symm ns3_b1.2) (Ne.symm ns3_b2.2)) hml 0 pd_30 (argsL := [(.ref r73)]) (st := []) fun T4 h4 v4 L4 e4 X4 q4 => ?_
  obtain ⟨rfl, N4q, K4q, b4, B4_a, g4_b, o4⟩ := q4
  have O4 := O3.keep K4q (allS g1 (allS g2_b all0))
  have K4 := Keep.trans K3 K4q (allS (Or.inr z1) (allS (Or.inr z2) all0))
  have i4 : b4 ∈ ([] : List Addr) ∨ h0.size ≤ b4 := (o4.elim (fun q => q ▸ (Or.inr z2)) (fun q => Or.inr (Nat.le_trans K3.1 q)))
  have hS := hS.keep K4q
  have N4 := Fr.app N2 N4q
  have hs4 := allS (P := Safe Z consts_1 _ _) (Safe.exa hZ.alike (Sb.exa B3_x) (by decide) (by decide)) (allS sf3 all0)
  have H4 := CHv.keep K4q hs4 A3.1
  have sf4 : Safe Z consts_1 _ _ b4 := o4.elim (fun q => q ▸ Safe.keep K4q hs4 A3.1 sf3) (fun q => ysafeNew A3.1 K4q hs4 q)
  obtain ⟨S1, hS1⟩ : ∃ z, z = [] ++ t_0 := ⟨_, rfl⟩
  rw [← hS1] at B4_a
  have hl1 : S1.length = (([] : List Int8).length + (t_0).length) := by rw [hS1, List.length_append]
  generalize gcap 16 (([] : List Int8).length + (t_0).length) = cap1 at B4_a G1 J1
  generalize gcell 16 (([] : List Int8).length + (t_0).length) = gc1 at X4 G1 J1
  generalize gslot 16 (([] : List Int8).length + (t_0).length) = gs1 at X4 G1 J1
  rw [← hl1] at G1 J1
  refine yaloadN X4 hx hby d49_12 rfl rfl (ygetfld X4 hx hby d49_13 hZ hown (host := "") (Or.inl (w34 hw)) Via.refl e4 (F_o_completed.keep K4 nin0) fun T5 X5 e5 => ?_)
  show yEndsW p e below s0 T5 (mkF m 16 #[rv o] [(.long (Int64.ofNat (cc))), (.ref b1)]) _ _ _
  have G2 := GR.step G1 (len' := ((S1 : List Int8).length + (dec cc).length)) (by omega) (by omega) (by omega) (by omega)
  have J2 := G2.le
  refine ycallv X5 hx hby d49_16 hZ hown (w173 hw) (w174 hw) (notFace_of_selects (args := #[]) (mvT hZ (w176 hw))) (w176 hw) (w175 hw) (w177 hw) (w76 hw) e5 (Sb.exa B4_a) (c_appJ l hw  C O4 b1 b4 (S1) cap1 B4_a (by omega) g1 g4_b cc (by omega)) hml 0 pd_31 (argsL := [(.long (Int64.ofNat (cc)))]) (st := []) fun T6 h6 v6 L6 e6 X6 q6 => ?_
  obtain ⟨rfl, N6q, K6q, b6, B6_a, g6_b, o6⟩ := q6
  have O6 := O4.keep K6q (allS g1 (allS g4_b all0))
  have K6 := Keep.trans K4 K6q (allS (Or.inr z1) (allS i4 all0))
  have i6 : b6 ∈ ([] : List Addr) ∨ h0.size ≤ b6 := (o6.elim (fun q => q ▸ i4) (fun q => Or.inr (Nat.le_trans K4.1 q)))
  have hS := hS.keep K6q
  have N6 := Fr.app N4 N6q
  have hs6 := allS (P := Safe Z consts_1 _ _) (Safe.exa hZ.alike (Sb.exa B4_a) (by decide) (by decide)) (allS sf4 all0)
  have H6 := CHv.keep K6q hs6 H4
  have sf6 : Safe Z consts_1 _ _ b6 := o6.elim (fun q => q ▸ Safe.keep K6q hs6 H4 sf4) (fun q => ysafeNew H4 K6q hs6 q)
  obtain ⟨S2, hS2⟩ : ∃ z, z = S1 ++ dec cc := ⟨_, rfl⟩
  rw [← hS2] at B6_a
  have hl2 : S2.length = ((S1 : List Int8).length + (dec cc).length) := by rw [hS2, List.length_append]
  generalize gcap cap1 ((S1 : List Int8).length + (dec cc).length) = cap2 at B6_a G2 J2
  generalize gcell cap1 ((S1 : List Int8).length + (dec cc).length) = gc2 at X6 G2 J2
  generalize gslot cap1 ((S1 : List Int8).length + (dec cc).length) = gs2 at X6 G2 J2
  rw [← hl2] at G2 J2
  show yEndsW p e below s0 T6 (mkF m 19 #[rv o] [(.ref b1)]) _ _ _
  refine yldcH X6 hx hby d49_19 hZ hown (w198 hw) (wS hw) e6 hS (ewc hw) (List.mem_of_getElem? (i := 1) rfl) H6 t_1 tx_1 (by decide +kernel) 52 (fun v7 T7 h7 r75 x75 X7 e7 Ex7 hZ hown hS E7_r V7_r C7_r A7_x A7 ns7 => ?_) (by decide +kernel) (by decide +kernel) (by first | decide | omega | (dsimp only; omega)) (by first | decide | omega | (dsimp only; omega))
  have O7 := O6.ext Ex7
  have K7 := Keep.ext K6 Ex7
  have B7_x := B6_a.ext Ex7
  have sf7 := A7.safe B6_a.lt sf6
  have ns7_b1 := ns7 b1 (Safe.exa hZ.alike (Sb.exa B7_x) (by decide) (by decide))
  have ns7_b6 := ns7 b6 sf7
  have L7_r75 := Sx.mk E7_r V7_r C7_r A7_x
  show yEndsW p e below s0 T7 (mkF m 21 #[rv o] [(.ref r75), (.ref b1)]) _ _ _
  have G3 := GR.step G2 (len' := ((S2 : List Int8).length + (t_1).length)) (by omega) (by omega) (by omega) (by omega)
  have J3 := G3.le
  refine ycallv X7 hx hby d49_21 hZ hown (w100 hw) (w101 hw) (notFace_of_selects (args := #[]) (mvT hZ (w103 hw))) (w103 hw) (w102 hw) (w104 hw) (w76 hw) e7 (Sb.exa B7_x) (c_appstr l hw  C O7 b1 b6 (S2) cap2 B7_x (by omega) g1 g6_b r75 x75 t_1 L7_r75 (by decide +kernel) (Ne.symm ns7_b1.1) (Ne.symm ns7_b6.1) (Ne.symm ns7_b1.2) (Ne.symm ns7_b6.2)) hml 0 pd_30 (argsL := [(.ref r75)]) (st := []) fun T8 h8 v8 L8 e8 X8 q8 => ?_
  obtain ⟨rfl, N8q, K8q, b8, B8_a, g8_b, o8⟩ := q8
  have O8 := O7.keep K8q (allS g1 (allS g6_b all0))
  have K8 := Keep.trans K7 K8q (allS (Or.inr z1) (allS i6 all0))
  have i8 : b8 ∈ ([] : List Addr) ∨ h0.size ≤ b8 := (o8.elim (fun q => q ▸ i6) (fun q => Or.inr (Nat.le_trans K7.1 q)))
  have hS := hS.keep K8q
  have N8 := Fr.app N6 N8q
  have hs8 := allS (P := Safe Z consts_1 _ _) (Safe.exa hZ.alike (Sb.exa B7_x) (by decide) (by decide)) (allS sf7 all0)
  have H8 := CHv.keep K8q hs8 A7.1
  have sf8 : Safe Z consts_1 _ _ b8 := o8.elim (fun q => q ▸ Safe.keep K8q hs8 A7.1 sf7) (fun q => ysafeNew A7.1 K8q hs8 q)
  obtain ⟨S3, hS3⟩ : ∃ z, z = S2 ++ t_1 := ⟨_, rfl⟩
  rw [← hS3] at B8_a
  have hl3 : S3.length = ((S2 : List Int8).length + (t_1).length) := by rw [hS3, List.length_append]
  generalize gcap cap2 ((S2 : List Int8).length + (t_1).length) = cap3 at B8_a G3 J3
  generalize gcell cap2 ((S2 : List Int8).length + (t_1).length) = gc3 at X8 G3 J3
  generalize gslot cap2 ((S2 : List Int8).length + (t_1).length) = gs3 at X8 G3 J3
  rw [← hl3] at G3 J3
  refine yaloadN X8 hx hby d49_24 rfl rfl ?_
  show yEndsW p e below s0 T8 (mkF m 25 #[rv o] [(.ref o), (.ref b1)]) _ _ _
  refine ycallv X8 hx hby d49_25 hZ hown (w199 hw) (w200 hw) (notFace_of_selects (args := #[]) (mvT hZ (w202 hw))) (w202 hw) (w201 hw) (w203 hw) (w29 hw) e8 (E_o.keep K8) (c_ns l hw  C O8 o n (E_o.keep K8) (hN.keep K8) (by omega)) hml 1 pd_32 (argsL := []) (st := [(.ref b1)]) (ypureK ⟨rfl, rfl⟩ fun T9 X9 e9 => ?_)
  show yEndsW p e below s0 T9 (mkF m 28 #[rv o] [(.long (Int64.ofNat (n))), (.ref b1)]) _ _ _
  have G4 := GR.step G3 (len' := ((S3 : List Int8).length + (dec n).length)) (by omega) (by omega) (by omega) (by omega)
  have J4 := G4.le
  refine ycallv X9 hx hby d49_28 hZ hown (w173 hw) (w174 hw) (notFace_of_selects (args := #[]) (mvT hZ (w176 hw))) (w176 hw) (w175 hw) (w177 hw) (w76 hw) e9 (Sb.exa B8_a) (c_appJ l hw  C O8 b1 b8 (S3) cap3 B8_a (by omega) g1 g8_b n (by omega)) hml 0 pd_31 (argsL := [(.long (Int64.ofNat (n)))]) (st := []) fun T10 h10 v10 L10 e10 X10 q10 => ?_
  obtain ⟨rfl, N10q, K10q, b10, B10_a, g10_b, o10⟩ := q10
  have O10 := O8.keep K10q (allS g1 (allS g8_b all0))
  have K10 := Keep.trans K8 K10q (allS (Or.inr z1) (allS i8 all0))
  have i10 : b10 ∈ ([] : List Addr) ∨ h0.size ≤ b10 := (o10.elim (fun q => q ▸ i8) (fun q => Or.inr (Nat.le_trans K8.1 q)))
  have hS := hS.keep K10q
  have N10 := Fr.app N8 N10q
  have hs10 := allS (P := Safe Z consts_1 _ _) (Safe.exa hZ.alike (Sb.exa B8_a) (by decide) (by decide)) (allS sf8 all0)
  have H10 := CHv.keep K10q hs10 H8
  have sf10 : Safe Z consts_1 _ _ b10 := o10.elim (fun q => q ▸ Safe.keep K10q hs10 H8 sf8) (fun q => ysafeNew H8 K10q hs10 q)
  obtain ⟨S4, hS4⟩ : ∃ z, z = S3 ++ dec n := ⟨_, rfl⟩
  rw [← hS4] at B10_a
  have hl4 : S4.length = ((S3 : List Int8).length + (dec n).length) := by rw [hS4, List.length_append]
  generalize gcap cap3 ((S3 : List Int8).length + (dec n).length) = cap4 at B10_a G4 J4
  generalize gcell cap3 ((S3 : List Int8).length + (dec n).length) = gc4 at X10 G4 J4
  generalize gslot cap3 ((S3 : List Int8).length + (dec n).length) = gs4 at X10 G4 J4
  rw [← hl4] at G4 J4
  show yEndsW p e below s0 T10 (mkF m 31 #[rv o] [(.ref b1)]) _ _ _
  refine yldcH X10 hx hby d49_31 hZ hown (w216 hw) (wS hw) e10 hS (ewc hw) (List.mem_of_getElem? (i := 2) rfl) H10 t_2 tx_2 (by decide +kernel) 56 (fun v11 T11 h11 r81 x81 X11 e11 Ex11 hZ hown hS E11_r V11_r C11_r A11_x A11 ns11 => ?_) (by decide +kernel) (by decide +kernel) (by first | decide | omega | (dsimp only; omega)) (by first | decide | omega | (dsimp only; omega))
  have O11 := O10.ext Ex11
  have K11 := Keep.ext K10 Ex11
  have B11_x := B10_a.ext Ex11
  have sf11 := A11.safe B10_a.lt sf10
  have ns11_b1 := ns11 b1 (Safe.exa hZ.alike (Sb.exa B11_x) (by decide) (by decide))
  have ns11_b10 := ns11 b10 sf11
  have L11_r81 := Sx.mk E11_r V11_r C11_r A11_x
  show yEndsW p e below s0 T11 (mkF m 33 #[rv o] [(.ref r81), (.ref b1)]) _ _ _
  have G5 := GR.step G4 (len' := ((S4 : List Int8).length + (t_2).length)) (by omega) (by omega) (by omega) (by omega)
  have J5 := G5.le
  refine ycallv X11 hx hby d49_33 hZ hown (w100 hw) (w101 hw) (notFace_of_selects (args := #[]) (mvT hZ (w103 hw))) (w103 hw) (w102 hw) (w104 hw) (w76 hw) e11 (Sb.exa B11_x) (c_appstr l hw  C O11 b1 b10 (S4) cap4 B11_x (by omega) g1 g10_b r81 x81 t_2 L11_r81 (by decide +kernel) (Ne.symm ns11_b1.1) (Ne.symm ns11_b10.1) (Ne.symm ns11_b1.2) (Ne.symm ns11_b10.2)) hml 0 pd_30 (argsL := [(.ref r81)]) (st := []) fun T12 h12 v12 L12 e12 X12 q12 => ?_
  obtain ⟨rfl, N12q, K12q, b12, B12_a, g12_b, o12⟩ := q12
  have O12 := O11.keep K12q (allS g1 (allS g10_b all0))
  have K12 := Keep.trans K11 K12q (allS (Or.inr z1) (allS i10 all0))
  have i12 : b12 ∈ ([] : List Addr) ∨ h0.size ≤ b12 := (o12.elim (fun q => q ▸ i10) (fun q => Or.inr (Nat.le_trans K11.1 q)))
  have hS := hS.keep K12q
  have N12 := Fr.app N10 N12q
  have hs12 := allS (P := Safe Z consts_1 _ _) (Safe.exa hZ.alike (Sb.exa B11_x) (by decide) (by decide)) (allS sf11 all0)
  have H12 := CHv.keep K12q hs12 A11.1
  have sf12 : Safe Z consts_1 _ _ b12 := o12.elim (fun q => q ▸ Safe.keep K12q hs12 A11.1 sf11) (fun q => ysafeNew A11.1 K12q hs12 q)
  obtain ⟨S5, hS5⟩ : ∃ z, z = S4 ++ t_2 := ⟨_, rfl⟩
  rw [← hS5] at B12_a
  have hl5 : S5.length = ((S4 : List Int8).length + (t_2).length) := by rw [hS5, List.length_append]
  generalize gcap cap4 ((S4 : List Int8).length + (t_2).length) = cap5 at B12_a G5 J5
  generalize gcell cap4 ((S4 : List Int8).length + (t_2).length) = gc5 at X12 G5 J5
  generalize gslot cap4 ((S4 : List Int8).length + (t_2).length) = gs5 at X12 G5 J5
  rw [← hl5] at G5 J5
  refine yaloadN X12 hx hby d49_36 rfl rfl (ygetfld X12 hx hby d49_37 hZ hown (host := "") (Or.inl (w36 hw)) Via.refl e12 (F_o_interrupted.keep K12 nin0) fun T13 X13 e13 => ?_)
  show yEndsW p e below s0 T13 (mkF m 40 #[rv o] [(.long (Int64.ofNat (ii))), (.ref b1)]) _ _ _
  have G6 := GR.step G5 (len' := ((S5 : List Int8).length + (dec ii).length)) (by omega) (by omega) (by omega) (by omega)
  have J6 := G6.le
  refine ycallv X13 hx hby d49_40 hZ hown (w173 hw) (w174 hw) (notFace_of_selects (args := #[]) (mvT hZ (w176 hw))) (w176 hw) (w175 hw) (w177 hw) (w76 hw) e13 (Sb.exa B12_a) (c_appJ l hw  C O12 b1 b12 (S5) cap5 B12_a (by omega) g1 g12_b ii (by omega)) hml 0 pd_31 (argsL := [(.long (Int64.ofNat (ii)))]) (st := []) fun T14 h14 v14 L14 e14 X14 q14 => ?_
  obtain ⟨rfl, N14q, K14q, b14, B14_a, g14_b, o14⟩ := q14
  have O14 := O12.keep K14q (allS g1 (allS g12_b all0))
  have K14 := Keep.trans K12 K14q (allS (Or.inr z1) (allS i12 all0))
  have i14 : b14 ∈ ([] : List Addr) ∨ h0.size ≤ b14 := (o14.elim (fun q => q ▸ i12) (fun q => Or.inr (Nat.le_trans K12.1 q)))
  have hS := hS.keep K14q
  have N14 := Fr.app N12 N14q
  have hs14 := allS (P := Safe Z consts_1 _ _) (Safe.exa hZ.alike (Sb.exa B12_a) (by decide) (by decide)) (allS sf12 all0)
  have H14 := CHv.keep K14q hs14 H12
  have sf14 : Safe Z consts_1 _ _ b14 := o14.elim (fun q => q ▸ Safe.keep K14q hs14 H12 sf12) (fun q => ysafeNew H12 K14q hs14 q)
  obtain ⟨S6, hS6⟩ : ∃ z, z = S5 ++ dec ii := ⟨_, rfl⟩
  rw [← hS6] at B14_a
  have hl6 : S6.length = ((S5 : List Int8).length + (dec ii).length) := by rw [hS6, List.length_append]
  generalize gcap cap5 ((S5 : List Int8).length + (dec ii).length) = cap6 at B14_a G6 J6
  generalize gcell cap5 ((S5 : List Int8).length + (dec ii).length) = gc6 at X14 G6 J6
  generalize gslot cap5 ((S5 : List Int8).length + (dec ii).length) = gs6 at X14 G6 J6
  rw [← hl6] at G6 J6
  show yEndsW p e below s0 T14 (mkF m 43 #[rv o] [(.ref b1)]) _ _ _
  refine yldcH X14 hx hby d49_43 hZ hown (w217 hw) (wS hw) e14 hS (ewc hw) (List.mem_of_getElem? (i := 3) rfl) H14 t_3 tx_3 (by decide +kernel) 4 (fun v15 T15 h15 r83 x83 X15 e15 Ex15 hZ hown hS E15_r V15_r C15_r A15_x A15 ns15 => ?_) (by decide +kernel) (by decide +kernel) (by first | decide | omega | (dsimp only; omega)) (by first | decide | omega | (dsimp only; omega))
  have O15 := O14.ext Ex15
  have K15 := Keep.ext K14 Ex15
  have B15_x := B14_a.ext Ex15
  have sf15 := A15.safe B14_a.lt sf14
  have ns15_b1 := ns15 b1 (Safe.exa hZ.alike (Sb.exa B15_x) (by decide) (by decide))
  have ns15_b14 := ns15 b14 sf15
  have L15_r83 := Sx.mk E15_r V15_r C15_r A15_x
  show yEndsW p e below s0 T15 (mkF m 45 #[rv o] [(.ref r83), (.ref b1)]) _ _ _
  have G7 := GR.step G6 (len' := ((S6 : List Int8).length + (t_3).length)) (by omega) (by omega) (by omega) (by omega)
  have J7 := G7.le
  refine ycallv X15 hx hby d49_45 hZ hown (w100 hw) (w101 hw) (notFace_of_selects (args := #[]) (mvT hZ (w103 hw))) (w103 hw) (w102 hw) (w104 hw) (w76 hw) e15 (Sb.exa B15_x) (c_appstr l hw  C O15 b1 b14 (S6) cap6 B15_x (by omega) g1 g14_b r83 x83 t_3 L15_r83 (by decide +kernel) (Ne.symm ns15_b1.1) (Ne.symm ns15_b14.1) (Ne.symm ns15_b1.2) (Ne.symm ns15_b14.2)) hml 0 pd_30 (argsL := [(.ref r83)]) (st := []) fun T16 h16 v16 L16 e16 X16 q16 => ?_
  obtain ⟨rfl, N16q, K16q, b16, B16_a, g16_b, o16⟩ := q16
  have O16 := O15.keep K16q (allS g1 (allS g14_b all0))
  have K16 := Keep.trans K15 K16q (allS (Or.inr z1) (allS i14 all0))
  have i16 : b16 ∈ ([] : List Addr) ∨ h0.size ≤ b16 := (o16.elim (fun q => q ▸ i14) (fun q => Or.inr (Nat.le_trans K15.1 q)))
  have hS := hS.keep K16q
  have N16 := Fr.app N14 N16q
  have hs16 := allS (P := Safe Z consts_1 _ _) (Safe.exa hZ.alike (Sb.exa B15_x) (by decide) (by decide)) (allS sf15 all0)
  have H16 := CHv.keep K16q hs16 A15.1
  obtain ⟨S7, hS7⟩ : ∃ z, z = S6 ++ t_3 := ⟨_, rfl⟩
  rw [← hS7] at B16_a
  have hl7 : S7.length = ((S6 : List Int8).length + (t_3).length) := by rw [hS7, List.length_append]
  generalize gcap cap6 ((S6 : List Int8).length + (t_3).length) = cap7 at B16_a G7 J7
  generalize gcell cap6 ((S6 : List Int8).length + (t_3).length) = gc7 at X16 G7 J7
  generalize gslot cap6 ((S6 : List Int8).length + (t_3).length) = gs7 at X16 G7 J7
  rw [← hl7] at G7 J7
  show yEndsW p e below s0 T16 (mkF m 48 #[rv o] [(.ref b1)]) _ _ _
  refine ycallv X16 hx hby d49_48 hZ hown (w218 hw) (w219 hw) (notFace_of_selects (args := #[]) (mvT hZ (w221 hw))) (w221 hw) (w220 hw) (w222 hw) (w76 hw) e16 (Sb.exa B16_a) (c_tos l hw  C O16 b1 b16 S7 cap7 B16_a (by omega)) hml 0 pd_33 (argsL := []) (st := []) fun T17 h17 v17 L17 e17 X17 q17 => ?_
  obtain ⟨t, x, rfl, N17q, K17q, B17_t, gt17, gx17, yt17, yx17⟩ := q17
  have hS := hS.keep K17q
  have N17 := Fr.app N16 N17q
  have K17 := Keep.trans K16 K17q all0
  have H17 := CHv.keep K17q all0 H16
  show yEndsW p e below s0 T17 (mkF m 51 #[rv o] [(.ref t)]) _ _ _
  exact yretA X17 hx hby d49_51 hret hlk e17 hS rfl rfl rfl (by first | decide | omega | (dsimp only; omega)) (by first | decide | omega | (dsimp only; omega)) (fun v1 hv => by rw [e17]; exact ⟨t, x, rfl, N17, K17, by have q := B17_t; rw [hS7, hS6, hS5, hS4, hS3, hS2, hS1] at q; exact q, hn0 ▸ gt17, hn0 ▸ gx17, ychw hZ (ewc hw) H17 hv⟩)
theorem w69 (hw : HW a0 Z) : (Cond.methodLink "com/example/kick/kick/value/CloseReportToStringPinLaw" 29 ⟨"com/example/kick/kick/value/CloseReport", "toString", "()Ljava/lang/String;"⟩).before a0 Z = true := hwi hw 69 rfl
theorem w70 (hw : HW a0 Z) : (Cond.declares ⟨"com/example/kick/kick/value/CloseReport", "toString", "()Ljava/lang/String;"⟩).before a0 Z = true := hwi hw 70 rfl
theorem w71 (hw : HW a0 Z) : (Cond.instanceMethod ⟨"com/example/kick/kick/value/CloseReport", "toString", "()Ljava/lang/String;"⟩).before a0 Z = true := hwi hw 71 rfl
theorem w72 (hw : HW a0 Z) : (Cond.selects "com/example/kick/kick/value/CloseReport" ⟨"com/example/kick/kick/value/CloseReport", "toString", "()Ljava/lang/String;"⟩ ⟨"com/example/kick/kick/value/CloseReport", "toString", "()Ljava/lang/String;"⟩).before a0 Z = true := hwi hw 72 rfl
theorem w73 (hw : HW a0 Z) : (Cond.code ⟨"com/example/kick/kick/value/CloseReport", "toString", "()Ljava/lang/String;"⟩ prog_9_method_7_code 1 (Option.some (FieldType.object "java/lang/String"))).before a0 Z = true := hwi hw 73 rfl
theorem w255 (hw : HW a0 Z) : (Cond.methodLink "com/example/kick/kick/value/CloseReportToStringPinLaw" 33 ⟨"com/example/kick/kick/value/CloseReportToStringPinLaw", "ndig", "(J)I"⟩).before a0 Z = true := hwi hw 255 rfl
theorem w256 (hw : HW a0 Z) : (Cond.static ⟨"com/example/kick/kick/value/CloseReportToStringPinLaw", "ndig", "(J)I"⟩).before a0 Z = true := hwi hw 256 rfl
theorem w258 (hw : HW a0 Z) : (Cond.code ⟨"com/example/kick/kick/value/CloseReportToStringPinLaw", "ndig", "(J)I"⟩ method_4_code 5 (Option.some FieldType.int)).before a0 Z = true := hwi hw 258 rfl
theorem w265 (hw : HW a0 Z) : (Cond.methodLink "com/example/kick/kick/value/CloseReportToStringPinLaw" 45 ⟨"com/example/kick/kick/value/CloseReportToStringPinLaw", "lit", "(Ljava/lang/String;ILjava/lang/String;)Z"⟩).before a0 Z = true := hwi hw 265 rfl
theorem w266 (hw : HW a0 Z) : (Cond.static ⟨"com/example/kick/kick/value/CloseReportToStringPinLaw", "lit", "(Ljava/lang/String;ILjava/lang/String;)Z"⟩).before a0 Z = true := hwi hw 266 rfl
theorem w267 (hw : HW a0 Z) : (Cond.code ⟨"com/example/kick/kick/value/CloseReportToStringPinLaw", "lit", "(Ljava/lang/String;ILjava/lang/String;)Z"⟩ method_8_code 3 (Option.some FieldType.boolean)).before a0 Z = true := hwi hw 267 rfl
theorem w293 (hw : HW a0 Z) : (Cond.methodLink "com/example/kick/kick/value/CloseReportToStringPinLaw" 49 ⟨"com/example/kick/kick/value/CloseReportToStringPinLaw", "num", "(Ljava/lang/String;IIJ)Z"⟩).before a0 Z = true := hwi hw 293 rfl
theorem w294 (hw : HW a0 Z) : (Cond.static ⟨"com/example/kick/kick/value/CloseReportToStringPinLaw", "num", "(Ljava/lang/String;IIJ)Z"⟩).before a0 Z = true := hwi hw 294 rfl
theorem w295 (hw : HW a0 Z) : (Cond.code ⟨"com/example/kick/kick/value/CloseReportToStringPinLaw", "num", "(Ljava/lang/String;IIJ)Z"⟩ method_6_code 8 (Option.some FieldType.boolean)).before a0 Z = true := hwi hw 295 rfl
theorem pd_34 : parseMethodDescriptor "(Ljava/lang/String;ILjava/lang/String;)Z" = some ⟨[(.object "java/lang/String"), .int, (.object "java/lang/String")], some .boolean⟩ := by decide +kernel
theorem pd_35 : parseMethodDescriptor "(Ljava/lang/String;IIJ)Z" = some ⟨[(.object "java/lang/String"), .int, .int, .long], some .boolean⟩ := by decide +kernel
theorem zOd.up {Z : State} {n0 : Nat} {h : Heap} (O : zOd Z n0 h) : zOd Z h.size h := ⟨Nat.le_trans O.1 O.2.1, Nat.le_refl _, O.2.2⟩
theorem Fr.down {a b : Nat} {L : List Loc} (F : Fr b L) (q : a ≤ b) : Fr a L := fun y hy => Nat.le_trans q (F y hy)
theorem odold {Z : State} {n0 : Nat} {h : Heap} (hz : Z.heap.size = n0) (O : zOd Z n0 h) : Old Z n0 h := ⟨hz, O.2.2⟩
theorem andL (x : Int64) : ∃ n, n < 9223372036854775808 ∧ x &&& 9223372036854775807 = Int64.ofNat n := by
  have h : (x &&& 9223372036854775807).toBitVec.msb = false := by rw [Int64.toBitVec_and, BitVec.msb_and]; simp; intro _; decide
  have e : (x &&& 9223372036854775807).toInt = (x &&& 9223372036854775807).toBitVec.toNat := BitVec.toInt_eq_toNat_of_msb h
  have b := Int64.toInt_lt (x &&& 9223372036854775807)
  refine ⟨(x &&& 9223372036854775807).toBitVec.toNat, by omega, ?_⟩
  apply Int64.toInt_inj.mp
  rw [e, ofL_toInt (by omega)]
theorem and255 (x : Int32) : ∃ k, k < 256 ∧ x &&& 255 = Int32.ofNat k := by
  have h := c_and x 255 (by decide)
  have q : (255 : Int32).toInt = 255 := rfl
  refine ⟨(x &&& 255).toInt.toNat, by omega, ?_⟩
  apply Int32.toInt_inj.mp
  rw [zofN_toInt (by omega)]; omega
theorem tail {p : Program} {l : Launch} {e : Env} {s0 : State} {v0 : Vm} {m : MethodId} {args : Array Value} {below : List Frame} {meth : Method} {c : Code} {T1 : State} {locs : List Loc} {Z : State} {a0 : Array Value} {h0 h1 : Heap} {n0 : Nat} {cs : Int32} {d1 d2 : Addr} {o1 o2 : List Int8} {ja jb : Int64} {mm w : Int32} {al : Addr} {ce sl : Nat} (X1 : Stand p l e room_1 (s0.setVm v0) m args below meth c T1 locs ce sl) (hce : ce ≤ 18) (hsl : sl ≤ 90) (hx : p.tables.exec = Jvm.exec) (hZ : Z.Warmed39 v0) (hw : HW a0 Z) (hby : c.code = code) (hml : c.maxLocals = 23) (hown : v0.findClass "com/example/kick/kick/value/CloseReportToStringPinLaw" = some m.cls) (hret : meth.sig.returnType = some .boolean) (hlk : meth.locks = false) (C : Ctx Z cs d1 d2 o1 o2) (e1 : T1.heap = h1) (O0 : zOd Z n0 h0) (O1 : zOd Z n0 h1) (K1 : Keep h0 h1 []) (N1 : Fr n0 locs) (hS : ySin s0 v0 h1) (H1 : CHv Z consts_1 v0 h1) (vf : Value) (hvf : vf = .null ∨ ∃ a, vf = .ref a) (S_vf : Sta Z Z.heap "jdk/internal/util/Preconditions" "SIOOBE_FORMATTER" "Ljava/util/function/BiFunction;" vf) (cc n ii : Nat) (hcc : cc < 9223372036854775808) (hn : n < 10) (hii : ii < 9223372036854775808) (o : Addr) (E_o : Exa Z h1 o "com/example/kick/kick/value/CloseReport") (F_o_completed : Fld Z h1 o "com/example/kick/kick/value/CloseReport" "completed" "J" (.long (Int64.ofNat (cc)))) (F_o_interrupted : Fld Z h1 o "com/example/kick/kick/value/CloseReport" "interrupted" "J" (.long (Int64.ofNat (ii)))) (hN : NS Z h1 o n) : yEndsW p e below s0 T1 (mkF m 115 #[.val (.long ja), .second, .val (.long jb), .second, iv mm, iv w, .val (.long (Int64.ofNat (cc))), .second, .val (.long (Int64.ofNat (ii))), .second, iv (Int32.ofNat (n)), rv al, rv o, .unset, .unset, .unset, .unset, .unset, .unset, .unset, .unset, .unset, .unset] []) room_1.cells room_1.slots (fun v' v h L => v' = some (.int 1) ∧ Fr n0 L) := by
  have rc : room_1.cells = 64 := rfl
  have rs : room_1.slots = 8064 := rfl
  have d0_ := dec_len_le 18 cc (by omega)
  have d1_ := dec_len_le 18 ii (by omega)
  have d2_ := dec_len_pos cc
  have d3_ := dec_len_pos ii
  have sl_ := Sm3_len (c := cc) (i := ii) hn
  refine yaload X1 hx hby at_115 rfl rfl (ycallvW X1 hx hby at_117 hZ hown (w69 hw) (w70 hw) (notFace_of_selects (args := #[]) (mvT hZ (w72 hw))) (w72 hw) (w71 hw) (w73 hw) (w29 hw) e1 hS (fun v1 hv => ychw hZ (ewc hw) H1 hv) E_o (t_cold l hw C (zOd.up O1) cc n ii hcc hn hii rfl o E_o F_o_completed F_o_interrupted hN) hml 0 pd_33 (argsL := []) (st := []) fun v101 T101 h101 u101 L101 e101 X101 hZ hown hS hW101 q101 => ?_)
  obtain ⟨t, x, rfl, N101q, K101q, Lt, yt, yx, H101⟩ := q101
  have O101 := O1.keep K101q all0
  have N101 := Fr.app N1 (Fr.down N101q (zodsz O1))
  show yEndsW p e below s0 T101 (mkF m 120 #[.val (.long ja), .second, .val (.long jb), .second, iv mm, iv w, .val (.long (Int64.ofNat (cc))), .second, .val (.long (Int64.ofNat (ii))), .second, iv (Int32.ofNat (n)), rv al, rv o, .unset, .unset, .unset, .unset, .unset, .unset, .unset, .unset, .unset, .unset] [(.ref t)]) _ _ _
  refine yastore X101 hx hby at_120 (hv := rfl) (L' := #[.val (.long ja), .second, .val (.long jb), .second, iv mm, iv w, .val (.long (Int64.ofNat (cc))), .second, .val (.long (Int64.ofNat (ii))), .second, iv (Int32.ofNat (n)), rv al, rv o, rv t, .unset, .unset, .unset, .unset, .unset, .unset, .unset, .unset, .unset]) rfl (ylload X101 hx hby at_122 rfl ?_)
  show yEndsW p e below s0 T101 (mkF m 124 #[.val (.long ja), .second, .val (.long jb), .second, iv mm, iv w, .val (.long (Int64.ofNat (cc))), .second, .val (.long (Int64.ofNat (ii))), .second, iv (Int32.ofNat (n)), rv al, rv o, rv t, .unset, .unset, .unset, .unset, .unset, .unset, .unset, .unset, .unset] [(.long (Int64.ofNat (cc)))]) _ _ _
  refine ycalls X101 hx hby at_124 hZ hown (w255 hw) (w256 hw) (w257 hw) (w258 hw) e101 (c_ndig l hw  C O101 (cc) (by omega)) hml 0 pd_11 (argsL := [(.long (Int64.ofNat (cc)))]) (st := []) (ypureK ⟨rfl, rfl⟩ fun T102 X102 e102 => ?_)
  refine yistore X102 hx hby at_127 (L' := #[.val (.long ja), .second, .val (.long jb), .second, iv mm, iv w, .val (.long (Int64.ofNat (cc))), .second, .val (.long (Int64.ofNat (ii))), .second, iv (Int32.ofNat (n)), rv al, rv o, rv t, iv (Int32.ofNat ((dec cc).length)), .unset, .unset, .unset, .unset, .unset, .unset, .unset, .unset]) rfl (ylload X102 hx hby at_129 rfl ?_)
  show yEndsW p e below s0 T102 (mkF m 131 #[.val (.long ja), .second, .val (.long jb), .second, iv mm, iv w, .val (.long (Int64.ofNat (cc))), .second, .val (.long (Int64.ofNat (ii))), .second, iv (Int32.ofNat (n)), rv al, rv o, rv t, iv (Int32.ofNat ((dec cc).length)), .unset, .unset, .unset, .unset, .unset, .unset, .unset, .unset] [(.long (Int64.ofNat (ii)))]) _ _ _
  refine ycalls X102 hx hby at_131 hZ hown (w255 hw) (w256 hw) (w257 hw) (w258 hw) e102 (c_ndig l hw  C O101 (ii) (by omega)) hml 0 pd_11 (argsL := [(.long (Int64.ofNat (ii)))]) (st := []) (ypureK ⟨rfl, rfl⟩ fun T103 X103 e103 => ?_)
  refine yistore X103 hx hby at_134 (L' := #[.val (.long ja), .second, .val (.long jb), .second, iv mm, iv w, .val (.long (Int64.ofNat (cc))), .second, .val (.long (Int64.ofNat (ii))), .second, iv (Int32.ofNat (n)), rv al, rv o, rv t, iv (Int32.ofNat ((dec cc).length)), iv (Int32.ofNat ((dec ii).length)), .unset, .unset, .unset, .unset, .unset, .unset, .unset]) rfl (ybipush X103 hx hby at_136 (z := (22 : Int32)) rfl (yistore X103 hx hby at_138 (L' := #[.val (.long ja), .second, .val (.long jb), .second, iv mm, iv w, .val (.long (Int64.ofNat (cc))), .second, .val (.long (Int64.ofNat (ii))), .second, iv (Int32.ofNat (n)), rv al, rv o, rv t, iv (Int32.ofNat ((dec cc).length)), iv (Int32.ofNat ((dec ii).length)), iv 22, .unset, .unset, .unset, .unset, .unset, .unset]) rfl (yiload X103 hx hby at_140 rfl (yiload X103 hx hby at_142 rfl (yiadd X103 hx hby at_144 (Int32.ofNat (22 + (dec cc).length)) (zofN_add _ _) (yistore X103 hx hby at_145 (L' := #[.val (.long ja), .second, .val (.long jb), .second, iv mm, iv w, .val (.long (Int64.ofNat (cc))), .second, .val (.long (Int64.ofNat (ii))), .second, iv (Int32.ofNat (n)), rv al, rv o, rv t, iv (Int32.ofNat ((dec cc).length)), iv (Int32.ofNat ((dec ii).length)), iv 22, iv (Int32.ofNat (22 + (dec cc).length)), .unset, .unset, .unset, .unset, .unset]) rfl (yiload X103 hx hby at_147 rfl (ybipush X103 hx hby at_149 (z := (13 : Int32)) rfl (yiadd X103 hx hby at_151 (Int32.ofNat (22 + (dec cc).length + 13)) (zofN_add _ _) ?_)))))))))
  show yEndsW p e below s0 T103 (mkF m 152 #[.val (.long ja), .second, .val (.long jb), .second, iv mm, iv w, .val (.long (Int64.ofNat (cc))), .second, .val (.long (Int64.ofNat (ii))), .second, iv (Int32.ofNat (n)), rv al, rv o, rv t, iv (Int32.ofNat ((dec cc).length)), iv (Int32.ofNat ((dec ii).length)), iv 22, iv (Int32.ofNat (22 + (dec cc).length)), .unset, .unset, .unset, .unset, .unset] [(.int (Int32.ofNat (22 + (dec cc).length + 13)))]) _ _ _
  refine yistore X103 hx hby at_152 (L' := #[.val (.long ja), .second, .val (.long jb), .second, iv mm, iv w, .val (.long (Int64.ofNat (cc))), .second, .val (.long (Int64.ofNat (ii))), .second, iv (Int32.ofNat (n)), rv al, rv o, rv t, iv (Int32.ofNat ((dec cc).length)), iv (Int32.ofNat ((dec ii).length)), iv 22, iv (Int32.ofNat (22 + (dec cc).length)), iv (Int32.ofNat (22 + (dec cc).length + 13)), .unset, .unset, .unset, .unset]) rfl (yiload X103 hx hby at_154 rfl (yiconst X103 hx hby at_156 (z := (1 : Int32)) rfl (yiadd X103 hx hby at_157 (Int32.ofNat (22 + (dec cc).length + 13 + 1)) (zofN_add _ _) (yistore X103 hx hby at_158 (L' := #[.val (.long ja), .second, .val (.long jb), .second, iv mm, iv w, .val (.long (Int64.ofNat (cc))), .second, .val (.long (Int64.ofNat (ii))), .second, iv (Int32.ofNat (n)), rv al, rv o, rv t, iv (Int32.ofNat ((dec cc).length)), iv (Int32.ofNat ((dec ii).length)), iv 22, iv (Int32.ofNat (22 + (dec cc).length)), iv (Int32.ofNat (22 + (dec cc).length + 13)), iv (Int32.ofNat (22 + (dec cc).length + 13 + 1)), .unset, .unset, .unset]) rfl (yiload X103 hx hby at_160 rfl (ybipush X103 hx hby at_162 (z := (14 : Int32)) rfl (yiadd X103 hx hby at_164 (Int32.ofNat (22 + (dec cc).length + 13 + 1 + 14)) (zofN_add _ _) (yistore X103 hx hby at_165 (L' := #[.val (.long ja), .second, .val (.long jb), .second, iv mm, iv w, .val (.long (Int64.ofNat (cc))), .second, .val (.long (Int64.ofNat (ii))), .second, iv (Int32.ofNat (n)), rv al, rv o, rv t, iv (Int32.ofNat ((dec cc).length)), iv (Int32.ofNat ((dec ii).length)), iv 22, iv (Int32.ofNat (22 + (dec cc).length)), iv (Int32.ofNat (22 + (dec cc).length + 13)), iv (Int32.ofNat (22 + (dec cc).length + 13 + 1)), iv (Int32.ofNat (22 + (dec cc).length + 13 + 1 + 14)), .unset, .unset]) rfl (yiload X103 hx hby at_167 rfl ?_)))))))))
  show yEndsW p e below s0 T103 (mkF m 169 #[.val (.long ja), .second, .val (.long jb), .second, iv mm, iv w, .val (.long (Int64.ofNat (cc))), .second, .val (.long (Int64.ofNat (ii))), .second, iv (Int32.ofNat (n)), rv al, rv o, rv t, iv (Int32.ofNat ((dec cc).length)), iv (Int32.ofNat ((dec ii).length)), iv 22, iv (Int32.ofNat (22 + (dec cc).length)), iv (Int32.ofNat (22 + (dec cc).length + 13)), iv (Int32.ofNat (22 + (dec cc).length + 13 + 1)), iv (Int32.ofNat (22 + (dec cc).length + 13 + 1 + 14)), .unset, .unset] [(.int (Int32.ofNat (22 + (dec cc).length + 13 + 1 + 14)))]) _ _ _
  refine yiload X103 hx hby at_169 rfl (yiadd X103 hx hby at_171 (Int32.ofNat (22 + (dec cc).length + 13 + 1 + 14 + (dec ii).length)) (zofN_add _ _) (yistore X103 hx hby at_172 (L' := #[.val (.long ja), .second, .val (.long jb), .second, iv mm, iv w, .val (.long (Int64.ofNat (cc))), .second, .val (.long (Int64.ofNat (ii))), .second, iv (Int32.ofNat (n)), rv al, rv o, rv t, iv (Int32.ofNat ((dec cc).length)), iv (Int32.ofNat ((dec ii).length)), iv 22, iv (Int32.ofNat (22 + (dec cc).length)), iv (Int32.ofNat (22 + (dec cc).length + 13)), iv (Int32.ofNat (22 + (dec cc).length + 13 + 1)), iv (Int32.ofNat (22 + (dec cc).length + 13 + 1 + 14)), iv (Int32.ofNat (22 + (dec cc).length + 13 + 1 + 14 + (dec ii).length)), .unset]) rfl (yiload X103 hx hby at_174 rfl (yiconst X103 hx hby at_176 (z := (1 : Int32)) rfl (yiadd X103 hx hby at_177 (Int32.ofNat (22 + (dec cc).length + 13 + 1 + 14 + (dec ii).length + 1)) (zofN_add _ _) (yistore X103 hx hby at_178 (L' := #[.val (.long ja), .second, .val (.long jb), .second, iv mm, iv w, .val (.long (Int64.ofNat (cc))), .second, .val (.long (Int64.ofNat (ii))), .second, iv (Int32.ofNat (n)), rv al, rv o, rv t, iv (Int32.ofNat ((dec cc).length)), iv (Int32.ofNat ((dec ii).length)), iv 22, iv (Int32.ofNat (22 + (dec cc).length)), iv (Int32.ofNat (22 + (dec cc).length + 13)), iv (Int32.ofNat (22 + (dec cc).length + 13 + 1)), iv (Int32.ofNat (22 + (dec cc).length + 13 + 1 + 14)), iv (Int32.ofNat (22 + (dec cc).length + 13 + 1 + 14 + (dec ii).length)), iv (Int32.ofNat (22 + (dec cc).length + 13 + 1 + 14 + (dec ii).length + 1))]) rfl (yaload X103 hx hby at_180 rfl rfl (yifnullNo X103 hx hby at_182 (yaload X103 hx hby at_185 rfl rfl ?_)))))))))
  show yEndsW p e below s0 T103 (mkF m 187 #[.val (.long ja), .second, .val (.long jb), .second, iv mm, iv w, .val (.long (Int64.ofNat (cc))), .second, .val (.long (Int64.ofNat (ii))), .second, iv (Int32.ofNat (n)), rv al, rv o, rv t, iv (Int32.ofNat ((dec cc).length)), iv (Int32.ofNat ((dec ii).length)), iv 22, iv (Int32.ofNat (22 + (dec cc).length)), iv (Int32.ofNat (22 + (dec cc).length + 13)), iv (Int32.ofNat (22 + (dec cc).length + 13 + 1)), iv (Int32.ofNat (22 + (dec cc).length + 13 + 1 + 14)), iv (Int32.ofNat (22 + (dec cc).length + 13 + 1 + 14 + (dec ii).length)), iv (Int32.ofNat (22 + (dec cc).length + 13 + 1 + 14 + (dec ii).length + 1))] [(.ref t)]) _ _ _
  refine ycallv X103 hx hby at_187 hZ hown (w263 hw) (w111 hw) (notFace_of_selects (args := #[]) (mvT hZ (w113 hw))) (w113 hw) (w112 hw) (w114 hw) (w88 hw) e103 Lt.1 (c_length l hw  C O101 t x ((Sm3 cc n ii)) Lt) hml 0 pd_1 (argsL := []) (st := []) (ypureK ⟨rfl, rfl⟩ fun T104 X104 e104 => ?_)
  refine yiload X104 hx hby at_190 rfl (yicmpYes X104 hx hby at_192 197 (teq (show (Int32.ofNat (((Sm3 cc n ii)).length)) = (Int32.ofNat (22 + (dec cc).length + 13 + 1 + 14 + (dec ii).length + 1)) from by rw [zofN_eq (by omega) (by omega)]; omega)).1 (by decide) (by decide) (yaload X104 hx hby at_197 rfl rfl (yiconst X104 hx hby at_199 (z := (0 : Int32)) rfl ?_)))
  show yEndsW p e below s0 T104 (mkF m 200 #[.val (.long ja), .second, .val (.long jb), .second, iv mm, iv w, .val (.long (Int64.ofNat (cc))), .second, .val (.long (Int64.ofNat (ii))), .second, iv (Int32.ofNat (n)), rv al, rv o, rv t, iv (Int32.ofNat ((dec cc).length)), iv (Int32.ofNat ((dec ii).length)), iv 22, iv (Int32.ofNat (22 + (dec cc).length)), iv (Int32.ofNat (22 + (dec cc).length + 13)), iv (Int32.ofNat (22 + (dec cc).length + 13 + 1)), iv (Int32.ofNat (22 + (dec cc).length + 13 + 1 + 14)), iv (Int32.ofNat (22 + (dec cc).length + 13 + 1 + 14 + (dec ii).length)), iv (Int32.ofNat (22 + (dec cc).length + 13 + 1 + 14 + (dec ii).length + 1))] [(.int 0), (.ref t)]) _ _ _
  refine yldcH X104 hx hby at_200 hZ hown (w264 hw) (wS hw) e104 hS (ewc hw) (List.mem_of_getElem? (i := 4) rfl) H101 t_4 tx_4 (by decide +kernel) 88 (fun v105 T105 h105 r43 x43 X105 e105 Ex105 hZ hown hS E105_r V105_r C105_r A105_x A105 ns105 => ?_) (by decide +kernel) (by decide +kernel) (by first | decide | omega | (dsimp only; omega)) (by first | decide | omega | (dsimp only; omega))
  have O105 := O101.ext Ex105
  have L105_t := Lt.ext Ex105
  have L105_r43 := Sx.mk E105_r V105_r C105_r A105_x
  show yEndsW p e below s0 T105 (mkF m 202 #[.val (.long ja), .second, .val (.long jb), .second, iv mm, iv w, .val (.long (Int64.ofNat (cc))), .second, .val (.long (Int64.ofNat (ii))), .second, iv (Int32.ofNat (n)), rv al, rv o, rv t, iv (Int32.ofNat ((dec cc).length)), iv (Int32.ofNat ((dec ii).length)), iv 22, iv (Int32.ofNat (22 + (dec cc).length)), iv (Int32.ofNat (22 + (dec cc).length + 13)), iv (Int32.ofNat (22 + (dec cc).length + 13 + 1)), iv (Int32.ofNat (22 + (dec cc).length + 13 + 1 + 14)), iv (Int32.ofNat (22 + (dec cc).length + 13 + 1 + 14 + (dec ii).length)), iv (Int32.ofNat (22 + (dec cc).length + 13 + 1 + 14 + (dec ii).length + 1))] [(.ref r43), (.int 0), (.ref t)]) _ _ _
  refine ycalls X105 hx hby at_202 hZ hown (w265 hw) (w266 hw) (w257 hw) (w267 hw) e105 (c_lit l hw  C O105 vf hvf S_vf t x (Sm3 cc n ii) L105_t r43 x43 t_4 L105_r43 (by decide +kernel) (by omega) (by decide +kernel) (0) (by omega) (fun k q => at_lit1 q)) hml 0 pd_34 (argsL := [(.ref t), (.int 0), (.ref r43)]) (st := []) (ypureK ⟨rfl, rfl⟩ fun T106 X106 e106 => ?_)
  refine yifNo X106 hx hby at_205 (by decide) (yaload X106 hx hby at_208 rfl rfl (yiload X106 hx hby at_210 rfl (yiload X106 hx hby at_212 rfl (ylload X106 hx hby at_214 rfl ?_))))
  show yEndsW p e below s0 T106 (mkF m 216 #[.val (.long ja), .second, .val (.long jb), .second, iv mm, iv w, .val (.long (Int64.ofNat (cc))), .second, .val (.long (Int64.ofNat (ii))), .second, iv (Int32.ofNat (n)), rv al, rv o, rv t, iv (Int32.ofNat ((dec cc).length)), iv (Int32.ofNat ((dec ii).length)), iv 22, iv (Int32.ofNat (22 + (dec cc).length)), iv (Int32.ofNat (22 + (dec cc).length + 13)), iv (Int32.ofNat (22 + (dec cc).length + 13 + 1)), iv (Int32.ofNat (22 + (dec cc).length + 13 + 1 + 14)), iv (Int32.ofNat (22 + (dec cc).length + 13 + 1 + 14 + (dec ii).length)), iv (Int32.ofNat (22 + (dec cc).length + 13 + 1 + 14 + (dec ii).length + 1))] [(.long (Int64.ofNat (cc))), (.int (Int32.ofNat ((dec cc).length))), (.int (Int32.ofNat (22 + (dec cc).length))), (.ref t)]) _ _ _
  refine ycalls X106 hx hby at_216 hZ hown (w293 hw) (w294 hw) (w257 hw) (w295 hw) e106 (c_num l hw  C O105 vf hvf S_vf t x (Sm3 cc n ii) L105_t (by omega) (22 + (dec cc).length) ((dec cc).length) (cc) (by omega) (by omega) (by omega) (fun j q => at_num1 q) (by omega)) hml 0 pd_35 (argsL := [(.ref t), (.int (Int32.ofNat (22 + (dec cc).length))), (.int (Int32.ofNat ((dec cc).length))), (.long (Int64.ofNat (cc)))]) (st := []) (ypureK ⟨rfl, rfl⟩ fun T107 X107 e107 => ?_)
  refine yifNo X107 hx hby at_219 (by decide) (yaload X107 hx hby at_222 rfl rfl (yiload X107 hx hby at_224 rfl ?_))
  show yEndsW p e below s0 T107 (mkF m 226 #[.val (.long ja), .second, .val (.long jb), .second, iv mm, iv w, .val (.long (Int64.ofNat (cc))), .second, .val (.long (Int64.ofNat (ii))), .second, iv (Int32.ofNat (n)), rv al, rv o, rv t, iv (Int32.ofNat ((dec cc).length)), iv (Int32.ofNat ((dec ii).length)), iv 22, iv (Int32.ofNat (22 + (dec cc).length)), iv (Int32.ofNat (22 + (dec cc).length + 13)), iv (Int32.ofNat (22 + (dec cc).length + 13 + 1)), iv (Int32.ofNat (22 + (dec cc).length + 13 + 1 + 14)), iv (Int32.ofNat (22 + (dec cc).length + 13 + 1 + 14 + (dec ii).length)), iv (Int32.ofNat (22 + (dec cc).length + 13 + 1 + 14 + (dec ii).length + 1))] [(.int (Int32.ofNat (22 + (dec cc).length))), (.ref t)]) _ _ _
  refine yldcH X107 hx hby at_226 hZ hown (w299 hw) (wS hw) e107 hS (ewc hw) (List.mem_of_getElem? (i := 5) rfl) A105.1 t_5 tx_5 (by decide +kernel) 52 (fun v108 T108 h108 r53 x53 X108 e108 Ex108 hZ hown hS E108_r V108_r C108_r A108_x A108 ns108 => ?_) (by decide +kernel) (by decide +kernel) (by first | decide | omega | (dsimp only; omega)) (by first | decide | omega | (dsimp only; omega))
  have O108 := O105.ext Ex108
  have L108_t := L105_t.ext Ex108
  have L108_r53 := Sx.mk E108_r V108_r C108_r A108_x
  show yEndsW p e below s0 T108 (mkF m 228 #[.val (.long ja), .second, .val (.long jb), .second, iv mm, iv w, .val (.long (Int64.ofNat (cc))), .second, .val (.long (Int64.ofNat (ii))), .second, iv (Int32.ofNat (n)), rv al, rv o, rv t, iv (Int32.ofNat ((dec cc).length)), iv (Int32.ofNat ((dec ii).length)), iv 22, iv (Int32.ofNat (22 + (dec cc).length)), iv (Int32.ofNat (22 + (dec cc).length + 13)), iv (Int32.ofNat (22 + (dec cc).length + 13 + 1)), iv (Int32.ofNat (22 + (dec cc).length + 13 + 1 + 14)), iv (Int32.ofNat (22 + (dec cc).length + 13 + 1 + 14 + (dec ii).length)), iv (Int32.ofNat (22 + (dec cc).length + 13 + 1 + 14 + (dec ii).length + 1))] [(.ref r53), (.int (Int32.ofNat (22 + (dec cc).length))), (.ref t)]) _ _ _
  refine ycalls X108 hx hby at_228 hZ hown (w265 hw) (w266 hw) (w257 hw) (w267 hw) e108 (c_lit l hw  C O108 vf hvf S_vf t x (Sm3 cc n ii) L108_t r53 x53 t_5 L108_r53 (by decide +kernel) (by omega) (by decide +kernel) (22 + (dec cc).length) (by omega) (fun k q => at_lit2 q)) hml 0 pd_34 (argsL := [(.ref t), (.int (Int32.ofNat (22 + (dec cc).length))), (.ref r53)]) (st := []) (ypureK ⟨rfl, rfl⟩ fun T109 X109 e109 => ?_)
  refine yifNo X109 hx hby at_231 (by decide) (yaload X109 hx hby at_234 rfl rfl (yiload X109 hx hby at_236 rfl ?_))
  show yEndsW p e below s0 T109 (mkF m 238 #[.val (.long ja), .second, .val (.long jb), .second, iv mm, iv w, .val (.long (Int64.ofNat (cc))), .second, .val (.long (Int64.ofNat (ii))), .second, iv (Int32.ofNat (n)), rv al, rv o, rv t, iv (Int32.ofNat ((dec cc).length)), iv (Int32.ofNat ((dec ii).length)), iv 22, iv (Int32.ofNat (22 + (dec cc).length)), iv (Int32.ofNat (22 + (dec cc).length + 13)), iv (Int32.ofNat (22 + (dec cc).length + 13 + 1)), iv (Int32.ofNat (22 + (dec cc).length + 13 + 1 + 14)), iv (Int32.ofNat (22 + (dec cc).length + 13 + 1 + 14 + (dec ii).length)), iv (Int32.ofNat (22 + (dec cc).length + 13 + 1 + 14 + (dec ii).length + 1))] [(.int (Int32.ofNat (22 + (dec cc).length + 13))), (.ref t)]) _ _ _
  refine ycallv X109 hx hby at_238 hZ hown (w271 hw) (w272 hw) (notFace_of_selects (args := #[]) (mvT hZ (w274 hw))) (w274 hw) (w273 hw) (w275 hw) (w88 hw) e109 L108_t.1 (c_charat l hw  C O108 vf hvf S_vf t x ((Sm3 cc n ii)) L108_t (22 + (dec cc).length + 13) (dg n) (at_n hn) (cs8_dg hn) (by omega)) hml 0 pd_22 (argsL := [(.int (Int32.ofNat (22 + (dec cc).length + 13)))]) (st := []) (ypureK ⟨rfl, rfl⟩ fun T110 X110 e110 => ?_)
  refine ybipush X110 hx hby at_241 (z := (48 : Int32)) rfl (yiload X110 hx hby at_243 rfl (yiadd X110 hx hby at_245 (Int32.ofNat (48 + n)) (zofN_add _ _) (yi2c X110 hx hby at_246 (Int32.ofNat (48 + n)) (i2c_ofN (by omega)) (yicmpNo X110 hx hby at_247 (teq (dgN hn)).2 (yaload X110 hx hby at_250 rfl rfl (yiload X110 hx hby at_252 rfl ?_))))))
  show yEndsW p e below s0 T110 (mkF m 254 #[.val (.long ja), .second, .val (.long jb), .second, iv mm, iv w, .val (.long (Int64.ofNat (cc))), .second, .val (.long (Int64.ofNat (ii))), .second, iv (Int32.ofNat (n)), rv al, rv o, rv t, iv (Int32.ofNat ((dec cc).length)), iv (Int32.ofNat ((dec ii).length)), iv 22, iv (Int32.ofNat (22 + (dec cc).length)), iv (Int32.ofNat (22 + (dec cc).length + 13)), iv (Int32.ofNat (22 + (dec cc).length + 13 + 1)), iv (Int32.ofNat (22 + (dec cc).length + 13 + 1 + 14)), iv (Int32.ofNat (22 + (dec cc).length + 13 + 1 + 14 + (dec ii).length)), iv (Int32.ofNat (22 + (dec cc).length + 13 + 1 + 14 + (dec ii).length + 1))] [(.int (Int32.ofNat (22 + (dec cc).length + 13 + 1))), (.ref t)]) _ _ _
  refine yldcH X110 hx hby at_254 hZ hown (w300 hw) (wS hw) e110 hS (ewc hw) (List.mem_of_getElem? (i := 6) rfl) A108.1 t_6 tx_6 (by decide +kernel) 56 (fun v111 T111 h111 r59 x59 X111 e111 Ex111 hZ hown hS E111_r V111_r C111_r A111_x A111 ns111 => ?_) (by decide +kernel) (by decide +kernel) (by first | decide | omega | (dsimp only; omega)) (by first | decide | omega | (dsimp only; omega))
  have O111 := O108.ext Ex111
  have L111_t := L108_t.ext Ex111
  have L111_r59 := Sx.mk E111_r V111_r C111_r A111_x
  show yEndsW p e below s0 T111 (mkF m 256 #[.val (.long ja), .second, .val (.long jb), .second, iv mm, iv w, .val (.long (Int64.ofNat (cc))), .second, .val (.long (Int64.ofNat (ii))), .second, iv (Int32.ofNat (n)), rv al, rv o, rv t, iv (Int32.ofNat ((dec cc).length)), iv (Int32.ofNat ((dec ii).length)), iv 22, iv (Int32.ofNat (22 + (dec cc).length)), iv (Int32.ofNat (22 + (dec cc).length + 13)), iv (Int32.ofNat (22 + (dec cc).length + 13 + 1)), iv (Int32.ofNat (22 + (dec cc).length + 13 + 1 + 14)), iv (Int32.ofNat (22 + (dec cc).length + 13 + 1 + 14 + (dec ii).length)), iv (Int32.ofNat (22 + (dec cc).length + 13 + 1 + 14 + (dec ii).length + 1))] [(.ref r59), (.int (Int32.ofNat (22 + (dec cc).length + 13 + 1))), (.ref t)]) _ _ _
  refine ycalls X111 hx hby at_256 hZ hown (w265 hw) (w266 hw) (w257 hw) (w267 hw) e111 (c_lit l hw  C O111 vf hvf S_vf t x (Sm3 cc n ii) L111_t r59 x59 t_6 L111_r59 (by decide +kernel) (by omega) (by decide +kernel) (22 + (dec cc).length + 13 + 1) (by omega) (fun k q => at_lit3 hn q)) hml 0 pd_34 (argsL := [(.ref t), (.int (Int32.ofNat (22 + (dec cc).length + 13 + 1))), (.ref r59)]) (st := []) (ypureK ⟨rfl, rfl⟩ fun T112 X112 e112 => ?_)
  refine yifNo X112 hx hby at_259 (by decide) (yaload X112 hx hby at_262 rfl rfl (yiload X112 hx hby at_264 rfl (yiload X112 hx hby at_266 rfl (ylload X112 hx hby at_268 rfl ?_))))
  show yEndsW p e below s0 T112 (mkF m 270 #[.val (.long ja), .second, .val (.long jb), .second, iv mm, iv w, .val (.long (Int64.ofNat (cc))), .second, .val (.long (Int64.ofNat (ii))), .second, iv (Int32.ofNat (n)), rv al, rv o, rv t, iv (Int32.ofNat ((dec cc).length)), iv (Int32.ofNat ((dec ii).length)), iv 22, iv (Int32.ofNat (22 + (dec cc).length)), iv (Int32.ofNat (22 + (dec cc).length + 13)), iv (Int32.ofNat (22 + (dec cc).length + 13 + 1)), iv (Int32.ofNat (22 + (dec cc).length + 13 + 1 + 14)), iv (Int32.ofNat (22 + (dec cc).length + 13 + 1 + 14 + (dec ii).length)), iv (Int32.ofNat (22 + (dec cc).length + 13 + 1 + 14 + (dec ii).length + 1))] [(.long (Int64.ofNat (ii))), (.int (Int32.ofNat ((dec ii).length))), (.int (Int32.ofNat (22 + (dec cc).length + 13 + 1 + 14 + (dec ii).length))), (.ref t)]) _ _ _
  refine ycalls X112 hx hby at_270 hZ hown (w293 hw) (w294 hw) (w257 hw) (w295 hw) e112 (c_num l hw  C O111 vf hvf S_vf t x (Sm3 cc n ii) L111_t (by omega) (22 + (dec cc).length + 13 + 1 + 14 + (dec ii).length) ((dec ii).length) (ii) (by omega) (by omega) (by omega) (fun j q => at_num2 hn q) (by omega)) hml 0 pd_35 (argsL := [(.ref t), (.int (Int32.ofNat (22 + (dec cc).length + 13 + 1 + 14 + (dec ii).length))), (.int (Int32.ofNat ((dec ii).length))), (.long (Int64.ofNat (ii)))]) (st := []) (ypureK ⟨rfl, rfl⟩ fun T113 X113 e113 => ?_)
  refine yifNo X113 hx hby at_273 (by decide) (yaload X113 hx hby at_276 rfl rfl (yiload X113 hx hby at_278 rfl ?_))
  show yEndsW p e below s0 T113 (mkF m 280 #[.val (.long ja), .second, .val (.long jb), .second, iv mm, iv w, .val (.long (Int64.ofNat (cc))), .second, .val (.long (Int64.ofNat (ii))), .second, iv (Int32.ofNat (n)), rv al, rv o, rv t, iv (Int32.ofNat ((dec cc).length)), iv (Int32.ofNat ((dec ii).length)), iv 22, iv (Int32.ofNat (22 + (dec cc).length)), iv (Int32.ofNat (22 + (dec cc).length + 13)), iv (Int32.ofNat (22 + (dec cc).length + 13 + 1)), iv (Int32.ofNat (22 + (dec cc).length + 13 + 1 + 14)), iv (Int32.ofNat (22 + (dec cc).length + 13 + 1 + 14 + (dec ii).length)), iv (Int32.ofNat (22 + (dec cc).length + 13 + 1 + 14 + (dec ii).length + 1))] [(.int (Int32.ofNat (22 + (dec cc).length + 13 + 1 + 14 + (dec ii).length))), (.ref t)]) _ _ _
  refine ycallv X113 hx hby at_280 hZ hown (w271 hw) (w272 hw) (notFace_of_selects (args := #[]) (mvT hZ (w274 hw))) (w274 hw) (w273 hw) (w275 hw) (w88 hw) e113 L111_t.1 (c_charat l hw  C O111 vf hvf S_vf t x ((Sm3 cc n ii)) L111_t (22 + (dec cc).length + 13 + 1 + 14 + (dec ii).length) (93 : Int8) (at_end hn) (by decide) (by omega)) hml 0 pd_22 (argsL := [(.int (Int32.ofNat (22 + (dec cc).length + 13 + 1 + 14 + (dec ii).length)))]) (st := []) (ypureK ⟨rfl, rfl⟩ fun T114 X114 e114 => ?_)
  refine ybipush X114 hx hby at_283 (z := (93 : Int32)) rfl (yicmpNo X114 hx hby at_285 (teq (by decide)).2 (yiconst X114 hx hby at_288 (z := (1 : Int32)) rfl (ygoto X114 hx hby at_289 293 (by decide) (by decide) ?_)))
  show yEndsW p e below s0 T114 (mkF m 293 #[.val (.long ja), .second, .val (.long jb), .second, iv mm, iv w, .val (.long (Int64.ofNat (cc))), .second, .val (.long (Int64.ofNat (ii))), .second, iv (Int32.ofNat (n)), rv al, rv o, rv t, iv (Int32.ofNat ((dec cc).length)), iv (Int32.ofNat ((dec ii).length)), iv 22, iv (Int32.ofNat (22 + (dec cc).length)), iv (Int32.ofNat (22 + (dec cc).length + 13)), iv (Int32.ofNat (22 + (dec cc).length + 13 + 1)), iv (Int32.ofNat (22 + (dec cc).length + 13 + 1 + 14)), iv (Int32.ofNat (22 + (dec cc).length + 13 + 1 + 14 + (dec ii).length)), iv (Int32.ofNat (22 + (dec cc).length + 13 + 1 + 14 + (dec ii).length + 1))] [(.int 1)]) _ _ _
  exact yretZ X114 hx hby at_293 hret hlk e114 hS (by simp) rfl (by first | decide | omega | (dsimp only; omega)) (by first | decide | omega | (dsimp only; omega)) (fun v1 hv => ⟨rfl, N101⟩)
theorem w0 (hw : HW a0 Z) : (Cond.constantLong "com/example/kick/kick/value/CloseReportToStringPinLaw" 9 (9223372036854775807 : Int64)).before a0 Z = true := hwi hw 0 rfl
theorem w1 (hw : HW a0 Z) : (Cond.classLink "com/example/kick/kick/value/CloseReportToStringPinLaw" 11 "java/util/ArrayList").before a0 Z = true := hwi hw 1 rfl
theorem w2 (hw : HW a0 Z) : (Cond.instantiable "java/util/ArrayList" 3).before a0 Z = true := hwi hw 2 rfl
theorem w3 (hw : HW a0 Z) : (Cond.initialized "java/util/ArrayList").before a0 Z = true := hwi hw 3 rfl
theorem w4 (hw : HW a0 Z) : (Cond.methodLink "com/example/kick/kick/value/CloseReportToStringPinLaw" 13 ⟨"java/util/ArrayList", "<init>", "()V"⟩).before a0 Z = true := hwi hw 4 rfl
theorem w5 (hw : HW a0 Z) : (Cond.instanceMethod ⟨"java/util/ArrayList", "<init>", "()V"⟩).before a0 Z = true := hwi hw 5 rfl
theorem w6 (hw : HW a0 Z) : (Cond.code ⟨"java/util/ArrayList", "<init>", "()V"⟩ jdk_38_method_2_code 1 (Option.none : Option Jvm.ClassFile.FieldType)).before a0 Z = true := hwi hw 6 rfl
theorem w7 (hw : HW a0 Z) : (Cond.methodLink "java/util/ArrayList" 1 ⟨"java/util/AbstractList", "<init>", "()V"⟩).before a0 Z = true := hwi hw 7 rfl
theorem w8 (hw : HW a0 Z) : (Cond.instanceMethod ⟨"java/util/AbstractList", "<init>", "()V"⟩).before a0 Z = true := hwi hw 8 rfl
theorem w11 (hw : HW a0 Z) : (Cond.initialized "java/util/AbstractList").before a0 Z = true := hwi hw 11 rfl
theorem w12 (hw : HW a0 Z) : (Cond.code ⟨"java/util/AbstractList", "<init>", "()V"⟩ jdk_39_method_1_code 1 (Option.none : Option Jvm.ClassFile.FieldType)).before a0 Z = true := hwi hw 12 rfl
theorem w13 (hw : HW a0 Z) : (Cond.methodLink "java/util/AbstractList" 1 ⟨"java/util/AbstractCollection", "<init>", "()V"⟩).before a0 Z = true := hwi hw 13 rfl
theorem w14 (hw : HW a0 Z) : (Cond.instanceMethod ⟨"java/util/AbstractCollection", "<init>", "()V"⟩).before a0 Z = true := hwi hw 14 rfl
theorem w17 (hw : HW a0 Z) : (Cond.initialized "java/util/AbstractCollection").before a0 Z = true := hwi hw 17 rfl
theorem w18 (hw : HW a0 Z) : (Cond.code ⟨"java/util/AbstractCollection", "<init>", "()V"⟩ jdk_22_method_1_code 1 (Option.none : Option Jvm.ClassFile.FieldType)).before a0 Z = true := hwi hw 18 rfl
theorem w19 (hw : HW a0 Z) : (Cond.methodLink "java/util/AbstractCollection" 1 ⟨"java/lang/Object", "<init>", "()V"⟩).before a0 Z = true := hwi hw 19 rfl
theorem w22 (hw : HW a0 Z) : (Cond.fieldLink "java/util/AbstractList" 7 "java/util/AbstractList" "modCount" "I").before a0 Z = true := hwi hw 22 rfl
theorem w23 (hw : HW a0 Z) : (Cond.lays "java/util/ArrayList" "java/util/AbstractList" "modCount" "I").before a0 Z = true := hwi hw 23 rfl
theorem w24 (hw : HW a0 Z) : (Cond.fieldLink "java/util/ArrayList" 39 "java/util/ArrayList" "DEFAULTCAPACITY_EMPTY_ELEMENTDATA" "[Ljava/lang/Object;").before a0 Z = true := hwi hw 24 rfl
theorem w25 (hw : HW a0 Z) : (Cond.fieldLink "java/util/ArrayList" 9 "java/util/ArrayList" "elementData" "[Ljava/lang/Object;").before a0 Z = true := hwi hw 25 rfl
theorem w26 (hw : HW a0 Z) : (Cond.lays "java/util/ArrayList" "java/util/ArrayList" "elementData" "[Ljava/lang/Object;").before a0 Z = true := hwi hw 26 rfl
theorem w27 (hw : HW a0 Z) : (Cond.classLink "com/example/kick/kick/value/CloseReportToStringPinLaw" 24 "com/example/kick/kick/value/CloseReport").before a0 Z = true := hwi hw 27 rfl
theorem w30 (hw : HW a0 Z) : (Cond.methodLink "com/example/kick/kick/value/CloseReportToStringPinLaw" 26 ⟨"com/example/kick/kick/value/CloseReport", "<init>", "(JJLjava/util/List;)V"⟩).before a0 Z = true := hwi hw 30 rfl
theorem w31 (hw : HW a0 Z) : (Cond.instanceMethod ⟨"com/example/kick/kick/value/CloseReport", "<init>", "(JJLjava/util/List;)V"⟩).before a0 Z = true := hwi hw 31 rfl
theorem w32 (hw : HW a0 Z) : (Cond.code ⟨"com/example/kick/kick/value/CloseReport", "<init>", "(JJLjava/util/List;)V"⟩ prog_9_method_1_code 6 (Option.none : Option Jvm.ClassFile.FieldType)).before a0 Z = true := hwi hw 32 rfl
theorem w46 (hw : HW a0 Z) : (Cond.classLink "java/util/ImmutableCollections" 10 "java/util/ImmutableCollections$List12").before a0 Z = true := hwi hw 46 rfl
theorem w51 (hw : HW a0 Z) : (Cond.classLink "java/util/ImmutableCollections" 12 "java/util/ImmutableCollections$ListN").before a0 Z = true := hwi hw 51 rfl
theorem w52 (hw : HW a0 Z) : (Cond.methodLink "java/util/ImmutableCollections" 20 ⟨"java/util/Collection", "isEmpty", "()Z"⟩).before a0 Z = true := hwi hw 52 rfl
theorem w53 (hw : HW a0 Z) : (Cond.declares ⟨"java/util/Collection", "isEmpty", "()Z"⟩).before a0 Z = true := hwi hw 53 rfl
theorem w54 (hw : HW a0 Z) : (Cond.interfaceMethod "java/util/Collection" "java/util/Collection" "isEmpty" "()Z").before a0 Z = true := hwi hw 54 rfl
theorem w55 (hw : HW a0 Z) : (Cond.selects "java/util/ArrayList" ⟨"java/util/Collection", "isEmpty", "()Z"⟩ ⟨"java/util/ArrayList", "isEmpty", "()Z"⟩).before a0 Z = true := hwi hw 55 rfl
theorem w56 (hw : HW a0 Z) : (Cond.instanceMethod ⟨"java/util/ArrayList", "isEmpty", "()Z"⟩).before a0 Z = true := hwi hw 56 rfl
theorem w57 (hw : HW a0 Z) : (Cond.publicMethod ⟨"java/util/ArrayList", "isEmpty", "()Z"⟩).before a0 Z = true := hwi hw 57 rfl
theorem w58 (hw : HW a0 Z) : (Cond.unhidden "java/util/ArrayList" "isEmpty" "()Z").before a0 Z = true := hwi hw 58 rfl
theorem w59 (hw : HW a0 Z) : (Cond.castable "java/util/ArrayList" "java/util/Collection").before a0 Z = true := hwi hw 59 rfl
theorem w60 (hw : HW a0 Z) : (Cond.code ⟨"java/util/ArrayList", "isEmpty", "()Z"⟩ jdk_38_method_9_code 1 (Option.some FieldType.boolean)).before a0 Z = true := hwi hw 60 rfl
theorem w61 (hw : HW a0 Z) : (Cond.fieldLink "java/util/ArrayList" 48 "java/util/ArrayList" "size" "I").before a0 Z = true := hwi hw 61 rfl
theorem w62 (hw : HW a0 Z) : (Cond.lays "java/util/ArrayList" "java/util/ArrayList" "size" "I").before a0 Z = true := hwi hw 62 rfl
theorem w63 (hw : HW a0 Z) : (Cond.methodLink "java/util/ImmutableCollections" 26 ⟨"java/util/List", "of", "()Ljava/util/List;"⟩).before a0 Z = true := hwi hw 63 rfl
theorem w64 (hw : HW a0 Z) : (Cond.static ⟨"java/util/List", "of", "()Ljava/util/List;"⟩).before a0 Z = true := hwi hw 64 rfl
theorem w65 (hw : HW a0 Z) : (Cond.code ⟨"java/util/List", "of", "()Ljava/util/List;"⟩ jdk_40_method_36_code 0 (Option.some (FieldType.object "java/util/List"))).before a0 Z = true := hwi hw 65 rfl
theorem w66 (hw : HW a0 Z) : (Cond.fieldLink "java/util/List" 90 "java/util/ImmutableCollections" "EMPTY_LIST" "Ljava/util/ImmutableCollections$ListN;").before a0 Z = true := hwi hw 66 rfl
theorem w215 (hw : HW a0 Z) : (Cond.laysFinal "java/util/ImmutableCollections$ListN" "java/util/ImmutableCollections$ListN" "elements" "[Ljava/lang/Object;").before a0 Z = true := hwi hw 215 rfl
theorem w303 (hw : HW a0 Z) : (Cond.methodLink "com/example/kick/kick/value/CloseReportToStringPinLaw" 14 ⟨"java/lang/String", "valueOf", "(C)Ljava/lang/String;"⟩).before a0 Z = true := hwi hw 303 rfl
theorem w304 (hw : HW a0 Z) : (Cond.static ⟨"java/lang/String", "valueOf", "(C)Ljava/lang/String;"⟩).before a0 Z = true := hwi hw 304 rfl
theorem w305 (hw : HW a0 Z) : (Cond.code ⟨"java/lang/String", "valueOf", "(C)Ljava/lang/String;"⟩ jdk_42_method_139_code 1 (Option.some (FieldType.object "java/lang/String"))).before a0 Z = true := hwi hw 305 rfl
theorem w316 (hw : HW a0 Z) : (Cond.methodLink "com/example/kick/kick/value/CloseReportToStringPinLaw" 20 ⟨"java/util/ArrayList", "add", "(Ljava/lang/Object;)Z"⟩).before a0 Z = true := hwi hw 316 rfl
theorem w317 (hw : HW a0 Z) : (Cond.declares ⟨"java/util/ArrayList", "add", "(Ljava/lang/Object;)Z"⟩).before a0 Z = true := hwi hw 317 rfl
theorem w318 (hw : HW a0 Z) : (Cond.instanceMethod ⟨"java/util/ArrayList", "add", "(Ljava/lang/Object;)Z"⟩).before a0 Z = true := hwi hw 318 rfl
theorem w319 (hw : HW a0 Z) : (Cond.selects "java/util/ArrayList" ⟨"java/util/ArrayList", "add", "(Ljava/lang/Object;)Z"⟩ ⟨"java/util/ArrayList", "add", "(Ljava/lang/Object;)Z"⟩).before a0 Z = true := hwi hw 319 rfl
theorem w320 (hw : HW a0 Z) : (Cond.code ⟨"java/util/ArrayList", "add", "(Ljava/lang/Object;)Z"⟩ jdk_38_method_25_code 2 (Option.some FieldType.boolean)).before a0 Z = true := hwi hw 320 rfl
theorem w321 (hw : HW a0 Z) : (Cond.fieldLink "java/util/ArrayList" 63 "java/util/ArrayList" "modCount" "I").before a0 Z = true := hwi hw 321 rfl
theorem w322 (hw : HW a0 Z) : (Cond.sameField "java/util/ArrayList" "java/util/AbstractList" "modCount" "I").before a0 Z = true := hwi hw 322 rfl
theorem w323 (hw : HW a0 Z) : (Cond.methodLink "java/util/ArrayList" 131 ⟨"java/util/ArrayList", "add", "(Ljava/lang/Object;[Ljava/lang/Object;I)V"⟩).before a0 Z = true := hwi hw 323 rfl
theorem w324 (hw : HW a0 Z) : (Cond.instanceMethod ⟨"java/util/ArrayList", "add", "(Ljava/lang/Object;[Ljava/lang/Object;I)V"⟩).before a0 Z = true := hwi hw 324 rfl
theorem w326 (hw : HW a0 Z) : (Cond.selects "java/util/ArrayList" ⟨"java/util/ArrayList", "add", "(Ljava/lang/Object;[Ljava/lang/Object;I)V"⟩ ⟨"java/util/ArrayList", "add", "(Ljava/lang/Object;[Ljava/lang/Object;I)V"⟩).before a0 Z = true := hwi hw 326 rfl
theorem w327 (hw : HW a0 Z) : (Cond.code ⟨"java/util/ArrayList", "add", "(Ljava/lang/Object;[Ljava/lang/Object;I)V"⟩ jdk_38_method_24_code 4 (Option.none : Option Jvm.ClassFile.FieldType)).before a0 Z = true := hwi hw 327 rfl
theorem w328 (hw : HW a0 Z) : (Cond.methodLink "java/util/ArrayList" 129 ⟨"java/util/ArrayList", "grow", "()[Ljava/lang/Object;"⟩).before a0 Z = true := hwi hw 328 rfl
theorem w329 (hw : HW a0 Z) : (Cond.instanceMethod ⟨"java/util/ArrayList", "grow", "()[Ljava/lang/Object;"⟩).before a0 Z = true := hwi hw 329 rfl
theorem w331 (hw : HW a0 Z) : (Cond.selects "java/util/ArrayList" ⟨"java/util/ArrayList", "grow", "()[Ljava/lang/Object;"⟩ ⟨"java/util/ArrayList", "grow", "()[Ljava/lang/Object;"⟩).before a0 Z = true := hwi hw 331 rfl
theorem w332 (hw : HW a0 Z) : (Cond.code ⟨"java/util/ArrayList", "grow", "()[Ljava/lang/Object;"⟩ jdk_38_method_7_code 1 (Option.some (FieldType.array (FieldType.object "java/lang/Object")))).before a0 Z = true := hwi hw 332 rfl
theorem w333 (hw : HW a0 Z) : (Cond.methodLink "java/util/ArrayList" 69 ⟨"java/util/ArrayList", "grow", "(I)[Ljava/lang/Object;"⟩).before a0 Z = true := hwi hw 333 rfl
theorem w334 (hw : HW a0 Z) : (Cond.instanceMethod ⟨"java/util/ArrayList", "grow", "(I)[Ljava/lang/Object;"⟩).before a0 Z = true := hwi hw 334 rfl
theorem w336 (hw : HW a0 Z) : (Cond.selects "java/util/ArrayList" ⟨"java/util/ArrayList", "grow", "(I)[Ljava/lang/Object;"⟩ ⟨"java/util/ArrayList", "grow", "(I)[Ljava/lang/Object;"⟩).before a0 Z = true := hwi hw 336 rfl
theorem w337 (hw : HW a0 Z) : (Cond.code ⟨"java/util/ArrayList", "grow", "(I)[Ljava/lang/Object;"⟩ jdk_38_method_6_code 4 (Option.some (FieldType.array (FieldType.object "java/lang/Object")))).before a0 Z = true := hwi hw 337 rfl
theorem w338 (hw : HW a0 Z) : (Cond.methodLink "java/util/ArrayList" 79 ⟨"java/lang/Math", "max", "(II)I"⟩).before a0 Z = true := hwi hw 338 rfl
theorem w339 (hw : HW a0 Z) : (Cond.classLink "java/util/ArrayList" 7 "java/lang/Object").before a0 Z = true := hwi hw 339 rfl
theorem w340 (hw : HW a0 Z) : (Cond.arrayOver (FieldType.object "java/lang/Object")).before a0 Z = true := hwi hw 340 rfl
theorem w341 (hw : HW a0 Z) : (Cond.castable "java/lang/String" "java/lang/Object").before a0 Z = true := hwi hw 341 rfl
theorem w342 (hw : HW a0 Z) : (Cond.methodLink "java/util/ImmutableCollections" 30 ⟨"java/util/Collection", "toArray", "()[Ljava/lang/Object;"⟩).before a0 Z = true := hwi hw 342 rfl
theorem w343 (hw : HW a0 Z) : (Cond.declares ⟨"java/util/Collection", "toArray", "()[Ljava/lang/Object;"⟩).before a0 Z = true := hwi hw 343 rfl
theorem w344 (hw : HW a0 Z) : (Cond.interfaceMethod "java/util/Collection" "java/util/Collection" "toArray" "()[Ljava/lang/Object;").before a0 Z = true := hwi hw 344 rfl
theorem w345 (hw : HW a0 Z) : (Cond.selects "java/util/ArrayList" ⟨"java/util/Collection", "toArray", "()[Ljava/lang/Object;"⟩ ⟨"java/util/ArrayList", "toArray", "()[Ljava/lang/Object;"⟩).before a0 Z = true := hwi hw 345 rfl
theorem w346 (hw : HW a0 Z) : (Cond.instanceMethod ⟨"java/util/ArrayList", "toArray", "()[Ljava/lang/Object;"⟩).before a0 Z = true := hwi hw 346 rfl
theorem w347 (hw : HW a0 Z) : (Cond.publicMethod ⟨"java/util/ArrayList", "toArray", "()[Ljava/lang/Object;"⟩).before a0 Z = true := hwi hw 347 rfl
theorem w348 (hw : HW a0 Z) : (Cond.unhidden "java/util/ArrayList" "toArray" "()[Ljava/lang/Object;").before a0 Z = true := hwi hw 348 rfl
theorem w349 (hw : HW a0 Z) : (Cond.code ⟨"java/util/ArrayList", "toArray", "()[Ljava/lang/Object;"⟩ jdk_38_method_16_code 1 (Option.some (FieldType.array (FieldType.object "java/lang/Object")))).before a0 Z = true := hwi hw 349 rfl
theorem w350 (hw : HW a0 Z) : (Cond.methodLink "java/util/ArrayList" 66 ⟨"java/util/Arrays", "copyOf", "([Ljava/lang/Object;I)[Ljava/lang/Object;"⟩).before a0 Z = true := hwi hw 350 rfl
theorem w351 (hw : HW a0 Z) : (Cond.static ⟨"java/util/Arrays", "copyOf", "([Ljava/lang/Object;I)[Ljava/lang/Object;"⟩).before a0 Z = true := hwi hw 351 rfl
theorem w352 (hw : HW a0 Z) : (Cond.code ⟨"java/util/Arrays", "copyOf", "([Ljava/lang/Object;I)[Ljava/lang/Object;"⟩ jdk_65_method_119_code 2 (Option.some (FieldType.array (FieldType.object "java/lang/Object")))).before a0 Z = true := hwi hw 352 rfl
theorem w353 (hw : HW a0 Z) : (Cond.methodLink "java/util/Arrays" 86 ⟨"java/lang/Object", "getClass", "()Ljava/lang/Class;"⟩).before a0 Z = true := hwi hw 353 rfl
theorem w354 (hw : HW a0 Z) : (Cond.declares ⟨"java/lang/Object", "getClass", "()Ljava/lang/Class;"⟩).before a0 Z = true := hwi hw 354 rfl
theorem w355 (hw : HW a0 Z) : (Cond.instanceMethod ⟨"java/lang/Object", "getClass", "()Ljava/lang/Class;"⟩).before a0 Z = true := hwi hw 355 rfl
theorem w356 (hw : HW a0 Z) : (Cond.selects "[Ljava/lang/Object;" ⟨"java/lang/Object", "getClass", "()Ljava/lang/Class;"⟩ ⟨"java/lang/Object", "getClass", "()Ljava/lang/Class;"⟩).before a0 Z = true := hwi hw 356 rfl
theorem w357 (hw : HW a0 Z) : (Cond.native ⟨"java/lang/Object", "getClass", "()Ljava/lang/Class;"⟩).before a0 Z = true := hwi hw 357 rfl
theorem w359 (hw : HW a0 Z) : (Cond.methodLink "java/util/Arrays" 300 ⟨"java/util/Arrays", "copyOf", "([Ljava/lang/Object;ILjava/lang/Class;)[Ljava/lang/Object;"⟩).before a0 Z = true := hwi hw 359 rfl
theorem w360 (hw : HW a0 Z) : (Cond.static ⟨"java/util/Arrays", "copyOf", "([Ljava/lang/Object;ILjava/lang/Class;)[Ljava/lang/Object;"⟩).before a0 Z = true := hwi hw 360 rfl
theorem w361 (hw : HW a0 Z) : (Cond.code ⟨"java/util/Arrays", "copyOf", "([Ljava/lang/Object;ILjava/lang/Class;)[Ljava/lang/Object;"⟩ jdk_65_method_120_code 4 (Option.some (FieldType.array (FieldType.object "java/lang/Object")))).before a0 Z = true := hwi hw 361 rfl
theorem w362 (hw : HW a0 Z) : (Cond.classLink "java/util/Arrays" 110 "[Ljava/lang/Object;").before a0 Z = true := hwi hw 362 rfl
theorem w363 (hw : HW a0 Z) : (Cond.classLink "java/util/Arrays" 2 "java/lang/Object").before a0 Z = true := hwi hw 363 rfl
theorem w364 (hw : HW a0 Z) : (Cond.methodLink "java/util/ImmutableCollections" 34 ⟨"java/util/List", "of", "([Ljava/lang/Object;)Ljava/util/List;"⟩).before a0 Z = true := hwi hw 364 rfl
theorem w365 (hw : HW a0 Z) : (Cond.static ⟨"java/util/List", "of", "([Ljava/lang/Object;)Ljava/util/List;"⟩).before a0 Z = true := hwi hw 365 rfl
theorem w366 (hw : HW a0 Z) : (Cond.code ⟨"java/util/List", "of", "([Ljava/lang/Object;)Ljava/util/List;"⟩ jdk_40_method_47_code 2 (Option.some (FieldType.object "java/util/List"))).before a0 Z = true := hwi hw 366 rfl
theorem w367 (hw : HW a0 Z) : (Cond.classLink "java/util/List" 96 "java/util/ImmutableCollections$List12").before a0 Z = true := hwi hw 367 rfl
theorem w368 (hw : HW a0 Z) : (Cond.instantiable "java/util/ImmutableCollections$List12" 2).before a0 Z = true := hwi hw 368 rfl
theorem w370 (hw : HW a0 Z) : (Cond.methodLink "java/util/List" 98 ⟨"java/util/ImmutableCollections$List12", "<init>", "(Ljava/lang/Object;)V"⟩).before a0 Z = true := hwi hw 370 rfl
theorem w371 (hw : HW a0 Z) : (Cond.instanceMethod ⟨"java/util/ImmutableCollections$List12", "<init>", "(Ljava/lang/Object;)V"⟩).before a0 Z = true := hwi hw 371 rfl
theorem w373 (hw : HW a0 Z) : (Cond.code ⟨"java/util/ImmutableCollections$List12", "<init>", "(Ljava/lang/Object;)V"⟩ jdk_44_method_1_code 2 (Option.none : Option Jvm.ClassFile.FieldType)).before a0 Z = true := hwi hw 373 rfl
theorem w374 (hw : HW a0 Z) : (Cond.methodLink "java/util/ImmutableCollections$List12" 1 ⟨"java/util/ImmutableCollections$AbstractImmutableList", "<init>", "()V"⟩).before a0 Z = true := hwi hw 374 rfl
theorem w375 (hw : HW a0 Z) : (Cond.instanceMethod ⟨"java/util/ImmutableCollections$AbstractImmutableList", "<init>", "()V"⟩).before a0 Z = true := hwi hw 375 rfl
theorem w378 (hw : HW a0 Z) : (Cond.initialized "java/util/ImmutableCollections$AbstractImmutableList").before a0 Z = true := hwi hw 378 rfl
theorem w379 (hw : HW a0 Z) : (Cond.code ⟨"java/util/ImmutableCollections$AbstractImmutableList", "<init>", "()V"⟩ jdk_46_method_1_code 1 (Option.none : Option Jvm.ClassFile.FieldType)).before a0 Z = true := hwi hw 379 rfl
theorem w380 (hw : HW a0 Z) : (Cond.methodLink "java/util/ImmutableCollections$AbstractImmutableList" 1 ⟨"java/util/ImmutableCollections$AbstractImmutableCollection", "<init>", "()V"⟩).before a0 Z = true := hwi hw 380 rfl
theorem w381 (hw : HW a0 Z) : (Cond.instanceMethod ⟨"java/util/ImmutableCollections$AbstractImmutableCollection", "<init>", "()V"⟩).before a0 Z = true := hwi hw 381 rfl
theorem w384 (hw : HW a0 Z) : (Cond.initialized "java/util/ImmutableCollections$AbstractImmutableCollection").before a0 Z = true := hwi hw 384 rfl
theorem w385 (hw : HW a0 Z) : (Cond.code ⟨"java/util/ImmutableCollections$AbstractImmutableCollection", "<init>", "()V"⟩ jdk_47_method_1_code 1 (Option.none : Option Jvm.ClassFile.FieldType)).before a0 Z = true := hwi hw 385 rfl
theorem w386 (hw : HW a0 Z) : (Cond.methodLink "java/util/ImmutableCollections$AbstractImmutableCollection" 1 ⟨"java/util/AbstractCollection", "<init>", "()V"⟩).before a0 Z = true := hwi hw 386 rfl
theorem w388 (hw : HW a0 Z) : (Cond.methodLink "java/util/ImmutableCollections$List12" 7 ⟨"java/util/Objects", "requireNonNull", "(Ljava/lang/Object;)Ljava/lang/Object;"⟩).before a0 Z = true := hwi hw 388 rfl
theorem w389 (hw : HW a0 Z) : (Cond.static ⟨"java/util/Objects", "requireNonNull", "(Ljava/lang/Object;)Ljava/lang/Object;"⟩).before a0 Z = true := hwi hw 389 rfl
theorem w390 (hw : HW a0 Z) : (Cond.initialized "java/util/Objects").before a0 Z = true := hwi hw 390 rfl
theorem w391 (hw : HW a0 Z) : (Cond.code ⟨"java/util/Objects", "requireNonNull", "(Ljava/lang/Object;)Ljava/lang/Object;"⟩ jdk_31_method_10_code 1 (Option.some (FieldType.object "java/lang/Object"))).before a0 Z = true := hwi hw 391 rfl
theorem w392 (hw : HW a0 Z) : (Cond.fieldLink "java/util/ImmutableCollections$List12" 13 "java/util/ImmutableCollections$List12" "e0" "Ljava/lang/Object;").before a0 Z = true := hwi hw 392 rfl
theorem w393 (hw : HW a0 Z) : (Cond.laysFinal "java/util/ImmutableCollections$List12" "java/util/ImmutableCollections$List12" "e0" "Ljava/lang/Object;").before a0 Z = true := hwi hw 393 rfl
theorem w396 (hw : HW a0 Z) : (Cond.laysFinal "java/util/ImmutableCollections$List12" "java/util/ImmutableCollections$List12" "e1" "Ljava/lang/Object;").before a0 Z = true := hwi hw 396 rfl
theorem w404 (hw : HW a0 Z) : (Cond.methodLink "java/util/List" 109 ⟨"java/util/ImmutableCollections", "listFromArray", "([Ljava/lang/Object;)Ljava/util/List;"⟩).before a0 Z = true := hwi hw 404 rfl
theorem w405 (hw : HW a0 Z) : (Cond.static ⟨"java/util/ImmutableCollections", "listFromArray", "([Ljava/lang/Object;)Ljava/util/List;"⟩).before a0 Z = true := hwi hw 405 rfl
theorem w406 (hw : HW a0 Z) : (Cond.code ⟨"java/util/ImmutableCollections", "listFromArray", "([Ljava/lang/Object;)Ljava/util/List;"⟩ jdk_56_method_4_code 3 (Option.some (FieldType.object "java/util/List"))).before a0 Z = true := hwi hw 406 rfl
theorem w407 (hw : HW a0 Z) : (Cond.classLink "java/util/ImmutableCollections" 2 "java/lang/Object").before a0 Z = true := hwi hw 407 rfl
theorem w408 (hw : HW a0 Z) : (Cond.methodLink "java/util/ImmutableCollections" 37 ⟨"java/util/Objects", "requireNonNull", "(Ljava/lang/Object;)Ljava/lang/Object;"⟩).before a0 Z = true := hwi hw 408 rfl
theorem w409 (hw : HW a0 Z) : (Cond.instantiable "java/util/ImmutableCollections$ListN" 2).before a0 Z = true := hwi hw 409 rfl
theorem w410 (hw : HW a0 Z) : (Cond.methodLinkNest "java/util/ImmutableCollections" 43 ⟨"java/util/ImmutableCollections$ListN", "<init>", "([Ljava/lang/Object;Z)V"⟩ "java/util/ImmutableCollections").before a0 Z = true := hwi hw 410 rfl
theorem w411 (hw : HW a0 Z) : (Cond.instanceMethod ⟨"java/util/ImmutableCollections$ListN", "<init>", "([Ljava/lang/Object;Z)V"⟩).before a0 Z = true := hwi hw 411 rfl
theorem w413 (hw : HW a0 Z) : (Cond.code ⟨"java/util/ImmutableCollections$ListN", "<init>", "([Ljava/lang/Object;Z)V"⟩ jdk_45_method_1_code 3 (Option.none : Option Jvm.ClassFile.FieldType)).before a0 Z = true := hwi hw 413 rfl
theorem w414 (hw : HW a0 Z) : (Cond.methodLink "java/util/ImmutableCollections$ListN" 1 ⟨"java/util/ImmutableCollections$AbstractImmutableList", "<init>", "()V"⟩).before a0 Z = true := hwi hw 414 rfl
theorem w418 (hw : HW a0 Z) : (Cond.fieldLink "java/util/ImmutableCollections$ListN" 13 "java/util/ImmutableCollections$ListN" "allowNulls" "Z").before a0 Z = true := hwi hw 418 rfl
theorem w419 (hw : HW a0 Z) : (Cond.laysFinal "java/util/ImmutableCollections$ListN" "java/util/ImmutableCollections$ListN" "allowNulls" "Z").before a0 Z = true := hwi hw 419 rfl
theorem w420 (hw : HW a0 Z) : (Cond.methodLink "java/util/List" 100 ⟨"java/util/ImmutableCollections$List12", "<init>", "(Ljava/lang/Object;Ljava/lang/Object;)V"⟩).before a0 Z = true := hwi hw 420 rfl
theorem w421 (hw : HW a0 Z) : (Cond.instanceMethod ⟨"java/util/ImmutableCollections$List12", "<init>", "(Ljava/lang/Object;Ljava/lang/Object;)V"⟩).before a0 Z = true := hwi hw 421 rfl
theorem w422 (hw : HW a0 Z) : (Cond.code ⟨"java/util/ImmutableCollections$List12", "<init>", "(Ljava/lang/Object;Ljava/lang/Object;)V"⟩ jdk_44_method_2_code 3 (Option.none : Option Jvm.ClassFile.FieldType)).before a0 Z = true := hwi hw 422 rfl
theorem d52_0 : decode jdk_22_method_1_code 0 = .ok (.aload_n 0, 1) := by decide +kernel
theorem d52_1 : decode jdk_22_method_1_code 1 = .ok (.invokespecial 1, 3) := by decide +kernel
theorem d52_4 : decode jdk_22_method_1_code 4 = .ok (.return_, 1) := by decide +kernel
theorem d67_0 : decode jdk_31_method_10_code 0 = .ok (.aload_n 0, 1) := by decide +kernel
theorem d67_1 : decode jdk_31_method_10_code 1 = .ok (.ifnonnull 11, 3) := by decide +kernel
theorem d67_12 : decode jdk_31_method_10_code 12 = .ok (.aload_n 0, 1) := by decide +kernel
theorem d67_13 : decode jdk_31_method_10_code 13 = .ok (.areturn, 1) := by decide +kernel
theorem d60_0 : decode jdk_38_method_16_code 0 = .ok (.aload_n 0, 1) := by decide +kernel
theorem d60_1 : decode jdk_38_method_16_code 1 = .ok (.getfield 9, 3) := by decide +kernel
theorem d60_4 : decode jdk_38_method_16_code 4 = .ok (.aload_n 0, 1) := by decide +kernel
theorem d60_5 : decode jdk_38_method_16_code 5 = .ok (.getfield 48, 3) := by decide +kernel
theorem d60_8 : decode jdk_38_method_16_code 8 = .ok (.invokestatic 66, 3) := by decide +kernel
theorem d60_11 : decode jdk_38_method_16_code 11 = .ok (.areturn, 1) := by decide +kernel
theorem d57_0 : decode jdk_38_method_24_code 0 = .ok (.iload_n 3, 1) := by decide +kernel
theorem d57_1 : decode jdk_38_method_24_code 1 = .ok (.aload_n 2, 1) := by decide +kernel
theorem d57_2 : decode jdk_38_method_24_code 2 = .ok (.arraylength, 1) := by decide +kernel
theorem d57_3 : decode jdk_38_method_24_code 3 = .ok (.if_icmp .ne 8, 3) := by decide +kernel
theorem d57_6 : decode jdk_38_method_24_code 6 = .ok (.aload_n 0, 1) := by decide +kernel
theorem d57_7 : decode jdk_38_method_24_code 7 = .ok (.invokevirtual 129, 3) := by decide +kernel
theorem d57_10 : decode jdk_38_method_24_code 10 = .ok (.astore_n 2, 1) := by decide +kernel
theorem d57_11 : decode jdk_38_method_24_code 11 = .ok (.aload_n 2, 1) := by decide +kernel
theorem d57_12 : decode jdk_38_method_24_code 12 = .ok (.iload_n 3, 1) := by decide +kernel
theorem d57_13 : decode jdk_38_method_24_code 13 = .ok (.aload_n 1, 1) := by decide +kernel
theorem d57_14 : decode jdk_38_method_24_code 14 = .ok (.aastore, 1) := by decide +kernel
theorem d57_15 : decode jdk_38_method_24_code 15 = .ok (.aload_n 0, 1) := by decide +kernel
theorem d57_16 : decode jdk_38_method_24_code 16 = .ok (.iload_n 3, 1) := by decide +kernel
theorem d57_17 : decode jdk_38_method_24_code 17 = .ok (.iconst 1, 1) := by decide +kernel
theorem d57_18 : decode jdk_38_method_24_code 18 = .ok (.iadd, 1) := by decide +kernel
theorem d57_19 : decode jdk_38_method_24_code 19 = .ok (.putfield 48, 3) := by decide +kernel
theorem d57_22 : decode jdk_38_method_24_code 22 = .ok (.return_, 1) := by decide +kernel
theorem d56_0 : decode jdk_38_method_25_code 0 = .ok (.aload_n 0, 1) := by decide +kernel
theorem d56_1 : decode jdk_38_method_25_code 1 = .ok (.dup, 1) := by decide +kernel
theorem d56_2 : decode jdk_38_method_25_code 2 = .ok (.getfield 63, 3) := by decide +kernel
theorem d56_5 : decode jdk_38_method_25_code 5 = .ok (.iconst 1, 1) := by decide +kernel
theorem d56_6 : decode jdk_38_method_25_code 6 = .ok (.iadd, 1) := by decide +kernel
theorem d56_7 : decode jdk_38_method_25_code 7 = .ok (.putfield 63, 3) := by decide +kernel
theorem d56_10 : decode jdk_38_method_25_code 10 = .ok (.aload_n 0, 1) := by decide +kernel
theorem d56_11 : decode jdk_38_method_25_code 11 = .ok (.aload_n 1, 1) := by decide +kernel
theorem d56_12 : decode jdk_38_method_25_code 12 = .ok (.aload_n 0, 1) := by decide +kernel
theorem d56_13 : decode jdk_38_method_25_code 13 = .ok (.getfield 9, 3) := by decide +kernel
theorem d56_16 : decode jdk_38_method_25_code 16 = .ok (.aload_n 0, 1) := by decide +kernel
theorem d56_17 : decode jdk_38_method_25_code 17 = .ok (.getfield 48, 3) := by decide +kernel
theorem d56_20 : decode jdk_38_method_25_code 20 = .ok (.invokevirtual 131, 3) := by decide +kernel
theorem d56_23 : decode jdk_38_method_25_code 23 = .ok (.iconst 1, 1) := by decide +kernel
theorem d56_24 : decode jdk_38_method_25_code 24 = .ok (.ireturn, 1) := by decide +kernel
theorem d50_0 : decode jdk_38_method_2_code 0 = .ok (.aload_n 0, 1) := by decide +kernel
theorem d50_1 : decode jdk_38_method_2_code 1 = .ok (.invokespecial 1, 3) := by decide +kernel
theorem d50_4 : decode jdk_38_method_2_code 4 = .ok (.aload_n 0, 1) := by decide +kernel
theorem d50_5 : decode jdk_38_method_2_code 5 = .ok (.getstatic 39, 3) := by decide +kernel
theorem d50_8 : decode jdk_38_method_2_code 8 = .ok (.putfield 9, 3) := by decide +kernel
theorem d50_11 : decode jdk_38_method_2_code 11 = .ok (.return_, 1) := by decide +kernel
theorem d59_0 : decode jdk_38_method_6_code 0 = .ok (.aload_n 0, 1) := by decide +kernel
theorem d59_1 : decode jdk_38_method_6_code 1 = .ok (.getfield 9, 3) := by decide +kernel
theorem d59_4 : decode jdk_38_method_6_code 4 = .ok (.arraylength, 1) := by decide +kernel
theorem d59_5 : decode jdk_38_method_6_code 5 = .ok (.istore_n 2, 1) := by decide +kernel
theorem d59_6 : decode jdk_38_method_6_code 6 = .ok (.iload_n 2, 1) := by decide +kernel
theorem d59_7 : decode jdk_38_method_6_code 7 = .ok (.ifCond .gt 13, 3) := by decide +kernel
theorem d59_10 : decode jdk_38_method_6_code 10 = .ok (.aload_n 0, 1) := by decide +kernel
theorem d59_11 : decode jdk_38_method_6_code 11 = .ok (.getfield 9, 3) := by decide +kernel
theorem d59_14 : decode jdk_38_method_6_code 14 = .ok (.getstatic 39, 3) := by decide +kernel
theorem d59_17 : decode jdk_38_method_6_code 17 = .ok (.if_acmp .eq 28, 3) := by decide +kernel
theorem d59_45 : decode jdk_38_method_6_code 45 = .ok (.aload_n 0, 1) := by decide +kernel
theorem d59_46 : decode jdk_38_method_6_code 46 = .ok (.bipush 10, 2) := by decide +kernel
theorem d59_48 : decode jdk_38_method_6_code 48 = .ok (.iload_n 1, 1) := by decide +kernel
theorem d59_49 : decode jdk_38_method_6_code 49 = .ok (.invokestatic 79, 3) := by decide +kernel
theorem d59_52 : decode jdk_38_method_6_code 52 = .ok (.anewarray 7, 3) := by decide +kernel
theorem d59_55 : decode jdk_38_method_6_code 55 = .ok (.dup_x1, 1) := by decide +kernel
theorem d59_56 : decode jdk_38_method_6_code 56 = .ok (.putfield 9, 3) := by decide +kernel
theorem d59_59 : decode jdk_38_method_6_code 59 = .ok (.areturn, 1) := by decide +kernel
theorem d58_0 : decode jdk_38_method_7_code 0 = .ok (.aload_n 0, 1) := by decide +kernel
theorem d58_1 : decode jdk_38_method_7_code 1 = .ok (.aload_n 0, 1) := by decide +kernel
theorem d58_2 : decode jdk_38_method_7_code 2 = .ok (.getfield 48, 3) := by decide +kernel
theorem d58_5 : decode jdk_38_method_7_code 5 = .ok (.iconst 1, 1) := by decide +kernel
theorem d58_6 : decode jdk_38_method_7_code 6 = .ok (.iadd, 1) := by decide +kernel
theorem d58_7 : decode jdk_38_method_7_code 7 = .ok (.invokevirtual 69, 3) := by decide +kernel
theorem d58_10 : decode jdk_38_method_7_code 10 = .ok (.areturn, 1) := by decide +kernel
theorem d54_0 : decode jdk_38_method_9_code 0 = .ok (.aload_n 0, 1) := by decide +kernel
theorem d54_1 : decode jdk_38_method_9_code 1 = .ok (.getfield 48, 3) := by decide +kernel
theorem d54_4 : decode jdk_38_method_9_code 4 = .ok (.ifCond .ne 7, 3) := by decide +kernel
theorem d54_7 : decode jdk_38_method_9_code 7 = .ok (.iconst 1, 1) := by decide +kernel
theorem d54_8 : decode jdk_38_method_9_code 8 = .ok (.goto 4, 3) := by decide +kernel
theorem d54_11 : decode jdk_38_method_9_code 11 = .ok (.iconst 0, 1) := by decide +kernel
theorem d54_12 : decode jdk_38_method_9_code 12 = .ok (.ireturn, 1) := by decide +kernel
theorem d51_0 : decode jdk_39_method_1_code 0 = .ok (.aload_n 0, 1) := by decide +kernel
theorem d51_1 : decode jdk_39_method_1_code 1 = .ok (.invokespecial 1, 3) := by decide +kernel
theorem d51_4 : decode jdk_39_method_1_code 4 = .ok (.aload_n 0, 1) := by decide +kernel
theorem d51_5 : decode jdk_39_method_1_code 5 = .ok (.iconst 0, 1) := by decide +kernel
theorem d51_6 : decode jdk_39_method_1_code 6 = .ok (.putfield 7, 3) := by decide +kernel
theorem d51_9 : decode jdk_39_method_1_code 9 = .ok (.return_, 1) := by decide +kernel
theorem d55_0 : decode jdk_40_method_36_code 0 = .ok (.getstatic 90, 3) := by decide +kernel
theorem d55_3 : decode jdk_40_method_36_code 3 = .ok (.areturn, 1) := by decide +kernel
theorem d63_0 : decode jdk_40_method_47_code 0 = .ok (.aload_n 0, 1) := by decide +kernel
theorem d63_1 : decode jdk_40_method_47_code 1 = .ok (.arraylength, 1) := by decide +kernel
theorem d63_2 : decode jdk_40_method_47_code 2 = .ok (.tableswitch 57 0 2 #[26, 32, 43], 26) := by decide +kernel
theorem d63_34 : decode jdk_40_method_47_code 34 = .ok (.new 96, 3) := by decide +kernel
theorem d63_37 : decode jdk_40_method_47_code 37 = .ok (.dup, 1) := by decide +kernel
theorem d63_38 : decode jdk_40_method_47_code 38 = .ok (.aload_n 0, 1) := by decide +kernel
theorem d63_39 : decode jdk_40_method_47_code 39 = .ok (.iconst 0, 1) := by decide +kernel
theorem d63_40 : decode jdk_40_method_47_code 40 = .ok (.aaload, 1) := by decide +kernel
theorem d63_41 : decode jdk_40_method_47_code 41 = .ok (.invokespecial 98, 3) := by decide +kernel
theorem d63_44 : decode jdk_40_method_47_code 44 = .ok (.areturn, 1) := by decide +kernel
theorem d63_45 : decode jdk_40_method_47_code 45 = .ok (.new 96, 3) := by decide +kernel
theorem d63_48 : decode jdk_40_method_47_code 48 = .ok (.dup, 1) := by decide +kernel
theorem d63_49 : decode jdk_40_method_47_code 49 = .ok (.aload_n 0, 1) := by decide +kernel
theorem d63_50 : decode jdk_40_method_47_code 50 = .ok (.iconst 0, 1) := by decide +kernel
theorem d63_51 : decode jdk_40_method_47_code 51 = .ok (.aaload, 1) := by decide +kernel
theorem d63_52 : decode jdk_40_method_47_code 52 = .ok (.aload_n 0, 1) := by decide +kernel
theorem d63_53 : decode jdk_40_method_47_code 53 = .ok (.iconst 1, 1) := by decide +kernel
theorem d63_54 : decode jdk_40_method_47_code 54 = .ok (.aaload, 1) := by decide +kernel
theorem d63_55 : decode jdk_40_method_47_code 55 = .ok (.invokespecial 100, 3) := by decide +kernel
theorem d63_58 : decode jdk_40_method_47_code 58 = .ok (.areturn, 1) := by decide +kernel
theorem d63_59 : decode jdk_40_method_47_code 59 = .ok (.aload_n 0, 1) := by decide +kernel
theorem d63_60 : decode jdk_40_method_47_code 60 = .ok (.invokestatic 109, 3) := by decide +kernel
theorem d63_63 : decode jdk_40_method_47_code 63 = .ok (.areturn, 1) := by decide +kernel
theorem d64_0 : decode jdk_44_method_1_code 0 = .ok (.aload_n 0, 1) := by decide +kernel
theorem d64_1 : decode jdk_44_method_1_code 1 = .ok (.invokespecial 1, 3) := by decide +kernel
theorem d64_4 : decode jdk_44_method_1_code 4 = .ok (.aload_n 0, 1) := by decide +kernel
theorem d64_5 : decode jdk_44_method_1_code 5 = .ok (.aload_n 1, 1) := by decide +kernel
theorem d64_6 : decode jdk_44_method_1_code 6 = .ok (.invokestatic 7, 3) := by decide +kernel
theorem d64_9 : decode jdk_44_method_1_code 9 = .ok (.putfield 13, 3) := by decide +kernel
theorem d64_12 : decode jdk_44_method_1_code 12 = .ok (.aload_n 0, 1) := by decide +kernel
theorem d64_13 : decode jdk_44_method_1_code 13 = .ok (.getstatic 19, 3) := by decide +kernel
theorem d64_16 : decode jdk_44_method_1_code 16 = .ok (.putfield 24, 3) := by decide +kernel
theorem d64_19 : decode jdk_44_method_1_code 19 = .ok (.return_, 1) := by decide +kernel
theorem d68_0 : decode jdk_44_method_2_code 0 = .ok (.aload_n 0, 1) := by decide +kernel
theorem d68_1 : decode jdk_44_method_2_code 1 = .ok (.invokespecial 1, 3) := by decide +kernel
theorem d68_4 : decode jdk_44_method_2_code 4 = .ok (.aload_n 0, 1) := by decide +kernel
theorem d68_5 : decode jdk_44_method_2_code 5 = .ok (.aload_n 1, 1) := by decide +kernel
theorem d68_6 : decode jdk_44_method_2_code 6 = .ok (.invokestatic 7, 3) := by decide +kernel
theorem d68_9 : decode jdk_44_method_2_code 9 = .ok (.putfield 13, 3) := by decide +kernel
theorem d68_12 : decode jdk_44_method_2_code 12 = .ok (.aload_n 0, 1) := by decide +kernel
theorem d68_13 : decode jdk_44_method_2_code 13 = .ok (.aload_n 2, 1) := by decide +kernel
theorem d68_14 : decode jdk_44_method_2_code 14 = .ok (.invokestatic 7, 3) := by decide +kernel
theorem d68_17 : decode jdk_44_method_2_code 17 = .ok (.putfield 24, 3) := by decide +kernel
theorem d68_20 : decode jdk_44_method_2_code 20 = .ok (.return_, 1) := by decide +kernel
theorem d70_0 : decode jdk_45_method_1_code 0 = .ok (.aload_n 0, 1) := by decide +kernel
theorem d70_1 : decode jdk_45_method_1_code 1 = .ok (.invokespecial 1, 3) := by decide +kernel
theorem d70_4 : decode jdk_45_method_1_code 4 = .ok (.aload_n 0, 1) := by decide +kernel
theorem d70_5 : decode jdk_45_method_1_code 5 = .ok (.aload_n 1, 1) := by decide +kernel
theorem d70_6 : decode jdk_45_method_1_code 6 = .ok (.putfield 7, 3) := by decide +kernel
theorem d70_9 : decode jdk_45_method_1_code 9 = .ok (.aload_n 0, 1) := by decide +kernel
theorem d70_10 : decode jdk_45_method_1_code 10 = .ok (.iload_n 2, 1) := by decide +kernel
theorem d70_11 : decode jdk_45_method_1_code 11 = .ok (.putfield 13, 3) := by decide +kernel
theorem d70_14 : decode jdk_45_method_1_code 14 = .ok (.return_, 1) := by decide +kernel
theorem d65_0 : decode jdk_46_method_1_code 0 = .ok (.aload_n 0, 1) := by decide +kernel
theorem d65_1 : decode jdk_46_method_1_code 1 = .ok (.invokespecial 1, 3) := by decide +kernel
theorem d65_4 : decode jdk_46_method_1_code 4 = .ok (.return_, 1) := by decide +kernel
theorem d66_0 : decode jdk_47_method_1_code 0 = .ok (.aload_n 0, 1) := by decide +kernel
theorem d66_1 : decode jdk_47_method_1_code 1 = .ok (.invokespecial 1, 3) := by decide +kernel
theorem d66_4 : decode jdk_47_method_1_code 4 = .ok (.return_, 1) := by decide +kernel
theorem d53_0 : decode jdk_56_method_3_code 0 = .ok (.aload_n 0, 1) := by decide +kernel
theorem d53_1 : decode jdk_56_method_3_code 1 = .ok (.instanceof 10, 3) := by decide +kernel
theorem d53_4 : decode jdk_56_method_3_code 4 = .ok (.ifCond .ne 22, 3) := by decide +kernel
theorem d53_7 : decode jdk_56_method_3_code 7 = .ok (.aload_n 0, 1) := by decide +kernel
theorem d53_8 : decode jdk_56_method_3_code 8 = .ok (.instanceof 12, 3) := by decide +kernel
theorem d53_11 : decode jdk_56_method_3_code 11 = .ok (.ifCond .eq 20, 3) := by decide +kernel
theorem d53_31 : decode jdk_56_method_3_code 31 = .ok (.aload_n 0, 1) := by decide +kernel
theorem d53_32 : decode jdk_56_method_3_code 32 = .ok (.invokeinterface 20 1, 5) := by decide +kernel
theorem d53_37 : decode jdk_56_method_3_code 37 = .ok (.ifCond .eq 7, 3) := by decide +kernel
theorem d53_40 : decode jdk_56_method_3_code 40 = .ok (.invokestatic 26, 3) := by decide +kernel
theorem d53_43 : decode jdk_56_method_3_code 43 = .ok (.areturn, 1) := by decide +kernel
theorem d53_44 : decode jdk_56_method_3_code 44 = .ok (.aload_n 0, 1) := by decide +kernel
theorem d53_45 : decode jdk_56_method_3_code 45 = .ok (.invokeinterface 30 1, 5) := by decide +kernel
theorem d53_50 : decode jdk_56_method_3_code 50 = .ok (.invokestatic 34, 3) := by decide +kernel
theorem d53_53 : decode jdk_56_method_3_code 53 = .ok (.areturn, 1) := by decide +kernel
theorem d69_0 : decode jdk_56_method_4_code 0 = .ok (.aload_n 0, 1) := by decide +kernel
theorem d69_1 : decode jdk_56_method_4_code 1 = .ok (.arraylength, 1) := by decide +kernel
theorem d69_2 : decode jdk_56_method_4_code 2 = .ok (.anewarray 2, 3) := by decide +kernel
theorem d69_5 : decode jdk_56_method_4_code 5 = .ok (.astore_n 1, 1) := by decide +kernel
theorem d69_6 : decode jdk_56_method_4_code 6 = .ok (.iconst 0, 1) := by decide +kernel
theorem d69_7 : decode jdk_56_method_4_code 7 = .ok (.istore_n 2, 1) := by decide +kernel
theorem d69_8 : decode jdk_56_method_4_code 8 = .ok (.iload_n 2, 1) := by decide +kernel
theorem d69_9 : decode jdk_56_method_4_code 9 = .ok (.aload_n 0, 1) := by decide +kernel
theorem d69_10 : decode jdk_56_method_4_code 10 = .ok (.arraylength, 1) := by decide +kernel
theorem d69_11 : decode jdk_56_method_4_code 11 = .ok (.if_icmp .ge 18, 3) := by decide +kernel
theorem d69_14 : decode jdk_56_method_4_code 14 = .ok (.aload_n 1, 1) := by decide +kernel
theorem d69_15 : decode jdk_56_method_4_code 15 = .ok (.iload_n 2, 1) := by decide +kernel
theorem d69_16 : decode jdk_56_method_4_code 16 = .ok (.aload_n 0, 1) := by decide +kernel
theorem d69_17 : decode jdk_56_method_4_code 17 = .ok (.iload_n 2, 1) := by decide +kernel
theorem d69_18 : decode jdk_56_method_4_code 18 = .ok (.aaload, 1) := by decide +kernel
theorem d69_19 : decode jdk_56_method_4_code 19 = .ok (.invokestatic 37, 3) := by decide +kernel
theorem d69_22 : decode jdk_56_method_4_code 22 = .ok (.aastore, 1) := by decide +kernel
theorem d69_23 : decode jdk_56_method_4_code 23 = .ok (.iinc 2 1, 3) := by decide +kernel
theorem d69_26 : decode jdk_56_method_4_code 26 = .ok (.goto (-18), 3) := by decide +kernel
theorem d69_29 : decode jdk_56_method_4_code 29 = .ok (.new 12, 3) := by decide +kernel
theorem d69_32 : decode jdk_56_method_4_code 32 = .ok (.dup, 1) := by decide +kernel
theorem d69_33 : decode jdk_56_method_4_code 33 = .ok (.aload_n 1, 1) := by decide +kernel
theorem d69_34 : decode jdk_56_method_4_code 34 = .ok (.iconst 0, 1) := by decide +kernel
theorem d69_35 : decode jdk_56_method_4_code 35 = .ok (.invokespecial 43, 3) := by decide +kernel
theorem d69_38 : decode jdk_56_method_4_code 38 = .ok (.areturn, 1) := by decide +kernel
theorem d61_0 : decode jdk_65_method_119_code 0 = .ok (.aload_n 0, 1) := by decide +kernel
theorem d61_1 : decode jdk_65_method_119_code 1 = .ok (.iload_n 1, 1) := by decide +kernel
theorem d61_2 : decode jdk_65_method_119_code 2 = .ok (.aload_n 0, 1) := by decide +kernel
theorem d61_3 : decode jdk_65_method_119_code 3 = .ok (.invokevirtual 86, 3) := by decide +kernel
theorem d61_6 : decode jdk_65_method_119_code 6 = .ok (.invokestatic 300, 3) := by decide +kernel
theorem d61_9 : decode jdk_65_method_119_code 9 = .ok (.areturn, 1) := by decide +kernel
theorem d62_0 : decode jdk_65_method_120_code 0 = .ok (.aload_n 2, 1) := by decide +kernel
theorem d62_1 : decode jdk_65_method_120_code 1 = .ok (.ldc 110, 2) := by decide +kernel
theorem d62_3 : decode jdk_65_method_120_code 3 = .ok (.if_acmp .ne 10, 3) := by decide +kernel
theorem d62_6 : decode jdk_65_method_120_code 6 = .ok (.iload_n 1, 1) := by decide +kernel
theorem d62_7 : decode jdk_65_method_120_code 7 = .ok (.anewarray 2, 3) := by decide +kernel
theorem d62_10 : decode jdk_65_method_120_code 10 = .ok (.goto 14, 3) := by decide +kernel
theorem d62_24 : decode jdk_65_method_120_code 24 = .ok (.astore_n 3, 1) := by decide +kernel
theorem d62_25 : decode jdk_65_method_120_code 25 = .ok (.aload_n 0, 1) := by decide +kernel
theorem d62_26 : decode jdk_65_method_120_code 26 = .ok (.iconst 0, 1) := by decide +kernel
theorem d62_27 : decode jdk_65_method_120_code 27 = .ok (.aload_n 3, 1) := by decide +kernel
theorem d62_28 : decode jdk_65_method_120_code 28 = .ok (.iconst 0, 1) := by decide +kernel
theorem d62_29 : decode jdk_65_method_120_code 29 = .ok (.aload_n 0, 1) := by decide +kernel
theorem d62_30 : decode jdk_65_method_120_code 30 = .ok (.arraylength, 1) := by decide +kernel
theorem d62_31 : decode jdk_65_method_120_code 31 = .ok (.iload_n 1, 1) := by decide +kernel
theorem d62_32 : decode jdk_65_method_120_code 32 = .ok (.invokestatic 304, 3) := by decide +kernel
theorem d62_35 : decode jdk_65_method_120_code 35 = .ok (.invokestatic 150, 3) := by decide +kernel
theorem d62_38 : decode jdk_65_method_120_code 38 = .ok (.aload_n 3, 1) := by decide +kernel
theorem d62_39 : decode jdk_65_method_120_code 39 = .ok (.areturn, 1) := by decide +kernel
theorem pd_36 : parseMethodDescriptor "()Ljava/util/List;" = some ⟨[], some (.object "java/util/List")⟩ := by decide +kernel
theorem pd_37 : parseMethodDescriptor "(JJLjava/util/List;)V" = some ⟨[.long, .long, (.object "java/util/List")], none⟩ := by decide +kernel
theorem pd_38 : parseMethodDescriptor "(C)Ljava/lang/String;" = some ⟨[.char], some (.object "java/lang/String")⟩ := by decide +kernel
theorem pd_39 : parseMethodDescriptor "(I)[Ljava/lang/Object;" = some ⟨[.int], some (.array (.object "java/lang/Object"))⟩ := by decide +kernel
theorem pd_40 : parseMethodDescriptor "()[Ljava/lang/Object;" = some ⟨[], some (.array (.object "java/lang/Object"))⟩ := by decide +kernel
theorem pd_41 : parseMethodDescriptor "(Ljava/lang/Object;[Ljava/lang/Object;I)V" = some ⟨[(.object "java/lang/Object"), (.array (.object "java/lang/Object")), .int], none⟩ := by decide +kernel
theorem pd_42 : parseMethodDescriptor "(Ljava/lang/Object;)Z" = some ⟨[(.object "java/lang/Object")], some .boolean⟩ := by decide +kernel
theorem pd_43 : parseMethodDescriptor "([Ljava/lang/Object;ILjava/lang/Class;)[Ljava/lang/Object;" = some ⟨[(.array (.object "java/lang/Object")), .int, (.object "java/lang/Class")], some (.array (.object "java/lang/Object"))⟩ := by decide +kernel
theorem pd_44 : parseMethodDescriptor "([Ljava/lang/Object;I)[Ljava/lang/Object;" = some ⟨[(.array (.object "java/lang/Object")), .int], some (.array (.object "java/lang/Object"))⟩ := by decide +kernel
theorem pd_45 : parseMethodDescriptor "(Ljava/lang/Object;)Ljava/lang/Object;" = some ⟨[(.object "java/lang/Object")], some (.object "java/lang/Object")⟩ := by decide +kernel
theorem pd_46 : parseMethodDescriptor "(Ljava/lang/Object;)V" = some ⟨[(.object "java/lang/Object")], none⟩ := by decide +kernel
theorem pd_47 : parseMethodDescriptor "([Ljava/lang/Object;)Ljava/util/List;" = some ⟨[(.array (.object "java/lang/Object"))], some (.object "java/util/List")⟩ := by decide +kernel
theorem pd_48 : parseMethodDescriptor "(Ljava/lang/Object;Ljava/lang/Object;)V" = some ⟨[(.object "java/lang/Object"), (.object "java/lang/Object")], none⟩ := by decide +kernel
theorem pd_49 : parseMethodDescriptor "([Ljava/lang/Object;Z)V" = some ⟨[(.array (.object "java/lang/Object")), .boolean], none⟩ := by decide +kernel
theorem pn_13 : plainName "java/util/AbstractCollection" = true := by first | (simp [plainName, overriddenIn]; done) | decide +kernel
theorem pn_14 : plainName "java/util/AbstractList" = true := by first | (simp [plainName, overriddenIn]; done) | decide +kernel
theorem pn_15 : plainName "java/util/ArrayList" = true := by first | (simp [plainName, overriddenIn]; done) | decide +kernel
theorem pn_16 : plainName "java/util/ImmutableCollections" = true := by first | (simp [plainName, overriddenIn]; done) | decide +kernel
theorem pn_17 : plainName "java/util/ImmutableCollections$AbstractImmutableCollection" = true := by first | (simp [plainName, overriddenIn]; done) | decide +kernel
theorem pn_18 : plainName "java/util/ImmutableCollections$AbstractImmutableList" = true := by first | (simp [plainName, overriddenIn]; done) | decide +kernel
theorem pn_19 : plainName "java/util/Objects" = true := by first | (simp [plainName, overriddenIn]; done) | decide +kernel
theorem c2_init (l : Launch) {Z : State} {a0 : Array Value} (hw : HW a0 Z) (ws : List Jvm.Cond) {wd wl we em mo : Addr} {n0 : Nat} {h0 : Heap} (C : Ctx2 Z wd wl we em mo) (O0 : Old Z n0 h0) (Z0 : n0 ≤ h0.size) (b900 : Addr) (g_b900 : n0 ≤ b900) (E_b900 : Exa Z h0 b900 "java/util/ArrayList") (F_b900_modCount : Fld Z h0 b900 "java/util/AbstractList" "modCount" "I" (.int 0)) (F_b900_elementData : Fld Z h0 b900 "java/util/ArrayList" "elementData" "[Ljava/lang/Object;" .null) (F_b900_size : Fld Z h0 b900 "java/util/ArrayList" "size" "I" (.int 0)) : zCon l Z (⟨"java/util/AbstractCollection", "<init>", "()V"⟩ : MethodName) jdk_22_method_1_code 1 none ws ({ frames := 1, cells := 0, slots := 0, locals := 12 } : Room) #[(.ref b900)] h0 (zSame none h0) := by
  obtain ⟨S_wd, A_wd, S_wl, E_wl, F_wl_elements, E_we, A_we, S_em, E_em, M_mo⟩ := C
  refine zenter (plainFor_of_name pn_13) (L0 := #[rv b900]) (H := ?_)
  intro p e s m below meth c T0 hx hZ hby hml hown0 hnm hret hlk X0 e0
  have hown : s.vm.findClass "java/util/AbstractCollection" = some m.cls := hown0
  show zEnds p e below s T0 (mkF m 0 #[rv b900] []) _ _ _
  refine zaloadN X0 hx hby d52_0 rfl rfl (zobjinit X0 hx hby d52_1 hZ hown (w19 hw) (w20 hw) (w21 hw) e0 hml 0 fun T1 X1 e1 => ?_)
  show zEnds p e below s T1 (mkF m 4 #[rv b900] []) _ _ _
  exact zretV X1 hx hby d52_4 hret hlk (by decide) (by decide) ⟨rfl, e1, rfl⟩
theorem c1_init (l : Launch) {Z : State} {a0 : Array Value} (hw : HW a0 Z) (ws : List Jvm.Cond) {wd wl we em mo : Addr} {n0 : Nat} {h0 : Heap} (C : Ctx2 Z wd wl we em mo) (O0 : Old Z n0 h0) (Z0 : n0 ≤ h0.size) (b900 : Addr) (g_b900 : n0 ≤ b900) (E_b900 : Exa Z h0 b900 "java/util/ArrayList") (F_b900_modCount : Fld Z h0 b900 "java/util/AbstractList" "modCount" "I" (.int 0)) (F_b900_elementData : Fld Z h0 b900 "java/util/ArrayList" "elementData" "[Ljava/lang/Object;" .null) (F_b900_size : Fld Z h0 b900 "java/util/ArrayList" "size" "I" (.int 0)) : zCon l Z (⟨"java/util/AbstractList", "<init>", "()V"⟩ : MethodName) jdk_39_method_1_code 1 none ws ({ frames := 2, cells := 0, slots := 0, locals := 24 } : Room) #[(.ref b900)] h0 (fun v h L => v = none ∧ Fr n0 L ∧ Keep h0 h [b900] ∧ Exa Z h b900 "java/util/ArrayList" ∧ Fld Z h b900 "java/util/AbstractList" "modCount" "I" (.int 0) ∧ Fld Z h b900 "java/util/ArrayList" "elementData" "[Ljava/lang/Object;" .null ∧ Fld Z h b900 "java/util/ArrayList" "size" "I" (.int 0)) := by
  obtain ⟨S_wd, A_wd, S_wl, E_wl, F_wl_elements, E_we, A_we, S_em, E_em, M_mo⟩ := C
  refine zenter (plainFor_of_name pn_14) (L0 := #[rv b900]) (H := ?_)
  intro p e s m below meth c T0 hx hZ hby hml hown0 hnm hret hlk X0 e0
  have hown : s.vm.findClass "java/util/AbstractList" = some m.cls := hown0
  have K0 := Keep.refl h0 [b900]
  have N0 := Fr.nil n0
  show zEnds p e below s T0 (mkF m 0 #[rv b900] []) _ _ _
  refine zaloadN X0 hx hby d51_0 rfl rfl (zcallsp X0 hx hby d51_1 hZ hown rfl (w13 hw) (w14 hw) (w18 hw) (w17 hw) e0 (c2_init l hw [] ⟨S_wd, A_wd, S_wl, E_wl, F_wl_elements, E_we, A_we, S_em, E_em, M_mo⟩ O0 (zsz O0) b900 g_b900 E_b900 F_b900_modCount F_b900_elementData F_b900_size) hml 0 pd_29 (argsL := []) (st := []) (zpureK ⟨rfl, rfl⟩ fun T1 X1 e1 => ?_))
  refine zaloadN X1 hx hby d51_4 rfl rfl (ziconst X1 hx hby d51_5 (z := (0 : Int32)) rfl (zputfld X1 hx hby d51_6 hZ hown (host := "") (Or.inl (w22 hw)) Via.refl e1 F_b900_modCount E_b900 (Or.inl (w23 hw)) (w2 hw) (ty := .int) (by decide) rfl rfl fun T2 h2 X2 e2 W2 => ?_))
  have F2_b900_modCount : Fld Z h2 b900 "java/util/AbstractList" "modCount" "I" (.int 0) := F_b900_modCount.same W2
  have F2_b900_elementData := F_b900_elementData.other W2 (Or.inr (slot_ne (Or.inl (w26 hw)) (Or.inl (w23 hw)) (by decide) (t := (.array (.object "java/lang/Object"))) (t' := .int) (by decide) (by decide)))
  have F2_b900_size := F_b900_size.other W2 (Or.inr (slot_ne (Or.inl (w62 hw)) (Or.inl (w23 hw)) (by decide) (t := .int) (t' := .int) (by decide) (by decide)))
  have E2_b900 := E_b900.wr W2
  have K2 := Keep.wr K0 W2 (Or.inl (List.mem_of_getElem? (i := 0) rfl))
  have N2 := Fr.snoc X2 N0 g_b900
  show zEnds p e below s T2 (mkF m 9 #[rv b900] []) _ _ _
  exact zretV X2 hx hby d51_9 hret hlk (by decide) (by decide) (by rw [e2]; exact ⟨rfl, N2, K2, E2_b900, F2_b900_modCount, F2_b900_elementData, F2_b900_size⟩)
theorem c0_init (l : Launch) {Z : State} {a0 : Array Value} (hw : HW a0 Z) (ws : List Jvm.Cond) {wd wl we em mo : Addr} {n0 : Nat} {h0 : Heap} (C : Ctx2 Z wd wl we em mo) (O0 : Old Z n0 h0) (Z0 : n0 ≤ h0.size) (b900 : Addr) (g_b900 : n0 ≤ b900) (E_b900 : Exa Z h0 b900 "java/util/ArrayList") (F_b900_modCount : Fld Z h0 b900 "java/util/AbstractList" "modCount" "I" (.int 0)) (F_b900_elementData : Fld Z h0 b900 "java/util/ArrayList" "elementData" "[Ljava/lang/Object;" .null) (F_b900_size : Fld Z h0 b900 "java/util/ArrayList" "size" "I" (.int 0)) : zCon l Z (⟨"java/util/ArrayList", "<init>", "()V"⟩ : MethodName) jdk_38_method_2_code 1 none ws ({ frames := 3, cells := 0, slots := 0, locals := 36 } : Room) #[(.ref b900)] h0 (fun v h L => v = none ∧ Fr n0 L ∧ Keep h0 h [b900] ∧ Exa Z h b900 "java/util/ArrayList" ∧ Fld Z h b900 "java/util/AbstractList" "modCount" "I" (.int 0) ∧ Fld Z h b900 "java/util/ArrayList" "elementData" "[Ljava/lang/Object;" (.ref wd) ∧ Fld Z h b900 "java/util/ArrayList" "size" "I" (.int 0)) := by
  obtain ⟨S_wd, A_wd, S_wl, E_wl, F_wl_elements, E_we, A_we, S_em, E_em, M_mo⟩ := C
  refine zenter (plainFor_of_name pn_15) (L0 := #[rv b900]) (H := ?_)
  intro p e s m below meth c T0 hx hZ hby hml hown0 hnm hret hlk X0 e0
  have hown : s.vm.findClass "java/util/ArrayList" = some m.cls := hown0
  have K0 := Keep.refl h0 [b900]
  have N0 := Fr.nil n0
  show zEnds p e below s T0 (mkF m 0 #[rv b900] []) _ _ _
  refine zaloadN X0 hx hby d50_0 rfl rfl (zcallsp X0 hx hby d50_1 hZ hown rfl (w7 hw) (w8 hw) (w12 hw) (w11 hw) e0 (c1_init l hw [] ⟨S_wd, A_wd, S_wl, E_wl, F_wl_elements, E_we, A_we, S_em, E_em, M_mo⟩ O0 (zsz O0) b900 g_b900 E_b900 F_b900_modCount F_b900_elementData F_b900_size) hml 0 pd_29 (argsL := []) (st := []) fun T1 h1 v1 L1 e1 X1 q1 => ?_)
  obtain ⟨rfl, N1q, K1q, E1_b900, F1_b900_modCount, F1_b900_elementData, F1_b900_size⟩ := q1
  have O1 := O0.keep K1q (allS g_b900 all0)
  have K1 := Keep.trans K0 K1q (allS (Or.inl (List.mem_of_getElem? (i := 0) rfl)) all0)
  have N1 := Fr.app N0 N1q
  refine zaloadN X1 hx hby d50_4 rfl rfl (zgetstat X1 hx hby d50_5 hZ hown (host := "") (Or.inl (w24 hw)) Via.refl e1 (S_wd.ext O1.2) fun T2 X2 e2 => (zputfld X2 hx hby d50_8 hZ hown (host := "") (Or.inl (w25 hw)) Via.refl e2 F1_b900_elementData E1_b900 (Or.inl (w26 hw)) (w2 hw) (ty := (.array (.object "java/lang/Object"))) (by decide) rfl rfl fun T3 h3 X3 e3 W3 => ?_))
  have F3_b900_elementData : Fld Z h3 b900 "java/util/ArrayList" "elementData" "[Ljava/lang/Object;" (.ref wd) := F1_b900_elementData.same W3
  have F3_b900_modCount := F1_b900_modCount.other W3 (Or.inr (slot_ne (Or.inl (w23 hw)) (Or.inl (w26 hw)) (by decide) (t := .int) (t' := (.array (.object "java/lang/Object"))) (by decide) (by decide)))
  have F3_b900_size := F1_b900_size.other W3 (Or.inr (slot_ne (Or.inl (w62 hw)) (Or.inl (w26 hw)) (by decide) (t := .int) (t' := (.array (.object "java/lang/Object"))) (by decide) (by decide)))
  have E3_b900 := E1_b900.wr W3
  have K3 := Keep.wr K1 W3 (Or.inl (List.mem_of_getElem? (i := 0) rfl))
  have N3 := Fr.snoc X3 N1 g_b900
  show zEnds p e below s T3 (mkF m 11 #[rv b900] []) _ _ _
  exact zretV X3 hx hby d50_11 hret hlk (by decide) (by decide) (by rw [e3]; exact ⟨rfl, N3, K3, E3_b900, F3_b900_modCount, F3_b900_elementData, F3_b900_size⟩)
theorem c7_isEmpty (l : Launch) {Z : State} {a0 : Array Value} (hw : HW a0 Z) (ws : List Jvm.Cond) {wd wl we em mo : Addr} {n0 : Nat} {h0 : Heap} (C : Ctx2 Z wd wl we em mo) (O0 : Old Z n0 h0) (Z0 : n0 ≤ h0.size) (b900 : Addr) (g_b900 : n0 ≤ b900) (E_b900 : Exa Z h0 b900 "java/util/ArrayList") (F_b900_modCount : Fld Z h0 b900 "java/util/AbstractList" "modCount" "I" (.int 0)) (F_b900_elementData : Fld Z h0 b900 "java/util/ArrayList" "elementData" "[Ljava/lang/Object;" (.ref wd)) (F_b900_size : Fld Z h0 b900 "java/util/ArrayList" "size" "I" (.int 0)) : zCon l Z (⟨"java/util/ArrayList", "isEmpty", "()Z"⟩ : MethodName) jdk_38_method_9_code 1 (some .boolean) ws ({ frames := 0, cells := 0, slots := 0, locals := 0 } : Room) #[(.ref b900)] h0 (zSame (some (.int 1)) h0) := by
  obtain ⟨S_wd, A_wd, S_wl, E_wl, F_wl_elements, E_we, A_we, S_em, E_em, M_mo⟩ := C
  refine zenter (plainFor_of_name pn_15) (L0 := #[rv b900]) (H := ?_)
  intro p e s m below meth c T0 hx hZ hby hml hown0 hnm hret hlk X0 e0
  have hown : s.vm.findClass "java/util/ArrayList" = some m.cls := hown0
  show zEnds p e below s T0 (mkF m 0 #[rv b900] []) _ _ _
  refine zaloadN X0 hx hby d54_0 rfl rfl (zgetfld X0 hx hby d54_1 hZ hown (host := "") (Or.inl (w61 hw)) Via.refl e0 F_b900_size fun T1 X1 e1 => (zifNo X1 hx hby d54_4 (by decide) (ziconst X1 hx hby d54_7 (z := (1 : Int32)) rfl (zgoto X1 hx hby d54_8 12 (by decide) (by decide) ?_))))
  show zEnds p e below s T1 (mkF m 12 #[rv b900] [(.int 1)]) _ _ _
  exact zretZ X1 hx hby d54_12 hret hlk (by simp) rfl (by decide) (by decide) ⟨rfl, e1, rfl⟩
theorem c9_of (l : Launch) {Z : State} {a0 : Array Value} (hw : HW a0 Z) (ws : List Jvm.Cond) {wd wl we em mo : Addr} {n0 : Nat} {h0 : Heap} (C : Ctx2 Z wd wl we em mo) (O0 : Old Z n0 h0) (Z0 : n0 ≤ h0.size)  : zCon l Z (⟨"java/util/List", "of", "()Ljava/util/List;"⟩ : MethodName) jdk_40_method_36_code 0 (some (.object "java/util/List")) ws ({ frames := 0, cells := 0, slots := 0, locals := 0 } : Room) #[] h0 (zSame (some (.ref wl)) h0) := by
  obtain ⟨S_wd, A_wd, S_wl, E_wl, F_wl_elements, E_we, A_we, S_em, E_em, M_mo⟩ := C
  refine zenter (plainFor_of_name pn_9) (L0 := #[]) (H := ?_)
  intro p e s m below meth c T0 hx hZ hby hml hown0 hnm hret hlk X0 e0
  have hown : s.vm.findClass "java/util/List" = some m.cls := hown0
  show zEnds p e below s T0 (mkF m 0 #[] []) _ _ _
  refine zgetstat X0 hx hby d55_0 hZ hown (host := "") (Or.inl (w66 hw)) Via.refl e0 (S_wl.ext O0.2) fun T1 X1 e1 => ?_
  show zEnds p e below s T1 (mkF m 3 #[] [(.ref wl)]) _ _ _
  exact zretA X1 hx hby d55_3 hret hlk rfl rfl rfl (by decide) (by decide) ⟨rfl, e1, rfl⟩
theorem c6_listCopy (l : Launch) {Z : State} {a0 : Array Value} (hw : HW a0 Z) (ws : List Jvm.Cond) {wd wl we em mo : Addr} {n0 : Nat} {h0 : Heap} (C : Ctx2 Z wd wl we em mo) (O0 : Old Z n0 h0) (Z0 : n0 ≤ h0.size) (b900 : Addr) (g_b900 : n0 ≤ b900) (E_b900 : Exa Z h0 b900 "java/util/ArrayList") (F_b900_modCount : Fld Z h0 b900 "java/util/AbstractList" "modCount" "I" (.int 0)) (F_b900_elementData : Fld Z h0 b900 "java/util/ArrayList" "elementData" "[Ljava/lang/Object;" (.ref wd)) (F_b900_size : Fld Z h0 b900 "java/util/ArrayList" "size" "I" (.int 0)) : zCon l Z (⟨"java/util/ImmutableCollections", "listCopy", "(Ljava/util/Collection;)Ljava/util/List;"⟩ : MethodName) jdk_56_method_3_code 2 (some (.object "java/util/List")) ws ({ frames := 7, cells := 3, slots := 8, locals := 90 } : Room) #[(.ref b900)] h0 (zSame (some (.ref wl)) h0) := by
  obtain ⟨S_wd, A_wd, S_wl, E_wl, F_wl_elements, E_we, A_we, S_em, E_em, M_mo⟩ := C
  refine zenter (plainFor_of_name pn_16) (L0 := #[rv b900, .unset]) (H := ?_)
  intro p e s m below meth c T0 hx hZ hby hml hown0 hnm hret hlk X0 e0
  have hown : s.vm.findClass "java/util/ImmutableCollections" = some m.cls := hown0
  show zEnds p e below s T0 (mkF m 0 #[rv b900, .unset] []) _ _ _
  refine zaloadN X0 hx hby d53_0 rfl rfl (zinstNo X0 hx hby d53_1 hZ hown (w46 hw) e0 E_b900 (w368 hw) (chainAL hw) (by decide) fun T1 X1 e1 => (zifNo X1 hx hby d53_4 (by decide) (zaloadN X1 hx hby d53_7 rfl rfl (zinstNo X1 hx hby d53_8 hZ hown (w51 hw) e1 E_b900 (w409 hw) (chainAL hw) (by decide) fun T2 X2 e2 => (zifYes X2 hx hby d53_11 31 (by decide) (by decide) (by decide) (zaloadN X2 hx hby d53_31 rfl rfl (zcalli X2 hx hby d53_32 hZ hown (w52 hw) (w53 hw) (w54 hw) (w55 hw) (w56 hw) (w57 hw) (w58 hw) (w59 hw) (w60 hw) (w3 hw) e2 E_b900 (c7_isEmpty l hw [] ⟨S_wd, A_wd, S_wl, E_wl, F_wl_elements, E_we, A_we, S_em, E_em, M_mo⟩ O0 (zsz O0) b900 g_b900 E_b900 F_b900_modCount F_b900_elementData F_b900_size) hml 0 pd_12 (argsL := []) (st := []) (zpureK ⟨rfl, rfl⟩ fun T3 X3 e3 => ?_))))))))
  refine zifNo X3 hx hby d53_37 (by decide) (zcalls X3 hx hby d53_40 hZ hown (w63 hw) (w64 hw) (w40 hw) (w65 hw) e3 (c9_of l hw [] ⟨S_wd, A_wd, S_wl, E_wl, F_wl_elements, E_we, A_we, S_em, E_em, M_mo⟩ O0 (zsz O0) ) hml 0 pd_36 (argsL := []) (st := []) (zpureK ⟨rfl, rfl⟩ fun T4 X4 e4 => ?_))
  show zEnds p e below s T4 (mkF m 43 #[rv b900, .unset] [(.ref wl)]) _ _ _
  exact zretA X4 hx hby d53_43 hret hlk rfl rfl rfl (by decide) (by decide) ⟨rfl, e4, rfl⟩
theorem c16_max (l : Launch) {Z : State} {a0 : Array Value} (hw : HW a0 Z) (ws : List Jvm.Cond) {wd wl we em mo : Addr} {n0 : Nat} {h0 : Heap} (C : Ctx2 Z wd wl we em mo) (O0 : Old Z n0 h0) (Z0 : n0 ≤ h0.size)  : zCon l Z (⟨"java/lang/Math", "max", "(II)I"⟩ : MethodName) jdk_29_method_65_code 2 (some .int) ws ({ frames := 0, cells := 0, slots := 0, locals := 0 } : Room) #[(.int 10), (.int 1)] h0 (zSame (some (.int 10)) h0) := by
  obtain ⟨S_wd, A_wd, S_wl, E_wl, F_wl_elements, E_we, A_we, S_em, E_em, M_mo⟩ := C
  refine zenter (Jvm.Free.JP.mathPlain rfl (by decide +kernel)) (L0 := #[iv 10, iv 1]) (H := ?_)
  intro p e s m below meth c T0 hx hZ hby hml hown0 hnm hret hlk X0 e0
  have hown : s.vm.findClass "java/lang/Math" = some m.cls := hown0
  show zEnds p e below s T0 (mkF m 0 #[iv 10, iv 1] []) _ _ _
  refine ziloadN X0 hx hby d6_0 rfl (ziloadN X0 hx hby d6_1 rfl (zicmpNo X0 hx hby d6_2 (by decide) (ziloadN X0 hx hby d6_5 rfl (zgoto X0 hx hby d6_6 10 (by decide) (by decide) ?_))))
  show zEnds p e below s T0 (mkF m 10 #[iv 10, iv 1] [(.int 10)]) _ _ _
  exact zretI X0 hx hby d6_10 hret hlk (by decide) (by decide) ⟨rfl, e0, rfl⟩
theorem c15_grow (l : Launch) {Z : State} {a0 : Array Value} (hw : HW a0 Z) (ws : List Jvm.Cond) {wd wl we em mo : Addr} {n0 : Nat} {h0 : Heap} (C : Ctx2 Z wd wl we em mo) (O0 : Old Z n0 h0) (Z0 : n0 ≤ h0.size) (b900 : Addr) (g_b900 : n0 ≤ b900) (E_b900 : Exa Z h0 b900 "java/util/ArrayList") (F_b900_modCount : Fld Z h0 b900 "java/util/AbstractList" "modCount" "I" (.int 1)) (F_b900_elementData : Fld Z h0 b900 "java/util/ArrayList" "elementData" "[Ljava/lang/Object;" (.ref wd)) (F_b900_size : Fld Z h0 b900 "java/util/ArrayList" "size" "I" (.int 0)) : zCon l Z (⟨"java/util/ArrayList", "grow", "(I)[Ljava/lang/Object;"⟩ : MethodName) jdk_38_method_6_code 4 (some (.array (.object "java/lang/Object"))) ws ({ frames := 1, cells := 1, slots := 10, locals := 14 } : Room) #[(.ref b900), (.int 1)] h0 (fun v h L => ∃ b5 : Addr, v = some (.ref b5) ∧ Fr n0 L ∧ Keep h0 h [b900] ∧ Exa Z h b900 "java/util/ArrayList" ∧ Fld Z h b900 "java/util/AbstractList" "modCount" "I" (.int 1) ∧ Fld Z h b900 "java/util/ArrayList" "elementData" "[Ljava/lang/Object;" (.ref b5) ∧ Fld Z h b900 "java/util/ArrayList" "size" "I" (.int 0) ∧ n0 ≤ b5 ∧ h0.size ≤ b5 ∧ Exa Z h b5 "[Ljava/lang/Object;" ∧ zLstR Z h b5 "java/lang/Object" [.null, .null, .null, .null, .null, .null, .null, .null, .null, .null]) := by
  obtain ⟨S_wd, A_wd, S_wl, E_wl, F_wl_elements, E_we, A_we, S_em, E_em, M_mo⟩ := C
  refine zenter (plainFor_of_name pn_15) (L0 := #[rv b900, iv 1, .unset, .unset]) (H := ?_)
  intro p e s m below meth c T0 hx hZ hby hml hown0 hnm hret hlk X0 e0
  have hown : s.vm.findClass "java/util/ArrayList" = some m.cls := hown0
  have K0 := Keep.refl h0 [b900]
  have N0 := Fr.nil n0
  show zEnds p e below s T0 (mkF m 0 #[rv b900, iv 1, .unset, .unset] []) _ _ _
  refine zaloadN X0 hx hby d59_0 rfl rfl (zgetfld X0 hx hby d59_1 hZ hown (host := "") (Or.inl (w25 hw)) Via.refl e0 F_b900_elementData fun T1 X1 e1 => (zalenL X1 hx hby d59_4 hZ e1 (A_wd.ext O0.2) (0 : Int32) rfl (zistoreN X1 hx hby d59_5 (L' := #[rv b900, iv 1, iv 0, .unset]) rfl (ziloadN X1 hx hby d59_6 rfl (zifNo X1 hx hby d59_7 (by decide) (zaloadN X1 hx hby d59_10 rfl rfl (zgetfld X1 hx hby d59_11 hZ hown (host := "") (Or.inl (w25 hw)) Via.refl e1 F_b900_elementData fun T2 X2 e2 => (zgetstat X2 hx hby d59_14 hZ hown (host := "") (Or.inl (w24 hw)) Via.refl e2 (S_wd.ext O0.2) fun T3 X3 e3 => (zacmp X3 hx hby d59_17 45 true rfl rfl (decide_eq_true rfl) (by decide) (by decide) ?_)))))))))
  show zEnds p e below s T3 (mkF m 45 #[rv b900, iv 1, iv 0, .unset] []) _ _ _
  refine zaloadN X3 hx hby d59_45 rfl rfl (zbipush X3 hx hby d59_46 (z := (10 : Int32)) rfl (ziloadN X3 hx hby d59_48 rfl (zcalls X3 hx hby d59_49 hZ hown (w338 hw) (w140 hw) (w141 hw) (w142 hw) e3 (c16_max l hw [] ⟨S_wd, A_wd, S_wl, E_wl, F_wl_elements, E_we, A_we, S_em, E_em, M_mo⟩ O0 (zsz O0) ) hml 1 pd_2 (argsL := [(.int 10), (.int 1)]) (st := [(.ref b900)]) (zpureK ⟨rfl, rfl⟩ fun T4 X4 e4 => ?_))))
  refine znewref3 X4 hx hby d59_52 hZ hown (w339 hw) (w340 hw) e4 (by decide) 10 (by decide) (by decide) (by decide) (by decide) (D := "[Ljava/lang/Object;") (by decide) fun T5 h5 b5 X5 e5 y5 Ex5 E5_b5 A5_b5 => ?_
  change zLstR Z h5 b5 "java/lang/Object" [.null, .null, .null, .null, .null, .null, .null, .null, .null, .null] at A5_b5
  have F5_b900_modCount := F_b900_modCount.ext Ex5
  have F5_b900_elementData := F_b900_elementData.ext Ex5
  have F5_b900_size := F_b900_size.ext Ex5
  have E5_b900 := E_b900.ext Ex5
  have K5 := Keep.ext K0 Ex5
  have ne5_b900 : b900 ≠ b5 := Nat.ne_of_lt (Nat.lt_of_lt_of_eq E_b900.lt y5.symm)
  have g5 : n0 ≤ b5 := by rw [y5]; exact zsz O0
  have z5 : h0.size ≤ b5 := by rw [y5]; exact K0.1
  refine zdupX1 X5 hx hby d59_55 rfl rfl (zputfld X5 hx hby d59_56 hZ hown (host := "") (Or.inl (w25 hw)) Via.refl e5 F5_b900_elementData E5_b900 (Or.inl (w26 hw)) (w2 hw) (ty := (.array (.object "java/lang/Object"))) (by decide) rfl rfl fun T6 h6 X6 e6 W6 => ?_)
  have F6_b900_elementData : Fld Z h6 b900 "java/util/ArrayList" "elementData" "[Ljava/lang/Object;" (.ref b5) := F5_b900_elementData.same W6
  have F6_b900_modCount := F5_b900_modCount.other W6 (Or.inr (slot_ne (Or.inl (w23 hw)) (Or.inl (w26 hw)) (by decide) (t := .int) (t' := (.array (.object "java/lang/Object"))) (by decide) (by decide)))
  have F6_b900_size := F5_b900_size.other W6 (Or.inr (slot_ne (Or.inl (w62 hw)) (Or.inl (w26 hw)) (by decide) (t := .int) (t' := (.array (.object "java/lang/Object"))) (by decide) (by decide)))
  have E6_b900 := E5_b900.wr W6
  have E6_b5 := E5_b5.wr W6
  have A6_b5 := A5_b5.other W6 (Ne.symm ne5_b900)
  have K6 := Keep.wr K5 W6 (Or.inl (List.mem_of_getElem? (i := 0) rfl))
  have N6 := Fr.snoc X6 N0 g_b900
  show zEnds p e below s T6 (mkF m 59 #[rv b900, iv 1, iv 0, .unset] [(.ref b5)]) _ _ _
  exact zretA X6 hx hby d59_59 hret hlk rfl rfl rfl (by decide) (by decide) (by rw [e6]; exact ⟨b5, rfl, N6, K6, E6_b900, F6_b900_modCount, F6_b900_elementData, F6_b900_size, g5, z5, E6_b5, A6_b5⟩)
theorem c14_grow (l : Launch) {Z : State} {a0 : Array Value} (hw : HW a0 Z) (ws : List Jvm.Cond) {wd wl we em mo : Addr} {n0 : Nat} {h0 : Heap} (C : Ctx2 Z wd wl we em mo) (O0 : Old Z n0 h0) (Z0 : n0 ≤ h0.size) (b900 : Addr) (g_b900 : n0 ≤ b900) (E_b900 : Exa Z h0 b900 "java/util/ArrayList") (F_b900_modCount : Fld Z h0 b900 "java/util/AbstractList" "modCount" "I" (.int 1)) (F_b900_elementData : Fld Z h0 b900 "java/util/ArrayList" "elementData" "[Ljava/lang/Object;" (.ref wd)) (F_b900_size : Fld Z h0 b900 "java/util/ArrayList" "size" "I" (.int 0)) : zCon l Z (⟨"java/util/ArrayList", "grow", "()[Ljava/lang/Object;"⟩ : MethodName) jdk_38_method_7_code 1 (some (.array (.object "java/lang/Object"))) ws ({ frames := 2, cells := 1, slots := 10, locals := 29 } : Room) #[(.ref b900)] h0 (fun v h L => ∃ b2_b5 : Addr, v = some (.ref b2_b5) ∧ Fr n0 L ∧ Keep h0 h [b900] ∧ Exa Z h b900 "java/util/ArrayList" ∧ Fld Z h b900 "java/util/AbstractList" "modCount" "I" (.int 1) ∧ Fld Z h b900 "java/util/ArrayList" "elementData" "[Ljava/lang/Object;" (.ref b2_b5) ∧ Fld Z h b900 "java/util/ArrayList" "size" "I" (.int 0) ∧ n0 ≤ b2_b5 ∧ h0.size ≤ b2_b5 ∧ Exa Z h b2_b5 "[Ljava/lang/Object;" ∧ zLstR Z h b2_b5 "java/lang/Object" [.null, .null, .null, .null, .null, .null, .null, .null, .null, .null]) := by
  obtain ⟨S_wd, A_wd, S_wl, E_wl, F_wl_elements, E_we, A_we, S_em, E_em, M_mo⟩ := C
  refine zenter (plainFor_of_name pn_15) (L0 := #[rv b900]) (H := ?_)
  intro p e s m below meth c T0 hx hZ hby hml hown0 hnm hret hlk X0 e0
  have hown : s.vm.findClass "java/util/ArrayList" = some m.cls := hown0
  have K0 := Keep.refl h0 [b900]
  have N0 := Fr.nil n0
  show zEnds p e below s T0 (mkF m 0 #[rv b900] []) _ _ _
  refine zaloadN X0 hx hby d58_0 rfl rfl (zaloadN X0 hx hby d58_1 rfl rfl (zgetfld X0 hx hby d58_2 hZ hown (host := "") (Or.inl (w61 hw)) Via.refl e0 F_b900_size fun T1 X1 e1 => (ziconst X1 hx hby d58_5 (z := (1 : Int32)) rfl (ziadd X1 hx hby d58_6 (1 : Int32) (by decide) (zcallv X1 hx hby d58_7 hZ hown (w333 hw) (zdecl_of (w334 hw) (w337 hw)) (notFace_of_selects (args := #[]) (mvT hZ (w336 hw))) (w336 hw) (w334 hw) (w337 hw) (w3 hw) e1 E_b900 (c15_grow l hw [] ⟨S_wd, A_wd, S_wl, E_wl, F_wl_elements, E_we, A_we, S_em, E_em, M_mo⟩ O0 (zsz O0) b900 g_b900 E_b900 F_b900_modCount F_b900_elementData F_b900_size) hml 0 pd_39 (argsL := [(.int 1)]) (st := []) fun T2 h2 v2 L2 e2 X2 q2 => ?_)))))
  obtain ⟨b2_b5, rfl, N2q, K2q, E2_b900, F2_b900_modCount, F2_b900_elementData, F2_b900_size, g2_b2_b5, y2_b2_b5, E2_b2_b5, A2_b2_b5⟩ := q2
  have K2 := Keep.trans K0 K2q (allS (Or.inl (List.mem_of_getElem? (i := 0) rfl)) all0)
  have z2_b2_b5 : h0.size ≤ b2_b5 := Nat.le_trans K0.1 y2_b2_b5
  have N2 := Fr.app N0 N2q
  show zEnds p e below s T2 (mkF m 10 #[rv b900] [(.ref b2_b5)]) _ _ _
  exact zretA X2 hx hby d58_10 hret hlk rfl rfl rfl (by decide) (by decide) (by rw [e2]; exact ⟨b2_b5, rfl, N2, K2, E2_b900, F2_b900_modCount, F2_b900_elementData, F2_b900_size, g2_b2_b5, z2_b2_b5, E2_b2_b5, A2_b2_b5⟩)
theorem c13_add (l : Launch) {Z : State} {a0 : Array Value} (hw : HW a0 Z) (ws : List Jvm.Cond) {wd wl we em mo : Addr} {n0 : Nat} {h0 : Heap} (C : Ctx2 Z wd wl we em mo) (O0 : Old Z n0 h0) (Z0 : n0 ≤ h0.size) (b900 : Addr) (b901 : Addr) (g_b900 : n0 ≤ b900) (E_b900 : Exa Z h0 b900 "java/util/ArrayList") (F_b900_modCount : Fld Z h0 b900 "java/util/AbstractList" "modCount" "I" (.int 1)) (F_b900_elementData : Fld Z h0 b900 "java/util/ArrayList" "elementData" "[Ljava/lang/Object;" (.ref wd)) (F_b900_size : Fld Z h0 b900 "java/util/ArrayList" "size" "I" (.int 0)) (g_b901 : n0 ≤ b901) (E_b901 : Exa Z h0 b901 "java/lang/String") : zCon l Z (⟨"java/util/ArrayList", "add", "(Ljava/lang/Object;[Ljava/lang/Object;I)V"⟩ : MethodName) jdk_38_method_24_code 4 none ws ({ frames := 3, cells := 1, slots := 10, locals := 41 } : Room) #[(.ref b900), (.ref b901), (.ref wd), (.int 0)] h0 (fun v h L => ∃ b1_b2_b5 : Addr, v = none ∧ Fr n0 L ∧ Keep h0 h [b900] ∧ Exa Z h b900 "java/util/ArrayList" ∧ Fld Z h b900 "java/util/AbstractList" "modCount" "I" (.int 1) ∧ Fld Z h b900 "java/util/ArrayList" "elementData" "[Ljava/lang/Object;" (.ref b1_b2_b5) ∧ Fld Z h b900 "java/util/ArrayList" "size" "I" (.int 1) ∧ n0 ≤ b1_b2_b5 ∧ h0.size ≤ b1_b2_b5 ∧ Exa Z h b1_b2_b5 "[Ljava/lang/Object;" ∧ zLstR Z h b1_b2_b5 "java/lang/Object" [(.ref b901), .null, .null, .null, .null, .null, .null, .null, .null, .null]) := by
  obtain ⟨S_wd, A_wd, S_wl, E_wl, F_wl_elements, E_we, A_we, S_em, E_em, M_mo⟩ := C
  refine zenter (plainFor_of_name pn_15) (L0 := #[rv b900, rv b901, rv wd, iv 0]) (H := ?_)
  intro p e s m below meth c T0 hx hZ hby hml hown0 hnm hret hlk X0 e0
  have hown : s.vm.findClass "java/util/ArrayList" = some m.cls := hown0
  have K0 := Keep.refl h0 [b900]
  have N0 := Fr.nil n0
  show zEnds p e below s T0 (mkF m 0 #[rv b900, rv b901, rv wd, iv 0] []) _ _ _
  refine ziloadN X0 hx hby d57_0 rfl (zaloadN X0 hx hby d57_1 rfl rfl (zalenL X0 hx hby d57_2 hZ e0 (A_wd.ext O0.2) (0 : Int32) rfl (zicmpNo X0 hx hby d57_3 (by decide) (zaloadN X0 hx hby d57_6 rfl rfl (zcallv X0 hx hby d57_7 hZ hown (w328 hw) (zdecl_of (w329 hw) (w332 hw)) (notFace_of_selects (args := #[]) (mvT hZ (w331 hw))) (w331 hw) (w329 hw) (w332 hw) (w3 hw) e0 E_b900 (c14_grow l hw [] ⟨S_wd, A_wd, S_wl, E_wl, F_wl_elements, E_we, A_we, S_em, E_em, M_mo⟩ O0 (zsz O0) b900 g_b900 E_b900 F_b900_modCount F_b900_elementData F_b900_size) hml 0 pd_40 (argsL := []) (st := []) fun T1 h1 v1 L1 e1 X1 q1 => ?_)))))
  obtain ⟨b1_b2_b5, rfl, N1q, K1q, E1_b900, F1_b900_modCount, F1_b900_elementData, F1_b900_size, g1_b1_b2_b5, y1_b1_b2_b5, E1_b1_b2_b5, A1_b1_b2_b5⟩ := q1
  have E1_b901 := E_b901.keep K1q
  have K1 := Keep.trans K0 K1q (allS (Or.inl (List.mem_of_getElem? (i := 0) rfl)) all0)
  have z1_b1_b2_b5 : h0.size ≤ b1_b2_b5 := Nat.le_trans K0.1 y1_b1_b2_b5
  have N1 := Fr.app N0 N1q
  refine zastoreN X1 hx hby d57_10 (hv := rfl) (L' := #[rv b900, rv b901, rv b1_b2_b5, iv 0]) rfl (zaloadN X1 hx hby d57_11 rfl rfl (ziloadN X1 hx hby d57_12 rfl (zaloadN X1 hx hby d57_13 rfl rfl (zaastore X1 hx hby d57_14 hZ e1 A1_b1_b2_b5 (by decide) (by show Int32.toNatClampNeg 0 < 10; decide) (Ins.of_exa E1_b901 (w341 hw)) fun T2 h2 X2 e2 W2 A2_b1_b2_b5 => ?_))))
  change zLstR Z h2 b1_b2_b5 "java/lang/Object" [(.ref b901), .null, .null, .null, .null, .null, .null, .null, .null, .null] at A2_b1_b2_b5
  have F2_b900_modCount := F1_b900_modCount.other W2 (Or.inl (Exa.ne E1_b900 E1_b1_b2_b5 (by decide)))
  have F2_b900_elementData := F1_b900_elementData.other W2 (Or.inl (Exa.ne E1_b900 E1_b1_b2_b5 (by decide)))
  have F2_b900_size := F1_b900_size.other W2 (Or.inl (Exa.ne E1_b900 E1_b1_b2_b5 (by decide)))
  have E2_b900 := E1_b900.wr W2
  have E2_b1_b2_b5 := E1_b1_b2_b5.wr W2
  have K2 := Keep.wr K1 W2 (Or.inr z1_b1_b2_b5)
  have N2 := Fr.snoc X2 N1 g1_b1_b2_b5
  refine zaloadN X2 hx hby d57_15 rfl rfl (ziloadN X2 hx hby d57_16 rfl (ziconst X2 hx hby d57_17 (z := (1 : Int32)) rfl (ziadd X2 hx hby d57_18 (1 : Int32) (by decide) (zputfld X2 hx hby d57_19 hZ hown (host := "") (Or.inl (w61 hw)) Via.refl e2 F2_b900_size E2_b900 (Or.inl (w62 hw)) (w2 hw) (ty := .int) (by decide) rfl rfl fun T3 h3 X3 e3 W3 => ?_))))
  have F3_b900_size : Fld Z h3 b900 "java/util/ArrayList" "size" "I" (.int 1) := F2_b900_size.same W3
  have F3_b900_modCount := F2_b900_modCount.other W3 (Or.inr (slot_ne (Or.inl (w23 hw)) (Or.inl (w62 hw)) (by decide) (t := .int) (t' := .int) (by decide) (by decide)))
  have F3_b900_elementData := F2_b900_elementData.other W3 (Or.inr (slot_ne (Or.inl (w26 hw)) (Or.inl (w62 hw)) (by decide) (t := (.array (.object "java/lang/Object"))) (t' := .int) (by decide) (by decide)))
  have E3_b900 := E2_b900.wr W3
  have E3_b1_b2_b5 := E2_b1_b2_b5.wr W3
  have A3_b1_b2_b5 := A2_b1_b2_b5.other W3 (Exa.ne E3_b1_b2_b5 E3_b900 (by decide))
  have K3 := Keep.wr K2 W3 (Or.inl (List.mem_of_getElem? (i := 0) rfl))
  have N3 := Fr.snoc X3 N2 g_b900
  show zEnds p e below s T3 (mkF m 22 #[rv b900, rv b901, rv b1_b2_b5, iv 0] []) _ _ _
  exact zretV X3 hx hby d57_22 hret hlk (by decide) (by decide) (by rw [e3]; exact ⟨b1_b2_b5, rfl, N3, K3, E3_b900, F3_b900_modCount, F3_b900_elementData, F3_b900_size, g1_b1_b2_b5, z1_b1_b2_b5, E3_b1_b2_b5, A3_b1_b2_b5⟩)
theorem c12_add (l : Launch) {Z : State} {a0 : Array Value} (hw : HW a0 Z) (ws : List Jvm.Cond) {wd wl we em mo : Addr} {n0 : Nat} {h0 : Heap} (C : Ctx2 Z wd wl we em mo) (O0 : Old Z n0 h0) (Z0 : n0 ≤ h0.size) (b900 : Addr) (b901 : Addr) (g_b900 : n0 ≤ b900) (E_b900 : Exa Z h0 b900 "java/util/ArrayList") (F_b900_modCount : Fld Z h0 b900 "java/util/AbstractList" "modCount" "I" (.int 0)) (F_b900_elementData : Fld Z h0 b900 "java/util/ArrayList" "elementData" "[Ljava/lang/Object;" (.ref wd)) (F_b900_size : Fld Z h0 b900 "java/util/ArrayList" "size" "I" (.int 0)) (g_b901 : n0 ≤ b901) (E_b901 : Exa Z h0 b901 "java/lang/String") : zCon l Z (⟨"java/util/ArrayList", "add", "(Ljava/lang/Object;)Z"⟩ : MethodName) jdk_38_method_25_code 2 (some .boolean) ws ({ frames := 4, cells := 1, slots := 10, locals := 56 } : Room) #[(.ref b900), (.ref b901)] h0 (fun v h L => ∃ b5_b1_b2_b5 : Addr, v = some (.int 1) ∧ Fr n0 L ∧ Keep h0 h [b900] ∧ Exa Z h b900 "java/util/ArrayList" ∧ Fld Z h b900 "java/util/AbstractList" "modCount" "I" (.int 1) ∧ Fld Z h b900 "java/util/ArrayList" "elementData" "[Ljava/lang/Object;" (.ref b5_b1_b2_b5) ∧ Fld Z h b900 "java/util/ArrayList" "size" "I" (.int 1) ∧ n0 ≤ b5_b1_b2_b5 ∧ h0.size ≤ b5_b1_b2_b5 ∧ Exa Z h b5_b1_b2_b5 "[Ljava/lang/Object;" ∧ zLstR Z h b5_b1_b2_b5 "java/lang/Object" [(.ref b901), .null, .null, .null, .null, .null, .null, .null, .null, .null]) := by
  obtain ⟨S_wd, A_wd, S_wl, E_wl, F_wl_elements, E_we, A_we, S_em, E_em, M_mo⟩ := C
  refine zenter (plainFor_of_name pn_15) (L0 := #[rv b900, rv b901]) (H := ?_)
  intro p e s m below meth c T0 hx hZ hby hml hown0 hnm hret hlk X0 e0
  have hown : s.vm.findClass "java/util/ArrayList" = some m.cls := hown0
  have K0 := Keep.refl h0 [b900]
  have N0 := Fr.nil n0
  show zEnds p e below s T0 (mkF m 0 #[rv b900, rv b901] []) _ _ _
  refine zaloadN X0 hx hby d56_0 rfl rfl (zdup X0 hx hby d56_1 rfl (zgetfld X0 hx hby d56_2 hZ hown (host := "") (Or.inl (w321 hw)) (Via.of (w322 hw)) e0 F_b900_modCount fun T1 X1 e1 => (ziconst X1 hx hby d56_5 (z := (1 : Int32)) rfl (ziadd X1 hx hby d56_6 (1 : Int32) (by decide) (zputfld X1 hx hby d56_7 hZ hown (host := "") (Or.inl (w321 hw)) (Via.of (w322 hw)) e1 F_b900_modCount E_b900 (Or.inl (w23 hw)) (w2 hw) (ty := .int) (by decide) rfl rfl fun T2 h2 X2 e2 W2 => ?_)))))
  have F2_b900_modCount : Fld Z h2 b900 "java/util/AbstractList" "modCount" "I" (.int 1) := F_b900_modCount.same W2
  have F2_b900_elementData := F_b900_elementData.other W2 (Or.inr (slot_ne (Or.inl (w26 hw)) (Or.inl (w23 hw)) (by decide) (t := (.array (.object "java/lang/Object"))) (t' := .int) (by decide) (by decide)))
  have F2_b900_size := F_b900_size.other W2 (Or.inr (slot_ne (Or.inl (w62 hw)) (Or.inl (w23 hw)) (by decide) (t := .int) (t' := .int) (by decide) (by decide)))
  have E2_b900 := E_b900.wr W2
  have E2_b901 := E_b901.wr W2
  have O2 := O0.wr W2 g_b900
  have K2 := Keep.wr K0 W2 (Or.inl (List.mem_of_getElem? (i := 0) rfl))
  have N2 := Fr.snoc X2 N0 g_b900
  refine zaloadN X2 hx hby d56_10 rfl rfl (zaloadN X2 hx hby d56_11 rfl rfl (zaloadN X2 hx hby d56_12 rfl rfl (zgetfld X2 hx hby d56_13 hZ hown (host := "") (Or.inl (w25 hw)) Via.refl e2 F2_b900_elementData fun T3 X3 e3 => (zaloadN X3 hx hby d56_16 rfl rfl (zgetfld X3 hx hby d56_17 hZ hown (host := "") (Or.inl (w61 hw)) Via.refl e3 F2_b900_size fun T4 X4 e4 => (zcallv X4 hx hby d56_20 hZ hown (w323 hw) (zdecl_of (w324 hw) (w327 hw)) (notFace_of_selects (args := #[]) (mvT hZ (w326 hw))) (w326 hw) (w324 hw) (w327 hw) (w3 hw) e4 E2_b900 (c13_add l hw [] ⟨S_wd, A_wd, S_wl, E_wl, F_wl_elements, E_we, A_we, S_em, E_em, M_mo⟩ O2 (zsz O2) b900 b901 g_b900 E2_b900 F2_b900_modCount F2_b900_elementData F2_b900_size g_b901 E2_b901) hml 0 pd_41 (argsL := [(.ref b901), (.ref wd), (.int 0)]) (st := []) fun T5 h5 v5 L5 e5 X5 q5 => ?_))))))
  obtain ⟨b5_b1_b2_b5, rfl, N5q, K5q, E5_b900, F5_b900_modCount, F5_b900_elementData, F5_b900_size, g5_b5_b1_b2_b5, y5_b5_b1_b2_b5, E5_b5_b1_b2_b5, A5_b5_b1_b2_b5⟩ := q5
  have K5 := Keep.trans K2 K5q (allS (Or.inl (List.mem_of_getElem? (i := 0) rfl)) all0)
  have z5_b5_b1_b2_b5 : h0.size ≤ b5_b1_b2_b5 := Nat.le_trans K2.1 y5_b5_b1_b2_b5
  have N5 := Fr.app N2 N5q
  show zEnds p e below s T5 (mkF m 23 #[rv b900, rv b901] []) _ _ _
  refine ziconst X5 hx hby d56_23 (z := (1 : Int32)) rfl ?_
  show zEnds p e below s T5 (mkF m 24 #[rv b900, rv b901] [(.int 1)]) _ _ _
  exact zretZ X5 hx hby d56_24 hret hlk (by simp) rfl (by decide) (by decide) (by rw [e5]; exact ⟨b5_b1_b2_b5, rfl, N5, K5, E5_b900, F5_b900_modCount, F5_b900_elementData, F5_b900_size, g5_b5_b1_b2_b5, z5_b5_b1_b2_b5, E5_b5_b1_b2_b5, A5_b5_b1_b2_b5⟩)
theorem c23_isEmpty (l : Launch) {Z : State} {a0 : Array Value} (hw : HW a0 Z) (ws : List Jvm.Cond) {wd wl we em mo : Addr} {n0 : Nat} {h0 : Heap} (C : Ctx2 Z wd wl we em mo) (O0 : Old Z n0 h0) (Z0 : n0 ≤ h0.size) (b900 : Addr) (b901 : Addr) (b902 : Addr) (g_b900 : n0 ≤ b900) (E_b900 : Exa Z h0 b900 "java/util/ArrayList") (F_b900_modCount : Fld Z h0 b900 "java/util/AbstractList" "modCount" "I" (.int 1)) (F_b900_elementData : Fld Z h0 b900 "java/util/ArrayList" "elementData" "[Ljava/lang/Object;" (.ref b901)) (F_b900_size : Fld Z h0 b900 "java/util/ArrayList" "size" "I" (.int 1)) (g_b901 : n0 ≤ b901) (E_b901 : Exa Z h0 b901 "[Ljava/lang/Object;") (A_b901 : zLstR Z h0 b901 "java/lang/Object" [(.ref b902), .null, .null, .null, .null, .null, .null, .null, .null, .null]) (g_b902 : n0 ≤ b902) (E_b902 : Exa Z h0 b902 "java/lang/String") : zCon l Z (⟨"java/util/ArrayList", "isEmpty", "()Z"⟩ : MethodName) jdk_38_method_9_code 1 (some .boolean) ws ({ frames := 0, cells := 0, slots := 0, locals := 0 } : Room) #[(.ref b900)] h0 (zSame (some (.int 0)) h0) := by
  obtain ⟨S_wd, A_wd, S_wl, E_wl, F_wl_elements, E_we, A_we, S_em, E_em, M_mo⟩ := C
  refine zenter (plainFor_of_name pn_15) (L0 := #[rv b900]) (H := ?_)
  intro p e s m below meth c T0 hx hZ hby hml hown0 hnm hret hlk X0 e0
  have hown : s.vm.findClass "java/util/ArrayList" = some m.cls := hown0
  show zEnds p e below s T0 (mkF m 0 #[rv b900] []) _ _ _
  refine zaloadN X0 hx hby d54_0 rfl rfl (zgetfld X0 hx hby d54_1 hZ hown (host := "") (Or.inl (w61 hw)) Via.refl e0 F_b900_size fun T1 X1 e1 => (zifYes X1 hx hby d54_4 11 (by decide) (by decide) (by decide) (ziconst X1 hx hby d54_11 (z := (0 : Int32)) rfl ?_)))
  show zEnds p e below s T1 (mkF m 12 #[rv b900] [(.int 0)]) _ _ _
  exact zretZ X1 hx hby d54_12 hret hlk (by simp) rfl (by decide) (by decide) ⟨rfl, e1, rfl⟩
theorem c28_min (l : Launch) {Z : State} {a0 : Array Value} (hw : HW a0 Z) (ws : List Jvm.Cond) {wd wl we em mo : Addr} {n0 : Nat} {h0 : Heap} (C : Ctx2 Z wd wl we em mo) (O0 : Old Z n0 h0) (Z0 : n0 ≤ h0.size)  : zCon l Z (⟨"java/lang/Math", "min", "(II)I"⟩ : MethodName) jdk_29_method_69_code 2 (some .int) ws ({ frames := 0, cells := 0, slots := 0, locals := 0 } : Room) #[(.int 10), (.int 1)] h0 (zSame (some (.int 1)) h0) := by
  obtain ⟨S_wd, A_wd, S_wl, E_wl, F_wl_elements, E_we, A_we, S_em, E_em, M_mo⟩ := C
  refine zenter (Jvm.Free.JP.mathPlain rfl (by decide +kernel)) (L0 := #[iv 10, iv 1]) (H := ?_)
  intro p e s m below meth c T0 hx hZ hby hml hown0 hnm hret hlk X0 e0
  have hown : s.vm.findClass "java/lang/Math" = some m.cls := hown0
  show zEnds p e below s T0 (mkF m 0 #[iv 10, iv 1] []) _ _ _
  refine ziloadN X0 hx hby d7_0 rfl (ziloadN X0 hx hby d7_1 rfl (zicmpYes X0 hx hby d7_2 9 (by decide) (by decide) (by decide) (ziloadN X0 hx hby d7_9 rfl ?_)))
  show zEnds p e below s T0 (mkF m 10 #[iv 10, iv 1] [(.int 1)]) _ _ _
  exact zretI X0 hx hby d7_10 hret hlk (by decide) (by decide) ⟨rfl, e0, rfl⟩
theorem c27_copyOf (l : Launch) {Z : State} {a0 : Array Value} (hw : HW a0 Z) (ws : List Jvm.Cond) {wd wl we em mo : Addr} {n0 : Nat} {h0 : Heap} (C : Ctx2 Z wd wl we em mo) (O0 : Old Z n0 h0) (Z0 : n0 ≤ h0.size) (b900 : Addr) (b901 : Addr) (g_b900 : n0 ≤ b900) (E_b900 : Exa Z h0 b900 "[Ljava/lang/Object;") (A_b900 : zLstR Z h0 b900 "java/lang/Object" [(.ref b901), .null, .null, .null, .null, .null, .null, .null, .null, .null]) (g_b901 : n0 ≤ b901) (E_b901 : Exa Z h0 b901 "java/lang/String") : zCon l Z (⟨"java/util/Arrays", "copyOf", "([Ljava/lang/Object;ILjava/lang/Class;)[Ljava/lang/Object;"⟩ : MethodName) jdk_65_method_120_code 4 (some (.array (.object "java/lang/Object"))) ws ({ frames := 1, cells := 1, slots := 1, locals := 29 } : Room) #[(.ref b900), (.int 1), (.ref mo)] h0 (fun v h L => ∃ b2 : Addr, v = some (.ref b2) ∧ Fr n0 L ∧ Keep h0 h [] ∧ n0 ≤ b2 ∧ h0.size ≤ b2 ∧ Exa Z h b2 "[Ljava/lang/Object;" ∧ zLstR Z h b2 "java/lang/Object" [(.ref b901)]) := by
  obtain ⟨S_wd, A_wd, S_wl, E_wl, F_wl_elements, E_we, A_we, S_em, E_em, M_mo⟩ := C
  refine zenter (plainFor_of_name pn_4) (L0 := #[rv b900, iv 1, rv mo, .unset]) (H := ?_)
  intro p e s m below meth c T0 hx hZ hby hml hown0 hnm hret hlk X0 e0
  have hown : s.vm.findClass "java/util/Arrays" = some m.cls := hown0
  have K0 := Keep.refl h0 []
  have N0 := Fr.nil n0
  show zEnds p e below s T0 (mkF m 0 #[rv b900, iv 1, rv mo, .unset] []) _ _ _
  refine zaloadN X0 hx hby d62_0 rfl rfl (zldcCls X0 hx hby d62_1 hZ hown (w362 hw) e0 M_mo fun T1 X1 e1 => (zacmp X1 hx hby d62_3 6 true rfl rfl (decide_eq_true rfl) (by decide) (by decide) (ziloadN X1 hx hby d62_6 rfl (znewref3 X1 hx hby d62_7 hZ hown (w363 hw) (w340 hw) e1 (by decide) 1 (by decide) (by decide) (by decide) (by decide) (D := "[Ljava/lang/Object;") (by decide) fun T2 h2 b2 X2 e2 y2 Ex2 E2_b2 A2_b2 => ?_))))
  change zLstR Z h2 b2 "java/lang/Object" [.null] at A2_b2
  have A2_b900 := A_b900.ext Ex2
  have E2_b901 := E_b901.ext Ex2
  have O2 := O0.ext Ex2
  have K2 := Keep.ext K0 Ex2
  have g2 : n0 ≤ b2 := by rw [y2]; exact zsz O0
  have z2 : h0.size ≤ b2 := by rw [y2]; exact K0.1
  refine zgoto X2 hx hby d62_10 24 (by decide) (by decide) (zastoreN X2 hx hby d62_24 (hv := rfl) (L' := #[rv b900, iv 1, rv mo, rv b2]) rfl (zaloadN X2 hx hby d62_25 rfl rfl (ziconst X2 hx hby d62_26 (z := (0 : Int32)) rfl (zaloadN X2 hx hby d62_27 rfl rfl (ziconst X2 hx hby d62_28 (z := (0 : Int32)) rfl (zaloadN X2 hx hby d62_29 rfl rfl (zalenL X2 hx hby d62_30 hZ e2 A2_b900.lst (10 : Int32) rfl (ziloadN X2 hx hby d62_31 rfl (zcalls X2 hx hby d62_32 hZ hown (w149 hw) (w150 hw) (w141 hw) (w151 hw) e2 (c28_min l hw [] ⟨S_wd, A_wd, S_wl, E_wl, F_wl_elements, E_we, A_we, S_em, E_em, M_mo⟩ O2 (zsz O2) ) hml 4 pd_2 (argsL := [(.int 10), (.int 1)]) (st := [(.int 0), (.ref b2), (.int 0), (.ref b900)]) (zpureK ⟨rfl, rfl⟩ fun T3 X3 e3 => ?_))))))))))
  show zEnds p e below s T3 (mkF m 35 #[rv b900, iv 1, rv mo, rv b2] [(.int 1), (.int 0), (.ref b2), (.int 0), (.ref b900)]) _ _ _
  refine zcopyR X3 hx hby d62_35 hZ hown (w152 hw) (w155 hw) (w153 hw) (w154 hw) e3 (nn := 1) A2_b900 A2_b2 (zvlS (Or.inr ⟨_, rfl, Ins.of_exa E2_b901 (w341 hw)⟩) (zvlS (Or.inl rfl) (zvlS (Or.inl rfl) (zvlS (Or.inl rfl) (zvlS (Or.inl rfl) (zvlS (Or.inl rfl) (zvlS (Or.inl rfl) (zvlS (Or.inl rfl) (zvlS (Or.inl rfl) (zvlS (Or.inl rfl) zvl0)))))))))) (by simp) (by show 1 ≤ 10; decide) rfl (by show 10 < 1000000; decide) N0 g2 hml 0 fun T4 h4 L4 X4 e4 N4 K4q A4_b2 => ?_
  have K4 := Keep.trans K2 K4q (allS (Or.inr z2) all0)
  have E4_b2 := E2_b2.keep K4q
  change zLstR Z h4 b2 "java/lang/Object" [(.ref b901)] at A4_b2
  show zEnds p e below s T4 (mkF m 38 #[rv b900, iv 1, rv mo, rv b2] []) _ _ _
  refine zaloadN X4 hx hby d62_38 rfl rfl ?_
  show zEnds p e below s T4 (mkF m 39 #[rv b900, iv 1, rv mo, rv b2] [(.ref b2)]) _ _ _
  exact zretA X4 hx hby d62_39 hret hlk rfl rfl rfl (by decide) (by decide) (by rw [e4]; exact ⟨b2, rfl, N4, K4, g2, z2, E4_b2, A4_b2⟩)
theorem c26_copyOf (l : Launch) {Z : State} {a0 : Array Value} (hw : HW a0 Z) (ws : List Jvm.Cond) {wd wl we em mo : Addr} {n0 : Nat} {h0 : Heap} (C : Ctx2 Z wd wl we em mo) (O0 : Old Z n0 h0) (Z0 : n0 ≤ h0.size) (b900 : Addr) (b901 : Addr) (g_b900 : n0 ≤ b900) (E_b900 : Exa Z h0 b900 "[Ljava/lang/Object;") (A_b900 : zLstR Z h0 b900 "java/lang/Object" [(.ref b901), .null, .null, .null, .null, .null, .null, .null, .null, .null]) (g_b901 : n0 ≤ b901) (E_b901 : Exa Z h0 b901 "java/lang/String") : zCon l Z (⟨"java/util/Arrays", "copyOf", "([Ljava/lang/Object;I)[Ljava/lang/Object;"⟩ : MethodName) jdk_65_method_119_code 2 (some (.array (.object "java/lang/Object"))) ws ({ frames := 2, cells := 1, slots := 1, locals := 44 } : Room) #[(.ref b900), (.int 1)] h0 (fun v h L => ∃ b2_b2 : Addr, v = some (.ref b2_b2) ∧ Fr n0 L ∧ Keep h0 h [] ∧ n0 ≤ b2_b2 ∧ h0.size ≤ b2_b2 ∧ Exa Z h b2_b2 "[Ljava/lang/Object;" ∧ zLstR Z h b2_b2 "java/lang/Object" [(.ref b901)]) := by
  obtain ⟨S_wd, A_wd, S_wl, E_wl, F_wl_elements, E_we, A_we, S_em, E_em, M_mo⟩ := C
  refine zenter (plainFor_of_name pn_4) (L0 := #[rv b900, iv 1]) (H := ?_)
  intro p e s m below meth c T0 hx hZ hby hml hown0 hnm hret hlk X0 e0
  have hown : s.vm.findClass "java/util/Arrays" = some m.cls := hown0
  have K0 := Keep.refl h0 []
  have N0 := Fr.nil n0
  show zEnds p e below s T0 (mkF m 0 #[rv b900, iv 1] []) _ _ _
  refine zaloadN X0 hx hby d61_0 rfl rfl (ziloadN X0 hx hby d61_1 rfl (zaloadN X0 hx hby d61_2 rfl rfl (zgetCls X0 hx hby d61_3 hZ hown (w353 hw) (w354 hw) (w356 hw) (w355 hw) (w357 hw) (w50 hw) e0 E_b900 M_mo hml 2 fun T1 X1 e1 => (zcalls X1 hx hby d61_6 hZ hown (w359 hw) (w360 hw) (w147 hw) (w361 hw) e1 (c27_copyOf l hw [] ⟨S_wd, A_wd, S_wl, E_wl, F_wl_elements, E_we, A_we, S_em, E_em, M_mo⟩ O0 (zsz O0) b900 b901 g_b900 E_b900 A_b900 g_b901 E_b901) hml 0 pd_43 (argsL := [(.ref b900), (.int 1), (.ref mo)]) (st := []) fun T2 h2 v2 L2 e2 X2 q2 => ?_))))
  obtain ⟨b2_b2, rfl, N2q, K2q, g2_b2_b2, y2_b2_b2, E2_b2_b2, A2_b2_b2⟩ := q2
  have K2 := Keep.trans K0 K2q all0
  have z2_b2_b2 : h0.size ≤ b2_b2 := Nat.le_trans K0.1 y2_b2_b2
  have N2 := Fr.app N0 N2q
  show zEnds p e below s T2 (mkF m 9 #[rv b900, iv 1] [(.ref b2_b2)]) _ _ _
  exact zretA X2 hx hby d61_9 hret hlk rfl rfl rfl (by decide) (by decide) (by rw [e2]; exact ⟨b2_b2, rfl, N2, K2, g2_b2_b2, z2_b2_b2, E2_b2_b2, A2_b2_b2⟩)
theorem c25_toArray (l : Launch) {Z : State} {a0 : Array Value} (hw : HW a0 Z) (ws : List Jvm.Cond) {wd wl we em mo : Addr} {n0 : Nat} {h0 : Heap} (C : Ctx2 Z wd wl we em mo) (O0 : Old Z n0 h0) (Z0 : n0 ≤ h0.size) (b900 : Addr) (b901 : Addr) (b902 : Addr) (g_b900 : n0 ≤ b900) (E_b900 : Exa Z h0 b900 "java/util/ArrayList") (F_b900_modCount : Fld Z h0 b900 "java/util/AbstractList" "modCount" "I" (.int 1)) (F_b900_elementData : Fld Z h0 b900 "java/util/ArrayList" "elementData" "[Ljava/lang/Object;" (.ref b901)) (F_b900_size : Fld Z h0 b900 "java/util/ArrayList" "size" "I" (.int 1)) (g_b901 : n0 ≤ b901) (E_b901 : Exa Z h0 b901 "[Ljava/lang/Object;") (A_b901 : zLstR Z h0 b901 "java/lang/Object" [(.ref b902), .null, .null, .null, .null, .null, .null, .null, .null, .null]) (g_b902 : n0 ≤ b902) (E_b902 : Exa Z h0 b902 "java/lang/String") : zCon l Z (⟨"java/util/ArrayList", "toArray", "()[Ljava/lang/Object;"⟩ : MethodName) jdk_38_method_16_code 1 (some (.array (.object "java/lang/Object"))) ws ({ frames := 3, cells := 1, slots := 1, locals := 57 } : Room) #[(.ref b900)] h0 (fun v h L => ∃ b3_b2_b2 : Addr, v = some (.ref b3_b2_b2) ∧ Fr n0 L ∧ Keep h0 h [] ∧ n0 ≤ b3_b2_b2 ∧ h0.size ≤ b3_b2_b2 ∧ Exa Z h b3_b2_b2 "[Ljava/lang/Object;" ∧ zLstR Z h b3_b2_b2 "java/lang/Object" [(.ref b902)]) := by
  obtain ⟨S_wd, A_wd, S_wl, E_wl, F_wl_elements, E_we, A_we, S_em, E_em, M_mo⟩ := C
  refine zenter (plainFor_of_name pn_15) (L0 := #[rv b900]) (H := ?_)
  intro p e s m below meth c T0 hx hZ hby hml hown0 hnm hret hlk X0 e0
  have hown : s.vm.findClass "java/util/ArrayList" = some m.cls := hown0
  have K0 := Keep.refl h0 []
  have N0 := Fr.nil n0
  show zEnds p e below s T0 (mkF m 0 #[rv b900] []) _ _ _
  refine zaloadN X0 hx hby d60_0 rfl rfl (zgetfld X0 hx hby d60_1 hZ hown (host := "") (Or.inl (w25 hw)) Via.refl e0 F_b900_elementData fun T1 X1 e1 => (zaloadN X1 hx hby d60_4 rfl rfl (zgetfld X1 hx hby d60_5 hZ hown (host := "") (Or.inl (w61 hw)) Via.refl e1 F_b900_size fun T2 X2 e2 => (zcalls X2 hx hby d60_8 hZ hown (w350 hw) (w351 hw) (w147 hw) (w352 hw) e2 (c26_copyOf l hw [] ⟨S_wd, A_wd, S_wl, E_wl, F_wl_elements, E_we, A_we, S_em, E_em, M_mo⟩ O0 (zsz O0) b901 b902 g_b901 E_b901 A_b901 g_b902 E_b902) hml 0 pd_44 (argsL := [(.ref b901), (.int 1)]) (st := []) fun T3 h3 v3 L3 e3 X3 q3 => ?_))))
  obtain ⟨b3_b2_b2, rfl, N3q, K3q, g3_b3_b2_b2, y3_b3_b2_b2, E3_b3_b2_b2, A3_b3_b2_b2⟩ := q3
  have K3 := Keep.trans K0 K3q all0
  have z3_b3_b2_b2 : h0.size ≤ b3_b2_b2 := Nat.le_trans K0.1 y3_b3_b2_b2
  have N3 := Fr.app N0 N3q
  show zEnds p e below s T3 (mkF m 11 #[rv b900] [(.ref b3_b2_b2)]) _ _ _
  exact zretA X3 hx hby d60_11 hret hlk rfl rfl rfl (by decide) (by decide) (by rw [e3]; exact ⟨b3_b2_b2, rfl, N3, K3, g3_b3_b2_b2, z3_b3_b2_b2, E3_b3_b2_b2, A3_b3_b2_b2⟩)
theorem c37_init (l : Launch) {Z : State} {a0 : Array Value} (hw : HW a0 Z) (ws : List Jvm.Cond) {wd wl we em mo : Addr} {n0 : Nat} {h0 : Heap} (C : Ctx2 Z wd wl we em mo) (O0 : Old Z n0 h0) (Z0 : n0 ≤ h0.size) (b900 : Addr) (g_b900 : n0 ≤ b900) (E_b900 : Exa Z h0 b900 "java/util/ImmutableCollections$List12") (F_b900_e0 : Fld Z h0 b900 "java/util/ImmutableCollections$List12" "e0" "Ljava/lang/Object;" .null) (F_b900_e1 : Fld Z h0 b900 "java/util/ImmutableCollections$List12" "e1" "Ljava/lang/Object;" .null) : zCon l Z (⟨"java/util/AbstractCollection", "<init>", "()V"⟩ : MethodName) jdk_22_method_1_code 1 none ws ({ frames := 1, cells := 0, slots := 0, locals := 12 } : Room) #[(.ref b900)] h0 (zSame none h0) := by
  obtain ⟨S_wd, A_wd, S_wl, E_wl, F_wl_elements, E_we, A_we, S_em, E_em, M_mo⟩ := C
  refine zenter (plainFor_of_name pn_13) (L0 := #[rv b900]) (H := ?_)
  intro p e s m below meth c T0 hx hZ hby hml hown0 hnm hret hlk X0 e0
  have hown : s.vm.findClass "java/util/AbstractCollection" = some m.cls := hown0
  show zEnds p e below s T0 (mkF m 0 #[rv b900] []) _ _ _
  refine zaloadN X0 hx hby d52_0 rfl rfl (zobjinit X0 hx hby d52_1 hZ hown (w19 hw) (w20 hw) (w21 hw) e0 hml 0 fun T1 X1 e1 => ?_)
  show zEnds p e below s T1 (mkF m 4 #[rv b900] []) _ _ _
  exact zretV X1 hx hby d52_4 hret hlk (by decide) (by decide) ⟨rfl, e1, rfl⟩
theorem c36_init (l : Launch) {Z : State} {a0 : Array Value} (hw : HW a0 Z) (ws : List Jvm.Cond) {wd wl we em mo : Addr} {n0 : Nat} {h0 : Heap} (C : Ctx2 Z wd wl we em mo) (O0 : Old Z n0 h0) (Z0 : n0 ≤ h0.size) (b900 : Addr) (g_b900 : n0 ≤ b900) (E_b900 : Exa Z h0 b900 "java/util/ImmutableCollections$List12") (F_b900_e0 : Fld Z h0 b900 "java/util/ImmutableCollections$List12" "e0" "Ljava/lang/Object;" .null) (F_b900_e1 : Fld Z h0 b900 "java/util/ImmutableCollections$List12" "e1" "Ljava/lang/Object;" .null) : zCon l Z (⟨"java/util/ImmutableCollections$AbstractImmutableCollection", "<init>", "()V"⟩ : MethodName) jdk_47_method_1_code 1 none ws ({ frames := 2, cells := 0, slots := 0, locals := 24 } : Room) #[(.ref b900)] h0 (zSame none h0) := by
  obtain ⟨S_wd, A_wd, S_wl, E_wl, F_wl_elements, E_we, A_we, S_em, E_em, M_mo⟩ := C
  refine zenter (plainFor_of_name pn_17) (L0 := #[rv b900]) (H := ?_)
  intro p e s m below meth c T0 hx hZ hby hml hown0 hnm hret hlk X0 e0
  have hown : s.vm.findClass "java/util/ImmutableCollections$AbstractImmutableCollection" = some m.cls := hown0
  show zEnds p e below s T0 (mkF m 0 #[rv b900] []) _ _ _
  refine zaloadN X0 hx hby d66_0 rfl rfl (zcallsp X0 hx hby d66_1 hZ hown rfl (w386 hw) (w14 hw) (w18 hw) (w17 hw) e0 (c37_init l hw [] ⟨S_wd, A_wd, S_wl, E_wl, F_wl_elements, E_we, A_we, S_em, E_em, M_mo⟩ O0 (zsz O0) b900 g_b900 E_b900 F_b900_e0 F_b900_e1) hml 0 pd_29 (argsL := []) (st := []) (zpureK ⟨rfl, rfl⟩ fun T1 X1 e1 => ?_))
  show zEnds p e below s T1 (mkF m 4 #[rv b900] []) _ _ _
  exact zretV X1 hx hby d66_4 hret hlk (by decide) (by decide) ⟨rfl, e1, rfl⟩
theorem c35_init (l : Launch) {Z : State} {a0 : Array Value} (hw : HW a0 Z) (ws : List Jvm.Cond) {wd wl we em mo : Addr} {n0 : Nat} {h0 : Heap} (C : Ctx2 Z wd wl we em mo) (O0 : Old Z n0 h0) (Z0 : n0 ≤ h0.size) (b900 : Addr) (g_b900 : n0 ≤ b900) (E_b900 : Exa Z h0 b900 "java/util/ImmutableCollections$List12") (F_b900_e0 : Fld Z h0 b900 "java/util/ImmutableCollections$List12" "e0" "Ljava/lang/Object;" .null) (F_b900_e1 : Fld Z h0 b900 "java/util/ImmutableCollections$List12" "e1" "Ljava/lang/Object;" .null) : zCon l Z (⟨"java/util/ImmutableCollections$AbstractImmutableList", "<init>", "()V"⟩ : MethodName) jdk_46_method_1_code 1 none ws ({ frames := 3, cells := 0, slots := 0, locals := 36 } : Room) #[(.ref b900)] h0 (zSame none h0) := by
  obtain ⟨S_wd, A_wd, S_wl, E_wl, F_wl_elements, E_we, A_we, S_em, E_em, M_mo⟩ := C
  refine zenter (plainFor_of_name pn_18) (L0 := #[rv b900]) (H := ?_)
  intro p e s m below meth c T0 hx hZ hby hml hown0 hnm hret hlk X0 e0
  have hown : s.vm.findClass "java/util/ImmutableCollections$AbstractImmutableList" = some m.cls := hown0
  show zEnds p e below s T0 (mkF m 0 #[rv b900] []) _ _ _
  refine zaloadN X0 hx hby d65_0 rfl rfl (zcallsp X0 hx hby d65_1 hZ hown rfl (w380 hw) (w381 hw) (w385 hw) (w384 hw) e0 (c36_init l hw [] ⟨S_wd, A_wd, S_wl, E_wl, F_wl_elements, E_we, A_we, S_em, E_em, M_mo⟩ O0 (zsz O0) b900 g_b900 E_b900 F_b900_e0 F_b900_e1) hml 0 pd_29 (argsL := []) (st := []) (zpureK ⟨rfl, rfl⟩ fun T1 X1 e1 => ?_))
  show zEnds p e below s T1 (mkF m 4 #[rv b900] []) _ _ _
  exact zretV X1 hx hby d65_4 hret hlk (by decide) (by decide) ⟨rfl, e1, rfl⟩
theorem c41_requireNonNull (l : Launch) {Z : State} {a0 : Array Value} (hw : HW a0 Z) (ws : List Jvm.Cond) {wd wl we em mo : Addr} {n0 : Nat} {h0 : Heap} (C : Ctx2 Z wd wl we em mo) (O0 : Old Z n0 h0) (Z0 : n0 ≤ h0.size) (b900 : Addr) (g_b900 : n0 ≤ b900) (E_b900 : Exa Z h0 b900 "java/lang/String") : zCon l Z (⟨"java/util/Objects", "requireNonNull", "(Ljava/lang/Object;)Ljava/lang/Object;"⟩ : MethodName) jdk_31_method_10_code 1 (some (.object "java/lang/Object")) ws ({ frames := 0, cells := 0, slots := 0, locals := 0 } : Room) #[(.ref b900)] h0 (zSame (some (.ref b900)) h0) := by
  obtain ⟨S_wd, A_wd, S_wl, E_wl, F_wl_elements, E_we, A_we, S_em, E_em, M_mo⟩ := C
  refine zenter (plainFor_of_name pn_19) (L0 := #[rv b900]) (H := ?_)
  intro p e s m below meth c T0 hx hZ hby hml hown0 hnm hret hlk X0 e0
  have hown : s.vm.findClass "java/util/Objects" = some m.cls := hown0
  show zEnds p e below s T0 (mkF m 0 #[rv b900] []) _ _ _
  refine zaloadN X0 hx hby d67_0 rfl rfl (zifnonnullYes X0 hx hby d67_1 12 (by decide) (by decide) (zaloadN X0 hx hby d67_12 rfl rfl ?_))
  show zEnds p e below s T0 (mkF m 13 #[rv b900] [(.ref b900)]) _ _ _
  exact zretA X0 hx hby d67_13 hret hlk rfl rfl rfl (by decide) (by decide) ⟨rfl, e0, rfl⟩
theorem c34_init (l : Launch) {Z : State} {a0 : Array Value} (hw : HW a0 Z) (ws : List Jvm.Cond) {wd wl we em mo : Addr} {n0 : Nat} {h0 : Heap} (C : Ctx2 Z wd wl we em mo) (O0 : Old Z n0 h0) (Z0 : n0 ≤ h0.size) (b900 : Addr) (b901 : Addr) (g_b900 : n0 ≤ b900) (E_b900 : Exa Z h0 b900 "java/util/ImmutableCollections$List12") (F_b900_e0 : Fld Z h0 b900 "java/util/ImmutableCollections$List12" "e0" "Ljava/lang/Object;" .null) (F_b900_e1 : Fld Z h0 b900 "java/util/ImmutableCollections$List12" "e1" "Ljava/lang/Object;" .null) (g_b901 : n0 ≤ b901) (E_b901 : Exa Z h0 b901 "java/lang/String") : zCon l Z (⟨"java/util/ImmutableCollections$List12", "<init>", "(Ljava/lang/Object;)V"⟩ : MethodName) jdk_44_method_1_code 2 none ws ({ frames := 4, cells := 0, slots := 0, locals := 48 } : Room) #[(.ref b900), (.ref b901)] h0 (fun v h L => v = none ∧ Fr n0 L ∧ Keep h0 h [b900] ∧ Exa Z h b900 "java/util/ImmutableCollections$List12" ∧ Fld Z h b900 "java/util/ImmutableCollections$List12" "e0" "Ljava/lang/Object;" (.ref b901) ∧ Fld Z h b900 "java/util/ImmutableCollections$List12" "e1" "Ljava/lang/Object;" (.ref em)) := by
  obtain ⟨S_wd, A_wd, S_wl, E_wl, F_wl_elements, E_we, A_we, S_em, E_em, M_mo⟩ := C
  refine zenter (plainFor_of_name pn_12) (L0 := #[rv b900, rv b901]) (H := ?_)
  intro p e s m below meth c T0 hx hZ hby hml hown0 hnm hret hlk X0 e0
  have hown : s.vm.findClass "java/util/ImmutableCollections$List12" = some m.cls := hown0
  have K0 := Keep.refl h0 [b900]
  have N0 := Fr.nil n0
  show zEnds p e below s T0 (mkF m 0 #[rv b900, rv b901] []) _ _ _
  refine zaloadN X0 hx hby d64_0 rfl rfl (zcallsp X0 hx hby d64_1 hZ hown rfl (w374 hw) (w375 hw) (w379 hw) (w378 hw) e0 (c35_init l hw [] ⟨S_wd, A_wd, S_wl, E_wl, F_wl_elements, E_we, A_we, S_em, E_em, M_mo⟩ O0 (zsz O0) b900 g_b900 E_b900 F_b900_e0 F_b900_e1) hml 0 pd_29 (argsL := []) (st := []) (zpureK ⟨rfl, rfl⟩ fun T1 X1 e1 => ?_))
  refine zaloadN X1 hx hby d64_4 rfl rfl (zaloadN X1 hx hby d64_5 rfl rfl (zcalls X1 hx hby d64_6 hZ hown (w388 hw) (w389 hw) (w390 hw) (w391 hw) e1 (c41_requireNonNull l hw [] ⟨S_wd, A_wd, S_wl, E_wl, F_wl_elements, E_we, A_we, S_em, E_em, M_mo⟩ O0 (zsz O0) b901 g_b901 E_b901) hml 1 pd_45 (argsL := [(.ref b901)]) (st := [(.ref b900)]) (zpureK ⟨rfl, rfl⟩ fun T2 X2 e2 => ?_)))
  refine zputfld X2 hx hby d64_9 hZ hown (host := "") (Or.inl (w392 hw)) Via.refl e2 F_b900_e0 E_b900 (Or.inr ⟨(w393 hw), rfl, hnm⟩) (w368 hw) (ty := (.object "java/lang/Object")) (by decide) rfl rfl fun T3 h3 X3 e3 W3 => ?_
  have F3_b900_e0 : Fld Z h3 b900 "java/util/ImmutableCollections$List12" "e0" "Ljava/lang/Object;" (.ref b901) := F_b900_e0.same W3
  have F3_b900_e1 := F_b900_e1.other W3 (Or.inr (slot_ne (Or.inr (w396 hw)) (Or.inr (w393 hw)) (by decide) (t := (.object "java/lang/Object")) (t' := (.object "java/lang/Object")) (by decide) (by decide)))
  have E3_b900 := E_b900.wr W3
  have O3 := O0.wr W3 g_b900
  have K3 := Keep.wr K0 W3 (Or.inl (List.mem_of_getElem? (i := 0) rfl))
  have N3 := Fr.snoc X3 N0 g_b900
  refine zaloadN X3 hx hby d64_12 rfl rfl (zgetstat X3 hx hby d64_13 hZ hown (Or.inr (w394 hw)) Via.refl e3 (S_em.ext O3.2) fun T4 X4 e4 => (zputfld X4 hx hby d64_16 hZ hown (host := "") (Or.inl (w395 hw)) Via.refl e4 F3_b900_e1 E3_b900 (Or.inr ⟨(w396 hw), rfl, hnm⟩) (w368 hw) (ty := (.object "java/lang/Object")) (by decide) rfl rfl fun T5 h5 X5 e5 W5 => ?_))
  have F5_b900_e1 : Fld Z h5 b900 "java/util/ImmutableCollections$List12" "e1" "Ljava/lang/Object;" (.ref em) := F3_b900_e1.same W5
  have F5_b900_e0 := F3_b900_e0.other W5 (Or.inr (slot_ne (Or.inr (w393 hw)) (Or.inr (w396 hw)) (by decide) (t := (.object "java/lang/Object")) (t' := (.object "java/lang/Object")) (by decide) (by decide)))
  have E5_b900 := E3_b900.wr W5
  have K5 := Keep.wr K3 W5 (Or.inl (List.mem_of_getElem? (i := 0) rfl))
  have N5 := Fr.snoc X5 N3 g_b900
  show zEnds p e below s T5 (mkF m 19 #[rv b900, rv b901] []) _ _ _
  exact zretV X5 hx hby d64_19 hret hlk (by decide) (by decide) (by rw [e5]; exact ⟨rfl, N5, K5, E5_b900, F5_b900_e0, F5_b900_e1⟩)
theorem c33_of (l : Launch) {Z : State} {a0 : Array Value} (hw : HW a0 Z) (ws : List Jvm.Cond) {wd wl we em mo : Addr} {n0 : Nat} {h0 : Heap} (C : Ctx2 Z wd wl we em mo) (O0 : Old Z n0 h0) (Z0 : n0 ≤ h0.size) (b900 : Addr) (b901 : Addr) (g_b900 : n0 ≤ b900) (E_b900 : Exa Z h0 b900 "[Ljava/lang/Object;") (A_b900 : zLstR Z h0 b900 "java/lang/Object" [(.ref b901)]) (g_b901 : n0 ≤ b901) (E_b901 : Exa Z h0 b901 "java/lang/String") : zCon l Z (⟨"java/util/List", "of", "([Ljava/lang/Object;)Ljava/util/List;"⟩ : MethodName) jdk_40_method_47_code 2 (some (.object "java/util/List")) ws ({ frames := 5, cells := 1, slots := 2, locals := 62 } : Room) #[(.ref b900)] h0 (fun v h L => ∃ b1 : Addr, v = some (.ref b1) ∧ Fr n0 L ∧ Keep h0 h [] ∧ n0 ≤ b1 ∧ h0.size ≤ b1 ∧ Exa Z h b1 "java/util/ImmutableCollections$List12" ∧ Fld Z h b1 "java/util/ImmutableCollections$List12" "e0" "Ljava/lang/Object;" (.ref b901) ∧ Fld Z h b1 "java/util/ImmutableCollections$List12" "e1" "Ljava/lang/Object;" (.ref em)) := by
  obtain ⟨S_wd, A_wd, S_wl, E_wl, F_wl_elements, E_we, A_we, S_em, E_em, M_mo⟩ := C
  refine zenter (plainFor_of_name pn_9) (L0 := #[rv b900, .unset]) (H := ?_)
  intro p e s m below meth c T0 hx hZ hby hml hown0 hnm hret hlk X0 e0
  have hown : s.vm.findClass "java/util/List" = some m.cls := hown0
  have K0 := Keep.refl h0 []
  have N0 := Fr.nil n0
  show zEnds p e below s T0 (mkF m 0 #[rv b900, .unset] []) _ _ _
  refine zaloadN X0 hx hby d63_0 rfl rfl (zalenL X0 hx hby d63_1 hZ e0 A_b900.lst (1 : Int32) rfl (ztswIn X0 hx hby d63_2 34 (by decide) rfl (by decide) (by decide) (znewobj X0 hx hby d63_34 hZ hown (w367 hw) (w368 hw) (w369 hw) e0 (by decide) (by decide) fun T1 h1 b1 X1 e1 y1 Ex1 E1_b1 D1 => ?_)))
  have A1_b900 := A_b900.ext Ex1
  have E1_b901 := E_b901.ext Ex1
  have O1 := O0.ext Ex1
  have K1 := Keep.ext K0 Ex1
  have g1 : n0 ≤ b1 := by rw [y1]; exact zsz O0
  have z1 : h0.size ≤ b1 := by rw [y1]; exact K0.1
  have F1_b1_e0 : Fld Z h1 b1 "java/util/ImmutableCollections$List12" "e0" "Ljava/lang/Object;" .null := D1 (Or.inr (w393 hw)) (ty := (.object "java/lang/Object")) (by decide)
  have F1_b1_e1 : Fld Z h1 b1 "java/util/ImmutableCollections$List12" "e1" "Ljava/lang/Object;" .null := D1 (Or.inr (w396 hw)) (ty := (.object "java/lang/Object")) (by decide)
  refine zdup X1 hx hby d63_37 rfl (zaloadN X1 hx hby d63_38 rfl rfl (ziconst X1 hx hby d63_39 (z := (0 : Int32)) rfl (zaaload X1 hx hby d63_40 hZ e1 rfl A1_b900.lst (by decide) (v := (.ref b901)) rfl (zcallsp X1 hx hby d63_41 hZ hown rfl (w370 hw) (w371 hw) (w373 hw) (w369 hw) e1 (c34_init l hw [] ⟨S_wd, A_wd, S_wl, E_wl, F_wl_elements, E_we, A_we, S_em, E_em, M_mo⟩ O1 (zsz O1) b1 b901 g1 E1_b1 F1_b1_e0 F1_b1_e1 g_b901 E1_b901) hml 1 pd_46 (argsL := [(.ref b901)]) (st := [(.ref b1)]) fun T2 h2 v2 L2 e2 X2 q2 => ?_))))
  obtain ⟨rfl, N2q, K2q, E2_b1, F2_b1_e0, F2_b1_e1⟩ := q2
  have K2 := Keep.trans K1 K2q (allS (Or.inr z1) all0)
  have N2 := Fr.app N0 N2q
  show zEnds p e below s T2 (mkF m 44 #[rv b900, .unset] [(.ref b1)]) _ _ _
  exact zretA X2 hx hby d63_44 hret hlk rfl rfl rfl (by decide) (by decide) (by rw [e2]; exact ⟨b1, rfl, N2, K2, g1, z1, E2_b1, F2_b1_e0, F2_b1_e1⟩)
theorem c22_listCopy (l : Launch) {Z : State} {a0 : Array Value} (hw : HW a0 Z) (ws : List Jvm.Cond) {wd wl we em mo : Addr} {n0 : Nat} {h0 : Heap} (C : Ctx2 Z wd wl we em mo) (O0 : Old Z n0 h0) (Z0 : n0 ≤ h0.size) (b900 : Addr) (b901 : Addr) (b902 : Addr) (g_b900 : n0 ≤ b900) (E_b900 : Exa Z h0 b900 "java/util/ArrayList") (F_b900_modCount : Fld Z h0 b900 "java/util/AbstractList" "modCount" "I" (.int 1)) (F_b900_elementData : Fld Z h0 b900 "java/util/ArrayList" "elementData" "[Ljava/lang/Object;" (.ref b901)) (F_b900_size : Fld Z h0 b900 "java/util/ArrayList" "size" "I" (.int 1)) (g_b901 : n0 ≤ b901) (E_b901 : Exa Z h0 b901 "[Ljava/lang/Object;") (A_b901 : zLstR Z h0 b901 "java/lang/Object" [(.ref b902), .null, .null, .null, .null, .null, .null, .null, .null, .null]) (g_b902 : n0 ≤ b902) (E_b902 : Exa Z h0 b902 "java/lang/String") : zCon l Z (⟨"java/util/ImmutableCollections", "listCopy", "(Ljava/util/Collection;)Ljava/util/List;"⟩ : MethodName) jdk_56_method_3_code 2 (some (.object "java/util/List")) ws ({ frames := 7, cells := 3, slots := 8, locals := 90 } : Room) #[(.ref b900)] h0 (fun v h L => ∃ b4_b3_b2_b2 b5_b1 : Addr, v = some (.ref b5_b1) ∧ Fr n0 L ∧ Keep h0 h [] ∧ n0 ≤ b4_b3_b2_b2 ∧ h0.size ≤ b4_b3_b2_b2 ∧ Exa Z h b4_b3_b2_b2 "[Ljava/lang/Object;" ∧ zLstR Z h b4_b3_b2_b2 "java/lang/Object" [(.ref b902)] ∧ n0 ≤ b5_b1 ∧ h0.size ≤ b5_b1 ∧ Exa Z h b5_b1 "java/util/ImmutableCollections$List12" ∧ Fld Z h b5_b1 "java/util/ImmutableCollections$List12" "e0" "Ljava/lang/Object;" (.ref b902) ∧ Fld Z h b5_b1 "java/util/ImmutableCollections$List12" "e1" "Ljava/lang/Object;" (.ref em)) := by
  obtain ⟨S_wd, A_wd, S_wl, E_wl, F_wl_elements, E_we, A_we, S_em, E_em, M_mo⟩ := C
  refine zenter (plainFor_of_name pn_16) (L0 := #[rv b900, .unset]) (H := ?_)
  intro p e s m below meth c T0 hx hZ hby hml hown0 hnm hret hlk X0 e0
  have hown : s.vm.findClass "java/util/ImmutableCollections" = some m.cls := hown0
  have K0 := Keep.refl h0 []
  have N0 := Fr.nil n0
  show zEnds p e below s T0 (mkF m 0 #[rv b900, .unset] []) _ _ _
  refine zaloadN X0 hx hby d53_0 rfl rfl (zinstNo X0 hx hby d53_1 hZ hown (w46 hw) e0 E_b900 (w368 hw) (chainAL hw) (by decide) fun T1 X1 e1 => (zifNo X1 hx hby d53_4 (by decide) (zaloadN X1 hx hby d53_7 rfl rfl (zinstNo X1 hx hby d53_8 hZ hown (w51 hw) e1 E_b900 (w409 hw) (chainAL hw) (by decide) fun T2 X2 e2 => (zifYes X2 hx hby d53_11 31 (by decide) (by decide) (by decide) (zaloadN X2 hx hby d53_31 rfl rfl (zcalli X2 hx hby d53_32 hZ hown (w52 hw) (w53 hw) (w54 hw) (w55 hw) (w56 hw) (w57 hw) (w58 hw) (w59 hw) (w60 hw) (w3 hw) e2 E_b900 (c23_isEmpty l hw [] ⟨S_wd, A_wd, S_wl, E_wl, F_wl_elements, E_we, A_we, S_em, E_em, M_mo⟩ O0 (zsz O0) b900 b901 b902 g_b900 E_b900 F_b900_modCount F_b900_elementData F_b900_size g_b901 E_b901 A_b901 g_b902 E_b902) hml 0 pd_12 (argsL := []) (st := []) (zpureK ⟨rfl, rfl⟩ fun T3 X3 e3 => ?_))))))))
  refine zifYes X3 hx hby d53_37 44 (by decide) (by decide) (by decide) (zaloadN X3 hx hby d53_44 rfl rfl (zcalli X3 hx hby d53_45 hZ hown (w342 hw) (w343 hw) (w344 hw) (w345 hw) (w346 hw) (w347 hw) (w348 hw) (w59 hw) (w349 hw) (w3 hw) e3 E_b900 (c25_toArray l hw [] ⟨S_wd, A_wd, S_wl, E_wl, F_wl_elements, E_we, A_we, S_em, E_em, M_mo⟩ O0 (zsz O0) b900 b901 b902 g_b900 E_b900 F_b900_modCount F_b900_elementData F_b900_size g_b901 E_b901 A_b901 g_b902 E_b902) hml 0 pd_40 (argsL := []) (st := []) fun T4 h4 v4 L4 e4 X4 q4 => ?_))
  obtain ⟨b4_b3_b2_b2, rfl, N4q, K4q, g4_b4_b3_b2_b2, y4_b4_b3_b2_b2, E4_b4_b3_b2_b2, A4_b4_b3_b2_b2⟩ := q4
  have E4_b902 := E_b902.keep K4q
  have O4 := O0.keep K4q all0
  have K4 := Keep.trans K0 K4q all0
  have z4_b4_b3_b2_b2 : h0.size ≤ b4_b3_b2_b2 := Nat.le_trans K0.1 y4_b4_b3_b2_b2
  have N4 := Fr.app N0 N4q
  refine zcalls X4 hx hby d53_50 hZ hown (w364 hw) (w365 hw) (w40 hw) (w366 hw) e4 (c33_of l hw [] ⟨S_wd, A_wd, S_wl, E_wl, F_wl_elements, E_we, A_we, S_em, E_em, M_mo⟩ O4 (zsz O4) b4_b3_b2_b2 b902 g4_b4_b3_b2_b2 E4_b4_b3_b2_b2 A4_b4_b3_b2_b2 g_b902 E4_b902) hml 0 pd_47 (argsL := [(.ref b4_b3_b2_b2)]) (st := []) fun T5 h5 v5 L5 e5 X5 q5 => ?_
  obtain ⟨b5_b1, rfl, N5q, K5q, g5_b5_b1, y5_b5_b1, E5_b5_b1, F5_b5_b1_e0, F5_b5_b1_e1⟩ := q5
  have E5_b4_b3_b2_b2 := E4_b4_b3_b2_b2.keep K5q
  have A5_b4_b3_b2_b2 := A4_b4_b3_b2_b2.keep K5q nin0
  have K5 := Keep.trans K4 K5q all0
  have z5_b5_b1 : h0.size ≤ b5_b1 := Nat.le_trans K4.1 y5_b5_b1
  have N5 := Fr.app N4 N5q
  show zEnds p e below s T5 (mkF m 53 #[rv b900, .unset] [(.ref b5_b1)]) _ _ _
  exact zretA X5 hx hby d53_53 hret hlk rfl rfl rfl (by decide) (by decide) (by rw [e5]; exact ⟨b4_b3_b2_b2, b5_b1, rfl, N5, K5, g4_b4_b3_b2_b2, z4_b4_b3_b2_b2, E5_b4_b3_b2_b2, A5_b4_b3_b2_b2, g5_b5_b1, z5_b5_b1, E5_b5_b1, F5_b5_b1_e0, F5_b5_b1_e1⟩)
theorem c47_add (l : Launch) {Z : State} {a0 : Array Value} (hw : HW a0 Z) (ws : List Jvm.Cond) {wd wl we em mo : Addr} {n0 : Nat} {h0 : Heap} (C : Ctx2 Z wd wl we em mo) (O0 : Old Z n0 h0) (Z0 : n0 ≤ h0.size) (b900 : Addr) (b901 : Addr) (b902 : Addr) (b903 : Addr) (g_b900 : n0 ≤ b900) (E_b900 : Exa Z h0 b900 "java/util/ArrayList") (F_b900_modCount : Fld Z h0 b900 "java/util/AbstractList" "modCount" "I" (.int 2)) (F_b900_elementData : Fld Z h0 b900 "java/util/ArrayList" "elementData" "[Ljava/lang/Object;" (.ref b902)) (F_b900_size : Fld Z h0 b900 "java/util/ArrayList" "size" "I" (.int 1)) (g_b901 : n0 ≤ b901) (E_b901 : Exa Z h0 b901 "java/lang/String") (g_b902 : n0 ≤ b902) (E_b902 : Exa Z h0 b902 "[Ljava/lang/Object;") (A_b902 : zLstR Z h0 b902 "java/lang/Object" [(.ref b903), .null, .null, .null, .null, .null, .null, .null, .null, .null]) (g_b903 : n0 ≤ b903) (E_b903 : Exa Z h0 b903 "java/lang/String") : zCon l Z (⟨"java/util/ArrayList", "add", "(Ljava/lang/Object;[Ljava/lang/Object;I)V"⟩ : MethodName) jdk_38_method_24_code 4 none ws ({ frames := 0, cells := 0, slots := 0, locals := 0 } : Room) #[(.ref b900), (.ref b901), (.ref b902), (.int 1)] h0 (fun v h L => v = none ∧ Fr n0 L ∧ Keep h0 h [b902, b900] ∧ Exa Z h b900 "java/util/ArrayList" ∧ Fld Z h b900 "java/util/AbstractList" "modCount" "I" (.int 2) ∧ Fld Z h b900 "java/util/ArrayList" "elementData" "[Ljava/lang/Object;" (.ref b902) ∧ Fld Z h b900 "java/util/ArrayList" "size" "I" (.int 2) ∧ Exa Z h b902 "[Ljava/lang/Object;" ∧ zLstR Z h b902 "java/lang/Object" [(.ref b903), (.ref b901), .null, .null, .null, .null, .null, .null, .null, .null]) := by
  obtain ⟨S_wd, A_wd, S_wl, E_wl, F_wl_elements, E_we, A_we, S_em, E_em, M_mo⟩ := C
  refine zenter (plainFor_of_name pn_15) (L0 := #[rv b900, rv b901, rv b902, iv 1]) (H := ?_)
  intro p e s m below meth c T0 hx hZ hby hml hown0 hnm hret hlk X0 e0
  have hown : s.vm.findClass "java/util/ArrayList" = some m.cls := hown0
  have K0 := Keep.refl h0 [b902, b900]
  have N0 := Fr.nil n0
  show zEnds p e below s T0 (mkF m 0 #[rv b900, rv b901, rv b902, iv 1] []) _ _ _
  refine ziloadN X0 hx hby d57_0 rfl (zaloadN X0 hx hby d57_1 rfl rfl (zalenL X0 hx hby d57_2 hZ e0 A_b902.lst (10 : Int32) rfl (zicmpYes X0 hx hby d57_3 11 (by decide) (by decide) (by decide) (zaloadN X0 hx hby d57_11 rfl rfl (ziloadN X0 hx hby d57_12 rfl (zaloadN X0 hx hby d57_13 rfl rfl (zaastore X0 hx hby d57_14 hZ e0 A_b902 (by decide) (by show Int32.toNatClampNeg 1 < 10; decide) (Ins.of_exa E_b901 (w341 hw)) fun T1 h1 X1 e1 W1 A1_b902 => ?_)))))))
  change zLstR Z h1 b902 "java/lang/Object" [(.ref b903), (.ref b901), .null, .null, .null, .null, .null, .null, .null, .null] at A1_b902
  have F1_b900_modCount := F_b900_modCount.other W1 (Or.inl (Exa.ne E_b900 E_b902 (by decide)))
  have F1_b900_elementData := F_b900_elementData.other W1 (Or.inl (Exa.ne E_b900 E_b902 (by decide)))
  have F1_b900_size := F_b900_size.other W1 (Or.inl (Exa.ne E_b900 E_b902 (by decide)))
  have E1_b900 := E_b900.wr W1
  have E1_b902 := E_b902.wr W1
  have K1 := Keep.wr K0 W1 (Or.inl (List.mem_of_getElem? (i := 0) rfl))
  have N1 := Fr.snoc X1 N0 g_b902
  refine zaloadN X1 hx hby d57_15 rfl rfl (ziloadN X1 hx hby d57_16 rfl (ziconst X1 hx hby d57_17 (z := (1 : Int32)) rfl (ziadd X1 hx hby d57_18 (2 : Int32) (by decide) (zputfld X1 hx hby d57_19 hZ hown (host := "") (Or.inl (w61 hw)) Via.refl e1 F1_b900_size E1_b900 (Or.inl (w62 hw)) (w2 hw) (ty := .int) (by decide) rfl rfl fun T2 h2 X2 e2 W2 => ?_))))
  have F2_b900_size : Fld Z h2 b900 "java/util/ArrayList" "size" "I" (.int 2) := F1_b900_size.same W2
  have F2_b900_modCount := F1_b900_modCount.other W2 (Or.inr (slot_ne (Or.inl (w23 hw)) (Or.inl (w62 hw)) (by decide) (t := .int) (t' := .int) (by decide) (by decide)))
  have F2_b900_elementData := F1_b900_elementData.other W2 (Or.inr (slot_ne (Or.inl (w26 hw)) (Or.inl (w62 hw)) (by decide) (t := (.array (.object "java/lang/Object"))) (t' := .int) (by decide) (by decide)))
  have E2_b900 := E1_b900.wr W2
  have E2_b902 := E1_b902.wr W2
  have A2_b902 := A1_b902.other W2 (Exa.ne E2_b902 E2_b900 (by decide))
  have K2 := Keep.wr K1 W2 (Or.inl (List.mem_of_getElem? (i := 1) rfl))
  have N2 := Fr.snoc X2 N1 g_b900
  show zEnds p e below s T2 (mkF m 22 #[rv b900, rv b901, rv b902, iv 1] []) _ _ _
  exact zretV X2 hx hby d57_22 hret hlk (by decide) (by decide) (by rw [e2]; exact ⟨rfl, N2, K2, E2_b900, F2_b900_modCount, F2_b900_elementData, F2_b900_size, E2_b902, A2_b902⟩)
theorem c46_add (l : Launch) {Z : State} {a0 : Array Value} (hw : HW a0 Z) (ws : List Jvm.Cond) {wd wl we em mo : Addr} {n0 : Nat} {h0 : Heap} (C : Ctx2 Z wd wl we em mo) (O0 : Old Z n0 h0) (Z0 : n0 ≤ h0.size) (b900 : Addr) (b901 : Addr) (b902 : Addr) (b903 : Addr) (g_b900 : n0 ≤ b900) (E_b900 : Exa Z h0 b900 "java/util/ArrayList") (F_b900_modCount : Fld Z h0 b900 "java/util/AbstractList" "modCount" "I" (.int 1)) (F_b900_elementData : Fld Z h0 b900 "java/util/ArrayList" "elementData" "[Ljava/lang/Object;" (.ref b902)) (F_b900_size : Fld Z h0 b900 "java/util/ArrayList" "size" "I" (.int 1)) (g_b901 : n0 ≤ b901) (E_b901 : Exa Z h0 b901 "java/lang/String") (g_b902 : n0 ≤ b902) (E_b902 : Exa Z h0 b902 "[Ljava/lang/Object;") (A_b902 : zLstR Z h0 b902 "java/lang/Object" [(.ref b903), .null, .null, .null, .null, .null, .null, .null, .null, .null]) (g_b903 : n0 ≤ b903) (E_b903 : Exa Z h0 b903 "java/lang/String") : zCon l Z (⟨"java/util/ArrayList", "add", "(Ljava/lang/Object;)Z"⟩ : MethodName) jdk_38_method_25_code 2 (some .boolean) ws ({ frames := 1, cells := 0, slots := 0, locals := 15 } : Room) #[(.ref b900), (.ref b901)] h0 (fun v h L => v = some (.int 1) ∧ Fr n0 L ∧ Keep h0 h [b900, b902] ∧ Exa Z h b900 "java/util/ArrayList" ∧ Fld Z h b900 "java/util/AbstractList" "modCount" "I" (.int 2) ∧ Fld Z h b900 "java/util/ArrayList" "elementData" "[Ljava/lang/Object;" (.ref b902) ∧ Fld Z h b900 "java/util/ArrayList" "size" "I" (.int 2) ∧ Exa Z h b902 "[Ljava/lang/Object;" ∧ zLstR Z h b902 "java/lang/Object" [(.ref b903), (.ref b901), .null, .null, .null, .null, .null, .null, .null, .null]) := by
  obtain ⟨S_wd, A_wd, S_wl, E_wl, F_wl_elements, E_we, A_we, S_em, E_em, M_mo⟩ := C
  refine zenter (plainFor_of_name pn_15) (L0 := #[rv b900, rv b901]) (H := ?_)
  intro p e s m below meth c T0 hx hZ hby hml hown0 hnm hret hlk X0 e0
  have hown : s.vm.findClass "java/util/ArrayList" = some m.cls := hown0
  have K0 := Keep.refl h0 [b900, b902]
  have N0 := Fr.nil n0
  show zEnds p e below s T0 (mkF m 0 #[rv b900, rv b901] []) _ _ _
  refine zaloadN X0 hx hby d56_0 rfl rfl (zdup X0 hx hby d56_1 rfl (zgetfld X0 hx hby d56_2 hZ hown (host := "") (Or.inl (w321 hw)) (Via.of (w322 hw)) e0 F_b900_modCount fun T1 X1 e1 => (ziconst X1 hx hby d56_5 (z := (1 : Int32)) rfl (ziadd X1 hx hby d56_6 (2 : Int32) (by decide) (zputfld X1 hx hby d56_7 hZ hown (host := "") (Or.inl (w321 hw)) (Via.of (w322 hw)) e1 F_b900_modCount E_b900 (Or.inl (w23 hw)) (w2 hw) (ty := .int) (by decide) rfl rfl fun T2 h2 X2 e2 W2 => ?_)))))
  have F2_b900_modCount : Fld Z h2 b900 "java/util/AbstractList" "modCount" "I" (.int 2) := F_b900_modCount.same W2
  have F2_b900_elementData := F_b900_elementData.other W2 (Or.inr (slot_ne (Or.inl (w26 hw)) (Or.inl (w23 hw)) (by decide) (t := (.array (.object "java/lang/Object"))) (t' := .int) (by decide) (by decide)))
  have F2_b900_size := F_b900_size.other W2 (Or.inr (slot_ne (Or.inl (w62 hw)) (Or.inl (w23 hw)) (by decide) (t := .int) (t' := .int) (by decide) (by decide)))
  have E2_b900 := E_b900.wr W2
  have E2_b901 := E_b901.wr W2
  have E2_b902 := E_b902.wr W2
  have A2_b902 := A_b902.other W2 (Exa.ne E2_b902 E2_b900 (by decide))
  have E2_b903 := E_b903.wr W2
  have O2 := O0.wr W2 g_b900
  have K2 := Keep.wr K0 W2 (Or.inl (List.mem_of_getElem? (i := 0) rfl))
  have N2 := Fr.snoc X2 N0 g_b900
  refine zaloadN X2 hx hby d56_10 rfl rfl (zaloadN X2 hx hby d56_11 rfl rfl (zaloadN X2 hx hby d56_12 rfl rfl (zgetfld X2 hx hby d56_13 hZ hown (host := "") (Or.inl (w25 hw)) Via.refl e2 F2_b900_elementData fun T3 X3 e3 => (zaloadN X3 hx hby d56_16 rfl rfl (zgetfld X3 hx hby d56_17 hZ hown (host := "") (Or.inl (w61 hw)) Via.refl e3 F2_b900_size fun T4 X4 e4 => (zcallv X4 hx hby d56_20 hZ hown (w323 hw) (zdecl_of (w324 hw) (w327 hw)) (notFace_of_selects (args := #[]) (mvT hZ (w326 hw))) (w326 hw) (w324 hw) (w327 hw) (w3 hw) e4 E2_b900 (c47_add l hw [] ⟨S_wd, A_wd, S_wl, E_wl, F_wl_elements, E_we, A_we, S_em, E_em, M_mo⟩ O2 (zsz O2) b900 b901 b902 b903 g_b900 E2_b900 F2_b900_modCount F2_b900_elementData F2_b900_size g_b901 E2_b901 g_b902 E2_b902 A2_b902 g_b903 E2_b903) hml 0 pd_41 (argsL := [(.ref b901), (.ref b902), (.int 1)]) (st := []) fun T5 h5 v5 L5 e5 X5 q5 => ?_))))))
  obtain ⟨rfl, N5q, K5q, E5_b900, F5_b900_modCount, F5_b900_elementData, F5_b900_size, E5_b902, A5_b902⟩ := q5
  have K5 := Keep.trans K2 K5q (allS (Or.inl (List.mem_of_getElem? (i := 1) rfl)) (allS (Or.inl (List.mem_of_getElem? (i := 0) rfl)) all0))
  have N5 := Fr.app N2 N5q
  show zEnds p e below s T5 (mkF m 23 #[rv b900, rv b901] []) _ _ _
  refine ziconst X5 hx hby d56_23 (z := (1 : Int32)) rfl ?_
  show zEnds p e below s T5 (mkF m 24 #[rv b900, rv b901] [(.int 1)]) _ _ _
  exact zretZ X5 hx hby d56_24 hret hlk (by simp) rfl (by decide) (by decide) (by rw [e5]; exact ⟨rfl, N5, K5, E5_b900, F5_b900_modCount, F5_b900_elementData, F5_b900_size, E5_b902, A5_b902⟩)
theorem c51_isEmpty (l : Launch) {Z : State} {a0 : Array Value} (hw : HW a0 Z) (ws : List Jvm.Cond) {wd wl we em mo : Addr} {n0 : Nat} {h0 : Heap} (C : Ctx2 Z wd wl we em mo) (O0 : Old Z n0 h0) (Z0 : n0 ≤ h0.size) (b900 : Addr) (b901 : Addr) (b902 : Addr) (b903 : Addr) (g_b900 : n0 ≤ b900) (E_b900 : Exa Z h0 b900 "java/util/ArrayList") (F_b900_modCount : Fld Z h0 b900 "java/util/AbstractList" "modCount" "I" (.int 2)) (F_b900_elementData : Fld Z h0 b900 "java/util/ArrayList" "elementData" "[Ljava/lang/Object;" (.ref b901)) (F_b900_size : Fld Z h0 b900 "java/util/ArrayList" "size" "I" (.int 2)) (g_b901 : n0 ≤ b901) (E_b901 : Exa Z h0 b901 "[Ljava/lang/Object;") (A_b901 : zLstR Z h0 b901 "java/lang/Object" [(.ref b902), (.ref b903), .null, .null, .null, .null, .null, .null, .null, .null]) (g_b902 : n0 ≤ b902) (E_b902 : Exa Z h0 b902 "java/lang/String") (g_b903 : n0 ≤ b903) (E_b903 : Exa Z h0 b903 "java/lang/String") : zCon l Z (⟨"java/util/ArrayList", "isEmpty", "()Z"⟩ : MethodName) jdk_38_method_9_code 1 (some .boolean) ws ({ frames := 0, cells := 0, slots := 0, locals := 0 } : Room) #[(.ref b900)] h0 (zSame (some (.int 0)) h0) := by
  obtain ⟨S_wd, A_wd, S_wl, E_wl, F_wl_elements, E_we, A_we, S_em, E_em, M_mo⟩ := C
  refine zenter (plainFor_of_name pn_15) (L0 := #[rv b900]) (H := ?_)
  intro p e s m below meth c T0 hx hZ hby hml hown0 hnm hret hlk X0 e0
  have hown : s.vm.findClass "java/util/ArrayList" = some m.cls := hown0
  show zEnds p e below s T0 (mkF m 0 #[rv b900] []) _ _ _
  refine zaloadN X0 hx hby d54_0 rfl rfl (zgetfld X0 hx hby d54_1 hZ hown (host := "") (Or.inl (w61 hw)) Via.refl e0 F_b900_size fun T1 X1 e1 => (zifYes X1 hx hby d54_4 11 (by decide) (by decide) (by decide) (ziconst X1 hx hby d54_11 (z := (0 : Int32)) rfl ?_)))
  show zEnds p e below s T1 (mkF m 12 #[rv b900] [(.int 0)]) _ _ _
  exact zretZ X1 hx hby d54_12 hret hlk (by simp) rfl (by decide) (by decide) ⟨rfl, e1, rfl⟩
theorem c56_min (l : Launch) {Z : State} {a0 : Array Value} (hw : HW a0 Z) (ws : List Jvm.Cond) {wd wl we em mo : Addr} {n0 : Nat} {h0 : Heap} (C : Ctx2 Z wd wl we em mo) (O0 : Old Z n0 h0) (Z0 : n0 ≤ h0.size)  : zCon l Z (⟨"java/lang/Math", "min", "(II)I"⟩ : MethodName) jdk_29_method_69_code 2 (some .int) ws ({ frames := 0, cells := 0, slots := 0, locals := 0 } : Room) #[(.int 10), (.int 2)] h0 (zSame (some (.int 2)) h0) := by
  obtain ⟨S_wd, A_wd, S_wl, E_wl, F_wl_elements, E_we, A_we, S_em, E_em, M_mo⟩ := C
  refine zenter (Jvm.Free.JP.mathPlain rfl (by decide +kernel)) (L0 := #[iv 10, iv 2]) (H := ?_)
  intro p e s m below meth c T0 hx hZ hby hml hown0 hnm hret hlk X0 e0
  have hown : s.vm.findClass "java/lang/Math" = some m.cls := hown0
  show zEnds p e below s T0 (mkF m 0 #[iv 10, iv 2] []) _ _ _
  refine ziloadN X0 hx hby d7_0 rfl (ziloadN X0 hx hby d7_1 rfl (zicmpYes X0 hx hby d7_2 9 (by decide) (by decide) (by decide) (ziloadN X0 hx hby d7_9 rfl ?_)))
  show zEnds p e below s T0 (mkF m 10 #[iv 10, iv 2] [(.int 2)]) _ _ _
  exact zretI X0 hx hby d7_10 hret hlk (by decide) (by decide) ⟨rfl, e0, rfl⟩
theorem c55_copyOf (l : Launch) {Z : State} {a0 : Array Value} (hw : HW a0 Z) (ws : List Jvm.Cond) {wd wl we em mo : Addr} {n0 : Nat} {h0 : Heap} (C : Ctx2 Z wd wl we em mo) (O0 : Old Z n0 h0) (Z0 : n0 ≤ h0.size) (b900 : Addr) (b901 : Addr) (b902 : Addr) (g_b900 : n0 ≤ b900) (E_b900 : Exa Z h0 b900 "[Ljava/lang/Object;") (A_b900 : zLstR Z h0 b900 "java/lang/Object" [(.ref b901), (.ref b902), .null, .null, .null, .null, .null, .null, .null, .null]) (g_b901 : n0 ≤ b901) (E_b901 : Exa Z h0 b901 "java/lang/String") (g_b902 : n0 ≤ b902) (E_b902 : Exa Z h0 b902 "java/lang/String") : zCon l Z (⟨"java/util/Arrays", "copyOf", "([Ljava/lang/Object;ILjava/lang/Class;)[Ljava/lang/Object;"⟩ : MethodName) jdk_65_method_120_code 4 (some (.array (.object "java/lang/Object"))) ws ({ frames := 1, cells := 1, slots := 2, locals := 29 } : Room) #[(.ref b900), (.int 2), (.ref mo)] h0 (fun v h L => ∃ b2 : Addr, v = some (.ref b2) ∧ Fr n0 L ∧ Keep h0 h [] ∧ n0 ≤ b2 ∧ h0.size ≤ b2 ∧ Exa Z h b2 "[Ljava/lang/Object;" ∧ zLstR Z h b2 "java/lang/Object" [(.ref b901), (.ref b902)]) := by
  obtain ⟨S_wd, A_wd, S_wl, E_wl, F_wl_elements, E_we, A_we, S_em, E_em, M_mo⟩ := C
  refine zenter (plainFor_of_name pn_4) (L0 := #[rv b900, iv 2, rv mo, .unset]) (H := ?_)
  intro p e s m below meth c T0 hx hZ hby hml hown0 hnm hret hlk X0 e0
  have hown : s.vm.findClass "java/util/Arrays" = some m.cls := hown0
  have K0 := Keep.refl h0 []
  have N0 := Fr.nil n0
  show zEnds p e below s T0 (mkF m 0 #[rv b900, iv 2, rv mo, .unset] []) _ _ _
  refine zaloadN X0 hx hby d62_0 rfl rfl (zldcCls X0 hx hby d62_1 hZ hown (w362 hw) e0 M_mo fun T1 X1 e1 => (zacmp X1 hx hby d62_3 6 true rfl rfl (decide_eq_true rfl) (by decide) (by decide) (ziloadN X1 hx hby d62_6 rfl (znewref3 X1 hx hby d62_7 hZ hown (w363 hw) (w340 hw) e1 (by decide) 2 (by decide) (by decide) (by decide) (by decide) (D := "[Ljava/lang/Object;") (by decide) fun T2 h2 b2 X2 e2 y2 Ex2 E2_b2 A2_b2 => ?_))))
  change zLstR Z h2 b2 "java/lang/Object" [.null, .null] at A2_b2
  have A2_b900 := A_b900.ext Ex2
  have E2_b901 := E_b901.ext Ex2
  have E2_b902 := E_b902.ext Ex2
  have O2 := O0.ext Ex2
  have K2 := Keep.ext K0 Ex2
  have g2 : n0 ≤ b2 := by rw [y2]; exact zsz O0
  have z2 : h0.size ≤ b2 := by rw [y2]; exact K0.1
  refine zgoto X2 hx hby d62_10 24 (by decide) (by decide) (zastoreN X2 hx hby d62_24 (hv := rfl) (L' := #[rv b900, iv 2, rv mo, rv b2]) rfl (zaloadN X2 hx hby d62_25 rfl rfl (ziconst X2 hx hby d62_26 (z := (0 : Int32)) rfl (zaloadN X2 hx hby d62_27 rfl rfl (ziconst X2 hx hby d62_28 (z := (0 : Int32)) rfl (zaloadN X2 hx hby d62_29 rfl rfl (zalenL X2 hx hby d62_30 hZ e2 A2_b900.lst (10 : Int32) rfl (ziloadN X2 hx hby d62_31 rfl (zcalls X2 hx hby d62_32 hZ hown (w149 hw) (w150 hw) (w141 hw) (w151 hw) e2 (c56_min l hw [] ⟨S_wd, A_wd, S_wl, E_wl, F_wl_elements, E_we, A_we, S_em, E_em, M_mo⟩ O2 (zsz O2) ) hml 4 pd_2 (argsL := [(.int 10), (.int 2)]) (st := [(.int 0), (.ref b2), (.int 0), (.ref b900)]) (zpureK ⟨rfl, rfl⟩ fun T3 X3 e3 => ?_))))))))))
  show zEnds p e below s T3 (mkF m 35 #[rv b900, iv 2, rv mo, rv b2] [(.int 2), (.int 0), (.ref b2), (.int 0), (.ref b900)]) _ _ _
  refine zcopyR X3 hx hby d62_35 hZ hown (w152 hw) (w155 hw) (w153 hw) (w154 hw) e3 (nn := 2) A2_b900 A2_b2 (zvlS (Or.inr ⟨_, rfl, Ins.of_exa E2_b901 (w341 hw)⟩) (zvlS (Or.inr ⟨_, rfl, Ins.of_exa E2_b902 (w341 hw)⟩) (zvlS (Or.inl rfl) (zvlS (Or.inl rfl) (zvlS (Or.inl rfl) (zvlS (Or.inl rfl) (zvlS (Or.inl rfl) (zvlS (Or.inl rfl) (zvlS (Or.inl rfl) (zvlS (Or.inl rfl) zvl0)))))))))) (by simp) (by show 2 ≤ 10; decide) rfl (by show 10 < 1000000; decide) N0 g2 hml 0 fun T4 h4 L4 X4 e4 N4 K4q A4_b2 => ?_
  have K4 := Keep.trans K2 K4q (allS (Or.inr z2) all0)
  have E4_b2 := E2_b2.keep K4q
  change zLstR Z h4 b2 "java/lang/Object" [(.ref b901), (.ref b902)] at A4_b2
  show zEnds p e below s T4 (mkF m 38 #[rv b900, iv 2, rv mo, rv b2] []) _ _ _
  refine zaloadN X4 hx hby d62_38 rfl rfl ?_
  show zEnds p e below s T4 (mkF m 39 #[rv b900, iv 2, rv mo, rv b2] [(.ref b2)]) _ _ _
  exact zretA X4 hx hby d62_39 hret hlk rfl rfl rfl (by decide) (by decide) (by rw [e4]; exact ⟨b2, rfl, N4, K4, g2, z2, E4_b2, A4_b2⟩)
theorem c54_copyOf (l : Launch) {Z : State} {a0 : Array Value} (hw : HW a0 Z) (ws : List Jvm.Cond) {wd wl we em mo : Addr} {n0 : Nat} {h0 : Heap} (C : Ctx2 Z wd wl we em mo) (O0 : Old Z n0 h0) (Z0 : n0 ≤ h0.size) (b900 : Addr) (b901 : Addr) (b902 : Addr) (g_b900 : n0 ≤ b900) (E_b900 : Exa Z h0 b900 "[Ljava/lang/Object;") (A_b900 : zLstR Z h0 b900 "java/lang/Object" [(.ref b901), (.ref b902), .null, .null, .null, .null, .null, .null, .null, .null]) (g_b901 : n0 ≤ b901) (E_b901 : Exa Z h0 b901 "java/lang/String") (g_b902 : n0 ≤ b902) (E_b902 : Exa Z h0 b902 "java/lang/String") : zCon l Z (⟨"java/util/Arrays", "copyOf", "([Ljava/lang/Object;I)[Ljava/lang/Object;"⟩ : MethodName) jdk_65_method_119_code 2 (some (.array (.object "java/lang/Object"))) ws ({ frames := 2, cells := 1, slots := 2, locals := 44 } : Room) #[(.ref b900), (.int 2)] h0 (fun v h L => ∃ b2_b2 : Addr, v = some (.ref b2_b2) ∧ Fr n0 L ∧ Keep h0 h [] ∧ n0 ≤ b2_b2 ∧ h0.size ≤ b2_b2 ∧ Exa Z h b2_b2 "[Ljava/lang/Object;" ∧ zLstR Z h b2_b2 "java/lang/Object" [(.ref b901), (.ref b902)]) := by
  obtain ⟨S_wd, A_wd, S_wl, E_wl, F_wl_elements, E_we, A_we, S_em, E_em, M_mo⟩ := C
  refine zenter (plainFor_of_name pn_4) (L0 := #[rv b900, iv 2]) (H := ?_)
  intro p e s m below meth c T0 hx hZ hby hml hown0 hnm hret hlk X0 e0
  have hown : s.vm.findClass "java/util/Arrays" = some m.cls := hown0
  have K0 := Keep.refl h0 []
  have N0 := Fr.nil n0
  show zEnds p e below s T0 (mkF m 0 #[rv b900, iv 2] []) _ _ _
  refine zaloadN X0 hx hby d61_0 rfl rfl (ziloadN X0 hx hby d61_1 rfl (zaloadN X0 hx hby d61_2 rfl rfl (zgetCls X0 hx hby d61_3 hZ hown (w353 hw) (w354 hw) (w356 hw) (w355 hw) (w357 hw) (w50 hw) e0 E_b900 M_mo hml 2 fun T1 X1 e1 => (zcalls X1 hx hby d61_6 hZ hown (w359 hw) (w360 hw) (w147 hw) (w361 hw) e1 (c55_copyOf l hw [] ⟨S_wd, A_wd, S_wl, E_wl, F_wl_elements, E_we, A_we, S_em, E_em, M_mo⟩ O0 (zsz O0) b900 b901 b902 g_b900 E_b900 A_b900 g_b901 E_b901 g_b902 E_b902) hml 0 pd_43 (argsL := [(.ref b900), (.int 2), (.ref mo)]) (st := []) fun T2 h2 v2 L2 e2 X2 q2 => ?_))))
  obtain ⟨b2_b2, rfl, N2q, K2q, g2_b2_b2, y2_b2_b2, E2_b2_b2, A2_b2_b2⟩ := q2
  have K2 := Keep.trans K0 K2q all0
  have z2_b2_b2 : h0.size ≤ b2_b2 := Nat.le_trans K0.1 y2_b2_b2
  have N2 := Fr.app N0 N2q
  show zEnds p e below s T2 (mkF m 9 #[rv b900, iv 2] [(.ref b2_b2)]) _ _ _
  exact zretA X2 hx hby d61_9 hret hlk rfl rfl rfl (by decide) (by decide) (by rw [e2]; exact ⟨b2_b2, rfl, N2, K2, g2_b2_b2, z2_b2_b2, E2_b2_b2, A2_b2_b2⟩)
theorem c53_toArray (l : Launch) {Z : State} {a0 : Array Value} (hw : HW a0 Z) (ws : List Jvm.Cond) {wd wl we em mo : Addr} {n0 : Nat} {h0 : Heap} (C : Ctx2 Z wd wl we em mo) (O0 : Old Z n0 h0) (Z0 : n0 ≤ h0.size) (b900 : Addr) (b901 : Addr) (b902 : Addr) (b903 : Addr) (g_b900 : n0 ≤ b900) (E_b900 : Exa Z h0 b900 "java/util/ArrayList") (F_b900_modCount : Fld Z h0 b900 "java/util/AbstractList" "modCount" "I" (.int 2)) (F_b900_elementData : Fld Z h0 b900 "java/util/ArrayList" "elementData" "[Ljava/lang/Object;" (.ref b901)) (F_b900_size : Fld Z h0 b900 "java/util/ArrayList" "size" "I" (.int 2)) (g_b901 : n0 ≤ b901) (E_b901 : Exa Z h0 b901 "[Ljava/lang/Object;") (A_b901 : zLstR Z h0 b901 "java/lang/Object" [(.ref b902), (.ref b903), .null, .null, .null, .null, .null, .null, .null, .null]) (g_b902 : n0 ≤ b902) (E_b902 : Exa Z h0 b902 "java/lang/String") (g_b903 : n0 ≤ b903) (E_b903 : Exa Z h0 b903 "java/lang/String") : zCon l Z (⟨"java/util/ArrayList", "toArray", "()[Ljava/lang/Object;"⟩ : MethodName) jdk_38_method_16_code 1 (some (.array (.object "java/lang/Object"))) ws ({ frames := 3, cells := 1, slots := 2, locals := 57 } : Room) #[(.ref b900)] h0 (fun v h L => ∃ b3_b2_b2 : Addr, v = some (.ref b3_b2_b2) ∧ Fr n0 L ∧ Keep h0 h [] ∧ n0 ≤ b3_b2_b2 ∧ h0.size ≤ b3_b2_b2 ∧ Exa Z h b3_b2_b2 "[Ljava/lang/Object;" ∧ zLstR Z h b3_b2_b2 "java/lang/Object" [(.ref b902), (.ref b903)]) := by
  obtain ⟨S_wd, A_wd, S_wl, E_wl, F_wl_elements, E_we, A_we, S_em, E_em, M_mo⟩ := C
  refine zenter (plainFor_of_name pn_15) (L0 := #[rv b900]) (H := ?_)
  intro p e s m below meth c T0 hx hZ hby hml hown0 hnm hret hlk X0 e0
  have hown : s.vm.findClass "java/util/ArrayList" = some m.cls := hown0
  have K0 := Keep.refl h0 []
  have N0 := Fr.nil n0
  show zEnds p e below s T0 (mkF m 0 #[rv b900] []) _ _ _
  refine zaloadN X0 hx hby d60_0 rfl rfl (zgetfld X0 hx hby d60_1 hZ hown (host := "") (Or.inl (w25 hw)) Via.refl e0 F_b900_elementData fun T1 X1 e1 => (zaloadN X1 hx hby d60_4 rfl rfl (zgetfld X1 hx hby d60_5 hZ hown (host := "") (Or.inl (w61 hw)) Via.refl e1 F_b900_size fun T2 X2 e2 => (zcalls X2 hx hby d60_8 hZ hown (w350 hw) (w351 hw) (w147 hw) (w352 hw) e2 (c54_copyOf l hw [] ⟨S_wd, A_wd, S_wl, E_wl, F_wl_elements, E_we, A_we, S_em, E_em, M_mo⟩ O0 (zsz O0) b901 b902 b903 g_b901 E_b901 A_b901 g_b902 E_b902 g_b903 E_b903) hml 0 pd_44 (argsL := [(.ref b901), (.int 2)]) (st := []) fun T3 h3 v3 L3 e3 X3 q3 => ?_))))
  obtain ⟨b3_b2_b2, rfl, N3q, K3q, g3_b3_b2_b2, y3_b3_b2_b2, E3_b3_b2_b2, A3_b3_b2_b2⟩ := q3
  have K3 := Keep.trans K0 K3q all0
  have z3_b3_b2_b2 : h0.size ≤ b3_b2_b2 := Nat.le_trans K0.1 y3_b3_b2_b2
  have N3 := Fr.app N0 N3q
  show zEnds p e below s T3 (mkF m 11 #[rv b900] [(.ref b3_b2_b2)]) _ _ _
  exact zretA X3 hx hby d60_11 hret hlk rfl rfl rfl (by decide) (by decide) (by rw [e3]; exact ⟨b3_b2_b2, rfl, N3, K3, g3_b3_b2_b2, z3_b3_b2_b2, E3_b3_b2_b2, A3_b3_b2_b2⟩)
theorem c62_init (l : Launch) {Z : State} {a0 : Array Value} (hw : HW a0 Z) (ws : List Jvm.Cond) {wd wl we em mo : Addr} {n0 : Nat} {h0 : Heap} (C : Ctx2 Z wd wl we em mo) (O0 : Old Z n0 h0) (Z0 : n0 ≤ h0.size) (b900 : Addr) (b901 : Addr) (b902 : Addr) (g_b900 : n0 ≤ b900) (E_b900 : Exa Z h0 b900 "java/util/ImmutableCollections$List12") (F_b900_e0 : Fld Z h0 b900 "java/util/ImmutableCollections$List12" "e0" "Ljava/lang/Object;" .null) (F_b900_e1 : Fld Z h0 b900 "java/util/ImmutableCollections$List12" "e1" "Ljava/lang/Object;" .null) (g_b901 : n0 ≤ b901) (E_b901 : Exa Z h0 b901 "java/lang/String") (g_b902 : n0 ≤ b902) (E_b902 : Exa Z h0 b902 "java/lang/String") : zCon l Z (⟨"java/util/ImmutableCollections$List12", "<init>", "(Ljava/lang/Object;Ljava/lang/Object;)V"⟩ : MethodName) jdk_44_method_2_code 3 none ws ({ frames := 4, cells := 0, slots := 0, locals := 48 } : Room) #[(.ref b900), (.ref b901), (.ref b902)] h0 (fun v h L => v = none ∧ Fr n0 L ∧ Keep h0 h [b900] ∧ Exa Z h b900 "java/util/ImmutableCollections$List12" ∧ Fld Z h b900 "java/util/ImmutableCollections$List12" "e0" "Ljava/lang/Object;" (.ref b901) ∧ Fld Z h b900 "java/util/ImmutableCollections$List12" "e1" "Ljava/lang/Object;" (.ref b902)) := by
  obtain ⟨S_wd, A_wd, S_wl, E_wl, F_wl_elements, E_we, A_we, S_em, E_em, M_mo⟩ := C
  refine zenter (plainFor_of_name pn_12) (L0 := #[rv b900, rv b901, rv b902]) (H := ?_)
  intro p e s m below meth c T0 hx hZ hby hml hown0 hnm hret hlk X0 e0
  have hown : s.vm.findClass "java/util/ImmutableCollections$List12" = some m.cls := hown0
  have K0 := Keep.refl h0 [b900]
  have N0 := Fr.nil n0
  show zEnds p e below s T0 (mkF m 0 #[rv b900, rv b901, rv b902] []) _ _ _
  refine zaloadN X0 hx hby d68_0 rfl rfl (zcallsp X0 hx hby d68_1 hZ hown rfl (w374 hw) (w375 hw) (w379 hw) (w378 hw) e0 (c35_init l hw [] ⟨S_wd, A_wd, S_wl, E_wl, F_wl_elements, E_we, A_we, S_em, E_em, M_mo⟩ O0 (zsz O0) b900 g_b900 E_b900 F_b900_e0 F_b900_e1) hml 0 pd_29 (argsL := []) (st := []) (zpureK ⟨rfl, rfl⟩ fun T1 X1 e1 => ?_))
  refine zaloadN X1 hx hby d68_4 rfl rfl (zaloadN X1 hx hby d68_5 rfl rfl (zcalls X1 hx hby d68_6 hZ hown (w388 hw) (w389 hw) (w390 hw) (w391 hw) e1 (c41_requireNonNull l hw [] ⟨S_wd, A_wd, S_wl, E_wl, F_wl_elements, E_we, A_we, S_em, E_em, M_mo⟩ O0 (zsz O0) b901 g_b901 E_b901) hml 1 pd_45 (argsL := [(.ref b901)]) (st := [(.ref b900)]) (zpureK ⟨rfl, rfl⟩ fun T2 X2 e2 => ?_)))
  refine zputfld X2 hx hby d68_9 hZ hown (host := "") (Or.inl (w392 hw)) Via.refl e2 F_b900_e0 E_b900 (Or.inr ⟨(w393 hw), rfl, hnm⟩) (w368 hw) (ty := (.object "java/lang/Object")) (by decide) rfl rfl fun T3 h3 X3 e3 W3 => ?_
  have F3_b900_e0 : Fld Z h3 b900 "java/util/ImmutableCollections$List12" "e0" "Ljava/lang/Object;" (.ref b901) := F_b900_e0.same W3
  have F3_b900_e1 := F_b900_e1.other W3 (Or.inr (slot_ne (Or.inr (w396 hw)) (Or.inr (w393 hw)) (by decide) (t := (.object "java/lang/Object")) (t' := (.object "java/lang/Object")) (by decide) (by decide)))
  have E3_b900 := E_b900.wr W3
  have E3_b902 := E_b902.wr W3
  have O3 := O0.wr W3 g_b900
  have K3 := Keep.wr K0 W3 (Or.inl (List.mem_of_getElem? (i := 0) rfl))
  have N3 := Fr.snoc X3 N0 g_b900
  refine zaloadN X3 hx hby d68_12 rfl rfl (zaloadN X3 hx hby d68_13 rfl rfl (zcalls X3 hx hby d68_14 hZ hown (w388 hw) (w389 hw) (w390 hw) (w391 hw) e3 (c41_requireNonNull l hw [] ⟨S_wd, A_wd, S_wl, E_wl, F_wl_elements, E_we, A_we, S_em, E_em, M_mo⟩ O3 (zsz O3) b902 g_b902 E3_b902) hml 1 pd_45 (argsL := [(.ref b902)]) (st := [(.ref b900)]) (zpureK ⟨rfl, rfl⟩ fun T4 X4 e4 => ?_)))
  refine zputfld X4 hx hby d68_17 hZ hown (host := "") (Or.inl (w395 hw)) Via.refl e4 F3_b900_e1 E3_b900 (Or.inr ⟨(w396 hw), rfl, hnm⟩) (w368 hw) (ty := (.object "java/lang/Object")) (by decide) rfl rfl fun T5 h5 X5 e5 W5 => ?_
  have F5_b900_e1 : Fld Z h5 b900 "java/util/ImmutableCollections$List12" "e1" "Ljava/lang/Object;" (.ref b902) := F3_b900_e1.same W5
  have F5_b900_e0 := F3_b900_e0.other W5 (Or.inr (slot_ne (Or.inr (w393 hw)) (Or.inr (w396 hw)) (by decide) (t := (.object "java/lang/Object")) (t' := (.object "java/lang/Object")) (by decide) (by decide)))
  have E5_b900 := E3_b900.wr W5
  have K5 := Keep.wr K3 W5 (Or.inl (List.mem_of_getElem? (i := 0) rfl))
  have N5 := Fr.snoc X5 N3 g_b900
  show zEnds p e below s T5 (mkF m 20 #[rv b900, rv b901, rv b902] []) _ _ _
  exact zretV X5 hx hby d68_20 hret hlk (by decide) (by decide) (by rw [e5]; exact ⟨rfl, N5, K5, E5_b900, F5_b900_e0, F5_b900_e1⟩)
theorem c61_of (l : Launch) {Z : State} {a0 : Array Value} (hw : HW a0 Z) (ws : List Jvm.Cond) {wd wl we em mo : Addr} {n0 : Nat} {h0 : Heap} (C : Ctx2 Z wd wl we em mo) (O0 : Old Z n0 h0) (Z0 : n0 ≤ h0.size) (b900 : Addr) (b901 : Addr) (b902 : Addr) (g_b900 : n0 ≤ b900) (E_b900 : Exa Z h0 b900 "[Ljava/lang/Object;") (A_b900 : zLstR Z h0 b900 "java/lang/Object" [(.ref b901), (.ref b902)]) (g_b901 : n0 ≤ b901) (E_b901 : Exa Z h0 b901 "java/lang/String") (g_b902 : n0 ≤ b902) (E_b902 : Exa Z h0 b902 "java/lang/String") : zCon l Z (⟨"java/util/List", "of", "([Ljava/lang/Object;)Ljava/util/List;"⟩ : MethodName) jdk_40_method_47_code 2 (some (.object "java/util/List")) ws ({ frames := 5, cells := 1, slots := 2, locals := 63 } : Room) #[(.ref b900)] h0 (fun v h L => ∃ b1 : Addr, v = some (.ref b1) ∧ Fr n0 L ∧ Keep h0 h [] ∧ n0 ≤ b1 ∧ h0.size ≤ b1 ∧ Exa Z h b1 "java/util/ImmutableCollections$List12" ∧ Fld Z h b1 "java/util/ImmutableCollections$List12" "e0" "Ljava/lang/Object;" (.ref b901) ∧ Fld Z h b1 "java/util/ImmutableCollections$List12" "e1" "Ljava/lang/Object;" (.ref b902)) := by
  obtain ⟨S_wd, A_wd, S_wl, E_wl, F_wl_elements, E_we, A_we, S_em, E_em, M_mo⟩ := C
  refine zenter (plainFor_of_name pn_9) (L0 := #[rv b900, .unset]) (H := ?_)
  intro p e s m below meth c T0 hx hZ hby hml hown0 hnm hret hlk X0 e0
  have hown : s.vm.findClass "java/util/List" = some m.cls := hown0
  have K0 := Keep.refl h0 []
  have N0 := Fr.nil n0
  show zEnds p e below s T0 (mkF m 0 #[rv b900, .unset] []) _ _ _
  refine zaloadN X0 hx hby d63_0 rfl rfl (zalenL X0 hx hby d63_1 hZ e0 A_b900.lst (2 : Int32) rfl (ztswIn X0 hx hby d63_2 45 (by decide) rfl (by decide) (by decide) (znewobj X0 hx hby d63_45 hZ hown (w367 hw) (w368 hw) (w369 hw) e0 (by decide) (by decide) fun T1 h1 b1 X1 e1 y1 Ex1 E1_b1 D1 => ?_)))
  have A1_b900 := A_b900.ext Ex1
  have E1_b901 := E_b901.ext Ex1
  have E1_b902 := E_b902.ext Ex1
  have O1 := O0.ext Ex1
  have K1 := Keep.ext K0 Ex1
  have g1 : n0 ≤ b1 := by rw [y1]; exact zsz O0
  have z1 : h0.size ≤ b1 := by rw [y1]; exact K0.1
  have F1_b1_e0 : Fld Z h1 b1 "java/util/ImmutableCollections$List12" "e0" "Ljava/lang/Object;" .null := D1 (Or.inr (w393 hw)) (ty := (.object "java/lang/Object")) (by decide)
  have F1_b1_e1 : Fld Z h1 b1 "java/util/ImmutableCollections$List12" "e1" "Ljava/lang/Object;" .null := D1 (Or.inr (w396 hw)) (ty := (.object "java/lang/Object")) (by decide)
  refine zdup X1 hx hby d63_48 rfl (zaloadN X1 hx hby d63_49 rfl rfl (ziconst X1 hx hby d63_50 (z := (0 : Int32)) rfl (zaaload X1 hx hby d63_51 hZ e1 rfl A1_b900.lst (by decide) (v := (.ref b901)) rfl (zaloadN X1 hx hby d63_52 rfl rfl (ziconst X1 hx hby d63_53 (z := (1 : Int32)) rfl (zaaload X1 hx hby d63_54 hZ e1 rfl A1_b900.lst (by decide) (v := (.ref b902)) rfl (zcallsp X1 hx hby d63_55 hZ hown rfl (w420 hw) (w421 hw) (w422 hw) (w369 hw) e1 (c62_init l hw [] ⟨S_wd, A_wd, S_wl, E_wl, F_wl_elements, E_we, A_we, S_em, E_em, M_mo⟩ O1 (zsz O1) b1 b901 b902 g1 E1_b1 F1_b1_e0 F1_b1_e1 g_b901 E1_b901 g_b902 E1_b902) hml 1 pd_48 (argsL := [(.ref b901), (.ref b902)]) (st := [(.ref b1)]) fun T2 h2 v2 L2 e2 X2 q2 => ?_)))))))
  obtain ⟨rfl, N2q, K2q, E2_b1, F2_b1_e0, F2_b1_e1⟩ := q2
  have K2 := Keep.trans K1 K2q (allS (Or.inr z1) all0)
  have N2 := Fr.app N0 N2q
  show zEnds p e below s T2 (mkF m 58 #[rv b900, .unset] [(.ref b1)]) _ _ _
  exact zretA X2 hx hby d63_58 hret hlk rfl rfl rfl (by decide) (by decide) (by rw [e2]; exact ⟨b1, rfl, N2, K2, g1, z1, E2_b1, F2_b1_e0, F2_b1_e1⟩)
theorem c50_listCopy (l : Launch) {Z : State} {a0 : Array Value} (hw : HW a0 Z) (ws : List Jvm.Cond) {wd wl we em mo : Addr} {n0 : Nat} {h0 : Heap} (C : Ctx2 Z wd wl we em mo) (O0 : Old Z n0 h0) (Z0 : n0 ≤ h0.size) (b900 : Addr) (b901 : Addr) (b902 : Addr) (b903 : Addr) (g_b900 : n0 ≤ b900) (E_b900 : Exa Z h0 b900 "java/util/ArrayList") (F_b900_modCount : Fld Z h0 b900 "java/util/AbstractList" "modCount" "I" (.int 2)) (F_b900_elementData : Fld Z h0 b900 "java/util/ArrayList" "elementData" "[Ljava/lang/Object;" (.ref b901)) (F_b900_size : Fld Z h0 b900 "java/util/ArrayList" "size" "I" (.int 2)) (g_b901 : n0 ≤ b901) (E_b901 : Exa Z h0 b901 "[Ljava/lang/Object;") (A_b901 : zLstR Z h0 b901 "java/lang/Object" [(.ref b902), (.ref b903), .null, .null, .null, .null, .null, .null, .null, .null]) (g_b902 : n0 ≤ b902) (E_b902 : Exa Z h0 b902 "java/lang/String") (g_b903 : n0 ≤ b903) (E_b903 : Exa Z h0 b903 "java/lang/String") : zCon l Z (⟨"java/util/ImmutableCollections", "listCopy", "(Ljava/util/Collection;)Ljava/util/List;"⟩ : MethodName) jdk_56_method_3_code 2 (some (.object "java/util/List")) ws ({ frames := 7, cells := 3, slots := 8, locals := 90 } : Room) #[(.ref b900)] h0 (fun v h L => ∃ b4_b3_b2_b2 b5_b1 : Addr, v = some (.ref b5_b1) ∧ Fr n0 L ∧ Keep h0 h [] ∧ n0 ≤ b4_b3_b2_b2 ∧ h0.size ≤ b4_b3_b2_b2 ∧ Exa Z h b4_b3_b2_b2 "[Ljava/lang/Object;" ∧ zLstR Z h b4_b3_b2_b2 "java/lang/Object" [(.ref b902), (.ref b903)] ∧ n0 ≤ b5_b1 ∧ h0.size ≤ b5_b1 ∧ Exa Z h b5_b1 "java/util/ImmutableCollections$List12" ∧ Fld Z h b5_b1 "java/util/ImmutableCollections$List12" "e0" "Ljava/lang/Object;" (.ref b902) ∧ Fld Z h b5_b1 "java/util/ImmutableCollections$List12" "e1" "Ljava/lang/Object;" (.ref b903)) := by
  obtain ⟨S_wd, A_wd, S_wl, E_wl, F_wl_elements, E_we, A_we, S_em, E_em, M_mo⟩ := C
  refine zenter (plainFor_of_name pn_16) (L0 := #[rv b900, .unset]) (H := ?_)
  intro p e s m below meth c T0 hx hZ hby hml hown0 hnm hret hlk X0 e0
  have hown : s.vm.findClass "java/util/ImmutableCollections" = some m.cls := hown0
  have K0 := Keep.refl h0 []
  have N0 := Fr.nil n0
  show zEnds p e below s T0 (mkF m 0 #[rv b900, .unset] []) _ _ _
  refine zaloadN X0 hx hby d53_0 rfl rfl (zinstNo X0 hx hby d53_1 hZ hown (w46 hw) e0 E_b900 (w368 hw) (chainAL hw) (by decide) fun T1 X1 e1 => (zifNo X1 hx hby d53_4 (by decide) (zaloadN X1 hx hby d53_7 rfl rfl (zinstNo X1 hx hby d53_8 hZ hown (w51 hw) e1 E_b900 (w409 hw) (chainAL hw) (by decide) fun T2 X2 e2 => (zifYes X2 hx hby d53_11 31 (by decide) (by decide) (by decide) (zaloadN X2 hx hby d53_31 rfl rfl (zcalli X2 hx hby d53_32 hZ hown (w52 hw) (w53 hw) (w54 hw) (w55 hw) (w56 hw) (w57 hw) (w58 hw) (w59 hw) (w60 hw) (w3 hw) e2 E_b900 (c51_isEmpty l hw [] ⟨S_wd, A_wd, S_wl, E_wl, F_wl_elements, E_we, A_we, S_em, E_em, M_mo⟩ O0 (zsz O0) b900 b901 b902 b903 g_b900 E_b900 F_b900_modCount F_b900_elementData F_b900_size g_b901 E_b901 A_b901 g_b902 E_b902 g_b903 E_b903) hml 0 pd_12 (argsL := []) (st := []) (zpureK ⟨rfl, rfl⟩ fun T3 X3 e3 => ?_))))))))
  refine zifYes X3 hx hby d53_37 44 (by decide) (by decide) (by decide) (zaloadN X3 hx hby d53_44 rfl rfl (zcalli X3 hx hby d53_45 hZ hown (w342 hw) (w343 hw) (w344 hw) (w345 hw) (w346 hw) (w347 hw) (w348 hw) (w59 hw) (w349 hw) (w3 hw) e3 E_b900 (c53_toArray l hw [] ⟨S_wd, A_wd, S_wl, E_wl, F_wl_elements, E_we, A_we, S_em, E_em, M_mo⟩ O0 (zsz O0) b900 b901 b902 b903 g_b900 E_b900 F_b900_modCount F_b900_elementData F_b900_size g_b901 E_b901 A_b901 g_b902 E_b902 g_b903 E_b903) hml 0 pd_40 (argsL := []) (st := []) fun T4 h4 v4 L4 e4 X4 q4 => ?_))
  obtain ⟨b4_b3_b2_b2, rfl, N4q, K4q, g4_b4_b3_b2_b2, y4_b4_b3_b2_b2, E4_b4_b3_b2_b2, A4_b4_b3_b2_b2⟩ := q4
  have E4_b902 := E_b902.keep K4q
  have E4_b903 := E_b903.keep K4q
  have O4 := O0.keep K4q all0
  have K4 := Keep.trans K0 K4q all0
  have z4_b4_b3_b2_b2 : h0.size ≤ b4_b3_b2_b2 := Nat.le_trans K0.1 y4_b4_b3_b2_b2
  have N4 := Fr.app N0 N4q
  refine zcalls X4 hx hby d53_50 hZ hown (w364 hw) (w365 hw) (w40 hw) (w366 hw) e4 (c61_of l hw [] ⟨S_wd, A_wd, S_wl, E_wl, F_wl_elements, E_we, A_we, S_em, E_em, M_mo⟩ O4 (zsz O4) b4_b3_b2_b2 b902 b903 g4_b4_b3_b2_b2 E4_b4_b3_b2_b2 A4_b4_b3_b2_b2 g_b902 E4_b902 g_b903 E4_b903) hml 0 pd_47 (argsL := [(.ref b4_b3_b2_b2)]) (st := []) fun T5 h5 v5 L5 e5 X5 q5 => ?_
  obtain ⟨b5_b1, rfl, N5q, K5q, g5_b5_b1, y5_b5_b1, E5_b5_b1, F5_b5_b1_e0, F5_b5_b1_e1⟩ := q5
  have E5_b4_b3_b2_b2 := E4_b4_b3_b2_b2.keep K5q
  have A5_b4_b3_b2_b2 := A4_b4_b3_b2_b2.keep K5q nin0
  have K5 := Keep.trans K4 K5q all0
  have z5_b5_b1 : h0.size ≤ b5_b1 := Nat.le_trans K4.1 y5_b5_b1
  have N5 := Fr.app N4 N5q
  show zEnds p e below s T5 (mkF m 53 #[rv b900, .unset] [(.ref b5_b1)]) _ _ _
  exact zretA X5 hx hby d53_53 hret hlk rfl rfl rfl (by decide) (by decide) (by rw [e5]; exact ⟨b4_b3_b2_b2, b5_b1, rfl, N5, K5, g4_b4_b3_b2_b2, z4_b4_b3_b2_b2, E5_b4_b3_b2_b2, A5_b4_b3_b2_b2, g5_b5_b1, z5_b5_b1, E5_b5_b1, F5_b5_b1_e0, F5_b5_b1_e1⟩)
theorem c67_add (l : Launch) {Z : State} {a0 : Array Value} (hw : HW a0 Z) (ws : List Jvm.Cond) {wd wl we em mo : Addr} {n0 : Nat} {h0 : Heap} (C : Ctx2 Z wd wl we em mo) (O0 : Old Z n0 h0) (Z0 : n0 ≤ h0.size) (b900 : Addr) (b901 : Addr) (b902 : Addr) (b903 : Addr) (b904 : Addr) (g_b900 : n0 ≤ b900) (E_b900 : Exa Z h0 b900 "java/util/ArrayList") (F_b900_modCount : Fld Z h0 b900 "java/util/AbstractList" "modCount" "I" (.int 3)) (F_b900_elementData : Fld Z h0 b900 "java/util/ArrayList" "elementData" "[Ljava/lang/Object;" (.ref b902)) (F_b900_size : Fld Z h0 b900 "java/util/ArrayList" "size" "I" (.int 2)) (g_b901 : n0 ≤ b901) (E_b901 : Exa Z h0 b901 "java/lang/String") (g_b902 : n0 ≤ b902) (E_b902 : Exa Z h0 b902 "[Ljava/lang/Object;") (A_b902 : zLstR Z h0 b902 "java/lang/Object" [(.ref b903), (.ref b904), .null, .null, .null, .null, .null, .null, .null, .null]) (g_b903 : n0 ≤ b903) (E_b903 : Exa Z h0 b903 "java/lang/String") (g_b904 : n0 ≤ b904) (E_b904 : Exa Z h0 b904 "java/lang/String") : zCon l Z (⟨"java/util/ArrayList", "add", "(Ljava/lang/Object;[Ljava/lang/Object;I)V"⟩ : MethodName) jdk_38_method_24_code 4 none ws ({ frames := 0, cells := 0, slots := 0, locals := 0 } : Room) #[(.ref b900), (.ref b901), (.ref b902), (.int 2)] h0 (fun v h L => v = none ∧ Fr n0 L ∧ Keep h0 h [b902, b900] ∧ Exa Z h b900 "java/util/ArrayList" ∧ Fld Z h b900 "java/util/AbstractList" "modCount" "I" (.int 3) ∧ Fld Z h b900 "java/util/ArrayList" "elementData" "[Ljava/lang/Object;" (.ref b902) ∧ Fld Z h b900 "java/util/ArrayList" "size" "I" (.int 3) ∧ Exa Z h b902 "[Ljava/lang/Object;" ∧ zLstR Z h b902 "java/lang/Object" [(.ref b903), (.ref b904), (.ref b901), .null, .null, .null, .null, .null, .null, .null]) := by
  obtain ⟨S_wd, A_wd, S_wl, E_wl, F_wl_elements, E_we, A_we, S_em, E_em, M_mo⟩ := C
  refine zenter (plainFor_of_name pn_15) (L0 := #[rv b900, rv b901, rv b902, iv 2]) (H := ?_)
  intro p e s m below meth c T0 hx hZ hby hml hown0 hnm hret hlk X0 e0
  have hown : s.vm.findClass "java/util/ArrayList" = some m.cls := hown0
  have K0 := Keep.refl h0 [b902, b900]
  have N0 := Fr.nil n0
  show zEnds p e below s T0 (mkF m 0 #[rv b900, rv b901, rv b902, iv 2] []) _ _ _
  refine ziloadN X0 hx hby d57_0 rfl (zaloadN X0 hx hby d57_1 rfl rfl (zalenL X0 hx hby d57_2 hZ e0 A_b902.lst (10 : Int32) rfl (zicmpYes X0 hx hby d57_3 11 (by decide) (by decide) (by decide) (zaloadN X0 hx hby d57_11 rfl rfl (ziloadN X0 hx hby d57_12 rfl (zaloadN X0 hx hby d57_13 rfl rfl (zaastore X0 hx hby d57_14 hZ e0 A_b902 (by decide) (by show Int32.toNatClampNeg 2 < 10; decide) (Ins.of_exa E_b901 (w341 hw)) fun T1 h1 X1 e1 W1 A1_b902 => ?_)))))))
  change zLstR Z h1 b902 "java/lang/Object" [(.ref b903), (.ref b904), (.ref b901), .null, .null, .null, .null, .null, .null, .null] at A1_b902
  have F1_b900_modCount := F_b900_modCount.other W1 (Or.inl (Exa.ne E_b900 E_b902 (by decide)))
  have F1_b900_elementData := F_b900_elementData.other W1 (Or.inl (Exa.ne E_b900 E_b902 (by decide)))
  have F1_b900_size := F_b900_size.other W1 (Or.inl (Exa.ne E_b900 E_b902 (by decide)))
  have E1_b900 := E_b900.wr W1
  have E1_b902 := E_b902.wr W1
  have K1 := Keep.wr K0 W1 (Or.inl (List.mem_of_getElem? (i := 0) rfl))
  have N1 := Fr.snoc X1 N0 g_b902
  refine zaloadN X1 hx hby d57_15 rfl rfl (ziloadN X1 hx hby d57_16 rfl (ziconst X1 hx hby d57_17 (z := (1 : Int32)) rfl (ziadd X1 hx hby d57_18 (3 : Int32) (by decide) (zputfld X1 hx hby d57_19 hZ hown (host := "") (Or.inl (w61 hw)) Via.refl e1 F1_b900_size E1_b900 (Or.inl (w62 hw)) (w2 hw) (ty := .int) (by decide) rfl rfl fun T2 h2 X2 e2 W2 => ?_))))
  have F2_b900_size : Fld Z h2 b900 "java/util/ArrayList" "size" "I" (.int 3) := F1_b900_size.same W2
  have F2_b900_modCount := F1_b900_modCount.other W2 (Or.inr (slot_ne (Or.inl (w23 hw)) (Or.inl (w62 hw)) (by decide) (t := .int) (t' := .int) (by decide) (by decide)))
  have F2_b900_elementData := F1_b900_elementData.other W2 (Or.inr (slot_ne (Or.inl (w26 hw)) (Or.inl (w62 hw)) (by decide) (t := (.array (.object "java/lang/Object"))) (t' := .int) (by decide) (by decide)))
  have E2_b900 := E1_b900.wr W2
  have E2_b902 := E1_b902.wr W2
  have A2_b902 := A1_b902.other W2 (Exa.ne E2_b902 E2_b900 (by decide))
  have K2 := Keep.wr K1 W2 (Or.inl (List.mem_of_getElem? (i := 1) rfl))
  have N2 := Fr.snoc X2 N1 g_b900
  show zEnds p e below s T2 (mkF m 22 #[rv b900, rv b901, rv b902, iv 2] []) _ _ _
  exact zretV X2 hx hby d57_22 hret hlk (by decide) (by decide) (by rw [e2]; exact ⟨rfl, N2, K2, E2_b900, F2_b900_modCount, F2_b900_elementData, F2_b900_size, E2_b902, A2_b902⟩)
theorem c66_add (l : Launch) {Z : State} {a0 : Array Value} (hw : HW a0 Z) (ws : List Jvm.Cond) {wd wl we em mo : Addr} {n0 : Nat} {h0 : Heap} (C : Ctx2 Z wd wl we em mo) (O0 : Old Z n0 h0) (Z0 : n0 ≤ h0.size) (b900 : Addr) (b901 : Addr) (b902 : Addr) (b903 : Addr) (b904 : Addr) (g_b900 : n0 ≤ b900) (E_b900 : Exa Z h0 b900 "java/util/ArrayList") (F_b900_modCount : Fld Z h0 b900 "java/util/AbstractList" "modCount" "I" (.int 2)) (F_b900_elementData : Fld Z h0 b900 "java/util/ArrayList" "elementData" "[Ljava/lang/Object;" (.ref b902)) (F_b900_size : Fld Z h0 b900 "java/util/ArrayList" "size" "I" (.int 2)) (g_b901 : n0 ≤ b901) (E_b901 : Exa Z h0 b901 "java/lang/String") (g_b902 : n0 ≤ b902) (E_b902 : Exa Z h0 b902 "[Ljava/lang/Object;") (A_b902 : zLstR Z h0 b902 "java/lang/Object" [(.ref b903), (.ref b904), .null, .null, .null, .null, .null, .null, .null, .null]) (g_b903 : n0 ≤ b903) (E_b903 : Exa Z h0 b903 "java/lang/String") (g_b904 : n0 ≤ b904) (E_b904 : Exa Z h0 b904 "java/lang/String") : zCon l Z (⟨"java/util/ArrayList", "add", "(Ljava/lang/Object;)Z"⟩ : MethodName) jdk_38_method_25_code 2 (some .boolean) ws ({ frames := 1, cells := 0, slots := 0, locals := 15 } : Room) #[(.ref b900), (.ref b901)] h0 (fun v h L => v = some (.int 1) ∧ Fr n0 L ∧ Keep h0 h [b900, b902] ∧ Exa Z h b900 "java/util/ArrayList" ∧ Fld Z h b900 "java/util/AbstractList" "modCount" "I" (.int 3) ∧ Fld Z h b900 "java/util/ArrayList" "elementData" "[Ljava/lang/Object;" (.ref b902) ∧ Fld Z h b900 "java/util/ArrayList" "size" "I" (.int 3) ∧ Exa Z h b902 "[Ljava/lang/Object;" ∧ zLstR Z h b902 "java/lang/Object" [(.ref b903), (.ref b904), (.ref b901), .null, .null, .null, .null, .null, .null, .null]) := by
  obtain ⟨S_wd, A_wd, S_wl, E_wl, F_wl_elements, E_we, A_we, S_em, E_em, M_mo⟩ := C
  refine zenter (plainFor_of_name pn_15) (L0 := #[rv b900, rv b901]) (H := ?_)
  intro p e s m below meth c T0 hx hZ hby hml hown0 hnm hret hlk X0 e0
  have hown : s.vm.findClass "java/util/ArrayList" = some m.cls := hown0
  have K0 := Keep.refl h0 [b900, b902]
  have N0 := Fr.nil n0
  show zEnds p e below s T0 (mkF m 0 #[rv b900, rv b901] []) _ _ _
  refine zaloadN X0 hx hby d56_0 rfl rfl (zdup X0 hx hby d56_1 rfl (zgetfld X0 hx hby d56_2 hZ hown (host := "") (Or.inl (w321 hw)) (Via.of (w322 hw)) e0 F_b900_modCount fun T1 X1 e1 => (ziconst X1 hx hby d56_5 (z := (1 : Int32)) rfl (ziadd X1 hx hby d56_6 (3 : Int32) (by decide) (zputfld X1 hx hby d56_7 hZ hown (host := "") (Or.inl (w321 hw)) (Via.of (w322 hw)) e1 F_b900_modCount E_b900 (Or.inl (w23 hw)) (w2 hw) (ty := .int) (by decide) rfl rfl fun T2 h2 X2 e2 W2 => ?_)))))
  have F2_b900_modCount : Fld Z h2 b900 "java/util/AbstractList" "modCount" "I" (.int 3) := F_b900_modCount.same W2
  have F2_b900_elementData := F_b900_elementData.other W2 (Or.inr (slot_ne (Or.inl (w26 hw)) (Or.inl (w23 hw)) (by decide) (t := (.array (.object "java/lang/Object"))) (t' := .int) (by decide) (by decide)))
  have F2_b900_size := F_b900_size.other W2 (Or.inr (slot_ne (Or.inl (w62 hw)) (Or.inl (w23 hw)) (by decide) (t := .int) (t' := .int) (by decide) (by decide)))
  have E2_b900 := E_b900.wr W2
  have E2_b901 := E_b901.wr W2
  have E2_b902 := E_b902.wr W2
  have A2_b902 := A_b902.other W2 (Exa.ne E2_b902 E2_b900 (by decide))
  have E2_b903 := E_b903.wr W2
  have E2_b904 := E_b904.wr W2
  have O2 := O0.wr W2 g_b900
  have K2 := Keep.wr K0 W2 (Or.inl (List.mem_of_getElem? (i := 0) rfl))
  have N2 := Fr.snoc X2 N0 g_b900
  refine zaloadN X2 hx hby d56_10 rfl rfl (zaloadN X2 hx hby d56_11 rfl rfl (zaloadN X2 hx hby d56_12 rfl rfl (zgetfld X2 hx hby d56_13 hZ hown (host := "") (Or.inl (w25 hw)) Via.refl e2 F2_b900_elementData fun T3 X3 e3 => (zaloadN X3 hx hby d56_16 rfl rfl (zgetfld X3 hx hby d56_17 hZ hown (host := "") (Or.inl (w61 hw)) Via.refl e3 F2_b900_size fun T4 X4 e4 => (zcallv X4 hx hby d56_20 hZ hown (w323 hw) (zdecl_of (w324 hw) (w327 hw)) (notFace_of_selects (args := #[]) (mvT hZ (w326 hw))) (w326 hw) (w324 hw) (w327 hw) (w3 hw) e4 E2_b900 (c67_add l hw [] ⟨S_wd, A_wd, S_wl, E_wl, F_wl_elements, E_we, A_we, S_em, E_em, M_mo⟩ O2 (zsz O2) b900 b901 b902 b903 b904 g_b900 E2_b900 F2_b900_modCount F2_b900_elementData F2_b900_size g_b901 E2_b901 g_b902 E2_b902 A2_b902 g_b903 E2_b903 g_b904 E2_b904) hml 0 pd_41 (argsL := [(.ref b901), (.ref b902), (.int 2)]) (st := []) fun T5 h5 v5 L5 e5 X5 q5 => ?_))))))
  obtain ⟨rfl, N5q, K5q, E5_b900, F5_b900_modCount, F5_b900_elementData, F5_b900_size, E5_b902, A5_b902⟩ := q5
  have K5 := Keep.trans K2 K5q (allS (Or.inl (List.mem_of_getElem? (i := 1) rfl)) (allS (Or.inl (List.mem_of_getElem? (i := 0) rfl)) all0))
  have N5 := Fr.app N2 N5q
  show zEnds p e below s T5 (mkF m 23 #[rv b900, rv b901] []) _ _ _
  refine ziconst X5 hx hby d56_23 (z := (1 : Int32)) rfl ?_
  show zEnds p e below s T5 (mkF m 24 #[rv b900, rv b901] [(.int 1)]) _ _ _
  exact zretZ X5 hx hby d56_24 hret hlk (by simp) rfl (by decide) (by decide) (by rw [e5]; exact ⟨rfl, N5, K5, E5_b900, F5_b900_modCount, F5_b900_elementData, F5_b900_size, E5_b902, A5_b902⟩)
theorem c71_isEmpty (l : Launch) {Z : State} {a0 : Array Value} (hw : HW a0 Z) (ws : List Jvm.Cond) {wd wl we em mo : Addr} {n0 : Nat} {h0 : Heap} (C : Ctx2 Z wd wl we em mo) (O0 : Old Z n0 h0) (Z0 : n0 ≤ h0.size) (b900 : Addr) (b901 : Addr) (b902 : Addr) (b903 : Addr) (b904 : Addr) (g_b900 : n0 ≤ b900) (E_b900 : Exa Z h0 b900 "java/util/ArrayList") (F_b900_modCount : Fld Z h0 b900 "java/util/AbstractList" "modCount" "I" (.int 3)) (F_b900_elementData : Fld Z h0 b900 "java/util/ArrayList" "elementData" "[Ljava/lang/Object;" (.ref b901)) (F_b900_size : Fld Z h0 b900 "java/util/ArrayList" "size" "I" (.int 3)) (g_b901 : n0 ≤ b901) (E_b901 : Exa Z h0 b901 "[Ljava/lang/Object;") (A_b901 : zLstR Z h0 b901 "java/lang/Object" [(.ref b902), (.ref b903), (.ref b904), .null, .null, .null, .null, .null, .null, .null]) (g_b902 : n0 ≤ b902) (E_b902 : Exa Z h0 b902 "java/lang/String") (g_b903 : n0 ≤ b903) (E_b903 : Exa Z h0 b903 "java/lang/String") (g_b904 : n0 ≤ b904) (E_b904 : Exa Z h0 b904 "java/lang/String") : zCon l Z (⟨"java/util/ArrayList", "isEmpty", "()Z"⟩ : MethodName) jdk_38_method_9_code 1 (some .boolean) ws ({ frames := 0, cells := 0, slots := 0, locals := 0 } : Room) #[(.ref b900)] h0 (zSame (some (.int 0)) h0) := by
  obtain ⟨S_wd, A_wd, S_wl, E_wl, F_wl_elements, E_we, A_we, S_em, E_em, M_mo⟩ := C
  refine zenter (plainFor_of_name pn_15) (L0 := #[rv b900]) (H := ?_)
  intro p e s m below meth c T0 hx hZ hby hml hown0 hnm hret hlk X0 e0
  have hown : s.vm.findClass "java/util/ArrayList" = some m.cls := hown0
  show zEnds p e below s T0 (mkF m 0 #[rv b900] []) _ _ _
  refine zaloadN X0 hx hby d54_0 rfl rfl (zgetfld X0 hx hby d54_1 hZ hown (host := "") (Or.inl (w61 hw)) Via.refl e0 F_b900_size fun T1 X1 e1 => (zifYes X1 hx hby d54_4 11 (by decide) (by decide) (by decide) (ziconst X1 hx hby d54_11 (z := (0 : Int32)) rfl ?_)))
  show zEnds p e below s T1 (mkF m 12 #[rv b900] [(.int 0)]) _ _ _
  exact zretZ X1 hx hby d54_12 hret hlk (by simp) rfl (by decide) (by decide) ⟨rfl, e1, rfl⟩
theorem c76_min (l : Launch) {Z : State} {a0 : Array Value} (hw : HW a0 Z) (ws : List Jvm.Cond) {wd wl we em mo : Addr} {n0 : Nat} {h0 : Heap} (C : Ctx2 Z wd wl we em mo) (O0 : Old Z n0 h0) (Z0 : n0 ≤ h0.size)  : zCon l Z (⟨"java/lang/Math", "min", "(II)I"⟩ : MethodName) jdk_29_method_69_code 2 (some .int) ws ({ frames := 0, cells := 0, slots := 0, locals := 0 } : Room) #[(.int 10), (.int 3)] h0 (zSame (some (.int 3)) h0) := by
  obtain ⟨S_wd, A_wd, S_wl, E_wl, F_wl_elements, E_we, A_we, S_em, E_em, M_mo⟩ := C
  refine zenter (Jvm.Free.JP.mathPlain rfl (by decide +kernel)) (L0 := #[iv 10, iv 3]) (H := ?_)
  intro p e s m below meth c T0 hx hZ hby hml hown0 hnm hret hlk X0 e0
  have hown : s.vm.findClass "java/lang/Math" = some m.cls := hown0
  show zEnds p e below s T0 (mkF m 0 #[iv 10, iv 3] []) _ _ _
  refine ziloadN X0 hx hby d7_0 rfl (ziloadN X0 hx hby d7_1 rfl (zicmpYes X0 hx hby d7_2 9 (by decide) (by decide) (by decide) (ziloadN X0 hx hby d7_9 rfl ?_)))
  show zEnds p e below s T0 (mkF m 10 #[iv 10, iv 3] [(.int 3)]) _ _ _
  exact zretI X0 hx hby d7_10 hret hlk (by decide) (by decide) ⟨rfl, e0, rfl⟩
theorem c75_copyOf (l : Launch) {Z : State} {a0 : Array Value} (hw : HW a0 Z) (ws : List Jvm.Cond) {wd wl we em mo : Addr} {n0 : Nat} {h0 : Heap} (C : Ctx2 Z wd wl we em mo) (O0 : Old Z n0 h0) (Z0 : n0 ≤ h0.size) (b900 : Addr) (b901 : Addr) (b902 : Addr) (b903 : Addr) (g_b900 : n0 ≤ b900) (E_b900 : Exa Z h0 b900 "[Ljava/lang/Object;") (A_b900 : zLstR Z h0 b900 "java/lang/Object" [(.ref b901), (.ref b902), (.ref b903), .null, .null, .null, .null, .null, .null, .null]) (g_b901 : n0 ≤ b901) (E_b901 : Exa Z h0 b901 "java/lang/String") (g_b902 : n0 ≤ b902) (E_b902 : Exa Z h0 b902 "java/lang/String") (g_b903 : n0 ≤ b903) (E_b903 : Exa Z h0 b903 "java/lang/String") : zCon l Z (⟨"java/util/Arrays", "copyOf", "([Ljava/lang/Object;ILjava/lang/Class;)[Ljava/lang/Object;"⟩ : MethodName) jdk_65_method_120_code 4 (some (.array (.object "java/lang/Object"))) ws ({ frames := 1, cells := 1, slots := 3, locals := 29 } : Room) #[(.ref b900), (.int 3), (.ref mo)] h0 (fun v h L => ∃ b2 : Addr, v = some (.ref b2) ∧ Fr n0 L ∧ Keep h0 h [] ∧ n0 ≤ b2 ∧ h0.size ≤ b2 ∧ Exa Z h b2 "[Ljava/lang/Object;" ∧ zLstR Z h b2 "java/lang/Object" [(.ref b901), (.ref b902), (.ref b903)]) := by
  obtain ⟨S_wd, A_wd, S_wl, E_wl, F_wl_elements, E_we, A_we, S_em, E_em, M_mo⟩ := C
  refine zenter (plainFor_of_name pn_4) (L0 := #[rv b900, iv 3, rv mo, .unset]) (H := ?_)
  intro p e s m below meth c T0 hx hZ hby hml hown0 hnm hret hlk X0 e0
  have hown : s.vm.findClass "java/util/Arrays" = some m.cls := hown0
  have K0 := Keep.refl h0 []
  have N0 := Fr.nil n0
  show zEnds p e below s T0 (mkF m 0 #[rv b900, iv 3, rv mo, .unset] []) _ _ _
  refine zaloadN X0 hx hby d62_0 rfl rfl (zldcCls X0 hx hby d62_1 hZ hown (w362 hw) e0 M_mo fun T1 X1 e1 => (zacmp X1 hx hby d62_3 6 true rfl rfl (decide_eq_true rfl) (by decide) (by decide) (ziloadN X1 hx hby d62_6 rfl (znewref3 X1 hx hby d62_7 hZ hown (w363 hw) (w340 hw) e1 (by decide) 3 (by decide) (by decide) (by decide) (by decide) (D := "[Ljava/lang/Object;") (by decide) fun T2 h2 b2 X2 e2 y2 Ex2 E2_b2 A2_b2 => ?_))))
  change zLstR Z h2 b2 "java/lang/Object" [.null, .null, .null] at A2_b2
  have A2_b900 := A_b900.ext Ex2
  have E2_b901 := E_b901.ext Ex2
  have E2_b902 := E_b902.ext Ex2
  have E2_b903 := E_b903.ext Ex2
  have O2 := O0.ext Ex2
  have K2 := Keep.ext K0 Ex2
  have g2 : n0 ≤ b2 := by rw [y2]; exact zsz O0
  have z2 : h0.size ≤ b2 := by rw [y2]; exact K0.1
  refine zgoto X2 hx hby d62_10 24 (by decide) (by decide) (zastoreN X2 hx hby d62_24 (hv := rfl) (L' := #[rv b900, iv 3, rv mo, rv b2]) rfl (zaloadN X2 hx hby d62_25 rfl rfl (ziconst X2 hx hby d62_26 (z := (0 : Int32)) rfl (zaloadN X2 hx hby d62_27 rfl rfl (ziconst X2 hx hby d62_28 (z := (0 : Int32)) rfl (zaloadN X2 hx hby d62_29 rfl rfl (zalenL X2 hx hby d62_30 hZ e2 A2_b900.lst (10 : Int32) rfl (ziloadN X2 hx hby d62_31 rfl (zcalls X2 hx hby d62_32 hZ hown (w149 hw) (w150 hw) (w141 hw) (w151 hw) e2 (c76_min l hw [] ⟨S_wd, A_wd, S_wl, E_wl, F_wl_elements, E_we, A_we, S_em, E_em, M_mo⟩ O2 (zsz O2) ) hml 4 pd_2 (argsL := [(.int 10), (.int 3)]) (st := [(.int 0), (.ref b2), (.int 0), (.ref b900)]) (zpureK ⟨rfl, rfl⟩ fun T3 X3 e3 => ?_))))))))))
  show zEnds p e below s T3 (mkF m 35 #[rv b900, iv 3, rv mo, rv b2] [(.int 3), (.int 0), (.ref b2), (.int 0), (.ref b900)]) _ _ _
  refine zcopyR X3 hx hby d62_35 hZ hown (w152 hw) (w155 hw) (w153 hw) (w154 hw) e3 (nn := 3) A2_b900 A2_b2 (zvlS (Or.inr ⟨_, rfl, Ins.of_exa E2_b901 (w341 hw)⟩) (zvlS (Or.inr ⟨_, rfl, Ins.of_exa E2_b902 (w341 hw)⟩) (zvlS (Or.inr ⟨_, rfl, Ins.of_exa E2_b903 (w341 hw)⟩) (zvlS (Or.inl rfl) (zvlS (Or.inl rfl) (zvlS (Or.inl rfl) (zvlS (Or.inl rfl) (zvlS (Or.inl rfl) (zvlS (Or.inl rfl) (zvlS (Or.inl rfl) zvl0)))))))))) (by simp) (by show 3 ≤ 10; decide) rfl (by show 10 < 1000000; decide) N0 g2 hml 0 fun T4 h4 L4 X4 e4 N4 K4q A4_b2 => ?_
  have K4 := Keep.trans K2 K4q (allS (Or.inr z2) all0)
  have E4_b2 := E2_b2.keep K4q
  change zLstR Z h4 b2 "java/lang/Object" [(.ref b901), (.ref b902), (.ref b903)] at A4_b2
  show zEnds p e below s T4 (mkF m 38 #[rv b900, iv 3, rv mo, rv b2] []) _ _ _
  refine zaloadN X4 hx hby d62_38 rfl rfl ?_
  show zEnds p e below s T4 (mkF m 39 #[rv b900, iv 3, rv mo, rv b2] [(.ref b2)]) _ _ _
  exact zretA X4 hx hby d62_39 hret hlk rfl rfl rfl (by decide) (by decide) (by rw [e4]; exact ⟨b2, rfl, N4, K4, g2, z2, E4_b2, A4_b2⟩)
theorem c74_copyOf (l : Launch) {Z : State} {a0 : Array Value} (hw : HW a0 Z) (ws : List Jvm.Cond) {wd wl we em mo : Addr} {n0 : Nat} {h0 : Heap} (C : Ctx2 Z wd wl we em mo) (O0 : Old Z n0 h0) (Z0 : n0 ≤ h0.size) (b900 : Addr) (b901 : Addr) (b902 : Addr) (b903 : Addr) (g_b900 : n0 ≤ b900) (E_b900 : Exa Z h0 b900 "[Ljava/lang/Object;") (A_b900 : zLstR Z h0 b900 "java/lang/Object" [(.ref b901), (.ref b902), (.ref b903), .null, .null, .null, .null, .null, .null, .null]) (g_b901 : n0 ≤ b901) (E_b901 : Exa Z h0 b901 "java/lang/String") (g_b902 : n0 ≤ b902) (E_b902 : Exa Z h0 b902 "java/lang/String") (g_b903 : n0 ≤ b903) (E_b903 : Exa Z h0 b903 "java/lang/String") : zCon l Z (⟨"java/util/Arrays", "copyOf", "([Ljava/lang/Object;I)[Ljava/lang/Object;"⟩ : MethodName) jdk_65_method_119_code 2 (some (.array (.object "java/lang/Object"))) ws ({ frames := 2, cells := 1, slots := 3, locals := 44 } : Room) #[(.ref b900), (.int 3)] h0 (fun v h L => ∃ b2_b2 : Addr, v = some (.ref b2_b2) ∧ Fr n0 L ∧ Keep h0 h [] ∧ n0 ≤ b2_b2 ∧ h0.size ≤ b2_b2 ∧ Exa Z h b2_b2 "[Ljava/lang/Object;" ∧ zLstR Z h b2_b2 "java/lang/Object" [(.ref b901), (.ref b902), (.ref b903)]) := by
  obtain ⟨S_wd, A_wd, S_wl, E_wl, F_wl_elements, E_we, A_we, S_em, E_em, M_mo⟩ := C
  refine zenter (plainFor_of_name pn_4) (L0 := #[rv b900, iv 3]) (H := ?_)
  intro p e s m below meth c T0 hx hZ hby hml hown0 hnm hret hlk X0 e0
  have hown : s.vm.findClass "java/util/Arrays" = some m.cls := hown0
  have K0 := Keep.refl h0 []
  have N0 := Fr.nil n0
  show zEnds p e below s T0 (mkF m 0 #[rv b900, iv 3] []) _ _ _
  refine zaloadN X0 hx hby d61_0 rfl rfl (ziloadN X0 hx hby d61_1 rfl (zaloadN X0 hx hby d61_2 rfl rfl (zgetCls X0 hx hby d61_3 hZ hown (w353 hw) (w354 hw) (w356 hw) (w355 hw) (w357 hw) (w50 hw) e0 E_b900 M_mo hml 2 fun T1 X1 e1 => (zcalls X1 hx hby d61_6 hZ hown (w359 hw) (w360 hw) (w147 hw) (w361 hw) e1 (c75_copyOf l hw [] ⟨S_wd, A_wd, S_wl, E_wl, F_wl_elements, E_we, A_we, S_em, E_em, M_mo⟩ O0 (zsz O0) b900 b901 b902 b903 g_b900 E_b900 A_b900 g_b901 E_b901 g_b902 E_b902 g_b903 E_b903) hml 0 pd_43 (argsL := [(.ref b900), (.int 3), (.ref mo)]) (st := []) fun T2 h2 v2 L2 e2 X2 q2 => ?_))))
  obtain ⟨b2_b2, rfl, N2q, K2q, g2_b2_b2, y2_b2_b2, E2_b2_b2, A2_b2_b2⟩ := q2
  have K2 := Keep.trans K0 K2q all0
  have z2_b2_b2 : h0.size ≤ b2_b2 := Nat.le_trans K0.1 y2_b2_b2
  have N2 := Fr.app N0 N2q
  show zEnds p e below s T2 (mkF m 9 #[rv b900, iv 3] [(.ref b2_b2)]) _ _ _
  exact zretA X2 hx hby d61_9 hret hlk rfl rfl rfl (by decide) (by decide) (by rw [e2]; exact ⟨b2_b2, rfl, N2, K2, g2_b2_b2, z2_b2_b2, E2_b2_b2, A2_b2_b2⟩)
theorem c73_toArray (l : Launch) {Z : State} {a0 : Array Value} (hw : HW a0 Z) (ws : List Jvm.Cond) {wd wl we em mo : Addr} {n0 : Nat} {h0 : Heap} (C : Ctx2 Z wd wl we em mo) (O0 : Old Z n0 h0) (Z0 : n0 ≤ h0.size) (b900 : Addr) (b901 : Addr) (b902 : Addr) (b903 : Addr) (b904 : Addr) (g_b900 : n0 ≤ b900) (E_b900 : Exa Z h0 b900 "java/util/ArrayList") (F_b900_modCount : Fld Z h0 b900 "java/util/AbstractList" "modCount" "I" (.int 3)) (F_b900_elementData : Fld Z h0 b900 "java/util/ArrayList" "elementData" "[Ljava/lang/Object;" (.ref b901)) (F_b900_size : Fld Z h0 b900 "java/util/ArrayList" "size" "I" (.int 3)) (g_b901 : n0 ≤ b901) (E_b901 : Exa Z h0 b901 "[Ljava/lang/Object;") (A_b901 : zLstR Z h0 b901 "java/lang/Object" [(.ref b902), (.ref b903), (.ref b904), .null, .null, .null, .null, .null, .null, .null]) (g_b902 : n0 ≤ b902) (E_b902 : Exa Z h0 b902 "java/lang/String") (g_b903 : n0 ≤ b903) (E_b903 : Exa Z h0 b903 "java/lang/String") (g_b904 : n0 ≤ b904) (E_b904 : Exa Z h0 b904 "java/lang/String") : zCon l Z (⟨"java/util/ArrayList", "toArray", "()[Ljava/lang/Object;"⟩ : MethodName) jdk_38_method_16_code 1 (some (.array (.object "java/lang/Object"))) ws ({ frames := 3, cells := 1, slots := 3, locals := 57 } : Room) #[(.ref b900)] h0 (fun v h L => ∃ b3_b2_b2 : Addr, v = some (.ref b3_b2_b2) ∧ Fr n0 L ∧ Keep h0 h [] ∧ n0 ≤ b3_b2_b2 ∧ h0.size ≤ b3_b2_b2 ∧ Exa Z h b3_b2_b2 "[Ljava/lang/Object;" ∧ zLstR Z h b3_b2_b2 "java/lang/Object" [(.ref b902), (.ref b903), (.ref b904)]) := by
  obtain ⟨S_wd, A_wd, S_wl, E_wl, F_wl_elements, E_we, A_we, S_em, E_em, M_mo⟩ := C
  refine zenter (plainFor_of_name pn_15) (L0 := #[rv b900]) (H := ?_)
  intro p e s m below meth c T0 hx hZ hby hml hown0 hnm hret hlk X0 e0
  have hown : s.vm.findClass "java/util/ArrayList" = some m.cls := hown0
  have K0 := Keep.refl h0 []
  have N0 := Fr.nil n0
  show zEnds p e below s T0 (mkF m 0 #[rv b900] []) _ _ _
  refine zaloadN X0 hx hby d60_0 rfl rfl (zgetfld X0 hx hby d60_1 hZ hown (host := "") (Or.inl (w25 hw)) Via.refl e0 F_b900_elementData fun T1 X1 e1 => (zaloadN X1 hx hby d60_4 rfl rfl (zgetfld X1 hx hby d60_5 hZ hown (host := "") (Or.inl (w61 hw)) Via.refl e1 F_b900_size fun T2 X2 e2 => (zcalls X2 hx hby d60_8 hZ hown (w350 hw) (w351 hw) (w147 hw) (w352 hw) e2 (c74_copyOf l hw [] ⟨S_wd, A_wd, S_wl, E_wl, F_wl_elements, E_we, A_we, S_em, E_em, M_mo⟩ O0 (zsz O0) b901 b902 b903 b904 g_b901 E_b901 A_b901 g_b902 E_b902 g_b903 E_b903 g_b904 E_b904) hml 0 pd_44 (argsL := [(.ref b901), (.int 3)]) (st := []) fun T3 h3 v3 L3 e3 X3 q3 => ?_))))
  obtain ⟨b3_b2_b2, rfl, N3q, K3q, g3_b3_b2_b2, y3_b3_b2_b2, E3_b3_b2_b2, A3_b3_b2_b2⟩ := q3
  have K3 := Keep.trans K0 K3q all0
  have z3_b3_b2_b2 : h0.size ≤ b3_b2_b2 := Nat.le_trans K0.1 y3_b3_b2_b2
  have N3 := Fr.app N0 N3q
  show zEnds p e below s T3 (mkF m 11 #[rv b900] [(.ref b3_b2_b2)]) _ _ _
  exact zretA X3 hx hby d60_11 hret hlk rfl rfl rfl (by decide) (by decide) (by rw [e3]; exact ⟨b3_b2_b2, rfl, N3, K3, g3_b3_b2_b2, z3_b3_b2_b2, E3_b3_b2_b2, A3_b3_b2_b2⟩)
theorem c86_init (l : Launch) {Z : State} {a0 : Array Value} (hw : HW a0 Z) (ws : List Jvm.Cond) {wd wl we em mo : Addr} {n0 : Nat} {h0 : Heap} (C : Ctx2 Z wd wl we em mo) (O0 : Old Z n0 h0) (Z0 : n0 ≤ h0.size) (b900 : Addr) (g_b900 : n0 ≤ b900) (E_b900 : Exa Z h0 b900 "java/util/ImmutableCollections$ListN") (F_b900_allowNulls : Fld Z h0 b900 "java/util/ImmutableCollections$ListN" "allowNulls" "Z" (.int 0)) (F_b900_elements : Fld Z h0 b900 "java/util/ImmutableCollections$ListN" "elements" "[Ljava/lang/Object;" .null) : zCon l Z (⟨"java/util/AbstractCollection", "<init>", "()V"⟩ : MethodName) jdk_22_method_1_code 1 none ws ({ frames := 1, cells := 0, slots := 0, locals := 12 } : Room) #[(.ref b900)] h0 (zSame none h0) := by
  obtain ⟨S_wd, A_wd, S_wl, E_wl, F_wl_elements, E_we, A_we, S_em, E_em, M_mo⟩ := C
  refine zenter (plainFor_of_name pn_13) (L0 := #[rv b900]) (H := ?_)
  intro p e s m below meth c T0 hx hZ hby hml hown0 hnm hret hlk X0 e0
  have hown : s.vm.findClass "java/util/AbstractCollection" = some m.cls := hown0
  show zEnds p e below s T0 (mkF m 0 #[rv b900] []) _ _ _
  refine zaloadN X0 hx hby d52_0 rfl rfl (zobjinit X0 hx hby d52_1 hZ hown (w19 hw) (w20 hw) (w21 hw) e0 hml 0 fun T1 X1 e1 => ?_)
  show zEnds p e below s T1 (mkF m 4 #[rv b900] []) _ _ _
  exact zretV X1 hx hby d52_4 hret hlk (by decide) (by decide) ⟨rfl, e1, rfl⟩
theorem c85_init (l : Launch) {Z : State} {a0 : Array Value} (hw : HW a0 Z) (ws : List Jvm.Cond) {wd wl we em mo : Addr} {n0 : Nat} {h0 : Heap} (C : Ctx2 Z wd wl we em mo) (O0 : Old Z n0 h0) (Z0 : n0 ≤ h0.size) (b900 : Addr) (g_b900 : n0 ≤ b900) (E_b900 : Exa Z h0 b900 "java/util/ImmutableCollections$ListN") (F_b900_allowNulls : Fld Z h0 b900 "java/util/ImmutableCollections$ListN" "allowNulls" "Z" (.int 0)) (F_b900_elements : Fld Z h0 b900 "java/util/ImmutableCollections$ListN" "elements" "[Ljava/lang/Object;" .null) : zCon l Z (⟨"java/util/ImmutableCollections$AbstractImmutableCollection", "<init>", "()V"⟩ : MethodName) jdk_47_method_1_code 1 none ws ({ frames := 2, cells := 0, slots := 0, locals := 24 } : Room) #[(.ref b900)] h0 (zSame none h0) := by
  obtain ⟨S_wd, A_wd, S_wl, E_wl, F_wl_elements, E_we, A_we, S_em, E_em, M_mo⟩ := C
  refine zenter (plainFor_of_name pn_17) (L0 := #[rv b900]) (H := ?_)
  intro p e s m below meth c T0 hx hZ hby hml hown0 hnm hret hlk X0 e0
  have hown : s.vm.findClass "java/util/ImmutableCollections$AbstractImmutableCollection" = some m.cls := hown0
  show zEnds p e below s T0 (mkF m 0 #[rv b900] []) _ _ _
  refine zaloadN X0 hx hby d66_0 rfl rfl (zcallsp X0 hx hby d66_1 hZ hown rfl (w386 hw) (w14 hw) (w18 hw) (w17 hw) e0 (c86_init l hw [] ⟨S_wd, A_wd, S_wl, E_wl, F_wl_elements, E_we, A_we, S_em, E_em, M_mo⟩ O0 (zsz O0) b900 g_b900 E_b900 F_b900_allowNulls F_b900_elements) hml 0 pd_29 (argsL := []) (st := []) (zpureK ⟨rfl, rfl⟩ fun T1 X1 e1 => ?_))
  show zEnds p e below s T1 (mkF m 4 #[rv b900] []) _ _ _
  exact zretV X1 hx hby d66_4 hret hlk (by decide) (by decide) ⟨rfl, e1, rfl⟩
theorem c84_init (l : Launch) {Z : State} {a0 : Array Value} (hw : HW a0 Z) (ws : List Jvm.Cond) {wd wl we em mo : Addr} {n0 : Nat} {h0 : Heap} (C : Ctx2 Z wd wl we em mo) (O0 : Old Z n0 h0) (Z0 : n0 ≤ h0.size) (b900 : Addr) (g_b900 : n0 ≤ b900) (E_b900 : Exa Z h0 b900 "java/util/ImmutableCollections$ListN") (F_b900_allowNulls : Fld Z h0 b900 "java/util/ImmutableCollections$ListN" "allowNulls" "Z" (.int 0)) (F_b900_elements : Fld Z h0 b900 "java/util/ImmutableCollections$ListN" "elements" "[Ljava/lang/Object;" .null) : zCon l Z (⟨"java/util/ImmutableCollections$AbstractImmutableList", "<init>", "()V"⟩ : MethodName) jdk_46_method_1_code 1 none ws ({ frames := 3, cells := 0, slots := 0, locals := 36 } : Room) #[(.ref b900)] h0 (zSame none h0) := by
  obtain ⟨S_wd, A_wd, S_wl, E_wl, F_wl_elements, E_we, A_we, S_em, E_em, M_mo⟩ := C
  refine zenter (plainFor_of_name pn_18) (L0 := #[rv b900]) (H := ?_)
  intro p e s m below meth c T0 hx hZ hby hml hown0 hnm hret hlk X0 e0
  have hown : s.vm.findClass "java/util/ImmutableCollections$AbstractImmutableList" = some m.cls := hown0
  show zEnds p e below s T0 (mkF m 0 #[rv b900] []) _ _ _
  refine zaloadN X0 hx hby d65_0 rfl rfl (zcallsp X0 hx hby d65_1 hZ hown rfl (w380 hw) (w381 hw) (w385 hw) (w384 hw) e0 (c85_init l hw [] ⟨S_wd, A_wd, S_wl, E_wl, F_wl_elements, E_we, A_we, S_em, E_em, M_mo⟩ O0 (zsz O0) b900 g_b900 E_b900 F_b900_allowNulls F_b900_elements) hml 0 pd_29 (argsL := []) (st := []) (zpureK ⟨rfl, rfl⟩ fun T1 X1 e1 => ?_))
  show zEnds p e below s T1 (mkF m 4 #[rv b900] []) _ _ _
  exact zretV X1 hx hby d65_4 hret hlk (by decide) (by decide) ⟨rfl, e1, rfl⟩
theorem c83_init (l : Launch) {Z : State} {a0 : Array Value} (hw : HW a0 Z) (ws : List Jvm.Cond) {wd wl we em mo : Addr} {n0 : Nat} {h0 : Heap} (C : Ctx2 Z wd wl we em mo) (O0 : Old Z n0 h0) (Z0 : n0 ≤ h0.size) (b900 : Addr) (b901 : Addr) (b902 : Addr) (b903 : Addr) (b904 : Addr) (g_b900 : n0 ≤ b900) (E_b900 : Exa Z h0 b900 "java/util/ImmutableCollections$ListN") (F_b900_allowNulls : Fld Z h0 b900 "java/util/ImmutableCollections$ListN" "allowNulls" "Z" (.int 0)) (F_b900_elements : Fld Z h0 b900 "java/util/ImmutableCollections$ListN" "elements" "[Ljava/lang/Object;" .null) (g_b901 : n0 ≤ b901) (E_b901 : Exa Z h0 b901 "[Ljava/lang/Object;") (A_b901 : zLstR Z h0 b901 "java/lang/Object" [(.ref b902), (.ref b903), (.ref b904)]) (g_b902 : n0 ≤ b902) (E_b902 : Exa Z h0 b902 "java/lang/String") (g_b903 : n0 ≤ b903) (E_b903 : Exa Z h0 b903 "java/lang/String") (g_b904 : n0 ≤ b904) (E_b904 : Exa Z h0 b904 "java/lang/String") : zCon l Z (⟨"java/util/ImmutableCollections$ListN", "<init>", "([Ljava/lang/Object;Z)V"⟩ : MethodName) jdk_45_method_1_code 3 none ws ({ frames := 4, cells := 0, slots := 0, locals := 48 } : Room) #[(.ref b900), (.ref b901), (.int 0)] h0 (fun v h L => v = none ∧ Fr n0 L ∧ Keep h0 h [b900] ∧ Exa Z h b900 "java/util/ImmutableCollections$ListN" ∧ Fld Z h b900 "java/util/ImmutableCollections$ListN" "allowNulls" "Z" (.int 0) ∧ Fld Z h b900 "java/util/ImmutableCollections$ListN" "elements" "[Ljava/lang/Object;" (.ref b901)) := by
  obtain ⟨S_wd, A_wd, S_wl, E_wl, F_wl_elements, E_we, A_we, S_em, E_em, M_mo⟩ := C
  refine zenter (plainFor_of_name pn_11) (L0 := #[rv b900, rv b901, iv 0]) (H := ?_)
  intro p e s m below meth c T0 hx hZ hby hml hown0 hnm hret hlk X0 e0
  have hown : s.vm.findClass "java/util/ImmutableCollections$ListN" = some m.cls := hown0
  have K0 := Keep.refl h0 [b900]
  have N0 := Fr.nil n0
  show zEnds p e below s T0 (mkF m 0 #[rv b900, rv b901, iv 0] []) _ _ _
  refine zaloadN X0 hx hby d70_0 rfl rfl (zcallsp X0 hx hby d70_1 hZ hown rfl (w414 hw) (w375 hw) (w379 hw) (w378 hw) e0 (c84_init l hw [] ⟨S_wd, A_wd, S_wl, E_wl, F_wl_elements, E_we, A_we, S_em, E_em, M_mo⟩ O0 (zsz O0) b900 g_b900 E_b900 F_b900_allowNulls F_b900_elements) hml 0 pd_29 (argsL := []) (st := []) (zpureK ⟨rfl, rfl⟩ fun T1 X1 e1 => ?_))
  refine zaloadN X1 hx hby d70_4 rfl rfl (zaloadN X1 hx hby d70_5 rfl rfl (zputfld X1 hx hby d70_6 hZ hown (host := "") (Or.inl (w214 hw)) Via.refl e1 F_b900_elements E_b900 (Or.inr ⟨(w215 hw), rfl, hnm⟩) (w409 hw) (ty := (.array (.object "java/lang/Object"))) (by decide) rfl rfl fun T2 h2 X2 e2 W2 => ?_))
  have F2_b900_elements : Fld Z h2 b900 "java/util/ImmutableCollections$ListN" "elements" "[Ljava/lang/Object;" (.ref b901) := F_b900_elements.same W2
  have F2_b900_allowNulls := F_b900_allowNulls.other W2 (Or.inr (slot_ne (Or.inr (w419 hw)) (Or.inr (w215 hw)) (by decide) (t := .boolean) (t' := (.array (.object "java/lang/Object"))) (by decide) (by decide)))
  have E2_b900 := E_b900.wr W2
  have K2 := Keep.wr K0 W2 (Or.inl (List.mem_of_getElem? (i := 0) rfl))
  have N2 := Fr.snoc X2 N0 g_b900
  refine zaloadN X2 hx hby d70_9 rfl rfl (ziloadN X2 hx hby d70_10 rfl (zputfld X2 hx hby d70_11 hZ hown (host := "") (Or.inl (w418 hw)) Via.refl e2 F2_b900_allowNulls E2_b900 (Or.inr ⟨(w419 hw), rfl, hnm⟩) (w409 hw) (ty := .boolean) (by decide) rfl rfl fun T3 h3 X3 e3 W3 => ?_))
  have F3_b900_allowNulls : Fld Z h3 b900 "java/util/ImmutableCollections$ListN" "allowNulls" "Z" (.int 0) := F2_b900_allowNulls.same W3
  have F3_b900_elements := F2_b900_elements.other W3 (Or.inr (slot_ne (Or.inr (w215 hw)) (Or.inr (w419 hw)) (by decide) (t := (.array (.object "java/lang/Object"))) (t' := .boolean) (by decide) (by decide)))
  have E3_b900 := E2_b900.wr W3
  have K3 := Keep.wr K2 W3 (Or.inl (List.mem_of_getElem? (i := 0) rfl))
  have N3 := Fr.snoc X3 N2 g_b900
  show zEnds p e below s T3 (mkF m 14 #[rv b900, rv b901, iv 0] []) _ _ _
  exact zretV X3 hx hby d70_14 hret hlk (by decide) (by decide) (by rw [e3]; exact ⟨rfl, N3, K3, E3_b900, F3_b900_allowNulls, F3_b900_elements⟩)
theorem c82_listFromArray (l : Launch) {Z : State} {a0 : Array Value} (hw : HW a0 Z) (ws : List Jvm.Cond) {wd wl we em mo : Addr} {n0 : Nat} {h0 : Heap} (C : Ctx2 Z wd wl we em mo) (O0 : Old Z n0 h0) (Z0 : n0 ≤ h0.size) (b900 : Addr) (b901 : Addr) (b902 : Addr) (b903 : Addr) (g_b900 : n0 ≤ b900) (E_b900 : Exa Z h0 b900 "[Ljava/lang/Object;") (A_b900 : zLstR Z h0 b900 "java/lang/Object" [(.ref b901), (.ref b902), (.ref b903)]) (g_b901 : n0 ≤ b901) (E_b901 : Exa Z h0 b901 "java/lang/String") (g_b902 : n0 ≤ b902) (E_b902 : Exa Z h0 b902 "java/lang/String") (g_b903 : n0 ≤ b903) (E_b903 : Exa Z h0 b903 "java/lang/String") : zCon l Z (⟨"java/util/ImmutableCollections", "listFromArray", "([Ljava/lang/Object;)Ljava/util/List;"⟩ : MethodName) jdk_56_method_4_code 3 (some (.object "java/util/List")) ws ({ frames := 5, cells := 2, slots := 5, locals := 63 } : Room) #[(.ref b900)] h0 (fun v h L => ∃ b1 b8 : Addr, v = some (.ref b8) ∧ Fr n0 L ∧ Keep h0 h [] ∧ n0 ≤ b1 ∧ h0.size ≤ b1 ∧ Exa Z h b1 "[Ljava/lang/Object;" ∧ zLstR Z h b1 "java/lang/Object" [(.ref b901), (.ref b902), (.ref b903)] ∧ n0 ≤ b8 ∧ h0.size ≤ b8 ∧ Exa Z h b8 "java/util/ImmutableCollections$ListN" ∧ Fld Z h b8 "java/util/ImmutableCollections$ListN" "allowNulls" "Z" (.int 0) ∧ Fld Z h b8 "java/util/ImmutableCollections$ListN" "elements" "[Ljava/lang/Object;" (.ref b1)) := by
  obtain ⟨S_wd, A_wd, S_wl, E_wl, F_wl_elements, E_we, A_we, S_em, E_em, M_mo⟩ := C
  refine zenter (plainFor_of_name pn_16) (L0 := #[rv b900, .unset, .unset]) (H := ?_)
  intro p e s m below meth c T0 hx hZ hby hml hown0 hnm hret hlk X0 e0
  have hown : s.vm.findClass "java/util/ImmutableCollections" = some m.cls := hown0
  have K0 := Keep.refl h0 []
  have N0 := Fr.nil n0
  show zEnds p e below s T0 (mkF m 0 #[rv b900, .unset, .unset] []) _ _ _
  refine zaloadN X0 hx hby d69_0 rfl rfl (zalenL X0 hx hby d69_1 hZ e0 A_b900.lst (3 : Int32) rfl (znewref3 X0 hx hby d69_2 hZ hown (w407 hw) (w340 hw) e0 (by decide) 3 (by decide) (by decide) (by decide) (by decide) (D := "[Ljava/lang/Object;") (by decide) fun T1 h1 b1 X1 e1 y1 Ex1 E1_b1 A1_b1 => ?_))
  change zLstR Z h1 b1 "java/lang/Object" [.null, .null, .null] at A1_b1
  have A1_b900 := A_b900.ext Ex1
  have E1_b901 := E_b901.ext Ex1
  have E1_b902 := E_b902.ext Ex1
  have E1_b903 := E_b903.ext Ex1
  have O1 := O0.ext Ex1
  have K1 := Keep.ext K0 Ex1
  have ne1_b900 : b900 ≠ b1 := Nat.ne_of_lt (Nat.lt_of_lt_of_eq E_b900.lt y1.symm)
  have g1 : n0 ≤ b1 := by rw [y1]; exact zsz O0
  have z1 : h0.size ≤ b1 := by rw [y1]; exact K0.1
  refine zastoreN X1 hx hby d69_5 (hv := rfl) (L' := #[rv b900, rv b1, .unset]) rfl (ziconst X1 hx hby d69_6 (z := (0 : Int32)) rfl (zistoreN X1 hx hby d69_7 (L' := #[rv b900, rv b1, iv 0]) rfl (ziloadN X1 hx hby d69_8 rfl (zaloadN X1 hx hby d69_9 rfl rfl (zalenL X1 hx hby d69_10 hZ e1 A1_b900.lst (3 : Int32) rfl (zicmpNo X1 hx hby d69_11 (by decide) (zaloadN X1 hx hby d69_14 rfl rfl (ziloadN X1 hx hby d69_15 rfl (zaloadN X1 hx hby d69_16 rfl rfl ?_)))))))))
  show zEnds p e below s T1 (mkF m 17 #[rv b900, rv b1, iv 0] [(.ref b900), (.int 0), (.ref b1)]) _ _ _
  refine ziloadN X1 hx hby d69_17 rfl (zaaload X1 hx hby d69_18 hZ e1 rfl A1_b900.lst (by decide) (v := (.ref b901)) rfl (zcalls X1 hx hby d69_19 hZ hown (w408 hw) (w389 hw) (w390 hw) (w391 hw) e1 (c41_requireNonNull l hw [] ⟨S_wd, A_wd, S_wl, E_wl, F_wl_elements, E_we, A_we, S_em, E_em, M_mo⟩ O1 (zsz O1) b901 g_b901 E1_b901) hml 2 pd_45 (argsL := [(.ref b901)]) (st := [(.int 0), (.ref b1)]) (zpureK ⟨rfl, rfl⟩ fun T2 X2 e2 => ?_)))
  refine zaastore X2 hx hby d69_22 hZ e2 A1_b1 (by decide) (by show Int32.toNatClampNeg 0 < 3; decide) (Ins.of_exa E1_b901 (w341 hw)) fun T3 h3 X3 e3 W3 A3_b1 => ?_
  change zLstR Z h3 b1 "java/lang/Object" [(.ref b901), .null, .null] at A3_b1
  have A3_b900 := A1_b900.other W3 ne1_b900
  have E3_b901 := E1_b901.wr W3
  have E3_b902 := E1_b902.wr W3
  have E3_b903 := E1_b903.wr W3
  have E3_b1 := E1_b1.wr W3
  have O3 := O1.wr W3 g1
  have K3 := Keep.wr K1 W3 (Or.inr z1)
  have N3 := Fr.snoc X3 N0 g1
  refine ziinc X3 hx hby d69_23 (L' := #[rv b900, rv b1, iv 1]) rfl rfl (zgoto X3 hx hby d69_26 8 (by decide) (by decide) (ziloadN X3 hx hby d69_8 rfl (zaloadN X3 hx hby d69_9 rfl rfl (zalenL X3 hx hby d69_10 hZ e3 A3_b900.lst (3 : Int32) rfl (zicmpNo X3 hx hby d69_11 (by decide) (zaloadN X3 hx hby d69_14 rfl rfl (ziloadN X3 hx hby d69_15 rfl (zaloadN X3 hx hby d69_16 rfl rfl (ziloadN X3 hx hby d69_17 rfl ?_)))))))))
  show zEnds p e below s T3 (mkF m 18 #[rv b900, rv b1, iv 1] [(.int 1), (.ref b900), (.int 1), (.ref b1)]) _ _ _
  refine zaaload X3 hx hby d69_18 hZ e3 rfl A3_b900.lst (by decide) (v := (.ref b902)) rfl (zcalls X3 hx hby d69_19 hZ hown (w408 hw) (w389 hw) (w390 hw) (w391 hw) e3 (c41_requireNonNull l hw [] ⟨S_wd, A_wd, S_wl, E_wl, F_wl_elements, E_we, A_we, S_em, E_em, M_mo⟩ O3 (zsz O3) b902 g_b902 E3_b902) hml 2 pd_45 (argsL := [(.ref b902)]) (st := [(.int 1), (.ref b1)]) (zpureK ⟨rfl, rfl⟩ fun T4 X4 e4 => ?_))
  refine zaastore X4 hx hby d69_22 hZ e4 A3_b1 (by decide) (by show Int32.toNatClampNeg 1 < 3; decide) (Ins.of_exa E3_b902 (w341 hw)) fun T5 h5 X5 e5 W5 A5_b1 => ?_
  change zLstR Z h5 b1 "java/lang/Object" [(.ref b901), (.ref b902), .null] at A5_b1
  have A5_b900 := A3_b900.other W5 ne1_b900
  have E5_b901 := E3_b901.wr W5
  have E5_b902 := E3_b902.wr W5
  have E5_b903 := E3_b903.wr W5
  have E5_b1 := E3_b1.wr W5
  have O5 := O3.wr W5 g1
  have K5 := Keep.wr K3 W5 (Or.inr z1)
  have N5 := Fr.snoc X5 N3 g1
  refine ziinc X5 hx hby d69_23 (L' := #[rv b900, rv b1, iv 2]) rfl rfl (zgoto X5 hx hby d69_26 8 (by decide) (by decide) (ziloadN X5 hx hby d69_8 rfl (zaloadN X5 hx hby d69_9 rfl rfl (zalenL X5 hx hby d69_10 hZ e5 A5_b900.lst (3 : Int32) rfl (zicmpNo X5 hx hby d69_11 (by decide) (zaloadN X5 hx hby d69_14 rfl rfl (ziloadN X5 hx hby d69_15 rfl (zaloadN X5 hx hby d69_16 rfl rfl (ziloadN X5 hx hby d69_17 rfl ?_)))))))))
  show zEnds p e below s T5 (mkF m 18 #[rv b900, rv b1, iv 2] [(.int 2), (.ref b900), (.int 2), (.ref b1)]) _ _ _
  refine zaaload X5 hx hby d69_18 hZ e5 rfl A5_b900.lst (by decide) (v := (.ref b903)) rfl (zcalls X5 hx hby d69_19 hZ hown (w408 hw) (w389 hw) (w390 hw) (w391 hw) e5 (c41_requireNonNull l hw [] ⟨S_wd, A_wd, S_wl, E_wl, F_wl_elements, E_we, A_we, S_em, E_em, M_mo⟩ O5 (zsz O5) b903 g_b903 E5_b903) hml 2 pd_45 (argsL := [(.ref b903)]) (st := [(.int 2), (.ref b1)]) (zpureK ⟨rfl, rfl⟩ fun T6 X6 e6 => ?_))
  refine zaastore X6 hx hby d69_22 hZ e6 A5_b1 (by decide) (by show Int32.toNatClampNeg 2 < 3; decide) (Ins.of_exa E5_b903 (w341 hw)) fun T7 h7 X7 e7 W7 A7_b1 => ?_
  change zLstR Z h7 b1 "java/lang/Object" [(.ref b901), (.ref b902), (.ref b903)] at A7_b1
  have A7_b900 := A5_b900.other W7 ne1_b900
  have E7_b901 := E5_b901.wr W7
  have E7_b902 := E5_b902.wr W7
  have E7_b903 := E5_b903.wr W7
  have E7_b1 := E5_b1.wr W7
  have O7 := O5.wr W7 g1
  have K7 := Keep.wr K5 W7 (Or.inr z1)
  have N7 := Fr.snoc X7 N5 g1
  refine ziinc X7 hx hby d69_23 (L' := #[rv b900, rv b1, iv 3]) rfl rfl (zgoto X7 hx hby d69_26 8 (by decide) (by decide) (ziloadN X7 hx hby d69_8 rfl (zaloadN X7 hx hby d69_9 rfl rfl (zalenL X7 hx hby d69_10 hZ e7 A7_b900.lst (3 : Int32) rfl (zicmpYes X7 hx hby d69_11 29 (by decide) (by decide) (by decide) (znewobj X7 hx hby d69_29 hZ hown (w51 hw) (w409 hw) (w212 hw) e7 (by decide) (by decide) fun T8 h8 b8 X8 e8 y8 Ex8 E8_b8 D8 => ?_))))))
  have E8_b901 := E7_b901.ext Ex8
  have E8_b902 := E7_b902.ext Ex8
  have E8_b903 := E7_b903.ext Ex8
  have E8_b1 := E7_b1.ext Ex8
  have A8_b1 := A7_b1.ext Ex8
  have O8 := O7.ext Ex8
  have K8 := Keep.ext K7 Ex8
  have ne8_b1 : b1 ≠ b8 := Nat.ne_of_lt (Nat.lt_of_lt_of_eq E7_b1.lt y8.symm)
  have g8 : n0 ≤ b8 := by rw [y8]; exact zsz O7
  have z8 : h0.size ≤ b8 := by rw [y8]; exact K7.1
  have F8_b8_elements : Fld Z h8 b8 "java/util/ImmutableCollections$ListN" "elements" "[Ljava/lang/Object;" .null := D8 (Or.inr (w215 hw)) (ty := (.array (.object "java/lang/Object"))) (by decide)
  have F8_b8_allowNulls : Fld Z h8 b8 "java/util/ImmutableCollections$ListN" "allowNulls" "Z" (.int 0) := D8 (Or.inr (w419 hw)) (ty := .boolean) (by decide)
  refine zdup X8 hx hby d69_32 rfl (zaloadN X8 hx hby d69_33 rfl rfl (ziconst X8 hx hby d69_34 (z := (0 : Int32)) rfl (zcallspn X8 hx hby d69_35 hZ hown rfl (w410 hw) (w411 hw) (w413 hw) (w212 hw) e8 (c83_init l hw [] ⟨S_wd, A_wd, S_wl, E_wl, F_wl_elements, E_we, A_we, S_em, E_em, M_mo⟩ O8 (zsz O8) b8 b1 b901 b902 b903 g8 E8_b8 F8_b8_allowNulls F8_b8_elements g1 E8_b1 A8_b1 g_b901 E8_b901 g_b902 E8_b902 g_b903 E8_b903) hml 1 pd_49 (argsL := [(.ref b1), (.int 0)]) (st := [(.ref b8)]) fun T9 h9 v9 L9 e9 X9 q9 => ?_)))
  obtain ⟨rfl, N9q, K9q, E9_b8, F9_b8_allowNulls, F9_b8_elements⟩ := q9
  have E9_b1 := E8_b1.keep K9q
  have A9_b1 := A8_b1.keep K9q (ninS ne8_b1 nin0)
  have K9 := Keep.trans K8 K9q (allS (Or.inr z8) all0)
  have N9 := Fr.app N7 N9q
  show zEnds p e below s T9 (mkF m 38 #[rv b900, rv b1, iv 3] [(.ref b8)]) _ _ _
  exact zretA X9 hx hby d69_38 hret hlk rfl rfl rfl (by decide) (by decide) (by rw [e9]; exact ⟨b1, b8, rfl, N9, K9, g1, z1, E9_b1, A9_b1, g8, z8, E9_b8, F9_b8_allowNulls, F9_b8_elements⟩)
theorem c81_of (l : Launch) {Z : State} {a0 : Array Value} (hw : HW a0 Z) (ws : List Jvm.Cond) {wd wl we em mo : Addr} {n0 : Nat} {h0 : Heap} (C : Ctx2 Z wd wl we em mo) (O0 : Old Z n0 h0) (Z0 : n0 ≤ h0.size) (b900 : Addr) (b901 : Addr) (b902 : Addr) (b903 : Addr) (g_b900 : n0 ≤ b900) (E_b900 : Exa Z h0 b900 "[Ljava/lang/Object;") (A_b900 : zLstR Z h0 b900 "java/lang/Object" [(.ref b901), (.ref b902), (.ref b903)]) (g_b901 : n0 ≤ b901) (E_b901 : Exa Z h0 b901 "java/lang/String") (g_b902 : n0 ≤ b902) (E_b902 : Exa Z h0 b902 "java/lang/String") (g_b903 : n0 ≤ b903) (E_b903 : Exa Z h0 b903 "java/lang/String") : zCon l Z (⟨"java/util/List", "of", "([Ljava/lang/Object;)Ljava/util/List;"⟩ : MethodName) jdk_40_method_47_code 2 (some (.object "java/util/List")) ws ({ frames := 6, cells := 2, slots := 5, locals := 77 } : Room) #[(.ref b900)] h0 (fun v h L => ∃ b1_b1 b1_b8 : Addr, v = some (.ref b1_b8) ∧ Fr n0 L ∧ Keep h0 h [] ∧ n0 ≤ b1_b1 ∧ h0.size ≤ b1_b1 ∧ Exa Z h b1_b1 "[Ljava/lang/Object;" ∧ zLstR Z h b1_b1 "java/lang/Object" [(.ref b901), (.ref b902), (.ref b903)] ∧ n0 ≤ b1_b8 ∧ h0.size ≤ b1_b8 ∧ Exa Z h b1_b8 "java/util/ImmutableCollections$ListN" ∧ Fld Z h b1_b8 "java/util/ImmutableCollections$ListN" "allowNulls" "Z" (.int 0) ∧ Fld Z h b1_b8 "java/util/ImmutableCollections$ListN" "elements" "[Ljava/lang/Object;" (.ref b1_b1)) := by
  obtain ⟨S_wd, A_wd, S_wl, E_wl, F_wl_elements, E_we, A_we, S_em, E_em, M_mo⟩ := C
  refine zenter (plainFor_of_name pn_9) (L0 := #[rv b900, .unset]) (H := ?_)
  intro p e s m below meth c T0 hx hZ hby hml hown0 hnm hret hlk X0 e0
  have hown : s.vm.findClass "java/util/List" = some m.cls := hown0
  have K0 := Keep.refl h0 []
  have N0 := Fr.nil n0
  show zEnds p e below s T0 (mkF m 0 #[rv b900, .unset] []) _ _ _
  refine zaloadN X0 hx hby d63_0 rfl rfl (zalenL X0 hx hby d63_1 hZ e0 A_b900.lst (3 : Int32) rfl (ztswOut X0 hx hby d63_2 59 (by decide) (by decide) (by decide) (zaloadN X0 hx hby d63_59 rfl rfl (zcalls X0 hx hby d63_60 hZ hown (w404 hw) (w405 hw) (w44 hw) (w406 hw) e0 (c82_listFromArray l hw [] ⟨S_wd, A_wd, S_wl, E_wl, F_wl_elements, E_we, A_we, S_em, E_em, M_mo⟩ O0 (zsz O0) b900 b901 b902 b903 g_b900 E_b900 A_b900 g_b901 E_b901 g_b902 E_b902 g_b903 E_b903) hml 0 pd_47 (argsL := [(.ref b900)]) (st := []) fun T1 h1 v1 L1 e1 X1 q1 => ?_))))
  obtain ⟨b1_b1, b1_b8, rfl, N1q, K1q, g1_b1_b1, y1_b1_b1, E1_b1_b1, A1_b1_b1, g1_b1_b8, y1_b1_b8, E1_b1_b8, F1_b1_b8_allowNulls, F1_b1_b8_elements⟩ := q1
  have K1 := Keep.trans K0 K1q all0
  have z1_b1_b1 : h0.size ≤ b1_b1 := Nat.le_trans K0.1 y1_b1_b1
  have z1_b1_b8 : h0.size ≤ b1_b8 := Nat.le_trans K0.1 y1_b1_b8
  have N1 := Fr.app N0 N1q
  show zEnds p e below s T1 (mkF m 63 #[rv b900, .unset] [(.ref b1_b8)]) _ _ _
  exact zretA X1 hx hby d63_63 hret hlk rfl rfl rfl (by decide) (by decide) (by rw [e1]; exact ⟨b1_b1, b1_b8, rfl, N1, K1, g1_b1_b1, z1_b1_b1, E1_b1_b1, A1_b1_b1, g1_b1_b8, z1_b1_b8, E1_b1_b8, F1_b1_b8_allowNulls, F1_b1_b8_elements⟩)
theorem c70_listCopy (l : Launch) {Z : State} {a0 : Array Value} (hw : HW a0 Z) (ws : List Jvm.Cond) {wd wl we em mo : Addr} {n0 : Nat} {h0 : Heap} (C : Ctx2 Z wd wl we em mo) (O0 : Old Z n0 h0) (Z0 : n0 ≤ h0.size) (b900 : Addr) (b901 : Addr) (b902 : Addr) (b903 : Addr) (b904 : Addr) (g_b900 : n0 ≤ b900) (E_b900 : Exa Z h0 b900 "java/util/ArrayList") (F_b900_modCount : Fld Z h0 b900 "java/util/AbstractList" "modCount" "I" (.int 3)) (F_b900_elementData : Fld Z h0 b900 "java/util/ArrayList" "elementData" "[Ljava/lang/Object;" (.ref b901)) (F_b900_size : Fld Z h0 b900 "java/util/ArrayList" "size" "I" (.int 3)) (g_b901 : n0 ≤ b901) (E_b901 : Exa Z h0 b901 "[Ljava/lang/Object;") (A_b901 : zLstR Z h0 b901 "java/lang/Object" [(.ref b902), (.ref b903), (.ref b904), .null, .null, .null, .null, .null, .null, .null]) (g_b902 : n0 ≤ b902) (E_b902 : Exa Z h0 b902 "java/lang/String") (g_b903 : n0 ≤ b903) (E_b903 : Exa Z h0 b903 "java/lang/String") (g_b904 : n0 ≤ b904) (E_b904 : Exa Z h0 b904 "java/lang/String") : zCon l Z (⟨"java/util/ImmutableCollections", "listCopy", "(Ljava/util/Collection;)Ljava/util/List;"⟩ : MethodName) jdk_56_method_3_code 2 (some (.object "java/util/List")) ws ({ frames := 7, cells := 3, slots := 8, locals := 90 } : Room) #[(.ref b900)] h0 (fun v h L => ∃ b4_b3_b2_b2 b5_b1_b1 b5_b1_b8 : Addr, v = some (.ref b5_b1_b8) ∧ Fr n0 L ∧ Keep h0 h [] ∧ n0 ≤ b4_b3_b2_b2 ∧ h0.size ≤ b4_b3_b2_b2 ∧ Exa Z h b4_b3_b2_b2 "[Ljava/lang/Object;" ∧ zLstR Z h b4_b3_b2_b2 "java/lang/Object" [(.ref b902), (.ref b903), (.ref b904)] ∧ n0 ≤ b5_b1_b1 ∧ h0.size ≤ b5_b1_b1 ∧ Exa Z h b5_b1_b1 "[Ljava/lang/Object;" ∧ zLstR Z h b5_b1_b1 "java/lang/Object" [(.ref b902), (.ref b903), (.ref b904)] ∧ n0 ≤ b5_b1_b8 ∧ h0.size ≤ b5_b1_b8 ∧ Exa Z h b5_b1_b8 "java/util/ImmutableCollections$ListN" ∧ Fld Z h b5_b1_b8 "java/util/ImmutableCollections$ListN" "allowNulls" "Z" (.int 0) ∧ Fld Z h b5_b1_b8 "java/util/ImmutableCollections$ListN" "elements" "[Ljava/lang/Object;" (.ref b5_b1_b1)) := by
  obtain ⟨S_wd, A_wd, S_wl, E_wl, F_wl_elements, E_we, A_we, S_em, E_em, M_mo⟩ := C
  refine zenter (plainFor_of_name pn_16) (L0 := #[rv b900, .unset]) (H := ?_)
  intro p e s m below meth c T0 hx hZ hby hml hown0 hnm hret hlk X0 e0
  have hown : s.vm.findClass "java/util/ImmutableCollections" = some m.cls := hown0
  have K0 := Keep.refl h0 []
  have N0 := Fr.nil n0
  show zEnds p e below s T0 (mkF m 0 #[rv b900, .unset] []) _ _ _
  refine zaloadN X0 hx hby d53_0 rfl rfl (zinstNo X0 hx hby d53_1 hZ hown (w46 hw) e0 E_b900 (w368 hw) (chainAL hw) (by decide) fun T1 X1 e1 => (zifNo X1 hx hby d53_4 (by decide) (zaloadN X1 hx hby d53_7 rfl rfl (zinstNo X1 hx hby d53_8 hZ hown (w51 hw) e1 E_b900 (w409 hw) (chainAL hw) (by decide) fun T2 X2 e2 => (zifYes X2 hx hby d53_11 31 (by decide) (by decide) (by decide) (zaloadN X2 hx hby d53_31 rfl rfl (zcalli X2 hx hby d53_32 hZ hown (w52 hw) (w53 hw) (w54 hw) (w55 hw) (w56 hw) (w57 hw) (w58 hw) (w59 hw) (w60 hw) (w3 hw) e2 E_b900 (c71_isEmpty l hw [] ⟨S_wd, A_wd, S_wl, E_wl, F_wl_elements, E_we, A_we, S_em, E_em, M_mo⟩ O0 (zsz O0) b900 b901 b902 b903 b904 g_b900 E_b900 F_b900_modCount F_b900_elementData F_b900_size g_b901 E_b901 A_b901 g_b902 E_b902 g_b903 E_b903 g_b904 E_b904) hml 0 pd_12 (argsL := []) (st := []) (zpureK ⟨rfl, rfl⟩ fun T3 X3 e3 => ?_))))))))
  refine zifYes X3 hx hby d53_37 44 (by decide) (by decide) (by decide) (zaloadN X3 hx hby d53_44 rfl rfl (zcalli X3 hx hby d53_45 hZ hown (w342 hw) (w343 hw) (w344 hw) (w345 hw) (w346 hw) (w347 hw) (w348 hw) (w59 hw) (w349 hw) (w3 hw) e3 E_b900 (c73_toArray l hw [] ⟨S_wd, A_wd, S_wl, E_wl, F_wl_elements, E_we, A_we, S_em, E_em, M_mo⟩ O0 (zsz O0) b900 b901 b902 b903 b904 g_b900 E_b900 F_b900_modCount F_b900_elementData F_b900_size g_b901 E_b901 A_b901 g_b902 E_b902 g_b903 E_b903 g_b904 E_b904) hml 0 pd_40 (argsL := []) (st := []) fun T4 h4 v4 L4 e4 X4 q4 => ?_))
  obtain ⟨b4_b3_b2_b2, rfl, N4q, K4q, g4_b4_b3_b2_b2, y4_b4_b3_b2_b2, E4_b4_b3_b2_b2, A4_b4_b3_b2_b2⟩ := q4
  have E4_b902 := E_b902.keep K4q
  have E4_b903 := E_b903.keep K4q
  have E4_b904 := E_b904.keep K4q
  have O4 := O0.keep K4q all0
  have K4 := Keep.trans K0 K4q all0
  have z4_b4_b3_b2_b2 : h0.size ≤ b4_b3_b2_b2 := Nat.le_trans K0.1 y4_b4_b3_b2_b2
  have N4 := Fr.app N0 N4q
  refine zcalls X4 hx hby d53_50 hZ hown (w364 hw) (w365 hw) (w40 hw) (w366 hw) e4 (c81_of l hw [] ⟨S_wd, A_wd, S_wl, E_wl, F_wl_elements, E_we, A_we, S_em, E_em, M_mo⟩ O4 (zsz O4) b4_b3_b2_b2 b902 b903 b904 g4_b4_b3_b2_b2 E4_b4_b3_b2_b2 A4_b4_b3_b2_b2 g_b902 E4_b902 g_b903 E4_b903 g_b904 E4_b904) hml 0 pd_47 (argsL := [(.ref b4_b3_b2_b2)]) (st := []) fun T5 h5 v5 L5 e5 X5 q5 => ?_
  obtain ⟨b5_b1_b1, b5_b1_b8, rfl, N5q, K5q, g5_b5_b1_b1, y5_b5_b1_b1, E5_b5_b1_b1, A5_b5_b1_b1, g5_b5_b1_b8, y5_b5_b1_b8, E5_b5_b1_b8, F5_b5_b1_b8_allowNulls, F5_b5_b1_b8_elements⟩ := q5
  have E5_b4_b3_b2_b2 := E4_b4_b3_b2_b2.keep K5q
  have A5_b4_b3_b2_b2 := A4_b4_b3_b2_b2.keep K5q nin0
  have K5 := Keep.trans K4 K5q all0
  have z5_b5_b1_b1 : h0.size ≤ b5_b1_b1 := Nat.le_trans K4.1 y5_b5_b1_b1
  have z5_b5_b1_b8 : h0.size ≤ b5_b1_b8 := Nat.le_trans K4.1 y5_b5_b1_b8
  have N5 := Fr.app N4 N5q
  show zEnds p e below s T5 (mkF m 53 #[rv b900, .unset] [(.ref b5_b1_b8)]) _ _ _
  exact zretA X5 hx hby d53_53 hret hlk rfl rfl rfl (by decide) (by decide) (by rw [e5]; exact ⟨b4_b3_b2_b2, b5_b1_b1, b5_b1_b8, rfl, N5, K5, g4_b4_b3_b2_b2, z4_b4_b3_b2_b2, E5_b4_b3_b2_b2, A5_b4_b3_b2_b2, g5_b5_b1_b1, z5_b5_b1_b1, E5_b5_b1_b1, A5_b5_b1_b1, g5_b5_b1_b8, z5_b5_b1_b8, E5_b5_b1_b8, F5_b5_b1_b8_allowNulls, F5_b5_b1_b8_elements⟩)
theorem oneof_4 (z : Int32) (h1 : 0 ≤ z.toInt) (h2 : z.toInt < 4) : z = 0 ∨ z = 1 ∨ z = 2 ∨ z = 3 := by
  have q : z.toInt = 0 ∨ z.toInt = 1 ∨ z.toInt = 2 ∨ z.toInt = 3 := by omega
  rcases q with q | q | q | q
  · exact Or.inl (Int32.toInt_inj.mp (q.trans rfl))
  · exact Or.inr (Or.inl (Int32.toInt_inj.mp (q.trans rfl)))
  · exact Or.inr (Or.inr (Or.inl (Int32.toInt_inj.mp (q.trans rfl))))
  · exact Or.inr (Or.inr (Or.inr ((Int32.toInt_inj.mp (q.trans rfl)))))
theorem and_3 (x : Int32) : x &&& (3 : Int32) = (0 : Int32) ∨ x &&& (3 : Int32) = (1 : Int32) ∨ x &&& (3 : Int32) = (2 : Int32) ∨ x &&& (3 : Int32) = (3 : Int32) := by
  have p := c_and x 3 (by decide)
  have q : (3 : Int32).toInt = 3 := rfl
  exact oneof_4 _ p.1 (by omega)
theorem rm0 (l : Launch) {Z : State} {a0 : Array Value} (hw : HW a0 Z) {cs : Int32} {d1 d2 : Addr} {o1 o2 : List Int8} {n0 : Nat} {h0 : Heap} {wd wl we em mo : Addr} (C : Ctx Z cs d1 d2 o1 o2) (O0 : zOd Z n0 h0) (C2 : Ctx2 Z wd wl we em mo) (hz : Z.heap.size = n0) (vf : Value) (hvf : vf = .null ∨ ∃ a, vf = .ref a) (S_vf : Sta Z Z.heap "jdk/internal/util/Preconditions" "SIOOBE_FORMATTER" "Ljava/util/function/BiFunction;" vf) (ja jb : Int64) (mm w : Int32) : yConW l Z x code maxLocals ret tables_1 room_1 #[(.long ja), (.long jb), (.int mm), (.int w)] (fun v => CHv Z consts_1 v h0) h0 (fun v' v h L => v' = some (.int 1) ∧ Fr n0 L) := by
  refine yenterW (plainFor_of_name pn_8) (L0 := #[.val (.long ja), .second, .val (.long jb), .second, iv mm, iv w, .unset, .unset, .unset, .unset, .unset, .unset, .unset, .unset, .unset, .unset, .unset, .unset, .unset, .unset, .unset, .unset, .unset]) (fun m => by first | (simp [entryFrame, mkF, argsToLocals, Value.category, maxLocals]; done) | rfl) ?_
  intro p e s0 v0 m below meth c T0 hx hZ hby hml hown0 hnm hret hlk X0 e0 hS eh hP
  have hown : v0.findClass "com/example/kick/kick/value/CloseReportToStringPinLaw" = some m.cls := hown0
  have K0 := Keep.refl h0 []
  have N0 := Fr.nil n0
  have H0 := hP
  obtain ⟨cc, hcc, a_c⟩ := andL ja
  obtain ⟨ii, hii, a_i⟩ := andL jb
  obtain ⟨S_wd, A_wd, S_wl, E_wl, F_wl_elements, E_we, A_we, S_em, E_em, M_mo⟩ := id C2
  show yEndsW p e below s0 T0 (mkF m 0 #[.val (.long ja), .second, .val (.long jb), .second, iv mm, iv w, .unset, .unset, .unset, .unset, .unset, .unset, .unset, .unset, .unset, .unset, .unset, .unset, .unset, .unset, .unset, .unset, .unset] []) _ _ _
  refine ylloadN X0 hx hby at_0 rfl (yldc2J X0 hx hby at_1 (9223372036854775807 : Int64) hZ hown (w0 hw) (yland X0 hx hby at_4 (Int64.ofNat (cc)) a_c (ylstore X0 hx hby at_5 (L' := #[.val (.long ja), .second, .val (.long jb), .second, iv mm, iv w, .val (.long (Int64.ofNat (cc))), .second, .unset, .unset, .unset, .unset, .unset, .unset, .unset, .unset, .unset, .unset, .unset, .unset, .unset, .unset, .unset]) rfl (ylloadN X0 hx hby at_7 rfl (yldc2J X0 hx hby at_8 (9223372036854775807 : Int64) hZ hown (w0 hw) (yland X0 hx hby at_11 (Int64.ofNat (ii)) a_i (ylstore X0 hx hby at_12 (L' := #[.val (.long ja), .second, .val (.long jb), .second, iv mm, iv w, .val (.long (Int64.ofNat (cc))), .second, .val (.long (Int64.ofNat (ii))), .second, .unset, .unset, .unset, .unset, .unset, .unset, .unset, .unset, .unset, .unset, .unset, .unset, .unset]) rfl (yiload X0 hx hby at_14 rfl (yiconst X0 hx hby at_16 (z := (3 : Int32)) rfl ?_)))))))))
  show yEndsW p e below s0 T0 (mkF m 17 #[.val (.long ja), .second, .val (.long jb), .second, iv mm, iv w, .val (.long (Int64.ofNat (cc))), .second, .val (.long (Int64.ofNat (ii))), .second, .unset, .unset, .unset, .unset, .unset, .unset, .unset, .unset, .unset, .unset, .unset, .unset, .unset] [(.int 3), (.int mm)]) _ _ _
  refine yiand X0 hx hby at_17 (mm &&& (3 : Int32)) rfl ?_
  show yEndsW p e below s0 T0 (mkF m 18 #[.val (.long ja), .second, .val (.long jb), .second, iv mm, iv w, .val (.long (Int64.ofNat (cc))), .second, .val (.long (Int64.ofNat (ii))), .second, .unset, .unset, .unset, .unset, .unset, .unset, .unset, .unset, .unset, .unset, .unset, .unset, .unset] [(.int (mm &&& (3 : Int32)))]) _ _ _
  rcases (and_3 mm) with q1 | q1 | q1 | q1
  · rw [q1]
    refine yistore X0 hx hby at_18 (L' := #[.val (.long ja), .second, .val (.long jb), .second, iv mm, iv w, .val (.long (Int64.ofNat (cc))), .second, .val (.long (Int64.ofNat (ii))), .second, iv 0, .unset, .unset, .unset, .unset, .unset, .unset, .unset, .unset, .unset, .unset, .unset, .unset]) rfl (ynewobj X0 hx hby at_20 hZ hown (w1 hw) (w2 hw) (w3 hw) e0 (by first | decide | omega | (dsimp only; omega)) (by first | decide | omega | (dsimp only; omega)) fun T2 h2 b2 X2 e2 y2 Ex2 E2_b2 D2 => ?_)
    have O2 := O0.ext Ex2
    have K2 := Keep.ext K0 Ex2
    have hS := hS.ext Ex2
    have g2 : n0 ≤ b2 := by rw [y2]; exact zodsz O0
    have z2 : h0.size ≤ b2 := by rw [y2]; exact K0.1
    have F2_b2_modCount : Fld Z h2 b2 "java/util/AbstractList" "modCount" "I" (.int 0) := D2 (Or.inl (w23 hw)) (ty := .int) (by decide)
    have F2_b2_elementData : Fld Z h2 b2 "java/util/ArrayList" "elementData" "[Ljava/lang/Object;" .null := D2 (Or.inl (w26 hw)) (ty := (.array (.object "java/lang/Object"))) (by decide)
    have F2_b2_size : Fld Z h2 b2 "java/util/ArrayList" "size" "I" (.int 0) := D2 (Or.inl (w62 hw)) (ty := .int) (by decide)
    refine ydup X2 hx hby at_23 rfl (ycallsp X2 hx hby at_24 hZ hown rfl (w4 hw) (w5 hw) (w6 hw) (w3 hw) e2 (c0_init l hw [] C2 (odold hz O2) (zodsz O2) b2 g2 E2_b2 F2_b2_modCount F2_b2_elementData F2_b2_size) hml 1 pd_29 (argsL := []) (st := [(.ref b2)]) fun T3 h3 v3 L3 e3 X3 q3 => ?_)
    obtain ⟨rfl, N3q, K3q, E3_b2, F3_b2_modCount, F3_b2_elementData, F3_b2_size⟩ := q3
    have O3 := O2.keep K3q (allS g2 all0)
    have K3 := Keep.trans K2 K3q (allS (Or.inr z2) all0)
    have N3 := Fr.app N0 N3q
    have hS := hS.keep K3q
    refine yastore X3 hx hby at_27 (hv := rfl) (L' := #[.val (.long ja), .second, .val (.long jb), .second, iv mm, iv w, .val (.long (Int64.ofNat (cc))), .second, .val (.long (Int64.ofNat (ii))), .second, iv 0, rv b2, .unset, .unset, .unset, .unset, .unset, .unset, .unset, .unset, .unset, .unset, .unset]) rfl (yiload X3 hx hby at_29 rfl (yifYes X3 hx hby at_31 50 (by decide) (by decide) (by decide) (yiload X3 hx hby at_50 rfl (yiconst X3 hx hby at_52 (z := (1 : Int32)) rfl (yicmpYes X3 hx hby at_53 75 (by decide) (by decide) (by decide) (yiload X3 hx hby at_75 rfl (yiconst X3 hx hby at_77 (z := (2 : Int32)) rfl (yicmpYes X3 hx hby at_78 100 (by decide) (by decide) (by decide) (ynewobj X3 hx hby at_100 hZ hown (w27 hw) (w28 hw) (w29 hw) e3 (by first | decide | omega | (dsimp only; omega)) (by first | decide | omega | (dsimp only; omega)) fun T4 h4 b4 X4 e4 y4 Ex4 E4_b4 D4 => ?_)))))))))
    have F4_b2_modCount := F3_b2_modCount.ext Ex4
    have F4_b2_elementData := F3_b2_elementData.ext Ex4
    have F4_b2_size := F3_b2_size.ext Ex4
    have E4_b2 := E3_b2.ext Ex4
    have O4 := O3.ext Ex4
    have K4 := Keep.ext K3 Ex4
    have hS := hS.ext Ex4
    have ne4_b2 : b2 ≠ b4 := Nat.ne_of_lt (Nat.lt_of_lt_of_eq E3_b2.lt y4.symm)
    have g4 : n0 ≤ b4 := by rw [y4]; exact zodsz O3
    have z4 : h0.size ≤ b4 := by rw [y4]; exact K3.1
    have F4_b4_completed : Fld Z h4 b4 "com/example/kick/kick/value/CloseReport" "completed" "J" (.long 0) := D4 (Or.inr (w35 hw)) (ty := .long) (by decide)
    have F4_b4_interrupted : Fld Z h4 b4 "com/example/kick/kick/value/CloseReport" "interrupted" "J" (.long 0) := D4 (Or.inr (w37 hw)) (ty := .long) (by decide)
    have F4_b4_notStartedTasks : Fld Z h4 b4 "com/example/kick/kick/value/CloseReport" "notStartedTasks" "Ljava/util/List;" .null := D4 (Or.inr (w68 hw)) (ty := (.object "java/util/List")) (by decide)
    refine ydup X4 hx hby at_103 rfl (ylload X4 hx hby at_104 rfl (ylload X4 hx hby at_106 rfl (yaload X4 hx hby at_108 rfl rfl ?_)))
    show yEndsW p e below s0 T4 (mkF m 110 #[.val (.long ja), .second, .val (.long jb), .second, iv mm, iv w, .val (.long (Int64.ofNat (cc))), .second, .val (.long (Int64.ofNat (ii))), .second, iv 0, rv b2, .unset, .unset, .unset, .unset, .unset, .unset, .unset, .unset, .unset, .unset, .unset] [(.ref b2), (.long (Int64.ofNat (ii))), (.long (Int64.ofNat (cc))), (.ref b4), (.ref b4)]) _ _ _
    refine ycallsp X4 hx hby at_110 hZ hown rfl (w30 hw) (w31 hw) (w32 hw) (w29 hw) e4 (c_crinit l hw  C O4 b4 E4_b4 F4_b4_completed F4_b4_interrupted F4_b4_notStartedTasks g4 (cc) (ii) (by omega) (by omega) b2 0 (fun h' K => zCon.weak (c6_listCopy l hw [] C2 (odold hz (O4.keep K (allS g4 all0))) (zodsz (O4.keep K (allS g4 all0))) b2 g2 (E4_b2.keep K) (F4_b2_modCount.keep K (ninS ne4_b2 nin0)) (F4_b2_elementData.keep K (ninS ne4_b2 nin0)) (F4_b2_size.keep K (ninS ne4_b2 nin0))) fun v h L q => by obtain ⟨rfl, rfl, rfl⟩ := q; exact ⟨wl, rfl, Fr.nil _, Keep.refl _ _, Or.inl ⟨we, [], E_wl.ext (O4.keep K (allS g4 all0)).2.2, F_wl_elements.ext (O4.keep K (allS g4 all0)).2.2, E_we.ext (O4.keep K (allS g4 all0)).2.2, A_we.ext (O4.keep K (allS g4 all0)).2.2, rfl⟩⟩)) hml 1 pd_37 (argsL := [(.long (Int64.ofNat (cc))), (.long (Int64.ofNat (ii))), (.ref b2)]) (st := [(.ref b4)]) fun T5 h5 v5 L5 e5 X5 q5 => ?_
    obtain ⟨rfl, N5q, K5q, E5_o, F5_c, F5_i, hN⟩ := q5
    have O5 := O4.keep K5q (allS g4 all0)
    have K5 := Keep.trans K4 K5q (allS (Or.inr z4) all0)
    have hS := hS.keep K5q
    have N5 := Fr.app N3 N5q
    refine yastore X5 hx hby at_113 (hv := rfl) (L' := #[.val (.long ja), .second, .val (.long jb), .second, iv mm, iv w, .val (.long (Int64.ofNat (cc))), .second, .val (.long (Int64.ofNat (ii))), .second, iv 0, rv b2, rv b4, .unset, .unset, .unset, .unset, .unset, .unset, .unset, .unset, .unset, .unset]) rfl ?_
    show yEndsW p e below s0 T5 (mkF m 115 #[.val (.long ja), .second, .val (.long jb), .second, iv mm, iv w, .val (.long (Int64.ofNat (cc))), .second, .val (.long (Int64.ofNat (ii))), .second, iv 0, rv b2, rv b4, .unset, .unset, .unset, .unset, .unset, .unset, .unset, .unset, .unset, .unset] []) _ _ _
    exact tail X5 (by decide) (by decide) hx hZ hw hby hml hown hret hlk C e5 O0 O5 K5 N5 hS (CHv.keep K5 all0 H0) vf hvf S_vf _ 0 _ hcc (by decide) hii _ E5_o F5_c F5_i hN
  · rw [q1]
    refine yistore X0 hx hby at_18 (L' := #[.val (.long ja), .second, .val (.long jb), .second, iv mm, iv w, .val (.long (Int64.ofNat (cc))), .second, .val (.long (Int64.ofNat (ii))), .second, iv 1, .unset, .unset, .unset, .unset, .unset, .unset, .unset, .unset, .unset, .unset, .unset, .unset]) rfl (ynewobj X0 hx hby at_20 hZ hown (w1 hw) (w2 hw) (w3 hw) e0 (by first | decide | omega | (dsimp only; omega)) (by first | decide | omega | (dsimp only; omega)) fun T6 h6 b6 X6 e6 y6 Ex6 E6_b6 D6 => ?_)
    have O6 := O0.ext Ex6
    have K6 := Keep.ext K0 Ex6
    have hS := hS.ext Ex6
    have g6 : n0 ≤ b6 := by rw [y6]; exact zodsz O0
    have z6 : h0.size ≤ b6 := by rw [y6]; exact K0.1
    have F6_b6_modCount : Fld Z h6 b6 "java/util/AbstractList" "modCount" "I" (.int 0) := D6 (Or.inl (w23 hw)) (ty := .int) (by decide)
    have F6_b6_elementData : Fld Z h6 b6 "java/util/ArrayList" "elementData" "[Ljava/lang/Object;" .null := D6 (Or.inl (w26 hw)) (ty := (.array (.object "java/lang/Object"))) (by decide)
    have F6_b6_size : Fld Z h6 b6 "java/util/ArrayList" "size" "I" (.int 0) := D6 (Or.inl (w62 hw)) (ty := .int) (by decide)
    refine ydup X6 hx hby at_23 rfl (ycallsp X6 hx hby at_24 hZ hown rfl (w4 hw) (w5 hw) (w6 hw) (w3 hw) e6 (c0_init l hw [] C2 (odold hz O6) (zodsz O6) b6 g6 E6_b6 F6_b6_modCount F6_b6_elementData F6_b6_size) hml 1 pd_29 (argsL := []) (st := [(.ref b6)]) fun T7 h7 v7 L7 e7 X7 q7 => ?_)
    obtain ⟨rfl, N7q, K7q, E7_b6, F7_b6_modCount, F7_b6_elementData, F7_b6_size⟩ := q7
    have O7 := O6.keep K7q (allS g6 all0)
    have K7 := Keep.trans K6 K7q (allS (Or.inr z6) all0)
    have N7 := Fr.app N0 N7q
    have hS := hS.keep K7q
    refine yastore X7 hx hby at_27 (hv := rfl) (L' := #[.val (.long ja), .second, .val (.long jb), .second, iv mm, iv w, .val (.long (Int64.ofNat (cc))), .second, .val (.long (Int64.ofNat (ii))), .second, iv 1, rv b6, .unset, .unset, .unset, .unset, .unset, .unset, .unset, .unset, .unset, .unset, .unset]) rfl (yiload X7 hx hby at_29 rfl (yifNo X7 hx hby at_31 (by decide) (yaload X7 hx hby at_34 rfl rfl (yiload X7 hx hby at_36 rfl (ysipush X7 hx hby at_38 (z := (255 : Int32)) rfl ?_)))))
    show yEndsW p e below s0 T7 (mkF m 41 #[.val (.long ja), .second, .val (.long jb), .second, iv mm, iv w, .val (.long (Int64.ofNat (cc))), .second, .val (.long (Int64.ofNat (ii))), .second, iv 1, rv b6, .unset, .unset, .unset, .unset, .unset, .unset, .unset, .unset, .unset, .unset, .unset] [(.int 255), (.int w), (.ref b6)]) _ _ _
    obtain ⟨k8, hk8, a8⟩ := and255 w
    refine yiand X7 hx hby at_41 (Int32.ofNat (k8)) a8 (yi2c X7 hx hby at_42 (Int32.ofNat (k8)) (i2c_ofN (by omega)) ?_)
    show yEndsW p e below s0 T7 (mkF m 43 #[.val (.long ja), .second, .val (.long jb), .second, iv mm, iv w, .val (.long (Int64.ofNat (cc))), .second, .val (.long (Int64.ofNat (ii))), .second, iv 1, rv b6, .unset, .unset, .unset, .unset, .unset, .unset, .unset, .unset, .unset, .unset, .unset] [(.int (Int32.ofNat (k8))), (.ref b6)]) _ _ _
    refine ycalls X7 hx hby at_43 hZ hown (w303 hw) (w304 hw) (w88 hw) (w305 hw) e7 (c_valof l hw  C O7 (k8) (by omega)) hml 1 pd_38 (argsL := [(.int (Int32.ofNat (k8)))]) (st := [(.ref b6)]) fun T9 h9 v9 L9 e9 X9 q9 => ?_
    obtain ⟨b9, rfl, N9q, K9q, y9, g9, E9_b9⟩ := q9
    have F9_b6_modCount := F7_b6_modCount.keep K9q nin0
    have F9_b6_elementData := F7_b6_elementData.keep K9q nin0
    have F9_b6_size := F7_b6_size.keep K9q nin0
    have E9_b6 := E7_b6.keep K9q
    have O9 := O7.keep K9q all0
    have K9 := Keep.trans K7 K9q all0
    have hS := hS.keep K9q
    have N9 := Fr.app N7 N9q
    refine ycallv X9 hx hby at_46 hZ hown (w316 hw) (w317 hw) (notFace_of_selects (args := #[]) (mvT hZ (w319 hw))) (w319 hw) (w318 hw) (w320 hw) (w3 hw) e9 E9_b6 (c12_add l hw [] C2 (odold hz O9) (zodsz O9) b6 b9 g6 E9_b6 F9_b6_modCount F9_b6_elementData F9_b6_size g9 E9_b9) hml 0 pd_42 (argsL := [(.ref b9)]) (st := []) fun T10 h10 v10 L10 e10 X10 q10 => ?_
    obtain ⟨b10_b5_b1_b2_b5, rfl, N10q, K10q, E10_b6, F10_b6_modCount, F10_b6_elementData, F10_b6_size, g10_b10_b5_b1_b2_b5, y10_b10_b5_b1_b2_b5, E10_b10_b5_b1_b2_b5, A10_b10_b5_b1_b2_b5⟩ := q10
    have E10_b9 := E9_b9.keep K10q
    have O10 := O9.keep K10q (allS g6 all0)
    have K10 := Keep.trans K9 K10q (allS (Or.inr z6) all0)
    have N10 := Fr.app N9 N10q
    have hS := hS.keep K10q
    refine ypop X10 hx hby at_49 rfl (yiload X10 hx hby at_50 rfl (yiconst X10 hx hby at_52 (z := (1 : Int32)) rfl (yicmpYes X10 hx hby at_53 75 (by decide) (by decide) (by decide) (yiload X10 hx hby at_75 rfl (yiconst X10 hx hby at_77 (z := (2 : Int32)) rfl (yicmpYes X10 hx hby at_78 100 (by decide) (by decide) (by decide) (ynewobj X10 hx hby at_100 hZ hown (w27 hw) (w28 hw) (w29 hw) e10 (by first | decide | omega | (dsimp only; omega)) (by first | decide | omega | (dsimp only; omega)) fun T11 h11 b11 X11 e11 y11 Ex11 E11_b11 D11 => ?_)))))))
    have F11_b6_modCount := F10_b6_modCount.ext Ex11
    have F11_b6_elementData := F10_b6_elementData.ext Ex11
    have F11_b6_size := F10_b6_size.ext Ex11
    have E11_b6 := E10_b6.ext Ex11
    have E11_b9 := E10_b9.ext Ex11
    have E11_b10_b5_b1_b2_b5 := E10_b10_b5_b1_b2_b5.ext Ex11
    have A11_b10_b5_b1_b2_b5 := A10_b10_b5_b1_b2_b5.ext Ex11
    have O11 := O10.ext Ex11
    have K11 := Keep.ext K10 Ex11
    have hS := hS.ext Ex11
    have ne11_b6 : b6 ≠ b11 := Nat.ne_of_lt (Nat.lt_of_lt_of_eq E10_b6.lt y11.symm)
    have ne11_b10_b5_b1_b2_b5 : b10_b5_b1_b2_b5 ≠ b11 := Nat.ne_of_lt (Nat.lt_of_lt_of_eq E10_b10_b5_b1_b2_b5.lt y11.symm)
    have g11 : n0 ≤ b11 := by rw [y11]; exact zodsz O10
    have z11 : h0.size ≤ b11 := by rw [y11]; exact K10.1
    have F11_b11_completed : Fld Z h11 b11 "com/example/kick/kick/value/CloseReport" "completed" "J" (.long 0) := D11 (Or.inr (w35 hw)) (ty := .long) (by decide)
    have F11_b11_interrupted : Fld Z h11 b11 "com/example/kick/kick/value/CloseReport" "interrupted" "J" (.long 0) := D11 (Or.inr (w37 hw)) (ty := .long) (by decide)
    have F11_b11_notStartedTasks : Fld Z h11 b11 "com/example/kick/kick/value/CloseReport" "notStartedTasks" "Ljava/util/List;" .null := D11 (Or.inr (w68 hw)) (ty := (.object "java/util/List")) (by decide)
    refine ydup X11 hx hby at_103 rfl (ylload X11 hx hby at_104 rfl (ylload X11 hx hby at_106 rfl (yaload X11 hx hby at_108 rfl rfl ?_)))
    show yEndsW p e below s0 T11 (mkF m 110 #[.val (.long ja), .second, .val (.long jb), .second, iv mm, iv w, .val (.long (Int64.ofNat (cc))), .second, .val (.long (Int64.ofNat (ii))), .second, iv 1, rv b6, .unset, .unset, .unset, .unset, .unset, .unset, .unset, .unset, .unset, .unset, .unset] [(.ref b6), (.long (Int64.ofNat (ii))), (.long (Int64.ofNat (cc))), (.ref b11), (.ref b11)]) _ _ _
    refine ycallsp X11 hx hby at_110 hZ hown rfl (w30 hw) (w31 hw) (w32 hw) (w29 hw) e11 (c_crinit l hw  C O11 b11 E11_b11 F11_b11_completed F11_b11_interrupted F11_b11_notStartedTasks g11 (cc) (ii) (by omega) (by omega) b6 1 (fun h' K => zCon.weak (c22_listCopy l hw [] C2 (odold hz (O11.keep K (allS g11 all0))) (zodsz (O11.keep K (allS g11 all0))) b6 b10_b5_b1_b2_b5 b9 g6 (E11_b6.keep K) (F11_b6_modCount.keep K (ninS ne11_b6 nin0)) (F11_b6_elementData.keep K (ninS ne11_b6 nin0)) (F11_b6_size.keep K (ninS ne11_b6 nin0)) g10_b10_b5_b1_b2_b5 (E11_b10_b5_b1_b2_b5.keep K) (A11_b10_b5_b1_b2_b5.keep K (ninS ne11_b10_b5_b1_b2_b5 nin0)) g9 (E11_b9.keep K)) fun v h L q => by obtain ⟨b4_b3_b2_b2, b5_b1, rfl, N, K_, _, _, E_b4_b3_b2_b2, A_b4_b3_b2_b2, _, _, E_b5_b1, F_b5_b1_e0, F_b5_b1_e1⟩ := q; exact ⟨b5_b1, rfl, N, K_, Or.inr (Or.inl ⟨rfl, E_b5_b1, em, S_em, F_b5_b1_e1⟩)⟩)) hml 1 pd_37 (argsL := [(.long (Int64.ofNat (cc))), (.long (Int64.ofNat (ii))), (.ref b6)]) (st := [(.ref b11)]) fun T12 h12 v12 L12 e12 X12 q12 => ?_
    obtain ⟨rfl, N12q, K12q, E12_o, F12_c, F12_i, hN⟩ := q12
    have O12 := O11.keep K12q (allS g11 all0)
    have K12 := Keep.trans K11 K12q (allS (Or.inr z11) all0)
    have hS := hS.keep K12q
    have N12 := Fr.app N10 N12q
    refine yastore X12 hx hby at_113 (hv := rfl) (L' := #[.val (.long ja), .second, .val (.long jb), .second, iv mm, iv w, .val (.long (Int64.ofNat (cc))), .second, .val (.long (Int64.ofNat (ii))), .second, iv 1, rv b6, rv b11, .unset, .unset, .unset, .unset, .unset, .unset, .unset, .unset, .unset, .unset]) rfl ?_
    show yEndsW p e below s0 T12 (mkF m 115 #[.val (.long ja), .second, .val (.long jb), .second, iv mm, iv w, .val (.long (Int64.ofNat (cc))), .second, .val (.long (Int64.ofNat (ii))), .second, iv 1, rv b6, rv b11, .unset, .unset, .unset, .unset, .unset, .unset, .unset, .unset, .unset, .unset] []) _ _ _
    exact tail X12 (by decide) (by decide) hx hZ hw hby hml hown hret hlk C e12 O0 O12 K12 N12 hS (CHv.keep K12 all0 H0) vf hvf S_vf _ 1 _ hcc (by decide) hii _ E12_o F12_c F12_i hN
  · rw [q1]
    refine yistore X0 hx hby at_18 (L' := #[.val (.long ja), .second, .val (.long jb), .second, iv mm, iv w, .val (.long (Int64.ofNat (cc))), .second, .val (.long (Int64.ofNat (ii))), .second, iv 2, .unset, .unset, .unset, .unset, .unset, .unset, .unset, .unset, .unset, .unset, .unset, .unset]) rfl (ynewobj X0 hx hby at_20 hZ hown (w1 hw) (w2 hw) (w3 hw) e0 (by first | decide | omega | (dsimp only; omega)) (by first | decide | omega | (dsimp only; omega)) fun T13 h13 b13 X13 e13 y13 Ex13 E13_b13 D13 => ?_)
    have O13 := O0.ext Ex13
    have K13 := Keep.ext K0 Ex13
    have hS := hS.ext Ex13
    have g13 : n0 ≤ b13 := by rw [y13]; exact zodsz O0
    have z13 : h0.size ≤ b13 := by rw [y13]; exact K0.1
    have F13_b13_modCount : Fld Z h13 b13 "java/util/AbstractList" "modCount" "I" (.int 0) := D13 (Or.inl (w23 hw)) (ty := .int) (by decide)
    have F13_b13_elementData : Fld Z h13 b13 "java/util/ArrayList" "elementData" "[Ljava/lang/Object;" .null := D13 (Or.inl (w26 hw)) (ty := (.array (.object "java/lang/Object"))) (by decide)
    have F13_b13_size : Fld Z h13 b13 "java/util/ArrayList" "size" "I" (.int 0) := D13 (Or.inl (w62 hw)) (ty := .int) (by decide)
    refine ydup X13 hx hby at_23 rfl (ycallsp X13 hx hby at_24 hZ hown rfl (w4 hw) (w5 hw) (w6 hw) (w3 hw) e13 (c0_init l hw [] C2 (odold hz O13) (zodsz O13) b13 g13 E13_b13 F13_b13_modCount F13_b13_elementData F13_b13_size) hml 1 pd_29 (argsL := []) (st := [(.ref b13)]) fun T14 h14 v14 L14 e14 X14 q14 => ?_)
    obtain ⟨rfl, N14q, K14q, E14_b13, F14_b13_modCount, F14_b13_elementData, F14_b13_size⟩ := q14
    have O14 := O13.keep K14q (allS g13 all0)
    have K14 := Keep.trans K13 K14q (allS (Or.inr z13) all0)
    have N14 := Fr.app N0 N14q
    have hS := hS.keep K14q
    refine yastore X14 hx hby at_27 (hv := rfl) (L' := #[.val (.long ja), .second, .val (.long jb), .second, iv mm, iv w, .val (.long (Int64.ofNat (cc))), .second, .val (.long (Int64.ofNat (ii))), .second, iv 2, rv b13, .unset, .unset, .unset, .unset, .unset, .unset, .unset, .unset, .unset, .unset, .unset]) rfl (yiload X14 hx hby at_29 rfl (yifNo X14 hx hby at_31 (by decide) (yaload X14 hx hby at_34 rfl rfl (yiload X14 hx hby at_36 rfl (ysipush X14 hx hby at_38 (z := (255 : Int32)) rfl ?_)))))
    show yEndsW p e below s0 T14 (mkF m 41 #[.val (.long ja), .second, .val (.long jb), .second, iv mm, iv w, .val (.long (Int64.ofNat (cc))), .second, .val (.long (Int64.ofNat (ii))), .second, iv 2, rv b13, .unset, .unset, .unset, .unset, .unset, .unset, .unset, .unset, .unset, .unset, .unset] [(.int 255), (.int w), (.ref b13)]) _ _ _
    obtain ⟨k15, hk15, a15⟩ := and255 w
    refine yiand X14 hx hby at_41 (Int32.ofNat (k15)) a15 (yi2c X14 hx hby at_42 (Int32.ofNat (k15)) (i2c_ofN (by omega)) ?_)
    show yEndsW p e below s0 T14 (mkF m 43 #[.val (.long ja), .second, .val (.long jb), .second, iv mm, iv w, .val (.long (Int64.ofNat (cc))), .second, .val (.long (Int64.ofNat (ii))), .second, iv 2, rv b13, .unset, .unset, .unset, .unset, .unset, .unset, .unset, .unset, .unset, .unset, .unset] [(.int (Int32.ofNat (k15))), (.ref b13)]) _ _ _
    refine ycalls X14 hx hby at_43 hZ hown (w303 hw) (w304 hw) (w88 hw) (w305 hw) e14 (c_valof l hw  C O14 (k15) (by omega)) hml 1 pd_38 (argsL := [(.int (Int32.ofNat (k15)))]) (st := [(.ref b13)]) fun T16 h16 v16 L16 e16 X16 q16 => ?_
    obtain ⟨b16, rfl, N16q, K16q, y16, g16, E16_b16⟩ := q16
    have F16_b13_modCount := F14_b13_modCount.keep K16q nin0
    have F16_b13_elementData := F14_b13_elementData.keep K16q nin0
    have F16_b13_size := F14_b13_size.keep K16q nin0
    have E16_b13 := E14_b13.keep K16q
    have O16 := O14.keep K16q all0
    have K16 := Keep.trans K14 K16q all0
    have hS := hS.keep K16q
    have N16 := Fr.app N14 N16q
    refine ycallv X16 hx hby at_46 hZ hown (w316 hw) (w317 hw) (notFace_of_selects (args := #[]) (mvT hZ (w319 hw))) (w319 hw) (w318 hw) (w320 hw) (w3 hw) e16 E16_b13 (c12_add l hw [] C2 (odold hz O16) (zodsz O16) b13 b16 g13 E16_b13 F16_b13_modCount F16_b13_elementData F16_b13_size g16 E16_b16) hml 0 pd_42 (argsL := [(.ref b16)]) (st := []) fun T17 h17 v17 L17 e17 X17 q17 => ?_
    obtain ⟨b17_b5_b1_b2_b5, rfl, N17q, K17q, E17_b13, F17_b13_modCount, F17_b13_elementData, F17_b13_size, g17_b17_b5_b1_b2_b5, y17_b17_b5_b1_b2_b5, E17_b17_b5_b1_b2_b5, A17_b17_b5_b1_b2_b5⟩ := q17
    have E17_b16 := E16_b16.keep K17q
    have O17 := O16.keep K17q (allS g13 all0)
    have K17 := Keep.trans K16 K17q (allS (Or.inr z13) all0)
    have z17_b17_b5_b1_b2_b5 : h0.size ≤ b17_b5_b1_b2_b5 := Nat.le_trans K16.1 y17_b17_b5_b1_b2_b5
    have N17 := Fr.app N16 N17q
    have hS := hS.keep K17q
    refine ypop X17 hx hby at_49 rfl (yiload X17 hx hby at_50 rfl (yiconst X17 hx hby at_52 (z := (1 : Int32)) rfl (yicmpNo X17 hx hby at_53 (by decide) (yaload X17 hx hby at_56 rfl rfl (yiload X17 hx hby at_58 rfl (ybipush X17 hx hby at_60 (z := (8 : Int32)) rfl (yiushr X17 hx hby at_62 ((w.toUInt32 >>> ((8 : Int32) &&& 31).toUInt32).toInt32) rfl (ysipush X17 hx hby at_63 (z := (255 : Int32)) rfl ?_))))))))
    show yEndsW p e below s0 T17 (mkF m 66 #[.val (.long ja), .second, .val (.long jb), .second, iv mm, iv w, .val (.long (Int64.ofNat (cc))), .second, .val (.long (Int64.ofNat (ii))), .second, iv 2, rv b13, .unset, .unset, .unset, .unset, .unset, .unset, .unset, .unset, .unset, .unset, .unset] [(.int 255), (.int ((w.toUInt32 >>> ((8 : Int32) &&& 31).toUInt32).toInt32)), (.ref b13)]) _ _ _
    obtain ⟨k18, hk18, a18⟩ := and255 ((w.toUInt32 >>> ((8 : Int32) &&& 31).toUInt32).toInt32)
    refine yiand X17 hx hby at_66 (Int32.ofNat (k18)) a18 (yi2c X17 hx hby at_67 (Int32.ofNat (k18)) (i2c_ofN (by omega)) ?_)
    show yEndsW p e below s0 T17 (mkF m 68 #[.val (.long ja), .second, .val (.long jb), .second, iv mm, iv w, .val (.long (Int64.ofNat (cc))), .second, .val (.long (Int64.ofNat (ii))), .second, iv 2, rv b13, .unset, .unset, .unset, .unset, .unset, .unset, .unset, .unset, .unset, .unset, .unset] [(.int (Int32.ofNat (k18))), (.ref b13)]) _ _ _
    refine ycalls X17 hx hby at_68 hZ hown (w303 hw) (w304 hw) (w88 hw) (w305 hw) e17 (c_valof l hw  C O17 (k18) (by omega)) hml 1 pd_38 (argsL := [(.int (Int32.ofNat (k18)))]) (st := [(.ref b13)]) fun T19 h19 v19 L19 e19 X19 q19 => ?_
    obtain ⟨b19, rfl, N19q, K19q, y19, g19, E19_b19⟩ := q19
    have F19_b13_modCount := F17_b13_modCount.keep K19q nin0
    have F19_b13_elementData := F17_b13_elementData.keep K19q nin0
    have F19_b13_size := F17_b13_size.keep K19q nin0
    have E19_b13 := E17_b13.keep K19q
    have E19_b16 := E17_b16.keep K19q
    have E19_b17_b5_b1_b2_b5 := E17_b17_b5_b1_b2_b5.keep K19q
    have A19_b17_b5_b1_b2_b5 := A17_b17_b5_b1_b2_b5.keep K19q nin0
    have O19 := O17.keep K19q all0
    have K19 := Keep.trans K17 K19q all0
    have hS := hS.keep K19q
    have N19 := Fr.app N17 N19q
    refine ycallv X19 hx hby at_71 hZ hown (w316 hw) (w317 hw) (notFace_of_selects (args := #[]) (mvT hZ (w319 hw))) (w319 hw) (w318 hw) (w320 hw) (w3 hw) e19 E19_b13 (c46_add l hw [] C2 (odold hz O19) (zodsz O19) b13 b19 b17_b5_b1_b2_b5 b16 g13 E19_b13 F19_b13_modCount F19_b13_elementData F19_b13_size g19 E19_b19 g17_b17_b5_b1_b2_b5 E19_b17_b5_b1_b2_b5 A19_b17_b5_b1_b2_b5 g16 E19_b16) hml 0 pd_42 (argsL := [(.ref b19)]) (st := []) fun T20 h20 v20 L20 e20 X20 q20 => ?_
    obtain ⟨rfl, N20q, K20q, E20_b13, F20_b13_modCount, F20_b13_elementData, F20_b13_size, E20_b17_b5_b1_b2_b5, A20_b17_b5_b1_b2_b5⟩ := q20
    have E20_b16 := E19_b16.keep K20q
    have E20_b19 := E19_b19.keep K20q
    have O20 := O19.keep K20q (allS g13 (allS g17_b17_b5_b1_b2_b5 all0))
    have K20 := Keep.trans K19 K20q (allS (Or.inr z13) (allS (Or.inr z17_b17_b5_b1_b2_b5) all0))
    have N20 := Fr.app N19 N20q
    have hS := hS.keep K20q
    refine ypop X20 hx hby at_74 rfl (yiload X20 hx hby at_75 rfl (yiconst X20 hx hby at_77 (z := (2 : Int32)) rfl (yicmpYes X20 hx hby at_78 100 (by decide) (by decide) (by decide) (ynewobj X20 hx hby at_100 hZ hown (w27 hw) (w28 hw) (w29 hw) e20 (by first | decide | omega | (dsimp only; omega)) (by first | decide | omega | (dsimp only; omega)) fun T21 h21 b21 X21 e21 y21 Ex21 E21_b21 D21 => ?_))))
    have F21_b13_modCount := F20_b13_modCount.ext Ex21
    have F21_b13_elementData := F20_b13_elementData.ext Ex21
    have F21_b13_size := F20_b13_size.ext Ex21
    have E21_b13 := E20_b13.ext Ex21
    have E21_b16 := E20_b16.ext Ex21
    have E21_b17_b5_b1_b2_b5 := E20_b17_b5_b1_b2_b5.ext Ex21
    have A21_b17_b5_b1_b2_b5 := A20_b17_b5_b1_b2_b5.ext Ex21
    have E21_b19 := E20_b19.ext Ex21
    have O21 := O20.ext Ex21
    have K21 := Keep.ext K20 Ex21
    have hS := hS.ext Ex21
    have ne21_b13 : b13 ≠ b21 := Nat.ne_of_lt (Nat.lt_of_lt_of_eq E20_b13.lt y21.symm)
    have ne21_b17_b5_b1_b2_b5 : b17_b5_b1_b2_b5 ≠ b21 := Nat.ne_of_lt (Nat.lt_of_lt_of_eq E20_b17_b5_b1_b2_b5.lt y21.symm)
    have g21 : n0 ≤ b21 := by rw [y21]; exact zodsz O20
    have z21 : h0.size ≤ b21 := by rw [y21]; exact K20.1
    have F21_b21_completed : Fld Z h21 b21 "com/example/kick/kick/value/CloseReport" "completed" "J" (.long 0) := D21 (Or.inr (w35 hw)) (ty := .long) (by decide)
    have F21_b21_interrupted : Fld Z h21 b21 "com/example/kick/kick/value/CloseReport" "interrupted" "J" (.long 0) := D21 (Or.inr (w37 hw)) (ty := .long) (by decide)
    have F21_b21_notStartedTasks : Fld Z h21 b21 "com/example/kick/kick/value/CloseReport" "notStartedTasks" "Ljava/util/List;" .null := D21 (Or.inr (w68 hw)) (ty := (.object "java/util/List")) (by decide)
    refine ydup X21 hx hby at_103 rfl (ylload X21 hx hby at_104 rfl (ylload X21 hx hby at_106 rfl (yaload X21 hx hby at_108 rfl rfl ?_)))
    show yEndsW p e below s0 T21 (mkF m 110 #[.val (.long ja), .second, .val (.long jb), .second, iv mm, iv w, .val (.long (Int64.ofNat (cc))), .second, .val (.long (Int64.ofNat (ii))), .second, iv 2, rv b13, .unset, .unset, .unset, .unset, .unset, .unset, .unset, .unset, .unset, .unset, .unset] [(.ref b13), (.long (Int64.ofNat (ii))), (.long (Int64.ofNat (cc))), (.ref b21), (.ref b21)]) _ _ _
    refine ycallsp X21 hx hby at_110 hZ hown rfl (w30 hw) (w31 hw) (w32 hw) (w29 hw) e21 (c_crinit l hw  C O21 b21 E21_b21 F21_b21_completed F21_b21_interrupted F21_b21_notStartedTasks g21 (cc) (ii) (by omega) (by omega) b13 2 (fun h' K => zCon.weak (c50_listCopy l hw [] C2 (odold hz (O21.keep K (allS g21 all0))) (zodsz (O21.keep K (allS g21 all0))) b13 b17_b5_b1_b2_b5 b16 b19 g13 (E21_b13.keep K) (F21_b13_modCount.keep K (ninS ne21_b13 nin0)) (F21_b13_elementData.keep K (ninS ne21_b13 nin0)) (F21_b13_size.keep K (ninS ne21_b13 nin0)) g17_b17_b5_b1_b2_b5 (E21_b17_b5_b1_b2_b5.keep K) (A21_b17_b5_b1_b2_b5.keep K (ninS ne21_b17_b5_b1_b2_b5 nin0)) g16 (E21_b16.keep K) g19 (E21_b19.keep K)) fun v h L q => by obtain ⟨b4_b3_b2_b2, b5_b1, rfl, N, K_, _, _, E_b4_b3_b2_b2, A_b4_b3_b2_b2, _, _, E_b5_b1, F_b5_b1_e0, F_b5_b1_e1⟩ := q; exact ⟨b5_b1, rfl, N, K_, Or.inr (Or.inr ⟨rfl, E_b5_b1, em, b19, S_em, F_b5_b1_e1, Ne.symm (Old.ne (odold hz O21) E_em.lt g19)⟩)⟩)) hml 1 pd_37 (argsL := [(.long (Int64.ofNat (cc))), (.long (Int64.ofNat (ii))), (.ref b13)]) (st := [(.ref b21)]) fun T22 h22 v22 L22 e22 X22 q22 => ?_
    obtain ⟨rfl, N22q, K22q, E22_o, F22_c, F22_i, hN⟩ := q22
    have O22 := O21.keep K22q (allS g21 all0)
    have K22 := Keep.trans K21 K22q (allS (Or.inr z21) all0)
    have hS := hS.keep K22q
    have N22 := Fr.app N20 N22q
    refine yastore X22 hx hby at_113 (hv := rfl) (L' := #[.val (.long ja), .second, .val (.long jb), .second, iv mm, iv w, .val (.long (Int64.ofNat (cc))), .second, .val (.long (Int64.ofNat (ii))), .second, iv 2, rv b13, rv b21, .unset, .unset, .unset, .unset, .unset, .unset, .unset, .unset, .unset, .unset]) rfl ?_
    show yEndsW p e below s0 T22 (mkF m 115 #[.val (.long ja), .second, .val (.long jb), .second, iv mm, iv w, .val (.long (Int64.ofNat (cc))), .second, .val (.long (Int64.ofNat (ii))), .second, iv 2, rv b13, rv b21, .unset, .unset, .unset, .unset, .unset, .unset, .unset, .unset, .unset, .unset] []) _ _ _
    exact tail X22 (by decide) (by decide) hx hZ hw hby hml hown hret hlk C e22 O0 O22 K22 N22 hS (CHv.keep K22 all0 H0) vf hvf S_vf _ 2 _ hcc (by decide) hii _ E22_o F22_c F22_i hN
  · rw [q1]
    refine yistore X0 hx hby at_18 (L' := #[.val (.long ja), .second, .val (.long jb), .second, iv mm, iv w, .val (.long (Int64.ofNat (cc))), .second, .val (.long (Int64.ofNat (ii))), .second, iv 3, .unset, .unset, .unset, .unset, .unset, .unset, .unset, .unset, .unset, .unset, .unset, .unset]) rfl (ynewobj X0 hx hby at_20 hZ hown (w1 hw) (w2 hw) (w3 hw) e0 (by first | decide | omega | (dsimp only; omega)) (by first | decide | omega | (dsimp only; omega)) fun T23 h23 b23 X23 e23 y23 Ex23 E23_b23 D23 => ?_)
    have O23 := O0.ext Ex23
    have K23 := Keep.ext K0 Ex23
    have hS := hS.ext Ex23
    have g23 : n0 ≤ b23 := by rw [y23]; exact zodsz O0
    have z23 : h0.size ≤ b23 := by rw [y23]; exact K0.1
    have F23_b23_modCount : Fld Z h23 b23 "java/util/AbstractList" "modCount" "I" (.int 0) := D23 (Or.inl (w23 hw)) (ty := .int) (by decide)
    have F23_b23_elementData : Fld Z h23 b23 "java/util/ArrayList" "elementData" "[Ljava/lang/Object;" .null := D23 (Or.inl (w26 hw)) (ty := (.array (.object "java/lang/Object"))) (by decide)
    have F23_b23_size : Fld Z h23 b23 "java/util/ArrayList" "size" "I" (.int 0) := D23 (Or.inl (w62 hw)) (ty := .int) (by decide)
    refine ydup X23 hx hby at_23 rfl (ycallsp X23 hx hby at_24 hZ hown rfl (w4 hw) (w5 hw) (w6 hw) (w3 hw) e23 (c0_init l hw [] C2 (odold hz O23) (zodsz O23) b23 g23 E23_b23 F23_b23_modCount F23_b23_elementData F23_b23_size) hml 1 pd_29 (argsL := []) (st := [(.ref b23)]) fun T24 h24 v24 L24 e24 X24 q24 => ?_)
    obtain ⟨rfl, N24q, K24q, E24_b23, F24_b23_modCount, F24_b23_elementData, F24_b23_size⟩ := q24
    have O24 := O23.keep K24q (allS g23 all0)
    have K24 := Keep.trans K23 K24q (allS (Or.inr z23) all0)
    have N24 := Fr.app N0 N24q
    have hS := hS.keep K24q
    refine yastore X24 hx hby at_27 (hv := rfl) (L' := #[.val (.long ja), .second, .val (.long jb), .second, iv mm, iv w, .val (.long (Int64.ofNat (cc))), .second, .val (.long (Int64.ofNat (ii))), .second, iv 3, rv b23, .unset, .unset, .unset, .unset, .unset, .unset, .unset, .unset, .unset, .unset, .unset]) rfl (yiload X24 hx hby at_29 rfl (yifNo X24 hx hby at_31 (by decide) (yaload X24 hx hby at_34 rfl rfl (yiload X24 hx hby at_36 rfl (ysipush X24 hx hby at_38 (z := (255 : Int32)) rfl ?_)))))
    show yEndsW p e below s0 T24 (mkF m 41 #[.val (.long ja), .second, .val (.long jb), .second, iv mm, iv w, .val (.long (Int64.ofNat (cc))), .second, .val (.long (Int64.ofNat (ii))), .second, iv 3, rv b23, .unset, .unset, .unset, .unset, .unset, .unset, .unset, .unset, .unset, .unset, .unset] [(.int 255), (.int w), (.ref b23)]) _ _ _
    obtain ⟨k25, hk25, a25⟩ := and255 w
    refine yiand X24 hx hby at_41 (Int32.ofNat (k25)) a25 (yi2c X24 hx hby at_42 (Int32.ofNat (k25)) (i2c_ofN (by omega)) ?_)
    show yEndsW p e below s0 T24 (mkF m 43 #[.val (.long ja), .second, .val (.long jb), .second, iv mm, iv w, .val (.long (Int64.ofNat (cc))), .second, .val (.long (Int64.ofNat (ii))), .second, iv 3, rv b23, .unset, .unset, .unset, .unset, .unset, .unset, .unset, .unset, .unset, .unset, .unset] [(.int (Int32.ofNat (k25))), (.ref b23)]) _ _ _
    refine ycalls X24 hx hby at_43 hZ hown (w303 hw) (w304 hw) (w88 hw) (w305 hw) e24 (c_valof l hw  C O24 (k25) (by omega)) hml 1 pd_38 (argsL := [(.int (Int32.ofNat (k25)))]) (st := [(.ref b23)]) fun T26 h26 v26 L26 e26 X26 q26 => ?_
    obtain ⟨b26, rfl, N26q, K26q, y26, g26, E26_b26⟩ := q26
    have F26_b23_modCount := F24_b23_modCount.keep K26q nin0
    have F26_b23_elementData := F24_b23_elementData.keep K26q nin0
    have F26_b23_size := F24_b23_size.keep K26q nin0
    have E26_b23 := E24_b23.keep K26q
    have O26 := O24.keep K26q all0
    have K26 := Keep.trans K24 K26q all0
    have hS := hS.keep K26q
    have N26 := Fr.app N24 N26q
    refine ycallv X26 hx hby at_46 hZ hown (w316 hw) (w317 hw) (notFace_of_selects (args := #[]) (mvT hZ (w319 hw))) (w319 hw) (w318 hw) (w320 hw) (w3 hw) e26 E26_b23 (c12_add l hw [] C2 (odold hz O26) (zodsz O26) b23 b26 g23 E26_b23 F26_b23_modCount F26_b23_elementData F26_b23_size g26 E26_b26) hml 0 pd_42 (argsL := [(.ref b26)]) (st := []) fun T27 h27 v27 L27 e27 X27 q27 => ?_
    obtain ⟨b27_b5_b1_b2_b5, rfl, N27q, K27q, E27_b23, F27_b23_modCount, F27_b23_elementData, F27_b23_size, g27_b27_b5_b1_b2_b5, y27_b27_b5_b1_b2_b5, E27_b27_b5_b1_b2_b5, A27_b27_b5_b1_b2_b5⟩ := q27
    have E27_b26 := E26_b26.keep K27q
    have O27 := O26.keep K27q (allS g23 all0)
    have K27 := Keep.trans K26 K27q (allS (Or.inr z23) all0)
    have z27_b27_b5_b1_b2_b5 : h0.size ≤ b27_b5_b1_b2_b5 := Nat.le_trans K26.1 y27_b27_b5_b1_b2_b5
    have N27 := Fr.app N26 N27q
    have hS := hS.keep K27q
    refine ypop X27 hx hby at_49 rfl (yiload X27 hx hby at_50 rfl (yiconst X27 hx hby at_52 (z := (1 : Int32)) rfl (yicmpNo X27 hx hby at_53 (by decide) (yaload X27 hx hby at_56 rfl rfl (yiload X27 hx hby at_58 rfl (ybipush X27 hx hby at_60 (z := (8 : Int32)) rfl (yiushr X27 hx hby at_62 ((w.toUInt32 >>> ((8 : Int32) &&& 31).toUInt32).toInt32) rfl (ysipush X27 hx hby at_63 (z := (255 : Int32)) rfl ?_))))))))
    show yEndsW p e below s0 T27 (mkF m 66 #[.val (.long ja), .second, .val (.long jb), .second, iv mm, iv w, .val (.long (Int64.ofNat (cc))), .second, .val (.long (Int64.ofNat (ii))), .second, iv 3, rv b23, .unset, .unset, .unset, .unset, .unset, .unset, .unset, .unset, .unset, .unset, .unset] [(.int 255), (.int ((w.toUInt32 >>> ((8 : Int32) &&& 31).toUInt32).toInt32)), (.ref b23)]) _ _ _
    obtain ⟨k28, hk28, a28⟩ := and255 ((w.toUInt32 >>> ((8 : Int32) &&& 31).toUInt32).toInt32)
    refine yiand X27 hx hby at_66 (Int32.ofNat (k28)) a28 (yi2c X27 hx hby at_67 (Int32.ofNat (k28)) (i2c_ofN (by omega)) ?_)
    show yEndsW p e below s0 T27 (mkF m 68 #[.val (.long ja), .second, .val (.long jb), .second, iv mm, iv w, .val (.long (Int64.ofNat (cc))), .second, .val (.long (Int64.ofNat (ii))), .second, iv 3, rv b23, .unset, .unset, .unset, .unset, .unset, .unset, .unset, .unset, .unset, .unset, .unset] [(.int (Int32.ofNat (k28))), (.ref b23)]) _ _ _
    refine ycalls X27 hx hby at_68 hZ hown (w303 hw) (w304 hw) (w88 hw) (w305 hw) e27 (c_valof l hw  C O27 (k28) (by omega)) hml 1 pd_38 (argsL := [(.int (Int32.ofNat (k28)))]) (st := [(.ref b23)]) fun T29 h29 v29 L29 e29 X29 q29 => ?_
    obtain ⟨b29, rfl, N29q, K29q, y29, g29, E29_b29⟩ := q29
    have F29_b23_modCount := F27_b23_modCount.keep K29q nin0
    have F29_b23_elementData := F27_b23_elementData.keep K29q nin0
    have F29_b23_size := F27_b23_size.keep K29q nin0
    have E29_b23 := E27_b23.keep K29q
    have E29_b26 := E27_b26.keep K29q
    have E29_b27_b5_b1_b2_b5 := E27_b27_b5_b1_b2_b5.keep K29q
    have A29_b27_b5_b1_b2_b5 := A27_b27_b5_b1_b2_b5.keep K29q nin0
    have O29 := O27.keep K29q all0
    have K29 := Keep.trans K27 K29q all0
    have hS := hS.keep K29q
    have N29 := Fr.app N27 N29q
    refine ycallv X29 hx hby at_71 hZ hown (w316 hw) (w317 hw) (notFace_of_selects (args := #[]) (mvT hZ (w319 hw))) (w319 hw) (w318 hw) (w320 hw) (w3 hw) e29 E29_b23 (c46_add l hw [] C2 (odold hz O29) (zodsz O29) b23 b29 b27_b5_b1_b2_b5 b26 g23 E29_b23 F29_b23_modCount F29_b23_elementData F29_b23_size g29 E29_b29 g27_b27_b5_b1_b2_b5 E29_b27_b5_b1_b2_b5 A29_b27_b5_b1_b2_b5 g26 E29_b26) hml 0 pd_42 (argsL := [(.ref b29)]) (st := []) fun T30 h30 v30 L30 e30 X30 q30 => ?_
    obtain ⟨rfl, N30q, K30q, E30_b23, F30_b23_modCount, F30_b23_elementData, F30_b23_size, E30_b27_b5_b1_b2_b5, A30_b27_b5_b1_b2_b5⟩ := q30
    have E30_b26 := E29_b26.keep K30q
    have E30_b29 := E29_b29.keep K30q
    have O30 := O29.keep K30q (allS g23 (allS g27_b27_b5_b1_b2_b5 all0))
    have K30 := Keep.trans K29 K30q (allS (Or.inr z23) (allS (Or.inr z27_b27_b5_b1_b2_b5) all0))
    have N30 := Fr.app N29 N30q
    have hS := hS.keep K30q
    refine ypop X30 hx hby at_74 rfl (yiload X30 hx hby at_75 rfl (yiconst X30 hx hby at_77 (z := (2 : Int32)) rfl (yicmpNo X30 hx hby at_78 (by decide) (yaload X30 hx hby at_81 rfl rfl (yiload X30 hx hby at_83 rfl (ybipush X30 hx hby at_85 (z := (16 : Int32)) rfl (yiushr X30 hx hby at_87 ((w.toUInt32 >>> ((16 : Int32) &&& 31).toUInt32).toInt32) rfl (ysipush X30 hx hby at_88 (z := (255 : Int32)) rfl ?_))))))))
    show yEndsW p e below s0 T30 (mkF m 91 #[.val (.long ja), .second, .val (.long jb), .second, iv mm, iv w, .val (.long (Int64.ofNat (cc))), .second, .val (.long (Int64.ofNat (ii))), .second, iv 3, rv b23, .unset, .unset, .unset, .unset, .unset, .unset, .unset, .unset, .unset, .unset, .unset] [(.int 255), (.int ((w.toUInt32 >>> ((16 : Int32) &&& 31).toUInt32).toInt32)), (.ref b23)]) _ _ _
    obtain ⟨k31, hk31, a31⟩ := and255 ((w.toUInt32 >>> ((16 : Int32) &&& 31).toUInt32).toInt32)
    refine yiand X30 hx hby at_91 (Int32.ofNat (k31)) a31 (yi2c X30 hx hby at_92 (Int32.ofNat (k31)) (i2c_ofN (by omega)) ?_)
    show yEndsW p e below s0 T30 (mkF m 93 #[.val (.long ja), .second, .val (.long jb), .second, iv mm, iv w, .val (.long (Int64.ofNat (cc))), .second, .val (.long (Int64.ofNat (ii))), .second, iv 3, rv b23, .unset, .unset, .unset, .unset, .unset, .unset, .unset, .unset, .unset, .unset, .unset] [(.int (Int32.ofNat (k31))), (.ref b23)]) _ _ _
    refine ycalls X30 hx hby at_93 hZ hown (w303 hw) (w304 hw) (w88 hw) (w305 hw) e30 (c_valof l hw  C O30 (k31) (by omega)) hml 1 pd_38 (argsL := [(.int (Int32.ofNat (k31)))]) (st := [(.ref b23)]) fun T32 h32 v32 L32 e32 X32 q32 => ?_
    obtain ⟨b32, rfl, N32q, K32q, y32, g32, E32_b32⟩ := q32
    have F32_b23_modCount := F30_b23_modCount.keep K32q nin0
    have F32_b23_elementData := F30_b23_elementData.keep K32q nin0
    have F32_b23_size := F30_b23_size.keep K32q nin0
    have E32_b23 := E30_b23.keep K32q
    have E32_b26 := E30_b26.keep K32q
    have E32_b27_b5_b1_b2_b5 := E30_b27_b5_b1_b2_b5.keep K32q
    have A32_b27_b5_b1_b2_b5 := A30_b27_b5_b1_b2_b5.keep K32q nin0
    have E32_b29 := E30_b29.keep K32q
    have O32 := O30.keep K32q all0
    have K32 := Keep.trans K30 K32q all0
    have hS := hS.keep K32q
    have N32 := Fr.app N30 N32q
    refine ycallv X32 hx hby at_96 hZ hown (w316 hw) (w317 hw) (notFace_of_selects (args := #[]) (mvT hZ (w319 hw))) (w319 hw) (w318 hw) (w320 hw) (w3 hw) e32 E32_b23 (c66_add l hw [] C2 (odold hz O32) (zodsz O32) b23 b32 b27_b5_b1_b2_b5 b26 b29 g23 E32_b23 F32_b23_modCount F32_b23_elementData F32_b23_size g32 E32_b32 g27_b27_b5_b1_b2_b5 E32_b27_b5_b1_b2_b5 A32_b27_b5_b1_b2_b5 g26 E32_b26 g29 E32_b29) hml 0 pd_42 (argsL := [(.ref b32)]) (st := []) fun T33 h33 v33 L33 e33 X33 q33 => ?_
    obtain ⟨rfl, N33q, K33q, E33_b23, F33_b23_modCount, F33_b23_elementData, F33_b23_size, E33_b27_b5_b1_b2_b5, A33_b27_b5_b1_b2_b5⟩ := q33
    have E33_b26 := E32_b26.keep K33q
    have E33_b29 := E32_b29.keep K33q
    have E33_b32 := E32_b32.keep K33q
    have O33 := O32.keep K33q (allS g23 (allS g27_b27_b5_b1_b2_b5 all0))
    have K33 := Keep.trans K32 K33q (allS (Or.inr z23) (allS (Or.inr z27_b27_b5_b1_b2_b5) all0))
    have N33 := Fr.app N32 N33q
    have hS := hS.keep K33q
    refine ypop X33 hx hby at_99 rfl (ynewobj X33 hx hby at_100 hZ hown (w27 hw) (w28 hw) (w29 hw) e33 (by first | decide | omega | (dsimp only; omega)) (by first | decide | omega | (dsimp only; omega)) fun T34 h34 b34 X34 e34 y34 Ex34 E34_b34 D34 => ?_)
    have F34_b23_modCount := F33_b23_modCount.ext Ex34
    have F34_b23_elementData := F33_b23_elementData.ext Ex34
    have F34_b23_size := F33_b23_size.ext Ex34
    have E34_b23 := E33_b23.ext Ex34
    have E34_b26 := E33_b26.ext Ex34
    have E34_b27_b5_b1_b2_b5 := E33_b27_b5_b1_b2_b5.ext Ex34
    have A34_b27_b5_b1_b2_b5 := A33_b27_b5_b1_b2_b5.ext Ex34
    have E34_b29 := E33_b29.ext Ex34
    have E34_b32 := E33_b32.ext Ex34
    have O34 := O33.ext Ex34
    have K34 := Keep.ext K33 Ex34
    have hS := hS.ext Ex34
    have ne34_b23 : b23 ≠ b34 := Nat.ne_of_lt (Nat.lt_of_lt_of_eq E33_b23.lt y34.symm)
    have ne34_b27_b5_b1_b2_b5 : b27_b5_b1_b2_b5 ≠ b34 := Nat.ne_of_lt (Nat.lt_of_lt_of_eq E33_b27_b5_b1_b2_b5.lt y34.symm)
    have g34 : n0 ≤ b34 := by rw [y34]; exact zodsz O33
    have z34 : h0.size ≤ b34 := by rw [y34]; exact K33.1
    have F34_b34_completed : Fld Z h34 b34 "com/example/kick/kick/value/CloseReport" "completed" "J" (.long 0) := D34 (Or.inr (w35 hw)) (ty := .long) (by decide)
    have F34_b34_interrupted : Fld Z h34 b34 "com/example/kick/kick/value/CloseReport" "interrupted" "J" (.long 0) := D34 (Or.inr (w37 hw)) (ty := .long) (by decide)
    have F34_b34_notStartedTasks : Fld Z h34 b34 "com/example/kick/kick/value/CloseReport" "notStartedTasks" "Ljava/util/List;" .null := D34 (Or.inr (w68 hw)) (ty := (.object "java/util/List")) (by decide)
    refine ydup X34 hx hby at_103 rfl (ylload X34 hx hby at_104 rfl (ylload X34 hx hby at_106 rfl (yaload X34 hx hby at_108 rfl rfl ?_)))
    show yEndsW p e below s0 T34 (mkF m 110 #[.val (.long ja), .second, .val (.long jb), .second, iv mm, iv w, .val (.long (Int64.ofNat (cc))), .second, .val (.long (Int64.ofNat (ii))), .second, iv 3, rv b23, .unset, .unset, .unset, .unset, .unset, .unset, .unset, .unset, .unset, .unset, .unset] [(.ref b23), (.long (Int64.ofNat (ii))), (.long (Int64.ofNat (cc))), (.ref b34), (.ref b34)]) _ _ _
    refine ycallsp X34 hx hby at_110 hZ hown rfl (w30 hw) (w31 hw) (w32 hw) (w29 hw) e34 (c_crinit l hw  C O34 b34 E34_b34 F34_b34_completed F34_b34_interrupted F34_b34_notStartedTasks g34 (cc) (ii) (by omega) (by omega) b23 3 (fun h' K => zCon.weak (c70_listCopy l hw [] C2 (odold hz (O34.keep K (allS g34 all0))) (zodsz (O34.keep K (allS g34 all0))) b23 b27_b5_b1_b2_b5 b26 b29 b32 g23 (E34_b23.keep K) (F34_b23_modCount.keep K (ninS ne34_b23 nin0)) (F34_b23_elementData.keep K (ninS ne34_b23 nin0)) (F34_b23_size.keep K (ninS ne34_b23 nin0)) g27_b27_b5_b1_b2_b5 (E34_b27_b5_b1_b2_b5.keep K) (A34_b27_b5_b1_b2_b5.keep K (ninS ne34_b27_b5_b1_b2_b5 nin0)) g26 (E34_b26.keep K) g29 (E34_b29.keep K) g32 (E34_b32.keep K)) fun v h L q => by obtain ⟨b4_b3_b2_b2, b5_b1_b1, b5_b1_b8, rfl, N, K_, _, _, E_b4_b3_b2_b2, A_b4_b3_b2_b2, _, _, E_b5_b1_b1, A_b5_b1_b1, _, _, E_b5_b1_b8, F_b5_b1_b8_allowNulls, F_b5_b1_b8_elements⟩ := q; exact ⟨b5_b1_b8, rfl, N, K_, Or.inl ⟨b5_b1_b1, _, E_b5_b1_b8, F_b5_b1_b8_elements, E_b5_b1_b1, A_b5_b1_b1.lst, rfl⟩⟩)) hml 1 pd_37 (argsL := [(.long (Int64.ofNat (cc))), (.long (Int64.ofNat (ii))), (.ref b23)]) (st := [(.ref b34)]) fun T35 h35 v35 L35 e35 X35 q35 => ?_
    obtain ⟨rfl, N35q, K35q, E35_o, F35_c, F35_i, hN⟩ := q35
    have O35 := O34.keep K35q (allS g34 all0)
    have K35 := Keep.trans K34 K35q (allS (Or.inr z34) all0)
    have hS := hS.keep K35q
    have N35 := Fr.app N33 N35q
    refine yastore X35 hx hby at_113 (hv := rfl) (L' := #[.val (.long ja), .second, .val (.long jb), .second, iv mm, iv w, .val (.long (Int64.ofNat (cc))), .second, .val (.long (Int64.ofNat (ii))), .second, iv 3, rv b23, rv b34, .unset, .unset, .unset, .unset, .unset, .unset, .unset, .unset, .unset, .unset]) rfl ?_
    show yEndsW p e below s0 T35 (mkF m 115 #[.val (.long ja), .second, .val (.long jb), .second, iv mm, iv w, .val (.long (Int64.ofNat (cc))), .second, .val (.long (Int64.ofNat (ii))), .second, iv 3, rv b23, rv b34, .unset, .unset, .unset, .unset, .unset, .unset, .unset, .unset, .unset, .unset] []) _ _ _
    exact tail X35 (by decide) (by decide) hx hZ hw hby hml hown hret hlk C e35 O0 O35 K35 N35 hS (CHv.keep K35 all0 H0) vf hvf S_vf _ 3 _ hcc (by decide) hii _ E35_o F35_c F35_i hN
theorem dtab {args a0 : Array Value} {s : State} {t tg : Term} {G : Nat → Nat} (wx : (Cond.exactly t "[B").value args s none s [] = some true) (wl : (Cond.eq (.length t) (.int 100)).value args s none s [] = some true) (wa : (Cond.arrayClass .byte).before a0 s = true)
    (wA : (Cond.all t (.eq (.elem t (.index 0)) tg)).value args s none s [] = some true) (hG : ∀ i, i < 100 → tg.eval args s none [i] s = some (.int (dg (G i)).toInt32)) (hst : ∀ idx, t.eval args s none idx s = t.eval args s none [] s) :
    ∃ d o, t.eval args s none [] s = some (.ref d) ∧ zBt s s.heap d o ∧ ∀ i, i < 100 → o[i]? = some (dg (G i)) := by
  obtain ⟨d, ev⟩ := exa_v wx
  have hlen : (Term.length t).eval args s none [] s = some (.int 100) := by
    obtain ⟨u, w, e1, e2, k1, k2⟩ := cmp_v (Or.inl wl)
    cases (Term.int_eval (100 : Int32)).symm.trans e2
    obtain ⟨z, rfl⟩ := k2
    have h0 : z = 100 := by simpa [Jvm.Cond.value, e1, Term.int_eval] using wl
    subst h0; exact e1
  obtain ⟨sd, SA, hev, harrAt, -⟩ := Term.length_spec hlen
  cases ev.symm.trans hev
  have h31 := SBG.length_lt hev harrAt hlen
  have hsz : SA.slots.size = 100 := by
    have e : (Term.length t).eval args s none [] s = some (.int (Int32.ofNat SA.slots.size)) := len_f hev harrAt h31
    have h2 : Int32.ofNat SA.slots.size = Int32.ofNat 100 := by simpa using Option.some.inj (e.symm.trans hlen)
    have := congrArg Int32.toInt h2
    rw [Int32.toInt_ofNat_small h31, Int32.toInt_ofNat_small (by omega)] at this; omega
  have hat : ∀ i, i < 100 → SA.slots[i]? = some (.int (dg (G i)).toInt32) := fun i hi => by
    have q := Cond.all_elim ev harrAt wA i (by omega)
    obtain ⟨u, w, e1, e2, k1, k2⟩ := cmp_v (Or.inl q)
    cases (hG i hi).symm.trans e2
    obtain ⟨z, rfl⟩ := k2
    have h0 : z = (dg (G i)).toInt32 := by simpa [Jvm.Cond.value, e1, e2] using q
    subst h0
    have hj : (Term.index 0).eval args s none [i] s = some (.int (Int32.ofNat i)) := rfl
    have e3 := elem_f (t := t) (a := .index 0) (idx := [i]) ((hst [i]).trans ev) hj harrAt (zofN_nn (by omega))
    rw [zofN_clamp (by omega)] at e3
    exact e3.symm.trans e1
  obtain ⟨a3, c3, cell3, k3, e1, e2, e3, e4, e5, e6, -⟩ := Cond.exactly_spec (beq_iff_eq.mpr wx : (Cond.exactly t "[B").holds args s none s [] = true)
  cases ev.symm.trans e1
  obtain ⟨c4, k4, comp, f1, f2, f3⟩ := Cond.arrayClass_spec wa
  have hcell : s.heap[d]? = some SA ∧ SA.vm ≠ .unknown := ⟨(Jvm.Joins.arrayAt_spec harrAt).1, (Jvm.Joins.arrayAt_spec harrAt).2.1⟩
  cases hcell.1.symm.trans e3
  cases (show s.vm.findClass "[B" = some c4 from f1).symm.trans e2
  have hA : s.isArrayOf SA .byte := ⟨(fun q r => by rw [r] at e5; cases e5), k4, by rw [e6]; exact f2, comp, f3⟩
  refine ⟨d, (List.range 100).map fun i => dg (G i), ev, ⟨SA, ⟨hcell.1, hA, hcell.2⟩, ?_⟩, fun i hi => by rw [List.getElem?_map, List.getElem?_range hi]; rfl⟩
  apply List.ext_getElem?
  intro i
  rw [Array.getElem?_toList, List.map_map]
  by_cases hi : i < 100
  · rw [hat i hi, List.getElem?_map, List.getElem?_range hi]; rfl
  · rw [Array.getElem?_eq_none (by omega), List.getElem?_eq_none (by rw [List.length_map, List.length_range]; omega)]
theorem dgI {k : Nat} (h : k < 10) : (48 : Int32) + Int32.ofNat k = (dg k).toInt32 := by
  have q : k = 0 ∨ k = 1 ∨ k = 2 ∨ k = 3 ∨ k = 4 ∨ k = 5 ∨ k = 6 ∨ k = 7 ∨ k = 8 ∨ k = 9 := by omega
  rcases q with rfl | rfl | rfl | rfl | rfl | rfl | rfl | rfl | rfl | rfl <;> decide
theorem add_g {args : Array Value} {s : State} {idx : List Nat} {a b : Term} {x y : Int32} (ha : a.eval args s none idx s = some (.int x)) (hb : b.eval args s none idx s = some (.int y)) : (Term.add a b).eval args s none idx s = some (.int (x + y)) := by simp [Term.eval, ha, hb]
theorem dgO {args : Array Value} {s : State} (i : Nat) (hi : i < 100) : (Term.add (.int 48) (.rem (.index 0) (.int 10))).eval args s none [i] s = some (.int (dg (i % 10)).toInt32) := by
  have hj : (Term.index 0).eval args s none [i] s = some (.int (Int32.ofNat i)) := rfl
  have e := rem_f (b := .int 10) hj (Term.int_eval 10) (by decide)
  have r : Int32.ofNat i % 10 = Int32.ofNat (i % 10) := by
    apply Int32.toInt_inj.mp
    rw [(c_irem (Int32.ofNat i) 10 10 rfl).1 (by rw [zofN_toInt (by omega)]; omega), zofN_toInt (by omega), zofN_toInt (by omega)]; omega
  rw [r] at e
  rw [← dgI (by omega)]
  exact add_g (Term.int_eval 48) e
theorem dgT {args : Array Value} {s : State} (i : Nat) (hi : i < 100) : (Term.add (.int 48) (.div (.index 0) (.int 10))).eval args s none [i] s = some (.int (dg (i / 10)).toInt32) := by
  have hj : (Term.index 0).eval args s none [i] s = some (.int (Int32.ofNat i)) := rfl
  have e := div_f (b := .int 10) hj (Term.int_eval 10) (by decide)
  have r : Int32.ofNat i / 10 = Int32.ofNat (i / 10) := by
    apply Int32.toInt_inj.mp
    rw [(c_idiv (Int32.ofNat i) 10 10 rfl (by decide)).1 (by rw [zofN_toInt (by omega)]; omega), zofN_toInt (by omega), zofN_toInt (by omega)]; omega
  rw [r] at e
  rw [← dgI (by omega)]
  exact add_g (Term.int_eval 48) e

theorem lst0 {args : Array Value} {s : State} {t : Term} {x : Addr} {ty : FieldType} (ev : t.eval args s none [] s = some (.ref x)) (hx : (Cond.arrayOf t ty).value args s none s [] = some true) (wl : (Cond.eq (.length t) (.int 0)).value args s none s [] = some true) : zLst s s.heap x ty [] := by
  obtain ⟨cl, A⟩ := Arr.start ev hx
  have hlen : (Term.length t).eval args s none [] s = some (.int 0) := by
    obtain ⟨u, w, e1, e2, k1, k2⟩ := cmp_v (Or.inl wl)
    cases (Term.int_eval (0 : Int32)).symm.trans e2
    obtain ⟨z, rfl⟩ := k2
    have h0 : z = 0 := by simpa [Jvm.Cond.value, e1, Term.int_eval] using wl
    subst h0; exact e1
  obtain ⟨sd, SA, hev, harrAt, -⟩ := Term.length_spec hlen
  cases ev.symm.trans hev
  cases (Arr.fin (Vm.Alike.refl _) A).symm.trans harrAt
  have h31 := SBG.length_lt hev harrAt hlen
  have hsz : cl.slots.size = 0 := by
    have e : (Term.length t).eval args s none [] s = some (.int (Int32.ofNat cl.slots.size)) := len_f hev harrAt h31
    have h2 : Int32.ofNat cl.slots.size = Int32.ofNat 0 := by simpa using Option.some.inj (e.symm.trans hlen)
    have := congrArg Int32.toInt h2
    rw [Int32.toInt_ofNat_small h31, Int32.toInt_ofNat_small (by omega)] at this; omega
  exact ⟨cl, A, List.eq_nil_of_length_eq_zero (by rw [Array.length_toList]; exact hsz)⟩

theorem comes_1 {Post : Tables → Env → Array Value → State → Outcome → State → Prop} (hpost : ∀ tb e args s v u, (limb_1_1.after args s (.returned v) u = true ∧ limb_1_2.after args s (.returned v) u = true ∧ True) → FramedW s (.returned v) u (Jvm.fieldLocs frame_1_writes args s ++ Jvm.arrayLocs frame_1_arrays args s ++ Jvm.staticLocs frame_1_statics s) 64 8064 → Post tb e args s (.returned v) u) :
    ArmFor flags0 classFile x code maxLocals ret World_1 tables_1 room_1 Calls_1 rest_1 Pre_1 Post := by
  intro l hfl _ _ p e ha hc hk s m args below hf hA hF happ hP
  obtain ⟨hcalls, hrest, hpre⟩ := hP
  obtain ⟨-, -, -, hnamed, -, -, -, hat⟩ := (Spec.applies_iff hf).mp happ
  obtain ⟨hg, hn⟩ := and_e (Cond.before_iff.mp (show (Jvm.Cond.and given_1 narrow_1).before args s = true from hpre))
  obtain ⟨gc, hg⟩ := and_e hg
  obtain ⟨g0, hg⟩ := and_e hg
  obtain ⟨g1, hg⟩ := and_e hg
  obtain ⟨g2, hg⟩ := and_e hg
  obtain ⟨u0, u1, u2, u3, rfl⟩ : ∃ u0 u1 u2 u3 : Value, args = #[u0, u1, u2, u3] := by
    have hs : args.size = 4 := by simpa [Cond.value, given_1] using gc
    obtain ⟨L⟩ := args
    match L, hs with
    | [u0, u1, u2, u3], _ => exact ⟨u0, u1, u2, u3, rfl⟩
  obtain ⟨i0, ei0⟩ := isL_v g0
  obtain rfl : u0 = (.long i0) := Option.some.inj ei0
  obtain ⟨i1, ei1⟩ := isL_v g1
  obtain rfl : u1 = (.long i1) := Option.some.inj ei1
  obtain ⟨i2, ei2⟩ := is_v g2
  obtain rfl : u2 = (.int i2) := Option.some.inj ei2
  obtain ⟨i3, ei3⟩ := is_v hg
  obtain rfl : u3 = (.int i3) := Option.some.inj ei3
  have hw := fun d (hd : d ∈ tables_1) => atoms_spec (ws := Jvm.Cond.code x code maxLocals ret :: tables_1) hat d (List.mem_cons_of_mem _ hd)
  have r := Cond.before_iff.mp (show rest_1_c.before _ s = true from hrest)
  obtain ⟨r0, r⟩ := and_e r
  obtain ⟨r1, r⟩ := and_e r
  obtain ⟨r2, r⟩ := and_e r
  obtain ⟨r3, r⟩ := and_e r
  obtain ⟨r4, r⟩ := and_e r
  obtain ⟨r5, r⟩ := and_e r
  obtain ⟨r6, r⟩ := and_e r
  obtain ⟨r7, r⟩ := and_e r
  obtain ⟨r8, r⟩ := and_e r
  obtain ⟨r9, r⟩ := and_e r
  obtain ⟨r10, r⟩ := and_e r
  obtain ⟨r11, r⟩ := and_e r
  obtain ⟨r12, r⟩ := and_e r
  obtain ⟨r13, r⟩ := and_e r
  obtain ⟨r14, r⟩ := and_e r
  obtain ⟨r15, r⟩ := and_e r
  obtain ⟨r16, r⟩ := and_e r
  obtain ⟨r17, r⟩ := and_e r
  obtain ⟨r18, r⟩ := and_e r
  obtain ⟨r19, r⟩ := and_e r
  obtain ⟨r20, r⟩ := and_e r
  obtain ⟨r21, r⟩ := and_e r
  obtain ⟨r22, r⟩ := and_e r
  obtain ⟨r23, r⟩ := and_e r
  obtain ⟨r24, r⟩ := and_e r
  obtain ⟨r25, r⟩ := and_e r
  obtain ⟨r26, r⟩ := and_e r
  obtain ⟨r27, r⟩ := and_e r
  obtain ⟨r28, r⟩ := and_e r
  obtain ⟨r29, r⟩ := and_e r
  obtain ⟨r30, r⟩ := and_e r
  obtain ⟨r31, r⟩ := and_e r
  obtain ⟨r32, r⟩ := and_e r
  obtain ⟨r33, r⟩ := and_e r
  obtain ⟨r34, r⟩ := and_e r
  obtain ⟨r35, r⟩ := and_e r
  obtain ⟨r36, r⟩ := and_e r
  obtain ⟨r37, r⟩ := and_e r
  obtain ⟨r38, r⟩ := and_e r
  obtain ⟨r39, r⟩ := and_e r
  obtain ⟨r40, r⟩ := and_e r
  obtain ⟨r41, r⟩ := and_e r
  obtain ⟨-, r⟩ := and_e r
  obtain ⟨-, r⟩ := and_e r
  obtain ⟨-, r⟩ := and_e r
  obtain ⟨cs, vcs⟩ := is_v r17
  have ncs := r18
  have hcs : ¬ (cs = (0 : Int32)) := fun q => by
    subst q
    have := (not_v ncs).symm.trans (eq_i vcs (Term.int_eval 0) rfl)
    cases this
  have S_cs := Sta.start vcs (Or.inl (Cond.before_iff.mpr r16))
  obtain ⟨d1, o1, vd1, B_d1, H_d1⟩ := dtab (G := fun i => i % 10) r28 r29 (w89 hw) r30 dgO (fun _ => rfl)
  have S_d1 := Sta.start vd1 (Or.inl (Cond.before_iff.mpr r27))
  obtain ⟨d2, o2, vd2, B_d2, H_d2⟩ := dtab (G := fun i => i / 10) r33 r34 (w89 hw) r35 dgT (fun _ => rfl)
  have S_d2 := Sta.start vd2 (Or.inl (Cond.before_iff.mpr r32))
  obtain ⟨wd, vwd⟩ := arr_v r6
  have A_wd := lst0 vwd r6 r8
  have S_wd := Sta.start vwd (Or.inr ⟨(w3 hw), Cond.before_iff.mpr r2⟩)
  obtain ⟨wl, vwl⟩ := exa_v r11
  have E_wl := Exa.start vwl r11
  have S_wl := Sta.start vwl (Or.inl (Cond.before_iff.mpr r10))
  obtain ⟨we, vwe⟩ := arr_v r12
  have F_wl_elements := Fld.start ((fld_at vwl).symm.trans vwe)
  have E_we := Exa.start vwe r13
  have A_we := lst0 vwe r12 r14
  obtain ⟨em, vem⟩ := exa_v r38
  have E_em := Exa.start vem r38
  have S_em := Sta.start vem (Or.inl (Cond.before_iff.mpr r37))
  obtain ⟨vf, vvf, hvr⟩ := isR_v r24
  have S_vf := Sta.start vvf (Or.inl (Cond.before_iff.mpr r23))
  have hvf : vf = .null ∨ ∃ a, vf = .ref a := ref_cases hvr
  obtain ⟨mc, mk, mo, m1, m2, m3, -⟩ := hcalls.1
  have M_mo : zMir s "[Ljava/lang/Object;" mo := ⟨mc, mk, m1, m2, m3⟩
  have H0 := CHv.start (ewc hw) (fun q hq => hcalls.2.1 q hq) (Cond.before_iff.mpr ncs) (w89 hw) (w95 hw)
  obtain ⟨n, o, h1, h2, h3, _, L, rfl, ⟨rfl, N⟩, hq⟩ := rm0 l (Z := s) hw (h0 := s.heap) (n0 := s.heap.size) ⟨S_cs, hcs, S_d1, B_d1, H_d1, S_d2, B_d2, H_d2⟩ ⟨Nat.le_refl _, Nat.le_refl _, Nat.le_refl _, fun _ _ q => q⟩ ⟨S_wd, A_wd, S_wl, E_wl, F_wl_elements, E_we, A_we, S_em, E_em, M_mo⟩ rfl vf hvf S_vf i0 i1 i2 i3 p e ha hc hk s m _ below hf ((Spec.applies_iff_loose hf).mp happ).1 ⟨rfl, State.Warmed39.refl s, rfl, H0⟩ trivial
  refine ⟨n, _, h1, h2, h3, hpost _ _ _ _ _ _ ⟨Cond.after_iff.mpr rfl, Cond.after_iff.mpr (eq_i res_at (Term.int_eval (1)) rfl), trivial⟩ ⟨hq.1, hq.2.1, hq.2.2.1, (hq.2.2.2.sift fun y hy => Or.inr (N y hy)).mono (by decide) (by decide)⟩⟩
theorem main_1_1 : Claimed_1_1 := comes_1 fun _ _ _ _ _ _ h hF => ⟨h.1, hF⟩
theorem main_1_2 : Claimed_1_2 := comes_1 fun _ _ _ _ _ _ h hF => ⟨h.2.1, hF⟩

end Jvm.Pilot.@@N@@
namespace Jvm.Pilot.@@N@@
open Jvm Jvm.ClassFile Sem Op Lib Jvm.Free Jvm.Stand Jvm.Pilot.@@N@@.Jvm.D
namespace start1
open Jvm.ClassFile
def u (s : String) : CpInfo := .utf8 (stringToUtf16 s)
def gap : Nat → List CpInfo → List CpInfo
  | 0, r => r
  | n + 1, r => .unusable :: gap n r
def poolList (es : List (Nat × CpInfo)) (last : Nat) : List CpInfo := es.foldr (fun e r => gap e.1 (e.2 :: r)) (gap last [])
def pool (es : List (Nat × CpInfo)) (last : Nat) : Array CpInfo := ⟨poolList es last⟩
def fileOf (pool : Array CpInfo) (this : Nat) (attrs : Array Attribute := #[]) (ms : Array MethodInfo := #[]) (fl : Nat := 33) (sup : Nat := 0) (ifs : Array Nat := #[]) (fds : Array FieldInfo := #[]) : ClassFile where
  minorVersion := 0
  majorVersion := 65
  constantPool := pool
  accessFlags := fl
  thisClass := this
  superClass := sup
  interfaces := ifs
  fields := fds
  methods := ms
  attributes := attrs
def plain (name : String) (sup : Option ClassId) : Class where
  name := name
  kind := .ordinary
  loader := none
  accessFlags := 33
  super := sup
  interfaces := #[]
  cf := none
  fields := #[]
  methods := #[]
  instanceTypes := #[]
  staticTypes := #[]
  resolved := #[]
  callSites := []
  init := .initialized
  statics := none
  mirror := none
def pool0 : Array CpInfo := pool [(5, u "<init>"), (0, u "()V"), (1, .class_ 10), (1, u "java/lang/Object"), (0, u "getClass"), (0, u "()Ljava/lang/Class;"), (83, u "clone"), (0, u "()Ljava/lang/Object;")] 26
def k0c0 : Code := ⟨0, 1, object_method_1_code, #[], #[]⟩
def k0m0 : Method := ⟨"<init>", "()V", ⟨[], none⟩, 1, some k0c0⟩
def k0m1 : Method := ⟨"getClass", "()Ljava/lang/Class;", ⟨[], some (.object "java/lang/Class")⟩, 273, none⟩
def k0m2 : Method := ⟨"clone", "()Ljava/lang/Object;", ⟨[], some (.object "java/lang/Object")⟩, 260, none⟩
def k0 : Class := { plain "java/lang/Object" none with
  accessFlags := 33
  interfaces := #[]
  cf := some (fileOf pool0 8 #[] #[⟨1, 5, 6, #[]⟩, ⟨273, 11, 12, #[]⟩, ⟨260, 96, 97, #[]⟩] 33 0 #[] #[])
  fields := #[]
  methods := #[k0m0, k0m1, k0m2]
  instanceTypes := #[]
  staticTypes := #[]
  resolved := Array.replicate 124 none
  statics := none }
def pool1 : Array CpInfo := pool [(2, .class_ 4), (0, .nameAndType 5 6), (0, u "java/lang/Object"), (0, u "<init>"), (0, u "()V"), (2, .long 9223372036854775807), (1, .class_ 12), (0, u "java/util/ArrayList"), (0, .methodref 11 3), (0, .methodref 15 16), (0, .class_ 17), (0, .nameAndType 18 19), (0, u "java/lang/String"), (0, u "valueOf"), (0, u "(C)Ljava/lang/String;"), (0, .methodref 11 21), (0, .nameAndType 22 23), (0, u "add"), (0, u "(Ljava/lang/Object;)Z"), (0, .class_ 25), (0, u "com/example/kick/kick/value/CloseReport"), (0, .methodref 24 27), (0, .nameAndType 5 28), (0, u "(JJLjava/util/List;)V"), (0, .methodref 24 30), (0, .nameAndType 31 32), (0, u "toString"), (0, u "()Ljava/lang/String;"), (0, .methodref 34 35), (0, .class_ 36), (0, .nameAndType 37 38), (0, u "com/example/kick/kick/value/CloseReportToStringPinLaw"), (0, u "ndig"), (0, u "(J)I"), (0, .methodref 15 40), (0, .nameAndType 41 42), (0, u "length"), (0, u "()I"), (0, .string 44), (0, u "CloseReport[completed="), (0, .methodref 34 46), (0, .nameAndType 47 48), (0, u "lit"), (0, u "(Ljava/lang/String;ILjava/lang/String;)Z"), (0, .methodref 34 50), (0, .nameAndType 51 52), (0, u "num"), (0, u "(Ljava/lang/String;IIJ)Z"), (0, .string 54), (0, u ", notStarted="), (0, .methodref 15 56), (0, .nameAndType 57 58), (0, u "charAt"), (0, u "(I)C"), (0, .string 60), (0, u ", interrupted="), (0, .long 10), (1, .methodref 34 64), (0, .nameAndType 65 38), (0, u "more"), (0, .methodref 34 67), (0, .nameAndType 68 69), (0, u "dig"), (0, u "(Ljava/lang/String;IJ)Z"), (0, .methodref 34 71), (0, .nameAndType 72 73), (0, u "ch"), (0, u "(Ljava/lang/String;ILjava/lang/String;I)Z"), (2, u "law"), (0, u "(JJII)Z")] 3
def k1m0 : Method := ⟨"<init>", "()V", ⟨[], none⟩, 2, none⟩
def k1c1 : Code := ⟨7, 23, code, #[], #[]⟩
def k1m1 : Method := ⟨"law", "(JJII)Z", ⟨[.long, .long, .int, .int], some .boolean⟩, 9, some k1c1⟩
def k1c2 : Code := ⟨4, 2, method_3_code, #[], #[]⟩
def k1m2 : Method := ⟨"more", "(J)I", ⟨[.long], some .int⟩, 10, some k1c2⟩
def k1c3 : Code := ⟨4, 5, method_4_code, #[], #[]⟩
def k1m3 : Method := ⟨"ndig", "(J)I", ⟨[.long], some .int⟩, 10, some k1c3⟩
def k1c4 : Code := ⟨6, 4, method_5_code, #[], #[]⟩
def k1m4 : Method := ⟨"dig", "(Ljava/lang/String;IJ)Z", ⟨[(.object "java/lang/String"), .int, .long], some .boolean⟩, 10, some k1c4⟩
def k1c5 : Code := ⟨4, 8, method_6_code, #[], #[]⟩
def k1m5 : Method := ⟨"num", "(Ljava/lang/String;IIJ)Z", ⟨[(.object "java/lang/String"), .int, .int, .long], some .boolean⟩, 10, some k1c5⟩
def k1c6 : Code := ⟨3, 4, method_7_code, #[], #[]⟩
def k1m6 : Method := ⟨"ch", "(Ljava/lang/String;ILjava/lang/String;I)Z", ⟨[(.object "java/lang/String"), .int, (.object "java/lang/String"), .int], some .boolean⟩, 10, some k1c6⟩
def k1c7 : Code := ⟨4, 3, method_8_code, #[], #[]⟩
def k1m7 : Method := ⟨"lit", "(Ljava/lang/String;ILjava/lang/String;)Z", ⟨[(.object "java/lang/String"), .int, (.object "java/lang/String")], some .boolean⟩, 10, some k1c7⟩
def k1 : Class := { plain "com/example/kick/kick/value/CloseReportToStringPinLaw" (some 0) with
  accessFlags := 49
  interfaces := #[]
  cf := some (fileOf pool1 34 #[] #[⟨2, 5, 6, #[]⟩, ⟨9, 76, 77, #[]⟩, ⟨10, 65, 38, #[]⟩, ⟨10, 37, 38, #[]⟩, ⟨10, 68, 69, #[]⟩, ⟨10, 51, 52, #[]⟩, ⟨10, 72, 73, #[]⟩, ⟨10, 47, 48, #[]⟩] 49 2 #[] #[])
  fields := #[]
  methods := #[k1m0, k1m1, k1m2, k1m3, k1m4, k1m5, k1m6, k1m7]
  instanceTypes := #[]
  staticTypes := #[]
  resolved := Array.replicate 81 none
  statics := none }
def pool2 : Array CpInfo := pool [(8, .class_ 10), (1, u "java/lang/Iterable"), (24, .class_ 36), (0, u "java/lang/Object")] 25
def k2 : Class := { plain "java/lang/Iterable" (some 0) with
  accessFlags := 1537
  interfaces := #[]
  cf := some (fileOf pool2 8 #[] #[] 1537 35 #[] #[])
  fields := #[]
  methods := #[]
  instanceTypes := #[]
  staticTypes := #[]
  resolved := Array.replicate 62 none
  statics := none }
def pool3 : Array CpInfo := pool [(10, .class_ 12), (1, u "java/util/Collection"), (0, u "toArray"), (16, u "()Z"), (29, .class_ 61), (0, u "java/lang/Object"), (0, .class_ 63), (0, u "java/lang/Iterable"), (2, u "isEmpty"), (3, u "()[Ljava/lang/Object;")] 44
def k3m0 : Method := ⟨"isEmpty", "()Z", ⟨[], some .boolean⟩, 1025, none⟩
def k3m1 : Method := ⟨"toArray", "()[Ljava/lang/Object;", ⟨[], some (.array (.object "java/lang/Object"))⟩, 1025, none⟩
def k3 : Class := { plain "java/util/Collection" (some 0) with
  accessFlags := 1537
  interfaces := #[2]
  cf := some (fileOf pool3 10 #[] #[⟨1025, 66, 30, #[]⟩, ⟨1025, 13, 70, #[]⟩] 1537 60 #[62] #[])
  fields := #[]
  methods := #[k3m0, k3m1]
  instanceTypes := #[]
  staticTypes := #[]
  resolved := Array.replicate 115 none
  statics := none }
def pool4 : Array CpInfo := pool [(1, .methodref 2 3), (0, .class_ 4), (0, .nameAndType 5 6), (0, u "java/lang/Object"), (0, u "<init>"), (0, u "()V"), (1, .class_ 10), (1, u "java/util/AbstractCollection"), (66, .class_ 78), (0, u "java/util/Collection")] 81
def k4c0 : Code := ⟨1, 1, jdk_22_method_1_code, #[], #[]⟩
def k4m0 : Method := ⟨"<init>", "()V", ⟨[], none⟩, 4, some k4c0⟩
def k4 : Class := { plain "java/util/AbstractCollection" (some 0) with
  accessFlags := 1057
  interfaces := #[3]
  cf := some (fileOf pool4 8 #[] #[⟨4, 5, 6, #[]⟩] 1057 2 #[77] #[])
  fields := #[]
  methods := #[k4m0]
  instanceTypes := #[]
  staticTypes := #[]
  resolved := Array.replicate 160 none
  statics := none }
def pool5 : Array CpInfo := pool [(8, .class_ 10), (1, u "java/util/SequencedCollection"), (15, .class_ 27), (0, u "java/lang/Object"), (0, .class_ 29), (0, u "java/util/Collection")] 27
def k5 : Class := { plain "java/util/SequencedCollection" (some 0) with
  accessFlags := 1537
  interfaces := #[3]
  cf := some (fileOf pool5 8 #[] #[] 1537 26 #[28] #[])
  fields := #[]
  methods := #[]
  instanceTypes := #[]
  staticTypes := #[]
  resolved := Array.replicate 57 none
  statics := none }
def pool6 : Array CpInfo := pool [(8, .class_ 10), (1, u "java/util/List"), (20, u "(Ljava/lang/Object;)V"), (16, u "<init>"), (30, u "size"), (0, u "()I"), (7, u "of"), (1, .fieldref 91 92), (0, .class_ 93), (0, .nameAndType 94 95), (0, u "java/util/ImmutableCollections"), (0, u "EMPTY_LIST"), (0, u "Ljava/util/ImmutableCollections$ListN;"), (0, .class_ 97), (0, u "java/util/ImmutableCollections$List12"), (0, .methodref 96 99), (0, .nameAndType 48 31), (0, .methodref 96 101), (0, .nameAndType 48 102), (0, u "(Ljava/lang/Object;Ljava/lang/Object;)V"), (0, .class_ 104), (0, u "java/lang/Object"), (3, u "([Ljava/lang/Object;)Ljava/util/List;"), (0, .methodref 91 110), (0, .nameAndType 111 108), (0, u "listFromArray"), (0, .methodref 91 113), (0, .nameAndType 114 115), (0, u "listCopy"), (0, u "(Ljava/util/Collection;)Ljava/util/List;"), (3, u "()Ljava/util/List;"), (0, .class_ 121), (0, u "java/util/SequencedCollection"), (112, u "copyOf")] 16
def k6m0 : Method := ⟨"size", "()I", ⟨[], some .int⟩, 1025, none⟩
def k6c1 : Code := ⟨1, 0, jdk_40_method_36_code, #[], #[]⟩
def k6m1 : Method := ⟨"of", "()Ljava/util/List;", ⟨[], some (.object "java/util/List")⟩, 9, some k6c1⟩
def k6c2 : Code := ⟨5, 2, jdk_40_method_47_code, #[], #[]⟩
def k6m2 : Method := ⟨"of", "([Ljava/lang/Object;)Ljava/util/List;", ⟨[(.array (.object "java/lang/Object"))], some (.object "java/util/List")⟩, 137, some k6c2⟩
def k6c3 : Code := ⟨1, 1, jdk_40_method_48_code, #[], #[]⟩
def k6m3 : Method := ⟨"copyOf", "(Ljava/util/Collection;)Ljava/util/List;", ⟨[(.object "java/util/Collection")], some (.object "java/util/List")⟩, 9, some k6c3⟩
def k6 : Class := { plain "java/util/List" (some 0) with
  accessFlags := 1537
  interfaces := #[5]
  cf := some (fileOf pool6 8 #[] #[⟨1025, 79, 80, #[]⟩, ⟨9, 88, 119, #[]⟩, ⟨137, 88, 108, #[]⟩, ⟨9, 234, 115, #[]⟩] 1537 103 #[120] #[])
  fields := #[]
  methods := #[k6m0, k6m1, k6m2, k6m3]
  instanceTypes := #[]
  staticTypes := #[]
  resolved := Array.replicate 251 none
  statics := none }
def pool7 : Array CpInfo := pool [(1, .methodref 2 3), (0, .class_ 4), (0, .nameAndType 5 6), (0, u "java/util/AbstractCollection"), (0, u "<init>"), (0, u "()V"), (0, .fieldref 8 9), (0, .class_ 10), (0, .nameAndType 11 12), (0, u "java/util/AbstractList"), (0, u "modCount"), (0, u "I"), (64, .class_ 78), (0, u "java/util/AbstractList$Itr"), (3, .class_ 83), (0, u "java/util/AbstractList$ListItr"), (9, .class_ 94), (0, u "java/util/AbstractList$RandomAccessSubList"), (3, .class_ 99), (0, u "java/util/AbstractList$SubList"), (33, .class_ 134), (0, u "java/util/List"), (73, .class_ 209), (0, u "java/util/AbstractList$SubList$1"), (0, .class_ 211), (0, u "java/util/AbstractList$RandomAccessSpliterator")] 6
def k7c0 : Code := ⟨2, 1, jdk_39_method_1_code, #[], #[]⟩
def k7m0 : Method := ⟨"<init>", "()V", ⟨[], none⟩, 4, some k7c0⟩
def k7 : Class := { plain "java/util/AbstractList" (some 4) with
  accessFlags := 1057
  interfaces := #[6]
  cf := some (fileOf pool7 8 #[.nestMembers #[93, 98, 208, 210, 82, 77]] #[⟨4, 5, 6, #[]⟩] 1057 2 #[133] #[⟨132, 11, 12, #[]⟩])
  fields := #[⟨"modCount", .int, 132, 0, 0⟩]
  methods := #[k7m0]
  instanceTypes := #[.int]
  staticTypes := #[]
  resolved := Array.replicate 218 none
  statics := none }
def pool8 : Array CpInfo := pool [(1, .class_ 2), (0, u "java/util/RandomAccess"), (0, .class_ 4), (0, u "java/lang/Object")] 2
def k8 : Class := { plain "java/util/RandomAccess" (some 0) with
  accessFlags := 1537
  interfaces := #[]
  cf := some (fileOf pool8 1 #[] #[] 1537 3 #[] #[])
  fields := #[]
  methods := #[]
  instanceTypes := #[]
  staticTypes := #[]
  resolved := Array.replicate 7 none
  statics := none }
def pool9 : Array CpInfo := pool [(1, .class_ 2), (0, u "java/lang/Cloneable"), (0, .class_ 4), (0, u "java/lang/Object")] 2
def k9 : Class := { plain "java/lang/Cloneable" (some 0) with
  accessFlags := 1537
  interfaces := #[]
  cf := some (fileOf pool9 1 #[] #[] 1537 3 #[] #[])
  fields := #[]
  methods := #[]
  instanceTypes := #[]
  staticTypes := #[]
  resolved := Array.replicate 7 none
  statics := none }
def pool10 : Array CpInfo := pool [(1, .class_ 2), (0, u "java/io/Serializable"), (0, .class_ 4), (0, u "java/lang/Object")] 2
def k10 : Class := { plain "java/io/Serializable" (some 0) with
  accessFlags := 1537
  interfaces := #[]
  cf := some (fileOf pool10 1 #[] #[] 1537 3 #[] #[])
  fields := #[]
  methods := #[]
  instanceTypes := #[]
  staticTypes := #[]
  resolved := Array.replicate 7 none
  statics := none }
def pool11 : Array CpInfo := pool [(1, .methodref 2 3), (0, .class_ 4), (0, .nameAndType 5 6), (0, u "java/util/AbstractList"), (0, u "<init>"), (0, u "()V"), (0, .class_ 8), (0, u "java/lang/Object"), (0, .fieldref 10 11), (0, .class_ 12), (0, .nameAndType 13 14), (0, u "java/util/ArrayList"), (0, u "elementData"), (0, u "[Ljava/lang/Object;"), (2, u "EMPTY_ELEMENTDATA"), (21, .fieldref 10 40), (0, .nameAndType 41 14), (0, u "DEFAULTCAPACITY_EMPTY_ELEMENTDATA"), (4, u "toArray"), (0, u "()[Ljava/lang/Object;"), (0, .fieldref 10 49), (0, .nameAndType 50 51), (0, u "size"), (0, u "I"), (6, .class_ 60), (1, u "java/util/Arrays"), (0, u "copyOf"), (1, .fieldref 10 64), (0, .nameAndType 65 51), (0, u "modCount"), (0, .methodref 58 67), (0, .nameAndType 61 68), (0, u "([Ljava/lang/Object;I)[Ljava/lang/Object;"), (0, .methodref 10 70), (0, .nameAndType 71 72), (0, u "grow"), (0, u "(I)[Ljava/lang/Object;"), (6, .methodref 80 81), (0, .class_ 82), (0, .nameAndType 83 84), (0, u "java/lang/Math"), (0, u "max"), (0, u "(II)I"), (11, u "(Ljava/lang/Object;)Z"), (32, .methodref 10 130), (0, .nameAndType 71 47), (0, .methodref 10 132), (0, .nameAndType 133 134), (0, u "add"), (0, u "(Ljava/lang/Object;[Ljava/lang/Object;I)V"), (13, .class_ 149), (0, u "java/util/List"), (23, u "()Z"), (88, .class_ 263), (0, u "java/util/ArrayList$ListItr"), (3, .class_ 268), (0, u "java/util/ArrayList$Itr"), (7, .class_ 277), (0, u "java/util/ArrayList$SubList"), (12, .class_ 291), (0, u "java/util/ArrayList$ArrayListSpliterator"), (37, .class_ 330), (0, u "java/util/RandomAccess"), (0, .class_ 332), (0, u "java/lang/Cloneable"), (0, .class_ 334), (0, u "java/io/Serializable"), (0, u "serialVersionUID"), (0, u "J"), (3, u "DEFAULT_CAPACITY"), (22, u "isEmpty"), (136, .class_ 501), (0, u "java/util/ArrayList$SubList$2"), (0, .class_ 503), (0, u "java/util/ArrayList$SubList$1")] 5
def k11c0 : Code := ⟨2, 1, jdk_38_method_2_code, #[], #[]⟩
def k11m0 : Method := ⟨"<init>", "()V", ⟨[], none⟩, 1, some k11c0⟩
def k11c1 : Code := ⟨4, 4, jdk_38_method_6_code, #[], #[]⟩
def k11m1 : Method := ⟨"grow", "(I)[Ljava/lang/Object;", ⟨[.int], some (.array (.object "java/lang/Object"))⟩, 2, some k11c1⟩
def k11c2 : Code := ⟨3, 1, jdk_38_method_7_code, #[], #[]⟩
def k11m2 : Method := ⟨"grow", "()[Ljava/lang/Object;", ⟨[], some (.array (.object "java/lang/Object"))⟩, 2, some k11c2⟩
def k11c3 : Code := ⟨1, 1, jdk_38_method_9_code, #[], #[]⟩
def k11m3 : Method := ⟨"isEmpty", "()Z", ⟨[], some .boolean⟩, 1, some k11c3⟩
def k11c4 : Code := ⟨2, 1, jdk_38_method_16_code, #[], #[]⟩
def k11m4 : Method := ⟨"toArray", "()[Ljava/lang/Object;", ⟨[], some (.array (.object "java/lang/Object"))⟩, 1, some k11c4⟩
def k11c5 : Code := ⟨3, 4, jdk_38_method_24_code, #[], #[]⟩
def k11m5 : Method := ⟨"add", "(Ljava/lang/Object;[Ljava/lang/Object;I)V", ⟨[(.object "java/lang/Object"), (.array (.object "java/lang/Object")), .int], none⟩, 2, some k11c5⟩
def k11c6 : Code := ⟨4, 2, jdk_38_method_25_code, #[], #[]⟩
def k11m6 : Method := ⟨"add", "(Ljava/lang/Object;)Z", ⟨[(.object "java/lang/Object")], some .boolean⟩, 1, some k11c6⟩
def k11 : Class := { plain "java/util/ArrayList" (some 7) with
  accessFlags := 33
  interfaces := #[6, 8, 9, 10]
  cf := some (fileOf pool11 10 #[.nestMembers #[290, 276, 500, 502, 262, 267]] #[⟨1, 5, 6, #[]⟩, ⟨2, 71, 72, #[]⟩, ⟨2, 71, 47, #[]⟩, ⟨1, 363, 173, #[]⟩, ⟨1, 46, 47, #[]⟩, ⟨2, 133, 134, #[]⟩, ⟨1, 133, 96, #[]⟩] 33 2 #[148, 329, 331, 333] #[⟨26, 335, 336, #[]⟩, ⟨26, 340, 51, #[]⟩, ⟨26, 17, 14, #[]⟩, ⟨26, 41, 14, #[]⟩, ⟨128, 13, 14, #[]⟩, ⟨2, 50, 51, #[]⟩])
  fields := #[⟨"serialVersionUID", .long, 26, 0, 0⟩, ⟨"DEFAULT_CAPACITY", .int, 26, 1, 0⟩, ⟨"EMPTY_ELEMENTDATA", (.array (.object "java/lang/Object")), 26, 2, 0⟩, ⟨"DEFAULTCAPACITY_EMPTY_ELEMENTDATA", (.array (.object "java/lang/Object")), 26, 3, 0⟩, ⟨"elementData", (.array (.object "java/lang/Object")), 128, 1, 0⟩, ⟨"size", .int, 2, 2, 0⟩]
  methods := #[k11m0, k11m1, k11m2, k11m3, k11m4, k11m5, k11m6]
  instanceTypes := #[.int, (.array (.object "java/lang/Object")), .int]
  staticTypes := #[.long, .int, (.array (.object "java/lang/Object")), (.array (.object "java/lang/Object"))]
  resolved := Array.replicate 509 none
  statics := some 0 }
def pool12 : Array CpInfo := pool [(1, .methodref 2 3), (0, .class_ 4), (0, .nameAndType 5 6), (0, u "java/lang/Object"), (0, u "<init>"), (0, u "()V"), (2, .class_ 10), (0, u "java/lang/StringBuilder"), (0, .methodref 9 3), (2, .methodref 9 15), (0, .nameAndType 16 17), (0, u "append"), (0, u "(Ljava/lang/String;)Ljava/lang/StringBuilder;"), (0, .methodref 9 19), (0, .nameAndType 16 20), (0, u "(J)Ljava/lang/StringBuilder;"), (0, .methodref 9 22), (0, .nameAndType 23 24), (0, u "toString"), (0, u "()Ljava/lang/String;"), (5, .fieldref 31 32), (0, .class_ 33), (0, .nameAndType 34 35), (0, u "com/example/kick/kick/value/CloseReport"), (0, u "completed"), (0, u "J"), (0, .fieldref 31 37), (0, .nameAndType 38 35), (0, u "interrupted"), (0, .interfaceMethodref 40 41), (0, .class_ 42), (0, .nameAndType 43 44), (0, u "java/util/List"), (0, u "copyOf"), (0, u "(Ljava/util/Collection;)Ljava/util/List;"), (0, .fieldref 31 46), (0, .nameAndType 47 48), (0, u "notStartedTasks"), (0, u "Ljava/util/List;"), (0, .interfaceMethodref 40 50), (0, .nameAndType 51 52), (0, u "size"), (0, u "()I"), (19, u "(JJLjava/util/List;)V"), (0, .string 74), (0, u "CloseReport[completed="), (0, .string 76), (0, u ", notStarted="), (0, .methodref 31 78), (0, .nameAndType 79 80), (0, u "notStarted"), (0, u "()J"), (0, .string 82), (0, u ", interrupted="), (0, .string 84), (0, u "]")] 12
def k12c0 : Code := ⟨5, 6, prog_9_method_1_code, #[], #[]⟩
def k12m0 : Method := ⟨"<init>", "(JJLjava/util/List;)V", ⟨[.long, .long, (.object "java/util/List")], none⟩, 1, some k12c0⟩
def k12c1 : Code := ⟨2, 1, prog_9_method_3_code, #[], #[]⟩
def k12m1 : Method := ⟨"notStarted", "()J", ⟨[], some .long⟩, 1, some k12c1⟩
def k12c2 : Code := ⟨3, 1, prog_9_method_7_code, #[], #[]⟩
def k12m2 : Method := ⟨"toString", "()Ljava/lang/String;", ⟨[], some (.object "java/lang/String")⟩, 1, some k12c2⟩
def k12 : Class := { plain "com/example/kick/kick/value/CloseReport" (some 0) with
  accessFlags := 49
  interfaces := #[]
  cf := some (fileOf pool12 31 #[] #[⟨1, 5, 72, #[]⟩, ⟨1, 79, 80, #[]⟩, ⟨1, 23, 24, #[]⟩] 49 2 #[] #[⟨18, 34, 35, #[]⟩, ⟨18, 38, 35, #[]⟩, ⟨18, 47, 48, #[]⟩])
  fields := #[⟨"completed", .long, 18, 0, 0⟩, ⟨"interrupted", .long, 18, 1, 0⟩, ⟨"notStartedTasks", (.object "java/util/List"), 18, 2, 0⟩]
  methods := #[k12m0, k12m1, k12m2]
  instanceTypes := #[.long, .long, (.object "java/util/List")]
  staticTypes := #[]
  resolved := Array.replicate 97 none
  statics := none }
def pool13 : Array CpInfo := pool [(2, .class_ 4), (1, u "java/lang/Object"), (0, u "<init>"), (0, u "()V"), (3, .class_ 11), (0, u "java/util/ImmutableCollections$List12"), (0, .class_ 13), (0, u "java/util/ImmutableCollections$ListN"), (3, u "Z"), (0, .class_ 19), (0, u "java/util/List"), (0, .interfaceMethodref 21 22), (0, .class_ 23), (0, .nameAndType 24 25), (0, u "java/util/Collection"), (0, u "isEmpty"), (0, u "()Z"), (0, .interfaceMethodref 18 27), (0, .nameAndType 28 29), (0, u "of"), (0, u "()Ljava/util/List;"), (0, .interfaceMethodref 21 31), (0, .nameAndType 32 33), (0, u "toArray"), (0, u "()[Ljava/lang/Object;"), (0, .interfaceMethodref 18 35), (0, .nameAndType 28 36), (0, u "([Ljava/lang/Object;)Ljava/util/List;"), (0, .methodref 38 39), (0, .class_ 40), (0, .nameAndType 41 42), (0, u "java/util/Objects"), (0, u "requireNonNull"), (0, u "(Ljava/lang/Object;)Ljava/lang/Object;"), (0, .methodref 12 44), (0, .nameAndType 5 45), (0, u "([Ljava/lang/Object;Z)V"), (1, .class_ 49), (1, u "java/util/ImmutableCollections"), (0, u "$assertionsDisabled"), (5, u "[Ljava/lang/Object;"), (5, u "EMPTY_LIST"), (0, u "Ljava/util/ImmutableCollections$ListN;"), (8, u "EMPTY_LIST_NULLS"), (22, u "SALT32L"), (0, u "J"), (2, u "REVERSE"), (6, u "archivedObjects"), (2, u "EMPTY"), (0, u "Ljava/lang/Object;"), (0, .class_ 112), (0, u "java/util/ImmutableCollections$SetN"), (5, u "EMPTY_SET"), (0, u "Ljava/util/ImmutableCollections$SetN;"), (0, .class_ 121), (0, u "java/util/ImmutableCollections$MapN"), (3, u "EMPTY_MAP"), (0, u "Ljava/util/ImmutableCollections$MapN;"), (4, u "EXPAND_FACTOR"), (0, u "I"), (9, u "listCopy"), (0, u "(Ljava/util/Collection;)Ljava/util/List;"), (7, u "listFromArray"), (17, .class_ 170), (0, u "java/util/ImmutableCollections$MapN$MapNIterator"), (0, .class_ 172), (0, u "java/util/ImmutableCollections$MapN$1"), (0, .class_ 174), (0, u "java/util/ImmutableCollections$Map1"), (0, .class_ 176), (0, u "java/util/ImmutableCollections$AbstractImmutableMap"), (0, .class_ 178), (0, u "java/util/ImmutableCollections$SetN$SetNIterator"), (0, .class_ 180), (0, u "java/util/ImmutableCollections$Set12"), (0, .class_ 182), (0, u "java/util/ImmutableCollections$Set12$1"), (0, .class_ 184), (0, u "java/util/ImmutableCollections$AbstractImmutableSet"), (0, .class_ 186), (0, u "java/util/ImmutableCollections$SubList"), (0, .class_ 188), (0, u "java/util/ImmutableCollections$ListItr"), (0, .class_ 190), (0, u "java/util/ImmutableCollections$AbstractImmutableList"), (0, .class_ 192), (0, u "java/util/ImmutableCollections$AbstractImmutableCollection"), (0, .class_ 194), (0, u "java/util/ImmutableCollections$Access"), (0, .class_ 196), (0, u "java/util/ImmutableCollections$Access$1")] 16
def k13m0 : Method := ⟨"<init>", "()V", ⟨[], none⟩, 2, none⟩
def k13c1 : Code := ⟨1, 2, jdk_56_method_3_code, #[], #[]⟩
def k13m1 : Method := ⟨"listCopy", "(Ljava/util/Collection;)Ljava/util/List;", ⟨[(.object "java/util/Collection")], some (.object "java/util/List")⟩, 8, some k13c1⟩
def k13c2 : Code := ⟨4, 3, jdk_56_method_4_code, #[], #[]⟩
def k13m2 : Method := ⟨"listFromArray", "([Ljava/lang/Object;)Ljava/util/List;", ⟨[(.array (.object "java/lang/Object"))], some (.object "java/util/List")⟩, 136, some k13c2⟩
def k13 : Class := { plain "java/util/ImmutableCollections" (some 0) with
  accessFlags := 32
  interfaces := #[]
  cf := some (fileOf pool13 47 #[.nestMembers #[120, 169, 171, 173, 175, 111, 177, 179, 181, 183, 12, 10, 185, 187, 189, 191, 193, 195]] #[⟨2, 5, 6, #[]⟩, ⟨8, 142, 143, #[]⟩, ⟨136, 151, 36, #[]⟩] 32 2 #[] #[⟨26, 95, 96, #[]⟩, ⟨26, 99, 17, #[]⟩, ⟨10, 106, 56, #[]⟩, ⟨26, 109, 110, #[]⟩, ⟨24, 62, 63, #[]⟩, ⟨24, 72, 63, #[]⟩, ⟨24, 118, 119, #[]⟩, ⟨24, 125, 126, #[]⟩, ⟨24, 131, 132, #[]⟩, ⟨4120, 50, 17, #[]⟩])
  fields := #[⟨"SALT32L", .long, 26, 0, 0⟩, ⟨"REVERSE", .boolean, 26, 1, 0⟩, ⟨"archivedObjects", (.array (.object "java/lang/Object")), 10, 2, 0⟩, ⟨"EMPTY", (.object "java/lang/Object"), 26, 3, 0⟩, ⟨"EMPTY_LIST", (.object "java/util/ImmutableCollections$ListN"), 24, 4, 0⟩, ⟨"EMPTY_LIST_NULLS", (.object "java/util/ImmutableCollections$ListN"), 24, 5, 0⟩, ⟨"EMPTY_SET", (.object "java/util/ImmutableCollections$SetN"), 24, 6, 0⟩, ⟨"EMPTY_MAP", (.object "java/util/ImmutableCollections$MapN"), 24, 7, 0⟩, ⟨"EXPAND_FACTOR", .int, 24, 8, 0⟩, ⟨"$assertionsDisabled", .boolean, 4120, 9, 0⟩]
  methods := #[k13m0, k13m1, k13m2]
  instanceTypes := #[]
  staticTypes := #[.long, .boolean, (.array (.object "java/lang/Object")), (.object "java/lang/Object"), (.object "java/util/ImmutableCollections$ListN"), (.object "java/util/ImmutableCollections$ListN"), (.object "java/util/ImmutableCollections$SetN"), (.object "java/util/ImmutableCollections$MapN"), .int, .boolean]
  resolved := Array.replicate 213 none
  statics := some 1 }
def pool14 : Array CpInfo := pool [(1, .methodref 2 3), (0, .class_ 4), (0, .nameAndType 5 6), (0, u "java/util/AbstractCollection"), (0, u "<init>"), (0, u "()V"), (1, .class_ 10), (1, u "java/util/ImmutableCollections"), (2, .class_ 14), (0, u "java/util/ImmutableCollections$AbstractImmutableCollection")] 41
def k14c0 : Code := ⟨1, 1, jdk_47_method_1_code, #[], #[]⟩
def k14m0 : Method := ⟨"<init>", "()V", ⟨[], none⟩, 0, some k14c0⟩
def k14 : Class := { plain "java/util/ImmutableCollections$AbstractImmutableCollection" (some 4) with
  accessFlags := 1056
  interfaces := #[]
  cf := some (fileOf pool14 13 #[.nestHost 8] #[⟨0, 5, 6, #[]⟩] 1056 2 #[] #[])
  fields := #[]
  methods := #[k14m0]
  instanceTypes := #[]
  staticTypes := #[]
  resolved := Array.replicate 56 none
  statics := none }
def pool15 : Array CpInfo := pool [(1, .methodref 2 3), (0, .class_ 4), (0, .nameAndType 5 6), (0, u "java/util/ImmutableCollections$AbstractImmutableCollection"), (0, u "<init>"), (0, u "()V"), (1, .class_ 10), (1, u "java/util/ImmutableCollections"), (3, .class_ 16), (1, u "java/util/ImmutableCollections$AbstractImmutableList"), (60, .class_ 78), (0, u "java/util/List"), (45, .class_ 125), (0, u "java/util/RandomAccess")] 70
def k15c0 : Code := ⟨1, 1, jdk_46_method_1_code, #[], #[]⟩
def k15m0 : Method := ⟨"<init>", "()V", ⟨[], none⟩, 0, some k15c0⟩
def k15 : Class := { plain "java/util/ImmutableCollections$AbstractImmutableList" (some 14) with
  accessFlags := 1056
  interfaces := #[6, 8]
  cf := some (fileOf pool15 14 #[.nestHost 8] #[⟨0, 5, 6, #[]⟩] 1056 2 #[77, 124] #[])
  fields := #[]
  methods := #[k15m0]
  instanceTypes := #[]
  staticTypes := #[]
  resolved := Array.replicate 196 none
  statics := none }
def pool16 : Array CpInfo := pool [(1, .methodref 2 3), (0, .class_ 4), (0, .nameAndType 5 6), (0, u "java/util/ImmutableCollections$AbstractImmutableList"), (0, u "<init>"), (0, u "()V"), (0, .methodref 8 9), (0, .class_ 10), (0, .nameAndType 11 12), (0, u "java/util/Objects"), (0, u "requireNonNull"), (0, u "(Ljava/lang/Object;)Ljava/lang/Object;"), (0, .fieldref 14 15), (0, .class_ 16), (0, .nameAndType 17 18), (0, u "java/util/ImmutableCollections$List12"), (0, u "e0"), (0, u "Ljava/lang/Object;"), (0, .fieldref 20 21), (0, .class_ 22), (0, .nameAndType 23 18), (0, u "java/util/ImmutableCollections"), (0, u "EMPTY"), (0, .fieldref 14 25), (0, .nameAndType 26 18), (0, u "e1"), (24, u "size"), (0, u "()I"), (17, .class_ 71), (0, u "java/io/Serializable"), (4, u "(Ljava/lang/Object;)V"), (8, u "(Ljava/lang/Object;Ljava/lang/Object;)V")] 39
def k16c0 : Code := ⟨2, 2, jdk_44_method_1_code, #[], #[]⟩
def k16m0 : Method := ⟨"<init>", "(Ljava/lang/Object;)V", ⟨[(.object "java/lang/Object")], none⟩, 0, some k16c0⟩
def k16c1 : Code := ⟨2, 3, jdk_44_method_2_code, #[], #[]⟩
def k16m1 : Method := ⟨"<init>", "(Ljava/lang/Object;Ljava/lang/Object;)V", ⟨[(.object "java/lang/Object"), (.object "java/lang/Object")], none⟩, 0, some k16c1⟩
def k16c2 : Code := ⟨2, 1, jdk_44_method_3_code, #[], #[]⟩
def k16m2 : Method := ⟨"size", "()I", ⟨[], some .int⟩, 1, some k16c2⟩
def k16 : Class := { plain "java/util/ImmutableCollections$List12" (some 15) with
  accessFlags := 48
  interfaces := #[10]
  cf := some (fileOf pool16 14 #[.nestHost 20] #[⟨0, 5, 76, #[]⟩, ⟨0, 5, 85, #[]⟩, ⟨1, 51, 52, #[]⟩] 48 2 #[70] #[⟨18, 17, 18, #[]⟩, ⟨18, 26, 18, #[]⟩])
  fields := #[⟨"e0", (.object "java/lang/Object"), 18, 0, 0⟩, ⟨"e1", (.object "java/lang/Object"), 18, 1, 0⟩]
  methods := #[k16m0, k16m1, k16m2]
  instanceTypes := #[(.object "java/lang/Object"), (.object "java/lang/Object")]
  staticTypes := #[]
  resolved := Array.replicate 125 none
  statics := none }
def pool17 : Array CpInfo := pool [(1, .methodref 2 3), (0, .class_ 4), (0, .nameAndType 5 6), (0, u "java/util/ImmutableCollections$AbstractImmutableList"), (0, u "<init>"), (0, u "()V"), (0, .fieldref 8 9), (0, .class_ 10), (0, .nameAndType 11 12), (0, u "java/util/ImmutableCollections$ListN"), (0, u "elements"), (0, u "[Ljava/lang/Object;"), (0, .fieldref 8 14), (0, .nameAndType 15 16), (0, u "allowNulls"), (0, u "Z"), (42, .class_ 60), (0, u "java/io/Serializable"), (4, u "([Ljava/lang/Object;Z)V"), (11, u "size"), (0, u "()I"), (35, .class_ 115), (0, u "java/util/ImmutableCollections")] 3
def k17c0 : Code := ⟨2, 3, jdk_45_method_1_code, #[], #[]⟩
def k17m0 : Method := ⟨"<init>", "([Ljava/lang/Object;Z)V", ⟨[(.array (.object "java/lang/Object")), .boolean], none⟩, 2, some k17c0⟩
def k17c1 : Code := ⟨1, 1, jdk_45_method_3_code, #[], #[]⟩
def k17m1 : Method := ⟨"size", "()I", ⟨[], some .int⟩, 1, some k17c1⟩
def k17 : Class := { plain "java/util/ImmutableCollections$ListN" (some 15) with
  accessFlags := 48
  interfaces := #[10]
  cf := some (fileOf pool17 8 #[.nestHost 114] #[⟨2, 5, 65, #[]⟩, ⟨1, 77, 78, #[]⟩] 48 2 #[59] #[⟨18, 11, 12, #[]⟩, ⟨18, 15, 16, #[]⟩])
  fields := #[⟨"elements", (.array (.object "java/lang/Object")), 18, 0, 0⟩, ⟨"allowNulls", .boolean, 18, 1, 0⟩]
  methods := #[k17m0, k17m1]
  instanceTypes := #[(.array (.object "java/lang/Object")), .boolean]
  staticTypes := #[]
  resolved := Array.replicate 119 none
  statics := none }
def pool18 : Array CpInfo := pool [(1, .class_ 2), (0, u "java/lang/Appendable"), (0, .class_ 4), (0, u "java/lang/Object")] 9
def k18 : Class := { plain "java/lang/Appendable" (some 0) with
  accessFlags := 1537
  interfaces := #[]
  cf := some (fileOf pool18 1 #[] #[] 1537 3 #[] #[])
  fields := #[]
  methods := #[]
  instanceTypes := #[]
  staticTypes := #[]
  resolved := Array.replicate 14 none
  statics := none }
def pool19 : Array CpInfo := pool [(2, .class_ 4), (1, u "java/lang/CharSequence"), (42, .class_ 48), (0, u "java/lang/CharSequence$1CodePointIterator"), (10, .class_ 60), (0, u "java/lang/CharSequence$1CharIterator"), (5, .class_ 67), (0, u "java/lang/Object")] 63
def k19 : Class := { plain "java/lang/CharSequence" (some 0) with
  accessFlags := 1537
  interfaces := #[]
  cf := some (fileOf pool19 2 #[.nestMembers #[47, 59]] #[] 1537 66 #[] #[])
  fields := #[]
  methods := #[]
  instanceTypes := #[]
  staticTypes := #[]
  resolved := Array.replicate 131 none
  statics := none }
def pool20 : Array CpInfo := pool [(1, .class_ 2), (0, u "java/lang/String"), (0, .methodref 4 5), (0, .class_ 6), (0, .nameAndType 7 8), (0, u "java/lang/Object"), (0, u "<init>"), (0, u "()V"), (1, .class_ 12), (1, u "java/lang/AbstractStringBuilder"), (0, u "EMPTYVALUE"), (0, u "[B"), (0, .fieldref 10 16), (0, .nameAndType 17 14), (0, u "value"), (0, .fieldref 1 19), (0, .nameAndType 20 21), (0, u "COMPACT_STRINGS"), (0, u "Z"), (0, .fieldref 10 23), (0, .nameAndType 24 25), (0, u "coder"), (0, u "B"), (6, .methodref 1 33), (0, .nameAndType 34 35), (0, u "length"), (0, u "()I"), (3, .integer 2147483647), (0, .methodref 1 41), (0, .nameAndType 24 42), (0, u "()B"), (2, u "append"), (0, u "(Ljava/lang/String;)Ljava/lang/AbstractStringBuilder;"), (1, .class_ 49), (0, u "java/lang/CharSequence"), (19, u "(Ljava/lang/String;)V"), (5, u "maybeLatin1"), (3, .fieldref 10 80), (0, .nameAndType 81 82), (0, u "count"), (0, u "I"), (0, .methodref 10 84), (0, .nameAndType 85 86), (0, u "isLatin1"), (0, u "()Z"), (13, .methodref 10 101), (0, .nameAndType 102 103), (0, u "ensureCapacityInternal"), (0, u "(I)V"), (0, .methodref 10 105), (0, .nameAndType 106 107), (0, u "newCapacity"), (0, u "(I)I"), (0, .methodref 109 110), (0, .class_ 111), (0, .nameAndType 112 113), (0, u "java/util/Arrays"), (0, u "copyOf"), (0, u "([BI)[B"), (0, .methodref 115 116), (0, .class_ 117), (0, .nameAndType 118 119), (0, u "jdk/internal/util/ArraysSupport"), (0, u "newLength"), (0, u "(III)I"), (68, u "getChars"), (19, .methodref 10 209), (0, .nameAndType 210 211), (0, u "putStringAt"), (0, u "(ILjava/lang/String;)V"), (5, u "inflateIfNeededFor"), (2, .nameAndType 221 222), (0, u "getBytes"), (0, u "([BIB)V"), (24, u "stringSize"), (6, .methodref 255 256), (0, .class_ 257), (0, .nameAndType 247 258), (0, u "java/lang/Long"), (0, u "(J)I"), (0, .methodref 255 260), (0, .nameAndType 188 261), (0, u "(JI[B)I"), (135, .methodref 10 398), (0, .nameAndType 217 69), (0, .methodref 1 220), (3, u "()[B"), (40, .class_ 445), (0, u "java/lang/Appendable"), (67, u "(J)Ljava/lang/AbstractStringBuilder;"), (38, u "getValue")] 56
def k20m0 : Method := ⟨"<init>", "()V", ⟨[], none⟩, 0, none⟩
def k20c1 : Code := ⟨2, 2, jdk_68_method_2_code, #[], #[]⟩
def k20m1 : Method := ⟨"<init>", "(I)V", ⟨[.int], none⟩, 0, some k20c1⟩
def k20c2 : Code := ⟨1, 1, jdk_68_method_6_code, #[], #[]⟩
def k20m2 : Method := ⟨"length", "()I", ⟨[], some .int⟩, 1, some k20c2⟩
def k20c3 : Code := ⟨4, 3, jdk_68_method_9_code, #[], #[]⟩
def k20m3 : Method := ⟨"ensureCapacityInternal", "(I)V", ⟨[.int], none⟩, 2, some k20c3⟩
def k20c4 : Code := ⟨5, 6, jdk_68_method_10_code, #[], #[]⟩
def k20m4 : Method := ⟨"newCapacity", "(I)I", ⟨[.int], some .int⟩, 2, some k20c4⟩
def k20c5 : Code := ⟨3, 3, jdk_68_method_22_code, #[], #[]⟩
def k20m5 : Method := ⟨"append", "(Ljava/lang/String;)Ljava/lang/AbstractStringBuilder;", ⟨[(.object "java/lang/String")], some (.object "java/lang/AbstractStringBuilder")⟩, 1, some k20c5⟩
def k20c6 : Code := ⟨5, 5, jdk_68_method_33_code, #[], #[]⟩
def k20m6 : Method := ⟨"append", "(J)Ljava/lang/AbstractStringBuilder;", ⟨[.long], some (.object "java/lang/AbstractStringBuilder")⟩, 1, some k20c6⟩
def k20c7 : Code := ⟨1, 1, jdk_68_method_64_code, #[], #[]⟩
def k20m7 : Method := ⟨"getValue", "()[B", ⟨[], some (.array .byte)⟩, 16, some k20c7⟩
def k20c8 : Code := ⟨1, 1, jdk_68_method_68_code, #[], #[]⟩
def k20m8 : Method := ⟨"isLatin1", "()Z", ⟨[], some .boolean⟩, 16, some k20c8⟩
def k20c9 : Code := ⟨2, 2, jdk_68_method_71_code, #[], #[]⟩
def k20m9 : Method := ⟨"inflateIfNeededFor", "(Ljava/lang/String;)V", ⟨[(.object "java/lang/String")], none⟩, 2, some k20c9⟩
def k20c10 : Code := ⟨4, 3, jdk_68_method_73_code, #[], #[]⟩
def k20m10 : Method := ⟨"putStringAt", "(ILjava/lang/String;)V", ⟨[.int, (.object "java/lang/String")], none⟩, 2, some k20c10⟩
def k20 : Class := { plain "java/lang/AbstractStringBuilder" (some 0) with
  accessFlags := 1056
  interfaces := #[18, 19]
  cf := some (fileOf pool20 10 #[] #[⟨0, 7, 8, #[]⟩, ⟨0, 7, 103, #[]⟩, ⟨1, 34, 35, #[]⟩, ⟨2, 102, 103, #[]⟩, ⟨2, 106, 107, #[]⟩, ⟨1, 45, 46, #[]⟩, ⟨1, 45, 513, #[]⟩, ⟨16, 552, 403, #[]⟩, ⟨16, 85, 86, #[]⟩, ⟨2, 217, 69, #[]⟩, ⟨2, 210, 211, #[]⟩] 1056 4 #[444, 48] #[⟨0, 17, 14, #[]⟩, ⟨0, 24, 25, #[]⟩, ⟨0, 75, 21, #[]⟩, ⟨0, 81, 82, #[]⟩, ⟨26, 13, 14, #[]⟩])
  fields := #[⟨"value", (.array .byte), 0, 0, 0⟩, ⟨"coder", .byte, 0, 1, 0⟩, ⟨"maybeLatin1", .boolean, 0, 2, 0⟩, ⟨"count", .int, 0, 3, 0⟩, ⟨"EMPTYVALUE", (.array .byte), 26, 0, 0⟩]
  methods := #[k20m0, k20m1, k20m2, k20m3, k20m4, k20m5, k20m6, k20m7, k20m8, k20m9, k20m10]
  instanceTypes := #[(.array .byte), .byte, .boolean, .int]
  staticTypes := #[(.array .byte)]
  resolved := Array.replicate 609 none
  statics := none }
def pool21 : Array CpInfo := pool [(1, .class_ 2), (0, u "java/lang/Comparable"), (0, .class_ 4), (0, u "java/lang/Object")] 7
def k21 : Class := { plain "java/lang/Comparable" (some 0) with
  accessFlags := 1537
  interfaces := #[]
  cf := some (fileOf pool21 1 #[] #[] 1537 3 #[] #[])
  fields := #[]
  methods := #[]
  instanceTypes := #[]
  staticTypes := #[]
  resolved := Array.replicate 12 none
  statics := none }
def pool22 : Array CpInfo := pool [(1, .methodref 2 3), (0, .class_ 4), (0, .nameAndType 5 6), (0, u "java/lang/AbstractStringBuilder"), (0, u "<init>"), (0, u "(I)V"), (11, .class_ 20), (1, u "java/lang/String"), (3, .class_ 26), (1, u "java/lang/StringBuilder"), (0, u "append"), (0, u "(Ljava/lang/String;)Ljava/lang/StringBuilder;"), (0, .methodref 2 30), (0, .nameAndType 27 31), (0, u "(Ljava/lang/String;)Ljava/lang/AbstractStringBuilder;"), (24, .methodref 2 57), (0, .nameAndType 27 58), (0, u "(J)Ljava/lang/AbstractStringBuilder;"), (78, .methodref 18 138), (0, .nameAndType 5 139), (0, u "(Ljava/lang/StringBuilder;)V"), (5, u "()V"), (10, u "()I"), (124, u "(J)Ljava/lang/StringBuilder;"), (61, .methodref 2 344), (0, .nameAndType 345 156), (0, u "length"), (3, .class_ 350), (0, u "java/lang/Appendable"), (0, .class_ 352), (0, u "java/io/Serializable"), (0, .class_ 354), (0, u "java/lang/Comparable"), (0, .class_ 356), (0, u "java/lang/CharSequence"), (0, u "serialVersionUID"), (0, u "J"), (40, u "toString"), (0, u "()Ljava/lang/String;")] 21
def k22c0 : Code := ⟨2, 1, jdk_67_method_1_code, #[], #[]⟩
def k22m0 : Method := ⟨"<init>", "()V", ⟨[], none⟩, 1, some k22c0⟩
def k22c1 : Code := ⟨2, 2, jdk_67_method_7_code, #[], #[]⟩
def k22m1 : Method := ⟨"append", "(Ljava/lang/String;)Ljava/lang/StringBuilder;", ⟨[(.object "java/lang/String")], some (.object "java/lang/StringBuilder")⟩, 1, some k22c1⟩
def k22c2 : Code := ⟨3, 3, jdk_67_method_16_code, #[], #[]⟩
def k22m2 : Method := ⟨"append", "(J)Ljava/lang/StringBuilder;", ⟨[.long], some (.object "java/lang/StringBuilder")⟩, 1, some k22c2⟩
def k22c3 : Code := ⟨3, 1, jdk_67_method_42_code, #[], #[]⟩
def k22m3 : Method := ⟨"toString", "()Ljava/lang/String;", ⟨[], some (.object "java/lang/String")⟩, 1, some k22c3⟩
def k22c4 : Code := ⟨1, 1, jdk_67_method_93_code, #[], #[]⟩
def k22m4 : Method := ⟨"length", "()I", ⟨[], some .int⟩, 4161, some k22c4⟩
def k22 : Class := { plain "java/lang/StringBuilder" (some 20) with
  accessFlags := 49
  interfaces := #[18, 10, 21, 19]
  cf := some (fileOf pool22 24 #[] #[⟨1, 5, 145, #[]⟩, ⟨1, 27, 28, #[]⟩, ⟨1, 27, 281, #[]⟩, ⟨1, 399, 400, #[]⟩, ⟨4161, 345, 156, #[]⟩] 49 2 #[349, 351, 353, 355] #[⟨24, 357, 358, #[]⟩])
  fields := #[⟨"serialVersionUID", .long, 24, 0, 0⟩]
  methods := #[k22m0, k22m1, k22m2, k22m3, k22m4]
  instanceTypes := #[(.array .byte), .byte, .boolean, .int]
  staticTypes := #[.long]
  resolved := Array.replicate 422 none
  statics := none }
def pool23 : Array CpInfo := pool [(1, .class_ 2), (0, u "java/lang/constant/Constable"), (0, .class_ 4), (0, u "java/lang/Object")] 6
def k23 : Class := { plain "java/lang/constant/Constable" (some 0) with
  accessFlags := 1537
  interfaces := #[]
  cf := some (fileOf pool23 1 #[] #[] 1537 3 #[] #[])
  fields := #[]
  methods := #[]
  instanceTypes := #[]
  staticTypes := #[]
  resolved := Array.replicate 11 none
  statics := none }
def pool24 : Array CpInfo := pool [(1, .class_ 2), (0, u "java/lang/constant/ConstantDesc"), (0, .class_ 4), (0, u "java/lang/Object")] 32
def k24 : Class := { plain "java/lang/constant/ConstantDesc" (some 0) with
  accessFlags := 1537
  interfaces := #[]
  cf := some (fileOf pool24 1 #[] #[] 1537 3 #[] #[])
  fields := #[]
  methods := #[]
  instanceTypes := #[]
  staticTypes := #[]
  resolved := Array.replicate 37 none
  statics := none }
def pool25 : Array CpInfo := pool [(1, .methodref 2 3), (0, .class_ 4), (0, .nameAndType 5 6), (0, u "java/lang/Object"), (0, u "<init>"), (0, u "()V"), (2, .fieldref 10 11), (0, .class_ 12), (0, .nameAndType 13 14), (0, u "java/lang/String"), (0, u "value"), (0, u "[B"), (0, .fieldref 10 16), (0, .nameAndType 17 18), (0, u "coder"), (0, u "B"), (2, u "hash"), (0, u "I"), (2, u "hashIsZero"), (0, u "Z"), (11, .fieldref 10 39), (0, .nameAndType 40 26), (0, u "COMPACT_STRINGS"), (12, u "toBytes"), (0, .methodref 55 56), (0, .class_ 57), (0, .nameAndType 58 59), (0, u "java/util/Arrays"), (0, u "copyOfRange"), (0, u "([BII)[B"), (47, .class_ 109), (1, u "java/lang/StringLatin1"), (32, u "()Z"), (50, .class_ 195), (1, u "java/lang/System"), (13, .methodref 10 210), (0, .nameAndType 5 211), (0, u "([BB)V"), (0, .methodref 193 213), (0, .nameAndType 214 215), (0, u "arraycopy"), (0, u "(Ljava/lang/Object;ILjava/lang/Object;II)V"), (118, u "()I"), (0, .methodref 10 336), (0, .nameAndType 17 337), (0, u "()B"), (2, u "()[B"), (22, u "([BI)C"), (5, u "(C)Z"), (21, u "(II)V"), (35, u "(I)C"), (61, .methodref 10 490), (0, .nameAndType 5 491), (0, u "(Ljava/lang/AbstractStringBuilder;Ljava/lang/Void;)V"), (0, .methodref 10 493), (0, .nameAndType 494 142), (0, u "isLatin1"), (0, .methodref 107 496), (0, .nameAndType 497 363), (0, u "charAt"), (3, u "checkIndex"), (4, .nameAndType 507 334), (0, u "length"), (24, u "getBytes"), (16, .methodref 550 506), (0, .class_ 551), (0, u "java/lang/AbstractStringBuilder"), (0, .methodref 550 553), (0, .nameAndType 554 340), (0, u "getValue"), (20, .class_ 576), (0, u "java/lang/CharSequence"), (22, u "CASE_INSENSITIVE_ORDER"), (0, u "Ljava/util/Comparator;"), (181, u "valueOf"), (0, u "(C)Ljava/lang/String;"), (37, u "([BIB)V"), (193, .methodref 107 1016), (0, .nameAndType 1017 369), (0, u "canEncode"), (0, .methodref 107 1019), (0, .nameAndType 53 1020), (0, u "(C)[B"), (26, .methodref 550 493), (5, .fieldref 1054 1055), (0, .class_ 1056), (0, .nameAndType 1057 1058), (0, u "jdk/internal/util/Preconditions"), (0, u "SIOOBE_FORMATTER"), (0, u "Ljava/util/function/BiFunction;"), (0, .methodref 1054 1060), (0, .nameAndType 501 1061), (0, u "(IILjava/util/function/BiFunction;)I"), (39, u "serialPersistentFields"), (0, u "[Ljava/io/ObjectStreamField;"), (0, .class_ 1104), (0, u "java/lang/String$CaseInsensitiveComparator"), (1, .class_ 1107), (0, u "java/io/Serializable"), (0, .class_ 1109), (0, u "java/lang/Comparable"), (0, .class_ 1111), (0, u "java/lang/constant/Constable"), (0, .class_ 1113), (0, u "java/lang/constant/ConstantDesc"), (2, u "serialVersionUID"), (0, u "J"), (3, u "REPL"), (0, u "C"), (2, u "LATIN1"), (1, u "UTF16"), (105, u "(Ljava/lang/StringBuilder;)V")] 217
def k25m0 : Method := ⟨"<init>", "()V", ⟨[], none⟩, 1, none⟩
def k25c1 : Code := ⟨3, 2, jdk_42_method_53_code, #[], #[]⟩
def k25m1 : Method := ⟨"<init>", "(Ljava/lang/StringBuilder;)V", ⟨[(.object "java/lang/StringBuilder")], none⟩, 1, some k25c1⟩
def k25c2 : Code := ⟨2, 1, jdk_42_method_54_code, #[], #[]⟩
def k25m2 : Method := ⟨"length", "()I", ⟨[], some .int⟩, 1, some k25c2⟩
def k25c3 : Code := ⟨2, 2, jdk_42_method_56_code, #[], #[]⟩
def k25m3 : Method := ⟨"charAt", "(I)C", ⟨[.int], some .char⟩, 1, some k25c3⟩
def k25c4 : Code := ⟨4, 1, jdk_42_method_139_code, #[], #[]⟩
def k25m4 : Method := ⟨"valueOf", "(C)Ljava/lang/String;", ⟨[.char], some (.object "java/lang/String")⟩, 9, some k25c4⟩
def k25c5 : Code := ⟨5, 4, jdk_42_method_147_code, #[], #[]⟩
def k25m5 : Method := ⟨"getBytes", "([BIB)V", ⟨[(.array .byte), .int, .byte], none⟩, 0, some k25c5⟩
def k25c6 : Code := ⟨5, 5, jdk_42_method_150_code, #[], #[]⟩
def k25m6 : Method := ⟨"<init>", "(Ljava/lang/AbstractStringBuilder;Ljava/lang/Void;)V", ⟨[(.object "java/lang/AbstractStringBuilder"), (.object "java/lang/Void")], none⟩, 0, some k25c6⟩
def k25c7 : Code := ⟨2, 3, jdk_42_method_151_code, #[], #[]⟩
def k25m7 : Method := ⟨"<init>", "([BB)V", ⟨[(.array .byte), .byte], none⟩, 0, some k25c7⟩
def k25c8 : Code := ⟨1, 1, jdk_42_method_152_code, #[], #[]⟩
def k25m8 : Method := ⟨"coder", "()B", ⟨[], some .byte⟩, 0, some k25c8⟩
def k25c9 : Code := ⟨1, 1, jdk_42_method_154_code, #[], #[]⟩
def k25m9 : Method := ⟨"isLatin1", "()Z", ⟨[], some .boolean⟩, 0, some k25c9⟩
def k25c10 : Code := ⟨3, 2, jdk_42_method_155_code, #[], #[]⟩
def k25m10 : Method := ⟨"checkIndex", "(II)V", ⟨[.int, .int], none⟩, 8, some k25c10⟩
def k25 : Class := { plain "java/lang/String" (some 0) with
  accessFlags := 49
  interfaces := #[10, 21, 19, 23, 24]
  cf := some (fileOf pool25 10 #[.nestMembers #[1103]] #[⟨1, 5, 6, #[]⟩, ⟨1, 5, 1233, #[]⟩, ⟨1, 507, 334, #[]⟩, ⟨1, 497, 427, #[]⟩, ⟨9, 782, 783, #[]⟩, ⟨0, 532, 821, #[]⟩, ⟨0, 5, 491, #[]⟩, ⟨0, 5, 211, #[]⟩, ⟨0, 17, 337, #[]⟩, ⟨0, 494, 142, #[]⟩, ⟨8, 501, 391, #[]⟩] 49 2 #[1106, 1108, 575, 1110, 1112] #[⟨18, 13, 14, #[]⟩, ⟨18, 17, 18, #[]⟩, ⟨2, 21, 22, #[]⟩, ⟨2, 25, 26, #[]⟩, ⟨26, 1116, 1117, #[]⟩, ⟨24, 40, 26, #[]⟩, ⟨26, 1101, 1102, #[]⟩, ⟨26, 1121, 1122, #[]⟩, ⟨25, 599, 600, #[]⟩, ⟨24, 1125, 18, #[]⟩, ⟨24, 1127, 18, #[]⟩])
  fields := #[⟨"value", (.array .byte), 18, 0, 0⟩, ⟨"coder", .byte, 18, 1, 0⟩, ⟨"hash", .int, 2, 2, 0⟩, ⟨"hashIsZero", .boolean, 2, 3, 0⟩, ⟨"serialVersionUID", .long, 26, 0, 0⟩, ⟨"COMPACT_STRINGS", .boolean, 24, 1, 0⟩, ⟨"serialPersistentFields", (.array (.object "java/io/ObjectStreamField")), 26, 2, 0⟩, ⟨"REPL", .char, 26, 3, 0⟩, ⟨"CASE_INSENSITIVE_ORDER", (.object "java/util/Comparator"), 25, 4, 0⟩, ⟨"LATIN1", .byte, 24, 5, 0⟩, ⟨"UTF16", .byte, 24, 6, 0⟩]
  methods := #[k25m0, k25m1, k25m2, k25m3, k25m4, k25m5, k25m6, k25m7, k25m8, k25m9, k25m10]
  instanceTypes := #[(.array .byte), .byte, .int, .boolean]
  staticTypes := #[.long, .boolean, (.array (.object "java/io/ObjectStreamField")), .char, (.object "java/util/Comparator"), .byte, .byte]
  resolved := Array.replicate 1451 none
  statics := some 2 }
def pool26 : Array CpInfo := pool [(9, u "<init>"), (6, .class_ 18), (1, u "java/lang/Object"), (0, u "()V"), (1, .class_ 23), (1, u "jdk/internal/util/ArraysSupport"), (0, u "LOG2_ARRAY_LONG_INDEX_SCALE"), (0, u "I"), (2, u "U"), (0, u "Ljdk/internal/misc/Unsafe;"), (8, u "BIG_ENDIAN"), (0, u "Z"), (8, u "LOG2_BYTE_BIT_SIZE"), (4, u "LOG2_ARRAY_INT_INDEX_SCALE"), (54, u "JLA"), (0, u "Ljdk/internal/access/JavaLangAccess;"), (11, u "LOG2_ARRAY_BOOLEAN_INDEX_SCALE"), (9, u "LOG2_ARRAY_BYTE_INDEX_SCALE"), (5, u "LOG2_ARRAY_CHAR_INDEX_SCALE"), (5, u "LOG2_ARRAY_SHORT_INDEX_SCALE"), (18, u "LOG2_ARRAY_FLOAT_INDEX_SCALE"), (24, u "LOG2_ARRAY_DOUBLE_INDEX_SCALE"), (6, .methodref 195 196), (0, .class_ 197), (0, .nameAndType 198 199), (0, u "java/lang/Math"), (0, u "max"), (0, u "(II)I"), (0, .integer 2147483639), (76, u "T_BOOLEAN"), (2, u "T_CHAR"), (1, u "T_FLOAT"), (1, u "T_DOUBLE"), (1, u "T_BYTE"), (1, u "T_SHORT"), (1, u "T_INT"), (1, u "T_LONG"), (1, u "SOFT_MAX_ARRAY_LENGTH"), (56, u "newLength"), (0, u "(III)I")] 25
def k26m0 : Method := ⟨"<init>", "()V", ⟨[], none⟩, 2, none⟩
def k26c1 : Code := ⟨3, 4, jdk_48_method_27_code, #[], #[]⟩
def k26m1 : Method := ⟨"newLength", "(III)I", ⟨[.int, .int, .int], some .int⟩, 9, some k26c1⟩
def k26 : Class := { plain "jdk/internal/util/ArraysSupport" (some 0) with
  accessFlags := 33
  interfaces := #[]
  cf := some (fileOf pool26 21 #[] #[⟨2, 9, 19, #[]⟩, ⟨9, 351, 352, #[]⟩] 33 16 #[] #[⟨24, 28, 29, #[]⟩, ⟨26, 38, 39, #[]⟩, ⟨25, 121, 25, #[]⟩, ⟨25, 131, 25, #[]⟩, ⟨25, 137, 25, #[]⟩, ⟨25, 143, 25, #[]⟩, ⟨25, 53, 25, #[]⟩, ⟨25, 24, 25, #[]⟩, ⟨25, 162, 25, #[]⟩, ⟨25, 187, 25, #[]⟩, ⟨26, 48, 25, #[]⟩, ⟨25, 277, 25, #[]⟩, ⟨25, 280, 25, #[]⟩, ⟨25, 282, 25, #[]⟩, ⟨25, 284, 25, #[]⟩, ⟨25, 286, 25, #[]⟩, ⟨25, 288, 25, #[]⟩, ⟨25, 290, 25, #[]⟩, ⟨25, 292, 25, #[]⟩, ⟨26, 108, 109, #[]⟩, ⟨25, 294, 25, #[]⟩])
  fields := #[⟨"U", (.object "jdk/internal/misc/Unsafe"), 24, 0, 0⟩, ⟨"BIG_ENDIAN", .boolean, 26, 1, 0⟩, ⟨"LOG2_ARRAY_BOOLEAN_INDEX_SCALE", .int, 25, 2, 0⟩, ⟨"LOG2_ARRAY_BYTE_INDEX_SCALE", .int, 25, 3, 0⟩, ⟨"LOG2_ARRAY_CHAR_INDEX_SCALE", .int, 25, 4, 0⟩, ⟨"LOG2_ARRAY_SHORT_INDEX_SCALE", .int, 25, 5, 0⟩, ⟨"LOG2_ARRAY_INT_INDEX_SCALE", .int, 25, 6, 0⟩, ⟨"LOG2_ARRAY_LONG_INDEX_SCALE", .int, 25, 7, 0⟩, ⟨"LOG2_ARRAY_FLOAT_INDEX_SCALE", .int, 25, 8, 0⟩, ⟨"LOG2_ARRAY_DOUBLE_INDEX_SCALE", .int, 25, 9, 0⟩, ⟨"LOG2_BYTE_BIT_SIZE", .int, 26, 10, 0⟩, ⟨"T_BOOLEAN", .int, 25, 11, 0⟩, ⟨"T_CHAR", .int, 25, 12, 0⟩, ⟨"T_FLOAT", .int, 25, 13, 0⟩, ⟨"T_DOUBLE", .int, 25, 14, 0⟩, ⟨"T_BYTE", .int, 25, 15, 0⟩, ⟨"T_SHORT", .int, 25, 16, 0⟩, ⟨"T_INT", .int, 25, 17, 0⟩, ⟨"T_LONG", .int, 25, 18, 0⟩, ⟨"JLA", (.object "jdk/internal/access/JavaLangAccess"), 26, 19, 0⟩, ⟨"SOFT_MAX_ARRAY_LENGTH", .int, 25, 20, 0⟩]
  methods := #[k26m0, k26m1]
  instanceTypes := #[]
  staticTypes := #[(.object "jdk/internal/misc/Unsafe"), .boolean, .int, .int, .int, .int, .int, .int, .int, .int, .int, .int, .int, .int, .int, .int, .int, .int, .int, (.object "jdk/internal/access/JavaLangAccess"), .int]
  resolved := Array.replicate 378 none
  statics := none }
def pool27 : Array CpInfo := pool [(1, .class_ 2), (0, u "java/lang/Math"), (1, .class_ 6), (1, u "java/lang/Object"), (0, u "<init>"), (0, u "()V"), (89, .class_ 100), (1, u "java/lang/Math$RandomNumberGeneratorHolder"), (71, u "negativeZeroFloatBits"), (0, u "J"), (2, u "negativeZeroDoubleBits"), (21, u "max"), (2, u "min"), (43, u "$assertionsDisabled"), (0, u "Z"), (88, u "(II)I"), (2, u "twoToTheDoubleScaleDown"), (0, u "D"), (4, u "twoToTheDoubleScaleUp"), (9, u "E"), (3, u "PI"), (2, u "TAU"), (2, u "DEGREES_TO_RADIANS"), (0, u "RADIANS_TO_DEGREES")] 94
def k27m0 : Method := ⟨"<init>", "()V", ⟨[], none⟩, 2, none⟩
def k27c1 : Code := ⟨2, 2, jdk_29_method_65_code, #[], #[]⟩
def k27m1 : Method := ⟨"max", "(II)I", ⟨[.int, .int], some .int⟩, 9, some k27c1⟩
def k27c2 : Code := ⟨2, 2, jdk_29_method_69_code, #[], #[]⟩
def k27m2 : Method := ⟨"min", "(II)I", ⟨[.int, .int], some .int⟩, 9, some k27c2⟩
def k27 : Class := { plain "java/lang/Math" (some 0) with
  accessFlags := 49
  interfaces := #[]
  cf := some (fileOf pool27 1 #[.nestMembers #[98]] #[⟨2, 7, 8, #[]⟩, ⟨9, 198, 335, #[]⟩, ⟨9, 201, 335, #[]⟩] 49 4 #[] #[⟨25, 354, 339, #[]⟩, ⟨25, 358, 339, #[]⟩, ⟨25, 361, 339, #[]⟩, ⟨26, 364, 339, #[]⟩, ⟨26, 365, 339, #[]⟩, ⟨26, 172, 173, #[]⟩, ⟨26, 176, 173, #[]⟩, ⟨8, 344, 339, #[]⟩, ⟨8, 338, 339, #[]⟩, ⟨4120, 245, 246, #[]⟩])
  fields := #[⟨"E", .double, 25, 0, 0⟩, ⟨"PI", .double, 25, 1, 0⟩, ⟨"TAU", .double, 25, 2, 0⟩, ⟨"DEGREES_TO_RADIANS", .double, 26, 3, 0⟩, ⟨"RADIANS_TO_DEGREES", .double, 26, 4, 0⟩, ⟨"negativeZeroFloatBits", .long, 26, 5, 0⟩, ⟨"negativeZeroDoubleBits", .long, 26, 6, 0⟩, ⟨"twoToTheDoubleScaleUp", .double, 8, 7, 0⟩, ⟨"twoToTheDoubleScaleDown", .double, 8, 8, 0⟩, ⟨"$assertionsDisabled", .boolean, 4120, 9, 0⟩]
  methods := #[k27m0, k27m1, k27m2]
  instanceTypes := #[]
  staticTypes := #[.double, .double, .double, .double, .double, .long, .long, .double, .double, .boolean]
  resolved := Array.replicate 460 none
  statics := none }
def pool28 : Array CpInfo := pool [(2, .class_ 4), (1, u "java/lang/Object"), (0, u "<init>"), (0, u "()V"), (7, .class_ 16), (1, u "java/util/Arrays"), (57, .class_ 76), (1, u "java/util/Arrays$NaturalOrder"), (9, .methodref 2 87), (0, .nameAndType 88 89), (0, u "getClass"), (0, u "()Ljava/lang/Class;"), (19, u "()Ljava/lang/Object;"), (0, .class_ 111), (0, u "[Ljava/lang/Object;"), (1, .class_ 115), (1, u "java/util/Arrays$LegacyMergeSort"), (1, u "Z"), (10, .nameAndType 129 109), (0, u "clone"), (9, u "copyOfRange"), (10, .methodref 151 152), (0, .class_ 153), (0, .nameAndType 154 155), (0, u "java/lang/System"), (0, u "arraycopy"), (0, u "(Ljava/lang/Object;ILjava/lang/Object;II)V"), (144, .methodref 14 301), (0, .nameAndType 302 303), (0, u "copyOf"), (0, u "([Ljava/lang/Object;ILjava/lang/Class;)[Ljava/lang/Object;"), (0, .methodref 305 306), (0, .class_ 307), (0, .nameAndType 308 309), (0, u "java/lang/Math"), (0, u "min"), (0, u "(II)I"), (0, .methodref 311 128), (0, .class_ 312), (0, u "[B"), (26, .methodref 14 340), (0, .nameAndType 341 342), (0, u "copyOfRangeByte"), (0, u "([BII)[B"), (0, .methodref 14 344), (0, .nameAndType 345 346), (0, u "checkLength"), (0, u "(II)V"), (28, .class_ 376), (0, u "java/util/Arrays$ArrayList"), (68, u "$assertionsDisabled"), (269, u "MIN_ARRAY_SORT_GRAN"), (0, u "I"), (2, u "INSERTIONSORT_THRESHOLD"), (140, u "([Ljava/lang/Object;I)[Ljava/lang/Object;"), (8, u "([BI)[B"), (105, .class_ 976), (0, u "java/util/Arrays$ArrayItr")] 52
def k28m0 : Method := ⟨"<init>", "()V", ⟨[], none⟩, 2, none⟩
def k28c1 : Code := ⟨3, 2, jdk_65_method_119_code, #[], #[]⟩
def k28m1 : Method := ⟨"copyOf", "([Ljava/lang/Object;I)[Ljava/lang/Object;", ⟨[(.array (.object "java/lang/Object")), .int], some (.array (.object "java/lang/Object"))⟩, 9, some k28c1⟩
def k28c2 : Code := ⟨6, 4, jdk_65_method_120_code, #[], #[]⟩
def k28m2 : Method := ⟨"copyOf", "([Ljava/lang/Object;ILjava/lang/Class;)[Ljava/lang/Object;", ⟨[(.array (.object "java/lang/Object")), .int, (.object "java/lang/Class")], some (.array (.object "java/lang/Object"))⟩, 9, some k28c2⟩
def k28c3 : Code := ⟨6, 3, jdk_65_method_121_code, #[], #[]⟩
def k28m3 : Method := ⟨"copyOf", "([BI)[B", ⟨[(.array .byte), .int], some (.array .byte)⟩, 9, some k28c3⟩
def k28c4 : Code := ⟨4, 2, jdk_65_method_131_code, #[], #[]⟩
def k28m4 : Method := ⟨"checkLength", "(II)V", ⟨[.int, .int], none⟩, 10, some k28c4⟩
def k28c5 : Code := ⟨3, 3, jdk_65_method_132_code, #[], #[]⟩
def k28m5 : Method := ⟨"copyOfRange", "([BII)[B", ⟨[(.array .byte), .int, .int], some (.array .byte)⟩, 9, some k28c5⟩
def k28c6 : Code := ⟨6, 5, jdk_65_method_133_code, #[], #[]⟩
def k28m6 : Method := ⟨"copyOfRangeByte", "([BII)[B", ⟨[(.array .byte), .int, .int], some (.array .byte)⟩, 10, some k28c6⟩
def k28 : Class := { plain "java/util/Arrays" (some 0) with
  accessFlags := 49
  interfaces := #[]
  cf := some (fileOf pool28 14 #[.nestMembers #[975, 375, 113, 74]] #[⟨2, 5, 6, #[]⟩, ⟨9, 302, 860, #[]⟩, ⟨9, 302, 303, #[]⟩, ⟨9, 302, 869, #[]⟩, ⟨10, 345, 346, #[]⟩, ⟨9, 139, 342, #[]⟩, ⟨10, 341, 342, #[]⟩] 49 2 #[] #[⟨26, 715, 716, #[]⟩, ⟨26, 719, 716, #[]⟩, ⟨4120, 445, 117, #[]⟩])
  fields := #[⟨"MIN_ARRAY_SORT_GRAN", .int, 26, 0, 0⟩, ⟨"INSERTIONSORT_THRESHOLD", .int, 26, 1, 0⟩, ⟨"$assertionsDisabled", .boolean, 4120, 2, 0⟩]
  methods := #[k28m0, k28m1, k28m2, k28m3, k28m4, k28m5, k28m6]
  instanceTypes := #[]
  staticTypes := #[.int, .int, .boolean]
  resolved := Array.replicate 1029 none
  statics := none }
def pool29 : Array CpInfo := pool [(2, .class_ 4), (1, u "java/lang/Object"), (0, u "<init>"), (0, u "()V"), (1, .class_ 10), (1, u "java/lang/System"), (0, u "allowSecurityManager"), (0, u "I"), (16, u "cons"), (0, u "Ljava/io/Console;"), (77, .class_ 110), (1, u "java/lang/System$CallersHolder"), (43, u "initialErrStream"), (0, u "Ljava/io/PrintStream;"), (19, u "security"), (0, u "Ljava/lang/SecurityManager;"), (31, .class_ 209), (0, u "java/lang/System$1"), (7, u "props"), (0, u "Ljava/util/Properties;"), (2, u "lineSeparator"), (0, u "Ljava/lang/String;"), (96, .class_ 321), (1, u "java/lang/System$LoggerFinder"), (5, .class_ 328), (0, u "java/lang/System$Logger"), (67, u "err"), (2, u "out"), (91, u "notSupportedJnuEncoding"), (15, u "in"), (17, u "initialIn"), (0, u "Ljava/io/InputStream;"), (35, u "bootLayer"), (0, u "Ljava/lang/ModuleLayer;"), (99, .class_ 664), (0, u "java/lang/System$2"), (9, u "NEVER"), (2, u "MAYBE"), (49, u "arraycopy"), (0, u "(Ljava/lang/Object;ILjava/lang/Object;II)V"), (72, .class_ 802), (0, u "java/lang/System$Logger$Level")] 31
def k29m0 : Method := ⟨"<init>", "()V", ⟨[], none⟩, 2, none⟩
def k29m1 : Method := ⟨"arraycopy", "(Ljava/lang/Object;ILjava/lang/Object;II)V", ⟨[(.object "java/lang/Object"), .int, (.object "java/lang/Object"), .int, .int], none⟩, 265, none⟩
def k29 : Class := { plain "java/lang/System" (some 0) with
  accessFlags := 49
  interfaces := #[]
  cf := some (fileOf pool29 8 #[.nestMembers #[319, 327, 801, 108, 663, 208]] #[⟨2, 5, 6, #[]⟩, ⟨265, 727, 728, #[]⟩] 49 2 #[] #[⟨25, 507, 526, #[]⟩, ⟨25, 399, 155, #[]⟩, ⟨25, 396, 155, #[]⟩, ⟨10, 525, 526, #[]⟩, ⟨26, 674, 12, #[]⟩, ⟨26, 677, 12, #[]⟩, ⟨10, 11, 12, #[]⟩, ⟨74, 175, 176, #[]⟩, ⟨10, 491, 222, #[]⟩, ⟨74, 29, 30, #[]⟩, ⟨74, 154, 155, #[]⟩, ⟨10, 217, 218, #[]⟩, ⟨10, 221, 222, #[]⟩, ⟨8, 562, 563, #[]⟩])
  fields := #[⟨"in", (.object "java/io/InputStream"), 25, 0, 0⟩, ⟨"out", (.object "java/io/PrintStream"), 25, 1, 0⟩, ⟨"err", (.object "java/io/PrintStream"), 25, 2, 0⟩, ⟨"initialIn", (.object "java/io/InputStream"), 10, 3, 0⟩, ⟨"NEVER", .int, 26, 4, 0⟩, ⟨"MAYBE", .int, 26, 5, 0⟩, ⟨"allowSecurityManager", .int, 10, 6, 0⟩, ⟨"security", (.object "java/lang/SecurityManager"), 74, 7, 0⟩, ⟨"notSupportedJnuEncoding", (.object "java/lang/String"), 10, 8, 0⟩, ⟨"cons", (.object "java/io/Console"), 74, 9, 0⟩, ⟨"initialErrStream", (.object "java/io/PrintStream"), 74, 10, 0⟩, ⟨"props", (.object "java/util/Properties"), 10, 11, 0⟩, ⟨"lineSeparator", (.object "java/lang/String"), 10, 12, 0⟩, ⟨"bootLayer", (.object "java/lang/ModuleLayer"), 8, 13, 0⟩]
  methods := #[k29m0, k29m1]
  instanceTypes := #[]
  staticTypes := #[(.object "java/io/InputStream"), (.object "java/io/PrintStream"), (.object "java/io/PrintStream"), (.object "java/io/InputStream"), .int, .int, .int, (.object "java/lang/SecurityManager"), (.object "java/lang/String"), (.object "java/io/Console"), (.object "java/io/PrintStream"), (.object "java/util/Properties"), (.object "java/lang/String"), (.object "java/lang/ModuleLayer")]
  resolved := Array.replicate 834 none
  statics := none }
def pool30 : Array CpInfo := pool [(2, .class_ 4), (1, u "java/lang/Object"), (0, u "<init>"), (0, u "()V"), (1, .class_ 10), (1, u "java/lang/Number"), (2, .class_ 14), (0, u "java/io/Serializable"), (0, u "serialVersionUID"), (0, u "J")] 20
def k30m0 : Method := ⟨"<init>", "()V", ⟨[], none⟩, 1, none⟩
def k30 : Class := { plain "java/lang/Number" (some 0) with
  accessFlags := 1057
  interfaces := #[10]
  cf := some (fileOf pool30 8 #[] #[⟨1, 5, 6, #[]⟩] 1057 2 #[13] #[⟨26, 15, 16, #[]⟩])
  fields := #[⟨"serialVersionUID", .long, 26, 0, 0⟩]
  methods := #[k30m0]
  instanceTypes := #[]
  staticTypes := #[.long]
  resolved := Array.replicate 37 none
  statics := none }
def pool31 : Array CpInfo := pool [(1, .class_ 2), (0, u "java/lang/Long"), (15, .class_ 20), (1, u "java/lang/Integer"), (32, .long 10), (47, u "(J)I"), (18, u "stringSize"), (2, u "getChars"), (0, u "(JI[B)I"), (4, .long 18446744071562067968), (1, .long 100), (1, .fieldref 18 134), (0, .nameAndType 135 136), (0, u "DigitOnes"), (0, u "[B"), (0, .fieldref 18 138), (0, .nameAndType 139 136), (0, u "DigitTens"), (0, .long 18446744073709551606), (94, .class_ 237), (1, u "java/lang/Long$LongCache"), (33, .class_ 272), (0, u "java/lang/Number"), (2, u "value"), (0, u "J"), (84, u "TYPE"), (0, u "Ljava/lang/Class;"), (0, .class_ 364), (0, u "java/lang/Comparable"), (0, .class_ 366), (0, u "java/lang/constant/Constable"), (0, .class_ 368), (0, u "java/lang/constant/ConstantDesc"), (0, u "MIN_VALUE"), (1, u "MAX_VALUE"), (4, u "SIZE"), (0, u "I"), (1, u "BYTES"), (1, u "serialVersionUID")] 142
def k31c0 : Code := ⟨4, 11, jdk_35_method_14_code, #[], #[]⟩
def k31m0 : Method := ⟨"getChars", "(JI[B)I", ⟨[.long, .int, (.array .byte)], some .int⟩, 8, some k31c0⟩
def k31c1 : Code := ⟨4, 6, jdk_35_method_15_code, #[], #[]⟩
def k31m1 : Method := ⟨"stringSize", "(J)I", ⟨[.long], some .int⟩, 8, some k31c1⟩
def k31 : Class := { plain "java/lang/Long" (some 30) with
  accessFlags := 49
  interfaces := #[21, 23, 24]
  cf := some (fileOf pool31 1 #[.nestMembers #[235]] #[⟨8, 123, 124, #[]⟩, ⟨8, 120, 101, #[]⟩] 49 271 #[363, 365, 367] #[⟨25, 369, 276, #[]⟩, ⟨25, 371, 276, #[]⟩, ⟨25, 361, 362, #[]⟩, ⟨18, 275, 276, #[]⟩, ⟨25, 376, 377, #[]⟩, ⟨25, 379, 377, #[]⟩, ⟨26, 381, 276, #[]⟩])
  fields := #[⟨"MIN_VALUE", .long, 25, 0, 0⟩, ⟨"MAX_VALUE", .long, 25, 1, 0⟩, ⟨"TYPE", (.object "java/lang/Class"), 25, 2, 0⟩, ⟨"value", .long, 18, 0, 0⟩, ⟨"SIZE", .int, 25, 3, 0⟩, ⟨"BYTES", .int, 25, 4, 0⟩, ⟨"serialVersionUID", .long, 26, 5, 0⟩]
  methods := #[k31m0, k31m1]
  instanceTypes := #[.long]
  staticTypes := #[.long, .long, (.object "java/lang/Class"), .int, .int, .long]
  resolved := Array.replicate 524 none
  statics := none }
def pool32 : Array CpInfo := pool [(1, .class_ 2), (0, u "java/lang/Integer"), (16, u "digits"), (0, u "[C"), (64, u "DigitOnes"), (0, u "[B"), (2, u "DigitTens"), (99, .class_ 190), (0, u "java/lang/Integer$IntegerCache"), (3, u "I"), (8, .class_ 204), (0, u "java/lang/Number"), (2, u "value"), (94, u "TYPE"), (0, u "Ljava/lang/Class;"), (0, .class_ 305), (0, u "java/lang/Comparable"), (0, .class_ 307), (0, u "java/lang/constant/Constable"), (0, .class_ 309), (0, u "java/lang/constant/ConstantDesc"), (0, u "MIN_VALUE"), (1, u "MAX_VALUE"), (3, u "SIZE"), (1, u "BYTES"), (1, u "serialVersionUID"), (0, u "J")] 131
def k32 : Class := { plain "java/lang/Integer" (some 30) with
  accessFlags := 49
  interfaces := #[21, 23, 24]
  cf := some (fileOf pool32 1 #[.nestMembers #[189]] #[] 49 203 #[304, 306, 308] #[⟨25, 310, 194, #[]⟩, ⟨25, 312, 194, #[]⟩, ⟨25, 302, 303, #[]⟩, ⟨24, 19, 20, #[]⟩, ⟨24, 89, 86, #[]⟩, ⟨24, 85, 86, #[]⟩, ⟨18, 207, 194, #[]⟩, ⟨25, 316, 194, #[]⟩, ⟨25, 318, 194, #[]⟩, ⟨26, 320, 321, #[]⟩])
  fields := #[⟨"MIN_VALUE", .int, 25, 0, 0⟩, ⟨"MAX_VALUE", .int, 25, 1, 0⟩, ⟨"TYPE", (.object "java/lang/Class"), 25, 2, 0⟩, ⟨"digits", (.array .char), 24, 3, 0⟩, ⟨"DigitTens", (.array .byte), 24, 4, 0⟩, ⟨"DigitOnes", (.array .byte), 24, 5, 0⟩, ⟨"value", .int, 18, 0, 0⟩, ⟨"SIZE", .int, 25, 6, 0⟩, ⟨"BYTES", .int, 25, 7, 0⟩, ⟨"serialVersionUID", .long, 26, 8, 0⟩]
  methods := #[]
  instanceTypes := #[.int]
  staticTypes := #[.int, .int, (.object "java/lang/Class"), (.array .char), (.array .byte), (.array .byte), .int, .int, .long]
  resolved := Array.replicate 453 none
  statics := some 3 }
def pool33 : Array CpInfo := pool [(1, .class_ 2), (0, u "java/lang/String"), (1, .class_ 6), (1, u "java/lang/Object"), (0, u "<init>"), (0, u "()V"), (0, .methodref 1 10), (0, .nameAndType 11 12), (0, u "checkIndex"), (0, u "(II)V"), (1, .class_ 16), (1, u "java/lang/StringLatin1"), (36, u "([BI)C"), (36, u "canEncode"), (14, u "(C)Z"), (15, u "$assertionsDisabled"), (0, u "Z"), (98, .class_ 223), (1, u "java/lang/StringLatin1$LinesSpliterator"), (28, u "charAt"), (127, u "toBytes"), (1, u "(C)[B"), (7, .class_ 391), (0, u "java/lang/StringLatin1$CharsSpliterator")] 3
def k33m0 : Method := ⟨"<init>", "()V", ⟨[], none⟩, 0, none⟩
def k33c1 : Code := ⟨2, 2, jdk_43_method_2_code, #[], #[]⟩
def k33m1 : Method := ⟨"charAt", "([BI)C", ⟨[(.array .byte), .int], some .char⟩, 9, some k33c1⟩
def k33c2 : Code := ⟨2, 1, jdk_43_method_3_code, #[], #[]⟩
def k33m2 : Method := ⟨"canEncode", "(C)Z", ⟨[.char], some .boolean⟩, 9, some k33c2⟩
def k33c3 : Code := ⟨4, 1, jdk_43_method_46_code, #[], #[]⟩
def k33m3 : Method := ⟨"toBytes", "(C)[B", ⟨[.char], some (.array .byte)⟩, 9, some k33c3⟩
def k33 : Class := { plain "java/lang/StringLatin1" (some 0) with
  accessFlags := 48
  interfaces := #[]
  cf := some (fileOf pool33 14 #[.nestMembers #[390, 221]] #[⟨0, 7, 8, #[]⟩, ⟨9, 252, 53, #[]⟩, ⟨9, 90, 105, #[]⟩, ⟨9, 380, 382, #[]⟩] 48 4 #[] #[⟨4120, 121, 122, #[]⟩])
  fields := #[⟨"$assertionsDisabled", .boolean, 4120, 0, 0⟩]
  methods := #[k33m0, k33m1, k33m2, k33m3]
  instanceTypes := #[]
  staticTypes := #[.boolean]
  resolved := Array.replicate 395 none
  statics := none }
def pool34 : Array CpInfo := pool [(2, .class_ 4), (1, u "java/lang/Object"), (0, u "<init>"), (0, u "()V"), (17, .class_ 26), (1, u "jdk/internal/util/Preconditions"), (6, u "checkIndex"), (21, .class_ 56), (0, u "jdk/internal/util/Preconditions$4"), (57, .class_ 115), (0, u "jdk/internal/util/Preconditions$1"), (7, u "SIOOBE_FORMATTER"), (0, u "Ljava/util/function/BiFunction;"), (0, .class_ 126), (0, u "jdk/internal/util/Preconditions$2"), (3, u "AIOOBE_FORMATTER"), (0, .class_ 132), (0, u "jdk/internal/util/Preconditions$3"), (3, u "IOOBE_FORMATTER"), (41, u "(IILjava/util/function/BiFunction;)I")] 15
def k34m0 : Method := ⟨"<init>", "()V", ⟨[], none⟩, 1, none⟩
def k34c1 : Code := ⟨3, 3, jdk_41_method_11_code, #[], #[]⟩
def k34m1 : Method := ⟨"checkIndex", "(IILjava/util/function/BiFunction;)I", ⟨[.int, .int, (.object "java/util/function/BiFunction")], some .int⟩, 9, some k34c1⟩
def k34 : Class := { plain "jdk/internal/util/Preconditions" (some 0) with
  accessFlags := 33
  interfaces := #[]
  cf := some (fileOf pool34 24 #[.nestMembers #[55, 131, 125, 114]] #[⟨1, 5, 6, #[]⟩, ⟨9, 33, 178, #[]⟩] 33 2 #[] #[⟨25, 123, 124, #[]⟩, ⟨25, 130, 124, #[]⟩, ⟨25, 136, 124, #[]⟩])
  fields := #[⟨"SIOOBE_FORMATTER", (.object "java/util/function/BiFunction"), 25, 0, 0⟩, ⟨"AIOOBE_FORMATTER", (.object "java/util/function/BiFunction"), 25, 1, 0⟩, ⟨"IOOBE_FORMATTER", (.object "java/util/function/BiFunction"), 25, 2, 0⟩]
  methods := #[k34m0, k34m1]
  instanceTypes := #[]
  staticTypes := #[(.object "java/util/function/BiFunction"), (.object "java/util/function/BiFunction"), (.object "java/util/function/BiFunction")]
  resolved := Array.replicate 194 none
  statics := some 4 }
def pool35 : Array CpInfo := pool [(2, .class_ 4), (1, u "java/lang/Object"), (0, u "<init>"), (0, u "()V"), (35, .class_ 44), (1, u "java/util/Objects"), (0, u "requireNonNull"), (0, u "(Ljava/lang/Object;)Ljava/lang/Object;")] 137
def k35m0 : Method := ⟨"<init>", "()V", ⟨[], none⟩, 2, none⟩
def k35c1 : Code := ⟨2, 1, jdk_31_method_10_code, #[], #[]⟩
def k35m1 : Method := ⟨"requireNonNull", "(Ljava/lang/Object;)Ljava/lang/Object;", ⟨[(.object "java/lang/Object")], some (.object "java/lang/Object")⟩, 9, some k35c1⟩
def k35 : Class := { plain "java/util/Objects" (some 0) with
  accessFlags := 49
  interfaces := #[]
  cf := some (fileOf pool35 42 #[] #[⟨2, 5, 6, #[]⟩, ⟨9, 45, 46, #[]⟩] 49 2 #[] #[])
  fields := #[]
  methods := #[k35m0, k35m1]
  instanceTypes := #[]
  staticTypes := #[]
  resolved := Array.replicate 184 none
  statics := none }
def k36 : Class := { plain "byte" none with kind := .primitive 'B', accessFlags := 0x411 }
def k37 : Class := { plain "[B" (some 0) with kind := .array 36 .byte, interfaces := #[9, 10], accessFlags := 1041 }
def k38 : Class := { plain "int" none with kind := .primitive 'I', accessFlags := 0x411 }
def k39 : Class := { plain "[I" (some 0) with kind := .array 38 .int, interfaces := #[9, 10], accessFlags := 1041 }
def k40 : Class := { plain "[Ljava/lang/Object;" (some 0) with kind := .array 0 (.object "java/lang/Object"), interfaces := #[9, 10], accessFlags := 1041, mirror := some 5 }
def heap : Heap := #[{ cls := 11, slots := #[.long 0, .int 0, .ref 10, .ref 11], vm := .statics 11 },
  { cls := 13, slots := #[.long 0, .int 0, .null, .ref 12, .ref 9, .null, .null, .null, .int 0, .int 1], vm := .statics 13 },
  { cls := 25, slots := #[.long 0, .int 1, .null, .int 0, .null, .int 0, .int 0], vm := .statics 25 },
  { cls := 32, slots := #[.int 0, .int 0, .null, .null, .ref 8, .ref 7, .int 0, .int 0, .long 0], vm := .statics 32 },
  { cls := 34, slots := #[.null, .null, .null], vm := .statics 34 },
  { cls := 0, slots := #[], vm := .mirror 40 },
  { cls := 40, slots := #[], vm := .none },
  { cls := 37, slots := #[.int 48, .int 49, .int 50, .int 51, .int 52, .int 53, .int 54, .int 55, .int 56, .int 57, .int 48, .int 49, .int 50, .int 51, .int 52, .int 53, .int 54, .int 55, .int 56, .int 57, .int 48, .int 49, .int 50, .int 51, .int 52, .int 53, .int 54, .int 55, .int 56, .int 57, .int 48, .int 49, .int 50, .int 51, .int 52, .int 53, .int 54, .int 55, .int 56, .int 57, .int 48, .int 49, .int 50, .int 51, .int 52, .int 53, .int 54, .int 55, .int 56, .int 57, .int 48, .int 49, .int 50, .int 51, .int 52, .int 53, .int 54, .int 55, .int 56, .int 57, .int 48, .int 49, .int 50, .int 51, .int 52, .int 53, .int 54, .int 55, .int 56, .int 57, .int 48, .int 49, .int 50, .int 51, .int 52, .int 53, .int 54, .int 55, .int 56, .int 57, .int 48, .int 49, .int 50, .int 51, .int 52, .int 53, .int 54, .int 55, .int 56, .int 57, .int 48, .int 49, .int 50, .int 51, .int 52, .int 53, .int 54, .int 55, .int 56, .int 57], vm := .none },
  { cls := 37, slots := #[.int 48, .int 48, .int 48, .int 48, .int 48, .int 48, .int 48, .int 48, .int 48, .int 48, .int 49, .int 49, .int 49, .int 49, .int 49, .int 49, .int 49, .int 49, .int 49, .int 49, .int 50, .int 50, .int 50, .int 50, .int 50, .int 50, .int 50, .int 50, .int 50, .int 50, .int 51, .int 51, .int 51, .int 51, .int 51, .int 51, .int 51, .int 51, .int 51, .int 51, .int 52, .int 52, .int 52, .int 52, .int 52, .int 52, .int 52, .int 52, .int 52, .int 52, .int 53, .int 53, .int 53, .int 53, .int 53, .int 53, .int 53, .int 53, .int 53, .int 53, .int 54, .int 54, .int 54, .int 54, .int 54, .int 54, .int 54, .int 54, .int 54, .int 54, .int 55, .int 55, .int 55, .int 55, .int 55, .int 55, .int 55, .int 55, .int 55, .int 55, .int 56, .int 56, .int 56, .int 56, .int 56, .int 56, .int 56, .int 56, .int 56, .int 56, .int 57, .int 57, .int 57, .int 57, .int 57, .int 57, .int 57, .int 57, .int 57, .int 57], vm := .none },
  { cls := 17, slots := #[.ref 6, .int 0], vm := .none },
  { cls := 40, slots := #[], vm := .none },
  { cls := 40, slots := #[], vm := .none },
  { cls := 0, slots := #[], vm := .none }]
def classes : Array Class := #[k0, k1, k2, k3, k4, k5, k6, k7, k8, k9, k10, k11, k12, k13, k14, k15, k16, k17, k18, k19, k20, k21, k22, k23, k24, k25, k26, k27, k28, k29, k30, k31, k32, k33, k34, k35, k36, k37, k38, k39, k40]
def interned : List (Array UInt16 × Addr) := []
def slotsUsed : Nat := 235
def theMethod : MethodId := ⟨1, 1⟩
def args0 : Array Value := #[.long 7, .long 8, .int 3, .int 10]
def aboutOver (below : List Frame) : State where
  vm := { classes := classes, interned := interned.toArray }
  heap := heap
  slotsUsed := slotsUsed
  threads := #[{ frames := .invoking theMethod args0 :: below }]
def below0 : List Frame := [.native { method := ⟨0, 0⟩, args := #[] }]
def about1 : State := aboutOver below0
def p0 : Program := .bare "" "" ""
def e0 : Env := launch0.env 0 0 0
theorem w_frames : about1.frames = Frame.invoking theMethod args0 :: below0 := rfl
theorem w_args : argsFit about1.vm theMethod args0 = true := by decide +kernel
theorem w_heap : heapFits about1 = true := by decide +kernel
theorem w_runnable : about1.curStatus? = some .runnable := by decide +kernel
theorem w_alone : about1.alone = true := by decide +kernel
theorem w_named : about1.methodNamed? x = some theMethod := by decide +kernel
theorem w_hears : about1.hears theMethod below0 = true := by decide +kernel
theorem w_ripe : about1.ripe theMethod args0 below0 = true := by decide +kernel
theorem w_running : about1.status = .running := rfl
theorem w_room : about1.hasRoom e0.platform room_1 = true :=
  launch0.hasRoom_least _ room_1 (by decide +kernel) (by decide +kernel) (by decide +kernel) (by decide +kernel) (by decide +kernel) (by decide +kernel)
theorem allAtoms_all (ts : List Jvm.Cond) (a : Array Jvm.Value) (st : Jvm.State) : (allAtoms ts).before a st = ts.all (fun c => c.before a st) := by
  induction ts with
  | nil => rfl
  | cons c t ih =>
    show (Jvm.Cond.and c (allAtoms t)).before a st = _
    rw [Jvm.Cond.before_and, ih, List.all_cons]
def words1 : List Jvm.Cond := Jvm.Cond.code x code maxLocals ret :: tables_1
theorem code_word {y : MethodName} {bytes : ByteArray} {mx : Nat} {rt : Option FieldType} {a : Array Value} {s : State} {m : MethodId} {meth : Method} {c : Code} (h1 : s.methodNamed? y = some m) (h2 : s.vm.method? m = some meth) (h3 : meth.code = some c) (h4 : c.code = bytes)
    (h5 : (c.maxLocals == mx && c.exceptionTable.isEmpty && decide (c.maxStack ≤ mostOperands) && decide (meth.sig.returnType = rt) && !meth.locks && decide (parseMethodDescriptor y.desc = some meth.sig)) = true) : (Jvm.Cond.code y bytes mx rt).before a s = true := by
  simp only [Bool.and_eq_true, beq_iff_eq, Bool.not_eq_true', decide_eq_true_eq] at h5
  obtain ⟨⟨⟨⟨⟨g1, g2⟩, g3⟩, g4⟩, g5⟩, g6⟩ := h5
  simp [Cond.before, Cond.holds, Cond.value, h1, h2, h3, h4, g1, g2, g3, g4, g5, g6]
def isCode : Jvm.Cond → Bool
  | .code _ _ _ _ => true
  | _ => false
theorem all_split {L : List Jvm.Cond} {P : Jvm.Cond → Bool} (h1 : L.all (fun c => isCode c || P c) = true) (h2 : ∀ c ∈ L.filter isCode, P c = true) : L.all P = true := by
  refine List.all_eq_true.mpr fun c hc => ?_
  have h := List.all_eq_true.mp h1 c hc
  rcases Bool.eq_false_or_eq_true (isCode c) with hi | hi
  · exact h2 c (List.mem_filter.mpr ⟨hc, hi⟩)
  · simpa [hi] using h
theorem w_c0 : (Cond.code x code maxLocals ret).before args0 about1 = true := code_word (m := ⟨1, 1⟩) (meth := k1m1) (c := k1c1) (by decide +kernel) rfl rfl rfl (by decide +kernel)
theorem w_c1 : (Cond.code ⟨"java/util/ArrayList", "<init>", "()V"⟩ jdk_38_method_2_code 1 (Option.none : Option Jvm.ClassFile.FieldType)).before args0 about1 = true := code_word (m := ⟨11, 0⟩) (meth := k11m0) (c := k11c0) (by decide +kernel) rfl rfl rfl (by decide +kernel)
theorem w_c2 : (Cond.code ⟨"java/util/AbstractList", "<init>", "()V"⟩ jdk_39_method_1_code 1 (Option.none : Option Jvm.ClassFile.FieldType)).before args0 about1 = true := code_word (m := ⟨7, 0⟩) (meth := k7m0) (c := k7c0) (by decide +kernel) rfl rfl rfl (by decide +kernel)
theorem w_c3 : (Cond.code ⟨"java/util/AbstractCollection", "<init>", "()V"⟩ jdk_22_method_1_code 1 (Option.none : Option Jvm.ClassFile.FieldType)).before args0 about1 = true := code_word (m := ⟨4, 0⟩) (meth := k4m0) (c := k4c0) (by decide +kernel) rfl rfl rfl (by decide +kernel)
theorem w_c4 : (Cond.code ⟨"java/lang/Object", "<init>", "()V"⟩ object_method_1_code 1 (Option.none : Option Jvm.ClassFile.FieldType)).before args0 about1 = true := code_word (m := ⟨0, 0⟩) (meth := k0m0) (c := k0c0) (by decide +kernel) rfl rfl rfl (by decide +kernel)
theorem w_c5 : (Cond.code ⟨"com/example/kick/kick/value/CloseReport", "<init>", "(JJLjava/util/List;)V"⟩ prog_9_method_1_code 6 (Option.none : Option Jvm.ClassFile.FieldType)).before args0 about1 = true := code_word (m := ⟨12, 0⟩) (meth := k12m0) (c := k12c0) (by decide +kernel) rfl rfl rfl (by decide +kernel)
theorem w_c6 : (Cond.code ⟨"java/util/List", "copyOf", "(Ljava/util/Collection;)Ljava/util/List;"⟩ jdk_40_method_48_code 1 (Option.some (FieldType.object "java/util/List"))).before args0 about1 = true := code_word (m := ⟨6, 3⟩) (meth := k6m3) (c := k6c3) (by decide +kernel) rfl rfl rfl (by decide +kernel)
theorem w_c7 : (Cond.code ⟨"java/util/ImmutableCollections", "listCopy", "(Ljava/util/Collection;)Ljava/util/List;"⟩ jdk_56_method_3_code 2 (Option.some (FieldType.object "java/util/List"))).before args0 about1 = true := code_word (m := ⟨13, 1⟩) (meth := k13m1) (c := k13c1) (by decide +kernel) rfl rfl rfl (by decide +kernel)
theorem w_c8 : (Cond.code ⟨"java/util/ArrayList", "isEmpty", "()Z"⟩ jdk_38_method_9_code 1 (Option.some FieldType.boolean)).before args0 about1 = true := code_word (m := ⟨11, 3⟩) (meth := k11m3) (c := k11c3) (by decide +kernel) rfl rfl rfl (by decide +kernel)
theorem w_c9 : (Cond.code ⟨"java/util/List", "of", "()Ljava/util/List;"⟩ jdk_40_method_36_code 0 (Option.some (FieldType.object "java/util/List"))).before args0 about1 = true := code_word (m := ⟨6, 1⟩) (meth := k6m1) (c := k6c1) (by decide +kernel) rfl rfl rfl (by decide +kernel)
theorem w_c10 : (Cond.code ⟨"com/example/kick/kick/value/CloseReport", "toString", "()Ljava/lang/String;"⟩ prog_9_method_7_code 1 (Option.some (FieldType.object "java/lang/String"))).before args0 about1 = true := code_word (m := ⟨12, 2⟩) (meth := k12m2) (c := k12c2) (by decide +kernel) rfl rfl rfl (by decide +kernel)
theorem w_c11 : (Cond.code ⟨"java/lang/StringBuilder", "<init>", "()V"⟩ jdk_67_method_1_code 1 (Option.none : Option Jvm.ClassFile.FieldType)).before args0 about1 = true := code_word (m := ⟨22, 0⟩) (meth := k22m0) (c := k22c0) (by decide +kernel) rfl rfl rfl (by decide +kernel)
theorem w_c12 : (Cond.code ⟨"java/lang/AbstractStringBuilder", "<init>", "(I)V"⟩ jdk_68_method_2_code 2 (Option.none : Option Jvm.ClassFile.FieldType)).before args0 about1 = true := code_word (m := ⟨20, 1⟩) (meth := k20m1) (c := k20c1) (by decide +kernel) rfl rfl rfl (by decide +kernel)
theorem w_c13 : (Cond.code ⟨"java/lang/StringBuilder", "append", "(Ljava/lang/String;)Ljava/lang/StringBuilder;"⟩ jdk_67_method_7_code 2 (Option.some (FieldType.object "java/lang/StringBuilder"))).before args0 about1 = true := code_word (m := ⟨22, 1⟩) (meth := k22m1) (c := k22c1) (by decide +kernel) rfl rfl rfl (by decide +kernel)
theorem w_c14 : (Cond.code ⟨"java/lang/AbstractStringBuilder", "append", "(Ljava/lang/String;)Ljava/lang/AbstractStringBuilder;"⟩ jdk_68_method_22_code 3 (Option.some (FieldType.object "java/lang/AbstractStringBuilder"))).before args0 about1 = true := code_word (m := ⟨20, 5⟩) (meth := k20m5) (c := k20c5) (by decide +kernel) rfl rfl rfl (by decide +kernel)
theorem w_c15 : (Cond.code ⟨"java/lang/String", "length", "()I"⟩ jdk_42_method_54_code 1 (Option.some FieldType.int)).before args0 about1 = true := code_word (m := ⟨25, 2⟩) (meth := k25m2) (c := k25c2) (by decide +kernel) rfl rfl rfl (by decide +kernel)
theorem w_c16 : (Cond.code ⟨"java/lang/String", "coder", "()B"⟩ jdk_42_method_152_code 1 (Option.some FieldType.byte)).before args0 about1 = true := code_word (m := ⟨25, 8⟩) (meth := k25m8) (c := k25c8) (by decide +kernel) rfl rfl rfl (by decide +kernel)
theorem w_c17 : (Cond.code ⟨"java/lang/AbstractStringBuilder", "ensureCapacityInternal", "(I)V"⟩ jdk_68_method_9_code 3 (Option.none : Option Jvm.ClassFile.FieldType)).before args0 about1 = true := code_word (m := ⟨20, 3⟩) (meth := k20m3) (c := k20c3) (by decide +kernel) rfl rfl rfl (by decide +kernel)
theorem w_c18 : (Cond.code ⟨"java/lang/AbstractStringBuilder", "newCapacity", "(I)I"⟩ jdk_68_method_10_code 6 (Option.some FieldType.int)).before args0 about1 = true := code_word (m := ⟨20, 4⟩) (meth := k20m4) (c := k20c4) (by decide +kernel) rfl rfl rfl (by decide +kernel)
theorem w_c19 : (Cond.code ⟨"jdk/internal/util/ArraysSupport", "newLength", "(III)I"⟩ jdk_48_method_27_code 4 (Option.some FieldType.int)).before args0 about1 = true := code_word (m := ⟨26, 1⟩) (meth := k26m1) (c := k26c1) (by decide +kernel) rfl rfl rfl (by decide +kernel)
theorem w_c20 : (Cond.code ⟨"java/lang/Math", "max", "(II)I"⟩ jdk_29_method_65_code 2 (Option.some FieldType.int)).before args0 about1 = true := code_word (m := ⟨27, 1⟩) (meth := k27m1) (c := k27c1) (by decide +kernel) rfl rfl rfl (by decide +kernel)
theorem w_c21 : (Cond.code ⟨"java/util/Arrays", "copyOf", "([BI)[B"⟩ jdk_65_method_121_code 3 (Option.some (FieldType.array FieldType.byte))).before args0 about1 = true := code_word (m := ⟨28, 3⟩) (meth := k28m3) (c := k28c3) (by decide +kernel) rfl rfl rfl (by decide +kernel)
theorem w_c22 : (Cond.code ⟨"java/lang/Math", "min", "(II)I"⟩ jdk_29_method_69_code 2 (Option.some FieldType.int)).before args0 about1 = true := code_word (m := ⟨27, 2⟩) (meth := k27m2) (c := k27c2) (by decide +kernel) rfl rfl rfl (by decide +kernel)
theorem w_c23 : (Cond.code ⟨"java/lang/AbstractStringBuilder", "putStringAt", "(ILjava/lang/String;)V"⟩ jdk_68_method_73_code 3 (Option.none : Option Jvm.ClassFile.FieldType)).before args0 about1 = true := code_word (m := ⟨20, 10⟩) (meth := k20m10) (c := k20c10) (by decide +kernel) rfl rfl rfl (by decide +kernel)
theorem w_c24 : (Cond.code ⟨"java/lang/AbstractStringBuilder", "inflateIfNeededFor", "(Ljava/lang/String;)V"⟩ jdk_68_method_71_code 2 (Option.none : Option Jvm.ClassFile.FieldType)).before args0 about1 = true := code_word (m := ⟨20, 9⟩) (meth := k20m9) (c := k20c9) (by decide +kernel) rfl rfl rfl (by decide +kernel)
theorem w_c25 : (Cond.code ⟨"java/lang/String", "getBytes", "([BIB)V"⟩ jdk_42_method_147_code 4 (Option.none : Option Jvm.ClassFile.FieldType)).before args0 about1 = true := code_word (m := ⟨25, 5⟩) (meth := k25m5) (c := k25c5) (by decide +kernel) rfl rfl rfl (by decide +kernel)
theorem w_c26 : (Cond.code ⟨"java/lang/StringBuilder", "append", "(J)Ljava/lang/StringBuilder;"⟩ jdk_67_method_16_code 3 (Option.some (FieldType.object "java/lang/StringBuilder"))).before args0 about1 = true := code_word (m := ⟨22, 2⟩) (meth := k22m2) (c := k22c2) (by decide +kernel) rfl rfl rfl (by decide +kernel)
theorem w_c27 : (Cond.code ⟨"java/lang/AbstractStringBuilder", "append", "(J)Ljava/lang/AbstractStringBuilder;"⟩ jdk_68_method_33_code 5 (Option.some (FieldType.object "java/lang/AbstractStringBuilder"))).before args0 about1 = true := code_word (m := ⟨20, 6⟩) (meth := k20m6) (c := k20c6) (by decide +kernel) rfl rfl rfl (by decide +kernel)
theorem w_c28 : (Cond.code ⟨"java/lang/Long", "stringSize", "(J)I"⟩ jdk_35_method_15_code 6 (Option.some FieldType.int)).before args0 about1 = true := code_word (m := ⟨31, 1⟩) (meth := k31m1) (c := k31c1) (by decide +kernel) rfl rfl rfl (by decide +kernel)
theorem w_c29 : (Cond.code ⟨"java/lang/AbstractStringBuilder", "isLatin1", "()Z"⟩ jdk_68_method_68_code 1 (Option.some FieldType.boolean)).before args0 about1 = true := code_word (m := ⟨20, 8⟩) (meth := k20m8) (c := k20c8) (by decide +kernel) rfl rfl rfl (by decide +kernel)
theorem w_c30 : (Cond.code ⟨"java/lang/Long", "getChars", "(JI[B)I"⟩ jdk_35_method_14_code 11 (Option.some FieldType.int)).before args0 about1 = true := code_word (m := ⟨31, 0⟩) (meth := k31m0) (c := k31c0) (by decide +kernel) rfl rfl rfl (by decide +kernel)
theorem w_c31 : (Cond.code ⟨"com/example/kick/kick/value/CloseReport", "notStarted", "()J"⟩ prog_9_method_3_code 1 (Option.some FieldType.long)).before args0 about1 = true := code_word (m := ⟨12, 1⟩) (meth := k12m1) (c := k12c1) (by decide +kernel) rfl rfl rfl (by decide +kernel)
theorem w_c32 : (Cond.code ⟨"java/util/ImmutableCollections$ListN", "size", "()I"⟩ jdk_45_method_3_code 1 (Option.some FieldType.int)).before args0 about1 = true := code_word (m := ⟨17, 1⟩) (meth := k17m1) (c := k17c1) (by decide +kernel) rfl rfl rfl (by decide +kernel)
theorem w_c33 : (Cond.code ⟨"java/lang/StringBuilder", "toString", "()Ljava/lang/String;"⟩ jdk_67_method_42_code 1 (Option.some (FieldType.object "java/lang/String"))).before args0 about1 = true := code_word (m := ⟨22, 3⟩) (meth := k22m3) (c := k22c3) (by decide +kernel) rfl rfl rfl (by decide +kernel)
theorem w_c34 : (Cond.code ⟨"java/lang/String", "<init>", "(Ljava/lang/StringBuilder;)V"⟩ jdk_42_method_53_code 2 (Option.none : Option Jvm.ClassFile.FieldType)).before args0 about1 = true := code_word (m := ⟨25, 1⟩) (meth := k25m1) (c := k25c1) (by decide +kernel) rfl rfl rfl (by decide +kernel)
theorem w_c35 : (Cond.code ⟨"java/lang/String", "<init>", "(Ljava/lang/AbstractStringBuilder;Ljava/lang/Void;)V"⟩ jdk_42_method_150_code 5 (Option.none : Option Jvm.ClassFile.FieldType)).before args0 about1 = true := code_word (m := ⟨25, 6⟩) (meth := k25m6) (c := k25c6) (by decide +kernel) rfl rfl rfl (by decide +kernel)
theorem w_c36 : (Cond.code ⟨"java/lang/AbstractStringBuilder", "getValue", "()[B"⟩ jdk_68_method_64_code 1 (Option.some (FieldType.array FieldType.byte))).before args0 about1 = true := code_word (m := ⟨20, 7⟩) (meth := k20m7) (c := k20c7) (by decide +kernel) rfl rfl rfl (by decide +kernel)
theorem w_c37 : (Cond.code ⟨"java/lang/StringBuilder", "length", "()I"⟩ jdk_67_method_93_code 1 (Option.some FieldType.int)).before args0 about1 = true := code_word (m := ⟨22, 4⟩) (meth := k22m4) (c := k22c4) (by decide +kernel) rfl rfl rfl (by decide +kernel)
theorem w_c38 : (Cond.code ⟨"java/lang/AbstractStringBuilder", "length", "()I"⟩ jdk_68_method_6_code 1 (Option.some FieldType.int)).before args0 about1 = true := code_word (m := ⟨20, 2⟩) (meth := k20m2) (c := k20c2) (by decide +kernel) rfl rfl rfl (by decide +kernel)
theorem w_c39 : (Cond.code ⟨"java/util/Arrays", "copyOfRange", "([BII)[B"⟩ jdk_65_method_132_code 3 (Option.some (FieldType.array FieldType.byte))).before args0 about1 = true := code_word (m := ⟨28, 5⟩) (meth := k28m5) (c := k28c5) (by decide +kernel) rfl rfl rfl (by decide +kernel)
theorem w_c40 : (Cond.code ⟨"java/util/Arrays", "copyOfRangeByte", "([BII)[B"⟩ jdk_65_method_133_code 5 (Option.some (FieldType.array FieldType.byte))).before args0 about1 = true := code_word (m := ⟨28, 6⟩) (meth := k28m6) (c := k28c6) (by decide +kernel) rfl rfl rfl (by decide +kernel)
theorem w_c41 : (Cond.code ⟨"java/util/Arrays", "checkLength", "(II)V"⟩ jdk_65_method_131_code 2 (Option.none : Option Jvm.ClassFile.FieldType)).before args0 about1 = true := code_word (m := ⟨28, 4⟩) (meth := k28m4) (c := k28c4) (by decide +kernel) rfl rfl rfl (by decide +kernel)
theorem w_c42 : (Cond.code ⟨"com/example/kick/kick/value/CloseReportToStringPinLaw", "ndig", "(J)I"⟩ method_4_code 5 (Option.some FieldType.int)).before args0 about1 = true := code_word (m := ⟨1, 3⟩) (meth := k1m3) (c := k1c3) (by decide +kernel) rfl rfl rfl (by decide +kernel)
theorem w_c43 : (Cond.code ⟨"com/example/kick/kick/value/CloseReportToStringPinLaw", "more", "(J)I"⟩ method_3_code 2 (Option.some FieldType.int)).before args0 about1 = true := code_word (m := ⟨1, 2⟩) (meth := k1m2) (c := k1c2) (by decide +kernel) rfl rfl rfl (by decide +kernel)
theorem w_c44 : (Cond.code ⟨"com/example/kick/kick/value/CloseReportToStringPinLaw", "lit", "(Ljava/lang/String;ILjava/lang/String;)Z"⟩ method_8_code 3 (Option.some FieldType.boolean)).before args0 about1 = true := code_word (m := ⟨1, 7⟩) (meth := k1m7) (c := k1c7) (by decide +kernel) rfl rfl rfl (by decide +kernel)
theorem w_c45 : (Cond.code ⟨"com/example/kick/kick/value/CloseReportToStringPinLaw", "ch", "(Ljava/lang/String;ILjava/lang/String;I)Z"⟩ method_7_code 4 (Option.some FieldType.boolean)).before args0 about1 = true := code_word (m := ⟨1, 6⟩) (meth := k1m6) (c := k1c6) (by decide +kernel) rfl rfl rfl (by decide +kernel)
theorem w_c46 : (Cond.code ⟨"java/lang/String", "charAt", "(I)C"⟩ jdk_42_method_56_code 2 (Option.some FieldType.char)).before args0 about1 = true := code_word (m := ⟨25, 3⟩) (meth := k25m3) (c := k25c3) (by decide +kernel) rfl rfl rfl (by decide +kernel)
theorem w_c47 : (Cond.code ⟨"java/lang/String", "isLatin1", "()Z"⟩ jdk_42_method_154_code 1 (Option.some FieldType.boolean)).before args0 about1 = true := code_word (m := ⟨25, 9⟩) (meth := k25m9) (c := k25c9) (by decide +kernel) rfl rfl rfl (by decide +kernel)
theorem w_c48 : (Cond.code ⟨"java/lang/StringLatin1", "charAt", "([BI)C"⟩ jdk_43_method_2_code 2 (Option.some FieldType.char)).before args0 about1 = true := code_word (m := ⟨33, 1⟩) (meth := k33m1) (c := k33c1) (by decide +kernel) rfl rfl rfl (by decide +kernel)
theorem w_c49 : (Cond.code ⟨"java/lang/String", "checkIndex", "(II)V"⟩ jdk_42_method_155_code 2 (Option.none : Option Jvm.ClassFile.FieldType)).before args0 about1 = true := code_word (m := ⟨25, 10⟩) (meth := k25m10) (c := k25c10) (by decide +kernel) rfl rfl rfl (by decide +kernel)
theorem w_c50 : (Cond.code ⟨"jdk/internal/util/Preconditions", "checkIndex", "(IILjava/util/function/BiFunction;)I"⟩ jdk_41_method_11_code 3 (Option.some FieldType.int)).before args0 about1 = true := code_word (m := ⟨34, 1⟩) (meth := k34m1) (c := k34c1) (by decide +kernel) rfl rfl rfl (by decide +kernel)
theorem w_c51 : (Cond.code ⟨"com/example/kick/kick/value/CloseReportToStringPinLaw", "num", "(Ljava/lang/String;IIJ)Z"⟩ method_6_code 8 (Option.some FieldType.boolean)).before args0 about1 = true := code_word (m := ⟨1, 5⟩) (meth := k1m5) (c := k1c5) (by decide +kernel) rfl rfl rfl (by decide +kernel)
theorem w_c52 : (Cond.code ⟨"com/example/kick/kick/value/CloseReportToStringPinLaw", "dig", "(Ljava/lang/String;IJ)Z"⟩ method_5_code 4 (Option.some FieldType.boolean)).before args0 about1 = true := code_word (m := ⟨1, 4⟩) (meth := k1m4) (c := k1c4) (by decide +kernel) rfl rfl rfl (by decide +kernel)
theorem w_c53 : (Cond.code ⟨"java/lang/String", "valueOf", "(C)Ljava/lang/String;"⟩ jdk_42_method_139_code 1 (Option.some (FieldType.object "java/lang/String"))).before args0 about1 = true := code_word (m := ⟨25, 4⟩) (meth := k25m4) (c := k25c4) (by decide +kernel) rfl rfl rfl (by decide +kernel)
theorem w_c54 : (Cond.code ⟨"java/lang/StringLatin1", "canEncode", "(C)Z"⟩ jdk_43_method_3_code 1 (Option.some FieldType.boolean)).before args0 about1 = true := code_word (m := ⟨33, 2⟩) (meth := k33m2) (c := k33c2) (by decide +kernel) rfl rfl rfl (by decide +kernel)
theorem w_c55 : (Cond.code ⟨"java/lang/StringLatin1", "toBytes", "(C)[B"⟩ jdk_43_method_46_code 1 (Option.some (FieldType.array FieldType.byte))).before args0 about1 = true := code_word (m := ⟨33, 3⟩) (meth := k33m3) (c := k33c3) (by decide +kernel) rfl rfl rfl (by decide +kernel)
theorem w_c56 : (Cond.code ⟨"java/lang/String", "<init>", "([BB)V"⟩ jdk_42_method_151_code 3 (Option.none : Option Jvm.ClassFile.FieldType)).before args0 about1 = true := code_word (m := ⟨25, 7⟩) (meth := k25m7) (c := k25c7) (by decide +kernel) rfl rfl rfl (by decide +kernel)
theorem w_c57 : (Cond.code ⟨"java/util/ArrayList", "add", "(Ljava/lang/Object;)Z"⟩ jdk_38_method_25_code 2 (Option.some FieldType.boolean)).before args0 about1 = true := code_word (m := ⟨11, 6⟩) (meth := k11m6) (c := k11c6) (by decide +kernel) rfl rfl rfl (by decide +kernel)
theorem w_c58 : (Cond.code ⟨"java/util/ArrayList", "add", "(Ljava/lang/Object;[Ljava/lang/Object;I)V"⟩ jdk_38_method_24_code 4 (Option.none : Option Jvm.ClassFile.FieldType)).before args0 about1 = true := code_word (m := ⟨11, 5⟩) (meth := k11m5) (c := k11c5) (by decide +kernel) rfl rfl rfl (by decide +kernel)
theorem w_c59 : (Cond.code ⟨"java/util/ArrayList", "grow", "()[Ljava/lang/Object;"⟩ jdk_38_method_7_code 1 (Option.some (FieldType.array (FieldType.object "java/lang/Object")))).before args0 about1 = true := code_word (m := ⟨11, 2⟩) (meth := k11m2) (c := k11c2) (by decide +kernel) rfl rfl rfl (by decide +kernel)
theorem w_c60 : (Cond.code ⟨"java/util/ArrayList", "grow", "(I)[Ljava/lang/Object;"⟩ jdk_38_method_6_code 4 (Option.some (FieldType.array (FieldType.object "java/lang/Object")))).before args0 about1 = true := code_word (m := ⟨11, 1⟩) (meth := k11m1) (c := k11c1) (by decide +kernel) rfl rfl rfl (by decide +kernel)
theorem w_c61 : (Cond.code ⟨"java/util/ArrayList", "toArray", "()[Ljava/lang/Object;"⟩ jdk_38_method_16_code 1 (Option.some (FieldType.array (FieldType.object "java/lang/Object")))).before args0 about1 = true := code_word (m := ⟨11, 4⟩) (meth := k11m4) (c := k11c4) (by decide +kernel) rfl rfl rfl (by decide +kernel)
theorem w_c62 : (Cond.code ⟨"java/util/Arrays", "copyOf", "([Ljava/lang/Object;I)[Ljava/lang/Object;"⟩ jdk_65_method_119_code 2 (Option.some (FieldType.array (FieldType.object "java/lang/Object")))).before args0 about1 = true := code_word (m := ⟨28, 1⟩) (meth := k28m1) (c := k28c1) (by decide +kernel) rfl rfl rfl (by decide +kernel)
theorem w_c63 : (Cond.code ⟨"java/util/Arrays", "copyOf", "([Ljava/lang/Object;ILjava/lang/Class;)[Ljava/lang/Object;"⟩ jdk_65_method_120_code 4 (Option.some (FieldType.array (FieldType.object "java/lang/Object")))).before args0 about1 = true := code_word (m := ⟨28, 2⟩) (meth := k28m2) (c := k28c2) (by decide +kernel) rfl rfl rfl (by decide +kernel)
theorem w_c64 : (Cond.code ⟨"java/util/List", "of", "([Ljava/lang/Object;)Ljava/util/List;"⟩ jdk_40_method_47_code 2 (Option.some (FieldType.object "java/util/List"))).before args0 about1 = true := code_word (m := ⟨6, 2⟩) (meth := k6m2) (c := k6c2) (by decide +kernel) rfl rfl rfl (by decide +kernel)
theorem w_c65 : (Cond.code ⟨"java/util/ImmutableCollections$List12", "<init>", "(Ljava/lang/Object;)V"⟩ jdk_44_method_1_code 2 (Option.none : Option Jvm.ClassFile.FieldType)).before args0 about1 = true := code_word (m := ⟨16, 0⟩) (meth := k16m0) (c := k16c0) (by decide +kernel) rfl rfl rfl (by decide +kernel)
theorem w_c66 : (Cond.code ⟨"java/util/ImmutableCollections$AbstractImmutableList", "<init>", "()V"⟩ jdk_46_method_1_code 1 (Option.none : Option Jvm.ClassFile.FieldType)).before args0 about1 = true := code_word (m := ⟨15, 0⟩) (meth := k15m0) (c := k15c0) (by decide +kernel) rfl rfl rfl (by decide +kernel)
theorem w_c67 : (Cond.code ⟨"java/util/ImmutableCollections$AbstractImmutableCollection", "<init>", "()V"⟩ jdk_47_method_1_code 1 (Option.none : Option Jvm.ClassFile.FieldType)).before args0 about1 = true := code_word (m := ⟨14, 0⟩) (meth := k14m0) (c := k14c0) (by decide +kernel) rfl rfl rfl (by decide +kernel)
theorem w_c68 : (Cond.code ⟨"java/util/Objects", "requireNonNull", "(Ljava/lang/Object;)Ljava/lang/Object;"⟩ jdk_31_method_10_code 1 (Option.some (FieldType.object "java/lang/Object"))).before args0 about1 = true := code_word (m := ⟨35, 1⟩) (meth := k35m1) (c := k35c1) (by decide +kernel) rfl rfl rfl (by decide +kernel)
theorem w_c69 : (Cond.code ⟨"java/util/ImmutableCollections$List12", "size", "()I"⟩ jdk_44_method_3_code 1 (Option.some FieldType.int)).before args0 about1 = true := code_word (m := ⟨16, 2⟩) (meth := k16m2) (c := k16c2) (by decide +kernel) rfl rfl rfl (by decide +kernel)
theorem w_c70 : (Cond.code ⟨"java/util/ImmutableCollections", "listFromArray", "([Ljava/lang/Object;)Ljava/util/List;"⟩ jdk_56_method_4_code 3 (Option.some (FieldType.object "java/util/List"))).before args0 about1 = true := code_word (m := ⟨13, 2⟩) (meth := k13m2) (c := k13c2) (by decide +kernel) rfl rfl rfl (by decide +kernel)
theorem w_c71 : (Cond.code ⟨"java/util/ImmutableCollections$ListN", "<init>", "([Ljava/lang/Object;Z)V"⟩ jdk_45_method_1_code 3 (Option.none : Option Jvm.ClassFile.FieldType)).before args0 about1 = true := code_word (m := ⟨17, 0⟩) (meth := k17m0) (c := k17c0) (by decide +kernel) rfl rfl rfl (by decide +kernel)
theorem w_c72 : (Cond.code ⟨"java/util/ImmutableCollections$List12", "<init>", "(Ljava/lang/Object;Ljava/lang/Object;)V"⟩ jdk_44_method_2_code 3 (Option.none : Option Jvm.ClassFile.FieldType)).before args0 about1 = true := code_word (m := ⟨16, 1⟩) (meth := k16m1) (c := k16c1) (by decide +kernel) rfl rfl rfl (by decide +kernel)
def codes1 : List Jvm.Cond := [Cond.code x code maxLocals ret, Cond.code ⟨"java/util/ArrayList", "<init>", "()V"⟩ jdk_38_method_2_code 1 (Option.none : Option Jvm.ClassFile.FieldType), Cond.code ⟨"java/util/AbstractList", "<init>", "()V"⟩ jdk_39_method_1_code 1 (Option.none : Option Jvm.ClassFile.FieldType), Cond.code ⟨"java/util/AbstractCollection", "<init>", "()V"⟩ jdk_22_method_1_code 1 (Option.none : Option Jvm.ClassFile.FieldType), Cond.code ⟨"java/lang/Object", "<init>", "()V"⟩ object_method_1_code 1 (Option.none : Option Jvm.ClassFile.FieldType), Cond.code ⟨"com/example/kick/kick/value/CloseReport", "<init>", "(JJLjava/util/List;)V"⟩ prog_9_method_1_code 6 (Option.none : Option Jvm.ClassFile.FieldType), Cond.code ⟨"java/util/List", "copyOf", "(Ljava/util/Collection;)Ljava/util/List;"⟩ jdk_40_method_48_code 1 (Option.some (FieldType.object "java/util/List")), Cond.code ⟨"java/util/ImmutableCollections", "listCopy", "(Ljava/util/Collection;)Ljava/util/List;"⟩ jdk_56_method_3_code 2 (Option.some (FieldType.object "java/util/List")), Cond.code ⟨"java/util/ArrayList", "isEmpty", "()Z"⟩ jdk_38_method_9_code 1 (Option.some FieldType.boolean), Cond.code ⟨"java/util/List", "of", "()Ljava/util/List;"⟩ jdk_40_method_36_code 0 (Option.some (FieldType.object "java/util/List")), Cond.code ⟨"com/example/kick/kick/value/CloseReport", "toString", "()Ljava/lang/String;"⟩ prog_9_method_7_code 1 (Option.some (FieldType.object "java/lang/String")), Cond.code ⟨"java/lang/StringBuilder", "<init>", "()V"⟩ jdk_67_method_1_code 1 (Option.none : Option Jvm.ClassFile.FieldType), Cond.code ⟨"java/lang/AbstractStringBuilder", "<init>", "(I)V"⟩ jdk_68_method_2_code 2 (Option.none : Option Jvm.ClassFile.FieldType), Cond.code ⟨"java/lang/StringBuilder", "append", "(Ljava/lang/String;)Ljava/lang/StringBuilder;"⟩ jdk_67_method_7_code 2 (Option.some (FieldType.object "java/lang/StringBuilder")), Cond.code ⟨"java/lang/AbstractStringBuilder", "append", "(Ljava/lang/String;)Ljava/lang/AbstractStringBuilder;"⟩ jdk_68_method_22_code 3 (Option.some (FieldType.object "java/lang/AbstractStringBuilder")), Cond.code ⟨"java/lang/String", "length", "()I"⟩ jdk_42_method_54_code 1 (Option.some FieldType.int), Cond.code ⟨"java/lang/String", "coder", "()B"⟩ jdk_42_method_152_code 1 (Option.some FieldType.byte), Cond.code ⟨"java/lang/AbstractStringBuilder", "ensureCapacityInternal", "(I)V"⟩ jdk_68_method_9_code 3 (Option.none : Option Jvm.ClassFile.FieldType), Cond.code ⟨"java/lang/AbstractStringBuilder", "newCapacity", "(I)I"⟩ jdk_68_method_10_code 6 (Option.some FieldType.int), Cond.code ⟨"jdk/internal/util/ArraysSupport", "newLength", "(III)I"⟩ jdk_48_method_27_code 4 (Option.some FieldType.int), Cond.code ⟨"java/lang/Math", "max", "(II)I"⟩ jdk_29_method_65_code 2 (Option.some FieldType.int), Cond.code ⟨"java/util/Arrays", "copyOf", "([BI)[B"⟩ jdk_65_method_121_code 3 (Option.some (FieldType.array FieldType.byte)), Cond.code ⟨"java/lang/Math", "min", "(II)I"⟩ jdk_29_method_69_code 2 (Option.some FieldType.int), Cond.code ⟨"java/lang/AbstractStringBuilder", "putStringAt", "(ILjava/lang/String;)V"⟩ jdk_68_method_73_code 3 (Option.none : Option Jvm.ClassFile.FieldType), Cond.code ⟨"java/lang/AbstractStringBuilder", "inflateIfNeededFor", "(Ljava/lang/String;)V"⟩ jdk_68_method_71_code 2 (Option.none : Option Jvm.ClassFile.FieldType), Cond.code ⟨"java/lang/String", "getBytes", "([BIB)V"⟩ jdk_42_method_147_code 4 (Option.none : Option Jvm.ClassFile.FieldType), Cond.code ⟨"java/lang/StringBuilder", "append", "(J)Ljava/lang/StringBuilder;"⟩ jdk_67_method_16_code 3 (Option.some (FieldType.object "java/lang/StringBuilder")), Cond.code ⟨"java/lang/AbstractStringBuilder", "append", "(J)Ljava/lang/AbstractStringBuilder;"⟩ jdk_68_method_33_code 5 (Option.some (FieldType.object "java/lang/AbstractStringBuilder")), Cond.code ⟨"java/lang/Long", "stringSize", "(J)I"⟩ jdk_35_method_15_code 6 (Option.some FieldType.int), Cond.code ⟨"java/lang/AbstractStringBuilder", "isLatin1", "()Z"⟩ jdk_68_method_68_code 1 (Option.some FieldType.boolean), Cond.code ⟨"java/lang/Long", "getChars", "(JI[B)I"⟩ jdk_35_method_14_code 11 (Option.some FieldType.int), Cond.code ⟨"com/example/kick/kick/value/CloseReport", "notStarted", "()J"⟩ prog_9_method_3_code 1 (Option.some FieldType.long), Cond.code ⟨"java/util/ImmutableCollections$ListN", "size", "()I"⟩ jdk_45_method_3_code 1 (Option.some FieldType.int), Cond.code ⟨"java/lang/StringBuilder", "toString", "()Ljava/lang/String;"⟩ jdk_67_method_42_code 1 (Option.some (FieldType.object "java/lang/String")), Cond.code ⟨"java/lang/String", "<init>", "(Ljava/lang/StringBuilder;)V"⟩ jdk_42_method_53_code 2 (Option.none : Option Jvm.ClassFile.FieldType), Cond.code ⟨"java/lang/String", "<init>", "(Ljava/lang/AbstractStringBuilder;Ljava/lang/Void;)V"⟩ jdk_42_method_150_code 5 (Option.none : Option Jvm.ClassFile.FieldType), Cond.code ⟨"java/lang/AbstractStringBuilder", "getValue", "()[B"⟩ jdk_68_method_64_code 1 (Option.some (FieldType.array FieldType.byte)), Cond.code ⟨"java/lang/StringBuilder", "length", "()I"⟩ jdk_67_method_93_code 1 (Option.some FieldType.int), Cond.code ⟨"java/lang/AbstractStringBuilder", "length", "()I"⟩ jdk_68_method_6_code 1 (Option.some FieldType.int), Cond.code ⟨"java/util/Arrays", "copyOfRange", "([BII)[B"⟩ jdk_65_method_132_code 3 (Option.some (FieldType.array FieldType.byte)), Cond.code ⟨"java/util/Arrays", "copyOfRangeByte", "([BII)[B"⟩ jdk_65_method_133_code 5 (Option.some (FieldType.array FieldType.byte)), Cond.code ⟨"java/util/Arrays", "checkLength", "(II)V"⟩ jdk_65_method_131_code 2 (Option.none : Option Jvm.ClassFile.FieldType), Cond.code ⟨"com/example/kick/kick/value/CloseReportToStringPinLaw", "ndig", "(J)I"⟩ method_4_code 5 (Option.some FieldType.int), Cond.code ⟨"com/example/kick/kick/value/CloseReportToStringPinLaw", "more", "(J)I"⟩ method_3_code 2 (Option.some FieldType.int), Cond.code ⟨"com/example/kick/kick/value/CloseReportToStringPinLaw", "lit", "(Ljava/lang/String;ILjava/lang/String;)Z"⟩ method_8_code 3 (Option.some FieldType.boolean), Cond.code ⟨"com/example/kick/kick/value/CloseReportToStringPinLaw", "ch", "(Ljava/lang/String;ILjava/lang/String;I)Z"⟩ method_7_code 4 (Option.some FieldType.boolean), Cond.code ⟨"java/lang/String", "charAt", "(I)C"⟩ jdk_42_method_56_code 2 (Option.some FieldType.char), Cond.code ⟨"java/lang/String", "isLatin1", "()Z"⟩ jdk_42_method_154_code 1 (Option.some FieldType.boolean), Cond.code ⟨"java/lang/StringLatin1", "charAt", "([BI)C"⟩ jdk_43_method_2_code 2 (Option.some FieldType.char), Cond.code ⟨"java/lang/String", "checkIndex", "(II)V"⟩ jdk_42_method_155_code 2 (Option.none : Option Jvm.ClassFile.FieldType), Cond.code ⟨"jdk/internal/util/Preconditions", "checkIndex", "(IILjava/util/function/BiFunction;)I"⟩ jdk_41_method_11_code 3 (Option.some FieldType.int), Cond.code ⟨"com/example/kick/kick/value/CloseReportToStringPinLaw", "num", "(Ljava/lang/String;IIJ)Z"⟩ method_6_code 8 (Option.some FieldType.boolean), Cond.code ⟨"com/example/kick/kick/value/CloseReportToStringPinLaw", "dig", "(Ljava/lang/String;IJ)Z"⟩ method_5_code 4 (Option.some FieldType.boolean), Cond.code ⟨"java/lang/String", "valueOf", "(C)Ljava/lang/String;"⟩ jdk_42_method_139_code 1 (Option.some (FieldType.object "java/lang/String")), Cond.code ⟨"java/lang/StringLatin1", "canEncode", "(C)Z"⟩ jdk_43_method_3_code 1 (Option.some FieldType.boolean), Cond.code ⟨"java/lang/StringLatin1", "toBytes", "(C)[B"⟩ jdk_43_method_46_code 1 (Option.some (FieldType.array FieldType.byte)), Cond.code ⟨"java/lang/String", "<init>", "([BB)V"⟩ jdk_42_method_151_code 3 (Option.none : Option Jvm.ClassFile.FieldType), Cond.code ⟨"java/util/ArrayList", "add", "(Ljava/lang/Object;)Z"⟩ jdk_38_method_25_code 2 (Option.some FieldType.boolean), Cond.code ⟨"java/util/ArrayList", "add", "(Ljava/lang/Object;[Ljava/lang/Object;I)V"⟩ jdk_38_method_24_code 4 (Option.none : Option Jvm.ClassFile.FieldType), Cond.code ⟨"java/util/ArrayList", "grow", "()[Ljava/lang/Object;"⟩ jdk_38_method_7_code 1 (Option.some (FieldType.array (FieldType.object "java/lang/Object"))), Cond.code ⟨"java/util/ArrayList", "grow", "(I)[Ljava/lang/Object;"⟩ jdk_38_method_6_code 4 (Option.some (FieldType.array (FieldType.object "java/lang/Object"))), Cond.code ⟨"java/util/ArrayList", "toArray", "()[Ljava/lang/Object;"⟩ jdk_38_method_16_code 1 (Option.some (FieldType.array (FieldType.object "java/lang/Object"))), Cond.code ⟨"java/util/Arrays", "copyOf", "([Ljava/lang/Object;I)[Ljava/lang/Object;"⟩ jdk_65_method_119_code 2 (Option.some (FieldType.array (FieldType.object "java/lang/Object"))), Cond.code ⟨"java/util/Arrays", "copyOf", "([Ljava/lang/Object;ILjava/lang/Class;)[Ljava/lang/Object;"⟩ jdk_65_method_120_code 4 (Option.some (FieldType.array (FieldType.object "java/lang/Object"))), Cond.code ⟨"java/util/List", "of", "([Ljava/lang/Object;)Ljava/util/List;"⟩ jdk_40_method_47_code 2 (Option.some (FieldType.object "java/util/List")), Cond.code ⟨"java/util/ImmutableCollections$List12", "<init>", "(Ljava/lang/Object;)V"⟩ jdk_44_method_1_code 2 (Option.none : Option Jvm.ClassFile.FieldType), Cond.code ⟨"java/util/ImmutableCollections$AbstractImmutableList", "<init>", "()V"⟩ jdk_46_method_1_code 1 (Option.none : Option Jvm.ClassFile.FieldType), Cond.code ⟨"java/util/ImmutableCollections$AbstractImmutableCollection", "<init>", "()V"⟩ jdk_47_method_1_code 1 (Option.none : Option Jvm.ClassFile.FieldType), Cond.code ⟨"java/util/Objects", "requireNonNull", "(Ljava/lang/Object;)Ljava/lang/Object;"⟩ jdk_31_method_10_code 1 (Option.some (FieldType.object "java/lang/Object")), Cond.code ⟨"java/util/ImmutableCollections$List12", "size", "()I"⟩ jdk_44_method_3_code 1 (Option.some FieldType.int), Cond.code ⟨"java/util/ImmutableCollections", "listFromArray", "([Ljava/lang/Object;)Ljava/util/List;"⟩ jdk_56_method_4_code 3 (Option.some (FieldType.object "java/util/List")), Cond.code ⟨"java/util/ImmutableCollections$ListN", "<init>", "([Ljava/lang/Object;Z)V"⟩ jdk_45_method_1_code 3 (Option.none : Option Jvm.ClassFile.FieldType), Cond.code ⟨"java/util/ImmutableCollections$List12", "<init>", "(Ljava/lang/Object;Ljava/lang/Object;)V"⟩ jdk_44_method_2_code 3 (Option.none : Option Jvm.ClassFile.FieldType)]
theorem codes_eq : words1.filter isCode = codes1 := rfl
theorem w_codes : ∀ c ∈ words1.filter isCode, c.before args0 about1 = true := by
  rw [codes_eq]
  intro c hc
  simp only [codes1, List.mem_cons, List.not_mem_nil, or_false] at hc
  rcases hc with rfl | rfl | rfl | rfl | rfl | rfl | rfl | rfl | rfl | rfl | rfl | rfl | rfl | rfl | rfl | rfl | rfl | rfl | rfl | rfl | rfl | rfl | rfl | rfl | rfl | rfl | rfl | rfl | rfl | rfl | rfl | rfl | rfl | rfl | rfl | rfl | rfl | rfl | rfl | rfl | rfl | rfl | rfl | rfl | rfl | rfl | rfl | rfl | rfl | rfl | rfl | rfl | rfl | rfl | rfl | rfl | rfl | rfl | rfl | rfl | rfl | rfl | rfl | rfl | rfl | rfl | rfl | rfl | rfl | rfl | rfl | rfl | rfl
  · exact w_c0
  · exact w_c1
  · exact w_c2
  · exact w_c3
  · exact w_c4
  · exact w_c5
  · exact w_c6
  · exact w_c7
  · exact w_c8
  · exact w_c9
  · exact w_c10
  · exact w_c11
  · exact w_c12
  · exact w_c13
  · exact w_c14
  · exact w_c15
  · exact w_c16
  · exact w_c17
  · exact w_c18
  · exact w_c19
  · exact w_c20
  · exact w_c21
  · exact w_c22
  · exact w_c23
  · exact w_c24
  · exact w_c25
  · exact w_c26
  · exact w_c27
  · exact w_c28
  · exact w_c29
  · exact w_c30
  · exact w_c31
  · exact w_c32
  · exact w_c33
  · exact w_c34
  · exact w_c35
  · exact w_c36
  · exact w_c37
  · exact w_c38
  · exact w_c39
  · exact w_c40
  · exact w_c41
  · exact w_c42
  · exact w_c43
  · exact w_c44
  · exact w_c45
  · exact w_c46
  · exact w_c47
  · exact w_c48
  · exact w_c49
  · exact w_c50
  · exact w_c51
  · exact w_c52
  · exact w_c53
  · exact w_c54
  · exact w_c55
  · exact w_c56
  · exact w_c57
  · exact w_c58
  · exact w_c59
  · exact w_c60
  · exact w_c61
  · exact w_c62
  · exact w_c63
  · exact w_c64
  · exact w_c65
  · exact w_c66
  · exact w_c67
  · exact w_c68
  · exact w_c69
  · exact w_c70
  · exact w_c71
  · exact w_c72
theorem w_t1 : (words1.take 24).all (fun c => isCode c || c.before args0 about1) = true := by decide +kernel
theorem w_t2 : ((words1.drop 24).take 24).all (fun c => isCode c || c.before args0 about1) = true := by decide +kernel
theorem w_t3 : (((words1.drop 24).drop 24).take 24).all (fun c => isCode c || c.before args0 about1) = true := by decide +kernel
theorem w_t4 : ((((words1.drop 24).drop 24).drop 24).take 24).all (fun c => isCode c || c.before args0 about1) = true := by decide +kernel
theorem w_t5 : (((((words1.drop 24).drop 24).drop 24).drop 24).take 24).all (fun c => isCode c || c.before args0 about1) = true := by decide +kernel
theorem w_t6 : ((((((words1.drop 24).drop 24).drop 24).drop 24).drop 24).take 24).all (fun c => isCode c || c.before args0 about1) = true := by decide +kernel
theorem w_t7 : (((((((words1.drop 24).drop 24).drop 24).drop 24).drop 24).drop 24).take 24).all (fun c => isCode c || c.before args0 about1) = true := by decide +kernel
theorem w_t8 : ((((((((words1.drop 24).drop 24).drop 24).drop 24).drop 24).drop 24).drop 24).take 24).all (fun c => isCode c || c.before args0 about1) = true := by decide +kernel
theorem w_t9 : (((((((((words1.drop 24).drop 24).drop 24).drop 24).drop 24).drop 24).drop 24).drop 24).take 24).all (fun c => isCode c || c.before args0 about1) = true := by decide +kernel
theorem w_t10 : ((((((((((words1.drop 24).drop 24).drop 24).drop 24).drop 24).drop 24).drop 24).drop 24).drop 24).take 24).all (fun c => isCode c || c.before args0 about1) = true := by decide +kernel
theorem w_t11 : (((((((((((words1.drop 24).drop 24).drop 24).drop 24).drop 24).drop 24).drop 24).drop 24).drop 24).drop 24).take 24).all (fun c => isCode c || c.before args0 about1) = true := by decide +kernel
theorem w_t12 : ((((((((((((words1.drop 24).drop 24).drop 24).drop 24).drop 24).drop 24).drop 24).drop 24).drop 24).drop 24).drop 24).take 24).all (fun c => isCode c || c.before args0 about1) = true := by decide +kernel
theorem w_t13 : (((((((((((((words1.drop 24).drop 24).drop 24).drop 24).drop 24).drop 24).drop 24).drop 24).drop 24).drop 24).drop 24).drop 24).take 24).all (fun c => isCode c || c.before args0 about1) = true := by decide +kernel
theorem w_t14 : ((((((((((((((words1.drop 24).drop 24).drop 24).drop 24).drop 24).drop 24).drop 24).drop 24).drop 24).drop 24).drop 24).drop 24).drop 24).take 24).all (fun c => isCode c || c.before args0 about1) = true := by decide +kernel
theorem w_t15 : (((((((((((((((words1.drop 24).drop 24).drop 24).drop 24).drop 24).drop 24).drop 24).drop 24).drop 24).drop 24).drop 24).drop 24).drop 24).drop 24).take 24).all (fun c => isCode c || c.before args0 about1) = true := by decide +kernel
theorem w_t16 : ((((((((((((((((words1.drop 24).drop 24).drop 24).drop 24).drop 24).drop 24).drop 24).drop 24).drop 24).drop 24).drop 24).drop 24).drop 24).drop 24).drop 24).take 24).all (fun c => isCode c || c.before args0 about1) = true := by decide +kernel
theorem w_t17 : (((((((((((((((((words1.drop 24).drop 24).drop 24).drop 24).drop 24).drop 24).drop 24).drop 24).drop 24).drop 24).drop 24).drop 24).drop 24).drop 24).drop 24).drop 24).take 24).all (fun c => isCode c || c.before args0 about1) = true := by decide +kernel
theorem w_t18 : ((((((((((((((((((words1.drop 24).drop 24).drop 24).drop 24).drop 24).drop 24).drop 24).drop 24).drop 24).drop 24).drop 24).drop 24).drop 24).drop 24).drop 24).drop 24).drop 24).take 24).all (fun c => isCode c || c.before args0 about1) = true := by decide +kernel
theorem w_t19 : ((((((((((((((((((words1.drop 24).drop 24).drop 24).drop 24).drop 24).drop 24).drop 24).drop 24).drop 24).drop 24).drop 24).drop 24).drop 24).drop 24).drop 24).drop 24).drop 24).drop 24).all (fun c => isCode c || c.before args0 about1) = true := by decide +kernel
theorem w_tables : (allAtoms (Jvm.Cond.code x code maxLocals ret :: tables_1)).before args0 about1 = true := by
  rw [allAtoms_all]
  show words1.all (fun c => c.before args0 about1) = true
  refine all_split ?_ w_codes
  rw [← List.take_append_drop 24 words1, List.all_append, w_t1, ← List.take_append_drop 24 (words1.drop 24), List.all_append, w_t2, ← List.take_append_drop 24 ((words1.drop 24).drop 24), List.all_append, w_t3, ← List.take_append_drop 24 (((words1.drop 24).drop 24).drop 24), List.all_append, w_t4, ← List.take_append_drop 24 ((((words1.drop 24).drop 24).drop 24).drop 24), List.all_append, w_t5, ← List.take_append_drop 24 (((((words1.drop 24).drop 24).drop 24).drop 24).drop 24), List.all_append, w_t6, ← List.take_append_drop 24 ((((((words1.drop 24).drop 24).drop 24).drop 24).drop 24).drop 24), List.all_append, w_t7, ← List.take_append_drop 24 (((((((words1.drop 24).drop 24).drop 24).drop 24).drop 24).drop 24).drop 24), List.all_append, w_t8, ← List.take_append_drop 24 ((((((((words1.drop 24).drop 24).drop 24).drop 24).drop 24).drop 24).drop 24).drop 24), List.all_append, w_t9, ← List.take_append_drop 24 (((((((((words1.drop 24).drop 24).drop 24).drop 24).drop 24).drop 24).drop 24).drop 24).drop 24), List.all_append, w_t10, ← List.take_append_drop 24 ((((((((((words1.drop 24).drop 24).drop 24).drop 24).drop 24).drop 24).drop 24).drop 24).drop 24).drop 24), List.all_append, w_t11, ← List.take_append_drop 24 (((((((((((words1.drop 24).drop 24).drop 24).drop 24).drop 24).drop 24).drop 24).drop 24).drop 24).drop 24).drop 24), List.all_append, w_t12, ← List.take_append_drop 24 ((((((((((((words1.drop 24).drop 24).drop 24).drop 24).drop 24).drop 24).drop 24).drop 24).drop 24).drop 24).drop 24).drop 24), List.all_append, w_t13, ← List.take_append_drop 24 (((((((((((((words1.drop 24).drop 24).drop 24).drop 24).drop 24).drop 24).drop 24).drop 24).drop 24).drop 24).drop 24).drop 24).drop 24), List.all_append, w_t14, ← List.take_append_drop 24 ((((((((((((((words1.drop 24).drop 24).drop 24).drop 24).drop 24).drop 24).drop 24).drop 24).drop 24).drop 24).drop 24).drop 24).drop 24).drop 24), List.all_append, w_t15, ← List.take_append_drop 24 (((((((((((((((words1.drop 24).drop 24).drop 24).drop 24).drop 24).drop 24).drop 24).drop 24).drop 24).drop 24).drop 24).drop 24).drop 24).drop 24).drop 24), List.all_append, w_t16, ← List.take_append_drop 24 ((((((((((((((((words1.drop 24).drop 24).drop 24).drop 24).drop 24).drop 24).drop 24).drop 24).drop 24).drop 24).drop 24).drop 24).drop 24).drop 24).drop 24).drop 24), List.all_append, w_t17, ← List.take_append_drop 24 (((((((((((((((((words1.drop 24).drop 24).drop 24).drop 24).drop 24).drop 24).drop 24).drop 24).drop 24).drop 24).drop 24).drop 24).drop 24).drop 24).drop 24).drop 24).drop 24), List.all_append, w_t18, w_t19]
  rfl
theorem w_rest : rest_1_c.before args0 about1 = true := by decide +kernel
theorem w_case : (Jvm.Cond.and given_1 narrow_1).before args0 about1 = true := by decide +kernel
theorem w_consts : constsHeld consts_1 about1 := Jvm.Lit.constsHeldB_iff.mp (by decide +kernel)
theorem w_applies : (headSpec (Jvm.Cond.code x code maxLocals ret :: tables_1) room_1).applies x e0.platform about1 = true :=
  (Spec.applies_iff w_frames).mpr ⟨w_running, w_runnable, w_alone, w_named, w_hears, w_ripe, w_room, w_tables⟩
theorem atStart : AtStart classFile x code maxLocals ret World_1 tables_1 room_1 Calls_1 rest_1 Pre_1 launch0 p0 e0 about1 theMethod args0 below0 :=
  ⟨lists_1, trivial, launch0.admits_env _ _ _, launch0.least_env, fairChoices_fair.cas, fairChoices_fair.clock, w_frames, w_args, w_heap, w_applies, ⟨⟨40, k40, 5, by decide +kernel, rfl, rfl, _, rfl, rfl⟩, ⟨w_consts, trivial⟩⟩, w_rest, w_case⟩
end start1
theorem witness_1 : WitnessClaimed_1 := ⟨start1.p0, start1.e0, start1.about1, start1.theMethod, start1.args0, start1.below0, start1.atStart⟩
end Jvm.Pilot.@@N@@
