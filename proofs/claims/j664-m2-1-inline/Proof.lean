import JvmDerived
import JvmDerived.Pilot.@@N@@Statement
import JvmDerived.Pilot.@@N@@Code
set_option linter.unusedVariables false
set_option linter.unusedSimpArgs false
set_option maxRecDepth 65536
set_option maxHeartbeats 40000000
namespace Jvm.OwnKit
open Sem ClassFile Op Lib Jvm.Stand Jvm.Free Jvm.LawKit Jvm.RoadKit
section Own
variable {p : Program} {l : Launch} {e : Env} {R : Room} {s : State} {m : MethodId} {args : Array Value} {below : List Frame} {meth : Method} {c : Code} {T : State} {locs : List Loc} {cells slots : Nat} {Z : State} {a0 : Array Value} {h : Heap} {bytes : ByteArray} {pc : Nat} {Ls : Array Slot} {st : List Value} {cs ss : Nat} {Q : Option Value → Heap → List Loc → Prop}
def zEnds (p : Program) (e : Env) (below : List Frame) (s T : State) (F : JFrame) (cs ss : Nat) (Q : Option Value → Heap → List Loc → Prop) : Prop :=
  ∃ s₂ o, Steps p.tables e below (T.setTop F) s₂ ∧ s₂.status = .running ∧ Ended s₂ below o ∧ ∃ v L, o = .returned v ∧ Q v s₂.heap L ∧ FrameEnd s o s₂ L cs ss
theorem zstp {T T' : State} {F F' : JFrame} (st : ∀ target, Steps p.tables e below (T'.setTop F') target → Steps p.tables e below (T.setTop F) target) (k : zEnds p e below s T' F' cs ss Q) : zEnds p e below s T F cs ss Q := by
  obtain ⟨s2, o, h1, r⟩ := k; exact ⟨s2, o, st _ h1, r⟩
def zCon (l : Launch) (Z : State) (y : MethodName) (bytes : ByteArray) (maxL : Nat) (ret : Option FieldType) (ws : List Jvm.Cond) (rm : Room) (as' : Array Value) (h0 : Heap) (Q : Option Value → Heap → List Loc → Prop) : Prop :=
  MetFree l y (head1 (Jvm.Cond.code y bytes maxL ret :: ws) rm) (fun a U => a = as' ∧ Z.Warmed39 U.vm ∧ U.heap = h0) (fun _ _ _ _ _ => True) (fun _ U o U' => ∃ v L, o = .returned v ∧ Q v U'.heap L ∧ FrameEnd U o U' L rm.cells rm.slots)
def zSame (v : Option Value) (h0 : Heap) : Option Value → Heap → List Loc → Prop := fun v' h L => v' = v ∧ h = h0 ∧ L = []
theorem zenter {y : MethodName} {maxL : Nat} {ret : Option FieldType} {ws : List Jvm.Cond} {rm : Room} {as' : Array Value} {h0 : Heap} (hpl : plainFor y = true) {L0 : Array Slot} (hef : ∀ m, entryFrame m as' maxL = mkF m 0 L0 [])
    (H : ∀ (p : Program) (e : Env) (s : State) (m : MethodId) (below : List Frame) (meth : Method) (c : Code) (T : State), p.tables.exec = Jvm.exec → Z.Warmed39 s.vm → c.code = bytes → c.maxLocals = maxL → s.vm.findClass y.cls = some m.cls → meth.name = y.name → meth.sig.returnType = ret → meth.locks = false →
      Stand p l e rm s m as' below meth c T [] 0 0 → T.heap = h0 → zEnds p e below s T (mkF m 0 L0 []) rm.cells rm.slots Q) : zCon l Z y bytes maxL ret ws rm as' h0 Q := by
  refine MetFree.of_bodySF hpl hisR ?_
  intro p e s m args below meth c s₁ Bd hml0 hP hK
  obtain ⟨rfl, hZ, hh⟩ := hP
  have := H p e s m below meth c s₁ Bd.exec hZ Bd.bytes hml0 (findClass_of_methodNamed Bd.named) (name_of_methodNamed Bd.named Bd.method).1 Bd.returns Bd.notSynchronized (Stand.of_body Bd) (by rw [← hh, Bd.state]; rfl)
  rw [← hef m] at this
  exact this
theorem zretG {w : Value} {t : FieldType} {i : Instr} (X : Stand p l e R s m args below meth c T locs cells slots) (hx : p.tables.exec = Jvm.exec) (hby : c.code = bytes) (hd : decode bytes pc = .ok (i, 1)) (hret : meth.sig.returnType = some t) (hlk : meth.locks = false) (hn : narrow t w = w)
    (hi : (i = .ireturn ∧ (t = .int ∨ t = .boolean ∨ t = .byte ∨ t = .char ∨ t = .short) ∧ ∃ z, w = .int z) ∨ (i = .lreturn ∧ t = .long ∧ ∃ z, w = .long z) ∨ (i = .dreturn ∧ t = .double ∧ ∃ z, w = .double z) ∨ (i = .freturn ∧ t = .float ∧ ∃ z, w = .float z) ∨ (i = .areturn ∧ t.isReference = true ∧ w.isRef = true))
    (hc : cells ≤ cs) (hs : slots ≤ ss) (hq : Q (some w) T.heap locs) : zEnds p e below s T (mkF m pc Ls (w :: st)) cs ss Q := by
  obtain ⟨fs, hr, hrun, hended, hW, hsame⟩ := X.leave (v := some w) (fun q => by rw [hret] at q; cases q) hlk
  exact ⟨_, _, retOut X hx hret hn hi (hb hby hd) hr, hrun, hended, _, _, rfl, hq, ⟨_, rfl⟩, hW, hsame.mono hc hs⟩
theorem zretI {z : Int32} (X : Stand p l e R s m args below meth c T locs cells slots) (hx : p.tables.exec = Jvm.exec) (hby : c.code = bytes) (hd : decode bytes pc = .ok (.ireturn, 1)) (hret : meth.sig.returnType = some .int) (hlk : meth.locks = false) (hc : cells ≤ cs) (hs : slots ≤ ss) (hq : Q (some (.int z)) T.heap locs) : zEnds p e below s T (mkF m pc Ls (.int z :: st)) cs ss Q :=
  zretG X hx hby hd hret hlk rfl (Or.inl ⟨rfl, Or.inl rfl, z, rfl⟩) hc hs hq
theorem zretZ {z : Int32} {t : FieldType} (X : Stand p l e R s m args below meth c T locs cells slots) (hx : p.tables.exec = Jvm.exec) (hby : c.code = bytes) (hd : decode bytes pc = .ok (.ireturn, 1)) (hret : meth.sig.returnType = some t) (hlk : meth.locks = false) (ht : t = .boolean ∨ t = .byte ∨ t = .char ∨ t = .short) (hn : narrow t (.int z) = .int z) (hc : cells ≤ cs) (hs : slots ≤ ss) (hq : Q (some (.int z)) T.heap locs) : zEnds p e below s T (mkF m pc Ls (.int z :: st)) cs ss Q :=
  zretG X hx hby hd hret hlk hn (Or.inl ⟨rfl, Or.inr ht, z, rfl⟩) hc hs hq
theorem zretA {w : Value} {t : FieldType} (X : Stand p l e R s m args below meth c T locs cells slots) (hx : p.tables.exec = Jvm.exec) (hby : c.code = bytes) (hd : decode bytes pc = .ok (.areturn, 1)) (hret : meth.sig.returnType = some t) (hlk : meth.locks = false) (ht : t.isReference = true) (hw : w.isRef = true) (hn : narrow t w = w) (hc : cells ≤ cs) (hs : slots ≤ ss) (hq : Q (some w) T.heap locs) : zEnds p e below s T (mkF m pc Ls (w :: st)) cs ss Q :=
  zretG X hx hby hd hret hlk hn (Or.inr (Or.inr (Or.inr (Or.inr ⟨rfl, ht, hw⟩)))) hc hs hq
theorem zretV (X : Stand p l e R s m args below meth c T locs cells slots) (hx : p.tables.exec = Jvm.exec) (hby : c.code = bytes) (hd : decode bytes pc = .ok (.return_, 1)) (hret : meth.sig.returnType = none) (hlk : meth.locks = false) (hc : cells ≤ cs) (hs : slots ≤ ss) (hq : Q none T.heap locs) : zEnds p e below s T (mkF m pc Ls []) cs ss Q := by
  obtain ⟨fs, hr, hrun, hended, hW, hsame⟩ := X.leave (v := none) (fun _ => rfl) hlk
  exact ⟨_, _, X.returnOut hx hret (hb hby hd) hr, hrun, hended, _, _, rfl, hq, ⟨_, rfl⟩, hW, hsame.mono hc hs⟩
theorem ziloadN (X : Stand p l e R s m args below meth c T locs cells slots) (hx : p.tables.exec = Jvm.exec) (hby : c.code = bytes) {k : Fin 4} {v : Int32} (hd : decode bytes pc = .ok (.iload_n k, 1)) (hl : Ls[k.val]? = some (.val (.int v))) (r : zEnds p e below s T (mkF m (pc + 1) Ls (.int v :: st)) cs ss Q) : zEnds p e below s T (mkF m pc Ls st) cs ss Q := zstp (fun _ k => XS.iloadN X.here hx rfl (hb hby hd) hl k) r
theorem ziload (X : Stand p l e R s m args below meth c T locs cells slots) (hx : p.tables.exec = Jvm.exec) (hby : c.code = bytes) {k : Nat} {v : Int32} (hd : decode bytes pc = .ok (.iload k, 2)) (hl : Ls[k]? = some (.val (.int v))) (r : zEnds p e below s T (mkF m (pc + 2) Ls (.int v :: st)) cs ss Q) : zEnds p e below s T (mkF m pc Ls st) cs ss Q := zstp (fun _ k => XS.iload X.here hx rfl (hb hby hd) hl k) r
theorem zlloadN (X : Stand p l e R s m args below meth c T locs cells slots) (hx : p.tables.exec = Jvm.exec) (hby : c.code = bytes) {k : Fin 4} {v : Int64} (hd : decode bytes pc = .ok (.lload_n k, 1)) (hl : Ls[k.val]? = some (.val (.long v))) (r : zEnds p e below s T (mkF m (pc + 1) Ls (.long v :: st)) cs ss Q) : zEnds p e below s T (mkF m pc Ls st) cs ss Q := zstp (fun _ k => XS.lloadN X.here hx rfl (hb hby hd) hl k) r
theorem zlload (X : Stand p l e R s m args below meth c T locs cells slots) (hx : p.tables.exec = Jvm.exec) (hby : c.code = bytes) {k : Nat} {v : Int64} (hd : decode bytes pc = .ok (.lload k, 2)) (hl : Ls[k]? = some (.val (.long v))) (r : zEnds p e below s T (mkF m (pc + 2) Ls (.long v :: st)) cs ss Q) : zEnds p e below s T (mkF m pc Ls st) cs ss Q := zstp (fun _ k => XS.lload X.here hx rfl (hb hby hd) hl k) r
theorem zaloadN (X : Stand p l e R s m args below meth c T locs cells slots) (hx : p.tables.exec = Jvm.exec) (hby : c.code = bytes) {k : Fin 4} {v : Value} (hd : decode bytes pc = .ok (.aload_n k, 1)) (hl : Ls[k.val]? = some (.val v)) (hv : v.isRef = true) (r : zEnds p e below s T (mkF m (pc + 1) Ls (v :: st)) cs ss Q) : zEnds p e below s T (mkF m pc Ls st) cs ss Q := zstp (fun _ k => XS.aloadN X.here hx rfl (hb hby hd) hl hv k) r
theorem zaload (X : Stand p l e R s m args below meth c T locs cells slots) (hx : p.tables.exec = Jvm.exec) (hby : c.code = bytes) {k : Nat} {v : Value} (hd : decode bytes pc = .ok (.aload k, 2)) (hl : Ls[k]? = some (.val v)) (hv : v.isRef = true) (r : zEnds p e below s T (mkF m (pc + 2) Ls (v :: st)) cs ss Q) : zEnds p e below s T (mkF m pc Ls st) cs ss Q := zstp (fun _ k => XS.aload X.here hx rfl (hb hby hd) hl hv k) r
theorem zistoreN (X : Stand p l e R s m args below meth c T locs cells slots) (hx : p.tables.exec = Jvm.exec) (hby : c.code = bytes) {k : Fin 4} {v : Int32} (hd : decode bytes pc = .ok (.istore_n k, 1)) (L' : Array Slot) (hl : storeLocals Ls k.val (.int v) = some L') (r : zEnds p e below s T (mkF m (pc + 1) L' st) cs ss Q) : zEnds p e below s T (mkF m pc Ls (.int v :: st)) cs ss Q := zstp (fun _ k => XS.istoreN X.here hx rfl (hb hby hd) rfl hl k) r
theorem zistore (X : Stand p l e R s m args below meth c T locs cells slots) (hx : p.tables.exec = Jvm.exec) (hby : c.code = bytes) {k : Nat} {v : Int32} (hd : decode bytes pc = .ok (.istore k, 2)) (L' : Array Slot) (hl : storeLocals Ls k (.int v) = some L') (r : zEnds p e below s T (mkF m (pc + 2) L' st) cs ss Q) : zEnds p e below s T (mkF m pc Ls (.int v :: st)) cs ss Q := zstp (fun _ k => XS.istore X.here hx rfl (hb hby hd) rfl hl k) r
theorem zlstoreN (X : Stand p l e R s m args below meth c T locs cells slots) (hx : p.tables.exec = Jvm.exec) (hby : c.code = bytes) {k : Fin 4} {v : Int64} (hd : decode bytes pc = .ok (.lstore_n k, 1)) (L' : Array Slot) (hl : storeLocals Ls k.val (.long v) = some L') (r : zEnds p e below s T (mkF m (pc + 1) L' st) cs ss Q) : zEnds p e below s T (mkF m pc Ls (.long v :: st)) cs ss Q := zstp (fun _ k => XS.lstoreN X.here hx rfl (hb hby hd) rfl hl k) r
theorem zlstore (X : Stand p l e R s m args below meth c T locs cells slots) (hx : p.tables.exec = Jvm.exec) (hby : c.code = bytes) {k : Nat} {v : Int64} (hd : decode bytes pc = .ok (.lstore k, 2)) (L' : Array Slot) (hl : storeLocals Ls k (.long v) = some L') (r : zEnds p e below s T (mkF m (pc + 2) L' st) cs ss Q) : zEnds p e below s T (mkF m pc Ls (.long v :: st)) cs ss Q := zstp (fun _ k => XS.lstore X.here hx rfl (hb hby hd) rfl hl k) r
theorem zastoreN (X : Stand p l e R s m args below meth c T locs cells slots) (hx : p.tables.exec = Jvm.exec) (hby : c.code = bytes) {k : Fin 4} {v : Value} (hd : decode bytes pc = .ok (.astore_n k, 1)) (L' : Array Slot) (hv : v.isRef = true) (hl : storeLocals Ls k.val v = some L') (r : zEnds p e below s T (mkF m (pc + 1) L' st) cs ss Q) : zEnds p e below s T (mkF m pc Ls (v :: st)) cs ss Q := zstp (fun _ k => XS.astoreN X.here hx rfl (hb hby hd) rfl hv hl k) r
theorem zastore (X : Stand p l e R s m args below meth c T locs cells slots) (hx : p.tables.exec = Jvm.exec) (hby : c.code = bytes) {k : Nat} {v : Value} (hd : decode bytes pc = .ok (.astore k, 2)) (L' : Array Slot) (hv : v.isRef = true) (hl : storeLocals Ls k v = some L') (r : zEnds p e below s T (mkF m (pc + 2) L' st) cs ss Q) : zEnds p e below s T (mkF m pc Ls (v :: st)) cs ss Q := zstp (fun _ k => XS.astore X.here hx rfl (hb hby hd) rfl hv hl k) r
theorem ziconst (X : Stand p l e R s m args below meth c T locs cells slots) (hx : p.tables.exec = Jvm.exec) (hby : c.code = bytes) {i : Int} (hd : decode bytes pc = .ok (.iconst i, 1)) (z : Int32) (hz : Int32.ofInt i = z) (r : zEnds p e below s T (mkF m (pc + 1) Ls (.int z :: st)) cs ss Q) : zEnds p e below s T (mkF m pc Ls st) cs ss Q := zstp (fun _ k => XS.iconst X.here hx rfl (hb hby hd) (hz ▸ k)) r
theorem zbipush (X : Stand p l e R s m args below meth c T locs cells slots) (hx : p.tables.exec = Jvm.exec) (hby : c.code = bytes) {i : Int} (hd : decode bytes pc = .ok (.bipush i, 2)) (z : Int32) (hz : (Int8.ofInt i).toInt32 = z) (r : zEnds p e below s T (mkF m (pc + 2) Ls (.int z :: st)) cs ss Q) : zEnds p e below s T (mkF m pc Ls st) cs ss Q := zstp (fun _ k => XS.bipush X.here hx rfl (hb hby hd) (hz ▸ k)) r
theorem zlconst (X : Stand p l e R s m args below meth c T locs cells slots) (hx : p.tables.exec = Jvm.exec) (hby : c.code = bytes) {i : Fin 2} (hd : decode bytes pc = .ok (.lconst i, 1)) (z : Int64) (hz : Int64.ofNat i = z) (r : zEnds p e below s T (mkF m (pc + 1) Ls (.long z :: st)) cs ss Q) : zEnds p e below s T (mkF m pc Ls st) cs ss Q := zstp (fun _ k => XS.lconst X.here hx rfl (hb hby hd) (hz ▸ k)) r
theorem zaconstNull (X : Stand p l e R s m args below meth c T locs cells slots) (hx : p.tables.exec = Jvm.exec) (hby : c.code = bytes)  (hd : decode bytes pc = .ok (.aconst_null, 1))  (r : zEnds p e below s T (mkF m (pc + 1) Ls (.null :: st)) cs ss Q) : zEnds p e below s T (mkF m pc Ls st) cs ss Q := zstp (fun _ k => XS.aconstNull X.here hx rfl (hb hby hd) k) r
theorem ziadd (X : Stand p l e R s m args below meth c T locs cells slots) (hx : p.tables.exec = Jvm.exec) (hby : c.code = bytes) {x y : Int32} (hd : decode bytes pc = .ok (.iadd, 1)) (z : Int32) (hz : x + y = z) (r : zEnds p e below s T (mkF m (pc + 1) Ls (.int z :: st)) cs ss Q) : zEnds p e below s T (mkF m pc Ls (.int y :: .int x :: st)) cs ss Q := zstp (fun _ k => XS.iadd X.here hx rfl (hb hby hd) rfl (hz ▸ k)) r
theorem zisub (X : Stand p l e R s m args below meth c T locs cells slots) (hx : p.tables.exec = Jvm.exec) (hby : c.code = bytes) {x y : Int32} (hd : decode bytes pc = .ok (.isub, 1)) (z : Int32) (hz : x - y = z) (r : zEnds p e below s T (mkF m (pc + 1) Ls (.int z :: st)) cs ss Q) : zEnds p e below s T (mkF m pc Ls (.int y :: .int x :: st)) cs ss Q := zstp (fun _ k => XS.isub X.here hx rfl (hb hby hd) rfl (hz ▸ k)) r
theorem zimul (X : Stand p l e R s m args below meth c T locs cells slots) (hx : p.tables.exec = Jvm.exec) (hby : c.code = bytes) {x y : Int32} (hd : decode bytes pc = .ok (.imul, 1)) (z : Int32) (hz : x * y = z) (r : zEnds p e below s T (mkF m (pc + 1) Ls (.int z :: st)) cs ss Q) : zEnds p e below s T (mkF m pc Ls (.int y :: .int x :: st)) cs ss Q := zstp (fun _ k => XS.imul X.here hx rfl (hb hby hd) rfl (hz ▸ k)) r
theorem zishl (X : Stand p l e R s m args below meth c T locs cells slots) (hx : p.tables.exec = Jvm.exec) (hby : c.code = bytes) {x y : Int32} (hd : decode bytes pc = .ok (.ishl, 1)) (z : Int32) (hz : x <<< (y &&& 31) = z) (r : zEnds p e below s T (mkF m (pc + 1) Ls (.int z :: st)) cs ss Q) : zEnds p e below s T (mkF m pc Ls (.int y :: .int x :: st)) cs ss Q := zstp (fun _ k => XS.ishl X.here hx rfl (hb hby hd) rfl (hz ▸ k)) r
theorem zishr (X : Stand p l e R s m args below meth c T locs cells slots) (hx : p.tables.exec = Jvm.exec) (hby : c.code = bytes) {x y : Int32} (hd : decode bytes pc = .ok (.ishr, 1)) (z : Int32) (hz : x >>> (y &&& 31) = z) (r : zEnds p e below s T (mkF m (pc + 1) Ls (.int z :: st)) cs ss Q) : zEnds p e below s T (mkF m pc Ls (.int y :: .int x :: st)) cs ss Q := zstp (fun _ k => XS.ishr X.here hx rfl (hb hby hd) rfl (hz ▸ k)) r
theorem zlsub (X : Stand p l e R s m args below meth c T locs cells slots) (hx : p.tables.exec = Jvm.exec) (hby : c.code = bytes) {x y : Int64} (hd : decode bytes pc = .ok (.lsub, 1)) (z : Int64) (hz : x - y = z) (r : zEnds p e below s T (mkF m (pc + 1) Ls (.long z :: st)) cs ss Q) : zEnds p e below s T (mkF m pc Ls (.long y :: .long x :: st)) cs ss Q := zstp (fun _ k => XS.lsub X.here hx rfl (hb hby hd) rfl (hz ▸ k)) r
theorem zlmul (X : Stand p l e R s m args below meth c T locs cells slots) (hx : p.tables.exec = Jvm.exec) (hby : c.code = bytes) {x y : Int64} (hd : decode bytes pc = .ok (.lmul, 1)) (z : Int64) (hz : x * y = z) (r : zEnds p e below s T (mkF m (pc + 1) Ls (.long z :: st)) cs ss Q) : zEnds p e below s T (mkF m pc Ls (.long y :: .long x :: st)) cs ss Q := zstp (fun _ k => XS.lmul X.here hx rfl (hb hby hd) rfl (hz ▸ k)) r
theorem zineg (X : Stand p l e R s m args below meth c T locs cells slots) (hx : p.tables.exec = Jvm.exec) (hby : c.code = bytes) {x : Int32} (hd : decode bytes pc = .ok (.ineg, 1)) (z : Int32) (hz : -x = z) (r : zEnds p e below s T (mkF m (pc + 1) Ls (.int z :: st)) cs ss Q) : zEnds p e below s T (mkF m pc Ls (.int x :: st)) cs ss Q := zstp (fun _ k => XS.ineg X.here hx rfl (hb hby hd) rfl (hz ▸ k)) r
theorem zlneg (X : Stand p l e R s m args below meth c T locs cells slots) (hx : p.tables.exec = Jvm.exec) (hby : c.code = bytes) {x : Int64} (hd : decode bytes pc = .ok (.lneg, 1)) (z : Int64) (hz : -x = z) (r : zEnds p e below s T (mkF m (pc + 1) Ls (.long z :: st)) cs ss Q) : zEnds p e below s T (mkF m pc Ls (.long x :: st)) cs ss Q := zstp (fun _ k => XS.lneg X.here hx rfl (hb hby hd) rfl (hz ▸ k)) r
theorem zidiv (X : Stand p l e R s m args below meth c T locs cells slots) (hx : p.tables.exec = Jvm.exec) (hby : c.code = bytes) {x y : Int32} (hd : decode bytes pc = .ok (.idiv, 1)) (z : Int32) (hy : y ≠ 0) (hz : x / y = z) (r : zEnds p e below s T (mkF m (pc + 1) Ls (.int z :: st)) cs ss Q) : zEnds p e below s T (mkF m pc Ls (.int y :: .int x :: st)) cs ss Q := zstp (fun _ k => XS.idiv X.here hx rfl (hb hby hd) rfl hy (hz ▸ k)) r
theorem zldiv (X : Stand p l e R s m args below meth c T locs cells slots) (hx : p.tables.exec = Jvm.exec) (hby : c.code = bytes) {x y : Int64} (hd : decode bytes pc = .ok (.ldiv, 1)) (z : Int64) (hy : y ≠ 0) (hz : x / y = z) (r : zEnds p e below s T (mkF m (pc + 1) Ls (.long z :: st)) cs ss Q) : zEnds p e below s T (mkF m pc Ls (.long y :: .long x :: st)) cs ss Q := zstp (fun _ k => XS.ldiv X.here hx rfl (hb hby hd) rfl hy (hz ▸ k)) r
theorem zl2i (X : Stand p l e R s m args below meth c T locs cells slots) (hx : p.tables.exec = Jvm.exec) (hby : c.code = bytes) {v : Int64} (hd : decode bytes pc = .ok (.l2i, 1)) (z : Int32) (hz : v.toInt32 = z) (r : zEnds p e below s T (mkF m (pc + 1) Ls (.int z :: st)) cs ss Q) : zEnds p e below s T (mkF m pc Ls (.long v :: st)) cs ss Q := zstp (fun _ k => XS.l2i X.here hx rfl (hb hby hd) rfl (hz ▸ k)) r
theorem zlcmp (X : Stand p l e R s m args below meth c T locs cells slots) (hx : p.tables.exec = Jvm.exec) (hby : c.code = bytes) {x y : Int64} (hd : decode bytes pc = .ok (.lcmp, 1)) (z : Int32) (hz : lcmpW x y = z) (r : zEnds p e below s T (mkF m (pc + 1) Ls (.int z :: st)) cs ss Q) : zEnds p e below s T (mkF m pc Ls (.long y :: .long x :: st)) cs ss Q := zstp (fun _ k => XS.lcmp X.here hx rfl (hb hby hd) rfl (by subst hz; exact k)) r
theorem zdup (X : Stand p l e R s m args below meth c T locs cells slots) (hx : p.tables.exec = Jvm.exec) (hby : c.code = bytes) {x : Value} (hd : decode bytes pc = .ok (.dup, 1)) (hc : x.category = 1) (r : zEnds p e below s T (mkF m (pc + 1) Ls (x :: x :: st)) cs ss Q) : zEnds p e below s T (mkF m pc Ls (x :: st)) cs ss Q := zstp (fun _ k => XS.dup X.here hx rfl (hb hby hd) rfl hc k) r
theorem zpop (X : Stand p l e R s m args below meth c T locs cells slots) (hx : p.tables.exec = Jvm.exec) (hby : c.code = bytes) {x : Value} (hd : decode bytes pc = .ok (.pop, 1)) (hc : x.category = 1) (r : zEnds p e below s T (mkF m (pc + 1) Ls st) cs ss Q) : zEnds p e below s T (mkF m pc Ls (x :: st)) cs ss Q := zstp (fun _ k => XS.pop X.here hx rfl (hb hby hd) rfl hc k) r
theorem ziinc (X : Stand p l e R s m args below meth c T locs cells slots) (hx : p.tables.exec = Jvm.exec) (hby : c.code = bytes) {k : Nat} {i : Int} {x : Int32} (hd : decode bytes pc = .ok (.iinc k i, 3)) (L' : Array Slot) (hl : Ls[k]? = some (.val (.int x))) (hl' : storeLocals Ls k (.int (x + Int32.ofInt i)) = some L') (r : zEnds p e below s T (mkF m (pc + 3) L' st) cs ss Q) : zEnds p e below s T (mkF m pc Ls st) cs ss Q := zstp (fun _ k => XS.iinc X.here hx rfl (hb hby hd) hl hl' k) r
theorem zgoto (X : Stand p l e R s m args below meth c T locs cells slots) (hx : p.tables.exec = Jvm.exec) (hby : c.code = bytes) {o : Int} (hd : decode bytes pc = .ok (.goto o, 3)) (pc' : Nat) (ho : 0 ≤ (pc : Int) + o) (hp : ((pc : Int) + o).toNat = pc') (r : zEnds p e below s T (mkF m pc' Ls st) cs ss Q) : zEnds p e below s T (mkF m pc Ls st) cs ss Q := zstp (fun _ k => XS.goto X.here hx rfl rfl (hb hby hd) ho hp k) r
theorem zifYes (X : Stand p l e R s m args below meth c T locs cells slots) (hx : p.tables.exec = Jvm.exec) (hby : c.code = bytes) {cd : ClassFile.Cond} {x : Int32} {o : Int} (hd : decode bytes pc = .ok (.ifCond cd o, 3)) (pc' : Nat) (hc : ifCond.holds cd x = true) (ho : 0 ≤ (pc : Int) + o) (hp : ((pc : Int) + o).toNat = pc') (r : zEnds p e below s T (mkF m pc' Ls st) cs ss Q) : zEnds p e below s T (mkF m pc Ls (.int x :: st)) cs ss Q := zstp (fun _ k => XS.ifYes X.here hx rfl rfl (hb hby hd) rfl hc ho hp k) r
theorem zifNo (X : Stand p l e R s m args below meth c T locs cells slots) (hx : p.tables.exec = Jvm.exec) (hby : c.code = bytes) {cd : ClassFile.Cond} {x : Int32} {o : Int} (hd : decode bytes pc = .ok (.ifCond cd o, 3)) (hc : ifCond.holds cd x = false) (r : zEnds p e below s T (mkF m (pc + 3) Ls st) cs ss Q) : zEnds p e below s T (mkF m pc Ls (.int x :: st)) cs ss Q := zstp (fun _ k => XS.ifNo X.here hx rfl (hb hby hd) rfl hc k) r
theorem zicmpYes (X : Stand p l e R s m args below meth c T locs cells slots) (hx : p.tables.exec = Jvm.exec) (hby : c.code = bytes) {cd : ClassFile.Cond} {x y : Int32} {o : Int} (hd : decode bytes pc = .ok (.if_icmp cd o, 3)) (pc' : Nat) (hc : if_icmp.holds cd x y = true) (ho : 0 ≤ (pc : Int) + o) (hp : ((pc : Int) + o).toNat = pc') (r : zEnds p e below s T (mkF m pc' Ls st) cs ss Q) : zEnds p e below s T (mkF m pc Ls (.int y :: .int x :: st)) cs ss Q := zstp (fun _ k => XS.icmpYes X.here hx rfl rfl (hb hby hd) rfl hc ho hp k) r
theorem zicmpNo (X : Stand p l e R s m args below meth c T locs cells slots) (hx : p.tables.exec = Jvm.exec) (hby : c.code = bytes) {cd : ClassFile.Cond} {x y : Int32} {o : Int} (hd : decode bytes pc = .ok (.if_icmp cd o, 3)) (hc : if_icmp.holds cd x y = false) (r : zEnds p e below s T (mkF m (pc + 3) Ls st) cs ss Q) : zEnds p e below s T (mkF m pc Ls (.int y :: .int x :: st)) cs ss Q := zstp (fun _ k => XS.icmpNo X.here hx rfl (hb hby hd) rfl hc k) r
theorem zifnonnullYes (X : Stand p l e R s m args below meth c T locs cells slots) (hx : p.tables.exec = Jvm.exec) (hby : c.code = bytes) {b : Addr} {o : Int} (hd : decode bytes pc = .ok (.ifnonnull o, 3)) (pc' : Nat) (ho : 0 ≤ (pc : Int) + o) (hp : ((pc : Int) + o).toNat = pc') (r : zEnds p e below s T (mkF m pc' Ls st) cs ss Q) : zEnds p e below s T (mkF m pc Ls (.ref b :: st)) cs ss Q := zstp (fun _ k => XS.ifnonnullYes X.here hx rfl rfl (hb hby hd) rfl ho hp k) r
theorem zacmp (X : Stand p l e R s m args below meth c T locs cells slots) (hx : p.tables.exec = Jvm.exec) (hby : c.code = bytes) {cd : ACond} {x y : Value} {o : Int} (hd : decode bytes pc = .ok (.if_acmp cd o, 3)) (pc' : Nat) (same : Bool) (h1 : x.isRef = true) (h2 : y.isRef = true) (hq : decide (x = y) = same) (ho : 0 ≤ (pc : Int) + o) (hp : pc' = if acV cd same = true then ((pc : Int) + o).toNat else pc + 3) (r : zEnds p e below s T (mkF m pc' Ls st) cs ss Q) : zEnds p e below s T (mkF m pc Ls (y :: x :: st)) cs ss Q := zstp (fun _ k => Jvm.RoadKit.acmp X hx rfl h1 h2 rfl (hb hby hd) rfl hq ho hp k) r
theorem zldcI (X : Stand p l e R s m args below meth c T locs cells slots) (hx : p.tables.exec = Jvm.exec) (hby : c.code = bytes) {own : String} {i : Nat} (hd : decode bytes pc = .ok (.ldc i, 2)) (z : Int32) (hZ : Z.Warmed39 s.vm) (hown : s.vm.findClass own = some m.cls) (w : (Jvm.Cond.constant own i z).before a0 Z = true) (r : zEnds p e below s T (mkF m (pc + 2) Ls (.int z :: st)) cs ss Q) : zEnds p e below s T (mkF m pc Ls st) cs ss Q := zstp (fun _ k => X.ldcInt hx hown (mvT hZ w) (g := mkF m pc Ls st) rfl (hb hby hd) _ k) r
theorem zldc2J (X : Stand p l e R s m args below meth c T locs cells slots) (hx : p.tables.exec = Jvm.exec) (hby : c.code = bytes) {own : String} {i : Nat} (hd : decode bytes pc = .ok (.ldc2_w i, 3)) (z : Int64) (hZ : Z.Warmed39 s.vm) (hown : s.vm.findClass own = some m.cls) (w : (Jvm.Cond.constantLong own i z).before a0 Z = true) (r : zEnds p e below s T (mkF m (pc + 3) Ls (.long z :: st)) cs ss Q) : zEnds p e below s T (mkF m pc Ls st) cs ss Q := zstp (fun _ k => X.ldc2Long hx hown (mvT hZ w) (g := mkF m pc Ls st) rfl (hb hby hd) _ k) r
theorem zgetstat (X : Stand p l e R s m args below meth c T locs cells slots) (hx : p.tables.exec = Jvm.exec) (hby : c.code = bytes) {own R0 O n d host : String} {i : Nat} (hd : decode bytes pc = .ok (.getstatic i, 3)) (hZ : Z.Warmed39 s.vm) (hown : s.vm.findClass own = some m.cls) (w : (Jvm.Cond.fieldLink own i R0 n d).before a0 Z = true ∨ (Jvm.Cond.fieldLinkNest own i R0 n d host).before a0 Z = true) (via : Via Z R0 O n d) (eT : T.heap = h) {v : Value} (F : Sta Z h O n d v)
    (r : ∀ T', Stand p l e R s m args below meth c T' locs cells slots → T'.heap = h → zEnds p e below s T' (mkF m (pc + 3) Ls (v :: st)) cs ss Q) : zEnds p e below s T (mkF m pc Ls st) cs ss Q := by
  obtain ⟨T', X', e', k⟩ := getS2 X hx hZ hown w via eT F (g := mkF m pc Ls st) rfl (hb hby hd)
  exact zstp k (r T' X' e')
theorem zgetfld (X : Stand p l e R s m args below meth c T locs cells slots) (hx : p.tables.exec = Jvm.exec) (hby : c.code = bytes) {own R0 O n d host : String} {i : Nat} (hd : decode bytes pc = .ok (.getfield i, 3)) (hZ : Z.Warmed39 s.vm) (hown : s.vm.findClass own = some m.cls) (w : (Jvm.Cond.fieldLink own i R0 n d).before a0 Z = true ∨ (Jvm.Cond.fieldLinkNest own i R0 n d host).before a0 Z = true) (via : Via Z R0 O n d) (eT : T.heap = h) {a : Addr} {v : Value} (F : Fld Z h a O n d v)
    (r : ∀ T', Stand p l e R s m args below meth c T' locs cells slots → T'.heap = h → zEnds p e below s T' (mkF m (pc + 3) Ls (v :: st)) cs ss Q) : zEnds p e below s T (mkF m pc Ls (.ref a :: st)) cs ss Q := by
  obtain ⟨T', X', e', k⟩ := getF X hx hZ hown w via eT F (g := mkF m pc Ls (.ref a :: st)) rfl rfl (hb hby hd)
  exact zstp k (r T' X' e')
theorem zputfld (X : Stand p l e R s m args below meth c T locs cells slots) (hx : p.tables.exec = Jvm.exec) (hby : c.code = bytes) {own R0 O n d host C : String} {i kk : Nat} {ty : FieldType} (hd : decode bytes pc = .ok (.putfield i, 3)) (hZ : Z.Warmed39 s.vm) (hown : s.vm.findClass own = some m.cls) (w : (Jvm.Cond.fieldLink own i R0 n d).before a0 Z = true ∨ (Jvm.Cond.fieldLinkNest own i R0 n d host).before a0 Z = true) (via : Via Z R0 O n d) (eT : T.heap = h) {a : Addr} {v old : Value} (F : Fld Z h a O n d old) (E : Exa Z h a C) (L : (Jvm.Cond.lays C O n d).before a0 Z = true ∨ ((Jvm.Cond.laysFinal C O n d).before a0 Z = true ∧ own = O ∧ meth.name = "<init>")) (wi : (Jvm.Cond.instantiable C kk).before a0 Z = true) (hty : parseFieldDescriptor d = some ty) (hn : narrow ty v = v) (hf : fits ty v = true)
    (r : ∀ T' h', Stand p l e R s m args below meth c T' (locs ++ [⟨a, Jvm.RoadKit.slotOf Z O n d⟩]) cells slots → T'.heap = h' → Wr h h' a (Jvm.RoadKit.slotOf Z O n d) v → zEnds p e below s T' (mkF m (pc + 3) Ls st) cs ss Q) : zEnds p e below s T (mkF m pc Ls (v :: .ref a :: st)) cs ss Q := by
  obtain ⟨T', h', X', e', W, k⟩ := putF X hx hZ hown w via eT F E L wi hty hn hf (g := mkF m pc Ls (v :: .ref a :: st)) rfl rfl (hb hby hd)
  exact zstp k (r T' h' X' e' W)
theorem znewobj (X : Stand p l e R s m args below meth c T locs cells slots) (hx : p.tables.exec = Jvm.exec) (hby : c.code = bytes) {own C : String} {i n : Nat} (hd : decode bytes pc = .ok (.new i, 3)) (hZ : Z.Warmed39 s.vm) (hown : s.vm.findClass own = some m.cls) (w : (Jvm.Cond.classLink own i C).before a0 Z = true) (wi : (Jvm.Cond.instantiable C n).before a0 Z = true) (wz : (Jvm.Cond.initialized C).before a0 Z = true) (eT : T.heap = h) (hc : cells + 1 ≤ R.cells) (hl : slots + n ≤ R.slots)
    (r : ∀ T' h' b, Stand p l e R s m args below meth c T' locs (cells + 1) (slots + n) → T'.heap = h' → b = h.size → Ext h h' → Exa Z h' b C → (∀ {O nm d : String} {ty : FieldType}, Laid Z a0 C O nm d → parseFieldDescriptor d = some ty → Fld Z h' b O nm d (defaultValue ty)) → zEnds p e below s T' (mkF m (pc + 3) Ls (.ref b :: st)) cs ss Q) : zEnds p e below s T (mkF m pc Ls st) cs ss Q := by
  obtain ⟨T', h', X', e', E, A, D, -, k⟩ := newO X hx hZ hown w wi wz eT (g := mkF m pc Ls st) rfl (hb hby hd) hc hl
  exact zstp k (r T' h' _ X' e' rfl E A D)
theorem zobjinit (X : Stand p l e R s m args below meth c T locs cells slots) (hx : p.tables.exec = Jvm.exec) (hby : c.code = bytes) {own : String} {i : Nat} (hd : decode bytes pc = .ok (.invokespecial i, 3)) (hZ : Z.Warmed39 s.vm) (hown : s.vm.findClass own = some m.cls) (w1 : (Jvm.Cond.methodLink own i Lib.objectInit).before a0 Z = true) (w2 : (Jvm.Cond.instanceMethod Lib.objectInit).before a0 Z = true) (w3 : (Jvm.Cond.code Lib.objectInit ⟨#[0xb1]⟩ 1 none).before a0 Z = true) (eT : T.heap = h) {nl : Nat} (hmx : c.maxLocals = nl) (W : Nat) {a : Addr}
    (r : ∀ T', Stand p l e R s m args below meth c T' locs cells slots → T'.heap = h → zEnds p e below s T' (mkF m (pc + 3) Ls st) cs ss Q)
    (hml : Ls.size = nl := by rfl) (hW : (st.map fun v => v.category).sum ≤ W := by exact Nat.le_of_eq rfl) (hf : 1 ≤ R.frames := by first | decide | omega | (dsimp only; omega)) (hl : W + 12 ≤ R.locals := by first | decide | omega | (dsimp only; omega)) : zEnds p e below s T (mkF m pc Ls (.ref a :: st)) cs ss Q := by
  obtain ⟨T', X', e', k⟩ := initO X hx hZ hown w1 w2 w3 eT (g := mkF m pc Ls (.ref a :: st)) rfl (hml.trans hmx.symm) rfl (hb hby hd) hf (W := W) (by show 2 * 0 + _ ≤ _; rw [Nat.mul_zero, Nat.zero_add]; exact hW) hl
  exact zstp k (r T' X' e')
def zLst (Z : State) (h : Heap) (a : Addr) (ty : FieldType) (vs : List Value) : Prop := ∃ cl : Cell, Arr Z h a cl ty ∧ cl.slots.toList = vs
theorem zLst.ext {h' : Heap} {a : Addr} {ty : FieldType} {vs : List Value} (F : zLst Z h a ty vs) (E : Ext h h') : zLst Z h' a ty vs := by obtain ⟨c, A, r⟩ := F; exact ⟨c, A.ext E, r⟩
theorem zLst.lt {a : Addr} {ty : FieldType} {vs : List Value} (F : zLst Z h a ty vs) : a < h.size := by obtain ⟨c, A, r⟩ := F; exact A.lt
theorem zLst.other {h' : Heap} {a b : Addr} {sl : Nat} {v : Value} {ty : FieldType} {vs : List Value} (F : zLst Z h b ty vs) (W : Wr h h' a sl v) (q : b ≠ a) : zLst Z h' b ty vs := by obtain ⟨c, A, r⟩ := F; exact ⟨c, A.other W q, r⟩
theorem zLst.keep {h' : Heap} {a : Addr} {ty : FieldType} {vs : List Value} {ws : List Addr} (F : zLst Z h a ty vs) (K : Keep h h' ws) (q : a ∉ ws) : zLst Z h' a ty vs := by obtain ⟨c, A, r⟩ := F; exact ⟨c, ⟨K.2.1 a c A.1 q, A.2⟩, r⟩
theorem zLst.same {h' : Heap} {a : Addr} {sl : Nat} {v : Value} {ty : FieldType} {vs : List Value} (F : zLst Z h a ty vs) (W : Wr h h' a sl v) : zLst Z h' a ty (vs.set sl v) := by
  obtain ⟨c, A, r⟩ := F
  refine ⟨_, A.same W, ?_⟩
  show (c.slots.setIfInBounds sl v).toList = _
  rw [Array.toList_setIfInBounds, r]
theorem zlst_in {cl : Cell} {vs : List Value} {j : Int32} (r : cl.slots.toList = vs) (hj : ¬ j < 0) (hlt : j.toNatClampNeg < vs.length) : ¬ (j < 0 ∨ cl.slots.size ≤ j.toNatClampNeg) := by
  rintro (q | q)
  · exact hj q
  · rw [← r, Array.length_toList] at hlt; exact absurd q (Nat.not_le.mpr hlt)
theorem zlst_at {cl : Cell} {vs : List Value} {k : Nat} {v : Value} (r : cl.slots.toList = vs) (hv : vs[k]? = some v) : cl.slots[k]? = some v := by
  rw [← r, Array.getElem?_toList] at hv; exact hv
theorem zbaload (X : Stand p l e R s m args below meth c T locs cells slots) (hx : p.tables.exec = Jvm.exec) (hby : c.code = bytes) (hd : decode bytes pc = .ok (.baload, 1)) (hZ : Z.Warmed39 s.vm) (eT : T.heap = h) {a : Addr} {vs : List Value} (A : zLst Z h a .byte vs) {j : Int32} (hj : ¬ j < 0) {v : Value} (hv : vs[j.toNatClampNeg]? = some v)
    (r : zEnds p e below s T (mkF m (pc + 1) Ls (v :: st)) cs ss Q) : zEnds p e below s T (mkF m pc Ls (.int j :: .ref a :: st)) cs ss Q := by
  obtain ⟨cl, A, q⟩ := A
  exact zstp (fun _ k => X.baloadBytes hx (by rw [eT]; exact A.1) (State.isArrayOf_alike hZ.alike A.2.1) A.2.2 (zlst_in q hj (List.getElem?_eq_some_iff.mp hv).1) (zlst_at q hv) (g := mkF m pc Ls (.int j :: .ref a :: st)) rfl rfl (hb hby hd) _ k) r
theorem zalenC (X : Stand p l e R s m args below meth c T locs cells slots) (hx : p.tables.exec = Jvm.exec) (hby : c.code = bytes) (hd : decode bytes pc = .ok (.arraylength, 1)) (hZ : Z.Warmed39 s.vm) (eT : T.heap = h) {a : Addr} {cl : Cell} {ty : FieldType} (A : Arr Z h a cl ty) (z : Int32) (hz : cl.slots.size.toInt32 = z)
    (r : zEnds p e below s T (mkF m (pc + 1) Ls (.int z :: st)) cs ss Q) : zEnds p e below s T (mkF m pc Ls (.ref a :: st)) cs ss Q :=
  zstp (fun _ k => X.arraylength hx (by rw [eT]; exact A.1) (State.isArrayOf_alike hZ.alike A.2.1) (g := mkF m pc Ls (.ref a :: st)) rfl rfl (hb hby hd) _ (hz ▸ k)) r
theorem zbastore (X : Stand p l e R s m args below meth c T locs cells slots) (hx : p.tables.exec = Jvm.exec) (hby : c.code = bytes) (hd : decode bytes pc = .ok (.bastore, 1)) (hZ : Z.Warmed39 s.vm) (eT : T.heap = h) {a : Addr} {vs : List Value} (A : zLst Z h a .byte vs) {j x : Int32} (hj : ¬ j < 0) (hlt : j.toNatClampNeg < vs.length) (x' : Int32) (hx' : nar .byte x = x')
    (r : ∀ T' h', Stand p l e R s m args below meth c T' (locs ++ [⟨a, j.toNatClampNeg⟩]) cells slots → T'.heap = h' → Wr h h' a j.toNatClampNeg (.int x') → zLst Z h' a .byte (vs.set j.toNatClampNeg (.int x')) → zEnds p e below s T' (mkF m (pc + 1) Ls st) cs ss Q) : zEnds p e below s T (mkF m pc Ls (.int x :: .int j :: .ref a :: st)) cs ss Q := by
  obtain ⟨cl, A', q⟩ := A
  subst hx'
  obtain ⟨T', h', X', e', W, k⟩ := stB X hx hZ eT A' (j := j) (x := x) (zlst_in q hj hlt) (g := mkF m pc Ls (.int x :: .int j :: .ref a :: st)) rfl rfl (hb hby hd)
  exact zstp k (r T' h' X' e' W (zLst.same ⟨cl, A', q⟩ W))
theorem zcalls (X : Stand p l e R s m args below meth c T locs cells slots) (hx : p.tables.exec = Jvm.exec) (hby : c.code = bytes) {own : String} {i : Nat} {y : MethodName} {by' : ByteArray} {maxL : Nat} {rt : Option FieldType} {rm : Room} {argsL : List Value} {Q' : Option Value → Heap → List Loc → Prop} (hd : decode bytes pc = .ok (.invokestatic i, 3)) (hZ : Z.Warmed39 s.vm) (hown : s.vm.findClass own = some m.cls) (w1 : (Jvm.Cond.methodLink own i y).before a0 Z = true) (w2 : (Jvm.Cond.static y).before a0 Z = true) (w3 : (Jvm.Cond.initialized y.cls).before a0 Z = true) (w4 : (Jvm.Cond.code y by' maxL rt).before a0 Z = true) (eT : T.heap = h)
    (con : zCon l Z y by' maxL rt [] rm argsL.toArray h Q') {nl : Nat} (hmx : c.maxLocals = nl) (W : Nat) {ps : List FieldType} {rv : Option FieldType} (hp : parseMethodDescriptor y.desc = some ⟨ps, rv⟩) {S0 : List Value}
    (r : ∀ T' h' v L, T'.heap = h' → Stand p l e R s m args below meth c T' (locs ++ L) (cells + rm.cells) (slots + rm.slots) → Q' v h' L → zEnds p e below s T' (mkF m (pc + 3) Ls (v.toList ++ st)) cs ss Q)
    (hy : y.cls ≠ "java/lang/invoke/MethodHandle" ∧ y.cls ≠ "java/lang/invoke/VarHandle" := by decide) (hml : Ls.size = nl := by rfl) (hW : (st.map fun v => v.category).sum ≤ W := by exact Nat.le_of_eq rfl) (hf : rm.frames + 1 ≤ R.frames := by first | decide | omega | (dsimp only; omega)) (hl : W + (maxL + 11) + rm.locals ≤ R.locals := by first | decide | omega | (dsimp only; omega)) (hcl : cells + rm.cells ≤ R.cells := by first | decide | omega | (dsimp only; omega)) (hsl : slots + rm.slots ≤ R.slots := by first | decide | omega | (dsimp only; omega)) (hn : argsL.length = ps.length := by rfl) (hS : S0 = argsL.reverse ++ st := by rfl) : zEnds p e below s T (mkF m pc Ls S0) cs ss Q := by
  obtain ⟨v, _, ⟨T', L', k', n'⟩, -, X', ⟨L, hq, l1, l2, l3⟩, k⟩ := Jvm.LawKit.callS X hx (y := y) hown (mvT hZ w1) (mvT hZ w2) (mvT hZ w3) (mvT hZ w4) hy (backOf (W := W) con hZ w4 w3 hf hl) (g := mkF m pc Ls S0) rfl (hml.trans hmx.symm) (argsL := argsL) (rest := st) (lenOf hp hn) hS (by show 2 * 0 + _ ≤ _; rw [Nat.mul_zero, Nat.zero_add]; exact hW) (hb hby hd) (fun _ _ => ⟨rfl, eT, hcl, hsl⟩)
  dsimp only [Pt.U, Pt.locs, Pt.cells, Pt.slots] at X' l1 l2 l3 k hq
  subst l1 l2 l3
  exact zstp k (r T' _ v L rfl X' hq)
theorem zcallv (X : Stand p l e R s m args below meth c T locs cells slots) (hx : p.tables.exec = Jvm.exec) (hby : c.code = bytes) {own C : String} {i : Nat} {y z : MethodName} {by' : ByteArray} {maxL : Nat} {rt : Option FieldType} {rm : Room} {a : Addr} {argsL : List Value} {Q' : Option Value → Heap → List Loc → Prop} (hd : decode bytes pc = .ok (.invokevirtual i, 3)) (hZ : Z.Warmed39 s.vm) (hown : s.vm.findClass own = some m.cls) (w1 : (Jvm.Cond.methodLink own i y).before a0 Z = true) (w2 : (Jvm.Cond.declares y).before a0 Z = true) (hnf : NotFace s y) (w3 : (Jvm.Cond.selects C y z).before a0 Z = true) (w4 : (Jvm.Cond.instanceMethod z).before a0 Z = true) (w5 : (Jvm.Cond.code z by' maxL rt).before a0 Z = true) (w6 : (Jvm.Cond.initialized z.cls).before a0 Z = true) (eT : T.heap = h) (E : Exa Z h a C)
    (con : zCon l Z z by' maxL rt [] rm (.ref a :: argsL).toArray h Q') {nl : Nat} (hmx : c.maxLocals = nl) (W : Nat) {ps : List FieldType} {rv : Option FieldType} (hp : parseMethodDescriptor y.desc = some ⟨ps, rv⟩) {S0 : List Value}
    (r : ∀ T' h' v L, T'.heap = h' → Stand p l e R s m args below meth c T' (locs ++ L) (cells + rm.cells) (slots + rm.slots) → Q' v h' L → zEnds p e below s T' (mkF m (pc + 3) Ls (v.toList ++ st)) cs ss Q)
    (hy : y.cls ≠ "java/lang/invoke/MethodHandle" ∧ y.cls ≠ "java/lang/invoke/VarHandle" := by decide) (hml : Ls.size = nl := by rfl) (hW : (st.map fun v => v.category).sum ≤ W := by exact Nat.le_of_eq rfl) (hf : rm.frames + 1 ≤ R.frames := by first | decide | omega | (dsimp only; omega)) (hl : W + (maxL + 11) + rm.locals ≤ R.locals := by first | decide | omega | (dsimp only; omega)) (hcl : cells + rm.cells ≤ R.cells := by first | decide | omega | (dsimp only; omega)) (hsl : slots + rm.slots ≤ R.slots := by first | decide | omega | (dsimp only; omega)) (hn : argsL.length = ps.length := by rfl) (hS : S0 = argsL.reverse ++ .ref a :: st := by rfl) : zEnds p e below s T (mkF m pc Ls S0) cs ss Q := by
  obtain ⟨_, _, qa, -, qc⟩ := isOf hZ eT E
  obtain ⟨v, _, ⟨T', L', k', n'⟩, -, X', ⟨L, hq, l1, l2, l3⟩, k⟩ := X.virtualBack hx (y := y) (z := z) hown (mvT hZ w1) (mvT hZ w2) hnf (mvT hZ w3) (mvT hZ w4) hy (backOf (W := W) con hZ w5 w6 hf hl) qa qc (g := mkF m pc Ls S0) rfl (hml.trans hmx.symm) (Steps.refl _) (argsL := argsL) (rest := st) (lenOf hp hn) hS (by show 2 * 0 + _ ≤ _; rw [Nat.mul_zero, Nat.zero_add]; exact hW) (hb hby hd) (fun _ _ => ⟨rfl, eT, hcl, hsl⟩)
  dsimp only [Pt.U, Pt.locs, Pt.cells, Pt.slots] at X' l1 l2 l3 k hq
  subst l1 l2 l3
  exact zstp (fun _ q => k.trans q) (r T' _ v L rfl X' hq)
theorem zcallsp (X : Stand p l e R s m args below meth c T locs cells slots) (hx : p.tables.exec = Jvm.exec) (hby : c.code = bytes) {own : String} {i : Nat} {y : MethodName} {by' : ByteArray} {maxL : Nat} {rm : Room} {a : Addr} {argsL : List Value} {Q' : Option Value → Heap → List Loc → Prop} (hd : decode bytes pc = .ok (.invokespecial i, 3)) (hZ : Z.Warmed39 s.vm) (hown : s.vm.findClass own = some m.cls) (hyn : y.name = "<init>") (w1 : (Jvm.Cond.methodLink own i y).before a0 Z = true) (w2 : (Jvm.Cond.instanceMethod y).before a0 Z = true) (w3 : (Jvm.Cond.code y by' maxL none).before a0 Z = true) (w4 : (Jvm.Cond.initialized y.cls).before a0 Z = true) (eT : T.heap = h)
    (con : zCon l Z y by' maxL none [] rm (.ref a :: argsL).toArray h Q') {nl : Nat} (hmx : c.maxLocals = nl) (W : Nat) {ps : List FieldType} {rv : Option FieldType} (hp : parseMethodDescriptor y.desc = some ⟨ps, rv⟩) {S0 : List Value}
    (r : ∀ T' h' v L, T'.heap = h' → Stand p l e R s m args below meth c T' (locs ++ L) (cells + rm.cells) (slots + rm.slots) → Q' v h' L → zEnds p e below s T' (mkF m (pc + 3) Ls (v.toList ++ st)) cs ss Q)
    (hy : y.cls ≠ "java/lang/invoke/MethodHandle" ∧ y.cls ≠ "java/lang/invoke/VarHandle" := by decide) (hml : Ls.size = nl := by rfl) (hW : (st.map fun v => v.category).sum ≤ W := by exact Nat.le_of_eq rfl) (hf : rm.frames + 1 ≤ R.frames := by first | decide | omega | (dsimp only; omega)) (hl : W + (maxL + 11) + rm.locals ≤ R.locals := by first | decide | omega | (dsimp only; omega)) (hcl : cells + rm.cells ≤ R.cells := by first | decide | omega | (dsimp only; omega)) (hsl : slots + rm.slots ≤ R.slots := by first | decide | omega | (dsimp only; omega)) (hn : argsL.length = ps.length := by rfl) (hS : S0 = argsL.reverse ++ .ref a :: st := by rfl) : zEnds p e below s T (mkF m pc Ls S0) cs ss Q := by
  obtain ⟨v, _, ⟨T', L', k', n'⟩, -, X', ⟨L, hq, l1, l2, l3⟩, k⟩ := X.specialBack hx (y := y) hyn hown (mvT hZ w1) (mvT hZ w2) (mvT hZ w3) hy (backOf (W := W) con hZ w3 w4 hf hl) (g := mkF m pc Ls S0) rfl (hml.trans hmx.symm) (Steps.refl _) (a := a) (argsL := argsL) (rest := st) (lenOf hp hn) hS (by show 2 * 0 + _ ≤ _; rw [Nat.mul_zero, Nat.zero_add]; exact hW) (hb hby hd) (fun _ _ => ⟨rfl, eT, hcl, hsl⟩)
  dsimp only [Pt.U, Pt.locs, Pt.cells, Pt.slots] at X' l1 l2 l3 k hq
  subst l1 l2 l3
  exact zstp (fun _ q => k.trans q) (r T' _ v L rfl X' hq)
theorem zpureK {w : Option Value} {rm : Room} (hr : rm.cells = 0 ∧ rm.slots = 0) (r : ∀ T', Stand p l e R s m args below meth c T' locs cells slots → T'.heap = h → zEnds p e below s T' (mkF m pc Ls (w.toList ++ st)) cs ss Q) :
    ∀ T' h' v L, T'.heap = h' → Stand p l e R s m args below meth c T' (locs ++ L) (cells + rm.cells) (slots + rm.slots) → zSame w h v h' L → zEnds p e below s T' (mkF m pc Ls (v.toList ++ st)) cs ss Q := by
  rintro T' h' v L e' X ⟨rfl, rfl, rfl⟩
  rw [hr.1, hr.2, List.append_nil] at X
  exact r T' X e'
theorem zsz {n0 : Nat} (O : Old Z n0 h) : n0 ≤ h.size := by rw [← O.1]; exact O.2.1
end Own
end Jvm.OwnKit
namespace Jvm.OwnKit
open Sem ClassFile Op Lib Jvm.Stand Jvm.Free Jvm.LawKit Jvm.RoadKit
section Sb
variable {p : Program} {l : Launch} {e : Env} {R : Room} {s : State} {m : MethodId} {args : Array Value} {below : List Frame} {meth : Method} {c : Code} {T : State} {locs : List Loc} {cells slots : Nat} {Z : State} {a0 : Array Value} {h h' : Heap} {bytes : ByteArray} {pc : Nat} {Ls : Array Slot} {st : List Value} {cs ss : Nat} {Q : Option Value → Heap → List Loc → Prop}
theorem zofN_toInt {n : Nat} (q : n < 2147483648) : (Int32.ofNat n).toInt = n := Int32.toInt_ofNat_small q
theorem zofN_clamp {n : Nat} (q : n < 2147483648) : (Int32.ofNat n).toNatClampNeg = n := by
  simp only [Int32.toNatClampNeg, zofN_toInt q]; rfl
theorem zofN_nn {n : Nat} (q : n < 2147483648) : ¬ Int32.ofNat n < 0 := by
  rw [Int32.lt_iff_toInt_lt, zofN_toInt q]; show ¬ (n : Int) < 0; omega
theorem zofN_lt {a b : Nat} (qa : a < 2147483648) (qb : b < 2147483648) : (Int32.ofNat a < Int32.ofNat b) = (a < b) := by
  rw [Int32.lt_iff_toInt_lt, zofN_toInt qa, zofN_toInt qb]; exact propext (by omega)
theorem zofN_eq {a b : Nat} (qa : a < 2147483648) (qb : b < 2147483648) : (Int32.ofNat a = Int32.ofNat b) = (a = b) := by
  refine propext ⟨fun q => ?_, fun q => by rw [q]⟩
  have := congrArg Int32.toInt q
  rw [zofN_toInt qa, zofN_toInt qb] at this; omega
theorem zofN_add (a b : Nat) : Int32.ofNat a + Int32.ofNat b = Int32.ofNat (a + b) := (Int32.ofNat_add a b).symm
theorem zofN_sub {a b : Nat} (q : b ≤ a) : Int32.ofNat a - Int32.ofNat b = Int32.ofNat (a - b) := (Int32.ofNat_sub a b q).symm
theorem zofN_sub_le {m c : Nat} (q : m ≤ c) (hc : c < 2147483648) : ¬ (0 : Int32) < Int32.ofNat m - Int32.ofNat c := by
  have e : Int32.ofNat m - Int32.ofNat c = -(Int32.ofNat (c - m)) := by
    rw [← zofN_sub q]; exact (Int32.neg_sub ..).symm
  rw [e, Int32.lt_iff_toInt_lt, Int32.toInt_neg, zofN_toInt (by omega)]
  show ¬ (0 : Int) < _
  rw [Int.bmod_eq_of_le (by omega) (by omega)]; omega
theorem zcopy_ext (ys : List Int8) {n : Nat} (q : ys.length ≤ n) : List.take 0 (List.replicate n (0 : Int8)) ++ List.take (min ys.length n) (List.drop 0 ys) ++ List.drop (0 + min ys.length n) (List.replicate n 0) = ys ++ List.replicate (n - ys.length) 0 := by
  rw [Nat.min_eq_left q, List.take_zero, List.nil_append, List.drop_zero, List.take_length, List.drop_replicate, Nat.zero_add]
theorem zcopy_range (ys : List Int8) {n : Nat} (q : n ≤ ys.length) : List.take 0 (List.replicate n (0 : Int8)) ++ List.take (min ys.length n) (List.drop 0 ys) ++ List.drop (0 + min ys.length n) (List.replicate n 0) = ys.take n := by
  rw [Nat.min_eq_right q, List.take_zero, List.nil_append, List.drop_zero, List.drop_replicate, Nat.zero_add, Nat.sub_self, List.replicate_zero, List.append_nil]
theorem zput_tail (bs jk zs xs : List Int8) : List.take bs.length (bs ++ jk ++ zs) ++ xs ++ List.drop (bs.length + xs.length) (bs ++ jk ++ zs) = bs ++ xs ++ List.drop xs.length (jk ++ zs) := by
  rw [List.append_assoc bs jk zs, List.take_left, ← List.drop_drop, List.drop_left]
theorem zput_len {bs jk zs xs : List Int8} (q : bs.length + xs.length ≤ (bs ++ jk ++ zs).length) : (bs ++ xs ++ List.drop xs.length (jk ++ zs)).length = (bs ++ jk ++ zs).length := by
  simp only [List.length_append, List.length_drop] at q ⊢; omega
theorem zshr0 (x : Int32) : x >>> ((0 : Int32) &&& 31) = x := by
  have : ((0 : Int32) &&& 31) = 0 := by decide
  rw [this]; simp
theorem zshl0 (x : Int32) : x <<< ((0 : Int32) &&& 31) = x := by
  have : ((0 : Int32) &&& 31) = 0 := by decide
  rw [this]; simp
def zOd (Z : State) (n0 : Nat) (h : Heap) : Prop := Z.heap.size ≤ n0 ∧ n0 ≤ h.size ∧ Ext Z.heap h
theorem zOd.ext {n0 : Nat} (O : zOd Z n0 h) (E : Ext h h') : zOd Z n0 h' := ⟨O.1, Nat.le_trans O.2.1 E.1, Nat.le_trans O.2.2.1 E.1, fun x c q => E.2 x c (O.2.2.2 x c q)⟩
theorem zOd.keep {n0 : Nat} {ws : List Addr} (O : zOd Z n0 h) (K : Keep h h' ws) (q : ∀ x ∈ ws, n0 ≤ x) : zOd Z n0 h' := ⟨O.1, Nat.le_trans O.2.1 K.1, Nat.le_trans O.2.2.1 K.1, fun x c r => K.2.1 x c (O.2.2.2 x c r) fun z => absurd (Nat.lt_of_lt_of_le (Array.getElem?_eq_some_iff.mp r).1 O.1) (Nat.not_lt.mpr (q x z))⟩
theorem zOd.wr {n0 : Nat} {a : Addr} {sl : Nat} {v : Value} (O : zOd Z n0 h) (W : Wr h h' a sl v) (q : n0 ≤ a) : zOd Z n0 h' := O.keep (Keep.of_wr W) (allS q all0)
theorem zodsz {n0 : Nat} (O : zOd Z n0 h) : n0 ≤ h.size := O.2.1
def zbv (b : Int8) : Value := .int b.toInt32
def zBt (Z : State) (h : Heap) (a : Addr) (bs : List Int8) : Prop := zLst Z h a .byte (bs.map zbv)
theorem zBt.ext {a : Addr} {bs : List Int8} (B : zBt Z h a bs) (E : Ext h h') : zBt Z h' a bs := zLst.ext B E
theorem zBt.lt {a : Addr} {bs : List Int8} (B : zBt Z h a bs) : a < h.size := zLst.lt B
theorem zBt.other {a b : Addr} {sl : Nat} {v : Value} {bs : List Int8} (B : zBt Z h b bs) (W : Wr h h' a sl v) (q : b ≠ a) : zBt Z h' b bs := zLst.other B W q
theorem zBt.keep {a : Addr} {ws : List Addr} {bs : List Int8} (B : zBt Z h a bs) (K : Keep h h' ws) (q : a ∉ ws) : zBt Z h' a bs := zLst.keep B K q
theorem zbv_fits (b : Int8) : fits .byte (zbv b) = true := SBG.fits_of_int8 b
theorem zbv_getD_fits (bs : List Int8) (i : Nat) : fits .byte ((bs.map zbv).getD i (.int 0)) = true := by
  rw [List.getD_eq_getElem?_getD, List.getElem?_map]
  cases bs[i]? with
  | none => decide
  | some b => exact zbv_fits b
theorem zBt.arv {a : Addr} {bs : List Int8} (B : zBt Z h a bs) (q : bs.length < 2147483648) : ∃ k, Arv Z h a k .byte (Int32.ofNat bs.length) (bs.map zbv) (.int 0) := by
  obtain ⟨cl, A, r⟩ := B
  have zsz : cl.slots.size = bs.length := by rw [← Array.length_toList, r, List.length_map]
  refine ⟨cl.cls, cl, A, rfl, by rw [zofN_clamp q, zsz], zofN_nn q, fun k hk => ?_, fun i hi => zbv_getD_fits bs i⟩
  rw [← Array.getElem?_toList, r, List.getD_eq_getElem?_getD]
  rw [zsz] at hk
  have : k < (bs.map zbv).length := by rw [List.length_map]; exact hk
  rw [List.getElem?_eq_getElem this]; rfl
theorem zBt.of_arv {a : Addr} {bs : List Int8} {k : ClassId} {z : Int32} {d : Value} (A : Arv Z h a k .byte z (bs.map zbv) d) (q : z.toNatClampNeg = bs.length) : zBt Z h a bs := by
  obtain ⟨cl, A, -, S, -, H, -⟩ := A
  refine ⟨cl, A, ?_⟩
  apply List.ext_getElem?
  intro i
  rw [Array.getElem?_toList]
  by_cases hi : i < cl.slots.size
  · rw [H i hi, List.getD_eq_getElem?_getD]
    have : i < (bs.map zbv).length := by rw [List.length_map, ← q, ← S]; exact hi
    rw [List.getElem?_eq_getElem this]; rfl
  · rw [Array.getElem?_eq_none (by omega), List.getElem?_eq_none (by rw [List.length_map, ← q, ← S]; omega)]
theorem zalenB (X : Stand p l e R s m args below meth c T locs cells slots) (hx : p.tables.exec = Jvm.exec) (hby : c.code = bytes) (hd : decode bytes pc = .ok (.arraylength, 1)) (hZ : Z.Warmed39 s.vm) (eT : T.heap = h) {a : Addr} {bs : List Int8} (B : zBt Z h a bs) (n : Nat) (hn : bs.length = n)
    (r : zEnds p e below s T (mkF m (pc + 1) Ls (.int (Int32.ofNat n) :: st)) cs ss Q) : zEnds p e below s T (mkF m pc Ls (.ref a :: st)) cs ss Q := by
  obtain ⟨cl, A, q⟩ := B
  exact zalenC X hx hby hd hZ eT A _ (by rw [← hn, ← List.length_map (f := zbv), ← q, Array.length_toList]) r
theorem zbaloadB (X : Stand p l e R s m args below meth c T locs cells slots) (hx : p.tables.exec = Jvm.exec) (hby : c.code = bytes) (hd : decode bytes pc = .ok (.baload, 1)) (hZ : Z.Warmed39 s.vm) (eT : T.heap = h) {a : Addr} {bs : List Int8} (B : zBt Z h a bs) {i : Nat} (hi : i < 2147483648) {b : Int8} (hv : bs[i]? = some b)
    (r : zEnds p e below s T (mkF m (pc + 1) Ls (.int b.toInt32 :: st)) cs ss Q) : zEnds p e below s T (mkF m pc Ls (.int (Int32.ofNat i) :: .ref a :: st)) cs ss Q :=
  zbaload X hx hby hd hZ eT B (zofN_nn hi) (v := zbv b) (by rw [zofN_clamp hi, List.getElem?_map, hv]; rfl) r
theorem zbastoreB (X : Stand p l e R s m args below meth c T locs cells slots) (hx : p.tables.exec = Jvm.exec) (hby : c.code = bytes) (hd : decode bytes pc = .ok (.bastore, 1)) (hZ : Z.Warmed39 s.vm) (eT : T.heap = h) {a : Addr} {bs : List Int8} (B : zBt Z h a bs) {i : Nat} (hi : i < 2147483648) (hlt : i < bs.length) (x : Int32) (b : Int8) (hx' : nar .byte x = b.toInt32)
    (r : ∀ T' h', Stand p l e R s m args below meth c T' (locs ++ [⟨a, i⟩]) cells slots → T'.heap = h' → Wr h h' a i (zbv b) → zBt Z h' a (bs.set i b) → zEnds p e below s T' (mkF m (pc + 1) Ls st) cs ss Q) : zEnds p e below s T (mkF m pc Ls (.int x :: .int (Int32.ofNat i) :: .ref a :: st)) cs ss Q := by
  refine zbastore X hx hby hd hZ eT B (zofN_nn hi) (by rw [zofN_clamp hi, List.length_map]; exact hlt) b.toInt32 hx' ?_
  rw [zofN_clamp hi]
  intro T' h' X' e' W L
  refine r T' h' X' e' W ?_
  show zLst Z h' a .byte ((bs.set i b).map zbv)
  rw [List.map_set]; exact L
theorem znewB (X : Stand p l e R s m args below meth c T locs cells slots) (hx : p.tables.exec = Jvm.exec) (hby : c.code = bytes) (hd : decode bytes pc = .ok (.newarray .byte, 2)) (hZ : Z.Warmed39 s.vm) (w : (Jvm.Cond.arrayClass .byte).before a0 Z = true) (eT : T.heap = h) {n : Nat} (hn : n * 8 ≤ 536870912) (hc : cells + 1 ≤ R.cells) (hl : slots + n ≤ R.slots)
    (r : ∀ T' h' b, Stand p l e R s m args below meth c T' locs (cells + 1) (slots + n) → T'.heap = h' → b = h.size → Ext h h' → Exa Z h' b "[B" → zBt Z h' b (List.replicate n 0) → zEnds p e below s T' (mkF m (pc + 2) Ls (.ref b :: st)) cs ss Q) : zEnds p e below s T (mkF m pc Ls (.int (Int32.ofNat n) :: st)) cs ss Q := by
  have hn' : n < 2147483648 := by omega
  obtain ⟨T', h', cA, X', e', E, A, Ex, k⟩ := newPE X hx hZ (aty := .byte) w eT (g := mkF m pc Ls (.int (Int32.ofNat n) :: st)) rfl (hb hby hd) rfl (zofN_nn hn') (cap := n) (by rw [zofN_clamp hn']; exact Nat.le_refl _) hn hc hl (ad := "[B") (by decide +kernel)
  refine zstp k (r T' h' _ X' e' rfl E Ex ⟨_, A, ?_⟩)
  simp only [newA, zofN_clamp hn', Array.toList_replicate, List.map_replicate]
  rfl
theorem zcopyB (X : Stand p l e R s m args below meth c T locs cells slots) (hx : p.tables.exec = Jvm.exec) (hby : c.code = bytes) {own : String} {i : Nat} (hd : decode bytes pc = .ok (.invokestatic i, 3)) (hZ : Z.Warmed39 s.vm) (hown : s.vm.findClass own = some m.cls)
    (w1 : (Jvm.Cond.methodLink own i Jvm.Stand.acN).before a0 Z = true) (w2 : (Jvm.Cond.native Jvm.Stand.acN).before a0 Z = true) (w3 : (Jvm.Cond.static Jvm.Stand.acN).before a0 Z = true) (w4 : (Jvm.Cond.initialized "java/lang/System").before a0 Z = true) (eT : T.heap = h)
    {a b : Addr} {xs ys : List Int8} (A : zBt Z h a xs) (B : zBt Z h b ys) {sp dp nn : Nat} (hx' : xs.length < 2147483648) (hy' : ys.length < 2147483648) (h1 : sp + nn ≤ xs.length) (h2 : dp + nn ≤ ys.length) {n0 : Nat} (N : Fr n0 locs) (ge : n0 ≤ b) {nl : Nat} (hmx : c.maxLocals = nl) (W : Nat)
    (r : ∀ T' h' L, Stand p l e R s m args below meth c T' L cells slots → T'.heap = h' → Fr n0 L → Keep h h' [b] → zBt Z h' b (ys.take dp ++ (xs.drop sp).take nn ++ ys.drop (dp + nn)) → zEnds p e below s T' (mkF m (pc + 3) Ls st) cs ss Q)
    (hml : Ls.size = nl := by rfl) (hW : (st.map fun v => v.category).sum ≤ W := by exact Nat.le_of_eq rfl) (hf : 1 ≤ R.frames := by first | decide | omega | (dsimp only; omega)) (hl : W + 29 ≤ R.locals := by first | decide | omega | (dsimp only; omega)) : zEnds p e below s T (mkF m pc Ls (.int (Int32.ofNat nn) :: .int (Int32.ofNat dp) :: .ref b :: .int (Int32.ofNat sp) :: .ref a :: st)) cs ss Q := by
  obtain ⟨k, A'⟩ := A.arv hx'
  obtain ⟨k', B'⟩ := B.arv hy'
  have c1 : (Int32.ofNat sp).toNatClampNeg = sp := zofN_clamp (by omega)
  have c2 : (Int32.ofNat dp).toNatClampNeg = dp := zofN_clamp (by omega)
  have c3 : (Int32.ofNat nn).toNatClampNeg = nn := zofN_clamp (by omega)
  obtain ⟨T', h', L, X', e', N', K, B2, kk⟩ := cpA X hx hZ hown w1 w2 w3 w4 eT A' B' (Or.inl ⟨rfl, rfl⟩) (sp := Int32.ofNat sp) (dp := Int32.ofNat dp) (nn := Int32.ofNat nn) (zofN_nn (by omega)) (zofN_nn (by omega)) (zofN_nn (by omega)) (by rw [c1, c3, zofN_clamp hx']; exact h1) (by rw [c2, c3, zofN_clamp hy']; exact h2) rfl (by rw [c2, c3, List.length_map]; exact h2) N ge
    (g := mkF m pc Ls (.int (Int32.ofNat nn) :: .int (Int32.ofNat dp) :: .ref b :: .int (Int32.ofNat sp) :: .ref a :: st)) rfl (hml.trans hmx.symm) (rest := st) rfl (hb hby hd) hf (W := W) (by show 2 * 0 + _ ≤ _; rw [Nat.mul_zero, Nat.zero_add]; exact hW) (Nat.le_trans (Nat.add_le_add_left (by decide) W) hl)
  refine zstp kk (r T' h' L X' e' N' K (zBt.of_arv (k := k') (z := Int32.ofNat ys.length) (d := .int 0) ?_ ?_))
  · rw [c1, c2, c3] at B2
    have : (List.range nn).map (fun i => (xs.map zbv).getD (sp + i) (.int 0)) = ((xs.drop sp).take nn).map zbv := by
      apply List.ext_getElem?
      intro j
      rw [List.getElem?_map, List.getElem?_map]
      by_cases hj : j < nn
      · rw [List.getElem?_eq_getElem (by rw [List.length_range]; exact hj), List.getElem_range, Option.map_some, List.getElem?_take_of_lt hj, List.getElem?_drop, List.getD_eq_getElem?_getD, List.getElem?_map]
        rw [List.getElem?_eq_getElem (show sp + j < xs.length by omega)]; rfl
      · rw [List.getElem?_eq_none (by rw [List.length_range]; omega), List.getElem?_eq_none (by rw [List.length_take]; omega)]; rfl
    rw [this, ← List.map_take, ← List.map_drop, ← List.map_append, ← List.map_append] at B2
    exact B2
  · rw [zofN_clamp hy']
    simp only [List.length_append, List.length_take, List.length_drop]; omega
theorem zcloneB (X : Stand p l e R s m args below meth c T locs cells slots) (hx : p.tables.exec = Jvm.exec) (hby : c.code = bytes) {own : String} {i : Nat} (hd : decode bytes pc = .ok (.invokevirtual i, 3)) (hZ : Z.Warmed39 s.vm) (hown : s.vm.findClass own = some m.cls)
    (w1 : (Jvm.Cond.methodLink own i ⟨"[B", "clone", "()Ljava/lang/Object;"⟩).before a0 Z = true) (w2 : (Jvm.Cond.sameMethod "[B" "java/lang/Object" "clone" "()Ljava/lang/Object;").before a0 Z = true) (w3 : (Jvm.Cond.native ⟨"java/lang/Object", "clone", "()Ljava/lang/Object;"⟩).before a0 Z = true)
    (w4 : (Jvm.Cond.instanceMethod ⟨"java/lang/Object", "clone", "()Ljava/lang/Object;"⟩).before a0 Z = true) (w5 : (Jvm.Cond.selects "[B" ⟨"[B", "clone", "()Ljava/lang/Object;"⟩ ⟨"java/lang/Object", "clone", "()Ljava/lang/Object;"⟩).before a0 Z = true) (w6 : (Jvm.Cond.castable "[B" "java/lang/Cloneable").before a0 Z = true) (eT : T.heap = h)
    {a : Addr} {bs : List Int8} (B : zBt Z h a bs) (E : Exa Z h a "[B") (hq : bs.length < 2147483648) {nl : Nat} (hmx : c.maxLocals = nl) (W : Nat) (hc : cells + 1 ≤ R.cells) (hsl : slots + bs.length ≤ R.slots)
    (r : ∀ T' h' b, Stand p l e R s m args below meth c T' locs (cells + 1) (slots + bs.length) → T'.heap = h' → b = h.size → Ext h h' → Exa Z h' b "[B" → zBt Z h' b bs → zEnds p e below s T' (mkF m (pc + 3) Ls (.ref b :: st)) cs ss Q)
    (hml : Ls.size = nl := by rfl) (hW : (st.map fun v => v.category).sum ≤ W := by exact Nat.le_of_eq rfl) (hf : 1 ≤ R.frames := by first | decide | omega | (dsimp only; omega)) (hl : W + 14 ≤ R.locals := by first | decide | omega | (dsimp only; omega)) : zEnds p e below s T (mkF m pc Ls (.ref a :: st)) cs ss Q := by
  obtain ⟨k, A⟩ := B.arv hq
  obtain ⟨T', h', X', e', Ex, A', E', kk⟩ := cloneH X hx hZ hown w1 w2 w3 w4 w5 w6 eT A.arh E (g := mkF m pc Ls (.ref a :: st)) rfl (hml.trans hmx.symm) rfl (hb hby hd) hf (W := W) (cap := bs.length) (by show 2 * 0 + _ ≤ _; rw [Nat.mul_zero, Nat.zero_add]; exact hW) hl (by rw [zofN_clamp hq]; exact Nat.le_refl _) hc hsl
  exact zstp kk (r T' h' _ X' e' rfl Ex E' (zBt.of_arv (z := Int32.ofNat bs.length) A' (zofN_clamp hq)))
theorem zcastok (X : Stand p l e R s m args below meth c T locs cells slots) (hx : p.tables.exec = Jvm.exec) (hby : c.code = bytes) {own K : String} {i : Nat} (hd : decode bytes pc = .ok (.checkcast i, 3)) (hZ : Z.Warmed39 s.vm) (hown : s.vm.findClass own = some m.cls) (w : (Jvm.Cond.classLink own i K).before a0 Z = true) (eT : T.heap = h) {a : Addr} (I : Ins Z h a K true)
    (r : ∀ T', Stand p l e R s m args below meth c T' locs cells slots → T'.heap = h → zEnds p e below s T' (mkF m (pc + 3) Ls (.ref a :: st)) cs ss Q) : zEnds p e below s T (mkF m pc Ls (.ref a :: st)) cs ss Q := by
  obtain ⟨T', X', e', k⟩ := castY X hx hZ hown w eT I (g := mkF m pc Ls (.ref a :: st)) rfl rfl (hb hby hd)
  exact zstp k (r T' X' e')
theorem zinstok (X : Stand p l e R s m args below meth c T locs cells slots) (hx : p.tables.exec = Jvm.exec) (hby : c.code = bytes) {own K : String} {i : Nat} (hd : decode bytes pc = .ok (.instanceof i, 3)) (hZ : Z.Warmed39 s.vm) (hown : s.vm.findClass own = some m.cls) (w : (Jvm.Cond.classLink own i K).before a0 Z = true) (eT : T.heap = h) {a : Addr} (I : Ins Z h a K true)
    (r : ∀ T', Stand p l e R s m args below meth c T' locs cells slots → T'.heap = h → zEnds p e below s T' (mkF m (pc + 3) Ls (.int 1 :: st)) cs ss Q) : zEnds p e below s T (mkF m pc Ls (.ref a :: st)) cs ss Q := by
  obtain ⟨T', X', e', k⟩ := instY X hx hZ hown w eT I (g := mkF m pc Ls (.ref a :: st)) rfl rfl (hb hby hd)
  exact zstp k (r T' X' e')
theorem zdecl_of {y : MethodName} {by' : ByteArray} {n : Nat} {rt : Option FieldType} (w : (Jvm.Cond.instanceMethod y).before a0 Z = true) (w' : (Jvm.Cond.code y by' n rt).before a0 Z = true) : (Jvm.Cond.declares y).before a0 Z = true := by
  obtain ⟨mk, me, h1, h2, h3, -⟩ := Cond.instanceMethod_spec w
  obtain ⟨m2, cM, q1, -, -, -, -, -, -, hsig⟩ := Cond.code_spec h1 w'
  cases h2.symm.trans q1
  simp [Cond.before, Cond.holds, Cond.value, h1, h2, h3, hsig]
theorem znf_of {y y' : MethodName} (w : (Jvm.Cond.instanceMethod y).before a0 Z = true) (F : NotFace Z y) (q : y.cls = y'.cls) : NotFace Z y' := fun r0 h0 => by
  obtain ⟨mk, me, h1, -⟩ := Cond.instanceMethod_spec w
  obtain ⟨kr, k1, k2⟩ := F mk h1
  have e1 := findClass_of_methodNamed h1
  have e2 := findClass_of_methodNamed h0
  rw [q] at e1
  have e3 : mk.cls = r0.cls := Option.some.inj (e1.symm.trans e2)
  exact ⟨kr, by rw [← e3]; exact k1, k2⟩
theorem zsame_of {y : MethodName} (w : (Jvm.Cond.instanceMethod y).before a0 Z = true) (F : NotFace Z y) (hy : y.cls ≠ "java/lang/invoke/MethodHandle" ∧ y.cls ≠ "java/lang/invoke/VarHandle") : (Jvm.Cond.sameMethod y.cls y.cls y.name y.desc).before a0 Z = true := by
  obtain ⟨mk, me, h1, -⟩ := Cond.instanceMethod_spec w
  obtain ⟨kr, k1, k2⟩ := F mk h1
  have e1 := findClass_of_methodNamed h1
  have e2 := State.methodFound?_of_named h1 hy
  have h1' : Z.methodNamed? ⟨y.cls, y.name, y.desc⟩ = some mk := h1
  simp [Cond.before, Cond.holds, Cond.value, e1, e2, h1', k1, k2]
theorem znf_warm {y : MethodName} (w : (Jvm.Cond.instanceMethod y).before a0 Z = true) (F : NotFace Z y) (hZ : Z.Warmed39 s.vm) : NotFace s y := fun r0 h0 => by
  obtain ⟨mk, me, h1, -⟩ := Cond.instanceMethod_spec w
  obtain ⟨kr, k1, k2⟩ := F mk h1
  have e1 := findClass_of_methodNamed h1
  have e2 := findClass_of_methodNamed h0
  rw [hZ.alike.findClass] at e2
  have e3 : mk.cls = r0.cls := Option.some.inj (e1.symm.trans e2)
  obtain ⟨k', q1, q2⟩ := hZ.alike.2.2 _ _ k1
  exact ⟨k', by rw [← e3]; exact q1, by rw [q2]; exact k2⟩
theorem zcallsup (X : Stand p l e R s m args below meth c T locs cells slots) (hx : p.tables.exec = Jvm.exec) (hby : c.code = bytes) {own C : String} {i : Nat} {y : MethodName} {by' : ByteArray} {maxL : Nat} {rt : Option FieldType} {rm : Room} {a : Addr} {argsL : List Value} {Q' : Option Value → Heap → List Loc → Prop} (hd : decode bytes pc = .ok (.invokespecial i, 3)) (hZ : Z.Warmed39 s.vm) (hown : s.vm.findClass own = some m.cls) (hyn : y.name ≠ "<init>") (w1 : (Jvm.Cond.methodLink own i y).before a0 Z = true) (hnf : NotFace Z y) (w2 : (Jvm.Cond.instanceMethod y).before a0 Z = true) (w3 : (Jvm.Cond.superclass own y.cls).before a0 Z = true) (w5 : (Jvm.Cond.code y by' maxL rt).before a0 Z = true) (w6 : (Jvm.Cond.initialized y.cls).before a0 Z = true) (eT : T.heap = h) (E : Exa Z h a C)
    (con : zCon l Z y by' maxL rt [] rm (.ref a :: argsL).toArray h Q') {nl : Nat} (hmx : c.maxLocals = nl) (W : Nat) {ps : List FieldType} {rv : Option FieldType} (hp : parseMethodDescriptor y.desc = some ⟨ps, rv⟩) {S0 : List Value}
    (r : ∀ T' h' v L, T'.heap = h' → Stand p l e R s m args below meth c T' (locs ++ L) (cells + rm.cells) (slots + rm.slots) → Q' v h' L → zEnds p e below s T' (mkF m (pc + 3) Ls (v.toList ++ st)) cs ss Q)
    (hy : y.cls ≠ "java/lang/invoke/MethodHandle" ∧ y.cls ≠ "java/lang/invoke/VarHandle" := by decide) (hml : Ls.size = nl := by rfl) (hW : (st.map fun v => v.category).sum ≤ W := by exact Nat.le_of_eq rfl) (hf : rm.frames + 1 ≤ R.frames := by first | decide | omega | (dsimp only; omega)) (hl : W + (maxL + 11) + rm.locals ≤ R.locals := by first | decide | omega | (dsimp only; omega)) (hcl : cells + rm.cells ≤ R.cells := by first | decide | omega | (dsimp only; omega)) (hsl : slots + rm.slots ≤ R.slots := by first | decide | omega | (dsimp only; omega)) (hn : argsL.length = ps.length := by rfl) (hS : S0 = argsL.reverse ++ .ref a :: st := by rfl) : zEnds p e below s T (mkF m pc Ls S0) cs ss Q := by
  obtain ⟨v, _, ⟨T', L', k', n'⟩, -, X', ⟨L, hq, l1, l2, l3⟩, k⟩ := superBack X hx hZ (y := y) (K := C) hown w1 (zsame_of w2 hnf hy) w2 w3 hyn (backOf (W := W) con hZ w5 w6 hf hl) eT (Ins.self E) (g := mkF m pc Ls S0) rfl (hml.trans hmx.symm) w5 (argsL := argsL) (rest := st) (lenOf hp hn) hS (by show 2 * 0 + _ ≤ _; rw [Nat.mul_zero, Nat.zero_add]; exact hW) (hb hby hd) (fun _ _ => ⟨rfl, eT, hcl, hsl⟩)
  dsimp only [Pt.U, Pt.locs, Pt.cells, Pt.slots] at X' l1 l2 l3 k hq
  subst l1 l2 l3
  exact zstp (fun _ q => k.trans q) (r T' _ v L rfl X' hq)
end Sb
end Jvm.OwnKit
namespace Jvm.OwnKitW
open Sem ClassFile Op Lib Jvm.Stand Jvm.Free Jvm.LawKit Jvm.RoadKit Jvm.OwnKit
section OwnW
variable {p : Program} {l : Launch} {e : Env} {R : Room} {s s0 : State} {v0 : Vm} {m : MethodId} {args : Array Value} {below : List Frame} {meth : Method} {c : Code} {T : State} {locs : List Loc} {cells slots : Nat} {Z : State} {a0 : Array Value} {h : Heap} {bytes : ByteArray} {pc : Nat} {Ls : Array Slot} {st : List Value} {cs ss : Nat} {Q : Option Value → Vm → Heap → List Loc → Prop}
def yEndsW (p : Program) (e : Env) (below : List Frame) (s0 T : State) (F : JFrame) (cs ss : Nat) (Q : Option Value → Vm → Heap → List Loc → Prop) : Prop :=
  ∃ s₂ o, Steps p.tables e below (T.setTop F) s₂ ∧ s₂.status = .running ∧ Ended s₂ below o ∧ ∃ v L, o = .returned v ∧ Q v s₂.vm s₂.heap L ∧ ReturnedEndW s0 o s₂ L cs ss
theorem ystp {T T' : State} {F F' : JFrame} (st : ∀ target, Steps p.tables e below (T'.setTop F') target → Steps p.tables e below (T.setTop F) target) (k : yEndsW p e below s0 T' F' cs ss Q) : yEndsW p e below s0 T F cs ss Q := by
  obtain ⟨s2, o, h1, r⟩ := k; exact ⟨s2, o, st _ h1, r⟩
def ySin (s : State) (v : Vm) (h : Heap) : Prop := ∃ k, s.Since v k ∧ k ≤ h.size
theorem ySin.ext {h' : Heap} (S : ySin s v0 h) (E : Ext h h') : ySin s v0 h' := by obtain ⟨k, a, b⟩ := S; exact ⟨k, a, Nat.le_trans b E.1⟩
theorem ySin.wr {h' : Heap} {a : Addr} {sl : Nat} {v : Value} (S : ySin s v0 h) (W : Wr h h' a sl v) : ySin s v0 h' := by obtain ⟨k, a, b⟩ := S; exact ⟨k, a, Nat.le_trans b (Nat.le_of_eq W.size.symm)⟩
theorem ySin.keep {h' : Heap} {ws : List Addr} (S : ySin s v0 h) (K : Keep h h' ws) : ySin s v0 h' := by obtain ⟨k, a, b⟩ := S; exact ⟨k, a, Nat.le_trans b K.1⟩
def yConW (l : Launch) (Z : State) (y : MethodName) (bytes : ByteArray) (maxL : Nat) (ret : Option FieldType) (ws : List Jvm.Cond) (rm : Room) (as' : Array Value) (P : Vm → Prop) (h0 : Heap) (Q : Option Value → Vm → Heap → List Loc → Prop) : Prop :=
  MetFree l y (head1 (Jvm.Cond.code y bytes maxL ret :: ws) rm) (fun a U => a = as' ∧ Z.Warmed39 U.vm ∧ U.heap = h0 ∧ P U.vm) (fun _ _ _ _ _ => True) (fun _ U o U' => ∃ v L, o = .returned v ∧ Q v U'.vm U'.heap L ∧ ReturnedEndW U o U' L rm.cells rm.slots)
theorem yenterW {y : MethodName} {maxL : Nat} {ret : Option FieldType} {ws : List Jvm.Cond} {rm : Room} {as' : Array Value} {P : Vm → Prop} {h0 : Heap} (hpl : plainFor y = true) {L0 : Array Slot} (hef : ∀ m, entryFrame m as' maxL = mkF m 0 L0 [])
    (H : ∀ (p : Program) (e : Env) (s : State) (v0 : Vm) (m : MethodId) (below : List Frame) (meth : Method) (c : Code) (T : State), p.tables.exec = Jvm.exec → Z.Warmed39 v0 → c.code = bytes → c.maxLocals = maxL → v0.findClass y.cls = some m.cls → meth.name = y.name → meth.sig.returnType = ret → meth.locks = false →
      Stand p l e rm (s.setVm v0) m as' below meth c T [] 0 0 → T.heap = h0 → ySin s v0 h0 → s.heap = h0 → P v0 → yEndsW p e below s T (mkF m 0 L0 []) rm.cells rm.slots Q) : yConW l Z y bytes maxL ret ws rm as' P h0 Q := by
  refine MetFree.of_bodySF hpl hisR ?_
  intro p e s m args below meth c s₁ Bd hml0 hP hK
  obtain ⟨rfl, hZ, hh, hPv⟩ := hP
  have e1 : s₁.heap = h0 := by rw [← hh, Bd.state]; rfl
  have := H p e s s.vm m below meth c s₁ Bd.exec hZ Bd.bytes hml0 (findClass_of_methodNamed Bd.named) (name_of_methodNamed Bd.named Bd.method).1 Bd.returns Bd.notSynchronized (Stand.of_body Bd) e1 ⟨_, (State.WarmedH.refl s).since s.heap.size, by rw [hh]; exact Nat.le_refl _⟩ hh hPv
  rw [← hef m] at this
  exact this
theorem yretG {w : Value} {t : FieldType} {i : Instr} (X : Stand p l e R (s0.setVm v0) m args below meth c T locs cells slots) (hx : p.tables.exec = Jvm.exec) (hby : c.code = bytes) (hd : decode bytes pc = .ok (i, 1)) (hret : meth.sig.returnType = some t) (hlk : meth.locks = false) (eT : T.heap = h) (hS : ySin s0 v0 h) (hn : narrow t w = w)
    (hi : (i = .ireturn ∧ (t = .int ∨ t = .boolean ∨ t = .byte ∨ t = .char ∨ t = .short) ∧ ∃ z, w = .int z) ∨ (i = .lreturn ∧ t = .long ∧ ∃ z, w = .long z) ∨ (i = .dreturn ∧ t = .double ∧ ∃ z, w = .double z) ∨ (i = .freturn ∧ t = .float ∧ ∃ z, w = .float z) ∨ (i = .areturn ∧ t.isReference = true ∧ w.isRef = true))
    (hc : cells ≤ cs) (hs : slots ≤ ss) (hq : ∀ v1, (s0.setVm v0).WarmedH v1 → Q (some w) v1 T.heap locs) : yEndsW p e below s0 T (mkF m pc Ls (w :: st)) cs ss Q := by
  obtain ⟨k, hk, hk2⟩ := hS
  obtain ⟨fs, hr, hrun, hended, q1, q2, q3, q4⟩ := X.leaveW hk (by rw [eT]; exact hk2) (v := some w) (fun q => by rw [hret] at q; cases q) hlk
  exact ⟨_, _, retOut X hx hret hn hi (hb hby hd) hr, hrun, hended, _, _, rfl, hq _ X.warmed, q1, q2, q3, q4.mono hc hs⟩
theorem yretZ {z : Int32} {t : FieldType} (X : Stand p l e R (s0.setVm v0) m args below meth c T locs cells slots) (hx : p.tables.exec = Jvm.exec) (hby : c.code = bytes) (hd : decode bytes pc = .ok (.ireturn, 1)) (hret : meth.sig.returnType = some t) (hlk : meth.locks = false) (eT : T.heap = h) (hS : ySin s0 v0 h) (ht : t = .boolean ∨ t = .byte ∨ t = .char ∨ t = .short) (hn : narrow t (.int z) = .int z) (hc : cells ≤ cs) (hs : slots ≤ ss) (hq : ∀ v1, (s0.setVm v0).WarmedH v1 → Q (some (.int z)) v1 T.heap locs) : yEndsW p e below s0 T (mkF m pc Ls (.int z :: st)) cs ss Q :=
  yretG X hx hby hd hret hlk eT hS hn (Or.inl ⟨rfl, Or.inr ht, z, rfl⟩) hc hs hq
theorem yretA {w : Value} {t : FieldType} (X : Stand p l e R (s0.setVm v0) m args below meth c T locs cells slots) (hx : p.tables.exec = Jvm.exec) (hby : c.code = bytes) (hd : decode bytes pc = .ok (.areturn, 1)) (hret : meth.sig.returnType = some t) (hlk : meth.locks = false) (eT : T.heap = h) (hS : ySin s0 v0 h) (ht : t.isReference = true) (hw : w.isRef = true) (hn : narrow t w = w) (hc : cells ≤ cs) (hs : slots ≤ ss) (hq : ∀ v1, (s0.setVm v0).WarmedH v1 → Q (some w) v1 T.heap locs) : yEndsW p e below s0 T (mkF m pc Ls (w :: st)) cs ss Q :=
  yretG X hx hby hd hret hlk eT hS hn (Or.inr (Or.inr (Or.inr (Or.inr ⟨rfl, ht, hw⟩)))) hc hs hq
theorem yretV (X : Stand p l e R (s0.setVm v0) m args below meth c T locs cells slots) (hx : p.tables.exec = Jvm.exec) (hby : c.code = bytes) (hd : decode bytes pc = .ok (.return_, 1)) (hret : meth.sig.returnType = none) (hlk : meth.locks = false) (eT : T.heap = h) (hS : ySin s0 v0 h) (hc : cells ≤ cs) (hs : slots ≤ ss) (hq : ∀ v1, (s0.setVm v0).WarmedH v1 → Q none v1 T.heap locs) : yEndsW p e below s0 T (mkF m pc Ls []) cs ss Q := by
  obtain ⟨k, hk, hk2⟩ := hS
  obtain ⟨fs, hr, hrun, hended, q1, q2, q3, q4⟩ := X.leaveW hk (by rw [eT]; exact hk2) (v := none) (fun _ => rfl) hlk
  exact ⟨_, _, X.returnOut hx hret (hb hby hd) hr, hrun, hended, _, _, rfl, hq _ X.warmed, q1, q2, q3, q4.mono hc hs⟩
theorem yiloadN (X : Stand p l e R s m args below meth c T locs cells slots) (hx : p.tables.exec = Jvm.exec) (hby : c.code = bytes) {k : Fin 4} {v : Int32} (hd : decode bytes pc = .ok (.iload_n k, 1)) (hl : Ls[k.val]? = some (.val (.int v))) (r : yEndsW p e below s0 T (mkF m (pc + 1) Ls (.int v :: st)) cs ss Q) : yEndsW p e below s0 T (mkF m pc Ls st) cs ss Q := ystp (fun _ k => XS.iloadN X.here hx rfl (hb hby hd) hl k) r
theorem yiload (X : Stand p l e R s m args below meth c T locs cells slots) (hx : p.tables.exec = Jvm.exec) (hby : c.code = bytes) {k : Nat} {v : Int32} (hd : decode bytes pc = .ok (.iload k, 2)) (hl : Ls[k]? = some (.val (.int v))) (r : yEndsW p e below s0 T (mkF m (pc + 2) Ls (.int v :: st)) cs ss Q) : yEndsW p e below s0 T (mkF m pc Ls st) cs ss Q := ystp (fun _ k => XS.iload X.here hx rfl (hb hby hd) hl k) r
theorem ylloadN (X : Stand p l e R s m args below meth c T locs cells slots) (hx : p.tables.exec = Jvm.exec) (hby : c.code = bytes) {k : Fin 4} {v : Int64} (hd : decode bytes pc = .ok (.lload_n k, 1)) (hl : Ls[k.val]? = some (.val (.long v))) (r : yEndsW p e below s0 T (mkF m (pc + 1) Ls (.long v :: st)) cs ss Q) : yEndsW p e below s0 T (mkF m pc Ls st) cs ss Q := ystp (fun _ k => XS.lloadN X.here hx rfl (hb hby hd) hl k) r
theorem ylload (X : Stand p l e R s m args below meth c T locs cells slots) (hx : p.tables.exec = Jvm.exec) (hby : c.code = bytes) {k : Nat} {v : Int64} (hd : decode bytes pc = .ok (.lload k, 2)) (hl : Ls[k]? = some (.val (.long v))) (r : yEndsW p e below s0 T (mkF m (pc + 2) Ls (.long v :: st)) cs ss Q) : yEndsW p e below s0 T (mkF m pc Ls st) cs ss Q := ystp (fun _ k => XS.lload X.here hx rfl (hb hby hd) hl k) r
theorem yaloadN (X : Stand p l e R s m args below meth c T locs cells slots) (hx : p.tables.exec = Jvm.exec) (hby : c.code = bytes) {k : Fin 4} {v : Value} (hd : decode bytes pc = .ok (.aload_n k, 1)) (hl : Ls[k.val]? = some (.val v)) (hv : v.isRef = true) (r : yEndsW p e below s0 T (mkF m (pc + 1) Ls (v :: st)) cs ss Q) : yEndsW p e below s0 T (mkF m pc Ls st) cs ss Q := ystp (fun _ k => XS.aloadN X.here hx rfl (hb hby hd) hl hv k) r
theorem yaload (X : Stand p l e R s m args below meth c T locs cells slots) (hx : p.tables.exec = Jvm.exec) (hby : c.code = bytes) {k : Nat} {v : Value} (hd : decode bytes pc = .ok (.aload k, 2)) (hl : Ls[k]? = some (.val v)) (hv : v.isRef = true) (r : yEndsW p e below s0 T (mkF m (pc + 2) Ls (v :: st)) cs ss Q) : yEndsW p e below s0 T (mkF m pc Ls st) cs ss Q := ystp (fun _ k => XS.aload X.here hx rfl (hb hby hd) hl hv k) r
theorem yistore (X : Stand p l e R s m args below meth c T locs cells slots) (hx : p.tables.exec = Jvm.exec) (hby : c.code = bytes) {k : Nat} {v : Int32} (hd : decode bytes pc = .ok (.istore k, 2)) (L' : Array Slot) (hl : storeLocals Ls k (.int v) = some L') (r : yEndsW p e below s0 T (mkF m (pc + 2) L' st) cs ss Q) : yEndsW p e below s0 T (mkF m pc Ls (.int v :: st)) cs ss Q := ystp (fun _ k => XS.istore X.here hx rfl (hb hby hd) rfl hl k) r
theorem ylstore (X : Stand p l e R s m args below meth c T locs cells slots) (hx : p.tables.exec = Jvm.exec) (hby : c.code = bytes) {k : Nat} {v : Int64} (hd : decode bytes pc = .ok (.lstore k, 2)) (L' : Array Slot) (hl : storeLocals Ls k (.long v) = some L') (r : yEndsW p e below s0 T (mkF m (pc + 2) L' st) cs ss Q) : yEndsW p e below s0 T (mkF m pc Ls (.long v :: st)) cs ss Q := ystp (fun _ k => XS.lstore X.here hx rfl (hb hby hd) rfl hl k) r
theorem yastore (X : Stand p l e R s m args below meth c T locs cells slots) (hx : p.tables.exec = Jvm.exec) (hby : c.code = bytes) {k : Nat} {v : Value} (hd : decode bytes pc = .ok (.astore k, 2)) (L' : Array Slot) (hv : v.isRef = true) (hl : storeLocals Ls k v = some L') (r : yEndsW p e below s0 T (mkF m (pc + 2) L' st) cs ss Q) : yEndsW p e below s0 T (mkF m pc Ls (v :: st)) cs ss Q := ystp (fun _ k => XS.astore X.here hx rfl (hb hby hd) rfl hv hl k) r
theorem yiconst (X : Stand p l e R s m args below meth c T locs cells slots) (hx : p.tables.exec = Jvm.exec) (hby : c.code = bytes) {i : Int} (hd : decode bytes pc = .ok (.iconst i, 1)) (z : Int32) (hz : Int32.ofInt i = z) (r : yEndsW p e below s0 T (mkF m (pc + 1) Ls (.int z :: st)) cs ss Q) : yEndsW p e below s0 T (mkF m pc Ls st) cs ss Q := ystp (fun _ k => XS.iconst X.here hx rfl (hb hby hd) (hz ▸ k)) r
theorem ybipush (X : Stand p l e R s m args below meth c T locs cells slots) (hx : p.tables.exec = Jvm.exec) (hby : c.code = bytes) {i : Int} (hd : decode bytes pc = .ok (.bipush i, 2)) (z : Int32) (hz : (Int8.ofInt i).toInt32 = z) (r : yEndsW p e below s0 T (mkF m (pc + 2) Ls (.int z :: st)) cs ss Q) : yEndsW p e below s0 T (mkF m pc Ls st) cs ss Q := ystp (fun _ k => XS.bipush X.here hx rfl (hb hby hd) (hz ▸ k)) r
theorem ysipush (X : Stand p l e R s m args below meth c T locs cells slots) (hx : p.tables.exec = Jvm.exec) (hby : c.code = bytes) {i : Int} (hd : decode bytes pc = .ok (.sipush i, 3)) (z : Int32) (hz : (Int16.ofInt i).toInt32 = z) (r : yEndsW p e below s0 T (mkF m (pc + 3) Ls (.int z :: st)) cs ss Q) : yEndsW p e below s0 T (mkF m pc Ls st) cs ss Q := ystp (fun _ k => XS.sipush X.here hx rfl (hb hby hd) (hz ▸ k)) r
theorem yiadd (X : Stand p l e R s m args below meth c T locs cells slots) (hx : p.tables.exec = Jvm.exec) (hby : c.code = bytes) {x y : Int32} (hd : decode bytes pc = .ok (.iadd, 1)) (z : Int32) (hz : x + y = z) (r : yEndsW p e below s0 T (mkF m (pc + 1) Ls (.int z :: st)) cs ss Q) : yEndsW p e below s0 T (mkF m pc Ls (.int y :: .int x :: st)) cs ss Q := ystp (fun _ k => XS.iadd X.here hx rfl (hb hby hd) rfl (hz ▸ k)) r
theorem yiand (X : Stand p l e R s m args below meth c T locs cells slots) (hx : p.tables.exec = Jvm.exec) (hby : c.code = bytes) {x y : Int32} (hd : decode bytes pc = .ok (.iand, 1)) (z : Int32) (hz : x &&& y = z) (r : yEndsW p e below s0 T (mkF m (pc + 1) Ls (.int z :: st)) cs ss Q) : yEndsW p e below s0 T (mkF m pc Ls (.int y :: .int x :: st)) cs ss Q := ystp (fun _ k => XS.iand X.here hx rfl (hb hby hd) rfl (hz ▸ k)) r
theorem yixor (X : Stand p l e R s m args below meth c T locs cells slots) (hx : p.tables.exec = Jvm.exec) (hby : c.code = bytes) {x y : Int32} (hd : decode bytes pc = .ok (.ixor, 1)) (z : Int32) (hz : x ^^^ y = z) (r : yEndsW p e below s0 T (mkF m (pc + 1) Ls (.int z :: st)) cs ss Q) : yEndsW p e below s0 T (mkF m pc Ls (.int y :: .int x :: st)) cs ss Q := ystp (fun _ k => XS.ixor X.here hx rfl (hb hby hd) rfl (hz ▸ k)) r
theorem yiushr (X : Stand p l e R s m args below meth c T locs cells slots) (hx : p.tables.exec = Jvm.exec) (hby : c.code = bytes) {x y : Int32} (hd : decode bytes pc = .ok (.iushr, 1)) (z : Int32) (hz : (x.toUInt32 >>> (y &&& 31).toUInt32).toInt32 = z) (r : yEndsW p e below s0 T (mkF m (pc + 1) Ls (.int z :: st)) cs ss Q) : yEndsW p e below s0 T (mkF m pc Ls (.int y :: .int x :: st)) cs ss Q := ystp (fun _ k => XS.iushr X.here hx rfl (hb hby hd) rfl (hz ▸ k)) r
theorem yladd (X : Stand p l e R s m args below meth c T locs cells slots) (hx : p.tables.exec = Jvm.exec) (hby : c.code = bytes) {x y : Int64} (hd : decode bytes pc = .ok (.ladd, 1)) (z : Int64) (hz : x + y = z) (r : yEndsW p e below s0 T (mkF m (pc + 1) Ls (.long z :: st)) cs ss Q) : yEndsW p e below s0 T (mkF m pc Ls (.long y :: .long x :: st)) cs ss Q := ystp (fun _ k => XS.ladd X.here hx rfl (hb hby hd) rfl (hz ▸ k)) r
theorem ylmul (X : Stand p l e R s m args below meth c T locs cells slots) (hx : p.tables.exec = Jvm.exec) (hby : c.code = bytes) {x y : Int64} (hd : decode bytes pc = .ok (.lmul, 1)) (z : Int64) (hz : x * y = z) (r : yEndsW p e below s0 T (mkF m (pc + 1) Ls (.long z :: st)) cs ss Q) : yEndsW p e below s0 T (mkF m pc Ls (.long y :: .long x :: st)) cs ss Q := ystp (fun _ k => XS.lmul X.here hx rfl (hb hby hd) rfl (hz ▸ k)) r
theorem yland (X : Stand p l e R s m args below meth c T locs cells slots) (hx : p.tables.exec = Jvm.exec) (hby : c.code = bytes) {x y : Int64} (hd : decode bytes pc = .ok (.land, 1)) (z : Int64) (hz : x &&& y = z) (r : yEndsW p e below s0 T (mkF m (pc + 1) Ls (.long z :: st)) cs ss Q) : yEndsW p e below s0 T (mkF m pc Ls (.long y :: .long x :: st)) cs ss Q := ystp (fun _ k => XS.land X.here hx rfl (hb hby hd) rfl (hz ▸ k)) r
theorem ylxor (X : Stand p l e R s m args below meth c T locs cells slots) (hx : p.tables.exec = Jvm.exec) (hby : c.code = bytes) {x y : Int64} (hd : decode bytes pc = .ok (.lxor, 1)) (z : Int64) (hz : x ^^^ y = z) (r : yEndsW p e below s0 T (mkF m (pc + 1) Ls (.long z :: st)) cs ss Q) : yEndsW p e below s0 T (mkF m pc Ls (.long y :: .long x :: st)) cs ss Q := ystp (fun _ k => XS.lxor X.here hx rfl (hb hby hd) rfl (hz ▸ k)) r
theorem yirem (X : Stand p l e R s m args below meth c T locs cells slots) (hx : p.tables.exec = Jvm.exec) (hby : c.code = bytes) {x y : Int32} (hd : decode bytes pc = .ok (.irem, 1)) (z : Int32) (hy : y ≠ 0) (hz : x % y = z) (r : yEndsW p e below s0 T (mkF m (pc + 1) Ls (.int z :: st)) cs ss Q) : yEndsW p e below s0 T (mkF m pc Ls (.int y :: .int x :: st)) cs ss Q := ystp (fun _ k => iremM X hx rfl (hb hby hd) rfl hy (hz ▸ k)) r
theorem yi2l (X : Stand p l e R s m args below meth c T locs cells slots) (hx : p.tables.exec = Jvm.exec) (hby : c.code = bytes) {v : Int32} (hd : decode bytes pc = .ok (.i2l, 1)) (z : Int64) (hz : v.toInt64 = z) (r : yEndsW p e below s0 T (mkF m (pc + 1) Ls (.long z :: st)) cs ss Q) : yEndsW p e below s0 T (mkF m pc Ls (.int v :: st)) cs ss Q := ystp (fun _ k => XS.i2l X.here hx rfl (hb hby hd) rfl (hz ▸ k)) r
theorem yl2i (X : Stand p l e R s m args below meth c T locs cells slots) (hx : p.tables.exec = Jvm.exec) (hby : c.code = bytes) {v : Int64} (hd : decode bytes pc = .ok (.l2i, 1)) (z : Int32) (hz : v.toInt32 = z) (r : yEndsW p e below s0 T (mkF m (pc + 1) Ls (.int z :: st)) cs ss Q) : yEndsW p e below s0 T (mkF m pc Ls (.long v :: st)) cs ss Q := ystp (fun _ k => XS.l2i X.here hx rfl (hb hby hd) rfl (hz ▸ k)) r
theorem ylcmp (X : Stand p l e R s m args below meth c T locs cells slots) (hx : p.tables.exec = Jvm.exec) (hby : c.code = bytes) {x y : Int64} (hd : decode bytes pc = .ok (.lcmp, 1)) (z : Int32) (hz : lcmpW x y = z) (r : yEndsW p e below s0 T (mkF m (pc + 1) Ls (.int z :: st)) cs ss Q) : yEndsW p e below s0 T (mkF m pc Ls (.long y :: .long x :: st)) cs ss Q := ystp (fun _ k => XS.lcmp X.here hx rfl (hb hby hd) rfl (by subst hz; exact k)) r
theorem ydup (X : Stand p l e R s m args below meth c T locs cells slots) (hx : p.tables.exec = Jvm.exec) (hby : c.code = bytes) {x : Value} (hd : decode bytes pc = .ok (.dup, 1)) (hc : x.category = 1) (r : yEndsW p e below s0 T (mkF m (pc + 1) Ls (x :: x :: st)) cs ss Q) : yEndsW p e below s0 T (mkF m pc Ls (x :: st)) cs ss Q := ystp (fun _ k => XS.dup X.here hx rfl (hb hby hd) rfl hc k) r
theorem ygoto (X : Stand p l e R s m args below meth c T locs cells slots) (hx : p.tables.exec = Jvm.exec) (hby : c.code = bytes) {o : Int} (hd : decode bytes pc = .ok (.goto o, 3)) (pc' : Nat) (ho : 0 ≤ (pc : Int) + o) (hp : ((pc : Int) + o).toNat = pc') (r : yEndsW p e below s0 T (mkF m pc' Ls st) cs ss Q) : yEndsW p e below s0 T (mkF m pc Ls st) cs ss Q := ystp (fun _ k => XS.goto X.here hx rfl rfl (hb hby hd) ho hp k) r
theorem yifYes (X : Stand p l e R s m args below meth c T locs cells slots) (hx : p.tables.exec = Jvm.exec) (hby : c.code = bytes) {cd : ClassFile.Cond} {x : Int32} {o : Int} (hd : decode bytes pc = .ok (.ifCond cd o, 3)) (pc' : Nat) (hc : ifCond.holds cd x = true) (ho : 0 ≤ (pc : Int) + o) (hp : ((pc : Int) + o).toNat = pc') (r : yEndsW p e below s0 T (mkF m pc' Ls st) cs ss Q) : yEndsW p e below s0 T (mkF m pc Ls (.int x :: st)) cs ss Q := ystp (fun _ k => XS.ifYes X.here hx rfl rfl (hb hby hd) rfl hc ho hp k) r
theorem yifNo (X : Stand p l e R s m args below meth c T locs cells slots) (hx : p.tables.exec = Jvm.exec) (hby : c.code = bytes) {cd : ClassFile.Cond} {x : Int32} {o : Int} (hd : decode bytes pc = .ok (.ifCond cd o, 3)) (hc : ifCond.holds cd x = false) (r : yEndsW p e below s0 T (mkF m (pc + 3) Ls st) cs ss Q) : yEndsW p e below s0 T (mkF m pc Ls (.int x :: st)) cs ss Q := ystp (fun _ k => XS.ifNo X.here hx rfl (hb hby hd) rfl hc k) r
theorem yicmpYes (X : Stand p l e R s m args below meth c T locs cells slots) (hx : p.tables.exec = Jvm.exec) (hby : c.code = bytes) {cd : ClassFile.Cond} {x y : Int32} {o : Int} (hd : decode bytes pc = .ok (.if_icmp cd o, 3)) (pc' : Nat) (hc : if_icmp.holds cd x y = true) (ho : 0 ≤ (pc : Int) + o) (hp : ((pc : Int) + o).toNat = pc') (r : yEndsW p e below s0 T (mkF m pc' Ls st) cs ss Q) : yEndsW p e below s0 T (mkF m pc Ls (.int y :: .int x :: st)) cs ss Q := ystp (fun _ k => XS.icmpYes X.here hx rfl rfl (hb hby hd) rfl hc ho hp k) r
theorem yicmpNo (X : Stand p l e R s m args below meth c T locs cells slots) (hx : p.tables.exec = Jvm.exec) (hby : c.code = bytes) {cd : ClassFile.Cond} {x y : Int32} {o : Int} (hd : decode bytes pc = .ok (.if_icmp cd o, 3)) (hc : if_icmp.holds cd x y = false) (r : yEndsW p e below s0 T (mkF m (pc + 3) Ls st) cs ss Q) : yEndsW p e below s0 T (mkF m pc Ls (.int y :: .int x :: st)) cs ss Q := ystp (fun _ k => XS.icmpNo X.here hx rfl (hb hby hd) rfl hc k) r
theorem yldcI (X : Stand p l e R s m args below meth c T locs cells slots) (hx : p.tables.exec = Jvm.exec) (hby : c.code = bytes) {own : String} {i : Nat} (hd : decode bytes pc = .ok (.ldc i, 2)) (z : Int32) (hZ : Z.Warmed39 s.vm) (hown : s.vm.findClass own = some m.cls) (w : (Jvm.Cond.constant own i z).before a0 Z = true) (r : yEndsW p e below s0 T (mkF m (pc + 2) Ls (.int z :: st)) cs ss Q) : yEndsW p e below s0 T (mkF m pc Ls st) cs ss Q := ystp (fun _ k => X.ldcInt hx hown (mvT hZ w) (g := mkF m pc Ls st) rfl (hb hby hd) _ k) r
theorem yldc2J (X : Stand p l e R s m args below meth c T locs cells slots) (hx : p.tables.exec = Jvm.exec) (hby : c.code = bytes) {own : String} {i : Nat} (hd : decode bytes pc = .ok (.ldc2_w i, 3)) (z : Int64) (hZ : Z.Warmed39 s.vm) (hown : s.vm.findClass own = some m.cls) (w : (Jvm.Cond.constantLong own i z).before a0 Z = true) (r : yEndsW p e below s0 T (mkF m (pc + 3) Ls (.long z :: st)) cs ss Q) : yEndsW p e below s0 T (mkF m pc Ls st) cs ss Q := ystp (fun _ k => X.ldc2Long hx hown (mvT hZ w) (g := mkF m pc Ls st) rfl (hb hby hd) _ k) r
theorem ygetfld (X : Stand p l e R s m args below meth c T locs cells slots) (hx : p.tables.exec = Jvm.exec) (hby : c.code = bytes) {own R0 O n d host : String} {i : Nat} (hd : decode bytes pc = .ok (.getfield i, 3)) (hZ : Z.Warmed39 s.vm) (hown : s.vm.findClass own = some m.cls) (w : (Jvm.Cond.fieldLink own i R0 n d).before a0 Z = true ∨ (Jvm.Cond.fieldLinkNest own i R0 n d host).before a0 Z = true) (via : Via Z R0 O n d) (eT : T.heap = h) {a : Addr} {v : Value} (F : Fld Z h a O n d v)
    (r : ∀ T', Stand p l e R s m args below meth c T' locs cells slots → T'.heap = h → yEndsW p e below s0 T' (mkF m (pc + 3) Ls (v :: st)) cs ss Q) : yEndsW p e below s0 T (mkF m pc Ls (.ref a :: st)) cs ss Q := by
  obtain ⟨T', X', e', k⟩ := getF X hx hZ hown w via eT F (g := mkF m pc Ls (.ref a :: st)) rfl rfl (hb hby hd)
  exact ystp k (r T' X' e')
theorem yputfld (X : Stand p l e R s m args below meth c T locs cells slots) (hx : p.tables.exec = Jvm.exec) (hby : c.code = bytes) {own R0 O n d host C : String} {i kk : Nat} {ty : FieldType} (hd : decode bytes pc = .ok (.putfield i, 3)) (hZ : Z.Warmed39 s.vm) (hown : s.vm.findClass own = some m.cls) (w : (Jvm.Cond.fieldLink own i R0 n d).before a0 Z = true ∨ (Jvm.Cond.fieldLinkNest own i R0 n d host).before a0 Z = true) (via : Via Z R0 O n d) (eT : T.heap = h) {a : Addr} {v old : Value} (F : Fld Z h a O n d old) (E : Exa Z h a C) (L : (Jvm.Cond.lays C O n d).before a0 Z = true ∨ ((Jvm.Cond.laysFinal C O n d).before a0 Z = true ∧ own = O ∧ meth.name = "<init>")) (wi : (Jvm.Cond.instantiable C kk).before a0 Z = true) (hty : parseFieldDescriptor d = some ty) (hn : narrow ty v = v) (hf : fits ty v = true)
    (r : ∀ T' h', Stand p l e R s m args below meth c T' (locs ++ [⟨a, Jvm.RoadKit.slotOf Z O n d⟩]) cells slots → T'.heap = h' → Wr h h' a (Jvm.RoadKit.slotOf Z O n d) v → yEndsW p e below s0 T' (mkF m (pc + 3) Ls st) cs ss Q) : yEndsW p e below s0 T (mkF m pc Ls (v :: .ref a :: st)) cs ss Q := by
  obtain ⟨T', h', X', e', W, k⟩ := putF X hx hZ hown w via eT F E L wi hty hn hf (g := mkF m pc Ls (v :: .ref a :: st)) rfl rfl (hb hby hd)
  exact ystp k (r T' h' X' e' W)
theorem ynewobj (X : Stand p l e R s m args below meth c T locs cells slots) (hx : p.tables.exec = Jvm.exec) (hby : c.code = bytes) {own C : String} {i n : Nat} (hd : decode bytes pc = .ok (.new i, 3)) (hZ : Z.Warmed39 s.vm) (hown : s.vm.findClass own = some m.cls) (w : (Jvm.Cond.classLink own i C).before a0 Z = true) (wi : (Jvm.Cond.instantiable C n).before a0 Z = true) (wz : (Jvm.Cond.initialized C).before a0 Z = true) (eT : T.heap = h) (hc : cells + 1 ≤ R.cells) (hl : slots + n ≤ R.slots)
    (r : ∀ T' h' b, Stand p l e R s m args below meth c T' locs (cells + 1) (slots + n) → T'.heap = h' → b = h.size → Ext h h' → Exa Z h' b C → (∀ {O nm d : String} {ty : FieldType}, Laid Z a0 C O nm d → parseFieldDescriptor d = some ty → Fld Z h' b O nm d (defaultValue ty)) → yEndsW p e below s0 T' (mkF m (pc + 3) Ls (.ref b :: st)) cs ss Q) : yEndsW p e below s0 T (mkF m pc Ls st) cs ss Q := by
  obtain ⟨T', h', X', e', E, A, D, -, k⟩ := newO X hx hZ hown w wi wz eT (g := mkF m pc Ls st) rfl (hb hby hd) hc hl
  exact ystp k (r T' h' _ X' e' rfl E A D)
theorem yobjinit (X : Stand p l e R s m args below meth c T locs cells slots) (hx : p.tables.exec = Jvm.exec) (hby : c.code = bytes) {own : String} {i : Nat} (hd : decode bytes pc = .ok (.invokespecial i, 3)) (hZ : Z.Warmed39 s.vm) (hown : s.vm.findClass own = some m.cls) (w1 : (Jvm.Cond.methodLink own i Lib.objectInit).before a0 Z = true) (w2 : (Jvm.Cond.instanceMethod Lib.objectInit).before a0 Z = true) (w3 : (Jvm.Cond.code Lib.objectInit ⟨#[0xb1]⟩ 1 none).before a0 Z = true) (eT : T.heap = h) {nl : Nat} (hmx : c.maxLocals = nl) (W : Nat) {a : Addr}
    (r : ∀ T', Stand p l e R s m args below meth c T' locs cells slots → T'.heap = h → yEndsW p e below s0 T' (mkF m (pc + 3) Ls st) cs ss Q)
    (hml : Ls.size = nl := by rfl) (hW : (st.map fun v => v.category).sum ≤ W := by exact Nat.le_of_eq rfl) (hf : 1 ≤ R.frames := by first | decide | omega | (dsimp only; omega)) (hl : W + 12 ≤ R.locals := by first | decide | omega | (dsimp only; omega)) : yEndsW p e below s0 T (mkF m pc Ls (.ref a :: st)) cs ss Q := by
  obtain ⟨T', X', e', k⟩ := initO X hx hZ hown w1 w2 w3 eT (g := mkF m pc Ls (.ref a :: st)) rfl (hml.trans hmx.symm) rfl (hb hby hd) hf (W := W) (by show 2 * 0 + _ ≤ _; rw [Nat.mul_zero, Nat.zero_add]; exact hW) hl
  exact ystp k (r T' X' e')
theorem ynewprim (X : Stand p l e R s m args below meth c T locs cells slots) (hx : p.tables.exec = Jvm.exec) (hby : c.code = bytes) {aty : ArrayType} (hd : decode bytes pc = .ok (.newarray aty, 2)) (hZ : Z.Warmed39 s.vm) (w : (Jvm.Cond.arrayClass (newarray.typeOf aty)).before a0 Z = true) (eT : T.heap = h) {n : Int32} (hn : ¬ n < 0) (cap : Nat) (hcap : n.toNatClampNeg ≤ cap) (hb8 : cap * 8 ≤ 536870912) (hc : cells + 1 ≤ R.cells) (hl : slots + cap ≤ R.slots)
    (r : ∀ T' h' b, Stand p l e R s m args below meth c T' locs (cells + 1) (slots + cap) → T'.heap = h' → b = h.size → Ext h h' → zLst Z h' b (newarray.typeOf aty) (List.replicate n.toNatClampNeg (defaultValue (newarray.typeOf aty))) → yEndsW p e below s0 T' (mkF m (pc + 2) Ls (.ref b :: st)) cs ss Q) : yEndsW p e below s0 T (mkF m pc Ls (.int n :: st)) cs ss Q := by
  obtain ⟨T', h', cA, X', e', E, A, k⟩ := newP X hx hZ w eT (g := mkF m pc Ls (.int n :: st)) rfl (hb hby hd) rfl hn hcap hb8 hc hl
  exact ystp k (r T' h' _ X' e' rfl E ⟨_, A, by simp [newA]⟩)
theorem ylaload (X : Stand p l e R s m args below meth c T locs cells slots) (hx : p.tables.exec = Jvm.exec) (hby : c.code = bytes) (hd : decode bytes pc = .ok (.laload, 1)) (hZ : Z.Warmed39 s.vm) (eT : T.heap = h) {a : Addr} {vs : List Value} (A : zLst Z h a .long vs) {j : Int32} (hj : ¬ j < 0) {v : Value} (hv : vs[j.toNatClampNeg]? = some v)
    (r : yEndsW p e below s0 T (mkF m (pc + 1) Ls (v :: st)) cs ss Q) : yEndsW p e below s0 T (mkF m pc Ls (.int j :: .ref a :: st)) cs ss Q := by
  obtain ⟨cl, A, q⟩ := A
  exact ystp (fun _ k => X.laload hx (by rw [eT]; exact A.1) (State.isArrayOf_alike hZ.alike A.2.1) A.2.2 (zlst_in q hj (List.getElem?_eq_some_iff.mp hv).1) (zlst_at q hv) (g := mkF m pc Ls (.int j :: .ref a :: st)) rfl rfl (hb hby hd) _ k) r
theorem ylastore (X : Stand p l e R s m args below meth c T locs cells slots) (hx : p.tables.exec = Jvm.exec) (hby : c.code = bytes) (hd : decode bytes pc = .ok (.lastore, 1)) (hZ : Z.Warmed39 s.vm) (eT : T.heap = h) {a : Addr} {vs : List Value} (A : zLst Z h a .long vs) {j : Int32} {x : Int64} (hj : ¬ j < 0) (hlt : j.toNatClampNeg < vs.length)
    (r : ∀ T' h', Stand p l e R s m args below meth c T' (locs ++ [⟨a, j.toNatClampNeg⟩]) cells slots → T'.heap = h' → Wr h h' a j.toNatClampNeg (.long x) → zLst Z h' a .long (vs.set j.toNatClampNeg (.long x)) → yEndsW p e below s0 T' (mkF m (pc + 1) Ls st) cs ss Q) : yEndsW p e below s0 T (mkF m pc Ls (.long x :: .int j :: .ref a :: st)) cs ss Q := by
  obtain ⟨cl, A', q⟩ := A
  obtain ⟨T', h', X', e', W, k⟩ := stJ X hx hZ eT A' (j := j) (x := x) (zlst_in q hj hlt) (g := mkF m pc Ls (.long x :: .int j :: .ref a :: st)) rfl rfl (hb hby hd)
  exact ystp k (r T' h' X' e' W (zLst.same ⟨cl, A', q⟩ W))
theorem ycalls (X : Stand p l e R s m args below meth c T locs cells slots) (hx : p.tables.exec = Jvm.exec) (hby : c.code = bytes) {own : String} {i : Nat} {y : MethodName} {by' : ByteArray} {maxL : Nat} {rt : Option FieldType} {rm : Room} {argsL : List Value} {Q' : Option Value → Heap → List Loc → Prop} (hd : decode bytes pc = .ok (.invokestatic i, 3)) (hZ : Z.Warmed39 s.vm) (hown : s.vm.findClass own = some m.cls) (w1 : (Jvm.Cond.methodLink own i y).before a0 Z = true) (w2 : (Jvm.Cond.static y).before a0 Z = true) (w3 : (Jvm.Cond.initialized y.cls).before a0 Z = true) (w4 : (Jvm.Cond.code y by' maxL rt).before a0 Z = true) (eT : T.heap = h)
    (con : zCon l Z y by' maxL rt [] rm argsL.toArray h Q') {nl : Nat} (hmx : c.maxLocals = nl) (W : Nat) {ps : List FieldType} {rv : Option FieldType} (hp : parseMethodDescriptor y.desc = some ⟨ps, rv⟩) {S0 : List Value}
    (r : ∀ T' h' v L, T'.heap = h' → Stand p l e R s m args below meth c T' (locs ++ L) (cells + rm.cells) (slots + rm.slots) → Q' v h' L → yEndsW p e below s0 T' (mkF m (pc + 3) Ls (v.toList ++ st)) cs ss Q)
    (hy : y.cls ≠ "java/lang/invoke/MethodHandle" ∧ y.cls ≠ "java/lang/invoke/VarHandle" := by decide) (hml : Ls.size = nl := by rfl) (hW : (st.map fun v => v.category).sum ≤ W := by exact Nat.le_of_eq rfl) (hf : rm.frames + 1 ≤ R.frames := by first | decide | omega | (dsimp only; omega)) (hl : W + (maxL + 11) + rm.locals ≤ R.locals := by first | decide | omega | (dsimp only; omega)) (hcl : cells + rm.cells ≤ R.cells := by first | decide | omega | (dsimp only; omega)) (hsl : slots + rm.slots ≤ R.slots := by first | decide | omega | (dsimp only; omega)) (hn : argsL.length = ps.length := by rfl) (hS : S0 = argsL.reverse ++ st := by rfl) : yEndsW p e below s0 T (mkF m pc Ls S0) cs ss Q := by
  obtain ⟨v, _, ⟨T', L', k', n'⟩, -, X', ⟨L, hq, l1, l2, l3⟩, k⟩ := Jvm.LawKit.callS X hx (y := y) hown (mvT hZ w1) (mvT hZ w2) (mvT hZ w3) (mvT hZ w4) hy (backOf (W := W) con hZ w4 w3 hf hl) (g := mkF m pc Ls S0) rfl (hml.trans hmx.symm) (argsL := argsL) (rest := st) (lenOf hp hn) hS (by show 2 * 0 + _ ≤ _; rw [Nat.mul_zero, Nat.zero_add]; exact hW) (hb hby hd) (fun _ _ => ⟨rfl, eT, hcl, hsl⟩)
  dsimp only [Pt.U, Pt.locs, Pt.cells, Pt.slots] at X' l1 l2 l3 k hq
  subst l1 l2 l3
  exact ystp k (r T' _ v L rfl X' hq)
theorem ycallv (X : Stand p l e R s m args below meth c T locs cells slots) (hx : p.tables.exec = Jvm.exec) (hby : c.code = bytes) {own C : String} {i : Nat} {y z : MethodName} {by' : ByteArray} {maxL : Nat} {rt : Option FieldType} {rm : Room} {a : Addr} {argsL : List Value} {Q' : Option Value → Heap → List Loc → Prop} (hd : decode bytes pc = .ok (.invokevirtual i, 3)) (hZ : Z.Warmed39 s.vm) (hown : s.vm.findClass own = some m.cls) (w1 : (Jvm.Cond.methodLink own i y).before a0 Z = true) (w2 : (Jvm.Cond.declares y).before a0 Z = true) (hnf : NotFace s y) (w3 : (Jvm.Cond.selects C y z).before a0 Z = true) (w4 : (Jvm.Cond.instanceMethod z).before a0 Z = true) (w5 : (Jvm.Cond.code z by' maxL rt).before a0 Z = true) (w6 : (Jvm.Cond.initialized z.cls).before a0 Z = true) (eT : T.heap = h) (E : Exa Z h a C)
    (con : zCon l Z z by' maxL rt [] rm (.ref a :: argsL).toArray h Q') {nl : Nat} (hmx : c.maxLocals = nl) (W : Nat) {ps : List FieldType} {rv : Option FieldType} (hp : parseMethodDescriptor y.desc = some ⟨ps, rv⟩) {S0 : List Value}
    (r : ∀ T' h' v L, T'.heap = h' → Stand p l e R s m args below meth c T' (locs ++ L) (cells + rm.cells) (slots + rm.slots) → Q' v h' L → yEndsW p e below s0 T' (mkF m (pc + 3) Ls (v.toList ++ st)) cs ss Q)
    (hy : y.cls ≠ "java/lang/invoke/MethodHandle" ∧ y.cls ≠ "java/lang/invoke/VarHandle" := by decide) (hml : Ls.size = nl := by rfl) (hW : (st.map fun v => v.category).sum ≤ W := by exact Nat.le_of_eq rfl) (hf : rm.frames + 1 ≤ R.frames := by first | decide | omega | (dsimp only; omega)) (hl : W + (maxL + 11) + rm.locals ≤ R.locals := by first | decide | omega | (dsimp only; omega)) (hcl : cells + rm.cells ≤ R.cells := by first | decide | omega | (dsimp only; omega)) (hsl : slots + rm.slots ≤ R.slots := by first | decide | omega | (dsimp only; omega)) (hn : argsL.length = ps.length := by rfl) (hS : S0 = argsL.reverse ++ .ref a :: st := by rfl) : yEndsW p e below s0 T (mkF m pc Ls S0) cs ss Q := by
  obtain ⟨_, _, qa, -, qc⟩ := isOf hZ eT E
  obtain ⟨v, _, ⟨T', L', k', n'⟩, -, X', ⟨L, hq, l1, l2, l3⟩, k⟩ := X.virtualBack hx (y := y) (z := z) hown (mvT hZ w1) (mvT hZ w2) hnf (mvT hZ w3) (mvT hZ w4) hy (backOf (W := W) con hZ w5 w6 hf hl) qa qc (g := mkF m pc Ls S0) rfl (hml.trans hmx.symm) (Steps.refl _) (argsL := argsL) (rest := st) (lenOf hp hn) hS (by show 2 * 0 + _ ≤ _; rw [Nat.mul_zero, Nat.zero_add]; exact hW) (hb hby hd) (fun _ _ => ⟨rfl, eT, hcl, hsl⟩)
  dsimp only [Pt.U, Pt.locs, Pt.cells, Pt.slots] at X' l1 l2 l3 k hq
  subst l1 l2 l3
  exact ystp (fun _ q => k.trans q) (r T' _ v L rfl X' hq)
theorem ycallsp (X : Stand p l e R s m args below meth c T locs cells slots) (hx : p.tables.exec = Jvm.exec) (hby : c.code = bytes) {own : String} {i : Nat} {y : MethodName} {by' : ByteArray} {maxL : Nat} {rm : Room} {a : Addr} {argsL : List Value} {Q' : Option Value → Heap → List Loc → Prop} (hd : decode bytes pc = .ok (.invokespecial i, 3)) (hZ : Z.Warmed39 s.vm) (hown : s.vm.findClass own = some m.cls) (hyn : y.name = "<init>") (w1 : (Jvm.Cond.methodLink own i y).before a0 Z = true) (w2 : (Jvm.Cond.instanceMethod y).before a0 Z = true) (w3 : (Jvm.Cond.code y by' maxL none).before a0 Z = true) (w4 : (Jvm.Cond.initialized y.cls).before a0 Z = true) (eT : T.heap = h)
    (con : zCon l Z y by' maxL none [] rm (.ref a :: argsL).toArray h Q') {nl : Nat} (hmx : c.maxLocals = nl) (W : Nat) {ps : List FieldType} {rv : Option FieldType} (hp : parseMethodDescriptor y.desc = some ⟨ps, rv⟩) {S0 : List Value}
    (r : ∀ T' h' v L, T'.heap = h' → Stand p l e R s m args below meth c T' (locs ++ L) (cells + rm.cells) (slots + rm.slots) → Q' v h' L → yEndsW p e below s0 T' (mkF m (pc + 3) Ls (v.toList ++ st)) cs ss Q)
    (hy : y.cls ≠ "java/lang/invoke/MethodHandle" ∧ y.cls ≠ "java/lang/invoke/VarHandle" := by decide) (hml : Ls.size = nl := by rfl) (hW : (st.map fun v => v.category).sum ≤ W := by exact Nat.le_of_eq rfl) (hf : rm.frames + 1 ≤ R.frames := by first | decide | omega | (dsimp only; omega)) (hl : W + (maxL + 11) + rm.locals ≤ R.locals := by first | decide | omega | (dsimp only; omega)) (hcl : cells + rm.cells ≤ R.cells := by first | decide | omega | (dsimp only; omega)) (hsl : slots + rm.slots ≤ R.slots := by first | decide | omega | (dsimp only; omega)) (hn : argsL.length = ps.length := by rfl) (hS : S0 = argsL.reverse ++ .ref a :: st := by rfl) : yEndsW p e below s0 T (mkF m pc Ls S0) cs ss Q := by
  obtain ⟨v, _, ⟨T', L', k', n'⟩, -, X', ⟨L, hq, l1, l2, l3⟩, k⟩ := X.specialBack hx (y := y) hyn hown (mvT hZ w1) (mvT hZ w2) (mvT hZ w3) hy (backOf (W := W) con hZ w3 w4 hf hl) (g := mkF m pc Ls S0) rfl (hml.trans hmx.symm) (Steps.refl _) (a := a) (argsL := argsL) (rest := st) (lenOf hp hn) hS (by show 2 * 0 + _ ≤ _; rw [Nat.mul_zero, Nat.zero_add]; exact hW) (hb hby hd) (fun _ _ => ⟨rfl, eT, hcl, hsl⟩)
  dsimp only [Pt.U, Pt.locs, Pt.cells, Pt.slots] at X' l1 l2 l3 k hq
  subst l1 l2 l3
  exact ystp (fun _ q => k.trans q) (r T' _ v L rfl X' hq)
theorem ypureK {w : Option Value} {rm : Room} (hr : rm.cells = 0 ∧ rm.slots = 0) (r : ∀ T', Stand p l e R s m args below meth c T' locs cells slots → T'.heap = h → yEndsW p e below s0 T' (mkF m pc Ls (w.toList ++ st)) cs ss Q) :
    ∀ T' h' v L, T'.heap = h' → Stand p l e R s m args below meth c T' (locs ++ L) (cells + rm.cells) (slots + rm.slots) → zSame w h v h' L → yEndsW p e below s0 T' (mkF m pc Ls (v.toList ++ st)) cs ss Q := by
  rintro T' h' v L e' X ⟨rfl, rfl, rfl⟩
  rw [hr.1, hr.2, List.append_nil] at X
  exact r T' X e'
theorem ybackOfW {y : MethodName} {bytes : ByteArray} {maxL : Nat} {ret : Option FieldType} {rm : Room} {len W : Nat} {as' : Array Value} {P : Vm → Prop} (hM : yConW l Z y bytes maxL ret [] rm as' P h Q)
    (hZ : Z.Warmed39 s.vm) (wc : (Cond.code y bytes maxL ret).before a0 Z = true) (wz : (Cond.initialized y.cls).before a0 Z = true) (hf : rm.frames + 1 ≤ R.frames) (hl : W + (maxL + 11) + rm.locals ≤ R.locals) :
    BackS l R p e below s args y len W (fun A a => a = as' ∧ A.U.heap = h ∧ A.cells + rm.cells ≤ R.cells ∧ A.slots + rm.slots ≤ R.slots ∧ P A.U.vm)
      (fun A _ v B => ∃ L, Q v B.U.vm B.U.heap L ∧ B.locs = A.locs ++ L ∧ B.cells = A.cells + rm.cells ∧ B.slots = A.slots + rm.slots) :=
  BackS.of_freeW (bytes := bytes) (maxL := maxL) (ret := ret) (E := fun _ _ o t L k n => k = rm.cells ∧ n = rm.slots ∧ ∃ v, o = .returned v ∧ Q v t.vm t.heap L) hM hf hl
    (fun m meth c A a Y hp => have hU : Z.Warmed39 A.U.vm := wtrans hZ Y.warmed
      ⟨by show (Cond.and _ .tt).before a A.U = true; rw [Cond.before_and, mv hU wc]; rfl, mv hU wc, mv hU wz, hp.2.2.1, hp.2.2.2.1⟩)
    (fun m meth c A a g mk Y hp => ⟨hp.1, wtrans hZ Y.warmed, hp.2.1, hp.2.2.2.2⟩) (fun _ _ _ _ _ _ _ _ _ => trivial)
    (fun _ _ _ _ ⟨v, L, h1, h2, h3⟩ => ⟨L, _, _, h3, rfl, rfl, v, h1, h2⟩)
    (fun m meth c A a g mk v t L k n Y hp _ _ ⟨e1, e2, v', e3, e4⟩ => by cases e3; subst e1 e2; exact ⟨L, e4, rfl, rfl, rfl⟩)
theorem ycallsW (X : Stand p l e R (s0.setVm v0) m args below meth c T locs cells slots) (hx : p.tables.exec = Jvm.exec) (hby : c.code = bytes) {own : String} {i : Nat} {y : MethodName} {by' : ByteArray} {maxL : Nat} {rt : Option FieldType} {rm : Room} {argsL : List Value} {Q' : Option Value → Vm → Heap → List Loc → Prop} (hd : decode bytes pc = .ok (.invokestatic i, 3)) (hZ : Z.Warmed39 v0) (hown : v0.findClass own = some m.cls) (w1 : (Jvm.Cond.methodLink own i y).before a0 Z = true) (w2 : (Jvm.Cond.static y).before a0 Z = true) (w3 : (Jvm.Cond.initialized y.cls).before a0 Z = true) (w4 : (Jvm.Cond.code y by' maxL rt).before a0 Z = true) (eT : T.heap = h) (hS : ySin s0 v0 h) {P : Vm → Prop} (hP : ∀ v1, (s0.setVm v0).WarmedH v1 → P v1)
    (con : yConW l Z y by' maxL rt [] rm argsL.toArray P h Q') {nl : Nat} (hmx : c.maxLocals = nl) (W : Nat) {ps : List FieldType} {rv : Option FieldType} (hp : parseMethodDescriptor y.desc = some ⟨ps, rv⟩) {S0 : List Value}
    (r : ∀ (v1 : Vm) T' h' v L, T'.heap = h' → Stand p l e R (s0.setVm v1) m args below meth c T' (locs ++ L) (cells + rm.cells) (slots + rm.slots) → Z.Warmed39 v1 → v1.findClass own = some m.cls → ySin s0 v1 h' → (s0.setVm v0).Warmed39 v1 → Q' v v1 h' L → yEndsW p e below s0 T' (mkF m (pc + 3) Ls (v.toList ++ st)) cs ss Q)
    (hy : y.cls ≠ "java/lang/invoke/MethodHandle" ∧ y.cls ≠ "java/lang/invoke/VarHandle" := by decide) (hml : Ls.size = nl := by rfl) (hW : (st.map fun v => v.category).sum ≤ W := by exact Nat.le_of_eq rfl) (hf : rm.frames + 1 ≤ R.frames := by first | decide | omega | (dsimp only; omega)) (hl : W + (maxL + 11) + rm.locals ≤ R.locals := by first | decide | omega | (dsimp only; omega)) (hcl : cells + rm.cells ≤ R.cells := by first | decide | omega | (dsimp only; omega)) (hsl : slots + rm.slots ≤ R.slots := by first | decide | omega | (dsimp only; omega)) (hn : argsL.length = ps.length := by rfl) (hS' : S0 = argsL.reverse ++ st := by rfl) : yEndsW p e below s0 T (mkF m pc Ls S0) cs ss Q := by
  obtain ⟨v, _, ⟨T', L', k', n'⟩, -, X', hSi, hg, ⟨L, hq, l1, l2, l3⟩, k⟩ := callSS X hx (y := y) hown (mvT hZ w1) (mvT hZ w2) (mvT hZ w3) (mvT hZ w4) hy (ybackOfW (s := s0.setVm v0) (W := W) con hZ w4 w3 hf hl) (g := mkF m pc Ls S0) rfl (hml.trans hmx.symm) (argsL := argsL) (rest := st) (lenOf hp hn) hS' (by show 2 * 0 + _ ≤ _; rw [Nat.mul_zero, Nat.zero_add]; exact hW) (hb hby hd) (fun v1 hw1 => ⟨rfl, eT, hcl, hsl, hP v1 hw1⟩)
  dsimp only [Pt.U, Pt.locs, Pt.cells, Pt.slots] at X' l1 l2 l3 k hq hSi hg
  subst l1 l2 l3
  obtain ⟨k0, hk, hk2⟩ := hS
  exact ystp (fun _ q => k.trans q) (r T'.vm T' _ v L rfl X' (State.Warmed39.trans (t := s0.setVm v0) hZ hSi.1) (by rw [hSi.1.alike.findClass]; exact hown) ⟨_, hk.trans hSi (by rw [eT] at hg; exact Nat.le_trans hk2 hg), Nat.le_refl _⟩ hSi.1 hq)
theorem ycallvW (X : Stand p l e R (s0.setVm v0) m args below meth c T locs cells slots) (hx : p.tables.exec = Jvm.exec) (hby : c.code = bytes) {own C : String} {i : Nat} {y z : MethodName} {by' : ByteArray} {maxL : Nat} {rt : Option FieldType} {rm : Room} {a : Addr} {argsL : List Value} {Q' : Option Value → Vm → Heap → List Loc → Prop} (hd : decode bytes pc = .ok (.invokevirtual i, 3)) (hZ : Z.Warmed39 v0) (hown : v0.findClass own = some m.cls) (w1 : (Jvm.Cond.methodLink own i y).before a0 Z = true) (w2 : (Jvm.Cond.declares y).before a0 Z = true) (hnf : NotFace (s0.setVm v0) y) (w3 : (Jvm.Cond.selects C y z).before a0 Z = true) (w4 : (Jvm.Cond.instanceMethod z).before a0 Z = true) (w5 : (Jvm.Cond.code z by' maxL rt).before a0 Z = true) (w6 : (Jvm.Cond.initialized z.cls).before a0 Z = true) (eT : T.heap = h) (hS : ySin s0 v0 h) {P : Vm → Prop} (hP : ∀ v1, (s0.setVm v0).WarmedH v1 → P v1) (E : Exa Z h a C)
    (con : yConW l Z z by' maxL rt [] rm (.ref a :: argsL).toArray P h Q') {nl : Nat} (hmx : c.maxLocals = nl) (W : Nat) {ps : List FieldType} {rv : Option FieldType} (hp : parseMethodDescriptor y.desc = some ⟨ps, rv⟩) {S0 : List Value}
    (r : ∀ (v1 : Vm) T' h' v L, T'.heap = h' → Stand p l e R (s0.setVm v1) m args below meth c T' (locs ++ L) (cells + rm.cells) (slots + rm.slots) → Z.Warmed39 v1 → v1.findClass own = some m.cls → ySin s0 v1 h' → (s0.setVm v0).Warmed39 v1 → Q' v v1 h' L → yEndsW p e below s0 T' (mkF m (pc + 3) Ls (v.toList ++ st)) cs ss Q)
    (hy : y.cls ≠ "java/lang/invoke/MethodHandle" ∧ y.cls ≠ "java/lang/invoke/VarHandle" := by decide) (hml : Ls.size = nl := by rfl) (hW : (st.map fun v => v.category).sum ≤ W := by exact Nat.le_of_eq rfl) (hf : rm.frames + 1 ≤ R.frames := by first | decide | omega | (dsimp only; omega)) (hl : W + (maxL + 11) + rm.locals ≤ R.locals := by first | decide | omega | (dsimp only; omega)) (hcl : cells + rm.cells ≤ R.cells := by first | decide | omega | (dsimp only; omega)) (hsl : slots + rm.slots ≤ R.slots := by first | decide | omega | (dsimp only; omega)) (hn : argsL.length = ps.length := by rfl) (hS' : S0 = argsL.reverse ++ .ref a :: st := by rfl) : yEndsW p e below s0 T (mkF m pc Ls S0) cs ss Q := by
  obtain ⟨_, _, qa, -, qc⟩ := isOf (s := s0.setVm v0) hZ eT E
  obtain ⟨v, _, ⟨T', L', k', n'⟩, -, X', hSi, hg, ⟨L, hq, l1, l2, l3⟩, k⟩ := X.virtualBackS hx (y := y) (z := z) hown (mvT hZ w1) (mvT hZ w2) hnf (mvT hZ w3) (mvT hZ w4) hy (ybackOfW (s := s0.setVm v0) (W := W) con hZ w5 w6 hf hl) qa qc (g := mkF m pc Ls S0) rfl (hml.trans hmx.symm) (Steps.refl _) (argsL := argsL) (rest := st) (lenOf hp hn) hS' (by show 2 * 0 + _ ≤ _; rw [Nat.mul_zero, Nat.zero_add]; exact hW) (hb hby hd) (fun v1 hw1 => ⟨rfl, eT, hcl, hsl, hP v1 hw1⟩)
  dsimp only [Pt.U, Pt.locs, Pt.cells, Pt.slots] at X' l1 l2 l3 k hq hSi hg
  subst l1 l2 l3
  obtain ⟨k0, hk, hk2⟩ := hS
  exact ystp (fun _ q => k.trans q) (r T'.vm T' _ v L rfl X' (State.Warmed39.trans (t := s0.setVm v0) hZ hSi.1) (by rw [hSi.1.alike.findClass]; exact hown) ⟨_, hk.trans hSi (by rw [eT] at hg; exact Nat.le_trans hk2 hg), Nat.le_refl _⟩ hSi.1 hq)
theorem ycallspW (X : Stand p l e R (s0.setVm v0) m args below meth c T locs cells slots) (hx : p.tables.exec = Jvm.exec) (hby : c.code = bytes) {own : String} {i : Nat} {y : MethodName} {by' : ByteArray} {maxL : Nat} {rm : Room} {a : Addr} {argsL : List Value} {Q' : Option Value → Vm → Heap → List Loc → Prop} (hd : decode bytes pc = .ok (.invokespecial i, 3)) (hZ : Z.Warmed39 v0) (hown : v0.findClass own = some m.cls) (hyn : y.name = "<init>") (w1 : (Jvm.Cond.methodLink own i y).before a0 Z = true) (w2 : (Jvm.Cond.instanceMethod y).before a0 Z = true) (w3 : (Jvm.Cond.code y by' maxL none).before a0 Z = true) (w4 : (Jvm.Cond.initialized y.cls).before a0 Z = true) (eT : T.heap = h) (hS : ySin s0 v0 h) {P : Vm → Prop} (hP : ∀ v1, (s0.setVm v0).WarmedH v1 → P v1)
    (con : yConW l Z y by' maxL none [] rm (.ref a :: argsL).toArray P h Q') {nl : Nat} (hmx : c.maxLocals = nl) (W : Nat) {ps : List FieldType} {rv : Option FieldType} (hp : parseMethodDescriptor y.desc = some ⟨ps, rv⟩) {S0 : List Value}
    (r : ∀ (v1 : Vm) T' h' v L, T'.heap = h' → Stand p l e R (s0.setVm v1) m args below meth c T' (locs ++ L) (cells + rm.cells) (slots + rm.slots) → Z.Warmed39 v1 → v1.findClass own = some m.cls → ySin s0 v1 h' → (s0.setVm v0).Warmed39 v1 → Q' v v1 h' L → yEndsW p e below s0 T' (mkF m (pc + 3) Ls (v.toList ++ st)) cs ss Q)
    (hy : y.cls ≠ "java/lang/invoke/MethodHandle" ∧ y.cls ≠ "java/lang/invoke/VarHandle" := by decide) (hml : Ls.size = nl := by rfl) (hW : (st.map fun v => v.category).sum ≤ W := by exact Nat.le_of_eq rfl) (hf : rm.frames + 1 ≤ R.frames := by first | decide | omega | (dsimp only; omega)) (hl : W + (maxL + 11) + rm.locals ≤ R.locals := by first | decide | omega | (dsimp only; omega)) (hcl : cells + rm.cells ≤ R.cells := by first | decide | omega | (dsimp only; omega)) (hsl : slots + rm.slots ≤ R.slots := by first | decide | omega | (dsimp only; omega)) (hn : argsL.length = ps.length := by rfl) (hS' : S0 = argsL.reverse ++ .ref a :: st := by rfl) : yEndsW p e below s0 T (mkF m pc Ls S0) cs ss Q := by
  obtain ⟨v, _, ⟨T', L', k', n'⟩, -, X', hSi, hg, ⟨L, hq, l1, l2, l3⟩, k⟩ := X.specialBackS hx (y := y) hyn hown (mvT hZ w1) (mvT hZ w2) (mvT hZ w3) hy (ybackOfW (s := s0.setVm v0) (W := W) con hZ w3 w4 hf hl) (g := mkF m pc Ls S0) rfl (hml.trans hmx.symm) (Steps.refl _) (a := a) (argsL := argsL) (rest := st) (lenOf hp hn) hS' (by show 2 * 0 + _ ≤ _; rw [Nat.mul_zero, Nat.zero_add]; exact hW) (hb hby hd) (fun v1 hw1 => ⟨rfl, eT, hcl, hsl, hP v1 hw1⟩)
  dsimp only [Pt.U, Pt.locs, Pt.cells, Pt.slots] at X' l1 l2 l3 k hq hSi hg
  subst l1 l2 l3
  obtain ⟨k0, hk, hk2⟩ := hS
  exact ystp (fun _ q => k.trans q) (r T'.vm T' _ v L rfl X' (State.Warmed39.trans (t := s0.setVm v0) hZ hSi.1) (by rw [hSi.1.alike.findClass]; exact hown) ⟨_, hk.trans hSi (by rw [eT] at hg; exact Nat.le_trans hk2 hg), Nat.le_refl _⟩ hSi.1 hq)
theorem sinceMono {s : State} {v : Vm} {a b : Nat} (h : s.Since v a) (q : a ≤ b) : s.Since v b := ⟨h.1, fun j p h1 h2 => let r := h.2 j p h1 h2; ⟨r.1, Nat.lt_of_lt_of_le r.2 q⟩⟩
theorem yldcC (X : Stand p l e R (s0.setVm v0) m args below meth c T locs cells slots) (hx : p.tables.exec = Jvm.exec) (hby : c.code = bytes) {own text : String} {i : Nat} (hd : decode bytes pc = .ok (.ldc i, 2)) (hZ : Z.Warmed39 v0) (hown : v0.findClass own = some m.cls) (w : (Jvm.Cond.stringLink own i text).before a0 Z = true) (wS : ∀ a ∈ Bundle.stringAtoms, a.before a0 Z = true) (eT : T.heap = h) (hS : ySin s0 v0 h)
    {h0 : Heap} (eh : s0.heap = h0) (N : Fr h0.size locs) (O : Ext Z.heap h0) {Ts : List String} (I : IB Z v0 Ts) (hnot : text ∉ Ts) (hh : Jvm.Lit.constHeld Z own i) (hcw : Jvm.Lit.compactW.before a0 Z = true) (xs : List Int8) (ht : (∀ c ∈ text.toList, c.toNat < 256) ∧ text.toList.map (fun c => Value.int (Jvm.Lit.byteI c.toNat.toUInt16)) = xs.map zbv) (hxl : xs.length < 100000) (n : Nat)
    (r : ∀ (v1 : Vm) T' h' a b, Stand p l e R (s0.setVm v1) m args below meth c T' locs (cells + 2) (slots + (n + 4)) → T'.heap = h' → Ext h h' → Z.Warmed39 v1 → v1.findClass own = some m.cls → ySin s0 v1 h' → (s0.setVm v0).Warmed39 v1 → Exa Z h' a "java/lang/String" → Fld Z h' a "java/lang/String" "value" "[B" (.ref b) → Fld Z h' a "java/lang/String" "coder" "B" (.int 0) → zBt Z h' b xs → IB Z v1 (text :: Ts) → Lit (s0.setVm v1) own i a → ((a < h0.size ∧ b < h0.size) ∨ (h.size ≤ a ∧ h.size ≤ b)) → yEndsW p e below s0 T' (mkF m (pc + 2) Ls (.ref a :: st)) cs ss Q)
    (hn : 4 * text.toList.length ≤ n) (hbig : n ≤ 536870912) (hc : cells + 2 ≤ R.cells) (hl : slots + (n + 4) ≤ R.slots) : yEndsW p e below s0 T (mkF m pc Ls st) cs ss Q := by
  obtain ⟨k, hk, hk2⟩ := hS
  subst eh
  obtain ⟨a, T', h', k1, b, kc, X', e', E, q1, q2, q3, q4, q5, q6, q7, q8, -, -, q9, q10, q11, kk⟩ := ldcSVd (s := s0.setVm v0) (vm0 := v0) X hx hZ hown w wS eT (k0 := 0) ((State.WarmedH.refl (s0.setVm v0)).since 0) (Nat.zero_le _) N (fun b cl q => O.2 b cl q) I hnot hh hcw (z := Int32.ofNat xs.length) ht (zofN_nn (by omega)) (by rw [zofN_clamp (by omega), List.length_map]) (g := mkF m pc Ls st) rfl (hb hby hd) hn hbig hc hl
  exact ystp kk (r T'.vm T' h' a b X' e' E q3 q4 ⟨h'.size, hk.trans (sinceMono q1 q2) (Nat.le_trans hk2 E.1), Nat.le_refl _⟩ q1.1 q5 q7 q6 (zBt.of_arv q8 (zofN_clamp (by omega))) q9 q10 q11)
theorem yldcA (X : Stand p l e R (s0.setVm v0) m args below meth c T locs cells slots) (hx : p.tables.exec = Jvm.exec) (hby : c.code = bytes) {own text : String} {i : Nat} (hd : decode bytes pc = .ok (.ldc i, 2)) (hZ : Z.Warmed39 v0) (hown : v0.findClass own = some m.cls) (w : (Jvm.Cond.stringLink own i text).before a0 Z = true) {a : Addr} (L : Lit (s0.setVm v0) own i a)
    (r : yEndsW p e below s0 T (mkF m (pc + 2) Ls (.ref a :: st)) cs ss Q) : yEndsW p e below s0 T (mkF m pc Ls st) cs ss Q :=
  ystp (ldcAgain X hx hZ hown w L (g := mkF m pc Ls st) rfl (hb hby hd)) r
end OwnW
end Jvm.OwnKitW
namespace Jvm.Pilot.@@N@@
open Jvm Jvm.ClassFile Sem Op Lib Jvm.Free Jvm.Stand Jvm.LawKit Jvm.RoadKit Jvm.OwnKit Jvm.OwnKitW Bundle Jvm.Pilot.@@N@@.Jvm.D
variable {Z : State} {a0 : Array Value}
variable (l : Launch) {cs : Int32} {d1 d2 : Addr} {o1 o2 : List Int8} {n0 : Nat} {h0 : Heap}
def HW (a0 : Array Value) (Z : State) : Prop := ∀ d ∈ tables_1, d.before a0 Z = true
theorem hwi (hw : HW a0 Z) (i : Nat) {d : Cond} (q : tables_1[i]? = some d) : d.before a0 Z = true := hw d (List.mem_of_getElem? q)
theorem w18 (hw : HW a0 Z) : (Cond.initialized "java/lang/String").before a0 Z = true := hwi hw 18 rfl
theorem w69 (hw : HW a0 Z) : (Cond.initialized "java/lang/AbstractStringBuilder").before a0 Z = true := hwi hw 69 rfl
theorem w72 (hw : HW a0 Z) : (Cond.fieldLink "java/lang/AbstractStringBuilder" 18 "java/lang/String" "COMPACT_STRINGS" "Z").before a0 Z = true := hwi hw 72 rfl
theorem w73 (hw : HW a0 Z) : (Cond.fieldLink "java/lang/AbstractStringBuilder" 15 "java/lang/AbstractStringBuilder" "value" "[B").before a0 Z = true := hwi hw 73 rfl
theorem w75 (hw : HW a0 Z) : (Cond.fieldLink "java/lang/AbstractStringBuilder" 22 "java/lang/AbstractStringBuilder" "coder" "B").before a0 Z = true := hwi hw 75 rfl
theorem w85 (hw : HW a0 Z) : (Cond.superclass "java/lang/StringBuilder" "java/lang/AbstractStringBuilder").before a0 Z = true := hwi hw 85 rfl
theorem w93 (hw : HW a0 Z) : (Cond.fieldLink "java/lang/String" 9 "java/lang/String" "value" "[B").before a0 Z = true := hwi hw 93 rfl
theorem w94 (hw : HW a0 Z) : (Cond.methodLink "java/lang/String" 335 ⟨"java/lang/String", "coder", "()B"⟩).before a0 Z = true := hwi hw 94 rfl
theorem w95 (hw : HW a0 Z) : (Cond.declares ⟨"java/lang/String", "coder", "()B"⟩).before a0 Z = true := hwi hw 95 rfl
theorem w96 (hw : HW a0 Z) : (Cond.instanceMethod ⟨"java/lang/String", "coder", "()B"⟩).before a0 Z = true := hwi hw 96 rfl
theorem w97 (hw : HW a0 Z) : (Cond.selects "java/lang/String" ⟨"java/lang/String", "coder", "()B"⟩ ⟨"java/lang/String", "coder", "()B"⟩).before a0 Z = true := hwi hw 97 rfl
theorem w98 (hw : HW a0 Z) : (Cond.code ⟨"java/lang/String", "coder", "()B"⟩ jdk_42_method_152_code 1 (Option.some FieldType.byte)).before a0 Z = true := hwi hw 98 rfl
theorem w99 (hw : HW a0 Z) : (Cond.fieldLink "java/lang/String" 38 "java/lang/String" "COMPACT_STRINGS" "Z").before a0 Z = true := hwi hw 99 rfl
theorem w100 (hw : HW a0 Z) : (Cond.fieldLink "java/lang/String" 15 "java/lang/String" "coder" "B").before a0 Z = true := hwi hw 100 rfl
theorem w101 (hw : HW a0 Z) : (Cond.fieldLink "java/lang/AbstractStringBuilder" 79 "java/lang/AbstractStringBuilder" "count" "I").before a0 Z = true := hwi hw 101 rfl
theorem w166 (hw : HW a0 Z) : (Cond.instanceMethod ⟨"java/lang/AbstractStringBuilder", "isLatin1", "()Z"⟩).before a0 Z = true := hwi hw 166 rfl
theorem w167 (hw : HW a0 Z) : (Cond.selects "java/lang/StringBuilder" ⟨"java/lang/AbstractStringBuilder", "isLatin1", "()Z"⟩ ⟨"java/lang/AbstractStringBuilder", "isLatin1", "()Z"⟩).before a0 Z = true := hwi hw 167 rfl
theorem w225 (hw : HW a0 Z) : (Cond.instanceMethod ⟨"java/lang/AbstractStringBuilder", "length", "()I"⟩).before a0 Z = true := hwi hw 225 rfl
theorem w229 (hw : HW a0 Z) : (Cond.methodLink "java/lang/StringBuilder" 343 ⟨"java/lang/AbstractStringBuilder", "length", "()I"⟩).before a0 Z = true := hwi hw 229 rfl
theorem w230 (hw : HW a0 Z) : (Cond.code ⟨"java/lang/AbstractStringBuilder", "length", "()I"⟩ jdk_68_method_6_code 1 (Option.some FieldType.int)).before a0 Z = true := hwi hw 230 rfl
theorem d6_0 : decode jdk_29_method_65_code 0 = .ok (.iload_n 0, 1) := by decide +kernel
theorem d6_1 : decode jdk_29_method_65_code 1 = .ok (.iload_n 1, 1) := by decide +kernel
theorem d6_2 : decode jdk_29_method_65_code 2 = .ok (.if_icmp .lt 7, 3) := by decide +kernel
theorem d6_5 : decode jdk_29_method_65_code 5 = .ok (.iload_n 0, 1) := by decide +kernel
theorem d6_6 : decode jdk_29_method_65_code 6 = .ok (.goto 4, 3) := by decide +kernel
theorem d6_9 : decode jdk_29_method_65_code 9 = .ok (.iload_n 1, 1) := by decide +kernel
theorem d6_10 : decode jdk_29_method_65_code 10 = .ok (.ireturn, 1) := by decide +kernel
theorem d7_0 : decode jdk_29_method_69_code 0 = .ok (.iload_n 0, 1) := by decide +kernel
theorem d7_1 : decode jdk_29_method_69_code 1 = .ok (.iload_n 1, 1) := by decide +kernel
theorem d7_2 : decode jdk_29_method_69_code 2 = .ok (.if_icmp .gt 7, 3) := by decide +kernel
theorem d7_5 : decode jdk_29_method_69_code 5 = .ok (.iload_n 0, 1) := by decide +kernel
theorem d7_6 : decode jdk_29_method_69_code 6 = .ok (.goto 4, 3) := by decide +kernel
theorem d7_9 : decode jdk_29_method_69_code 9 = .ok (.iload_n 1, 1) := by decide +kernel
theorem d7_10 : decode jdk_29_method_69_code 10 = .ok (.ireturn, 1) := by decide +kernel
theorem d0_0 : decode jdk_42_method_152_code 0 = .ok (.getstatic 38, 3) := by decide +kernel
theorem d0_3 : decode jdk_42_method_152_code 3 = .ok (.ifCond .eq 10, 3) := by decide +kernel
theorem d0_6 : decode jdk_42_method_152_code 6 = .ok (.aload_n 0, 1) := by decide +kernel
theorem d0_7 : decode jdk_42_method_152_code 7 = .ok (.getfield 15, 3) := by decide +kernel
theorem d0_10 : decode jdk_42_method_152_code 10 = .ok (.goto 4, 3) := by decide +kernel
theorem d0_14 : decode jdk_42_method_152_code 14 = .ok (.ireturn, 1) := by decide +kernel
theorem d1_0 : decode jdk_42_method_54_code 0 = .ok (.aload_n 0, 1) := by decide +kernel
theorem d1_1 : decode jdk_42_method_54_code 1 = .ok (.getfield 9, 3) := by decide +kernel
theorem d1_4 : decode jdk_42_method_54_code 4 = .ok (.arraylength, 1) := by decide +kernel
theorem d1_5 : decode jdk_42_method_54_code 5 = .ok (.aload_n 0, 1) := by decide +kernel
theorem d1_6 : decode jdk_42_method_54_code 6 = .ok (.invokevirtual 335, 3) := by decide +kernel
theorem d1_9 : decode jdk_42_method_54_code 9 = .ok (.ishr, 1) := by decide +kernel
theorem d1_10 : decode jdk_42_method_54_code 10 = .ok (.ireturn, 1) := by decide +kernel
theorem d5_0 : decode jdk_67_method_93_code 0 = .ok (.aload_n 0, 1) := by decide +kernel
theorem d5_1 : decode jdk_67_method_93_code 1 = .ok (.invokespecial 343, 3) := by decide +kernel
theorem d5_4 : decode jdk_67_method_93_code 4 = .ok (.ireturn, 1) := by decide +kernel
theorem d3_0 : decode jdk_68_method_64_code 0 = .ok (.aload_n 0, 1) := by decide +kernel
theorem d3_1 : decode jdk_68_method_64_code 1 = .ok (.getfield 15, 3) := by decide +kernel
theorem d3_4 : decode jdk_68_method_64_code 4 = .ok (.areturn, 1) := by decide +kernel
theorem d2_0 : decode jdk_68_method_68_code 0 = .ok (.getstatic 18, 3) := by decide +kernel
theorem d2_3 : decode jdk_68_method_68_code 3 = .ok (.ifCond .eq 14, 3) := by decide +kernel
theorem d2_6 : decode jdk_68_method_68_code 6 = .ok (.aload_n 0, 1) := by decide +kernel
theorem d2_7 : decode jdk_68_method_68_code 7 = .ok (.getfield 22, 3) := by decide +kernel
theorem d2_10 : decode jdk_68_method_68_code 10 = .ok (.ifCond .ne 7, 3) := by decide +kernel
theorem d2_13 : decode jdk_68_method_68_code 13 = .ok (.iconst 1, 1) := by decide +kernel
theorem d2_14 : decode jdk_68_method_68_code 14 = .ok (.goto 4, 3) := by decide +kernel
theorem d2_18 : decode jdk_68_method_68_code 18 = .ok (.ireturn, 1) := by decide +kernel
theorem d4_0 : decode jdk_68_method_6_code 0 = .ok (.aload_n 0, 1) := by decide +kernel
theorem d4_1 : decode jdk_68_method_6_code 1 = .ok (.getfield 79, 3) := by decide +kernel
theorem d4_4 : decode jdk_68_method_6_code 4 = .ok (.ireturn, 1) := by decide +kernel
theorem pd_0 : parseMethodDescriptor "()B" = some ⟨[], some .byte⟩ := by decide +kernel
theorem pd_1 : parseMethodDescriptor "()I" = some ⟨[], some .int⟩ := by decide +kernel
theorem pn_0 : plainName "java/lang/String" = true := by first | (simp [plainName, overriddenIn]; done) | decide +kernel
theorem pn_1 : plainName "java/lang/AbstractStringBuilder" = true := by first | (simp [plainName, overriddenIn]; done) | decide +kernel
theorem pn_2 : plainName "java/lang/StringBuilder" = true := by first | (simp [plainName, overriddenIn]; done) | decide +kernel
def dg (d : Nat) : Int8 := Int8.ofNat (48 + d)
def Ctx (Z : State) (cs : Int32) (d1 d2 : Addr) (o1 o2 : List Int8) : Prop :=
  Sta Z Z.heap "java/lang/String" "COMPACT_STRINGS" "Z" (.int cs) ∧ ¬ (cs = (0 : Int32)) ∧ Sta Z Z.heap "java/lang/Integer" "DigitOnes" "[B" (.ref d1) ∧ zBt Z Z.heap d1 o1 ∧ (∀ i, i < 100 → o1[i]? = some (dg (i % 10))) ∧
  Sta Z Z.heap "java/lang/Integer" "DigitTens" "[B" (.ref d2) ∧ zBt Z Z.heap d2 o2 ∧ ∀ i, i < 100 → o2[i]? = some (dg (i / 10))
def Sx (Z : State) (h : Heap) (r b : Addr) (xs : List Int8) : Prop := Exa Z h r "java/lang/String" ∧ Fld Z h r "java/lang/String" "value" "[B" (.ref b) ∧ Fld Z h r "java/lang/String" "coder" "B" (.int 0) ∧ zBt Z h b xs
def Bd (Z : State) (h : Heap) (a b : Addr) (n : Nat) (ys : List Int8) : Prop := Exa Z h a "java/lang/StringBuilder" ∧ Fld Z h a "java/lang/AbstractStringBuilder" "value" "[B" (.ref b) ∧ Fld Z h a "java/lang/AbstractStringBuilder" "coder" "B" (.int 0) ∧ Fld Z h a "java/lang/AbstractStringBuilder" "count" "I" (.int (Int32.ofNat (n))) ∧ zBt Z h b ys ∧ Exa Z h b "[B" ∧ a ≠ b
theorem c_coder (hw : HW a0 Z) (C : Ctx Z cs d1 d2 o1 o2) (O0 : zOd Z n0 h0) (r x : Addr) (xs : List Int8) (B1 : Sx Z h0 r x xs) : zCon l Z (⟨"java/lang/String", "coder", "()B"⟩ : MethodName) jdk_42_method_152_code 1 (some .byte) [] ({ frames := 0, cells := 0, slots := 0, locals := 0 } : Room) #[(.ref r)] h0 (zSame (some (.int 0)) h0) := by
  obtain ⟨S_cs, hcs, S_d1, B_d1, H_d1, S_d2, B_d2, H_d2⟩ := id C
  refine zenter (plainFor_of_name pn_0) (L0 := #[rv r]) (fun m => by first | rfl | simp [entryFrame, mkF, argsToLocals, Value.category]) ?_
  intro p e s m below meth c T0 hx hZ hby hml hown0 hnm hret hlk X0 e0
  have hown : s.vm.findClass "java/lang/String" = some m.cls := hown0
  obtain ⟨E_r, F_r_v, F_r_c, A_x⟩ := id B1
  show zEnds p e below s T0 (mkF m 0 #[rv r] []) _ _ _
  refine zgetstat X0 hx hby d0_0 hZ hown (host := "") (Or.inl (w99 hw)) Via.refl e0 (S_cs.ext O0.2.2) fun T1 X1 e1 => (zifNo X1 hx hby d0_3 ((if0 _ _).trans (feq hcs).1) (zaloadN X1 hx hby d0_6 rfl rfl (zgetfld X1 hx hby d0_7 hZ hown (host := "") (Or.inl (w100 hw)) Via.refl e1 F_r_c fun T2 X2 e2 => (zgoto X2 hx hby d0_10 14 (by decide) (by decide) ?_))))
  show zEnds p e below s T2 (mkF m 14 #[rv r] [(.int 0)]) _ _ _
  exact zretZ X2 hx hby d0_14 hret hlk (by simp) rfl (by first | decide | omega | (dsimp only; omega)) (by first | decide | omega | (dsimp only; omega)) (⟨rfl, e2, rfl⟩)
theorem c_length (hw : HW a0 Z) (C : Ctx Z cs d1 d2 o1 o2) (O0 : zOd Z n0 h0) (r x : Addr) (xs : List Int8) (B1 : Sx Z h0 r x xs) : zCon l Z (⟨"java/lang/String", "length", "()I"⟩ : MethodName) jdk_42_method_54_code 1 (some .int) [] ({ frames := 1, cells := 0, slots := 0, locals := 13 } : Room) #[(.ref r)] h0 (zSame (some (.int (Int32.ofNat (xs.length)))) h0) := by
  refine zenter (plainFor_of_name pn_0) (L0 := #[rv r]) (fun m => by first | rfl | simp [entryFrame, mkF, argsToLocals, Value.category]) ?_
  intro p e s m below meth c T0 hx hZ hby hml hown0 hnm hret hlk X0 e0
  have hown : s.vm.findClass "java/lang/String" = some m.cls := hown0
  obtain ⟨E_r, F_r_v, F_r_c, A_x⟩ := id B1
  show zEnds p e below s T0 (mkF m 0 #[rv r] []) _ _ _
  refine zaloadN X0 hx hby d1_0 rfl rfl (zgetfld X0 hx hby d1_1 hZ hown (host := "") (Or.inl (w93 hw)) Via.refl e0 F_r_v fun T1 X1 e1 => (zalenB X1 hx hby d1_4 hZ e1 A_x (xs.length) rfl (zaloadN X1 hx hby d1_5 rfl rfl (zcallv X1 hx hby d1_6 hZ hown (w94 hw) (w95 hw) (notFace_of_selects (args := #[]) (mvT hZ (w97 hw))) (w97 hw) (w96 hw) (w98 hw) (w18 hw) e1 E_r (c_coder l hw  C O0 r x (xs) ⟨E_r, F_r_v, F_r_c, A_x⟩) hml 1 pd_0 (argsL := []) (st := [(.int (Int32.ofNat (xs.length)))]) (zpureK ⟨rfl, rfl⟩ fun T2 X2 e2 => ?_)))))
  show zEnds p e below s T2 (mkF m 9 #[rv r] [(.int 0), (.int (Int32.ofNat (xs.length)))]) _ _ _
  refine zishr X2 hx hby d1_9 (Int32.ofNat (xs.length)) (zshr0 _) ?_
  show zEnds p e below s T2 (mkF m 10 #[rv r] [(.int (Int32.ofNat (xs.length)))]) _ _ _
  exact zretI X2 hx hby d1_10 hret hlk (by first | decide | omega | (dsimp only; omega)) (by first | decide | omega | (dsimp only; omega)) (⟨rfl, e2, rfl⟩)
theorem c_latin (hw : HW a0 Z) (C : Ctx Z cs d1 d2 o1 o2) (O0 : zOd Z n0 h0) (a b : Addr) (n : Nat) (ys : List Int8) (B0 : Bd Z h0 a b n ys) : zCon l Z (⟨"java/lang/AbstractStringBuilder", "isLatin1", "()Z"⟩ : MethodName) jdk_68_method_68_code 1 (some .boolean) [] ({ frames := 0, cells := 0, slots := 0, locals := 0 } : Room) #[(.ref a)] h0 (zSame (some (.int 1)) h0) := by
  obtain ⟨S_cs, hcs, S_d1, B_d1, H_d1, S_d2, B_d2, H_d2⟩ := id C
  refine zenter (plainFor_of_name pn_1) (L0 := #[rv a]) (fun m => by first | rfl | simp [entryFrame, mkF, argsToLocals, Value.category]) ?_
  intro p e s m below meth c T0 hx hZ hby hml hown0 hnm hret hlk X0 e0
  have hown : s.vm.findClass "java/lang/AbstractStringBuilder" = some m.cls := hown0
  obtain ⟨E_a, F_a_v, F_a_c, F_a_n, A_b, E_b, ne_ab⟩ := id B0
  show zEnds p e below s T0 (mkF m 0 #[rv a] []) _ _ _
  refine zgetstat X0 hx hby d2_0 hZ hown (host := "") (Or.inl (w72 hw)) Via.refl e0 (S_cs.ext O0.2.2) fun T1 X1 e1 => (zifNo X1 hx hby d2_3 ((if0 _ _).trans (feq hcs).1) (zaloadN X1 hx hby d2_6 rfl rfl (zgetfld X1 hx hby d2_7 hZ hown (host := "") (Or.inl (w75 hw)) Via.refl e1 F_a_c fun T2 X2 e2 => (zifNo X2 hx hby d2_10 (by decide) (ziconst X2 hx hby d2_13 (z := (1 : Int32)) rfl (zgoto X2 hx hby d2_14 18 (by decide) (by decide) ?_))))))
  show zEnds p e below s T2 (mkF m 18 #[rv a] [(.int 1)]) _ _ _
  exact zretZ X2 hx hby d2_18 hret hlk (by simp) rfl (by first | decide | omega | (dsimp only; omega)) (by first | decide | omega | (dsimp only; omega)) (⟨rfl, e2, rfl⟩)
theorem c_value (hw : HW a0 Z) (C : Ctx Z cs d1 d2 o1 o2) (O0 : zOd Z n0 h0) (a b : Addr) (n : Nat) (ys : List Int8) (B0 : Bd Z h0 a b n ys) : zCon l Z (⟨"java/lang/AbstractStringBuilder", "getValue", "()[B"⟩ : MethodName) jdk_68_method_64_code 1 (some (.array .byte)) [] ({ frames := 0, cells := 0, slots := 0, locals := 0 } : Room) #[(.ref a)] h0 (zSame (some (.ref b)) h0) := by
  refine zenter (plainFor_of_name pn_1) (L0 := #[rv a]) (fun m => by first | rfl | simp [entryFrame, mkF, argsToLocals, Value.category]) ?_
  intro p e s m below meth c T0 hx hZ hby hml hown0 hnm hret hlk X0 e0
  have hown : s.vm.findClass "java/lang/AbstractStringBuilder" = some m.cls := hown0
  obtain ⟨E_a, F_a_v, F_a_c, F_a_n, A_b, E_b, ne_ab⟩ := id B0
  show zEnds p e below s T0 (mkF m 0 #[rv a] []) _ _ _
  refine zaloadN X0 hx hby d3_0 rfl rfl (zgetfld X0 hx hby d3_1 hZ hown (host := "") (Or.inl (w73 hw)) Via.refl e0 F_a_v fun T1 X1 e1 => ?_)
  show zEnds p e below s T1 (mkF m 4 #[rv a] [(.ref b)]) _ _ _
  exact zretA X1 hx hby d3_4 hret hlk rfl rfl rfl (by first | decide | omega | (dsimp only; omega)) (by first | decide | omega | (dsimp only; omega)) (⟨rfl, e1, rfl⟩)
theorem nfASB {Z : State} {a0 : Array Value} (hw : HW a0 Z) {y : MethodName} (w : (Jvm.Cond.instanceMethod y).before a0 Z = true) (q : "java/lang/AbstractStringBuilder" = y.cls) : NotFace Z y := znf_of (w166 hw) (notFace_of_selects (w167 hw)) q
theorem c_blen0 (hw : HW a0 Z) (C : Ctx Z cs d1 d2 o1 o2) (O0 : zOd Z n0 h0) (a b : Addr) (n : Nat) (ys : List Int8) (B0 : Bd Z h0 a b n ys) : zCon l Z (⟨"java/lang/AbstractStringBuilder", "length", "()I"⟩ : MethodName) jdk_68_method_6_code 1 (some .int) [] ({ frames := 0, cells := 0, slots := 0, locals := 0 } : Room) #[(.ref a)] h0 (zSame (some (.int (Int32.ofNat (n)))) h0) := by
  refine zenter (plainFor_of_name pn_1) (L0 := #[rv a]) (fun m => by first | rfl | simp [entryFrame, mkF, argsToLocals, Value.category]) ?_
  intro p e s m below meth c T0 hx hZ hby hml hown0 hnm hret hlk X0 e0
  have hown : s.vm.findClass "java/lang/AbstractStringBuilder" = some m.cls := hown0
  obtain ⟨E_a, F_a_v, F_a_c, F_a_n, A_b, E_b, ne_ab⟩ := id B0
  show zEnds p e below s T0 (mkF m 0 #[rv a] []) _ _ _
  refine zaloadN X0 hx hby d4_0 rfl rfl (zgetfld X0 hx hby d4_1 hZ hown (host := "") (Or.inl (w101 hw)) Via.refl e0 F_a_n fun T1 X1 e1 => ?_)
  show zEnds p e below s T1 (mkF m 4 #[rv a] [(.int (Int32.ofNat (n)))]) _ _ _
  exact zretI X1 hx hby d4_4 hret hlk (by first | decide | omega | (dsimp only; omega)) (by first | decide | omega | (dsimp only; omega)) (⟨rfl, e1, rfl⟩)
theorem c_blen (hw : HW a0 Z) (C : Ctx Z cs d1 d2 o1 o2) (O0 : zOd Z n0 h0) (a b : Addr) (n : Nat) (ys : List Int8) (B0 : Bd Z h0 a b n ys) : zCon l Z (⟨"java/lang/StringBuilder", "length", "()I"⟩ : MethodName) jdk_67_method_93_code 1 (some .int) [] ({ frames := 1, cells := 0, slots := 0, locals := 12 } : Room) #[(.ref a)] h0 (zSame (some (.int (Int32.ofNat (n)))) h0) := by
  refine zenter (plainFor_of_name pn_2) (L0 := #[rv a]) (fun m => by first | rfl | simp [entryFrame, mkF, argsToLocals, Value.category]) ?_
  intro p e s m below meth c T0 hx hZ hby hml hown0 hnm hret hlk X0 e0
  have hown : s.vm.findClass "java/lang/StringBuilder" = some m.cls := hown0
  obtain ⟨E_a, F_a_v, F_a_c, F_a_n, A_b, E_b, ne_ab⟩ := id B0
  show zEnds p e below s T0 (mkF m 0 #[rv a] []) _ _ _
  refine zaloadN X0 hx hby d5_0 rfl rfl (zcallsup X0 hx hby d5_1 hZ hown (by decide) (w229 hw) (nfASB hw (w225 hw) rfl) (w225 hw) (w85 hw) (w230 hw) (w69 hw) e0 E_a (c_blen0 l hw  C O0 a b (n) (ys) ⟨E_a, F_a_v, F_a_c, F_a_n, A_b, E_b, ne_ab⟩) hml 0 pd_1 (argsL := []) (st := []) (zpureK ⟨rfl, rfl⟩ fun T1 X1 e1 => ?_))
  show zEnds p e below s T1 (mkF m 4 #[rv a] [(.int (Int32.ofNat (n)))]) _ _ _
  exact zretI X1 hx hby d5_4 hret hlk (by first | decide | omega | (dsimp only; omega)) (by first | decide | omega | (dsimp only; omega)) (⟨rfl, e1, rfl⟩)
theorem c_max (hw : HW a0 Z) (C : Ctx Z cs d1 d2 o1 o2) (O0 : zOd Z n0 h0) (i j : Nat) (hi : i < 2147483648) (hj : j < 2147483648) : zCon l Z (⟨"java/lang/Math", "max", "(II)I"⟩ : MethodName) jdk_29_method_65_code 2 (some .int) [] ({ frames := 0, cells := 0, slots := 0, locals := 0 } : Room) #[(.int (Int32.ofNat (i))), (.int (Int32.ofNat (j)))] h0 (zSame (some (.int (Int32.ofNat (max i j)))) h0) := by
  refine zenter (Jvm.Free.JP.mathPlain rfl (by decide +kernel)) (L0 := #[iv (Int32.ofNat (i)), iv (Int32.ofNat (j))]) (fun m => by first | rfl | simp [entryFrame, mkF, argsToLocals, Value.category]) ?_
  intro p e s m below meth c T0 hx hZ hby hml hown0 hnm hret hlk X0 e0
  have hown : s.vm.findClass "java/lang/Math" = some m.cls := hown0
  show zEnds p e below s T0 (mkF m 0 #[iv (Int32.ofNat (i)), iv (Int32.ofNat (j))] []) _ _ _
  refine ziloadN X0 hx hby d6_0 rfl (ziloadN X0 hx hby d6_1 rfl ?_)
  show zEnds p e below s T0 (mkF m 2 #[iv (Int32.ofNat (i)), iv (Int32.ofNat (j))] [(.int (Int32.ofNat (j))), (.int (Int32.ofNat (i)))]) _ _ _
  by_cases hc1 : (Int32.ofNat (i)) < (Int32.ofNat (j))
  · refine zicmpYes X0 hx hby d6_2 9 (tlt hc1).1 (by decide) (by decide) (ziloadN X0 hx hby d6_9 rfl ?_)
    show zEnds p e below s T0 (mkF m 10 #[iv (Int32.ofNat (i)), iv (Int32.ofNat (j))] [(.int (Int32.ofNat (j)))]) _ _ _
    exact zretI X0 hx hby d6_10 hret hlk (by first | decide | omega | (dsimp only; omega)) (by first | decide | omega | (dsimp only; omega)) (⟨by rw [zofN_lt (by omega) (by omega)] at hc1; rw [show max i j = j from by omega], e0, rfl⟩)
  · refine zicmpNo X0 hx hby d6_2 (flt hc1).1 (ziloadN X0 hx hby d6_5 rfl (zgoto X0 hx hby d6_6 10 (by decide) (by decide) ?_))
    show zEnds p e below s T0 (mkF m 10 #[iv (Int32.ofNat (i)), iv (Int32.ofNat (j))] [(.int (Int32.ofNat (i)))]) _ _ _
    exact zretI X0 hx hby d6_10 hret hlk (by first | decide | omega | (dsimp only; omega)) (by first | decide | omega | (dsimp only; omega)) (⟨by rw [zofN_lt (by omega) (by omega)] at hc1; rw [show max i j = i from by omega], e0, rfl⟩)
theorem c_min (hw : HW a0 Z) (C : Ctx Z cs d1 d2 o1 o2) (O0 : zOd Z n0 h0) (i j : Nat) (hi : i < 2147483648) (hj : j < 2147483648) : zCon l Z (⟨"java/lang/Math", "min", "(II)I"⟩ : MethodName) jdk_29_method_69_code 2 (some .int) [] ({ frames := 0, cells := 0, slots := 0, locals := 0 } : Room) #[(.int (Int32.ofNat (i))), (.int (Int32.ofNat (j)))] h0 (zSame (some (.int (Int32.ofNat (min i j)))) h0) := by
  refine zenter (Jvm.Free.JP.mathPlain rfl (by decide +kernel)) (L0 := #[iv (Int32.ofNat (i)), iv (Int32.ofNat (j))]) (fun m => by first | rfl | simp [entryFrame, mkF, argsToLocals, Value.category]) ?_
  intro p e s m below meth c T0 hx hZ hby hml hown0 hnm hret hlk X0 e0
  have hown : s.vm.findClass "java/lang/Math" = some m.cls := hown0
  show zEnds p e below s T0 (mkF m 0 #[iv (Int32.ofNat (i)), iv (Int32.ofNat (j))] []) _ _ _
  refine ziloadN X0 hx hby d7_0 rfl (ziloadN X0 hx hby d7_1 rfl ?_)
  show zEnds p e below s T0 (mkF m 2 #[iv (Int32.ofNat (i)), iv (Int32.ofNat (j))] [(.int (Int32.ofNat (j))), (.int (Int32.ofNat (i)))]) _ _ _
  by_cases hc1 : (Int32.ofNat (j)) < (Int32.ofNat (i))
  · refine zicmpYes X0 hx hby d7_2 9 (tlt hc1).2.2.1 (by decide) (by decide) (ziloadN X0 hx hby d7_9 rfl ?_)
    show zEnds p e below s T0 (mkF m 10 #[iv (Int32.ofNat (i)), iv (Int32.ofNat (j))] [(.int (Int32.ofNat (j)))]) _ _ _
    exact zretI X0 hx hby d7_10 hret hlk (by first | decide | omega | (dsimp only; omega)) (by first | decide | omega | (dsimp only; omega)) (⟨by rw [zofN_lt (by omega) (by omega)] at hc1; rw [show min i j = j from by omega], e0, rfl⟩)
  · refine zicmpNo X0 hx hby d7_2 (flt hc1).2.2.1 (ziloadN X0 hx hby d7_5 rfl (zgoto X0 hx hby d7_6 10 (by decide) (by decide) ?_))
    show zEnds p e below s T0 (mkF m 10 #[iv (Int32.ofNat (i)), iv (Int32.ofNat (j))] [(.int (Int32.ofNat (i)))]) _ _ _
    exact zretI X0 hx hby d7_10 hret hlk (by first | decide | omega | (dsimp only; omega)) (by first | decide | omega | (dsimp only; omega)) (⟨by rw [zofN_lt (by omega) (by omega)] at hc1; rw [show min i j = i from by omega], e0, rfl⟩)
theorem w20 (hw : HW a0 Z) : (Cond.arrayClass FieldType.byte).before a0 Z = true := hwi hw 20 rfl
theorem w113 (hw : HW a0 Z) : (Cond.methodLink "java/lang/AbstractStringBuilder" 114 ⟨"jdk/internal/util/ArraysSupport", "newLength", "(III)I"⟩).before a0 Z = true := hwi hw 113 rfl
theorem w114 (hw : HW a0 Z) : (Cond.static ⟨"jdk/internal/util/ArraysSupport", "newLength", "(III)I"⟩).before a0 Z = true := hwi hw 114 rfl
theorem w115 (hw : HW a0 Z) : (Cond.initialized "jdk/internal/util/ArraysSupport").before a0 Z = true := hwi hw 115 rfl
theorem w116 (hw : HW a0 Z) : (Cond.code ⟨"jdk/internal/util/ArraysSupport", "newLength", "(III)I"⟩ jdk_48_method_27_code 4 (Option.some FieldType.int)).before a0 Z = true := hwi hw 116 rfl
theorem w117 (hw : HW a0 Z) : (Cond.methodLink "jdk/internal/util/ArraysSupport" 194 ⟨"java/lang/Math", "max", "(II)I"⟩).before a0 Z = true := hwi hw 117 rfl
theorem w118 (hw : HW a0 Z) : (Cond.static ⟨"java/lang/Math", "max", "(II)I"⟩).before a0 Z = true := hwi hw 118 rfl
theorem w119 (hw : HW a0 Z) : (Cond.initialized "java/lang/Math").before a0 Z = true := hwi hw 119 rfl
theorem w120 (hw : HW a0 Z) : (Cond.code ⟨"java/lang/Math", "max", "(II)I"⟩ jdk_29_method_65_code 2 (Option.some FieldType.int)).before a0 Z = true := hwi hw 120 rfl
theorem w121 (hw : HW a0 Z) : (Cond.constant "jdk/internal/util/ArraysSupport" 200 (2147483639 : Int32)).before a0 Z = true := hwi hw 121 rfl
theorem w122 (hw : HW a0 Z) : (Cond.constant "java/lang/AbstractStringBuilder" 39 (2147483647 : Int32)).before a0 Z = true := hwi hw 122 rfl
theorem w127 (hw : HW a0 Z) : (Cond.methodLink "java/util/Arrays" 304 ⟨"java/lang/Math", "min", "(II)I"⟩).before a0 Z = true := hwi hw 127 rfl
theorem w128 (hw : HW a0 Z) : (Cond.static ⟨"java/lang/Math", "min", "(II)I"⟩).before a0 Z = true := hwi hw 128 rfl
theorem w129 (hw : HW a0 Z) : (Cond.code ⟨"java/lang/Math", "min", "(II)I"⟩ jdk_29_method_69_code 2 (Option.some FieldType.int)).before a0 Z = true := hwi hw 129 rfl
theorem w130 (hw : HW a0 Z) : (Cond.methodLink "java/util/Arrays" 150 ⟨"java/lang/System", "arraycopy", "(Ljava/lang/Object;ILjava/lang/Object;II)V"⟩).before a0 Z = true := hwi hw 130 rfl
theorem w131 (hw : HW a0 Z) : (Cond.static ⟨"java/lang/System", "arraycopy", "(Ljava/lang/Object;ILjava/lang/Object;II)V"⟩).before a0 Z = true := hwi hw 131 rfl
theorem w132 (hw : HW a0 Z) : (Cond.initialized "java/lang/System").before a0 Z = true := hwi hw 132 rfl
theorem w133 (hw : HW a0 Z) : (Cond.native ⟨"java/lang/System", "arraycopy", "(Ljava/lang/Object;ILjava/lang/Object;II)V"⟩).before a0 Z = true := hwi hw 133 rfl
theorem d8_0 : decode jdk_48_method_27_code 0 = .ok (.iload_n 0, 1) := by decide +kernel
theorem d8_1 : decode jdk_48_method_27_code 1 = .ok (.iload_n 1, 1) := by decide +kernel
theorem d8_2 : decode jdk_48_method_27_code 2 = .ok (.iload_n 2, 1) := by decide +kernel
theorem d8_3 : decode jdk_48_method_27_code 3 = .ok (.invokestatic 194, 3) := by decide +kernel
theorem d8_6 : decode jdk_48_method_27_code 6 = .ok (.iadd, 1) := by decide +kernel
theorem d8_7 : decode jdk_48_method_27_code 7 = .ok (.istore_n 3, 1) := by decide +kernel
theorem d8_8 : decode jdk_48_method_27_code 8 = .ok (.iconst 0, 1) := by decide +kernel
theorem d8_9 : decode jdk_48_method_27_code 9 = .ok (.iload_n 3, 1) := by decide +kernel
theorem d8_10 : decode jdk_48_method_27_code 10 = .ok (.if_icmp .ge 11, 3) := by decide +kernel
theorem d8_13 : decode jdk_48_method_27_code 13 = .ok (.iload_n 3, 1) := by decide +kernel
theorem d8_14 : decode jdk_48_method_27_code 14 = .ok (.ldc 200, 2) := by decide +kernel
theorem d8_16 : decode jdk_48_method_27_code 16 = .ok (.if_icmp .gt 5, 3) := by decide +kernel
theorem d8_19 : decode jdk_48_method_27_code 19 = .ok (.iload_n 3, 1) := by decide +kernel
theorem d8_20 : decode jdk_48_method_27_code 20 = .ok (.ireturn, 1) := by decide +kernel
theorem d10_0 : decode jdk_65_method_121_code 0 = .ok (.iload_n 1, 1) := by decide +kernel
theorem d10_1 : decode jdk_65_method_121_code 1 = .ok (.aload_n 0, 1) := by decide +kernel
theorem d10_2 : decode jdk_65_method_121_code 2 = .ok (.arraylength, 1) := by decide +kernel
theorem d10_3 : decode jdk_65_method_121_code 3 = .ok (.if_icmp .ne 11, 3) := by decide +kernel
theorem d10_14 : decode jdk_65_method_121_code 14 = .ok (.iload_n 1, 1) := by decide +kernel
theorem d10_15 : decode jdk_65_method_121_code 15 = .ok (.newarray .byte, 2) := by decide +kernel
theorem d10_17 : decode jdk_65_method_121_code 17 = .ok (.astore_n 2, 1) := by decide +kernel
theorem d10_18 : decode jdk_65_method_121_code 18 = .ok (.aload_n 0, 1) := by decide +kernel
theorem d10_19 : decode jdk_65_method_121_code 19 = .ok (.iconst 0, 1) := by decide +kernel
theorem d10_20 : decode jdk_65_method_121_code 20 = .ok (.aload_n 2, 1) := by decide +kernel
theorem d10_21 : decode jdk_65_method_121_code 21 = .ok (.iconst 0, 1) := by decide +kernel
theorem d10_22 : decode jdk_65_method_121_code 22 = .ok (.aload_n 0, 1) := by decide +kernel
theorem d10_23 : decode jdk_65_method_121_code 23 = .ok (.arraylength, 1) := by decide +kernel
theorem d10_24 : decode jdk_65_method_121_code 24 = .ok (.iload_n 1, 1) := by decide +kernel
theorem d10_25 : decode jdk_65_method_121_code 25 = .ok (.invokestatic 304, 3) := by decide +kernel
theorem d10_28 : decode jdk_65_method_121_code 28 = .ok (.invokestatic 150, 3) := by decide +kernel
theorem d10_31 : decode jdk_65_method_121_code 31 = .ok (.aload_n 2, 1) := by decide +kernel
theorem d10_32 : decode jdk_65_method_121_code 32 = .ok (.areturn, 1) := by decide +kernel
theorem d9_0 : decode jdk_68_method_10_code 0 = .ok (.aload_n 0, 1) := by decide +kernel
theorem d9_1 : decode jdk_68_method_10_code 1 = .ok (.getfield 15, 3) := by decide +kernel
theorem d9_4 : decode jdk_68_method_10_code 4 = .ok (.arraylength, 1) := by decide +kernel
theorem d9_5 : decode jdk_68_method_10_code 5 = .ok (.istore_n 2, 1) := by decide +kernel
theorem d9_6 : decode jdk_68_method_10_code 6 = .ok (.iload_n 1, 1) := by decide +kernel
theorem d9_7 : decode jdk_68_method_10_code 7 = .ok (.aload_n 0, 1) := by decide +kernel
theorem d9_8 : decode jdk_68_method_10_code 8 = .ok (.getfield 22, 3) := by decide +kernel
theorem d9_11 : decode jdk_68_method_10_code 11 = .ok (.ishl, 1) := by decide +kernel
theorem d9_12 : decode jdk_68_method_10_code 12 = .ok (.istore_n 3, 1) := by decide +kernel
theorem d9_13 : decode jdk_68_method_10_code 13 = .ok (.iload_n 3, 1) := by decide +kernel
theorem d9_14 : decode jdk_68_method_10_code 14 = .ok (.iload_n 2, 1) := by decide +kernel
theorem d9_15 : decode jdk_68_method_10_code 15 = .ok (.isub, 1) := by decide +kernel
theorem d9_16 : decode jdk_68_method_10_code 16 = .ok (.istore 4, 2) := by decide +kernel
theorem d9_18 : decode jdk_68_method_10_code 18 = .ok (.iload_n 2, 1) := by decide +kernel
theorem d9_19 : decode jdk_68_method_10_code 19 = .ok (.iload 4, 2) := by decide +kernel
theorem d9_21 : decode jdk_68_method_10_code 21 = .ok (.iload_n 2, 1) := by decide +kernel
theorem d9_22 : decode jdk_68_method_10_code 22 = .ok (.iconst 2, 1) := by decide +kernel
theorem d9_23 : decode jdk_68_method_10_code 23 = .ok (.aload_n 0, 1) := by decide +kernel
theorem d9_24 : decode jdk_68_method_10_code 24 = .ok (.getfield 22, 3) := by decide +kernel
theorem d9_27 : decode jdk_68_method_10_code 27 = .ok (.ishl, 1) := by decide +kernel
theorem d9_28 : decode jdk_68_method_10_code 28 = .ok (.iadd, 1) := by decide +kernel
theorem d9_29 : decode jdk_68_method_10_code 29 = .ok (.invokestatic 114, 3) := by decide +kernel
theorem d9_32 : decode jdk_68_method_10_code 32 = .ok (.istore 5, 2) := by decide +kernel
theorem d9_34 : decode jdk_68_method_10_code 34 = .ok (.iload 5, 2) := by decide +kernel
theorem d9_36 : decode jdk_68_method_10_code 36 = .ok (.ldc 39, 2) := by decide +kernel
theorem d9_38 : decode jdk_68_method_10_code 38 = .ok (.if_icmp .ne 13, 3) := by decide +kernel
theorem d9_51 : decode jdk_68_method_10_code 51 = .ok (.iload 5, 2) := by decide +kernel
theorem d9_53 : decode jdk_68_method_10_code 53 = .ok (.aload_n 0, 1) := by decide +kernel
theorem d9_54 : decode jdk_68_method_10_code 54 = .ok (.getfield 22, 3) := by decide +kernel
theorem d9_57 : decode jdk_68_method_10_code 57 = .ok (.ishr, 1) := by decide +kernel
theorem d9_58 : decode jdk_68_method_10_code 58 = .ok (.ireturn, 1) := by decide +kernel
theorem pd_2 : parseMethodDescriptor "(II)I" = some ⟨[.int, .int], some .int⟩ := by decide +kernel
theorem pd_3 : parseMethodDescriptor "(III)I" = some ⟨[.int, .int, .int], some .int⟩ := by decide +kernel
theorem pn_3 : plainName "jdk/internal/util/ArraysSupport" = true := by first | (simp [plainName, overriddenIn]; done) | decide +kernel
theorem pn_4 : plainName "java/util/Arrays" = true := by first | (simp [plainName, overriddenIn]; done) | decide +kernel
def ncap (c m : Nat) : Nat := c + max (m - c) (c + 2)
def gcap (c m : Nat) : Nat := if m ≤ c then c else ncap c m
def gcell (c m : Nat) : Nat := if m ≤ c then 0 else 1
def gslot (c m : Nat) : Nat := if m ≤ c then 0 else ncap c m
theorem c_newlen (hw : HW a0 Z) (C : Ctx Z cs d1 d2 o1 o2) (O0 : zOd Z n0 h0) (o i j : Nat) (ho : 0 < o + max i j) (hi : o + max i j < 1073741824) : zCon l Z (⟨"jdk/internal/util/ArraysSupport", "newLength", "(III)I"⟩ : MethodName) jdk_48_method_27_code 4 (some .int) [] ({ frames := 1, cells := 0, slots := 0, locals := 14 } : Room) #[(.int (Int32.ofNat (o))), (.int (Int32.ofNat (i))), (.int (Int32.ofNat (j)))] h0 (zSame (some (.int (Int32.ofNat (o + max i j)))) h0) := by
  refine zenter (plainFor_of_name pn_3) (L0 := #[iv (Int32.ofNat (o)), iv (Int32.ofNat (i)), iv (Int32.ofNat (j)), .unset]) (fun m => by first | rfl | simp [entryFrame, mkF, argsToLocals, Value.category]) ?_
  intro p e s m below meth c T0 hx hZ hby hml hown0 hnm hret hlk X0 e0
  have hown : s.vm.findClass "jdk/internal/util/ArraysSupport" = some m.cls := hown0
  show zEnds p e below s T0 (mkF m 0 #[iv (Int32.ofNat (o)), iv (Int32.ofNat (i)), iv (Int32.ofNat (j)), .unset] []) _ _ _
  refine ziloadN X0 hx hby d8_0 rfl (ziloadN X0 hx hby d8_1 rfl (ziloadN X0 hx hby d8_2 rfl (zcalls X0 hx hby d8_3 hZ hown (w117 hw) (w118 hw) (w119 hw) (w120 hw) e0 (c_max l hw  C O0 (i) (j) (by omega) (by omega)) hml 1 pd_2 (argsL := [(.int (Int32.ofNat (i))), (.int (Int32.ofNat (j)))]) (st := [(.int (Int32.ofNat (o)))]) (zpureK ⟨rfl, rfl⟩ fun T1 X1 e1 => ?_))))
  show zEnds p e below s T1 (mkF m 6 #[iv (Int32.ofNat (o)), iv (Int32.ofNat (i)), iv (Int32.ofNat (j)), .unset] [(.int (Int32.ofNat (max (i) (j)))), (.int (Int32.ofNat (o)))]) _ _ _
  refine ziadd X1 hx hby d8_6 (Int32.ofNat (o + max (i) (j))) (zofN_add _ _) (zistoreN X1 hx hby d8_7 (L' := #[iv (Int32.ofNat (o)), iv (Int32.ofNat (i)), iv (Int32.ofNat (j)), iv (Int32.ofNat (o + max (i) (j)))]) rfl (ziconst X1 hx hby d8_8 (z := (0 : Int32)) rfl (ziloadN X1 hx hby d8_9 rfl (zicmpNo X1 hx hby d8_10 (tlt (show Int32.ofNat (0) < (Int32.ofNat (o + max (i) (j))) from by rw [zofN_lt (by omega) (by omega)]; omega)).2.1 (ziloadN X1 hx hby d8_13 rfl (zldcI X1 hx hby d8_14 (2147483639 : Int32) hZ hown (w121 hw) (zicmpNo X1 hx hby d8_16 (flt (show ¬ (Int32.ofNat (2147483639) < (Int32.ofNat (o + max (i) (j)))) from by rw [zofN_lt (by omega) (by omega)]; omega)).2.2.1 (ziloadN X1 hx hby d8_19 rfl ?_))))))))
  show zEnds p e below s T1 (mkF m 20 #[iv (Int32.ofNat (o)), iv (Int32.ofNat (i)), iv (Int32.ofNat (j)), iv (Int32.ofNat (o + max (i) (j)))] [(.int (Int32.ofNat (o + max (i) (j))))]) _ _ _
  exact zretI X1 hx hby d8_20 hret hlk (by first | decide | omega | (dsimp only; omega)) (by first | decide | omega | (dsimp only; omega)) (⟨rfl, e1, rfl⟩)
theorem c_newcap (hw : HW a0 Z) (C : Ctx Z cs d1 d2 o1 o2) (O0 : zOd Z n0 h0) (a b : Addr) (n : Nat) (ys : List Int8) (B0 : Bd Z h0 a b n ys) (mc : Nat) (hm : ys.length < mc) (hM : mc < 1000000) : zCon l Z (⟨"java/lang/AbstractStringBuilder", "newCapacity", "(I)I"⟩ : MethodName) jdk_68_method_10_code 6 (some .int) [] ({ frames := 2, cells := 0, slots := 0, locals := 29 } : Room) #[(.ref a), (.int (Int32.ofNat (mc)))] h0 (zSame (some (.int (Int32.ofNat (ncap ys.length mc)))) h0) := by
  refine zenter (plainFor_of_name pn_1) (L0 := #[rv a, iv (Int32.ofNat (mc)), .unset, .unset, .unset, .unset]) (fun m => by first | rfl | simp [entryFrame, mkF, argsToLocals, Value.category]) ?_
  intro p e s m below meth c T0 hx hZ hby hml hown0 hnm hret hlk X0 e0
  have hown : s.vm.findClass "java/lang/AbstractStringBuilder" = some m.cls := hown0
  obtain ⟨E_a, F_a_v, F_a_c, F_a_n, A_b, E_b, ne_ab⟩ := id B0
  show zEnds p e below s T0 (mkF m 0 #[rv a, iv (Int32.ofNat (mc)), .unset, .unset, .unset, .unset] []) _ _ _
  refine zaloadN X0 hx hby d9_0 rfl rfl (zgetfld X0 hx hby d9_1 hZ hown (host := "") (Or.inl (w73 hw)) Via.refl e0 F_a_v fun T1 X1 e1 => (zalenB X1 hx hby d9_4 hZ e1 A_b ((ys).length) rfl (zistoreN X1 hx hby d9_5 (L' := #[rv a, iv (Int32.ofNat (mc)), iv (Int32.ofNat ((ys).length)), .unset, .unset, .unset]) rfl (ziloadN X1 hx hby d9_6 rfl (zaloadN X1 hx hby d9_7 rfl rfl (zgetfld X1 hx hby d9_8 hZ hown (host := "") (Or.inl (w75 hw)) Via.refl e1 F_a_c fun T2 X2 e2 => (zishl X2 hx hby d9_11 (Int32.ofNat (mc)) (zshl0 _) (zistoreN X2 hx hby d9_12 (L' := #[rv a, iv (Int32.ofNat (mc)), iv (Int32.ofNat ((ys).length)), iv (Int32.ofNat (mc)), .unset, .unset]) rfl (ziloadN X2 hx hby d9_13 rfl ?_)))))))))
  show zEnds p e below s T2 (mkF m 14 #[rv a, iv (Int32.ofNat (mc)), iv (Int32.ofNat ((ys).length)), iv (Int32.ofNat (mc)), .unset, .unset] [(.int (Int32.ofNat (mc)))]) _ _ _
  refine ziloadN X2 hx hby d9_14 rfl (zisub X2 hx hby d9_15 (Int32.ofNat (mc - ((ys).length))) (zofN_sub (by omega)) (zistore X2 hx hby d9_16 (L' := #[rv a, iv (Int32.ofNat (mc)), iv (Int32.ofNat ((ys).length)), iv (Int32.ofNat (mc)), iv (Int32.ofNat (mc - ((ys).length))), .unset]) rfl (ziloadN X2 hx hby d9_18 rfl (ziload X2 hx hby d9_19 rfl (ziloadN X2 hx hby d9_21 rfl (ziconst X2 hx hby d9_22 (z := (2 : Int32)) rfl (zaloadN X2 hx hby d9_23 rfl rfl (zgetfld X2 hx hby d9_24 hZ hown (host := "") (Or.inl (w75 hw)) Via.refl e2 F_a_c fun T3 X3 e3 => (zishl X3 hx hby d9_27 (2 : Int32) (by decide) ?_)))))))))
  show zEnds p e below s T3 (mkF m 28 #[rv a, iv (Int32.ofNat (mc)), iv (Int32.ofNat ((ys).length)), iv (Int32.ofNat (mc)), iv (Int32.ofNat (mc - ((ys).length))), .unset] [(.int 2), (.int (Int32.ofNat ((ys).length))), (.int (Int32.ofNat (mc - ((ys).length)))), (.int (Int32.ofNat ((ys).length)))]) _ _ _
  refine ziadd X3 hx hby d9_28 (Int32.ofNat ((ys).length + 2)) (zofN_add _ _) (zcalls X3 hx hby d9_29 hZ hown (w113 hw) (w114 hw) (w115 hw) (w116 hw) e3 (c_newlen l hw  C O0 ((ys).length) (mc - ((ys).length)) ((ys).length + 2) (by omega) (by omega)) hml 0 pd_3 (argsL := [(.int (Int32.ofNat ((ys).length))), (.int (Int32.ofNat (mc - ((ys).length)))), (.int (Int32.ofNat ((ys).length + 2)))]) (st := []) (zpureK ⟨rfl, rfl⟩ fun T4 X4 e4 => ?_))
  show zEnds p e below s T4 (mkF m 32 #[rv a, iv (Int32.ofNat (mc)), iv (Int32.ofNat ((ys).length)), iv (Int32.ofNat (mc)), iv (Int32.ofNat (mc - ((ys).length))), .unset] [(.int (Int32.ofNat ((ys).length + max (mc - ((ys).length)) ((ys).length + 2))))]) _ _ _
  refine zistore X4 hx hby d9_32 (L' := #[rv a, iv (Int32.ofNat (mc)), iv (Int32.ofNat ((ys).length)), iv (Int32.ofNat (mc)), iv (Int32.ofNat (mc - ((ys).length))), iv (Int32.ofNat ((ys).length + max (mc - ((ys).length)) ((ys).length + 2)))]) rfl (ziload X4 hx hby d9_34 rfl (zldcI X4 hx hby d9_36 (2147483647 : Int32) hZ hown (w122 hw) (zicmpYes X4 hx hby d9_38 51 (feq (show ¬ ((Int32.ofNat ((ys).length + max (mc - ((ys).length)) ((ys).length + 2))) = Int32.ofNat (2147483647)) from by rw [zofN_eq (by omega) (by omega)]; omega)).2 (by decide) (by decide) (ziload X4 hx hby d9_51 rfl (zaloadN X4 hx hby d9_53 rfl rfl (zgetfld X4 hx hby d9_54 hZ hown (host := "") (Or.inl (w75 hw)) Via.refl e4 F_a_c fun T5 X5 e5 => (zishr X5 hx hby d9_57 (Int32.ofNat ((ys).length + max (mc - ((ys).length)) ((ys).length + 2))) (zshr0 _) ?_)))))))
  show zEnds p e below s T5 (mkF m 58 #[rv a, iv (Int32.ofNat (mc)), iv (Int32.ofNat ((ys).length)), iv (Int32.ofNat (mc)), iv (Int32.ofNat (mc - ((ys).length))), iv (Int32.ofNat ((ys).length + max (mc - ((ys).length)) ((ys).length + 2)))] [(.int (Int32.ofNat ((ys).length + max (mc - ((ys).length)) ((ys).length + 2))))]) _ _ _
  exact zretI X5 hx hby d9_58 hret hlk (by first | decide | omega | (dsimp only; omega)) (by first | decide | omega | (dsimp only; omega)) (⟨rfl, e5, rfl⟩)
theorem c_copyof (hw : HW a0 Z) (C : Ctx Z cs d1 d2 o1 o2) (O0 : zOd Z n0 h0) (b : Addr) (ys : List Int8) (n : Nat) (A_b : zBt Z h0 b ys) (hn : ys.length < n) (hM : n < 10000000) : zCon l Z (⟨"java/util/Arrays", "copyOf", "([BI)[B"⟩ : MethodName) jdk_65_method_121_code 3 (some (.array .byte)) [] ({ frames := 1, cells := 1, slots := n, locals := 29 } : Room) #[(.ref b), (.int (Int32.ofNat (n)))] h0 (fun v h L => ∃ b2 : Addr, v = some (.ref b2) ∧ Fr n0 L ∧ Keep h0 h [] ∧ h0.size ≤ b2 ∧ n0 ≤ b2 ∧ Exa Z h b2 "[B" ∧ zBt Z h b2 (ys ++ List.replicate (n - ys.length) 0)) := by
  refine zenter (plainFor_of_name pn_4) (L0 := #[rv b, iv (Int32.ofNat (n)), .unset]) (fun m => by first | rfl | simp [entryFrame, mkF, argsToLocals, Value.category]) ?_
  intro p e s m below meth c T0 hx hZ hby hml hown0 hnm hret hlk X0 e0
  have hown : s.vm.findClass "java/util/Arrays" = some m.cls := hown0
  have K0 := Keep.refl h0 []
  have N0 := Fr.nil n0
  show zEnds p e below s T0 (mkF m 0 #[rv b, iv (Int32.ofNat (n)), .unset] []) _ _ _
  refine ziloadN X0 hx hby d10_0 rfl (zaloadN X0 hx hby d10_1 rfl rfl (zalenB X0 hx hby d10_2 hZ e0 A_b (ys.length) rfl (zicmpYes X0 hx hby d10_3 14 (feq (show ¬ ((Int32.ofNat (n)) = (Int32.ofNat (ys.length))) from by rw [zofN_eq (by omega) (by omega)]; omega)).2 (by decide) (by decide) (ziloadN X0 hx hby d10_14 rfl (znewB X0 hx hby d10_15 hZ (w20 hw) e0 (n := n) (by omega) (by first | decide | omega | (dsimp only; omega)) (by first | decide | omega | (dsimp only; omega)) fun T1 h1 b1 X1 e1 y1 Ex1 E1_b1 A1_b1 => ?_)))))
  have A1_b := A_b.ext Ex1
  have O1 := O0.ext Ex1
  have K1 := Keep.ext K0 Ex1
  have g1 : n0 ≤ b1 := by rw [y1]; exact zodsz O0
  have z1 : h0.size ≤ b1 := by rw [y1]; exact K0.1
  refine zastoreN X1 hx hby d10_17 (hv := rfl) (L' := #[rv b, iv (Int32.ofNat (n)), rv b1]) rfl (zaloadN X1 hx hby d10_18 rfl rfl (ziconst X1 hx hby d10_19 (z := (0 : Int32)) rfl (zaloadN X1 hx hby d10_20 rfl rfl (ziconst X1 hx hby d10_21 (z := (0 : Int32)) rfl (zaloadN X1 hx hby d10_22 rfl rfl (zalenB X1 hx hby d10_23 hZ e1 A1_b (ys.length) rfl (ziloadN X1 hx hby d10_24 rfl (zcalls X1 hx hby d10_25 hZ hown (w127 hw) (w128 hw) (w119 hw) (w129 hw) e1 (c_min l hw  C O1 (ys.length) (n) (by first | omega | (simp only [List.length_replicate, List.length_append, List.length_take, List.length_drop, List.length_nil, List.length_cons]; omega)) (by first | omega | (simp only [List.length_replicate, List.length_append, List.length_take, List.length_drop, List.length_nil, List.length_cons]; omega))) hml 4 pd_2 (argsL := [(.int (Int32.ofNat (ys.length))), (.int (Int32.ofNat (n)))]) (st := [(.int 0), (.ref b1), (.int 0), (.ref b)]) (zpureK ⟨rfl, rfl⟩ fun T2 X2 e2 => ?_)))))))))
  show zEnds p e below s T2 (mkF m 28 #[rv b, iv (Int32.ofNat (n)), rv b1] [(.int (Int32.ofNat (min (ys.length) (n)))), (.int 0), (.ref b1), (.int 0), (.ref b)]) _ _ _
  refine zcopyB X2 hx hby d10_28 hZ hown (w130 hw) (w133 hw) (w131 hw) (w132 hw) e2 (sp := 0) (dp := 0) (nn := min (ys.length) (n)) A1_b A1_b1 (by first | omega | (simp only [List.length_replicate, List.length_append, List.length_take, List.length_drop, List.length_nil, List.length_cons]; omega)) (by first | omega | (simp only [List.length_replicate, List.length_append, List.length_take, List.length_drop, List.length_nil, List.length_cons]; omega)) (by first | omega | (simp only [List.length_replicate, List.length_append, List.length_take, List.length_drop, List.length_nil, List.length_cons]; omega)) (by first | omega | (simp only [List.length_replicate, List.length_append, List.length_take, List.length_drop, List.length_nil, List.length_cons]; omega)) N0 g1 hml 0 (fun T3 h3 L3 X3 e3 N3 K3q A3_b1 => ?_)
  have K3 := Keep.trans K1 K3q (allS (Or.inr z1) all0)
  have E3_b1 := E1_b1.keep K3q
  show zEnds p e below s T3 (mkF m 31 #[rv b, iv (Int32.ofNat (n)), rv b1] []) _ _ _
  refine zaloadN X3 hx hby d10_31 rfl rfl ?_
  show zEnds p e below s T3 (mkF m 32 #[rv b, iv (Int32.ofNat (n)), rv b1] [(.ref b1)]) _ _ _
  exact zretA X3 hx hby d10_32 hret hlk rfl rfl rfl (by first | decide | omega | (dsimp only; omega)) (by first | decide | omega | (dsimp only; omega)) (by rw [e3]; exact ⟨b1, rfl, N3, K3, z1, g1, E3_b1, by have q := A3_b1; rw [zcopy_ext ys (by omega)] at q; exact q⟩)
theorem w60 (hw : HW a0 Z) : (Cond.instantiable "java/lang/StringBuilder" 4).before a0 Z = true := hwi hw 60 rfl
theorem w74 (hw : HW a0 Z) : (Cond.lays "java/lang/StringBuilder" "java/lang/AbstractStringBuilder" "value" "[B").before a0 Z = true := hwi hw 74 rfl
theorem w76 (hw : HW a0 Z) : (Cond.lays "java/lang/StringBuilder" "java/lang/AbstractStringBuilder" "coder" "B").before a0 Z = true := hwi hw 76 rfl
theorem w102 (hw : HW a0 Z) : (Cond.lays "java/lang/StringBuilder" "java/lang/AbstractStringBuilder" "count" "I").before a0 Z = true := hwi hw 102 rfl
theorem w108 (hw : HW a0 Z) : (Cond.methodLink "java/lang/AbstractStringBuilder" 104 ⟨"java/lang/AbstractStringBuilder", "newCapacity", "(I)I"⟩).before a0 Z = true := hwi hw 108 rfl
theorem w109 (hw : HW a0 Z) : (Cond.instanceMethod ⟨"java/lang/AbstractStringBuilder", "newCapacity", "(I)I"⟩).before a0 Z = true := hwi hw 109 rfl
theorem w111 (hw : HW a0 Z) : (Cond.selects "java/lang/StringBuilder" ⟨"java/lang/AbstractStringBuilder", "newCapacity", "(I)I"⟩ ⟨"java/lang/AbstractStringBuilder", "newCapacity", "(I)I"⟩).before a0 Z = true := hwi hw 111 rfl
theorem w112 (hw : HW a0 Z) : (Cond.code ⟨"java/lang/AbstractStringBuilder", "newCapacity", "(I)I"⟩ jdk_68_method_10_code 6 (Option.some FieldType.int)).before a0 Z = true := hwi hw 112 rfl
theorem w123 (hw : HW a0 Z) : (Cond.methodLink "java/lang/AbstractStringBuilder" 108 ⟨"java/util/Arrays", "copyOf", "([BI)[B"⟩).before a0 Z = true := hwi hw 123 rfl
theorem w124 (hw : HW a0 Z) : (Cond.static ⟨"java/util/Arrays", "copyOf", "([BI)[B"⟩).before a0 Z = true := hwi hw 124 rfl
theorem w125 (hw : HW a0 Z) : (Cond.initialized "java/util/Arrays").before a0 Z = true := hwi hw 125 rfl
theorem w126 (hw : HW a0 Z) : (Cond.code ⟨"java/util/Arrays", "copyOf", "([BI)[B"⟩ jdk_65_method_121_code 3 (Option.some (FieldType.array FieldType.byte))).before a0 Z = true := hwi hw 126 rfl
theorem d11_0 : decode jdk_68_method_9_code 0 = .ok (.aload_n 0, 1) := by decide +kernel
theorem d11_1 : decode jdk_68_method_9_code 1 = .ok (.getfield 15, 3) := by decide +kernel
theorem d11_4 : decode jdk_68_method_9_code 4 = .ok (.arraylength, 1) := by decide +kernel
theorem d11_5 : decode jdk_68_method_9_code 5 = .ok (.aload_n 0, 1) := by decide +kernel
theorem d11_6 : decode jdk_68_method_9_code 6 = .ok (.getfield 22, 3) := by decide +kernel
theorem d11_9 : decode jdk_68_method_9_code 9 = .ok (.ishr, 1) := by decide +kernel
theorem d11_10 : decode jdk_68_method_9_code 10 = .ok (.istore_n 2, 1) := by decide +kernel
theorem d11_11 : decode jdk_68_method_9_code 11 = .ok (.iload_n 1, 1) := by decide +kernel
theorem d11_12 : decode jdk_68_method_9_code 12 = .ok (.iload_n 2, 1) := by decide +kernel
theorem d11_13 : decode jdk_68_method_9_code 13 = .ok (.isub, 1) := by decide +kernel
theorem d11_14 : decode jdk_68_method_9_code 14 = .ok (.ifCond .le 24, 3) := by decide +kernel
theorem d11_17 : decode jdk_68_method_9_code 17 = .ok (.aload_n 0, 1) := by decide +kernel
theorem d11_18 : decode jdk_68_method_9_code 18 = .ok (.aload_n 0, 1) := by decide +kernel
theorem d11_19 : decode jdk_68_method_9_code 19 = .ok (.getfield 15, 3) := by decide +kernel
theorem d11_22 : decode jdk_68_method_9_code 22 = .ok (.aload_n 0, 1) := by decide +kernel
theorem d11_23 : decode jdk_68_method_9_code 23 = .ok (.iload_n 1, 1) := by decide +kernel
theorem d11_24 : decode jdk_68_method_9_code 24 = .ok (.invokevirtual 104, 3) := by decide +kernel
theorem d11_27 : decode jdk_68_method_9_code 27 = .ok (.aload_n 0, 1) := by decide +kernel
theorem d11_28 : decode jdk_68_method_9_code 28 = .ok (.getfield 22, 3) := by decide +kernel
theorem d11_31 : decode jdk_68_method_9_code 31 = .ok (.ishl, 1) := by decide +kernel
theorem d11_32 : decode jdk_68_method_9_code 32 = .ok (.invokestatic 108, 3) := by decide +kernel
theorem d11_35 : decode jdk_68_method_9_code 35 = .ok (.putfield 15, 3) := by decide +kernel
theorem d11_38 : decode jdk_68_method_9_code 38 = .ok (.return_, 1) := by decide +kernel
theorem pd_4 : parseMethodDescriptor "(I)I" = some ⟨[.int], some .int⟩ := by decide +kernel
theorem pd_5 : parseMethodDescriptor "([BI)[B" = some ⟨[(.array .byte), .int], some (.array .byte)⟩ := by decide +kernel
theorem c_ensure (hw : HW a0 Z) (C : Ctx Z cs d1 d2 o1 o2) (O0 : zOd Z n0 h0) (a b : Addr) (n : Nat) (ys : List Int8) (B0 : Bd Z h0 a b n ys) (mc : Nat) (hM : mc < 1000000) (hY : ys.length < 1000000) (g_a : n0 ≤ a) (g_b : n0 ≤ b) : zCon l Z (⟨"java/lang/AbstractStringBuilder", "ensureCapacityInternal", "(I)V"⟩ : MethodName) jdk_68_method_9_code 3 none [] ({ frames := 3, cells := gcell ys.length mc, slots := gslot ys.length mc, locals := 48 } : Room) #[(.ref a), (.int (Int32.ofNat (mc)))] h0 (fun v h L => v = none ∧ Fr n0 L ∧ Keep h0 h [a] ∧ ∃ (b2 : Addr) (zs : List Int8), Bd Z h a b2 n (ys ++ zs) ∧ n0 ≤ b2 ∧ (b2 = b ∨ h0.size ≤ b2) ∧ (ys ++ zs).length = gcap ys.length mc) := by
  refine zenter (plainFor_of_name pn_1) (L0 := #[rv a, iv (Int32.ofNat (mc)), .unset]) (fun m => by first | rfl | simp [entryFrame, mkF, argsToLocals, Value.category]) ?_
  intro p e s m below meth c T0 hx hZ hby hml hown0 hnm hret hlk X0 e0
  have hown : s.vm.findClass "java/lang/AbstractStringBuilder" = some m.cls := hown0
  have K0 := Keep.refl h0 [a]
  have N0 := Fr.nil n0
  obtain ⟨E_a, F_a_v, F_a_c, F_a_n, A_b, E_b, ne_ab⟩ := id B0
  show zEnds p e below s T0 (mkF m 0 #[rv a, iv (Int32.ofNat (mc)), .unset] []) _ _ _
  by_cases hm : mc ≤ ys.length
  · have gc : gcell ys.length mc = 0 := if_pos hm
    have gs : gslot ys.length mc = 0 := if_pos hm
    refine zaloadN X0 hx hby d11_0 rfl rfl (zgetfld X0 hx hby d11_1 hZ hown (host := "") (Or.inl (w73 hw)) Via.refl e0 F_a_v fun T1 X1 e1 => (zalenB X1 hx hby d11_4 hZ e1 A_b ((ys).length) rfl (zaloadN X1 hx hby d11_5 rfl rfl (zgetfld X1 hx hby d11_6 hZ hown (host := "") (Or.inl (w75 hw)) Via.refl e1 F_a_c fun T2 X2 e2 => (zishr X2 hx hby d11_9 (Int32.ofNat ((ys).length)) (zshr0 _) (zistoreN X2 hx hby d11_10 (L' := #[rv a, iv (Int32.ofNat (mc)), iv (Int32.ofNat ((ys).length))]) rfl (ziloadN X2 hx hby d11_11 rfl (ziloadN X2 hx hby d11_12 rfl (zisub X2 hx hby d11_13 ((Int32.ofNat (mc)) - (Int32.ofNat ((ys).length))) rfl ?_)))))))))
    show zEnds p e below s T2 (mkF m 14 #[rv a, iv (Int32.ofNat (mc)), iv (Int32.ofNat ((ys).length))] [(.int ((Int32.ofNat (mc)) - (Int32.ofNat ((ys).length))))]) _ _ _
    refine zifYes X2 hx hby d11_14 38 ((if0 _ _).trans (flt (zofN_sub_le hm (by omega))).2.2.2) (by decide) (by decide) ?_
    show zEnds p e below s T2 (mkF m 38 #[rv a, iv (Int32.ofNat (mc)), iv (Int32.ofNat ((ys).length))] []) _ _ _
    exact zretV X2 hx hby d11_38 hret hlk (by first | decide | omega | (dsimp only; omega)) (by first | decide | omega | (dsimp only; omega)) (by rw [e2]; exact ⟨rfl, N0, K0, b, [], ⟨E_a, F_a_v, F_a_c, F_a_n, by rw [List.append_nil]; exact A_b, E_b, ne_ab⟩, g_b, Or.inl rfl, by rw [List.append_nil]; exact (if_pos hm).symm⟩)
  · have gc : gcell ys.length mc = 1 := if_neg hm
    have gs : gslot ys.length mc = ncap ys.length mc := if_neg hm
    have nc : ys.length < ncap ys.length mc ∧ ncap ys.length mc < 3000002 := by unfold ncap; omega
    refine zaloadN X0 hx hby d11_0 rfl rfl (zgetfld X0 hx hby d11_1 hZ hown (host := "") (Or.inl (w73 hw)) Via.refl e0 F_a_v fun T3 X3 e3 => (zalenB X3 hx hby d11_4 hZ e3 A_b ((ys).length) rfl (zaloadN X3 hx hby d11_5 rfl rfl (zgetfld X3 hx hby d11_6 hZ hown (host := "") (Or.inl (w75 hw)) Via.refl e3 F_a_c fun T4 X4 e4 => (zishr X4 hx hby d11_9 (Int32.ofNat ((ys).length)) (zshr0 _) (zistoreN X4 hx hby d11_10 (L' := #[rv a, iv (Int32.ofNat (mc)), iv (Int32.ofNat ((ys).length))]) rfl (ziloadN X4 hx hby d11_11 rfl (ziloadN X4 hx hby d11_12 rfl (zisub X4 hx hby d11_13 (Int32.ofNat (mc - ((ys).length))) (zofN_sub (by omega)) ?_)))))))))
    show zEnds p e below s T4 (mkF m 14 #[rv a, iv (Int32.ofNat (mc)), iv (Int32.ofNat ((ys).length))] [(.int (Int32.ofNat (mc - ((ys).length))))]) _ _ _
    refine zifNo X4 hx hby d11_14 ((if0 _ _).trans (tlt (show Int32.ofNat (0) < (Int32.ofNat (mc - ((ys).length))) from by rw [zofN_lt (by omega) (by omega)]; omega)).2.2.2) (zaloadN X4 hx hby d11_17 rfl rfl (zaloadN X4 hx hby d11_18 rfl rfl (zgetfld X4 hx hby d11_19 hZ hown (host := "") (Or.inl (w73 hw)) Via.refl e4 F_a_v fun T5 X5 e5 => (zaloadN X5 hx hby d11_22 rfl rfl (ziloadN X5 hx hby d11_23 rfl (zcallv X5 hx hby d11_24 hZ hown (w108 hw) (zdecl_of (w109 hw) (w112 hw)) (notFace_of_selects (args := #[]) (mvT hZ (w111 hw))) (w111 hw) (w109 hw) (w112 hw) (w69 hw) e5 E_a (c_newcap l hw  C O0 a b (n) (ys) ⟨E_a, F_a_v, F_a_c, F_a_n, A_b, E_b, ne_ab⟩ (mc) (by first | omega | (simp only [List.length_replicate, List.length_append, List.length_take, List.length_drop, List.length_nil, List.length_cons]; omega)) (by first | omega | (simp only [List.length_replicate, List.length_append, List.length_take, List.length_drop, List.length_nil, List.length_cons]; omega))) hml 2 pd_4 (argsL := [(.int (Int32.ofNat (mc)))]) (st := [(.ref b), (.ref a)]) (zpureK ⟨rfl, rfl⟩ fun T6 X6 e6 => ?_)))))))
    show zEnds p e below s T6 (mkF m 27 #[rv a, iv (Int32.ofNat (mc)), iv (Int32.ofNat ((ys).length))] [(.int (Int32.ofNat (ncap (ys).length (mc)))), (.ref b), (.ref a)]) _ _ _
    refine zaloadN X6 hx hby d11_27 rfl rfl (zgetfld X6 hx hby d11_28 hZ hown (host := "") (Or.inl (w75 hw)) Via.refl e6 F_a_c fun T7 X7 e7 => (zishl X7 hx hby d11_31 (Int32.ofNat (ncap (ys).length (mc))) (zshl0 _) (zcalls X7 hx hby d11_32 hZ hown (w123 hw) (w124 hw) (w125 hw) (w126 hw) e7 (c_copyof l hw  C O0 b (ys) (ncap (ys).length (mc)) A_b (by first | omega | (simp only [List.length_replicate, List.length_append, List.length_take, List.length_drop, List.length_nil, List.length_cons]; omega)) (by first | omega | (simp only [List.length_replicate, List.length_append, List.length_take, List.length_drop, List.length_nil, List.length_cons]; omega))) hml 1 pd_5 (argsL := [(.ref b), (.int (Int32.ofNat (ncap (ys).length (mc))))]) (st := [(.ref a)]) fun T8 h8 v8 L8 e8 X8 q8 => ?_)))
    obtain ⟨b8, rfl, N8q, K8q, y8, g8, E8_b8, A8_b8⟩ := q8
    have F8_a_value := F_a_v.keep K8q nin0
    have F8_a_coder := F_a_c.keep K8q nin0
    have F8_a_count := F_a_n.keep K8q nin0
    have E8_a := E_a.keep K8q
    have K8 := Keep.trans K0 K8q all0
    have N8 := Fr.app N0 N8q
    have z8 : h0.size ≤ b8 := Nat.le_trans K0.1 y8
    have ne8_a : a ≠ b8 := Nat.ne_of_lt (Nat.lt_of_lt_of_le E_a.lt y8)
    show zEnds p e below s T8 (mkF m 35 #[rv a, iv (Int32.ofNat (mc)), iv (Int32.ofNat ((ys).length))] [(.ref b8), (.ref a)]) _ _ _
    refine zputfld X8 hx hby d11_35 hZ hown (host := "") (Or.inl (w73 hw)) Via.refl e8 F8_a_value E8_a (Or.inl (w74 hw)) (w60 hw) (ty := (.array .byte)) (by decide) rfl rfl fun T9 h9 X9 e9 W9 => ?_
    have F9_a_value : Fld Z h9 a "java/lang/AbstractStringBuilder" "value" "[B" (.ref b8) := F8_a_value.same W9
    have F9_a_coder := F8_a_coder.other W9 (Or.inr (slot_ne (Or.inl (w76 hw)) (Or.inl (w74 hw)) (by decide) (t := .byte) (t' := (.array .byte)) (by decide) (by decide)))
    have F9_a_count := F8_a_count.other W9 (Or.inr (slot_ne (Or.inl (w102 hw)) (Or.inl (w74 hw)) (by decide) (t := .int) (t' := (.array .byte)) (by decide) (by decide)))
    have E9_a := E8_a.wr W9
    have E9_b8 := E8_b8.wr W9
    have A9_b8 := A8_b8.other W9 (Ne.symm ne8_a)
    have K9 := Keep.wr K8 W9 (Or.inl (List.mem_of_getElem? (i := 0) rfl))
    have N9 := Fr.snoc X9 N8 g_a
    show zEnds p e below s T9 (mkF m 38 #[rv a, iv (Int32.ofNat (mc)), iv (Int32.ofNat ((ys).length))] []) _ _ _
    exact zretV X9 hx hby d11_38 hret hlk (by first | decide | omega | (dsimp only; omega)) (by first | decide | omega | (dsimp only; omega)) (by rw [e9]; exact ⟨rfl, N9, K9, b8, _, ⟨E9_a, F9_a_value, F9_a_coder, F9_a_count, A9_b8, E9_b8, ne8_a⟩, g8, Or.inr z8, by rw [List.length_append, List.length_replicate, gcap, if_neg hm]; omega⟩)
theorem w139 (hw : HW a0 Z) : (Cond.methodLink "java/lang/AbstractStringBuilder" 397 ⟨"java/lang/AbstractStringBuilder", "inflateIfNeededFor", "(Ljava/lang/String;)V"⟩).before a0 Z = true := hwi hw 139 rfl
theorem w140 (hw : HW a0 Z) : (Cond.instanceMethod ⟨"java/lang/AbstractStringBuilder", "inflateIfNeededFor", "(Ljava/lang/String;)V"⟩).before a0 Z = true := hwi hw 140 rfl
theorem w142 (hw : HW a0 Z) : (Cond.selects "java/lang/StringBuilder" ⟨"java/lang/AbstractStringBuilder", "inflateIfNeededFor", "(Ljava/lang/String;)V"⟩ ⟨"java/lang/AbstractStringBuilder", "inflateIfNeededFor", "(Ljava/lang/String;)V"⟩).before a0 Z = true := hwi hw 142 rfl
theorem w143 (hw : HW a0 Z) : (Cond.code ⟨"java/lang/AbstractStringBuilder", "inflateIfNeededFor", "(Ljava/lang/String;)V"⟩ jdk_68_method_71_code 2 (Option.none : Option Jvm.ClassFile.FieldType)).before a0 Z = true := hwi hw 143 rfl
theorem w144 (hw : HW a0 Z) : (Cond.methodLink "java/lang/AbstractStringBuilder" 40 ⟨"java/lang/String", "coder", "()B"⟩).before a0 Z = true := hwi hw 144 rfl
theorem w145 (hw : HW a0 Z) : (Cond.methodLink "java/lang/AbstractStringBuilder" 399 ⟨"java/lang/String", "getBytes", "([BIB)V"⟩).before a0 Z = true := hwi hw 145 rfl
theorem w146 (hw : HW a0 Z) : (Cond.declares ⟨"java/lang/String", "getBytes", "([BIB)V"⟩).before a0 Z = true := hwi hw 146 rfl
theorem w147 (hw : HW a0 Z) : (Cond.instanceMethod ⟨"java/lang/String", "getBytes", "([BIB)V"⟩).before a0 Z = true := hwi hw 147 rfl
theorem w148 (hw : HW a0 Z) : (Cond.selects "java/lang/String" ⟨"java/lang/String", "getBytes", "([BIB)V"⟩ ⟨"java/lang/String", "getBytes", "([BIB)V"⟩).before a0 Z = true := hwi hw 148 rfl
theorem w149 (hw : HW a0 Z) : (Cond.code ⟨"java/lang/String", "getBytes", "([BIB)V"⟩ jdk_42_method_147_code 4 (Option.none : Option Jvm.ClassFile.FieldType)).before a0 Z = true := hwi hw 149 rfl
theorem w150 (hw : HW a0 Z) : (Cond.methodLink "java/lang/String" 212 ⟨"java/lang/System", "arraycopy", "(Ljava/lang/Object;ILjava/lang/Object;II)V"⟩).before a0 Z = true := hwi hw 150 rfl
theorem d13_0 : decode jdk_42_method_147_code 0 = .ok (.aload_n 0, 1) := by decide +kernel
theorem d13_1 : decode jdk_42_method_147_code 1 = .ok (.invokevirtual 335, 3) := by decide +kernel
theorem d13_4 : decode jdk_42_method_147_code 4 = .ok (.iload_n 3, 1) := by decide +kernel
theorem d13_5 : decode jdk_42_method_147_code 5 = .ok (.if_icmp .ne 23, 3) := by decide +kernel
theorem d13_8 : decode jdk_42_method_147_code 8 = .ok (.aload_n 0, 1) := by decide +kernel
theorem d13_9 : decode jdk_42_method_147_code 9 = .ok (.getfield 9, 3) := by decide +kernel
theorem d13_12 : decode jdk_42_method_147_code 12 = .ok (.iconst 0, 1) := by decide +kernel
theorem d13_13 : decode jdk_42_method_147_code 13 = .ok (.aload_n 1, 1) := by decide +kernel
theorem d13_14 : decode jdk_42_method_147_code 14 = .ok (.iload_n 2, 1) := by decide +kernel
theorem d13_15 : decode jdk_42_method_147_code 15 = .ok (.iload_n 3, 1) := by decide +kernel
theorem d13_16 : decode jdk_42_method_147_code 16 = .ok (.ishl, 1) := by decide +kernel
theorem d13_17 : decode jdk_42_method_147_code 17 = .ok (.aload_n 0, 1) := by decide +kernel
theorem d13_18 : decode jdk_42_method_147_code 18 = .ok (.getfield 9, 3) := by decide +kernel
theorem d13_21 : decode jdk_42_method_147_code 21 = .ok (.arraylength, 1) := by decide +kernel
theorem d13_22 : decode jdk_42_method_147_code 22 = .ok (.invokestatic 212, 3) := by decide +kernel
theorem d13_25 : decode jdk_42_method_147_code 25 = .ok (.goto 18, 3) := by decide +kernel
theorem d13_43 : decode jdk_42_method_147_code 43 = .ok (.return_, 1) := by decide +kernel
theorem d12_0 : decode jdk_68_method_71_code 0 = .ok (.getstatic 18, 3) := by decide +kernel
theorem d12_3 : decode jdk_68_method_71_code 3 = .ok (.ifCond .eq 18, 3) := by decide +kernel
theorem d12_6 : decode jdk_68_method_71_code 6 = .ok (.aload_n 0, 1) := by decide +kernel
theorem d12_7 : decode jdk_68_method_71_code 7 = .ok (.getfield 22, 3) := by decide +kernel
theorem d12_10 : decode jdk_68_method_71_code 10 = .ok (.aload_n 1, 1) := by decide +kernel
theorem d12_11 : decode jdk_68_method_71_code 11 = .ok (.invokevirtual 40, 3) := by decide +kernel
theorem d12_14 : decode jdk_68_method_71_code 14 = .ok (.if_icmp .eq 7, 3) := by decide +kernel
theorem d12_21 : decode jdk_68_method_71_code 21 = .ok (.return_, 1) := by decide +kernel
theorem d14_0 : decode jdk_68_method_73_code 0 = .ok (.aload_n 0, 1) := by decide +kernel
theorem d14_1 : decode jdk_68_method_73_code 1 = .ok (.aload_n 2, 1) := by decide +kernel
theorem d14_2 : decode jdk_68_method_73_code 2 = .ok (.invokevirtual 397, 3) := by decide +kernel
theorem d14_5 : decode jdk_68_method_73_code 5 = .ok (.aload_n 2, 1) := by decide +kernel
theorem d14_6 : decode jdk_68_method_73_code 6 = .ok (.aload_n 0, 1) := by decide +kernel
theorem d14_7 : decode jdk_68_method_73_code 7 = .ok (.getfield 15, 3) := by decide +kernel
theorem d14_10 : decode jdk_68_method_73_code 10 = .ok (.iload_n 1, 1) := by decide +kernel
theorem d14_11 : decode jdk_68_method_73_code 11 = .ok (.aload_n 0, 1) := by decide +kernel
theorem d14_12 : decode jdk_68_method_73_code 12 = .ok (.getfield 22, 3) := by decide +kernel
theorem d14_15 : decode jdk_68_method_73_code 15 = .ok (.invokevirtual 399, 3) := by decide +kernel
theorem d14_18 : decode jdk_68_method_73_code 18 = .ok (.return_, 1) := by decide +kernel
theorem pd_6 : parseMethodDescriptor "(Ljava/lang/String;)V" = some ⟨[(.object "java/lang/String")], none⟩ := by decide +kernel
theorem pd_7 : parseMethodDescriptor "([BIB)V" = some ⟨[(.array .byte), .int, .byte], none⟩ := by decide +kernel
theorem c_inflate (hw : HW a0 Z) (C : Ctx Z cs d1 d2 o1 o2) (O0 : zOd Z n0 h0) (a b : Addr) (n : Nat) (ys : List Int8) (B0 : Bd Z h0 a b n ys) (r x : Addr) (xs : List Int8) (B1 : Sx Z h0 r x xs) : zCon l Z (⟨"java/lang/AbstractStringBuilder", "inflateIfNeededFor", "(Ljava/lang/String;)V"⟩ : MethodName) jdk_68_method_71_code 2 none [] ({ frames := 1, cells := 0, slots := 0, locals := 13 } : Room) #[(.ref a), (.ref r)] h0 (zSame none h0) := by
  obtain ⟨S_cs, hcs, S_d1, B_d1, H_d1, S_d2, B_d2, H_d2⟩ := id C
  refine zenter (plainFor_of_name pn_1) (L0 := #[rv a, rv r]) (fun m => by first | rfl | simp [entryFrame, mkF, argsToLocals, Value.category]) ?_
  intro p e s m below meth c T0 hx hZ hby hml hown0 hnm hret hlk X0 e0
  have hown : s.vm.findClass "java/lang/AbstractStringBuilder" = some m.cls := hown0
  obtain ⟨E_a, F_a_v, F_a_c, F_a_n, A_b, E_b, ne_ab⟩ := id B0
  obtain ⟨E_r, F_r_v, F_r_c, A_x⟩ := id B1
  show zEnds p e below s T0 (mkF m 0 #[rv a, rv r] []) _ _ _
  refine zgetstat X0 hx hby d12_0 hZ hown (host := "") (Or.inl (w72 hw)) Via.refl e0 (S_cs.ext O0.2.2) fun T1 X1 e1 => (zifNo X1 hx hby d12_3 ((if0 _ _).trans (feq hcs).1) (zaloadN X1 hx hby d12_6 rfl rfl (zgetfld X1 hx hby d12_7 hZ hown (host := "") (Or.inl (w75 hw)) Via.refl e1 F_a_c fun T2 X2 e2 => (zaloadN X2 hx hby d12_10 rfl rfl (zcallv X2 hx hby d12_11 hZ hown (w144 hw) (w95 hw) (notFace_of_selects (args := #[]) (mvT hZ (w97 hw))) (w97 hw) (w96 hw) (w98 hw) (w18 hw) e2 E_r (c_coder l hw  C O0 r x (xs) ⟨E_r, F_r_v, F_r_c, A_x⟩) hml 1 pd_0 (argsL := []) (st := [(.int 0)]) (zpureK ⟨rfl, rfl⟩ fun T3 X3 e3 => ?_))))))
  show zEnds p e below s T3 (mkF m 14 #[rv a, rv r] [(.int 0), (.int 0)]) _ _ _
  refine zicmpYes X3 hx hby d12_14 21 (by decide) (by decide) (by decide) ?_
  show zEnds p e below s T3 (mkF m 21 #[rv a, rv r] []) _ _ _
  exact zretV X3 hx hby d12_21 hret hlk (by first | decide | omega | (dsimp only; omega)) (by first | decide | omega | (dsimp only; omega)) (⟨rfl, e3, rfl⟩)
theorem c_getbytes (hw : HW a0 Z) (C : Ctx Z cs d1 d2 o1 o2) (O0 : zOd Z n0 h0) (r x : Addr) (xs : List Int8) (B1 : Sx Z h0 r x xs) (b : Addr) (ys : List Int8) (A_b : zBt Z h0 b ys) (g_b : n0 ≤ b) (ne_rb : r ≠ b) (ne_xb : x ≠ b) (dp : Nat) (hd : dp + xs.length ≤ ys.length) (hM : ys.length < 10000000) : zCon l Z (⟨"java/lang/String", "getBytes", "([BIB)V"⟩ : MethodName) jdk_42_method_147_code 4 none [] ({ frames := 1, cells := 0, slots := 0, locals := 29 } : Room) #[(.ref r), (.ref b), (.int (Int32.ofNat (dp))), (.int 0)] h0 (fun v h L => v = none ∧ Fr n0 L ∧ Keep h0 h [b] ∧ zBt Z h b (ys.take dp ++ xs ++ ys.drop (dp + xs.length))) := by
  refine zenter (plainFor_of_name pn_0) (L0 := #[rv r, rv b, iv (Int32.ofNat (dp)), iv 0]) (fun m => by first | rfl | simp [entryFrame, mkF, argsToLocals, Value.category]) ?_
  intro p e s m below meth c T0 hx hZ hby hml hown0 hnm hret hlk X0 e0
  have hown : s.vm.findClass "java/lang/String" = some m.cls := hown0
  have K0 := Keep.refl h0 [b]
  have N0 := Fr.nil n0
  obtain ⟨E_r, F_r_v, F_r_c, A_x⟩ := id B1
  show zEnds p e below s T0 (mkF m 0 #[rv r, rv b, iv (Int32.ofNat (dp)), iv 0] []) _ _ _
  refine zaloadN X0 hx hby d13_0 rfl rfl (zcallv X0 hx hby d13_1 hZ hown (w94 hw) (w95 hw) (notFace_of_selects (args := #[]) (mvT hZ (w97 hw))) (w97 hw) (w96 hw) (w98 hw) (w18 hw) e0 E_r (c_coder l hw  C O0 r x (xs) ⟨E_r, F_r_v, F_r_c, A_x⟩) hml 0 pd_0 (argsL := []) (st := []) (zpureK ⟨rfl, rfl⟩ fun T1 X1 e1 => ?_))
  show zEnds p e below s T1 (mkF m 4 #[rv r, rv b, iv (Int32.ofNat (dp)), iv 0] [(.int 0)]) _ _ _
  refine ziloadN X1 hx hby d13_4 rfl (zicmpNo X1 hx hby d13_5 (by decide) (zaloadN X1 hx hby d13_8 rfl rfl (zgetfld X1 hx hby d13_9 hZ hown (host := "") (Or.inl (w93 hw)) Via.refl e1 F_r_v fun T2 X2 e2 => (ziconst X2 hx hby d13_12 (z := (0 : Int32)) rfl (zaloadN X2 hx hby d13_13 rfl rfl (ziloadN X2 hx hby d13_14 rfl (ziloadN X2 hx hby d13_15 rfl (zishl X2 hx hby d13_16 (Int32.ofNat (dp)) (zshl0 _) (zaloadN X2 hx hby d13_17 rfl rfl ?_)))))))))
  show zEnds p e below s T2 (mkF m 18 #[rv r, rv b, iv (Int32.ofNat (dp)), iv 0] [(.ref r), (.int (Int32.ofNat (dp))), (.ref b), (.int 0), (.ref x)]) _ _ _
  refine zgetfld X2 hx hby d13_18 hZ hown (host := "") (Or.inl (w93 hw)) Via.refl e2 F_r_v fun T3 X3 e3 => (zalenB X3 hx hby d13_21 hZ e3 A_x (xs.length) rfl (zcopyB X3 hx hby d13_22 hZ hown (w150 hw) (w133 hw) (w131 hw) (w132 hw) e3 (sp := 0) (dp := dp) (nn := xs.length) A_x A_b (by first | omega | (simp only [List.length_replicate, List.length_append, List.length_take, List.length_drop, List.length_nil, List.length_cons]; omega)) (by first | omega | (simp only [List.length_replicate, List.length_append, List.length_take, List.length_drop, List.length_nil, List.length_cons]; omega)) (by first | omega | (simp only [List.length_replicate, List.length_append, List.length_take, List.length_drop, List.length_nil, List.length_cons]; omega)) (by first | omega | (simp only [List.length_replicate, List.length_append, List.length_take, List.length_drop, List.length_nil, List.length_cons]; omega)) N0 g_b hml 0 (fun T4 h4 L4 X4 e4 N4 K4q A4_b => ?_)))
  have K4 := Keep.trans K0 K4q (allS (Or.inl (List.mem_of_getElem? (i := 0) rfl)) all0)
  show zEnds p e below s T4 (mkF m 25 #[rv r, rv b, iv (Int32.ofNat (dp)), iv 0] []) _ _ _
  refine zgoto X4 hx hby d13_25 43 (by decide) (by decide) ?_
  show zEnds p e below s T4 (mkF m 43 #[rv r, rv b, iv (Int32.ofNat (dp)), iv 0] []) _ _ _
  exact zretV X4 hx hby d13_43 hret hlk (by first | decide | omega | (dsimp only; omega)) (by first | decide | omega | (dsimp only; omega)) (by rw [e4]; exact ⟨rfl, N4, K4, by have q := A4_b; rw [List.drop_zero, List.take_length] at q; exact q⟩)
theorem c_putstr (hw : HW a0 Z) (C : Ctx Z cs d1 d2 o1 o2) (O0 : zOd Z n0 h0) (a b : Addr) (n : Nat) (ys : List Int8) (B0 : Bd Z h0 a b n ys) (r x : Addr) (xs : List Int8) (B1 : Sx Z h0 r x xs) (g_b : n0 ≤ b) (ne_rb : r ≠ b) (ne_xb : x ≠ b) (dp : Nat) (hd : dp + xs.length ≤ ys.length) (hM : ys.length < 10000000) : zCon l Z (⟨"java/lang/AbstractStringBuilder", "putStringAt", "(ILjava/lang/String;)V"⟩ : MethodName) jdk_68_method_73_code 3 none [] ({ frames := 2, cells := 0, slots := 0, locals := 44 } : Room) #[(.ref a), (.int (Int32.ofNat (dp))), (.ref r)] h0 (fun v h L => v = none ∧ Fr n0 L ∧ Keep h0 h [b] ∧ Bd Z h a b n (ys.take dp ++ xs ++ ys.drop (dp + xs.length))) := by
  refine zenter (plainFor_of_name pn_1) (L0 := #[rv a, iv (Int32.ofNat (dp)), rv r]) (fun m => by first | rfl | simp [entryFrame, mkF, argsToLocals, Value.category]) ?_
  intro p e s m below meth c T0 hx hZ hby hml hown0 hnm hret hlk X0 e0
  have hown : s.vm.findClass "java/lang/AbstractStringBuilder" = some m.cls := hown0
  have K0 := Keep.refl h0 [b]
  have N0 := Fr.nil n0
  obtain ⟨E_a, F_a_v, F_a_c, F_a_n, A_b, E_b, ne_ab⟩ := id B0
  obtain ⟨E_r, F_r_v, F_r_c, A_x⟩ := id B1
  show zEnds p e below s T0 (mkF m 0 #[rv a, iv (Int32.ofNat (dp)), rv r] []) _ _ _
  refine zaloadN X0 hx hby d14_0 rfl rfl (zaloadN X0 hx hby d14_1 rfl rfl (zcallv X0 hx hby d14_2 hZ hown (w139 hw) (zdecl_of (w140 hw) (w143 hw)) (notFace_of_selects (args := #[]) (mvT hZ (w142 hw))) (w142 hw) (w140 hw) (w143 hw) (w69 hw) e0 E_a (c_inflate l hw  C O0 a b (n) (ys) ⟨E_a, F_a_v, F_a_c, F_a_n, A_b, E_b, ne_ab⟩ r x (xs) ⟨E_r, F_r_v, F_r_c, A_x⟩) hml 0 pd_6 (argsL := [(.ref r)]) (st := []) (zpureK ⟨rfl, rfl⟩ fun T1 X1 e1 => ?_)))
  show zEnds p e below s T1 (mkF m 5 #[rv a, iv (Int32.ofNat (dp)), rv r] []) _ _ _
  refine zaloadN X1 hx hby d14_5 rfl rfl (zaloadN X1 hx hby d14_6 rfl rfl (zgetfld X1 hx hby d14_7 hZ hown (host := "") (Or.inl (w73 hw)) Via.refl e1 F_a_v fun T2 X2 e2 => (ziloadN X2 hx hby d14_10 rfl (zaloadN X2 hx hby d14_11 rfl rfl (zgetfld X2 hx hby d14_12 hZ hown (host := "") (Or.inl (w75 hw)) Via.refl e2 F_a_c fun T3 X3 e3 => (zcallv X3 hx hby d14_15 hZ hown (w145 hw) (w146 hw) (notFace_of_selects (args := #[]) (mvT hZ (w148 hw))) (w148 hw) (w147 hw) (w149 hw) (w18 hw) e3 E_r (c_getbytes l hw  C O0 r x (xs) ⟨E_r, F_r_v, F_r_c, A_x⟩ b (ys) A_b g_b ne_rb ne_xb (dp) (by first | omega | (simp only [List.length_replicate, List.length_append, List.length_take, List.length_drop, List.length_nil, List.length_cons]; omega)) (by first | omega | (simp only [List.length_replicate, List.length_append, List.length_take, List.length_drop, List.length_nil, List.length_cons]; omega))) hml 0 pd_7 (argsL := [(.ref b), (.int (Int32.ofNat (dp))), (.int 0)]) (st := []) fun T4 h4 v4 L4 e4 X4 q4 => ?_))))))
  obtain ⟨rfl, N4q, K4q, A4_b⟩ := q4
  have F4_a_value := F_a_v.keep K4q (ninS ne_ab nin0)
  have F4_a_coder := F_a_c.keep K4q (ninS ne_ab nin0)
  have F4_a_count := F_a_n.keep K4q (ninS ne_ab nin0)
  have E4_a := E_a.keep K4q
  have K4 := Keep.trans K0 K4q (allS (Or.inl (List.mem_of_getElem? (i := 0) rfl)) all0)
  have N4 := Fr.app N0 N4q
  have E4_b := E_b.keep K4q
  show zEnds p e below s T4 (mkF m 18 #[rv a, iv (Int32.ofNat (dp)), rv r] []) _ _ _
  exact zretV X4 hx hby d14_18 hret hlk (by first | decide | omega | (dsimp only; omega)) (by first | decide | omega | (dsimp only; omega)) (by rw [e4]; exact ⟨rfl, N4, K4, ⟨E4_a, F4_a_value, F4_a_coder, F4_a_count, A4_b, E4_b, ne_ab⟩⟩)
def Sb (Z : State) (h : Heap) (a b : Addr) (bs : List Int8) (cap : Nat) : Prop := ∃ jk, Bd Z h a b bs.length (bs ++ jk) ∧ (bs ++ jk).length = cap
theorem Sb.exa {Z : State} {h : Heap} {a b : Addr} {bs : List Int8} {cap : Nat} (B : Sb Z h a b bs cap) : Exa Z h a "java/lang/StringBuilder" := by obtain ⟨jk, B, -⟩ := B; exact B.1
theorem gcap_le {c m : Nat} : m ≤ gcap c m ∧ c ≤ gcap c m := by unfold gcap ncap; split <;> omega
theorem w88 (hw : HW a0 Z) : (Cond.methodLink "java/lang/AbstractStringBuilder" 32 ⟨"java/lang/String", "length", "()I"⟩).before a0 Z = true := hwi hw 88 rfl
theorem w89 (hw : HW a0 Z) : (Cond.declares ⟨"java/lang/String", "length", "()I"⟩).before a0 Z = true := hwi hw 89 rfl
theorem w90 (hw : HW a0 Z) : (Cond.instanceMethod ⟨"java/lang/String", "length", "()I"⟩).before a0 Z = true := hwi hw 90 rfl
theorem w91 (hw : HW a0 Z) : (Cond.selects "java/lang/String" ⟨"java/lang/String", "length", "()I"⟩ ⟨"java/lang/String", "length", "()I"⟩).before a0 Z = true := hwi hw 91 rfl
theorem w92 (hw : HW a0 Z) : (Cond.code ⟨"java/lang/String", "length", "()I"⟩ jdk_42_method_54_code 1 (Option.some FieldType.int)).before a0 Z = true := hwi hw 92 rfl
theorem w103 (hw : HW a0 Z) : (Cond.methodLink "java/lang/AbstractStringBuilder" 100 ⟨"java/lang/AbstractStringBuilder", "ensureCapacityInternal", "(I)V"⟩).before a0 Z = true := hwi hw 103 rfl
theorem w104 (hw : HW a0 Z) : (Cond.instanceMethod ⟨"java/lang/AbstractStringBuilder", "ensureCapacityInternal", "(I)V"⟩).before a0 Z = true := hwi hw 104 rfl
theorem w106 (hw : HW a0 Z) : (Cond.selects "java/lang/StringBuilder" ⟨"java/lang/AbstractStringBuilder", "ensureCapacityInternal", "(I)V"⟩ ⟨"java/lang/AbstractStringBuilder", "ensureCapacityInternal", "(I)V"⟩).before a0 Z = true := hwi hw 106 rfl
theorem w107 (hw : HW a0 Z) : (Cond.code ⟨"java/lang/AbstractStringBuilder", "ensureCapacityInternal", "(I)V"⟩ jdk_68_method_9_code 3 (Option.none : Option Jvm.ClassFile.FieldType)).before a0 Z = true := hwi hw 107 rfl
theorem w134 (hw : HW a0 Z) : (Cond.methodLink "java/lang/AbstractStringBuilder" 208 ⟨"java/lang/AbstractStringBuilder", "putStringAt", "(ILjava/lang/String;)V"⟩).before a0 Z = true := hwi hw 134 rfl
theorem w135 (hw : HW a0 Z) : (Cond.instanceMethod ⟨"java/lang/AbstractStringBuilder", "putStringAt", "(ILjava/lang/String;)V"⟩).before a0 Z = true := hwi hw 135 rfl
theorem w137 (hw : HW a0 Z) : (Cond.selects "java/lang/StringBuilder" ⟨"java/lang/AbstractStringBuilder", "putStringAt", "(ILjava/lang/String;)V"⟩ ⟨"java/lang/AbstractStringBuilder", "putStringAt", "(ILjava/lang/String;)V"⟩).before a0 Z = true := hwi hw 137 rfl
theorem w138 (hw : HW a0 Z) : (Cond.code ⟨"java/lang/AbstractStringBuilder", "putStringAt", "(ILjava/lang/String;)V"⟩ jdk_68_method_73_code 3 (Option.none : Option Jvm.ClassFile.FieldType)).before a0 Z = true := hwi hw 138 rfl
theorem d15_0 : decode jdk_68_method_22_code 0 = .ok (.aload_n 1, 1) := by decide +kernel
theorem d15_1 : decode jdk_68_method_22_code 1 = .ok (.ifnonnull 8, 3) := by decide +kernel
theorem d15_9 : decode jdk_68_method_22_code 9 = .ok (.aload_n 1, 1) := by decide +kernel
theorem d15_10 : decode jdk_68_method_22_code 10 = .ok (.invokevirtual 32, 3) := by decide +kernel
theorem d15_13 : decode jdk_68_method_22_code 13 = .ok (.istore_n 2, 1) := by decide +kernel
theorem d15_14 : decode jdk_68_method_22_code 14 = .ok (.aload_n 0, 1) := by decide +kernel
theorem d15_15 : decode jdk_68_method_22_code 15 = .ok (.aload_n 0, 1) := by decide +kernel
theorem d15_16 : decode jdk_68_method_22_code 16 = .ok (.getfield 79, 3) := by decide +kernel
theorem d15_19 : decode jdk_68_method_22_code 19 = .ok (.iload_n 2, 1) := by decide +kernel
theorem d15_20 : decode jdk_68_method_22_code 20 = .ok (.iadd, 1) := by decide +kernel
theorem d15_21 : decode jdk_68_method_22_code 21 = .ok (.invokevirtual 100, 3) := by decide +kernel
theorem d15_24 : decode jdk_68_method_22_code 24 = .ok (.aload_n 0, 1) := by decide +kernel
theorem d15_25 : decode jdk_68_method_22_code 25 = .ok (.aload_n 0, 1) := by decide +kernel
theorem d15_26 : decode jdk_68_method_22_code 26 = .ok (.getfield 79, 3) := by decide +kernel
theorem d15_29 : decode jdk_68_method_22_code 29 = .ok (.aload_n 1, 1) := by decide +kernel
theorem d15_30 : decode jdk_68_method_22_code 30 = .ok (.invokevirtual 208, 3) := by decide +kernel
theorem d15_33 : decode jdk_68_method_22_code 33 = .ok (.aload_n 0, 1) := by decide +kernel
theorem d15_34 : decode jdk_68_method_22_code 34 = .ok (.dup, 1) := by decide +kernel
theorem d15_35 : decode jdk_68_method_22_code 35 = .ok (.getfield 79, 3) := by decide +kernel
theorem d15_38 : decode jdk_68_method_22_code 38 = .ok (.iload_n 2, 1) := by decide +kernel
theorem d15_39 : decode jdk_68_method_22_code 39 = .ok (.iadd, 1) := by decide +kernel
theorem d15_40 : decode jdk_68_method_22_code 40 = .ok (.putfield 79, 3) := by decide +kernel
theorem d15_43 : decode jdk_68_method_22_code 43 = .ok (.aload_n 0, 1) := by decide +kernel
theorem d15_44 : decode jdk_68_method_22_code 44 = .ok (.areturn, 1) := by decide +kernel
theorem pd_8 : parseMethodDescriptor "(I)V" = some ⟨[.int], none⟩ := by decide +kernel
theorem pd_9 : parseMethodDescriptor "(ILjava/lang/String;)V" = some ⟨[.int, (.object "java/lang/String")], none⟩ := by decide +kernel
theorem c_appstr0 (hw : HW a0 Z) (C : Ctx Z cs d1 d2 o1 o2) (O0 : zOd Z n0 h0) (a b : Addr) (bs : List Int8) (cap : Nat) (B0 : Sb Z h0 a b bs cap) (hC : cap < 400000) (g_a : n0 ≤ a) (g_b : n0 ≤ b) (r x : Addr) (xs : List Int8) (B1 : Sx Z h0 r x xs) (hX : xs.length < 400000) (ne_ra : r ≠ a) (ne_rb : r ≠ b) (ne_xa : x ≠ a) (ne_xb : x ≠ b) : zCon l Z (⟨"java/lang/AbstractStringBuilder", "append", "(Ljava/lang/String;)Ljava/lang/AbstractStringBuilder;"⟩ : MethodName) jdk_68_method_22_code 3 (some (.object "java/lang/AbstractStringBuilder")) [] ({ frames := 4, cells := gcell cap (bs.length + xs.length), slots := gslot cap (bs.length + xs.length), locals := 62 } : Room) #[(.ref a), (.ref r)] h0 (fun v h L => v = some (.ref a) ∧ Fr n0 L ∧ Keep h0 h [a, b] ∧ ∃ b2 : Addr, Sb Z h a b2 (bs ++ xs) (gcap cap (bs.length + (xs).length)) ∧ n0 ≤ b2 ∧ (b2 = b ∨ h0.size ≤ b2)) := by
  refine zenter (plainFor_of_name pn_1) (L0 := #[rv a, rv r, .unset]) (fun m => by first | rfl | simp [entryFrame, mkF, argsToLocals, Value.category]) ?_
  intro p e s m below meth c T0 hx hZ hby hml hown0 hnm hret hlk X0 e0
  have hown : s.vm.findClass "java/lang/AbstractStringBuilder" = some m.cls := hown0
  have K0 := Keep.refl h0 [a, b]
  have N0 := Fr.nil n0
  obtain ⟨jk, ⟨E_a, F_a_v, F_a_c, F_a_n, A_b, E_b, ne_ab⟩, rfl⟩ := id B0
  have hbs : bs.length ≤ (bs ++ jk).length := by rw [List.length_append]; omega
  obtain ⟨E_r, F_r_v, F_r_c, A_x⟩ := id B1
  show zEnds p e below s T0 (mkF m 0 #[rv a, rv r, .unset] []) _ _ _
  refine zaloadN X0 hx hby d15_0 rfl rfl (zifnonnullYes X0 hx hby d15_1 9 (by decide) (by decide) (zaloadN X0 hx hby d15_9 rfl rfl (zcallv X0 hx hby d15_10 hZ hown (w88 hw) (w89 hw) (notFace_of_selects (args := #[]) (mvT hZ (w91 hw))) (w91 hw) (w90 hw) (w92 hw) (w18 hw) e0 E_r (c_length l hw  C O0 r x (xs) ⟨E_r, F_r_v, F_r_c, A_x⟩) hml 0 pd_1 (argsL := []) (st := []) (zpureK ⟨rfl, rfl⟩ fun T1 X1 e1 => ?_))))
  show zEnds p e below s T1 (mkF m 13 #[rv a, rv r, .unset] [(.int (Int32.ofNat (xs.length)))]) _ _ _
  refine zistoreN X1 hx hby d15_13 (L' := #[rv a, rv r, iv (Int32.ofNat (xs.length))]) rfl (zaloadN X1 hx hby d15_14 rfl rfl (zaloadN X1 hx hby d15_15 rfl rfl (zgetfld X1 hx hby d15_16 hZ hown (host := "") (Or.inl (w101 hw)) Via.refl e1 F_a_n fun T2 X2 e2 => (ziloadN X2 hx hby d15_19 rfl (ziadd X2 hx hby d15_20 (Int32.ofNat (bs.length + xs.length)) (zofN_add _ _) (zcallv X2 hx hby d15_21 hZ hown (w103 hw) (zdecl_of (w104 hw) (w107 hw)) (notFace_of_selects (args := #[]) (mvT hZ (w106 hw))) (w106 hw) (w104 hw) (w107 hw) (w69 hw) e2 E_a (c_ensure l hw  C O0 a b (bs.length) (bs ++ jk) ⟨E_a, F_a_v, F_a_c, F_a_n, A_b, E_b, ne_ab⟩ (bs.length + xs.length) (by first | omega | (simp only [List.length_replicate, List.length_append, List.length_take, List.length_drop, List.length_nil, List.length_cons]; omega)) (by first | omega | (simp only [List.length_replicate, List.length_append, List.length_take, List.length_drop, List.length_nil, List.length_cons]; omega)) g_a g_b) hml 0 pd_8 (argsL := [(.int (Int32.ofNat (bs.length + xs.length)))]) (st := []) fun T3 h3 v3 L3 e3 X3 q3 => ?_))))))
  obtain ⟨rfl, N3q, K3q, b3, zs3, ⟨E3_a, V3_a, C3_a, M3_a, A3_b, E3_b, ne3_ab⟩, g3_b, o3, l3⟩ := q3
  have F3_r_value := F_r_v.keep K3q (ninS ne_ra nin0)
  have F3_r_coder := F_r_c.keep K3q (ninS ne_ra nin0)
  have E3_r := E_r.keep K3q
  have A3_x := A_x.keep K3q (ninS ne_xa nin0)
  have O3 := O0.keep K3q (allS g_a all0)
  have K3 := Keep.trans K0 K3q (allS (Or.inl (List.mem_of_getElem? (i := 0) rfl)) all0)
  have N3 := Fr.app N0 N3q
  have ne3_r : r ≠ b3 := o3.elim (fun q => q ▸ ne_rb) (fun q => Nat.ne_of_lt (Nat.lt_of_lt_of_le E_r.lt q))
  have ne3_x : x ≠ b3 := o3.elim (fun q => q ▸ ne_xb) (fun q => Nat.ne_of_lt (Nat.lt_of_lt_of_le A_x.lt q))
  show zEnds p e below s T3 (mkF m 24 #[rv a, rv r, iv (Int32.ofNat (xs.length))] []) _ _ _
  refine zaloadN X3 hx hby d15_24 rfl rfl (zaloadN X3 hx hby d15_25 rfl rfl (zgetfld X3 hx hby d15_26 hZ hown (host := "") (Or.inl (w101 hw)) Via.refl e3 M3_a fun T4 X4 e4 => (zaloadN X4 hx hby d15_29 rfl rfl (zcallv X4 hx hby d15_30 hZ hown (w134 hw) (zdecl_of (w135 hw) (w138 hw)) (notFace_of_selects (args := #[]) (mvT hZ (w137 hw))) (w137 hw) (w135 hw) (w138 hw) (w69 hw) e4 E3_a (c_putstr l hw  C O3 a b3 (bs.length) (bs ++ jk ++ zs3) ⟨E3_a, V3_a, C3_a, M3_a, A3_b, E3_b, ne3_ab⟩ r x (xs) ⟨E3_r, F3_r_value, F3_r_coder, A3_x⟩ g3_b ne3_r ne3_x (bs.length) (by rw [l3]; have q1 := @gcap_le (bs ++ jk).length (bs.length + (xs).length); have q2 : gcap (bs ++ jk).length (bs.length + (xs).length) < 3000000 := (by unfold gcap ncap; split <;> omega); omega) (by rw [l3]; have q1 := @gcap_le (bs ++ jk).length (bs.length + (xs).length); have q2 : gcap (bs ++ jk).length (bs.length + (xs).length) < 3000000 := (by unfold gcap ncap; split <;> omega); omega)) hml 0 pd_9 (argsL := [(.int (Int32.ofNat (bs.length))), (.ref r)]) (st := []) fun T5 h5 v5 L5 e5 X5 q5 => ?_))))
  obtain ⟨rfl, N5q, K5q, ⟨E5_a, V5_a, C5_a, M5_a, A5_b, E5_b, -⟩⟩ := q5
  have K5 := Keep.trans K3 K5q (allS (o3.elim (fun q => Or.inl (by rw [q]; exact List.mem_of_getElem? (i := 1) rfl)) (fun q => Or.inr (Nat.le_trans K0.1 q))) all0)
  have N5 := Fr.app N3 N5q
  show zEnds p e below s T5 (mkF m 33 #[rv a, rv r, iv (Int32.ofNat (xs.length))] []) _ _ _
  refine zaloadN X5 hx hby d15_33 rfl rfl (zdup X5 hx hby d15_34 rfl (zgetfld X5 hx hby d15_35 hZ hown (host := "") (Or.inl (w101 hw)) Via.refl e5 M5_a fun T6 X6 e6 => (ziloadN X6 hx hby d15_38 rfl (ziadd X6 hx hby d15_39 (Int32.ofNat (bs.length + xs.length)) (zofN_add _ _) (zputfld X6 hx hby d15_40 hZ hown (host := "") (Or.inl (w101 hw)) Via.refl e6 M5_a E5_a (Or.inl (w102 hw)) (w60 hw) (ty := .int) (by decide) rfl rfl fun T7 h7 X7 e7 W7 => ?_)))))
  have F7_a_count : Fld Z h7 a "java/lang/AbstractStringBuilder" "count" "I" (.int (Int32.ofNat (bs.length + xs.length))) := M5_a.same W7
  have F7_a_value := V5_a.other W7 (Or.inr (slot_ne (Or.inl (w74 hw)) (Or.inl (w102 hw)) (by decide) (t := (.array .byte)) (t' := .int) (by decide) (by decide)))
  have F7_a_coder := C5_a.other W7 (Or.inr (slot_ne (Or.inl (w76 hw)) (Or.inl (w102 hw)) (by decide) (t := .byte) (t' := .int) (by decide) (by decide)))
  have E7_a := E5_a.wr W7
  have E7_b3 := E5_b.wr W7
  have A7_b3 := A5_b.other W7 (Ne.symm ne3_ab)
  have K7 := Keep.wr K5 W7 (Or.inl (List.mem_of_getElem? (i := 0) rfl))
  have N7 := Fr.snoc X7 N5 g_a
  refine zaloadN X7 hx hby d15_43 rfl rfl ?_
  show zEnds p e below s T7 (mkF m 44 #[rv a, rv r, iv (Int32.ofNat (xs.length))] [(.ref a)]) _ _ _
  exact zretA X7 hx hby d15_44 hret hlk rfl rfl rfl (by first | decide | omega | (dsimp only; omega)) (by first | decide | omega | (dsimp only; omega)) (by rw [e7]; exact ⟨rfl, N7, K7, b3, ⟨List.drop (xs).length (jk ++ zs3), ⟨E7_a, F7_a_value, F7_a_coder, by rw [List.length_append]; exact F7_a_count, by have q := A7_b3; rw [zput_tail] at q; exact q, E7_b3, ne3_ab⟩, by rw [zput_len (by rw [l3]; have q1 := @gcap_le (bs ++ jk).length (bs.length + (xs).length); have q2 : gcap (bs ++ jk).length (bs.length + (xs).length) < 3000000 := (by unfold gcap ncap; split <;> omega); omega), l3]⟩, g3_b, o3⟩)
theorem w83 (hw : HW a0 Z) : (Cond.methodLink "java/lang/StringBuilder" 29 ⟨"java/lang/AbstractStringBuilder", "append", "(Ljava/lang/String;)Ljava/lang/AbstractStringBuilder;"⟩).before a0 Z = true := hwi hw 83 rfl
theorem w84 (hw : HW a0 Z) : (Cond.instanceMethod ⟨"java/lang/AbstractStringBuilder", "append", "(Ljava/lang/String;)Ljava/lang/AbstractStringBuilder;"⟩).before a0 Z = true := hwi hw 84 rfl
theorem w87 (hw : HW a0 Z) : (Cond.code ⟨"java/lang/AbstractStringBuilder", "append", "(Ljava/lang/String;)Ljava/lang/AbstractStringBuilder;"⟩ jdk_68_method_22_code 3 (Option.some (FieldType.object "java/lang/AbstractStringBuilder"))).before a0 Z = true := hwi hw 87 rfl
theorem d16_0 : decode jdk_67_method_7_code 0 = .ok (.aload_n 0, 1) := by decide +kernel
theorem d16_1 : decode jdk_67_method_7_code 1 = .ok (.aload_n 1, 1) := by decide +kernel
theorem d16_2 : decode jdk_67_method_7_code 2 = .ok (.invokespecial 29, 3) := by decide +kernel
theorem d16_5 : decode jdk_67_method_7_code 5 = .ok (.pop, 1) := by decide +kernel
theorem d16_6 : decode jdk_67_method_7_code 6 = .ok (.aload_n 0, 1) := by decide +kernel
theorem d16_7 : decode jdk_67_method_7_code 7 = .ok (.areturn, 1) := by decide +kernel
theorem pd_10 : parseMethodDescriptor "(Ljava/lang/String;)Ljava/lang/AbstractStringBuilder;" = some ⟨[(.object "java/lang/String")], some (.object "java/lang/AbstractStringBuilder")⟩ := by decide +kernel
theorem c_appstr (hw : HW a0 Z) (C : Ctx Z cs d1 d2 o1 o2) (O0 : zOd Z n0 h0) (a b : Addr) (bs : List Int8) (cap : Nat) (B0 : Sb Z h0 a b bs cap) (hC : cap < 400000) (g_a : n0 ≤ a) (g_b : n0 ≤ b) (r x : Addr) (xs : List Int8) (B1 : Sx Z h0 r x xs) (hX : xs.length < 400000) (ne_ra : r ≠ a) (ne_rb : r ≠ b) (ne_xa : x ≠ a) (ne_xb : x ≠ b) : zCon l Z (⟨"java/lang/StringBuilder", "append", "(Ljava/lang/String;)Ljava/lang/StringBuilder;"⟩ : MethodName) jdk_67_method_7_code 2 (some (.object "java/lang/StringBuilder")) [] ({ frames := 5, cells := gcell cap (bs.length + xs.length), slots := gslot cap (bs.length + xs.length), locals := 76 } : Room) #[(.ref a), (.ref r)] h0 (fun v h L => v = some (.ref a) ∧ Fr n0 L ∧ Keep h0 h [a, b] ∧ ∃ b2 : Addr, Sb Z h a b2 (bs ++ xs) (gcap cap (bs.length + (xs).length)) ∧ n0 ≤ b2 ∧ (b2 = b ∨ h0.size ≤ b2)) := by
  refine zenter (plainFor_of_name pn_2) (L0 := #[rv a, rv r]) (fun m => by first | rfl | simp [entryFrame, mkF, argsToLocals, Value.category]) ?_
  intro p e s m below meth c T0 hx hZ hby hml hown0 hnm hret hlk X0 e0
  have hown : s.vm.findClass "java/lang/StringBuilder" = some m.cls := hown0
  have K0 := Keep.refl h0 [a, b]
  have N0 := Fr.nil n0
  obtain ⟨E_r, F_r_v, F_r_c, A_x⟩ := id B1
  show zEnds p e below s T0 (mkF m 0 #[rv a, rv r] []) _ _ _
  refine zaloadN X0 hx hby d16_0 rfl rfl (zaloadN X0 hx hby d16_1 rfl rfl (zcallsup X0 hx hby d16_2 hZ hown (by decide) (w83 hw) (nfASB hw (w84 hw) rfl) (w84 hw) (w85 hw) (w87 hw) (w69 hw) e0 (Sb.exa B0) (c_appstr0 l hw  C O0 a b (bs) cap B0 (by first | omega | (simp only [List.length_replicate, List.length_append, List.length_take, List.length_drop, List.length_nil, List.length_cons]; omega)) g_a g_b r x (xs) ⟨E_r, F_r_v, F_r_c, A_x⟩ (by first | omega | (simp only [List.length_replicate, List.length_append, List.length_take, List.length_drop, List.length_nil, List.length_cons]; omega)) ne_ra ne_rb ne_xa ne_xb) hml 0 pd_10 (argsL := [(.ref r)]) (st := []) fun T1 h1 v1 L1 e1 X1 q1 => ?_))
  obtain ⟨rfl, N1q, K1q, b1, B1_a, g1_b, o1⟩ := q1
  have K1 := Keep.trans K0 K1q (allS (Or.inl (List.mem_of_getElem? (i := 0) rfl)) (allS (Or.inl (List.mem_of_getElem? (i := 1) rfl)) all0))
  have N1 := Fr.app N0 N1q
  show zEnds p e below s T1 (mkF m 5 #[rv a, rv r] [(.ref a)]) _ _ _
  refine zpop X1 hx hby d16_5 rfl (zaloadN X1 hx hby d16_6 rfl rfl ?_)
  show zEnds p e below s T1 (mkF m 7 #[rv a, rv r] [(.ref a)]) _ _ _
  exact zretA X1 hx hby d16_7 hret hlk rfl rfl rfl (by first | decide | omega | (dsimp only; omega)) (by first | decide | omega | (dsimp only; omega)) (by rw [e1]; exact ⟨rfl, N1, K1, b1, B1_a, g1_b, o1⟩)
/-! decimal digits -/
theorem dec_wf {n : Nat} (h : ¬ n < 10) : n / 10 < n := by omega
def dec (n : Nat) : List Int8 := if h : n < 10 then [dg n] else dec (n / 10) ++ [dg (n % 10)]
termination_by n
decreasing_by exact dec_wf h
theorem dec_lt {n : Nat} (h : n < 10) : dec n = [dg n] := by rw [dec, dif_pos h]
theorem dec_ge {n : Nat} (h : ¬ n < 10) : dec n = dec (n / 10) ++ [dg (n % 10)] := by rw [dec, dif_neg h]
theorem dec_ge100 {n : Nat} (h : 100 ≤ n) : dec n = dec (n / 100) ++ [dg (n % 100 / 10), dg (n % 100 % 10)] := by
  rw [dec_ge (by omega), dec_ge (n := n / 10) (by omega), List.append_assoc, Nat.div_div_eq_div_mul]
  have e1 : n / 10 % 10 = n % 100 / 10 := by omega
  have e2 : n % 10 = n % 100 % 10 := by omega
  rw [e1, e2]; rfl
theorem dec_two {n : Nat} (h : 9 < n) (h' : n < 100) : dec n = [dg (n / 10), dg (n % 10)] := by
  rw [dec_ge (by omega), dec_lt (n := n / 10) (by omega)]; rfl
theorem dec_len_pos (n : Nat) : 1 ≤ (dec n).length := by
  by_cases h : n < 10
  · rw [dec_lt h]; simp
  · rw [dec_ge h]; simp
theorem dec_len : ∀ (i n : Nat), n < 10 ^ (i + 1) → (i = 0 ∨ 10 ^ i ≤ n) → (dec n).length = i + 1
  | 0, n, h, _ => by rw [dec_lt (by simpa using h)]; rfl
  | i + 1, n, h, h' => by
    have h1 : 10 ^ (i + 1) ≤ n := h'.resolve_left (by omega)
    have h2 : 10 ≤ 10 ^ (i + 1) := by rw [Nat.pow_succ]; have := Nat.pow_pos (n := i) (show 0 < 10 by omega); omega
    rw [dec_ge (by omega), List.length_append, dec_len i (n / 10) (by rw [Nat.pow_succ] at h; omega) ?_]
    · rfl
    · rw [Nat.pow_succ] at h1; exact Or.inr (by omega)
theorem dec_len_le : ∀ (i n : Nat), n < 10 ^ (i + 1) → (dec n).length ≤ i + 1
  | 0, n, h => by rw [dec_lt (by simpa using h)]; exact Nat.le_refl _
  | i + 1, n, h => by
    by_cases h1 : n < 10
    · rw [dec_lt h1]; simp
    · rw [dec_ge h1, List.length_append]; have := dec_len_le i (n / 10) (by rw [Nat.pow_succ] at h; omega); simp; omega
theorem dg_inj {a b : Nat} (ha : a < 10) (hb : b < 10) (h : dg a = dg b) : a = b := by
  have key : ∀ a : Fin 10, ∀ b : Fin 10, dg a.val = dg b.val → a.val = b.val := by decide
  exact key ⟨a, ha⟩ ⟨b, hb⟩ h
theorem dec_inj : ∀ {a b : Nat}, dec a = dec b → a = b := by
  intro a
  induction a using Nat.strongRecOn with
  | ind a ih =>
    intro b h
    by_cases ha : a < 10
    · by_cases hb : b < 10
      · rw [dec_lt ha, dec_lt hb] at h
        exact dg_inj ha hb (List.cons.inj h).1
      · exfalso
        rw [dec_lt ha, dec_ge hb] at h
        have := congrArg List.length h
        have q := dec_len_pos (b / 10)
        rw [List.length_append] at this; simp only [List.length_cons, List.length_nil] at this; omega
    · by_cases hb : b < 10
      · exfalso
        rw [dec_ge ha, dec_lt hb] at h
        have := congrArg List.length h
        have q := dec_len_pos (a / 10)
        rw [List.length_append] at this; simp only [List.length_cons, List.length_nil] at this; omega
      · rw [dec_ge ha, dec_ge hb] at h
        obtain ⟨h1, h2⟩ := List.append_inj' h rfl
        have e1 := ih (a / 10) (by omega) h1
        have e2 := dg_inj (by omega) (by omega) (List.cons.inj h2).1
        omega
/-- ds written from q on -/
def wrt (ys : List Int8) (q : Nat) (ds : List Int8) : List Int8 := ys.take q ++ ds ++ ys.drop (q + ds.length)
theorem wrt_one {ys : List Int8} {q : Nat} (d : Int8) (h : q < ys.length) : ys.set q d = wrt ys q [d] := by
  rw [List.set_eq_take_append_cons_drop, if_pos h, wrt, List.append_assoc]; rfl
theorem wrt_two {ys : List Int8} {q : Nat} (d e : Int8) (h : q + 1 < ys.length) : (ys.set (q + 1) e).set q d = wrt ys q [d, e] := by
  apply List.ext_getElem?
  intro i
  simp only [wrt, List.getElem?_set, List.length_set]
  by_cases h1 : i < q
  · rw [if_neg (by omega), if_neg (by omega), List.append_assoc, List.getElem?_append_left (by rw [List.length_take]; omega), List.getElem?_take_of_lt h1]
  · rw [List.append_assoc, List.getElem?_append_right (by rw [List.length_take]; omega), List.length_take, Nat.min_eq_left (by omega)]
    by_cases h2 : i = q
    · subst h2; rw [if_pos rfl, if_pos (by omega), Nat.sub_self]; rfl
    · rw [if_neg (by omega)]
      by_cases h3 : i = q + 1
      · subst h3; rw [if_pos rfl, if_pos h, show q + 1 - q = 1 by omega]; rfl
      · rw [if_neg (by omega), List.getElem?_append_right (by simp; omega), List.getElem?_drop]
        congr 1; simp; omega
theorem wrt_wrt {ys ds es : List Int8} {q : Nat} (h : q + ds.length + es.length ≤ ys.length) : wrt (wrt ys (q + ds.length) es) q ds = wrt ys q (ds ++ es) := by
  simp only [wrt, List.length_append]
  rw [List.append_assoc (List.take (q + ds.length) ys), List.take_append_of_le_length (by rw [List.length_take]; omega), List.take_take, Nat.min_eq_left (by omega)]
  rw [List.drop_append, List.drop_eq_nil_of_le (by rw [List.length_take]; omega), List.length_take, Nat.min_eq_left (by omega), Nat.sub_self, List.drop_zero, List.nil_append, List.append_assoc, List.append_assoc, List.append_assoc, Nat.add_assoc]
theorem wrt_len {ys ds : List Int8} {q : Nat} (h : q + ds.length ≤ ys.length) : (wrt ys q ds).length = ys.length := by
  simp only [wrt, List.length_append, List.length_take, List.length_drop]; omega
theorem negI_ofN (n : Nat) : -(Int32.ofNat n) = SBG.negI n := by
  show _ = Int32.ofInt (-(n : Int))
  rw [Int32.ofInt_neg]; congr 1
theorem negL_ofN (n : Nat) : -(Int64.ofNat n) = SBG.negL n := by
  show _ = Int64.ofInt (-(n : Int))
  rw [Int64.ofInt_neg]; congr 1
theorem lcmp_pos (x y : Int64) : ((0 : Int32) < lcmpW x y) = (y < x) := by
  unfold lcmpW
  by_cases h : x > y
  · rw [if_pos h]; exact propext ⟨fun _ => h, fun _ => by decide⟩
  · rw [if_neg h]
    split
    · exact propext ⟨fun q => absurd q (by decide), fun q => absurd q h⟩
    · exact propext ⟨fun q => absurd q (by decide), fun q => absurd q h⟩
theorem lcmp_neg (x y : Int64) : (lcmpW x y < (0 : Int32)) = (x < y) := by
  unfold lcmpW
  by_cases h : x > y
  · rw [if_pos h]; exact propext ⟨fun q => absurd q (by decide), fun q => absurd (Int64.lt_trans q h) (Int64.lt_irrefl)⟩
  · rw [if_neg h]
    by_cases h2 : x = y
    · rw [if_pos h2, h2]; exact propext ⟨fun q => absurd q (by decide), fun q => absurd q (Int64.lt_irrefl)⟩
    · rw [if_neg h2]; exact propext ⟨fun _ => by
        have h : ¬ y < x := h; rw [Int64.lt_iff_toInt_lt] at h ⊢; have : x.toInt ≠ y.toInt := fun q => h2 (Int64.toInt_inj.mp q); omega, fun _ => by decide⟩
theorem ofL_toInt {n : Nat} (q : n < 9223372036854775808) : (Int64.ofNat n).toInt = n := Int64.toInt_ofNat_of_lt q
theorem ofL_nn {n : Nat} (q : n < 9223372036854775808) : ¬ Int64.ofNat n < 0 := by
  rw [Int64.lt_iff_toInt_lt, ofL_toInt q]; show ¬ (n : Int) < 0; omega
theorem dec1 {k : Nat} (h : 1 ≤ k) : Int32.ofNat k + Int32.ofInt (-1) = Int32.ofNat (k - 1) := by
  rw [Int32.ofNat_sub _ _ h, Int32.sub_eq_add_neg]; rfl
theorem nar_b (b : Int8) : nar .byte b.toInt32 = b.toInt32 := by
  show b.toInt32.toInt8.toInt32 = _
  simp
theorem inc1 (k : Nat) : Int32.ofNat k + Int32.ofInt 1 = Int32.ofNat (k + 1) := (Int32.ofNat_add k 1).symm
theorem ofL_lt {a b : Nat} (qa : a < 9223372036854775808) (qb : b < 9223372036854775808) : (Int64.ofNat a < Int64.ofNat b) = (a < b) := by
  rw [Int64.lt_iff_toInt_lt, ofL_toInt qa, ofL_toInt qb]; exact propext (by omega)
theorem i2l_ofN {n : Nat} (q : n < 2147483648) : (Int32.ofNat n).toInt64 = Int64.ofNat n := by
  apply Int64.toInt_inj.mp
  rw [Int32.toInt_toInt64, Int32.toInt_ofNat_of_lt q, ofL_toInt (by omega)]
theorem l2i_ofN {n : Nat} (q : n < 2147483648) : (Int64.ofNat n).toInt32 = Int32.ofNat n := by simp
theorem take_next {xs zs : List Int8} {i : Nat} {u : Int8} (h : xs.take i = zs.take i) (h1 : xs[i]? = some u) (h2 : zs[i]? = some u) : xs.take (i + 1) = zs.take (i + 1) := by
  rw [List.take_add_one, List.take_add_one, h, h1, h2]
theorem take_all {xs zs : List Int8} {i : Nat} (h : xs.take i = zs.take i) (h1 : ¬ i < xs.length) (h2 : xs.length = zs.length) : xs = zs := by
  rw [List.take_of_length_le (by omega), List.take_of_length_le (by omega)] at h; exact h
theorem i8_inj {a b : Int8} (h : a.toInt32 = b.toInt32) : a = b := by
  have q := congrArg Int32.toInt h
  rw [Int8.toInt_toInt32, Int8.toInt_toInt32] at q
  exact Int8.toInt_inj.mp q

theorem w189 (hw : HW a0 Z) : (Cond.constantLong "java/lang/Long" 140 (-10 : Int64)).before a0 Z = true := hwi hw 189 rfl
theorem w196 (hw : HW a0 Z) : (Cond.constantLong "java/lang/Long" 53 (10 : Int64)).before a0 Z = true := hwi hw 196 rfl
theorem d17_0 : decode jdk_33_method_13_code 0 = .ok (.iconst 1, 1) := by decide +kernel
theorem d17_1 : decode jdk_33_method_13_code 1 = .ok (.istore_n 1, 1) := by decide +kernel
theorem d17_2 : decode jdk_33_method_13_code 2 = .ok (.iload_n 0, 1) := by decide +kernel
theorem d17_3 : decode jdk_33_method_13_code 3 = .ok (.ifCond .lt 8, 3) := by decide +kernel
theorem d17_6 : decode jdk_33_method_13_code 6 = .ok (.iconst 0, 1) := by decide +kernel
theorem d17_7 : decode jdk_33_method_13_code 7 = .ok (.istore_n 1, 1) := by decide +kernel
theorem d17_8 : decode jdk_33_method_13_code 8 = .ok (.iload_n 0, 1) := by decide +kernel
theorem d17_9 : decode jdk_33_method_13_code 9 = .ok (.ineg, 1) := by decide +kernel
theorem d17_10 : decode jdk_33_method_13_code 10 = .ok (.istore_n 0, 1) := by decide +kernel
theorem d17_11 : decode jdk_33_method_13_code 11 = .ok (.bipush (-10), 2) := by decide +kernel
theorem d17_13 : decode jdk_33_method_13_code 13 = .ok (.istore_n 2, 1) := by decide +kernel
theorem d17_14 : decode jdk_33_method_13_code 14 = .ok (.iconst 1, 1) := by decide +kernel
theorem d17_15 : decode jdk_33_method_13_code 15 = .ok (.istore_n 3, 1) := by decide +kernel
theorem d17_16 : decode jdk_33_method_13_code 16 = .ok (.iload_n 3, 1) := by decide +kernel
theorem d17_17 : decode jdk_33_method_13_code 17 = .ok (.bipush 10, 2) := by decide +kernel
theorem d17_19 : decode jdk_33_method_13_code 19 = .ok (.if_icmp .ge 23, 3) := by decide +kernel
theorem d17_22 : decode jdk_33_method_13_code 22 = .ok (.iload_n 0, 1) := by decide +kernel
theorem d17_23 : decode jdk_33_method_13_code 23 = .ok (.iload_n 2, 1) := by decide +kernel
theorem d17_24 : decode jdk_33_method_13_code 24 = .ok (.if_icmp .le 7, 3) := by decide +kernel
theorem d17_27 : decode jdk_33_method_13_code 27 = .ok (.iload_n 3, 1) := by decide +kernel
theorem d17_28 : decode jdk_33_method_13_code 28 = .ok (.iload_n 1, 1) := by decide +kernel
theorem d17_29 : decode jdk_33_method_13_code 29 = .ok (.iadd, 1) := by decide +kernel
theorem d17_30 : decode jdk_33_method_13_code 30 = .ok (.ireturn, 1) := by decide +kernel
theorem d17_31 : decode jdk_33_method_13_code 31 = .ok (.bipush 10, 2) := by decide +kernel
theorem d17_33 : decode jdk_33_method_13_code 33 = .ok (.iload_n 2, 1) := by decide +kernel
theorem d17_34 : decode jdk_33_method_13_code 34 = .ok (.imul, 1) := by decide +kernel
theorem d17_35 : decode jdk_33_method_13_code 35 = .ok (.istore_n 2, 1) := by decide +kernel
theorem d17_36 : decode jdk_33_method_13_code 36 = .ok (.iinc 3 1, 3) := by decide +kernel
theorem d17_39 : decode jdk_33_method_13_code 39 = .ok (.goto (-23), 3) := by decide +kernel
theorem d17_42 : decode jdk_33_method_13_code 42 = .ok (.bipush 10, 2) := by decide +kernel
theorem d17_44 : decode jdk_33_method_13_code 44 = .ok (.iload_n 1, 1) := by decide +kernel
theorem d17_45 : decode jdk_33_method_13_code 45 = .ok (.iadd, 1) := by decide +kernel
theorem d17_46 : decode jdk_33_method_13_code 46 = .ok (.ireturn, 1) := by decide +kernel
theorem d18_0 : decode jdk_35_method_15_code 0 = .ok (.iconst 1, 1) := by decide +kernel
theorem d18_1 : decode jdk_35_method_15_code 1 = .ok (.istore_n 2, 1) := by decide +kernel
theorem d18_2 : decode jdk_35_method_15_code 2 = .ok (.lload_n 0, 1) := by decide +kernel
theorem d18_3 : decode jdk_35_method_15_code 3 = .ok (.lconst 0, 1) := by decide +kernel
theorem d18_4 : decode jdk_35_method_15_code 4 = .ok (.lcmp, 1) := by decide +kernel
theorem d18_5 : decode jdk_35_method_15_code 5 = .ok (.ifCond .lt 8, 3) := by decide +kernel
theorem d18_8 : decode jdk_35_method_15_code 8 = .ok (.iconst 0, 1) := by decide +kernel
theorem d18_9 : decode jdk_35_method_15_code 9 = .ok (.istore_n 2, 1) := by decide +kernel
theorem d18_10 : decode jdk_35_method_15_code 10 = .ok (.lload_n 0, 1) := by decide +kernel
theorem d18_11 : decode jdk_35_method_15_code 11 = .ok (.lneg, 1) := by decide +kernel
theorem d18_12 : decode jdk_35_method_15_code 12 = .ok (.lstore_n 0, 1) := by decide +kernel
theorem d18_13 : decode jdk_35_method_15_code 13 = .ok (.ldc2_w 140, 3) := by decide +kernel
theorem d18_16 : decode jdk_35_method_15_code 16 = .ok (.lstore_n 3, 1) := by decide +kernel
theorem d18_17 : decode jdk_35_method_15_code 17 = .ok (.iconst 1, 1) := by decide +kernel
theorem d18_18 : decode jdk_35_method_15_code 18 = .ok (.istore 5, 2) := by decide +kernel
theorem d18_20 : decode jdk_35_method_15_code 20 = .ok (.iload 5, 2) := by decide +kernel
theorem d18_22 : decode jdk_35_method_15_code 22 = .ok (.bipush 19, 2) := by decide +kernel
theorem d18_24 : decode jdk_35_method_15_code 24 = .ok (.if_icmp .ge 26, 3) := by decide +kernel
theorem d18_27 : decode jdk_35_method_15_code 27 = .ok (.lload_n 0, 1) := by decide +kernel
theorem d18_28 : decode jdk_35_method_15_code 28 = .ok (.lload_n 3, 1) := by decide +kernel
theorem d18_29 : decode jdk_35_method_15_code 29 = .ok (.lcmp, 1) := by decide +kernel
theorem d18_30 : decode jdk_35_method_15_code 30 = .ok (.ifCond .le 8, 3) := by decide +kernel
theorem d18_33 : decode jdk_35_method_15_code 33 = .ok (.iload 5, 2) := by decide +kernel
theorem d18_35 : decode jdk_35_method_15_code 35 = .ok (.iload_n 2, 1) := by decide +kernel
theorem d18_36 : decode jdk_35_method_15_code 36 = .ok (.iadd, 1) := by decide +kernel
theorem d18_37 : decode jdk_35_method_15_code 37 = .ok (.ireturn, 1) := by decide +kernel
theorem d18_38 : decode jdk_35_method_15_code 38 = .ok (.ldc2_w 53, 3) := by decide +kernel
theorem d18_41 : decode jdk_35_method_15_code 41 = .ok (.lload_n 3, 1) := by decide +kernel
theorem d18_42 : decode jdk_35_method_15_code 42 = .ok (.lmul, 1) := by decide +kernel
theorem d18_43 : decode jdk_35_method_15_code 43 = .ok (.lstore_n 3, 1) := by decide +kernel
theorem d18_44 : decode jdk_35_method_15_code 44 = .ok (.iinc 5 1, 3) := by decide +kernel
theorem d18_47 : decode jdk_35_method_15_code 47 = .ok (.goto (-27), 3) := by decide +kernel
theorem d18_50 : decode jdk_35_method_15_code 50 = .ok (.bipush 19, 2) := by decide +kernel
theorem d18_52 : decode jdk_35_method_15_code 52 = .ok (.iload_n 2, 1) := by decide +kernel
theorem d18_53 : decode jdk_35_method_15_code 53 = .ok (.iadd, 1) := by decide +kernel
theorem d18_54 : decode jdk_35_method_15_code 54 = .ok (.ireturn, 1) := by decide +kernel
theorem pn_5 : plainName "java/lang/Integer" = true := by first | (simp [plainName, overriddenIn]; done) | decide +kernel
theorem pn_6 : plainName "java/lang/Long" = true := by first | (simp [plainName, overriddenIn]; done) | decide +kernel
theorem c_sizeI (hw : HW a0 Z) (C : Ctx Z cs d1 d2 o1 o2) (O0 : zOd Z n0 h0) (n : Nat) (hn : n < 2147483648) : zCon l Z (⟨"java/lang/Integer", "stringSize", "(I)I"⟩ : MethodName) jdk_33_method_13_code 4 (some .int) [] ({ frames := 0, cells := 0, slots := 0, locals := 0 } : Room) #[(.int (Int32.ofNat (n)))] h0 (zSame (some (.int (Int32.ofNat ((dec n).length)))) h0) := by
  refine zenter (plainFor_of_name pn_5) (L0 := #[iv (Int32.ofNat (n)), .unset, .unset, .unset]) (fun m => by first | rfl | simp [entryFrame, mkF, argsToLocals, Value.category]) ?_
  intro p e s m below meth c T0 hx hZ hby hml hown0 hnm hret hlk X0 e0
  have hown : s.vm.findClass "java/lang/Integer" = some m.cls := hown0
  show zEnds p e below s T0 (mkF m 0 #[iv (Int32.ofNat (n)), .unset, .unset, .unset] []) _ _ _
  refine ziconst X0 hx hby d17_0 (z := (1 : Int32)) rfl (zistoreN X0 hx hby d17_1 (L' := #[iv (Int32.ofNat (n)), iv 1, .unset, .unset]) rfl (ziloadN X0 hx hby d17_2 rfl (zifNo X0 hx hby d17_3 ((if0 _ _).trans (flt (show ¬ ((Int32.ofNat (n)) < Int32.ofNat (0)) from by rw [zofN_lt (by omega) (by omega)]; omega)).1) (ziconst X0 hx hby d17_6 (z := (0 : Int32)) rfl (zistoreN X0 hx hby d17_7 (L' := #[iv (Int32.ofNat (n)), iv 0, .unset, .unset]) rfl (ziloadN X0 hx hby d17_8 rfl (zineg X0 hx hby d17_9 (SBG.negI (n)) (negI_ofN _) (zistoreN X0 hx hby d17_10 (L' := #[iv (SBG.negI (n)), iv 0, .unset, .unset]) rfl (zbipush X0 hx hby d17_11 (z := (-10 : Int32)) rfl ?_)))))))))
  show zEnds p e below s T0 (mkF m 13 #[iv (SBG.negI (n)), iv 0, .unset, .unset] [(.int (-10))]) _ _ _
  refine zistoreN X0 hx hby d17_13 (L' := #[iv (SBG.negI (n)), iv 0, iv (-10), .unset]) rfl (ziconst X0 hx hby d17_14 (z := (1 : Int32)) rfl (zistoreN X0 hx hby d17_15 (L' := #[iv (SBG.negI (n)), iv 0, iv (-10), iv 1]) rfl (ziloadN X0 hx hby d17_16 rfl (zbipush X0 hx hby d17_17 (z := (10 : Int32)) rfl (zicmpNo X0 hx hby d17_19 (by decide) (ziloadN X0 hx hby d17_22 rfl (ziloadN X0 hx hby d17_23 rfl ?_)))))))
  show zEnds p e below s T0 (mkF m 24 #[iv (SBG.negI (n)), iv 0, iv (-10), iv 1] [(.int (-10)), (.int (SBG.negI (n)))]) _ _ _
  by_cases hd1 : n < 10
  · refine zicmpNo X0 hx hby d17_24 (tlt (show (-10 : Int32) < (SBG.negI (n)) from by rw [show (-10 : Int32) = SBG.negI 10 from by decide, SBG.negI_lt (by omega) _ (by omega)]; omega)).2.2.2 (ziloadN X0 hx hby d17_27 rfl (ziloadN X0 hx hby d17_28 rfl (ziadd X0 hx hby d17_29 (1 : Int32) (by decide) ?_)))
    show zEnds p e below s T0 (mkF m 30 #[iv (SBG.negI (n)), iv 0, iv (-10), iv 1] [(.int 1)]) _ _ _
    exact zretI X0 hx hby d17_30 hret hlk (by first | decide | omega | (dsimp only; omega)) (by first | decide | omega | (dsimp only; omega)) (⟨by rw [dec_len 0 n (by omega) (by omega)]; rfl, e0, rfl⟩)
  · refine zicmpYes X0 hx hby d17_24 31 (flt (show ¬ ((-10 : Int32) < (SBG.negI (n))) from by rw [show (-10 : Int32) = SBG.negI 10 from by decide, SBG.negI_lt (by omega) _ (by omega)]; omega)).2.2.2 (by decide) (by decide) (zbipush X0 hx hby d17_31 (z := (10 : Int32)) rfl (ziloadN X0 hx hby d17_33 rfl (zimul X0 hx hby d17_34 (-100 : Int32) (by decide) (zistoreN X0 hx hby d17_35 (L' := #[iv (SBG.negI (n)), iv 0, iv (-100), iv 1]) rfl (ziinc X0 hx hby d17_36 (L' := #[iv (SBG.negI (n)), iv 0, iv (-100), iv 2]) rfl rfl (zgoto X0 hx hby d17_39 16 (by decide) (by decide) (ziloadN X0 hx hby d17_16 rfl (zbipush X0 hx hby d17_17 (z := (10 : Int32)) rfl (zicmpNo X0 hx hby d17_19 (by decide) ?_)))))))))
    show zEnds p e below s T0 (mkF m 22 #[iv (SBG.negI (n)), iv 0, iv (-100), iv 2] []) _ _ _
    refine ziloadN X0 hx hby d17_22 rfl (ziloadN X0 hx hby d17_23 rfl ?_)
    show zEnds p e below s T0 (mkF m 24 #[iv (SBG.negI (n)), iv 0, iv (-100), iv 2] [(.int (-100)), (.int (SBG.negI (n)))]) _ _ _
    by_cases hd2 : n < 100
    · refine zicmpNo X0 hx hby d17_24 (tlt (show (-100 : Int32) < (SBG.negI (n)) from by rw [show (-100 : Int32) = SBG.negI 100 from by decide, SBG.negI_lt (by omega) _ (by omega)]; omega)).2.2.2 (ziloadN X0 hx hby d17_27 rfl (ziloadN X0 hx hby d17_28 rfl (ziadd X0 hx hby d17_29 (2 : Int32) (by decide) ?_)))
      show zEnds p e below s T0 (mkF m 30 #[iv (SBG.negI (n)), iv 0, iv (-100), iv 2] [(.int 2)]) _ _ _
      exact zretI X0 hx hby d17_30 hret hlk (by first | decide | omega | (dsimp only; omega)) (by first | decide | omega | (dsimp only; omega)) (⟨by rw [dec_len 1 n (by omega) (by omega)]; rfl, e0, rfl⟩)
    · refine zicmpYes X0 hx hby d17_24 31 (flt (show ¬ ((-100 : Int32) < (SBG.negI (n))) from by rw [show (-100 : Int32) = SBG.negI 100 from by decide, SBG.negI_lt (by omega) _ (by omega)]; omega)).2.2.2 (by decide) (by decide) (zbipush X0 hx hby d17_31 (z := (10 : Int32)) rfl (ziloadN X0 hx hby d17_33 rfl (zimul X0 hx hby d17_34 (-1000 : Int32) (by decide) (zistoreN X0 hx hby d17_35 (L' := #[iv (SBG.negI (n)), iv 0, iv (-1000), iv 2]) rfl (ziinc X0 hx hby d17_36 (L' := #[iv (SBG.negI (n)), iv 0, iv (-1000), iv 3]) rfl rfl (zgoto X0 hx hby d17_39 16 (by decide) (by decide) (ziloadN X0 hx hby d17_16 rfl (zbipush X0 hx hby d17_17 (z := (10 : Int32)) rfl (zicmpNo X0 hx hby d17_19 (by decide) ?_)))))))))
      show zEnds p e below s T0 (mkF m 22 #[iv (SBG.negI (n)), iv 0, iv (-1000), iv 3] []) _ _ _
      refine ziloadN X0 hx hby d17_22 rfl (ziloadN X0 hx hby d17_23 rfl ?_)
      show zEnds p e below s T0 (mkF m 24 #[iv (SBG.negI (n)), iv 0, iv (-1000), iv 3] [(.int (-1000)), (.int (SBG.negI (n)))]) _ _ _
      by_cases hd3 : n < 1000
      · refine zicmpNo X0 hx hby d17_24 (tlt (show (-1000 : Int32) < (SBG.negI (n)) from by rw [show (-1000 : Int32) = SBG.negI 1000 from by decide, SBG.negI_lt (by omega) _ (by omega)]; omega)).2.2.2 (ziloadN X0 hx hby d17_27 rfl (ziloadN X0 hx hby d17_28 rfl (ziadd X0 hx hby d17_29 (3 : Int32) (by decide) ?_)))
        show zEnds p e below s T0 (mkF m 30 #[iv (SBG.negI (n)), iv 0, iv (-1000), iv 3] [(.int 3)]) _ _ _
        exact zretI X0 hx hby d17_30 hret hlk (by first | decide | omega | (dsimp only; omega)) (by first | decide | omega | (dsimp only; omega)) (⟨by rw [dec_len 2 n (by omega) (by omega)]; rfl, e0, rfl⟩)
      · refine zicmpYes X0 hx hby d17_24 31 (flt (show ¬ ((-1000 : Int32) < (SBG.negI (n))) from by rw [show (-1000 : Int32) = SBG.negI 1000 from by decide, SBG.negI_lt (by omega) _ (by omega)]; omega)).2.2.2 (by decide) (by decide) (zbipush X0 hx hby d17_31 (z := (10 : Int32)) rfl (ziloadN X0 hx hby d17_33 rfl (zimul X0 hx hby d17_34 (-10000 : Int32) (by decide) (zistoreN X0 hx hby d17_35 (L' := #[iv (SBG.negI (n)), iv 0, iv (-10000), iv 3]) rfl (ziinc X0 hx hby d17_36 (L' := #[iv (SBG.negI (n)), iv 0, iv (-10000), iv 4]) rfl rfl (zgoto X0 hx hby d17_39 16 (by decide) (by decide) (ziloadN X0 hx hby d17_16 rfl (zbipush X0 hx hby d17_17 (z := (10 : Int32)) rfl (zicmpNo X0 hx hby d17_19 (by decide) ?_)))))))))
        show zEnds p e below s T0 (mkF m 22 #[iv (SBG.negI (n)), iv 0, iv (-10000), iv 4] []) _ _ _
        refine ziloadN X0 hx hby d17_22 rfl (ziloadN X0 hx hby d17_23 rfl ?_)
        show zEnds p e below s T0 (mkF m 24 #[iv (SBG.negI (n)), iv 0, iv (-10000), iv 4] [(.int (-10000)), (.int (SBG.negI (n)))]) _ _ _
        by_cases hd4 : n < 10000
        · refine zicmpNo X0 hx hby d17_24 (tlt (show (-10000 : Int32) < (SBG.negI (n)) from by rw [show (-10000 : Int32) = SBG.negI 10000 from by decide, SBG.negI_lt (by omega) _ (by omega)]; omega)).2.2.2 (ziloadN X0 hx hby d17_27 rfl (ziloadN X0 hx hby d17_28 rfl (ziadd X0 hx hby d17_29 (4 : Int32) (by decide) ?_)))
          show zEnds p e below s T0 (mkF m 30 #[iv (SBG.negI (n)), iv 0, iv (-10000), iv 4] [(.int 4)]) _ _ _
          exact zretI X0 hx hby d17_30 hret hlk (by first | decide | omega | (dsimp only; omega)) (by first | decide | omega | (dsimp only; omega)) (⟨by rw [dec_len 3 n (by omega) (by omega)]; rfl, e0, rfl⟩)
        · refine zicmpYes X0 hx hby d17_24 31 (flt (show ¬ ((-10000 : Int32) < (SBG.negI (n))) from by rw [show (-10000 : Int32) = SBG.negI 10000 from by decide, SBG.negI_lt (by omega) _ (by omega)]; omega)).2.2.2 (by decide) (by decide) (zbipush X0 hx hby d17_31 (z := (10 : Int32)) rfl (ziloadN X0 hx hby d17_33 rfl (zimul X0 hx hby d17_34 (-100000 : Int32) (by decide) (zistoreN X0 hx hby d17_35 (L' := #[iv (SBG.negI (n)), iv 0, iv (-100000), iv 4]) rfl (ziinc X0 hx hby d17_36 (L' := #[iv (SBG.negI (n)), iv 0, iv (-100000), iv 5]) rfl rfl (zgoto X0 hx hby d17_39 16 (by decide) (by decide) (ziloadN X0 hx hby d17_16 rfl (zbipush X0 hx hby d17_17 (z := (10 : Int32)) rfl (zicmpNo X0 hx hby d17_19 (by decide) ?_)))))))))
          show zEnds p e below s T0 (mkF m 22 #[iv (SBG.negI (n)), iv 0, iv (-100000), iv 5] []) _ _ _
          refine ziloadN X0 hx hby d17_22 rfl (ziloadN X0 hx hby d17_23 rfl ?_)
          show zEnds p e below s T0 (mkF m 24 #[iv (SBG.negI (n)), iv 0, iv (-100000), iv 5] [(.int (-100000)), (.int (SBG.negI (n)))]) _ _ _
          by_cases hd5 : n < 100000
          · refine zicmpNo X0 hx hby d17_24 (tlt (show (-100000 : Int32) < (SBG.negI (n)) from by rw [show (-100000 : Int32) = SBG.negI 100000 from by decide, SBG.negI_lt (by omega) _ (by omega)]; omega)).2.2.2 (ziloadN X0 hx hby d17_27 rfl (ziloadN X0 hx hby d17_28 rfl (ziadd X0 hx hby d17_29 (5 : Int32) (by decide) ?_)))
            show zEnds p e below s T0 (mkF m 30 #[iv (SBG.negI (n)), iv 0, iv (-100000), iv 5] [(.int 5)]) _ _ _
            exact zretI X0 hx hby d17_30 hret hlk (by first | decide | omega | (dsimp only; omega)) (by first | decide | omega | (dsimp only; omega)) (⟨by rw [dec_len 4 n (by omega) (by omega)]; rfl, e0, rfl⟩)
          · refine zicmpYes X0 hx hby d17_24 31 (flt (show ¬ ((-100000 : Int32) < (SBG.negI (n))) from by rw [show (-100000 : Int32) = SBG.negI 100000 from by decide, SBG.negI_lt (by omega) _ (by omega)]; omega)).2.2.2 (by decide) (by decide) (zbipush X0 hx hby d17_31 (z := (10 : Int32)) rfl (ziloadN X0 hx hby d17_33 rfl (zimul X0 hx hby d17_34 (-1000000 : Int32) (by decide) (zistoreN X0 hx hby d17_35 (L' := #[iv (SBG.negI (n)), iv 0, iv (-1000000), iv 5]) rfl (ziinc X0 hx hby d17_36 (L' := #[iv (SBG.negI (n)), iv 0, iv (-1000000), iv 6]) rfl rfl (zgoto X0 hx hby d17_39 16 (by decide) (by decide) (ziloadN X0 hx hby d17_16 rfl (zbipush X0 hx hby d17_17 (z := (10 : Int32)) rfl (zicmpNo X0 hx hby d17_19 (by decide) ?_)))))))))
            show zEnds p e below s T0 (mkF m 22 #[iv (SBG.negI (n)), iv 0, iv (-1000000), iv 6] []) _ _ _
            refine ziloadN X0 hx hby d17_22 rfl (ziloadN X0 hx hby d17_23 rfl ?_)
            show zEnds p e below s T0 (mkF m 24 #[iv (SBG.negI (n)), iv 0, iv (-1000000), iv 6] [(.int (-1000000)), (.int (SBG.negI (n)))]) _ _ _
            by_cases hd6 : n < 1000000
            · refine zicmpNo X0 hx hby d17_24 (tlt (show (-1000000 : Int32) < (SBG.negI (n)) from by rw [show (-1000000 : Int32) = SBG.negI 1000000 from by decide, SBG.negI_lt (by omega) _ (by omega)]; omega)).2.2.2 (ziloadN X0 hx hby d17_27 rfl (ziloadN X0 hx hby d17_28 rfl (ziadd X0 hx hby d17_29 (6 : Int32) (by decide) ?_)))
              show zEnds p e below s T0 (mkF m 30 #[iv (SBG.negI (n)), iv 0, iv (-1000000), iv 6] [(.int 6)]) _ _ _
              exact zretI X0 hx hby d17_30 hret hlk (by first | decide | omega | (dsimp only; omega)) (by first | decide | omega | (dsimp only; omega)) (⟨by rw [dec_len 5 n (by omega) (by omega)]; rfl, e0, rfl⟩)
            · refine zicmpYes X0 hx hby d17_24 31 (flt (show ¬ ((-1000000 : Int32) < (SBG.negI (n))) from by rw [show (-1000000 : Int32) = SBG.negI 1000000 from by decide, SBG.negI_lt (by omega) _ (by omega)]; omega)).2.2.2 (by decide) (by decide) (zbipush X0 hx hby d17_31 (z := (10 : Int32)) rfl (ziloadN X0 hx hby d17_33 rfl (zimul X0 hx hby d17_34 (-10000000 : Int32) (by decide) (zistoreN X0 hx hby d17_35 (L' := #[iv (SBG.negI (n)), iv 0, iv (-10000000), iv 6]) rfl (ziinc X0 hx hby d17_36 (L' := #[iv (SBG.negI (n)), iv 0, iv (-10000000), iv 7]) rfl rfl (zgoto X0 hx hby d17_39 16 (by decide) (by decide) (ziloadN X0 hx hby d17_16 rfl (zbipush X0 hx hby d17_17 (z := (10 : Int32)) rfl (zicmpNo X0 hx hby d17_19 (by decide) ?_)))))))))
              show zEnds p e below s T0 (mkF m 22 #[iv (SBG.negI (n)), iv 0, iv (-10000000), iv 7] []) _ _ _
              refine ziloadN X0 hx hby d17_22 rfl (ziloadN X0 hx hby d17_23 rfl ?_)
              show zEnds p e below s T0 (mkF m 24 #[iv (SBG.negI (n)), iv 0, iv (-10000000), iv 7] [(.int (-10000000)), (.int (SBG.negI (n)))]) _ _ _
              by_cases hd7 : n < 10000000
              · refine zicmpNo X0 hx hby d17_24 (tlt (show (-10000000 : Int32) < (SBG.negI (n)) from by rw [show (-10000000 : Int32) = SBG.negI 10000000 from by decide, SBG.negI_lt (by omega) _ (by omega)]; omega)).2.2.2 (ziloadN X0 hx hby d17_27 rfl (ziloadN X0 hx hby d17_28 rfl (ziadd X0 hx hby d17_29 (7 : Int32) (by decide) ?_)))
                show zEnds p e below s T0 (mkF m 30 #[iv (SBG.negI (n)), iv 0, iv (-10000000), iv 7] [(.int 7)]) _ _ _
                exact zretI X0 hx hby d17_30 hret hlk (by first | decide | omega | (dsimp only; omega)) (by first | decide | omega | (dsimp only; omega)) (⟨by rw [dec_len 6 n (by omega) (by omega)]; rfl, e0, rfl⟩)
              · refine zicmpYes X0 hx hby d17_24 31 (flt (show ¬ ((-10000000 : Int32) < (SBG.negI (n))) from by rw [show (-10000000 : Int32) = SBG.negI 10000000 from by decide, SBG.negI_lt (by omega) _ (by omega)]; omega)).2.2.2 (by decide) (by decide) (zbipush X0 hx hby d17_31 (z := (10 : Int32)) rfl (ziloadN X0 hx hby d17_33 rfl (zimul X0 hx hby d17_34 (-100000000 : Int32) (by decide) (zistoreN X0 hx hby d17_35 (L' := #[iv (SBG.negI (n)), iv 0, iv (-100000000), iv 7]) rfl (ziinc X0 hx hby d17_36 (L' := #[iv (SBG.negI (n)), iv 0, iv (-100000000), iv 8]) rfl rfl (zgoto X0 hx hby d17_39 16 (by decide) (by decide) (ziloadN X0 hx hby d17_16 rfl (zbipush X0 hx hby d17_17 (z := (10 : Int32)) rfl (zicmpNo X0 hx hby d17_19 (by decide) ?_)))))))))
                show zEnds p e below s T0 (mkF m 22 #[iv (SBG.negI (n)), iv 0, iv (-100000000), iv 8] []) _ _ _
                refine ziloadN X0 hx hby d17_22 rfl (ziloadN X0 hx hby d17_23 rfl ?_)
                show zEnds p e below s T0 (mkF m 24 #[iv (SBG.negI (n)), iv 0, iv (-100000000), iv 8] [(.int (-100000000)), (.int (SBG.negI (n)))]) _ _ _
                by_cases hd8 : n < 100000000
                · refine zicmpNo X0 hx hby d17_24 (tlt (show (-100000000 : Int32) < (SBG.negI (n)) from by rw [show (-100000000 : Int32) = SBG.negI 100000000 from by decide, SBG.negI_lt (by omega) _ (by omega)]; omega)).2.2.2 (ziloadN X0 hx hby d17_27 rfl (ziloadN X0 hx hby d17_28 rfl (ziadd X0 hx hby d17_29 (8 : Int32) (by decide) ?_)))
                  show zEnds p e below s T0 (mkF m 30 #[iv (SBG.negI (n)), iv 0, iv (-100000000), iv 8] [(.int 8)]) _ _ _
                  exact zretI X0 hx hby d17_30 hret hlk (by first | decide | omega | (dsimp only; omega)) (by first | decide | omega | (dsimp only; omega)) (⟨by rw [dec_len 7 n (by omega) (by omega)]; rfl, e0, rfl⟩)
                · refine zicmpYes X0 hx hby d17_24 31 (flt (show ¬ ((-100000000 : Int32) < (SBG.negI (n))) from by rw [show (-100000000 : Int32) = SBG.negI 100000000 from by decide, SBG.negI_lt (by omega) _ (by omega)]; omega)).2.2.2 (by decide) (by decide) (zbipush X0 hx hby d17_31 (z := (10 : Int32)) rfl (ziloadN X0 hx hby d17_33 rfl (zimul X0 hx hby d17_34 (-1000000000 : Int32) (by decide) (zistoreN X0 hx hby d17_35 (L' := #[iv (SBG.negI (n)), iv 0, iv (-1000000000), iv 8]) rfl (ziinc X0 hx hby d17_36 (L' := #[iv (SBG.negI (n)), iv 0, iv (-1000000000), iv 9]) rfl rfl (zgoto X0 hx hby d17_39 16 (by decide) (by decide) (ziloadN X0 hx hby d17_16 rfl (zbipush X0 hx hby d17_17 (z := (10 : Int32)) rfl (zicmpNo X0 hx hby d17_19 (by decide) ?_)))))))))
                  show zEnds p e below s T0 (mkF m 22 #[iv (SBG.negI (n)), iv 0, iv (-1000000000), iv 9] []) _ _ _
                  refine ziloadN X0 hx hby d17_22 rfl (ziloadN X0 hx hby d17_23 rfl ?_)
                  show zEnds p e below s T0 (mkF m 24 #[iv (SBG.negI (n)), iv 0, iv (-1000000000), iv 9] [(.int (-1000000000)), (.int (SBG.negI (n)))]) _ _ _
                  by_cases hd9 : n < 1000000000
                  · refine zicmpNo X0 hx hby d17_24 (tlt (show (-1000000000 : Int32) < (SBG.negI (n)) from by rw [show (-1000000000 : Int32) = SBG.negI 1000000000 from by decide, SBG.negI_lt (by omega) _ (by omega)]; omega)).2.2.2 (ziloadN X0 hx hby d17_27 rfl (ziloadN X0 hx hby d17_28 rfl (ziadd X0 hx hby d17_29 (9 : Int32) (by decide) ?_)))
                    show zEnds p e below s T0 (mkF m 30 #[iv (SBG.negI (n)), iv 0, iv (-1000000000), iv 9] [(.int 9)]) _ _ _
                    exact zretI X0 hx hby d17_30 hret hlk (by first | decide | omega | (dsimp only; omega)) (by first | decide | omega | (dsimp only; omega)) (⟨by rw [dec_len 8 n (by omega) (by omega)]; rfl, e0, rfl⟩)
                  · refine zicmpYes X0 hx hby d17_24 31 (flt (show ¬ ((-1000000000 : Int32) < (SBG.negI (n))) from by rw [show (-1000000000 : Int32) = SBG.negI 1000000000 from by decide, SBG.negI_lt (by omega) _ (by omega)]; omega)).2.2.2 (by decide) (by decide) (zbipush X0 hx hby d17_31 (z := (10 : Int32)) rfl (ziloadN X0 hx hby d17_33 rfl (zimul X0 hx hby d17_34 (-1410065408 : Int32) (by decide) (zistoreN X0 hx hby d17_35 (L' := #[iv (SBG.negI (n)), iv 0, iv (-1410065408), iv 9]) rfl (ziinc X0 hx hby d17_36 (L' := #[iv (SBG.negI (n)), iv 0, iv (-1410065408), iv 10]) rfl rfl (zgoto X0 hx hby d17_39 16 (by decide) (by decide) (ziloadN X0 hx hby d17_16 rfl (zbipush X0 hx hby d17_17 (z := (10 : Int32)) rfl (zicmpYes X0 hx hby d17_19 42 (by decide) (by decide) (by decide) ?_)))))))))
                    show zEnds p e below s T0 (mkF m 42 #[iv (SBG.negI (n)), iv 0, iv (-1410065408), iv 10] []) _ _ _
                    refine zbipush X0 hx hby d17_42 (z := (10 : Int32)) rfl (ziloadN X0 hx hby d17_44 rfl (ziadd X0 hx hby d17_45 (10 : Int32) (by decide) ?_))
                    show zEnds p e below s T0 (mkF m 46 #[iv (SBG.negI (n)), iv 0, iv (-1410065408), iv 10] [(.int 10)]) _ _ _
                    exact zretI X0 hx hby d17_46 hret hlk (by first | decide | omega | (dsimp only; omega)) (by first | decide | omega | (dsimp only; omega)) (⟨by rw [dec_len 9 n (by omega) (by omega)]; rfl, e0, rfl⟩)
theorem c_sizeJ (hw : HW a0 Z) (C : Ctx Z cs d1 d2 o1 o2) (O0 : zOd Z n0 h0) (n : Nat) (hn : n < 9223372036854775808) : zCon l Z (⟨"java/lang/Long", "stringSize", "(J)I"⟩ : MethodName) jdk_35_method_15_code 6 (some .int) [] ({ frames := 0, cells := 0, slots := 0, locals := 0 } : Room) #[(.long (Int64.ofNat (n)))] h0 (zSame (some (.int (Int32.ofNat ((dec n).length)))) h0) := by
  refine zenter (plainFor_of_name pn_6) (L0 := #[.val (.long (Int64.ofNat (n))), .second, .unset, .unset, .unset, .unset]) (fun m => by first | rfl | simp [entryFrame, mkF, argsToLocals, Value.category]) ?_
  intro p e s m below meth c T0 hx hZ hby hml hown0 hnm hret hlk X0 e0
  have hown : s.vm.findClass "java/lang/Long" = some m.cls := hown0
  show zEnds p e below s T0 (mkF m 0 #[.val (.long (Int64.ofNat (n))), .second, .unset, .unset, .unset, .unset] []) _ _ _
  refine ziconst X0 hx hby d18_0 (z := (1 : Int32)) rfl (zistoreN X0 hx hby d18_1 (L' := #[.val (.long (Int64.ofNat (n))), .second, iv 1, .unset, .unset, .unset]) rfl (zlloadN X0 hx hby d18_2 rfl (zlconst X0 hx hby d18_3 (z := (0 : Int64)) rfl (zlcmp X0 hx hby d18_4 (lcmpW (Int64.ofNat (n)) (0 : Int64)) rfl (zifNo X0 hx hby d18_5 ((if0 _ _).trans (flt (show ¬ ((lcmpW (Int64.ofNat (n)) (0 : Int64)) < (0 : Int32)) from by rw [lcmp_neg]; exact ofL_nn (by omega))).1) (ziconst X0 hx hby d18_8 (z := (0 : Int32)) rfl (zistoreN X0 hx hby d18_9 (L' := #[.val (.long (Int64.ofNat (n))), .second, iv 0, .unset, .unset, .unset]) rfl (zlloadN X0 hx hby d18_10 rfl (zlneg X0 hx hby d18_11 (SBG.negL (n)) (negL_ofN _) ?_)))))))))
  show zEnds p e below s T0 (mkF m 12 #[.val (.long (Int64.ofNat (n))), .second, iv 0, .unset, .unset, .unset] [(.long (SBG.negL (n)))]) _ _ _
  refine zlstoreN X0 hx hby d18_12 (L' := #[.val (.long (SBG.negL (n))), .second, iv 0, .unset, .unset, .unset]) rfl (zldc2J X0 hx hby d18_13 (-10 : Int64) hZ hown (w189 hw) (zlstoreN X0 hx hby d18_16 (L' := #[.val (.long (SBG.negL (n))), .second, iv 0, .val (.long (-10)), .second, .unset]) rfl (ziconst X0 hx hby d18_17 (z := (1 : Int32)) rfl (zistore X0 hx hby d18_18 (L' := #[.val (.long (SBG.negL (n))), .second, iv 0, .val (.long (-10)), .second, iv 1]) rfl (ziload X0 hx hby d18_20 rfl (zbipush X0 hx hby d18_22 (z := (19 : Int32)) rfl (zicmpNo X0 hx hby d18_24 (by decide) (zlloadN X0 hx hby d18_27 rfl (zlloadN X0 hx hby d18_28 rfl ?_)))))))))
  show zEnds p e below s T0 (mkF m 29 #[.val (.long (SBG.negL (n))), .second, iv 0, .val (.long (-10)), .second, iv 1] [(.long (-10)), (.long (SBG.negL (n)))]) _ _ _
  refine zlcmp X0 hx hby d18_29 (lcmpW (SBG.negL (n)) (-10 : Int64)) rfl ?_
  show zEnds p e below s T0 (mkF m 30 #[.val (.long (SBG.negL (n))), .second, iv 0, .val (.long (-10)), .second, iv 1] [(.int (lcmpW (SBG.negL (n)) (-10 : Int64)))]) _ _ _
  by_cases hd1 : n < 10
  · refine zifNo X0 hx hby d18_30 ((if0 _ _).trans (tlt (show (0 : Int32) < (lcmpW (SBG.negL (n)) (-10 : Int64)) from by rw [lcmp_pos, show (-10 : Int64) = SBG.negL 10 from by decide, SBG.negL_lt (by omega) _ (by omega)]; omega)).2.2.2) (ziload X0 hx hby d18_33 rfl (ziloadN X0 hx hby d18_35 rfl (ziadd X0 hx hby d18_36 (1 : Int32) (by decide) ?_)))
    show zEnds p e below s T0 (mkF m 37 #[.val (.long (SBG.negL (n))), .second, iv 0, .val (.long (-10)), .second, iv 1] [(.int 1)]) _ _ _
    exact zretI X0 hx hby d18_37 hret hlk (by first | decide | omega | (dsimp only; omega)) (by first | decide | omega | (dsimp only; omega)) (⟨by rw [dec_len 0 n (by omega) (by omega)]; rfl, e0, rfl⟩)
  · refine zifYes X0 hx hby d18_30 38 ((if0 _ _).trans (flt (show ¬ ((0 : Int32) < (lcmpW (SBG.negL (n)) (-10 : Int64))) from by rw [lcmp_pos, show (-10 : Int64) = SBG.negL 10 from by decide, SBG.negL_lt (by omega) _ (by omega)]; omega)).2.2.2) (by decide) (by decide) (zldc2J X0 hx hby d18_38 (10 : Int64) hZ hown (w196 hw) (zlloadN X0 hx hby d18_41 rfl (zlmul X0 hx hby d18_42 (-100 : Int64) (by decide) (zlstoreN X0 hx hby d18_43 (L' := #[.val (.long (SBG.negL (n))), .second, iv 0, .val (.long (-100)), .second, iv 1]) rfl (ziinc X0 hx hby d18_44 (L' := #[.val (.long (SBG.negL (n))), .second, iv 0, .val (.long (-100)), .second, iv 2]) rfl rfl (zgoto X0 hx hby d18_47 20 (by decide) (by decide) (ziload X0 hx hby d18_20 rfl (zbipush X0 hx hby d18_22 (z := (19 : Int32)) rfl (zicmpNo X0 hx hby d18_24 (by decide) ?_)))))))))
    show zEnds p e below s T0 (mkF m 27 #[.val (.long (SBG.negL (n))), .second, iv 0, .val (.long (-100)), .second, iv 2] []) _ _ _
    refine zlloadN X0 hx hby d18_27 rfl (zlloadN X0 hx hby d18_28 rfl (zlcmp X0 hx hby d18_29 (lcmpW (SBG.negL (n)) (-100 : Int64)) rfl ?_))
    show zEnds p e below s T0 (mkF m 30 #[.val (.long (SBG.negL (n))), .second, iv 0, .val (.long (-100)), .second, iv 2] [(.int (lcmpW (SBG.negL (n)) (-100 : Int64)))]) _ _ _
    by_cases hd2 : n < 100
    · refine zifNo X0 hx hby d18_30 ((if0 _ _).trans (tlt (show (0 : Int32) < (lcmpW (SBG.negL (n)) (-100 : Int64)) from by rw [lcmp_pos, show (-100 : Int64) = SBG.negL 100 from by decide, SBG.negL_lt (by omega) _ (by omega)]; omega)).2.2.2) (ziload X0 hx hby d18_33 rfl (ziloadN X0 hx hby d18_35 rfl (ziadd X0 hx hby d18_36 (2 : Int32) (by decide) ?_)))
      show zEnds p e below s T0 (mkF m 37 #[.val (.long (SBG.negL (n))), .second, iv 0, .val (.long (-100)), .second, iv 2] [(.int 2)]) _ _ _
      exact zretI X0 hx hby d18_37 hret hlk (by first | decide | omega | (dsimp only; omega)) (by first | decide | omega | (dsimp only; omega)) (⟨by rw [dec_len 1 n (by omega) (by omega)]; rfl, e0, rfl⟩)
    · refine zifYes X0 hx hby d18_30 38 ((if0 _ _).trans (flt (show ¬ ((0 : Int32) < (lcmpW (SBG.negL (n)) (-100 : Int64))) from by rw [lcmp_pos, show (-100 : Int64) = SBG.negL 100 from by decide, SBG.negL_lt (by omega) _ (by omega)]; omega)).2.2.2) (by decide) (by decide) (zldc2J X0 hx hby d18_38 (10 : Int64) hZ hown (w196 hw) (zlloadN X0 hx hby d18_41 rfl (zlmul X0 hx hby d18_42 (-1000 : Int64) (by decide) (zlstoreN X0 hx hby d18_43 (L' := #[.val (.long (SBG.negL (n))), .second, iv 0, .val (.long (-1000)), .second, iv 2]) rfl (ziinc X0 hx hby d18_44 (L' := #[.val (.long (SBG.negL (n))), .second, iv 0, .val (.long (-1000)), .second, iv 3]) rfl rfl (zgoto X0 hx hby d18_47 20 (by decide) (by decide) (ziload X0 hx hby d18_20 rfl (zbipush X0 hx hby d18_22 (z := (19 : Int32)) rfl (zicmpNo X0 hx hby d18_24 (by decide) ?_)))))))))
      show zEnds p e below s T0 (mkF m 27 #[.val (.long (SBG.negL (n))), .second, iv 0, .val (.long (-1000)), .second, iv 3] []) _ _ _
      refine zlloadN X0 hx hby d18_27 rfl (zlloadN X0 hx hby d18_28 rfl (zlcmp X0 hx hby d18_29 (lcmpW (SBG.negL (n)) (-1000 : Int64)) rfl ?_))
      show zEnds p e below s T0 (mkF m 30 #[.val (.long (SBG.negL (n))), .second, iv 0, .val (.long (-1000)), .second, iv 3] [(.int (lcmpW (SBG.negL (n)) (-1000 : Int64)))]) _ _ _
      by_cases hd3 : n < 1000
      · refine zifNo X0 hx hby d18_30 ((if0 _ _).trans (tlt (show (0 : Int32) < (lcmpW (SBG.negL (n)) (-1000 : Int64)) from by rw [lcmp_pos, show (-1000 : Int64) = SBG.negL 1000 from by decide, SBG.negL_lt (by omega) _ (by omega)]; omega)).2.2.2) (ziload X0 hx hby d18_33 rfl (ziloadN X0 hx hby d18_35 rfl (ziadd X0 hx hby d18_36 (3 : Int32) (by decide) ?_)))
        show zEnds p e below s T0 (mkF m 37 #[.val (.long (SBG.negL (n))), .second, iv 0, .val (.long (-1000)), .second, iv 3] [(.int 3)]) _ _ _
        exact zretI X0 hx hby d18_37 hret hlk (by first | decide | omega | (dsimp only; omega)) (by first | decide | omega | (dsimp only; omega)) (⟨by rw [dec_len 2 n (by omega) (by omega)]; rfl, e0, rfl⟩)
      · refine zifYes X0 hx hby d18_30 38 ((if0 _ _).trans (flt (show ¬ ((0 : Int32) < (lcmpW (SBG.negL (n)) (-1000 : Int64))) from by rw [lcmp_pos, show (-1000 : Int64) = SBG.negL 1000 from by decide, SBG.negL_lt (by omega) _ (by omega)]; omega)).2.2.2) (by decide) (by decide) (zldc2J X0 hx hby d18_38 (10 : Int64) hZ hown (w196 hw) (zlloadN X0 hx hby d18_41 rfl (zlmul X0 hx hby d18_42 (-10000 : Int64) (by decide) (zlstoreN X0 hx hby d18_43 (L' := #[.val (.long (SBG.negL (n))), .second, iv 0, .val (.long (-10000)), .second, iv 3]) rfl (ziinc X0 hx hby d18_44 (L' := #[.val (.long (SBG.negL (n))), .second, iv 0, .val (.long (-10000)), .second, iv 4]) rfl rfl (zgoto X0 hx hby d18_47 20 (by decide) (by decide) (ziload X0 hx hby d18_20 rfl (zbipush X0 hx hby d18_22 (z := (19 : Int32)) rfl (zicmpNo X0 hx hby d18_24 (by decide) ?_)))))))))
        show zEnds p e below s T0 (mkF m 27 #[.val (.long (SBG.negL (n))), .second, iv 0, .val (.long (-10000)), .second, iv 4] []) _ _ _
        refine zlloadN X0 hx hby d18_27 rfl (zlloadN X0 hx hby d18_28 rfl (zlcmp X0 hx hby d18_29 (lcmpW (SBG.negL (n)) (-10000 : Int64)) rfl ?_))
        show zEnds p e below s T0 (mkF m 30 #[.val (.long (SBG.negL (n))), .second, iv 0, .val (.long (-10000)), .second, iv 4] [(.int (lcmpW (SBG.negL (n)) (-10000 : Int64)))]) _ _ _
        by_cases hd4 : n < 10000
        · refine zifNo X0 hx hby d18_30 ((if0 _ _).trans (tlt (show (0 : Int32) < (lcmpW (SBG.negL (n)) (-10000 : Int64)) from by rw [lcmp_pos, show (-10000 : Int64) = SBG.negL 10000 from by decide, SBG.negL_lt (by omega) _ (by omega)]; omega)).2.2.2) (ziload X0 hx hby d18_33 rfl (ziloadN X0 hx hby d18_35 rfl (ziadd X0 hx hby d18_36 (4 : Int32) (by decide) ?_)))
          show zEnds p e below s T0 (mkF m 37 #[.val (.long (SBG.negL (n))), .second, iv 0, .val (.long (-10000)), .second, iv 4] [(.int 4)]) _ _ _
          exact zretI X0 hx hby d18_37 hret hlk (by first | decide | omega | (dsimp only; omega)) (by first | decide | omega | (dsimp only; omega)) (⟨by rw [dec_len 3 n (by omega) (by omega)]; rfl, e0, rfl⟩)
        · refine zifYes X0 hx hby d18_30 38 ((if0 _ _).trans (flt (show ¬ ((0 : Int32) < (lcmpW (SBG.negL (n)) (-10000 : Int64))) from by rw [lcmp_pos, show (-10000 : Int64) = SBG.negL 10000 from by decide, SBG.negL_lt (by omega) _ (by omega)]; omega)).2.2.2) (by decide) (by decide) (zldc2J X0 hx hby d18_38 (10 : Int64) hZ hown (w196 hw) (zlloadN X0 hx hby d18_41 rfl (zlmul X0 hx hby d18_42 (-100000 : Int64) (by decide) (zlstoreN X0 hx hby d18_43 (L' := #[.val (.long (SBG.negL (n))), .second, iv 0, .val (.long (-100000)), .second, iv 4]) rfl (ziinc X0 hx hby d18_44 (L' := #[.val (.long (SBG.negL (n))), .second, iv 0, .val (.long (-100000)), .second, iv 5]) rfl rfl (zgoto X0 hx hby d18_47 20 (by decide) (by decide) (ziload X0 hx hby d18_20 rfl (zbipush X0 hx hby d18_22 (z := (19 : Int32)) rfl (zicmpNo X0 hx hby d18_24 (by decide) ?_)))))))))
          show zEnds p e below s T0 (mkF m 27 #[.val (.long (SBG.negL (n))), .second, iv 0, .val (.long (-100000)), .second, iv 5] []) _ _ _
          refine zlloadN X0 hx hby d18_27 rfl (zlloadN X0 hx hby d18_28 rfl (zlcmp X0 hx hby d18_29 (lcmpW (SBG.negL (n)) (-100000 : Int64)) rfl ?_))
          show zEnds p e below s T0 (mkF m 30 #[.val (.long (SBG.negL (n))), .second, iv 0, .val (.long (-100000)), .second, iv 5] [(.int (lcmpW (SBG.negL (n)) (-100000 : Int64)))]) _ _ _
          by_cases hd5 : n < 100000
          · refine zifNo X0 hx hby d18_30 ((if0 _ _).trans (tlt (show (0 : Int32) < (lcmpW (SBG.negL (n)) (-100000 : Int64)) from by rw [lcmp_pos, show (-100000 : Int64) = SBG.negL 100000 from by decide, SBG.negL_lt (by omega) _ (by omega)]; omega)).2.2.2) (ziload X0 hx hby d18_33 rfl (ziloadN X0 hx hby d18_35 rfl (ziadd X0 hx hby d18_36 (5 : Int32) (by decide) ?_)))
            show zEnds p e below s T0 (mkF m 37 #[.val (.long (SBG.negL (n))), .second, iv 0, .val (.long (-100000)), .second, iv 5] [(.int 5)]) _ _ _
            exact zretI X0 hx hby d18_37 hret hlk (by first | decide | omega | (dsimp only; omega)) (by first | decide | omega | (dsimp only; omega)) (⟨by rw [dec_len 4 n (by omega) (by omega)]; rfl, e0, rfl⟩)
          · refine zifYes X0 hx hby d18_30 38 ((if0 _ _).trans (flt (show ¬ ((0 : Int32) < (lcmpW (SBG.negL (n)) (-100000 : Int64))) from by rw [lcmp_pos, show (-100000 : Int64) = SBG.negL 100000 from by decide, SBG.negL_lt (by omega) _ (by omega)]; omega)).2.2.2) (by decide) (by decide) (zldc2J X0 hx hby d18_38 (10 : Int64) hZ hown (w196 hw) (zlloadN X0 hx hby d18_41 rfl (zlmul X0 hx hby d18_42 (-1000000 : Int64) (by decide) (zlstoreN X0 hx hby d18_43 (L' := #[.val (.long (SBG.negL (n))), .second, iv 0, .val (.long (-1000000)), .second, iv 5]) rfl (ziinc X0 hx hby d18_44 (L' := #[.val (.long (SBG.negL (n))), .second, iv 0, .val (.long (-1000000)), .second, iv 6]) rfl rfl (zgoto X0 hx hby d18_47 20 (by decide) (by decide) (ziload X0 hx hby d18_20 rfl (zbipush X0 hx hby d18_22 (z := (19 : Int32)) rfl (zicmpNo X0 hx hby d18_24 (by decide) ?_)))))))))
            show zEnds p e below s T0 (mkF m 27 #[.val (.long (SBG.negL (n))), .second, iv 0, .val (.long (-1000000)), .second, iv 6] []) _ _ _
            refine zlloadN X0 hx hby d18_27 rfl (zlloadN X0 hx hby d18_28 rfl (zlcmp X0 hx hby d18_29 (lcmpW (SBG.negL (n)) (-1000000 : Int64)) rfl ?_))
            show zEnds p e below s T0 (mkF m 30 #[.val (.long (SBG.negL (n))), .second, iv 0, .val (.long (-1000000)), .second, iv 6] [(.int (lcmpW (SBG.negL (n)) (-1000000 : Int64)))]) _ _ _
            by_cases hd6 : n < 1000000
            · refine zifNo X0 hx hby d18_30 ((if0 _ _).trans (tlt (show (0 : Int32) < (lcmpW (SBG.negL (n)) (-1000000 : Int64)) from by rw [lcmp_pos, show (-1000000 : Int64) = SBG.negL 1000000 from by decide, SBG.negL_lt (by omega) _ (by omega)]; omega)).2.2.2) (ziload X0 hx hby d18_33 rfl (ziloadN X0 hx hby d18_35 rfl (ziadd X0 hx hby d18_36 (6 : Int32) (by decide) ?_)))
              show zEnds p e below s T0 (mkF m 37 #[.val (.long (SBG.negL (n))), .second, iv 0, .val (.long (-1000000)), .second, iv 6] [(.int 6)]) _ _ _
              exact zretI X0 hx hby d18_37 hret hlk (by first | decide | omega | (dsimp only; omega)) (by first | decide | omega | (dsimp only; omega)) (⟨by rw [dec_len 5 n (by omega) (by omega)]; rfl, e0, rfl⟩)
            · refine zifYes X0 hx hby d18_30 38 ((if0 _ _).trans (flt (show ¬ ((0 : Int32) < (lcmpW (SBG.negL (n)) (-1000000 : Int64))) from by rw [lcmp_pos, show (-1000000 : Int64) = SBG.negL 1000000 from by decide, SBG.negL_lt (by omega) _ (by omega)]; omega)).2.2.2) (by decide) (by decide) (zldc2J X0 hx hby d18_38 (10 : Int64) hZ hown (w196 hw) (zlloadN X0 hx hby d18_41 rfl (zlmul X0 hx hby d18_42 (-10000000 : Int64) (by decide) (zlstoreN X0 hx hby d18_43 (L' := #[.val (.long (SBG.negL (n))), .second, iv 0, .val (.long (-10000000)), .second, iv 6]) rfl (ziinc X0 hx hby d18_44 (L' := #[.val (.long (SBG.negL (n))), .second, iv 0, .val (.long (-10000000)), .second, iv 7]) rfl rfl (zgoto X0 hx hby d18_47 20 (by decide) (by decide) (ziload X0 hx hby d18_20 rfl (zbipush X0 hx hby d18_22 (z := (19 : Int32)) rfl (zicmpNo X0 hx hby d18_24 (by decide) ?_)))))))))
              show zEnds p e below s T0 (mkF m 27 #[.val (.long (SBG.negL (n))), .second, iv 0, .val (.long (-10000000)), .second, iv 7] []) _ _ _
              refine zlloadN X0 hx hby d18_27 rfl (zlloadN X0 hx hby d18_28 rfl (zlcmp X0 hx hby d18_29 (lcmpW (SBG.negL (n)) (-10000000 : Int64)) rfl ?_))
              show zEnds p e below s T0 (mkF m 30 #[.val (.long (SBG.negL (n))), .second, iv 0, .val (.long (-10000000)), .second, iv 7] [(.int (lcmpW (SBG.negL (n)) (-10000000 : Int64)))]) _ _ _
              by_cases hd7 : n < 10000000
              · refine zifNo X0 hx hby d18_30 ((if0 _ _).trans (tlt (show (0 : Int32) < (lcmpW (SBG.negL (n)) (-10000000 : Int64)) from by rw [lcmp_pos, show (-10000000 : Int64) = SBG.negL 10000000 from by decide, SBG.negL_lt (by omega) _ (by omega)]; omega)).2.2.2) (ziload X0 hx hby d18_33 rfl (ziloadN X0 hx hby d18_35 rfl (ziadd X0 hx hby d18_36 (7 : Int32) (by decide) ?_)))
                show zEnds p e below s T0 (mkF m 37 #[.val (.long (SBG.negL (n))), .second, iv 0, .val (.long (-10000000)), .second, iv 7] [(.int 7)]) _ _ _
                exact zretI X0 hx hby d18_37 hret hlk (by first | decide | omega | (dsimp only; omega)) (by first | decide | omega | (dsimp only; omega)) (⟨by rw [dec_len 6 n (by omega) (by omega)]; rfl, e0, rfl⟩)
              · refine zifYes X0 hx hby d18_30 38 ((if0 _ _).trans (flt (show ¬ ((0 : Int32) < (lcmpW (SBG.negL (n)) (-10000000 : Int64))) from by rw [lcmp_pos, show (-10000000 : Int64) = SBG.negL 10000000 from by decide, SBG.negL_lt (by omega) _ (by omega)]; omega)).2.2.2) (by decide) (by decide) (zldc2J X0 hx hby d18_38 (10 : Int64) hZ hown (w196 hw) (zlloadN X0 hx hby d18_41 rfl (zlmul X0 hx hby d18_42 (-100000000 : Int64) (by decide) (zlstoreN X0 hx hby d18_43 (L' := #[.val (.long (SBG.negL (n))), .second, iv 0, .val (.long (-100000000)), .second, iv 7]) rfl (ziinc X0 hx hby d18_44 (L' := #[.val (.long (SBG.negL (n))), .second, iv 0, .val (.long (-100000000)), .second, iv 8]) rfl rfl (zgoto X0 hx hby d18_47 20 (by decide) (by decide) (ziload X0 hx hby d18_20 rfl (zbipush X0 hx hby d18_22 (z := (19 : Int32)) rfl (zicmpNo X0 hx hby d18_24 (by decide) ?_)))))))))
                show zEnds p e below s T0 (mkF m 27 #[.val (.long (SBG.negL (n))), .second, iv 0, .val (.long (-100000000)), .second, iv 8] []) _ _ _
                refine zlloadN X0 hx hby d18_27 rfl (zlloadN X0 hx hby d18_28 rfl (zlcmp X0 hx hby d18_29 (lcmpW (SBG.negL (n)) (-100000000 : Int64)) rfl ?_))
                show zEnds p e below s T0 (mkF m 30 #[.val (.long (SBG.negL (n))), .second, iv 0, .val (.long (-100000000)), .second, iv 8] [(.int (lcmpW (SBG.negL (n)) (-100000000 : Int64)))]) _ _ _
                by_cases hd8 : n < 100000000
                · refine zifNo X0 hx hby d18_30 ((if0 _ _).trans (tlt (show (0 : Int32) < (lcmpW (SBG.negL (n)) (-100000000 : Int64)) from by rw [lcmp_pos, show (-100000000 : Int64) = SBG.negL 100000000 from by decide, SBG.negL_lt (by omega) _ (by omega)]; omega)).2.2.2) (ziload X0 hx hby d18_33 rfl (ziloadN X0 hx hby d18_35 rfl (ziadd X0 hx hby d18_36 (8 : Int32) (by decide) ?_)))
                  show zEnds p e below s T0 (mkF m 37 #[.val (.long (SBG.negL (n))), .second, iv 0, .val (.long (-100000000)), .second, iv 8] [(.int 8)]) _ _ _
                  exact zretI X0 hx hby d18_37 hret hlk (by first | decide | omega | (dsimp only; omega)) (by first | decide | omega | (dsimp only; omega)) (⟨by rw [dec_len 7 n (by omega) (by omega)]; rfl, e0, rfl⟩)
                · refine zifYes X0 hx hby d18_30 38 ((if0 _ _).trans (flt (show ¬ ((0 : Int32) < (lcmpW (SBG.negL (n)) (-100000000 : Int64))) from by rw [lcmp_pos, show (-100000000 : Int64) = SBG.negL 100000000 from by decide, SBG.negL_lt (by omega) _ (by omega)]; omega)).2.2.2) (by decide) (by decide) (zldc2J X0 hx hby d18_38 (10 : Int64) hZ hown (w196 hw) (zlloadN X0 hx hby d18_41 rfl (zlmul X0 hx hby d18_42 (-1000000000 : Int64) (by decide) (zlstoreN X0 hx hby d18_43 (L' := #[.val (.long (SBG.negL (n))), .second, iv 0, .val (.long (-1000000000)), .second, iv 8]) rfl (ziinc X0 hx hby d18_44 (L' := #[.val (.long (SBG.negL (n))), .second, iv 0, .val (.long (-1000000000)), .second, iv 9]) rfl rfl (zgoto X0 hx hby d18_47 20 (by decide) (by decide) (ziload X0 hx hby d18_20 rfl (zbipush X0 hx hby d18_22 (z := (19 : Int32)) rfl (zicmpNo X0 hx hby d18_24 (by decide) ?_)))))))))
                  show zEnds p e below s T0 (mkF m 27 #[.val (.long (SBG.negL (n))), .second, iv 0, .val (.long (-1000000000)), .second, iv 9] []) _ _ _
                  refine zlloadN X0 hx hby d18_27 rfl (zlloadN X0 hx hby d18_28 rfl (zlcmp X0 hx hby d18_29 (lcmpW (SBG.negL (n)) (-1000000000 : Int64)) rfl ?_))
                  show zEnds p e below s T0 (mkF m 30 #[.val (.long (SBG.negL (n))), .second, iv 0, .val (.long (-1000000000)), .second, iv 9] [(.int (lcmpW (SBG.negL (n)) (-1000000000 : Int64)))]) _ _ _
                  by_cases hd9 : n < 1000000000
                  · refine zifNo X0 hx hby d18_30 ((if0 _ _).trans (tlt (show (0 : Int32) < (lcmpW (SBG.negL (n)) (-1000000000 : Int64)) from by rw [lcmp_pos, show (-1000000000 : Int64) = SBG.negL 1000000000 from by decide, SBG.negL_lt (by omega) _ (by omega)]; omega)).2.2.2) (ziload X0 hx hby d18_33 rfl (ziloadN X0 hx hby d18_35 rfl (ziadd X0 hx hby d18_36 (9 : Int32) (by decide) ?_)))
                    show zEnds p e below s T0 (mkF m 37 #[.val (.long (SBG.negL (n))), .second, iv 0, .val (.long (-1000000000)), .second, iv 9] [(.int 9)]) _ _ _
                    exact zretI X0 hx hby d18_37 hret hlk (by first | decide | omega | (dsimp only; omega)) (by first | decide | omega | (dsimp only; omega)) (⟨by rw [dec_len 8 n (by omega) (by omega)]; rfl, e0, rfl⟩)
                  · refine zifYes X0 hx hby d18_30 38 ((if0 _ _).trans (flt (show ¬ ((0 : Int32) < (lcmpW (SBG.negL (n)) (-1000000000 : Int64))) from by rw [lcmp_pos, show (-1000000000 : Int64) = SBG.negL 1000000000 from by decide, SBG.negL_lt (by omega) _ (by omega)]; omega)).2.2.2) (by decide) (by decide) (zldc2J X0 hx hby d18_38 (10 : Int64) hZ hown (w196 hw) (zlloadN X0 hx hby d18_41 rfl (zlmul X0 hx hby d18_42 (-10000000000 : Int64) (by decide) (zlstoreN X0 hx hby d18_43 (L' := #[.val (.long (SBG.negL (n))), .second, iv 0, .val (.long (-10000000000)), .second, iv 9]) rfl (ziinc X0 hx hby d18_44 (L' := #[.val (.long (SBG.negL (n))), .second, iv 0, .val (.long (-10000000000)), .second, iv 10]) rfl rfl (zgoto X0 hx hby d18_47 20 (by decide) (by decide) (ziload X0 hx hby d18_20 rfl (zbipush X0 hx hby d18_22 (z := (19 : Int32)) rfl (zicmpNo X0 hx hby d18_24 (by decide) ?_)))))))))
                    show zEnds p e below s T0 (mkF m 27 #[.val (.long (SBG.negL (n))), .second, iv 0, .val (.long (-10000000000)), .second, iv 10] []) _ _ _
                    refine zlloadN X0 hx hby d18_27 rfl (zlloadN X0 hx hby d18_28 rfl (zlcmp X0 hx hby d18_29 (lcmpW (SBG.negL (n)) (-10000000000 : Int64)) rfl ?_))
                    show zEnds p e below s T0 (mkF m 30 #[.val (.long (SBG.negL (n))), .second, iv 0, .val (.long (-10000000000)), .second, iv 10] [(.int (lcmpW (SBG.negL (n)) (-10000000000 : Int64)))]) _ _ _
                    by_cases hd10 : n < 10000000000
                    · refine zifNo X0 hx hby d18_30 ((if0 _ _).trans (tlt (show (0 : Int32) < (lcmpW (SBG.negL (n)) (-10000000000 : Int64)) from by rw [lcmp_pos, show (-10000000000 : Int64) = SBG.negL 10000000000 from by decide, SBG.negL_lt (by omega) _ (by omega)]; omega)).2.2.2) (ziload X0 hx hby d18_33 rfl (ziloadN X0 hx hby d18_35 rfl (ziadd X0 hx hby d18_36 (10 : Int32) (by decide) ?_)))
                      show zEnds p e below s T0 (mkF m 37 #[.val (.long (SBG.negL (n))), .second, iv 0, .val (.long (-10000000000)), .second, iv 10] [(.int 10)]) _ _ _
                      exact zretI X0 hx hby d18_37 hret hlk (by first | decide | omega | (dsimp only; omega)) (by first | decide | omega | (dsimp only; omega)) (⟨by rw [dec_len 9 n (by omega) (by omega)]; rfl, e0, rfl⟩)
                    · refine zifYes X0 hx hby d18_30 38 ((if0 _ _).trans (flt (show ¬ ((0 : Int32) < (lcmpW (SBG.negL (n)) (-10000000000 : Int64))) from by rw [lcmp_pos, show (-10000000000 : Int64) = SBG.negL 10000000000 from by decide, SBG.negL_lt (by omega) _ (by omega)]; omega)).2.2.2) (by decide) (by decide) (zldc2J X0 hx hby d18_38 (10 : Int64) hZ hown (w196 hw) (zlloadN X0 hx hby d18_41 rfl (zlmul X0 hx hby d18_42 (-100000000000 : Int64) (by decide) (zlstoreN X0 hx hby d18_43 (L' := #[.val (.long (SBG.negL (n))), .second, iv 0, .val (.long (-100000000000)), .second, iv 10]) rfl (ziinc X0 hx hby d18_44 (L' := #[.val (.long (SBG.negL (n))), .second, iv 0, .val (.long (-100000000000)), .second, iv 11]) rfl rfl (zgoto X0 hx hby d18_47 20 (by decide) (by decide) (ziload X0 hx hby d18_20 rfl (zbipush X0 hx hby d18_22 (z := (19 : Int32)) rfl (zicmpNo X0 hx hby d18_24 (by decide) ?_)))))))))
                      show zEnds p e below s T0 (mkF m 27 #[.val (.long (SBG.negL (n))), .second, iv 0, .val (.long (-100000000000)), .second, iv 11] []) _ _ _
                      refine zlloadN X0 hx hby d18_27 rfl (zlloadN X0 hx hby d18_28 rfl (zlcmp X0 hx hby d18_29 (lcmpW (SBG.negL (n)) (-100000000000 : Int64)) rfl ?_))
                      show zEnds p e below s T0 (mkF m 30 #[.val (.long (SBG.negL (n))), .second, iv 0, .val (.long (-100000000000)), .second, iv 11] [(.int (lcmpW (SBG.negL (n)) (-100000000000 : Int64)))]) _ _ _
                      by_cases hd11 : n < 100000000000
                      · refine zifNo X0 hx hby d18_30 ((if0 _ _).trans (tlt (show (0 : Int32) < (lcmpW (SBG.negL (n)) (-100000000000 : Int64)) from by rw [lcmp_pos, show (-100000000000 : Int64) = SBG.negL 100000000000 from by decide, SBG.negL_lt (by omega) _ (by omega)]; omega)).2.2.2) (ziload X0 hx hby d18_33 rfl (ziloadN X0 hx hby d18_35 rfl (ziadd X0 hx hby d18_36 (11 : Int32) (by decide) ?_)))
                        show zEnds p e below s T0 (mkF m 37 #[.val (.long (SBG.negL (n))), .second, iv 0, .val (.long (-100000000000)), .second, iv 11] [(.int 11)]) _ _ _
                        exact zretI X0 hx hby d18_37 hret hlk (by first | decide | omega | (dsimp only; omega)) (by first | decide | omega | (dsimp only; omega)) (⟨by rw [dec_len 10 n (by omega) (by omega)]; rfl, e0, rfl⟩)
                      · refine zifYes X0 hx hby d18_30 38 ((if0 _ _).trans (flt (show ¬ ((0 : Int32) < (lcmpW (SBG.negL (n)) (-100000000000 : Int64))) from by rw [lcmp_pos, show (-100000000000 : Int64) = SBG.negL 100000000000 from by decide, SBG.negL_lt (by omega) _ (by omega)]; omega)).2.2.2) (by decide) (by decide) (zldc2J X0 hx hby d18_38 (10 : Int64) hZ hown (w196 hw) (zlloadN X0 hx hby d18_41 rfl (zlmul X0 hx hby d18_42 (-1000000000000 : Int64) (by decide) (zlstoreN X0 hx hby d18_43 (L' := #[.val (.long (SBG.negL (n))), .second, iv 0, .val (.long (-1000000000000)), .second, iv 11]) rfl (ziinc X0 hx hby d18_44 (L' := #[.val (.long (SBG.negL (n))), .second, iv 0, .val (.long (-1000000000000)), .second, iv 12]) rfl rfl (zgoto X0 hx hby d18_47 20 (by decide) (by decide) (ziload X0 hx hby d18_20 rfl (zbipush X0 hx hby d18_22 (z := (19 : Int32)) rfl (zicmpNo X0 hx hby d18_24 (by decide) ?_)))))))))
                        show zEnds p e below s T0 (mkF m 27 #[.val (.long (SBG.negL (n))), .second, iv 0, .val (.long (-1000000000000)), .second, iv 12] []) _ _ _
                        refine zlloadN X0 hx hby d18_27 rfl (zlloadN X0 hx hby d18_28 rfl (zlcmp X0 hx hby d18_29 (lcmpW (SBG.negL (n)) (-1000000000000 : Int64)) rfl ?_))
                        show zEnds p e below s T0 (mkF m 30 #[.val (.long (SBG.negL (n))), .second, iv 0, .val (.long (-1000000000000)), .second, iv 12] [(.int (lcmpW (SBG.negL (n)) (-1000000000000 : Int64)))]) _ _ _
                        by_cases hd12 : n < 1000000000000
                        · refine zifNo X0 hx hby d18_30 ((if0 _ _).trans (tlt (show (0 : Int32) < (lcmpW (SBG.negL (n)) (-1000000000000 : Int64)) from by rw [lcmp_pos, show (-1000000000000 : Int64) = SBG.negL 1000000000000 from by decide, SBG.negL_lt (by omega) _ (by omega)]; omega)).2.2.2) (ziload X0 hx hby d18_33 rfl (ziloadN X0 hx hby d18_35 rfl (ziadd X0 hx hby d18_36 (12 : Int32) (by decide) ?_)))
                          show zEnds p e below s T0 (mkF m 37 #[.val (.long (SBG.negL (n))), .second, iv 0, .val (.long (-1000000000000)), .second, iv 12] [(.int 12)]) _ _ _
                          exact zretI X0 hx hby d18_37 hret hlk (by first | decide | omega | (dsimp only; omega)) (by first | decide | omega | (dsimp only; omega)) (⟨by rw [dec_len 11 n (by omega) (by omega)]; rfl, e0, rfl⟩)
                        · refine zifYes X0 hx hby d18_30 38 ((if0 _ _).trans (flt (show ¬ ((0 : Int32) < (lcmpW (SBG.negL (n)) (-1000000000000 : Int64))) from by rw [lcmp_pos, show (-1000000000000 : Int64) = SBG.negL 1000000000000 from by decide, SBG.negL_lt (by omega) _ (by omega)]; omega)).2.2.2) (by decide) (by decide) (zldc2J X0 hx hby d18_38 (10 : Int64) hZ hown (w196 hw) (zlloadN X0 hx hby d18_41 rfl (zlmul X0 hx hby d18_42 (-10000000000000 : Int64) (by decide) (zlstoreN X0 hx hby d18_43 (L' := #[.val (.long (SBG.negL (n))), .second, iv 0, .val (.long (-10000000000000)), .second, iv 12]) rfl (ziinc X0 hx hby d18_44 (L' := #[.val (.long (SBG.negL (n))), .second, iv 0, .val (.long (-10000000000000)), .second, iv 13]) rfl rfl (zgoto X0 hx hby d18_47 20 (by decide) (by decide) (ziload X0 hx hby d18_20 rfl (zbipush X0 hx hby d18_22 (z := (19 : Int32)) rfl (zicmpNo X0 hx hby d18_24 (by decide) ?_)))))))))
                          show zEnds p e below s T0 (mkF m 27 #[.val (.long (SBG.negL (n))), .second, iv 0, .val (.long (-10000000000000)), .second, iv 13] []) _ _ _
                          refine zlloadN X0 hx hby d18_27 rfl (zlloadN X0 hx hby d18_28 rfl (zlcmp X0 hx hby d18_29 (lcmpW (SBG.negL (n)) (-10000000000000 : Int64)) rfl ?_))
                          show zEnds p e below s T0 (mkF m 30 #[.val (.long (SBG.negL (n))), .second, iv 0, .val (.long (-10000000000000)), .second, iv 13] [(.int (lcmpW (SBG.negL (n)) (-10000000000000 : Int64)))]) _ _ _
                          by_cases hd13 : n < 10000000000000
                          · refine zifNo X0 hx hby d18_30 ((if0 _ _).trans (tlt (show (0 : Int32) < (lcmpW (SBG.negL (n)) (-10000000000000 : Int64)) from by rw [lcmp_pos, show (-10000000000000 : Int64) = SBG.negL 10000000000000 from by decide, SBG.negL_lt (by omega) _ (by omega)]; omega)).2.2.2) (ziload X0 hx hby d18_33 rfl (ziloadN X0 hx hby d18_35 rfl (ziadd X0 hx hby d18_36 (13 : Int32) (by decide) ?_)))
                            show zEnds p e below s T0 (mkF m 37 #[.val (.long (SBG.negL (n))), .second, iv 0, .val (.long (-10000000000000)), .second, iv 13] [(.int 13)]) _ _ _
                            exact zretI X0 hx hby d18_37 hret hlk (by first | decide | omega | (dsimp only; omega)) (by first | decide | omega | (dsimp only; omega)) (⟨by rw [dec_len 12 n (by omega) (by omega)]; rfl, e0, rfl⟩)
                          · refine zifYes X0 hx hby d18_30 38 ((if0 _ _).trans (flt (show ¬ ((0 : Int32) < (lcmpW (SBG.negL (n)) (-10000000000000 : Int64))) from by rw [lcmp_pos, show (-10000000000000 : Int64) = SBG.negL 10000000000000 from by decide, SBG.negL_lt (by omega) _ (by omega)]; omega)).2.2.2) (by decide) (by decide) (zldc2J X0 hx hby d18_38 (10 : Int64) hZ hown (w196 hw) (zlloadN X0 hx hby d18_41 rfl (zlmul X0 hx hby d18_42 (-100000000000000 : Int64) (by decide) (zlstoreN X0 hx hby d18_43 (L' := #[.val (.long (SBG.negL (n))), .second, iv 0, .val (.long (-100000000000000)), .second, iv 13]) rfl (ziinc X0 hx hby d18_44 (L' := #[.val (.long (SBG.negL (n))), .second, iv 0, .val (.long (-100000000000000)), .second, iv 14]) rfl rfl (zgoto X0 hx hby d18_47 20 (by decide) (by decide) (ziload X0 hx hby d18_20 rfl (zbipush X0 hx hby d18_22 (z := (19 : Int32)) rfl (zicmpNo X0 hx hby d18_24 (by decide) ?_)))))))))
                            show zEnds p e below s T0 (mkF m 27 #[.val (.long (SBG.negL (n))), .second, iv 0, .val (.long (-100000000000000)), .second, iv 14] []) _ _ _
                            refine zlloadN X0 hx hby d18_27 rfl (zlloadN X0 hx hby d18_28 rfl (zlcmp X0 hx hby d18_29 (lcmpW (SBG.negL (n)) (-100000000000000 : Int64)) rfl ?_))
                            show zEnds p e below s T0 (mkF m 30 #[.val (.long (SBG.negL (n))), .second, iv 0, .val (.long (-100000000000000)), .second, iv 14] [(.int (lcmpW (SBG.negL (n)) (-100000000000000 : Int64)))]) _ _ _
                            by_cases hd14 : n < 100000000000000
                            · refine zifNo X0 hx hby d18_30 ((if0 _ _).trans (tlt (show (0 : Int32) < (lcmpW (SBG.negL (n)) (-100000000000000 : Int64)) from by rw [lcmp_pos, show (-100000000000000 : Int64) = SBG.negL 100000000000000 from by decide, SBG.negL_lt (by omega) _ (by omega)]; omega)).2.2.2) (ziload X0 hx hby d18_33 rfl (ziloadN X0 hx hby d18_35 rfl (ziadd X0 hx hby d18_36 (14 : Int32) (by decide) ?_)))
                              show zEnds p e below s T0 (mkF m 37 #[.val (.long (SBG.negL (n))), .second, iv 0, .val (.long (-100000000000000)), .second, iv 14] [(.int 14)]) _ _ _
                              exact zretI X0 hx hby d18_37 hret hlk (by first | decide | omega | (dsimp only; omega)) (by first | decide | omega | (dsimp only; omega)) (⟨by rw [dec_len 13 n (by omega) (by omega)]; rfl, e0, rfl⟩)
                            · refine zifYes X0 hx hby d18_30 38 ((if0 _ _).trans (flt (show ¬ ((0 : Int32) < (lcmpW (SBG.negL (n)) (-100000000000000 : Int64))) from by rw [lcmp_pos, show (-100000000000000 : Int64) = SBG.negL 100000000000000 from by decide, SBG.negL_lt (by omega) _ (by omega)]; omega)).2.2.2) (by decide) (by decide) (zldc2J X0 hx hby d18_38 (10 : Int64) hZ hown (w196 hw) (zlloadN X0 hx hby d18_41 rfl (zlmul X0 hx hby d18_42 (-1000000000000000 : Int64) (by decide) (zlstoreN X0 hx hby d18_43 (L' := #[.val (.long (SBG.negL (n))), .second, iv 0, .val (.long (-1000000000000000)), .second, iv 14]) rfl (ziinc X0 hx hby d18_44 (L' := #[.val (.long (SBG.negL (n))), .second, iv 0, .val (.long (-1000000000000000)), .second, iv 15]) rfl rfl (zgoto X0 hx hby d18_47 20 (by decide) (by decide) (ziload X0 hx hby d18_20 rfl (zbipush X0 hx hby d18_22 (z := (19 : Int32)) rfl (zicmpNo X0 hx hby d18_24 (by decide) ?_)))))))))
                              show zEnds p e below s T0 (mkF m 27 #[.val (.long (SBG.negL (n))), .second, iv 0, .val (.long (-1000000000000000)), .second, iv 15] []) _ _ _
                              refine zlloadN X0 hx hby d18_27 rfl (zlloadN X0 hx hby d18_28 rfl (zlcmp X0 hx hby d18_29 (lcmpW (SBG.negL (n)) (-1000000000000000 : Int64)) rfl ?_))
                              show zEnds p e below s T0 (mkF m 30 #[.val (.long (SBG.negL (n))), .second, iv 0, .val (.long (-1000000000000000)), .second, iv 15] [(.int (lcmpW (SBG.negL (n)) (-1000000000000000 : Int64)))]) _ _ _
                              by_cases hd15 : n < 1000000000000000
                              · refine zifNo X0 hx hby d18_30 ((if0 _ _).trans (tlt (show (0 : Int32) < (lcmpW (SBG.negL (n)) (-1000000000000000 : Int64)) from by rw [lcmp_pos, show (-1000000000000000 : Int64) = SBG.negL 1000000000000000 from by decide, SBG.negL_lt (by omega) _ (by omega)]; omega)).2.2.2) (ziload X0 hx hby d18_33 rfl (ziloadN X0 hx hby d18_35 rfl (ziadd X0 hx hby d18_36 (15 : Int32) (by decide) ?_)))
                                show zEnds p e below s T0 (mkF m 37 #[.val (.long (SBG.negL (n))), .second, iv 0, .val (.long (-1000000000000000)), .second, iv 15] [(.int 15)]) _ _ _
                                exact zretI X0 hx hby d18_37 hret hlk (by first | decide | omega | (dsimp only; omega)) (by first | decide | omega | (dsimp only; omega)) (⟨by rw [dec_len 14 n (by omega) (by omega)]; rfl, e0, rfl⟩)
                              · refine zifYes X0 hx hby d18_30 38 ((if0 _ _).trans (flt (show ¬ ((0 : Int32) < (lcmpW (SBG.negL (n)) (-1000000000000000 : Int64))) from by rw [lcmp_pos, show (-1000000000000000 : Int64) = SBG.negL 1000000000000000 from by decide, SBG.negL_lt (by omega) _ (by omega)]; omega)).2.2.2) (by decide) (by decide) (zldc2J X0 hx hby d18_38 (10 : Int64) hZ hown (w196 hw) (zlloadN X0 hx hby d18_41 rfl (zlmul X0 hx hby d18_42 (-10000000000000000 : Int64) (by decide) (zlstoreN X0 hx hby d18_43 (L' := #[.val (.long (SBG.negL (n))), .second, iv 0, .val (.long (-10000000000000000)), .second, iv 15]) rfl (ziinc X0 hx hby d18_44 (L' := #[.val (.long (SBG.negL (n))), .second, iv 0, .val (.long (-10000000000000000)), .second, iv 16]) rfl rfl (zgoto X0 hx hby d18_47 20 (by decide) (by decide) (ziload X0 hx hby d18_20 rfl (zbipush X0 hx hby d18_22 (z := (19 : Int32)) rfl (zicmpNo X0 hx hby d18_24 (by decide) ?_)))))))))
                                show zEnds p e below s T0 (mkF m 27 #[.val (.long (SBG.negL (n))), .second, iv 0, .val (.long (-10000000000000000)), .second, iv 16] []) _ _ _
                                refine zlloadN X0 hx hby d18_27 rfl (zlloadN X0 hx hby d18_28 rfl (zlcmp X0 hx hby d18_29 (lcmpW (SBG.negL (n)) (-10000000000000000 : Int64)) rfl ?_))
                                show zEnds p e below s T0 (mkF m 30 #[.val (.long (SBG.negL (n))), .second, iv 0, .val (.long (-10000000000000000)), .second, iv 16] [(.int (lcmpW (SBG.negL (n)) (-10000000000000000 : Int64)))]) _ _ _
                                by_cases hd16 : n < 10000000000000000
                                · refine zifNo X0 hx hby d18_30 ((if0 _ _).trans (tlt (show (0 : Int32) < (lcmpW (SBG.negL (n)) (-10000000000000000 : Int64)) from by rw [lcmp_pos, show (-10000000000000000 : Int64) = SBG.negL 10000000000000000 from by decide, SBG.negL_lt (by omega) _ (by omega)]; omega)).2.2.2) (ziload X0 hx hby d18_33 rfl (ziloadN X0 hx hby d18_35 rfl (ziadd X0 hx hby d18_36 (16 : Int32) (by decide) ?_)))
                                  show zEnds p e below s T0 (mkF m 37 #[.val (.long (SBG.negL (n))), .second, iv 0, .val (.long (-10000000000000000)), .second, iv 16] [(.int 16)]) _ _ _
                                  exact zretI X0 hx hby d18_37 hret hlk (by first | decide | omega | (dsimp only; omega)) (by first | decide | omega | (dsimp only; omega)) (⟨by rw [dec_len 15 n (by omega) (by omega)]; rfl, e0, rfl⟩)
                                · refine zifYes X0 hx hby d18_30 38 ((if0 _ _).trans (flt (show ¬ ((0 : Int32) < (lcmpW (SBG.negL (n)) (-10000000000000000 : Int64))) from by rw [lcmp_pos, show (-10000000000000000 : Int64) = SBG.negL 10000000000000000 from by decide, SBG.negL_lt (by omega) _ (by omega)]; omega)).2.2.2) (by decide) (by decide) (zldc2J X0 hx hby d18_38 (10 : Int64) hZ hown (w196 hw) (zlloadN X0 hx hby d18_41 rfl (zlmul X0 hx hby d18_42 (-100000000000000000 : Int64) (by decide) (zlstoreN X0 hx hby d18_43 (L' := #[.val (.long (SBG.negL (n))), .second, iv 0, .val (.long (-100000000000000000)), .second, iv 16]) rfl (ziinc X0 hx hby d18_44 (L' := #[.val (.long (SBG.negL (n))), .second, iv 0, .val (.long (-100000000000000000)), .second, iv 17]) rfl rfl (zgoto X0 hx hby d18_47 20 (by decide) (by decide) (ziload X0 hx hby d18_20 rfl (zbipush X0 hx hby d18_22 (z := (19 : Int32)) rfl (zicmpNo X0 hx hby d18_24 (by decide) ?_)))))))))
                                  show zEnds p e below s T0 (mkF m 27 #[.val (.long (SBG.negL (n))), .second, iv 0, .val (.long (-100000000000000000)), .second, iv 17] []) _ _ _
                                  refine zlloadN X0 hx hby d18_27 rfl (zlloadN X0 hx hby d18_28 rfl (zlcmp X0 hx hby d18_29 (lcmpW (SBG.negL (n)) (-100000000000000000 : Int64)) rfl ?_))
                                  show zEnds p e below s T0 (mkF m 30 #[.val (.long (SBG.negL (n))), .second, iv 0, .val (.long (-100000000000000000)), .second, iv 17] [(.int (lcmpW (SBG.negL (n)) (-100000000000000000 : Int64)))]) _ _ _
                                  by_cases hd17 : n < 100000000000000000
                                  · refine zifNo X0 hx hby d18_30 ((if0 _ _).trans (tlt (show (0 : Int32) < (lcmpW (SBG.negL (n)) (-100000000000000000 : Int64)) from by rw [lcmp_pos, show (-100000000000000000 : Int64) = SBG.negL 100000000000000000 from by decide, SBG.negL_lt (by omega) _ (by omega)]; omega)).2.2.2) (ziload X0 hx hby d18_33 rfl (ziloadN X0 hx hby d18_35 rfl (ziadd X0 hx hby d18_36 (17 : Int32) (by decide) ?_)))
                                    show zEnds p e below s T0 (mkF m 37 #[.val (.long (SBG.negL (n))), .second, iv 0, .val (.long (-100000000000000000)), .second, iv 17] [(.int 17)]) _ _ _
                                    exact zretI X0 hx hby d18_37 hret hlk (by first | decide | omega | (dsimp only; omega)) (by first | decide | omega | (dsimp only; omega)) (⟨by rw [dec_len 16 n (by omega) (by omega)]; rfl, e0, rfl⟩)
                                  · refine zifYes X0 hx hby d18_30 38 ((if0 _ _).trans (flt (show ¬ ((0 : Int32) < (lcmpW (SBG.negL (n)) (-100000000000000000 : Int64))) from by rw [lcmp_pos, show (-100000000000000000 : Int64) = SBG.negL 100000000000000000 from by decide, SBG.negL_lt (by omega) _ (by omega)]; omega)).2.2.2) (by decide) (by decide) (zldc2J X0 hx hby d18_38 (10 : Int64) hZ hown (w196 hw) (zlloadN X0 hx hby d18_41 rfl (zlmul X0 hx hby d18_42 (-1000000000000000000 : Int64) (by decide) (zlstoreN X0 hx hby d18_43 (L' := #[.val (.long (SBG.negL (n))), .second, iv 0, .val (.long (-1000000000000000000)), .second, iv 17]) rfl (ziinc X0 hx hby d18_44 (L' := #[.val (.long (SBG.negL (n))), .second, iv 0, .val (.long (-1000000000000000000)), .second, iv 18]) rfl rfl (zgoto X0 hx hby d18_47 20 (by decide) (by decide) (ziload X0 hx hby d18_20 rfl (zbipush X0 hx hby d18_22 (z := (19 : Int32)) rfl (zicmpNo X0 hx hby d18_24 (by decide) ?_)))))))))
                                    show zEnds p e below s T0 (mkF m 27 #[.val (.long (SBG.negL (n))), .second, iv 0, .val (.long (-1000000000000000000)), .second, iv 18] []) _ _ _
                                    refine zlloadN X0 hx hby d18_27 rfl (zlloadN X0 hx hby d18_28 rfl (zlcmp X0 hx hby d18_29 (lcmpW (SBG.negL (n)) (-1000000000000000000 : Int64)) rfl ?_))
                                    show zEnds p e below s T0 (mkF m 30 #[.val (.long (SBG.negL (n))), .second, iv 0, .val (.long (-1000000000000000000)), .second, iv 18] [(.int (lcmpW (SBG.negL (n)) (-1000000000000000000 : Int64)))]) _ _ _
                                    by_cases hd18 : n < 1000000000000000000
                                    · refine zifNo X0 hx hby d18_30 ((if0 _ _).trans (tlt (show (0 : Int32) < (lcmpW (SBG.negL (n)) (-1000000000000000000 : Int64)) from by rw [lcmp_pos, show (-1000000000000000000 : Int64) = SBG.negL 1000000000000000000 from by decide, SBG.negL_lt (by omega) _ (by omega)]; omega)).2.2.2) (ziload X0 hx hby d18_33 rfl (ziloadN X0 hx hby d18_35 rfl (ziadd X0 hx hby d18_36 (18 : Int32) (by decide) ?_)))
                                      show zEnds p e below s T0 (mkF m 37 #[.val (.long (SBG.negL (n))), .second, iv 0, .val (.long (-1000000000000000000)), .second, iv 18] [(.int 18)]) _ _ _
                                      exact zretI X0 hx hby d18_37 hret hlk (by first | decide | omega | (dsimp only; omega)) (by first | decide | omega | (dsimp only; omega)) (⟨by rw [dec_len 17 n (by omega) (by omega)]; rfl, e0, rfl⟩)
                                    · refine zifYes X0 hx hby d18_30 38 ((if0 _ _).trans (flt (show ¬ ((0 : Int32) < (lcmpW (SBG.negL (n)) (-1000000000000000000 : Int64))) from by rw [lcmp_pos, show (-1000000000000000000 : Int64) = SBG.negL 1000000000000000000 from by decide, SBG.negL_lt (by omega) _ (by omega)]; omega)).2.2.2) (by decide) (by decide) (zldc2J X0 hx hby d18_38 (10 : Int64) hZ hown (w196 hw) (zlloadN X0 hx hby d18_41 rfl (zlmul X0 hx hby d18_42 (8446744073709551616 : Int64) (by decide) (zlstoreN X0 hx hby d18_43 (L' := #[.val (.long (SBG.negL (n))), .second, iv 0, .val (.long 8446744073709551616), .second, iv 18]) rfl (ziinc X0 hx hby d18_44 (L' := #[.val (.long (SBG.negL (n))), .second, iv 0, .val (.long 8446744073709551616), .second, iv 19]) rfl rfl (zgoto X0 hx hby d18_47 20 (by decide) (by decide) (ziload X0 hx hby d18_20 rfl (zbipush X0 hx hby d18_22 (z := (19 : Int32)) rfl (zicmpYes X0 hx hby d18_24 50 (by decide) (by decide) (by decide) ?_)))))))))
                                      show zEnds p e below s T0 (mkF m 50 #[.val (.long (SBG.negL (n))), .second, iv 0, .val (.long 8446744073709551616), .second, iv 19] []) _ _ _
                                      refine zbipush X0 hx hby d18_50 (z := (19 : Int32)) rfl (ziloadN X0 hx hby d18_52 rfl (ziadd X0 hx hby d18_53 (19 : Int32) (by decide) ?_))
                                      show zEnds p e below s T0 (mkF m 54 #[.val (.long (SBG.negL (n))), .second, iv 0, .val (.long 8446744073709551616), .second, iv 19] [(.int 19)]) _ _ _
                                      exact zretI X0 hx hby d18_54 hret hlk (by first | decide | omega | (dsimp only; omega)) (by first | decide | omega | (dsimp only; omega)) (⟨by rw [dec_len 18 n (by omega) (by omega)]; rfl, e0, rfl⟩)
theorem w172 (hw : HW a0 Z) : (Cond.fieldLink "java/lang/Integer" 83 "java/lang/Integer" "DigitOnes" "[B").before a0 Z = true := hwi hw 172 rfl
theorem w280 (hw : HW a0 Z) : (Cond.fieldLink "java/lang/Integer" 87 "java/lang/Integer" "DigitTens" "[B").before a0 Z = true := hwi hw 280 rfl
theorem d19_22 : decode jdk_33_method_12_code 22 = .ok (.iload_n 0, 1) := by decide +kernel
theorem d19_23 : decode jdk_33_method_12_code 23 = .ok (.bipush (-100), 2) := by decide +kernel
theorem d19_25 : decode jdk_33_method_12_code 25 = .ok (.if_icmp .gt 47, 3) := by decide +kernel
theorem d19_28 : decode jdk_33_method_12_code 28 = .ok (.iload_n 0, 1) := by decide +kernel
theorem d19_29 : decode jdk_33_method_12_code 29 = .ok (.bipush 100, 2) := by decide +kernel
theorem d19_31 : decode jdk_33_method_12_code 31 = .ok (.idiv, 1) := by decide +kernel
theorem d19_32 : decode jdk_33_method_12_code 32 = .ok (.istore_n 3, 1) := by decide +kernel
theorem d19_33 : decode jdk_33_method_12_code 33 = .ok (.iload_n 3, 1) := by decide +kernel
theorem d19_34 : decode jdk_33_method_12_code 34 = .ok (.bipush 100, 2) := by decide +kernel
theorem d19_36 : decode jdk_33_method_12_code 36 = .ok (.imul, 1) := by decide +kernel
theorem d19_37 : decode jdk_33_method_12_code 37 = .ok (.iload_n 0, 1) := by decide +kernel
theorem d19_38 : decode jdk_33_method_12_code 38 = .ok (.isub, 1) := by decide +kernel
theorem d19_39 : decode jdk_33_method_12_code 39 = .ok (.istore 4, 2) := by decide +kernel
theorem d19_41 : decode jdk_33_method_12_code 41 = .ok (.iload_n 3, 1) := by decide +kernel
theorem d19_42 : decode jdk_33_method_12_code 42 = .ok (.istore_n 0, 1) := by decide +kernel
theorem d19_43 : decode jdk_33_method_12_code 43 = .ok (.aload_n 2, 1) := by decide +kernel
theorem d19_44 : decode jdk_33_method_12_code 44 = .ok (.iinc 5 (-1), 3) := by decide +kernel
theorem d19_47 : decode jdk_33_method_12_code 47 = .ok (.iload 5, 2) := by decide +kernel
theorem d19_49 : decode jdk_33_method_12_code 49 = .ok (.getstatic 83, 3) := by decide +kernel
theorem d19_52 : decode jdk_33_method_12_code 52 = .ok (.iload 4, 2) := by decide +kernel
theorem d19_54 : decode jdk_33_method_12_code 54 = .ok (.baload, 1) := by decide +kernel
theorem d19_55 : decode jdk_33_method_12_code 55 = .ok (.bastore, 1) := by decide +kernel
theorem d19_56 : decode jdk_33_method_12_code 56 = .ok (.aload_n 2, 1) := by decide +kernel
theorem d19_57 : decode jdk_33_method_12_code 57 = .ok (.iinc 5 (-1), 3) := by decide +kernel
theorem d19_60 : decode jdk_33_method_12_code 60 = .ok (.iload 5, 2) := by decide +kernel
theorem d19_62 : decode jdk_33_method_12_code 62 = .ok (.getstatic 87, 3) := by decide +kernel
theorem d19_65 : decode jdk_33_method_12_code 65 = .ok (.iload 4, 2) := by decide +kernel
theorem d19_67 : decode jdk_33_method_12_code 67 = .ok (.baload, 1) := by decide +kernel
theorem d19_68 : decode jdk_33_method_12_code 68 = .ok (.bastore, 1) := by decide +kernel
theorem d19_69 : decode jdk_33_method_12_code 69 = .ok (.goto (-47), 3) := by decide +kernel
theorem d19_72 : decode jdk_33_method_12_code 72 = .ok (.aload_n 2, 1) := by decide +kernel
theorem d19_73 : decode jdk_33_method_12_code 73 = .ok (.iinc 5 (-1), 3) := by decide +kernel
theorem d19_76 : decode jdk_33_method_12_code 76 = .ok (.iload 5, 2) := by decide +kernel
theorem d19_78 : decode jdk_33_method_12_code 78 = .ok (.getstatic 83, 3) := by decide +kernel
theorem d19_81 : decode jdk_33_method_12_code 81 = .ok (.iload_n 0, 1) := by decide +kernel
theorem d19_82 : decode jdk_33_method_12_code 82 = .ok (.ineg, 1) := by decide +kernel
theorem d19_83 : decode jdk_33_method_12_code 83 = .ok (.baload, 1) := by decide +kernel
theorem d19_84 : decode jdk_33_method_12_code 84 = .ok (.bastore, 1) := by decide +kernel
theorem d19_85 : decode jdk_33_method_12_code 85 = .ok (.iload_n 0, 1) := by decide +kernel
theorem d19_86 : decode jdk_33_method_12_code 86 = .ok (.bipush (-9), 2) := by decide +kernel
theorem d19_88 : decode jdk_33_method_12_code 88 = .ok (.if_icmp .ge 16, 3) := by decide +kernel
theorem d19_91 : decode jdk_33_method_12_code 91 = .ok (.aload_n 2, 1) := by decide +kernel
theorem d19_92 : decode jdk_33_method_12_code 92 = .ok (.iinc 5 (-1), 3) := by decide +kernel
theorem d19_95 : decode jdk_33_method_12_code 95 = .ok (.iload 5, 2) := by decide +kernel
theorem d19_97 : decode jdk_33_method_12_code 97 = .ok (.getstatic 87, 3) := by decide +kernel
theorem d19_100 : decode jdk_33_method_12_code 100 = .ok (.iload_n 0, 1) := by decide +kernel
theorem d19_101 : decode jdk_33_method_12_code 101 = .ok (.ineg, 1) := by decide +kernel
theorem d19_102 : decode jdk_33_method_12_code 102 = .ok (.baload, 1) := by decide +kernel
theorem d19_103 : decode jdk_33_method_12_code 103 = .ok (.bastore, 1) := by decide +kernel
theorem d19_104 : decode jdk_33_method_12_code 104 = .ok (.iload 6, 2) := by decide +kernel
theorem d19_106 : decode jdk_33_method_12_code 106 = .ok (.ifCond .eq 12, 3) := by decide +kernel
theorem d19_118 : decode jdk_33_method_12_code 118 = .ok (.iload 5, 2) := by decide +kernel
theorem d19_120 : decode jdk_33_method_12_code 120 = .ok (.ireturn, 1) := by decide +kernel
def Pl (x : Slot) : Prop := x = .unset ∨ ∃ a : Int32, x = .val (.int a)
def Pj (x y : Slot) : Prop := (x = .unset ∧ y = .unset) ∨ ∃ a : Int64, x = .val (.long a) ∧ y = .second
theorem wrt_turn {ys : List Int8} {q pos n : Nat} (h : 100 ≤ n) (hp : pos = q + (dec n).length) (hl : pos ≤ ys.length) : wrt ((ys.set (pos - 1) (dg (n % 100 % 10))).set (pos - 1 - 1) (dg (n % 100 / 10))) q (dec (n / 100)) = wrt ys q (dec n) := by
  have e := dec_ge100 h
  have el : (dec n).length = (dec (n / 100)).length + 2 := by rw [e, List.length_append]; rfl
  have p1 : pos - 1 = q + (dec (n / 100)).length + 1 := by omega
  have p2 : pos - 1 - 1 = q + (dec (n / 100)).length := by omega
  rw [p2, p1, wrt_two _ _ (by omega), wrt_wrt (by show q + _ + 2 ≤ _; omega), ← e]
theorem gcI {p : Program} {l : Launch} {e : Env} {R : Room} {s : State} {m : MethodId} {args : Array Value} {below : List Frame} {meth : Method} {c : Code} {Z : State} {a0 : Array Value} {h0 : Heap} {n0 q cs_ ss_ : Nat} {b : Addr} {cs : Int32} {d1 d2 : Addr} {o1 o2 : List Int8}
    (hx : p.tables.exec = Jvm.exec) (hZ : Z.Warmed39 s.vm) (hw : HW a0 Z) (hby : c.code = jdk_33_method_12_code) (hml : c.maxLocals = 7) (hown : s.vm.findClass "java/lang/Integer" = some m.cls) (hret : meth.sig.returnType = (some .int)) (hlk : meth.locks = false) (C : Ctx Z cs d1 d2 o1 o2) (g_b : n0 ≤ b) (ix : Int32) :
    ∀ (n : Nat) {T0 : State} {locs : List Loc} {h : Heap} {ys : List Int8} {pos : Nat} {x3 x4 : Slot}, n < 2147483648 → Pl x3 → Pl x4 → pos = q + (dec n).length → pos ≤ ys.length → ys.length < 10000000 → Stand p l e R s m args below meth c T0 locs 0 0 → T0.heap = h → zOd Z n0 h → Keep h0 h [b] → Fr n0 locs → zBt Z h b ys →
      zEnds p e below s T0 (mkF m 22 #[iv (SBG.negI (n)), iv ix, rv b, x3, x4, iv (Int32.ofNat (pos)), iv 0] []) cs_ ss_ (fun v h L => v = some (.int (Int32.ofNat (q))) ∧ Fr n0 L ∧ Keep h0 h [b] ∧ zBt Z h b (wrt ys q (dec n))) := by
  obtain ⟨S_cs, hcs, S_d1, B_d1, H_d1, S_d2, B_d2, H_d2⟩ := id C
  intro n
  induction n using Nat.strongRecOn with
  | ind n ih =>
    intro T0 locs h ys pos x3 x4 hn hx3 hx4 hp hl hy X0 e0 O0 K0 N0 A_b
    show zEnds p e below s T0 (mkF m 22 #[iv (SBG.negI (n)), iv ix, rv b, x3, x4, iv (Int32.ofNat (pos)), iv 0] []) _ _ _
    refine ziloadN X0 hx hby d19_22 rfl (zbipush X0 hx hby d19_23 (z := (-100 : Int32)) rfl ?_)
    show zEnds p e below s T0 (mkF m 25 #[iv (SBG.negI (n)), iv ix, rv b, x3, x4, iv (Int32.ofNat (pos)), iv 0] [(.int (-100)), (.int (SBG.negI (n)))]) _ _ _
    by_cases hh : n < 100
    · have h1 := dec_len_pos n
      refine zicmpYes X0 hx hby d19_25 72 (tlt (show (-100 : Int32) < (SBG.negI (n)) from by rw [show (-100 : Int32) = SBG.negI 100 from by decide, SBG.negI_lt (by omega) _ (by omega)]; omega)).2.2.1 (by decide) (by decide) (zaloadN X0 hx hby d19_72 rfl rfl (ziinc X0 hx hby d19_73 (L' := #[iv (SBG.negI (n)), iv ix, rv b, x3, x4, iv (Int32.ofNat (pos - 1)), iv 0]) rfl (by rw [dec1 (by omega)]; rfl) (ziload X0 hx hby d19_76 rfl (zgetstat X0 hx hby d19_78 hZ hown (host := "") (Or.inl (w172 hw)) Via.refl e0 (S_d1.ext O0.2.2) fun T1 X1 e1 => (ziloadN X1 hx hby d19_81 rfl (zineg X1 hx hby d19_82 (Int32.ofNat (n)) (SBG.neg_negI (by omega)) (zbaloadB X1 hx hby d19_83 hZ e1 (B_d1.ext O0.2.2) (i := n) (by omega) (b := (dg (n % 10))) (H_d1 (n) (by omega)) (zbastoreB X1 hx hby d19_84 hZ e1 A_b (i := pos - 1) (by omega) (by first | omega | (simp only [List.length_set]; omega)) _ (dg (n % 10)) (nar_b _) fun T2 h2 X2 e2 W2 A2_b => ?_))))))))
      have O2 := O0.wr W2 g_b
      have K2 := Keep.wr K0 W2 (Or.inl (List.mem_of_getElem? (i := 0) rfl))
      have N2 := Fr.snoc X2 N0 g_b
      refine ziloadN X2 hx hby d19_85 rfl (zbipush X2 hx hby d19_86 (z := (-9 : Int32)) rfl ?_)
      show zEnds p e below s T2 (mkF m 88 #[iv (SBG.negI (n)), iv ix, rv b, x3, x4, iv (Int32.ofNat (pos - 1)), iv 0] [(.int (-9)), (.int (SBG.negI (n)))]) _ _ _
      by_cases h9 : 9 < n
      · have hd := congrArg List.length (dec_two h9 hh)
        simp only [List.length_cons, List.length_nil] at hd
        refine zicmpNo X2 hx hby d19_88 (tlt (show (SBG.negI (n)) < (-9 : Int32) from by rw [show (-9 : Int32) = SBG.negI 9 from by decide, SBG.negI_lt (by omega) _ (by omega)]; omega)).2.1 (zaloadN X2 hx hby d19_91 rfl rfl (ziinc X2 hx hby d19_92 (L' := #[iv (SBG.negI (n)), iv ix, rv b, x3, x4, iv (Int32.ofNat (pos - 1 - 1)), iv 0]) rfl (by rw [dec1 (by omega)]; rfl) (ziload X2 hx hby d19_95 rfl (zgetstat X2 hx hby d19_97 hZ hown (host := "") (Or.inl (w280 hw)) Via.refl e2 (S_d2.ext O2.2.2) fun T3 X3 e3 => (ziloadN X3 hx hby d19_100 rfl (zineg X3 hx hby d19_101 (Int32.ofNat (n)) (SBG.neg_negI (by omega)) (zbaloadB X3 hx hby d19_102 hZ e3 (B_d2.ext O2.2.2) (i := n) (by omega) (b := (dg (n / 10))) (H_d2 (n) (by omega)) (zbastoreB X3 hx hby d19_103 hZ e3 A2_b (i := pos - 1 - 1) (by omega) (by first | omega | (simp only [List.length_set]; omega)) _ (dg (n / 10)) (nar_b _) fun T4 h4 X4 e4 W4 A4_b => ?_))))))))
        have K4 := Keep.wr K2 W4 (Or.inl (List.mem_of_getElem? (i := 0) rfl))
        have N4 := Fr.snoc X4 N2 g_b
        refine ziload X4 hx hby d19_104 rfl (zifYes X4 hx hby d19_106 118 (by decide) (by decide) (by decide) (ziload X4 hx hby d19_118 rfl ?_))
        show zEnds p e below s T4 (mkF m 120 #[iv (SBG.negI (n)), iv ix, rv b, x3, x4, iv (Int32.ofNat (pos - 1 - 1)), iv 0] [(.int (Int32.ofNat (pos - 1 - 1)))]) _ _ _
        exact zretI X4 hx hby d19_120 hret hlk (by first | decide | omega | (dsimp only; omega)) (by first | decide | omega | (dsimp only; omega)) (by rw [e4]; exact ⟨by rw [show pos - 1 - 1 = q from by omega], N4, K4, by have r := A4_b; rw [show pos - 1 - 1 = q from by omega, show pos - 1 = q + 1 from by omega, wrt_two _ _ (by omega), ← dec_two h9 hh] at r; exact r⟩)
      · have hd := congrArg List.length (dec_lt (n := n) (by omega))
        simp only [List.length_cons, List.length_nil] at hd
        refine zicmpYes X2 hx hby d19_88 104 (flt (show ¬ ((SBG.negI (n)) < (-9 : Int32)) from by rw [show (-9 : Int32) = SBG.negI 9 from by decide, SBG.negI_lt (by omega) _ (by omega)]; omega)).2.1 (by decide) (by decide) (ziload X2 hx hby d19_104 rfl (zifYes X2 hx hby d19_106 118 (by decide) (by decide) (by decide) (ziload X2 hx hby d19_118 rfl ?_)))
        show zEnds p e below s T2 (mkF m 120 #[iv (SBG.negI (n)), iv ix, rv b, x3, x4, iv (Int32.ofNat (pos - 1)), iv 0] [(.int (Int32.ofNat (pos - 1)))]) _ _ _
        exact zretI X2 hx hby d19_120 hret hlk (by first | decide | omega | (dsimp only; omega)) (by first | decide | omega | (dsimp only; omega)) (by rw [e2]; exact ⟨by rw [show pos - 1 = q from by omega], N2, K2, by have r := A2_b; rw [show pos - 1 = q from by omega, wrt_one _ (by omega), Nat.mod_eq_of_lt (by omega), ← dec_lt (by omega)] at r; exact r⟩)
    · have h1 := dec_len_pos (n / 100)
      have h2 : (dec n).length = (dec (n / 100)).length + 2 := by rw [dec_ge100 (by omega), List.length_append]; rfl
      refine zicmpNo X0 hx hby d19_25 (flt (show ¬ ((-100 : Int32) < (SBG.negI (n))) from by rw [show (-100 : Int32) = SBG.negI 100 from by decide, SBG.negI_lt (by omega) _ (by omega)]; omega)).2.2.1 (ziloadN X0 hx hby d19_28 rfl (zbipush X0 hx hby d19_29 (z := (100 : Int32)) rfl (zidiv X0 hx hby d19_31 (SBG.negI (n / 100)) (by decide) (SBG.negI_div100 (by omega)) (zistoreN X0 hx hby d19_32 (L' := #[iv (SBG.negI (n)), iv ix, rv b, iv (SBG.negI (n / 100)), x4, iv (Int32.ofNat (pos)), iv 0]) (by rcases hx3 with rfl | ⟨_, rfl⟩ <;> rfl) (ziloadN X0 hx hby d19_33 rfl (zbipush X0 hx hby d19_34 (z := (100 : Int32)) rfl (zimul X0 hx hby d19_36 ((SBG.negI (n / 100)) * (100 : Int32)) rfl (ziloadN X0 hx hby d19_37 rfl (zisub X0 hx hby d19_38 (Int32.ofNat (n % 100)) (SBG.negI_rem (by omega)) ?_)))))))))
      show zEnds p e below s T0 (mkF m 39 #[iv (SBG.negI (n)), iv ix, rv b, iv (SBG.negI (n / 100)), x4, iv (Int32.ofNat (pos)), iv 0] [(.int (Int32.ofNat (n % 100)))]) _ _ _
      refine zistore X0 hx hby d19_39 (L' := #[iv (SBG.negI (n)), iv ix, rv b, iv (SBG.negI (n / 100)), iv (Int32.ofNat (n % 100)), iv (Int32.ofNat (pos)), iv 0]) (by rcases hx4 with rfl | ⟨_, rfl⟩ <;> rfl) (ziloadN X0 hx hby d19_41 rfl (zistoreN X0 hx hby d19_42 (L' := #[iv (SBG.negI (n / 100)), iv ix, rv b, iv (SBG.negI (n / 100)), iv (Int32.ofNat (n % 100)), iv (Int32.ofNat (pos)), iv 0]) rfl (zaloadN X0 hx hby d19_43 rfl rfl (ziinc X0 hx hby d19_44 (L' := #[iv (SBG.negI (n / 100)), iv ix, rv b, iv (SBG.negI (n / 100)), iv (Int32.ofNat (n % 100)), iv (Int32.ofNat (pos - 1)), iv 0]) rfl (by rw [dec1 (by omega)]; rfl) (ziload X0 hx hby d19_47 rfl (zgetstat X0 hx hby d19_49 hZ hown (host := "") (Or.inl (w172 hw)) Via.refl e0 (S_d1.ext O0.2.2) fun T5 X5 e5 => (ziload X5 hx hby d19_52 rfl (zbaloadB X5 hx hby d19_54 hZ e5 (B_d1.ext O0.2.2) (i := n % 100) (by omega) (b := (dg ((n % 100) % 10))) (H_d1 (n % 100) (by omega)) (zbastoreB X5 hx hby d19_55 hZ e5 A_b (i := pos - 1) (by omega) (by first | omega | (simp only [List.length_set]; omega)) _ (dg ((n % 100) % 10)) (nar_b _) fun T6 h6 X6 e6 W6 A6_b => ?_)))))))))
      have O6 := O0.wr W6 g_b
      have K6 := Keep.wr K0 W6 (Or.inl (List.mem_of_getElem? (i := 0) rfl))
      have N6 := Fr.snoc X6 N0 g_b
      refine zaloadN X6 hx hby d19_56 rfl rfl (ziinc X6 hx hby d19_57 (L' := #[iv (SBG.negI (n / 100)), iv ix, rv b, iv (SBG.negI (n / 100)), iv (Int32.ofNat (n % 100)), iv (Int32.ofNat (pos - 1 - 1)), iv 0]) rfl (by rw [dec1 (by omega)]; rfl) (ziload X6 hx hby d19_60 rfl (zgetstat X6 hx hby d19_62 hZ hown (host := "") (Or.inl (w280 hw)) Via.refl e6 (S_d2.ext O6.2.2) fun T7 X7 e7 => (ziload X7 hx hby d19_65 rfl (zbaloadB X7 hx hby d19_67 hZ e7 (B_d2.ext O6.2.2) (i := n % 100) (by omega) (b := (dg ((n % 100) / 10))) (H_d2 (n % 100) (by omega)) (zbastoreB X7 hx hby d19_68 hZ e7 A6_b (i := pos - 1 - 1) (by omega) (by first | omega | (simp only [List.length_set]; omega)) _ (dg ((n % 100) / 10)) (nar_b _) fun T8 h8 X8 e8 W8 A8_b => ?_))))))
      have O8 := O6.wr W8 g_b
      have K8 := Keep.wr K6 W8 (Or.inl (List.mem_of_getElem? (i := 0) rfl))
      have N8 := Fr.snoc X8 N6 g_b
      refine zgoto X8 hx hby d19_69 22 (by decide) (by decide) ?_
      show zEnds p e below s T8 (mkF m 22 #[iv (SBG.negI (n / 100)), iv ix, rv b, iv (SBG.negI (n / 100)), iv (Int32.ofNat (n % 100)), iv (Int32.ofNat (pos - 1 - 1)), iv 0] []) _ _ _
      rw [← wrt_turn (by omega) hp hl]
      exact ih (n / 100) (by omega) (pos := pos - 1 - 1) (by omega) (Or.inr ⟨_, rfl⟩) (Or.inr ⟨_, rfl⟩) (by omega) (by simp only [List.length_set]; omega) (by simp only [List.length_set]; omega) X8 e8 O8 K8 N8 A8_b
theorem w193 (hw : HW a0 Z) : (Cond.constantLong "java/lang/Long" 129 (-2147483648 : Int64)).before a0 Z = true := hwi hw 193 rfl
theorem w194 (hw : HW a0 Z) : (Cond.fieldLink "java/lang/Long" 133 "java/lang/Integer" "DigitOnes" "[B").before a0 Z = true := hwi hw 194 rfl
theorem w197 (hw : HW a0 Z) : (Cond.constantLong "java/lang/Long" 131 (100 : Int64)).before a0 Z = true := hwi hw 197 rfl
theorem w198 (hw : HW a0 Z) : (Cond.fieldLink "java/lang/Long" 137 "java/lang/Integer" "DigitTens" "[B").before a0 Z = true := hwi hw 198 rfl
theorem d19_0 : decode jdk_33_method_12_code 0 = .ok (.iload_n 1, 1) := by decide +kernel
theorem d19_1 : decode jdk_33_method_12_code 1 = .ok (.istore 5, 2) := by decide +kernel
theorem d19_3 : decode jdk_33_method_12_code 3 = .ok (.iload_n 0, 1) := by decide +kernel
theorem d19_4 : decode jdk_33_method_12_code 4 = .ok (.ifCond .ge 7, 3) := by decide +kernel
theorem d19_11 : decode jdk_33_method_12_code 11 = .ok (.iconst 0, 1) := by decide +kernel
theorem d19_12 : decode jdk_33_method_12_code 12 = .ok (.istore 6, 2) := by decide +kernel
theorem d19_14 : decode jdk_33_method_12_code 14 = .ok (.iload 6, 2) := by decide +kernel
theorem d19_16 : decode jdk_33_method_12_code 16 = .ok (.ifCond .ne 6, 3) := by decide +kernel
theorem d19_19 : decode jdk_33_method_12_code 19 = .ok (.iload_n 0, 1) := by decide +kernel
theorem d19_20 : decode jdk_33_method_12_code 20 = .ok (.ineg, 1) := by decide +kernel
theorem d19_21 : decode jdk_33_method_12_code 21 = .ok (.istore_n 0, 1) := by decide +kernel
theorem d20_0 : decode jdk_35_method_14_code 0 = .ok (.iload_n 2, 1) := by decide +kernel
theorem d20_1 : decode jdk_35_method_14_code 1 = .ok (.istore 7, 2) := by decide +kernel
theorem d20_3 : decode jdk_35_method_14_code 3 = .ok (.lload_n 0, 1) := by decide +kernel
theorem d20_4 : decode jdk_35_method_14_code 4 = .ok (.lconst 0, 1) := by decide +kernel
theorem d20_5 : decode jdk_35_method_14_code 5 = .ok (.lcmp, 1) := by decide +kernel
theorem d20_6 : decode jdk_35_method_14_code 6 = .ok (.ifCond .ge 7, 3) := by decide +kernel
theorem d20_13 : decode jdk_35_method_14_code 13 = .ok (.iconst 0, 1) := by decide +kernel
theorem d20_14 : decode jdk_35_method_14_code 14 = .ok (.istore 8, 2) := by decide +kernel
theorem d20_16 : decode jdk_35_method_14_code 16 = .ok (.iload 8, 2) := by decide +kernel
theorem d20_18 : decode jdk_35_method_14_code 18 = .ok (.ifCond .ne 6, 3) := by decide +kernel
theorem d20_21 : decode jdk_35_method_14_code 21 = .ok (.lload_n 0, 1) := by decide +kernel
theorem d20_22 : decode jdk_35_method_14_code 22 = .ok (.lneg, 1) := by decide +kernel
theorem d20_23 : decode jdk_35_method_14_code 23 = .ok (.lstore_n 0, 1) := by decide +kernel
theorem d20_24 : decode jdk_35_method_14_code 24 = .ok (.lload_n 0, 1) := by decide +kernel
theorem d20_25 : decode jdk_35_method_14_code 25 = .ok (.ldc2_w 129, 3) := by decide +kernel
theorem d20_28 : decode jdk_35_method_14_code 28 = .ok (.lcmp, 1) := by decide +kernel
theorem d20_29 : decode jdk_35_method_14_code 29 = .ok (.ifCond .gt 53, 3) := by decide +kernel
theorem d20_32 : decode jdk_35_method_14_code 32 = .ok (.lload_n 0, 1) := by decide +kernel
theorem d20_33 : decode jdk_35_method_14_code 33 = .ok (.ldc2_w 131, 3) := by decide +kernel
theorem d20_36 : decode jdk_35_method_14_code 36 = .ok (.ldiv, 1) := by decide +kernel
theorem d20_37 : decode jdk_35_method_14_code 37 = .ok (.lstore 4, 2) := by decide +kernel
theorem d20_39 : decode jdk_35_method_14_code 39 = .ok (.lload 4, 2) := by decide +kernel
theorem d20_41 : decode jdk_35_method_14_code 41 = .ok (.ldc2_w 131, 3) := by decide +kernel
theorem d20_44 : decode jdk_35_method_14_code 44 = .ok (.lmul, 1) := by decide +kernel
theorem d20_45 : decode jdk_35_method_14_code 45 = .ok (.lload_n 0, 1) := by decide +kernel
theorem d20_46 : decode jdk_35_method_14_code 46 = .ok (.lsub, 1) := by decide +kernel
theorem d20_47 : decode jdk_35_method_14_code 47 = .ok (.l2i, 1) := by decide +kernel
theorem d20_48 : decode jdk_35_method_14_code 48 = .ok (.istore 6, 2) := by decide +kernel
theorem d20_50 : decode jdk_35_method_14_code 50 = .ok (.lload 4, 2) := by decide +kernel
theorem d20_52 : decode jdk_35_method_14_code 52 = .ok (.lstore_n 0, 1) := by decide +kernel
theorem d20_53 : decode jdk_35_method_14_code 53 = .ok (.aload_n 3, 1) := by decide +kernel
theorem d20_54 : decode jdk_35_method_14_code 54 = .ok (.iinc 7 (-1), 3) := by decide +kernel
theorem d20_57 : decode jdk_35_method_14_code 57 = .ok (.iload 7, 2) := by decide +kernel
theorem d20_59 : decode jdk_35_method_14_code 59 = .ok (.getstatic 133, 3) := by decide +kernel
theorem d20_62 : decode jdk_35_method_14_code 62 = .ok (.iload 6, 2) := by decide +kernel
theorem d20_64 : decode jdk_35_method_14_code 64 = .ok (.baload, 1) := by decide +kernel
theorem d20_65 : decode jdk_35_method_14_code 65 = .ok (.bastore, 1) := by decide +kernel
theorem d20_66 : decode jdk_35_method_14_code 66 = .ok (.aload_n 3, 1) := by decide +kernel
theorem d20_67 : decode jdk_35_method_14_code 67 = .ok (.iinc 7 (-1), 3) := by decide +kernel
theorem d20_70 : decode jdk_35_method_14_code 70 = .ok (.iload 7, 2) := by decide +kernel
theorem d20_72 : decode jdk_35_method_14_code 72 = .ok (.getstatic 137, 3) := by decide +kernel
theorem d20_75 : decode jdk_35_method_14_code 75 = .ok (.iload 6, 2) := by decide +kernel
theorem d20_77 : decode jdk_35_method_14_code 77 = .ok (.baload, 1) := by decide +kernel
theorem d20_78 : decode jdk_35_method_14_code 78 = .ok (.bastore, 1) := by decide +kernel
theorem d20_79 : decode jdk_35_method_14_code 79 = .ok (.goto (-55), 3) := by decide +kernel
theorem d20_82 : decode jdk_35_method_14_code 82 = .ok (.lload_n 0, 1) := by decide +kernel
theorem d20_83 : decode jdk_35_method_14_code 83 = .ok (.l2i, 1) := by decide +kernel
theorem d20_84 : decode jdk_35_method_14_code 84 = .ok (.istore 10, 2) := by decide +kernel
theorem d20_86 : decode jdk_35_method_14_code 86 = .ok (.iload 10, 2) := by decide +kernel
theorem d20_88 : decode jdk_35_method_14_code 88 = .ok (.bipush (-100), 2) := by decide +kernel
theorem d20_90 : decode jdk_35_method_14_code 90 = .ok (.if_icmp .gt 53, 3) := by decide +kernel
theorem d20_93 : decode jdk_35_method_14_code 93 = .ok (.iload 10, 2) := by decide +kernel
theorem d20_95 : decode jdk_35_method_14_code 95 = .ok (.bipush 100, 2) := by decide +kernel
theorem d20_97 : decode jdk_35_method_14_code 97 = .ok (.idiv, 1) := by decide +kernel
theorem d20_98 : decode jdk_35_method_14_code 98 = .ok (.istore 9, 2) := by decide +kernel
theorem d20_100 : decode jdk_35_method_14_code 100 = .ok (.iload 9, 2) := by decide +kernel
theorem d20_102 : decode jdk_35_method_14_code 102 = .ok (.bipush 100, 2) := by decide +kernel
theorem d20_104 : decode jdk_35_method_14_code 104 = .ok (.imul, 1) := by decide +kernel
theorem d20_105 : decode jdk_35_method_14_code 105 = .ok (.iload 10, 2) := by decide +kernel
theorem d20_107 : decode jdk_35_method_14_code 107 = .ok (.isub, 1) := by decide +kernel
theorem d20_108 : decode jdk_35_method_14_code 108 = .ok (.istore 6, 2) := by decide +kernel
theorem d20_110 : decode jdk_35_method_14_code 110 = .ok (.iload 9, 2) := by decide +kernel
theorem d20_112 : decode jdk_35_method_14_code 112 = .ok (.istore 10, 2) := by decide +kernel
theorem d20_114 : decode jdk_35_method_14_code 114 = .ok (.aload_n 3, 1) := by decide +kernel
theorem d20_115 : decode jdk_35_method_14_code 115 = .ok (.iinc 7 (-1), 3) := by decide +kernel
theorem d20_118 : decode jdk_35_method_14_code 118 = .ok (.iload 7, 2) := by decide +kernel
theorem d20_120 : decode jdk_35_method_14_code 120 = .ok (.getstatic 133, 3) := by decide +kernel
theorem d20_123 : decode jdk_35_method_14_code 123 = .ok (.iload 6, 2) := by decide +kernel
theorem d20_125 : decode jdk_35_method_14_code 125 = .ok (.baload, 1) := by decide +kernel
theorem d20_126 : decode jdk_35_method_14_code 126 = .ok (.bastore, 1) := by decide +kernel
theorem d20_127 : decode jdk_35_method_14_code 127 = .ok (.aload_n 3, 1) := by decide +kernel
theorem d20_128 : decode jdk_35_method_14_code 128 = .ok (.iinc 7 (-1), 3) := by decide +kernel
theorem d20_131 : decode jdk_35_method_14_code 131 = .ok (.iload 7, 2) := by decide +kernel
theorem d20_133 : decode jdk_35_method_14_code 133 = .ok (.getstatic 137, 3) := by decide +kernel
theorem d20_136 : decode jdk_35_method_14_code 136 = .ok (.iload 6, 2) := by decide +kernel
theorem d20_138 : decode jdk_35_method_14_code 138 = .ok (.baload, 1) := by decide +kernel
theorem d20_139 : decode jdk_35_method_14_code 139 = .ok (.bastore, 1) := by decide +kernel
theorem d20_140 : decode jdk_35_method_14_code 140 = .ok (.goto (-54), 3) := by decide +kernel
theorem d20_143 : decode jdk_35_method_14_code 143 = .ok (.aload_n 3, 1) := by decide +kernel
theorem d20_144 : decode jdk_35_method_14_code 144 = .ok (.iinc 7 (-1), 3) := by decide +kernel
theorem d20_147 : decode jdk_35_method_14_code 147 = .ok (.iload 7, 2) := by decide +kernel
theorem d20_149 : decode jdk_35_method_14_code 149 = .ok (.getstatic 133, 3) := by decide +kernel
theorem d20_152 : decode jdk_35_method_14_code 152 = .ok (.iload 10, 2) := by decide +kernel
theorem d20_154 : decode jdk_35_method_14_code 154 = .ok (.ineg, 1) := by decide +kernel
theorem d20_155 : decode jdk_35_method_14_code 155 = .ok (.baload, 1) := by decide +kernel
theorem d20_156 : decode jdk_35_method_14_code 156 = .ok (.bastore, 1) := by decide +kernel
theorem d20_157 : decode jdk_35_method_14_code 157 = .ok (.iload 10, 2) := by decide +kernel
theorem d20_159 : decode jdk_35_method_14_code 159 = .ok (.bipush (-9), 2) := by decide +kernel
theorem d20_161 : decode jdk_35_method_14_code 161 = .ok (.if_icmp .ge 17, 3) := by decide +kernel
theorem d20_164 : decode jdk_35_method_14_code 164 = .ok (.aload_n 3, 1) := by decide +kernel
theorem d20_165 : decode jdk_35_method_14_code 165 = .ok (.iinc 7 (-1), 3) := by decide +kernel
theorem d20_168 : decode jdk_35_method_14_code 168 = .ok (.iload 7, 2) := by decide +kernel
theorem d20_170 : decode jdk_35_method_14_code 170 = .ok (.getstatic 137, 3) := by decide +kernel
theorem d20_173 : decode jdk_35_method_14_code 173 = .ok (.iload 10, 2) := by decide +kernel
theorem d20_175 : decode jdk_35_method_14_code 175 = .ok (.ineg, 1) := by decide +kernel
theorem d20_176 : decode jdk_35_method_14_code 176 = .ok (.baload, 1) := by decide +kernel
theorem d20_177 : decode jdk_35_method_14_code 177 = .ok (.bastore, 1) := by decide +kernel
theorem d20_178 : decode jdk_35_method_14_code 178 = .ok (.iload 8, 2) := by decide +kernel
theorem d20_180 : decode jdk_35_method_14_code 180 = .ok (.ifCond .eq 12, 3) := by decide +kernel
theorem d20_192 : decode jdk_35_method_14_code 192 = .ok (.iload 7, 2) := by decide +kernel
theorem d20_194 : decode jdk_35_method_14_code 194 = .ok (.ireturn, 1) := by decide +kernel
theorem c_charsI (hw : HW a0 Z) (C : Ctx Z cs d1 d2 o1 o2) (O0 : zOd Z n0 h0) (b : Addr) (ys : List Int8) (A_b : zBt Z h0 b ys) (g_b : n0 ≤ b) (n q : Nat) (hn : n < 2147483648) (hl : q + (dec n).length ≤ ys.length) (hy : ys.length < 10000000) : zCon l Z (⟨"java/lang/Integer", "getChars", "(II[B)I"⟩ : MethodName) jdk_33_method_12_code 7 (some .int) [] ({ frames := 0, cells := 0, slots := 0, locals := 0 } : Room) #[(.int (Int32.ofNat (n))), (.int (Int32.ofNat (q + (dec n).length))), (.ref b)] h0 (fun v h L => v = some (.int (Int32.ofNat (q))) ∧ Fr n0 L ∧ Keep h0 h [b] ∧ zBt Z h b (wrt ys q (dec n))) := by
  refine zenter (plainFor_of_name pn_5) (L0 := #[iv (Int32.ofNat (n)), iv (Int32.ofNat (q + (dec n).length)), rv b, .unset, .unset, .unset, .unset]) (fun m => by first | rfl | simp [entryFrame, mkF, argsToLocals, Value.category]) ?_
  intro p e s m below meth c T0 hx hZ hby hml hown0 hnm hret hlk X0 e0
  have hown : s.vm.findClass "java/lang/Integer" = some m.cls := hown0
  have K0 := Keep.refl h0 [b]
  have N0 := Fr.nil n0
  show zEnds p e below s T0 (mkF m 0 #[iv (Int32.ofNat (n)), iv (Int32.ofNat (q + (dec n).length)), rv b, .unset, .unset, .unset, .unset] []) _ _ _
  refine ziloadN X0 hx hby d19_0 rfl (zistore X0 hx hby d19_1 (L' := #[iv (Int32.ofNat (n)), iv (Int32.ofNat (q + (dec n).length)), rv b, .unset, .unset, iv (Int32.ofNat (q + (dec n).length)), .unset]) rfl (ziloadN X0 hx hby d19_3 rfl (zifYes X0 hx hby d19_4 11 ((if0 _ _).trans (flt (show ¬ ((Int32.ofNat (n)) < Int32.ofNat (0)) from by rw [zofN_lt (by omega) (by omega)]; omega)).2.1) (by decide) (by decide) (ziconst X0 hx hby d19_11 (z := (0 : Int32)) rfl (zistore X0 hx hby d19_12 (L' := #[iv (Int32.ofNat (n)), iv (Int32.ofNat (q + (dec n).length)), rv b, .unset, .unset, iv (Int32.ofNat (q + (dec n).length)), iv 0]) rfl (ziload X0 hx hby d19_14 rfl (zifNo X0 hx hby d19_16 (by decide) (ziloadN X0 hx hby d19_19 rfl (zineg X0 hx hby d19_20 (SBG.negI (n)) (negI_ofN _) ?_)))))))))
  show zEnds p e below s T0 (mkF m 21 #[iv (Int32.ofNat (n)), iv (Int32.ofNat (q + (dec n).length)), rv b, .unset, .unset, iv (Int32.ofNat (q + (dec n).length)), iv 0] [(.int (SBG.negI (n)))]) _ _ _
  refine zistoreN X0 hx hby d19_21 (L' := #[iv (SBG.negI (n)), iv (Int32.ofNat (q + (dec n).length)), rv b, .unset, .unset, iv (Int32.ofNat (q + (dec n).length)), iv 0]) rfl ?_
  show zEnds p e below s T0 (mkF m 22 #[iv (SBG.negI (n)), iv (Int32.ofNat (q + (dec n).length)), rv b, .unset, .unset, iv (Int32.ofNat (q + (dec n).length)), iv 0] []) _ _ _
  exact gcI hx hZ hw hby hml hown hret hlk C g_b _ n hn (Or.inl rfl) (Or.inl rfl) rfl hl hy X0 e0 O0 K0 N0 A_b
theorem gcJ2 {p : Program} {l : Launch} {e : Env} {R : Room} {s : State} {m : MethodId} {args : Array Value} {below : List Frame} {meth : Method} {c : Code} {Z : State} {a0 : Array Value} {h0 : Heap} {n0 q cs_ ss_ : Nat} {b : Addr} {cs : Int32} {d1 d2 : Addr} {o1 o2 : List Int8}
    (hx : p.tables.exec = Jvm.exec) (hZ : Z.Warmed39 s.vm) (hw : HW a0 Z) (hby : c.code = jdk_35_method_14_code) (hml : c.maxLocals = 11) (hown : s.vm.findClass "java/lang/Long" = some m.cls) (hret : meth.sig.returnType = (some .int)) (hlk : meth.locks = false) (C : Ctx Z cs d1 d2 o1 o2) (g_b : n0 ≤ b) (ix : Int32) :
    ∀ (n : Nat) {T0 : State} {locs : List Loc} {h : Heap} {ys : List Int8} {pos : Nat} {y0 : Int64} {x4 x5 x6 x9 : Slot}, n < 2147483648 → Pl x6 → Pl x9 → pos = q + (dec n).length → pos ≤ ys.length → ys.length < 10000000 → Stand p l e R s m args below meth c T0 locs 0 0 → T0.heap = h → zOd Z n0 h → Keep h0 h [b] → Fr n0 locs → zBt Z h b ys →
      zEnds p e below s T0 (mkF m 86 #[.val (.long y0), .second, iv ix, rv b, x4, x5, x6, iv (Int32.ofNat (pos)), iv 0, x9, iv (SBG.negI (n))] []) cs_ ss_ (fun v h L => v = some (.int (Int32.ofNat (q))) ∧ Fr n0 L ∧ Keep h0 h [b] ∧ zBt Z h b (wrt ys q (dec n))) := by
  obtain ⟨S_cs, hcs, S_d1, B_d1, H_d1, S_d2, B_d2, H_d2⟩ := id C
  intro n
  induction n using Nat.strongRecOn with
  | ind n ih =>
    intro T0 locs h ys pos y0 x4 x5 x6 x9 hn hx6 hx9 hp hl hy X0 e0 O0 K0 N0 A_b
    show zEnds p e below s T0 (mkF m 86 #[.val (.long y0), .second, iv ix, rv b, x4, x5, x6, iv (Int32.ofNat (pos)), iv 0, x9, iv (SBG.negI (n))] []) _ _ _
    refine ziload X0 hx hby d20_86 rfl (zbipush X0 hx hby d20_88 (z := (-100 : Int32)) rfl ?_)
    show zEnds p e below s T0 (mkF m 90 #[.val (.long y0), .second, iv ix, rv b, x4, x5, x6, iv (Int32.ofNat (pos)), iv 0, x9, iv (SBG.negI (n))] [(.int (-100)), (.int (SBG.negI (n)))]) _ _ _
    by_cases hh : n < 100
    · have h1 := dec_len_pos n
      refine zicmpYes X0 hx hby d20_90 143 (tlt (show (-100 : Int32) < (SBG.negI (n)) from by rw [show (-100 : Int32) = SBG.negI 100 from by decide, SBG.negI_lt (by omega) _ (by omega)]; omega)).2.2.1 (by decide) (by decide) (zaloadN X0 hx hby d20_143 rfl rfl (ziinc X0 hx hby d20_144 (L' := #[.val (.long y0), .second, iv ix, rv b, x4, x5, x6, iv (Int32.ofNat (pos - 1)), iv 0, x9, iv (SBG.negI (n))]) rfl (by rw [dec1 (by omega)]; rfl) (ziload X0 hx hby d20_147 rfl (zgetstat X0 hx hby d20_149 hZ hown (host := "") (Or.inl (w194 hw)) Via.refl e0 (S_d1.ext O0.2.2) fun T1 X1 e1 => (ziload X1 hx hby d20_152 rfl (zineg X1 hx hby d20_154 (Int32.ofNat (n)) (SBG.neg_negI (by omega)) (zbaloadB X1 hx hby d20_155 hZ e1 (B_d1.ext O0.2.2) (i := n) (by omega) (b := (dg (n % 10))) (H_d1 (n) (by omega)) (zbastoreB X1 hx hby d20_156 hZ e1 A_b (i := pos - 1) (by omega) (by first | omega | (simp only [List.length_set]; omega)) _ (dg (n % 10)) (nar_b _) fun T2 h2 X2 e2 W2 A2_b => ?_))))))))
      have O2 := O0.wr W2 g_b
      have K2 := Keep.wr K0 W2 (Or.inl (List.mem_of_getElem? (i := 0) rfl))
      have N2 := Fr.snoc X2 N0 g_b
      refine ziload X2 hx hby d20_157 rfl (zbipush X2 hx hby d20_159 (z := (-9 : Int32)) rfl ?_)
      show zEnds p e below s T2 (mkF m 161 #[.val (.long y0), .second, iv ix, rv b, x4, x5, x6, iv (Int32.ofNat (pos - 1)), iv 0, x9, iv (SBG.negI (n))] [(.int (-9)), (.int (SBG.negI (n)))]) _ _ _
      by_cases h9 : 9 < n
      · have hd := congrArg List.length (dec_two h9 hh)
        simp only [List.length_cons, List.length_nil] at hd
        refine zicmpNo X2 hx hby d20_161 (tlt (show (SBG.negI (n)) < (-9 : Int32) from by rw [show (-9 : Int32) = SBG.negI 9 from by decide, SBG.negI_lt (by omega) _ (by omega)]; omega)).2.1 (zaloadN X2 hx hby d20_164 rfl rfl (ziinc X2 hx hby d20_165 (L' := #[.val (.long y0), .second, iv ix, rv b, x4, x5, x6, iv (Int32.ofNat (pos - 1 - 1)), iv 0, x9, iv (SBG.negI (n))]) rfl (by rw [dec1 (by omega)]; rfl) (ziload X2 hx hby d20_168 rfl (zgetstat X2 hx hby d20_170 hZ hown (host := "") (Or.inl (w198 hw)) Via.refl e2 (S_d2.ext O2.2.2) fun T3 X3 e3 => (ziload X3 hx hby d20_173 rfl (zineg X3 hx hby d20_175 (Int32.ofNat (n)) (SBG.neg_negI (by omega)) (zbaloadB X3 hx hby d20_176 hZ e3 (B_d2.ext O2.2.2) (i := n) (by omega) (b := (dg (n / 10))) (H_d2 (n) (by omega)) (zbastoreB X3 hx hby d20_177 hZ e3 A2_b (i := pos - 1 - 1) (by omega) (by first | omega | (simp only [List.length_set]; omega)) _ (dg (n / 10)) (nar_b _) fun T4 h4 X4 e4 W4 A4_b => ?_))))))))
        have K4 := Keep.wr K2 W4 (Or.inl (List.mem_of_getElem? (i := 0) rfl))
        have N4 := Fr.snoc X4 N2 g_b
        refine ziload X4 hx hby d20_178 rfl (zifYes X4 hx hby d20_180 192 (by decide) (by decide) (by decide) (ziload X4 hx hby d20_192 rfl ?_))
        show zEnds p e below s T4 (mkF m 194 #[.val (.long y0), .second, iv ix, rv b, x4, x5, x6, iv (Int32.ofNat (pos - 1 - 1)), iv 0, x9, iv (SBG.negI (n))] [(.int (Int32.ofNat (pos - 1 - 1)))]) _ _ _
        exact zretI X4 hx hby d20_194 hret hlk (by first | decide | omega | (dsimp only; omega)) (by first | decide | omega | (dsimp only; omega)) (by rw [e4]; exact ⟨by rw [show pos - 1 - 1 = q from by omega], N4, K4, by have r := A4_b; rw [show pos - 1 - 1 = q from by omega, show pos - 1 = q + 1 from by omega, wrt_two _ _ (by omega), ← dec_two h9 hh] at r; exact r⟩)
      · have hd := congrArg List.length (dec_lt (n := n) (by omega))
        simp only [List.length_cons, List.length_nil] at hd
        refine zicmpYes X2 hx hby d20_161 178 (flt (show ¬ ((SBG.negI (n)) < (-9 : Int32)) from by rw [show (-9 : Int32) = SBG.negI 9 from by decide, SBG.negI_lt (by omega) _ (by omega)]; omega)).2.1 (by decide) (by decide) (ziload X2 hx hby d20_178 rfl (zifYes X2 hx hby d20_180 192 (by decide) (by decide) (by decide) (ziload X2 hx hby d20_192 rfl ?_)))
        show zEnds p e below s T2 (mkF m 194 #[.val (.long y0), .second, iv ix, rv b, x4, x5, x6, iv (Int32.ofNat (pos - 1)), iv 0, x9, iv (SBG.negI (n))] [(.int (Int32.ofNat (pos - 1)))]) _ _ _
        exact zretI X2 hx hby d20_194 hret hlk (by first | decide | omega | (dsimp only; omega)) (by first | decide | omega | (dsimp only; omega)) (by rw [e2]; exact ⟨by rw [show pos - 1 = q from by omega], N2, K2, by have r := A2_b; rw [show pos - 1 = q from by omega, wrt_one _ (by omega), Nat.mod_eq_of_lt (by omega), ← dec_lt (by omega)] at r; exact r⟩)
    · have h1 := dec_len_pos (n / 100)
      have h2 : (dec n).length = (dec (n / 100)).length + 2 := by rw [dec_ge100 (by omega), List.length_append]; rfl
      refine zicmpNo X0 hx hby d20_90 (flt (show ¬ ((-100 : Int32) < (SBG.negI (n))) from by rw [show (-100 : Int32) = SBG.negI 100 from by decide, SBG.negI_lt (by omega) _ (by omega)]; omega)).2.2.1 (ziload X0 hx hby d20_93 rfl (zbipush X0 hx hby d20_95 (z := (100 : Int32)) rfl (zidiv X0 hx hby d20_97 (SBG.negI (n / 100)) (by decide) (SBG.negI_div100 (by omega)) (zistore X0 hx hby d20_98 (L' := #[.val (.long y0), .second, iv ix, rv b, x4, x5, x6, iv (Int32.ofNat (pos)), iv 0, iv (SBG.negI (n / 100)), iv (SBG.negI (n))]) (by rcases hx9 with rfl | ⟨_, rfl⟩ <;> rfl) (ziload X0 hx hby d20_100 rfl (zbipush X0 hx hby d20_102 (z := (100 : Int32)) rfl (zimul X0 hx hby d20_104 ((SBG.negI (n / 100)) * (100 : Int32)) rfl (ziload X0 hx hby d20_105 rfl (zisub X0 hx hby d20_107 (Int32.ofNat (n % 100)) (SBG.negI_rem (by omega)) ?_)))))))))
      show zEnds p e below s T0 (mkF m 108 #[.val (.long y0), .second, iv ix, rv b, x4, x5, x6, iv (Int32.ofNat (pos)), iv 0, iv (SBG.negI (n / 100)), iv (SBG.negI (n))] [(.int (Int32.ofNat (n % 100)))]) _ _ _
      refine zistore X0 hx hby d20_108 (L' := #[.val (.long y0), .second, iv ix, rv b, x4, x5, iv (Int32.ofNat (n % 100)), iv (Int32.ofNat (pos)), iv 0, iv (SBG.negI (n / 100)), iv (SBG.negI (n))]) (by rcases hx6 with rfl | ⟨_, rfl⟩ <;> rfl) (ziload X0 hx hby d20_110 rfl (zistore X0 hx hby d20_112 (L' := #[.val (.long y0), .second, iv ix, rv b, x4, x5, iv (Int32.ofNat (n % 100)), iv (Int32.ofNat (pos)), iv 0, iv (SBG.negI (n / 100)), iv (SBG.negI (n / 100))]) rfl (zaloadN X0 hx hby d20_114 rfl rfl (ziinc X0 hx hby d20_115 (L' := #[.val (.long y0), .second, iv ix, rv b, x4, x5, iv (Int32.ofNat (n % 100)), iv (Int32.ofNat (pos - 1)), iv 0, iv (SBG.negI (n / 100)), iv (SBG.negI (n / 100))]) rfl (by rw [dec1 (by omega)]; rfl) (ziload X0 hx hby d20_118 rfl (zgetstat X0 hx hby d20_120 hZ hown (host := "") (Or.inl (w194 hw)) Via.refl e0 (S_d1.ext O0.2.2) fun T5 X5 e5 => (ziload X5 hx hby d20_123 rfl (zbaloadB X5 hx hby d20_125 hZ e5 (B_d1.ext O0.2.2) (i := n % 100) (by omega) (b := (dg ((n % 100) % 10))) (H_d1 (n % 100) (by omega)) (zbastoreB X5 hx hby d20_126 hZ e5 A_b (i := pos - 1) (by omega) (by first | omega | (simp only [List.length_set]; omega)) _ (dg ((n % 100) % 10)) (nar_b _) fun T6 h6 X6 e6 W6 A6_b => ?_)))))))))
      have O6 := O0.wr W6 g_b
      have K6 := Keep.wr K0 W6 (Or.inl (List.mem_of_getElem? (i := 0) rfl))
      have N6 := Fr.snoc X6 N0 g_b
      refine zaloadN X6 hx hby d20_127 rfl rfl (ziinc X6 hx hby d20_128 (L' := #[.val (.long y0), .second, iv ix, rv b, x4, x5, iv (Int32.ofNat (n % 100)), iv (Int32.ofNat (pos - 1 - 1)), iv 0, iv (SBG.negI (n / 100)), iv (SBG.negI (n / 100))]) rfl (by rw [dec1 (by omega)]; rfl) (ziload X6 hx hby d20_131 rfl (zgetstat X6 hx hby d20_133 hZ hown (host := "") (Or.inl (w198 hw)) Via.refl e6 (S_d2.ext O6.2.2) fun T7 X7 e7 => (ziload X7 hx hby d20_136 rfl (zbaloadB X7 hx hby d20_138 hZ e7 (B_d2.ext O6.2.2) (i := n % 100) (by omega) (b := (dg ((n % 100) / 10))) (H_d2 (n % 100) (by omega)) (zbastoreB X7 hx hby d20_139 hZ e7 A6_b (i := pos - 1 - 1) (by omega) (by first | omega | (simp only [List.length_set]; omega)) _ (dg ((n % 100) / 10)) (nar_b _) fun T8 h8 X8 e8 W8 A8_b => ?_))))))
      have O8 := O6.wr W8 g_b
      have K8 := Keep.wr K6 W8 (Or.inl (List.mem_of_getElem? (i := 0) rfl))
      have N8 := Fr.snoc X8 N6 g_b
      refine zgoto X8 hx hby d20_140 86 (by decide) (by decide) ?_
      show zEnds p e below s T8 (mkF m 86 #[.val (.long y0), .second, iv ix, rv b, x4, x5, iv (Int32.ofNat (n % 100)), iv (Int32.ofNat (pos - 1 - 1)), iv 0, iv (SBG.negI (n / 100)), iv (SBG.negI (n / 100))] []) _ _ _
      rw [← wrt_turn (by omega) hp hl]
      exact ih (n / 100) (by omega) (pos := pos - 1 - 1) (by omega) (Or.inr ⟨_, rfl⟩) (Or.inr ⟨_, rfl⟩) (by omega) (by simp only [List.length_set]; omega) (by simp only [List.length_set]; omega) X8 e8 O8 K8 N8 A8_b
theorem gcJ1 {p : Program} {l : Launch} {e : Env} {R : Room} {s : State} {m : MethodId} {args : Array Value} {below : List Frame} {meth : Method} {c : Code} {Z : State} {a0 : Array Value} {h0 : Heap} {n0 q cs_ ss_ : Nat} {b : Addr} {cs : Int32} {d1 d2 : Addr} {o1 o2 : List Int8}
    (hx : p.tables.exec = Jvm.exec) (hZ : Z.Warmed39 s.vm) (hw : HW a0 Z) (hby : c.code = jdk_35_method_14_code) (hml : c.maxLocals = 11) (hown : s.vm.findClass "java/lang/Long" = some m.cls) (hret : meth.sig.returnType = (some .int)) (hlk : meth.locks = false) (C : Ctx Z cs d1 d2 o1 o2) (g_b : n0 ≤ b) (ix : Int32) :
    ∀ (n : Nat) {T0 : State} {locs : List Loc} {h : Heap} {ys : List Int8} {pos : Nat} {x4 x5 x6 : Slot}, n < 9223372036854775808 → Pj x4 x5 → Pl x6 → pos = q + (dec n).length → pos ≤ ys.length → ys.length < 10000000 → Stand p l e R s m args below meth c T0 locs 0 0 → T0.heap = h → zOd Z n0 h → Keep h0 h [b] → Fr n0 locs → zBt Z h b ys →
      zEnds p e below s T0 (mkF m 24 #[.val (.long (SBG.negL (n))), .second, iv ix, rv b, x4, x5, x6, iv (Int32.ofNat (pos)), iv 0, .unset, .unset] []) cs_ ss_ (fun v h L => v = some (.int (Int32.ofNat (q))) ∧ Fr n0 L ∧ Keep h0 h [b] ∧ zBt Z h b (wrt ys q (dec n))) := by
  obtain ⟨S_cs, hcs, S_d1, B_d1, H_d1, S_d2, B_d2, H_d2⟩ := id C
  intro n
  induction n using Nat.strongRecOn with
  | ind n ih =>
    intro T0 locs h ys pos x4 x5 x6 hn hx4 hx6 hp hl hy X0 e0 O0 K0 N0 A_b
    show zEnds p e below s T0 (mkF m 24 #[.val (.long (SBG.negL (n))), .second, iv ix, rv b, x4, x5, x6, iv (Int32.ofNat (pos)), iv 0, .unset, .unset] []) _ _ _
    refine zlloadN X0 hx hby d20_24 rfl (zldc2J X0 hx hby d20_25 (-2147483648 : Int64) hZ hown (w193 hw) (zlcmp X0 hx hby d20_28 (lcmpW (SBG.negL (n)) (-2147483648 : Int64)) rfl ?_))
    show zEnds p e below s T0 (mkF m 29 #[.val (.long (SBG.negL (n))), .second, iv ix, rv b, x4, x5, x6, iv (Int32.ofNat (pos)), iv 0, .unset, .unset] [(.int (lcmpW (SBG.negL (n)) (-2147483648 : Int64)))]) _ _ _
    by_cases hh : n < 2147483648
    · skip
      refine zifYes X0 hx hby d20_29 82 ((if0 _ _).trans (tlt (show (0 : Int32) < (lcmpW (SBG.negL (n)) (-2147483648 : Int64)) from by rw [lcmp_pos, show (-2147483648 : Int64) = SBG.negL 2147483648 from by decide, SBG.negL_lt (by omega) _ (by omega)]; omega)).2.2.1) (by decide) (by decide) (zlloadN X0 hx hby d20_82 rfl (zl2i X0 hx hby d20_83 (SBG.negI (n)) (SBG.negL_toInt32 (by omega)) (zistore X0 hx hby d20_84 (L' := #[.val (.long (SBG.negL (n))), .second, iv ix, rv b, x4, x5, x6, iv (Int32.ofNat (pos)), iv 0, .unset, iv (SBG.negI (n))]) rfl ?_)))
      show zEnds p e below s T0 (mkF m 86 #[.val (.long (SBG.negL (n))), .second, iv ix, rv b, x4, x5, x6, iv (Int32.ofNat (pos)), iv 0, .unset, iv (SBG.negI (n))] []) _ _ _
      exact gcJ2 hx hZ hw hby hml hown hret hlk C g_b _ n hh hx6 (Or.inl rfl) hp hl hy X0 e0 O0 K0 N0 A_b
    · have h1 := dec_len_pos (n / 100)
      have h2 : (dec n).length = (dec (n / 100)).length + 2 := by rw [dec_ge100 (by omega), List.length_append]; rfl
      refine zifNo X0 hx hby d20_29 ((if0 _ _).trans (flt (show ¬ ((0 : Int32) < (lcmpW (SBG.negL (n)) (-2147483648 : Int64))) from by rw [lcmp_pos, show (-2147483648 : Int64) = SBG.negL 2147483648 from by decide, SBG.negL_lt (by omega) _ (by omega)]; omega)).2.2.1) (zlloadN X0 hx hby d20_32 rfl (zldc2J X0 hx hby d20_33 (100 : Int64) hZ hown (w197 hw) (zldiv X0 hx hby d20_36 (SBG.negL (n / 100)) (by decide) (SBG.negL_div100 (by omega)) (zlstore X0 hx hby d20_37 (L' := #[.val (.long (SBG.negL (n))), .second, iv ix, rv b, .val (.long (SBG.negL (n / 100))), .second, x6, iv (Int32.ofNat (pos)), iv 0, .unset, .unset]) (by rcases hx4 with ⟨rfl, rfl⟩ | ⟨_, rfl, rfl⟩ <;> rfl) (zlload X0 hx hby d20_39 rfl (zldc2J X0 hx hby d20_41 (100 : Int64) hZ hown (w197 hw) (zlmul X0 hx hby d20_44 ((SBG.negL (n / 100)) * (100 : Int64)) rfl (zlloadN X0 hx hby d20_45 rfl (zlsub X0 hx hby d20_46 (((SBG.negL (n / 100)) * (100 : Int64)) - (SBG.negL (n))) rfl ?_)))))))))
      show zEnds p e below s T0 (mkF m 47 #[.val (.long (SBG.negL (n))), .second, iv ix, rv b, .val (.long (SBG.negL (n / 100))), .second, x6, iv (Int32.ofNat (pos)), iv 0, .unset, .unset] [(.long (((SBG.negL (n / 100)) * (100 : Int64)) - (SBG.negL (n))))]) _ _ _
      refine zl2i X0 hx hby d20_47 (Int32.ofNat (n % 100)) (SBG.negL_rem (by omega)) (zistore X0 hx hby d20_48 (L' := #[.val (.long (SBG.negL (n))), .second, iv ix, rv b, .val (.long (SBG.negL (n / 100))), .second, iv (Int32.ofNat (n % 100)), iv (Int32.ofNat (pos)), iv 0, .unset, .unset]) (by rcases hx6 with rfl | ⟨_, rfl⟩ <;> rfl) (zlload X0 hx hby d20_50 rfl (zlstoreN X0 hx hby d20_52 (L' := #[.val (.long (SBG.negL (n / 100))), .second, iv ix, rv b, .val (.long (SBG.negL (n / 100))), .second, iv (Int32.ofNat (n % 100)), iv (Int32.ofNat (pos)), iv 0, .unset, .unset]) rfl (zaloadN X0 hx hby d20_53 rfl rfl (ziinc X0 hx hby d20_54 (L' := #[.val (.long (SBG.negL (n / 100))), .second, iv ix, rv b, .val (.long (SBG.negL (n / 100))), .second, iv (Int32.ofNat (n % 100)), iv (Int32.ofNat (pos - 1)), iv 0, .unset, .unset]) rfl (by rw [dec1 (by omega)]; rfl) (ziload X0 hx hby d20_57 rfl (zgetstat X0 hx hby d20_59 hZ hown (host := "") (Or.inl (w194 hw)) Via.refl e0 (S_d1.ext O0.2.2) fun T1 X1 e1 => (ziload X1 hx hby d20_62 rfl (zbaloadB X1 hx hby d20_64 hZ e1 (B_d1.ext O0.2.2) (i := n % 100) (by omega) (b := (dg ((n % 100) % 10))) (H_d1 (n % 100) (by omega)) ?_)))))))))
      show zEnds p e below s T1 (mkF m 65 #[.val (.long (SBG.negL (n / 100))), .second, iv ix, rv b, .val (.long (SBG.negL (n / 100))), .second, iv (Int32.ofNat (n % 100)), iv (Int32.ofNat (pos - 1)), iv 0, .unset, .unset] [(.int ((dg ((n % 100) % 10)).toInt32)), (.int (Int32.ofNat (pos - 1))), (.ref b)]) _ _ _
      refine zbastoreB X1 hx hby d20_65 hZ e1 A_b (i := pos - 1) (by omega) (by first | omega | (simp only [List.length_set]; omega)) _ (dg ((n % 100) % 10)) (nar_b _) fun T2 h2 X2 e2 W2 A2_b => ?_
      have O2 := O0.wr W2 g_b
      have K2 := Keep.wr K0 W2 (Or.inl (List.mem_of_getElem? (i := 0) rfl))
      have N2 := Fr.snoc X2 N0 g_b
      refine zaloadN X2 hx hby d20_66 rfl rfl (ziinc X2 hx hby d20_67 (L' := #[.val (.long (SBG.negL (n / 100))), .second, iv ix, rv b, .val (.long (SBG.negL (n / 100))), .second, iv (Int32.ofNat (n % 100)), iv (Int32.ofNat (pos - 1 - 1)), iv 0, .unset, .unset]) rfl (by rw [dec1 (by omega)]; rfl) (ziload X2 hx hby d20_70 rfl (zgetstat X2 hx hby d20_72 hZ hown (host := "") (Or.inl (w198 hw)) Via.refl e2 (S_d2.ext O2.2.2) fun T3 X3 e3 => (ziload X3 hx hby d20_75 rfl (zbaloadB X3 hx hby d20_77 hZ e3 (B_d2.ext O2.2.2) (i := n % 100) (by omega) (b := (dg ((n % 100) / 10))) (H_d2 (n % 100) (by omega)) (zbastoreB X3 hx hby d20_78 hZ e3 A2_b (i := pos - 1 - 1) (by omega) (by first | omega | (simp only [List.length_set]; omega)) _ (dg ((n % 100) / 10)) (nar_b _) fun T4 h4 X4 e4 W4 A4_b => ?_))))))
      have O4 := O2.wr W4 g_b
      have K4 := Keep.wr K2 W4 (Or.inl (List.mem_of_getElem? (i := 0) rfl))
      have N4 := Fr.snoc X4 N2 g_b
      refine zgoto X4 hx hby d20_79 24 (by decide) (by decide) ?_
      show zEnds p e below s T4 (mkF m 24 #[.val (.long (SBG.negL (n / 100))), .second, iv ix, rv b, .val (.long (SBG.negL (n / 100))), .second, iv (Int32.ofNat (n % 100)), iv (Int32.ofNat (pos - 1 - 1)), iv 0, .unset, .unset] []) _ _ _
      rw [← wrt_turn (by omega) hp hl]
      exact ih (n / 100) (by omega) (pos := pos - 1 - 1) (by omega) (Or.inr ⟨_, rfl, rfl⟩) (Or.inr ⟨_, rfl⟩) (by omega) (by simp only [List.length_set]; omega) (by simp only [List.length_set]; omega) X4 e4 O4 K4 N4 A4_b
theorem c_charsJ (hw : HW a0 Z) (C : Ctx Z cs d1 d2 o1 o2) (O0 : zOd Z n0 h0) (b : Addr) (ys : List Int8) (A_b : zBt Z h0 b ys) (g_b : n0 ≤ b) (n q : Nat) (hn : n < 9223372036854775808) (hl : q + (dec n).length ≤ ys.length) (hy : ys.length < 10000000) : zCon l Z (⟨"java/lang/Long", "getChars", "(JI[B)I"⟩ : MethodName) jdk_35_method_14_code 11 (some .int) [] ({ frames := 0, cells := 0, slots := 0, locals := 0 } : Room) #[(.long (Int64.ofNat (n))), (.int (Int32.ofNat (q + (dec n).length))), (.ref b)] h0 (fun v h L => v = some (.int (Int32.ofNat (q))) ∧ Fr n0 L ∧ Keep h0 h [b] ∧ zBt Z h b (wrt ys q (dec n))) := by
  refine zenter (plainFor_of_name pn_6) (L0 := #[.val (.long (Int64.ofNat (n))), .second, iv (Int32.ofNat (q + (dec n).length)), rv b, .unset, .unset, .unset, .unset, .unset, .unset, .unset]) (fun m => by first | rfl | simp [entryFrame, mkF, argsToLocals, Value.category]) ?_
  intro p e s m below meth c T0 hx hZ hby hml hown0 hnm hret hlk X0 e0
  have hown : s.vm.findClass "java/lang/Long" = some m.cls := hown0
  have K0 := Keep.refl h0 [b]
  have N0 := Fr.nil n0
  show zEnds p e below s T0 (mkF m 0 #[.val (.long (Int64.ofNat (n))), .second, iv (Int32.ofNat (q + (dec n).length)), rv b, .unset, .unset, .unset, .unset, .unset, .unset, .unset] []) _ _ _
  refine ziloadN X0 hx hby d20_0 rfl (zistore X0 hx hby d20_1 (L' := #[.val (.long (Int64.ofNat (n))), .second, iv (Int32.ofNat (q + (dec n).length)), rv b, .unset, .unset, .unset, iv (Int32.ofNat (q + (dec n).length)), .unset, .unset, .unset]) rfl (zlloadN X0 hx hby d20_3 rfl (zlconst X0 hx hby d20_4 (z := (0 : Int64)) rfl (zlcmp X0 hx hby d20_5 (lcmpW (Int64.ofNat (n)) (0 : Int64)) rfl (zifYes X0 hx hby d20_6 13 ((if0 _ _).trans (flt (show ¬ ((lcmpW (Int64.ofNat (n)) (0 : Int64)) < (0 : Int32)) from by rw [lcmp_neg]; exact ofL_nn (by omega))).2.1) (by decide) (by decide) (ziconst X0 hx hby d20_13 (z := (0 : Int32)) rfl (zistore X0 hx hby d20_14 (L' := #[.val (.long (Int64.ofNat (n))), .second, iv (Int32.ofNat (q + (dec n).length)), rv b, .unset, .unset, .unset, iv (Int32.ofNat (q + (dec n).length)), iv 0, .unset, .unset]) rfl (ziload X0 hx hby d20_16 rfl (zifNo X0 hx hby d20_18 (by decide) ?_)))))))))
  show zEnds p e below s T0 (mkF m 21 #[.val (.long (Int64.ofNat (n))), .second, iv (Int32.ofNat (q + (dec n).length)), rv b, .unset, .unset, .unset, iv (Int32.ofNat (q + (dec n).length)), iv 0, .unset, .unset] []) _ _ _
  refine zlloadN X0 hx hby d20_21 rfl (zlneg X0 hx hby d20_22 (SBG.negL (n)) (negL_ofN _) (zlstoreN X0 hx hby d20_23 (L' := #[.val (.long (SBG.negL (n))), .second, iv (Int32.ofNat (q + (dec n).length)), rv b, .unset, .unset, .unset, iv (Int32.ofNat (q + (dec n).length)), iv 0, .unset, .unset]) rfl ?_))
  show zEnds p e below s T0 (mkF m 24 #[.val (.long (SBG.negL (n))), .second, iv (Int32.ofNat (q + (dec n).length)), rv b, .unset, .unset, .unset, iv (Int32.ofNat (q + (dec n).length)), iv 0, .unset, .unset] []) _ _ _
  exact gcJ1 hx hZ hw hby hml hown hret hlk C g_b _ n hn (Or.inl ⟨rfl, rfl⟩) (Or.inl rfl) rfl hl hy X0 e0 O0 K0 N0 A_b
theorem w156 (hw : HW a0 Z) : (Cond.methodLink "java/lang/StringBuilder" 53 ⟨"java/lang/AbstractStringBuilder", "append", "(I)Ljava/lang/AbstractStringBuilder;"⟩).before a0 Z = true := hwi hw 156 rfl
theorem w157 (hw : HW a0 Z) : (Cond.instanceMethod ⟨"java/lang/AbstractStringBuilder", "append", "(I)Ljava/lang/AbstractStringBuilder;"⟩).before a0 Z = true := hwi hw 157 rfl
theorem w159 (hw : HW a0 Z) : (Cond.code ⟨"java/lang/AbstractStringBuilder", "append", "(I)Ljava/lang/AbstractStringBuilder;"⟩ jdk_68_method_32_code 4 (Option.some (FieldType.object "java/lang/AbstractStringBuilder"))).before a0 Z = true := hwi hw 159 rfl
theorem w160 (hw : HW a0 Z) : (Cond.methodLink "java/lang/AbstractStringBuilder" 245 ⟨"java/lang/Integer", "stringSize", "(I)I"⟩).before a0 Z = true := hwi hw 160 rfl
theorem w161 (hw : HW a0 Z) : (Cond.static ⟨"java/lang/Integer", "stringSize", "(I)I"⟩).before a0 Z = true := hwi hw 161 rfl
theorem w162 (hw : HW a0 Z) : (Cond.initialized "java/lang/Integer").before a0 Z = true := hwi hw 162 rfl
theorem w163 (hw : HW a0 Z) : (Cond.code ⟨"java/lang/Integer", "stringSize", "(I)I"⟩ jdk_33_method_13_code 4 (Option.some FieldType.int)).before a0 Z = true := hwi hw 163 rfl
theorem w164 (hw : HW a0 Z) : (Cond.methodLink "java/lang/AbstractStringBuilder" 83 ⟨"java/lang/AbstractStringBuilder", "isLatin1", "()Z"⟩).before a0 Z = true := hwi hw 164 rfl
theorem w165 (hw : HW a0 Z) : (Cond.declares ⟨"java/lang/AbstractStringBuilder", "isLatin1", "()Z"⟩).before a0 Z = true := hwi hw 165 rfl
theorem w168 (hw : HW a0 Z) : (Cond.code ⟨"java/lang/AbstractStringBuilder", "isLatin1", "()Z"⟩ jdk_68_method_68_code 1 (Option.some FieldType.boolean)).before a0 Z = true := hwi hw 168 rfl
theorem w169 (hw : HW a0 Z) : (Cond.methodLink "java/lang/AbstractStringBuilder" 248 ⟨"java/lang/Integer", "getChars", "(II[B)I"⟩).before a0 Z = true := hwi hw 169 rfl
theorem w170 (hw : HW a0 Z) : (Cond.static ⟨"java/lang/Integer", "getChars", "(II[B)I"⟩).before a0 Z = true := hwi hw 170 rfl
theorem w171 (hw : HW a0 Z) : (Cond.code ⟨"java/lang/Integer", "getChars", "(II[B)I"⟩ jdk_33_method_12_code 7 (Option.some FieldType.int)).before a0 Z = true := hwi hw 171 rfl
theorem w181 (hw : HW a0 Z) : (Cond.methodLink "java/lang/StringBuilder" 56 ⟨"java/lang/AbstractStringBuilder", "append", "(J)Ljava/lang/AbstractStringBuilder;"⟩).before a0 Z = true := hwi hw 181 rfl
theorem w182 (hw : HW a0 Z) : (Cond.instanceMethod ⟨"java/lang/AbstractStringBuilder", "append", "(J)Ljava/lang/AbstractStringBuilder;"⟩).before a0 Z = true := hwi hw 182 rfl
theorem w184 (hw : HW a0 Z) : (Cond.code ⟨"java/lang/AbstractStringBuilder", "append", "(J)Ljava/lang/AbstractStringBuilder;"⟩ jdk_68_method_33_code 5 (Option.some (FieldType.object "java/lang/AbstractStringBuilder"))).before a0 Z = true := hwi hw 184 rfl
theorem w185 (hw : HW a0 Z) : (Cond.methodLink "java/lang/AbstractStringBuilder" 254 ⟨"java/lang/Long", "stringSize", "(J)I"⟩).before a0 Z = true := hwi hw 185 rfl
theorem w186 (hw : HW a0 Z) : (Cond.static ⟨"java/lang/Long", "stringSize", "(J)I"⟩).before a0 Z = true := hwi hw 186 rfl
theorem w187 (hw : HW a0 Z) : (Cond.initialized "java/lang/Long").before a0 Z = true := hwi hw 187 rfl
theorem w188 (hw : HW a0 Z) : (Cond.code ⟨"java/lang/Long", "stringSize", "(J)I"⟩ jdk_35_method_15_code 6 (Option.some FieldType.int)).before a0 Z = true := hwi hw 188 rfl
theorem w190 (hw : HW a0 Z) : (Cond.methodLink "java/lang/AbstractStringBuilder" 259 ⟨"java/lang/Long", "getChars", "(JI[B)I"⟩).before a0 Z = true := hwi hw 190 rfl
theorem w191 (hw : HW a0 Z) : (Cond.static ⟨"java/lang/Long", "getChars", "(JI[B)I"⟩).before a0 Z = true := hwi hw 191 rfl
theorem w192 (hw : HW a0 Z) : (Cond.code ⟨"java/lang/Long", "getChars", "(JI[B)I"⟩ jdk_35_method_14_code 11 (Option.some FieldType.int)).before a0 Z = true := hwi hw 192 rfl
theorem d22_0 : decode jdk_67_method_15_code 0 = .ok (.aload_n 0, 1) := by decide +kernel
theorem d22_1 : decode jdk_67_method_15_code 1 = .ok (.iload_n 1, 1) := by decide +kernel
theorem d22_2 : decode jdk_67_method_15_code 2 = .ok (.invokespecial 53, 3) := by decide +kernel
theorem d22_5 : decode jdk_67_method_15_code 5 = .ok (.pop, 1) := by decide +kernel
theorem d22_6 : decode jdk_67_method_15_code 6 = .ok (.aload_n 0, 1) := by decide +kernel
theorem d22_7 : decode jdk_67_method_15_code 7 = .ok (.areturn, 1) := by decide +kernel
theorem d24_0 : decode jdk_67_method_16_code 0 = .ok (.aload_n 0, 1) := by decide +kernel
theorem d24_1 : decode jdk_67_method_16_code 1 = .ok (.lload_n 1, 1) := by decide +kernel
theorem d24_2 : decode jdk_67_method_16_code 2 = .ok (.invokespecial 56, 3) := by decide +kernel
theorem d24_5 : decode jdk_67_method_16_code 5 = .ok (.pop, 1) := by decide +kernel
theorem d24_6 : decode jdk_67_method_16_code 6 = .ok (.aload_n 0, 1) := by decide +kernel
theorem d24_7 : decode jdk_67_method_16_code 7 = .ok (.areturn, 1) := by decide +kernel
theorem d21_0 : decode jdk_68_method_32_code 0 = .ok (.aload_n 0, 1) := by decide +kernel
theorem d21_1 : decode jdk_68_method_32_code 1 = .ok (.getfield 79, 3) := by decide +kernel
theorem d21_4 : decode jdk_68_method_32_code 4 = .ok (.istore_n 2, 1) := by decide +kernel
theorem d21_5 : decode jdk_68_method_32_code 5 = .ok (.iload_n 2, 1) := by decide +kernel
theorem d21_6 : decode jdk_68_method_32_code 6 = .ok (.iload_n 1, 1) := by decide +kernel
theorem d21_7 : decode jdk_68_method_32_code 7 = .ok (.invokestatic 245, 3) := by decide +kernel
theorem d21_10 : decode jdk_68_method_32_code 10 = .ok (.iadd, 1) := by decide +kernel
theorem d21_11 : decode jdk_68_method_32_code 11 = .ok (.istore_n 3, 1) := by decide +kernel
theorem d21_12 : decode jdk_68_method_32_code 12 = .ok (.aload_n 0, 1) := by decide +kernel
theorem d21_13 : decode jdk_68_method_32_code 13 = .ok (.iload_n 3, 1) := by decide +kernel
theorem d21_14 : decode jdk_68_method_32_code 14 = .ok (.invokevirtual 100, 3) := by decide +kernel
theorem d21_17 : decode jdk_68_method_32_code 17 = .ok (.aload_n 0, 1) := by decide +kernel
theorem d21_18 : decode jdk_68_method_32_code 18 = .ok (.invokevirtual 83, 3) := by decide +kernel
theorem d21_21 : decode jdk_68_method_32_code 21 = .ok (.ifCond .eq 16, 3) := by decide +kernel
theorem d21_24 : decode jdk_68_method_32_code 24 = .ok (.iload_n 1, 1) := by decide +kernel
theorem d21_25 : decode jdk_68_method_32_code 25 = .ok (.iload_n 3, 1) := by decide +kernel
theorem d21_26 : decode jdk_68_method_32_code 26 = .ok (.aload_n 0, 1) := by decide +kernel
theorem d21_27 : decode jdk_68_method_32_code 27 = .ok (.getfield 15, 3) := by decide +kernel
theorem d21_30 : decode jdk_68_method_32_code 30 = .ok (.invokestatic 248, 3) := by decide +kernel
theorem d21_33 : decode jdk_68_method_32_code 33 = .ok (.pop, 1) := by decide +kernel
theorem d21_34 : decode jdk_68_method_32_code 34 = .ok (.goto 14, 3) := by decide +kernel
theorem d21_48 : decode jdk_68_method_32_code 48 = .ok (.aload_n 0, 1) := by decide +kernel
theorem d21_49 : decode jdk_68_method_32_code 49 = .ok (.iload_n 3, 1) := by decide +kernel
theorem d21_50 : decode jdk_68_method_32_code 50 = .ok (.putfield 79, 3) := by decide +kernel
theorem d21_53 : decode jdk_68_method_32_code 53 = .ok (.aload_n 0, 1) := by decide +kernel
theorem d21_54 : decode jdk_68_method_32_code 54 = .ok (.areturn, 1) := by decide +kernel
theorem d23_0 : decode jdk_68_method_33_code 0 = .ok (.aload_n 0, 1) := by decide +kernel
theorem d23_1 : decode jdk_68_method_33_code 1 = .ok (.getfield 79, 3) := by decide +kernel
theorem d23_4 : decode jdk_68_method_33_code 4 = .ok (.istore_n 3, 1) := by decide +kernel
theorem d23_5 : decode jdk_68_method_33_code 5 = .ok (.iload_n 3, 1) := by decide +kernel
theorem d23_6 : decode jdk_68_method_33_code 6 = .ok (.lload_n 1, 1) := by decide +kernel
theorem d23_7 : decode jdk_68_method_33_code 7 = .ok (.invokestatic 254, 3) := by decide +kernel
theorem d23_10 : decode jdk_68_method_33_code 10 = .ok (.iadd, 1) := by decide +kernel
theorem d23_11 : decode jdk_68_method_33_code 11 = .ok (.istore 4, 2) := by decide +kernel
theorem d23_13 : decode jdk_68_method_33_code 13 = .ok (.aload_n 0, 1) := by decide +kernel
theorem d23_14 : decode jdk_68_method_33_code 14 = .ok (.iload 4, 2) := by decide +kernel
theorem d23_16 : decode jdk_68_method_33_code 16 = .ok (.invokevirtual 100, 3) := by decide +kernel
theorem d23_19 : decode jdk_68_method_33_code 19 = .ok (.aload_n 0, 1) := by decide +kernel
theorem d23_20 : decode jdk_68_method_33_code 20 = .ok (.invokevirtual 83, 3) := by decide +kernel
theorem d23_23 : decode jdk_68_method_33_code 23 = .ok (.ifCond .eq 17, 3) := by decide +kernel
theorem d23_26 : decode jdk_68_method_33_code 26 = .ok (.lload_n 1, 1) := by decide +kernel
theorem d23_27 : decode jdk_68_method_33_code 27 = .ok (.iload 4, 2) := by decide +kernel
theorem d23_29 : decode jdk_68_method_33_code 29 = .ok (.aload_n 0, 1) := by decide +kernel
theorem d23_30 : decode jdk_68_method_33_code 30 = .ok (.getfield 15, 3) := by decide +kernel
theorem d23_33 : decode jdk_68_method_33_code 33 = .ok (.invokestatic 259, 3) := by decide +kernel
theorem d23_36 : decode jdk_68_method_33_code 36 = .ok (.pop, 1) := by decide +kernel
theorem d23_37 : decode jdk_68_method_33_code 37 = .ok (.goto 15, 3) := by decide +kernel
theorem d23_52 : decode jdk_68_method_33_code 52 = .ok (.aload_n 0, 1) := by decide +kernel
theorem d23_53 : decode jdk_68_method_33_code 53 = .ok (.iload 4, 2) := by decide +kernel
theorem d23_55 : decode jdk_68_method_33_code 55 = .ok (.putfield 79, 3) := by decide +kernel
theorem d23_58 : decode jdk_68_method_33_code 58 = .ok (.aload_n 0, 1) := by decide +kernel
theorem d23_59 : decode jdk_68_method_33_code 59 = .ok (.areturn, 1) := by decide +kernel
theorem pd_11 : parseMethodDescriptor "()Z" = some ⟨[], some .boolean⟩ := by decide +kernel
theorem pd_12 : parseMethodDescriptor "(II[B)I" = some ⟨[.int, .int, (.array .byte)], some .int⟩ := by decide +kernel
theorem pd_13 : parseMethodDescriptor "(I)Ljava/lang/AbstractStringBuilder;" = some ⟨[.int], some (.object "java/lang/AbstractStringBuilder")⟩ := by decide +kernel
theorem pd_14 : parseMethodDescriptor "(J)I" = some ⟨[.long], some .int⟩ := by decide +kernel
theorem pd_15 : parseMethodDescriptor "(JI[B)I" = some ⟨[.long, .int, (.array .byte)], some .int⟩ := by decide +kernel
theorem pd_16 : parseMethodDescriptor "(J)Ljava/lang/AbstractStringBuilder;" = some ⟨[.long], some (.object "java/lang/AbstractStringBuilder")⟩ := by decide +kernel
theorem c_appI0 (hw : HW a0 Z) (C : Ctx Z cs d1 d2 o1 o2) (O0 : zOd Z n0 h0) (a b : Addr) (bs : List Int8) (cap : Nat) (B0 : Sb Z h0 a b bs cap) (hC : cap < 400000) (g_a : n0 ≤ a) (g_b : n0 ≤ b) (n : Nat) (hn : n < 2147483648) : zCon l Z (⟨"java/lang/AbstractStringBuilder", "append", "(I)Ljava/lang/AbstractStringBuilder;"⟩ : MethodName) jdk_68_method_32_code 4 (some (.object "java/lang/AbstractStringBuilder")) [] ({ frames := 4, cells := gcell cap (bs.length + (dec n).length), slots := gslot cap (bs.length + (dec n).length), locals := 62 } : Room) #[(.ref a), (.int (Int32.ofNat (n)))] h0 (fun v h L => v = some (.ref a) ∧ Fr n0 L ∧ Keep h0 h [a, b] ∧ ∃ b2 : Addr, Sb Z h a b2 (bs ++ dec n) (gcap cap (bs.length + (dec n).length)) ∧ n0 ≤ b2 ∧ (b2 = b ∨ h0.size ≤ b2)) := by
  refine zenter (plainFor_of_name pn_1) (L0 := #[rv a, iv (Int32.ofNat (n)), .unset, .unset]) (fun m => by first | rfl | simp [entryFrame, mkF, argsToLocals, Value.category]) ?_
  intro p e s m below meth c T0 hx hZ hby hml hown0 hnm hret hlk X0 e0
  have hown : s.vm.findClass "java/lang/AbstractStringBuilder" = some m.cls := hown0
  have K0 := Keep.refl h0 [a, b]
  have N0 := Fr.nil n0
  have hdn := dec_len_le 18 n (by omega)
  obtain ⟨jk, ⟨E_a, F_a_v, F_a_c, F_a_n, A_b, E_b, ne_ab⟩, rfl⟩ := id B0
  have hbs : bs.length ≤ (bs ++ jk).length := by rw [List.length_append]; omega
  show zEnds p e below s T0 (mkF m 0 #[rv a, iv (Int32.ofNat (n)), .unset, .unset] []) _ _ _
  refine zaloadN X0 hx hby d21_0 rfl rfl (zgetfld X0 hx hby d21_1 hZ hown (host := "") (Or.inl (w101 hw)) Via.refl e0 F_a_n fun T1 X1 e1 => (zistoreN X1 hx hby d21_4 (L' := #[rv a, iv (Int32.ofNat (n)), iv (Int32.ofNat (bs.length)), .unset]) rfl (ziloadN X1 hx hby d21_5 rfl (ziloadN X1 hx hby d21_6 rfl (zcalls X1 hx hby d21_7 hZ hown (w160 hw) (w161 hw) (w162 hw) (w163 hw) e1 (c_sizeI l hw  C O0 (n) (by omega)) hml 1 pd_4 (argsL := [(.int (Int32.ofNat (n)))]) (st := [(.int (Int32.ofNat (bs.length)))]) (zpureK ⟨rfl, rfl⟩ fun T2 X2 e2 => ?_))))))
  show zEnds p e below s T2 (mkF m 10 #[rv a, iv (Int32.ofNat (n)), iv (Int32.ofNat (bs.length)), .unset] [(.int (Int32.ofNat ((dec n).length))), (.int (Int32.ofNat (bs.length)))]) _ _ _
  refine ziadd X2 hx hby d21_10 (Int32.ofNat (bs.length + (dec n).length)) (zofN_add _ _) (zistoreN X2 hx hby d21_11 (L' := #[rv a, iv (Int32.ofNat (n)), iv (Int32.ofNat (bs.length)), iv (Int32.ofNat (bs.length + (dec n).length))]) rfl (zaloadN X2 hx hby d21_12 rfl rfl (ziloadN X2 hx hby d21_13 rfl (zcallv X2 hx hby d21_14 hZ hown (w103 hw) (zdecl_of (w104 hw) (w107 hw)) (notFace_of_selects (args := #[]) (mvT hZ (w106 hw))) (w106 hw) (w104 hw) (w107 hw) (w69 hw) e2 E_a (c_ensure l hw  C O0 a b (bs.length) (bs ++ jk) ⟨E_a, F_a_v, F_a_c, F_a_n, A_b, E_b, ne_ab⟩ (bs.length + (dec n).length) (by first | omega | (simp only [List.length_replicate, List.length_append, List.length_take, List.length_drop, List.length_nil, List.length_cons]; omega)) (by first | omega | (simp only [List.length_replicate, List.length_append, List.length_take, List.length_drop, List.length_nil, List.length_cons]; omega)) g_a g_b) hml 0 pd_8 (argsL := [(.int (Int32.ofNat (bs.length + (dec n).length)))]) (st := []) fun T3 h3 v3 L3 e3 X3 q3 => ?_))))
  obtain ⟨rfl, N3q, K3q, b3, zs3, ⟨E3_a, V3_a, C3_a, M3_a, A3_b, E3_b, ne3_ab⟩, g3_b, o3, l3⟩ := q3
  have O3 := O0.keep K3q (allS g_a all0)
  have K3 := Keep.trans K0 K3q (allS (Or.inl (List.mem_of_getElem? (i := 0) rfl)) all0)
  have N3 := Fr.app N0 N3q
  show zEnds p e below s T3 (mkF m 17 #[rv a, iv (Int32.ofNat (n)), iv (Int32.ofNat (bs.length)), iv (Int32.ofNat (bs.length + (dec n).length))] []) _ _ _
  refine zaloadN X3 hx hby d21_17 rfl rfl (zcallv X3 hx hby d21_18 hZ hown (w164 hw) (w165 hw) (notFace_of_selects (args := #[]) (mvT hZ (w167 hw))) (w167 hw) (w166 hw) (w168 hw) (w69 hw) e3 E3_a (c_latin l hw  C O3 a b3 (bs.length) (bs ++ jk ++ zs3) ⟨E3_a, V3_a, C3_a, M3_a, A3_b, E3_b, ne3_ab⟩) hml 0 pd_11 (argsL := []) (st := []) (zpureK ⟨rfl, rfl⟩ fun T4 X4 e4 => ?_))
  show zEnds p e below s T4 (mkF m 21 #[rv a, iv (Int32.ofNat (n)), iv (Int32.ofNat (bs.length)), iv (Int32.ofNat (bs.length + (dec n).length))] [(.int 1)]) _ _ _
  refine zifNo X4 hx hby d21_21 (by decide) (ziloadN X4 hx hby d21_24 rfl (ziloadN X4 hx hby d21_25 rfl (zaloadN X4 hx hby d21_26 rfl rfl (zgetfld X4 hx hby d21_27 hZ hown (host := "") (Or.inl (w73 hw)) Via.refl e4 V3_a fun T5 X5 e5 => (zcalls X5 hx hby d21_30 hZ hown (w169 hw) (w170 hw) (w162 hw) (w171 hw) e5 (c_charsI l hw  C O3 b3 (bs ++ jk ++ zs3) A3_b g3_b n (bs.length) (by omega) (by rw [l3]; have q1 := @gcap_le (bs ++ jk).length (bs.length + (dec n).length); have q2 : gcap (bs ++ jk).length (bs.length + (dec n).length) < 3000000 := (by unfold gcap ncap; split <;> omega); omega) (by rw [l3]; have q1 := @gcap_le (bs ++ jk).length (bs.length + (dec n).length); have q2 : gcap (bs ++ jk).length (bs.length + (dec n).length) < 3000000 := (by unfold gcap ncap; split <;> omega); omega)) hml 0 pd_12 (argsL := [(.int (Int32.ofNat (n))), (.int (Int32.ofNat (bs.length + (dec n).length))), (.ref b3)]) (st := []) fun T6 h6 v6 L6 e6 X6 q6 => ?_)))))
  obtain ⟨rfl, N6q, K6q, A6_b⟩ := q6
  have F6_a_value := V3_a.keep K6q (ninS ne3_ab nin0)
  have F6_a_coder := C3_a.keep K6q (ninS ne3_ab nin0)
  have F6_a_count := M3_a.keep K6q (ninS ne3_ab nin0)
  have E6_a := E3_a.keep K6q
  have K6 := Keep.trans K3 K6q (allS (o3.elim (fun q => Or.inl (by rw [q]; exact List.mem_of_getElem? (i := 1) rfl)) (fun q => Or.inr (Nat.le_trans K0.1 q))) all0)
  have N6 := Fr.app N3 N6q
  have E6_b := E3_b.keep K6q
  show zEnds p e below s T6 (mkF m 33 #[rv a, iv (Int32.ofNat (n)), iv (Int32.ofNat (bs.length)), iv (Int32.ofNat (bs.length + (dec n).length))] [(.int (Int32.ofNat (bs.length)))]) _ _ _
  refine zpop X6 hx hby d21_33 rfl (zgoto X6 hx hby d21_34 48 (by decide) (by decide) (zaloadN X6 hx hby d21_48 rfl rfl (ziloadN X6 hx hby d21_49 rfl (zputfld X6 hx hby d21_50 hZ hown (host := "") (Or.inl (w101 hw)) Via.refl e6 F6_a_count E6_a (Or.inl (w102 hw)) (w60 hw) (ty := .int) (by decide) rfl rfl fun T7 h7 X7 e7 W7 => ?_))))
  have F7_a_count : Fld Z h7 a "java/lang/AbstractStringBuilder" "count" "I" (.int (Int32.ofNat (bs.length + (dec n).length))) := F6_a_count.same W7
  have F7_a_value := F6_a_value.other W7 (Or.inr (slot_ne (Or.inl (w74 hw)) (Or.inl (w102 hw)) (by decide) (t := (.array .byte)) (t' := .int) (by decide) (by decide)))
  have F7_a_coder := F6_a_coder.other W7 (Or.inr (slot_ne (Or.inl (w76 hw)) (Or.inl (w102 hw)) (by decide) (t := .byte) (t' := .int) (by decide) (by decide)))
  have E7_a := E6_a.wr W7
  have E7_b3 := E6_b.wr W7
  have A7_b3 := A6_b.other W7 (Ne.symm ne3_ab)
  have K7 := Keep.wr K6 W7 (Or.inl (List.mem_of_getElem? (i := 0) rfl))
  have N7 := Fr.snoc X7 N6 g_a
  refine zaloadN X7 hx hby d21_53 rfl rfl ?_
  show zEnds p e below s T7 (mkF m 54 #[rv a, iv (Int32.ofNat (n)), iv (Int32.ofNat (bs.length)), iv (Int32.ofNat (bs.length + (dec n).length))] [(.ref a)]) _ _ _
  exact zretA X7 hx hby d21_54 hret hlk rfl rfl rfl (by first | decide | omega | (dsimp only; omega)) (by first | decide | omega | (dsimp only; omega)) (by rw [e7]; exact ⟨rfl, N7, K7, b3, ⟨List.drop (dec n).length (jk ++ zs3), ⟨E7_a, F7_a_value, F7_a_coder, by rw [List.length_append]; exact F7_a_count, by have q := A7_b3; rw [wrt, zput_tail] at q; exact q, E7_b3, ne3_ab⟩, by rw [zput_len (by rw [l3]; have q1 := @gcap_le (bs ++ jk).length (bs.length + (dec n).length); have q2 : gcap (bs ++ jk).length (bs.length + (dec n).length) < 3000000 := (by unfold gcap ncap; split <;> omega); omega), l3]⟩, g3_b, o3⟩)
theorem c_appI (hw : HW a0 Z) (C : Ctx Z cs d1 d2 o1 o2) (O0 : zOd Z n0 h0) (a b : Addr) (bs : List Int8) (cap : Nat) (B0 : Sb Z h0 a b bs cap) (hC : cap < 400000) (g_a : n0 ≤ a) (g_b : n0 ≤ b) (n : Nat) (hn : n < 2147483648) : zCon l Z (⟨"java/lang/StringBuilder", "append", "(I)Ljava/lang/StringBuilder;"⟩ : MethodName) jdk_67_method_15_code 2 (some (.object "java/lang/StringBuilder")) [] ({ frames := 5, cells := gcell cap (bs.length + (dec n).length), slots := gslot cap (bs.length + (dec n).length), locals := 77 } : Room) #[(.ref a), (.int (Int32.ofNat (n)))] h0 (fun v h L => v = some (.ref a) ∧ Fr n0 L ∧ Keep h0 h [a, b] ∧ ∃ b2 : Addr, Sb Z h a b2 (bs ++ dec n) (gcap cap (bs.length + (dec n).length)) ∧ n0 ≤ b2 ∧ (b2 = b ∨ h0.size ≤ b2)) := by
  refine zenter (plainFor_of_name pn_2) (L0 := #[rv a, iv (Int32.ofNat (n))]) (fun m => by first | rfl | simp [entryFrame, mkF, argsToLocals, Value.category]) ?_
  intro p e s m below meth c T0 hx hZ hby hml hown0 hnm hret hlk X0 e0
  have hown : s.vm.findClass "java/lang/StringBuilder" = some m.cls := hown0
  have K0 := Keep.refl h0 [a, b]
  have N0 := Fr.nil n0
  have hdn := dec_len_le 18 n (by omega)
  show zEnds p e below s T0 (mkF m 0 #[rv a, iv (Int32.ofNat (n))] []) _ _ _
  refine zaloadN X0 hx hby d22_0 rfl rfl (ziloadN X0 hx hby d22_1 rfl (zcallsup X0 hx hby d22_2 hZ hown (by decide) (w156 hw) (nfASB hw (w157 hw) rfl) (w157 hw) (w85 hw) (w159 hw) (w69 hw) e0 (Sb.exa B0) (c_appI0 l hw  C O0 a b (bs) cap B0 (by first | omega | (simp only [List.length_replicate, List.length_append, List.length_take, List.length_drop, List.length_nil, List.length_cons]; omega)) g_a g_b (n) (by omega)) hml 0 pd_13 (argsL := [(.int (Int32.ofNat (n)))]) (st := []) fun T1 h1 v1 L1 e1 X1 q1 => ?_))
  obtain ⟨rfl, N1q, K1q, b1, B1_a, g1_b, o1⟩ := q1
  have K1 := Keep.trans K0 K1q (allS (Or.inl (List.mem_of_getElem? (i := 0) rfl)) (allS (Or.inl (List.mem_of_getElem? (i := 1) rfl)) all0))
  have N1 := Fr.app N0 N1q
  show zEnds p e below s T1 (mkF m 5 #[rv a, iv (Int32.ofNat (n))] [(.ref a)]) _ _ _
  refine zpop X1 hx hby d22_5 rfl (zaloadN X1 hx hby d22_6 rfl rfl ?_)
  show zEnds p e below s T1 (mkF m 7 #[rv a, iv (Int32.ofNat (n))] [(.ref a)]) _ _ _
  exact zretA X1 hx hby d22_7 hret hlk rfl rfl rfl (by first | decide | omega | (dsimp only; omega)) (by first | decide | omega | (dsimp only; omega)) (by rw [e1]; exact ⟨rfl, N1, K1, b1, B1_a, g1_b, o1⟩)
theorem c_appJ0 (hw : HW a0 Z) (C : Ctx Z cs d1 d2 o1 o2) (O0 : zOd Z n0 h0) (a b : Addr) (bs : List Int8) (cap : Nat) (B0 : Sb Z h0 a b bs cap) (hC : cap < 400000) (g_a : n0 ≤ a) (g_b : n0 ≤ b) (n : Nat) (hn : n < 9223372036854775808) : zCon l Z (⟨"java/lang/AbstractStringBuilder", "append", "(J)Ljava/lang/AbstractStringBuilder;"⟩ : MethodName) jdk_68_method_33_code 5 (some (.object "java/lang/AbstractStringBuilder")) [] ({ frames := 4, cells := gcell cap (bs.length + (dec n).length), slots := gslot cap (bs.length + (dec n).length), locals := 62 } : Room) #[(.ref a), (.long (Int64.ofNat (n)))] h0 (fun v h L => v = some (.ref a) ∧ Fr n0 L ∧ Keep h0 h [a, b] ∧ ∃ b2 : Addr, Sb Z h a b2 (bs ++ dec n) (gcap cap (bs.length + (dec n).length)) ∧ n0 ≤ b2 ∧ (b2 = b ∨ h0.size ≤ b2)) := by
  refine zenter (plainFor_of_name pn_1) (L0 := #[rv a, .val (.long (Int64.ofNat (n))), .second, .unset, .unset]) (fun m => by first | rfl | simp [entryFrame, mkF, argsToLocals, Value.category]) ?_
  intro p e s m below meth c T0 hx hZ hby hml hown0 hnm hret hlk X0 e0
  have hown : s.vm.findClass "java/lang/AbstractStringBuilder" = some m.cls := hown0
  have K0 := Keep.refl h0 [a, b]
  have N0 := Fr.nil n0
  have hdn := dec_len_le 18 n (by omega)
  obtain ⟨jk, ⟨E_a, F_a_v, F_a_c, F_a_n, A_b, E_b, ne_ab⟩, rfl⟩ := id B0
  have hbs : bs.length ≤ (bs ++ jk).length := by rw [List.length_append]; omega
  show zEnds p e below s T0 (mkF m 0 #[rv a, .val (.long (Int64.ofNat (n))), .second, .unset, .unset] []) _ _ _
  refine zaloadN X0 hx hby d23_0 rfl rfl (zgetfld X0 hx hby d23_1 hZ hown (host := "") (Or.inl (w101 hw)) Via.refl e0 F_a_n fun T1 X1 e1 => (zistoreN X1 hx hby d23_4 (L' := #[rv a, .val (.long (Int64.ofNat (n))), .second, iv (Int32.ofNat (bs.length)), .unset]) rfl (ziloadN X1 hx hby d23_5 rfl (zlloadN X1 hx hby d23_6 rfl (zcalls X1 hx hby d23_7 hZ hown (w185 hw) (w186 hw) (w187 hw) (w188 hw) e1 (c_sizeJ l hw  C O0 (n) (by omega)) hml 1 pd_14 (argsL := [(.long (Int64.ofNat (n)))]) (st := [(.int (Int32.ofNat (bs.length)))]) (zpureK ⟨rfl, rfl⟩ fun T2 X2 e2 => ?_))))))
  show zEnds p e below s T2 (mkF m 10 #[rv a, .val (.long (Int64.ofNat (n))), .second, iv (Int32.ofNat (bs.length)), .unset] [(.int (Int32.ofNat ((dec n).length))), (.int (Int32.ofNat (bs.length)))]) _ _ _
  refine ziadd X2 hx hby d23_10 (Int32.ofNat (bs.length + (dec n).length)) (zofN_add _ _) (zistore X2 hx hby d23_11 (L' := #[rv a, .val (.long (Int64.ofNat (n))), .second, iv (Int32.ofNat (bs.length)), iv (Int32.ofNat (bs.length + (dec n).length))]) rfl (zaloadN X2 hx hby d23_13 rfl rfl (ziload X2 hx hby d23_14 rfl (zcallv X2 hx hby d23_16 hZ hown (w103 hw) (zdecl_of (w104 hw) (w107 hw)) (notFace_of_selects (args := #[]) (mvT hZ (w106 hw))) (w106 hw) (w104 hw) (w107 hw) (w69 hw) e2 E_a (c_ensure l hw  C O0 a b (bs.length) (bs ++ jk) ⟨E_a, F_a_v, F_a_c, F_a_n, A_b, E_b, ne_ab⟩ (bs.length + (dec n).length) (by first | omega | (simp only [List.length_replicate, List.length_append, List.length_take, List.length_drop, List.length_nil, List.length_cons]; omega)) (by first | omega | (simp only [List.length_replicate, List.length_append, List.length_take, List.length_drop, List.length_nil, List.length_cons]; omega)) g_a g_b) hml 0 pd_8 (argsL := [(.int (Int32.ofNat (bs.length + (dec n).length)))]) (st := []) fun T3 h3 v3 L3 e3 X3 q3 => ?_))))
  obtain ⟨rfl, N3q, K3q, b3, zs3, ⟨E3_a, V3_a, C3_a, M3_a, A3_b, E3_b, ne3_ab⟩, g3_b, o3, l3⟩ := q3
  have O3 := O0.keep K3q (allS g_a all0)
  have K3 := Keep.trans K0 K3q (allS (Or.inl (List.mem_of_getElem? (i := 0) rfl)) all0)
  have N3 := Fr.app N0 N3q
  show zEnds p e below s T3 (mkF m 19 #[rv a, .val (.long (Int64.ofNat (n))), .second, iv (Int32.ofNat (bs.length)), iv (Int32.ofNat (bs.length + (dec n).length))] []) _ _ _
  refine zaloadN X3 hx hby d23_19 rfl rfl (zcallv X3 hx hby d23_20 hZ hown (w164 hw) (w165 hw) (notFace_of_selects (args := #[]) (mvT hZ (w167 hw))) (w167 hw) (w166 hw) (w168 hw) (w69 hw) e3 E3_a (c_latin l hw  C O3 a b3 (bs.length) (bs ++ jk ++ zs3) ⟨E3_a, V3_a, C3_a, M3_a, A3_b, E3_b, ne3_ab⟩) hml 0 pd_11 (argsL := []) (st := []) (zpureK ⟨rfl, rfl⟩ fun T4 X4 e4 => ?_))
  show zEnds p e below s T4 (mkF m 23 #[rv a, .val (.long (Int64.ofNat (n))), .second, iv (Int32.ofNat (bs.length)), iv (Int32.ofNat (bs.length + (dec n).length))] [(.int 1)]) _ _ _
  refine zifNo X4 hx hby d23_23 (by decide) (zlloadN X4 hx hby d23_26 rfl (ziload X4 hx hby d23_27 rfl (zaloadN X4 hx hby d23_29 rfl rfl (zgetfld X4 hx hby d23_30 hZ hown (host := "") (Or.inl (w73 hw)) Via.refl e4 V3_a fun T5 X5 e5 => (zcalls X5 hx hby d23_33 hZ hown (w190 hw) (w191 hw) (w187 hw) (w192 hw) e5 (c_charsJ l hw  C O3 b3 (bs ++ jk ++ zs3) A3_b g3_b n (bs.length) (by omega) (by rw [l3]; have q1 := @gcap_le (bs ++ jk).length (bs.length + (dec n).length); have q2 : gcap (bs ++ jk).length (bs.length + (dec n).length) < 3000000 := (by unfold gcap ncap; split <;> omega); omega) (by rw [l3]; have q1 := @gcap_le (bs ++ jk).length (bs.length + (dec n).length); have q2 : gcap (bs ++ jk).length (bs.length + (dec n).length) < 3000000 := (by unfold gcap ncap; split <;> omega); omega)) hml 0 pd_15 (argsL := [(.long (Int64.ofNat (n))), (.int (Int32.ofNat (bs.length + (dec n).length))), (.ref b3)]) (st := []) fun T6 h6 v6 L6 e6 X6 q6 => ?_)))))
  obtain ⟨rfl, N6q, K6q, A6_b⟩ := q6
  have F6_a_value := V3_a.keep K6q (ninS ne3_ab nin0)
  have F6_a_coder := C3_a.keep K6q (ninS ne3_ab nin0)
  have F6_a_count := M3_a.keep K6q (ninS ne3_ab nin0)
  have E6_a := E3_a.keep K6q
  have K6 := Keep.trans K3 K6q (allS (o3.elim (fun q => Or.inl (by rw [q]; exact List.mem_of_getElem? (i := 1) rfl)) (fun q => Or.inr (Nat.le_trans K0.1 q))) all0)
  have N6 := Fr.app N3 N6q
  have E6_b := E3_b.keep K6q
  show zEnds p e below s T6 (mkF m 36 #[rv a, .val (.long (Int64.ofNat (n))), .second, iv (Int32.ofNat (bs.length)), iv (Int32.ofNat (bs.length + (dec n).length))] [(.int (Int32.ofNat (bs.length)))]) _ _ _
  refine zpop X6 hx hby d23_36 rfl (zgoto X6 hx hby d23_37 52 (by decide) (by decide) (zaloadN X6 hx hby d23_52 rfl rfl (ziload X6 hx hby d23_53 rfl (zputfld X6 hx hby d23_55 hZ hown (host := "") (Or.inl (w101 hw)) Via.refl e6 F6_a_count E6_a (Or.inl (w102 hw)) (w60 hw) (ty := .int) (by decide) rfl rfl fun T7 h7 X7 e7 W7 => ?_))))
  have F7_a_count : Fld Z h7 a "java/lang/AbstractStringBuilder" "count" "I" (.int (Int32.ofNat (bs.length + (dec n).length))) := F6_a_count.same W7
  have F7_a_value := F6_a_value.other W7 (Or.inr (slot_ne (Or.inl (w74 hw)) (Or.inl (w102 hw)) (by decide) (t := (.array .byte)) (t' := .int) (by decide) (by decide)))
  have F7_a_coder := F6_a_coder.other W7 (Or.inr (slot_ne (Or.inl (w76 hw)) (Or.inl (w102 hw)) (by decide) (t := .byte) (t' := .int) (by decide) (by decide)))
  have E7_a := E6_a.wr W7
  have E7_b3 := E6_b.wr W7
  have A7_b3 := A6_b.other W7 (Ne.symm ne3_ab)
  have K7 := Keep.wr K6 W7 (Or.inl (List.mem_of_getElem? (i := 0) rfl))
  have N7 := Fr.snoc X7 N6 g_a
  refine zaloadN X7 hx hby d23_58 rfl rfl ?_
  show zEnds p e below s T7 (mkF m 59 #[rv a, .val (.long (Int64.ofNat (n))), .second, iv (Int32.ofNat (bs.length)), iv (Int32.ofNat (bs.length + (dec n).length))] [(.ref a)]) _ _ _
  exact zretA X7 hx hby d23_59 hret hlk rfl rfl rfl (by first | decide | omega | (dsimp only; omega)) (by first | decide | omega | (dsimp only; omega)) (by rw [e7]; exact ⟨rfl, N7, K7, b3, ⟨List.drop (dec n).length (jk ++ zs3), ⟨E7_a, F7_a_value, F7_a_coder, by rw [List.length_append]; exact F7_a_count, by have q := A7_b3; rw [wrt, zput_tail] at q; exact q, E7_b3, ne3_ab⟩, by rw [zput_len (by rw [l3]; have q1 := @gcap_le (bs ++ jk).length (bs.length + (dec n).length); have q2 : gcap (bs ++ jk).length (bs.length + (dec n).length) < 3000000 := (by unfold gcap ncap; split <;> omega); omega), l3]⟩, g3_b, o3⟩)
theorem c_appJ (hw : HW a0 Z) (C : Ctx Z cs d1 d2 o1 o2) (O0 : zOd Z n0 h0) (a b : Addr) (bs : List Int8) (cap : Nat) (B0 : Sb Z h0 a b bs cap) (hC : cap < 400000) (g_a : n0 ≤ a) (g_b : n0 ≤ b) (n : Nat) (hn : n < 9223372036854775808) : zCon l Z (⟨"java/lang/StringBuilder", "append", "(J)Ljava/lang/StringBuilder;"⟩ : MethodName) jdk_67_method_16_code 3 (some (.object "java/lang/StringBuilder")) [] ({ frames := 5, cells := gcell cap (bs.length + (dec n).length), slots := gslot cap (bs.length + (dec n).length), locals := 78 } : Room) #[(.ref a), (.long (Int64.ofNat (n)))] h0 (fun v h L => v = some (.ref a) ∧ Fr n0 L ∧ Keep h0 h [a, b] ∧ ∃ b2 : Addr, Sb Z h a b2 (bs ++ dec n) (gcap cap (bs.length + (dec n).length)) ∧ n0 ≤ b2 ∧ (b2 = b ∨ h0.size ≤ b2)) := by
  refine zenter (plainFor_of_name pn_2) (L0 := #[rv a, .val (.long (Int64.ofNat (n))), .second]) (fun m => by first | rfl | simp [entryFrame, mkF, argsToLocals, Value.category]) ?_
  intro p e s m below meth c T0 hx hZ hby hml hown0 hnm hret hlk X0 e0
  have hown : s.vm.findClass "java/lang/StringBuilder" = some m.cls := hown0
  have K0 := Keep.refl h0 [a, b]
  have N0 := Fr.nil n0
  have hdn := dec_len_le 18 n (by omega)
  show zEnds p e below s T0 (mkF m 0 #[rv a, .val (.long (Int64.ofNat (n))), .second] []) _ _ _
  refine zaloadN X0 hx hby d24_0 rfl rfl (zlloadN X0 hx hby d24_1 rfl (zcallsup X0 hx hby d24_2 hZ hown (by decide) (w181 hw) (nfASB hw (w182 hw) rfl) (w182 hw) (w85 hw) (w184 hw) (w69 hw) e0 (Sb.exa B0) (c_appJ0 l hw  C O0 a b (bs) cap B0 (by first | omega | (simp only [List.length_replicate, List.length_append, List.length_take, List.length_drop, List.length_nil, List.length_cons]; omega)) g_a g_b (n) (by omega)) hml 0 pd_16 (argsL := [(.long (Int64.ofNat (n)))]) (st := []) fun T1 h1 v1 L1 e1 X1 q1 => ?_))
  obtain ⟨rfl, N1q, K1q, b1, B1_a, g1_b, o1⟩ := q1
  have K1 := Keep.trans K0 K1q (allS (Or.inl (List.mem_of_getElem? (i := 0) rfl)) (allS (Or.inl (List.mem_of_getElem? (i := 1) rfl)) all0))
  have N1 := Fr.app N0 N1q
  show zEnds p e below s T1 (mkF m 5 #[rv a, .val (.long (Int64.ofNat (n))), .second] [(.ref a)]) _ _ _
  refine zpop X1 hx hby d24_5 rfl (zaloadN X1 hx hby d24_6 rfl rfl ?_)
  show zEnds p e below s T1 (mkF m 7 #[rv a, .val (.long (Int64.ofNat (n))), .second] [(.ref a)]) _ _ _
  exact zretA X1 hx hby d24_7 hret hlk rfl rfl rfl (by first | decide | omega | (dsimp only; omega)) (by first | decide | omega | (dsimp only; omega)) (by rw [e1]; exact ⟨rfl, N1, K1, b1, B1_a, g1_b, o1⟩)
theorem w15 (hw : HW a0 Z) : (Cond.instanceMethod ⟨"java/lang/Object", "<init>", "()V"⟩).before a0 Z = true := hwi hw 15 rfl
theorem w16 (hw : HW a0 Z) : (Cond.code ⟨"java/lang/Object", "<init>", "()V"⟩ object_method_1_code 1 (Option.none : Option Jvm.ClassFile.FieldType)).before a0 Z = true := hwi hw 16 rfl
theorem w65 (hw : HW a0 Z) : (Cond.methodLink "java/lang/StringBuilder" 1 ⟨"java/lang/AbstractStringBuilder", "<init>", "(I)V"⟩).before a0 Z = true := hwi hw 65 rfl
theorem w66 (hw : HW a0 Z) : (Cond.instanceMethod ⟨"java/lang/AbstractStringBuilder", "<init>", "(I)V"⟩).before a0 Z = true := hwi hw 66 rfl
theorem w70 (hw : HW a0 Z) : (Cond.code ⟨"java/lang/AbstractStringBuilder", "<init>", "(I)V"⟩ jdk_68_method_2_code 2 (Option.none : Option Jvm.ClassFile.FieldType)).before a0 Z = true := hwi hw 70 rfl
theorem w71 (hw : HW a0 Z) : (Cond.methodLink "java/lang/AbstractStringBuilder" 3 ⟨"java/lang/Object", "<init>", "()V"⟩).before a0 Z = true := hwi hw 71 rfl
theorem d26_0 : decode jdk_67_method_1_code 0 = .ok (.aload_n 0, 1) := by decide +kernel
theorem d26_1 : decode jdk_67_method_1_code 1 = .ok (.bipush 16, 2) := by decide +kernel
theorem d26_3 : decode jdk_67_method_1_code 3 = .ok (.invokespecial 1, 3) := by decide +kernel
theorem d26_6 : decode jdk_67_method_1_code 6 = .ok (.return_, 1) := by decide +kernel
theorem d25_0 : decode jdk_68_method_2_code 0 = .ok (.aload_n 0, 1) := by decide +kernel
theorem d25_1 : decode jdk_68_method_2_code 1 = .ok (.invokespecial 3, 3) := by decide +kernel
theorem d25_4 : decode jdk_68_method_2_code 4 = .ok (.getstatic 18, 3) := by decide +kernel
theorem d25_7 : decode jdk_68_method_2_code 7 = .ok (.ifCond .eq 18, 3) := by decide +kernel
theorem d25_10 : decode jdk_68_method_2_code 10 = .ok (.aload_n 0, 1) := by decide +kernel
theorem d25_11 : decode jdk_68_method_2_code 11 = .ok (.iload_n 1, 1) := by decide +kernel
theorem d25_12 : decode jdk_68_method_2_code 12 = .ok (.newarray .byte, 2) := by decide +kernel
theorem d25_14 : decode jdk_68_method_2_code 14 = .ok (.putfield 15, 3) := by decide +kernel
theorem d25_17 : decode jdk_68_method_2_code 17 = .ok (.aload_n 0, 1) := by decide +kernel
theorem d25_18 : decode jdk_68_method_2_code 18 = .ok (.iconst 0, 1) := by decide +kernel
theorem d25_19 : decode jdk_68_method_2_code 19 = .ok (.putfield 22, 3) := by decide +kernel
theorem d25_22 : decode jdk_68_method_2_code 22 = .ok (.goto 16, 3) := by decide +kernel
theorem d25_38 : decode jdk_68_method_2_code 38 = .ok (.return_, 1) := by decide +kernel
theorem c_init0 (hw : HW a0 Z) (C : Ctx Z cs d1 d2 o1 o2) (O0 : zOd Z n0 h0) (a : Addr) (E_a : Exa Z h0 a "java/lang/StringBuilder") (F_a_v : Fld Z h0 a "java/lang/AbstractStringBuilder" "value" "[B" .null) (F_a_c : Fld Z h0 a "java/lang/AbstractStringBuilder" "coder" "B" (.int 0)) (F_a_n : Fld Z h0 a "java/lang/AbstractStringBuilder" "count" "I" (.int 0)) (g_a : n0 ≤ a) : zCon l Z (⟨"java/lang/AbstractStringBuilder", "<init>", "(I)V"⟩ : MethodName) jdk_68_method_2_code 2 none [] ({ frames := 1, cells := 1, slots := 16, locals := 12 } : Room) #[(.ref a), (.int 16)] h0 (fun v h L => v = none ∧ Fr n0 L ∧ Keep h0 h [a] ∧ ∃ b : Addr, Sb Z h a b [] 16 ∧ n0 ≤ b ∧ h0.size ≤ b) := by
  obtain ⟨S_cs, hcs, S_d1, B_d1, H_d1, S_d2, B_d2, H_d2⟩ := id C
  refine zenter (plainFor_of_name pn_1) (L0 := #[rv a, iv 16]) (fun m => by first | rfl | simp [entryFrame, mkF, argsToLocals, Value.category]) ?_
  intro p e s m below meth c T0 hx hZ hby hml hown0 hnm hret hlk X0 e0
  have hown : s.vm.findClass "java/lang/AbstractStringBuilder" = some m.cls := hown0
  have K0 := Keep.refl h0 [a]
  have N0 := Fr.nil n0
  show zEnds p e below s T0 (mkF m 0 #[rv a, iv 16] []) _ _ _
  refine zaloadN X0 hx hby d25_0 rfl rfl (zobjinit X0 hx hby d25_1 hZ hown (w71 hw) (w15 hw) (w16 hw) e0 hml 0 (fun T1 X1 e1 => ?_))
  refine zgetstat X1 hx hby d25_4 hZ hown (host := "") (Or.inl (w72 hw)) Via.refl e1 (S_cs.ext O0.2.2) fun T2 X2 e2 => (zifNo X2 hx hby d25_7 ((if0 _ _).trans (feq hcs).1) (zaloadN X2 hx hby d25_10 rfl rfl (ziloadN X2 hx hby d25_11 rfl (znewB X2 hx hby d25_12 hZ (w20 hw) e2 (n := 16) (by decide) (by first | decide | omega | (dsimp only; omega)) (by first | decide | omega | (dsimp only; omega)) fun T3 h3 b3 X3 e3 y3 Ex3 E3_b3 A3_b3 => ?_))))
  have F3_a_value := F_a_v.ext Ex3
  have F3_a_coder := F_a_c.ext Ex3
  have F3_a_count := F_a_n.ext Ex3
  have E3_a := E_a.ext Ex3
  have K3 := Keep.ext K0 Ex3
  have ne3_a : a ≠ b3 := Nat.ne_of_lt (Nat.lt_of_lt_of_eq E_a.lt y3.symm)
  have g3 : n0 ≤ b3 := by rw [y3]; exact zodsz O0
  have z3 : h0.size ≤ b3 := by rw [y3]; exact K0.1
  refine zputfld X3 hx hby d25_14 hZ hown (host := "") (Or.inl (w73 hw)) Via.refl e3 F3_a_value E3_a (Or.inl (w74 hw)) (w60 hw) (ty := (.array .byte)) (by decide) rfl rfl fun T4 h4 X4 e4 W4 => ?_
  have F4_a_value : Fld Z h4 a "java/lang/AbstractStringBuilder" "value" "[B" (.ref b3) := F3_a_value.same W4
  have F4_a_coder := F3_a_coder.other W4 (Or.inr (slot_ne (Or.inl (w76 hw)) (Or.inl (w74 hw)) (by decide) (t := .byte) (t' := (.array .byte)) (by decide) (by decide)))
  have F4_a_count := F3_a_count.other W4 (Or.inr (slot_ne (Or.inl (w102 hw)) (Or.inl (w74 hw)) (by decide) (t := .int) (t' := (.array .byte)) (by decide) (by decide)))
  have E4_a := E3_a.wr W4
  have E4_b3 := E3_b3.wr W4
  have A4_b3 := A3_b3.other W4 (Ne.symm ne3_a)
  have K4 := Keep.wr K3 W4 (Or.inl (List.mem_of_getElem? (i := 0) rfl))
  have N4 := Fr.snoc X4 N0 g_a
  refine zaloadN X4 hx hby d25_17 rfl rfl (ziconst X4 hx hby d25_18 (z := (0 : Int32)) rfl (zputfld X4 hx hby d25_19 hZ hown (host := "") (Or.inl (w75 hw)) Via.refl e4 F4_a_coder E4_a (Or.inl (w76 hw)) (w60 hw) (ty := .byte) (by decide) rfl rfl fun T5 h5 X5 e5 W5 => ?_))
  have F5_a_coder : Fld Z h5 a "java/lang/AbstractStringBuilder" "coder" "B" (.int 0) := F4_a_coder.same W5
  have F5_a_value := F4_a_value.other W5 (Or.inr (slot_ne (Or.inl (w74 hw)) (Or.inl (w76 hw)) (by decide) (t := (.array .byte)) (t' := .byte) (by decide) (by decide)))
  have F5_a_count := F4_a_count.other W5 (Or.inr (slot_ne (Or.inl (w102 hw)) (Or.inl (w76 hw)) (by decide) (t := .int) (t' := .byte) (by decide) (by decide)))
  have E5_a := E4_a.wr W5
  have E5_b3 := E4_b3.wr W5
  have A5_b3 := A4_b3.other W5 (Ne.symm ne3_a)
  have K5 := Keep.wr K4 W5 (Or.inl (List.mem_of_getElem? (i := 0) rfl))
  have N5 := Fr.snoc X5 N4 g_a
  refine zgoto X5 hx hby d25_22 38 (by decide) (by decide) ?_
  show zEnds p e below s T5 (mkF m 38 #[rv a, iv 16] []) _ _ _
  exact zretV X5 hx hby d25_38 hret hlk (by first | decide | omega | (dsimp only; omega)) (by first | decide | omega | (dsimp only; omega)) (by rw [e5]; exact ⟨rfl, N5, K5, b3, ⟨List.replicate 16 0, ⟨E5_a, F5_a_value, F5_a_coder, F5_a_count, A5_b3, E5_b3, ne3_a⟩, rfl⟩, g3, z3⟩)
theorem c_init (hw : HW a0 Z) (C : Ctx Z cs d1 d2 o1 o2) (O0 : zOd Z n0 h0) (a : Addr) (E_a : Exa Z h0 a "java/lang/StringBuilder") (F_a_v : Fld Z h0 a "java/lang/AbstractStringBuilder" "value" "[B" .null) (F_a_c : Fld Z h0 a "java/lang/AbstractStringBuilder" "coder" "B" (.int 0)) (F_a_n : Fld Z h0 a "java/lang/AbstractStringBuilder" "count" "I" (.int 0)) (g_a : n0 ≤ a) : zCon l Z (⟨"java/lang/StringBuilder", "<init>", "()V"⟩ : MethodName) jdk_67_method_1_code 1 none [] ({ frames := 2, cells := 1, slots := 16, locals := 25 } : Room) #[(.ref a)] h0 (fun v h L => v = none ∧ Fr n0 L ∧ Keep h0 h [a] ∧ ∃ b : Addr, Sb Z h a b [] 16 ∧ n0 ≤ b ∧ h0.size ≤ b) := by
  refine zenter (plainFor_of_name pn_2) (L0 := #[rv a]) (fun m => by first | rfl | simp [entryFrame, mkF, argsToLocals, Value.category]) ?_
  intro p e s m below meth c T0 hx hZ hby hml hown0 hnm hret hlk X0 e0
  have hown : s.vm.findClass "java/lang/StringBuilder" = some m.cls := hown0
  have K0 := Keep.refl h0 [a]
  have N0 := Fr.nil n0
  show zEnds p e below s T0 (mkF m 0 #[rv a] []) _ _ _
  refine zaloadN X0 hx hby d26_0 rfl rfl (zbipush X0 hx hby d26_1 (z := (16 : Int32)) rfl (zcallsp X0 hx hby d26_3 hZ hown rfl (w65 hw) (w66 hw) (w70 hw) (w69 hw) e0 (c_init0 l hw  C O0 a E_a F_a_v F_a_c F_a_n g_a) hml 0 pd_8 (argsL := [(.int 16)]) (st := []) fun T1 h1 v1 L1 e1 X1 q1 => ?_))
  obtain ⟨rfl, N1q, K1q, b1, B1_a, g1_b, y1⟩ := q1
  have K1 := Keep.trans K0 K1q (allS (Or.inl (List.mem_of_getElem? (i := 0) rfl)) all0)
  have N1 := Fr.app N0 N1q
  have z1 : h0.size ≤ b1 := Nat.le_trans K0.1 y1
  show zEnds p e below s T1 (mkF m 6 #[rv a] []) _ _ _
  exact zretV X1 hx hby d26_6 hret hlk (by first | decide | omega | (dsimp only; omega)) (by first | decide | omega | (dsimp only; omega)) (by rw [e1]; exact ⟨rfl, N1, K1, b1, B1_a, g1_b, z1⟩)
theorem w235 (hw : HW a0 Z) : (Cond.methodLink "java/util/Arrays" 339 ⟨"java/util/Arrays", "copyOfRangeByte", "([BII)[B"⟩).before a0 Z = true := hwi hw 235 rfl
theorem w236 (hw : HW a0 Z) : (Cond.static ⟨"java/util/Arrays", "copyOfRangeByte", "([BII)[B"⟩).before a0 Z = true := hwi hw 236 rfl
theorem w237 (hw : HW a0 Z) : (Cond.code ⟨"java/util/Arrays", "copyOfRangeByte", "([BII)[B"⟩ jdk_65_method_133_code 5 (Option.some (FieldType.array FieldType.byte))).before a0 Z = true := hwi hw 237 rfl
theorem w238 (hw : HW a0 Z) : (Cond.methodLink "java/util/Arrays" 343 ⟨"java/util/Arrays", "checkLength", "(II)V"⟩).before a0 Z = true := hwi hw 238 rfl
theorem w239 (hw : HW a0 Z) : (Cond.static ⟨"java/util/Arrays", "checkLength", "(II)V"⟩).before a0 Z = true := hwi hw 239 rfl
theorem w240 (hw : HW a0 Z) : (Cond.code ⟨"java/util/Arrays", "checkLength", "(II)V"⟩ jdk_65_method_131_code 2 (Option.none : Option Jvm.ClassFile.FieldType)).before a0 Z = true := hwi hw 240 rfl
theorem w282 (hw : HW a0 Z) : (Cond.methodLink "java/util/Arrays" 310 ⟨"[B", "clone", "()Ljava/lang/Object;"⟩).before a0 Z = true := hwi hw 282 rfl
theorem w283 (hw : HW a0 Z) : (Cond.sameMethod "[B" "java/lang/Object" "clone" "()Ljava/lang/Object;").before a0 Z = true := hwi hw 283 rfl
theorem w285 (hw : HW a0 Z) : (Cond.instanceMethod ⟨"java/lang/Object", "clone", "()Ljava/lang/Object;"⟩).before a0 Z = true := hwi hw 285 rfl
theorem w286 (hw : HW a0 Z) : (Cond.selects "[B" ⟨"[B", "clone", "()Ljava/lang/Object;"⟩ ⟨"java/lang/Object", "clone", "()Ljava/lang/Object;"⟩).before a0 Z = true := hwi hw 286 rfl
theorem w287 (hw : HW a0 Z) : (Cond.native ⟨"java/lang/Object", "clone", "()Ljava/lang/Object;"⟩).before a0 Z = true := hwi hw 287 rfl
theorem w288 (hw : HW a0 Z) : (Cond.castable "[B" "java/lang/Cloneable").before a0 Z = true := hwi hw 288 rfl
theorem w289 (hw : HW a0 Z) : (Cond.classLink "java/util/Arrays" 311 "[B").before a0 Z = true := hwi hw 289 rfl
theorem w290 (hw : HW a0 Z) : (Cond.castable "[B" "[B").before a0 Z = true := hwi hw 290 rfl
theorem d27_0 : decode jdk_65_method_131_code 0 = .ok (.iload_n 1, 1) := by decide +kernel
theorem d27_1 : decode jdk_65_method_131_code 1 = .ok (.iload_n 0, 1) := by decide +kernel
theorem d27_2 : decode jdk_65_method_131_code 2 = .ok (.if_icmp .ge 35, 3) := by decide +kernel
theorem d27_37 : decode jdk_65_method_131_code 37 = .ok (.return_, 1) := by decide +kernel
theorem d29_0 : decode jdk_65_method_132_code 0 = .ok (.iload_n 1, 1) := by decide +kernel
theorem d29_1 : decode jdk_65_method_132_code 1 = .ok (.ifCond .ne 9, 3) := by decide +kernel
theorem d29_4 : decode jdk_65_method_132_code 4 = .ok (.iload_n 2, 1) := by decide +kernel
theorem d29_5 : decode jdk_65_method_132_code 5 = .ok (.aload_n 0, 1) := by decide +kernel
theorem d29_6 : decode jdk_65_method_132_code 6 = .ok (.arraylength, 1) := by decide +kernel
theorem d29_7 : decode jdk_65_method_132_code 7 = .ok (.if_icmp .eq 10, 3) := by decide +kernel
theorem d29_10 : decode jdk_65_method_132_code 10 = .ok (.aload_n 0, 1) := by decide +kernel
theorem d29_11 : decode jdk_65_method_132_code 11 = .ok (.iload_n 1, 1) := by decide +kernel
theorem d29_12 : decode jdk_65_method_132_code 12 = .ok (.iload_n 2, 1) := by decide +kernel
theorem d29_13 : decode jdk_65_method_132_code 13 = .ok (.invokestatic 339, 3) := by decide +kernel
theorem d29_16 : decode jdk_65_method_132_code 16 = .ok (.areturn, 1) := by decide +kernel
theorem d29_17 : decode jdk_65_method_132_code 17 = .ok (.aload_n 0, 1) := by decide +kernel
theorem d29_18 : decode jdk_65_method_132_code 18 = .ok (.invokevirtual 310, 3) := by decide +kernel
theorem d29_21 : decode jdk_65_method_132_code 21 = .ok (.checkcast 311, 3) := by decide +kernel
theorem d29_24 : decode jdk_65_method_132_code 24 = .ok (.areturn, 1) := by decide +kernel
theorem d28_0 : decode jdk_65_method_133_code 0 = .ok (.iload_n 1, 1) := by decide +kernel
theorem d28_1 : decode jdk_65_method_133_code 1 = .ok (.iload_n 2, 1) := by decide +kernel
theorem d28_2 : decode jdk_65_method_133_code 2 = .ok (.invokestatic 343, 3) := by decide +kernel
theorem d28_5 : decode jdk_65_method_133_code 5 = .ok (.iload_n 2, 1) := by decide +kernel
theorem d28_6 : decode jdk_65_method_133_code 6 = .ok (.iload_n 1, 1) := by decide +kernel
theorem d28_7 : decode jdk_65_method_133_code 7 = .ok (.isub, 1) := by decide +kernel
theorem d28_8 : decode jdk_65_method_133_code 8 = .ok (.istore_n 3, 1) := by decide +kernel
theorem d28_9 : decode jdk_65_method_133_code 9 = .ok (.iload_n 3, 1) := by decide +kernel
theorem d28_10 : decode jdk_65_method_133_code 10 = .ok (.newarray .byte, 2) := by decide +kernel
theorem d28_12 : decode jdk_65_method_133_code 12 = .ok (.astore 4, 2) := by decide +kernel
theorem d28_14 : decode jdk_65_method_133_code 14 = .ok (.aload_n 0, 1) := by decide +kernel
theorem d28_15 : decode jdk_65_method_133_code 15 = .ok (.iload_n 1, 1) := by decide +kernel
theorem d28_16 : decode jdk_65_method_133_code 16 = .ok (.aload 4, 2) := by decide +kernel
theorem d28_18 : decode jdk_65_method_133_code 18 = .ok (.iconst 0, 1) := by decide +kernel
theorem d28_19 : decode jdk_65_method_133_code 19 = .ok (.aload_n 0, 1) := by decide +kernel
theorem d28_20 : decode jdk_65_method_133_code 20 = .ok (.arraylength, 1) := by decide +kernel
theorem d28_21 : decode jdk_65_method_133_code 21 = .ok (.iload_n 1, 1) := by decide +kernel
theorem d28_22 : decode jdk_65_method_133_code 22 = .ok (.isub, 1) := by decide +kernel
theorem d28_23 : decode jdk_65_method_133_code 23 = .ok (.iload_n 3, 1) := by decide +kernel
theorem d28_24 : decode jdk_65_method_133_code 24 = .ok (.invokestatic 304, 3) := by decide +kernel
theorem d28_27 : decode jdk_65_method_133_code 27 = .ok (.invokestatic 150, 3) := by decide +kernel
theorem d28_30 : decode jdk_65_method_133_code 30 = .ok (.aload 4, 2) := by decide +kernel
theorem d28_32 : decode jdk_65_method_133_code 32 = .ok (.areturn, 1) := by decide +kernel
theorem pd_17 : parseMethodDescriptor "(II)V" = some ⟨[.int, .int], none⟩ := by decide +kernel
theorem pd_18 : parseMethodDescriptor "([BII)[B" = some ⟨[(.array .byte), .int, .int], some (.array .byte)⟩ := by decide +kernel
theorem c_chk (hw : HW a0 Z) (C : Ctx Z cs d1 d2 o1 o2) (O0 : zOd Z n0 h0) (n : Nat) (hn : n < 10000000) : zCon l Z (⟨"java/util/Arrays", "checkLength", "(II)V"⟩ : MethodName) jdk_65_method_131_code 2 none [] ({ frames := 0, cells := 0, slots := 0, locals := 0 } : Room) #[(.int 0), (.int (Int32.ofNat (n)))] h0 (zSame none h0) := by
  refine zenter (plainFor_of_name pn_4) (L0 := #[iv 0, iv (Int32.ofNat (n))]) (fun m => by first | rfl | simp [entryFrame, mkF, argsToLocals, Value.category]) ?_
  intro p e s m below meth c T0 hx hZ hby hml hown0 hnm hret hlk X0 e0
  have hown : s.vm.findClass "java/util/Arrays" = some m.cls := hown0
  show zEnds p e below s T0 (mkF m 0 #[iv 0, iv (Int32.ofNat (n))] []) _ _ _
  refine ziloadN X0 hx hby d27_0 rfl (ziloadN X0 hx hby d27_1 rfl (zicmpYes X0 hx hby d27_2 37 (flt (show ¬ ((Int32.ofNat (n)) < Int32.ofNat (0)) from by rw [zofN_lt (by omega) (by omega)]; omega)).2.1 (by decide) (by decide) ?_))
  show zEnds p e below s T0 (mkF m 37 #[iv 0, iv (Int32.ofNat (n))] []) _ _ _
  exact zretV X0 hx hby d27_37 hret hlk (by first | decide | omega | (dsimp only; omega)) (by first | decide | omega | (dsimp only; omega)) (⟨rfl, e0, rfl⟩)
theorem c_crb (hw : HW a0 Z) (C : Ctx Z cs d1 d2 o1 o2) (O0 : zOd Z n0 h0) (b : Addr) (ys : List Int8) (n : Nat) (A_b : zBt Z h0 b ys) (hn : n ≤ ys.length) (hM : ys.length < 10000000) : zCon l Z (⟨"java/util/Arrays", "copyOfRangeByte", "([BII)[B"⟩ : MethodName) jdk_65_method_133_code 5 (some (.array .byte)) [] ({ frames := 1, cells := 1, slots := n, locals := 29 } : Room) #[(.ref b), (.int 0), (.int (Int32.ofNat (n)))] h0 (fun v h L => ∃ b2 : Addr, v = some (.ref b2) ∧ Fr n0 L ∧ Keep h0 h [] ∧ h0.size ≤ b2 ∧ n0 ≤ b2 ∧ Exa Z h b2 "[B" ∧ zBt Z h b2 (ys.take n)) := by
  refine zenter (plainFor_of_name pn_4) (L0 := #[rv b, iv 0, iv (Int32.ofNat (n)), .unset, .unset]) (fun m => by first | rfl | simp [entryFrame, mkF, argsToLocals, Value.category]) ?_
  intro p e s m below meth c T0 hx hZ hby hml hown0 hnm hret hlk X0 e0
  have hown : s.vm.findClass "java/util/Arrays" = some m.cls := hown0
  have K0 := Keep.refl h0 []
  have N0 := Fr.nil n0
  show zEnds p e below s T0 (mkF m 0 #[rv b, iv 0, iv (Int32.ofNat (n)), .unset, .unset] []) _ _ _
  refine ziloadN X0 hx hby d28_0 rfl (ziloadN X0 hx hby d28_1 rfl (zcalls X0 hx hby d28_2 hZ hown (w238 hw) (w239 hw) (w125 hw) (w240 hw) e0 (c_chk l hw  C O0 (n) (by first | omega | (simp only [List.length_replicate, List.length_append, List.length_take, List.length_drop, List.length_nil, List.length_cons]; omega))) hml 0 pd_17 (argsL := [(.int 0), (.int (Int32.ofNat (n)))]) (st := []) (zpureK ⟨rfl, rfl⟩ fun T1 X1 e1 => ?_)))
  show zEnds p e below s T1 (mkF m 5 #[rv b, iv 0, iv (Int32.ofNat (n)), .unset, .unset] []) _ _ _
  refine ziloadN X1 hx hby d28_5 rfl (ziloadN X1 hx hby d28_6 rfl (zisub X1 hx hby d28_7 (Int32.ofNat (n)) (Int32.sub_zero _) (zistoreN X1 hx hby d28_8 (L' := #[rv b, iv 0, iv (Int32.ofNat (n)), iv (Int32.ofNat (n)), .unset]) rfl (ziloadN X1 hx hby d28_9 rfl (znewB X1 hx hby d28_10 hZ (w20 hw) e1 (n := n) (by omega) (by first | decide | omega | (dsimp only; omega)) (by first | decide | omega | (dsimp only; omega)) fun T2 h2 b2 X2 e2 y2 Ex2 E2_b2 A2_b2 => ?_)))))
  have A2_b := A_b.ext Ex2
  have O2 := O0.ext Ex2
  have K2 := Keep.ext K0 Ex2
  have g2 : n0 ≤ b2 := by rw [y2]; exact zodsz O0
  have z2 : h0.size ≤ b2 := by rw [y2]; exact K0.1
  refine zastore X2 hx hby d28_12 (hv := rfl) (L' := #[rv b, iv 0, iv (Int32.ofNat (n)), iv (Int32.ofNat (n)), rv b2]) rfl (zaloadN X2 hx hby d28_14 rfl rfl (ziloadN X2 hx hby d28_15 rfl (zaload X2 hx hby d28_16 rfl rfl (ziconst X2 hx hby d28_18 (z := (0 : Int32)) rfl (zaloadN X2 hx hby d28_19 rfl rfl (zalenB X2 hx hby d28_20 hZ e2 A2_b (ys.length) rfl (ziloadN X2 hx hby d28_21 rfl (zisub X2 hx hby d28_22 (Int32.ofNat (ys.length)) (Int32.sub_zero _) (ziloadN X2 hx hby d28_23 rfl ?_)))))))))
  show zEnds p e below s T2 (mkF m 24 #[rv b, iv 0, iv (Int32.ofNat (n)), iv (Int32.ofNat (n)), rv b2] [(.int (Int32.ofNat (n))), (.int (Int32.ofNat (ys.length))), (.int 0), (.ref b2), (.int 0), (.ref b)]) _ _ _
  refine zcalls X2 hx hby d28_24 hZ hown (w127 hw) (w128 hw) (w119 hw) (w129 hw) e2 (c_min l hw  C O2 (ys.length) (n) (by first | omega | (simp only [List.length_replicate, List.length_append, List.length_take, List.length_drop, List.length_nil, List.length_cons]; omega)) (by first | omega | (simp only [List.length_replicate, List.length_append, List.length_take, List.length_drop, List.length_nil, List.length_cons]; omega))) hml 4 pd_2 (argsL := [(.int (Int32.ofNat (ys.length))), (.int (Int32.ofNat (n)))]) (st := [(.int 0), (.ref b2), (.int 0), (.ref b)]) (zpureK ⟨rfl, rfl⟩ fun T3 X3 e3 => ?_)
  show zEnds p e below s T3 (mkF m 27 #[rv b, iv 0, iv (Int32.ofNat (n)), iv (Int32.ofNat (n)), rv b2] [(.int (Int32.ofNat (min (ys.length) (n)))), (.int 0), (.ref b2), (.int 0), (.ref b)]) _ _ _
  refine zcopyB X3 hx hby d28_27 hZ hown (w130 hw) (w133 hw) (w131 hw) (w132 hw) e3 (sp := 0) (dp := 0) (nn := min (ys.length) (n)) A2_b A2_b2 (by first | omega | (simp only [List.length_replicate, List.length_append, List.length_take, List.length_drop, List.length_nil, List.length_cons]; omega)) (by first | omega | (simp only [List.length_replicate, List.length_append, List.length_take, List.length_drop, List.length_nil, List.length_cons]; omega)) (by first | omega | (simp only [List.length_replicate, List.length_append, List.length_take, List.length_drop, List.length_nil, List.length_cons]; omega)) (by first | omega | (simp only [List.length_replicate, List.length_append, List.length_take, List.length_drop, List.length_nil, List.length_cons]; omega)) N0 g2 hml 0 (fun T4 h4 L4 X4 e4 N4 K4q A4_b2 => ?_)
  have K4 := Keep.trans K2 K4q (allS (Or.inr z2) all0)
  have E4_b2 := E2_b2.keep K4q
  show zEnds p e below s T4 (mkF m 30 #[rv b, iv 0, iv (Int32.ofNat (n)), iv (Int32.ofNat (n)), rv b2] []) _ _ _
  refine zaload X4 hx hby d28_30 rfl rfl ?_
  show zEnds p e below s T4 (mkF m 32 #[rv b, iv 0, iv (Int32.ofNat (n)), iv (Int32.ofNat (n)), rv b2] [(.ref b2)]) _ _ _
  exact zretA X4 hx hby d28_32 hret hlk rfl rfl rfl (by first | decide | omega | (dsimp only; omega)) (by first | decide | omega | (dsimp only; omega)) (by rw [e4]; exact ⟨b2, rfl, N4, K4, z2, g2, E4_b2, by have q := A4_b2; rw [zcopy_range ys hn] at q; exact q⟩)
theorem c_cr (hw : HW a0 Z) (C : Ctx Z cs d1 d2 o1 o2) (O0 : zOd Z n0 h0) (b : Addr) (ys : List Int8) (n : Nat) (A_b : zBt Z h0 b ys) (hn : n ≤ ys.length) (hM : ys.length < 10000000) (E_b : Exa Z h0 b "[B") : zCon l Z (⟨"java/util/Arrays", "copyOfRange", "([BII)[B"⟩ : MethodName) jdk_65_method_132_code 3 (some (.array .byte)) [] ({ frames := 2, cells := 1, slots := n, locals := 45 } : Room) #[(.ref b), (.int 0), (.int (Int32.ofNat (n)))] h0 (fun v h L => ∃ b2 : Addr, v = some (.ref b2) ∧ Fr n0 L ∧ Keep h0 h [] ∧ h0.size ≤ b2 ∧ n0 ≤ b2 ∧ Exa Z h b2 "[B" ∧ zBt Z h b2 (ys.take n)) := by
  refine zenter (plainFor_of_name pn_4) (L0 := #[rv b, iv 0, iv (Int32.ofNat (n))]) (fun m => by first | rfl | simp [entryFrame, mkF, argsToLocals, Value.category]) ?_
  intro p e s m below meth c T0 hx hZ hby hml hown0 hnm hret hlk X0 e0
  have hown : s.vm.findClass "java/util/Arrays" = some m.cls := hown0
  have K0 := Keep.refl h0 []
  have N0 := Fr.nil n0
  show zEnds p e below s T0 (mkF m 0 #[rv b, iv 0, iv (Int32.ofNat (n))] []) _ _ _
  refine ziloadN X0 hx hby d29_0 rfl (zifNo X0 hx hby d29_1 (by decide) (ziloadN X0 hx hby d29_4 rfl (zaloadN X0 hx hby d29_5 rfl rfl (zalenB X0 hx hby d29_6 hZ e0 A_b (ys.length) rfl ?_))))
  show zEnds p e below s T0 (mkF m 7 #[rv b, iv 0, iv (Int32.ofNat (n))] [(.int (Int32.ofNat (ys.length))), (.int (Int32.ofNat (n)))]) _ _ _
  by_cases hk : n = ys.length
  · refine zicmpYes X0 hx hby d29_7 17 (teq (show (Int32.ofNat (n)) = (Int32.ofNat (ys.length)) from by rw [zofN_eq (by omega) (by omega)]; omega)).1 (by decide) (by decide) (zaloadN X0 hx hby d29_17 rfl rfl (zcloneB X0 hx hby d29_18 hZ hown (w282 hw) (w283 hw) (w287 hw) (w285 hw) (w286 hw) (w288 hw) e0 A_b E_b (by first | omega | (simp only [List.length_replicate, List.length_append, List.length_take, List.length_drop, List.length_nil, List.length_cons]; omega)) hml 0 (by first | decide | omega | (dsimp only; omega)) (by first | decide | omega | (dsimp only; omega)) (fun T1 h1 b1 X1 e1 y1 Ex1 E1_b1 A1_b1 => ?_)))
    have K1 := Keep.ext K0 Ex1
    have g1 : n0 ≤ b1 := by rw [y1]; exact zodsz O0
    have z1 : h0.size ≤ b1 := by rw [y1]; exact K0.1
    show zEnds p e below s T1 (mkF m 21 #[rv b, iv 0, iv (Int32.ofNat (n))] [(.ref b1)]) _ _ _
    refine zcastok X1 hx hby d29_21 hZ hown (w289 hw) e1 (Ins.of_exa E1_b1 (w290 hw)) fun T2 X2 e2 => ?_
    show zEnds p e below s T2 (mkF m 24 #[rv b, iv 0, iv (Int32.ofNat (n))] [(.ref b1)]) _ _ _
    exact zretA X2 hx hby d29_24 hret hlk rfl rfl rfl (by first | decide | omega | (dsimp only; omega)) (by first | decide | omega | (dsimp only; omega)) (by rw [e2]; exact ⟨b1, rfl, N0, K1, z1, g1, E1_b1, by have q := A1_b1; rw [hk, List.take_length]; exact q⟩)
  · refine zicmpNo X0 hx hby d29_7 (feq (show ¬ ((Int32.ofNat (n)) = (Int32.ofNat (ys.length))) from by rw [zofN_eq (by omega) (by omega)]; omega)).1 (zaloadN X0 hx hby d29_10 rfl rfl (ziloadN X0 hx hby d29_11 rfl (ziloadN X0 hx hby d29_12 rfl (zcalls X0 hx hby d29_13 hZ hown (w235 hw) (w236 hw) (w125 hw) (w237 hw) e0 (c_crb l hw  C O0 b (ys) (n) A_b (by first | omega | (simp only [List.length_replicate, List.length_append, List.length_take, List.length_drop, List.length_nil, List.length_cons]; omega)) (by first | omega | (simp only [List.length_replicate, List.length_append, List.length_take, List.length_drop, List.length_nil, List.length_cons]; omega))) hml 0 pd_18 (argsL := [(.ref b), (.int 0), (.int (Int32.ofNat (n)))]) (st := []) fun T3 h3 v3 L3 e3 X3 q3 => ?_))))
    obtain ⟨b3, rfl, N3q, K3q, y3, g3, E3_b3, A3_b3⟩ := q3
    have K3 := Keep.trans K0 K3q all0
    have N3 := Fr.app N0 N3q
    have z3 : h0.size ≤ b3 := Nat.le_trans K0.1 y3
    show zEnds p e below s T3 (mkF m 16 #[rv b, iv 0, iv (Int32.ofNat (n))] [(.ref b3)]) _ _ _
    exact zretA X3 hx hby d29_16 hret hlk rfl rfl rfl (by first | decide | omega | (dsimp only; omega)) (by first | decide | omega | (dsimp only; omega)) (by rw [e3]; exact ⟨b3, rfl, N3, K3, z3, g3, E3_b3, by have q := A3_b3; exact q⟩)
theorem w19 (hw : HW a0 Z) : (Cond.instantiable "java/lang/String" 4).before a0 Z = true := hwi hw 19 rfl
theorem w21 (hw : HW a0 Z) : (Cond.laysFinal "java/lang/String" "java/lang/String" "value" "[B").before a0 Z = true := hwi hw 21 rfl
theorem w22 (hw : HW a0 Z) : (Cond.laysFinal "java/lang/String" "java/lang/String" "coder" "B").before a0 Z = true := hwi hw 22 rfl
theorem w61 (hw : HW a0 Z) : (Cond.initialized "java/lang/StringBuilder").before a0 Z = true := hwi hw 61 rfl
theorem w209 (hw : HW a0 Z) : (Cond.classLink "java/lang/StringBuilder" 18 "java/lang/String").before a0 Z = true := hwi hw 209 rfl
theorem w210 (hw : HW a0 Z) : (Cond.methodLink "java/lang/StringBuilder" 137 ⟨"java/lang/String", "<init>", "(Ljava/lang/StringBuilder;)V"⟩).before a0 Z = true := hwi hw 210 rfl
theorem w211 (hw : HW a0 Z) : (Cond.instanceMethod ⟨"java/lang/String", "<init>", "(Ljava/lang/StringBuilder;)V"⟩).before a0 Z = true := hwi hw 211 rfl
theorem w213 (hw : HW a0 Z) : (Cond.code ⟨"java/lang/String", "<init>", "(Ljava/lang/StringBuilder;)V"⟩ jdk_42_method_53_code 2 (Option.none : Option Jvm.ClassFile.FieldType)).before a0 Z = true := hwi hw 213 rfl
theorem w214 (hw : HW a0 Z) : (Cond.methodLink "java/lang/String" 489 ⟨"java/lang/String", "<init>", "(Ljava/lang/AbstractStringBuilder;Ljava/lang/Void;)V"⟩).before a0 Z = true := hwi hw 214 rfl
theorem w215 (hw : HW a0 Z) : (Cond.instanceMethod ⟨"java/lang/String", "<init>", "(Ljava/lang/AbstractStringBuilder;Ljava/lang/Void;)V"⟩).before a0 Z = true := hwi hw 215 rfl
theorem w216 (hw : HW a0 Z) : (Cond.code ⟨"java/lang/String", "<init>", "(Ljava/lang/AbstractStringBuilder;Ljava/lang/Void;)V"⟩ jdk_42_method_150_code 5 (Option.none : Option Jvm.ClassFile.FieldType)).before a0 Z = true := hwi hw 216 rfl
theorem w217 (hw : HW a0 Z) : (Cond.methodLink "java/lang/String" 1 ⟨"java/lang/Object", "<init>", "()V"⟩).before a0 Z = true := hwi hw 217 rfl
theorem w218 (hw : HW a0 Z) : (Cond.methodLink "java/lang/String" 552 ⟨"java/lang/AbstractStringBuilder", "getValue", "()[B"⟩).before a0 Z = true := hwi hw 218 rfl
theorem w219 (hw : HW a0 Z) : (Cond.declares ⟨"java/lang/AbstractStringBuilder", "getValue", "()[B"⟩).before a0 Z = true := hwi hw 219 rfl
theorem w220 (hw : HW a0 Z) : (Cond.instanceMethod ⟨"java/lang/AbstractStringBuilder", "getValue", "()[B"⟩).before a0 Z = true := hwi hw 220 rfl
theorem w221 (hw : HW a0 Z) : (Cond.selects "java/lang/StringBuilder" ⟨"java/lang/AbstractStringBuilder", "getValue", "()[B"⟩ ⟨"java/lang/AbstractStringBuilder", "getValue", "()[B"⟩).before a0 Z = true := hwi hw 221 rfl
theorem w222 (hw : HW a0 Z) : (Cond.code ⟨"java/lang/AbstractStringBuilder", "getValue", "()[B"⟩ jdk_68_method_64_code 1 (Option.some (FieldType.array FieldType.byte))).before a0 Z = true := hwi hw 222 rfl
theorem w223 (hw : HW a0 Z) : (Cond.methodLink "java/lang/String" 549 ⟨"java/lang/AbstractStringBuilder", "length", "()I"⟩).before a0 Z = true := hwi hw 223 rfl
theorem w224 (hw : HW a0 Z) : (Cond.declares ⟨"java/lang/AbstractStringBuilder", "length", "()I"⟩).before a0 Z = true := hwi hw 224 rfl
theorem w226 (hw : HW a0 Z) : (Cond.selects "java/lang/StringBuilder" ⟨"java/lang/AbstractStringBuilder", "length", "()I"⟩ ⟨"java/lang/StringBuilder", "length", "()I"⟩).before a0 Z = true := hwi hw 226 rfl
theorem w227 (hw : HW a0 Z) : (Cond.instanceMethod ⟨"java/lang/StringBuilder", "length", "()I"⟩).before a0 Z = true := hwi hw 227 rfl
theorem w228 (hw : HW a0 Z) : (Cond.code ⟨"java/lang/StringBuilder", "length", "()I"⟩ jdk_67_method_93_code 1 (Option.some FieldType.int)).before a0 Z = true := hwi hw 228 rfl
theorem w231 (hw : HW a0 Z) : (Cond.methodLink "java/lang/String" 1047 ⟨"java/lang/AbstractStringBuilder", "isLatin1", "()Z"⟩).before a0 Z = true := hwi hw 231 rfl
theorem w232 (hw : HW a0 Z) : (Cond.methodLink "java/lang/String" 54 ⟨"java/util/Arrays", "copyOfRange", "([BII)[B"⟩).before a0 Z = true := hwi hw 232 rfl
theorem w233 (hw : HW a0 Z) : (Cond.static ⟨"java/util/Arrays", "copyOfRange", "([BII)[B"⟩).before a0 Z = true := hwi hw 233 rfl
theorem w234 (hw : HW a0 Z) : (Cond.code ⟨"java/util/Arrays", "copyOfRange", "([BII)[B"⟩ jdk_65_method_132_code 3 (Option.some (FieldType.array FieldType.byte))).before a0 Z = true := hwi hw 234 rfl
theorem d30_0 : decode jdk_42_method_150_code 0 = .ok (.aload_n 0, 1) := by decide +kernel
theorem d30_1 : decode jdk_42_method_150_code 1 = .ok (.invokespecial 1, 3) := by decide +kernel
theorem d30_4 : decode jdk_42_method_150_code 4 = .ok (.aload_n 1, 1) := by decide +kernel
theorem d30_5 : decode jdk_42_method_150_code 5 = .ok (.invokevirtual 552, 3) := by decide +kernel
theorem d30_8 : decode jdk_42_method_150_code 8 = .ok (.astore_n 3, 1) := by decide +kernel
theorem d30_9 : decode jdk_42_method_150_code 9 = .ok (.aload_n 1, 1) := by decide +kernel
theorem d30_10 : decode jdk_42_method_150_code 10 = .ok (.invokevirtual 549, 3) := by decide +kernel
theorem d30_13 : decode jdk_42_method_150_code 13 = .ok (.istore 4, 2) := by decide +kernel
theorem d30_15 : decode jdk_42_method_150_code 15 = .ok (.aload_n 1, 1) := by decide +kernel
theorem d30_16 : decode jdk_42_method_150_code 16 = .ok (.invokevirtual 1047, 3) := by decide +kernel
theorem d30_19 : decode jdk_42_method_150_code 19 = .ok (.ifCond .eq 22, 3) := by decide +kernel
theorem d30_22 : decode jdk_42_method_150_code 22 = .ok (.aload_n 0, 1) := by decide +kernel
theorem d30_23 : decode jdk_42_method_150_code 23 = .ok (.iconst 0, 1) := by decide +kernel
theorem d30_24 : decode jdk_42_method_150_code 24 = .ok (.putfield 15, 3) := by decide +kernel
theorem d30_27 : decode jdk_42_method_150_code 27 = .ok (.aload_n 0, 1) := by decide +kernel
theorem d30_28 : decode jdk_42_method_150_code 28 = .ok (.aload_n 3, 1) := by decide +kernel
theorem d30_29 : decode jdk_42_method_150_code 29 = .ok (.iconst 0, 1) := by decide +kernel
theorem d30_30 : decode jdk_42_method_150_code 30 = .ok (.iload 4, 2) := by decide +kernel
theorem d30_32 : decode jdk_42_method_150_code 32 = .ok (.invokestatic 54, 3) := by decide +kernel
theorem d30_35 : decode jdk_42_method_150_code 35 = .ok (.putfield 9, 3) := by decide +kernel
theorem d30_38 : decode jdk_42_method_150_code 38 = .ok (.goto 59, 3) := by decide +kernel
theorem d30_97 : decode jdk_42_method_150_code 97 = .ok (.return_, 1) := by decide +kernel
theorem d31_0 : decode jdk_42_method_53_code 0 = .ok (.aload_n 0, 1) := by decide +kernel
theorem d31_1 : decode jdk_42_method_53_code 1 = .ok (.aload_n 1, 1) := by decide +kernel
theorem d31_2 : decode jdk_42_method_53_code 2 = .ok (.aconst_null, 1) := by decide +kernel
theorem d31_3 : decode jdk_42_method_53_code 3 = .ok (.invokespecial 489, 3) := by decide +kernel
theorem d31_6 : decode jdk_42_method_53_code 6 = .ok (.return_, 1) := by decide +kernel
theorem d32_0 : decode jdk_67_method_42_code 0 = .ok (.new 18, 3) := by decide +kernel
theorem d32_3 : decode jdk_67_method_42_code 3 = .ok (.dup, 1) := by decide +kernel
theorem d32_4 : decode jdk_67_method_42_code 4 = .ok (.aload_n 0, 1) := by decide +kernel
theorem d32_5 : decode jdk_67_method_42_code 5 = .ok (.invokespecial 137, 3) := by decide +kernel
theorem d32_8 : decode jdk_67_method_42_code 8 = .ok (.areturn, 1) := by decide +kernel
theorem pd_19 : parseMethodDescriptor "()[B" = some ⟨[], some (.array .byte)⟩ := by decide +kernel
theorem pd_20 : parseMethodDescriptor "(Ljava/lang/AbstractStringBuilder;Ljava/lang/Void;)V" = some ⟨[(.object "java/lang/AbstractStringBuilder"), (.object "java/lang/Void")], none⟩ := by decide +kernel
theorem pd_21 : parseMethodDescriptor "(Ljava/lang/StringBuilder;)V" = some ⟨[(.object "java/lang/StringBuilder")], none⟩ := by decide +kernel
theorem c_str0 (hw : HW a0 Z) (C : Ctx Z cs d1 d2 o1 o2) (O0 : zOd Z n0 h0) (t : Addr) (E_t : Exa Z h0 t "java/lang/String") (F_t_v : Fld Z h0 t "java/lang/String" "value" "[B" .null) (F_t_c : Fld Z h0 t "java/lang/String" "coder" "B" (.int 0)) (g_t : n0 ≤ t) (a b : Addr) (bs : List Int8) (cap : Nat) (B0 : Sb Z h0 a b bs cap) (hC : cap < 400000) (ne_ta : t ≠ a) (ne_tb : t ≠ b) : zCon l Z (⟨"java/lang/String", "<init>", "(Ljava/lang/AbstractStringBuilder;Ljava/lang/Void;)V"⟩ : MethodName) jdk_42_method_150_code 5 none [] ({ frames := 3, cells := 1, slots := bs.length, locals := 60 } : Room) #[(.ref t), (.ref a), .null] h0 (fun v h L => v = none ∧ Fr n0 L ∧ Keep h0 h [t] ∧ ∃ x : Addr, Sx Z h t x bs ∧ n0 ≤ x ∧ h0.size ≤ x) := by
  refine zenter (plainFor_of_name pn_0) (L0 := #[rv t, rv a, .val .null, .unset, .unset]) (fun m => by first | rfl | simp [entryFrame, mkF, argsToLocals, Value.category]) ?_
  intro p e s m below meth c T0 hx hZ hby hml hown0 hnm hret hlk X0 e0
  have hown : s.vm.findClass "java/lang/String" = some m.cls := hown0
  have K0 := Keep.refl h0 [t]
  have N0 := Fr.nil n0
  obtain ⟨jk, ⟨E_a, F_a_v, F_a_c, F_a_n, A_b, E_b, ne_ab⟩, rfl⟩ := id B0
  have hbs : bs.length ≤ (bs ++ jk).length := by rw [List.length_append]; omega
  show zEnds p e below s T0 (mkF m 0 #[rv t, rv a, .val .null, .unset, .unset] []) _ _ _
  refine zaloadN X0 hx hby d30_0 rfl rfl (zobjinit X0 hx hby d30_1 hZ hown (w217 hw) (w15 hw) (w16 hw) e0 hml 0 (fun T1 X1 e1 => ?_))
  refine zaloadN X1 hx hby d30_4 rfl rfl (zcallv X1 hx hby d30_5 hZ hown (w218 hw) (w219 hw) (notFace_of_selects (args := #[]) (mvT hZ (w221 hw))) (w221 hw) (w220 hw) (w222 hw) (w69 hw) e1 E_a (c_value l hw  C O0 a b (bs.length) (bs ++ jk) ⟨E_a, F_a_v, F_a_c, F_a_n, A_b, E_b, ne_ab⟩) hml 0 pd_19 (argsL := []) (st := []) (zpureK ⟨rfl, rfl⟩ fun T2 X2 e2 => ?_))
  show zEnds p e below s T2 (mkF m 8 #[rv t, rv a, .val .null, .unset, .unset] [(.ref b)]) _ _ _
  refine zastoreN X2 hx hby d30_8 (hv := rfl) (L' := #[rv t, rv a, .val .null, rv b, .unset]) rfl (zaloadN X2 hx hby d30_9 rfl rfl (zcallv X2 hx hby d30_10 hZ hown (w223 hw) (w224 hw) (znf_warm (w225 hw) (nfASB hw (w225 hw) rfl) hZ) (w226 hw) (w227 hw) (w228 hw) (w61 hw) e2 E_a (c_blen l hw  C O0 a b (bs.length) (bs ++ jk) ⟨E_a, F_a_v, F_a_c, F_a_n, A_b, E_b, ne_ab⟩) hml 0 pd_1 (argsL := []) (st := []) (zpureK ⟨rfl, rfl⟩ fun T3 X3 e3 => ?_)))
  show zEnds p e below s T3 (mkF m 13 #[rv t, rv a, .val .null, rv b, .unset] [(.int (Int32.ofNat (bs.length)))]) _ _ _
  refine zistore X3 hx hby d30_13 (L' := #[rv t, rv a, .val .null, rv b, iv (Int32.ofNat (bs.length))]) rfl (zaloadN X3 hx hby d30_15 rfl rfl (zcallv X3 hx hby d30_16 hZ hown (w231 hw) (w165 hw) (notFace_of_selects (args := #[]) (mvT hZ (w167 hw))) (w167 hw) (w166 hw) (w168 hw) (w69 hw) e3 E_a (c_latin l hw  C O0 a b (bs.length) (bs ++ jk) ⟨E_a, F_a_v, F_a_c, F_a_n, A_b, E_b, ne_ab⟩) hml 0 pd_11 (argsL := []) (st := []) (zpureK ⟨rfl, rfl⟩ fun T4 X4 e4 => ?_)))
  show zEnds p e below s T4 (mkF m 19 #[rv t, rv a, .val .null, rv b, iv (Int32.ofNat (bs.length))] [(.int 1)]) _ _ _
  refine zifNo X4 hx hby d30_19 (by decide) (zaloadN X4 hx hby d30_22 rfl rfl (ziconst X4 hx hby d30_23 (z := (0 : Int32)) rfl (zputfld X4 hx hby d30_24 hZ hown (host := "") (Or.inl (w100 hw)) Via.refl e4 F_t_c E_t (Or.inr ⟨(w22 hw), rfl, hnm⟩) (w19 hw) (ty := .byte) (by decide) rfl rfl fun T5 h5 X5 e5 W5 => ?_)))
  have F5_t_coder : Fld Z h5 t "java/lang/String" "coder" "B" (.int 0) := F_t_c.same W5
  have F5_t_value := F_t_v.other W5 (Or.inr (slot_ne (Or.inr (w21 hw)) (Or.inr (w22 hw)) (by decide) (t := (.array .byte)) (t' := .byte) (by decide) (by decide)))
  have E5_t := E_t.wr W5
  have E5_b := E_b.wr W5
  have A5_b := A_b.other W5 (Ne.symm ne_tb)
  have O5 := O0.wr W5 g_t
  have K5 := Keep.wr K0 W5 (Or.inl (List.mem_of_getElem? (i := 0) rfl))
  have N5 := Fr.snoc X5 N0 g_t
  refine zaloadN X5 hx hby d30_27 rfl rfl (zaloadN X5 hx hby d30_28 rfl rfl (ziconst X5 hx hby d30_29 (z := (0 : Int32)) rfl (ziload X5 hx hby d30_30 rfl (zcalls X5 hx hby d30_32 hZ hown (w232 hw) (w233 hw) (w125 hw) (w234 hw) e5 (c_cr l hw  C O5 b (bs ++ jk) (bs.length) A5_b (by first | omega | (simp only [List.length_replicate, List.length_append, List.length_take, List.length_drop, List.length_nil, List.length_cons]; omega)) (by first | omega | (simp only [List.length_replicate, List.length_append, List.length_take, List.length_drop, List.length_nil, List.length_cons]; omega)) E5_b) hml 1 pd_18 (argsL := [(.ref b), (.int 0), (.int (Int32.ofNat (bs.length)))]) (st := [(.ref t)]) fun T6 h6 v6 L6 e6 X6 q6 => ?_))))
  obtain ⟨b6, rfl, N6q, K6q, y6, g6, E6_b6, A6_b6⟩ := q6
  have F6_t_value := F5_t_value.keep K6q nin0
  have F6_t_coder := F5_t_coder.keep K6q nin0
  have E6_t := E5_t.keep K6q
  have K6 := Keep.trans K5 K6q all0
  have N6 := Fr.app N5 N6q
  have z6 : h0.size ≤ b6 := Nat.le_trans K5.1 y6
  have ne6_t : t ≠ b6 := Nat.ne_of_lt (Nat.lt_of_lt_of_le E5_t.lt y6)
  show zEnds p e below s T6 (mkF m 35 #[rv t, rv a, .val .null, rv b, iv (Int32.ofNat (bs.length))] [(.ref b6), (.ref t)]) _ _ _
  refine zputfld X6 hx hby d30_35 hZ hown (host := "") (Or.inl (w93 hw)) Via.refl e6 F6_t_value E6_t (Or.inr ⟨(w21 hw), rfl, hnm⟩) (w19 hw) (ty := (.array .byte)) (by decide) rfl rfl fun T7 h7 X7 e7 W7 => ?_
  have F7_t_value : Fld Z h7 t "java/lang/String" "value" "[B" (.ref b6) := F6_t_value.same W7
  have F7_t_coder := F6_t_coder.other W7 (Or.inr (slot_ne (Or.inr (w22 hw)) (Or.inr (w21 hw)) (by decide) (t := .byte) (t' := (.array .byte)) (by decide) (by decide)))
  have E7_t := E6_t.wr W7
  have A7_b6 := A6_b6.other W7 (Ne.symm ne6_t)
  have K7 := Keep.wr K6 W7 (Or.inl (List.mem_of_getElem? (i := 0) rfl))
  have N7 := Fr.snoc X7 N6 g_t
  refine zgoto X7 hx hby d30_38 97 (by decide) (by decide) ?_
  show zEnds p e below s T7 (mkF m 97 #[rv t, rv a, .val .null, rv b, iv (Int32.ofNat (bs.length))] []) _ _ _
  exact zretV X7 hx hby d30_97 hret hlk (by first | decide | omega | (dsimp only; omega)) (by first | decide | omega | (dsimp only; omega)) (by rw [e7]; exact ⟨rfl, N7, K7, b6, ⟨E7_t, F7_t_value, F7_t_coder, by have q := A7_b6; rw [List.take_left] at q; exact q⟩, g6, z6⟩)
theorem c_str1 (hw : HW a0 Z) (C : Ctx Z cs d1 d2 o1 o2) (O0 : zOd Z n0 h0) (t : Addr) (E_t : Exa Z h0 t "java/lang/String") (F_t_v : Fld Z h0 t "java/lang/String" "value" "[B" .null) (F_t_c : Fld Z h0 t "java/lang/String" "coder" "B" (.int 0)) (g_t : n0 ≤ t) (a b : Addr) (bs : List Int8) (cap : Nat) (B0 : Sb Z h0 a b bs cap) (hC : cap < 400000) (ne_ta : t ≠ a) (ne_tb : t ≠ b) : zCon l Z (⟨"java/lang/String", "<init>", "(Ljava/lang/StringBuilder;)V"⟩ : MethodName) jdk_42_method_53_code 2 none [] ({ frames := 4, cells := 1, slots := bs.length, locals := 76 } : Room) #[(.ref t), (.ref a)] h0 (fun v h L => v = none ∧ Fr n0 L ∧ Keep h0 h [t] ∧ ∃ x : Addr, Sx Z h t x bs ∧ n0 ≤ x ∧ h0.size ≤ x) := by
  refine zenter (plainFor_of_name pn_0) (L0 := #[rv t, rv a]) (fun m => by first | rfl | simp [entryFrame, mkF, argsToLocals, Value.category]) ?_
  intro p e s m below meth c T0 hx hZ hby hml hown0 hnm hret hlk X0 e0
  have hown : s.vm.findClass "java/lang/String" = some m.cls := hown0
  have K0 := Keep.refl h0 [t]
  have N0 := Fr.nil n0
  show zEnds p e below s T0 (mkF m 0 #[rv t, rv a] []) _ _ _
  refine zaloadN X0 hx hby d31_0 rfl rfl (zaloadN X0 hx hby d31_1 rfl rfl (zaconstNull X0 hx hby d31_2 (zcallsp X0 hx hby d31_3 hZ hown rfl (w214 hw) (w215 hw) (w216 hw) (w18 hw) e0 (c_str0 l hw  C O0 t E_t F_t_v F_t_c g_t a b (bs) cap B0 (by first | omega | (simp only [List.length_replicate, List.length_append, List.length_take, List.length_drop, List.length_nil, List.length_cons]; omega)) ne_ta ne_tb) hml 0 pd_20 (argsL := [(.ref a), .null]) (st := []) fun T1 h1 v1 L1 e1 X1 q1 => ?_)))
  obtain ⟨rfl, N1q, K1q, x1, B1_t, g1_x, y1⟩ := q1
  have K1 := Keep.trans K0 K1q (allS (Or.inl (List.mem_of_getElem? (i := 0) rfl)) all0)
  have N1 := Fr.app N0 N1q
  show zEnds p e below s T1 (mkF m 6 #[rv t, rv a] []) _ _ _
  exact zretV X1 hx hby d31_6 hret hlk (by first | decide | omega | (dsimp only; omega)) (by first | decide | omega | (dsimp only; omega)) (by rw [e1]; exact ⟨rfl, N1, K1, x1, B1_t, g1_x, y1⟩)
theorem Sb.ext {Z : State} {h h' : Heap} {a b : Addr} {bs : List Int8} {cap : Nat} (B : Sb Z h a b bs cap) (E : Ext h h') : Sb Z h' a b bs cap := by obtain ⟨jk, ⟨q1, q2, q3, q4, q5, q6, q7⟩, q8⟩ := B; exact ⟨jk, ⟨q1.ext E, q2.ext E, q3.ext E, q4.ext E, q5.ext E, q6.ext E, q7⟩, q8⟩
theorem Sb.lt {Z : State} {h : Heap} {a b : Addr} {bs : List Int8} {cap : Nat} (B : Sb Z h a b bs cap) : b < h.size := by obtain ⟨jk, ⟨q1, q2, q3, q4, q5, q6, q7⟩, q8⟩ := B; exact q5.lt
theorem c_tos (hw : HW a0 Z) (C : Ctx Z cs d1 d2 o1 o2) (O0 : zOd Z n0 h0) (a b : Addr) (bs : List Int8) (cap : Nat) (B0 : Sb Z h0 a b bs cap) (hC : cap < 400000) : zCon l Z (⟨"java/lang/StringBuilder", "toString", "()Ljava/lang/String;"⟩ : MethodName) jdk_67_method_42_code 1 (some (.object "java/lang/String")) [] ({ frames := 5, cells := 2, slots := bs.length + 4, locals := 90 } : Room) #[(.ref a)] h0 (fun v h L => ∃ t x : Addr, v = some (.ref t) ∧ Fr n0 L ∧ Keep h0 h [] ∧ Sx Z h t x bs ∧ n0 ≤ t ∧ n0 ≤ x ∧ h0.size ≤ t ∧ h0.size ≤ x) := by
  refine zenter (plainFor_of_name pn_2) (L0 := #[rv a]) (fun m => by first | rfl | simp [entryFrame, mkF, argsToLocals, Value.category]) ?_
  intro p e s m below meth c T0 hx hZ hby hml hown0 hnm hret hlk X0 e0
  have hown : s.vm.findClass "java/lang/StringBuilder" = some m.cls := hown0
  have K0 := Keep.refl h0 []
  have N0 := Fr.nil n0
  show zEnds p e below s T0 (mkF m 0 #[rv a] []) _ _ _
  refine znewobj X0 hx hby d32_0 hZ hown (w209 hw) (w19 hw) (w18 hw) e0 (by first | decide | omega | (dsimp only; omega)) (by first | decide | omega | (dsimp only; omega)) fun T1 h1 b1 X1 e1 y1 Ex1 E1_b1 D1 => ?_
  have O1 := O0.ext Ex1
  have K1 := Keep.ext K0 Ex1
  have ne1_a : a ≠ b1 := Nat.ne_of_lt (Nat.lt_of_lt_of_eq (Sb.exa B0).lt y1.symm)
  have g1 : n0 ≤ b1 := by rw [y1]; exact zodsz O0
  have z1 : h0.size ≤ b1 := by rw [y1]; exact K0.1
  have F1_b1_value : Fld Z h1 b1 "java/lang/String" "value" "[B" .null := D1 (Or.inr (w21 hw)) (ty := (.array .byte)) (by decide)
  have F1_b1_coder : Fld Z h1 b1 "java/lang/String" "coder" "B" (.int 0) := D1 (Or.inr (w22 hw)) (ty := .byte) (by decide)
  show zEnds p e below s T1 (mkF m 3 #[rv a] [(.ref b1)]) _ _ _
  have ne_tb : b1 ≠ b := Nat.ne_of_gt (Nat.lt_of_lt_of_eq B0.lt y1.symm)
  refine zdup X1 hx hby d32_3 rfl (zaloadN X1 hx hby d32_4 rfl rfl (zcallsp X1 hx hby d32_5 hZ hown rfl (w210 hw) (w211 hw) (w213 hw) (w18 hw) e1 (c_str1 l hw  C O1 b1 E1_b1 F1_b1_value F1_b1_coder g1 a b (bs) cap (B0.ext Ex1) (by first | omega | (simp only [List.length_replicate, List.length_append, List.length_take, List.length_drop, List.length_nil, List.length_cons]; omega)) (Ne.symm ne1_a) ne_tb) hml 1 pd_21 (argsL := [(.ref a)]) (st := [(.ref b1)]) fun T2 h2 v2 L2 e2 X2 q2 => ?_))
  obtain ⟨rfl, N2q, K2q, x2, B2_t, g2_x, y2⟩ := q2
  have K2 := Keep.trans K1 K2q (allS (Or.inr z1) all0)
  have N2 := Fr.app N0 N2q
  show zEnds p e below s T2 (mkF m 8 #[rv a] [(.ref b1)]) _ _ _
  exact zretA X2 hx hby d32_8 hret hlk rfl rfl rfl (by first | decide | omega | (dsimp only; omega)) (by first | decide | omega | (dsimp only; omega)) (by rw [e2]; exact ⟨b1, x2, rfl, N2, K2, B2_t, g1, g2_x, z1, Nat.le_trans K1.1 y2⟩)
theorem w212 (hw : HW a0 Z) : (Cond.castable "java/lang/String" "java/lang/String").before a0 Z = true := hwi hw 212 rfl
theorem w268 (hw : HW a0 Z) : (Cond.classLink "java/lang/String" 10 "java/lang/String").before a0 Z = true := hwi hw 268 rfl
theorem w269 (hw : HW a0 Z) : (Cond.methodLink "java/lang/String" 541 ⟨"java/lang/StringLatin1", "equals", "([B[B)Z"⟩).before a0 Z = true := hwi hw 269 rfl
theorem w270 (hw : HW a0 Z) : (Cond.static ⟨"java/lang/StringLatin1", "equals", "([B[B)Z"⟩).before a0 Z = true := hwi hw 270 rfl
theorem w271 (hw : HW a0 Z) : (Cond.initialized "java/lang/StringLatin1").before a0 Z = true := hwi hw 271 rfl
theorem w272 (hw : HW a0 Z) : (Cond.code ⟨"java/lang/StringLatin1", "equals", "([B[B)Z"⟩ jdk_43_method_13_code 3 (Option.some FieldType.boolean)).before a0 Z = true := hwi hw 272 rfl
theorem d34_0 : decode jdk_42_method_66_code 0 = .ok (.aload_n 0, 1) := by decide +kernel
theorem d34_1 : decode jdk_42_method_66_code 1 = .ok (.aload_n 1, 1) := by decide +kernel
theorem d34_2 : decode jdk_42_method_66_code 2 = .ok (.if_acmp .ne 5, 3) := by decide +kernel
theorem d34_7 : decode jdk_42_method_66_code 7 = .ok (.aload_n 1, 1) := by decide +kernel
theorem d34_8 : decode jdk_42_method_66_code 8 = .ok (.instanceof 10, 3) := by decide +kernel
theorem d34_11 : decode jdk_42_method_66_code 11 = .ok (.ifCond .eq 43, 3) := by decide +kernel
theorem d34_14 : decode jdk_42_method_66_code 14 = .ok (.aload_n 1, 1) := by decide +kernel
theorem d34_15 : decode jdk_42_method_66_code 15 = .ok (.checkcast 10, 3) := by decide +kernel
theorem d34_18 : decode jdk_42_method_66_code 18 = .ok (.astore_n 2, 1) := by decide +kernel
theorem d34_19 : decode jdk_42_method_66_code 19 = .ok (.getstatic 38, 3) := by decide +kernel
theorem d34_22 : decode jdk_42_method_66_code 22 = .ok (.ifCond .eq 14, 3) := by decide +kernel
theorem d34_25 : decode jdk_42_method_66_code 25 = .ok (.aload_n 0, 1) := by decide +kernel
theorem d34_26 : decode jdk_42_method_66_code 26 = .ok (.getfield 15, 3) := by decide +kernel
theorem d34_29 : decode jdk_42_method_66_code 29 = .ok (.aload_n 2, 1) := by decide +kernel
theorem d34_30 : decode jdk_42_method_66_code 30 = .ok (.getfield 15, 3) := by decide +kernel
theorem d34_33 : decode jdk_42_method_66_code 33 = .ok (.if_icmp .ne 21, 3) := by decide +kernel
theorem d34_36 : decode jdk_42_method_66_code 36 = .ok (.aload_n 0, 1) := by decide +kernel
theorem d34_37 : decode jdk_42_method_66_code 37 = .ok (.getfield 9, 3) := by decide +kernel
theorem d34_40 : decode jdk_42_method_66_code 40 = .ok (.aload_n 2, 1) := by decide +kernel
theorem d34_41 : decode jdk_42_method_66_code 41 = .ok (.getfield 9, 3) := by decide +kernel
theorem d34_44 : decode jdk_42_method_66_code 44 = .ok (.invokestatic 541, 3) := by decide +kernel
theorem d34_47 : decode jdk_42_method_66_code 47 = .ok (.ifCond .eq 7, 3) := by decide +kernel
theorem d34_50 : decode jdk_42_method_66_code 50 = .ok (.iconst 1, 1) := by decide +kernel
theorem d34_51 : decode jdk_42_method_66_code 51 = .ok (.goto 4, 3) := by decide +kernel
theorem d34_54 : decode jdk_42_method_66_code 54 = .ok (.iconst 0, 1) := by decide +kernel
theorem d34_55 : decode jdk_42_method_66_code 55 = .ok (.ireturn, 1) := by decide +kernel
theorem d33_0 : decode jdk_43_method_13_code 0 = .ok (.aload_n 0, 1) := by decide +kernel
theorem d33_1 : decode jdk_43_method_13_code 1 = .ok (.arraylength, 1) := by decide +kernel
theorem d33_2 : decode jdk_43_method_13_code 2 = .ok (.aload_n 1, 1) := by decide +kernel
theorem d33_3 : decode jdk_43_method_13_code 3 = .ok (.arraylength, 1) := by decide +kernel
theorem d33_4 : decode jdk_43_method_13_code 4 = .ok (.if_icmp .ne 30, 3) := by decide +kernel
theorem d33_7 : decode jdk_43_method_13_code 7 = .ok (.iconst 0, 1) := by decide +kernel
theorem d33_8 : decode jdk_43_method_13_code 8 = .ok (.istore_n 2, 1) := by decide +kernel
theorem d33_9 : decode jdk_43_method_13_code 9 = .ok (.iload_n 2, 1) := by decide +kernel
theorem d33_10 : decode jdk_43_method_13_code 10 = .ok (.aload_n 0, 1) := by decide +kernel
theorem d33_11 : decode jdk_43_method_13_code 11 = .ok (.arraylength, 1) := by decide +kernel
theorem d33_12 : decode jdk_43_method_13_code 12 = .ok (.if_icmp .ge 20, 3) := by decide +kernel
theorem d33_15 : decode jdk_43_method_13_code 15 = .ok (.aload_n 0, 1) := by decide +kernel
theorem d33_16 : decode jdk_43_method_13_code 16 = .ok (.iload_n 2, 1) := by decide +kernel
theorem d33_17 : decode jdk_43_method_13_code 17 = .ok (.baload, 1) := by decide +kernel
theorem d33_18 : decode jdk_43_method_13_code 18 = .ok (.aload_n 1, 1) := by decide +kernel
theorem d33_19 : decode jdk_43_method_13_code 19 = .ok (.iload_n 2, 1) := by decide +kernel
theorem d33_20 : decode jdk_43_method_13_code 20 = .ok (.baload, 1) := by decide +kernel
theorem d33_21 : decode jdk_43_method_13_code 21 = .ok (.if_icmp .eq 5, 3) := by decide +kernel
theorem d33_24 : decode jdk_43_method_13_code 24 = .ok (.iconst 0, 1) := by decide +kernel
theorem d33_25 : decode jdk_43_method_13_code 25 = .ok (.ireturn, 1) := by decide +kernel
theorem d33_26 : decode jdk_43_method_13_code 26 = .ok (.iinc 2 1, 3) := by decide +kernel
theorem d33_29 : decode jdk_43_method_13_code 29 = .ok (.goto (-20), 3) := by decide +kernel
theorem d33_32 : decode jdk_43_method_13_code 32 = .ok (.iconst 1, 1) := by decide +kernel
theorem d33_33 : decode jdk_43_method_13_code 33 = .ok (.ireturn, 1) := by decide +kernel
theorem d33_34 : decode jdk_43_method_13_code 34 = .ok (.iconst 0, 1) := by decide +kernel
theorem d33_35 : decode jdk_43_method_13_code 35 = .ok (.ireturn, 1) := by decide +kernel
theorem pd_22 : parseMethodDescriptor "([B[B)Z" = some ⟨[(.array .byte), (.array .byte)], some .boolean⟩ := by decide +kernel
theorem pn_7 : plainName "java/lang/StringLatin1" = true := by first | (simp [plainName, overriddenIn]; done) | decide +kernel
theorem eq_loop {p : Program} {l : Launch} {e : Env} {R : Room} {s : State} {m : MethodId} {args : Array Value} {below : List Frame} {meth : Method} {c : Code} {Z T0 : State} {a0 : Array Value} {h0 : Heap} {cs_ ss_ : Nat} {x z : Addr} {xs zs : List Int8}
    (hx : p.tables.exec = Jvm.exec) (hZ : Z.Warmed39 s.vm) (hw : HW a0 Z) (hby : c.code = jdk_43_method_13_code) (hml : c.maxLocals = 3) (hown : s.vm.findClass "java/lang/StringLatin1" = some m.cls) (hret : meth.sig.returnType = (some .boolean)) (hlk : meth.locks = false) (A_x : zBt Z h0 x xs) (A_z : zBt Z h0 z zs) (hl : xs.length = zs.length) (hM : xs.length < 10000000) (X0 : Stand p l e R s m args below meth c T0 [] 0 0) (e0 : T0.heap = h0) :
    ∀ (k i : Nat), xs.length - i = k → i ≤ xs.length → xs.take i = zs.take i → zEnds p e below s T0 (mkF m 9 #[rv x, rv z, iv (Int32.ofNat (i))] []) cs_ ss_ (zSame (some (.int (if xs = zs then 1 else 0))) h0) := by
  intro k
  induction k with
  | zero =>
    intro i hk hi ht
    have ih : ∀ j, False → j ≤ xs.length → xs.take j = zs.take j → zEnds p e below s T0 (mkF m 9 #[rv x, rv z, iv (Int32.ofNat (j))] []) cs_ ss_ (zSame (some (.int (if xs = zs then 1 else 0))) h0) := fun _ q => q.elim
    show zEnds p e below s T0 (mkF m 9 #[rv x, rv z, iv (Int32.ofNat (i))] []) _ _ _
    refine ziloadN X0 hx hby d33_9 rfl (zaloadN X0 hx hby d33_10 rfl rfl (zalenB X0 hx hby d33_11 hZ e0 A_x (xs.length) rfl ?_))
    show zEnds p e below s T0 (mkF m 12 #[rv x, rv z, iv (Int32.ofNat (i))] [(.int (Int32.ofNat (xs.length))), (.int (Int32.ofNat (i)))]) _ _ _
    by_cases hlt : i < xs.length
    · obtain ⟨u, hu⟩ : ∃ u, xs[i]? = some u := ⟨_, List.getElem?_eq_getElem hlt⟩
      obtain ⟨v, hv⟩ : ∃ v, zs[i]? = some v := ⟨_, List.getElem?_eq_getElem (by omega)⟩
      refine zicmpNo X0 hx hby d33_12 (tlt (show (Int32.ofNat (i)) < (Int32.ofNat (xs.length)) from by rw [zofN_lt (by omega) (by omega)]; omega)).2.1 (zaloadN X0 hx hby d33_15 rfl rfl (ziloadN X0 hx hby d33_16 rfl (zbaloadB X0 hx hby d33_17 hZ e0 A_x (i := i) (by omega) (b := u) hu (zaloadN X0 hx hby d33_18 rfl rfl (ziloadN X0 hx hby d33_19 rfl (zbaloadB X0 hx hby d33_20 hZ e0 A_z (i := i) (by omega) (b := v) hv ?_))))))
      show zEnds p e below s T0 (mkF m 21 #[rv x, rv z, iv (Int32.ofNat (i))] [(.int (v.toInt32)), (.int (u.toInt32))]) _ _ _
      by_cases hne : u = v
      · refine zicmpYes X0 hx hby d33_21 26 (teq (congrArg Int8.toInt32 hne)).1 (by decide) (by decide) (ziinc X0 hx hby d33_26 (L' := #[rv x, rv z, iv (Int32.ofNat (i + 1))]) rfl (by rw [inc1]; rfl) (zgoto X0 hx hby d33_29 9 (by decide) (by decide) ?_))
        show zEnds p e below s T0 (mkF m 9 #[rv x, rv z, iv (Int32.ofNat (i + 1))] []) _ _ _
        exact ih (i + 1) (by omega) (by omega) (take_next ht hu (hne ▸ hv))
      · refine zicmpNo X0 hx hby d33_21 (feq (fun q => hne (i8_inj q))).1 (ziconst X0 hx hby d33_24 (z := (0 : Int32)) rfl ?_)
        show zEnds p e below s T0 (mkF m 25 #[rv x, rv z, iv (Int32.ofNat (i))] [(.int 0)]) _ _ _
        exact zretZ X0 hx hby d33_25 hret hlk (by simp) rfl (by first | decide | omega | (dsimp only; omega)) (by first | decide | omega | (dsimp only; omega)) (⟨by rw [if_neg (fun q => hne (Option.some.inj (hu.symm.trans ((congrArg (fun t => t[i]?) q).trans hv))))], e0, rfl⟩)
    · refine zicmpYes X0 hx hby d33_12 32 (flt (show ¬ ((Int32.ofNat (i)) < (Int32.ofNat (xs.length))) from by rw [zofN_lt (by omega) (by omega)]; omega)).2.1 (by decide) (by decide) (ziconst X0 hx hby d33_32 (z := (1 : Int32)) rfl ?_)
      show zEnds p e below s T0 (mkF m 33 #[rv x, rv z, iv (Int32.ofNat (i))] [(.int 1)]) _ _ _
      exact zretZ X0 hx hby d33_33 hret hlk (by simp) rfl (by first | decide | omega | (dsimp only; omega)) (by first | decide | omega | (dsimp only; omega)) (⟨by rw [if_pos (take_all ht hlt hl)], e0, rfl⟩)
  | succ k ih =>
    intro i hk hi ht
    show zEnds p e below s T0 (mkF m 9 #[rv x, rv z, iv (Int32.ofNat (i))] []) _ _ _
    refine ziloadN X0 hx hby d33_9 rfl (zaloadN X0 hx hby d33_10 rfl rfl (zalenB X0 hx hby d33_11 hZ e0 A_x (xs.length) rfl ?_))
    show zEnds p e below s T0 (mkF m 12 #[rv x, rv z, iv (Int32.ofNat (i))] [(.int (Int32.ofNat (xs.length))), (.int (Int32.ofNat (i)))]) _ _ _
    by_cases hlt : i < xs.length
    · obtain ⟨u, hu⟩ : ∃ u, xs[i]? = some u := ⟨_, List.getElem?_eq_getElem hlt⟩
      obtain ⟨v, hv⟩ : ∃ v, zs[i]? = some v := ⟨_, List.getElem?_eq_getElem (by omega)⟩
      refine zicmpNo X0 hx hby d33_12 (tlt (show (Int32.ofNat (i)) < (Int32.ofNat (xs.length)) from by rw [zofN_lt (by omega) (by omega)]; omega)).2.1 (zaloadN X0 hx hby d33_15 rfl rfl (ziloadN X0 hx hby d33_16 rfl (zbaloadB X0 hx hby d33_17 hZ e0 A_x (i := i) (by omega) (b := u) hu (zaloadN X0 hx hby d33_18 rfl rfl (ziloadN X0 hx hby d33_19 rfl (zbaloadB X0 hx hby d33_20 hZ e0 A_z (i := i) (by omega) (b := v) hv ?_))))))
      show zEnds p e below s T0 (mkF m 21 #[rv x, rv z, iv (Int32.ofNat (i))] [(.int (v.toInt32)), (.int (u.toInt32))]) _ _ _
      by_cases hne : u = v
      · refine zicmpYes X0 hx hby d33_21 26 (teq (congrArg Int8.toInt32 hne)).1 (by decide) (by decide) (ziinc X0 hx hby d33_26 (L' := #[rv x, rv z, iv (Int32.ofNat (i + 1))]) rfl (by rw [inc1]; rfl) (zgoto X0 hx hby d33_29 9 (by decide) (by decide) ?_))
        show zEnds p e below s T0 (mkF m 9 #[rv x, rv z, iv (Int32.ofNat (i + 1))] []) _ _ _
        exact ih (i + 1) (by omega) (by omega) (take_next ht hu (hne ▸ hv))
      · refine zicmpNo X0 hx hby d33_21 (feq (fun q => hne (i8_inj q))).1 (ziconst X0 hx hby d33_24 (z := (0 : Int32)) rfl ?_)
        show zEnds p e below s T0 (mkF m 25 #[rv x, rv z, iv (Int32.ofNat (i))] [(.int 0)]) _ _ _
        exact zretZ X0 hx hby d33_25 hret hlk (by simp) rfl (by first | decide | omega | (dsimp only; omega)) (by first | decide | omega | (dsimp only; omega)) (⟨by rw [if_neg (fun q => hne (Option.some.inj (hu.symm.trans ((congrArg (fun t => t[i]?) q).trans hv))))], e0, rfl⟩)
    · refine zicmpYes X0 hx hby d33_12 32 (flt (show ¬ ((Int32.ofNat (i)) < (Int32.ofNat (xs.length))) from by rw [zofN_lt (by omega) (by omega)]; omega)).2.1 (by decide) (by decide) (ziconst X0 hx hby d33_32 (z := (1 : Int32)) rfl ?_)
      show zEnds p e below s T0 (mkF m 33 #[rv x, rv z, iv (Int32.ofNat (i))] [(.int 1)]) _ _ _
      exact zretZ X0 hx hby d33_33 hret hlk (by simp) rfl (by first | decide | omega | (dsimp only; omega)) (by first | decide | omega | (dsimp only; omega)) (⟨by rw [if_pos (take_all ht hlt hl)], e0, rfl⟩)
theorem c_lateq (hw : HW a0 Z) (C : Ctx Z cs d1 d2 o1 o2) (O0 : zOd Z n0 h0) (x z : Addr) (xs zs : List Int8) (A_x : zBt Z h0 x xs) (A_z : zBt Z h0 z zs) (hM : xs.length < 10000000) (hM2 : zs.length < 10000000) : zCon l Z (⟨"java/lang/StringLatin1", "equals", "([B[B)Z"⟩ : MethodName) jdk_43_method_13_code 3 (some .boolean) [] ({ frames := 0, cells := 0, slots := 0, locals := 0 } : Room) #[(.ref x), (.ref z)] h0 (zSame (some (.int (if xs = zs then 1 else 0))) h0) := by
  refine zenter (plainFor_of_name pn_7) (L0 := #[rv x, rv z, .unset]) (fun m => by first | rfl | simp [entryFrame, mkF, argsToLocals, Value.category]) ?_
  intro p e s m below meth c T0 hx hZ hby hml hown0 hnm hret hlk X0 e0
  have hown : s.vm.findClass "java/lang/StringLatin1" = some m.cls := hown0
  show zEnds p e below s T0 (mkF m 0 #[rv x, rv z, .unset] []) _ _ _
  refine zaloadN X0 hx hby d33_0 rfl rfl (zalenB X0 hx hby d33_1 hZ e0 A_x (xs.length) rfl (zaloadN X0 hx hby d33_2 rfl rfl (zalenB X0 hx hby d33_3 hZ e0 A_z (zs.length) rfl ?_)))
  show zEnds p e below s T0 (mkF m 4 #[rv x, rv z, .unset] [(.int (Int32.ofNat (zs.length))), (.int (Int32.ofNat (xs.length)))]) _ _ _
  by_cases hl : xs.length = zs.length
  · refine zicmpNo X0 hx hby d33_4 (teq (show (Int32.ofNat (xs.length)) = (Int32.ofNat (zs.length)) from by rw [zofN_eq (by omega) (by omega)]; omega)).2 (ziconst X0 hx hby d33_7 (z := (0 : Int32)) rfl (zistoreN X0 hx hby d33_8 (L' := #[rv x, rv z, iv 0]) rfl ?_))
    show zEnds p e below s T0 (mkF m 9 #[rv x, rv z, iv 0] []) _ _ _
    exact eq_loop hx hZ hw hby hml hown hret hlk A_x A_z hl hM X0 e0 _ 0 rfl (Nat.zero_le _) rfl
  · refine zicmpYes X0 hx hby d33_4 34 (feq (show ¬ ((Int32.ofNat (xs.length)) = (Int32.ofNat (zs.length))) from by rw [zofN_eq (by omega) (by omega)]; omega)).2 (by decide) (by decide) (ziconst X0 hx hby d33_34 (z := (0 : Int32)) rfl ?_)
    show zEnds p e below s T0 (mkF m 35 #[rv x, rv z, .unset] [(.int 0)]) _ _ _
    exact zretZ X0 hx hby d33_35 hret hlk (by simp) rfl (by first | decide | omega | (dsimp only; omega)) (by first | decide | omega | (dsimp only; omega)) (⟨by rw [if_neg (fun q => hl (congrArg List.length q))], e0, rfl⟩)
theorem c_eq (hw : HW a0 Z) (C : Ctx Z cs d1 d2 o1 o2) (O0 : zOd Z n0 h0) (r x : Addr) (xs : List Int8) (B1 : Sx Z h0 r x xs) (r2 z : Addr) (zs : List Int8) (B2 : Sx Z h0 r2 z zs) (ne_r : r ≠ r2) (hM : xs.length < 10000000) (hM2 : zs.length < 10000000) : zCon l Z (⟨"java/lang/String", "equals", "(Ljava/lang/Object;)Z"⟩ : MethodName) jdk_42_method_66_code 3 (some .boolean) [] ({ frames := 1, cells := 0, slots := 0, locals := 14 } : Room) #[(.ref r), (.ref r2)] h0 (zSame (some (.int (if xs = zs then 1 else 0))) h0) := by
  obtain ⟨S_cs, hcs, S_d1, B_d1, H_d1, S_d2, B_d2, H_d2⟩ := id C
  refine zenter (plainFor_of_name pn_0) (L0 := #[rv r, rv r2, .unset]) (fun m => by first | rfl | simp [entryFrame, mkF, argsToLocals, Value.category]) ?_
  intro p e s m below meth c T0 hx hZ hby hml hown0 hnm hret hlk X0 e0
  have hown : s.vm.findClass "java/lang/String" = some m.cls := hown0
  obtain ⟨E_r, F_r_v, F_r_c, A_x⟩ := id B1
  obtain ⟨E_z, F_z_v, F_z_c, A_z⟩ := id B2
  show zEnds p e below s T0 (mkF m 0 #[rv r, rv r2, .unset] []) _ _ _
  refine zaloadN X0 hx hby d34_0 rfl rfl (zaloadN X0 hx hby d34_1 rfl rfl (zacmp X0 hx hby d34_2 7 false rfl rfl (decide_eq_false fun q => ne_r (Value.ref.inj q)) (by decide) (by decide) (zaloadN X0 hx hby d34_7 rfl rfl (zinstok X0 hx hby d34_8 hZ hown (w268 hw) e0 (Ins.of_exa E_z (w212 hw)) fun T1 X1 e1 => (zifNo X1 hx hby d34_11 (by decide) (zaloadN X1 hx hby d34_14 rfl rfl (zcastok X1 hx hby d34_15 hZ hown (w268 hw) e1 (Ins.of_exa E_z (w212 hw)) fun T2 X2 e2 => (zastoreN X2 hx hby d34_18 (hv := rfl) (L' := #[rv r, rv r2, rv r2]) rfl (zgetstat X2 hx hby d34_19 hZ hown (host := "") (Or.inl (w99 hw)) Via.refl e2 (S_cs.ext O0.2.2) fun T3 X3 e3 => ?_)))))))))
  show zEnds p e below s T3 (mkF m 22 #[rv r, rv r2, rv r2] [(.int cs)]) _ _ _
  refine zifNo X3 hx hby d34_22 ((if0 _ _).trans (feq hcs).1) (zaloadN X3 hx hby d34_25 rfl rfl (zgetfld X3 hx hby d34_26 hZ hown (host := "") (Or.inl (w100 hw)) Via.refl e3 F_r_c fun T4 X4 e4 => (zaloadN X4 hx hby d34_29 rfl rfl (zgetfld X4 hx hby d34_30 hZ hown (host := "") (Or.inl (w100 hw)) Via.refl e4 F_z_c fun T5 X5 e5 => (zicmpNo X5 hx hby d34_33 (by decide) (zaloadN X5 hx hby d34_36 rfl rfl (zgetfld X5 hx hby d34_37 hZ hown (host := "") (Or.inl (w93 hw)) Via.refl e5 F_r_v fun T6 X6 e6 => (zaloadN X6 hx hby d34_40 rfl rfl (zgetfld X6 hx hby d34_41 hZ hown (host := "") (Or.inl (w93 hw)) Via.refl e6 F_z_v fun T7 X7 e7 => ?_)))))))))
  show zEnds p e below s T7 (mkF m 44 #[rv r, rv r2, rv r2] [(.ref z), (.ref x)]) _ _ _
  refine zcalls X7 hx hby d34_44 hZ hown (w269 hw) (w270 hw) (w271 hw) (w272 hw) e7 (c_lateq l hw  C O0 x z (xs) (zs) A_x A_z (by omega) (by omega)) hml 0 pd_22 (argsL := [(.ref x), (.ref z)]) (st := []) (zpureK ⟨rfl, rfl⟩ fun T8 X8 e8 => ?_)
  show zEnds p e below s T8 (mkF m 47 #[rv r, rv r2, rv r2] [(.int (if xs = zs then (1 : Int32) else 0))]) _ _ _
  by_cases hk : xs = zs
  · refine zifNo X8 hx hby d34_47 ((if0 _ _).trans (feq (by rw [if_pos hk]; decide)).1) (ziconst X8 hx hby d34_50 (z := (1 : Int32)) rfl (zgoto X8 hx hby d34_51 55 (by decide) (by decide) ?_))
    show zEnds p e below s T8 (mkF m 55 #[rv r, rv r2, rv r2] [(.int 1)]) _ _ _
    exact zretZ X8 hx hby d34_55 hret hlk (by simp) rfl (by first | decide | omega | (dsimp only; omega)) (by first | decide | omega | (dsimp only; omega)) (⟨by rw [if_pos hk], e8, rfl⟩)
  · refine zifYes X8 hx hby d34_47 54 ((if0 _ _).trans (teq (by rw [if_neg hk])).1) (by decide) (by decide) (ziconst X8 hx hby d34_54 (z := (0 : Int32)) rfl ?_)
    show zEnds p e below s T8 (mkF m 55 #[rv r, rv r2, rv r2] [(.int 0)]) _ _ _
    exact zretZ X8 hx hby d34_55 hret hlk (by simp) rfl (by first | decide | omega | (dsimp only; omega)) (by first | decide | omega | (dsimp only; omega)) (⟨by rw [if_neg hk], e8, rfl⟩)
theorem w244 (hw : HW a0 Z) : (Cond.constantLong "com/example/kick/kick/value/PoolMetricsToStringPinLaw" 7 (10 : Int64)).before a0 Z = true := hwi hw 244 rfl
theorem w245 (hw : HW a0 Z) : (Cond.constantLong "com/example/kick/kick/value/PoolMetricsToStringPinLaw" 9 (100 : Int64)).before a0 Z = true := hwi hw 245 rfl
theorem w246 (hw : HW a0 Z) : (Cond.constantLong "com/example/kick/kick/value/PoolMetricsToStringPinLaw" 11 (1000 : Int64)).before a0 Z = true := hwi hw 246 rfl
theorem w247 (hw : HW a0 Z) : (Cond.constantLong "com/example/kick/kick/value/PoolMetricsToStringPinLaw" 13 (10000 : Int64)).before a0 Z = true := hwi hw 247 rfl
theorem w248 (hw : HW a0 Z) : (Cond.constantLong "com/example/kick/kick/value/PoolMetricsToStringPinLaw" 15 (100000 : Int64)).before a0 Z = true := hwi hw 248 rfl
theorem w249 (hw : HW a0 Z) : (Cond.constantLong "com/example/kick/kick/value/PoolMetricsToStringPinLaw" 17 (1000000 : Int64)).before a0 Z = true := hwi hw 249 rfl
theorem w250 (hw : HW a0 Z) : (Cond.constantLong "com/example/kick/kick/value/PoolMetricsToStringPinLaw" 19 (10000000 : Int64)).before a0 Z = true := hwi hw 250 rfl
theorem w251 (hw : HW a0 Z) : (Cond.constantLong "com/example/kick/kick/value/PoolMetricsToStringPinLaw" 21 (100000000 : Int64)).before a0 Z = true := hwi hw 251 rfl
theorem w252 (hw : HW a0 Z) : (Cond.constantLong "com/example/kick/kick/value/PoolMetricsToStringPinLaw" 23 (1000000000 : Int64)).before a0 Z = true := hwi hw 252 rfl
theorem w253 (hw : HW a0 Z) : (Cond.constantLong "com/example/kick/kick/value/PoolMetricsToStringPinLaw" 25 (10000000000 : Int64)).before a0 Z = true := hwi hw 253 rfl
theorem w254 (hw : HW a0 Z) : (Cond.constantLong "com/example/kick/kick/value/PoolMetricsToStringPinLaw" 27 (100000000000 : Int64)).before a0 Z = true := hwi hw 254 rfl
theorem w255 (hw : HW a0 Z) : (Cond.constantLong "com/example/kick/kick/value/PoolMetricsToStringPinLaw" 29 (1000000000000 : Int64)).before a0 Z = true := hwi hw 255 rfl
theorem w256 (hw : HW a0 Z) : (Cond.constantLong "com/example/kick/kick/value/PoolMetricsToStringPinLaw" 31 (10000000000000 : Int64)).before a0 Z = true := hwi hw 256 rfl
theorem w257 (hw : HW a0 Z) : (Cond.constantLong "com/example/kick/kick/value/PoolMetricsToStringPinLaw" 33 (100000000000000 : Int64)).before a0 Z = true := hwi hw 257 rfl
theorem w258 (hw : HW a0 Z) : (Cond.constantLong "com/example/kick/kick/value/PoolMetricsToStringPinLaw" 35 (1000000000000000 : Int64)).before a0 Z = true := hwi hw 258 rfl
theorem w259 (hw : HW a0 Z) : (Cond.constantLong "com/example/kick/kick/value/PoolMetricsToStringPinLaw" 37 (10000000000000000 : Int64)).before a0 Z = true := hwi hw 259 rfl
theorem w260 (hw : HW a0 Z) : (Cond.constantLong "com/example/kick/kick/value/PoolMetricsToStringPinLaw" 39 (100000000000000000 : Int64)).before a0 Z = true := hwi hw 260 rfl
theorem w261 (hw : HW a0 Z) : (Cond.constantLong "com/example/kick/kick/value/PoolMetricsToStringPinLaw" 41 (1000000000000000000 : Int64)).before a0 Z = true := hwi hw 261 rfl
theorem d35_0 : decode method_2_code 0 = .ok (.lload_n 0, 1) := by decide +kernel
theorem d35_1 : decode method_2_code 1 = .ok (.ldc2_w 7, 3) := by decide +kernel
theorem d35_4 : decode method_2_code 4 = .ok (.lcmp, 1) := by decide +kernel
theorem d35_5 : decode method_2_code 5 = .ok (.ifCond .ge 5, 3) := by decide +kernel
theorem d35_8 : decode method_2_code 8 = .ok (.iconst 1, 1) := by decide +kernel
theorem d35_9 : decode method_2_code 9 = .ok (.ireturn, 1) := by decide +kernel
theorem d35_10 : decode method_2_code 10 = .ok (.lload_n 0, 1) := by decide +kernel
theorem d35_11 : decode method_2_code 11 = .ok (.ldc2_w 9, 3) := by decide +kernel
theorem d35_14 : decode method_2_code 14 = .ok (.lcmp, 1) := by decide +kernel
theorem d35_15 : decode method_2_code 15 = .ok (.ifCond .ge 5, 3) := by decide +kernel
theorem d35_18 : decode method_2_code 18 = .ok (.iconst 2, 1) := by decide +kernel
theorem d35_19 : decode method_2_code 19 = .ok (.ireturn, 1) := by decide +kernel
theorem d35_20 : decode method_2_code 20 = .ok (.lload_n 0, 1) := by decide +kernel
theorem d35_21 : decode method_2_code 21 = .ok (.ldc2_w 11, 3) := by decide +kernel
theorem d35_24 : decode method_2_code 24 = .ok (.lcmp, 1) := by decide +kernel
theorem d35_25 : decode method_2_code 25 = .ok (.ifCond .ge 5, 3) := by decide +kernel
theorem d35_28 : decode method_2_code 28 = .ok (.iconst 3, 1) := by decide +kernel
theorem d35_29 : decode method_2_code 29 = .ok (.ireturn, 1) := by decide +kernel
theorem d35_30 : decode method_2_code 30 = .ok (.lload_n 0, 1) := by decide +kernel
theorem d35_31 : decode method_2_code 31 = .ok (.ldc2_w 13, 3) := by decide +kernel
theorem d35_34 : decode method_2_code 34 = .ok (.lcmp, 1) := by decide +kernel
theorem d35_35 : decode method_2_code 35 = .ok (.ifCond .ge 5, 3) := by decide +kernel
theorem d35_38 : decode method_2_code 38 = .ok (.iconst 4, 1) := by decide +kernel
theorem d35_39 : decode method_2_code 39 = .ok (.ireturn, 1) := by decide +kernel
theorem d35_40 : decode method_2_code 40 = .ok (.lload_n 0, 1) := by decide +kernel
theorem d35_41 : decode method_2_code 41 = .ok (.ldc2_w 15, 3) := by decide +kernel
theorem d35_44 : decode method_2_code 44 = .ok (.lcmp, 1) := by decide +kernel
theorem d35_45 : decode method_2_code 45 = .ok (.ifCond .ge 5, 3) := by decide +kernel
theorem d35_48 : decode method_2_code 48 = .ok (.iconst 5, 1) := by decide +kernel
theorem d35_49 : decode method_2_code 49 = .ok (.ireturn, 1) := by decide +kernel
theorem d35_50 : decode method_2_code 50 = .ok (.lload_n 0, 1) := by decide +kernel
theorem d35_51 : decode method_2_code 51 = .ok (.ldc2_w 17, 3) := by decide +kernel
theorem d35_54 : decode method_2_code 54 = .ok (.lcmp, 1) := by decide +kernel
theorem d35_55 : decode method_2_code 55 = .ok (.ifCond .ge 6, 3) := by decide +kernel
theorem d35_58 : decode method_2_code 58 = .ok (.bipush 6, 2) := by decide +kernel
theorem d35_60 : decode method_2_code 60 = .ok (.ireturn, 1) := by decide +kernel
theorem d35_61 : decode method_2_code 61 = .ok (.lload_n 0, 1) := by decide +kernel
theorem d35_62 : decode method_2_code 62 = .ok (.ldc2_w 19, 3) := by decide +kernel
theorem d35_65 : decode method_2_code 65 = .ok (.lcmp, 1) := by decide +kernel
theorem d35_66 : decode method_2_code 66 = .ok (.ifCond .ge 6, 3) := by decide +kernel
theorem d35_69 : decode method_2_code 69 = .ok (.bipush 7, 2) := by decide +kernel
theorem d35_71 : decode method_2_code 71 = .ok (.ireturn, 1) := by decide +kernel
theorem d35_72 : decode method_2_code 72 = .ok (.lload_n 0, 1) := by decide +kernel
theorem d35_73 : decode method_2_code 73 = .ok (.ldc2_w 21, 3) := by decide +kernel
theorem d35_76 : decode method_2_code 76 = .ok (.lcmp, 1) := by decide +kernel
theorem d35_77 : decode method_2_code 77 = .ok (.ifCond .ge 6, 3) := by decide +kernel
theorem d35_80 : decode method_2_code 80 = .ok (.bipush 8, 2) := by decide +kernel
theorem d35_82 : decode method_2_code 82 = .ok (.ireturn, 1) := by decide +kernel
theorem d35_83 : decode method_2_code 83 = .ok (.lload_n 0, 1) := by decide +kernel
theorem d35_84 : decode method_2_code 84 = .ok (.ldc2_w 23, 3) := by decide +kernel
theorem d35_87 : decode method_2_code 87 = .ok (.lcmp, 1) := by decide +kernel
theorem d35_88 : decode method_2_code 88 = .ok (.ifCond .ge 6, 3) := by decide +kernel
theorem d35_91 : decode method_2_code 91 = .ok (.bipush 9, 2) := by decide +kernel
theorem d35_93 : decode method_2_code 93 = .ok (.ireturn, 1) := by decide +kernel
theorem d35_94 : decode method_2_code 94 = .ok (.lload_n 0, 1) := by decide +kernel
theorem d35_95 : decode method_2_code 95 = .ok (.ldc2_w 25, 3) := by decide +kernel
theorem d35_98 : decode method_2_code 98 = .ok (.lcmp, 1) := by decide +kernel
theorem d35_99 : decode method_2_code 99 = .ok (.ifCond .ge 6, 3) := by decide +kernel
theorem d35_102 : decode method_2_code 102 = .ok (.bipush 10, 2) := by decide +kernel
theorem d35_104 : decode method_2_code 104 = .ok (.ireturn, 1) := by decide +kernel
theorem d35_105 : decode method_2_code 105 = .ok (.lload_n 0, 1) := by decide +kernel
theorem d35_106 : decode method_2_code 106 = .ok (.ldc2_w 27, 3) := by decide +kernel
theorem d35_109 : decode method_2_code 109 = .ok (.lcmp, 1) := by decide +kernel
theorem d35_110 : decode method_2_code 110 = .ok (.ifCond .ge 6, 3) := by decide +kernel
theorem d35_113 : decode method_2_code 113 = .ok (.bipush 11, 2) := by decide +kernel
theorem d35_115 : decode method_2_code 115 = .ok (.ireturn, 1) := by decide +kernel
theorem d35_116 : decode method_2_code 116 = .ok (.lload_n 0, 1) := by decide +kernel
theorem d35_117 : decode method_2_code 117 = .ok (.ldc2_w 29, 3) := by decide +kernel
theorem d35_120 : decode method_2_code 120 = .ok (.lcmp, 1) := by decide +kernel
theorem d35_121 : decode method_2_code 121 = .ok (.ifCond .ge 6, 3) := by decide +kernel
theorem d35_124 : decode method_2_code 124 = .ok (.bipush 12, 2) := by decide +kernel
theorem d35_126 : decode method_2_code 126 = .ok (.ireturn, 1) := by decide +kernel
theorem d35_127 : decode method_2_code 127 = .ok (.lload_n 0, 1) := by decide +kernel
theorem d35_128 : decode method_2_code 128 = .ok (.ldc2_w 31, 3) := by decide +kernel
theorem d35_131 : decode method_2_code 131 = .ok (.lcmp, 1) := by decide +kernel
theorem d35_132 : decode method_2_code 132 = .ok (.ifCond .ge 6, 3) := by decide +kernel
theorem d35_135 : decode method_2_code 135 = .ok (.bipush 13, 2) := by decide +kernel
theorem d35_137 : decode method_2_code 137 = .ok (.ireturn, 1) := by decide +kernel
theorem d35_138 : decode method_2_code 138 = .ok (.lload_n 0, 1) := by decide +kernel
theorem d35_139 : decode method_2_code 139 = .ok (.ldc2_w 33, 3) := by decide +kernel
theorem d35_142 : decode method_2_code 142 = .ok (.lcmp, 1) := by decide +kernel
theorem d35_143 : decode method_2_code 143 = .ok (.ifCond .ge 6, 3) := by decide +kernel
theorem d35_146 : decode method_2_code 146 = .ok (.bipush 14, 2) := by decide +kernel
theorem d35_148 : decode method_2_code 148 = .ok (.ireturn, 1) := by decide +kernel
theorem d35_149 : decode method_2_code 149 = .ok (.lload_n 0, 1) := by decide +kernel
theorem d35_150 : decode method_2_code 150 = .ok (.ldc2_w 35, 3) := by decide +kernel
theorem d35_153 : decode method_2_code 153 = .ok (.lcmp, 1) := by decide +kernel
theorem d35_154 : decode method_2_code 154 = .ok (.ifCond .ge 6, 3) := by decide +kernel
theorem d35_157 : decode method_2_code 157 = .ok (.bipush 15, 2) := by decide +kernel
theorem d35_159 : decode method_2_code 159 = .ok (.ireturn, 1) := by decide +kernel
theorem d35_160 : decode method_2_code 160 = .ok (.lload_n 0, 1) := by decide +kernel
theorem d35_161 : decode method_2_code 161 = .ok (.ldc2_w 37, 3) := by decide +kernel
theorem d35_164 : decode method_2_code 164 = .ok (.lcmp, 1) := by decide +kernel
theorem d35_165 : decode method_2_code 165 = .ok (.ifCond .ge 6, 3) := by decide +kernel
theorem d35_168 : decode method_2_code 168 = .ok (.bipush 16, 2) := by decide +kernel
theorem d35_170 : decode method_2_code 170 = .ok (.ireturn, 1) := by decide +kernel
theorem d35_171 : decode method_2_code 171 = .ok (.lload_n 0, 1) := by decide +kernel
theorem d35_172 : decode method_2_code 172 = .ok (.ldc2_w 39, 3) := by decide +kernel
theorem d35_175 : decode method_2_code 175 = .ok (.lcmp, 1) := by decide +kernel
theorem d35_176 : decode method_2_code 176 = .ok (.ifCond .ge 6, 3) := by decide +kernel
theorem d35_179 : decode method_2_code 179 = .ok (.bipush 17, 2) := by decide +kernel
theorem d35_181 : decode method_2_code 181 = .ok (.ireturn, 1) := by decide +kernel
theorem d35_182 : decode method_2_code 182 = .ok (.lload_n 0, 1) := by decide +kernel
theorem d35_183 : decode method_2_code 183 = .ok (.ldc2_w 41, 3) := by decide +kernel
theorem d35_186 : decode method_2_code 186 = .ok (.lcmp, 1) := by decide +kernel
theorem d35_187 : decode method_2_code 187 = .ok (.ifCond .ge 6, 3) := by decide +kernel
theorem d35_190 : decode method_2_code 190 = .ok (.bipush 18, 2) := by decide +kernel
theorem d35_192 : decode method_2_code 192 = .ok (.ireturn, 1) := by decide +kernel
theorem d35_193 : decode method_2_code 193 = .ok (.bipush 19, 2) := by decide +kernel
theorem d35_195 : decode method_2_code 195 = .ok (.ireturn, 1) := by decide +kernel
theorem d36_0 : decode prog_12_method_12_code 0 = .ok (.lload_n 0, 1) := by decide +kernel
theorem d36_1 : decode prog_12_method_12_code 1 = .ok (.lconst 0, 1) := by decide +kernel
theorem d36_2 : decode prog_12_method_12_code 2 = .ok (.lcmp, 1) := by decide +kernel
theorem d36_3 : decode prog_12_method_12_code 3 = .ok (.ifCond .ge 34, 3) := by decide +kernel
theorem d36_37 : decode prog_12_method_12_code 37 = .ok (.return_, 1) := by decide +kernel
theorem pn_8 : plainName "com/example/kick/kick/value/PoolMetricsToStringPinLaw" = true := by first | (simp [plainName, overriddenIn]; done) | decide +kernel
theorem pn_9 : plainName "com/example/kick/kick/value/PoolMetrics" = true := by first | (simp [plainName, overriddenIn]; done) | decide +kernel
theorem c_digits (hw : HW a0 Z) (C : Ctx Z cs d1 d2 o1 o2) (O0 : zOd Z n0 h0) (n : Nat) (hn : n < 9223372036854775808) : zCon l Z (⟨"com/example/kick/kick/value/PoolMetricsToStringPinLaw", "digits", "(J)I"⟩ : MethodName) method_2_code 2 (some .int) [] ({ frames := 0, cells := 0, slots := 0, locals := 0 } : Room) #[(.long (Int64.ofNat (n)))] h0 (zSame (some (.int (Int32.ofNat ((dec n).length)))) h0) := by
  refine zenter (plainFor_of_name pn_8) (L0 := #[.val (.long (Int64.ofNat (n))), .second]) (fun m => by first | rfl | simp [entryFrame, mkF, argsToLocals, Value.category]) ?_
  intro p e s m below meth c T0 hx hZ hby hml hown0 hnm hret hlk X0 e0
  have hown : s.vm.findClass "com/example/kick/kick/value/PoolMetricsToStringPinLaw" = some m.cls := hown0
  show zEnds p e below s T0 (mkF m 0 #[.val (.long (Int64.ofNat (n))), .second] []) _ _ _
  refine zlloadN X0 hx hby d35_0 rfl (zldc2J X0 hx hby d35_1 (10 : Int64) hZ hown (w244 hw) (zlcmp X0 hx hby d35_4 (lcmpW (Int64.ofNat (n)) (10 : Int64)) rfl ?_))
  show zEnds p e below s T0 (mkF m 5 #[.val (.long (Int64.ofNat (n))), .second] [(.int (lcmpW (Int64.ofNat (n)) (10 : Int64)))]) _ _ _
  by_cases hd1 : n < 10
  · refine zifNo X0 hx hby d35_5 ((if0 _ _).trans (tlt (show (lcmpW (Int64.ofNat (n)) (10 : Int64)) < (0 : Int32) from by rw [lcmp_neg, show (10 : Int64) = Int64.ofNat 10 from by decide, ofL_lt (by omega) (by omega)]; omega)).2.1) (ziconst X0 hx hby d35_8 (z := (1 : Int32)) rfl ?_)
    show zEnds p e below s T0 (mkF m 9 #[.val (.long (Int64.ofNat (n))), .second] [(.int 1)]) _ _ _
    exact zretI X0 hx hby d35_9 hret hlk (by first | decide | omega | (dsimp only; omega)) (by first | decide | omega | (dsimp only; omega)) (⟨by rw [dec_len 0 n (by omega) (by omega)]; rfl, e0, rfl⟩)
  · refine zifYes X0 hx hby d35_5 10 ((if0 _ _).trans (flt (show ¬ ((lcmpW (Int64.ofNat (n)) (10 : Int64)) < (0 : Int32)) from by rw [lcmp_neg, show (10 : Int64) = Int64.ofNat 10 from by decide, ofL_lt (by omega) (by omega)]; omega)).2.1) (by decide) (by decide) (zlloadN X0 hx hby d35_10 rfl (zldc2J X0 hx hby d35_11 (100 : Int64) hZ hown (w245 hw) (zlcmp X0 hx hby d35_14 (lcmpW (Int64.ofNat (n)) (100 : Int64)) rfl ?_)))
    show zEnds p e below s T0 (mkF m 15 #[.val (.long (Int64.ofNat (n))), .second] [(.int (lcmpW (Int64.ofNat (n)) (100 : Int64)))]) _ _ _
    by_cases hd2 : n < 100
    · refine zifNo X0 hx hby d35_15 ((if0 _ _).trans (tlt (show (lcmpW (Int64.ofNat (n)) (100 : Int64)) < (0 : Int32) from by rw [lcmp_neg, show (100 : Int64) = Int64.ofNat 100 from by decide, ofL_lt (by omega) (by omega)]; omega)).2.1) (ziconst X0 hx hby d35_18 (z := (2 : Int32)) rfl ?_)
      show zEnds p e below s T0 (mkF m 19 #[.val (.long (Int64.ofNat (n))), .second] [(.int 2)]) _ _ _
      exact zretI X0 hx hby d35_19 hret hlk (by first | decide | omega | (dsimp only; omega)) (by first | decide | omega | (dsimp only; omega)) (⟨by rw [dec_len 1 n (by omega) (by omega)]; rfl, e0, rfl⟩)
    · refine zifYes X0 hx hby d35_15 20 ((if0 _ _).trans (flt (show ¬ ((lcmpW (Int64.ofNat (n)) (100 : Int64)) < (0 : Int32)) from by rw [lcmp_neg, show (100 : Int64) = Int64.ofNat 100 from by decide, ofL_lt (by omega) (by omega)]; omega)).2.1) (by decide) (by decide) (zlloadN X0 hx hby d35_20 rfl (zldc2J X0 hx hby d35_21 (1000 : Int64) hZ hown (w246 hw) (zlcmp X0 hx hby d35_24 (lcmpW (Int64.ofNat (n)) (1000 : Int64)) rfl ?_)))
      show zEnds p e below s T0 (mkF m 25 #[.val (.long (Int64.ofNat (n))), .second] [(.int (lcmpW (Int64.ofNat (n)) (1000 : Int64)))]) _ _ _
      by_cases hd3 : n < 1000
      · refine zifNo X0 hx hby d35_25 ((if0 _ _).trans (tlt (show (lcmpW (Int64.ofNat (n)) (1000 : Int64)) < (0 : Int32) from by rw [lcmp_neg, show (1000 : Int64) = Int64.ofNat 1000 from by decide, ofL_lt (by omega) (by omega)]; omega)).2.1) (ziconst X0 hx hby d35_28 (z := (3 : Int32)) rfl ?_)
        show zEnds p e below s T0 (mkF m 29 #[.val (.long (Int64.ofNat (n))), .second] [(.int 3)]) _ _ _
        exact zretI X0 hx hby d35_29 hret hlk (by first | decide | omega | (dsimp only; omega)) (by first | decide | omega | (dsimp only; omega)) (⟨by rw [dec_len 2 n (by omega) (by omega)]; rfl, e0, rfl⟩)
      · refine zifYes X0 hx hby d35_25 30 ((if0 _ _).trans (flt (show ¬ ((lcmpW (Int64.ofNat (n)) (1000 : Int64)) < (0 : Int32)) from by rw [lcmp_neg, show (1000 : Int64) = Int64.ofNat 1000 from by decide, ofL_lt (by omega) (by omega)]; omega)).2.1) (by decide) (by decide) (zlloadN X0 hx hby d35_30 rfl (zldc2J X0 hx hby d35_31 (10000 : Int64) hZ hown (w247 hw) (zlcmp X0 hx hby d35_34 (lcmpW (Int64.ofNat (n)) (10000 : Int64)) rfl ?_)))
        show zEnds p e below s T0 (mkF m 35 #[.val (.long (Int64.ofNat (n))), .second] [(.int (lcmpW (Int64.ofNat (n)) (10000 : Int64)))]) _ _ _
        by_cases hd4 : n < 10000
        · refine zifNo X0 hx hby d35_35 ((if0 _ _).trans (tlt (show (lcmpW (Int64.ofNat (n)) (10000 : Int64)) < (0 : Int32) from by rw [lcmp_neg, show (10000 : Int64) = Int64.ofNat 10000 from by decide, ofL_lt (by omega) (by omega)]; omega)).2.1) (ziconst X0 hx hby d35_38 (z := (4 : Int32)) rfl ?_)
          show zEnds p e below s T0 (mkF m 39 #[.val (.long (Int64.ofNat (n))), .second] [(.int 4)]) _ _ _
          exact zretI X0 hx hby d35_39 hret hlk (by first | decide | omega | (dsimp only; omega)) (by first | decide | omega | (dsimp only; omega)) (⟨by rw [dec_len 3 n (by omega) (by omega)]; rfl, e0, rfl⟩)
        · refine zifYes X0 hx hby d35_35 40 ((if0 _ _).trans (flt (show ¬ ((lcmpW (Int64.ofNat (n)) (10000 : Int64)) < (0 : Int32)) from by rw [lcmp_neg, show (10000 : Int64) = Int64.ofNat 10000 from by decide, ofL_lt (by omega) (by omega)]; omega)).2.1) (by decide) (by decide) (zlloadN X0 hx hby d35_40 rfl (zldc2J X0 hx hby d35_41 (100000 : Int64) hZ hown (w248 hw) (zlcmp X0 hx hby d35_44 (lcmpW (Int64.ofNat (n)) (100000 : Int64)) rfl ?_)))
          show zEnds p e below s T0 (mkF m 45 #[.val (.long (Int64.ofNat (n))), .second] [(.int (lcmpW (Int64.ofNat (n)) (100000 : Int64)))]) _ _ _
          by_cases hd5 : n < 100000
          · refine zifNo X0 hx hby d35_45 ((if0 _ _).trans (tlt (show (lcmpW (Int64.ofNat (n)) (100000 : Int64)) < (0 : Int32) from by rw [lcmp_neg, show (100000 : Int64) = Int64.ofNat 100000 from by decide, ofL_lt (by omega) (by omega)]; omega)).2.1) (ziconst X0 hx hby d35_48 (z := (5 : Int32)) rfl ?_)
            show zEnds p e below s T0 (mkF m 49 #[.val (.long (Int64.ofNat (n))), .second] [(.int 5)]) _ _ _
            exact zretI X0 hx hby d35_49 hret hlk (by first | decide | omega | (dsimp only; omega)) (by first | decide | omega | (dsimp only; omega)) (⟨by rw [dec_len 4 n (by omega) (by omega)]; rfl, e0, rfl⟩)
          · refine zifYes X0 hx hby d35_45 50 ((if0 _ _).trans (flt (show ¬ ((lcmpW (Int64.ofNat (n)) (100000 : Int64)) < (0 : Int32)) from by rw [lcmp_neg, show (100000 : Int64) = Int64.ofNat 100000 from by decide, ofL_lt (by omega) (by omega)]; omega)).2.1) (by decide) (by decide) (zlloadN X0 hx hby d35_50 rfl (zldc2J X0 hx hby d35_51 (1000000 : Int64) hZ hown (w249 hw) (zlcmp X0 hx hby d35_54 (lcmpW (Int64.ofNat (n)) (1000000 : Int64)) rfl ?_)))
            show zEnds p e below s T0 (mkF m 55 #[.val (.long (Int64.ofNat (n))), .second] [(.int (lcmpW (Int64.ofNat (n)) (1000000 : Int64)))]) _ _ _
            by_cases hd6 : n < 1000000
            · refine zifNo X0 hx hby d35_55 ((if0 _ _).trans (tlt (show (lcmpW (Int64.ofNat (n)) (1000000 : Int64)) < (0 : Int32) from by rw [lcmp_neg, show (1000000 : Int64) = Int64.ofNat 1000000 from by decide, ofL_lt (by omega) (by omega)]; omega)).2.1) (zbipush X0 hx hby d35_58 (z := (6 : Int32)) rfl ?_)
              show zEnds p e below s T0 (mkF m 60 #[.val (.long (Int64.ofNat (n))), .second] [(.int 6)]) _ _ _
              exact zretI X0 hx hby d35_60 hret hlk (by first | decide | omega | (dsimp only; omega)) (by first | decide | omega | (dsimp only; omega)) (⟨by rw [dec_len 5 n (by omega) (by omega)]; rfl, e0, rfl⟩)
            · refine zifYes X0 hx hby d35_55 61 ((if0 _ _).trans (flt (show ¬ ((lcmpW (Int64.ofNat (n)) (1000000 : Int64)) < (0 : Int32)) from by rw [lcmp_neg, show (1000000 : Int64) = Int64.ofNat 1000000 from by decide, ofL_lt (by omega) (by omega)]; omega)).2.1) (by decide) (by decide) (zlloadN X0 hx hby d35_61 rfl (zldc2J X0 hx hby d35_62 (10000000 : Int64) hZ hown (w250 hw) (zlcmp X0 hx hby d35_65 (lcmpW (Int64.ofNat (n)) (10000000 : Int64)) rfl ?_)))
              show zEnds p e below s T0 (mkF m 66 #[.val (.long (Int64.ofNat (n))), .second] [(.int (lcmpW (Int64.ofNat (n)) (10000000 : Int64)))]) _ _ _
              by_cases hd7 : n < 10000000
              · refine zifNo X0 hx hby d35_66 ((if0 _ _).trans (tlt (show (lcmpW (Int64.ofNat (n)) (10000000 : Int64)) < (0 : Int32) from by rw [lcmp_neg, show (10000000 : Int64) = Int64.ofNat 10000000 from by decide, ofL_lt (by omega) (by omega)]; omega)).2.1) (zbipush X0 hx hby d35_69 (z := (7 : Int32)) rfl ?_)
                show zEnds p e below s T0 (mkF m 71 #[.val (.long (Int64.ofNat (n))), .second] [(.int 7)]) _ _ _
                exact zretI X0 hx hby d35_71 hret hlk (by first | decide | omega | (dsimp only; omega)) (by first | decide | omega | (dsimp only; omega)) (⟨by rw [dec_len 6 n (by omega) (by omega)]; rfl, e0, rfl⟩)
              · refine zifYes X0 hx hby d35_66 72 ((if0 _ _).trans (flt (show ¬ ((lcmpW (Int64.ofNat (n)) (10000000 : Int64)) < (0 : Int32)) from by rw [lcmp_neg, show (10000000 : Int64) = Int64.ofNat 10000000 from by decide, ofL_lt (by omega) (by omega)]; omega)).2.1) (by decide) (by decide) (zlloadN X0 hx hby d35_72 rfl (zldc2J X0 hx hby d35_73 (100000000 : Int64) hZ hown (w251 hw) (zlcmp X0 hx hby d35_76 (lcmpW (Int64.ofNat (n)) (100000000 : Int64)) rfl ?_)))
                show zEnds p e below s T0 (mkF m 77 #[.val (.long (Int64.ofNat (n))), .second] [(.int (lcmpW (Int64.ofNat (n)) (100000000 : Int64)))]) _ _ _
                by_cases hd8 : n < 100000000
                · refine zifNo X0 hx hby d35_77 ((if0 _ _).trans (tlt (show (lcmpW (Int64.ofNat (n)) (100000000 : Int64)) < (0 : Int32) from by rw [lcmp_neg, show (100000000 : Int64) = Int64.ofNat 100000000 from by decide, ofL_lt (by omega) (by omega)]; omega)).2.1) (zbipush X0 hx hby d35_80 (z := (8 : Int32)) rfl ?_)
                  show zEnds p e below s T0 (mkF m 82 #[.val (.long (Int64.ofNat (n))), .second] [(.int 8)]) _ _ _
                  exact zretI X0 hx hby d35_82 hret hlk (by first | decide | omega | (dsimp only; omega)) (by first | decide | omega | (dsimp only; omega)) (⟨by rw [dec_len 7 n (by omega) (by omega)]; rfl, e0, rfl⟩)
                · refine zifYes X0 hx hby d35_77 83 ((if0 _ _).trans (flt (show ¬ ((lcmpW (Int64.ofNat (n)) (100000000 : Int64)) < (0 : Int32)) from by rw [lcmp_neg, show (100000000 : Int64) = Int64.ofNat 100000000 from by decide, ofL_lt (by omega) (by omega)]; omega)).2.1) (by decide) (by decide) (zlloadN X0 hx hby d35_83 rfl (zldc2J X0 hx hby d35_84 (1000000000 : Int64) hZ hown (w252 hw) (zlcmp X0 hx hby d35_87 (lcmpW (Int64.ofNat (n)) (1000000000 : Int64)) rfl ?_)))
                  show zEnds p e below s T0 (mkF m 88 #[.val (.long (Int64.ofNat (n))), .second] [(.int (lcmpW (Int64.ofNat (n)) (1000000000 : Int64)))]) _ _ _
                  by_cases hd9 : n < 1000000000
                  · refine zifNo X0 hx hby d35_88 ((if0 _ _).trans (tlt (show (lcmpW (Int64.ofNat (n)) (1000000000 : Int64)) < (0 : Int32) from by rw [lcmp_neg, show (1000000000 : Int64) = Int64.ofNat 1000000000 from by decide, ofL_lt (by omega) (by omega)]; omega)).2.1) (zbipush X0 hx hby d35_91 (z := (9 : Int32)) rfl ?_)
                    show zEnds p e below s T0 (mkF m 93 #[.val (.long (Int64.ofNat (n))), .second] [(.int 9)]) _ _ _
                    exact zretI X0 hx hby d35_93 hret hlk (by first | decide | omega | (dsimp only; omega)) (by first | decide | omega | (dsimp only; omega)) (⟨by rw [dec_len 8 n (by omega) (by omega)]; rfl, e0, rfl⟩)
                  · refine zifYes X0 hx hby d35_88 94 ((if0 _ _).trans (flt (show ¬ ((lcmpW (Int64.ofNat (n)) (1000000000 : Int64)) < (0 : Int32)) from by rw [lcmp_neg, show (1000000000 : Int64) = Int64.ofNat 1000000000 from by decide, ofL_lt (by omega) (by omega)]; omega)).2.1) (by decide) (by decide) (zlloadN X0 hx hby d35_94 rfl (zldc2J X0 hx hby d35_95 (10000000000 : Int64) hZ hown (w253 hw) (zlcmp X0 hx hby d35_98 (lcmpW (Int64.ofNat (n)) (10000000000 : Int64)) rfl ?_)))
                    show zEnds p e below s T0 (mkF m 99 #[.val (.long (Int64.ofNat (n))), .second] [(.int (lcmpW (Int64.ofNat (n)) (10000000000 : Int64)))]) _ _ _
                    by_cases hd10 : n < 10000000000
                    · refine zifNo X0 hx hby d35_99 ((if0 _ _).trans (tlt (show (lcmpW (Int64.ofNat (n)) (10000000000 : Int64)) < (0 : Int32) from by rw [lcmp_neg, show (10000000000 : Int64) = Int64.ofNat 10000000000 from by decide, ofL_lt (by omega) (by omega)]; omega)).2.1) (zbipush X0 hx hby d35_102 (z := (10 : Int32)) rfl ?_)
                      show zEnds p e below s T0 (mkF m 104 #[.val (.long (Int64.ofNat (n))), .second] [(.int 10)]) _ _ _
                      exact zretI X0 hx hby d35_104 hret hlk (by first | decide | omega | (dsimp only; omega)) (by first | decide | omega | (dsimp only; omega)) (⟨by rw [dec_len 9 n (by omega) (by omega)]; rfl, e0, rfl⟩)
                    · refine zifYes X0 hx hby d35_99 105 ((if0 _ _).trans (flt (show ¬ ((lcmpW (Int64.ofNat (n)) (10000000000 : Int64)) < (0 : Int32)) from by rw [lcmp_neg, show (10000000000 : Int64) = Int64.ofNat 10000000000 from by decide, ofL_lt (by omega) (by omega)]; omega)).2.1) (by decide) (by decide) (zlloadN X0 hx hby d35_105 rfl (zldc2J X0 hx hby d35_106 (100000000000 : Int64) hZ hown (w254 hw) (zlcmp X0 hx hby d35_109 (lcmpW (Int64.ofNat (n)) (100000000000 : Int64)) rfl ?_)))
                      show zEnds p e below s T0 (mkF m 110 #[.val (.long (Int64.ofNat (n))), .second] [(.int (lcmpW (Int64.ofNat (n)) (100000000000 : Int64)))]) _ _ _
                      by_cases hd11 : n < 100000000000
                      · refine zifNo X0 hx hby d35_110 ((if0 _ _).trans (tlt (show (lcmpW (Int64.ofNat (n)) (100000000000 : Int64)) < (0 : Int32) from by rw [lcmp_neg, show (100000000000 : Int64) = Int64.ofNat 100000000000 from by decide, ofL_lt (by omega) (by omega)]; omega)).2.1) (zbipush X0 hx hby d35_113 (z := (11 : Int32)) rfl ?_)
                        show zEnds p e below s T0 (mkF m 115 #[.val (.long (Int64.ofNat (n))), .second] [(.int 11)]) _ _ _
                        exact zretI X0 hx hby d35_115 hret hlk (by first | decide | omega | (dsimp only; omega)) (by first | decide | omega | (dsimp only; omega)) (⟨by rw [dec_len 10 n (by omega) (by omega)]; rfl, e0, rfl⟩)
                      · refine zifYes X0 hx hby d35_110 116 ((if0 _ _).trans (flt (show ¬ ((lcmpW (Int64.ofNat (n)) (100000000000 : Int64)) < (0 : Int32)) from by rw [lcmp_neg, show (100000000000 : Int64) = Int64.ofNat 100000000000 from by decide, ofL_lt (by omega) (by omega)]; omega)).2.1) (by decide) (by decide) (zlloadN X0 hx hby d35_116 rfl (zldc2J X0 hx hby d35_117 (1000000000000 : Int64) hZ hown (w255 hw) (zlcmp X0 hx hby d35_120 (lcmpW (Int64.ofNat (n)) (1000000000000 : Int64)) rfl ?_)))
                        show zEnds p e below s T0 (mkF m 121 #[.val (.long (Int64.ofNat (n))), .second] [(.int (lcmpW (Int64.ofNat (n)) (1000000000000 : Int64)))]) _ _ _
                        by_cases hd12 : n < 1000000000000
                        · refine zifNo X0 hx hby d35_121 ((if0 _ _).trans (tlt (show (lcmpW (Int64.ofNat (n)) (1000000000000 : Int64)) < (0 : Int32) from by rw [lcmp_neg, show (1000000000000 : Int64) = Int64.ofNat 1000000000000 from by decide, ofL_lt (by omega) (by omega)]; omega)).2.1) (zbipush X0 hx hby d35_124 (z := (12 : Int32)) rfl ?_)
                          show zEnds p e below s T0 (mkF m 126 #[.val (.long (Int64.ofNat (n))), .second] [(.int 12)]) _ _ _
                          exact zretI X0 hx hby d35_126 hret hlk (by first | decide | omega | (dsimp only; omega)) (by first | decide | omega | (dsimp only; omega)) (⟨by rw [dec_len 11 n (by omega) (by omega)]; rfl, e0, rfl⟩)
                        · refine zifYes X0 hx hby d35_121 127 ((if0 _ _).trans (flt (show ¬ ((lcmpW (Int64.ofNat (n)) (1000000000000 : Int64)) < (0 : Int32)) from by rw [lcmp_neg, show (1000000000000 : Int64) = Int64.ofNat 1000000000000 from by decide, ofL_lt (by omega) (by omega)]; omega)).2.1) (by decide) (by decide) (zlloadN X0 hx hby d35_127 rfl (zldc2J X0 hx hby d35_128 (10000000000000 : Int64) hZ hown (w256 hw) (zlcmp X0 hx hby d35_131 (lcmpW (Int64.ofNat (n)) (10000000000000 : Int64)) rfl ?_)))
                          show zEnds p e below s T0 (mkF m 132 #[.val (.long (Int64.ofNat (n))), .second] [(.int (lcmpW (Int64.ofNat (n)) (10000000000000 : Int64)))]) _ _ _
                          by_cases hd13 : n < 10000000000000
                          · refine zifNo X0 hx hby d35_132 ((if0 _ _).trans (tlt (show (lcmpW (Int64.ofNat (n)) (10000000000000 : Int64)) < (0 : Int32) from by rw [lcmp_neg, show (10000000000000 : Int64) = Int64.ofNat 10000000000000 from by decide, ofL_lt (by omega) (by omega)]; omega)).2.1) (zbipush X0 hx hby d35_135 (z := (13 : Int32)) rfl ?_)
                            show zEnds p e below s T0 (mkF m 137 #[.val (.long (Int64.ofNat (n))), .second] [(.int 13)]) _ _ _
                            exact zretI X0 hx hby d35_137 hret hlk (by first | decide | omega | (dsimp only; omega)) (by first | decide | omega | (dsimp only; omega)) (⟨by rw [dec_len 12 n (by omega) (by omega)]; rfl, e0, rfl⟩)
                          · refine zifYes X0 hx hby d35_132 138 ((if0 _ _).trans (flt (show ¬ ((lcmpW (Int64.ofNat (n)) (10000000000000 : Int64)) < (0 : Int32)) from by rw [lcmp_neg, show (10000000000000 : Int64) = Int64.ofNat 10000000000000 from by decide, ofL_lt (by omega) (by omega)]; omega)).2.1) (by decide) (by decide) (zlloadN X0 hx hby d35_138 rfl (zldc2J X0 hx hby d35_139 (100000000000000 : Int64) hZ hown (w257 hw) (zlcmp X0 hx hby d35_142 (lcmpW (Int64.ofNat (n)) (100000000000000 : Int64)) rfl ?_)))
                            show zEnds p e below s T0 (mkF m 143 #[.val (.long (Int64.ofNat (n))), .second] [(.int (lcmpW (Int64.ofNat (n)) (100000000000000 : Int64)))]) _ _ _
                            by_cases hd14 : n < 100000000000000
                            · refine zifNo X0 hx hby d35_143 ((if0 _ _).trans (tlt (show (lcmpW (Int64.ofNat (n)) (100000000000000 : Int64)) < (0 : Int32) from by rw [lcmp_neg, show (100000000000000 : Int64) = Int64.ofNat 100000000000000 from by decide, ofL_lt (by omega) (by omega)]; omega)).2.1) (zbipush X0 hx hby d35_146 (z := (14 : Int32)) rfl ?_)
                              show zEnds p e below s T0 (mkF m 148 #[.val (.long (Int64.ofNat (n))), .second] [(.int 14)]) _ _ _
                              exact zretI X0 hx hby d35_148 hret hlk (by first | decide | omega | (dsimp only; omega)) (by first | decide | omega | (dsimp only; omega)) (⟨by rw [dec_len 13 n (by omega) (by omega)]; rfl, e0, rfl⟩)
                            · refine zifYes X0 hx hby d35_143 149 ((if0 _ _).trans (flt (show ¬ ((lcmpW (Int64.ofNat (n)) (100000000000000 : Int64)) < (0 : Int32)) from by rw [lcmp_neg, show (100000000000000 : Int64) = Int64.ofNat 100000000000000 from by decide, ofL_lt (by omega) (by omega)]; omega)).2.1) (by decide) (by decide) (zlloadN X0 hx hby d35_149 rfl (zldc2J X0 hx hby d35_150 (1000000000000000 : Int64) hZ hown (w258 hw) (zlcmp X0 hx hby d35_153 (lcmpW (Int64.ofNat (n)) (1000000000000000 : Int64)) rfl ?_)))
                              show zEnds p e below s T0 (mkF m 154 #[.val (.long (Int64.ofNat (n))), .second] [(.int (lcmpW (Int64.ofNat (n)) (1000000000000000 : Int64)))]) _ _ _
                              by_cases hd15 : n < 1000000000000000
                              · refine zifNo X0 hx hby d35_154 ((if0 _ _).trans (tlt (show (lcmpW (Int64.ofNat (n)) (1000000000000000 : Int64)) < (0 : Int32) from by rw [lcmp_neg, show (1000000000000000 : Int64) = Int64.ofNat 1000000000000000 from by decide, ofL_lt (by omega) (by omega)]; omega)).2.1) (zbipush X0 hx hby d35_157 (z := (15 : Int32)) rfl ?_)
                                show zEnds p e below s T0 (mkF m 159 #[.val (.long (Int64.ofNat (n))), .second] [(.int 15)]) _ _ _
                                exact zretI X0 hx hby d35_159 hret hlk (by first | decide | omega | (dsimp only; omega)) (by first | decide | omega | (dsimp only; omega)) (⟨by rw [dec_len 14 n (by omega) (by omega)]; rfl, e0, rfl⟩)
                              · refine zifYes X0 hx hby d35_154 160 ((if0 _ _).trans (flt (show ¬ ((lcmpW (Int64.ofNat (n)) (1000000000000000 : Int64)) < (0 : Int32)) from by rw [lcmp_neg, show (1000000000000000 : Int64) = Int64.ofNat 1000000000000000 from by decide, ofL_lt (by omega) (by omega)]; omega)).2.1) (by decide) (by decide) (zlloadN X0 hx hby d35_160 rfl (zldc2J X0 hx hby d35_161 (10000000000000000 : Int64) hZ hown (w259 hw) (zlcmp X0 hx hby d35_164 (lcmpW (Int64.ofNat (n)) (10000000000000000 : Int64)) rfl ?_)))
                                show zEnds p e below s T0 (mkF m 165 #[.val (.long (Int64.ofNat (n))), .second] [(.int (lcmpW (Int64.ofNat (n)) (10000000000000000 : Int64)))]) _ _ _
                                by_cases hd16 : n < 10000000000000000
                                · refine zifNo X0 hx hby d35_165 ((if0 _ _).trans (tlt (show (lcmpW (Int64.ofNat (n)) (10000000000000000 : Int64)) < (0 : Int32) from by rw [lcmp_neg, show (10000000000000000 : Int64) = Int64.ofNat 10000000000000000 from by decide, ofL_lt (by omega) (by omega)]; omega)).2.1) (zbipush X0 hx hby d35_168 (z := (16 : Int32)) rfl ?_)
                                  show zEnds p e below s T0 (mkF m 170 #[.val (.long (Int64.ofNat (n))), .second] [(.int 16)]) _ _ _
                                  exact zretI X0 hx hby d35_170 hret hlk (by first | decide | omega | (dsimp only; omega)) (by first | decide | omega | (dsimp only; omega)) (⟨by rw [dec_len 15 n (by omega) (by omega)]; rfl, e0, rfl⟩)
                                · refine zifYes X0 hx hby d35_165 171 ((if0 _ _).trans (flt (show ¬ ((lcmpW (Int64.ofNat (n)) (10000000000000000 : Int64)) < (0 : Int32)) from by rw [lcmp_neg, show (10000000000000000 : Int64) = Int64.ofNat 10000000000000000 from by decide, ofL_lt (by omega) (by omega)]; omega)).2.1) (by decide) (by decide) (zlloadN X0 hx hby d35_171 rfl (zldc2J X0 hx hby d35_172 (100000000000000000 : Int64) hZ hown (w260 hw) (zlcmp X0 hx hby d35_175 (lcmpW (Int64.ofNat (n)) (100000000000000000 : Int64)) rfl ?_)))
                                  show zEnds p e below s T0 (mkF m 176 #[.val (.long (Int64.ofNat (n))), .second] [(.int (lcmpW (Int64.ofNat (n)) (100000000000000000 : Int64)))]) _ _ _
                                  by_cases hd17 : n < 100000000000000000
                                  · refine zifNo X0 hx hby d35_176 ((if0 _ _).trans (tlt (show (lcmpW (Int64.ofNat (n)) (100000000000000000 : Int64)) < (0 : Int32) from by rw [lcmp_neg, show (100000000000000000 : Int64) = Int64.ofNat 100000000000000000 from by decide, ofL_lt (by omega) (by omega)]; omega)).2.1) (zbipush X0 hx hby d35_179 (z := (17 : Int32)) rfl ?_)
                                    show zEnds p e below s T0 (mkF m 181 #[.val (.long (Int64.ofNat (n))), .second] [(.int 17)]) _ _ _
                                    exact zretI X0 hx hby d35_181 hret hlk (by first | decide | omega | (dsimp only; omega)) (by first | decide | omega | (dsimp only; omega)) (⟨by rw [dec_len 16 n (by omega) (by omega)]; rfl, e0, rfl⟩)
                                  · refine zifYes X0 hx hby d35_176 182 ((if0 _ _).trans (flt (show ¬ ((lcmpW (Int64.ofNat (n)) (100000000000000000 : Int64)) < (0 : Int32)) from by rw [lcmp_neg, show (100000000000000000 : Int64) = Int64.ofNat 100000000000000000 from by decide, ofL_lt (by omega) (by omega)]; omega)).2.1) (by decide) (by decide) (zlloadN X0 hx hby d35_182 rfl (zldc2J X0 hx hby d35_183 (1000000000000000000 : Int64) hZ hown (w261 hw) (zlcmp X0 hx hby d35_186 (lcmpW (Int64.ofNat (n)) (1000000000000000000 : Int64)) rfl ?_)))
                                    show zEnds p e below s T0 (mkF m 187 #[.val (.long (Int64.ofNat (n))), .second] [(.int (lcmpW (Int64.ofNat (n)) (1000000000000000000 : Int64)))]) _ _ _
                                    by_cases hd18 : n < 1000000000000000000
                                    · refine zifNo X0 hx hby d35_187 ((if0 _ _).trans (tlt (show (lcmpW (Int64.ofNat (n)) (1000000000000000000 : Int64)) < (0 : Int32) from by rw [lcmp_neg, show (1000000000000000000 : Int64) = Int64.ofNat 1000000000000000000 from by decide, ofL_lt (by omega) (by omega)]; omega)).2.1) (zbipush X0 hx hby d35_190 (z := (18 : Int32)) rfl ?_)
                                      show zEnds p e below s T0 (mkF m 192 #[.val (.long (Int64.ofNat (n))), .second] [(.int 18)]) _ _ _
                                      exact zretI X0 hx hby d35_192 hret hlk (by first | decide | omega | (dsimp only; omega)) (by first | decide | omega | (dsimp only; omega)) (⟨by rw [dec_len 17 n (by omega) (by omega)]; rfl, e0, rfl⟩)
                                    · refine zifYes X0 hx hby d35_187 193 ((if0 _ _).trans (flt (show ¬ ((lcmpW (Int64.ofNat (n)) (1000000000000000000 : Int64)) < (0 : Int32)) from by rw [lcmp_neg, show (1000000000000000000 : Int64) = Int64.ofNat 1000000000000000000 from by decide, ofL_lt (by omega) (by omega)]; omega)).2.1) (by decide) (by decide) (zbipush X0 hx hby d35_193 (z := (19 : Int32)) rfl ?_)
                                      show zEnds p e below s T0 (mkF m 195 #[.val (.long (Int64.ofNat (n))), .second] [(.int 19)]) _ _ _
                                      exact zretI X0 hx hby d35_195 hret hlk (by first | decide | omega | (dsimp only; omega)) (by first | decide | omega | (dsimp only; omega)) (⟨by rw [dec_len 18 n (by omega) (by omega)]; rfl, e0, rfl⟩)
theorem c_req (hw : HW a0 Z) (C : Ctx Z cs d1 d2 o1 o2) (O0 : zOd Z n0 h0) (n : Nat) (r : Addr) (hn : n < 9223372036854775808) : zCon l Z (⟨"com/example/kick/kick/value/PoolMetrics", "requireZeroOrMore", "(JLjava/lang/String;)V"⟩ : MethodName) prog_12_method_12_code 3 none [] ({ frames := 0, cells := 0, slots := 0, locals := 0 } : Room) #[(.long (Int64.ofNat (n))), (.ref r)] h0 (zSame none h0) := by
  refine zenter (plainFor_of_name pn_9) (L0 := #[.val (.long (Int64.ofNat (n))), .second, rv r]) (fun m => by first | rfl | simp [entryFrame, mkF, argsToLocals, Value.category]) ?_
  intro p e s m below meth c T0 hx hZ hby hml hown0 hnm hret hlk X0 e0
  have hown : s.vm.findClass "com/example/kick/kick/value/PoolMetrics" = some m.cls := hown0
  show zEnds p e below s T0 (mkF m 0 #[.val (.long (Int64.ofNat (n))), .second, rv r] []) _ _ _
  refine zlloadN X0 hx hby d36_0 rfl (zlconst X0 hx hby d36_1 (z := (0 : Int64)) rfl (zlcmp X0 hx hby d36_2 (lcmpW (Int64.ofNat (n)) (0 : Int64)) rfl (zifYes X0 hx hby d36_3 37 ((if0 _ _).trans (flt (show ¬ ((lcmpW (Int64.ofNat (n)) (0 : Int64)) < (0 : Int32)) from by rw [lcmp_neg]; exact ofL_nn (by omega))).2.1) (by decide) (by decide) ?_)))
  show zEnds p e below s T0 (mkF m 37 #[.val (.long (Int64.ofNat (n))), .second, rv r] []) _ _ _
  exact zretV X0 hx hby d36_37 hret hlk (by first | decide | omega | (dsimp only; omega)) (by first | decide | omega | (dsimp only; omega)) (⟨rfl, e0, rfl⟩)
theorem w9 (hw : HW a0 Z) : (Cond.instantiable "com/example/kick/kick/value/PoolMetrics" 9).before a0 Z = true := hwi hw 9 rfl
theorem w10 (hw : HW a0 Z) : (Cond.initialized "com/example/kick/kick/value/PoolMetrics").before a0 Z = true := hwi hw 10 rfl
theorem w14 (hw : HW a0 Z) : (Cond.methodLink "com/example/kick/kick/value/PoolMetrics" 1 ⟨"java/lang/Object", "<init>", "()V"⟩).before a0 Z = true := hwi hw 14 rfl
theorem w17 (hw : HW a0 Z) : (Cond.stringLink "com/example/kick/kick/value/PoolMetrics" 7 "threads").before a0 Z = true := hwi hw 17 rfl
theorem w23 (hw : HW a0 Z) : (Cond.soleField "java/lang/String" "value").before a0 Z = true := hwi hw 23 rfl
theorem w24 (hw : HW a0 Z) : (Cond.soleField "java/lang/String" "coder").before a0 Z = true := hwi hw 24 rfl
theorem w25 (hw : HW a0 Z) : (Cond.methodLink "com/example/kick/kick/value/PoolMetrics" 9 ⟨"com/example/kick/kick/value/PoolMetrics", "requireZeroOrMore", "(JLjava/lang/String;)V"⟩).before a0 Z = true := hwi hw 25 rfl
theorem w26 (hw : HW a0 Z) : (Cond.static ⟨"com/example/kick/kick/value/PoolMetrics", "requireZeroOrMore", "(JLjava/lang/String;)V"⟩).before a0 Z = true := hwi hw 26 rfl
theorem w27 (hw : HW a0 Z) : (Cond.code ⟨"com/example/kick/kick/value/PoolMetrics", "requireZeroOrMore", "(JLjava/lang/String;)V"⟩ prog_12_method_12_code 3 (Option.none : Option Jvm.ClassFile.FieldType)).before a0 Z = true := hwi hw 27 rfl
theorem w28 (hw : HW a0 Z) : (Cond.stringLink "com/example/kick/kick/value/PoolMetrics" 15 "active").before a0 Z = true := hwi hw 28 rfl
theorem w29 (hw : HW a0 Z) : (Cond.stringLink "com/example/kick/kick/value/PoolMetrics" 17 "queued").before a0 Z = true := hwi hw 29 rfl
theorem w30 (hw : HW a0 Z) : (Cond.stringLink "com/example/kick/kick/value/PoolMetrics" 19 "submitted").before a0 Z = true := hwi hw 30 rfl
theorem w31 (hw : HW a0 Z) : (Cond.stringLink "com/example/kick/kick/value/PoolMetrics" 21 "completed").before a0 Z = true := hwi hw 31 rfl
theorem w32 (hw : HW a0 Z) : (Cond.stringLink "com/example/kick/kick/value/PoolMetrics" 23 "failed").before a0 Z = true := hwi hw 32 rfl
theorem w33 (hw : HW a0 Z) : (Cond.stringLink "com/example/kick/kick/value/PoolMetrics" 25 "rejected").before a0 Z = true := hwi hw 33 rfl
theorem w34 (hw : HW a0 Z) : (Cond.stringLink "com/example/kick/kick/value/PoolMetrics" 27 "discarded").before a0 Z = true := hwi hw 34 rfl
theorem w35 (hw : HW a0 Z) : (Cond.stringLink "com/example/kick/kick/value/PoolMetrics" 29 "callerRan").before a0 Z = true := hwi hw 35 rfl
theorem w36 (hw : HW a0 Z) : (Cond.fieldLink "com/example/kick/kick/value/PoolMetrics" 31 "com/example/kick/kick/value/PoolMetrics" "threads" "I").before a0 Z = true := hwi hw 36 rfl
theorem w37 (hw : HW a0 Z) : (Cond.laysFinal "com/example/kick/kick/value/PoolMetrics" "com/example/kick/kick/value/PoolMetrics" "threads" "I").before a0 Z = true := hwi hw 37 rfl
theorem w38 (hw : HW a0 Z) : (Cond.fieldLink "com/example/kick/kick/value/PoolMetrics" 34 "com/example/kick/kick/value/PoolMetrics" "active" "I").before a0 Z = true := hwi hw 38 rfl
theorem w39 (hw : HW a0 Z) : (Cond.laysFinal "com/example/kick/kick/value/PoolMetrics" "com/example/kick/kick/value/PoolMetrics" "active" "I").before a0 Z = true := hwi hw 39 rfl
theorem w40 (hw : HW a0 Z) : (Cond.fieldLink "com/example/kick/kick/value/PoolMetrics" 36 "com/example/kick/kick/value/PoolMetrics" "queued" "I").before a0 Z = true := hwi hw 40 rfl
theorem w41 (hw : HW a0 Z) : (Cond.laysFinal "com/example/kick/kick/value/PoolMetrics" "com/example/kick/kick/value/PoolMetrics" "queued" "I").before a0 Z = true := hwi hw 41 rfl
theorem w42 (hw : HW a0 Z) : (Cond.fieldLink "com/example/kick/kick/value/PoolMetrics" 38 "com/example/kick/kick/value/PoolMetrics" "submitted" "J").before a0 Z = true := hwi hw 42 rfl
theorem w43 (hw : HW a0 Z) : (Cond.laysFinal "com/example/kick/kick/value/PoolMetrics" "com/example/kick/kick/value/PoolMetrics" "submitted" "J").before a0 Z = true := hwi hw 43 rfl
theorem w44 (hw : HW a0 Z) : (Cond.fieldLink "com/example/kick/kick/value/PoolMetrics" 41 "com/example/kick/kick/value/PoolMetrics" "completed" "J").before a0 Z = true := hwi hw 44 rfl
theorem w45 (hw : HW a0 Z) : (Cond.laysFinal "com/example/kick/kick/value/PoolMetrics" "com/example/kick/kick/value/PoolMetrics" "completed" "J").before a0 Z = true := hwi hw 45 rfl
theorem w46 (hw : HW a0 Z) : (Cond.fieldLink "com/example/kick/kick/value/PoolMetrics" 43 "com/example/kick/kick/value/PoolMetrics" "failed" "J").before a0 Z = true := hwi hw 46 rfl
theorem w47 (hw : HW a0 Z) : (Cond.laysFinal "com/example/kick/kick/value/PoolMetrics" "com/example/kick/kick/value/PoolMetrics" "failed" "J").before a0 Z = true := hwi hw 47 rfl
theorem w48 (hw : HW a0 Z) : (Cond.fieldLink "com/example/kick/kick/value/PoolMetrics" 45 "com/example/kick/kick/value/PoolMetrics" "rejected" "J").before a0 Z = true := hwi hw 48 rfl
theorem w49 (hw : HW a0 Z) : (Cond.laysFinal "com/example/kick/kick/value/PoolMetrics" "com/example/kick/kick/value/PoolMetrics" "rejected" "J").before a0 Z = true := hwi hw 49 rfl
theorem w50 (hw : HW a0 Z) : (Cond.fieldLink "com/example/kick/kick/value/PoolMetrics" 47 "com/example/kick/kick/value/PoolMetrics" "discarded" "J").before a0 Z = true := hwi hw 50 rfl
theorem w51 (hw : HW a0 Z) : (Cond.laysFinal "com/example/kick/kick/value/PoolMetrics" "com/example/kick/kick/value/PoolMetrics" "discarded" "J").before a0 Z = true := hwi hw 51 rfl
theorem w52 (hw : HW a0 Z) : (Cond.fieldLink "com/example/kick/kick/value/PoolMetrics" 49 "com/example/kick/kick/value/PoolMetrics" "callerRan" "J").before a0 Z = true := hwi hw 52 rfl
theorem w53 (hw : HW a0 Z) : (Cond.laysFinal "com/example/kick/kick/value/PoolMetrics" "com/example/kick/kick/value/PoolMetrics" "callerRan" "J").before a0 Z = true := hwi hw 53 rfl
theorem d37_0 : decode prog_12_method_1_code 0 = .ok (.aload_n 0, 1) := by decide +kernel
theorem d37_1 : decode prog_12_method_1_code 1 = .ok (.invokespecial 1, 3) := by decide +kernel
theorem d37_4 : decode prog_12_method_1_code 4 = .ok (.iload_n 1, 1) := by decide +kernel
theorem d37_5 : decode prog_12_method_1_code 5 = .ok (.i2l, 1) := by decide +kernel
theorem d37_6 : decode prog_12_method_1_code 6 = .ok (.ldc 7, 2) := by decide +kernel
theorem d37_8 : decode prog_12_method_1_code 8 = .ok (.invokestatic 9, 3) := by decide +kernel
theorem d37_11 : decode prog_12_method_1_code 11 = .ok (.iload_n 2, 1) := by decide +kernel
theorem d37_12 : decode prog_12_method_1_code 12 = .ok (.i2l, 1) := by decide +kernel
theorem d37_13 : decode prog_12_method_1_code 13 = .ok (.ldc 15, 2) := by decide +kernel
theorem d37_15 : decode prog_12_method_1_code 15 = .ok (.invokestatic 9, 3) := by decide +kernel
theorem d37_18 : decode prog_12_method_1_code 18 = .ok (.iload_n 3, 1) := by decide +kernel
theorem d37_19 : decode prog_12_method_1_code 19 = .ok (.i2l, 1) := by decide +kernel
theorem d37_20 : decode prog_12_method_1_code 20 = .ok (.ldc 17, 2) := by decide +kernel
theorem d37_22 : decode prog_12_method_1_code 22 = .ok (.invokestatic 9, 3) := by decide +kernel
theorem d37_25 : decode prog_12_method_1_code 25 = .ok (.lload 4, 2) := by decide +kernel
theorem d37_27 : decode prog_12_method_1_code 27 = .ok (.ldc 19, 2) := by decide +kernel
theorem d37_29 : decode prog_12_method_1_code 29 = .ok (.invokestatic 9, 3) := by decide +kernel
theorem d37_32 : decode prog_12_method_1_code 32 = .ok (.lload 6, 2) := by decide +kernel
theorem d37_34 : decode prog_12_method_1_code 34 = .ok (.ldc 21, 2) := by decide +kernel
theorem d37_36 : decode prog_12_method_1_code 36 = .ok (.invokestatic 9, 3) := by decide +kernel
theorem d37_39 : decode prog_12_method_1_code 39 = .ok (.lload 8, 2) := by decide +kernel
theorem d37_41 : decode prog_12_method_1_code 41 = .ok (.ldc 23, 2) := by decide +kernel
theorem d37_43 : decode prog_12_method_1_code 43 = .ok (.invokestatic 9, 3) := by decide +kernel
theorem d37_46 : decode prog_12_method_1_code 46 = .ok (.lload 10, 2) := by decide +kernel
theorem d37_48 : decode prog_12_method_1_code 48 = .ok (.ldc 25, 2) := by decide +kernel
theorem d37_50 : decode prog_12_method_1_code 50 = .ok (.invokestatic 9, 3) := by decide +kernel
theorem d37_53 : decode prog_12_method_1_code 53 = .ok (.lload 12, 2) := by decide +kernel
theorem d37_55 : decode prog_12_method_1_code 55 = .ok (.ldc 27, 2) := by decide +kernel
theorem d37_57 : decode prog_12_method_1_code 57 = .ok (.invokestatic 9, 3) := by decide +kernel
theorem d37_60 : decode prog_12_method_1_code 60 = .ok (.lload 14, 2) := by decide +kernel
theorem d37_62 : decode prog_12_method_1_code 62 = .ok (.ldc 29, 2) := by decide +kernel
theorem d37_64 : decode prog_12_method_1_code 64 = .ok (.invokestatic 9, 3) := by decide +kernel
theorem d37_67 : decode prog_12_method_1_code 67 = .ok (.aload_n 0, 1) := by decide +kernel
theorem d37_68 : decode prog_12_method_1_code 68 = .ok (.iload_n 1, 1) := by decide +kernel
theorem d37_69 : decode prog_12_method_1_code 69 = .ok (.putfield 31, 3) := by decide +kernel
theorem d37_72 : decode prog_12_method_1_code 72 = .ok (.aload_n 0, 1) := by decide +kernel
theorem d37_73 : decode prog_12_method_1_code 73 = .ok (.iload_n 2, 1) := by decide +kernel
theorem d37_74 : decode prog_12_method_1_code 74 = .ok (.putfield 34, 3) := by decide +kernel
theorem d37_77 : decode prog_12_method_1_code 77 = .ok (.aload_n 0, 1) := by decide +kernel
theorem d37_78 : decode prog_12_method_1_code 78 = .ok (.iload_n 3, 1) := by decide +kernel
theorem d37_79 : decode prog_12_method_1_code 79 = .ok (.putfield 36, 3) := by decide +kernel
theorem d37_82 : decode prog_12_method_1_code 82 = .ok (.aload_n 0, 1) := by decide +kernel
theorem d37_83 : decode prog_12_method_1_code 83 = .ok (.lload 4, 2) := by decide +kernel
theorem d37_85 : decode prog_12_method_1_code 85 = .ok (.putfield 38, 3) := by decide +kernel
theorem d37_88 : decode prog_12_method_1_code 88 = .ok (.aload_n 0, 1) := by decide +kernel
theorem d37_89 : decode prog_12_method_1_code 89 = .ok (.lload 6, 2) := by decide +kernel
theorem d37_91 : decode prog_12_method_1_code 91 = .ok (.putfield 41, 3) := by decide +kernel
theorem d37_94 : decode prog_12_method_1_code 94 = .ok (.aload_n 0, 1) := by decide +kernel
theorem d37_95 : decode prog_12_method_1_code 95 = .ok (.lload 8, 2) := by decide +kernel
theorem d37_97 : decode prog_12_method_1_code 97 = .ok (.putfield 43, 3) := by decide +kernel
theorem d37_100 : decode prog_12_method_1_code 100 = .ok (.aload_n 0, 1) := by decide +kernel
theorem d37_101 : decode prog_12_method_1_code 101 = .ok (.lload 10, 2) := by decide +kernel
theorem d37_103 : decode prog_12_method_1_code 103 = .ok (.putfield 45, 3) := by decide +kernel
theorem d37_106 : decode prog_12_method_1_code 106 = .ok (.aload_n 0, 1) := by decide +kernel
theorem d37_107 : decode prog_12_method_1_code 107 = .ok (.lload 12, 2) := by decide +kernel
theorem d37_109 : decode prog_12_method_1_code 109 = .ok (.putfield 47, 3) := by decide +kernel
theorem d37_112 : decode prog_12_method_1_code 112 = .ok (.aload_n 0, 1) := by decide +kernel
theorem d37_113 : decode prog_12_method_1_code 113 = .ok (.lload 14, 2) := by decide +kernel
theorem d37_115 : decode prog_12_method_1_code 115 = .ok (.putfield 49, 3) := by decide +kernel
theorem d37_118 : decode prog_12_method_1_code 118 = .ok (.return_, 1) := by decide +kernel
theorem pd_23 : parseMethodDescriptor "(JLjava/lang/String;)V" = some ⟨[.long, (.object "java/lang/String")], none⟩ := by decide +kernel
def t_0 : List Int8 := [116, 104, 114, 101, 97, 100, 115]
theorem tx_0 : (∀ c ∈ "threads".toList, c.toNat < 256) ∧ "threads".toList.map (fun c => Value.int (Jvm.Lit.byteI c.toNat.toUInt16)) = t_0.map zbv := by decide +kernel
theorem tl_0 : t_0.length = 7 := rfl
def t_1 : List Int8 := [97, 99, 116, 105, 118, 101]
theorem tx_1 : (∀ c ∈ "active".toList, c.toNat < 256) ∧ "active".toList.map (fun c => Value.int (Jvm.Lit.byteI c.toNat.toUInt16)) = t_1.map zbv := by decide +kernel
theorem tl_1 : t_1.length = 6 := rfl
def t_2 : List Int8 := [113, 117, 101, 117, 101, 100]
theorem tx_2 : (∀ c ∈ "queued".toList, c.toNat < 256) ∧ "queued".toList.map (fun c => Value.int (Jvm.Lit.byteI c.toNat.toUInt16)) = t_2.map zbv := by decide +kernel
theorem tl_2 : t_2.length = 6 := rfl
def t_3 : List Int8 := [115, 117, 98, 109, 105, 116, 116, 101, 100]
theorem tx_3 : (∀ c ∈ "submitted".toList, c.toNat < 256) ∧ "submitted".toList.map (fun c => Value.int (Jvm.Lit.byteI c.toNat.toUInt16)) = t_3.map zbv := by decide +kernel
theorem tl_3 : t_3.length = 9 := rfl
def t_4 : List Int8 := [99, 111, 109, 112, 108, 101, 116, 101, 100]
theorem tx_4 : (∀ c ∈ "completed".toList, c.toNat < 256) ∧ "completed".toList.map (fun c => Value.int (Jvm.Lit.byteI c.toNat.toUInt16)) = t_4.map zbv := by decide +kernel
theorem tl_4 : t_4.length = 9 := rfl
def t_5 : List Int8 := [102, 97, 105, 108, 101, 100]
theorem tx_5 : (∀ c ∈ "failed".toList, c.toNat < 256) ∧ "failed".toList.map (fun c => Value.int (Jvm.Lit.byteI c.toNat.toUInt16)) = t_5.map zbv := by decide +kernel
theorem tl_5 : t_5.length = 6 := rfl
def t_6 : List Int8 := [114, 101, 106, 101, 99, 116, 101, 100]
theorem tx_6 : (∀ c ∈ "rejected".toList, c.toNat < 256) ∧ "rejected".toList.map (fun c => Value.int (Jvm.Lit.byteI c.toNat.toUInt16)) = t_6.map zbv := by decide +kernel
theorem tl_6 : t_6.length = 8 := rfl
def t_7 : List Int8 := [100, 105, 115, 99, 97, 114, 100, 101, 100]
theorem tx_7 : (∀ c ∈ "discarded".toList, c.toNat < 256) ∧ "discarded".toList.map (fun c => Value.int (Jvm.Lit.byteI c.toNat.toUInt16)) = t_7.map zbv := by decide +kernel
theorem tl_7 : t_7.length = 9 := rfl
def t_8 : List Int8 := [99, 97, 108, 108, 101, 114, 82, 97, 110]
theorem tx_8 : (∀ c ∈ "callerRan".toList, c.toNat < 256) ∧ "callerRan".toList.map (fun c => Value.int (Jvm.Lit.byteI c.toNat.toUInt16)) = t_8.map zbv := by decide +kernel
theorem tl_8 : t_8.length = 9 := rfl
def t_9 : List Int8 := [80, 111, 111, 108, 77, 101, 116, 114, 105, 99, 115, 91, 116, 104, 114, 101, 97, 100, 115, 61]
theorem tx_9 : (∀ c ∈ "PoolMetrics[threads=".toList, c.toNat < 256) ∧ "PoolMetrics[threads=".toList.map (fun c => Value.int (Jvm.Lit.byteI c.toNat.toUInt16)) = t_9.map zbv := by decide +kernel
theorem tl_9 : t_9.length = 20 := rfl
def t_10 : List Int8 := [44, 32, 97, 99, 116, 105, 118, 101, 61]
theorem tx_10 : (∀ c ∈ ", active=".toList, c.toNat < 256) ∧ ", active=".toList.map (fun c => Value.int (Jvm.Lit.byteI c.toNat.toUInt16)) = t_10.map zbv := by decide +kernel
theorem tl_10 : t_10.length = 9 := rfl
def t_11 : List Int8 := [44, 32, 113, 117, 101, 117, 101, 100, 61]
theorem tx_11 : (∀ c ∈ ", queued=".toList, c.toNat < 256) ∧ ", queued=".toList.map (fun c => Value.int (Jvm.Lit.byteI c.toNat.toUInt16)) = t_11.map zbv := by decide +kernel
theorem tl_11 : t_11.length = 9 := rfl
def t_12 : List Int8 := [44, 32, 115, 117, 98, 109, 105, 116, 116, 101, 100, 61]
theorem tx_12 : (∀ c ∈ ", submitted=".toList, c.toNat < 256) ∧ ", submitted=".toList.map (fun c => Value.int (Jvm.Lit.byteI c.toNat.toUInt16)) = t_12.map zbv := by decide +kernel
theorem tl_12 : t_12.length = 12 := rfl
def t_13 : List Int8 := [44, 32, 99, 111, 109, 112, 108, 101, 116, 101, 100, 61]
theorem tx_13 : (∀ c ∈ ", completed=".toList, c.toNat < 256) ∧ ", completed=".toList.map (fun c => Value.int (Jvm.Lit.byteI c.toNat.toUInt16)) = t_13.map zbv := by decide +kernel
theorem tl_13 : t_13.length = 12 := rfl
def t_14 : List Int8 := [44, 32, 102, 97, 105, 108, 101, 100, 61]
theorem tx_14 : (∀ c ∈ ", failed=".toList, c.toNat < 256) ∧ ", failed=".toList.map (fun c => Value.int (Jvm.Lit.byteI c.toNat.toUInt16)) = t_14.map zbv := by decide +kernel
theorem tl_14 : t_14.length = 9 := rfl
def t_15 : List Int8 := [44, 32, 114, 101, 106, 101, 99, 116, 101, 100, 61]
theorem tx_15 : (∀ c ∈ ", rejected=".toList, c.toNat < 256) ∧ ", rejected=".toList.map (fun c => Value.int (Jvm.Lit.byteI c.toNat.toUInt16)) = t_15.map zbv := by decide +kernel
theorem tl_15 : t_15.length = 11 := rfl
def t_16 : List Int8 := [44, 32, 100, 105, 115, 99, 97, 114, 100, 101, 100, 61]
theorem tx_16 : (∀ c ∈ ", discarded=".toList, c.toNat < 256) ∧ ", discarded=".toList.map (fun c => Value.int (Jvm.Lit.byteI c.toNat.toUInt16)) = t_16.map zbv := by decide +kernel
theorem tl_16 : t_16.length = 12 := rfl
def t_17 : List Int8 := [44, 32, 99, 97, 108, 108, 101, 114, 82, 97, 110, 61]
theorem tx_17 : (∀ c ∈ ", callerRan=".toList, c.toNat < 256) ∧ ", callerRan=".toList.map (fun c => Value.int (Jvm.Lit.byteI c.toNat.toUInt16)) = t_17.map zbv := by decide +kernel
theorem tl_17 : t_17.length = 12 := rfl
def t_18 : List Int8 := [93]
theorem tx_18 : (∀ c ∈ "]".toList, c.toNat < 256) ∧ "]".toList.map (fun c => Value.int (Jvm.Lit.byteI c.toNat.toUInt16)) = t_18.map zbv := by decide +kernel
theorem tl_18 : t_18.length = 1 := rfl
def t_19 : List Int8 := [80, 111, 111, 108, 77, 101, 116, 114, 105, 99, 115, 91, 116, 104, 114, 101, 97, 100, 115, 61, 49, 44, 32, 97, 99, 116, 105, 118, 101, 61, 50, 44, 32, 113, 117, 101, 117, 101, 100, 61, 51, 44, 32, 115, 117, 98, 109, 105, 116, 116, 101, 100, 61, 52, 44, 32, 99, 111, 109, 112, 108, 101, 116, 101, 100, 61, 53, 44, 32, 102, 97, 105, 108, 101, 100, 61, 54, 44, 32, 114, 101, 106, 101, 99, 116, 101, 100, 61, 55, 44, 32, 100, 105, 115, 99, 97, 114, 100, 101, 100, 61, 56, 44, 32, 99, 97, 108, 108, 101, 114, 82, 97, 110, 61, 57, 93]
theorem tx_19 : (∀ c ∈ "PoolMetrics[threads=1, active=2, queued=3, submitted=4, completed=5, failed=6, rejected=7, discarded=8, callerRan=9]".toList, c.toNat < 256) ∧ "PoolMetrics[threads=1, active=2, queued=3, submitted=4, completed=5, failed=6, rejected=7, discarded=8, callerRan=9]".toList.map (fun c => Value.int (Jvm.Lit.byteI c.toNat.toUInt16)) = t_19.map zbv := by decide +kernel
theorem tl_19 : t_19.length = 116 := rfl
theorem Sx.mk {Z : State} {h : Heap} {r b : Addr} {xs : List Int8} (q1 : Exa Z h r "java/lang/String") (q2 : Fld Z h r "java/lang/String" "value" "[B" (.ref b)) (q3 : Fld Z h r "java/lang/String" "coder" "B" (.int 0)) (q4 : zBt Z h b xs) : Sx Z h r b xs := ⟨q1, q2, q3, q4⟩
theorem Sx.ext {Z : State} {h h' : Heap} {r b : Addr} {xs : List Int8} (B : Sx Z h r b xs) (E : Ext h h') : Sx Z h' r b xs := ⟨B.1.ext E, B.2.1.ext E, B.2.2.1.ext E, B.2.2.2.ext E⟩
theorem Sx.keep {Z : State} {h h' : Heap} {r b : Addr} {xs : List Int8} {ws : List Addr} (B : Sx Z h r b xs) (K : Keep h h' ws) (q : r ∉ ws) (q' : b ∉ ws) : Sx Z h' r b xs := ⟨B.1.keep K, B.2.1.keep K q, B.2.2.1.keep K q, B.2.2.2.keep K q'⟩
theorem Sx.ltr {Z : State} {h : Heap} {r b : Addr} {xs : List Int8} (B : Sx Z h r b xs) : r < h.size := B.1.lt
theorem Sx.ltx {Z : State} {h : Heap} {r b : Addr} {xs : List Int8} (B : Sx Z h r b xs) : b < h.size := B.2.2.2.lt
theorem ibw {Z s0 : State} {v0 v1 : Vm} {Ts : List String} (I : IB Z v0 Ts) (hv : (s0.setVm v0).WarmedH v1) : IB Z v1 Ts := by
  obtain ⟨mo, q1, q2⟩ := I
  exact ⟨mo, by rw [hv.interned_eq]; exact q1, q2⟩
theorem wS {Z : State} {a0 : Array Value} (hw : HW a0 Z) : ∀ a ∈ Bundle.stringAtoms, a.before a0 Z = true := by
  intro a ha
  simp only [Bundle.stringAtoms, Bundle.sN, List.mem_cons, List.not_mem_nil, or_false] at ha
  rcases ha with rfl | rfl | rfl | rfl | rfl | rfl | rfl
  · exact (w18 hw)
  · exact (w19 hw)
  · exact (w20 hw)
  · exact (w21 hw)
  · exact (w22 hw)
  · exact (w23 hw)
  · exact (w24 hw)
def PMo (Z : State) (h : Heap) (o : Addr) (m0 m1 m2 m3 m4 m5 m6 m7 m8 : Nat) : Prop := Exa Z h o "com/example/kick/kick/value/PoolMetrics" ∧ Fld Z h o "com/example/kick/kick/value/PoolMetrics" "threads" "I" (.int (Int32.ofNat (m0))) ∧ Fld Z h o "com/example/kick/kick/value/PoolMetrics" "active" "I" (.int (Int32.ofNat (m1))) ∧ Fld Z h o "com/example/kick/kick/value/PoolMetrics" "queued" "I" (.int (Int32.ofNat (m2))) ∧ Fld Z h o "com/example/kick/kick/value/PoolMetrics" "submitted" "J" (.long (Int64.ofNat (m3))) ∧ Fld Z h o "com/example/kick/kick/value/PoolMetrics" "completed" "J" (.long (Int64.ofNat (m4))) ∧ Fld Z h o "com/example/kick/kick/value/PoolMetrics" "failed" "J" (.long (Int64.ofNat (m5))) ∧ Fld Z h o "com/example/kick/kick/value/PoolMetrics" "rejected" "J" (.long (Int64.ofNat (m6))) ∧ Fld Z h o "com/example/kick/kick/value/PoolMetrics" "discarded" "J" (.long (Int64.ofNat (m7))) ∧ Fld Z h o "com/example/kick/kick/value/PoolMetrics" "callerRan" "J" (.long (Int64.ofNat (m8)))
theorem i_cold (hw : HW a0 Z) (C : Ctx Z cs d1 d2 o1 o2) (O0 : zOd Z n0 h0) (hc : ∀ q ∈ consts_1, Jvm.Lit.constHeld Z q.1 q.2) (hcw : Jvm.Lit.compactW.before a0 Z = true) (o : Addr) (E_o : Exa Z h0 o "com/example/kick/kick/value/PoolMetrics") (F_o_threads : Fld Z h0 o "com/example/kick/kick/value/PoolMetrics" "threads" "I" (.int 0)) (F_o_active : Fld Z h0 o "com/example/kick/kick/value/PoolMetrics" "active" "I" (.int 0)) (F_o_queued : Fld Z h0 o "com/example/kick/kick/value/PoolMetrics" "queued" "I" (.int 0)) (F_o_submitted : Fld Z h0 o "com/example/kick/kick/value/PoolMetrics" "submitted" "J" (.long 0)) (F_o_completed : Fld Z h0 o "com/example/kick/kick/value/PoolMetrics" "completed" "J" (.long 0)) (F_o_failed : Fld Z h0 o "com/example/kick/kick/value/PoolMetrics" "failed" "J" (.long 0)) (F_o_rejected : Fld Z h0 o "com/example/kick/kick/value/PoolMetrics" "rejected" "J" (.long 0)) (F_o_discarded : Fld Z h0 o "com/example/kick/kick/value/PoolMetrics" "discarded" "J" (.long 0)) (F_o_callerRan : Fld Z h0 o "com/example/kick/kick/value/PoolMetrics" "callerRan" "J" (.long 0)) (g_o : n0 ≤ o) (m0 m1 m2 m3 m4 m5 m6 m7 m8 : Nat) (hm0 : m0 < 2147483648) (hm1 : m1 < 2147483648) (hm2 : m2 < 2147483648) (hm3 : m3 < 9223372036854775808) (hm4 : m4 < 9223372036854775808) (hm5 : m5 < 9223372036854775808) (hm6 : m6 < 9223372036854775808) (hm7 : m7 < 9223372036854775808) (hm8 : m8 < 9223372036854775808) : yConW l Z (⟨"com/example/kick/kick/value/PoolMetrics", "<init>", "(IIIJJJJJJ)V"⟩ : MethodName) prog_12_method_1_code 16 none [] ({ frames := 1, cells := 18, slots := 312, locals := 14 } : Room) #[(.ref o), (.int (Int32.ofNat (m0))), (.int (Int32.ofNat (m1))), (.int (Int32.ofNat (m2))), (.long (Int64.ofNat (m3))), (.long (Int64.ofNat (m4))), (.long (Int64.ofNat (m5))), (.long (Int64.ofNat (m6))), (.long (Int64.ofNat (m7))), (.long (Int64.ofNat (m8)))] (fun v => IB Z v []) h0 (fun v' v h L => v' = none ∧ Fr n0 L ∧ Keep h0 h [o] ∧ PMo Z h o m0 m1 m2 m3 m4 m5 m6 m7 m8 ∧ IB Z v ["callerRan", "discarded", "rejected", "failed", "completed", "submitted", "queued", "active", "threads"] ∧ ∃ r7 r15 r17 r19 r21 r23 r25 r27 r29 : Addr, Lit (Z.setVm v) "com/example/kick/kick/value/PoolMetrics" 7 r7 ∧ Lit (Z.setVm v) "com/example/kick/kick/value/PoolMetrics" 15 r15 ∧ Lit (Z.setVm v) "com/example/kick/kick/value/PoolMetrics" 17 r17 ∧ Lit (Z.setVm v) "com/example/kick/kick/value/PoolMetrics" 19 r19 ∧ Lit (Z.setVm v) "com/example/kick/kick/value/PoolMetrics" 21 r21 ∧ Lit (Z.setVm v) "com/example/kick/kick/value/PoolMetrics" 23 r23 ∧ Lit (Z.setVm v) "com/example/kick/kick/value/PoolMetrics" 25 r25 ∧ Lit (Z.setVm v) "com/example/kick/kick/value/PoolMetrics" 27 r27 ∧ Lit (Z.setVm v) "com/example/kick/kick/value/PoolMetrics" 29 r29) := by
  refine yenterW (plainFor_of_name pn_9) (L0 := #[rv o, iv (Int32.ofNat (m0)), iv (Int32.ofNat (m1)), iv (Int32.ofNat (m2)), .val (.long (Int64.ofNat (m3))), .second, .val (.long (Int64.ofNat (m4))), .second, .val (.long (Int64.ofNat (m5))), .second, .val (.long (Int64.ofNat (m6))), .second, .val (.long (Int64.ofNat (m7))), .second, .val (.long (Int64.ofNat (m8))), .second]) (fun m => by first | (simp [entryFrame, mkF, argsToLocals, Value.category]; done) | rfl) ?_
  intro p e s0 v0 m below meth c T0 hx hZ hby hml hown0 hnm hret hlk X0 e0 hS eh hP
  have hown : v0.findClass "com/example/kick/kick/value/PoolMetrics" = some m.cls := hown0
  have K0 := Keep.refl h0 [o]
  have N0 := Fr.nil n0
  have hI := hP
  show yEndsW p e below s0 T0 (mkF m 0 #[rv o, iv (Int32.ofNat (m0)), iv (Int32.ofNat (m1)), iv (Int32.ofNat (m2)), .val (.long (Int64.ofNat (m3))), .second, .val (.long (Int64.ofNat (m4))), .second, .val (.long (Int64.ofNat (m5))), .second, .val (.long (Int64.ofNat (m6))), .second, .val (.long (Int64.ofNat (m7))), .second, .val (.long (Int64.ofNat (m8))), .second] []) _ _ _
  refine yaloadN X0 hx hby d37_0 rfl rfl (yobjinit X0 hx hby d37_1 hZ hown (w14 hw) (w15 hw) (w16 hw) e0 hml 0 (fun T1 X1 e1 => ?_))
  refine yiloadN X1 hx hby d37_4 rfl (yi2l X1 hx hby d37_5 (Int64.ofNat (m0)) (i2l_ofN (by omega)) (yldcC X1 hx hby d37_6 hZ hown (w17 hw) (wS hw) e1 hS eh (Fr.nil _) O0.2.2 hI (by decide +kernel) (hc _ (List.mem_of_getElem? (i := 0) rfl)) hcw t_0 tx_0 (by decide +kernel) 28 (fun v2 T2 h2 r7 x7 X2 e2 Ex2 hZ hown hS hW2 E2_r V2_r C2_r A2_x hI Q7 ww2 => ?_) (by decide +kernel) (by decide +kernel) (by first | decide | omega | (dsimp only; omega)) (by first | decide | omega | (dsimp only; omega))))
  have F2_o_threads := F_o_threads.ext Ex2
  have F2_o_active := F_o_active.ext Ex2
  have F2_o_queued := F_o_queued.ext Ex2
  have F2_o_submitted := F_o_submitted.ext Ex2
  have F2_o_completed := F_o_completed.ext Ex2
  have F2_o_failed := F_o_failed.ext Ex2
  have F2_o_rejected := F_o_rejected.ext Ex2
  have F2_o_discarded := F_o_discarded.ext Ex2
  have F2_o_callerRan := F_o_callerRan.ext Ex2
  have E2_o := E_o.ext Ex2
  have O2 := O0.ext Ex2
  have K2 := Keep.ext K0 Ex2
  show yEndsW p e below s0 T2 (mkF m 8 #[rv o, iv (Int32.ofNat (m0)), iv (Int32.ofNat (m1)), iv (Int32.ofNat (m2)), .val (.long (Int64.ofNat (m3))), .second, .val (.long (Int64.ofNat (m4))), .second, .val (.long (Int64.ofNat (m5))), .second, .val (.long (Int64.ofNat (m6))), .second, .val (.long (Int64.ofNat (m7))), .second, .val (.long (Int64.ofNat (m8))), .second] [(.ref r7), (.long (Int64.ofNat (m0)))]) _ _ _
  refine ycalls X2 hx hby d37_8 hZ hown (w25 hw) (w26 hw) (w10 hw) (w27 hw) e2 (c_req l hw  C O2 m0 r7 (by omega)) hml 0 pd_23 (argsL := [(.long (Int64.ofNat (m0))), (.ref r7)]) (st := []) (ypureK ⟨rfl, rfl⟩ fun T3 X3 e3 => ?_)
  show yEndsW p e below s0 T3 (mkF m 11 #[rv o, iv (Int32.ofNat (m0)), iv (Int32.ofNat (m1)), iv (Int32.ofNat (m2)), .val (.long (Int64.ofNat (m3))), .second, .val (.long (Int64.ofNat (m4))), .second, .val (.long (Int64.ofNat (m5))), .second, .val (.long (Int64.ofNat (m6))), .second, .val (.long (Int64.ofNat (m7))), .second, .val (.long (Int64.ofNat (m8))), .second] []) _ _ _
  refine yiloadN X3 hx hby d37_11 rfl (yi2l X3 hx hby d37_12 (Int64.ofNat (m1)) (i2l_ofN (by omega)) (yldcC X3 hx hby d37_13 hZ hown (w28 hw) (wS hw) e3 hS eh (Fr.nil _) O0.2.2 hI (by decide +kernel) (hc _ (List.mem_of_getElem? (i := 1) rfl)) hcw t_1 tx_1 (by decide +kernel) 24 (fun v4 T4 h4 r15 x15 X4 e4 Ex4 hZ hown hS hW4 E4_r V4_r C4_r A4_x hI Q15 ww4 => ?_) (by decide +kernel) (by decide +kernel) (by first | decide | omega | (dsimp only; omega)) (by first | decide | omega | (dsimp only; omega))))
  have Q7 := Q7.stays hW4
  have F4_o_threads := F2_o_threads.ext Ex4
  have F4_o_active := F2_o_active.ext Ex4
  have F4_o_queued := F2_o_queued.ext Ex4
  have F4_o_submitted := F2_o_submitted.ext Ex4
  have F4_o_completed := F2_o_completed.ext Ex4
  have F4_o_failed := F2_o_failed.ext Ex4
  have F4_o_rejected := F2_o_rejected.ext Ex4
  have F4_o_discarded := F2_o_discarded.ext Ex4
  have F4_o_callerRan := F2_o_callerRan.ext Ex4
  have E4_o := E2_o.ext Ex4
  have O4 := O2.ext Ex4
  have K4 := Keep.ext K2 Ex4
  show yEndsW p e below s0 T4 (mkF m 15 #[rv o, iv (Int32.ofNat (m0)), iv (Int32.ofNat (m1)), iv (Int32.ofNat (m2)), .val (.long (Int64.ofNat (m3))), .second, .val (.long (Int64.ofNat (m4))), .second, .val (.long (Int64.ofNat (m5))), .second, .val (.long (Int64.ofNat (m6))), .second, .val (.long (Int64.ofNat (m7))), .second, .val (.long (Int64.ofNat (m8))), .second] [(.ref r15), (.long (Int64.ofNat (m1)))]) _ _ _
  refine ycalls X4 hx hby d37_15 hZ hown (w25 hw) (w26 hw) (w10 hw) (w27 hw) e4 (c_req l hw  C O4 m1 r15 (by omega)) hml 0 pd_23 (argsL := [(.long (Int64.ofNat (m1))), (.ref r15)]) (st := []) (ypureK ⟨rfl, rfl⟩ fun T5 X5 e5 => ?_)
  show yEndsW p e below s0 T5 (mkF m 18 #[rv o, iv (Int32.ofNat (m0)), iv (Int32.ofNat (m1)), iv (Int32.ofNat (m2)), .val (.long (Int64.ofNat (m3))), .second, .val (.long (Int64.ofNat (m4))), .second, .val (.long (Int64.ofNat (m5))), .second, .val (.long (Int64.ofNat (m6))), .second, .val (.long (Int64.ofNat (m7))), .second, .val (.long (Int64.ofNat (m8))), .second] []) _ _ _
  refine yiloadN X5 hx hby d37_18 rfl (yi2l X5 hx hby d37_19 (Int64.ofNat (m2)) (i2l_ofN (by omega)) (yldcC X5 hx hby d37_20 hZ hown (w29 hw) (wS hw) e5 hS eh (Fr.nil _) O0.2.2 hI (by decide +kernel) (hc _ (List.mem_of_getElem? (i := 2) rfl)) hcw t_2 tx_2 (by decide +kernel) 24 (fun v6 T6 h6 r17 x17 X6 e6 Ex6 hZ hown hS hW6 E6_r V6_r C6_r A6_x hI Q17 ww6 => ?_) (by decide +kernel) (by decide +kernel) (by first | decide | omega | (dsimp only; omega)) (by first | decide | omega | (dsimp only; omega))))
  have Q7 := Q7.stays hW6
  have Q15 := Q15.stays hW6
  have F6_o_threads := F4_o_threads.ext Ex6
  have F6_o_active := F4_o_active.ext Ex6
  have F6_o_queued := F4_o_queued.ext Ex6
  have F6_o_submitted := F4_o_submitted.ext Ex6
  have F6_o_completed := F4_o_completed.ext Ex6
  have F6_o_failed := F4_o_failed.ext Ex6
  have F6_o_rejected := F4_o_rejected.ext Ex6
  have F6_o_discarded := F4_o_discarded.ext Ex6
  have F6_o_callerRan := F4_o_callerRan.ext Ex6
  have E6_o := E4_o.ext Ex6
  have O6 := O4.ext Ex6
  have K6 := Keep.ext K4 Ex6
  show yEndsW p e below s0 T6 (mkF m 22 #[rv o, iv (Int32.ofNat (m0)), iv (Int32.ofNat (m1)), iv (Int32.ofNat (m2)), .val (.long (Int64.ofNat (m3))), .second, .val (.long (Int64.ofNat (m4))), .second, .val (.long (Int64.ofNat (m5))), .second, .val (.long (Int64.ofNat (m6))), .second, .val (.long (Int64.ofNat (m7))), .second, .val (.long (Int64.ofNat (m8))), .second] [(.ref r17), (.long (Int64.ofNat (m2)))]) _ _ _
  refine ycalls X6 hx hby d37_22 hZ hown (w25 hw) (w26 hw) (w10 hw) (w27 hw) e6 (c_req l hw  C O6 m2 r17 (by omega)) hml 0 pd_23 (argsL := [(.long (Int64.ofNat (m2))), (.ref r17)]) (st := []) (ypureK ⟨rfl, rfl⟩ fun T7 X7 e7 => ?_)
  show yEndsW p e below s0 T7 (mkF m 25 #[rv o, iv (Int32.ofNat (m0)), iv (Int32.ofNat (m1)), iv (Int32.ofNat (m2)), .val (.long (Int64.ofNat (m3))), .second, .val (.long (Int64.ofNat (m4))), .second, .val (.long (Int64.ofNat (m5))), .second, .val (.long (Int64.ofNat (m6))), .second, .val (.long (Int64.ofNat (m7))), .second, .val (.long (Int64.ofNat (m8))), .second] []) _ _ _
  refine ylload X7 hx hby d37_25 rfl (yldcC X7 hx hby d37_27 hZ hown (w30 hw) (wS hw) e7 hS eh (Fr.nil _) O0.2.2 hI (by decide +kernel) (hc _ (List.mem_of_getElem? (i := 3) rfl)) hcw t_3 tx_3 (by decide +kernel) 36 (fun v8 T8 h8 r19 x19 X8 e8 Ex8 hZ hown hS hW8 E8_r V8_r C8_r A8_x hI Q19 ww8 => ?_) (by decide +kernel) (by decide +kernel) (by first | decide | omega | (dsimp only; omega)) (by first | decide | omega | (dsimp only; omega)))
  have Q7 := Q7.stays hW8
  have Q15 := Q15.stays hW8
  have Q17 := Q17.stays hW8
  have F8_o_threads := F6_o_threads.ext Ex8
  have F8_o_active := F6_o_active.ext Ex8
  have F8_o_queued := F6_o_queued.ext Ex8
  have F8_o_submitted := F6_o_submitted.ext Ex8
  have F8_o_completed := F6_o_completed.ext Ex8
  have F8_o_failed := F6_o_failed.ext Ex8
  have F8_o_rejected := F6_o_rejected.ext Ex8
  have F8_o_discarded := F6_o_discarded.ext Ex8
  have F8_o_callerRan := F6_o_callerRan.ext Ex8
  have E8_o := E6_o.ext Ex8
  have O8 := O6.ext Ex8
  have K8 := Keep.ext K6 Ex8
  show yEndsW p e below s0 T8 (mkF m 29 #[rv o, iv (Int32.ofNat (m0)), iv (Int32.ofNat (m1)), iv (Int32.ofNat (m2)), .val (.long (Int64.ofNat (m3))), .second, .val (.long (Int64.ofNat (m4))), .second, .val (.long (Int64.ofNat (m5))), .second, .val (.long (Int64.ofNat (m6))), .second, .val (.long (Int64.ofNat (m7))), .second, .val (.long (Int64.ofNat (m8))), .second] [(.ref r19), (.long (Int64.ofNat (m3)))]) _ _ _
  refine ycalls X8 hx hby d37_29 hZ hown (w25 hw) (w26 hw) (w10 hw) (w27 hw) e8 (c_req l hw  C O8 m3 r19 (by omega)) hml 0 pd_23 (argsL := [(.long (Int64.ofNat (m3))), (.ref r19)]) (st := []) (ypureK ⟨rfl, rfl⟩ fun T9 X9 e9 => ?_)
  show yEndsW p e below s0 T9 (mkF m 32 #[rv o, iv (Int32.ofNat (m0)), iv (Int32.ofNat (m1)), iv (Int32.ofNat (m2)), .val (.long (Int64.ofNat (m3))), .second, .val (.long (Int64.ofNat (m4))), .second, .val (.long (Int64.ofNat (m5))), .second, .val (.long (Int64.ofNat (m6))), .second, .val (.long (Int64.ofNat (m7))), .second, .val (.long (Int64.ofNat (m8))), .second] []) _ _ _
  refine ylload X9 hx hby d37_32 rfl (yldcC X9 hx hby d37_34 hZ hown (w31 hw) (wS hw) e9 hS eh (Fr.nil _) O0.2.2 hI (by decide +kernel) (hc _ (List.mem_of_getElem? (i := 4) rfl)) hcw t_4 tx_4 (by decide +kernel) 36 (fun v10 T10 h10 r21 x21 X10 e10 Ex10 hZ hown hS hW10 E10_r V10_r C10_r A10_x hI Q21 ww10 => ?_) (by decide +kernel) (by decide +kernel) (by first | decide | omega | (dsimp only; omega)) (by first | decide | omega | (dsimp only; omega)))
  have Q7 := Q7.stays hW10
  have Q15 := Q15.stays hW10
  have Q17 := Q17.stays hW10
  have Q19 := Q19.stays hW10
  have F10_o_threads := F8_o_threads.ext Ex10
  have F10_o_active := F8_o_active.ext Ex10
  have F10_o_queued := F8_o_queued.ext Ex10
  have F10_o_submitted := F8_o_submitted.ext Ex10
  have F10_o_completed := F8_o_completed.ext Ex10
  have F10_o_failed := F8_o_failed.ext Ex10
  have F10_o_rejected := F8_o_rejected.ext Ex10
  have F10_o_discarded := F8_o_discarded.ext Ex10
  have F10_o_callerRan := F8_o_callerRan.ext Ex10
  have E10_o := E8_o.ext Ex10
  have O10 := O8.ext Ex10
  have K10 := Keep.ext K8 Ex10
  show yEndsW p e below s0 T10 (mkF m 36 #[rv o, iv (Int32.ofNat (m0)), iv (Int32.ofNat (m1)), iv (Int32.ofNat (m2)), .val (.long (Int64.ofNat (m3))), .second, .val (.long (Int64.ofNat (m4))), .second, .val (.long (Int64.ofNat (m5))), .second, .val (.long (Int64.ofNat (m6))), .second, .val (.long (Int64.ofNat (m7))), .second, .val (.long (Int64.ofNat (m8))), .second] [(.ref r21), (.long (Int64.ofNat (m4)))]) _ _ _
  refine ycalls X10 hx hby d37_36 hZ hown (w25 hw) (w26 hw) (w10 hw) (w27 hw) e10 (c_req l hw  C O10 m4 r21 (by omega)) hml 0 pd_23 (argsL := [(.long (Int64.ofNat (m4))), (.ref r21)]) (st := []) (ypureK ⟨rfl, rfl⟩ fun T11 X11 e11 => ?_)
  show yEndsW p e below s0 T11 (mkF m 39 #[rv o, iv (Int32.ofNat (m0)), iv (Int32.ofNat (m1)), iv (Int32.ofNat (m2)), .val (.long (Int64.ofNat (m3))), .second, .val (.long (Int64.ofNat (m4))), .second, .val (.long (Int64.ofNat (m5))), .second, .val (.long (Int64.ofNat (m6))), .second, .val (.long (Int64.ofNat (m7))), .second, .val (.long (Int64.ofNat (m8))), .second] []) _ _ _
  refine ylload X11 hx hby d37_39 rfl (yldcC X11 hx hby d37_41 hZ hown (w32 hw) (wS hw) e11 hS eh (Fr.nil _) O0.2.2 hI (by decide +kernel) (hc _ (List.mem_of_getElem? (i := 5) rfl)) hcw t_5 tx_5 (by decide +kernel) 24 (fun v12 T12 h12 r23 x23 X12 e12 Ex12 hZ hown hS hW12 E12_r V12_r C12_r A12_x hI Q23 ww12 => ?_) (by decide +kernel) (by decide +kernel) (by first | decide | omega | (dsimp only; omega)) (by first | decide | omega | (dsimp only; omega)))
  have Q7 := Q7.stays hW12
  have Q15 := Q15.stays hW12
  have Q17 := Q17.stays hW12
  have Q19 := Q19.stays hW12
  have Q21 := Q21.stays hW12
  have F12_o_threads := F10_o_threads.ext Ex12
  have F12_o_active := F10_o_active.ext Ex12
  have F12_o_queued := F10_o_queued.ext Ex12
  have F12_o_submitted := F10_o_submitted.ext Ex12
  have F12_o_completed := F10_o_completed.ext Ex12
  have F12_o_failed := F10_o_failed.ext Ex12
  have F12_o_rejected := F10_o_rejected.ext Ex12
  have F12_o_discarded := F10_o_discarded.ext Ex12
  have F12_o_callerRan := F10_o_callerRan.ext Ex12
  have E12_o := E10_o.ext Ex12
  have O12 := O10.ext Ex12
  have K12 := Keep.ext K10 Ex12
  show yEndsW p e below s0 T12 (mkF m 43 #[rv o, iv (Int32.ofNat (m0)), iv (Int32.ofNat (m1)), iv (Int32.ofNat (m2)), .val (.long (Int64.ofNat (m3))), .second, .val (.long (Int64.ofNat (m4))), .second, .val (.long (Int64.ofNat (m5))), .second, .val (.long (Int64.ofNat (m6))), .second, .val (.long (Int64.ofNat (m7))), .second, .val (.long (Int64.ofNat (m8))), .second] [(.ref r23), (.long (Int64.ofNat (m5)))]) _ _ _
  refine ycalls X12 hx hby d37_43 hZ hown (w25 hw) (w26 hw) (w10 hw) (w27 hw) e12 (c_req l hw  C O12 m5 r23 (by omega)) hml 0 pd_23 (argsL := [(.long (Int64.ofNat (m5))), (.ref r23)]) (st := []) (ypureK ⟨rfl, rfl⟩ fun T13 X13 e13 => ?_)
  show yEndsW p e below s0 T13 (mkF m 46 #[rv o, iv (Int32.ofNat (m0)), iv (Int32.ofNat (m1)), iv (Int32.ofNat (m2)), .val (.long (Int64.ofNat (m3))), .second, .val (.long (Int64.ofNat (m4))), .second, .val (.long (Int64.ofNat (m5))), .second, .val (.long (Int64.ofNat (m6))), .second, .val (.long (Int64.ofNat (m7))), .second, .val (.long (Int64.ofNat (m8))), .second] []) _ _ _
  refine ylload X13 hx hby d37_46 rfl (yldcC X13 hx hby d37_48 hZ hown (w33 hw) (wS hw) e13 hS eh (Fr.nil _) O0.2.2 hI (by decide +kernel) (hc _ (List.mem_of_getElem? (i := 6) rfl)) hcw t_6 tx_6 (by decide +kernel) 32 (fun v14 T14 h14 r25 x25 X14 e14 Ex14 hZ hown hS hW14 E14_r V14_r C14_r A14_x hI Q25 ww14 => ?_) (by decide +kernel) (by decide +kernel) (by first | decide | omega | (dsimp only; omega)) (by first | decide | omega | (dsimp only; omega)))
  have Q7 := Q7.stays hW14
  have Q15 := Q15.stays hW14
  have Q17 := Q17.stays hW14
  have Q19 := Q19.stays hW14
  have Q21 := Q21.stays hW14
  have Q23 := Q23.stays hW14
  have F14_o_threads := F12_o_threads.ext Ex14
  have F14_o_active := F12_o_active.ext Ex14
  have F14_o_queued := F12_o_queued.ext Ex14
  have F14_o_submitted := F12_o_submitted.ext Ex14
  have F14_o_completed := F12_o_completed.ext Ex14
  have F14_o_failed := F12_o_failed.ext Ex14
  have F14_o_rejected := F12_o_rejected.ext Ex14
  have F14_o_discarded := F12_o_discarded.ext Ex14
  have F14_o_callerRan := F12_o_callerRan.ext Ex14
  have E14_o := E12_o.ext Ex14
  have O14 := O12.ext Ex14
  have K14 := Keep.ext K12 Ex14
  show yEndsW p e below s0 T14 (mkF m 50 #[rv o, iv (Int32.ofNat (m0)), iv (Int32.ofNat (m1)), iv (Int32.ofNat (m2)), .val (.long (Int64.ofNat (m3))), .second, .val (.long (Int64.ofNat (m4))), .second, .val (.long (Int64.ofNat (m5))), .second, .val (.long (Int64.ofNat (m6))), .second, .val (.long (Int64.ofNat (m7))), .second, .val (.long (Int64.ofNat (m8))), .second] [(.ref r25), (.long (Int64.ofNat (m6)))]) _ _ _
  refine ycalls X14 hx hby d37_50 hZ hown (w25 hw) (w26 hw) (w10 hw) (w27 hw) e14 (c_req l hw  C O14 m6 r25 (by omega)) hml 0 pd_23 (argsL := [(.long (Int64.ofNat (m6))), (.ref r25)]) (st := []) (ypureK ⟨rfl, rfl⟩ fun T15 X15 e15 => ?_)
  show yEndsW p e below s0 T15 (mkF m 53 #[rv o, iv (Int32.ofNat (m0)), iv (Int32.ofNat (m1)), iv (Int32.ofNat (m2)), .val (.long (Int64.ofNat (m3))), .second, .val (.long (Int64.ofNat (m4))), .second, .val (.long (Int64.ofNat (m5))), .second, .val (.long (Int64.ofNat (m6))), .second, .val (.long (Int64.ofNat (m7))), .second, .val (.long (Int64.ofNat (m8))), .second] []) _ _ _
  refine ylload X15 hx hby d37_53 rfl (yldcC X15 hx hby d37_55 hZ hown (w34 hw) (wS hw) e15 hS eh (Fr.nil _) O0.2.2 hI (by decide +kernel) (hc _ (List.mem_of_getElem? (i := 7) rfl)) hcw t_7 tx_7 (by decide +kernel) 36 (fun v16 T16 h16 r27 x27 X16 e16 Ex16 hZ hown hS hW16 E16_r V16_r C16_r A16_x hI Q27 ww16 => ?_) (by decide +kernel) (by decide +kernel) (by first | decide | omega | (dsimp only; omega)) (by first | decide | omega | (dsimp only; omega)))
  have Q7 := Q7.stays hW16
  have Q15 := Q15.stays hW16
  have Q17 := Q17.stays hW16
  have Q19 := Q19.stays hW16
  have Q21 := Q21.stays hW16
  have Q23 := Q23.stays hW16
  have Q25 := Q25.stays hW16
  have F16_o_threads := F14_o_threads.ext Ex16
  have F16_o_active := F14_o_active.ext Ex16
  have F16_o_queued := F14_o_queued.ext Ex16
  have F16_o_submitted := F14_o_submitted.ext Ex16
  have F16_o_completed := F14_o_completed.ext Ex16
  have F16_o_failed := F14_o_failed.ext Ex16
  have F16_o_rejected := F14_o_rejected.ext Ex16
  have F16_o_discarded := F14_o_discarded.ext Ex16
  have F16_o_callerRan := F14_o_callerRan.ext Ex16
  have E16_o := E14_o.ext Ex16
  have O16 := O14.ext Ex16
  have K16 := Keep.ext K14 Ex16
  show yEndsW p e below s0 T16 (mkF m 57 #[rv o, iv (Int32.ofNat (m0)), iv (Int32.ofNat (m1)), iv (Int32.ofNat (m2)), .val (.long (Int64.ofNat (m3))), .second, .val (.long (Int64.ofNat (m4))), .second, .val (.long (Int64.ofNat (m5))), .second, .val (.long (Int64.ofNat (m6))), .second, .val (.long (Int64.ofNat (m7))), .second, .val (.long (Int64.ofNat (m8))), .second] [(.ref r27), (.long (Int64.ofNat (m7)))]) _ _ _
  refine ycalls X16 hx hby d37_57 hZ hown (w25 hw) (w26 hw) (w10 hw) (w27 hw) e16 (c_req l hw  C O16 m7 r27 (by omega)) hml 0 pd_23 (argsL := [(.long (Int64.ofNat (m7))), (.ref r27)]) (st := []) (ypureK ⟨rfl, rfl⟩ fun T17 X17 e17 => ?_)
  show yEndsW p e below s0 T17 (mkF m 60 #[rv o, iv (Int32.ofNat (m0)), iv (Int32.ofNat (m1)), iv (Int32.ofNat (m2)), .val (.long (Int64.ofNat (m3))), .second, .val (.long (Int64.ofNat (m4))), .second, .val (.long (Int64.ofNat (m5))), .second, .val (.long (Int64.ofNat (m6))), .second, .val (.long (Int64.ofNat (m7))), .second, .val (.long (Int64.ofNat (m8))), .second] []) _ _ _
  refine ylload X17 hx hby d37_60 rfl (yldcC X17 hx hby d37_62 hZ hown (w35 hw) (wS hw) e17 hS eh (Fr.nil _) O0.2.2 hI (by decide +kernel) (hc _ (List.mem_of_getElem? (i := 8) rfl)) hcw t_8 tx_8 (by decide +kernel) 36 (fun v18 T18 h18 r29 x29 X18 e18 Ex18 hZ hown hS hW18 E18_r V18_r C18_r A18_x hI Q29 ww18 => ?_) (by decide +kernel) (by decide +kernel) (by first | decide | omega | (dsimp only; omega)) (by first | decide | omega | (dsimp only; omega)))
  have Q7 := Q7.stays hW18
  have Q15 := Q15.stays hW18
  have Q17 := Q17.stays hW18
  have Q19 := Q19.stays hW18
  have Q21 := Q21.stays hW18
  have Q23 := Q23.stays hW18
  have Q25 := Q25.stays hW18
  have Q27 := Q27.stays hW18
  have F18_o_threads := F16_o_threads.ext Ex18
  have F18_o_active := F16_o_active.ext Ex18
  have F18_o_queued := F16_o_queued.ext Ex18
  have F18_o_submitted := F16_o_submitted.ext Ex18
  have F18_o_completed := F16_o_completed.ext Ex18
  have F18_o_failed := F16_o_failed.ext Ex18
  have F18_o_rejected := F16_o_rejected.ext Ex18
  have F18_o_discarded := F16_o_discarded.ext Ex18
  have F18_o_callerRan := F16_o_callerRan.ext Ex18
  have E18_o := E16_o.ext Ex18
  have O18 := O16.ext Ex18
  have K18 := Keep.ext K16 Ex18
  show yEndsW p e below s0 T18 (mkF m 64 #[rv o, iv (Int32.ofNat (m0)), iv (Int32.ofNat (m1)), iv (Int32.ofNat (m2)), .val (.long (Int64.ofNat (m3))), .second, .val (.long (Int64.ofNat (m4))), .second, .val (.long (Int64.ofNat (m5))), .second, .val (.long (Int64.ofNat (m6))), .second, .val (.long (Int64.ofNat (m7))), .second, .val (.long (Int64.ofNat (m8))), .second] [(.ref r29), (.long (Int64.ofNat (m8)))]) _ _ _
  refine ycalls X18 hx hby d37_64 hZ hown (w25 hw) (w26 hw) (w10 hw) (w27 hw) e18 (c_req l hw  C O18 m8 r29 (by omega)) hml 0 pd_23 (argsL := [(.long (Int64.ofNat (m8))), (.ref r29)]) (st := []) (ypureK ⟨rfl, rfl⟩ fun T19 X19 e19 => ?_)
  show yEndsW p e below s0 T19 (mkF m 67 #[rv o, iv (Int32.ofNat (m0)), iv (Int32.ofNat (m1)), iv (Int32.ofNat (m2)), .val (.long (Int64.ofNat (m3))), .second, .val (.long (Int64.ofNat (m4))), .second, .val (.long (Int64.ofNat (m5))), .second, .val (.long (Int64.ofNat (m6))), .second, .val (.long (Int64.ofNat (m7))), .second, .val (.long (Int64.ofNat (m8))), .second] []) _ _ _
  refine yaloadN X19 hx hby d37_67 rfl rfl (yiloadN X19 hx hby d37_68 rfl (yputfld X19 hx hby d37_69 hZ hown (host := "") (Or.inl (w36 hw)) Via.refl e19 F18_o_threads E18_o (Or.inr ⟨(w37 hw), rfl, hnm⟩) (w9 hw) (ty := .int) (by decide) rfl rfl fun T20 h20 X20 e20 W20 => ?_))
  have F20_o_threads : Fld Z h20 o "com/example/kick/kick/value/PoolMetrics" "threads" "I" (.int (Int32.ofNat (m0))) := F18_o_threads.same W20
  have F20_o_active := F18_o_active.other W20 (Or.inr (slot_ne (Or.inr (w39 hw)) (Or.inr (w37 hw)) (by decide) (t := .int) (t' := .int) (by decide) (by decide)))
  have F20_o_queued := F18_o_queued.other W20 (Or.inr (slot_ne (Or.inr (w41 hw)) (Or.inr (w37 hw)) (by decide) (t := .int) (t' := .int) (by decide) (by decide)))
  have F20_o_submitted := F18_o_submitted.other W20 (Or.inr (slot_ne (Or.inr (w43 hw)) (Or.inr (w37 hw)) (by decide) (t := .long) (t' := .int) (by decide) (by decide)))
  have F20_o_completed := F18_o_completed.other W20 (Or.inr (slot_ne (Or.inr (w45 hw)) (Or.inr (w37 hw)) (by decide) (t := .long) (t' := .int) (by decide) (by decide)))
  have F20_o_failed := F18_o_failed.other W20 (Or.inr (slot_ne (Or.inr (w47 hw)) (Or.inr (w37 hw)) (by decide) (t := .long) (t' := .int) (by decide) (by decide)))
  have F20_o_rejected := F18_o_rejected.other W20 (Or.inr (slot_ne (Or.inr (w49 hw)) (Or.inr (w37 hw)) (by decide) (t := .long) (t' := .int) (by decide) (by decide)))
  have F20_o_discarded := F18_o_discarded.other W20 (Or.inr (slot_ne (Or.inr (w51 hw)) (Or.inr (w37 hw)) (by decide) (t := .long) (t' := .int) (by decide) (by decide)))
  have F20_o_callerRan := F18_o_callerRan.other W20 (Or.inr (slot_ne (Or.inr (w53 hw)) (Or.inr (w37 hw)) (by decide) (t := .long) (t' := .int) (by decide) (by decide)))
  have E20_o := E18_o.wr W20
  have hS := hS.wr W20
  have K20 := Keep.wr K18 W20 (Or.inl (List.mem_of_getElem? (i := 0) rfl))
  have N20 := Fr.snoc X20 N0 g_o
  refine yaloadN X20 hx hby d37_72 rfl rfl (yiloadN X20 hx hby d37_73 rfl (yputfld X20 hx hby d37_74 hZ hown (host := "") (Or.inl (w38 hw)) Via.refl e20 F20_o_active E20_o (Or.inr ⟨(w39 hw), rfl, hnm⟩) (w9 hw) (ty := .int) (by decide) rfl rfl fun T21 h21 X21 e21 W21 => ?_))
  have F21_o_active : Fld Z h21 o "com/example/kick/kick/value/PoolMetrics" "active" "I" (.int (Int32.ofNat (m1))) := F20_o_active.same W21
  have F21_o_threads := F20_o_threads.other W21 (Or.inr (slot_ne (Or.inr (w37 hw)) (Or.inr (w39 hw)) (by decide) (t := .int) (t' := .int) (by decide) (by decide)))
  have F21_o_queued := F20_o_queued.other W21 (Or.inr (slot_ne (Or.inr (w41 hw)) (Or.inr (w39 hw)) (by decide) (t := .int) (t' := .int) (by decide) (by decide)))
  have F21_o_submitted := F20_o_submitted.other W21 (Or.inr (slot_ne (Or.inr (w43 hw)) (Or.inr (w39 hw)) (by decide) (t := .long) (t' := .int) (by decide) (by decide)))
  have F21_o_completed := F20_o_completed.other W21 (Or.inr (slot_ne (Or.inr (w45 hw)) (Or.inr (w39 hw)) (by decide) (t := .long) (t' := .int) (by decide) (by decide)))
  have F21_o_failed := F20_o_failed.other W21 (Or.inr (slot_ne (Or.inr (w47 hw)) (Or.inr (w39 hw)) (by decide) (t := .long) (t' := .int) (by decide) (by decide)))
  have F21_o_rejected := F20_o_rejected.other W21 (Or.inr (slot_ne (Or.inr (w49 hw)) (Or.inr (w39 hw)) (by decide) (t := .long) (t' := .int) (by decide) (by decide)))
  have F21_o_discarded := F20_o_discarded.other W21 (Or.inr (slot_ne (Or.inr (w51 hw)) (Or.inr (w39 hw)) (by decide) (t := .long) (t' := .int) (by decide) (by decide)))
  have F21_o_callerRan := F20_o_callerRan.other W21 (Or.inr (slot_ne (Or.inr (w53 hw)) (Or.inr (w39 hw)) (by decide) (t := .long) (t' := .int) (by decide) (by decide)))
  have E21_o := E20_o.wr W21
  have hS := hS.wr W21
  have K21 := Keep.wr K20 W21 (Or.inl (List.mem_of_getElem? (i := 0) rfl))
  have N21 := Fr.snoc X21 N20 g_o
  refine yaloadN X21 hx hby d37_77 rfl rfl (yiloadN X21 hx hby d37_78 rfl (yputfld X21 hx hby d37_79 hZ hown (host := "") (Or.inl (w40 hw)) Via.refl e21 F21_o_queued E21_o (Or.inr ⟨(w41 hw), rfl, hnm⟩) (w9 hw) (ty := .int) (by decide) rfl rfl fun T22 h22 X22 e22 W22 => ?_))
  have F22_o_queued : Fld Z h22 o "com/example/kick/kick/value/PoolMetrics" "queued" "I" (.int (Int32.ofNat (m2))) := F21_o_queued.same W22
  have F22_o_threads := F21_o_threads.other W22 (Or.inr (slot_ne (Or.inr (w37 hw)) (Or.inr (w41 hw)) (by decide) (t := .int) (t' := .int) (by decide) (by decide)))
  have F22_o_active := F21_o_active.other W22 (Or.inr (slot_ne (Or.inr (w39 hw)) (Or.inr (w41 hw)) (by decide) (t := .int) (t' := .int) (by decide) (by decide)))
  have F22_o_submitted := F21_o_submitted.other W22 (Or.inr (slot_ne (Or.inr (w43 hw)) (Or.inr (w41 hw)) (by decide) (t := .long) (t' := .int) (by decide) (by decide)))
  have F22_o_completed := F21_o_completed.other W22 (Or.inr (slot_ne (Or.inr (w45 hw)) (Or.inr (w41 hw)) (by decide) (t := .long) (t' := .int) (by decide) (by decide)))
  have F22_o_failed := F21_o_failed.other W22 (Or.inr (slot_ne (Or.inr (w47 hw)) (Or.inr (w41 hw)) (by decide) (t := .long) (t' := .int) (by decide) (by decide)))
  have F22_o_rejected := F21_o_rejected.other W22 (Or.inr (slot_ne (Or.inr (w49 hw)) (Or.inr (w41 hw)) (by decide) (t := .long) (t' := .int) (by decide) (by decide)))
  have F22_o_discarded := F21_o_discarded.other W22 (Or.inr (slot_ne (Or.inr (w51 hw)) (Or.inr (w41 hw)) (by decide) (t := .long) (t' := .int) (by decide) (by decide)))
  have F22_o_callerRan := F21_o_callerRan.other W22 (Or.inr (slot_ne (Or.inr (w53 hw)) (Or.inr (w41 hw)) (by decide) (t := .long) (t' := .int) (by decide) (by decide)))
  have E22_o := E21_o.wr W22
  have hS := hS.wr W22
  have K22 := Keep.wr K21 W22 (Or.inl (List.mem_of_getElem? (i := 0) rfl))
  have N22 := Fr.snoc X22 N21 g_o
  refine yaloadN X22 hx hby d37_82 rfl rfl (ylload X22 hx hby d37_83 rfl (yputfld X22 hx hby d37_85 hZ hown (host := "") (Or.inl (w42 hw)) Via.refl e22 F22_o_submitted E22_o (Or.inr ⟨(w43 hw), rfl, hnm⟩) (w9 hw) (ty := .long) (by decide) rfl rfl fun T23 h23 X23 e23 W23 => ?_))
  have F23_o_submitted : Fld Z h23 o "com/example/kick/kick/value/PoolMetrics" "submitted" "J" (.long (Int64.ofNat (m3))) := F22_o_submitted.same W23
  have F23_o_threads := F22_o_threads.other W23 (Or.inr (slot_ne (Or.inr (w37 hw)) (Or.inr (w43 hw)) (by decide) (t := .int) (t' := .long) (by decide) (by decide)))
  have F23_o_active := F22_o_active.other W23 (Or.inr (slot_ne (Or.inr (w39 hw)) (Or.inr (w43 hw)) (by decide) (t := .int) (t' := .long) (by decide) (by decide)))
  have F23_o_queued := F22_o_queued.other W23 (Or.inr (slot_ne (Or.inr (w41 hw)) (Or.inr (w43 hw)) (by decide) (t := .int) (t' := .long) (by decide) (by decide)))
  have F23_o_completed := F22_o_completed.other W23 (Or.inr (slot_ne (Or.inr (w45 hw)) (Or.inr (w43 hw)) (by decide) (t := .long) (t' := .long) (by decide) (by decide)))
  have F23_o_failed := F22_o_failed.other W23 (Or.inr (slot_ne (Or.inr (w47 hw)) (Or.inr (w43 hw)) (by decide) (t := .long) (t' := .long) (by decide) (by decide)))
  have F23_o_rejected := F22_o_rejected.other W23 (Or.inr (slot_ne (Or.inr (w49 hw)) (Or.inr (w43 hw)) (by decide) (t := .long) (t' := .long) (by decide) (by decide)))
  have F23_o_discarded := F22_o_discarded.other W23 (Or.inr (slot_ne (Or.inr (w51 hw)) (Or.inr (w43 hw)) (by decide) (t := .long) (t' := .long) (by decide) (by decide)))
  have F23_o_callerRan := F22_o_callerRan.other W23 (Or.inr (slot_ne (Or.inr (w53 hw)) (Or.inr (w43 hw)) (by decide) (t := .long) (t' := .long) (by decide) (by decide)))
  have E23_o := E22_o.wr W23
  have hS := hS.wr W23
  have K23 := Keep.wr K22 W23 (Or.inl (List.mem_of_getElem? (i := 0) rfl))
  have N23 := Fr.snoc X23 N22 g_o
  refine yaloadN X23 hx hby d37_88 rfl rfl (ylload X23 hx hby d37_89 rfl (yputfld X23 hx hby d37_91 hZ hown (host := "") (Or.inl (w44 hw)) Via.refl e23 F23_o_completed E23_o (Or.inr ⟨(w45 hw), rfl, hnm⟩) (w9 hw) (ty := .long) (by decide) rfl rfl fun T24 h24 X24 e24 W24 => ?_))
  have F24_o_completed : Fld Z h24 o "com/example/kick/kick/value/PoolMetrics" "completed" "J" (.long (Int64.ofNat (m4))) := F23_o_completed.same W24
  have F24_o_threads := F23_o_threads.other W24 (Or.inr (slot_ne (Or.inr (w37 hw)) (Or.inr (w45 hw)) (by decide) (t := .int) (t' := .long) (by decide) (by decide)))
  have F24_o_active := F23_o_active.other W24 (Or.inr (slot_ne (Or.inr (w39 hw)) (Or.inr (w45 hw)) (by decide) (t := .int) (t' := .long) (by decide) (by decide)))
  have F24_o_queued := F23_o_queued.other W24 (Or.inr (slot_ne (Or.inr (w41 hw)) (Or.inr (w45 hw)) (by decide) (t := .int) (t' := .long) (by decide) (by decide)))
  have F24_o_submitted := F23_o_submitted.other W24 (Or.inr (slot_ne (Or.inr (w43 hw)) (Or.inr (w45 hw)) (by decide) (t := .long) (t' := .long) (by decide) (by decide)))
  have F24_o_failed := F23_o_failed.other W24 (Or.inr (slot_ne (Or.inr (w47 hw)) (Or.inr (w45 hw)) (by decide) (t := .long) (t' := .long) (by decide) (by decide)))
  have F24_o_rejected := F23_o_rejected.other W24 (Or.inr (slot_ne (Or.inr (w49 hw)) (Or.inr (w45 hw)) (by decide) (t := .long) (t' := .long) (by decide) (by decide)))
  have F24_o_discarded := F23_o_discarded.other W24 (Or.inr (slot_ne (Or.inr (w51 hw)) (Or.inr (w45 hw)) (by decide) (t := .long) (t' := .long) (by decide) (by decide)))
  have F24_o_callerRan := F23_o_callerRan.other W24 (Or.inr (slot_ne (Or.inr (w53 hw)) (Or.inr (w45 hw)) (by decide) (t := .long) (t' := .long) (by decide) (by decide)))
  have E24_o := E23_o.wr W24
  have hS := hS.wr W24
  have K24 := Keep.wr K23 W24 (Or.inl (List.mem_of_getElem? (i := 0) rfl))
  have N24 := Fr.snoc X24 N23 g_o
  refine yaloadN X24 hx hby d37_94 rfl rfl (ylload X24 hx hby d37_95 rfl (yputfld X24 hx hby d37_97 hZ hown (host := "") (Or.inl (w46 hw)) Via.refl e24 F24_o_failed E24_o (Or.inr ⟨(w47 hw), rfl, hnm⟩) (w9 hw) (ty := .long) (by decide) rfl rfl fun T25 h25 X25 e25 W25 => ?_))
  have F25_o_failed : Fld Z h25 o "com/example/kick/kick/value/PoolMetrics" "failed" "J" (.long (Int64.ofNat (m5))) := F24_o_failed.same W25
  have F25_o_threads := F24_o_threads.other W25 (Or.inr (slot_ne (Or.inr (w37 hw)) (Or.inr (w47 hw)) (by decide) (t := .int) (t' := .long) (by decide) (by decide)))
  have F25_o_active := F24_o_active.other W25 (Or.inr (slot_ne (Or.inr (w39 hw)) (Or.inr (w47 hw)) (by decide) (t := .int) (t' := .long) (by decide) (by decide)))
  have F25_o_queued := F24_o_queued.other W25 (Or.inr (slot_ne (Or.inr (w41 hw)) (Or.inr (w47 hw)) (by decide) (t := .int) (t' := .long) (by decide) (by decide)))
  have F25_o_submitted := F24_o_submitted.other W25 (Or.inr (slot_ne (Or.inr (w43 hw)) (Or.inr (w47 hw)) (by decide) (t := .long) (t' := .long) (by decide) (by decide)))
  have F25_o_completed := F24_o_completed.other W25 (Or.inr (slot_ne (Or.inr (w45 hw)) (Or.inr (w47 hw)) (by decide) (t := .long) (t' := .long) (by decide) (by decide)))
  have F25_o_rejected := F24_o_rejected.other W25 (Or.inr (slot_ne (Or.inr (w49 hw)) (Or.inr (w47 hw)) (by decide) (t := .long) (t' := .long) (by decide) (by decide)))
  have F25_o_discarded := F24_o_discarded.other W25 (Or.inr (slot_ne (Or.inr (w51 hw)) (Or.inr (w47 hw)) (by decide) (t := .long) (t' := .long) (by decide) (by decide)))
  have F25_o_callerRan := F24_o_callerRan.other W25 (Or.inr (slot_ne (Or.inr (w53 hw)) (Or.inr (w47 hw)) (by decide) (t := .long) (t' := .long) (by decide) (by decide)))
  have E25_o := E24_o.wr W25
  have hS := hS.wr W25
  have K25 := Keep.wr K24 W25 (Or.inl (List.mem_of_getElem? (i := 0) rfl))
  have N25 := Fr.snoc X25 N24 g_o
  refine yaloadN X25 hx hby d37_100 rfl rfl (ylload X25 hx hby d37_101 rfl (yputfld X25 hx hby d37_103 hZ hown (host := "") (Or.inl (w48 hw)) Via.refl e25 F25_o_rejected E25_o (Or.inr ⟨(w49 hw), rfl, hnm⟩) (w9 hw) (ty := .long) (by decide) rfl rfl fun T26 h26 X26 e26 W26 => ?_))
  have F26_o_rejected : Fld Z h26 o "com/example/kick/kick/value/PoolMetrics" "rejected" "J" (.long (Int64.ofNat (m6))) := F25_o_rejected.same W26
  have F26_o_threads := F25_o_threads.other W26 (Or.inr (slot_ne (Or.inr (w37 hw)) (Or.inr (w49 hw)) (by decide) (t := .int) (t' := .long) (by decide) (by decide)))
  have F26_o_active := F25_o_active.other W26 (Or.inr (slot_ne (Or.inr (w39 hw)) (Or.inr (w49 hw)) (by decide) (t := .int) (t' := .long) (by decide) (by decide)))
  have F26_o_queued := F25_o_queued.other W26 (Or.inr (slot_ne (Or.inr (w41 hw)) (Or.inr (w49 hw)) (by decide) (t := .int) (t' := .long) (by decide) (by decide)))
  have F26_o_submitted := F25_o_submitted.other W26 (Or.inr (slot_ne (Or.inr (w43 hw)) (Or.inr (w49 hw)) (by decide) (t := .long) (t' := .long) (by decide) (by decide)))
  have F26_o_completed := F25_o_completed.other W26 (Or.inr (slot_ne (Or.inr (w45 hw)) (Or.inr (w49 hw)) (by decide) (t := .long) (t' := .long) (by decide) (by decide)))
  have F26_o_failed := F25_o_failed.other W26 (Or.inr (slot_ne (Or.inr (w47 hw)) (Or.inr (w49 hw)) (by decide) (t := .long) (t' := .long) (by decide) (by decide)))
  have F26_o_discarded := F25_o_discarded.other W26 (Or.inr (slot_ne (Or.inr (w51 hw)) (Or.inr (w49 hw)) (by decide) (t := .long) (t' := .long) (by decide) (by decide)))
  have F26_o_callerRan := F25_o_callerRan.other W26 (Or.inr (slot_ne (Or.inr (w53 hw)) (Or.inr (w49 hw)) (by decide) (t := .long) (t' := .long) (by decide) (by decide)))
  have E26_o := E25_o.wr W26
  have hS := hS.wr W26
  have K26 := Keep.wr K25 W26 (Or.inl (List.mem_of_getElem? (i := 0) rfl))
  have N26 := Fr.snoc X26 N25 g_o
  refine yaloadN X26 hx hby d37_106 rfl rfl (ylload X26 hx hby d37_107 rfl (yputfld X26 hx hby d37_109 hZ hown (host := "") (Or.inl (w50 hw)) Via.refl e26 F26_o_discarded E26_o (Or.inr ⟨(w51 hw), rfl, hnm⟩) (w9 hw) (ty := .long) (by decide) rfl rfl fun T27 h27 X27 e27 W27 => ?_))
  have F27_o_discarded : Fld Z h27 o "com/example/kick/kick/value/PoolMetrics" "discarded" "J" (.long (Int64.ofNat (m7))) := F26_o_discarded.same W27
  have F27_o_threads := F26_o_threads.other W27 (Or.inr (slot_ne (Or.inr (w37 hw)) (Or.inr (w51 hw)) (by decide) (t := .int) (t' := .long) (by decide) (by decide)))
  have F27_o_active := F26_o_active.other W27 (Or.inr (slot_ne (Or.inr (w39 hw)) (Or.inr (w51 hw)) (by decide) (t := .int) (t' := .long) (by decide) (by decide)))
  have F27_o_queued := F26_o_queued.other W27 (Or.inr (slot_ne (Or.inr (w41 hw)) (Or.inr (w51 hw)) (by decide) (t := .int) (t' := .long) (by decide) (by decide)))
  have F27_o_submitted := F26_o_submitted.other W27 (Or.inr (slot_ne (Or.inr (w43 hw)) (Or.inr (w51 hw)) (by decide) (t := .long) (t' := .long) (by decide) (by decide)))
  have F27_o_completed := F26_o_completed.other W27 (Or.inr (slot_ne (Or.inr (w45 hw)) (Or.inr (w51 hw)) (by decide) (t := .long) (t' := .long) (by decide) (by decide)))
  have F27_o_failed := F26_o_failed.other W27 (Or.inr (slot_ne (Or.inr (w47 hw)) (Or.inr (w51 hw)) (by decide) (t := .long) (t' := .long) (by decide) (by decide)))
  have F27_o_rejected := F26_o_rejected.other W27 (Or.inr (slot_ne (Or.inr (w49 hw)) (Or.inr (w51 hw)) (by decide) (t := .long) (t' := .long) (by decide) (by decide)))
  have F27_o_callerRan := F26_o_callerRan.other W27 (Or.inr (slot_ne (Or.inr (w53 hw)) (Or.inr (w51 hw)) (by decide) (t := .long) (t' := .long) (by decide) (by decide)))
  have E27_o := E26_o.wr W27
  have hS := hS.wr W27
  have K27 := Keep.wr K26 W27 (Or.inl (List.mem_of_getElem? (i := 0) rfl))
  have N27 := Fr.snoc X27 N26 g_o
  refine yaloadN X27 hx hby d37_112 rfl rfl (ylload X27 hx hby d37_113 rfl (yputfld X27 hx hby d37_115 hZ hown (host := "") (Or.inl (w52 hw)) Via.refl e27 F27_o_callerRan E27_o (Or.inr ⟨(w53 hw), rfl, hnm⟩) (w9 hw) (ty := .long) (by decide) rfl rfl fun T28 h28 X28 e28 W28 => ?_))
  have F28_o_callerRan : Fld Z h28 o "com/example/kick/kick/value/PoolMetrics" "callerRan" "J" (.long (Int64.ofNat (m8))) := F27_o_callerRan.same W28
  have F28_o_threads := F27_o_threads.other W28 (Or.inr (slot_ne (Or.inr (w37 hw)) (Or.inr (w53 hw)) (by decide) (t := .int) (t' := .long) (by decide) (by decide)))
  have F28_o_active := F27_o_active.other W28 (Or.inr (slot_ne (Or.inr (w39 hw)) (Or.inr (w53 hw)) (by decide) (t := .int) (t' := .long) (by decide) (by decide)))
  have F28_o_queued := F27_o_queued.other W28 (Or.inr (slot_ne (Or.inr (w41 hw)) (Or.inr (w53 hw)) (by decide) (t := .int) (t' := .long) (by decide) (by decide)))
  have F28_o_submitted := F27_o_submitted.other W28 (Or.inr (slot_ne (Or.inr (w43 hw)) (Or.inr (w53 hw)) (by decide) (t := .long) (t' := .long) (by decide) (by decide)))
  have F28_o_completed := F27_o_completed.other W28 (Or.inr (slot_ne (Or.inr (w45 hw)) (Or.inr (w53 hw)) (by decide) (t := .long) (t' := .long) (by decide) (by decide)))
  have F28_o_failed := F27_o_failed.other W28 (Or.inr (slot_ne (Or.inr (w47 hw)) (Or.inr (w53 hw)) (by decide) (t := .long) (t' := .long) (by decide) (by decide)))
  have F28_o_rejected := F27_o_rejected.other W28 (Or.inr (slot_ne (Or.inr (w49 hw)) (Or.inr (w53 hw)) (by decide) (t := .long) (t' := .long) (by decide) (by decide)))
  have F28_o_discarded := F27_o_discarded.other W28 (Or.inr (slot_ne (Or.inr (w51 hw)) (Or.inr (w53 hw)) (by decide) (t := .long) (t' := .long) (by decide) (by decide)))
  have E28_o := E27_o.wr W28
  have hS := hS.wr W28
  have K28 := Keep.wr K27 W28 (Or.inl (List.mem_of_getElem? (i := 0) rfl))
  have N28 := Fr.snoc X28 N27 g_o
  show yEndsW p e below s0 T28 (mkF m 118 #[rv o, iv (Int32.ofNat (m0)), iv (Int32.ofNat (m1)), iv (Int32.ofNat (m2)), .val (.long (Int64.ofNat (m3))), .second, .val (.long (Int64.ofNat (m4))), .second, .val (.long (Int64.ofNat (m5))), .second, .val (.long (Int64.ofNat (m6))), .second, .val (.long (Int64.ofNat (m7))), .second, .val (.long (Int64.ofNat (m8))), .second] []) _ _ _
  exact yretV X28 hx hby d37_118 hret hlk e28 hS (by first | decide | omega | (dsimp only; omega)) (by first | decide | omega | (dsimp only; omega)) (fun v1 hv => by rw [e28]; exact ⟨rfl, N28, K28, ⟨E28_o, F28_o_threads, F28_o_active, F28_o_queued, F28_o_submitted, F28_o_completed, F28_o_failed, F28_o_rejected, F28_o_discarded, F28_o_callerRan⟩, ibw hI hv, r7, r15, r17, r19, r21, r23, r25, r27, r29, Q7.stays hv.wide, Q15.stays hv.wide, Q17.stays hv.wide, Q19.stays hv.wide, Q21.stays hv.wide, Q23.stays hv.wide, Q25.stays hv.wide, Q27.stays hv.wide, Q29.stays hv.wide⟩)
theorem i_warm (hw : HW a0 Z) (C : Ctx Z cs d1 d2 o1 o2) (O0 : zOd Z n0 h0) (o : Addr) (E_o : Exa Z h0 o "com/example/kick/kick/value/PoolMetrics") (F_o_threads : Fld Z h0 o "com/example/kick/kick/value/PoolMetrics" "threads" "I" (.int 0)) (F_o_active : Fld Z h0 o "com/example/kick/kick/value/PoolMetrics" "active" "I" (.int 0)) (F_o_queued : Fld Z h0 o "com/example/kick/kick/value/PoolMetrics" "queued" "I" (.int 0)) (F_o_submitted : Fld Z h0 o "com/example/kick/kick/value/PoolMetrics" "submitted" "J" (.long 0)) (F_o_completed : Fld Z h0 o "com/example/kick/kick/value/PoolMetrics" "completed" "J" (.long 0)) (F_o_failed : Fld Z h0 o "com/example/kick/kick/value/PoolMetrics" "failed" "J" (.long 0)) (F_o_rejected : Fld Z h0 o "com/example/kick/kick/value/PoolMetrics" "rejected" "J" (.long 0)) (F_o_discarded : Fld Z h0 o "com/example/kick/kick/value/PoolMetrics" "discarded" "J" (.long 0)) (F_o_callerRan : Fld Z h0 o "com/example/kick/kick/value/PoolMetrics" "callerRan" "J" (.long 0)) (g_o : n0 ≤ o) (m0 m1 m2 m3 m4 m5 m6 m7 m8 : Nat) (hm0 : m0 < 2147483648) (hm1 : m1 < 2147483648) (hm2 : m2 < 2147483648) (hm3 : m3 < 9223372036854775808) (hm4 : m4 < 9223372036854775808) (hm5 : m5 < 9223372036854775808) (hm6 : m6 < 9223372036854775808) (hm7 : m7 < 9223372036854775808) (hm8 : m8 < 9223372036854775808) (Ts : List String) (r7 r15 r17 r19 r21 r23 r25 r27 r29 : Addr) : yConW l Z (⟨"com/example/kick/kick/value/PoolMetrics", "<init>", "(IIIJJJJJJ)V"⟩ : MethodName) prog_12_method_1_code 16 none [] ({ frames := 1, cells := 0, slots := 0, locals := 14 } : Room) #[(.ref o), (.int (Int32.ofNat (m0))), (.int (Int32.ofNat (m1))), (.int (Int32.ofNat (m2))), (.long (Int64.ofNat (m3))), (.long (Int64.ofNat (m4))), (.long (Int64.ofNat (m5))), (.long (Int64.ofNat (m6))), (.long (Int64.ofNat (m7))), (.long (Int64.ofNat (m8)))] (fun v => IB Z v Ts ∧ Lit (Z.setVm v) "com/example/kick/kick/value/PoolMetrics" 7 r7 ∧ Lit (Z.setVm v) "com/example/kick/kick/value/PoolMetrics" 15 r15 ∧ Lit (Z.setVm v) "com/example/kick/kick/value/PoolMetrics" 17 r17 ∧ Lit (Z.setVm v) "com/example/kick/kick/value/PoolMetrics" 19 r19 ∧ Lit (Z.setVm v) "com/example/kick/kick/value/PoolMetrics" 21 r21 ∧ Lit (Z.setVm v) "com/example/kick/kick/value/PoolMetrics" 23 r23 ∧ Lit (Z.setVm v) "com/example/kick/kick/value/PoolMetrics" 25 r25 ∧ Lit (Z.setVm v) "com/example/kick/kick/value/PoolMetrics" 27 r27 ∧ Lit (Z.setVm v) "com/example/kick/kick/value/PoolMetrics" 29 r29) h0 (fun v' v h L => v' = none ∧ Fr n0 L ∧ Keep h0 h [o] ∧ PMo Z h o m0 m1 m2 m3 m4 m5 m6 m7 m8 ∧ IB Z v Ts) := by
  refine yenterW (plainFor_of_name pn_9) (L0 := #[rv o, iv (Int32.ofNat (m0)), iv (Int32.ofNat (m1)), iv (Int32.ofNat (m2)), .val (.long (Int64.ofNat (m3))), .second, .val (.long (Int64.ofNat (m4))), .second, .val (.long (Int64.ofNat (m5))), .second, .val (.long (Int64.ofNat (m6))), .second, .val (.long (Int64.ofNat (m7))), .second, .val (.long (Int64.ofNat (m8))), .second]) (fun m => by first | (simp [entryFrame, mkF, argsToLocals, Value.category]; done) | rfl) ?_
  intro p e s0 v0 m below meth c T0 hx hZ hby hml hown0 hnm hret hlk X0 e0 hS eh hP
  have hown : v0.findClass "com/example/kick/kick/value/PoolMetrics" = some m.cls := hown0
  have K0 := Keep.refl h0 [o]
  have N0 := Fr.nil n0
  obtain ⟨hI, Q7, Q15, Q17, Q19, Q21, Q23, Q25, Q27, Q29⟩ := hP
  show yEndsW p e below s0 T0 (mkF m 0 #[rv o, iv (Int32.ofNat (m0)), iv (Int32.ofNat (m1)), iv (Int32.ofNat (m2)), .val (.long (Int64.ofNat (m3))), .second, .val (.long (Int64.ofNat (m4))), .second, .val (.long (Int64.ofNat (m5))), .second, .val (.long (Int64.ofNat (m6))), .second, .val (.long (Int64.ofNat (m7))), .second, .val (.long (Int64.ofNat (m8))), .second] []) _ _ _
  refine yaloadN X0 hx hby d37_0 rfl rfl (yobjinit X0 hx hby d37_1 hZ hown (w14 hw) (w15 hw) (w16 hw) e0 hml 0 (fun T1 X1 e1 => ?_))
  refine yiloadN X1 hx hby d37_4 rfl (yi2l X1 hx hby d37_5 (Int64.ofNat (m0)) (i2l_ofN (by omega)) (yldcA X1 hx hby d37_6 hZ hown (w17 hw) Q7 ?_))
  show yEndsW p e below s0 T1 (mkF m 8 #[rv o, iv (Int32.ofNat (m0)), iv (Int32.ofNat (m1)), iv (Int32.ofNat (m2)), .val (.long (Int64.ofNat (m3))), .second, .val (.long (Int64.ofNat (m4))), .second, .val (.long (Int64.ofNat (m5))), .second, .val (.long (Int64.ofNat (m6))), .second, .val (.long (Int64.ofNat (m7))), .second, .val (.long (Int64.ofNat (m8))), .second] [(.ref r7), (.long (Int64.ofNat (m0)))]) _ _ _
  refine ycalls X1 hx hby d37_8 hZ hown (w25 hw) (w26 hw) (w10 hw) (w27 hw) e1 (c_req l hw  C O0 m0 r7 (by omega)) hml 0 pd_23 (argsL := [(.long (Int64.ofNat (m0))), (.ref r7)]) (st := []) (ypureK ⟨rfl, rfl⟩ fun T2 X2 e2 => ?_)
  show yEndsW p e below s0 T2 (mkF m 11 #[rv o, iv (Int32.ofNat (m0)), iv (Int32.ofNat (m1)), iv (Int32.ofNat (m2)), .val (.long (Int64.ofNat (m3))), .second, .val (.long (Int64.ofNat (m4))), .second, .val (.long (Int64.ofNat (m5))), .second, .val (.long (Int64.ofNat (m6))), .second, .val (.long (Int64.ofNat (m7))), .second, .val (.long (Int64.ofNat (m8))), .second] []) _ _ _
  refine yiloadN X2 hx hby d37_11 rfl (yi2l X2 hx hby d37_12 (Int64.ofNat (m1)) (i2l_ofN (by omega)) (yldcA X2 hx hby d37_13 hZ hown (w28 hw) Q15 ?_))
  show yEndsW p e below s0 T2 (mkF m 15 #[rv o, iv (Int32.ofNat (m0)), iv (Int32.ofNat (m1)), iv (Int32.ofNat (m2)), .val (.long (Int64.ofNat (m3))), .second, .val (.long (Int64.ofNat (m4))), .second, .val (.long (Int64.ofNat (m5))), .second, .val (.long (Int64.ofNat (m6))), .second, .val (.long (Int64.ofNat (m7))), .second, .val (.long (Int64.ofNat (m8))), .second] [(.ref r15), (.long (Int64.ofNat (m1)))]) _ _ _
  refine ycalls X2 hx hby d37_15 hZ hown (w25 hw) (w26 hw) (w10 hw) (w27 hw) e2 (c_req l hw  C O0 m1 r15 (by omega)) hml 0 pd_23 (argsL := [(.long (Int64.ofNat (m1))), (.ref r15)]) (st := []) (ypureK ⟨rfl, rfl⟩ fun T3 X3 e3 => ?_)
  show yEndsW p e below s0 T3 (mkF m 18 #[rv o, iv (Int32.ofNat (m0)), iv (Int32.ofNat (m1)), iv (Int32.ofNat (m2)), .val (.long (Int64.ofNat (m3))), .second, .val (.long (Int64.ofNat (m4))), .second, .val (.long (Int64.ofNat (m5))), .second, .val (.long (Int64.ofNat (m6))), .second, .val (.long (Int64.ofNat (m7))), .second, .val (.long (Int64.ofNat (m8))), .second] []) _ _ _
  refine yiloadN X3 hx hby d37_18 rfl (yi2l X3 hx hby d37_19 (Int64.ofNat (m2)) (i2l_ofN (by omega)) (yldcA X3 hx hby d37_20 hZ hown (w29 hw) Q17 ?_))
  show yEndsW p e below s0 T3 (mkF m 22 #[rv o, iv (Int32.ofNat (m0)), iv (Int32.ofNat (m1)), iv (Int32.ofNat (m2)), .val (.long (Int64.ofNat (m3))), .second, .val (.long (Int64.ofNat (m4))), .second, .val (.long (Int64.ofNat (m5))), .second, .val (.long (Int64.ofNat (m6))), .second, .val (.long (Int64.ofNat (m7))), .second, .val (.long (Int64.ofNat (m8))), .second] [(.ref r17), (.long (Int64.ofNat (m2)))]) _ _ _
  refine ycalls X3 hx hby d37_22 hZ hown (w25 hw) (w26 hw) (w10 hw) (w27 hw) e3 (c_req l hw  C O0 m2 r17 (by omega)) hml 0 pd_23 (argsL := [(.long (Int64.ofNat (m2))), (.ref r17)]) (st := []) (ypureK ⟨rfl, rfl⟩ fun T4 X4 e4 => ?_)
  show yEndsW p e below s0 T4 (mkF m 25 #[rv o, iv (Int32.ofNat (m0)), iv (Int32.ofNat (m1)), iv (Int32.ofNat (m2)), .val (.long (Int64.ofNat (m3))), .second, .val (.long (Int64.ofNat (m4))), .second, .val (.long (Int64.ofNat (m5))), .second, .val (.long (Int64.ofNat (m6))), .second, .val (.long (Int64.ofNat (m7))), .second, .val (.long (Int64.ofNat (m8))), .second] []) _ _ _
  refine ylload X4 hx hby d37_25 rfl (yldcA X4 hx hby d37_27 hZ hown (w30 hw) Q19 ?_)
  show yEndsW p e below s0 T4 (mkF m 29 #[rv o, iv (Int32.ofNat (m0)), iv (Int32.ofNat (m1)), iv (Int32.ofNat (m2)), .val (.long (Int64.ofNat (m3))), .second, .val (.long (Int64.ofNat (m4))), .second, .val (.long (Int64.ofNat (m5))), .second, .val (.long (Int64.ofNat (m6))), .second, .val (.long (Int64.ofNat (m7))), .second, .val (.long (Int64.ofNat (m8))), .second] [(.ref r19), (.long (Int64.ofNat (m3)))]) _ _ _
  refine ycalls X4 hx hby d37_29 hZ hown (w25 hw) (w26 hw) (w10 hw) (w27 hw) e4 (c_req l hw  C O0 m3 r19 (by omega)) hml 0 pd_23 (argsL := [(.long (Int64.ofNat (m3))), (.ref r19)]) (st := []) (ypureK ⟨rfl, rfl⟩ fun T5 X5 e5 => ?_)
  show yEndsW p e below s0 T5 (mkF m 32 #[rv o, iv (Int32.ofNat (m0)), iv (Int32.ofNat (m1)), iv (Int32.ofNat (m2)), .val (.long (Int64.ofNat (m3))), .second, .val (.long (Int64.ofNat (m4))), .second, .val (.long (Int64.ofNat (m5))), .second, .val (.long (Int64.ofNat (m6))), .second, .val (.long (Int64.ofNat (m7))), .second, .val (.long (Int64.ofNat (m8))), .second] []) _ _ _
  refine ylload X5 hx hby d37_32 rfl (yldcA X5 hx hby d37_34 hZ hown (w31 hw) Q21 ?_)
  show yEndsW p e below s0 T5 (mkF m 36 #[rv o, iv (Int32.ofNat (m0)), iv (Int32.ofNat (m1)), iv (Int32.ofNat (m2)), .val (.long (Int64.ofNat (m3))), .second, .val (.long (Int64.ofNat (m4))), .second, .val (.long (Int64.ofNat (m5))), .second, .val (.long (Int64.ofNat (m6))), .second, .val (.long (Int64.ofNat (m7))), .second, .val (.long (Int64.ofNat (m8))), .second] [(.ref r21), (.long (Int64.ofNat (m4)))]) _ _ _
  refine ycalls X5 hx hby d37_36 hZ hown (w25 hw) (w26 hw) (w10 hw) (w27 hw) e5 (c_req l hw  C O0 m4 r21 (by omega)) hml 0 pd_23 (argsL := [(.long (Int64.ofNat (m4))), (.ref r21)]) (st := []) (ypureK ⟨rfl, rfl⟩ fun T6 X6 e6 => ?_)
  show yEndsW p e below s0 T6 (mkF m 39 #[rv o, iv (Int32.ofNat (m0)), iv (Int32.ofNat (m1)), iv (Int32.ofNat (m2)), .val (.long (Int64.ofNat (m3))), .second, .val (.long (Int64.ofNat (m4))), .second, .val (.long (Int64.ofNat (m5))), .second, .val (.long (Int64.ofNat (m6))), .second, .val (.long (Int64.ofNat (m7))), .second, .val (.long (Int64.ofNat (m8))), .second] []) _ _ _
  refine ylload X6 hx hby d37_39 rfl (yldcA X6 hx hby d37_41 hZ hown (w32 hw) Q23 ?_)
  show yEndsW p e below s0 T6 (mkF m 43 #[rv o, iv (Int32.ofNat (m0)), iv (Int32.ofNat (m1)), iv (Int32.ofNat (m2)), .val (.long (Int64.ofNat (m3))), .second, .val (.long (Int64.ofNat (m4))), .second, .val (.long (Int64.ofNat (m5))), .second, .val (.long (Int64.ofNat (m6))), .second, .val (.long (Int64.ofNat (m7))), .second, .val (.long (Int64.ofNat (m8))), .second] [(.ref r23), (.long (Int64.ofNat (m5)))]) _ _ _
  refine ycalls X6 hx hby d37_43 hZ hown (w25 hw) (w26 hw) (w10 hw) (w27 hw) e6 (c_req l hw  C O0 m5 r23 (by omega)) hml 0 pd_23 (argsL := [(.long (Int64.ofNat (m5))), (.ref r23)]) (st := []) (ypureK ⟨rfl, rfl⟩ fun T7 X7 e7 => ?_)
  show yEndsW p e below s0 T7 (mkF m 46 #[rv o, iv (Int32.ofNat (m0)), iv (Int32.ofNat (m1)), iv (Int32.ofNat (m2)), .val (.long (Int64.ofNat (m3))), .second, .val (.long (Int64.ofNat (m4))), .second, .val (.long (Int64.ofNat (m5))), .second, .val (.long (Int64.ofNat (m6))), .second, .val (.long (Int64.ofNat (m7))), .second, .val (.long (Int64.ofNat (m8))), .second] []) _ _ _
  refine ylload X7 hx hby d37_46 rfl (yldcA X7 hx hby d37_48 hZ hown (w33 hw) Q25 ?_)
  show yEndsW p e below s0 T7 (mkF m 50 #[rv o, iv (Int32.ofNat (m0)), iv (Int32.ofNat (m1)), iv (Int32.ofNat (m2)), .val (.long (Int64.ofNat (m3))), .second, .val (.long (Int64.ofNat (m4))), .second, .val (.long (Int64.ofNat (m5))), .second, .val (.long (Int64.ofNat (m6))), .second, .val (.long (Int64.ofNat (m7))), .second, .val (.long (Int64.ofNat (m8))), .second] [(.ref r25), (.long (Int64.ofNat (m6)))]) _ _ _
  refine ycalls X7 hx hby d37_50 hZ hown (w25 hw) (w26 hw) (w10 hw) (w27 hw) e7 (c_req l hw  C O0 m6 r25 (by omega)) hml 0 pd_23 (argsL := [(.long (Int64.ofNat (m6))), (.ref r25)]) (st := []) (ypureK ⟨rfl, rfl⟩ fun T8 X8 e8 => ?_)
  show yEndsW p e below s0 T8 (mkF m 53 #[rv o, iv (Int32.ofNat (m0)), iv (Int32.ofNat (m1)), iv (Int32.ofNat (m2)), .val (.long (Int64.ofNat (m3))), .second, .val (.long (Int64.ofNat (m4))), .second, .val (.long (Int64.ofNat (m5))), .second, .val (.long (Int64.ofNat (m6))), .second, .val (.long (Int64.ofNat (m7))), .second, .val (.long (Int64.ofNat (m8))), .second] []) _ _ _
  refine ylload X8 hx hby d37_53 rfl (yldcA X8 hx hby d37_55 hZ hown (w34 hw) Q27 ?_)
  show yEndsW p e below s0 T8 (mkF m 57 #[rv o, iv (Int32.ofNat (m0)), iv (Int32.ofNat (m1)), iv (Int32.ofNat (m2)), .val (.long (Int64.ofNat (m3))), .second, .val (.long (Int64.ofNat (m4))), .second, .val (.long (Int64.ofNat (m5))), .second, .val (.long (Int64.ofNat (m6))), .second, .val (.long (Int64.ofNat (m7))), .second, .val (.long (Int64.ofNat (m8))), .second] [(.ref r27), (.long (Int64.ofNat (m7)))]) _ _ _
  refine ycalls X8 hx hby d37_57 hZ hown (w25 hw) (w26 hw) (w10 hw) (w27 hw) e8 (c_req l hw  C O0 m7 r27 (by omega)) hml 0 pd_23 (argsL := [(.long (Int64.ofNat (m7))), (.ref r27)]) (st := []) (ypureK ⟨rfl, rfl⟩ fun T9 X9 e9 => ?_)
  show yEndsW p e below s0 T9 (mkF m 60 #[rv o, iv (Int32.ofNat (m0)), iv (Int32.ofNat (m1)), iv (Int32.ofNat (m2)), .val (.long (Int64.ofNat (m3))), .second, .val (.long (Int64.ofNat (m4))), .second, .val (.long (Int64.ofNat (m5))), .second, .val (.long (Int64.ofNat (m6))), .second, .val (.long (Int64.ofNat (m7))), .second, .val (.long (Int64.ofNat (m8))), .second] []) _ _ _
  refine ylload X9 hx hby d37_60 rfl (yldcA X9 hx hby d37_62 hZ hown (w35 hw) Q29 ?_)
  show yEndsW p e below s0 T9 (mkF m 64 #[rv o, iv (Int32.ofNat (m0)), iv (Int32.ofNat (m1)), iv (Int32.ofNat (m2)), .val (.long (Int64.ofNat (m3))), .second, .val (.long (Int64.ofNat (m4))), .second, .val (.long (Int64.ofNat (m5))), .second, .val (.long (Int64.ofNat (m6))), .second, .val (.long (Int64.ofNat (m7))), .second, .val (.long (Int64.ofNat (m8))), .second] [(.ref r29), (.long (Int64.ofNat (m8)))]) _ _ _
  refine ycalls X9 hx hby d37_64 hZ hown (w25 hw) (w26 hw) (w10 hw) (w27 hw) e9 (c_req l hw  C O0 m8 r29 (by omega)) hml 0 pd_23 (argsL := [(.long (Int64.ofNat (m8))), (.ref r29)]) (st := []) (ypureK ⟨rfl, rfl⟩ fun T10 X10 e10 => ?_)
  show yEndsW p e below s0 T10 (mkF m 67 #[rv o, iv (Int32.ofNat (m0)), iv (Int32.ofNat (m1)), iv (Int32.ofNat (m2)), .val (.long (Int64.ofNat (m3))), .second, .val (.long (Int64.ofNat (m4))), .second, .val (.long (Int64.ofNat (m5))), .second, .val (.long (Int64.ofNat (m6))), .second, .val (.long (Int64.ofNat (m7))), .second, .val (.long (Int64.ofNat (m8))), .second] []) _ _ _
  refine yaloadN X10 hx hby d37_67 rfl rfl (yiloadN X10 hx hby d37_68 rfl (yputfld X10 hx hby d37_69 hZ hown (host := "") (Or.inl (w36 hw)) Via.refl e10 F_o_threads E_o (Or.inr ⟨(w37 hw), rfl, hnm⟩) (w9 hw) (ty := .int) (by decide) rfl rfl fun T11 h11 X11 e11 W11 => ?_))
  have F11_o_threads : Fld Z h11 o "com/example/kick/kick/value/PoolMetrics" "threads" "I" (.int (Int32.ofNat (m0))) := F_o_threads.same W11
  have F11_o_active := F_o_active.other W11 (Or.inr (slot_ne (Or.inr (w39 hw)) (Or.inr (w37 hw)) (by decide) (t := .int) (t' := .int) (by decide) (by decide)))
  have F11_o_queued := F_o_queued.other W11 (Or.inr (slot_ne (Or.inr (w41 hw)) (Or.inr (w37 hw)) (by decide) (t := .int) (t' := .int) (by decide) (by decide)))
  have F11_o_submitted := F_o_submitted.other W11 (Or.inr (slot_ne (Or.inr (w43 hw)) (Or.inr (w37 hw)) (by decide) (t := .long) (t' := .int) (by decide) (by decide)))
  have F11_o_completed := F_o_completed.other W11 (Or.inr (slot_ne (Or.inr (w45 hw)) (Or.inr (w37 hw)) (by decide) (t := .long) (t' := .int) (by decide) (by decide)))
  have F11_o_failed := F_o_failed.other W11 (Or.inr (slot_ne (Or.inr (w47 hw)) (Or.inr (w37 hw)) (by decide) (t := .long) (t' := .int) (by decide) (by decide)))
  have F11_o_rejected := F_o_rejected.other W11 (Or.inr (slot_ne (Or.inr (w49 hw)) (Or.inr (w37 hw)) (by decide) (t := .long) (t' := .int) (by decide) (by decide)))
  have F11_o_discarded := F_o_discarded.other W11 (Or.inr (slot_ne (Or.inr (w51 hw)) (Or.inr (w37 hw)) (by decide) (t := .long) (t' := .int) (by decide) (by decide)))
  have F11_o_callerRan := F_o_callerRan.other W11 (Or.inr (slot_ne (Or.inr (w53 hw)) (Or.inr (w37 hw)) (by decide) (t := .long) (t' := .int) (by decide) (by decide)))
  have E11_o := E_o.wr W11
  have hS := hS.wr W11
  have K11 := Keep.wr K0 W11 (Or.inl (List.mem_of_getElem? (i := 0) rfl))
  have N11 := Fr.snoc X11 N0 g_o
  refine yaloadN X11 hx hby d37_72 rfl rfl (yiloadN X11 hx hby d37_73 rfl (yputfld X11 hx hby d37_74 hZ hown (host := "") (Or.inl (w38 hw)) Via.refl e11 F11_o_active E11_o (Or.inr ⟨(w39 hw), rfl, hnm⟩) (w9 hw) (ty := .int) (by decide) rfl rfl fun T12 h12 X12 e12 W12 => ?_))
  have F12_o_active : Fld Z h12 o "com/example/kick/kick/value/PoolMetrics" "active" "I" (.int (Int32.ofNat (m1))) := F11_o_active.same W12
  have F12_o_threads := F11_o_threads.other W12 (Or.inr (slot_ne (Or.inr (w37 hw)) (Or.inr (w39 hw)) (by decide) (t := .int) (t' := .int) (by decide) (by decide)))
  have F12_o_queued := F11_o_queued.other W12 (Or.inr (slot_ne (Or.inr (w41 hw)) (Or.inr (w39 hw)) (by decide) (t := .int) (t' := .int) (by decide) (by decide)))
  have F12_o_submitted := F11_o_submitted.other W12 (Or.inr (slot_ne (Or.inr (w43 hw)) (Or.inr (w39 hw)) (by decide) (t := .long) (t' := .int) (by decide) (by decide)))
  have F12_o_completed := F11_o_completed.other W12 (Or.inr (slot_ne (Or.inr (w45 hw)) (Or.inr (w39 hw)) (by decide) (t := .long) (t' := .int) (by decide) (by decide)))
  have F12_o_failed := F11_o_failed.other W12 (Or.inr (slot_ne (Or.inr (w47 hw)) (Or.inr (w39 hw)) (by decide) (t := .long) (t' := .int) (by decide) (by decide)))
  have F12_o_rejected := F11_o_rejected.other W12 (Or.inr (slot_ne (Or.inr (w49 hw)) (Or.inr (w39 hw)) (by decide) (t := .long) (t' := .int) (by decide) (by decide)))
  have F12_o_discarded := F11_o_discarded.other W12 (Or.inr (slot_ne (Or.inr (w51 hw)) (Or.inr (w39 hw)) (by decide) (t := .long) (t' := .int) (by decide) (by decide)))
  have F12_o_callerRan := F11_o_callerRan.other W12 (Or.inr (slot_ne (Or.inr (w53 hw)) (Or.inr (w39 hw)) (by decide) (t := .long) (t' := .int) (by decide) (by decide)))
  have E12_o := E11_o.wr W12
  have hS := hS.wr W12
  have K12 := Keep.wr K11 W12 (Or.inl (List.mem_of_getElem? (i := 0) rfl))
  have N12 := Fr.snoc X12 N11 g_o
  refine yaloadN X12 hx hby d37_77 rfl rfl (yiloadN X12 hx hby d37_78 rfl (yputfld X12 hx hby d37_79 hZ hown (host := "") (Or.inl (w40 hw)) Via.refl e12 F12_o_queued E12_o (Or.inr ⟨(w41 hw), rfl, hnm⟩) (w9 hw) (ty := .int) (by decide) rfl rfl fun T13 h13 X13 e13 W13 => ?_))
  have F13_o_queued : Fld Z h13 o "com/example/kick/kick/value/PoolMetrics" "queued" "I" (.int (Int32.ofNat (m2))) := F12_o_queued.same W13
  have F13_o_threads := F12_o_threads.other W13 (Or.inr (slot_ne (Or.inr (w37 hw)) (Or.inr (w41 hw)) (by decide) (t := .int) (t' := .int) (by decide) (by decide)))
  have F13_o_active := F12_o_active.other W13 (Or.inr (slot_ne (Or.inr (w39 hw)) (Or.inr (w41 hw)) (by decide) (t := .int) (t' := .int) (by decide) (by decide)))
  have F13_o_submitted := F12_o_submitted.other W13 (Or.inr (slot_ne (Or.inr (w43 hw)) (Or.inr (w41 hw)) (by decide) (t := .long) (t' := .int) (by decide) (by decide)))
  have F13_o_completed := F12_o_completed.other W13 (Or.inr (slot_ne (Or.inr (w45 hw)) (Or.inr (w41 hw)) (by decide) (t := .long) (t' := .int) (by decide) (by decide)))
  have F13_o_failed := F12_o_failed.other W13 (Or.inr (slot_ne (Or.inr (w47 hw)) (Or.inr (w41 hw)) (by decide) (t := .long) (t' := .int) (by decide) (by decide)))
  have F13_o_rejected := F12_o_rejected.other W13 (Or.inr (slot_ne (Or.inr (w49 hw)) (Or.inr (w41 hw)) (by decide) (t := .long) (t' := .int) (by decide) (by decide)))
  have F13_o_discarded := F12_o_discarded.other W13 (Or.inr (slot_ne (Or.inr (w51 hw)) (Or.inr (w41 hw)) (by decide) (t := .long) (t' := .int) (by decide) (by decide)))
  have F13_o_callerRan := F12_o_callerRan.other W13 (Or.inr (slot_ne (Or.inr (w53 hw)) (Or.inr (w41 hw)) (by decide) (t := .long) (t' := .int) (by decide) (by decide)))
  have E13_o := E12_o.wr W13
  have hS := hS.wr W13
  have K13 := Keep.wr K12 W13 (Or.inl (List.mem_of_getElem? (i := 0) rfl))
  have N13 := Fr.snoc X13 N12 g_o
  refine yaloadN X13 hx hby d37_82 rfl rfl (ylload X13 hx hby d37_83 rfl (yputfld X13 hx hby d37_85 hZ hown (host := "") (Or.inl (w42 hw)) Via.refl e13 F13_o_submitted E13_o (Or.inr ⟨(w43 hw), rfl, hnm⟩) (w9 hw) (ty := .long) (by decide) rfl rfl fun T14 h14 X14 e14 W14 => ?_))
  have F14_o_submitted : Fld Z h14 o "com/example/kick/kick/value/PoolMetrics" "submitted" "J" (.long (Int64.ofNat (m3))) := F13_o_submitted.same W14
  have F14_o_threads := F13_o_threads.other W14 (Or.inr (slot_ne (Or.inr (w37 hw)) (Or.inr (w43 hw)) (by decide) (t := .int) (t' := .long) (by decide) (by decide)))
  have F14_o_active := F13_o_active.other W14 (Or.inr (slot_ne (Or.inr (w39 hw)) (Or.inr (w43 hw)) (by decide) (t := .int) (t' := .long) (by decide) (by decide)))
  have F14_o_queued := F13_o_queued.other W14 (Or.inr (slot_ne (Or.inr (w41 hw)) (Or.inr (w43 hw)) (by decide) (t := .int) (t' := .long) (by decide) (by decide)))
  have F14_o_completed := F13_o_completed.other W14 (Or.inr (slot_ne (Or.inr (w45 hw)) (Or.inr (w43 hw)) (by decide) (t := .long) (t' := .long) (by decide) (by decide)))
  have F14_o_failed := F13_o_failed.other W14 (Or.inr (slot_ne (Or.inr (w47 hw)) (Or.inr (w43 hw)) (by decide) (t := .long) (t' := .long) (by decide) (by decide)))
  have F14_o_rejected := F13_o_rejected.other W14 (Or.inr (slot_ne (Or.inr (w49 hw)) (Or.inr (w43 hw)) (by decide) (t := .long) (t' := .long) (by decide) (by decide)))
  have F14_o_discarded := F13_o_discarded.other W14 (Or.inr (slot_ne (Or.inr (w51 hw)) (Or.inr (w43 hw)) (by decide) (t := .long) (t' := .long) (by decide) (by decide)))
  have F14_o_callerRan := F13_o_callerRan.other W14 (Or.inr (slot_ne (Or.inr (w53 hw)) (Or.inr (w43 hw)) (by decide) (t := .long) (t' := .long) (by decide) (by decide)))
  have E14_o := E13_o.wr W14
  have hS := hS.wr W14
  have K14 := Keep.wr K13 W14 (Or.inl (List.mem_of_getElem? (i := 0) rfl))
  have N14 := Fr.snoc X14 N13 g_o
  refine yaloadN X14 hx hby d37_88 rfl rfl (ylload X14 hx hby d37_89 rfl (yputfld X14 hx hby d37_91 hZ hown (host := "") (Or.inl (w44 hw)) Via.refl e14 F14_o_completed E14_o (Or.inr ⟨(w45 hw), rfl, hnm⟩) (w9 hw) (ty := .long) (by decide) rfl rfl fun T15 h15 X15 e15 W15 => ?_))
  have F15_o_completed : Fld Z h15 o "com/example/kick/kick/value/PoolMetrics" "completed" "J" (.long (Int64.ofNat (m4))) := F14_o_completed.same W15
  have F15_o_threads := F14_o_threads.other W15 (Or.inr (slot_ne (Or.inr (w37 hw)) (Or.inr (w45 hw)) (by decide) (t := .int) (t' := .long) (by decide) (by decide)))
  have F15_o_active := F14_o_active.other W15 (Or.inr (slot_ne (Or.inr (w39 hw)) (Or.inr (w45 hw)) (by decide) (t := .int) (t' := .long) (by decide) (by decide)))
  have F15_o_queued := F14_o_queued.other W15 (Or.inr (slot_ne (Or.inr (w41 hw)) (Or.inr (w45 hw)) (by decide) (t := .int) (t' := .long) (by decide) (by decide)))
  have F15_o_submitted := F14_o_submitted.other W15 (Or.inr (slot_ne (Or.inr (w43 hw)) (Or.inr (w45 hw)) (by decide) (t := .long) (t' := .long) (by decide) (by decide)))
  have F15_o_failed := F14_o_failed.other W15 (Or.inr (slot_ne (Or.inr (w47 hw)) (Or.inr (w45 hw)) (by decide) (t := .long) (t' := .long) (by decide) (by decide)))
  have F15_o_rejected := F14_o_rejected.other W15 (Or.inr (slot_ne (Or.inr (w49 hw)) (Or.inr (w45 hw)) (by decide) (t := .long) (t' := .long) (by decide) (by decide)))
  have F15_o_discarded := F14_o_discarded.other W15 (Or.inr (slot_ne (Or.inr (w51 hw)) (Or.inr (w45 hw)) (by decide) (t := .long) (t' := .long) (by decide) (by decide)))
  have F15_o_callerRan := F14_o_callerRan.other W15 (Or.inr (slot_ne (Or.inr (w53 hw)) (Or.inr (w45 hw)) (by decide) (t := .long) (t' := .long) (by decide) (by decide)))
  have E15_o := E14_o.wr W15
  have hS := hS.wr W15
  have K15 := Keep.wr K14 W15 (Or.inl (List.mem_of_getElem? (i := 0) rfl))
  have N15 := Fr.snoc X15 N14 g_o
  refine yaloadN X15 hx hby d37_94 rfl rfl (ylload X15 hx hby d37_95 rfl (yputfld X15 hx hby d37_97 hZ hown (host := "") (Or.inl (w46 hw)) Via.refl e15 F15_o_failed E15_o (Or.inr ⟨(w47 hw), rfl, hnm⟩) (w9 hw) (ty := .long) (by decide) rfl rfl fun T16 h16 X16 e16 W16 => ?_))
  have F16_o_failed : Fld Z h16 o "com/example/kick/kick/value/PoolMetrics" "failed" "J" (.long (Int64.ofNat (m5))) := F15_o_failed.same W16
  have F16_o_threads := F15_o_threads.other W16 (Or.inr (slot_ne (Or.inr (w37 hw)) (Or.inr (w47 hw)) (by decide) (t := .int) (t' := .long) (by decide) (by decide)))
  have F16_o_active := F15_o_active.other W16 (Or.inr (slot_ne (Or.inr (w39 hw)) (Or.inr (w47 hw)) (by decide) (t := .int) (t' := .long) (by decide) (by decide)))
  have F16_o_queued := F15_o_queued.other W16 (Or.inr (slot_ne (Or.inr (w41 hw)) (Or.inr (w47 hw)) (by decide) (t := .int) (t' := .long) (by decide) (by decide)))
  have F16_o_submitted := F15_o_submitted.other W16 (Or.inr (slot_ne (Or.inr (w43 hw)) (Or.inr (w47 hw)) (by decide) (t := .long) (t' := .long) (by decide) (by decide)))
  have F16_o_completed := F15_o_completed.other W16 (Or.inr (slot_ne (Or.inr (w45 hw)) (Or.inr (w47 hw)) (by decide) (t := .long) (t' := .long) (by decide) (by decide)))
  have F16_o_rejected := F15_o_rejected.other W16 (Or.inr (slot_ne (Or.inr (w49 hw)) (Or.inr (w47 hw)) (by decide) (t := .long) (t' := .long) (by decide) (by decide)))
  have F16_o_discarded := F15_o_discarded.other W16 (Or.inr (slot_ne (Or.inr (w51 hw)) (Or.inr (w47 hw)) (by decide) (t := .long) (t' := .long) (by decide) (by decide)))
  have F16_o_callerRan := F15_o_callerRan.other W16 (Or.inr (slot_ne (Or.inr (w53 hw)) (Or.inr (w47 hw)) (by decide) (t := .long) (t' := .long) (by decide) (by decide)))
  have E16_o := E15_o.wr W16
  have hS := hS.wr W16
  have K16 := Keep.wr K15 W16 (Or.inl (List.mem_of_getElem? (i := 0) rfl))
  have N16 := Fr.snoc X16 N15 g_o
  refine yaloadN X16 hx hby d37_100 rfl rfl (ylload X16 hx hby d37_101 rfl (yputfld X16 hx hby d37_103 hZ hown (host := "") (Or.inl (w48 hw)) Via.refl e16 F16_o_rejected E16_o (Or.inr ⟨(w49 hw), rfl, hnm⟩) (w9 hw) (ty := .long) (by decide) rfl rfl fun T17 h17 X17 e17 W17 => ?_))
  have F17_o_rejected : Fld Z h17 o "com/example/kick/kick/value/PoolMetrics" "rejected" "J" (.long (Int64.ofNat (m6))) := F16_o_rejected.same W17
  have F17_o_threads := F16_o_threads.other W17 (Or.inr (slot_ne (Or.inr (w37 hw)) (Or.inr (w49 hw)) (by decide) (t := .int) (t' := .long) (by decide) (by decide)))
  have F17_o_active := F16_o_active.other W17 (Or.inr (slot_ne (Or.inr (w39 hw)) (Or.inr (w49 hw)) (by decide) (t := .int) (t' := .long) (by decide) (by decide)))
  have F17_o_queued := F16_o_queued.other W17 (Or.inr (slot_ne (Or.inr (w41 hw)) (Or.inr (w49 hw)) (by decide) (t := .int) (t' := .long) (by decide) (by decide)))
  have F17_o_submitted := F16_o_submitted.other W17 (Or.inr (slot_ne (Or.inr (w43 hw)) (Or.inr (w49 hw)) (by decide) (t := .long) (t' := .long) (by decide) (by decide)))
  have F17_o_completed := F16_o_completed.other W17 (Or.inr (slot_ne (Or.inr (w45 hw)) (Or.inr (w49 hw)) (by decide) (t := .long) (t' := .long) (by decide) (by decide)))
  have F17_o_failed := F16_o_failed.other W17 (Or.inr (slot_ne (Or.inr (w47 hw)) (Or.inr (w49 hw)) (by decide) (t := .long) (t' := .long) (by decide) (by decide)))
  have F17_o_discarded := F16_o_discarded.other W17 (Or.inr (slot_ne (Or.inr (w51 hw)) (Or.inr (w49 hw)) (by decide) (t := .long) (t' := .long) (by decide) (by decide)))
  have F17_o_callerRan := F16_o_callerRan.other W17 (Or.inr (slot_ne (Or.inr (w53 hw)) (Or.inr (w49 hw)) (by decide) (t := .long) (t' := .long) (by decide) (by decide)))
  have E17_o := E16_o.wr W17
  have hS := hS.wr W17
  have K17 := Keep.wr K16 W17 (Or.inl (List.mem_of_getElem? (i := 0) rfl))
  have N17 := Fr.snoc X17 N16 g_o
  refine yaloadN X17 hx hby d37_106 rfl rfl (ylload X17 hx hby d37_107 rfl (yputfld X17 hx hby d37_109 hZ hown (host := "") (Or.inl (w50 hw)) Via.refl e17 F17_o_discarded E17_o (Or.inr ⟨(w51 hw), rfl, hnm⟩) (w9 hw) (ty := .long) (by decide) rfl rfl fun T18 h18 X18 e18 W18 => ?_))
  have F18_o_discarded : Fld Z h18 o "com/example/kick/kick/value/PoolMetrics" "discarded" "J" (.long (Int64.ofNat (m7))) := F17_o_discarded.same W18
  have F18_o_threads := F17_o_threads.other W18 (Or.inr (slot_ne (Or.inr (w37 hw)) (Or.inr (w51 hw)) (by decide) (t := .int) (t' := .long) (by decide) (by decide)))
  have F18_o_active := F17_o_active.other W18 (Or.inr (slot_ne (Or.inr (w39 hw)) (Or.inr (w51 hw)) (by decide) (t := .int) (t' := .long) (by decide) (by decide)))
  have F18_o_queued := F17_o_queued.other W18 (Or.inr (slot_ne (Or.inr (w41 hw)) (Or.inr (w51 hw)) (by decide) (t := .int) (t' := .long) (by decide) (by decide)))
  have F18_o_submitted := F17_o_submitted.other W18 (Or.inr (slot_ne (Or.inr (w43 hw)) (Or.inr (w51 hw)) (by decide) (t := .long) (t' := .long) (by decide) (by decide)))
  have F18_o_completed := F17_o_completed.other W18 (Or.inr (slot_ne (Or.inr (w45 hw)) (Or.inr (w51 hw)) (by decide) (t := .long) (t' := .long) (by decide) (by decide)))
  have F18_o_failed := F17_o_failed.other W18 (Or.inr (slot_ne (Or.inr (w47 hw)) (Or.inr (w51 hw)) (by decide) (t := .long) (t' := .long) (by decide) (by decide)))
  have F18_o_rejected := F17_o_rejected.other W18 (Or.inr (slot_ne (Or.inr (w49 hw)) (Or.inr (w51 hw)) (by decide) (t := .long) (t' := .long) (by decide) (by decide)))
  have F18_o_callerRan := F17_o_callerRan.other W18 (Or.inr (slot_ne (Or.inr (w53 hw)) (Or.inr (w51 hw)) (by decide) (t := .long) (t' := .long) (by decide) (by decide)))
  have E18_o := E17_o.wr W18
  have hS := hS.wr W18
  have K18 := Keep.wr K17 W18 (Or.inl (List.mem_of_getElem? (i := 0) rfl))
  have N18 := Fr.snoc X18 N17 g_o
  refine yaloadN X18 hx hby d37_112 rfl rfl (ylload X18 hx hby d37_113 rfl (yputfld X18 hx hby d37_115 hZ hown (host := "") (Or.inl (w52 hw)) Via.refl e18 F18_o_callerRan E18_o (Or.inr ⟨(w53 hw), rfl, hnm⟩) (w9 hw) (ty := .long) (by decide) rfl rfl fun T19 h19 X19 e19 W19 => ?_))
  have F19_o_callerRan : Fld Z h19 o "com/example/kick/kick/value/PoolMetrics" "callerRan" "J" (.long (Int64.ofNat (m8))) := F18_o_callerRan.same W19
  have F19_o_threads := F18_o_threads.other W19 (Or.inr (slot_ne (Or.inr (w37 hw)) (Or.inr (w53 hw)) (by decide) (t := .int) (t' := .long) (by decide) (by decide)))
  have F19_o_active := F18_o_active.other W19 (Or.inr (slot_ne (Or.inr (w39 hw)) (Or.inr (w53 hw)) (by decide) (t := .int) (t' := .long) (by decide) (by decide)))
  have F19_o_queued := F18_o_queued.other W19 (Or.inr (slot_ne (Or.inr (w41 hw)) (Or.inr (w53 hw)) (by decide) (t := .int) (t' := .long) (by decide) (by decide)))
  have F19_o_submitted := F18_o_submitted.other W19 (Or.inr (slot_ne (Or.inr (w43 hw)) (Or.inr (w53 hw)) (by decide) (t := .long) (t' := .long) (by decide) (by decide)))
  have F19_o_completed := F18_o_completed.other W19 (Or.inr (slot_ne (Or.inr (w45 hw)) (Or.inr (w53 hw)) (by decide) (t := .long) (t' := .long) (by decide) (by decide)))
  have F19_o_failed := F18_o_failed.other W19 (Or.inr (slot_ne (Or.inr (w47 hw)) (Or.inr (w53 hw)) (by decide) (t := .long) (t' := .long) (by decide) (by decide)))
  have F19_o_rejected := F18_o_rejected.other W19 (Or.inr (slot_ne (Or.inr (w49 hw)) (Or.inr (w53 hw)) (by decide) (t := .long) (t' := .long) (by decide) (by decide)))
  have F19_o_discarded := F18_o_discarded.other W19 (Or.inr (slot_ne (Or.inr (w51 hw)) (Or.inr (w53 hw)) (by decide) (t := .long) (t' := .long) (by decide) (by decide)))
  have E19_o := E18_o.wr W19
  have hS := hS.wr W19
  have K19 := Keep.wr K18 W19 (Or.inl (List.mem_of_getElem? (i := 0) rfl))
  have N19 := Fr.snoc X19 N18 g_o
  show yEndsW p e below s0 T19 (mkF m 118 #[rv o, iv (Int32.ofNat (m0)), iv (Int32.ofNat (m1)), iv (Int32.ofNat (m2)), .val (.long (Int64.ofNat (m3))), .second, .val (.long (Int64.ofNat (m4))), .second, .val (.long (Int64.ofNat (m5))), .second, .val (.long (Int64.ofNat (m6))), .second, .val (.long (Int64.ofNat (m7))), .second, .val (.long (Int64.ofNat (m8))), .second] []) _ _ _
  exact yretV X19 hx hby d37_118 hret hlk e19 hS (by first | decide | omega | (dsimp only; omega)) (by first | decide | omega | (dsimp only; omega)) (fun v1 hv => by rw [e19]; exact ⟨rfl, N19, K19, ⟨E19_o, F19_o_threads, F19_o_active, F19_o_queued, F19_o_submitted, F19_o_completed, F19_o_failed, F19_o_rejected, F19_o_discarded, F19_o_callerRan⟩, ibw hI hv⟩)
theorem w59 (hw : HW a0 Z) : (Cond.classLink "com/example/kick/kick/value/PoolMetrics" 51 "java/lang/StringBuilder").before a0 Z = true := hwi hw 59 rfl
theorem w62 (hw : HW a0 Z) : (Cond.methodLink "com/example/kick/kick/value/PoolMetrics" 53 ⟨"java/lang/StringBuilder", "<init>", "()V"⟩).before a0 Z = true := hwi hw 62 rfl
theorem w63 (hw : HW a0 Z) : (Cond.instanceMethod ⟨"java/lang/StringBuilder", "<init>", "()V"⟩).before a0 Z = true := hwi hw 63 rfl
theorem w64 (hw : HW a0 Z) : (Cond.code ⟨"java/lang/StringBuilder", "<init>", "()V"⟩ jdk_67_method_1_code 1 (Option.none : Option Jvm.ClassFile.FieldType)).before a0 Z = true := hwi hw 64 rfl
theorem w77 (hw : HW a0 Z) : (Cond.stringLink "com/example/kick/kick/value/PoolMetrics" 54 "PoolMetrics[threads=").before a0 Z = true := hwi hw 77 rfl
theorem w78 (hw : HW a0 Z) : (Cond.methodLink "com/example/kick/kick/value/PoolMetrics" 56 ⟨"java/lang/StringBuilder", "append", "(Ljava/lang/String;)Ljava/lang/StringBuilder;"⟩).before a0 Z = true := hwi hw 78 rfl
theorem w79 (hw : HW a0 Z) : (Cond.declares ⟨"java/lang/StringBuilder", "append", "(Ljava/lang/String;)Ljava/lang/StringBuilder;"⟩).before a0 Z = true := hwi hw 79 rfl
theorem w80 (hw : HW a0 Z) : (Cond.instanceMethod ⟨"java/lang/StringBuilder", "append", "(Ljava/lang/String;)Ljava/lang/StringBuilder;"⟩).before a0 Z = true := hwi hw 80 rfl
theorem w81 (hw : HW a0 Z) : (Cond.selects "java/lang/StringBuilder" ⟨"java/lang/StringBuilder", "append", "(Ljava/lang/String;)Ljava/lang/StringBuilder;"⟩ ⟨"java/lang/StringBuilder", "append", "(Ljava/lang/String;)Ljava/lang/StringBuilder;"⟩).before a0 Z = true := hwi hw 81 rfl
theorem w82 (hw : HW a0 Z) : (Cond.code ⟨"java/lang/StringBuilder", "append", "(Ljava/lang/String;)Ljava/lang/StringBuilder;"⟩ jdk_67_method_7_code 2 (Option.some (FieldType.object "java/lang/StringBuilder"))).before a0 Z = true := hwi hw 82 rfl
theorem w151 (hw : HW a0 Z) : (Cond.methodLink "com/example/kick/kick/value/PoolMetrics" 60 ⟨"java/lang/StringBuilder", "append", "(I)Ljava/lang/StringBuilder;"⟩).before a0 Z = true := hwi hw 151 rfl
theorem w152 (hw : HW a0 Z) : (Cond.declares ⟨"java/lang/StringBuilder", "append", "(I)Ljava/lang/StringBuilder;"⟩).before a0 Z = true := hwi hw 152 rfl
theorem w153 (hw : HW a0 Z) : (Cond.instanceMethod ⟨"java/lang/StringBuilder", "append", "(I)Ljava/lang/StringBuilder;"⟩).before a0 Z = true := hwi hw 153 rfl
theorem w154 (hw : HW a0 Z) : (Cond.selects "java/lang/StringBuilder" ⟨"java/lang/StringBuilder", "append", "(I)Ljava/lang/StringBuilder;"⟩ ⟨"java/lang/StringBuilder", "append", "(I)Ljava/lang/StringBuilder;"⟩).before a0 Z = true := hwi hw 154 rfl
theorem w155 (hw : HW a0 Z) : (Cond.code ⟨"java/lang/StringBuilder", "append", "(I)Ljava/lang/StringBuilder;"⟩ jdk_67_method_15_code 2 (Option.some (FieldType.object "java/lang/StringBuilder"))).before a0 Z = true := hwi hw 155 rfl
theorem w173 (hw : HW a0 Z) : (Cond.stringLink "com/example/kick/kick/value/PoolMetrics" 63 ", active=").before a0 Z = true := hwi hw 173 rfl
theorem w174 (hw : HW a0 Z) : (Cond.stringLink "com/example/kick/kick/value/PoolMetrics" 65 ", queued=").before a0 Z = true := hwi hw 174 rfl
theorem w175 (hw : HW a0 Z) : (Cond.stringLink "com/example/kick/kick/value/PoolMetrics" 67 ", submitted=").before a0 Z = true := hwi hw 175 rfl
theorem w176 (hw : HW a0 Z) : (Cond.methodLink "com/example/kick/kick/value/PoolMetrics" 69 ⟨"java/lang/StringBuilder", "append", "(J)Ljava/lang/StringBuilder;"⟩).before a0 Z = true := hwi hw 176 rfl
theorem w177 (hw : HW a0 Z) : (Cond.declares ⟨"java/lang/StringBuilder", "append", "(J)Ljava/lang/StringBuilder;"⟩).before a0 Z = true := hwi hw 177 rfl
theorem w178 (hw : HW a0 Z) : (Cond.instanceMethod ⟨"java/lang/StringBuilder", "append", "(J)Ljava/lang/StringBuilder;"⟩).before a0 Z = true := hwi hw 178 rfl
theorem w179 (hw : HW a0 Z) : (Cond.selects "java/lang/StringBuilder" ⟨"java/lang/StringBuilder", "append", "(J)Ljava/lang/StringBuilder;"⟩ ⟨"java/lang/StringBuilder", "append", "(J)Ljava/lang/StringBuilder;"⟩).before a0 Z = true := hwi hw 179 rfl
theorem w180 (hw : HW a0 Z) : (Cond.code ⟨"java/lang/StringBuilder", "append", "(J)Ljava/lang/StringBuilder;"⟩ jdk_67_method_16_code 3 (Option.some (FieldType.object "java/lang/StringBuilder"))).before a0 Z = true := hwi hw 180 rfl
theorem w195 (hw : HW a0 Z) : (Cond.stringLink "com/example/kick/kick/value/PoolMetrics" 72 ", completed=").before a0 Z = true := hwi hw 195 rfl
theorem w199 (hw : HW a0 Z) : (Cond.stringLink "com/example/kick/kick/value/PoolMetrics" 74 ", failed=").before a0 Z = true := hwi hw 199 rfl
theorem w200 (hw : HW a0 Z) : (Cond.stringLink "com/example/kick/kick/value/PoolMetrics" 76 ", rejected=").before a0 Z = true := hwi hw 200 rfl
theorem w201 (hw : HW a0 Z) : (Cond.stringLink "com/example/kick/kick/value/PoolMetrics" 78 ", discarded=").before a0 Z = true := hwi hw 201 rfl
theorem w202 (hw : HW a0 Z) : (Cond.stringLink "com/example/kick/kick/value/PoolMetrics" 80 ", callerRan=").before a0 Z = true := hwi hw 202 rfl
theorem w203 (hw : HW a0 Z) : (Cond.stringLink "com/example/kick/kick/value/PoolMetrics" 82 "]").before a0 Z = true := hwi hw 203 rfl
theorem w204 (hw : HW a0 Z) : (Cond.methodLink "com/example/kick/kick/value/PoolMetrics" 84 ⟨"java/lang/StringBuilder", "toString", "()Ljava/lang/String;"⟩).before a0 Z = true := hwi hw 204 rfl
theorem w205 (hw : HW a0 Z) : (Cond.declares ⟨"java/lang/StringBuilder", "toString", "()Ljava/lang/String;"⟩).before a0 Z = true := hwi hw 205 rfl
theorem w206 (hw : HW a0 Z) : (Cond.instanceMethod ⟨"java/lang/StringBuilder", "toString", "()Ljava/lang/String;"⟩).before a0 Z = true := hwi hw 206 rfl
theorem w207 (hw : HW a0 Z) : (Cond.selects "java/lang/StringBuilder" ⟨"java/lang/StringBuilder", "toString", "()Ljava/lang/String;"⟩ ⟨"java/lang/StringBuilder", "toString", "()Ljava/lang/String;"⟩).before a0 Z = true := hwi hw 207 rfl
theorem w208 (hw : HW a0 Z) : (Cond.code ⟨"java/lang/StringBuilder", "toString", "()Ljava/lang/String;"⟩ jdk_67_method_42_code 1 (Option.some (FieldType.object "java/lang/String"))).before a0 Z = true := hwi hw 208 rfl
theorem d38_0 : decode prog_12_method_11_code 0 = .ok (.new 51, 3) := by decide +kernel
theorem d38_3 : decode prog_12_method_11_code 3 = .ok (.dup, 1) := by decide +kernel
theorem d38_4 : decode prog_12_method_11_code 4 = .ok (.invokespecial 53, 3) := by decide +kernel
theorem d38_7 : decode prog_12_method_11_code 7 = .ok (.ldc 54, 2) := by decide +kernel
theorem d38_9 : decode prog_12_method_11_code 9 = .ok (.invokevirtual 56, 3) := by decide +kernel
theorem d38_12 : decode prog_12_method_11_code 12 = .ok (.aload_n 0, 1) := by decide +kernel
theorem d38_13 : decode prog_12_method_11_code 13 = .ok (.getfield 31, 3) := by decide +kernel
theorem d38_16 : decode prog_12_method_11_code 16 = .ok (.invokevirtual 60, 3) := by decide +kernel
theorem d38_19 : decode prog_12_method_11_code 19 = .ok (.ldc 63, 2) := by decide +kernel
theorem d38_21 : decode prog_12_method_11_code 21 = .ok (.invokevirtual 56, 3) := by decide +kernel
theorem d38_24 : decode prog_12_method_11_code 24 = .ok (.aload_n 0, 1) := by decide +kernel
theorem d38_25 : decode prog_12_method_11_code 25 = .ok (.getfield 34, 3) := by decide +kernel
theorem d38_28 : decode prog_12_method_11_code 28 = .ok (.invokevirtual 60, 3) := by decide +kernel
theorem d38_31 : decode prog_12_method_11_code 31 = .ok (.ldc 65, 2) := by decide +kernel
theorem d38_33 : decode prog_12_method_11_code 33 = .ok (.invokevirtual 56, 3) := by decide +kernel
theorem d38_36 : decode prog_12_method_11_code 36 = .ok (.aload_n 0, 1) := by decide +kernel
theorem d38_37 : decode prog_12_method_11_code 37 = .ok (.getfield 36, 3) := by decide +kernel
theorem d38_40 : decode prog_12_method_11_code 40 = .ok (.invokevirtual 60, 3) := by decide +kernel
theorem d38_43 : decode prog_12_method_11_code 43 = .ok (.ldc 67, 2) := by decide +kernel
theorem d38_45 : decode prog_12_method_11_code 45 = .ok (.invokevirtual 56, 3) := by decide +kernel
theorem d38_48 : decode prog_12_method_11_code 48 = .ok (.aload_n 0, 1) := by decide +kernel
theorem d38_49 : decode prog_12_method_11_code 49 = .ok (.getfield 38, 3) := by decide +kernel
theorem d38_52 : decode prog_12_method_11_code 52 = .ok (.invokevirtual 69, 3) := by decide +kernel
theorem d38_55 : decode prog_12_method_11_code 55 = .ok (.ldc 72, 2) := by decide +kernel
theorem d38_57 : decode prog_12_method_11_code 57 = .ok (.invokevirtual 56, 3) := by decide +kernel
theorem d38_60 : decode prog_12_method_11_code 60 = .ok (.aload_n 0, 1) := by decide +kernel
theorem d38_61 : decode prog_12_method_11_code 61 = .ok (.getfield 41, 3) := by decide +kernel
theorem d38_64 : decode prog_12_method_11_code 64 = .ok (.invokevirtual 69, 3) := by decide +kernel
theorem d38_67 : decode prog_12_method_11_code 67 = .ok (.ldc 74, 2) := by decide +kernel
theorem d38_69 : decode prog_12_method_11_code 69 = .ok (.invokevirtual 56, 3) := by decide +kernel
theorem d38_72 : decode prog_12_method_11_code 72 = .ok (.aload_n 0, 1) := by decide +kernel
theorem d38_73 : decode prog_12_method_11_code 73 = .ok (.getfield 43, 3) := by decide +kernel
theorem d38_76 : decode prog_12_method_11_code 76 = .ok (.invokevirtual 69, 3) := by decide +kernel
theorem d38_79 : decode prog_12_method_11_code 79 = .ok (.ldc 76, 2) := by decide +kernel
theorem d38_81 : decode prog_12_method_11_code 81 = .ok (.invokevirtual 56, 3) := by decide +kernel
theorem d38_84 : decode prog_12_method_11_code 84 = .ok (.aload_n 0, 1) := by decide +kernel
theorem d38_85 : decode prog_12_method_11_code 85 = .ok (.getfield 45, 3) := by decide +kernel
theorem d38_88 : decode prog_12_method_11_code 88 = .ok (.invokevirtual 69, 3) := by decide +kernel
theorem d38_91 : decode prog_12_method_11_code 91 = .ok (.ldc 78, 2) := by decide +kernel
theorem d38_93 : decode prog_12_method_11_code 93 = .ok (.invokevirtual 56, 3) := by decide +kernel
theorem d38_96 : decode prog_12_method_11_code 96 = .ok (.aload_n 0, 1) := by decide +kernel
theorem d38_97 : decode prog_12_method_11_code 97 = .ok (.getfield 47, 3) := by decide +kernel
theorem d38_100 : decode prog_12_method_11_code 100 = .ok (.invokevirtual 69, 3) := by decide +kernel
theorem d38_103 : decode prog_12_method_11_code 103 = .ok (.ldc 80, 2) := by decide +kernel
theorem d38_105 : decode prog_12_method_11_code 105 = .ok (.invokevirtual 56, 3) := by decide +kernel
theorem d38_108 : decode prog_12_method_11_code 108 = .ok (.aload_n 0, 1) := by decide +kernel
theorem d38_109 : decode prog_12_method_11_code 109 = .ok (.getfield 49, 3) := by decide +kernel
theorem d38_112 : decode prog_12_method_11_code 112 = .ok (.invokevirtual 69, 3) := by decide +kernel
theorem d38_115 : decode prog_12_method_11_code 115 = .ok (.ldc 82, 2) := by decide +kernel
theorem d38_117 : decode prog_12_method_11_code 117 = .ok (.invokevirtual 56, 3) := by decide +kernel
theorem d38_120 : decode prog_12_method_11_code 120 = .ok (.invokevirtual 84, 3) := by decide +kernel
theorem d38_123 : decode prog_12_method_11_code 123 = .ok (.areturn, 1) := by decide +kernel
theorem pd_24 : parseMethodDescriptor "()V" = some ⟨[], none⟩ := by decide +kernel
theorem pd_25 : parseMethodDescriptor "(Ljava/lang/String;)Ljava/lang/StringBuilder;" = some ⟨[(.object "java/lang/String")], some (.object "java/lang/StringBuilder")⟩ := by decide +kernel
theorem pd_26 : parseMethodDescriptor "(I)Ljava/lang/StringBuilder;" = some ⟨[.int], some (.object "java/lang/StringBuilder")⟩ := by decide +kernel
theorem pd_27 : parseMethodDescriptor "(J)Ljava/lang/StringBuilder;" = some ⟨[.long], some (.object "java/lang/StringBuilder")⟩ := by decide +kernel
theorem pd_28 : parseMethodDescriptor "()Ljava/lang/String;" = some ⟨[], some (.object "java/lang/String")⟩ := by decide +kernel
def GR (cap len cells slots : Nat) : Prop := len ≤ cap ∧ ((cap = 34 ∧ cells ≤ 1 ∧ slots ≤ 34) ∨ (cap = 70 ∧ 34 < len ∧ cells ≤ 2 ∧ slots ≤ 104) ∨ (cap = 142 ∧ 70 < len ∧ cells ≤ 3 ∧ slots ≤ 246) ∨ (cap = 286 ∧ 142 < len ∧ cells ≤ 4 ∧ slots ≤ 532))
theorem GR.le {cap len cells slots : Nat} (G : GR cap len cells slots) : len ≤ cap ∧ cap ≤ 286 ∧ cells ≤ 4 ∧ slots ≤ 532 := by unfold GR at G; omega
theorem GR.step {cap len cells slots len' : Nat} (G : GR cap len cells slots) (h1 : len ≤ len') (h2 : len' ≤ len + 20) (h3 : len' ≤ 286) : GR (gcap cap len') len' (cells + gcell cap len') (slots + gslot cap len') := by
  unfold GR gcap gcell gslot ncap at *
  split <;> omega
theorem GR.first : GR (gcap 16 (([] : List Int8).length + t_9.length)) (([] : List Int8).length + t_9.length) (gcell 16 (([] : List Int8).length + t_9.length)) (gslot 16 (([] : List Int8).length + t_9.length)) := by
  rw [tl_9]; unfold GR; decide
def Sm (m0 m1 m2 m3 m4 m5 m6 m7 m8 : Nat) : List Int8 := [] ++ t_9 ++ dec m0 ++ t_10 ++ dec m1 ++ t_11 ++ dec m2 ++ t_12 ++ dec m3 ++ t_13 ++ dec m4 ++ t_14 ++ dec m5 ++ t_15 ++ dec m6 ++ t_16 ++ dec m7 ++ t_17 ++ dec m8 ++ t_18
theorem t_cold (hw : HW a0 Z) (C : Ctx Z cs d1 d2 o1 o2) (O0 : zOd Z n0 h0) (hc : ∀ q ∈ consts_1, Jvm.Lit.constHeld Z q.1 q.2) (hcw : Jvm.Lit.compactW.before a0 Z = true) (m0 m1 m2 m3 m4 m5 m6 m7 m8 : Nat) (hm0 : m0 < 2147483648) (hm1 : m1 < 2147483648) (hm2 : m2 < 2147483648) (hm3 : m3 < 9223372036854775808) (hm4 : m4 < 9223372036854775808) (hm5 : m5 < 9223372036854775808) (hm6 : m6 < 9223372036854775808) (hm7 : m7 < 9223372036854775808) (hm8 : m8 < 9223372036854775808) (hn0 : n0 = h0.size) (o : Addr) (P0 : PMo Z h0 o m0 m1 m2 m3 m4 m5 m6 m7 m8) : yConW l Z (⟨"com/example/kick/kick/value/PoolMetrics", "toString", "()Ljava/lang/String;"⟩ : MethodName) prog_12_method_11_code 1 (some (.object "java/lang/String")) [] ({ frames := 6, cells := 28, slots := 1400, locals := 102 } : Room) #[(.ref o)] (fun v => IB Z v ["callerRan", "discarded", "rejected", "failed", "completed", "submitted", "queued", "active", "threads"]) h0 (fun v' v h L => ∃ t x : Addr, v' = some (.ref t) ∧ Fr n0 L ∧ Keep h0 h [] ∧ Sx Z h t x (Sm m0 m1 m2 m3 m4 m5 m6 m7 m8) ∧ h0.size ≤ t ∧ h0.size ≤ x ∧ IB Z v (["]", ", callerRan=", ", discarded=", ", rejected=", ", failed=", ", completed=", ", submitted=", ", queued=", ", active=", "PoolMetrics[threads="] ++ ["callerRan", "discarded", "rejected", "failed", "completed", "submitted", "queued", "active", "threads"]) ∧ ∃ r54 x54 r63 x63 r65 x65 r67 x67 r72 x72 r74 x74 r76 x76 r78 x78 r80 x80 r82 x82 : Addr, (Lit (Z.setVm v) "com/example/kick/kick/value/PoolMetrics" 54 r54 ∧ Sx Z h r54 x54 t_9) ∧ (Lit (Z.setVm v) "com/example/kick/kick/value/PoolMetrics" 63 r63 ∧ Sx Z h r63 x63 t_10) ∧ (Lit (Z.setVm v) "com/example/kick/kick/value/PoolMetrics" 65 r65 ∧ Sx Z h r65 x65 t_11) ∧ (Lit (Z.setVm v) "com/example/kick/kick/value/PoolMetrics" 67 r67 ∧ Sx Z h r67 x67 t_12) ∧ (Lit (Z.setVm v) "com/example/kick/kick/value/PoolMetrics" 72 r72 ∧ Sx Z h r72 x72 t_13) ∧ (Lit (Z.setVm v) "com/example/kick/kick/value/PoolMetrics" 74 r74 ∧ Sx Z h r74 x74 t_14) ∧ (Lit (Z.setVm v) "com/example/kick/kick/value/PoolMetrics" 76 r76 ∧ Sx Z h r76 x76 t_15) ∧ (Lit (Z.setVm v) "com/example/kick/kick/value/PoolMetrics" 78 r78 ∧ Sx Z h r78 x78 t_16) ∧ (Lit (Z.setVm v) "com/example/kick/kick/value/PoolMetrics" 80 r80 ∧ Sx Z h r80 x80 t_17) ∧ (Lit (Z.setVm v) "com/example/kick/kick/value/PoolMetrics" 82 r82 ∧ Sx Z h r82 x82 t_18)) := by
  refine yenterW (plainFor_of_name pn_9) (L0 := #[rv o]) (fun m => by first | (simp [entryFrame, mkF, argsToLocals, Value.category]; done) | rfl) ?_
  intro p e s0 v0 m below meth c T0 hx hZ hby hml hown0 hnm hret hlk X0 e0 hS eh hP
  have hown : v0.findClass "com/example/kick/kick/value/PoolMetrics" = some m.cls := hown0
  have K0 := Keep.refl h0 []
  have N0 := Fr.nil n0
  have hI := hP
  obtain ⟨E_o, F_o_threads, F_o_active, F_o_queued, F_o_submitted, F_o_completed, F_o_failed, F_o_rejected, F_o_discarded, F_o_callerRan⟩ := id P0
  have d0_ := dec_len_le 9 m0 (by omega)
  have d1_ := dec_len_le 9 m1 (by omega)
  have d2_ := dec_len_le 9 m2 (by omega)
  have d3_ := dec_len_le 18 m3 (by omega)
  have d4_ := dec_len_le 18 m4 (by omega)
  have d5_ := dec_len_le 18 m5 (by omega)
  have d6_ := dec_len_le 18 m6 (by omega)
  have d7_ := dec_len_le 18 m7 (by omega)
  have d8_ := dec_len_le 18 m8 (by omega)
  have tl9 := tl_9
  have tl10 := tl_10
  have tl11 := tl_11
  have tl12 := tl_12
  have tl13 := tl_13
  have tl14 := tl_14
  have tl15 := tl_15
  have tl16 := tl_16
  have tl17 := tl_17
  have tl18 := tl_18
  have nl0 : ([] : List Int8).length = 0 := rfl
  show yEndsW p e below s0 T0 (mkF m 0 #[rv o] []) _ _ _
  refine ynewobj X0 hx hby d38_0 hZ hown (w59 hw) (w60 hw) (w61 hw) e0 (by first | decide | omega | (dsimp only; omega)) (by first | decide | omega | (dsimp only; omega)) fun T1 h1 b1 X1 e1 y1 Ex1 E1_b1 D1 => ?_
  have O1 := O0.ext Ex1
  have K1 := Keep.ext K0 Ex1
  have hS := hS.ext Ex1
  have g1 : n0 ≤ b1 := by rw [y1]; exact zodsz O0
  have z1 : h0.size ≤ b1 := by rw [y1]; exact K0.1
  have F1_b1_value : Fld Z h1 b1 "java/lang/AbstractStringBuilder" "value" "[B" .null := D1 (Or.inl (w74 hw)) (ty := (.array .byte)) (by decide)
  have F1_b1_coder : Fld Z h1 b1 "java/lang/AbstractStringBuilder" "coder" "B" (.int 0) := D1 (Or.inl (w76 hw)) (ty := .byte) (by decide)
  have F1_b1_count : Fld Z h1 b1 "java/lang/AbstractStringBuilder" "count" "I" (.int 0) := D1 (Or.inl (w102 hw)) (ty := .int) (by decide)
  refine ydup X1 hx hby d38_3 rfl ?_
  show yEndsW p e below s0 T1 (mkF m 4 #[rv o] [(.ref b1), (.ref b1)]) _ _ _
  refine ycallsp X1 hx hby d38_4 hZ hown rfl (w62 hw) (w63 hw) (w64 hw) (w61 hw) e1 (c_init l hw  C O1 b1 E1_b1 F1_b1_value F1_b1_coder F1_b1_count g1) hml 1 pd_24 (argsL := []) (st := [(.ref b1)]) fun T2 h2 v2 L2 e2 X2 q2 => ?_
  obtain ⟨rfl, N2q, K2q, b2, B2_a, g2_b, y2⟩ := q2
  have O2 := O1.keep K2q (allS g1 all0)
  have K2 := Keep.trans K1 K2q (allS (Or.inr z1) all0)
  have hS := hS.keep K2q
  have N2 := Fr.app N0 N2q
  have z2 : h0.size ≤ b2 := Nat.le_trans K1.1 y2
  show yEndsW p e below s0 T2 (mkF m 7 #[rv o] [(.ref b1)]) _ _ _
  refine yldcC X2 hx hby d38_7 hZ hown (w77 hw) (wS hw) e2 hS eh (hn0 ▸ N2) O0.2.2 hI (by decide +kernel) (hc _ (List.mem_of_getElem? (i := 9) rfl)) hcw t_9 tx_9 (by decide +kernel) 80 (fun v3 T3 h3 r54 x54 X3 e3 Ex3 hZ hown hS hW3 E3_r V3_r C3_r A3_x hI Q54 ww3 => ?_) (by decide +kernel) (by decide +kernel) (by first | decide | omega | (dsimp only; omega)) (by first | decide | omega | (dsimp only; omega))
  have E3_b1 := (Sb.exa B2_a).ext Ex3
  have O3 := O2.ext Ex3
  have K3 := Keep.ext K2 Ex3
  have B3_x := B2_a.ext Ex3
  have ne3_r54_b1 : r54 ≠ b1 := ww3.elim (fun q => Nat.ne_of_lt (Nat.lt_of_lt_of_le q.1 z1)) (fun q => Nat.ne_of_gt (Nat.lt_of_lt_of_le (Sb.exa B2_a).lt q.1))
  have ne3_x54_b1 : x54 ≠ b1 := ww3.elim (fun q => Nat.ne_of_lt (Nat.lt_of_lt_of_le q.2 z1)) (fun q => Nat.ne_of_gt (Nat.lt_of_lt_of_le (Sb.exa B2_a).lt q.2))
  have ne3_r54_b2 : r54 ≠ b2 := ww3.elim (fun q => Nat.ne_of_lt (Nat.lt_of_lt_of_le q.1 (hn0 ▸ g2_b))) (fun q => Nat.ne_of_gt (Nat.lt_of_lt_of_le B2_a.lt q.1))
  have ne3_x54_b2 : x54 ≠ b2 := ww3.elim (fun q => Nat.ne_of_lt (Nat.lt_of_lt_of_le q.2 (hn0 ▸ g2_b))) (fun q => Nat.ne_of_gt (Nat.lt_of_lt_of_le B2_a.lt q.2))
  have L3_r54 := (Sx.mk E3_r V3_r C3_r A3_x)
  show yEndsW p e below s0 T3 (mkF m 9 #[rv o] [(.ref r54), (.ref b1)]) _ _ _
  have G1 := GR.first
  have J1 := G1.le
  refine ycallv X3 hx hby d38_9 hZ hown (w78 hw) (w79 hw) (notFace_of_selects (args := #[]) (mvT hZ (w81 hw))) (w81 hw) (w80 hw) (w82 hw) (w61 hw) e3 E3_b1 (c_appstr l hw  C O3 b1 b2 ([]) 16 B3_x (by omega) g1 g2_b r54 x54 t_9 L3_r54 (by decide +kernel) ne3_r54_b1 ne3_r54_b2 ne3_x54_b1 ne3_x54_b2) hml 0 pd_25 (argsL := [(.ref r54)]) (st := []) fun T4 h4 v4 L4 e4 X4 q4 => ?_
  obtain ⟨rfl, N4q, K4q, b4, B4_a, g4_b, o4⟩ := q4
  have O4 := O3.keep K4q (allS g1 (allS g2_b all0))
  have K4 := Keep.trans K3 K4q (allS (Or.inr z1) (allS (Or.inr z2) all0))
  have i4 : b4 ∈ ([] : List Addr) ∨ h0.size ≤ b4 := (o4.elim (fun q => q ▸ (Or.inr z2)) (fun q => Or.inr (Nat.le_trans K3.1 q)))
  have hS := hS.keep K4q
  have L4_r54 := L3_r54.keep K4q (ninS ne3_r54_b1 (ninS ne3_r54_b2 nin0)) (ninS ne3_x54_b1 (ninS ne3_x54_b2 nin0))
  have ne4_r54 : r54 ≠ b4 := o4.elim (fun q => q ▸ ne3_r54_b2) (fun q => Nat.ne_of_lt (Nat.lt_of_lt_of_le L3_r54.ltr q))
  have ne4_x54 : x54 ≠ b4 := o4.elim (fun q => q ▸ ne3_x54_b2) (fun q => Nat.ne_of_lt (Nat.lt_of_lt_of_le L3_r54.ltx q))
  have N4 := Fr.app N2 N4q
  obtain ⟨S1, hS1⟩ : ∃ z, z = [] ++ t_9 := ⟨_, rfl⟩
  rw [← hS1] at B4_a
  have hl1 : S1.length = (([] : List Int8).length + (t_9).length) := by rw [hS1, List.length_append]
  generalize gcap 16 (([] : List Int8).length + (t_9).length) = cap1 at B4_a G1 J1
  generalize gcell 16 (([] : List Int8).length + (t_9).length) = gc1 at X4 G1 J1
  generalize gslot 16 (([] : List Int8).length + (t_9).length) = gs1 at X4 G1 J1
  rw [← hl1] at G1 J1
  show yEndsW p e below s0 T4 (mkF m 12 #[rv o] [(.ref b1)]) _ _ _
  refine yaloadN X4 hx hby d38_12 rfl rfl (ygetfld X4 hx hby d38_13 hZ hown (host := "") (Or.inl (w36 hw)) Via.refl e4 (F_o_threads.keep K4 nin0) fun T5 X5 e5 => ?_)
  show yEndsW p e below s0 T5 (mkF m 16 #[rv o] [(.int (Int32.ofNat (m0))), (.ref b1)]) _ _ _
  have G2 := GR.step G1 (len' := ((S1 : List Int8).length + (dec m0).length)) (by omega) (by omega) (by omega)
  have J2 := G2.le
  refine ycallv X5 hx hby d38_16 hZ hown (w151 hw) (w152 hw) (notFace_of_selects (args := #[]) (mvT hZ (w154 hw))) (w154 hw) (w153 hw) (w155 hw) (w61 hw) e5 (Sb.exa B4_a) (c_appI l hw  C O4 b1 b4 (S1) cap1 B4_a (by omega) g1 g4_b m0 (by omega)) hml 0 pd_26 (argsL := [(.int (Int32.ofNat (m0)))]) (st := []) fun T6 h6 v6 L6 e6 X6 q6 => ?_
  obtain ⟨rfl, N6q, K6q, b6, B6_a, g6_b, o6⟩ := q6
  have O6 := O4.keep K6q (allS g1 (allS g4_b all0))
  have K6 := Keep.trans K4 K6q (allS (Or.inr z1) (allS i4 all0))
  have i6 : b6 ∈ ([] : List Addr) ∨ h0.size ≤ b6 := (o6.elim (fun q => q ▸ i4) (fun q => Or.inr (Nat.le_trans K4.1 q)))
  have hS := hS.keep K6q
  have L6_r54 := L4_r54.keep K6q (ninS ne3_r54_b1 (ninS ne4_r54 nin0)) (ninS ne3_x54_b1 (ninS ne4_x54 nin0))
  have ne6_r54 : r54 ≠ b6 := o6.elim (fun q => q ▸ ne4_r54) (fun q => Nat.ne_of_lt (Nat.lt_of_lt_of_le L4_r54.ltr q))
  have ne6_x54 : x54 ≠ b6 := o6.elim (fun q => q ▸ ne4_x54) (fun q => Nat.ne_of_lt (Nat.lt_of_lt_of_le L4_r54.ltx q))
  have N6 := Fr.app N4 N6q
  obtain ⟨S2, hS2⟩ : ∃ z, z = S1 ++ dec m0 := ⟨_, rfl⟩
  rw [← hS2] at B6_a
  have hl2 : S2.length = ((S1 : List Int8).length + (dec m0).length) := by rw [hS2, List.length_append]
  generalize gcap cap1 ((S1 : List Int8).length + (dec m0).length) = cap2 at B6_a G2 J2
  generalize gcell cap1 ((S1 : List Int8).length + (dec m0).length) = gc2 at X6 G2 J2
  generalize gslot cap1 ((S1 : List Int8).length + (dec m0).length) = gs2 at X6 G2 J2
  rw [← hl2] at G2 J2
  show yEndsW p e below s0 T6 (mkF m 19 #[rv o] [(.ref b1)]) _ _ _
  refine yldcC X6 hx hby d38_19 hZ hown (w173 hw) (wS hw) e6 hS eh (hn0 ▸ N6) O0.2.2 hI (by decide +kernel) (hc _ (List.mem_of_getElem? (i := 10) rfl)) hcw t_10 tx_10 (by decide +kernel) 36 (fun v7 T7 h7 r63 x63 X7 e7 Ex7 hZ hown hS hW7 E7_r V7_r C7_r A7_x hI Q63 ww7 => ?_) (by decide +kernel) (by decide +kernel) (by first | decide | omega | (dsimp only; omega)) (by first | decide | omega | (dsimp only; omega))
  have Q54 := Q54.stays hW7
  have E7_b1 := (Sb.exa B6_a).ext Ex7
  have O7 := O6.ext Ex7
  have K7 := Keep.ext K6 Ex7
  have L7_r54 := L6_r54.ext Ex7
  have B7_x := B6_a.ext Ex7
  have ne7_r63_b1 : r63 ≠ b1 := ww7.elim (fun q => Nat.ne_of_lt (Nat.lt_of_lt_of_le q.1 z1)) (fun q => Nat.ne_of_gt (Nat.lt_of_lt_of_le (Sb.exa B6_a).lt q.1))
  have ne7_x63_b1 : x63 ≠ b1 := ww7.elim (fun q => Nat.ne_of_lt (Nat.lt_of_lt_of_le q.2 z1)) (fun q => Nat.ne_of_gt (Nat.lt_of_lt_of_le (Sb.exa B6_a).lt q.2))
  have ne7_r63_b6 : r63 ≠ b6 := ww7.elim (fun q => Nat.ne_of_lt (Nat.lt_of_lt_of_le q.1 (hn0 ▸ g6_b))) (fun q => Nat.ne_of_gt (Nat.lt_of_lt_of_le B6_a.lt q.1))
  have ne7_x63_b6 : x63 ≠ b6 := ww7.elim (fun q => Nat.ne_of_lt (Nat.lt_of_lt_of_le q.2 (hn0 ▸ g6_b))) (fun q => Nat.ne_of_gt (Nat.lt_of_lt_of_le B6_a.lt q.2))
  have L7_r63 := (Sx.mk E7_r V7_r C7_r A7_x)
  show yEndsW p e below s0 T7 (mkF m 21 #[rv o] [(.ref r63), (.ref b1)]) _ _ _
  have G3 := GR.step G2 (len' := ((S2 : List Int8).length + (t_10).length)) (by omega) (by omega) (by omega)
  have J3 := G3.le
  refine ycallv X7 hx hby d38_21 hZ hown (w78 hw) (w79 hw) (notFace_of_selects (args := #[]) (mvT hZ (w81 hw))) (w81 hw) (w80 hw) (w82 hw) (w61 hw) e7 E7_b1 (c_appstr l hw  C O7 b1 b6 (S2) cap2 B7_x (by omega) g1 g6_b r63 x63 t_10 L7_r63 (by decide +kernel) ne7_r63_b1 ne7_r63_b6 ne7_x63_b1 ne7_x63_b6) hml 0 pd_25 (argsL := [(.ref r63)]) (st := []) fun T8 h8 v8 L8 e8 X8 q8 => ?_
  obtain ⟨rfl, N8q, K8q, b8, B8_a, g8_b, o8⟩ := q8
  have O8 := O7.keep K8q (allS g1 (allS g6_b all0))
  have K8 := Keep.trans K7 K8q (allS (Or.inr z1) (allS i6 all0))
  have i8 : b8 ∈ ([] : List Addr) ∨ h0.size ≤ b8 := (o8.elim (fun q => q ▸ i6) (fun q => Or.inr (Nat.le_trans K7.1 q)))
  have hS := hS.keep K8q
  have L8_r54 := L7_r54.keep K8q (ninS ne3_r54_b1 (ninS ne6_r54 nin0)) (ninS ne3_x54_b1 (ninS ne6_x54 nin0))
  have ne8_r54 : r54 ≠ b8 := o8.elim (fun q => q ▸ ne6_r54) (fun q => Nat.ne_of_lt (Nat.lt_of_lt_of_le L7_r54.ltr q))
  have ne8_x54 : x54 ≠ b8 := o8.elim (fun q => q ▸ ne6_x54) (fun q => Nat.ne_of_lt (Nat.lt_of_lt_of_le L7_r54.ltx q))
  have L8_r63 := L7_r63.keep K8q (ninS ne7_r63_b1 (ninS ne7_r63_b6 nin0)) (ninS ne7_x63_b1 (ninS ne7_x63_b6 nin0))
  have ne8_r63 : r63 ≠ b8 := o8.elim (fun q => q ▸ ne7_r63_b6) (fun q => Nat.ne_of_lt (Nat.lt_of_lt_of_le L7_r63.ltr q))
  have ne8_x63 : x63 ≠ b8 := o8.elim (fun q => q ▸ ne7_x63_b6) (fun q => Nat.ne_of_lt (Nat.lt_of_lt_of_le L7_r63.ltx q))
  have N8 := Fr.app N6 N8q
  obtain ⟨S3, hS3⟩ : ∃ z, z = S2 ++ t_10 := ⟨_, rfl⟩
  rw [← hS3] at B8_a
  have hl3 : S3.length = ((S2 : List Int8).length + (t_10).length) := by rw [hS3, List.length_append]
  generalize gcap cap2 ((S2 : List Int8).length + (t_10).length) = cap3 at B8_a G3 J3
  generalize gcell cap2 ((S2 : List Int8).length + (t_10).length) = gc3 at X8 G3 J3
  generalize gslot cap2 ((S2 : List Int8).length + (t_10).length) = gs3 at X8 G3 J3
  rw [← hl3] at G3 J3
  show yEndsW p e below s0 T8 (mkF m 24 #[rv o] [(.ref b1)]) _ _ _
  refine yaloadN X8 hx hby d38_24 rfl rfl (ygetfld X8 hx hby d38_25 hZ hown (host := "") (Or.inl (w38 hw)) Via.refl e8 (F_o_active.keep K8 nin0) fun T9 X9 e9 => ?_)
  show yEndsW p e below s0 T9 (mkF m 28 #[rv o] [(.int (Int32.ofNat (m1))), (.ref b1)]) _ _ _
  have G4 := GR.step G3 (len' := ((S3 : List Int8).length + (dec m1).length)) (by omega) (by omega) (by omega)
  have J4 := G4.le
  refine ycallv X9 hx hby d38_28 hZ hown (w151 hw) (w152 hw) (notFace_of_selects (args := #[]) (mvT hZ (w154 hw))) (w154 hw) (w153 hw) (w155 hw) (w61 hw) e9 (Sb.exa B8_a) (c_appI l hw  C O8 b1 b8 (S3) cap3 B8_a (by omega) g1 g8_b m1 (by omega)) hml 0 pd_26 (argsL := [(.int (Int32.ofNat (m1)))]) (st := []) fun T10 h10 v10 L10 e10 X10 q10 => ?_
  obtain ⟨rfl, N10q, K10q, b10, B10_a, g10_b, o10⟩ := q10
  have O10 := O8.keep K10q (allS g1 (allS g8_b all0))
  have K10 := Keep.trans K8 K10q (allS (Or.inr z1) (allS i8 all0))
  have i10 : b10 ∈ ([] : List Addr) ∨ h0.size ≤ b10 := (o10.elim (fun q => q ▸ i8) (fun q => Or.inr (Nat.le_trans K8.1 q)))
  have hS := hS.keep K10q
  have L10_r54 := L8_r54.keep K10q (ninS ne3_r54_b1 (ninS ne8_r54 nin0)) (ninS ne3_x54_b1 (ninS ne8_x54 nin0))
  have ne10_r54 : r54 ≠ b10 := o10.elim (fun q => q ▸ ne8_r54) (fun q => Nat.ne_of_lt (Nat.lt_of_lt_of_le L8_r54.ltr q))
  have ne10_x54 : x54 ≠ b10 := o10.elim (fun q => q ▸ ne8_x54) (fun q => Nat.ne_of_lt (Nat.lt_of_lt_of_le L8_r54.ltx q))
  have L10_r63 := L8_r63.keep K10q (ninS ne7_r63_b1 (ninS ne8_r63 nin0)) (ninS ne7_x63_b1 (ninS ne8_x63 nin0))
  have ne10_r63 : r63 ≠ b10 := o10.elim (fun q => q ▸ ne8_r63) (fun q => Nat.ne_of_lt (Nat.lt_of_lt_of_le L8_r63.ltr q))
  have ne10_x63 : x63 ≠ b10 := o10.elim (fun q => q ▸ ne8_x63) (fun q => Nat.ne_of_lt (Nat.lt_of_lt_of_le L8_r63.ltx q))
  have N10 := Fr.app N8 N10q
  obtain ⟨S4, hS4⟩ : ∃ z, z = S3 ++ dec m1 := ⟨_, rfl⟩
  rw [← hS4] at B10_a
  have hl4 : S4.length = ((S3 : List Int8).length + (dec m1).length) := by rw [hS4, List.length_append]
  generalize gcap cap3 ((S3 : List Int8).length + (dec m1).length) = cap4 at B10_a G4 J4
  generalize gcell cap3 ((S3 : List Int8).length + (dec m1).length) = gc4 at X10 G4 J4
  generalize gslot cap3 ((S3 : List Int8).length + (dec m1).length) = gs4 at X10 G4 J4
  rw [← hl4] at G4 J4
  show yEndsW p e below s0 T10 (mkF m 31 #[rv o] [(.ref b1)]) _ _ _
  refine yldcC X10 hx hby d38_31 hZ hown (w174 hw) (wS hw) e10 hS eh (hn0 ▸ N10) O0.2.2 hI (by decide +kernel) (hc _ (List.mem_of_getElem? (i := 11) rfl)) hcw t_11 tx_11 (by decide +kernel) 36 (fun v11 T11 h11 r65 x65 X11 e11 Ex11 hZ hown hS hW11 E11_r V11_r C11_r A11_x hI Q65 ww11 => ?_) (by decide +kernel) (by decide +kernel) (by first | decide | omega | (dsimp only; omega)) (by first | decide | omega | (dsimp only; omega))
  have Q54 := Q54.stays hW11
  have Q63 := Q63.stays hW11
  have E11_b1 := (Sb.exa B10_a).ext Ex11
  have O11 := O10.ext Ex11
  have K11 := Keep.ext K10 Ex11
  have L11_r54 := L10_r54.ext Ex11
  have L11_r63 := L10_r63.ext Ex11
  have B11_x := B10_a.ext Ex11
  have ne11_r65_b1 : r65 ≠ b1 := ww11.elim (fun q => Nat.ne_of_lt (Nat.lt_of_lt_of_le q.1 z1)) (fun q => Nat.ne_of_gt (Nat.lt_of_lt_of_le (Sb.exa B10_a).lt q.1))
  have ne11_x65_b1 : x65 ≠ b1 := ww11.elim (fun q => Nat.ne_of_lt (Nat.lt_of_lt_of_le q.2 z1)) (fun q => Nat.ne_of_gt (Nat.lt_of_lt_of_le (Sb.exa B10_a).lt q.2))
  have ne11_r65_b10 : r65 ≠ b10 := ww11.elim (fun q => Nat.ne_of_lt (Nat.lt_of_lt_of_le q.1 (hn0 ▸ g10_b))) (fun q => Nat.ne_of_gt (Nat.lt_of_lt_of_le B10_a.lt q.1))
  have ne11_x65_b10 : x65 ≠ b10 := ww11.elim (fun q => Nat.ne_of_lt (Nat.lt_of_lt_of_le q.2 (hn0 ▸ g10_b))) (fun q => Nat.ne_of_gt (Nat.lt_of_lt_of_le B10_a.lt q.2))
  have L11_r65 := (Sx.mk E11_r V11_r C11_r A11_x)
  show yEndsW p e below s0 T11 (mkF m 33 #[rv o] [(.ref r65), (.ref b1)]) _ _ _
  have G5 := GR.step G4 (len' := ((S4 : List Int8).length + (t_11).length)) (by omega) (by omega) (by omega)
  have J5 := G5.le
  refine ycallv X11 hx hby d38_33 hZ hown (w78 hw) (w79 hw) (notFace_of_selects (args := #[]) (mvT hZ (w81 hw))) (w81 hw) (w80 hw) (w82 hw) (w61 hw) e11 E11_b1 (c_appstr l hw  C O11 b1 b10 (S4) cap4 B11_x (by omega) g1 g10_b r65 x65 t_11 L11_r65 (by decide +kernel) ne11_r65_b1 ne11_r65_b10 ne11_x65_b1 ne11_x65_b10) hml 0 pd_25 (argsL := [(.ref r65)]) (st := []) fun T12 h12 v12 L12 e12 X12 q12 => ?_
  obtain ⟨rfl, N12q, K12q, b12, B12_a, g12_b, o12⟩ := q12
  have O12 := O11.keep K12q (allS g1 (allS g10_b all0))
  have K12 := Keep.trans K11 K12q (allS (Or.inr z1) (allS i10 all0))
  have i12 : b12 ∈ ([] : List Addr) ∨ h0.size ≤ b12 := (o12.elim (fun q => q ▸ i10) (fun q => Or.inr (Nat.le_trans K11.1 q)))
  have hS := hS.keep K12q
  have L12_r54 := L11_r54.keep K12q (ninS ne3_r54_b1 (ninS ne10_r54 nin0)) (ninS ne3_x54_b1 (ninS ne10_x54 nin0))
  have ne12_r54 : r54 ≠ b12 := o12.elim (fun q => q ▸ ne10_r54) (fun q => Nat.ne_of_lt (Nat.lt_of_lt_of_le L11_r54.ltr q))
  have ne12_x54 : x54 ≠ b12 := o12.elim (fun q => q ▸ ne10_x54) (fun q => Nat.ne_of_lt (Nat.lt_of_lt_of_le L11_r54.ltx q))
  have L12_r63 := L11_r63.keep K12q (ninS ne7_r63_b1 (ninS ne10_r63 nin0)) (ninS ne7_x63_b1 (ninS ne10_x63 nin0))
  have ne12_r63 : r63 ≠ b12 := o12.elim (fun q => q ▸ ne10_r63) (fun q => Nat.ne_of_lt (Nat.lt_of_lt_of_le L11_r63.ltr q))
  have ne12_x63 : x63 ≠ b12 := o12.elim (fun q => q ▸ ne10_x63) (fun q => Nat.ne_of_lt (Nat.lt_of_lt_of_le L11_r63.ltx q))
  have L12_r65 := L11_r65.keep K12q (ninS ne11_r65_b1 (ninS ne11_r65_b10 nin0)) (ninS ne11_x65_b1 (ninS ne11_x65_b10 nin0))
  have ne12_r65 : r65 ≠ b12 := o12.elim (fun q => q ▸ ne11_r65_b10) (fun q => Nat.ne_of_lt (Nat.lt_of_lt_of_le L11_r65.ltr q))
  have ne12_x65 : x65 ≠ b12 := o12.elim (fun q => q ▸ ne11_x65_b10) (fun q => Nat.ne_of_lt (Nat.lt_of_lt_of_le L11_r65.ltx q))
  have N12 := Fr.app N10 N12q
  obtain ⟨S5, hS5⟩ : ∃ z, z = S4 ++ t_11 := ⟨_, rfl⟩
  rw [← hS5] at B12_a
  have hl5 : S5.length = ((S4 : List Int8).length + (t_11).length) := by rw [hS5, List.length_append]
  generalize gcap cap4 ((S4 : List Int8).length + (t_11).length) = cap5 at B12_a G5 J5
  generalize gcell cap4 ((S4 : List Int8).length + (t_11).length) = gc5 at X12 G5 J5
  generalize gslot cap4 ((S4 : List Int8).length + (t_11).length) = gs5 at X12 G5 J5
  rw [← hl5] at G5 J5
  show yEndsW p e below s0 T12 (mkF m 36 #[rv o] [(.ref b1)]) _ _ _
  refine yaloadN X12 hx hby d38_36 rfl rfl (ygetfld X12 hx hby d38_37 hZ hown (host := "") (Or.inl (w40 hw)) Via.refl e12 (F_o_queued.keep K12 nin0) fun T13 X13 e13 => ?_)
  show yEndsW p e below s0 T13 (mkF m 40 #[rv o] [(.int (Int32.ofNat (m2))), (.ref b1)]) _ _ _
  have G6 := GR.step G5 (len' := ((S5 : List Int8).length + (dec m2).length)) (by omega) (by omega) (by omega)
  have J6 := G6.le
  refine ycallv X13 hx hby d38_40 hZ hown (w151 hw) (w152 hw) (notFace_of_selects (args := #[]) (mvT hZ (w154 hw))) (w154 hw) (w153 hw) (w155 hw) (w61 hw) e13 (Sb.exa B12_a) (c_appI l hw  C O12 b1 b12 (S5) cap5 B12_a (by omega) g1 g12_b m2 (by omega)) hml 0 pd_26 (argsL := [(.int (Int32.ofNat (m2)))]) (st := []) fun T14 h14 v14 L14 e14 X14 q14 => ?_
  obtain ⟨rfl, N14q, K14q, b14, B14_a, g14_b, o14⟩ := q14
  have O14 := O12.keep K14q (allS g1 (allS g12_b all0))
  have K14 := Keep.trans K12 K14q (allS (Or.inr z1) (allS i12 all0))
  have i14 : b14 ∈ ([] : List Addr) ∨ h0.size ≤ b14 := (o14.elim (fun q => q ▸ i12) (fun q => Or.inr (Nat.le_trans K12.1 q)))
  have hS := hS.keep K14q
  have L14_r54 := L12_r54.keep K14q (ninS ne3_r54_b1 (ninS ne12_r54 nin0)) (ninS ne3_x54_b1 (ninS ne12_x54 nin0))
  have ne14_r54 : r54 ≠ b14 := o14.elim (fun q => q ▸ ne12_r54) (fun q => Nat.ne_of_lt (Nat.lt_of_lt_of_le L12_r54.ltr q))
  have ne14_x54 : x54 ≠ b14 := o14.elim (fun q => q ▸ ne12_x54) (fun q => Nat.ne_of_lt (Nat.lt_of_lt_of_le L12_r54.ltx q))
  have L14_r63 := L12_r63.keep K14q (ninS ne7_r63_b1 (ninS ne12_r63 nin0)) (ninS ne7_x63_b1 (ninS ne12_x63 nin0))
  have ne14_r63 : r63 ≠ b14 := o14.elim (fun q => q ▸ ne12_r63) (fun q => Nat.ne_of_lt (Nat.lt_of_lt_of_le L12_r63.ltr q))
  have ne14_x63 : x63 ≠ b14 := o14.elim (fun q => q ▸ ne12_x63) (fun q => Nat.ne_of_lt (Nat.lt_of_lt_of_le L12_r63.ltx q))
  have L14_r65 := L12_r65.keep K14q (ninS ne11_r65_b1 (ninS ne12_r65 nin0)) (ninS ne11_x65_b1 (ninS ne12_x65 nin0))
  have ne14_r65 : r65 ≠ b14 := o14.elim (fun q => q ▸ ne12_r65) (fun q => Nat.ne_of_lt (Nat.lt_of_lt_of_le L12_r65.ltr q))
  have ne14_x65 : x65 ≠ b14 := o14.elim (fun q => q ▸ ne12_x65) (fun q => Nat.ne_of_lt (Nat.lt_of_lt_of_le L12_r65.ltx q))
  have N14 := Fr.app N12 N14q
  obtain ⟨S6, hS6⟩ : ∃ z, z = S5 ++ dec m2 := ⟨_, rfl⟩
  rw [← hS6] at B14_a
  have hl6 : S6.length = ((S5 : List Int8).length + (dec m2).length) := by rw [hS6, List.length_append]
  generalize gcap cap5 ((S5 : List Int8).length + (dec m2).length) = cap6 at B14_a G6 J6
  generalize gcell cap5 ((S5 : List Int8).length + (dec m2).length) = gc6 at X14 G6 J6
  generalize gslot cap5 ((S5 : List Int8).length + (dec m2).length) = gs6 at X14 G6 J6
  rw [← hl6] at G6 J6
  show yEndsW p e below s0 T14 (mkF m 43 #[rv o] [(.ref b1)]) _ _ _
  refine yldcC X14 hx hby d38_43 hZ hown (w175 hw) (wS hw) e14 hS eh (hn0 ▸ N14) O0.2.2 hI (by decide +kernel) (hc _ (List.mem_of_getElem? (i := 12) rfl)) hcw t_12 tx_12 (by decide +kernel) 48 (fun v15 T15 h15 r67 x67 X15 e15 Ex15 hZ hown hS hW15 E15_r V15_r C15_r A15_x hI Q67 ww15 => ?_) (by decide +kernel) (by decide +kernel) (by first | decide | omega | (dsimp only; omega)) (by first | decide | omega | (dsimp only; omega))
  have Q54 := Q54.stays hW15
  have Q63 := Q63.stays hW15
  have Q65 := Q65.stays hW15
  have E15_b1 := (Sb.exa B14_a).ext Ex15
  have O15 := O14.ext Ex15
  have K15 := Keep.ext K14 Ex15
  have L15_r54 := L14_r54.ext Ex15
  have L15_r63 := L14_r63.ext Ex15
  have L15_r65 := L14_r65.ext Ex15
  have B15_x := B14_a.ext Ex15
  have ne15_r67_b1 : r67 ≠ b1 := ww15.elim (fun q => Nat.ne_of_lt (Nat.lt_of_lt_of_le q.1 z1)) (fun q => Nat.ne_of_gt (Nat.lt_of_lt_of_le (Sb.exa B14_a).lt q.1))
  have ne15_x67_b1 : x67 ≠ b1 := ww15.elim (fun q => Nat.ne_of_lt (Nat.lt_of_lt_of_le q.2 z1)) (fun q => Nat.ne_of_gt (Nat.lt_of_lt_of_le (Sb.exa B14_a).lt q.2))
  have ne15_r67_b14 : r67 ≠ b14 := ww15.elim (fun q => Nat.ne_of_lt (Nat.lt_of_lt_of_le q.1 (hn0 ▸ g14_b))) (fun q => Nat.ne_of_gt (Nat.lt_of_lt_of_le B14_a.lt q.1))
  have ne15_x67_b14 : x67 ≠ b14 := ww15.elim (fun q => Nat.ne_of_lt (Nat.lt_of_lt_of_le q.2 (hn0 ▸ g14_b))) (fun q => Nat.ne_of_gt (Nat.lt_of_lt_of_le B14_a.lt q.2))
  have L15_r67 := (Sx.mk E15_r V15_r C15_r A15_x)
  show yEndsW p e below s0 T15 (mkF m 45 #[rv o] [(.ref r67), (.ref b1)]) _ _ _
  have G7 := GR.step G6 (len' := ((S6 : List Int8).length + (t_12).length)) (by omega) (by omega) (by omega)
  have J7 := G7.le
  refine ycallv X15 hx hby d38_45 hZ hown (w78 hw) (w79 hw) (notFace_of_selects (args := #[]) (mvT hZ (w81 hw))) (w81 hw) (w80 hw) (w82 hw) (w61 hw) e15 E15_b1 (c_appstr l hw  C O15 b1 b14 (S6) cap6 B15_x (by omega) g1 g14_b r67 x67 t_12 L15_r67 (by decide +kernel) ne15_r67_b1 ne15_r67_b14 ne15_x67_b1 ne15_x67_b14) hml 0 pd_25 (argsL := [(.ref r67)]) (st := []) fun T16 h16 v16 L16 e16 X16 q16 => ?_
  obtain ⟨rfl, N16q, K16q, b16, B16_a, g16_b, o16⟩ := q16
  have O16 := O15.keep K16q (allS g1 (allS g14_b all0))
  have K16 := Keep.trans K15 K16q (allS (Or.inr z1) (allS i14 all0))
  have i16 : b16 ∈ ([] : List Addr) ∨ h0.size ≤ b16 := (o16.elim (fun q => q ▸ i14) (fun q => Or.inr (Nat.le_trans K15.1 q)))
  have hS := hS.keep K16q
  have L16_r54 := L15_r54.keep K16q (ninS ne3_r54_b1 (ninS ne14_r54 nin0)) (ninS ne3_x54_b1 (ninS ne14_x54 nin0))
  have ne16_r54 : r54 ≠ b16 := o16.elim (fun q => q ▸ ne14_r54) (fun q => Nat.ne_of_lt (Nat.lt_of_lt_of_le L15_r54.ltr q))
  have ne16_x54 : x54 ≠ b16 := o16.elim (fun q => q ▸ ne14_x54) (fun q => Nat.ne_of_lt (Nat.lt_of_lt_of_le L15_r54.ltx q))
  have L16_r63 := L15_r63.keep K16q (ninS ne7_r63_b1 (ninS ne14_r63 nin0)) (ninS ne7_x63_b1 (ninS ne14_x63 nin0))
  have ne16_r63 : r63 ≠ b16 := o16.elim (fun q => q ▸ ne14_r63) (fun q => Nat.ne_of_lt (Nat.lt_of_lt_of_le L15_r63.ltr q))
  have ne16_x63 : x63 ≠ b16 := o16.elim (fun q => q ▸ ne14_x63) (fun q => Nat.ne_of_lt (Nat.lt_of_lt_of_le L15_r63.ltx q))
  have L16_r65 := L15_r65.keep K16q (ninS ne11_r65_b1 (ninS ne14_r65 nin0)) (ninS ne11_x65_b1 (ninS ne14_x65 nin0))
  have ne16_r65 : r65 ≠ b16 := o16.elim (fun q => q ▸ ne14_r65) (fun q => Nat.ne_of_lt (Nat.lt_of_lt_of_le L15_r65.ltr q))
  have ne16_x65 : x65 ≠ b16 := o16.elim (fun q => q ▸ ne14_x65) (fun q => Nat.ne_of_lt (Nat.lt_of_lt_of_le L15_r65.ltx q))
  have L16_r67 := L15_r67.keep K16q (ninS ne15_r67_b1 (ninS ne15_r67_b14 nin0)) (ninS ne15_x67_b1 (ninS ne15_x67_b14 nin0))
  have ne16_r67 : r67 ≠ b16 := o16.elim (fun q => q ▸ ne15_r67_b14) (fun q => Nat.ne_of_lt (Nat.lt_of_lt_of_le L15_r67.ltr q))
  have ne16_x67 : x67 ≠ b16 := o16.elim (fun q => q ▸ ne15_x67_b14) (fun q => Nat.ne_of_lt (Nat.lt_of_lt_of_le L15_r67.ltx q))
  have N16 := Fr.app N14 N16q
  obtain ⟨S7, hS7⟩ : ∃ z, z = S6 ++ t_12 := ⟨_, rfl⟩
  rw [← hS7] at B16_a
  have hl7 : S7.length = ((S6 : List Int8).length + (t_12).length) := by rw [hS7, List.length_append]
  generalize gcap cap6 ((S6 : List Int8).length + (t_12).length) = cap7 at B16_a G7 J7
  generalize gcell cap6 ((S6 : List Int8).length + (t_12).length) = gc7 at X16 G7 J7
  generalize gslot cap6 ((S6 : List Int8).length + (t_12).length) = gs7 at X16 G7 J7
  rw [← hl7] at G7 J7
  show yEndsW p e below s0 T16 (mkF m 48 #[rv o] [(.ref b1)]) _ _ _
  refine yaloadN X16 hx hby d38_48 rfl rfl (ygetfld X16 hx hby d38_49 hZ hown (host := "") (Or.inl (w42 hw)) Via.refl e16 (F_o_submitted.keep K16 nin0) fun T17 X17 e17 => ?_)
  show yEndsW p e below s0 T17 (mkF m 52 #[rv o] [(.long (Int64.ofNat (m3))), (.ref b1)]) _ _ _
  have G8 := GR.step G7 (len' := ((S7 : List Int8).length + (dec m3).length)) (by omega) (by omega) (by omega)
  have J8 := G8.le
  refine ycallv X17 hx hby d38_52 hZ hown (w176 hw) (w177 hw) (notFace_of_selects (args := #[]) (mvT hZ (w179 hw))) (w179 hw) (w178 hw) (w180 hw) (w61 hw) e17 (Sb.exa B16_a) (c_appJ l hw  C O16 b1 b16 (S7) cap7 B16_a (by omega) g1 g16_b m3 (by omega)) hml 0 pd_27 (argsL := [(.long (Int64.ofNat (m3)))]) (st := []) fun T18 h18 v18 L18 e18 X18 q18 => ?_
  obtain ⟨rfl, N18q, K18q, b18, B18_a, g18_b, o18⟩ := q18
  have O18 := O16.keep K18q (allS g1 (allS g16_b all0))
  have K18 := Keep.trans K16 K18q (allS (Or.inr z1) (allS i16 all0))
  have i18 : b18 ∈ ([] : List Addr) ∨ h0.size ≤ b18 := (o18.elim (fun q => q ▸ i16) (fun q => Or.inr (Nat.le_trans K16.1 q)))
  have hS := hS.keep K18q
  have L18_r54 := L16_r54.keep K18q (ninS ne3_r54_b1 (ninS ne16_r54 nin0)) (ninS ne3_x54_b1 (ninS ne16_x54 nin0))
  have ne18_r54 : r54 ≠ b18 := o18.elim (fun q => q ▸ ne16_r54) (fun q => Nat.ne_of_lt (Nat.lt_of_lt_of_le L16_r54.ltr q))
  have ne18_x54 : x54 ≠ b18 := o18.elim (fun q => q ▸ ne16_x54) (fun q => Nat.ne_of_lt (Nat.lt_of_lt_of_le L16_r54.ltx q))
  have L18_r63 := L16_r63.keep K18q (ninS ne7_r63_b1 (ninS ne16_r63 nin0)) (ninS ne7_x63_b1 (ninS ne16_x63 nin0))
  have ne18_r63 : r63 ≠ b18 := o18.elim (fun q => q ▸ ne16_r63) (fun q => Nat.ne_of_lt (Nat.lt_of_lt_of_le L16_r63.ltr q))
  have ne18_x63 : x63 ≠ b18 := o18.elim (fun q => q ▸ ne16_x63) (fun q => Nat.ne_of_lt (Nat.lt_of_lt_of_le L16_r63.ltx q))
  have L18_r65 := L16_r65.keep K18q (ninS ne11_r65_b1 (ninS ne16_r65 nin0)) (ninS ne11_x65_b1 (ninS ne16_x65 nin0))
  have ne18_r65 : r65 ≠ b18 := o18.elim (fun q => q ▸ ne16_r65) (fun q => Nat.ne_of_lt (Nat.lt_of_lt_of_le L16_r65.ltr q))
  have ne18_x65 : x65 ≠ b18 := o18.elim (fun q => q ▸ ne16_x65) (fun q => Nat.ne_of_lt (Nat.lt_of_lt_of_le L16_r65.ltx q))
  have L18_r67 := L16_r67.keep K18q (ninS ne15_r67_b1 (ninS ne16_r67 nin0)) (ninS ne15_x67_b1 (ninS ne16_x67 nin0))
  have ne18_r67 : r67 ≠ b18 := o18.elim (fun q => q ▸ ne16_r67) (fun q => Nat.ne_of_lt (Nat.lt_of_lt_of_le L16_r67.ltr q))
  have ne18_x67 : x67 ≠ b18 := o18.elim (fun q => q ▸ ne16_x67) (fun q => Nat.ne_of_lt (Nat.lt_of_lt_of_le L16_r67.ltx q))
  have N18 := Fr.app N16 N18q
  obtain ⟨S8, hS8⟩ : ∃ z, z = S7 ++ dec m3 := ⟨_, rfl⟩
  rw [← hS8] at B18_a
  have hl8 : S8.length = ((S7 : List Int8).length + (dec m3).length) := by rw [hS8, List.length_append]
  generalize gcap cap7 ((S7 : List Int8).length + (dec m3).length) = cap8 at B18_a G8 J8
  generalize gcell cap7 ((S7 : List Int8).length + (dec m3).length) = gc8 at X18 G8 J8
  generalize gslot cap7 ((S7 : List Int8).length + (dec m3).length) = gs8 at X18 G8 J8
  rw [← hl8] at G8 J8
  show yEndsW p e below s0 T18 (mkF m 55 #[rv o] [(.ref b1)]) _ _ _
  refine yldcC X18 hx hby d38_55 hZ hown (w195 hw) (wS hw) e18 hS eh (hn0 ▸ N18) O0.2.2 hI (by decide +kernel) (hc _ (List.mem_of_getElem? (i := 13) rfl)) hcw t_13 tx_13 (by decide +kernel) 48 (fun v19 T19 h19 r72 x72 X19 e19 Ex19 hZ hown hS hW19 E19_r V19_r C19_r A19_x hI Q72 ww19 => ?_) (by decide +kernel) (by decide +kernel) (by first | decide | omega | (dsimp only; omega)) (by first | decide | omega | (dsimp only; omega))
  have Q54 := Q54.stays hW19
  have Q63 := Q63.stays hW19
  have Q65 := Q65.stays hW19
  have Q67 := Q67.stays hW19
  have E19_b1 := (Sb.exa B18_a).ext Ex19
  have O19 := O18.ext Ex19
  have K19 := Keep.ext K18 Ex19
  have L19_r54 := L18_r54.ext Ex19
  have L19_r63 := L18_r63.ext Ex19
  have L19_r65 := L18_r65.ext Ex19
  have L19_r67 := L18_r67.ext Ex19
  have B19_x := B18_a.ext Ex19
  have ne19_r72_b1 : r72 ≠ b1 := ww19.elim (fun q => Nat.ne_of_lt (Nat.lt_of_lt_of_le q.1 z1)) (fun q => Nat.ne_of_gt (Nat.lt_of_lt_of_le (Sb.exa B18_a).lt q.1))
  have ne19_x72_b1 : x72 ≠ b1 := ww19.elim (fun q => Nat.ne_of_lt (Nat.lt_of_lt_of_le q.2 z1)) (fun q => Nat.ne_of_gt (Nat.lt_of_lt_of_le (Sb.exa B18_a).lt q.2))
  have ne19_r72_b18 : r72 ≠ b18 := ww19.elim (fun q => Nat.ne_of_lt (Nat.lt_of_lt_of_le q.1 (hn0 ▸ g18_b))) (fun q => Nat.ne_of_gt (Nat.lt_of_lt_of_le B18_a.lt q.1))
  have ne19_x72_b18 : x72 ≠ b18 := ww19.elim (fun q => Nat.ne_of_lt (Nat.lt_of_lt_of_le q.2 (hn0 ▸ g18_b))) (fun q => Nat.ne_of_gt (Nat.lt_of_lt_of_le B18_a.lt q.2))
  have L19_r72 := (Sx.mk E19_r V19_r C19_r A19_x)
  show yEndsW p e below s0 T19 (mkF m 57 #[rv o] [(.ref r72), (.ref b1)]) _ _ _
  have G9 := GR.step G8 (len' := ((S8 : List Int8).length + (t_13).length)) (by omega) (by omega) (by omega)
  have J9 := G9.le
  refine ycallv X19 hx hby d38_57 hZ hown (w78 hw) (w79 hw) (notFace_of_selects (args := #[]) (mvT hZ (w81 hw))) (w81 hw) (w80 hw) (w82 hw) (w61 hw) e19 E19_b1 (c_appstr l hw  C O19 b1 b18 (S8) cap8 B19_x (by omega) g1 g18_b r72 x72 t_13 L19_r72 (by decide +kernel) ne19_r72_b1 ne19_r72_b18 ne19_x72_b1 ne19_x72_b18) hml 0 pd_25 (argsL := [(.ref r72)]) (st := []) fun T20 h20 v20 L20 e20 X20 q20 => ?_
  obtain ⟨rfl, N20q, K20q, b20, B20_a, g20_b, o20⟩ := q20
  have O20 := O19.keep K20q (allS g1 (allS g18_b all0))
  have K20 := Keep.trans K19 K20q (allS (Or.inr z1) (allS i18 all0))
  have i20 : b20 ∈ ([] : List Addr) ∨ h0.size ≤ b20 := (o20.elim (fun q => q ▸ i18) (fun q => Or.inr (Nat.le_trans K19.1 q)))
  have hS := hS.keep K20q
  have L20_r54 := L19_r54.keep K20q (ninS ne3_r54_b1 (ninS ne18_r54 nin0)) (ninS ne3_x54_b1 (ninS ne18_x54 nin0))
  have ne20_r54 : r54 ≠ b20 := o20.elim (fun q => q ▸ ne18_r54) (fun q => Nat.ne_of_lt (Nat.lt_of_lt_of_le L19_r54.ltr q))
  have ne20_x54 : x54 ≠ b20 := o20.elim (fun q => q ▸ ne18_x54) (fun q => Nat.ne_of_lt (Nat.lt_of_lt_of_le L19_r54.ltx q))
  have L20_r63 := L19_r63.keep K20q (ninS ne7_r63_b1 (ninS ne18_r63 nin0)) (ninS ne7_x63_b1 (ninS ne18_x63 nin0))
  have ne20_r63 : r63 ≠ b20 := o20.elim (fun q => q ▸ ne18_r63) (fun q => Nat.ne_of_lt (Nat.lt_of_lt_of_le L19_r63.ltr q))
  have ne20_x63 : x63 ≠ b20 := o20.elim (fun q => q ▸ ne18_x63) (fun q => Nat.ne_of_lt (Nat.lt_of_lt_of_le L19_r63.ltx q))
  have L20_r65 := L19_r65.keep K20q (ninS ne11_r65_b1 (ninS ne18_r65 nin0)) (ninS ne11_x65_b1 (ninS ne18_x65 nin0))
  have ne20_r65 : r65 ≠ b20 := o20.elim (fun q => q ▸ ne18_r65) (fun q => Nat.ne_of_lt (Nat.lt_of_lt_of_le L19_r65.ltr q))
  have ne20_x65 : x65 ≠ b20 := o20.elim (fun q => q ▸ ne18_x65) (fun q => Nat.ne_of_lt (Nat.lt_of_lt_of_le L19_r65.ltx q))
  have L20_r67 := L19_r67.keep K20q (ninS ne15_r67_b1 (ninS ne18_r67 nin0)) (ninS ne15_x67_b1 (ninS ne18_x67 nin0))
  have ne20_r67 : r67 ≠ b20 := o20.elim (fun q => q ▸ ne18_r67) (fun q => Nat.ne_of_lt (Nat.lt_of_lt_of_le L19_r67.ltr q))
  have ne20_x67 : x67 ≠ b20 := o20.elim (fun q => q ▸ ne18_x67) (fun q => Nat.ne_of_lt (Nat.lt_of_lt_of_le L19_r67.ltx q))
  have L20_r72 := L19_r72.keep K20q (ninS ne19_r72_b1 (ninS ne19_r72_b18 nin0)) (ninS ne19_x72_b1 (ninS ne19_x72_b18 nin0))
  have ne20_r72 : r72 ≠ b20 := o20.elim (fun q => q ▸ ne19_r72_b18) (fun q => Nat.ne_of_lt (Nat.lt_of_lt_of_le L19_r72.ltr q))
  have ne20_x72 : x72 ≠ b20 := o20.elim (fun q => q ▸ ne19_x72_b18) (fun q => Nat.ne_of_lt (Nat.lt_of_lt_of_le L19_r72.ltx q))
  have N20 := Fr.app N18 N20q
  obtain ⟨S9, hS9⟩ : ∃ z, z = S8 ++ t_13 := ⟨_, rfl⟩
  rw [← hS9] at B20_a
  have hl9 : S9.length = ((S8 : List Int8).length + (t_13).length) := by rw [hS9, List.length_append]
  generalize gcap cap8 ((S8 : List Int8).length + (t_13).length) = cap9 at B20_a G9 J9
  generalize gcell cap8 ((S8 : List Int8).length + (t_13).length) = gc9 at X20 G9 J9
  generalize gslot cap8 ((S8 : List Int8).length + (t_13).length) = gs9 at X20 G9 J9
  rw [← hl9] at G9 J9
  show yEndsW p e below s0 T20 (mkF m 60 #[rv o] [(.ref b1)]) _ _ _
  refine yaloadN X20 hx hby d38_60 rfl rfl (ygetfld X20 hx hby d38_61 hZ hown (host := "") (Or.inl (w44 hw)) Via.refl e20 (F_o_completed.keep K20 nin0) fun T21 X21 e21 => ?_)
  show yEndsW p e below s0 T21 (mkF m 64 #[rv o] [(.long (Int64.ofNat (m4))), (.ref b1)]) _ _ _
  have G10 := GR.step G9 (len' := ((S9 : List Int8).length + (dec m4).length)) (by omega) (by omega) (by omega)
  have J10 := G10.le
  refine ycallv X21 hx hby d38_64 hZ hown (w176 hw) (w177 hw) (notFace_of_selects (args := #[]) (mvT hZ (w179 hw))) (w179 hw) (w178 hw) (w180 hw) (w61 hw) e21 (Sb.exa B20_a) (c_appJ l hw  C O20 b1 b20 (S9) cap9 B20_a (by omega) g1 g20_b m4 (by omega)) hml 0 pd_27 (argsL := [(.long (Int64.ofNat (m4)))]) (st := []) fun T22 h22 v22 L22 e22 X22 q22 => ?_
  obtain ⟨rfl, N22q, K22q, b22, B22_a, g22_b, o22⟩ := q22
  have O22 := O20.keep K22q (allS g1 (allS g20_b all0))
  have K22 := Keep.trans K20 K22q (allS (Or.inr z1) (allS i20 all0))
  have i22 : b22 ∈ ([] : List Addr) ∨ h0.size ≤ b22 := (o22.elim (fun q => q ▸ i20) (fun q => Or.inr (Nat.le_trans K20.1 q)))
  have hS := hS.keep K22q
  have L22_r54 := L20_r54.keep K22q (ninS ne3_r54_b1 (ninS ne20_r54 nin0)) (ninS ne3_x54_b1 (ninS ne20_x54 nin0))
  have ne22_r54 : r54 ≠ b22 := o22.elim (fun q => q ▸ ne20_r54) (fun q => Nat.ne_of_lt (Nat.lt_of_lt_of_le L20_r54.ltr q))
  have ne22_x54 : x54 ≠ b22 := o22.elim (fun q => q ▸ ne20_x54) (fun q => Nat.ne_of_lt (Nat.lt_of_lt_of_le L20_r54.ltx q))
  have L22_r63 := L20_r63.keep K22q (ninS ne7_r63_b1 (ninS ne20_r63 nin0)) (ninS ne7_x63_b1 (ninS ne20_x63 nin0))
  have ne22_r63 : r63 ≠ b22 := o22.elim (fun q => q ▸ ne20_r63) (fun q => Nat.ne_of_lt (Nat.lt_of_lt_of_le L20_r63.ltr q))
  have ne22_x63 : x63 ≠ b22 := o22.elim (fun q => q ▸ ne20_x63) (fun q => Nat.ne_of_lt (Nat.lt_of_lt_of_le L20_r63.ltx q))
  have L22_r65 := L20_r65.keep K22q (ninS ne11_r65_b1 (ninS ne20_r65 nin0)) (ninS ne11_x65_b1 (ninS ne20_x65 nin0))
  have ne22_r65 : r65 ≠ b22 := o22.elim (fun q => q ▸ ne20_r65) (fun q => Nat.ne_of_lt (Nat.lt_of_lt_of_le L20_r65.ltr q))
  have ne22_x65 : x65 ≠ b22 := o22.elim (fun q => q ▸ ne20_x65) (fun q => Nat.ne_of_lt (Nat.lt_of_lt_of_le L20_r65.ltx q))
  have L22_r67 := L20_r67.keep K22q (ninS ne15_r67_b1 (ninS ne20_r67 nin0)) (ninS ne15_x67_b1 (ninS ne20_x67 nin0))
  have ne22_r67 : r67 ≠ b22 := o22.elim (fun q => q ▸ ne20_r67) (fun q => Nat.ne_of_lt (Nat.lt_of_lt_of_le L20_r67.ltr q))
  have ne22_x67 : x67 ≠ b22 := o22.elim (fun q => q ▸ ne20_x67) (fun q => Nat.ne_of_lt (Nat.lt_of_lt_of_le L20_r67.ltx q))
  have L22_r72 := L20_r72.keep K22q (ninS ne19_r72_b1 (ninS ne20_r72 nin0)) (ninS ne19_x72_b1 (ninS ne20_x72 nin0))
  have ne22_r72 : r72 ≠ b22 := o22.elim (fun q => q ▸ ne20_r72) (fun q => Nat.ne_of_lt (Nat.lt_of_lt_of_le L20_r72.ltr q))
  have ne22_x72 : x72 ≠ b22 := o22.elim (fun q => q ▸ ne20_x72) (fun q => Nat.ne_of_lt (Nat.lt_of_lt_of_le L20_r72.ltx q))
  have N22 := Fr.app N20 N22q
  obtain ⟨S10, hS10⟩ : ∃ z, z = S9 ++ dec m4 := ⟨_, rfl⟩
  rw [← hS10] at B22_a
  have hl10 : S10.length = ((S9 : List Int8).length + (dec m4).length) := by rw [hS10, List.length_append]
  generalize gcap cap9 ((S9 : List Int8).length + (dec m4).length) = cap10 at B22_a G10 J10
  generalize gcell cap9 ((S9 : List Int8).length + (dec m4).length) = gc10 at X22 G10 J10
  generalize gslot cap9 ((S9 : List Int8).length + (dec m4).length) = gs10 at X22 G10 J10
  rw [← hl10] at G10 J10
  show yEndsW p e below s0 T22 (mkF m 67 #[rv o] [(.ref b1)]) _ _ _
  refine yldcC X22 hx hby d38_67 hZ hown (w199 hw) (wS hw) e22 hS eh (hn0 ▸ N22) O0.2.2 hI (by decide +kernel) (hc _ (List.mem_of_getElem? (i := 14) rfl)) hcw t_14 tx_14 (by decide +kernel) 36 (fun v23 T23 h23 r74 x74 X23 e23 Ex23 hZ hown hS hW23 E23_r V23_r C23_r A23_x hI Q74 ww23 => ?_) (by decide +kernel) (by decide +kernel) (by first | decide | omega | (dsimp only; omega)) (by first | decide | omega | (dsimp only; omega))
  have Q54 := Q54.stays hW23
  have Q63 := Q63.stays hW23
  have Q65 := Q65.stays hW23
  have Q67 := Q67.stays hW23
  have Q72 := Q72.stays hW23
  have E23_b1 := (Sb.exa B22_a).ext Ex23
  have O23 := O22.ext Ex23
  have K23 := Keep.ext K22 Ex23
  have L23_r54 := L22_r54.ext Ex23
  have L23_r63 := L22_r63.ext Ex23
  have L23_r65 := L22_r65.ext Ex23
  have L23_r67 := L22_r67.ext Ex23
  have L23_r72 := L22_r72.ext Ex23
  have B23_x := B22_a.ext Ex23
  have ne23_r74_b1 : r74 ≠ b1 := ww23.elim (fun q => Nat.ne_of_lt (Nat.lt_of_lt_of_le q.1 z1)) (fun q => Nat.ne_of_gt (Nat.lt_of_lt_of_le (Sb.exa B22_a).lt q.1))
  have ne23_x74_b1 : x74 ≠ b1 := ww23.elim (fun q => Nat.ne_of_lt (Nat.lt_of_lt_of_le q.2 z1)) (fun q => Nat.ne_of_gt (Nat.lt_of_lt_of_le (Sb.exa B22_a).lt q.2))
  have ne23_r74_b22 : r74 ≠ b22 := ww23.elim (fun q => Nat.ne_of_lt (Nat.lt_of_lt_of_le q.1 (hn0 ▸ g22_b))) (fun q => Nat.ne_of_gt (Nat.lt_of_lt_of_le B22_a.lt q.1))
  have ne23_x74_b22 : x74 ≠ b22 := ww23.elim (fun q => Nat.ne_of_lt (Nat.lt_of_lt_of_le q.2 (hn0 ▸ g22_b))) (fun q => Nat.ne_of_gt (Nat.lt_of_lt_of_le B22_a.lt q.2))
  have L23_r74 := (Sx.mk E23_r V23_r C23_r A23_x)
  show yEndsW p e below s0 T23 (mkF m 69 #[rv o] [(.ref r74), (.ref b1)]) _ _ _
  have G11 := GR.step G10 (len' := ((S10 : List Int8).length + (t_14).length)) (by omega) (by omega) (by omega)
  have J11 := G11.le
  refine ycallv X23 hx hby d38_69 hZ hown (w78 hw) (w79 hw) (notFace_of_selects (args := #[]) (mvT hZ (w81 hw))) (w81 hw) (w80 hw) (w82 hw) (w61 hw) e23 E23_b1 (c_appstr l hw  C O23 b1 b22 (S10) cap10 B23_x (by omega) g1 g22_b r74 x74 t_14 L23_r74 (by decide +kernel) ne23_r74_b1 ne23_r74_b22 ne23_x74_b1 ne23_x74_b22) hml 0 pd_25 (argsL := [(.ref r74)]) (st := []) fun T24 h24 v24 L24 e24 X24 q24 => ?_
  obtain ⟨rfl, N24q, K24q, b24, B24_a, g24_b, o24⟩ := q24
  have O24 := O23.keep K24q (allS g1 (allS g22_b all0))
  have K24 := Keep.trans K23 K24q (allS (Or.inr z1) (allS i22 all0))
  have i24 : b24 ∈ ([] : List Addr) ∨ h0.size ≤ b24 := (o24.elim (fun q => q ▸ i22) (fun q => Or.inr (Nat.le_trans K23.1 q)))
  have hS := hS.keep K24q
  have L24_r54 := L23_r54.keep K24q (ninS ne3_r54_b1 (ninS ne22_r54 nin0)) (ninS ne3_x54_b1 (ninS ne22_x54 nin0))
  have ne24_r54 : r54 ≠ b24 := o24.elim (fun q => q ▸ ne22_r54) (fun q => Nat.ne_of_lt (Nat.lt_of_lt_of_le L23_r54.ltr q))
  have ne24_x54 : x54 ≠ b24 := o24.elim (fun q => q ▸ ne22_x54) (fun q => Nat.ne_of_lt (Nat.lt_of_lt_of_le L23_r54.ltx q))
  have L24_r63 := L23_r63.keep K24q (ninS ne7_r63_b1 (ninS ne22_r63 nin0)) (ninS ne7_x63_b1 (ninS ne22_x63 nin0))
  have ne24_r63 : r63 ≠ b24 := o24.elim (fun q => q ▸ ne22_r63) (fun q => Nat.ne_of_lt (Nat.lt_of_lt_of_le L23_r63.ltr q))
  have ne24_x63 : x63 ≠ b24 := o24.elim (fun q => q ▸ ne22_x63) (fun q => Nat.ne_of_lt (Nat.lt_of_lt_of_le L23_r63.ltx q))
  have L24_r65 := L23_r65.keep K24q (ninS ne11_r65_b1 (ninS ne22_r65 nin0)) (ninS ne11_x65_b1 (ninS ne22_x65 nin0))
  have ne24_r65 : r65 ≠ b24 := o24.elim (fun q => q ▸ ne22_r65) (fun q => Nat.ne_of_lt (Nat.lt_of_lt_of_le L23_r65.ltr q))
  have ne24_x65 : x65 ≠ b24 := o24.elim (fun q => q ▸ ne22_x65) (fun q => Nat.ne_of_lt (Nat.lt_of_lt_of_le L23_r65.ltx q))
  have L24_r67 := L23_r67.keep K24q (ninS ne15_r67_b1 (ninS ne22_r67 nin0)) (ninS ne15_x67_b1 (ninS ne22_x67 nin0))
  have ne24_r67 : r67 ≠ b24 := o24.elim (fun q => q ▸ ne22_r67) (fun q => Nat.ne_of_lt (Nat.lt_of_lt_of_le L23_r67.ltr q))
  have ne24_x67 : x67 ≠ b24 := o24.elim (fun q => q ▸ ne22_x67) (fun q => Nat.ne_of_lt (Nat.lt_of_lt_of_le L23_r67.ltx q))
  have L24_r72 := L23_r72.keep K24q (ninS ne19_r72_b1 (ninS ne22_r72 nin0)) (ninS ne19_x72_b1 (ninS ne22_x72 nin0))
  have ne24_r72 : r72 ≠ b24 := o24.elim (fun q => q ▸ ne22_r72) (fun q => Nat.ne_of_lt (Nat.lt_of_lt_of_le L23_r72.ltr q))
  have ne24_x72 : x72 ≠ b24 := o24.elim (fun q => q ▸ ne22_x72) (fun q => Nat.ne_of_lt (Nat.lt_of_lt_of_le L23_r72.ltx q))
  have L24_r74 := L23_r74.keep K24q (ninS ne23_r74_b1 (ninS ne23_r74_b22 nin0)) (ninS ne23_x74_b1 (ninS ne23_x74_b22 nin0))
  have ne24_r74 : r74 ≠ b24 := o24.elim (fun q => q ▸ ne23_r74_b22) (fun q => Nat.ne_of_lt (Nat.lt_of_lt_of_le L23_r74.ltr q))
  have ne24_x74 : x74 ≠ b24 := o24.elim (fun q => q ▸ ne23_x74_b22) (fun q => Nat.ne_of_lt (Nat.lt_of_lt_of_le L23_r74.ltx q))
  have N24 := Fr.app N22 N24q
  obtain ⟨S11, hS11⟩ : ∃ z, z = S10 ++ t_14 := ⟨_, rfl⟩
  rw [← hS11] at B24_a
  have hl11 : S11.length = ((S10 : List Int8).length + (t_14).length) := by rw [hS11, List.length_append]
  generalize gcap cap10 ((S10 : List Int8).length + (t_14).length) = cap11 at B24_a G11 J11
  generalize gcell cap10 ((S10 : List Int8).length + (t_14).length) = gc11 at X24 G11 J11
  generalize gslot cap10 ((S10 : List Int8).length + (t_14).length) = gs11 at X24 G11 J11
  rw [← hl11] at G11 J11
  show yEndsW p e below s0 T24 (mkF m 72 #[rv o] [(.ref b1)]) _ _ _
  refine yaloadN X24 hx hby d38_72 rfl rfl (ygetfld X24 hx hby d38_73 hZ hown (host := "") (Or.inl (w46 hw)) Via.refl e24 (F_o_failed.keep K24 nin0) fun T25 X25 e25 => ?_)
  show yEndsW p e below s0 T25 (mkF m 76 #[rv o] [(.long (Int64.ofNat (m5))), (.ref b1)]) _ _ _
  have G12 := GR.step G11 (len' := ((S11 : List Int8).length + (dec m5).length)) (by omega) (by omega) (by omega)
  have J12 := G12.le
  refine ycallv X25 hx hby d38_76 hZ hown (w176 hw) (w177 hw) (notFace_of_selects (args := #[]) (mvT hZ (w179 hw))) (w179 hw) (w178 hw) (w180 hw) (w61 hw) e25 (Sb.exa B24_a) (c_appJ l hw  C O24 b1 b24 (S11) cap11 B24_a (by omega) g1 g24_b m5 (by omega)) hml 0 pd_27 (argsL := [(.long (Int64.ofNat (m5)))]) (st := []) fun T26 h26 v26 L26 e26 X26 q26 => ?_
  obtain ⟨rfl, N26q, K26q, b26, B26_a, g26_b, o26⟩ := q26
  have O26 := O24.keep K26q (allS g1 (allS g24_b all0))
  have K26 := Keep.trans K24 K26q (allS (Or.inr z1) (allS i24 all0))
  have i26 : b26 ∈ ([] : List Addr) ∨ h0.size ≤ b26 := (o26.elim (fun q => q ▸ i24) (fun q => Or.inr (Nat.le_trans K24.1 q)))
  have hS := hS.keep K26q
  have L26_r54 := L24_r54.keep K26q (ninS ne3_r54_b1 (ninS ne24_r54 nin0)) (ninS ne3_x54_b1 (ninS ne24_x54 nin0))
  have ne26_r54 : r54 ≠ b26 := o26.elim (fun q => q ▸ ne24_r54) (fun q => Nat.ne_of_lt (Nat.lt_of_lt_of_le L24_r54.ltr q))
  have ne26_x54 : x54 ≠ b26 := o26.elim (fun q => q ▸ ne24_x54) (fun q => Nat.ne_of_lt (Nat.lt_of_lt_of_le L24_r54.ltx q))
  have L26_r63 := L24_r63.keep K26q (ninS ne7_r63_b1 (ninS ne24_r63 nin0)) (ninS ne7_x63_b1 (ninS ne24_x63 nin0))
  have ne26_r63 : r63 ≠ b26 := o26.elim (fun q => q ▸ ne24_r63) (fun q => Nat.ne_of_lt (Nat.lt_of_lt_of_le L24_r63.ltr q))
  have ne26_x63 : x63 ≠ b26 := o26.elim (fun q => q ▸ ne24_x63) (fun q => Nat.ne_of_lt (Nat.lt_of_lt_of_le L24_r63.ltx q))
  have L26_r65 := L24_r65.keep K26q (ninS ne11_r65_b1 (ninS ne24_r65 nin0)) (ninS ne11_x65_b1 (ninS ne24_x65 nin0))
  have ne26_r65 : r65 ≠ b26 := o26.elim (fun q => q ▸ ne24_r65) (fun q => Nat.ne_of_lt (Nat.lt_of_lt_of_le L24_r65.ltr q))
  have ne26_x65 : x65 ≠ b26 := o26.elim (fun q => q ▸ ne24_x65) (fun q => Nat.ne_of_lt (Nat.lt_of_lt_of_le L24_r65.ltx q))
  have L26_r67 := L24_r67.keep K26q (ninS ne15_r67_b1 (ninS ne24_r67 nin0)) (ninS ne15_x67_b1 (ninS ne24_x67 nin0))
  have ne26_r67 : r67 ≠ b26 := o26.elim (fun q => q ▸ ne24_r67) (fun q => Nat.ne_of_lt (Nat.lt_of_lt_of_le L24_r67.ltr q))
  have ne26_x67 : x67 ≠ b26 := o26.elim (fun q => q ▸ ne24_x67) (fun q => Nat.ne_of_lt (Nat.lt_of_lt_of_le L24_r67.ltx q))
  have L26_r72 := L24_r72.keep K26q (ninS ne19_r72_b1 (ninS ne24_r72 nin0)) (ninS ne19_x72_b1 (ninS ne24_x72 nin0))
  have ne26_r72 : r72 ≠ b26 := o26.elim (fun q => q ▸ ne24_r72) (fun q => Nat.ne_of_lt (Nat.lt_of_lt_of_le L24_r72.ltr q))
  have ne26_x72 : x72 ≠ b26 := o26.elim (fun q => q ▸ ne24_x72) (fun q => Nat.ne_of_lt (Nat.lt_of_lt_of_le L24_r72.ltx q))
  have L26_r74 := L24_r74.keep K26q (ninS ne23_r74_b1 (ninS ne24_r74 nin0)) (ninS ne23_x74_b1 (ninS ne24_x74 nin0))
  have ne26_r74 : r74 ≠ b26 := o26.elim (fun q => q ▸ ne24_r74) (fun q => Nat.ne_of_lt (Nat.lt_of_lt_of_le L24_r74.ltr q))
  have ne26_x74 : x74 ≠ b26 := o26.elim (fun q => q ▸ ne24_x74) (fun q => Nat.ne_of_lt (Nat.lt_of_lt_of_le L24_r74.ltx q))
  have N26 := Fr.app N24 N26q
  obtain ⟨S12, hS12⟩ : ∃ z, z = S11 ++ dec m5 := ⟨_, rfl⟩
  rw [← hS12] at B26_a
  have hl12 : S12.length = ((S11 : List Int8).length + (dec m5).length) := by rw [hS12, List.length_append]
  generalize gcap cap11 ((S11 : List Int8).length + (dec m5).length) = cap12 at B26_a G12 J12
  generalize gcell cap11 ((S11 : List Int8).length + (dec m5).length) = gc12 at X26 G12 J12
  generalize gslot cap11 ((S11 : List Int8).length + (dec m5).length) = gs12 at X26 G12 J12
  rw [← hl12] at G12 J12
  show yEndsW p e below s0 T26 (mkF m 79 #[rv o] [(.ref b1)]) _ _ _
  refine yldcC X26 hx hby d38_79 hZ hown (w200 hw) (wS hw) e26 hS eh (hn0 ▸ N26) O0.2.2 hI (by decide +kernel) (hc _ (List.mem_of_getElem? (i := 15) rfl)) hcw t_15 tx_15 (by decide +kernel) 44 (fun v27 T27 h27 r76 x76 X27 e27 Ex27 hZ hown hS hW27 E27_r V27_r C27_r A27_x hI Q76 ww27 => ?_) (by decide +kernel) (by decide +kernel) (by first | decide | omega | (dsimp only; omega)) (by first | decide | omega | (dsimp only; omega))
  have Q54 := Q54.stays hW27
  have Q63 := Q63.stays hW27
  have Q65 := Q65.stays hW27
  have Q67 := Q67.stays hW27
  have Q72 := Q72.stays hW27
  have Q74 := Q74.stays hW27
  have E27_b1 := (Sb.exa B26_a).ext Ex27
  have O27 := O26.ext Ex27
  have K27 := Keep.ext K26 Ex27
  have L27_r54 := L26_r54.ext Ex27
  have L27_r63 := L26_r63.ext Ex27
  have L27_r65 := L26_r65.ext Ex27
  have L27_r67 := L26_r67.ext Ex27
  have L27_r72 := L26_r72.ext Ex27
  have L27_r74 := L26_r74.ext Ex27
  have B27_x := B26_a.ext Ex27
  have ne27_r76_b1 : r76 ≠ b1 := ww27.elim (fun q => Nat.ne_of_lt (Nat.lt_of_lt_of_le q.1 z1)) (fun q => Nat.ne_of_gt (Nat.lt_of_lt_of_le (Sb.exa B26_a).lt q.1))
  have ne27_x76_b1 : x76 ≠ b1 := ww27.elim (fun q => Nat.ne_of_lt (Nat.lt_of_lt_of_le q.2 z1)) (fun q => Nat.ne_of_gt (Nat.lt_of_lt_of_le (Sb.exa B26_a).lt q.2))
  have ne27_r76_b26 : r76 ≠ b26 := ww27.elim (fun q => Nat.ne_of_lt (Nat.lt_of_lt_of_le q.1 (hn0 ▸ g26_b))) (fun q => Nat.ne_of_gt (Nat.lt_of_lt_of_le B26_a.lt q.1))
  have ne27_x76_b26 : x76 ≠ b26 := ww27.elim (fun q => Nat.ne_of_lt (Nat.lt_of_lt_of_le q.2 (hn0 ▸ g26_b))) (fun q => Nat.ne_of_gt (Nat.lt_of_lt_of_le B26_a.lt q.2))
  have L27_r76 := (Sx.mk E27_r V27_r C27_r A27_x)
  show yEndsW p e below s0 T27 (mkF m 81 #[rv o] [(.ref r76), (.ref b1)]) _ _ _
  have G13 := GR.step G12 (len' := ((S12 : List Int8).length + (t_15).length)) (by omega) (by omega) (by omega)
  have J13 := G13.le
  refine ycallv X27 hx hby d38_81 hZ hown (w78 hw) (w79 hw) (notFace_of_selects (args := #[]) (mvT hZ (w81 hw))) (w81 hw) (w80 hw) (w82 hw) (w61 hw) e27 E27_b1 (c_appstr l hw  C O27 b1 b26 (S12) cap12 B27_x (by omega) g1 g26_b r76 x76 t_15 L27_r76 (by decide +kernel) ne27_r76_b1 ne27_r76_b26 ne27_x76_b1 ne27_x76_b26) hml 0 pd_25 (argsL := [(.ref r76)]) (st := []) fun T28 h28 v28 L28 e28 X28 q28 => ?_
  obtain ⟨rfl, N28q, K28q, b28, B28_a, g28_b, o28⟩ := q28
  have O28 := O27.keep K28q (allS g1 (allS g26_b all0))
  have K28 := Keep.trans K27 K28q (allS (Or.inr z1) (allS i26 all0))
  have i28 : b28 ∈ ([] : List Addr) ∨ h0.size ≤ b28 := (o28.elim (fun q => q ▸ i26) (fun q => Or.inr (Nat.le_trans K27.1 q)))
  have hS := hS.keep K28q
  have L28_r54 := L27_r54.keep K28q (ninS ne3_r54_b1 (ninS ne26_r54 nin0)) (ninS ne3_x54_b1 (ninS ne26_x54 nin0))
  have ne28_r54 : r54 ≠ b28 := o28.elim (fun q => q ▸ ne26_r54) (fun q => Nat.ne_of_lt (Nat.lt_of_lt_of_le L27_r54.ltr q))
  have ne28_x54 : x54 ≠ b28 := o28.elim (fun q => q ▸ ne26_x54) (fun q => Nat.ne_of_lt (Nat.lt_of_lt_of_le L27_r54.ltx q))
  have L28_r63 := L27_r63.keep K28q (ninS ne7_r63_b1 (ninS ne26_r63 nin0)) (ninS ne7_x63_b1 (ninS ne26_x63 nin0))
  have ne28_r63 : r63 ≠ b28 := o28.elim (fun q => q ▸ ne26_r63) (fun q => Nat.ne_of_lt (Nat.lt_of_lt_of_le L27_r63.ltr q))
  have ne28_x63 : x63 ≠ b28 := o28.elim (fun q => q ▸ ne26_x63) (fun q => Nat.ne_of_lt (Nat.lt_of_lt_of_le L27_r63.ltx q))
  have L28_r65 := L27_r65.keep K28q (ninS ne11_r65_b1 (ninS ne26_r65 nin0)) (ninS ne11_x65_b1 (ninS ne26_x65 nin0))
  have ne28_r65 : r65 ≠ b28 := o28.elim (fun q => q ▸ ne26_r65) (fun q => Nat.ne_of_lt (Nat.lt_of_lt_of_le L27_r65.ltr q))
  have ne28_x65 : x65 ≠ b28 := o28.elim (fun q => q ▸ ne26_x65) (fun q => Nat.ne_of_lt (Nat.lt_of_lt_of_le L27_r65.ltx q))
  have L28_r67 := L27_r67.keep K28q (ninS ne15_r67_b1 (ninS ne26_r67 nin0)) (ninS ne15_x67_b1 (ninS ne26_x67 nin0))
  have ne28_r67 : r67 ≠ b28 := o28.elim (fun q => q ▸ ne26_r67) (fun q => Nat.ne_of_lt (Nat.lt_of_lt_of_le L27_r67.ltr q))
  have ne28_x67 : x67 ≠ b28 := o28.elim (fun q => q ▸ ne26_x67) (fun q => Nat.ne_of_lt (Nat.lt_of_lt_of_le L27_r67.ltx q))
  have L28_r72 := L27_r72.keep K28q (ninS ne19_r72_b1 (ninS ne26_r72 nin0)) (ninS ne19_x72_b1 (ninS ne26_x72 nin0))
  have ne28_r72 : r72 ≠ b28 := o28.elim (fun q => q ▸ ne26_r72) (fun q => Nat.ne_of_lt (Nat.lt_of_lt_of_le L27_r72.ltr q))
  have ne28_x72 : x72 ≠ b28 := o28.elim (fun q => q ▸ ne26_x72) (fun q => Nat.ne_of_lt (Nat.lt_of_lt_of_le L27_r72.ltx q))
  have L28_r74 := L27_r74.keep K28q (ninS ne23_r74_b1 (ninS ne26_r74 nin0)) (ninS ne23_x74_b1 (ninS ne26_x74 nin0))
  have ne28_r74 : r74 ≠ b28 := o28.elim (fun q => q ▸ ne26_r74) (fun q => Nat.ne_of_lt (Nat.lt_of_lt_of_le L27_r74.ltr q))
  have ne28_x74 : x74 ≠ b28 := o28.elim (fun q => q ▸ ne26_x74) (fun q => Nat.ne_of_lt (Nat.lt_of_lt_of_le L27_r74.ltx q))
  have L28_r76 := L27_r76.keep K28q (ninS ne27_r76_b1 (ninS ne27_r76_b26 nin0)) (ninS ne27_x76_b1 (ninS ne27_x76_b26 nin0))
  have ne28_r76 : r76 ≠ b28 := o28.elim (fun q => q ▸ ne27_r76_b26) (fun q => Nat.ne_of_lt (Nat.lt_of_lt_of_le L27_r76.ltr q))
  have ne28_x76 : x76 ≠ b28 := o28.elim (fun q => q ▸ ne27_x76_b26) (fun q => Nat.ne_of_lt (Nat.lt_of_lt_of_le L27_r76.ltx q))
  have N28 := Fr.app N26 N28q
  obtain ⟨S13, hS13⟩ : ∃ z, z = S12 ++ t_15 := ⟨_, rfl⟩
  rw [← hS13] at B28_a
  have hl13 : S13.length = ((S12 : List Int8).length + (t_15).length) := by rw [hS13, List.length_append]
  generalize gcap cap12 ((S12 : List Int8).length + (t_15).length) = cap13 at B28_a G13 J13
  generalize gcell cap12 ((S12 : List Int8).length + (t_15).length) = gc13 at X28 G13 J13
  generalize gslot cap12 ((S12 : List Int8).length + (t_15).length) = gs13 at X28 G13 J13
  rw [← hl13] at G13 J13
  show yEndsW p e below s0 T28 (mkF m 84 #[rv o] [(.ref b1)]) _ _ _
  refine yaloadN X28 hx hby d38_84 rfl rfl (ygetfld X28 hx hby d38_85 hZ hown (host := "") (Or.inl (w48 hw)) Via.refl e28 (F_o_rejected.keep K28 nin0) fun T29 X29 e29 => ?_)
  show yEndsW p e below s0 T29 (mkF m 88 #[rv o] [(.long (Int64.ofNat (m6))), (.ref b1)]) _ _ _
  have G14 := GR.step G13 (len' := ((S13 : List Int8).length + (dec m6).length)) (by omega) (by omega) (by omega)
  have J14 := G14.le
  refine ycallv X29 hx hby d38_88 hZ hown (w176 hw) (w177 hw) (notFace_of_selects (args := #[]) (mvT hZ (w179 hw))) (w179 hw) (w178 hw) (w180 hw) (w61 hw) e29 (Sb.exa B28_a) (c_appJ l hw  C O28 b1 b28 (S13) cap13 B28_a (by omega) g1 g28_b m6 (by omega)) hml 0 pd_27 (argsL := [(.long (Int64.ofNat (m6)))]) (st := []) fun T30 h30 v30 L30 e30 X30 q30 => ?_
  obtain ⟨rfl, N30q, K30q, b30, B30_a, g30_b, o30⟩ := q30
  have O30 := O28.keep K30q (allS g1 (allS g28_b all0))
  have K30 := Keep.trans K28 K30q (allS (Or.inr z1) (allS i28 all0))
  have i30 : b30 ∈ ([] : List Addr) ∨ h0.size ≤ b30 := (o30.elim (fun q => q ▸ i28) (fun q => Or.inr (Nat.le_trans K28.1 q)))
  have hS := hS.keep K30q
  have L30_r54 := L28_r54.keep K30q (ninS ne3_r54_b1 (ninS ne28_r54 nin0)) (ninS ne3_x54_b1 (ninS ne28_x54 nin0))
  have ne30_r54 : r54 ≠ b30 := o30.elim (fun q => q ▸ ne28_r54) (fun q => Nat.ne_of_lt (Nat.lt_of_lt_of_le L28_r54.ltr q))
  have ne30_x54 : x54 ≠ b30 := o30.elim (fun q => q ▸ ne28_x54) (fun q => Nat.ne_of_lt (Nat.lt_of_lt_of_le L28_r54.ltx q))
  have L30_r63 := L28_r63.keep K30q (ninS ne7_r63_b1 (ninS ne28_r63 nin0)) (ninS ne7_x63_b1 (ninS ne28_x63 nin0))
  have ne30_r63 : r63 ≠ b30 := o30.elim (fun q => q ▸ ne28_r63) (fun q => Nat.ne_of_lt (Nat.lt_of_lt_of_le L28_r63.ltr q))
  have ne30_x63 : x63 ≠ b30 := o30.elim (fun q => q ▸ ne28_x63) (fun q => Nat.ne_of_lt (Nat.lt_of_lt_of_le L28_r63.ltx q))
  have L30_r65 := L28_r65.keep K30q (ninS ne11_r65_b1 (ninS ne28_r65 nin0)) (ninS ne11_x65_b1 (ninS ne28_x65 nin0))
  have ne30_r65 : r65 ≠ b30 := o30.elim (fun q => q ▸ ne28_r65) (fun q => Nat.ne_of_lt (Nat.lt_of_lt_of_le L28_r65.ltr q))
  have ne30_x65 : x65 ≠ b30 := o30.elim (fun q => q ▸ ne28_x65) (fun q => Nat.ne_of_lt (Nat.lt_of_lt_of_le L28_r65.ltx q))
  have L30_r67 := L28_r67.keep K30q (ninS ne15_r67_b1 (ninS ne28_r67 nin0)) (ninS ne15_x67_b1 (ninS ne28_x67 nin0))
  have ne30_r67 : r67 ≠ b30 := o30.elim (fun q => q ▸ ne28_r67) (fun q => Nat.ne_of_lt (Nat.lt_of_lt_of_le L28_r67.ltr q))
  have ne30_x67 : x67 ≠ b30 := o30.elim (fun q => q ▸ ne28_x67) (fun q => Nat.ne_of_lt (Nat.lt_of_lt_of_le L28_r67.ltx q))
  have L30_r72 := L28_r72.keep K30q (ninS ne19_r72_b1 (ninS ne28_r72 nin0)) (ninS ne19_x72_b1 (ninS ne28_x72 nin0))
  have ne30_r72 : r72 ≠ b30 := o30.elim (fun q => q ▸ ne28_r72) (fun q => Nat.ne_of_lt (Nat.lt_of_lt_of_le L28_r72.ltr q))
  have ne30_x72 : x72 ≠ b30 := o30.elim (fun q => q ▸ ne28_x72) (fun q => Nat.ne_of_lt (Nat.lt_of_lt_of_le L28_r72.ltx q))
  have L30_r74 := L28_r74.keep K30q (ninS ne23_r74_b1 (ninS ne28_r74 nin0)) (ninS ne23_x74_b1 (ninS ne28_x74 nin0))
  have ne30_r74 : r74 ≠ b30 := o30.elim (fun q => q ▸ ne28_r74) (fun q => Nat.ne_of_lt (Nat.lt_of_lt_of_le L28_r74.ltr q))
  have ne30_x74 : x74 ≠ b30 := o30.elim (fun q => q ▸ ne28_x74) (fun q => Nat.ne_of_lt (Nat.lt_of_lt_of_le L28_r74.ltx q))
  have L30_r76 := L28_r76.keep K30q (ninS ne27_r76_b1 (ninS ne28_r76 nin0)) (ninS ne27_x76_b1 (ninS ne28_x76 nin0))
  have ne30_r76 : r76 ≠ b30 := o30.elim (fun q => q ▸ ne28_r76) (fun q => Nat.ne_of_lt (Nat.lt_of_lt_of_le L28_r76.ltr q))
  have ne30_x76 : x76 ≠ b30 := o30.elim (fun q => q ▸ ne28_x76) (fun q => Nat.ne_of_lt (Nat.lt_of_lt_of_le L28_r76.ltx q))
  have N30 := Fr.app N28 N30q
  obtain ⟨S14, hS14⟩ : ∃ z, z = S13 ++ dec m6 := ⟨_, rfl⟩
  rw [← hS14] at B30_a
  have hl14 : S14.length = ((S13 : List Int8).length + (dec m6).length) := by rw [hS14, List.length_append]
  generalize gcap cap13 ((S13 : List Int8).length + (dec m6).length) = cap14 at B30_a G14 J14
  generalize gcell cap13 ((S13 : List Int8).length + (dec m6).length) = gc14 at X30 G14 J14
  generalize gslot cap13 ((S13 : List Int8).length + (dec m6).length) = gs14 at X30 G14 J14
  rw [← hl14] at G14 J14
  show yEndsW p e below s0 T30 (mkF m 91 #[rv o] [(.ref b1)]) _ _ _
  refine yldcC X30 hx hby d38_91 hZ hown (w201 hw) (wS hw) e30 hS eh (hn0 ▸ N30) O0.2.2 hI (by decide +kernel) (hc _ (List.mem_of_getElem? (i := 16) rfl)) hcw t_16 tx_16 (by decide +kernel) 48 (fun v31 T31 h31 r78 x78 X31 e31 Ex31 hZ hown hS hW31 E31_r V31_r C31_r A31_x hI Q78 ww31 => ?_) (by decide +kernel) (by decide +kernel) (by first | decide | omega | (dsimp only; omega)) (by first | decide | omega | (dsimp only; omega))
  have Q54 := Q54.stays hW31
  have Q63 := Q63.stays hW31
  have Q65 := Q65.stays hW31
  have Q67 := Q67.stays hW31
  have Q72 := Q72.stays hW31
  have Q74 := Q74.stays hW31
  have Q76 := Q76.stays hW31
  have E31_b1 := (Sb.exa B30_a).ext Ex31
  have O31 := O30.ext Ex31
  have K31 := Keep.ext K30 Ex31
  have L31_r54 := L30_r54.ext Ex31
  have L31_r63 := L30_r63.ext Ex31
  have L31_r65 := L30_r65.ext Ex31
  have L31_r67 := L30_r67.ext Ex31
  have L31_r72 := L30_r72.ext Ex31
  have L31_r74 := L30_r74.ext Ex31
  have L31_r76 := L30_r76.ext Ex31
  have B31_x := B30_a.ext Ex31
  have ne31_r78_b1 : r78 ≠ b1 := ww31.elim (fun q => Nat.ne_of_lt (Nat.lt_of_lt_of_le q.1 z1)) (fun q => Nat.ne_of_gt (Nat.lt_of_lt_of_le (Sb.exa B30_a).lt q.1))
  have ne31_x78_b1 : x78 ≠ b1 := ww31.elim (fun q => Nat.ne_of_lt (Nat.lt_of_lt_of_le q.2 z1)) (fun q => Nat.ne_of_gt (Nat.lt_of_lt_of_le (Sb.exa B30_a).lt q.2))
  have ne31_r78_b30 : r78 ≠ b30 := ww31.elim (fun q => Nat.ne_of_lt (Nat.lt_of_lt_of_le q.1 (hn0 ▸ g30_b))) (fun q => Nat.ne_of_gt (Nat.lt_of_lt_of_le B30_a.lt q.1))
  have ne31_x78_b30 : x78 ≠ b30 := ww31.elim (fun q => Nat.ne_of_lt (Nat.lt_of_lt_of_le q.2 (hn0 ▸ g30_b))) (fun q => Nat.ne_of_gt (Nat.lt_of_lt_of_le B30_a.lt q.2))
  have L31_r78 := (Sx.mk E31_r V31_r C31_r A31_x)
  show yEndsW p e below s0 T31 (mkF m 93 #[rv o] [(.ref r78), (.ref b1)]) _ _ _
  have G15 := GR.step G14 (len' := ((S14 : List Int8).length + (t_16).length)) (by omega) (by omega) (by omega)
  have J15 := G15.le
  refine ycallv X31 hx hby d38_93 hZ hown (w78 hw) (w79 hw) (notFace_of_selects (args := #[]) (mvT hZ (w81 hw))) (w81 hw) (w80 hw) (w82 hw) (w61 hw) e31 E31_b1 (c_appstr l hw  C O31 b1 b30 (S14) cap14 B31_x (by omega) g1 g30_b r78 x78 t_16 L31_r78 (by decide +kernel) ne31_r78_b1 ne31_r78_b30 ne31_x78_b1 ne31_x78_b30) hml 0 pd_25 (argsL := [(.ref r78)]) (st := []) fun T32 h32 v32 L32 e32 X32 q32 => ?_
  obtain ⟨rfl, N32q, K32q, b32, B32_a, g32_b, o32⟩ := q32
  have O32 := O31.keep K32q (allS g1 (allS g30_b all0))
  have K32 := Keep.trans K31 K32q (allS (Or.inr z1) (allS i30 all0))
  have i32 : b32 ∈ ([] : List Addr) ∨ h0.size ≤ b32 := (o32.elim (fun q => q ▸ i30) (fun q => Or.inr (Nat.le_trans K31.1 q)))
  have hS := hS.keep K32q
  have L32_r54 := L31_r54.keep K32q (ninS ne3_r54_b1 (ninS ne30_r54 nin0)) (ninS ne3_x54_b1 (ninS ne30_x54 nin0))
  have ne32_r54 : r54 ≠ b32 := o32.elim (fun q => q ▸ ne30_r54) (fun q => Nat.ne_of_lt (Nat.lt_of_lt_of_le L31_r54.ltr q))
  have ne32_x54 : x54 ≠ b32 := o32.elim (fun q => q ▸ ne30_x54) (fun q => Nat.ne_of_lt (Nat.lt_of_lt_of_le L31_r54.ltx q))
  have L32_r63 := L31_r63.keep K32q (ninS ne7_r63_b1 (ninS ne30_r63 nin0)) (ninS ne7_x63_b1 (ninS ne30_x63 nin0))
  have ne32_r63 : r63 ≠ b32 := o32.elim (fun q => q ▸ ne30_r63) (fun q => Nat.ne_of_lt (Nat.lt_of_lt_of_le L31_r63.ltr q))
  have ne32_x63 : x63 ≠ b32 := o32.elim (fun q => q ▸ ne30_x63) (fun q => Nat.ne_of_lt (Nat.lt_of_lt_of_le L31_r63.ltx q))
  have L32_r65 := L31_r65.keep K32q (ninS ne11_r65_b1 (ninS ne30_r65 nin0)) (ninS ne11_x65_b1 (ninS ne30_x65 nin0))
  have ne32_r65 : r65 ≠ b32 := o32.elim (fun q => q ▸ ne30_r65) (fun q => Nat.ne_of_lt (Nat.lt_of_lt_of_le L31_r65.ltr q))
  have ne32_x65 : x65 ≠ b32 := o32.elim (fun q => q ▸ ne30_x65) (fun q => Nat.ne_of_lt (Nat.lt_of_lt_of_le L31_r65.ltx q))
  have L32_r67 := L31_r67.keep K32q (ninS ne15_r67_b1 (ninS ne30_r67 nin0)) (ninS ne15_x67_b1 (ninS ne30_x67 nin0))
  have ne32_r67 : r67 ≠ b32 := o32.elim (fun q => q ▸ ne30_r67) (fun q => Nat.ne_of_lt (Nat.lt_of_lt_of_le L31_r67.ltr q))
  have ne32_x67 : x67 ≠ b32 := o32.elim (fun q => q ▸ ne30_x67) (fun q => Nat.ne_of_lt (Nat.lt_of_lt_of_le L31_r67.ltx q))
  have L32_r72 := L31_r72.keep K32q (ninS ne19_r72_b1 (ninS ne30_r72 nin0)) (ninS ne19_x72_b1 (ninS ne30_x72 nin0))
  have ne32_r72 : r72 ≠ b32 := o32.elim (fun q => q ▸ ne30_r72) (fun q => Nat.ne_of_lt (Nat.lt_of_lt_of_le L31_r72.ltr q))
  have ne32_x72 : x72 ≠ b32 := o32.elim (fun q => q ▸ ne30_x72) (fun q => Nat.ne_of_lt (Nat.lt_of_lt_of_le L31_r72.ltx q))
  have L32_r74 := L31_r74.keep K32q (ninS ne23_r74_b1 (ninS ne30_r74 nin0)) (ninS ne23_x74_b1 (ninS ne30_x74 nin0))
  have ne32_r74 : r74 ≠ b32 := o32.elim (fun q => q ▸ ne30_r74) (fun q => Nat.ne_of_lt (Nat.lt_of_lt_of_le L31_r74.ltr q))
  have ne32_x74 : x74 ≠ b32 := o32.elim (fun q => q ▸ ne30_x74) (fun q => Nat.ne_of_lt (Nat.lt_of_lt_of_le L31_r74.ltx q))
  have L32_r76 := L31_r76.keep K32q (ninS ne27_r76_b1 (ninS ne30_r76 nin0)) (ninS ne27_x76_b1 (ninS ne30_x76 nin0))
  have ne32_r76 : r76 ≠ b32 := o32.elim (fun q => q ▸ ne30_r76) (fun q => Nat.ne_of_lt (Nat.lt_of_lt_of_le L31_r76.ltr q))
  have ne32_x76 : x76 ≠ b32 := o32.elim (fun q => q ▸ ne30_x76) (fun q => Nat.ne_of_lt (Nat.lt_of_lt_of_le L31_r76.ltx q))
  have L32_r78 := L31_r78.keep K32q (ninS ne31_r78_b1 (ninS ne31_r78_b30 nin0)) (ninS ne31_x78_b1 (ninS ne31_x78_b30 nin0))
  have ne32_r78 : r78 ≠ b32 := o32.elim (fun q => q ▸ ne31_r78_b30) (fun q => Nat.ne_of_lt (Nat.lt_of_lt_of_le L31_r78.ltr q))
  have ne32_x78 : x78 ≠ b32 := o32.elim (fun q => q ▸ ne31_x78_b30) (fun q => Nat.ne_of_lt (Nat.lt_of_lt_of_le L31_r78.ltx q))
  have N32 := Fr.app N30 N32q
  obtain ⟨S15, hS15⟩ : ∃ z, z = S14 ++ t_16 := ⟨_, rfl⟩
  rw [← hS15] at B32_a
  have hl15 : S15.length = ((S14 : List Int8).length + (t_16).length) := by rw [hS15, List.length_append]
  generalize gcap cap14 ((S14 : List Int8).length + (t_16).length) = cap15 at B32_a G15 J15
  generalize gcell cap14 ((S14 : List Int8).length + (t_16).length) = gc15 at X32 G15 J15
  generalize gslot cap14 ((S14 : List Int8).length + (t_16).length) = gs15 at X32 G15 J15
  rw [← hl15] at G15 J15
  show yEndsW p e below s0 T32 (mkF m 96 #[rv o] [(.ref b1)]) _ _ _
  refine yaloadN X32 hx hby d38_96 rfl rfl (ygetfld X32 hx hby d38_97 hZ hown (host := "") (Or.inl (w50 hw)) Via.refl e32 (F_o_discarded.keep K32 nin0) fun T33 X33 e33 => ?_)
  show yEndsW p e below s0 T33 (mkF m 100 #[rv o] [(.long (Int64.ofNat (m7))), (.ref b1)]) _ _ _
  have G16 := GR.step G15 (len' := ((S15 : List Int8).length + (dec m7).length)) (by omega) (by omega) (by omega)
  have J16 := G16.le
  refine ycallv X33 hx hby d38_100 hZ hown (w176 hw) (w177 hw) (notFace_of_selects (args := #[]) (mvT hZ (w179 hw))) (w179 hw) (w178 hw) (w180 hw) (w61 hw) e33 (Sb.exa B32_a) (c_appJ l hw  C O32 b1 b32 (S15) cap15 B32_a (by omega) g1 g32_b m7 (by omega)) hml 0 pd_27 (argsL := [(.long (Int64.ofNat (m7)))]) (st := []) fun T34 h34 v34 L34 e34 X34 q34 => ?_
  obtain ⟨rfl, N34q, K34q, b34, B34_a, g34_b, o34⟩ := q34
  have O34 := O32.keep K34q (allS g1 (allS g32_b all0))
  have K34 := Keep.trans K32 K34q (allS (Or.inr z1) (allS i32 all0))
  have i34 : b34 ∈ ([] : List Addr) ∨ h0.size ≤ b34 := (o34.elim (fun q => q ▸ i32) (fun q => Or.inr (Nat.le_trans K32.1 q)))
  have hS := hS.keep K34q
  have L34_r54 := L32_r54.keep K34q (ninS ne3_r54_b1 (ninS ne32_r54 nin0)) (ninS ne3_x54_b1 (ninS ne32_x54 nin0))
  have ne34_r54 : r54 ≠ b34 := o34.elim (fun q => q ▸ ne32_r54) (fun q => Nat.ne_of_lt (Nat.lt_of_lt_of_le L32_r54.ltr q))
  have ne34_x54 : x54 ≠ b34 := o34.elim (fun q => q ▸ ne32_x54) (fun q => Nat.ne_of_lt (Nat.lt_of_lt_of_le L32_r54.ltx q))
  have L34_r63 := L32_r63.keep K34q (ninS ne7_r63_b1 (ninS ne32_r63 nin0)) (ninS ne7_x63_b1 (ninS ne32_x63 nin0))
  have ne34_r63 : r63 ≠ b34 := o34.elim (fun q => q ▸ ne32_r63) (fun q => Nat.ne_of_lt (Nat.lt_of_lt_of_le L32_r63.ltr q))
  have ne34_x63 : x63 ≠ b34 := o34.elim (fun q => q ▸ ne32_x63) (fun q => Nat.ne_of_lt (Nat.lt_of_lt_of_le L32_r63.ltx q))
  have L34_r65 := L32_r65.keep K34q (ninS ne11_r65_b1 (ninS ne32_r65 nin0)) (ninS ne11_x65_b1 (ninS ne32_x65 nin0))
  have ne34_r65 : r65 ≠ b34 := o34.elim (fun q => q ▸ ne32_r65) (fun q => Nat.ne_of_lt (Nat.lt_of_lt_of_le L32_r65.ltr q))
  have ne34_x65 : x65 ≠ b34 := o34.elim (fun q => q ▸ ne32_x65) (fun q => Nat.ne_of_lt (Nat.lt_of_lt_of_le L32_r65.ltx q))
  have L34_r67 := L32_r67.keep K34q (ninS ne15_r67_b1 (ninS ne32_r67 nin0)) (ninS ne15_x67_b1 (ninS ne32_x67 nin0))
  have ne34_r67 : r67 ≠ b34 := o34.elim (fun q => q ▸ ne32_r67) (fun q => Nat.ne_of_lt (Nat.lt_of_lt_of_le L32_r67.ltr q))
  have ne34_x67 : x67 ≠ b34 := o34.elim (fun q => q ▸ ne32_x67) (fun q => Nat.ne_of_lt (Nat.lt_of_lt_of_le L32_r67.ltx q))
  have L34_r72 := L32_r72.keep K34q (ninS ne19_r72_b1 (ninS ne32_r72 nin0)) (ninS ne19_x72_b1 (ninS ne32_x72 nin0))
  have ne34_r72 : r72 ≠ b34 := o34.elim (fun q => q ▸ ne32_r72) (fun q => Nat.ne_of_lt (Nat.lt_of_lt_of_le L32_r72.ltr q))
  have ne34_x72 : x72 ≠ b34 := o34.elim (fun q => q ▸ ne32_x72) (fun q => Nat.ne_of_lt (Nat.lt_of_lt_of_le L32_r72.ltx q))
  have L34_r74 := L32_r74.keep K34q (ninS ne23_r74_b1 (ninS ne32_r74 nin0)) (ninS ne23_x74_b1 (ninS ne32_x74 nin0))
  have ne34_r74 : r74 ≠ b34 := o34.elim (fun q => q ▸ ne32_r74) (fun q => Nat.ne_of_lt (Nat.lt_of_lt_of_le L32_r74.ltr q))
  have ne34_x74 : x74 ≠ b34 := o34.elim (fun q => q ▸ ne32_x74) (fun q => Nat.ne_of_lt (Nat.lt_of_lt_of_le L32_r74.ltx q))
  have L34_r76 := L32_r76.keep K34q (ninS ne27_r76_b1 (ninS ne32_r76 nin0)) (ninS ne27_x76_b1 (ninS ne32_x76 nin0))
  have ne34_r76 : r76 ≠ b34 := o34.elim (fun q => q ▸ ne32_r76) (fun q => Nat.ne_of_lt (Nat.lt_of_lt_of_le L32_r76.ltr q))
  have ne34_x76 : x76 ≠ b34 := o34.elim (fun q => q ▸ ne32_x76) (fun q => Nat.ne_of_lt (Nat.lt_of_lt_of_le L32_r76.ltx q))
  have L34_r78 := L32_r78.keep K34q (ninS ne31_r78_b1 (ninS ne32_r78 nin0)) (ninS ne31_x78_b1 (ninS ne32_x78 nin0))
  have ne34_r78 : r78 ≠ b34 := o34.elim (fun q => q ▸ ne32_r78) (fun q => Nat.ne_of_lt (Nat.lt_of_lt_of_le L32_r78.ltr q))
  have ne34_x78 : x78 ≠ b34 := o34.elim (fun q => q ▸ ne32_x78) (fun q => Nat.ne_of_lt (Nat.lt_of_lt_of_le L32_r78.ltx q))
  have N34 := Fr.app N32 N34q
  obtain ⟨S16, hS16⟩ : ∃ z, z = S15 ++ dec m7 := ⟨_, rfl⟩
  rw [← hS16] at B34_a
  have hl16 : S16.length = ((S15 : List Int8).length + (dec m7).length) := by rw [hS16, List.length_append]
  generalize gcap cap15 ((S15 : List Int8).length + (dec m7).length) = cap16 at B34_a G16 J16
  generalize gcell cap15 ((S15 : List Int8).length + (dec m7).length) = gc16 at X34 G16 J16
  generalize gslot cap15 ((S15 : List Int8).length + (dec m7).length) = gs16 at X34 G16 J16
  rw [← hl16] at G16 J16
  show yEndsW p e below s0 T34 (mkF m 103 #[rv o] [(.ref b1)]) _ _ _
  refine yldcC X34 hx hby d38_103 hZ hown (w202 hw) (wS hw) e34 hS eh (hn0 ▸ N34) O0.2.2 hI (by decide +kernel) (hc _ (List.mem_of_getElem? (i := 17) rfl)) hcw t_17 tx_17 (by decide +kernel) 48 (fun v35 T35 h35 r80 x80 X35 e35 Ex35 hZ hown hS hW35 E35_r V35_r C35_r A35_x hI Q80 ww35 => ?_) (by decide +kernel) (by decide +kernel) (by first | decide | omega | (dsimp only; omega)) (by first | decide | omega | (dsimp only; omega))
  have Q54 := Q54.stays hW35
  have Q63 := Q63.stays hW35
  have Q65 := Q65.stays hW35
  have Q67 := Q67.stays hW35
  have Q72 := Q72.stays hW35
  have Q74 := Q74.stays hW35
  have Q76 := Q76.stays hW35
  have Q78 := Q78.stays hW35
  have E35_b1 := (Sb.exa B34_a).ext Ex35
  have O35 := O34.ext Ex35
  have K35 := Keep.ext K34 Ex35
  have L35_r54 := L34_r54.ext Ex35
  have L35_r63 := L34_r63.ext Ex35
  have L35_r65 := L34_r65.ext Ex35
  have L35_r67 := L34_r67.ext Ex35
  have L35_r72 := L34_r72.ext Ex35
  have L35_r74 := L34_r74.ext Ex35
  have L35_r76 := L34_r76.ext Ex35
  have L35_r78 := L34_r78.ext Ex35
  have B35_x := B34_a.ext Ex35
  have ne35_r80_b1 : r80 ≠ b1 := ww35.elim (fun q => Nat.ne_of_lt (Nat.lt_of_lt_of_le q.1 z1)) (fun q => Nat.ne_of_gt (Nat.lt_of_lt_of_le (Sb.exa B34_a).lt q.1))
  have ne35_x80_b1 : x80 ≠ b1 := ww35.elim (fun q => Nat.ne_of_lt (Nat.lt_of_lt_of_le q.2 z1)) (fun q => Nat.ne_of_gt (Nat.lt_of_lt_of_le (Sb.exa B34_a).lt q.2))
  have ne35_r80_b34 : r80 ≠ b34 := ww35.elim (fun q => Nat.ne_of_lt (Nat.lt_of_lt_of_le q.1 (hn0 ▸ g34_b))) (fun q => Nat.ne_of_gt (Nat.lt_of_lt_of_le B34_a.lt q.1))
  have ne35_x80_b34 : x80 ≠ b34 := ww35.elim (fun q => Nat.ne_of_lt (Nat.lt_of_lt_of_le q.2 (hn0 ▸ g34_b))) (fun q => Nat.ne_of_gt (Nat.lt_of_lt_of_le B34_a.lt q.2))
  have L35_r80 := (Sx.mk E35_r V35_r C35_r A35_x)
  show yEndsW p e below s0 T35 (mkF m 105 #[rv o] [(.ref r80), (.ref b1)]) _ _ _
  have G17 := GR.step G16 (len' := ((S16 : List Int8).length + (t_17).length)) (by omega) (by omega) (by omega)
  have J17 := G17.le
  refine ycallv X35 hx hby d38_105 hZ hown (w78 hw) (w79 hw) (notFace_of_selects (args := #[]) (mvT hZ (w81 hw))) (w81 hw) (w80 hw) (w82 hw) (w61 hw) e35 E35_b1 (c_appstr l hw  C O35 b1 b34 (S16) cap16 B35_x (by omega) g1 g34_b r80 x80 t_17 L35_r80 (by decide +kernel) ne35_r80_b1 ne35_r80_b34 ne35_x80_b1 ne35_x80_b34) hml 0 pd_25 (argsL := [(.ref r80)]) (st := []) fun T36 h36 v36 L36 e36 X36 q36 => ?_
  obtain ⟨rfl, N36q, K36q, b36, B36_a, g36_b, o36⟩ := q36
  have O36 := O35.keep K36q (allS g1 (allS g34_b all0))
  have K36 := Keep.trans K35 K36q (allS (Or.inr z1) (allS i34 all0))
  have i36 : b36 ∈ ([] : List Addr) ∨ h0.size ≤ b36 := (o36.elim (fun q => q ▸ i34) (fun q => Or.inr (Nat.le_trans K35.1 q)))
  have hS := hS.keep K36q
  have L36_r54 := L35_r54.keep K36q (ninS ne3_r54_b1 (ninS ne34_r54 nin0)) (ninS ne3_x54_b1 (ninS ne34_x54 nin0))
  have ne36_r54 : r54 ≠ b36 := o36.elim (fun q => q ▸ ne34_r54) (fun q => Nat.ne_of_lt (Nat.lt_of_lt_of_le L35_r54.ltr q))
  have ne36_x54 : x54 ≠ b36 := o36.elim (fun q => q ▸ ne34_x54) (fun q => Nat.ne_of_lt (Nat.lt_of_lt_of_le L35_r54.ltx q))
  have L36_r63 := L35_r63.keep K36q (ninS ne7_r63_b1 (ninS ne34_r63 nin0)) (ninS ne7_x63_b1 (ninS ne34_x63 nin0))
  have ne36_r63 : r63 ≠ b36 := o36.elim (fun q => q ▸ ne34_r63) (fun q => Nat.ne_of_lt (Nat.lt_of_lt_of_le L35_r63.ltr q))
  have ne36_x63 : x63 ≠ b36 := o36.elim (fun q => q ▸ ne34_x63) (fun q => Nat.ne_of_lt (Nat.lt_of_lt_of_le L35_r63.ltx q))
  have L36_r65 := L35_r65.keep K36q (ninS ne11_r65_b1 (ninS ne34_r65 nin0)) (ninS ne11_x65_b1 (ninS ne34_x65 nin0))
  have ne36_r65 : r65 ≠ b36 := o36.elim (fun q => q ▸ ne34_r65) (fun q => Nat.ne_of_lt (Nat.lt_of_lt_of_le L35_r65.ltr q))
  have ne36_x65 : x65 ≠ b36 := o36.elim (fun q => q ▸ ne34_x65) (fun q => Nat.ne_of_lt (Nat.lt_of_lt_of_le L35_r65.ltx q))
  have L36_r67 := L35_r67.keep K36q (ninS ne15_r67_b1 (ninS ne34_r67 nin0)) (ninS ne15_x67_b1 (ninS ne34_x67 nin0))
  have ne36_r67 : r67 ≠ b36 := o36.elim (fun q => q ▸ ne34_r67) (fun q => Nat.ne_of_lt (Nat.lt_of_lt_of_le L35_r67.ltr q))
  have ne36_x67 : x67 ≠ b36 := o36.elim (fun q => q ▸ ne34_x67) (fun q => Nat.ne_of_lt (Nat.lt_of_lt_of_le L35_r67.ltx q))
  have L36_r72 := L35_r72.keep K36q (ninS ne19_r72_b1 (ninS ne34_r72 nin0)) (ninS ne19_x72_b1 (ninS ne34_x72 nin0))
  have ne36_r72 : r72 ≠ b36 := o36.elim (fun q => q ▸ ne34_r72) (fun q => Nat.ne_of_lt (Nat.lt_of_lt_of_le L35_r72.ltr q))
  have ne36_x72 : x72 ≠ b36 := o36.elim (fun q => q ▸ ne34_x72) (fun q => Nat.ne_of_lt (Nat.lt_of_lt_of_le L35_r72.ltx q))
  have L36_r74 := L35_r74.keep K36q (ninS ne23_r74_b1 (ninS ne34_r74 nin0)) (ninS ne23_x74_b1 (ninS ne34_x74 nin0))
  have ne36_r74 : r74 ≠ b36 := o36.elim (fun q => q ▸ ne34_r74) (fun q => Nat.ne_of_lt (Nat.lt_of_lt_of_le L35_r74.ltr q))
  have ne36_x74 : x74 ≠ b36 := o36.elim (fun q => q ▸ ne34_x74) (fun q => Nat.ne_of_lt (Nat.lt_of_lt_of_le L35_r74.ltx q))
  have L36_r76 := L35_r76.keep K36q (ninS ne27_r76_b1 (ninS ne34_r76 nin0)) (ninS ne27_x76_b1 (ninS ne34_x76 nin0))
  have ne36_r76 : r76 ≠ b36 := o36.elim (fun q => q ▸ ne34_r76) (fun q => Nat.ne_of_lt (Nat.lt_of_lt_of_le L35_r76.ltr q))
  have ne36_x76 : x76 ≠ b36 := o36.elim (fun q => q ▸ ne34_x76) (fun q => Nat.ne_of_lt (Nat.lt_of_lt_of_le L35_r76.ltx q))
  have L36_r78 := L35_r78.keep K36q (ninS ne31_r78_b1 (ninS ne34_r78 nin0)) (ninS ne31_x78_b1 (ninS ne34_x78 nin0))
  have ne36_r78 : r78 ≠ b36 := o36.elim (fun q => q ▸ ne34_r78) (fun q => Nat.ne_of_lt (Nat.lt_of_lt_of_le L35_r78.ltr q))
  have ne36_x78 : x78 ≠ b36 := o36.elim (fun q => q ▸ ne34_x78) (fun q => Nat.ne_of_lt (Nat.lt_of_lt_of_le L35_r78.ltx q))
  have L36_r80 := L35_r80.keep K36q (ninS ne35_r80_b1 (ninS ne35_r80_b34 nin0)) (ninS ne35_x80_b1 (ninS ne35_x80_b34 nin0))
  have ne36_r80 : r80 ≠ b36 := o36.elim (fun q => q ▸ ne35_r80_b34) (fun q => Nat.ne_of_lt (Nat.lt_of_lt_of_le L35_r80.ltr q))
  have ne36_x80 : x80 ≠ b36 := o36.elim (fun q => q ▸ ne35_x80_b34) (fun q => Nat.ne_of_lt (Nat.lt_of_lt_of_le L35_r80.ltx q))
  have N36 := Fr.app N34 N36q
  obtain ⟨S17, hS17⟩ : ∃ z, z = S16 ++ t_17 := ⟨_, rfl⟩
  rw [← hS17] at B36_a
  have hl17 : S17.length = ((S16 : List Int8).length + (t_17).length) := by rw [hS17, List.length_append]
  generalize gcap cap16 ((S16 : List Int8).length + (t_17).length) = cap17 at B36_a G17 J17
  generalize gcell cap16 ((S16 : List Int8).length + (t_17).length) = gc17 at X36 G17 J17
  generalize gslot cap16 ((S16 : List Int8).length + (t_17).length) = gs17 at X36 G17 J17
  rw [← hl17] at G17 J17
  show yEndsW p e below s0 T36 (mkF m 108 #[rv o] [(.ref b1)]) _ _ _
  refine yaloadN X36 hx hby d38_108 rfl rfl (ygetfld X36 hx hby d38_109 hZ hown (host := "") (Or.inl (w52 hw)) Via.refl e36 (F_o_callerRan.keep K36 nin0) fun T37 X37 e37 => ?_)
  show yEndsW p e below s0 T37 (mkF m 112 #[rv o] [(.long (Int64.ofNat (m8))), (.ref b1)]) _ _ _
  have G18 := GR.step G17 (len' := ((S17 : List Int8).length + (dec m8).length)) (by omega) (by omega) (by omega)
  have J18 := G18.le
  refine ycallv X37 hx hby d38_112 hZ hown (w176 hw) (w177 hw) (notFace_of_selects (args := #[]) (mvT hZ (w179 hw))) (w179 hw) (w178 hw) (w180 hw) (w61 hw) e37 (Sb.exa B36_a) (c_appJ l hw  C O36 b1 b36 (S17) cap17 B36_a (by omega) g1 g36_b m8 (by omega)) hml 0 pd_27 (argsL := [(.long (Int64.ofNat (m8)))]) (st := []) fun T38 h38 v38 L38 e38 X38 q38 => ?_
  obtain ⟨rfl, N38q, K38q, b38, B38_a, g38_b, o38⟩ := q38
  have O38 := O36.keep K38q (allS g1 (allS g36_b all0))
  have K38 := Keep.trans K36 K38q (allS (Or.inr z1) (allS i36 all0))
  have i38 : b38 ∈ ([] : List Addr) ∨ h0.size ≤ b38 := (o38.elim (fun q => q ▸ i36) (fun q => Or.inr (Nat.le_trans K36.1 q)))
  have hS := hS.keep K38q
  have L38_r54 := L36_r54.keep K38q (ninS ne3_r54_b1 (ninS ne36_r54 nin0)) (ninS ne3_x54_b1 (ninS ne36_x54 nin0))
  have ne38_r54 : r54 ≠ b38 := o38.elim (fun q => q ▸ ne36_r54) (fun q => Nat.ne_of_lt (Nat.lt_of_lt_of_le L36_r54.ltr q))
  have ne38_x54 : x54 ≠ b38 := o38.elim (fun q => q ▸ ne36_x54) (fun q => Nat.ne_of_lt (Nat.lt_of_lt_of_le L36_r54.ltx q))
  have L38_r63 := L36_r63.keep K38q (ninS ne7_r63_b1 (ninS ne36_r63 nin0)) (ninS ne7_x63_b1 (ninS ne36_x63 nin0))
  have ne38_r63 : r63 ≠ b38 := o38.elim (fun q => q ▸ ne36_r63) (fun q => Nat.ne_of_lt (Nat.lt_of_lt_of_le L36_r63.ltr q))
  have ne38_x63 : x63 ≠ b38 := o38.elim (fun q => q ▸ ne36_x63) (fun q => Nat.ne_of_lt (Nat.lt_of_lt_of_le L36_r63.ltx q))
  have L38_r65 := L36_r65.keep K38q (ninS ne11_r65_b1 (ninS ne36_r65 nin0)) (ninS ne11_x65_b1 (ninS ne36_x65 nin0))
  have ne38_r65 : r65 ≠ b38 := o38.elim (fun q => q ▸ ne36_r65) (fun q => Nat.ne_of_lt (Nat.lt_of_lt_of_le L36_r65.ltr q))
  have ne38_x65 : x65 ≠ b38 := o38.elim (fun q => q ▸ ne36_x65) (fun q => Nat.ne_of_lt (Nat.lt_of_lt_of_le L36_r65.ltx q))
  have L38_r67 := L36_r67.keep K38q (ninS ne15_r67_b1 (ninS ne36_r67 nin0)) (ninS ne15_x67_b1 (ninS ne36_x67 nin0))
  have ne38_r67 : r67 ≠ b38 := o38.elim (fun q => q ▸ ne36_r67) (fun q => Nat.ne_of_lt (Nat.lt_of_lt_of_le L36_r67.ltr q))
  have ne38_x67 : x67 ≠ b38 := o38.elim (fun q => q ▸ ne36_x67) (fun q => Nat.ne_of_lt (Nat.lt_of_lt_of_le L36_r67.ltx q))
  have L38_r72 := L36_r72.keep K38q (ninS ne19_r72_b1 (ninS ne36_r72 nin0)) (ninS ne19_x72_b1 (ninS ne36_x72 nin0))
  have ne38_r72 : r72 ≠ b38 := o38.elim (fun q => q ▸ ne36_r72) (fun q => Nat.ne_of_lt (Nat.lt_of_lt_of_le L36_r72.ltr q))
  have ne38_x72 : x72 ≠ b38 := o38.elim (fun q => q ▸ ne36_x72) (fun q => Nat.ne_of_lt (Nat.lt_of_lt_of_le L36_r72.ltx q))
  have L38_r74 := L36_r74.keep K38q (ninS ne23_r74_b1 (ninS ne36_r74 nin0)) (ninS ne23_x74_b1 (ninS ne36_x74 nin0))
  have ne38_r74 : r74 ≠ b38 := o38.elim (fun q => q ▸ ne36_r74) (fun q => Nat.ne_of_lt (Nat.lt_of_lt_of_le L36_r74.ltr q))
  have ne38_x74 : x74 ≠ b38 := o38.elim (fun q => q ▸ ne36_x74) (fun q => Nat.ne_of_lt (Nat.lt_of_lt_of_le L36_r74.ltx q))
  have L38_r76 := L36_r76.keep K38q (ninS ne27_r76_b1 (ninS ne36_r76 nin0)) (ninS ne27_x76_b1 (ninS ne36_x76 nin0))
  have ne38_r76 : r76 ≠ b38 := o38.elim (fun q => q ▸ ne36_r76) (fun q => Nat.ne_of_lt (Nat.lt_of_lt_of_le L36_r76.ltr q))
  have ne38_x76 : x76 ≠ b38 := o38.elim (fun q => q ▸ ne36_x76) (fun q => Nat.ne_of_lt (Nat.lt_of_lt_of_le L36_r76.ltx q))
  have L38_r78 := L36_r78.keep K38q (ninS ne31_r78_b1 (ninS ne36_r78 nin0)) (ninS ne31_x78_b1 (ninS ne36_x78 nin0))
  have ne38_r78 : r78 ≠ b38 := o38.elim (fun q => q ▸ ne36_r78) (fun q => Nat.ne_of_lt (Nat.lt_of_lt_of_le L36_r78.ltr q))
  have ne38_x78 : x78 ≠ b38 := o38.elim (fun q => q ▸ ne36_x78) (fun q => Nat.ne_of_lt (Nat.lt_of_lt_of_le L36_r78.ltx q))
  have L38_r80 := L36_r80.keep K38q (ninS ne35_r80_b1 (ninS ne36_r80 nin0)) (ninS ne35_x80_b1 (ninS ne36_x80 nin0))
  have ne38_r80 : r80 ≠ b38 := o38.elim (fun q => q ▸ ne36_r80) (fun q => Nat.ne_of_lt (Nat.lt_of_lt_of_le L36_r80.ltr q))
  have ne38_x80 : x80 ≠ b38 := o38.elim (fun q => q ▸ ne36_x80) (fun q => Nat.ne_of_lt (Nat.lt_of_lt_of_le L36_r80.ltx q))
  have N38 := Fr.app N36 N38q
  obtain ⟨S18, hS18⟩ : ∃ z, z = S17 ++ dec m8 := ⟨_, rfl⟩
  rw [← hS18] at B38_a
  have hl18 : S18.length = ((S17 : List Int8).length + (dec m8).length) := by rw [hS18, List.length_append]
  generalize gcap cap17 ((S17 : List Int8).length + (dec m8).length) = cap18 at B38_a G18 J18
  generalize gcell cap17 ((S17 : List Int8).length + (dec m8).length) = gc18 at X38 G18 J18
  generalize gslot cap17 ((S17 : List Int8).length + (dec m8).length) = gs18 at X38 G18 J18
  rw [← hl18] at G18 J18
  show yEndsW p e below s0 T38 (mkF m 115 #[rv o] [(.ref b1)]) _ _ _
  refine yldcC X38 hx hby d38_115 hZ hown (w203 hw) (wS hw) e38 hS eh (hn0 ▸ N38) O0.2.2 hI (by decide +kernel) (hc _ (List.mem_of_getElem? (i := 18) rfl)) hcw t_18 tx_18 (by decide +kernel) 4 (fun v39 T39 h39 r82 x82 X39 e39 Ex39 hZ hown hS hW39 E39_r V39_r C39_r A39_x hI Q82 ww39 => ?_) (by decide +kernel) (by decide +kernel) (by first | decide | omega | (dsimp only; omega)) (by first | decide | omega | (dsimp only; omega))
  have Q54 := Q54.stays hW39
  have Q63 := Q63.stays hW39
  have Q65 := Q65.stays hW39
  have Q67 := Q67.stays hW39
  have Q72 := Q72.stays hW39
  have Q74 := Q74.stays hW39
  have Q76 := Q76.stays hW39
  have Q78 := Q78.stays hW39
  have Q80 := Q80.stays hW39
  have E39_b1 := (Sb.exa B38_a).ext Ex39
  have O39 := O38.ext Ex39
  have K39 := Keep.ext K38 Ex39
  have L39_r54 := L38_r54.ext Ex39
  have L39_r63 := L38_r63.ext Ex39
  have L39_r65 := L38_r65.ext Ex39
  have L39_r67 := L38_r67.ext Ex39
  have L39_r72 := L38_r72.ext Ex39
  have L39_r74 := L38_r74.ext Ex39
  have L39_r76 := L38_r76.ext Ex39
  have L39_r78 := L38_r78.ext Ex39
  have L39_r80 := L38_r80.ext Ex39
  have B39_x := B38_a.ext Ex39
  have ne39_r82_b1 : r82 ≠ b1 := ww39.elim (fun q => Nat.ne_of_lt (Nat.lt_of_lt_of_le q.1 z1)) (fun q => Nat.ne_of_gt (Nat.lt_of_lt_of_le (Sb.exa B38_a).lt q.1))
  have ne39_x82_b1 : x82 ≠ b1 := ww39.elim (fun q => Nat.ne_of_lt (Nat.lt_of_lt_of_le q.2 z1)) (fun q => Nat.ne_of_gt (Nat.lt_of_lt_of_le (Sb.exa B38_a).lt q.2))
  have ne39_r82_b38 : r82 ≠ b38 := ww39.elim (fun q => Nat.ne_of_lt (Nat.lt_of_lt_of_le q.1 (hn0 ▸ g38_b))) (fun q => Nat.ne_of_gt (Nat.lt_of_lt_of_le B38_a.lt q.1))
  have ne39_x82_b38 : x82 ≠ b38 := ww39.elim (fun q => Nat.ne_of_lt (Nat.lt_of_lt_of_le q.2 (hn0 ▸ g38_b))) (fun q => Nat.ne_of_gt (Nat.lt_of_lt_of_le B38_a.lt q.2))
  have L39_r82 := (Sx.mk E39_r V39_r C39_r A39_x)
  show yEndsW p e below s0 T39 (mkF m 117 #[rv o] [(.ref r82), (.ref b1)]) _ _ _
  have G19 := GR.step G18 (len' := ((S18 : List Int8).length + (t_18).length)) (by omega) (by omega) (by omega)
  have J19 := G19.le
  refine ycallv X39 hx hby d38_117 hZ hown (w78 hw) (w79 hw) (notFace_of_selects (args := #[]) (mvT hZ (w81 hw))) (w81 hw) (w80 hw) (w82 hw) (w61 hw) e39 E39_b1 (c_appstr l hw  C O39 b1 b38 (S18) cap18 B39_x (by omega) g1 g38_b r82 x82 t_18 L39_r82 (by decide +kernel) ne39_r82_b1 ne39_r82_b38 ne39_x82_b1 ne39_x82_b38) hml 0 pd_25 (argsL := [(.ref r82)]) (st := []) fun T40 h40 v40 L40 e40 X40 q40 => ?_
  obtain ⟨rfl, N40q, K40q, b40, B40_a, g40_b, o40⟩ := q40
  have O40 := O39.keep K40q (allS g1 (allS g38_b all0))
  have K40 := Keep.trans K39 K40q (allS (Or.inr z1) (allS i38 all0))
  have i40 : b40 ∈ ([] : List Addr) ∨ h0.size ≤ b40 := (o40.elim (fun q => q ▸ i38) (fun q => Or.inr (Nat.le_trans K39.1 q)))
  have hS := hS.keep K40q
  have L40_r54 := L39_r54.keep K40q (ninS ne3_r54_b1 (ninS ne38_r54 nin0)) (ninS ne3_x54_b1 (ninS ne38_x54 nin0))
  have L40_r63 := L39_r63.keep K40q (ninS ne7_r63_b1 (ninS ne38_r63 nin0)) (ninS ne7_x63_b1 (ninS ne38_x63 nin0))
  have L40_r65 := L39_r65.keep K40q (ninS ne11_r65_b1 (ninS ne38_r65 nin0)) (ninS ne11_x65_b1 (ninS ne38_x65 nin0))
  have L40_r67 := L39_r67.keep K40q (ninS ne15_r67_b1 (ninS ne38_r67 nin0)) (ninS ne15_x67_b1 (ninS ne38_x67 nin0))
  have L40_r72 := L39_r72.keep K40q (ninS ne19_r72_b1 (ninS ne38_r72 nin0)) (ninS ne19_x72_b1 (ninS ne38_x72 nin0))
  have L40_r74 := L39_r74.keep K40q (ninS ne23_r74_b1 (ninS ne38_r74 nin0)) (ninS ne23_x74_b1 (ninS ne38_x74 nin0))
  have L40_r76 := L39_r76.keep K40q (ninS ne27_r76_b1 (ninS ne38_r76 nin0)) (ninS ne27_x76_b1 (ninS ne38_x76 nin0))
  have L40_r78 := L39_r78.keep K40q (ninS ne31_r78_b1 (ninS ne38_r78 nin0)) (ninS ne31_x78_b1 (ninS ne38_x78 nin0))
  have L40_r80 := L39_r80.keep K40q (ninS ne35_r80_b1 (ninS ne38_r80 nin0)) (ninS ne35_x80_b1 (ninS ne38_x80 nin0))
  have L40_r82 := L39_r82.keep K40q (ninS ne39_r82_b1 (ninS ne39_r82_b38 nin0)) (ninS ne39_x82_b1 (ninS ne39_x82_b38 nin0))
  have N40 := Fr.app N38 N40q
  obtain ⟨S19, hS19⟩ : ∃ z, z = S18 ++ t_18 := ⟨_, rfl⟩
  rw [← hS19] at B40_a
  have hl19 : S19.length = ((S18 : List Int8).length + (t_18).length) := by rw [hS19, List.length_append]
  generalize gcap cap18 ((S18 : List Int8).length + (t_18).length) = cap19 at B40_a G19 J19
  generalize gcell cap18 ((S18 : List Int8).length + (t_18).length) = gc19 at X40 G19 J19
  generalize gslot cap18 ((S18 : List Int8).length + (t_18).length) = gs19 at X40 G19 J19
  rw [← hl19] at G19 J19
  show yEndsW p e below s0 T40 (mkF m 120 #[rv o] [(.ref b1)]) _ _ _
  refine ycallv X40 hx hby d38_120 hZ hown (w204 hw) (w205 hw) (notFace_of_selects (args := #[]) (mvT hZ (w207 hw))) (w207 hw) (w206 hw) (w208 hw) (w61 hw) e40 (Sb.exa B40_a) (c_tos l hw  C O40 b1 b40 S19 cap19 B40_a (by omega)) hml 0 pd_28 (argsL := []) (st := []) fun T41 h41 v41 L41 e41 X41 q41 => ?_
  obtain ⟨t, x, rfl, N41q, K41q, B41_t, gt41, gx41, yt41, yx41⟩ := q41
  have hS := hS.keep K41q
  have N41 := Fr.app N40 N41q
  have K41 := Keep.trans K40 K41q all0
  have L41_r54 := L40_r54.keep K41q nin0 nin0
  have L41_r63 := L40_r63.keep K41q nin0 nin0
  have L41_r65 := L40_r65.keep K41q nin0 nin0
  have L41_r67 := L40_r67.keep K41q nin0 nin0
  have L41_r72 := L40_r72.keep K41q nin0 nin0
  have L41_r74 := L40_r74.keep K41q nin0 nin0
  have L41_r76 := L40_r76.keep K41q nin0 nin0
  have L41_r78 := L40_r78.keep K41q nin0 nin0
  have L41_r80 := L40_r80.keep K41q nin0 nin0
  have L41_r82 := L40_r82.keep K41q nin0 nin0
  show yEndsW p e below s0 T41 (mkF m 123 #[rv o] [(.ref t)]) _ _ _
  exact yretA X41 hx hby d38_123 hret hlk e41 hS rfl rfl rfl (by first | decide | omega | (dsimp only; omega)) (by first | decide | omega | (dsimp only; omega)) (fun v1 hv => by rw [e41]; exact ⟨t, x, rfl, N41, K41, by have q := B41_t; rw [hS19, hS18, hS17, hS16, hS15, hS14, hS13, hS12, hS11, hS10, hS9, hS8, hS7, hS6, hS5, hS4, hS3, hS2, hS1] at q; exact q, hn0 ▸ gt41, hn0 ▸ gx41, ibw hI hv, r54, x54, r63, x63, r65, x65, r67, x67, r72, x72, r74, x74, r76, x76, r78, x78, r80, x80, r82, x82, ⟨Q54.stays hv.wide, L41_r54⟩, ⟨Q63.stays hv.wide, L41_r63⟩, ⟨Q65.stays hv.wide, L41_r65⟩, ⟨Q67.stays hv.wide, L41_r67⟩, ⟨Q72.stays hv.wide, L41_r72⟩, ⟨Q74.stays hv.wide, L41_r74⟩, ⟨Q76.stays hv.wide, L41_r76⟩, ⟨Q78.stays hv.wide, L41_r78⟩, ⟨Q80.stays hv.wide, L41_r80⟩, ⟨Q82.stays hv.wide, L41_r82⟩⟩)
theorem t_warm (hw : HW a0 Z) (C : Ctx Z cs d1 d2 o1 o2) (O0 : zOd Z n0 h0) (m0 m1 m2 m3 m4 m5 m6 m7 m8 : Nat) (hm0 : m0 < 2147483648) (hm1 : m1 < 2147483648) (hm2 : m2 < 2147483648) (hm3 : m3 < 9223372036854775808) (hm4 : m4 < 9223372036854775808) (hm5 : m5 < 9223372036854775808) (hm6 : m6 < 9223372036854775808) (hm7 : m7 < 9223372036854775808) (hm8 : m8 < 9223372036854775808) (hn0 : n0 = h0.size) (o : Addr) (P0 : PMo Z h0 o m0 m1 m2 m3 m4 m5 m6 m7 m8) (Ts : List String) (r54 x54 r63 x63 r65 x65 r67 x67 r72 x72 r74 x74 r76 x76 r78 x78 r80 x80 r82 x82 : Addr) (L_r54 : Sx Z h0 r54 x54 t_9) (L_r63 : Sx Z h0 r63 x63 t_10) (L_r65 : Sx Z h0 r65 x65 t_11) (L_r67 : Sx Z h0 r67 x67 t_12) (L_r72 : Sx Z h0 r72 x72 t_13) (L_r74 : Sx Z h0 r74 x74 t_14) (L_r76 : Sx Z h0 r76 x76 t_15) (L_r78 : Sx Z h0 r78 x78 t_16) (L_r80 : Sx Z h0 r80 x80 t_17) (L_r82 : Sx Z h0 r82 x82 t_18) : yConW l Z (⟨"com/example/kick/kick/value/PoolMetrics", "toString", "()Ljava/lang/String;"⟩ : MethodName) prog_12_method_11_code 1 (some (.object "java/lang/String")) [] ({ frames := 6, cells := 8, slots := 900, locals := 102 } : Room) #[(.ref o)] (fun v => IB Z v Ts ∧ Lit (Z.setVm v) "com/example/kick/kick/value/PoolMetrics" 54 r54 ∧ Lit (Z.setVm v) "com/example/kick/kick/value/PoolMetrics" 63 r63 ∧ Lit (Z.setVm v) "com/example/kick/kick/value/PoolMetrics" 65 r65 ∧ Lit (Z.setVm v) "com/example/kick/kick/value/PoolMetrics" 67 r67 ∧ Lit (Z.setVm v) "com/example/kick/kick/value/PoolMetrics" 72 r72 ∧ Lit (Z.setVm v) "com/example/kick/kick/value/PoolMetrics" 74 r74 ∧ Lit (Z.setVm v) "com/example/kick/kick/value/PoolMetrics" 76 r76 ∧ Lit (Z.setVm v) "com/example/kick/kick/value/PoolMetrics" 78 r78 ∧ Lit (Z.setVm v) "com/example/kick/kick/value/PoolMetrics" 80 r80 ∧ Lit (Z.setVm v) "com/example/kick/kick/value/PoolMetrics" 82 r82) h0 (fun v' v h L => ∃ t x : Addr, v' = some (.ref t) ∧ Fr n0 L ∧ Keep h0 h [] ∧ Sx Z h t x (Sm m0 m1 m2 m3 m4 m5 m6 m7 m8) ∧ h0.size ≤ t ∧ h0.size ≤ x ∧ IB Z v Ts) := by
  refine yenterW (plainFor_of_name pn_9) (L0 := #[rv o]) (fun m => by first | (simp [entryFrame, mkF, argsToLocals, Value.category]; done) | rfl) ?_
  intro p e s0 v0 m below meth c T0 hx hZ hby hml hown0 hnm hret hlk X0 e0 hS eh hP
  have hown : v0.findClass "com/example/kick/kick/value/PoolMetrics" = some m.cls := hown0
  have K0 := Keep.refl h0 []
  have N0 := Fr.nil n0
  obtain ⟨hI, Q54, Q63, Q65, Q67, Q72, Q74, Q76, Q78, Q80, Q82⟩ := hP
  obtain ⟨E_o, F_o_threads, F_o_active, F_o_queued, F_o_submitted, F_o_completed, F_o_failed, F_o_rejected, F_o_discarded, F_o_callerRan⟩ := id P0
  have d0_ := dec_len_le 9 m0 (by omega)
  have d1_ := dec_len_le 9 m1 (by omega)
  have d2_ := dec_len_le 9 m2 (by omega)
  have d3_ := dec_len_le 18 m3 (by omega)
  have d4_ := dec_len_le 18 m4 (by omega)
  have d5_ := dec_len_le 18 m5 (by omega)
  have d6_ := dec_len_le 18 m6 (by omega)
  have d7_ := dec_len_le 18 m7 (by omega)
  have d8_ := dec_len_le 18 m8 (by omega)
  have tl9 := tl_9
  have tl10 := tl_10
  have tl11 := tl_11
  have tl12 := tl_12
  have tl13 := tl_13
  have tl14 := tl_14
  have tl15 := tl_15
  have tl16 := tl_16
  have tl17 := tl_17
  have tl18 := tl_18
  have nl0 : ([] : List Int8).length = 0 := rfl
  show yEndsW p e below s0 T0 (mkF m 0 #[rv o] []) _ _ _
  refine ynewobj X0 hx hby d38_0 hZ hown (w59 hw) (w60 hw) (w61 hw) e0 (by first | decide | omega | (dsimp only; omega)) (by first | decide | omega | (dsimp only; omega)) fun T1 h1 b1 X1 e1 y1 Ex1 E1_b1 D1 => ?_
  have O1 := O0.ext Ex1
  have K1 := Keep.ext K0 Ex1
  have hS := hS.ext Ex1
  have g1 : n0 ≤ b1 := by rw [y1]; exact zodsz O0
  have z1 : h0.size ≤ b1 := by rw [y1]; exact K0.1
  have F1_b1_value : Fld Z h1 b1 "java/lang/AbstractStringBuilder" "value" "[B" .null := D1 (Or.inl (w74 hw)) (ty := (.array .byte)) (by decide)
  have F1_b1_coder : Fld Z h1 b1 "java/lang/AbstractStringBuilder" "coder" "B" (.int 0) := D1 (Or.inl (w76 hw)) (ty := .byte) (by decide)
  have F1_b1_count : Fld Z h1 b1 "java/lang/AbstractStringBuilder" "count" "I" (.int 0) := D1 (Or.inl (w102 hw)) (ty := .int) (by decide)
  refine ydup X1 hx hby d38_3 rfl ?_
  show yEndsW p e below s0 T1 (mkF m 4 #[rv o] [(.ref b1), (.ref b1)]) _ _ _
  refine ycallsp X1 hx hby d38_4 hZ hown rfl (w62 hw) (w63 hw) (w64 hw) (w61 hw) e1 (c_init l hw  C O1 b1 E1_b1 F1_b1_value F1_b1_coder F1_b1_count g1) hml 1 pd_24 (argsL := []) (st := [(.ref b1)]) fun T2 h2 v2 L2 e2 X2 q2 => ?_
  obtain ⟨rfl, N2q, K2q, b2, B2_a, g2_b, y2⟩ := q2
  have O2 := O1.keep K2q (allS g1 all0)
  have K2 := Keep.trans K1 K2q (allS (Or.inr z1) all0)
  have hS := hS.keep K2q
  have N2 := Fr.app N0 N2q
  have z2 : h0.size ≤ b2 := Nat.le_trans K1.1 y2
  show yEndsW p e below s0 T2 (mkF m 7 #[rv o] [(.ref b1)]) _ _ _
  refine yldcA X2 hx hby d38_7 hZ hown (w77 hw) Q54 ?_
  show yEndsW p e below s0 T2 (mkF m 9 #[rv o] [(.ref r54), (.ref b1)]) _ _ _
  have G1 := GR.first
  have J1 := G1.le
  have S3_r54 := Sx.keep L_r54 K2 nin0 nin0
  refine ycallv X2 hx hby d38_9 hZ hown (w78 hw) (w79 hw) (notFace_of_selects (args := #[]) (mvT hZ (w81 hw))) (w81 hw) (w80 hw) (w82 hw) (w61 hw) e2 (Sb.exa B2_a) (c_appstr l hw  C O2 b1 b2 ([]) 16 B2_a (by omega) g1 g2_b r54 x54 t_9 S3_r54 (by decide +kernel) (Nat.ne_of_lt (Nat.lt_of_lt_of_le L_r54.ltr z1)) (Nat.ne_of_lt (Nat.lt_of_lt_of_le L_r54.ltr (hn0 ▸ g2_b))) (Nat.ne_of_lt (Nat.lt_of_lt_of_le L_r54.ltx z1)) (Nat.ne_of_lt (Nat.lt_of_lt_of_le L_r54.ltx (hn0 ▸ g2_b)))) hml 0 pd_25 (argsL := [(.ref r54)]) (st := []) fun T4 h4 v4 L4 e4 X4 q4 => ?_
  obtain ⟨rfl, N4q, K4q, b4, B4_a, g4_b, o4⟩ := q4
  have O4 := O2.keep K4q (allS g1 (allS g2_b all0))
  have K4 := Keep.trans K2 K4q (allS (Or.inr z1) (allS (Or.inr z2) all0))
  have i4 : b4 ∈ ([] : List Addr) ∨ h0.size ≤ b4 := (o4.elim (fun q => q ▸ (Or.inr z2)) (fun q => Or.inr (Nat.le_trans K2.1 q)))
  have hS := hS.keep K4q
  have N4 := Fr.app N2 N4q
  obtain ⟨S1, hS1⟩ : ∃ z, z = [] ++ t_9 := ⟨_, rfl⟩
  rw [← hS1] at B4_a
  have hl1 : S1.length = (([] : List Int8).length + (t_9).length) := by rw [hS1, List.length_append]
  generalize gcap 16 (([] : List Int8).length + (t_9).length) = cap1 at B4_a G1 J1
  generalize gcell 16 (([] : List Int8).length + (t_9).length) = gc1 at X4 G1 J1
  generalize gslot 16 (([] : List Int8).length + (t_9).length) = gs1 at X4 G1 J1
  rw [← hl1] at G1 J1
  show yEndsW p e below s0 T4 (mkF m 12 #[rv o] [(.ref b1)]) _ _ _
  refine yaloadN X4 hx hby d38_12 rfl rfl (ygetfld X4 hx hby d38_13 hZ hown (host := "") (Or.inl (w36 hw)) Via.refl e4 (F_o_threads.keep K4 nin0) fun T5 X5 e5 => ?_)
  show yEndsW p e below s0 T5 (mkF m 16 #[rv o] [(.int (Int32.ofNat (m0))), (.ref b1)]) _ _ _
  have G2 := GR.step G1 (len' := ((S1 : List Int8).length + (dec m0).length)) (by omega) (by omega) (by omega)
  have J2 := G2.le
  refine ycallv X5 hx hby d38_16 hZ hown (w151 hw) (w152 hw) (notFace_of_selects (args := #[]) (mvT hZ (w154 hw))) (w154 hw) (w153 hw) (w155 hw) (w61 hw) e5 (Sb.exa B4_a) (c_appI l hw  C O4 b1 b4 (S1) cap1 B4_a (by omega) g1 g4_b m0 (by omega)) hml 0 pd_26 (argsL := [(.int (Int32.ofNat (m0)))]) (st := []) fun T6 h6 v6 L6 e6 X6 q6 => ?_
  obtain ⟨rfl, N6q, K6q, b6, B6_a, g6_b, o6⟩ := q6
  have O6 := O4.keep K6q (allS g1 (allS g4_b all0))
  have K6 := Keep.trans K4 K6q (allS (Or.inr z1) (allS i4 all0))
  have i6 : b6 ∈ ([] : List Addr) ∨ h0.size ≤ b6 := (o6.elim (fun q => q ▸ i4) (fun q => Or.inr (Nat.le_trans K4.1 q)))
  have hS := hS.keep K6q
  have N6 := Fr.app N4 N6q
  obtain ⟨S2, hS2⟩ : ∃ z, z = S1 ++ dec m0 := ⟨_, rfl⟩
  rw [← hS2] at B6_a
  have hl2 : S2.length = ((S1 : List Int8).length + (dec m0).length) := by rw [hS2, List.length_append]
  generalize gcap cap1 ((S1 : List Int8).length + (dec m0).length) = cap2 at B6_a G2 J2
  generalize gcell cap1 ((S1 : List Int8).length + (dec m0).length) = gc2 at X6 G2 J2
  generalize gslot cap1 ((S1 : List Int8).length + (dec m0).length) = gs2 at X6 G2 J2
  rw [← hl2] at G2 J2
  show yEndsW p e below s0 T6 (mkF m 19 #[rv o] [(.ref b1)]) _ _ _
  refine yldcA X6 hx hby d38_19 hZ hown (w173 hw) Q63 ?_
  show yEndsW p e below s0 T6 (mkF m 21 #[rv o] [(.ref r63), (.ref b1)]) _ _ _
  have G3 := GR.step G2 (len' := ((S2 : List Int8).length + (t_10).length)) (by omega) (by omega) (by omega)
  have J3 := G3.le
  have S7_r63 := Sx.keep L_r63 K6 nin0 nin0
  refine ycallv X6 hx hby d38_21 hZ hown (w78 hw) (w79 hw) (notFace_of_selects (args := #[]) (mvT hZ (w81 hw))) (w81 hw) (w80 hw) (w82 hw) (w61 hw) e6 (Sb.exa B6_a) (c_appstr l hw  C O6 b1 b6 (S2) cap2 B6_a (by omega) g1 g6_b r63 x63 t_10 S7_r63 (by decide +kernel) (Nat.ne_of_lt (Nat.lt_of_lt_of_le L_r63.ltr z1)) (Nat.ne_of_lt (Nat.lt_of_lt_of_le L_r63.ltr (hn0 ▸ g6_b))) (Nat.ne_of_lt (Nat.lt_of_lt_of_le L_r63.ltx z1)) (Nat.ne_of_lt (Nat.lt_of_lt_of_le L_r63.ltx (hn0 ▸ g6_b)))) hml 0 pd_25 (argsL := [(.ref r63)]) (st := []) fun T8 h8 v8 L8 e8 X8 q8 => ?_
  obtain ⟨rfl, N8q, K8q, b8, B8_a, g8_b, o8⟩ := q8
  have O8 := O6.keep K8q (allS g1 (allS g6_b all0))
  have K8 := Keep.trans K6 K8q (allS (Or.inr z1) (allS i6 all0))
  have i8 : b8 ∈ ([] : List Addr) ∨ h0.size ≤ b8 := (o8.elim (fun q => q ▸ i6) (fun q => Or.inr (Nat.le_trans K6.1 q)))
  have hS := hS.keep K8q
  have N8 := Fr.app N6 N8q
  obtain ⟨S3, hS3⟩ : ∃ z, z = S2 ++ t_10 := ⟨_, rfl⟩
  rw [← hS3] at B8_a
  have hl3 : S3.length = ((S2 : List Int8).length + (t_10).length) := by rw [hS3, List.length_append]
  generalize gcap cap2 ((S2 : List Int8).length + (t_10).length) = cap3 at B8_a G3 J3
  generalize gcell cap2 ((S2 : List Int8).length + (t_10).length) = gc3 at X8 G3 J3
  generalize gslot cap2 ((S2 : List Int8).length + (t_10).length) = gs3 at X8 G3 J3
  rw [← hl3] at G3 J3
  show yEndsW p e below s0 T8 (mkF m 24 #[rv o] [(.ref b1)]) _ _ _
  refine yaloadN X8 hx hby d38_24 rfl rfl (ygetfld X8 hx hby d38_25 hZ hown (host := "") (Or.inl (w38 hw)) Via.refl e8 (F_o_active.keep K8 nin0) fun T9 X9 e9 => ?_)
  show yEndsW p e below s0 T9 (mkF m 28 #[rv o] [(.int (Int32.ofNat (m1))), (.ref b1)]) _ _ _
  have G4 := GR.step G3 (len' := ((S3 : List Int8).length + (dec m1).length)) (by omega) (by omega) (by omega)
  have J4 := G4.le
  refine ycallv X9 hx hby d38_28 hZ hown (w151 hw) (w152 hw) (notFace_of_selects (args := #[]) (mvT hZ (w154 hw))) (w154 hw) (w153 hw) (w155 hw) (w61 hw) e9 (Sb.exa B8_a) (c_appI l hw  C O8 b1 b8 (S3) cap3 B8_a (by omega) g1 g8_b m1 (by omega)) hml 0 pd_26 (argsL := [(.int (Int32.ofNat (m1)))]) (st := []) fun T10 h10 v10 L10 e10 X10 q10 => ?_
  obtain ⟨rfl, N10q, K10q, b10, B10_a, g10_b, o10⟩ := q10
  have O10 := O8.keep K10q (allS g1 (allS g8_b all0))
  have K10 := Keep.trans K8 K10q (allS (Or.inr z1) (allS i8 all0))
  have i10 : b10 ∈ ([] : List Addr) ∨ h0.size ≤ b10 := (o10.elim (fun q => q ▸ i8) (fun q => Or.inr (Nat.le_trans K8.1 q)))
  have hS := hS.keep K10q
  have N10 := Fr.app N8 N10q
  obtain ⟨S4, hS4⟩ : ∃ z, z = S3 ++ dec m1 := ⟨_, rfl⟩
  rw [← hS4] at B10_a
  have hl4 : S4.length = ((S3 : List Int8).length + (dec m1).length) := by rw [hS4, List.length_append]
  generalize gcap cap3 ((S3 : List Int8).length + (dec m1).length) = cap4 at B10_a G4 J4
  generalize gcell cap3 ((S3 : List Int8).length + (dec m1).length) = gc4 at X10 G4 J4
  generalize gslot cap3 ((S3 : List Int8).length + (dec m1).length) = gs4 at X10 G4 J4
  rw [← hl4] at G4 J4
  show yEndsW p e below s0 T10 (mkF m 31 #[rv o] [(.ref b1)]) _ _ _
  refine yldcA X10 hx hby d38_31 hZ hown (w174 hw) Q65 ?_
  show yEndsW p e below s0 T10 (mkF m 33 #[rv o] [(.ref r65), (.ref b1)]) _ _ _
  have G5 := GR.step G4 (len' := ((S4 : List Int8).length + (t_11).length)) (by omega) (by omega) (by omega)
  have J5 := G5.le
  have S11_r65 := Sx.keep L_r65 K10 nin0 nin0
  refine ycallv X10 hx hby d38_33 hZ hown (w78 hw) (w79 hw) (notFace_of_selects (args := #[]) (mvT hZ (w81 hw))) (w81 hw) (w80 hw) (w82 hw) (w61 hw) e10 (Sb.exa B10_a) (c_appstr l hw  C O10 b1 b10 (S4) cap4 B10_a (by omega) g1 g10_b r65 x65 t_11 S11_r65 (by decide +kernel) (Nat.ne_of_lt (Nat.lt_of_lt_of_le L_r65.ltr z1)) (Nat.ne_of_lt (Nat.lt_of_lt_of_le L_r65.ltr (hn0 ▸ g10_b))) (Nat.ne_of_lt (Nat.lt_of_lt_of_le L_r65.ltx z1)) (Nat.ne_of_lt (Nat.lt_of_lt_of_le L_r65.ltx (hn0 ▸ g10_b)))) hml 0 pd_25 (argsL := [(.ref r65)]) (st := []) fun T12 h12 v12 L12 e12 X12 q12 => ?_
  obtain ⟨rfl, N12q, K12q, b12, B12_a, g12_b, o12⟩ := q12
  have O12 := O10.keep K12q (allS g1 (allS g10_b all0))
  have K12 := Keep.trans K10 K12q (allS (Or.inr z1) (allS i10 all0))
  have i12 : b12 ∈ ([] : List Addr) ∨ h0.size ≤ b12 := (o12.elim (fun q => q ▸ i10) (fun q => Or.inr (Nat.le_trans K10.1 q)))
  have hS := hS.keep K12q
  have N12 := Fr.app N10 N12q
  obtain ⟨S5, hS5⟩ : ∃ z, z = S4 ++ t_11 := ⟨_, rfl⟩
  rw [← hS5] at B12_a
  have hl5 : S5.length = ((S4 : List Int8).length + (t_11).length) := by rw [hS5, List.length_append]
  generalize gcap cap4 ((S4 : List Int8).length + (t_11).length) = cap5 at B12_a G5 J5
  generalize gcell cap4 ((S4 : List Int8).length + (t_11).length) = gc5 at X12 G5 J5
  generalize gslot cap4 ((S4 : List Int8).length + (t_11).length) = gs5 at X12 G5 J5
  rw [← hl5] at G5 J5
  show yEndsW p e below s0 T12 (mkF m 36 #[rv o] [(.ref b1)]) _ _ _
  refine yaloadN X12 hx hby d38_36 rfl rfl (ygetfld X12 hx hby d38_37 hZ hown (host := "") (Or.inl (w40 hw)) Via.refl e12 (F_o_queued.keep K12 nin0) fun T13 X13 e13 => ?_)
  show yEndsW p e below s0 T13 (mkF m 40 #[rv o] [(.int (Int32.ofNat (m2))), (.ref b1)]) _ _ _
  have G6 := GR.step G5 (len' := ((S5 : List Int8).length + (dec m2).length)) (by omega) (by omega) (by omega)
  have J6 := G6.le
  refine ycallv X13 hx hby d38_40 hZ hown (w151 hw) (w152 hw) (notFace_of_selects (args := #[]) (mvT hZ (w154 hw))) (w154 hw) (w153 hw) (w155 hw) (w61 hw) e13 (Sb.exa B12_a) (c_appI l hw  C O12 b1 b12 (S5) cap5 B12_a (by omega) g1 g12_b m2 (by omega)) hml 0 pd_26 (argsL := [(.int (Int32.ofNat (m2)))]) (st := []) fun T14 h14 v14 L14 e14 X14 q14 => ?_
  obtain ⟨rfl, N14q, K14q, b14, B14_a, g14_b, o14⟩ := q14
  have O14 := O12.keep K14q (allS g1 (allS g12_b all0))
  have K14 := Keep.trans K12 K14q (allS (Or.inr z1) (allS i12 all0))
  have i14 : b14 ∈ ([] : List Addr) ∨ h0.size ≤ b14 := (o14.elim (fun q => q ▸ i12) (fun q => Or.inr (Nat.le_trans K12.1 q)))
  have hS := hS.keep K14q
  have N14 := Fr.app N12 N14q
  obtain ⟨S6, hS6⟩ : ∃ z, z = S5 ++ dec m2 := ⟨_, rfl⟩
  rw [← hS6] at B14_a
  have hl6 : S6.length = ((S5 : List Int8).length + (dec m2).length) := by rw [hS6, List.length_append]
  generalize gcap cap5 ((S5 : List Int8).length + (dec m2).length) = cap6 at B14_a G6 J6
  generalize gcell cap5 ((S5 : List Int8).length + (dec m2).length) = gc6 at X14 G6 J6
  generalize gslot cap5 ((S5 : List Int8).length + (dec m2).length) = gs6 at X14 G6 J6
  rw [← hl6] at G6 J6
  show yEndsW p e below s0 T14 (mkF m 43 #[rv o] [(.ref b1)]) _ _ _
  refine yldcA X14 hx hby d38_43 hZ hown (w175 hw) Q67 ?_
  show yEndsW p e below s0 T14 (mkF m 45 #[rv o] [(.ref r67), (.ref b1)]) _ _ _
  have G7 := GR.step G6 (len' := ((S6 : List Int8).length + (t_12).length)) (by omega) (by omega) (by omega)
  have J7 := G7.le
  have S15_r67 := Sx.keep L_r67 K14 nin0 nin0
  refine ycallv X14 hx hby d38_45 hZ hown (w78 hw) (w79 hw) (notFace_of_selects (args := #[]) (mvT hZ (w81 hw))) (w81 hw) (w80 hw) (w82 hw) (w61 hw) e14 (Sb.exa B14_a) (c_appstr l hw  C O14 b1 b14 (S6) cap6 B14_a (by omega) g1 g14_b r67 x67 t_12 S15_r67 (by decide +kernel) (Nat.ne_of_lt (Nat.lt_of_lt_of_le L_r67.ltr z1)) (Nat.ne_of_lt (Nat.lt_of_lt_of_le L_r67.ltr (hn0 ▸ g14_b))) (Nat.ne_of_lt (Nat.lt_of_lt_of_le L_r67.ltx z1)) (Nat.ne_of_lt (Nat.lt_of_lt_of_le L_r67.ltx (hn0 ▸ g14_b)))) hml 0 pd_25 (argsL := [(.ref r67)]) (st := []) fun T16 h16 v16 L16 e16 X16 q16 => ?_
  obtain ⟨rfl, N16q, K16q, b16, B16_a, g16_b, o16⟩ := q16
  have O16 := O14.keep K16q (allS g1 (allS g14_b all0))
  have K16 := Keep.trans K14 K16q (allS (Or.inr z1) (allS i14 all0))
  have i16 : b16 ∈ ([] : List Addr) ∨ h0.size ≤ b16 := (o16.elim (fun q => q ▸ i14) (fun q => Or.inr (Nat.le_trans K14.1 q)))
  have hS := hS.keep K16q
  have N16 := Fr.app N14 N16q
  obtain ⟨S7, hS7⟩ : ∃ z, z = S6 ++ t_12 := ⟨_, rfl⟩
  rw [← hS7] at B16_a
  have hl7 : S7.length = ((S6 : List Int8).length + (t_12).length) := by rw [hS7, List.length_append]
  generalize gcap cap6 ((S6 : List Int8).length + (t_12).length) = cap7 at B16_a G7 J7
  generalize gcell cap6 ((S6 : List Int8).length + (t_12).length) = gc7 at X16 G7 J7
  generalize gslot cap6 ((S6 : List Int8).length + (t_12).length) = gs7 at X16 G7 J7
  rw [← hl7] at G7 J7
  show yEndsW p e below s0 T16 (mkF m 48 #[rv o] [(.ref b1)]) _ _ _
  refine yaloadN X16 hx hby d38_48 rfl rfl (ygetfld X16 hx hby d38_49 hZ hown (host := "") (Or.inl (w42 hw)) Via.refl e16 (F_o_submitted.keep K16 nin0) fun T17 X17 e17 => ?_)
  show yEndsW p e below s0 T17 (mkF m 52 #[rv o] [(.long (Int64.ofNat (m3))), (.ref b1)]) _ _ _
  have G8 := GR.step G7 (len' := ((S7 : List Int8).length + (dec m3).length)) (by omega) (by omega) (by omega)
  have J8 := G8.le
  refine ycallv X17 hx hby d38_52 hZ hown (w176 hw) (w177 hw) (notFace_of_selects (args := #[]) (mvT hZ (w179 hw))) (w179 hw) (w178 hw) (w180 hw) (w61 hw) e17 (Sb.exa B16_a) (c_appJ l hw  C O16 b1 b16 (S7) cap7 B16_a (by omega) g1 g16_b m3 (by omega)) hml 0 pd_27 (argsL := [(.long (Int64.ofNat (m3)))]) (st := []) fun T18 h18 v18 L18 e18 X18 q18 => ?_
  obtain ⟨rfl, N18q, K18q, b18, B18_a, g18_b, o18⟩ := q18
  have O18 := O16.keep K18q (allS g1 (allS g16_b all0))
  have K18 := Keep.trans K16 K18q (allS (Or.inr z1) (allS i16 all0))
  have i18 : b18 ∈ ([] : List Addr) ∨ h0.size ≤ b18 := (o18.elim (fun q => q ▸ i16) (fun q => Or.inr (Nat.le_trans K16.1 q)))
  have hS := hS.keep K18q
  have N18 := Fr.app N16 N18q
  obtain ⟨S8, hS8⟩ : ∃ z, z = S7 ++ dec m3 := ⟨_, rfl⟩
  rw [← hS8] at B18_a
  have hl8 : S8.length = ((S7 : List Int8).length + (dec m3).length) := by rw [hS8, List.length_append]
  generalize gcap cap7 ((S7 : List Int8).length + (dec m3).length) = cap8 at B18_a G8 J8
  generalize gcell cap7 ((S7 : List Int8).length + (dec m3).length) = gc8 at X18 G8 J8
  generalize gslot cap7 ((S7 : List Int8).length + (dec m3).length) = gs8 at X18 G8 J8
  rw [← hl8] at G8 J8
  show yEndsW p e below s0 T18 (mkF m 55 #[rv o] [(.ref b1)]) _ _ _
  refine yldcA X18 hx hby d38_55 hZ hown (w195 hw) Q72 ?_
  show yEndsW p e below s0 T18 (mkF m 57 #[rv o] [(.ref r72), (.ref b1)]) _ _ _
  have G9 := GR.step G8 (len' := ((S8 : List Int8).length + (t_13).length)) (by omega) (by omega) (by omega)
  have J9 := G9.le
  have S19_r72 := Sx.keep L_r72 K18 nin0 nin0
  refine ycallv X18 hx hby d38_57 hZ hown (w78 hw) (w79 hw) (notFace_of_selects (args := #[]) (mvT hZ (w81 hw))) (w81 hw) (w80 hw) (w82 hw) (w61 hw) e18 (Sb.exa B18_a) (c_appstr l hw  C O18 b1 b18 (S8) cap8 B18_a (by omega) g1 g18_b r72 x72 t_13 S19_r72 (by decide +kernel) (Nat.ne_of_lt (Nat.lt_of_lt_of_le L_r72.ltr z1)) (Nat.ne_of_lt (Nat.lt_of_lt_of_le L_r72.ltr (hn0 ▸ g18_b))) (Nat.ne_of_lt (Nat.lt_of_lt_of_le L_r72.ltx z1)) (Nat.ne_of_lt (Nat.lt_of_lt_of_le L_r72.ltx (hn0 ▸ g18_b)))) hml 0 pd_25 (argsL := [(.ref r72)]) (st := []) fun T20 h20 v20 L20 e20 X20 q20 => ?_
  obtain ⟨rfl, N20q, K20q, b20, B20_a, g20_b, o20⟩ := q20
  have O20 := O18.keep K20q (allS g1 (allS g18_b all0))
  have K20 := Keep.trans K18 K20q (allS (Or.inr z1) (allS i18 all0))
  have i20 : b20 ∈ ([] : List Addr) ∨ h0.size ≤ b20 := (o20.elim (fun q => q ▸ i18) (fun q => Or.inr (Nat.le_trans K18.1 q)))
  have hS := hS.keep K20q
  have N20 := Fr.app N18 N20q
  obtain ⟨S9, hS9⟩ : ∃ z, z = S8 ++ t_13 := ⟨_, rfl⟩
  rw [← hS9] at B20_a
  have hl9 : S9.length = ((S8 : List Int8).length + (t_13).length) := by rw [hS9, List.length_append]
  generalize gcap cap8 ((S8 : List Int8).length + (t_13).length) = cap9 at B20_a G9 J9
  generalize gcell cap8 ((S8 : List Int8).length + (t_13).length) = gc9 at X20 G9 J9
  generalize gslot cap8 ((S8 : List Int8).length + (t_13).length) = gs9 at X20 G9 J9
  rw [← hl9] at G9 J9
  show yEndsW p e below s0 T20 (mkF m 60 #[rv o] [(.ref b1)]) _ _ _
  refine yaloadN X20 hx hby d38_60 rfl rfl (ygetfld X20 hx hby d38_61 hZ hown (host := "") (Or.inl (w44 hw)) Via.refl e20 (F_o_completed.keep K20 nin0) fun T21 X21 e21 => ?_)
  show yEndsW p e below s0 T21 (mkF m 64 #[rv o] [(.long (Int64.ofNat (m4))), (.ref b1)]) _ _ _
  have G10 := GR.step G9 (len' := ((S9 : List Int8).length + (dec m4).length)) (by omega) (by omega) (by omega)
  have J10 := G10.le
  refine ycallv X21 hx hby d38_64 hZ hown (w176 hw) (w177 hw) (notFace_of_selects (args := #[]) (mvT hZ (w179 hw))) (w179 hw) (w178 hw) (w180 hw) (w61 hw) e21 (Sb.exa B20_a) (c_appJ l hw  C O20 b1 b20 (S9) cap9 B20_a (by omega) g1 g20_b m4 (by omega)) hml 0 pd_27 (argsL := [(.long (Int64.ofNat (m4)))]) (st := []) fun T22 h22 v22 L22 e22 X22 q22 => ?_
  obtain ⟨rfl, N22q, K22q, b22, B22_a, g22_b, o22⟩ := q22
  have O22 := O20.keep K22q (allS g1 (allS g20_b all0))
  have K22 := Keep.trans K20 K22q (allS (Or.inr z1) (allS i20 all0))
  have i22 : b22 ∈ ([] : List Addr) ∨ h0.size ≤ b22 := (o22.elim (fun q => q ▸ i20) (fun q => Or.inr (Nat.le_trans K20.1 q)))
  have hS := hS.keep K22q
  have N22 := Fr.app N20 N22q
  obtain ⟨S10, hS10⟩ : ∃ z, z = S9 ++ dec m4 := ⟨_, rfl⟩
  rw [← hS10] at B22_a
  have hl10 : S10.length = ((S9 : List Int8).length + (dec m4).length) := by rw [hS10, List.length_append]
  generalize gcap cap9 ((S9 : List Int8).length + (dec m4).length) = cap10 at B22_a G10 J10
  generalize gcell cap9 ((S9 : List Int8).length + (dec m4).length) = gc10 at X22 G10 J10
  generalize gslot cap9 ((S9 : List Int8).length + (dec m4).length) = gs10 at X22 G10 J10
  rw [← hl10] at G10 J10
  show yEndsW p e below s0 T22 (mkF m 67 #[rv o] [(.ref b1)]) _ _ _
  refine yldcA X22 hx hby d38_67 hZ hown (w199 hw) Q74 ?_
  show yEndsW p e below s0 T22 (mkF m 69 #[rv o] [(.ref r74), (.ref b1)]) _ _ _
  have G11 := GR.step G10 (len' := ((S10 : List Int8).length + (t_14).length)) (by omega) (by omega) (by omega)
  have J11 := G11.le
  have S23_r74 := Sx.keep L_r74 K22 nin0 nin0
  refine ycallv X22 hx hby d38_69 hZ hown (w78 hw) (w79 hw) (notFace_of_selects (args := #[]) (mvT hZ (w81 hw))) (w81 hw) (w80 hw) (w82 hw) (w61 hw) e22 (Sb.exa B22_a) (c_appstr l hw  C O22 b1 b22 (S10) cap10 B22_a (by omega) g1 g22_b r74 x74 t_14 S23_r74 (by decide +kernel) (Nat.ne_of_lt (Nat.lt_of_lt_of_le L_r74.ltr z1)) (Nat.ne_of_lt (Nat.lt_of_lt_of_le L_r74.ltr (hn0 ▸ g22_b))) (Nat.ne_of_lt (Nat.lt_of_lt_of_le L_r74.ltx z1)) (Nat.ne_of_lt (Nat.lt_of_lt_of_le L_r74.ltx (hn0 ▸ g22_b)))) hml 0 pd_25 (argsL := [(.ref r74)]) (st := []) fun T24 h24 v24 L24 e24 X24 q24 => ?_
  obtain ⟨rfl, N24q, K24q, b24, B24_a, g24_b, o24⟩ := q24
  have O24 := O22.keep K24q (allS g1 (allS g22_b all0))
  have K24 := Keep.trans K22 K24q (allS (Or.inr z1) (allS i22 all0))
  have i24 : b24 ∈ ([] : List Addr) ∨ h0.size ≤ b24 := (o24.elim (fun q => q ▸ i22) (fun q => Or.inr (Nat.le_trans K22.1 q)))
  have hS := hS.keep K24q
  have N24 := Fr.app N22 N24q
  obtain ⟨S11, hS11⟩ : ∃ z, z = S10 ++ t_14 := ⟨_, rfl⟩
  rw [← hS11] at B24_a
  have hl11 : S11.length = ((S10 : List Int8).length + (t_14).length) := by rw [hS11, List.length_append]
  generalize gcap cap10 ((S10 : List Int8).length + (t_14).length) = cap11 at B24_a G11 J11
  generalize gcell cap10 ((S10 : List Int8).length + (t_14).length) = gc11 at X24 G11 J11
  generalize gslot cap10 ((S10 : List Int8).length + (t_14).length) = gs11 at X24 G11 J11
  rw [← hl11] at G11 J11
  show yEndsW p e below s0 T24 (mkF m 72 #[rv o] [(.ref b1)]) _ _ _
  refine yaloadN X24 hx hby d38_72 rfl rfl (ygetfld X24 hx hby d38_73 hZ hown (host := "") (Or.inl (w46 hw)) Via.refl e24 (F_o_failed.keep K24 nin0) fun T25 X25 e25 => ?_)
  show yEndsW p e below s0 T25 (mkF m 76 #[rv o] [(.long (Int64.ofNat (m5))), (.ref b1)]) _ _ _
  have G12 := GR.step G11 (len' := ((S11 : List Int8).length + (dec m5).length)) (by omega) (by omega) (by omega)
  have J12 := G12.le
  refine ycallv X25 hx hby d38_76 hZ hown (w176 hw) (w177 hw) (notFace_of_selects (args := #[]) (mvT hZ (w179 hw))) (w179 hw) (w178 hw) (w180 hw) (w61 hw) e25 (Sb.exa B24_a) (c_appJ l hw  C O24 b1 b24 (S11) cap11 B24_a (by omega) g1 g24_b m5 (by omega)) hml 0 pd_27 (argsL := [(.long (Int64.ofNat (m5)))]) (st := []) fun T26 h26 v26 L26 e26 X26 q26 => ?_
  obtain ⟨rfl, N26q, K26q, b26, B26_a, g26_b, o26⟩ := q26
  have O26 := O24.keep K26q (allS g1 (allS g24_b all0))
  have K26 := Keep.trans K24 K26q (allS (Or.inr z1) (allS i24 all0))
  have i26 : b26 ∈ ([] : List Addr) ∨ h0.size ≤ b26 := (o26.elim (fun q => q ▸ i24) (fun q => Or.inr (Nat.le_trans K24.1 q)))
  have hS := hS.keep K26q
  have N26 := Fr.app N24 N26q
  obtain ⟨S12, hS12⟩ : ∃ z, z = S11 ++ dec m5 := ⟨_, rfl⟩
  rw [← hS12] at B26_a
  have hl12 : S12.length = ((S11 : List Int8).length + (dec m5).length) := by rw [hS12, List.length_append]
  generalize gcap cap11 ((S11 : List Int8).length + (dec m5).length) = cap12 at B26_a G12 J12
  generalize gcell cap11 ((S11 : List Int8).length + (dec m5).length) = gc12 at X26 G12 J12
  generalize gslot cap11 ((S11 : List Int8).length + (dec m5).length) = gs12 at X26 G12 J12
  rw [← hl12] at G12 J12
  show yEndsW p e below s0 T26 (mkF m 79 #[rv o] [(.ref b1)]) _ _ _
  refine yldcA X26 hx hby d38_79 hZ hown (w200 hw) Q76 ?_
  show yEndsW p e below s0 T26 (mkF m 81 #[rv o] [(.ref r76), (.ref b1)]) _ _ _
  have G13 := GR.step G12 (len' := ((S12 : List Int8).length + (t_15).length)) (by omega) (by omega) (by omega)
  have J13 := G13.le
  have S27_r76 := Sx.keep L_r76 K26 nin0 nin0
  refine ycallv X26 hx hby d38_81 hZ hown (w78 hw) (w79 hw) (notFace_of_selects (args := #[]) (mvT hZ (w81 hw))) (w81 hw) (w80 hw) (w82 hw) (w61 hw) e26 (Sb.exa B26_a) (c_appstr l hw  C O26 b1 b26 (S12) cap12 B26_a (by omega) g1 g26_b r76 x76 t_15 S27_r76 (by decide +kernel) (Nat.ne_of_lt (Nat.lt_of_lt_of_le L_r76.ltr z1)) (Nat.ne_of_lt (Nat.lt_of_lt_of_le L_r76.ltr (hn0 ▸ g26_b))) (Nat.ne_of_lt (Nat.lt_of_lt_of_le L_r76.ltx z1)) (Nat.ne_of_lt (Nat.lt_of_lt_of_le L_r76.ltx (hn0 ▸ g26_b)))) hml 0 pd_25 (argsL := [(.ref r76)]) (st := []) fun T28 h28 v28 L28 e28 X28 q28 => ?_
  obtain ⟨rfl, N28q, K28q, b28, B28_a, g28_b, o28⟩ := q28
  have O28 := O26.keep K28q (allS g1 (allS g26_b all0))
  have K28 := Keep.trans K26 K28q (allS (Or.inr z1) (allS i26 all0))
  have i28 : b28 ∈ ([] : List Addr) ∨ h0.size ≤ b28 := (o28.elim (fun q => q ▸ i26) (fun q => Or.inr (Nat.le_trans K26.1 q)))
  have hS := hS.keep K28q
  have N28 := Fr.app N26 N28q
  obtain ⟨S13, hS13⟩ : ∃ z, z = S12 ++ t_15 := ⟨_, rfl⟩
  rw [← hS13] at B28_a
  have hl13 : S13.length = ((S12 : List Int8).length + (t_15).length) := by rw [hS13, List.length_append]
  generalize gcap cap12 ((S12 : List Int8).length + (t_15).length) = cap13 at B28_a G13 J13
  generalize gcell cap12 ((S12 : List Int8).length + (t_15).length) = gc13 at X28 G13 J13
  generalize gslot cap12 ((S12 : List Int8).length + (t_15).length) = gs13 at X28 G13 J13
  rw [← hl13] at G13 J13
  show yEndsW p e below s0 T28 (mkF m 84 #[rv o] [(.ref b1)]) _ _ _
  refine yaloadN X28 hx hby d38_84 rfl rfl (ygetfld X28 hx hby d38_85 hZ hown (host := "") (Or.inl (w48 hw)) Via.refl e28 (F_o_rejected.keep K28 nin0) fun T29 X29 e29 => ?_)
  show yEndsW p e below s0 T29 (mkF m 88 #[rv o] [(.long (Int64.ofNat (m6))), (.ref b1)]) _ _ _
  have G14 := GR.step G13 (len' := ((S13 : List Int8).length + (dec m6).length)) (by omega) (by omega) (by omega)
  have J14 := G14.le
  refine ycallv X29 hx hby d38_88 hZ hown (w176 hw) (w177 hw) (notFace_of_selects (args := #[]) (mvT hZ (w179 hw))) (w179 hw) (w178 hw) (w180 hw) (w61 hw) e29 (Sb.exa B28_a) (c_appJ l hw  C O28 b1 b28 (S13) cap13 B28_a (by omega) g1 g28_b m6 (by omega)) hml 0 pd_27 (argsL := [(.long (Int64.ofNat (m6)))]) (st := []) fun T30 h30 v30 L30 e30 X30 q30 => ?_
  obtain ⟨rfl, N30q, K30q, b30, B30_a, g30_b, o30⟩ := q30
  have O30 := O28.keep K30q (allS g1 (allS g28_b all0))
  have K30 := Keep.trans K28 K30q (allS (Or.inr z1) (allS i28 all0))
  have i30 : b30 ∈ ([] : List Addr) ∨ h0.size ≤ b30 := (o30.elim (fun q => q ▸ i28) (fun q => Or.inr (Nat.le_trans K28.1 q)))
  have hS := hS.keep K30q
  have N30 := Fr.app N28 N30q
  obtain ⟨S14, hS14⟩ : ∃ z, z = S13 ++ dec m6 := ⟨_, rfl⟩
  rw [← hS14] at B30_a
  have hl14 : S14.length = ((S13 : List Int8).length + (dec m6).length) := by rw [hS14, List.length_append]
  generalize gcap cap13 ((S13 : List Int8).length + (dec m6).length) = cap14 at B30_a G14 J14
  generalize gcell cap13 ((S13 : List Int8).length + (dec m6).length) = gc14 at X30 G14 J14
  generalize gslot cap13 ((S13 : List Int8).length + (dec m6).length) = gs14 at X30 G14 J14
  rw [← hl14] at G14 J14
  show yEndsW p e below s0 T30 (mkF m 91 #[rv o] [(.ref b1)]) _ _ _
  refine yldcA X30 hx hby d38_91 hZ hown (w201 hw) Q78 ?_
  show yEndsW p e below s0 T30 (mkF m 93 #[rv o] [(.ref r78), (.ref b1)]) _ _ _
  have G15 := GR.step G14 (len' := ((S14 : List Int8).length + (t_16).length)) (by omega) (by omega) (by omega)
  have J15 := G15.le
  have S31_r78 := Sx.keep L_r78 K30 nin0 nin0
  refine ycallv X30 hx hby d38_93 hZ hown (w78 hw) (w79 hw) (notFace_of_selects (args := #[]) (mvT hZ (w81 hw))) (w81 hw) (w80 hw) (w82 hw) (w61 hw) e30 (Sb.exa B30_a) (c_appstr l hw  C O30 b1 b30 (S14) cap14 B30_a (by omega) g1 g30_b r78 x78 t_16 S31_r78 (by decide +kernel) (Nat.ne_of_lt (Nat.lt_of_lt_of_le L_r78.ltr z1)) (Nat.ne_of_lt (Nat.lt_of_lt_of_le L_r78.ltr (hn0 ▸ g30_b))) (Nat.ne_of_lt (Nat.lt_of_lt_of_le L_r78.ltx z1)) (Nat.ne_of_lt (Nat.lt_of_lt_of_le L_r78.ltx (hn0 ▸ g30_b)))) hml 0 pd_25 (argsL := [(.ref r78)]) (st := []) fun T32 h32 v32 L32 e32 X32 q32 => ?_
  obtain ⟨rfl, N32q, K32q, b32, B32_a, g32_b, o32⟩ := q32
  have O32 := O30.keep K32q (allS g1 (allS g30_b all0))
  have K32 := Keep.trans K30 K32q (allS (Or.inr z1) (allS i30 all0))
  have i32 : b32 ∈ ([] : List Addr) ∨ h0.size ≤ b32 := (o32.elim (fun q => q ▸ i30) (fun q => Or.inr (Nat.le_trans K30.1 q)))
  have hS := hS.keep K32q
  have N32 := Fr.app N30 N32q
  obtain ⟨S15, hS15⟩ : ∃ z, z = S14 ++ t_16 := ⟨_, rfl⟩
  rw [← hS15] at B32_a
  have hl15 : S15.length = ((S14 : List Int8).length + (t_16).length) := by rw [hS15, List.length_append]
  generalize gcap cap14 ((S14 : List Int8).length + (t_16).length) = cap15 at B32_a G15 J15
  generalize gcell cap14 ((S14 : List Int8).length + (t_16).length) = gc15 at X32 G15 J15
  generalize gslot cap14 ((S14 : List Int8).length + (t_16).length) = gs15 at X32 G15 J15
  rw [← hl15] at G15 J15
  show yEndsW p e below s0 T32 (mkF m 96 #[rv o] [(.ref b1)]) _ _ _
  refine yaloadN X32 hx hby d38_96 rfl rfl (ygetfld X32 hx hby d38_97 hZ hown (host := "") (Or.inl (w50 hw)) Via.refl e32 (F_o_discarded.keep K32 nin0) fun T33 X33 e33 => ?_)
  show yEndsW p e below s0 T33 (mkF m 100 #[rv o] [(.long (Int64.ofNat (m7))), (.ref b1)]) _ _ _
  have G16 := GR.step G15 (len' := ((S15 : List Int8).length + (dec m7).length)) (by omega) (by omega) (by omega)
  have J16 := G16.le
  refine ycallv X33 hx hby d38_100 hZ hown (w176 hw) (w177 hw) (notFace_of_selects (args := #[]) (mvT hZ (w179 hw))) (w179 hw) (w178 hw) (w180 hw) (w61 hw) e33 (Sb.exa B32_a) (c_appJ l hw  C O32 b1 b32 (S15) cap15 B32_a (by omega) g1 g32_b m7 (by omega)) hml 0 pd_27 (argsL := [(.long (Int64.ofNat (m7)))]) (st := []) fun T34 h34 v34 L34 e34 X34 q34 => ?_
  obtain ⟨rfl, N34q, K34q, b34, B34_a, g34_b, o34⟩ := q34
  have O34 := O32.keep K34q (allS g1 (allS g32_b all0))
  have K34 := Keep.trans K32 K34q (allS (Or.inr z1) (allS i32 all0))
  have i34 : b34 ∈ ([] : List Addr) ∨ h0.size ≤ b34 := (o34.elim (fun q => q ▸ i32) (fun q => Or.inr (Nat.le_trans K32.1 q)))
  have hS := hS.keep K34q
  have N34 := Fr.app N32 N34q
  obtain ⟨S16, hS16⟩ : ∃ z, z = S15 ++ dec m7 := ⟨_, rfl⟩
  rw [← hS16] at B34_a
  have hl16 : S16.length = ((S15 : List Int8).length + (dec m7).length) := by rw [hS16, List.length_append]
  generalize gcap cap15 ((S15 : List Int8).length + (dec m7).length) = cap16 at B34_a G16 J16
  generalize gcell cap15 ((S15 : List Int8).length + (dec m7).length) = gc16 at X34 G16 J16
  generalize gslot cap15 ((S15 : List Int8).length + (dec m7).length) = gs16 at X34 G16 J16
  rw [← hl16] at G16 J16
  show yEndsW p e below s0 T34 (mkF m 103 #[rv o] [(.ref b1)]) _ _ _
  refine yldcA X34 hx hby d38_103 hZ hown (w202 hw) Q80 ?_
  show yEndsW p e below s0 T34 (mkF m 105 #[rv o] [(.ref r80), (.ref b1)]) _ _ _
  have G17 := GR.step G16 (len' := ((S16 : List Int8).length + (t_17).length)) (by omega) (by omega) (by omega)
  have J17 := G17.le
  have S35_r80 := Sx.keep L_r80 K34 nin0 nin0
  refine ycallv X34 hx hby d38_105 hZ hown (w78 hw) (w79 hw) (notFace_of_selects (args := #[]) (mvT hZ (w81 hw))) (w81 hw) (w80 hw) (w82 hw) (w61 hw) e34 (Sb.exa B34_a) (c_appstr l hw  C O34 b1 b34 (S16) cap16 B34_a (by omega) g1 g34_b r80 x80 t_17 S35_r80 (by decide +kernel) (Nat.ne_of_lt (Nat.lt_of_lt_of_le L_r80.ltr z1)) (Nat.ne_of_lt (Nat.lt_of_lt_of_le L_r80.ltr (hn0 ▸ g34_b))) (Nat.ne_of_lt (Nat.lt_of_lt_of_le L_r80.ltx z1)) (Nat.ne_of_lt (Nat.lt_of_lt_of_le L_r80.ltx (hn0 ▸ g34_b)))) hml 0 pd_25 (argsL := [(.ref r80)]) (st := []) fun T36 h36 v36 L36 e36 X36 q36 => ?_
  obtain ⟨rfl, N36q, K36q, b36, B36_a, g36_b, o36⟩ := q36
  have O36 := O34.keep K36q (allS g1 (allS g34_b all0))
  have K36 := Keep.trans K34 K36q (allS (Or.inr z1) (allS i34 all0))
  have i36 : b36 ∈ ([] : List Addr) ∨ h0.size ≤ b36 := (o36.elim (fun q => q ▸ i34) (fun q => Or.inr (Nat.le_trans K34.1 q)))
  have hS := hS.keep K36q
  have N36 := Fr.app N34 N36q
  obtain ⟨S17, hS17⟩ : ∃ z, z = S16 ++ t_17 := ⟨_, rfl⟩
  rw [← hS17] at B36_a
  have hl17 : S17.length = ((S16 : List Int8).length + (t_17).length) := by rw [hS17, List.length_append]
  generalize gcap cap16 ((S16 : List Int8).length + (t_17).length) = cap17 at B36_a G17 J17
  generalize gcell cap16 ((S16 : List Int8).length + (t_17).length) = gc17 at X36 G17 J17
  generalize gslot cap16 ((S16 : List Int8).length + (t_17).length) = gs17 at X36 G17 J17
  rw [← hl17] at G17 J17
  show yEndsW p e below s0 T36 (mkF m 108 #[rv o] [(.ref b1)]) _ _ _
  refine yaloadN X36 hx hby d38_108 rfl rfl (ygetfld X36 hx hby d38_109 hZ hown (host := "") (Or.inl (w52 hw)) Via.refl e36 (F_o_callerRan.keep K36 nin0) fun T37 X37 e37 => ?_)
  show yEndsW p e below s0 T37 (mkF m 112 #[rv o] [(.long (Int64.ofNat (m8))), (.ref b1)]) _ _ _
  have G18 := GR.step G17 (len' := ((S17 : List Int8).length + (dec m8).length)) (by omega) (by omega) (by omega)
  have J18 := G18.le
  refine ycallv X37 hx hby d38_112 hZ hown (w176 hw) (w177 hw) (notFace_of_selects (args := #[]) (mvT hZ (w179 hw))) (w179 hw) (w178 hw) (w180 hw) (w61 hw) e37 (Sb.exa B36_a) (c_appJ l hw  C O36 b1 b36 (S17) cap17 B36_a (by omega) g1 g36_b m8 (by omega)) hml 0 pd_27 (argsL := [(.long (Int64.ofNat (m8)))]) (st := []) fun T38 h38 v38 L38 e38 X38 q38 => ?_
  obtain ⟨rfl, N38q, K38q, b38, B38_a, g38_b, o38⟩ := q38
  have O38 := O36.keep K38q (allS g1 (allS g36_b all0))
  have K38 := Keep.trans K36 K38q (allS (Or.inr z1) (allS i36 all0))
  have i38 : b38 ∈ ([] : List Addr) ∨ h0.size ≤ b38 := (o38.elim (fun q => q ▸ i36) (fun q => Or.inr (Nat.le_trans K36.1 q)))
  have hS := hS.keep K38q
  have N38 := Fr.app N36 N38q
  obtain ⟨S18, hS18⟩ : ∃ z, z = S17 ++ dec m8 := ⟨_, rfl⟩
  rw [← hS18] at B38_a
  have hl18 : S18.length = ((S17 : List Int8).length + (dec m8).length) := by rw [hS18, List.length_append]
  generalize gcap cap17 ((S17 : List Int8).length + (dec m8).length) = cap18 at B38_a G18 J18
  generalize gcell cap17 ((S17 : List Int8).length + (dec m8).length) = gc18 at X38 G18 J18
  generalize gslot cap17 ((S17 : List Int8).length + (dec m8).length) = gs18 at X38 G18 J18
  rw [← hl18] at G18 J18
  show yEndsW p e below s0 T38 (mkF m 115 #[rv o] [(.ref b1)]) _ _ _
  refine yldcA X38 hx hby d38_115 hZ hown (w203 hw) Q82 ?_
  show yEndsW p e below s0 T38 (mkF m 117 #[rv o] [(.ref r82), (.ref b1)]) _ _ _
  have G19 := GR.step G18 (len' := ((S18 : List Int8).length + (t_18).length)) (by omega) (by omega) (by omega)
  have J19 := G19.le
  have S39_r82 := Sx.keep L_r82 K38 nin0 nin0
  refine ycallv X38 hx hby d38_117 hZ hown (w78 hw) (w79 hw) (notFace_of_selects (args := #[]) (mvT hZ (w81 hw))) (w81 hw) (w80 hw) (w82 hw) (w61 hw) e38 (Sb.exa B38_a) (c_appstr l hw  C O38 b1 b38 (S18) cap18 B38_a (by omega) g1 g38_b r82 x82 t_18 S39_r82 (by decide +kernel) (Nat.ne_of_lt (Nat.lt_of_lt_of_le L_r82.ltr z1)) (Nat.ne_of_lt (Nat.lt_of_lt_of_le L_r82.ltr (hn0 ▸ g38_b))) (Nat.ne_of_lt (Nat.lt_of_lt_of_le L_r82.ltx z1)) (Nat.ne_of_lt (Nat.lt_of_lt_of_le L_r82.ltx (hn0 ▸ g38_b)))) hml 0 pd_25 (argsL := [(.ref r82)]) (st := []) fun T40 h40 v40 L40 e40 X40 q40 => ?_
  obtain ⟨rfl, N40q, K40q, b40, B40_a, g40_b, o40⟩ := q40
  have O40 := O38.keep K40q (allS g1 (allS g38_b all0))
  have K40 := Keep.trans K38 K40q (allS (Or.inr z1) (allS i38 all0))
  have i40 : b40 ∈ ([] : List Addr) ∨ h0.size ≤ b40 := (o40.elim (fun q => q ▸ i38) (fun q => Or.inr (Nat.le_trans K38.1 q)))
  have hS := hS.keep K40q
  have N40 := Fr.app N38 N40q
  obtain ⟨S19, hS19⟩ : ∃ z, z = S18 ++ t_18 := ⟨_, rfl⟩
  rw [← hS19] at B40_a
  have hl19 : S19.length = ((S18 : List Int8).length + (t_18).length) := by rw [hS19, List.length_append]
  generalize gcap cap18 ((S18 : List Int8).length + (t_18).length) = cap19 at B40_a G19 J19
  generalize gcell cap18 ((S18 : List Int8).length + (t_18).length) = gc19 at X40 G19 J19
  generalize gslot cap18 ((S18 : List Int8).length + (t_18).length) = gs19 at X40 G19 J19
  rw [← hl19] at G19 J19
  show yEndsW p e below s0 T40 (mkF m 120 #[rv o] [(.ref b1)]) _ _ _
  refine ycallv X40 hx hby d38_120 hZ hown (w204 hw) (w205 hw) (notFace_of_selects (args := #[]) (mvT hZ (w207 hw))) (w207 hw) (w206 hw) (w208 hw) (w61 hw) e40 (Sb.exa B40_a) (c_tos l hw  C O40 b1 b40 S19 cap19 B40_a (by omega)) hml 0 pd_28 (argsL := []) (st := []) fun T41 h41 v41 L41 e41 X41 q41 => ?_
  obtain ⟨t, x, rfl, N41q, K41q, B41_t, gt41, gx41, yt41, yx41⟩ := q41
  have hS := hS.keep K41q
  have N41 := Fr.app N40 N41q
  have K41 := Keep.trans K40 K41q all0
  show yEndsW p e below s0 T41 (mkF m 123 #[rv o] [(.ref t)]) _ _ _
  exact yretA X41 hx hby d38_123 hret hlk e41 hS rfl rfl rfl (by first | decide | omega | (dsimp only; omega)) (by first | decide | omega | (dsimp only; omega)) (fun v1 hv => by rw [e41]; exact ⟨t, x, rfl, N41, K41, by have q := B41_t; rw [hS19, hS18, hS17, hS16, hS15, hS14, hS13, hS12, hS11, hS10, hS9, hS8, hS7, hS6, hS5, hS4, hS3, hS2, hS1] at q; exact q, hn0 ▸ gt41, hn0 ▸ gx41, ibw hI hv⟩)
theorem w8 (hw : HW a0 Z) : (Cond.classLink "com/example/kick/kick/value/PoolMetricsToStringPinLaw" 43 "com/example/kick/kick/value/PoolMetrics").before a0 Z = true := hwi hw 8 rfl
theorem w11 (hw : HW a0 Z) : (Cond.methodLink "com/example/kick/kick/value/PoolMetricsToStringPinLaw" 45 ⟨"com/example/kick/kick/value/PoolMetrics", "<init>", "(IIIJJJJJJ)V"⟩).before a0 Z = true := hwi hw 11 rfl
theorem w12 (hw : HW a0 Z) : (Cond.instanceMethod ⟨"com/example/kick/kick/value/PoolMetrics", "<init>", "(IIIJJJJJJ)V"⟩).before a0 Z = true := hwi hw 12 rfl
theorem w13 (hw : HW a0 Z) : (Cond.code ⟨"com/example/kick/kick/value/PoolMetrics", "<init>", "(IIIJJJJJJ)V"⟩ prog_12_method_1_code 16 (Option.none : Option Jvm.ClassFile.FieldType)).before a0 Z = true := hwi hw 13 rfl
theorem d39_0 : decode method_3_code 0 = .ok (.new 43, 3) := by decide +kernel
theorem d39_3 : decode method_3_code 3 = .ok (.dup, 1) := by decide +kernel
theorem d39_4 : decode method_3_code 4 = .ok (.aload_n 0, 1) := by decide +kernel
theorem d39_5 : decode method_3_code 5 = .ok (.iconst 0, 1) := by decide +kernel
theorem d39_6 : decode method_3_code 6 = .ok (.laload, 1) := by decide +kernel
theorem d39_7 : decode method_3_code 7 = .ok (.l2i, 1) := by decide +kernel
theorem d39_8 : decode method_3_code 8 = .ok (.aload_n 0, 1) := by decide +kernel
theorem d39_9 : decode method_3_code 9 = .ok (.iconst 1, 1) := by decide +kernel
theorem d39_10 : decode method_3_code 10 = .ok (.laload, 1) := by decide +kernel
theorem d39_11 : decode method_3_code 11 = .ok (.l2i, 1) := by decide +kernel
theorem d39_12 : decode method_3_code 12 = .ok (.aload_n 0, 1) := by decide +kernel
theorem d39_13 : decode method_3_code 13 = .ok (.iconst 2, 1) := by decide +kernel
theorem d39_14 : decode method_3_code 14 = .ok (.laload, 1) := by decide +kernel
theorem d39_15 : decode method_3_code 15 = .ok (.l2i, 1) := by decide +kernel
theorem d39_16 : decode method_3_code 16 = .ok (.aload_n 0, 1) := by decide +kernel
theorem d39_17 : decode method_3_code 17 = .ok (.iconst 3, 1) := by decide +kernel
theorem d39_18 : decode method_3_code 18 = .ok (.laload, 1) := by decide +kernel
theorem d39_19 : decode method_3_code 19 = .ok (.aload_n 0, 1) := by decide +kernel
theorem d39_20 : decode method_3_code 20 = .ok (.iconst 4, 1) := by decide +kernel
theorem d39_21 : decode method_3_code 21 = .ok (.laload, 1) := by decide +kernel
theorem d39_22 : decode method_3_code 22 = .ok (.aload_n 0, 1) := by decide +kernel
theorem d39_23 : decode method_3_code 23 = .ok (.iconst 5, 1) := by decide +kernel
theorem d39_24 : decode method_3_code 24 = .ok (.laload, 1) := by decide +kernel
theorem d39_25 : decode method_3_code 25 = .ok (.aload_n 0, 1) := by decide +kernel
theorem d39_26 : decode method_3_code 26 = .ok (.bipush 6, 2) := by decide +kernel
theorem d39_28 : decode method_3_code 28 = .ok (.laload, 1) := by decide +kernel
theorem d39_29 : decode method_3_code 29 = .ok (.aload_n 0, 1) := by decide +kernel
theorem d39_30 : decode method_3_code 30 = .ok (.bipush 7, 2) := by decide +kernel
theorem d39_32 : decode method_3_code 32 = .ok (.laload, 1) := by decide +kernel
theorem d39_33 : decode method_3_code 33 = .ok (.aload_n 0, 1) := by decide +kernel
theorem d39_34 : decode method_3_code 34 = .ok (.bipush 8, 2) := by decide +kernel
theorem d39_36 : decode method_3_code 36 = .ok (.laload, 1) := by decide +kernel
theorem d39_37 : decode method_3_code 37 = .ok (.invokespecial 45, 3) := by decide +kernel
theorem d39_40 : decode method_3_code 40 = .ok (.areturn, 1) := by decide +kernel
theorem pd_29 : parseMethodDescriptor "(IIIJJJJJJ)V" = some ⟨[.int, .int, .int, .long, .long, .long, .long, .long, .long], none⟩ := by decide +kernel
theorem m_cold (hw : HW a0 Z) (C : Ctx Z cs d1 d2 o1 o2) (O0 : zOd Z n0 h0) (hc : ∀ q ∈ consts_1, Jvm.Lit.constHeld Z q.1 q.2) (hcw : Jvm.Lit.compactW.before a0 Z = true) (m0 m1 m2 m3 m4 m5 m6 m7 m8 : Nat) (hm0 : m0 < 2147483648) (hm1 : m1 < 2147483648) (hm2 : m2 < 2147483648) (hm3 : m3 < 9223372036854775808) (hm4 : m4 < 9223372036854775808) (hm5 : m5 < 9223372036854775808) (hm6 : m6 < 9223372036854775808) (hm7 : m7 < 9223372036854775808) (hm8 : m8 < 9223372036854775808) (f : Addr) (A_f : zLst Z h0 f .long [(.long (Int64.ofNat (m0))), (.long (Int64.ofNat (m1))), (.long (Int64.ofNat (m2))), (.long (Int64.ofNat (m3))), (.long (Int64.ofNat (m4))), (.long (Int64.ofNat (m5))), (.long (Int64.ofNat (m6))), (.long (Int64.ofNat (m7))), (.long (Int64.ofNat (m8)))]) : yConW l Z (⟨"com/example/kick/kick/value/PoolMetricsToStringPinLaw", "make", "([J)Lcom/example/kick/kick/value/PoolMetrics;"⟩ : MethodName) method_3_code 1 (some (.object "com/example/kick/kick/value/PoolMetrics")) [] ({ frames := 2, cells := 19, slots := 321, locals := 42 } : Room) #[(.ref f)] (fun v => IB Z v []) h0 (fun v' v h L => ∃ o : Addr, v' = some (.ref o) ∧ Fr n0 L ∧ Keep h0 h [] ∧ h0.size ≤ o ∧ n0 ≤ o ∧ PMo Z h o m0 m1 m2 m3 m4 m5 m6 m7 m8 ∧ IB Z v ["callerRan", "discarded", "rejected", "failed", "completed", "submitted", "queued", "active", "threads"] ∧ ∃ r7 r15 r17 r19 r21 r23 r25 r27 r29 : Addr, Lit (Z.setVm v) "com/example/kick/kick/value/PoolMetrics" 7 r7 ∧ Lit (Z.setVm v) "com/example/kick/kick/value/PoolMetrics" 15 r15 ∧ Lit (Z.setVm v) "com/example/kick/kick/value/PoolMetrics" 17 r17 ∧ Lit (Z.setVm v) "com/example/kick/kick/value/PoolMetrics" 19 r19 ∧ Lit (Z.setVm v) "com/example/kick/kick/value/PoolMetrics" 21 r21 ∧ Lit (Z.setVm v) "com/example/kick/kick/value/PoolMetrics" 23 r23 ∧ Lit (Z.setVm v) "com/example/kick/kick/value/PoolMetrics" 25 r25 ∧ Lit (Z.setVm v) "com/example/kick/kick/value/PoolMetrics" 27 r27 ∧ Lit (Z.setVm v) "com/example/kick/kick/value/PoolMetrics" 29 r29) := by
  refine yenterW (plainFor_of_name pn_8) (L0 := #[rv f]) (fun m => by first | (simp [entryFrame, mkF, argsToLocals, Value.category]; done) | rfl) ?_
  intro p e s0 v0 m below meth c T0 hx hZ hby hml hown0 hnm hret hlk X0 e0 hS eh hP
  have hown : v0.findClass "com/example/kick/kick/value/PoolMetricsToStringPinLaw" = some m.cls := hown0
  have K0 := Keep.refl h0 []
  have N0 := Fr.nil n0
  have hI := hP
  show yEndsW p e below s0 T0 (mkF m 0 #[rv f] []) _ _ _
  refine ynewobj X0 hx hby d39_0 hZ hown (w8 hw) (w9 hw) (w10 hw) e0 (by first | decide | omega | (dsimp only; omega)) (by first | decide | omega | (dsimp only; omega)) fun T1 h1 b1 X1 e1 y1 Ex1 E1_b1 D1 => ?_
  have A1_f := A_f.ext Ex1
  have O1 := O0.ext Ex1
  have K1 := Keep.ext K0 Ex1
  have hS := hS.ext Ex1
  have g1 : n0 ≤ b1 := by rw [y1]; exact zodsz O0
  have z1 : h0.size ≤ b1 := by rw [y1]; exact K0.1
  have F1_b1_threads : Fld Z h1 b1 "com/example/kick/kick/value/PoolMetrics" "threads" "I" (.int 0) := D1 (Or.inr (w37 hw)) (ty := .int) (by decide)
  have F1_b1_active : Fld Z h1 b1 "com/example/kick/kick/value/PoolMetrics" "active" "I" (.int 0) := D1 (Or.inr (w39 hw)) (ty := .int) (by decide)
  have F1_b1_queued : Fld Z h1 b1 "com/example/kick/kick/value/PoolMetrics" "queued" "I" (.int 0) := D1 (Or.inr (w41 hw)) (ty := .int) (by decide)
  have F1_b1_submitted : Fld Z h1 b1 "com/example/kick/kick/value/PoolMetrics" "submitted" "J" (.long 0) := D1 (Or.inr (w43 hw)) (ty := .long) (by decide)
  have F1_b1_completed : Fld Z h1 b1 "com/example/kick/kick/value/PoolMetrics" "completed" "J" (.long 0) := D1 (Or.inr (w45 hw)) (ty := .long) (by decide)
  have F1_b1_failed : Fld Z h1 b1 "com/example/kick/kick/value/PoolMetrics" "failed" "J" (.long 0) := D1 (Or.inr (w47 hw)) (ty := .long) (by decide)
  have F1_b1_rejected : Fld Z h1 b1 "com/example/kick/kick/value/PoolMetrics" "rejected" "J" (.long 0) := D1 (Or.inr (w49 hw)) (ty := .long) (by decide)
  have F1_b1_discarded : Fld Z h1 b1 "com/example/kick/kick/value/PoolMetrics" "discarded" "J" (.long 0) := D1 (Or.inr (w51 hw)) (ty := .long) (by decide)
  have F1_b1_callerRan : Fld Z h1 b1 "com/example/kick/kick/value/PoolMetrics" "callerRan" "J" (.long 0) := D1 (Or.inr (w53 hw)) (ty := .long) (by decide)
  refine ydup X1 hx hby d39_3 rfl (yaloadN X1 hx hby d39_4 rfl rfl (yiconst X1 hx hby d39_5 (z := (0 : Int32)) rfl (ylaload X1 hx hby d39_6 hZ e1 A1_f (by decide) (v := (.long (Int64.ofNat (m0)))) rfl (yl2i X1 hx hby d39_7 (Int32.ofNat (m0)) (l2i_ofN (by omega)) (yaloadN X1 hx hby d39_8 rfl rfl (yiconst X1 hx hby d39_9 (z := (1 : Int32)) rfl (ylaload X1 hx hby d39_10 hZ e1 A1_f (by decide) (v := (.long (Int64.ofNat (m1)))) rfl (yl2i X1 hx hby d39_11 (Int32.ofNat (m1)) (l2i_ofN (by omega)) (yaloadN X1 hx hby d39_12 rfl rfl ?_)))))))))
  show yEndsW p e below s0 T1 (mkF m 13 #[rv f] [(.ref f), (.int (Int32.ofNat (m1))), (.int (Int32.ofNat (m0))), (.ref b1), (.ref b1)]) _ _ _
  refine yiconst X1 hx hby d39_13 (z := (2 : Int32)) rfl (ylaload X1 hx hby d39_14 hZ e1 A1_f (by decide) (v := (.long (Int64.ofNat (m2)))) rfl (yl2i X1 hx hby d39_15 (Int32.ofNat (m2)) (l2i_ofN (by omega)) (yaloadN X1 hx hby d39_16 rfl rfl (yiconst X1 hx hby d39_17 (z := (3 : Int32)) rfl (ylaload X1 hx hby d39_18 hZ e1 A1_f (by decide) (v := (.long (Int64.ofNat (m3)))) rfl (yaloadN X1 hx hby d39_19 rfl rfl (yiconst X1 hx hby d39_20 (z := (4 : Int32)) rfl (ylaload X1 hx hby d39_21 hZ e1 A1_f (by decide) (v := (.long (Int64.ofNat (m4)))) rfl (yaloadN X1 hx hby d39_22 rfl rfl ?_)))))))))
  show yEndsW p e below s0 T1 (mkF m 23 #[rv f] [(.ref f), (.long (Int64.ofNat (m4))), (.long (Int64.ofNat (m3))), (.int (Int32.ofNat (m2))), (.int (Int32.ofNat (m1))), (.int (Int32.ofNat (m0))), (.ref b1), (.ref b1)]) _ _ _
  refine yiconst X1 hx hby d39_23 (z := (5 : Int32)) rfl (ylaload X1 hx hby d39_24 hZ e1 A1_f (by decide) (v := (.long (Int64.ofNat (m5)))) rfl (yaloadN X1 hx hby d39_25 rfl rfl (ybipush X1 hx hby d39_26 (z := (6 : Int32)) rfl (ylaload X1 hx hby d39_28 hZ e1 A1_f (by decide) (v := (.long (Int64.ofNat (m6)))) rfl (yaloadN X1 hx hby d39_29 rfl rfl (ybipush X1 hx hby d39_30 (z := (7 : Int32)) rfl (ylaload X1 hx hby d39_32 hZ e1 A1_f (by decide) (v := (.long (Int64.ofNat (m7)))) rfl (yaloadN X1 hx hby d39_33 rfl rfl (ybipush X1 hx hby d39_34 (z := (8 : Int32)) rfl ?_)))))))))
  show yEndsW p e below s0 T1 (mkF m 36 #[rv f] [(.int 8), (.ref f), (.long (Int64.ofNat (m7))), (.long (Int64.ofNat (m6))), (.long (Int64.ofNat (m5))), (.long (Int64.ofNat (m4))), (.long (Int64.ofNat (m3))), (.int (Int32.ofNat (m2))), (.int (Int32.ofNat (m1))), (.int (Int32.ofNat (m0))), (.ref b1), (.ref b1)]) _ _ _
  refine ylaload X1 hx hby d39_36 hZ e1 A1_f (by decide) (v := (.long (Int64.ofNat (m8)))) rfl (ycallspW X1 hx hby d39_37 hZ hown rfl (w11 hw) (w12 hw) (w13 hw) (w10 hw) e1 hS (fun v1 hv => ibw hI hv) (i_cold l hw C O1 hc hcw b1 E1_b1 F1_b1_threads F1_b1_active F1_b1_queued F1_b1_submitted F1_b1_completed F1_b1_failed F1_b1_rejected F1_b1_discarded F1_b1_callerRan g1 (m0) (m1) (m2) (m3) (m4) (m5) (m6) (m7) (m8) (by omega) (by omega) (by omega) (by omega) (by omega) (by omega) (by omega) (by omega) (by omega)) hml 1 pd_29 (argsL := [(.int (Int32.ofNat (m0))), (.int (Int32.ofNat (m1))), (.int (Int32.ofNat (m2))), (.long (Int64.ofNat (m3))), (.long (Int64.ofNat (m4))), (.long (Int64.ofNat (m5))), (.long (Int64.ofNat (m6))), (.long (Int64.ofNat (m7))), (.long (Int64.ofNat (m8)))]) (st := [(.ref b1)]) fun v2 T2 h2 u2 L2 e2 X2 hZ hown hS hW2 q2 => ?_)
  obtain ⟨rfl, N2q, K2q, P2_o, hI, r7, r15, r17, r19, r21, r23, r25, r27, r29, Q7, Q15, Q17, Q19, Q21, Q23, Q25, Q27, Q29⟩ := q2
  have K2 := Keep.trans K1 K2q (allS (Or.inr z1) all0)
  have N2 := Fr.app N0 N2q
  show yEndsW p e below s0 T2 (mkF m 40 #[rv f] [(.ref b1)]) _ _ _
  exact yretA X2 hx hby d39_40 hret hlk e2 hS rfl rfl rfl (by first | decide | omega | (dsimp only; omega)) (by first | decide | omega | (dsimp only; omega)) (fun v1 hv => by rw [e2]; exact ⟨b1, rfl, N2, K2, z1, g1, P2_o, ibw hI hv, r7, r15, r17, r19, r21, r23, r25, r27, r29, Q7.stays hv.wide, Q15.stays hv.wide, Q17.stays hv.wide, Q19.stays hv.wide, Q21.stays hv.wide, Q23.stays hv.wide, Q25.stays hv.wide, Q27.stays hv.wide, Q29.stays hv.wide⟩)
theorem m_warm (hw : HW a0 Z) (C : Ctx Z cs d1 d2 o1 o2) (O0 : zOd Z n0 h0) (m0 m1 m2 m3 m4 m5 m6 m7 m8 : Nat) (hm0 : m0 < 2147483648) (hm1 : m1 < 2147483648) (hm2 : m2 < 2147483648) (hm3 : m3 < 9223372036854775808) (hm4 : m4 < 9223372036854775808) (hm5 : m5 < 9223372036854775808) (hm6 : m6 < 9223372036854775808) (hm7 : m7 < 9223372036854775808) (hm8 : m8 < 9223372036854775808) (f : Addr) (A_f : zLst Z h0 f .long [(.long (Int64.ofNat (m0))), (.long (Int64.ofNat (m1))), (.long (Int64.ofNat (m2))), (.long (Int64.ofNat (m3))), (.long (Int64.ofNat (m4))), (.long (Int64.ofNat (m5))), (.long (Int64.ofNat (m6))), (.long (Int64.ofNat (m7))), (.long (Int64.ofNat (m8)))]) (Ts : List String) (r7 r15 r17 r19 r21 r23 r25 r27 r29 : Addr) : yConW l Z (⟨"com/example/kick/kick/value/PoolMetricsToStringPinLaw", "make", "([J)Lcom/example/kick/kick/value/PoolMetrics;"⟩ : MethodName) method_3_code 1 (some (.object "com/example/kick/kick/value/PoolMetrics")) [] ({ frames := 2, cells := 1, slots := 9, locals := 42 } : Room) #[(.ref f)] (fun v => IB Z v Ts ∧ Lit (Z.setVm v) "com/example/kick/kick/value/PoolMetrics" 7 r7 ∧ Lit (Z.setVm v) "com/example/kick/kick/value/PoolMetrics" 15 r15 ∧ Lit (Z.setVm v) "com/example/kick/kick/value/PoolMetrics" 17 r17 ∧ Lit (Z.setVm v) "com/example/kick/kick/value/PoolMetrics" 19 r19 ∧ Lit (Z.setVm v) "com/example/kick/kick/value/PoolMetrics" 21 r21 ∧ Lit (Z.setVm v) "com/example/kick/kick/value/PoolMetrics" 23 r23 ∧ Lit (Z.setVm v) "com/example/kick/kick/value/PoolMetrics" 25 r25 ∧ Lit (Z.setVm v) "com/example/kick/kick/value/PoolMetrics" 27 r27 ∧ Lit (Z.setVm v) "com/example/kick/kick/value/PoolMetrics" 29 r29) h0 (fun v' v h L => ∃ o : Addr, v' = some (.ref o) ∧ Fr n0 L ∧ Keep h0 h [] ∧ h0.size ≤ o ∧ n0 ≤ o ∧ PMo Z h o m0 m1 m2 m3 m4 m5 m6 m7 m8 ∧ IB Z v Ts) := by
  refine yenterW (plainFor_of_name pn_8) (L0 := #[rv f]) (fun m => by first | (simp [entryFrame, mkF, argsToLocals, Value.category]; done) | rfl) ?_
  intro p e s0 v0 m below meth c T0 hx hZ hby hml hown0 hnm hret hlk X0 e0 hS eh hP
  have hown : v0.findClass "com/example/kick/kick/value/PoolMetricsToStringPinLaw" = some m.cls := hown0
  have K0 := Keep.refl h0 []
  have N0 := Fr.nil n0
  obtain ⟨hI, Q7, Q15, Q17, Q19, Q21, Q23, Q25, Q27, Q29⟩ := hP
  show yEndsW p e below s0 T0 (mkF m 0 #[rv f] []) _ _ _
  refine ynewobj X0 hx hby d39_0 hZ hown (w8 hw) (w9 hw) (w10 hw) e0 (by first | decide | omega | (dsimp only; omega)) (by first | decide | omega | (dsimp only; omega)) fun T1 h1 b1 X1 e1 y1 Ex1 E1_b1 D1 => ?_
  have A1_f := A_f.ext Ex1
  have O1 := O0.ext Ex1
  have K1 := Keep.ext K0 Ex1
  have hS := hS.ext Ex1
  have g1 : n0 ≤ b1 := by rw [y1]; exact zodsz O0
  have z1 : h0.size ≤ b1 := by rw [y1]; exact K0.1
  have F1_b1_threads : Fld Z h1 b1 "com/example/kick/kick/value/PoolMetrics" "threads" "I" (.int 0) := D1 (Or.inr (w37 hw)) (ty := .int) (by decide)
  have F1_b1_active : Fld Z h1 b1 "com/example/kick/kick/value/PoolMetrics" "active" "I" (.int 0) := D1 (Or.inr (w39 hw)) (ty := .int) (by decide)
  have F1_b1_queued : Fld Z h1 b1 "com/example/kick/kick/value/PoolMetrics" "queued" "I" (.int 0) := D1 (Or.inr (w41 hw)) (ty := .int) (by decide)
  have F1_b1_submitted : Fld Z h1 b1 "com/example/kick/kick/value/PoolMetrics" "submitted" "J" (.long 0) := D1 (Or.inr (w43 hw)) (ty := .long) (by decide)
  have F1_b1_completed : Fld Z h1 b1 "com/example/kick/kick/value/PoolMetrics" "completed" "J" (.long 0) := D1 (Or.inr (w45 hw)) (ty := .long) (by decide)
  have F1_b1_failed : Fld Z h1 b1 "com/example/kick/kick/value/PoolMetrics" "failed" "J" (.long 0) := D1 (Or.inr (w47 hw)) (ty := .long) (by decide)
  have F1_b1_rejected : Fld Z h1 b1 "com/example/kick/kick/value/PoolMetrics" "rejected" "J" (.long 0) := D1 (Or.inr (w49 hw)) (ty := .long) (by decide)
  have F1_b1_discarded : Fld Z h1 b1 "com/example/kick/kick/value/PoolMetrics" "discarded" "J" (.long 0) := D1 (Or.inr (w51 hw)) (ty := .long) (by decide)
  have F1_b1_callerRan : Fld Z h1 b1 "com/example/kick/kick/value/PoolMetrics" "callerRan" "J" (.long 0) := D1 (Or.inr (w53 hw)) (ty := .long) (by decide)
  refine ydup X1 hx hby d39_3 rfl (yaloadN X1 hx hby d39_4 rfl rfl (yiconst X1 hx hby d39_5 (z := (0 : Int32)) rfl (ylaload X1 hx hby d39_6 hZ e1 A1_f (by decide) (v := (.long (Int64.ofNat (m0)))) rfl (yl2i X1 hx hby d39_7 (Int32.ofNat (m0)) (l2i_ofN (by omega)) (yaloadN X1 hx hby d39_8 rfl rfl (yiconst X1 hx hby d39_9 (z := (1 : Int32)) rfl (ylaload X1 hx hby d39_10 hZ e1 A1_f (by decide) (v := (.long (Int64.ofNat (m1)))) rfl (yl2i X1 hx hby d39_11 (Int32.ofNat (m1)) (l2i_ofN (by omega)) (yaloadN X1 hx hby d39_12 rfl rfl ?_)))))))))
  show yEndsW p e below s0 T1 (mkF m 13 #[rv f] [(.ref f), (.int (Int32.ofNat (m1))), (.int (Int32.ofNat (m0))), (.ref b1), (.ref b1)]) _ _ _
  refine yiconst X1 hx hby d39_13 (z := (2 : Int32)) rfl (ylaload X1 hx hby d39_14 hZ e1 A1_f (by decide) (v := (.long (Int64.ofNat (m2)))) rfl (yl2i X1 hx hby d39_15 (Int32.ofNat (m2)) (l2i_ofN (by omega)) (yaloadN X1 hx hby d39_16 rfl rfl (yiconst X1 hx hby d39_17 (z := (3 : Int32)) rfl (ylaload X1 hx hby d39_18 hZ e1 A1_f (by decide) (v := (.long (Int64.ofNat (m3)))) rfl (yaloadN X1 hx hby d39_19 rfl rfl (yiconst X1 hx hby d39_20 (z := (4 : Int32)) rfl (ylaload X1 hx hby d39_21 hZ e1 A1_f (by decide) (v := (.long (Int64.ofNat (m4)))) rfl (yaloadN X1 hx hby d39_22 rfl rfl ?_)))))))))
  show yEndsW p e below s0 T1 (mkF m 23 #[rv f] [(.ref f), (.long (Int64.ofNat (m4))), (.long (Int64.ofNat (m3))), (.int (Int32.ofNat (m2))), (.int (Int32.ofNat (m1))), (.int (Int32.ofNat (m0))), (.ref b1), (.ref b1)]) _ _ _
  refine yiconst X1 hx hby d39_23 (z := (5 : Int32)) rfl (ylaload X1 hx hby d39_24 hZ e1 A1_f (by decide) (v := (.long (Int64.ofNat (m5)))) rfl (yaloadN X1 hx hby d39_25 rfl rfl (ybipush X1 hx hby d39_26 (z := (6 : Int32)) rfl (ylaload X1 hx hby d39_28 hZ e1 A1_f (by decide) (v := (.long (Int64.ofNat (m6)))) rfl (yaloadN X1 hx hby d39_29 rfl rfl (ybipush X1 hx hby d39_30 (z := (7 : Int32)) rfl (ylaload X1 hx hby d39_32 hZ e1 A1_f (by decide) (v := (.long (Int64.ofNat (m7)))) rfl (yaloadN X1 hx hby d39_33 rfl rfl (ybipush X1 hx hby d39_34 (z := (8 : Int32)) rfl ?_)))))))))
  show yEndsW p e below s0 T1 (mkF m 36 #[rv f] [(.int 8), (.ref f), (.long (Int64.ofNat (m7))), (.long (Int64.ofNat (m6))), (.long (Int64.ofNat (m5))), (.long (Int64.ofNat (m4))), (.long (Int64.ofNat (m3))), (.int (Int32.ofNat (m2))), (.int (Int32.ofNat (m1))), (.int (Int32.ofNat (m0))), (.ref b1), (.ref b1)]) _ _ _
  refine ylaload X1 hx hby d39_36 hZ e1 A1_f (by decide) (v := (.long (Int64.ofNat (m8)))) rfl (ycallspW X1 hx hby d39_37 hZ hown rfl (w11 hw) (w12 hw) (w13 hw) (w10 hw) e1 hS (fun v1 hv => ⟨ibw hI hv, Q7.stays hv.wide, Q15.stays hv.wide, Q17.stays hv.wide, Q19.stays hv.wide, Q21.stays hv.wide, Q23.stays hv.wide, Q25.stays hv.wide, Q27.stays hv.wide, Q29.stays hv.wide⟩) (i_warm l hw C O1 b1 E1_b1 F1_b1_threads F1_b1_active F1_b1_queued F1_b1_submitted F1_b1_completed F1_b1_failed F1_b1_rejected F1_b1_discarded F1_b1_callerRan g1 (m0) (m1) (m2) (m3) (m4) (m5) (m6) (m7) (m8) (by omega) (by omega) (by omega) (by omega) (by omega) (by omega) (by omega) (by omega) (by omega) _ r7 r15 r17 r19 r21 r23 r25 r27 r29) hml 1 pd_29 (argsL := [(.int (Int32.ofNat (m0))), (.int (Int32.ofNat (m1))), (.int (Int32.ofNat (m2))), (.long (Int64.ofNat (m3))), (.long (Int64.ofNat (m4))), (.long (Int64.ofNat (m5))), (.long (Int64.ofNat (m6))), (.long (Int64.ofNat (m7))), (.long (Int64.ofNat (m8)))]) (st := [(.ref b1)]) fun v2 T2 h2 u2 L2 e2 X2 hZ hown hS hW2 q2 => ?_)
  obtain ⟨rfl, N2q, K2q, P2_o, hI⟩ := q2
  have K2 := Keep.trans K1 K2q (allS (Or.inr z1) all0)
  have N2 := Fr.app N0 N2q
  show yEndsW p e below s0 T2 (mkF m 40 #[rv f] [(.ref b1)]) _ _ _
  exact yretA X2 hx hby d39_40 hret hlk e2 hS rfl rfl rfl (by first | decide | omega | (dsimp only; omega)) (by first | decide | omega | (dsimp only; omega)) (fun v1 hv => by rw [e2]; exact ⟨b1, rfl, N2, K2, z1, g1, P2_o, ibw hI hv⟩)
/-! what the law's answer rests on -/
theorem cutL {c : Int8} : ∀ {l1 l2 r r' : List Int8}, c ∉ l1 → c ∉ l2 → l1 ++ c :: r = l2 ++ c :: r' → l1 = l2 ∧ r = r'
  | [], [], r, r', _, _, h => ⟨rfl, (List.cons.inj h).2⟩
  | [], b :: l2, r, r', _, h2, h => absurd (List.mem_cons.mpr (Or.inl (List.cons.inj h).1)) h2
  | a :: l1, [], r, r', h1, _, h => absurd (List.mem_cons.mpr (Or.inl (List.cons.inj h).1.symm)) h1
  | a :: l1, b :: l2, r, r', h1, h2, h => by
    obtain ⟨e1, e2⟩ := List.cons.inj h
    obtain ⟨q1, q2⟩ := cutL (fun q => h1 (List.mem_cons_of_mem _ q)) (fun q => h2 (List.mem_cons_of_mem _ q)) e2
    exact ⟨by rw [e1, q1], q2⟩
theorem dg_not : ∀ d : Fin 10, dg d.val ≠ 44 ∧ dg d.val ≠ 93 := by decide
theorem dec_not {c : Int8} (hc : c = 44 ∨ c = 93) : ∀ n, c ∉ dec n := by
  intro n
  induction n using Nat.strongRecOn with
  | ind n ih =>
    have key : ∀ d, d < 10 → c ≠ dg d := fun d hd => by
      have q := dg_not ⟨d, hd⟩
      rcases hc with rfl | rfl
      · exact fun e => q.1 e.symm
      · exact fun e => q.2 e.symm
    by_cases h : n < 10
    · rw [dec_lt h]; simpa using key n h
    · rw [dec_ge h, List.mem_append]
      rintro (q | q)
      · exact ih (n / 10) (by omega) q
      · exact key (n % 10) (by omega) (by simpa using q)
theorem cutD {c : Int8} (hc : c = 44 ∨ c = 93) {a b : Nat} {r r' : List Int8} (h : dec a ++ c :: r = dec b ++ c :: r') : a = b ∧ r = r' := by
  obtain ⟨q1, q2⟩ := cutL (dec_not hc a) (dec_not hc b) h
  exact ⟨dec_inj q1, q2⟩
theorem Sm_len (m0 m1 m2 m3 m4 m5 m6 m7 m8 : Nat) : (Sm m0 m1 m2 m3 m4 m5 m6 m7 m8).length = 107 + (dec m0).length + (dec m1).length + (dec m2).length + (dec m3).length + (dec m4).length + (dec m5).length + (dec m6).length + (dec m7).length + (dec m8).length := by
  unfold Sm
  rw [List.length_append, List.length_append, List.length_append, List.length_append, List.length_append, List.length_append, List.length_append, List.length_append, List.length_append, List.length_append, List.length_append, List.length_append, List.length_append, List.length_append, List.length_append, List.length_append, List.length_append, List.length_append, List.length_append, tl_9, tl_10, tl_11, tl_12, tl_13, tl_14, tl_15, tl_16, tl_17, tl_18, List.length_nil]
  omega
theorem Sm_inj {m0 m1 m2 m3 m4 m5 m6 m7 m8 g0 g1 g2 g3 g4 g5 g6 g7 g8 : Nat} (h : Sm m0 m1 m2 m3 m4 m5 m6 m7 m8 = Sm g0 g1 g2 g3 g4 g5 g6 g7 g8) : [m0, m1, m2, m3, m4, m5, m6, m7, m8] = [g0, g1, g2, g3, g4, g5, g6, g7, g8] := by
  unfold Sm at h
  simp only [List.nil_append, List.append_assoc] at h
  have h0 := List.append_cancel_left h
  obtain ⟨e0, h1⟩ := cutD (c := 44) (Or.inl rfl) (r := t_10.tail ++ _) (r' := t_10.tail ++ _) h0
  obtain ⟨e1, h2⟩ := cutD (c := 44) (Or.inl rfl) (r := t_11.tail ++ _) (r' := t_11.tail ++ _) (List.append_cancel_left h1)
  obtain ⟨e2, h3⟩ := cutD (c := 44) (Or.inl rfl) (r := t_12.tail ++ _) (r' := t_12.tail ++ _) (List.append_cancel_left h2)
  obtain ⟨e3, h4⟩ := cutD (c := 44) (Or.inl rfl) (r := t_13.tail ++ _) (r' := t_13.tail ++ _) (List.append_cancel_left h3)
  obtain ⟨e4, h5⟩ := cutD (c := 44) (Or.inl rfl) (r := t_14.tail ++ _) (r' := t_14.tail ++ _) (List.append_cancel_left h4)
  obtain ⟨e5, h6⟩ := cutD (c := 44) (Or.inl rfl) (r := t_15.tail ++ _) (r' := t_15.tail ++ _) (List.append_cancel_left h5)
  obtain ⟨e6, h7⟩ := cutD (c := 44) (Or.inl rfl) (r := t_16.tail ++ _) (r' := t_16.tail ++ _) (List.append_cancel_left h6)
  obtain ⟨e7, h8⟩ := cutD (c := 44) (Or.inl rfl) (r := t_17.tail ++ _) (r' := t_17.tail ++ _) (List.append_cancel_left h7)
  obtain ⟨e8, -⟩ := cutD (c := 93) (Or.inr rfl) (r := t_18.tail) (r' := t_18.tail) (List.append_cancel_left h8)
  rw [e0, e1, e2, e3, e4, e5, e6, e7, e8]
theorem Sm_iff {m0 m1 m2 m3 m4 m5 m6 m7 m8 g0 g1 g2 g3 g4 g5 g6 g7 g8 kk w fk : Nat} (hf : [m0, m1, m2, m3, m4, m5, m6, m7, m8][kk]? = some fk) (hg : [g0, g1, g2, g3, g4, g5, g6, g7, g8] = [m0, m1, m2, m3, m4, m5, m6, m7, m8].set kk w) : Sm m0 m1 m2 m3 m4 m5 m6 m7 m8 = Sm g0 g1 g2 g3 g4 g5 g6 g7 g8 ↔ w = fk := by
  constructor
  · intro h
    have e := Sm_inj h
    rw [hg] at e
    have q := congrArg (fun t => t[kk]?) e
    have hk := (List.getElem?_eq_some_iff.mp hf).1
    simp only [hf, List.getElem?_set_self hk] at q
    exact (Option.some.inj q).symm
  · intro h
    subst h
    have e : [m0, m1, m2, m3, m4, m5, m6, m7, m8].set kk w = [m0, m1, m2, m3, m4, m5, m6, m7, m8] := by
      apply List.ext_getElem?
      intro i
      rw [List.getElem?_set]
      split
      · rename_i q; subst q; rw [hf]; rw [if_pos (List.getElem?_eq_some_iff.mp hf).1]
      · rfl
    rw [e] at hg
    simp only [List.cons.injEq] at hg
    obtain ⟨rfl, rfl, rfl, rfl, rfl, rfl, rfl, rfl, rfl, -⟩ := hg
    rfl
theorem Sm_exact : Sm 1 2 3 4 5 6 7 8 9 = t_19 := by
  unfold Sm
  rw [dec_lt (show 1 < 10 by omega), dec_lt (show 2 < 10 by omega), dec_lt (show 3 < 10 by omega), dec_lt (show 4 < 10 by omega), dec_lt (show 5 < 10 by omega), dec_lt (show 6 < 10 by omega), dec_lt (show 7 < 10 by omega), dec_lt (show 8 < 10 by omega), dec_lt (show 9 < 10 by omega)]
  decide +kernel
theorem andI (x : Int32) : ∃ n, n < 2147483648 ∧ x &&& 2147483647 = Int32.ofNat n := by
  have q : ¬ (x &&& 2147483647) < 0 := by
    have h : (x &&& 2147483647).toBitVec.msb = false := by rw [Int32.toBitVec_and, BitVec.msb_and]; simp; intro _; decide
    rw [Int32.lt_iff_toInt_lt]
    show ¬ (x &&& 2147483647).toBitVec.toInt < 0
    rw [BitVec.toInt_eq_toNat_of_msb h]; omega
  exact ⟨(x &&& 2147483647).toNatClampNeg, (back32 q).2, ((back32 q).1).symm⟩
theorem andL (x : Int64) : ∃ n, n < 9223372036854775808 ∧ x &&& 9223372036854775807 = Int64.ofNat n := by
  have h : (x &&& 9223372036854775807).toBitVec.msb = false := by rw [Int64.toBitVec_and, BitVec.msb_and]; simp; intro _; decide
  have e : (x &&& 9223372036854775807).toInt = (x &&& 9223372036854775807).toBitVec.toNat := BitVec.toInt_eq_toNat_of_msb h
  have b := Int64.toInt_lt (x &&& 9223372036854775807)
  refine ⟨(x &&& 9223372036854775807).toBitVec.toNat, by omega, ?_⟩
  apply Int64.toInt_inj.mp
  rw [e, ofL_toInt (by omega)]

theorem zOd.up {Z : State} {n0 : Nat} {h : Heap} (O : zOd Z n0 h) : zOd Z h.size h := ⟨Nat.le_trans O.1 O.2.1, Nat.le_refl _, O.2.2⟩
theorem Fr.down {a b : Nat} {L : List Loc} (F : Fr b L) (q : a ≤ b) : Fr a L := fun y hy => Nat.le_trans q (F y hy)
theorem lcmp_0 (x y : Int64) : (lcmpW x y = (0 : Int32)) = (x = y) := by
  refine propext ⟨fun h => ?_, fun h => by subst h; unfold lcmpW; rw [if_neg (fun q => Int64.lt_irrefl q), if_pos rfl]⟩
  unfold lcmpW at h
  split at h
  · exact absurd h (by decide)
  · split at h
    · assumption
    · exact absurd h (by decide)
theorem ofL_eq {a b : Nat} (qa : a < 9223372036854775808) (qb : b < 9223372036854775808) : (Int64.ofNat a = Int64.ofNat b) = (a = b) := by
  refine propext ⟨fun q => ?_, fun q => by rw [q]⟩
  have := congrArg Int64.toInt q
  rw [ofL_toInt qa, ofL_toInt qb] at this; omega
theorem PMo.keep {Z : State} {h h' : Heap} {o m0 m1 m2 m3 m4 m5 m6 m7 m8 : Nat} {ws : List Addr} (F : PMo Z h o m0 m1 m2 m3 m4 m5 m6 m7 m8) (K : Keep h h' ws) (q : o ∉ ws) : PMo Z h' o m0 m1 m2 m3 m4 m5 m6 m7 m8 := by
  obtain ⟨q0, q1, q2, q3, q4, q5, q6, q7, q8, q9⟩ := F
  exact ⟨q0.keep K, q1.keep K q, q2.keep K q, q3.keep K q, q4.keep K q, q5.keep K q, q6.keep K q, q7.keep K q, q8.keep K q, q9.keep K q⟩
theorem PMo.ext {Z : State} {h h' : Heap} {o m0 m1 m2 m3 m4 m5 m6 m7 m8 : Nat} (F : PMo Z h o m0 m1 m2 m3 m4 m5 m6 m7 m8) (E : Ext h h') : PMo Z h' o m0 m1 m2 m3 m4 m5 m6 m7 m8 := by
  obtain ⟨q0, q1, q2, q3, q4, q5, q6, q7, q8, q9⟩ := F
  exact ⟨q0.ext E, q1.ext E, q2.ext E, q3.ext E, q4.ext E, q5.ext E, q6.ext E, q7.ext E, q8.ext E, q9.ext E⟩
theorem w4 (hw : HW a0 Z) : (Cond.methodLink "com/example/kick/kick/value/PoolMetricsToStringPinLaw" 57 ⟨"com/example/kick/kick/value/PoolMetricsToStringPinLaw", "make", "([J)Lcom/example/kick/kick/value/PoolMetrics;"⟩).before a0 Z = true := hwi hw 4 rfl
theorem w5 (hw : HW a0 Z) : (Cond.static ⟨"com/example/kick/kick/value/PoolMetricsToStringPinLaw", "make", "([J)Lcom/example/kick/kick/value/PoolMetrics;"⟩).before a0 Z = true := hwi hw 5 rfl
theorem w6 (hw : HW a0 Z) : (Cond.initialized "com/example/kick/kick/value/PoolMetricsToStringPinLaw").before a0 Z = true := hwi hw 6 rfl
theorem w7 (hw : HW a0 Z) : (Cond.code ⟨"com/example/kick/kick/value/PoolMetricsToStringPinLaw", "make", "([J)Lcom/example/kick/kick/value/PoolMetrics;"⟩ method_3_code 1 (Option.some (FieldType.object "com/example/kick/kick/value/PoolMetrics"))).before a0 Z = true := hwi hw 7 rfl
theorem w54 (hw : HW a0 Z) : (Cond.methodLink "com/example/kick/kick/value/PoolMetricsToStringPinLaw" 63 ⟨"com/example/kick/kick/value/PoolMetrics", "toString", "()Ljava/lang/String;"⟩).before a0 Z = true := hwi hw 54 rfl
theorem w55 (hw : HW a0 Z) : (Cond.declares ⟨"com/example/kick/kick/value/PoolMetrics", "toString", "()Ljava/lang/String;"⟩).before a0 Z = true := hwi hw 55 rfl
theorem w56 (hw : HW a0 Z) : (Cond.instanceMethod ⟨"com/example/kick/kick/value/PoolMetrics", "toString", "()Ljava/lang/String;"⟩).before a0 Z = true := hwi hw 56 rfl
theorem w57 (hw : HW a0 Z) : (Cond.selects "com/example/kick/kick/value/PoolMetrics" ⟨"com/example/kick/kick/value/PoolMetrics", "toString", "()Ljava/lang/String;"⟩ ⟨"com/example/kick/kick/value/PoolMetrics", "toString", "()Ljava/lang/String;"⟩).before a0 Z = true := hwi hw 57 rfl
theorem w58 (hw : HW a0 Z) : (Cond.code ⟨"com/example/kick/kick/value/PoolMetrics", "toString", "()Ljava/lang/String;"⟩ prog_12_method_11_code 1 (Option.some (FieldType.object "java/lang/String"))).before a0 Z = true := hwi hw 58 rfl
theorem w241 (hw : HW a0 Z) : (Cond.methodLink "com/example/kick/kick/value/PoolMetricsToStringPinLaw" 67 ⟨"com/example/kick/kick/value/PoolMetricsToStringPinLaw", "digits", "(J)I"⟩).before a0 Z = true := hwi hw 241 rfl
theorem w242 (hw : HW a0 Z) : (Cond.static ⟨"com/example/kick/kick/value/PoolMetricsToStringPinLaw", "digits", "(J)I"⟩).before a0 Z = true := hwi hw 242 rfl
theorem w243 (hw : HW a0 Z) : (Cond.code ⟨"com/example/kick/kick/value/PoolMetricsToStringPinLaw", "digits", "(J)I"⟩ method_2_code 2 (Option.some FieldType.int)).before a0 Z = true := hwi hw 243 rfl
theorem w262 (hw : HW a0 Z) : (Cond.methodLink "com/example/kick/kick/value/PoolMetricsToStringPinLaw" 71 ⟨"java/lang/String", "length", "()I"⟩).before a0 Z = true := hwi hw 262 rfl
theorem w263 (hw : HW a0 Z) : (Cond.methodLink "com/example/kick/kick/value/PoolMetricsToStringPinLaw" 77 ⟨"java/lang/String", "equals", "(Ljava/lang/Object;)Z"⟩).before a0 Z = true := hwi hw 263 rfl
theorem w264 (hw : HW a0 Z) : (Cond.declares ⟨"java/lang/String", "equals", "(Ljava/lang/Object;)Z"⟩).before a0 Z = true := hwi hw 264 rfl
theorem w265 (hw : HW a0 Z) : (Cond.instanceMethod ⟨"java/lang/String", "equals", "(Ljava/lang/Object;)Z"⟩).before a0 Z = true := hwi hw 265 rfl
theorem w266 (hw : HW a0 Z) : (Cond.selects "java/lang/String" ⟨"java/lang/String", "equals", "(Ljava/lang/Object;)Z"⟩ ⟨"java/lang/String", "equals", "(Ljava/lang/Object;)Z"⟩).before a0 Z = true := hwi hw 266 rfl
theorem w267 (hw : HW a0 Z) : (Cond.code ⟨"java/lang/String", "equals", "(Ljava/lang/Object;)Z"⟩ jdk_42_method_66_code 3 (Option.some FieldType.boolean)).before a0 Z = true := hwi hw 267 rfl
theorem w273 (hw : HW a0 Z) : (Cond.constantLong "com/example/kick/kick/value/PoolMetricsToStringPinLaw" 81 (4 : Int64)).before a0 Z = true := hwi hw 273 rfl
theorem w274 (hw : HW a0 Z) : (Cond.constantLong "com/example/kick/kick/value/PoolMetricsToStringPinLaw" 83 (5 : Int64)).before a0 Z = true := hwi hw 274 rfl
theorem w275 (hw : HW a0 Z) : (Cond.constantLong "com/example/kick/kick/value/PoolMetricsToStringPinLaw" 85 (6 : Int64)).before a0 Z = true := hwi hw 275 rfl
theorem w276 (hw : HW a0 Z) : (Cond.constantLong "com/example/kick/kick/value/PoolMetricsToStringPinLaw" 87 (7 : Int64)).before a0 Z = true := hwi hw 276 rfl
theorem w277 (hw : HW a0 Z) : (Cond.constantLong "com/example/kick/kick/value/PoolMetricsToStringPinLaw" 89 (8 : Int64)).before a0 Z = true := hwi hw 277 rfl
theorem w278 (hw : HW a0 Z) : (Cond.constantLong "com/example/kick/kick/value/PoolMetricsToStringPinLaw" 91 (9 : Int64)).before a0 Z = true := hwi hw 278 rfl
theorem w279 (hw : HW a0 Z) : (Cond.stringLink "com/example/kick/kick/value/PoolMetricsToStringPinLaw" 93 "PoolMetrics[threads=1, active=2, queued=3, submitted=4, completed=5, failed=6, rejected=7, discarded=8, callerRan=9]").before a0 Z = true := hwi hw 279 rfl
theorem pd_30 : parseMethodDescriptor "([J)Lcom/example/kick/kick/value/PoolMetrics;" = some ⟨[(.array .long)], some (.object "com/example/kick/kick/value/PoolMetrics")⟩ := by decide +kernel
theorem pd_31 : parseMethodDescriptor "(Ljava/lang/Object;)Z" = some ⟨[(.object "java/lang/Object")], some .boolean⟩ := by decide +kernel
theorem tail {p : Program} {l : Launch} {e : Env} {s0 : State} {v0 : Vm} {m : MethodId} {args : Array Value} {below : List Frame} {meth : Method} {c : Code} {T1 : State} {locs : List Loc} {Z : State} {a0 : Array Value} {h0 h1 : Heap} {n0 : Nat} {cs : Int32} {d1 d2 : Addr} {o1 o2 : List Int8} {p0 p1 sel : Int32} {q0 q1 q2 : Int64} {f g : Addr} (X1 : Stand p l e room_1 (s0.setVm v0) m args below meth c T1 locs 2 18) (hx : p.tables.exec = Jvm.exec) (hZ : Z.Warmed39 v0) (hw : HW a0 Z) (hby : c.code = code) (hml : c.maxLocals = 23) (hown : v0.findClass "com/example/kick/kick/value/PoolMetricsToStringPinLaw" = some m.cls) (hret : meth.sig.returnType = some .boolean) (hlk : meth.locks = false) (C : Ctx Z cs d1 d2 o1 o2) (e1 : T1.heap = h1) (O0 : zOd Z n0 h0) (O1 : zOd Z n0 h1) (K1 : Keep h0 h1 []) (N1 : Fr n0 locs) (hn0 : n0 = h0.size) (hS : ySin s0 v0 h1) (eh : s0.heap = h0) (hI : IB Z v0 []) (hc : ∀ q ∈ consts_1, Jvm.Lit.constHeld Z q.1 q.2) (hcw : Jvm.Lit.compactW.before a0 Z = true) (m0 m1 m2 m3 m4 m5 m6 m7 m8 : Nat) (hm0 : m0 < 2147483648) (hm1 : m1 < 2147483648) (hm2 : m2 < 2147483648) (hm3 : m3 < 9223372036854775808) (hm4 : m4 < 9223372036854775808) (hm5 : m5 < 9223372036854775808) (hm6 : m6 < 9223372036854775808) (hm7 : m7 < 9223372036854775808) (hm8 : m8 < 9223372036854775808) (g0 g1 g2 g3 g4 g5 g6 g7 g8 : Nat) (hg0 : g0 < 2147483648) (hg1 : g1 < 2147483648) (hg2 : g2 < 2147483648) (hg3 : g3 < 9223372036854775808) (hg4 : g4 < 9223372036854775808) (hg5 : g5 < 9223372036854775808) (hg6 : g6 < 9223372036854775808) (hg7 : g7 < 9223372036854775808) (hg8 : g8 < 9223372036854775808) (kk w fk : Nat) (hk : kk < 9) (hw_ : w < 9223372036854775808) (hfkb : fk < 9223372036854775808) (hfk : [m0, m1, m2, m3, m4, m5, m6, m7, m8][kk]? = some fk) (hgk : [g0, g1, g2, g3, g4, g5, g6, g7, g8] = [m0, m1, m2, m3, m4, m5, m6, m7, m8].set kk w) (A_f : zLst Z h1 f .long [(.long (Int64.ofNat (m0))), (.long (Int64.ofNat (m1))), (.long (Int64.ofNat (m2))), (.long (Int64.ofNat (m3))), (.long (Int64.ofNat (m4))), (.long (Int64.ofNat (m5))), (.long (Int64.ofNat (m6))), (.long (Int64.ofNat (m7))), (.long (Int64.ofNat (m8)))]) (A_g : zLst Z h1 g .long [(.long (Int64.ofNat (g0))), (.long (Int64.ofNat (g1))), (.long (Int64.ofNat (g2))), (.long (Int64.ofNat (g3))), (.long (Int64.ofNat (g4))), (.long (Int64.ofNat (g5))), (.long (Int64.ofNat (g6))), (.long (Int64.ofNat (g7))), (.long (Int64.ofNat (g8)))]) : yEndsW p e below s0 T1 (mkF m 251 #[iv p0, iv p1, .val (.long q0), .second, .val (.long q1), .second, .val (.long q2), .second, iv sel, rv f, iv (Int32.ofNat (kk)), .val (.long (Int64.ofNat (w))), .second, rv g, .unset, .unset, .unset, .unset, .unset, .unset, .unset, .unset, .unset] []) room_1.cells room_1.slots (fun v' v h L => v' = some (.int 1) ∧ Fr n0 L) := by
  have fkv : ([(.long (Int64.ofNat (m0))), (.long (Int64.ofNat (m1))), (.long (Int64.ofNat (m2))), (.long (Int64.ofNat (m3))), (.long (Int64.ofNat (m4))), (.long (Int64.ofNat (m5))), (.long (Int64.ofNat (m6))), (.long (Int64.ofNat (m7))), (.long (Int64.ofNat (m8)))] : List Value)[kk]? = some (.long (Int64.ofNat (fk))) := by
    have q := congrArg (Option.map fun n => Value.long (Int64.ofNat n)) hfk
    rw [← List.getElem?_map] at q
    exact q
  have d0_ := dec_len_le 18 m0 (by omega)
  have e0_ := dec_len_le 18 g0 (by omega)
  have d1_ := dec_len_le 18 m1 (by omega)
  have e1_ := dec_len_le 18 g1 (by omega)
  have d2_ := dec_len_le 18 m2 (by omega)
  have e2_ := dec_len_le 18 g2 (by omega)
  have d3_ := dec_len_le 18 m3 (by omega)
  have e3_ := dec_len_le 18 g3 (by omega)
  have d4_ := dec_len_le 18 m4 (by omega)
  have e4_ := dec_len_le 18 g4 (by omega)
  have d5_ := dec_len_le 18 m5 (by omega)
  have e5_ := dec_len_le 18 g5 (by omega)
  have d6_ := dec_len_le 18 m6 (by omega)
  have e6_ := dec_len_le 18 g6 (by omega)
  have d7_ := dec_len_le 18 m7 (by omega)
  have e7_ := dec_len_le 18 g7 (by omega)
  have d8_ := dec_len_le 18 m8 (by omega)
  have e8_ := dec_len_le 18 g8 (by omega)
  have sl := Sm_len m0 m1 m2 m3 m4 m5 m6 m7 m8
  have sg := Sm_len g0 g1 g2 g3 g4 g5 g6 g7 g8
  have se := congrArg List.length Sm_exact
  have te := tl_19
  refine yaload X1 hx hby at_251 rfl rfl (ycallsW X1 hx hby at_253 hZ hown (w4 hw) (w5 hw) (w6 hw) (w7 hw) e1 hS (fun v1 hv => ibw hI hv) (m_cold l hw C O1 hc hcw (m0) (m1) (m2) (m3) (m4) (m5) (m6) (m7) (m8) (by omega) (by omega) (by omega) (by omega) (by omega) (by omega) (by omega) (by omega) (by omega) f A_f) hml 0 pd_30 (argsL := [(.ref f)]) (st := []) fun v101 T101 h101 u101 L101 e101 X101 hZ hown hS hW101 q101 => ?_)
  obtain ⟨o101, rfl, N101q, K101q, y101, g101, P101_o, hI, r7, r15, r17, r19, r21, r23, r25, r27, r29, Q7, Q15, Q17, Q19, Q21, Q23, Q25, Q27, Q29⟩ := q101
  have A101_f := A_f.keep K101q nin0
  have A101_g := A_g.keep K101q nin0
  have O101 := O1.keep K101q all0
  have K101 := Keep.trans K1 K101q all0
  have N101 := Fr.app N1 N101q
  show yEndsW p e below s0 T101 (mkF m 256 #[iv p0, iv p1, .val (.long q0), .second, .val (.long q1), .second, .val (.long q2), .second, iv sel, rv f, iv (Int32.ofNat (kk)), .val (.long (Int64.ofNat (w))), .second, rv g, .unset, .unset, .unset, .unset, .unset, .unset, .unset, .unset, .unset] [(.ref o101)]) _ _ _
  refine yastore X101 hx hby at_256 (hv := rfl) (L' := #[iv p0, iv p1, .val (.long q0), .second, .val (.long q1), .second, .val (.long q2), .second, iv sel, rv f, iv (Int32.ofNat (kk)), .val (.long (Int64.ofNat (w))), .second, rv g, rv o101, .unset, .unset, .unset, .unset, .unset, .unset, .unset, .unset]) rfl (yaload X101 hx hby at_258 rfl rfl (ycallsW X101 hx hby at_260 hZ hown (w4 hw) (w5 hw) (w6 hw) (w7 hw) e101 hS (fun v1 hv => ⟨ibw hI hv, Q7.stays hv.wide, Q15.stays hv.wide, Q17.stays hv.wide, Q19.stays hv.wide, Q21.stays hv.wide, Q23.stays hv.wide, Q25.stays hv.wide, Q27.stays hv.wide, Q29.stays hv.wide⟩) (m_warm l hw C O101 (g0) (g1) (g2) (g3) (g4) (g5) (g6) (g7) (g8) (by omega) (by omega) (by omega) (by omega) (by omega) (by omega) (by omega) (by omega) (by omega) g A101_g _ r7 r15 r17 r19 r21 r23 r25 r27 r29) hml 0 pd_30 (argsL := [(.ref g)]) (st := []) fun v102 T102 h102 u102 L102 e102 X102 hZ hown hS hW102 q102 => ?_))
  have Q7 := Q7.stays hW102
  have Q15 := Q15.stays hW102
  have Q17 := Q17.stays hW102
  have Q19 := Q19.stays hW102
  have Q21 := Q21.stays hW102
  have Q23 := Q23.stays hW102
  have Q25 := Q25.stays hW102
  have Q27 := Q27.stays hW102
  have Q29 := Q29.stays hW102
  obtain ⟨o102, rfl, N102q, K102q, y102, g102, P102_o, hI⟩ := q102
  have A102_f := A101_f.keep K102q nin0
  have O102 := O101.keep K102q all0
  have K102 := Keep.trans K101 K102q all0
  have P102_o101 := P101_o.keep K102q nin0
  have N102 := Fr.app N101 N102q
  show yEndsW p e below s0 T102 (mkF m 263 #[iv p0, iv p1, .val (.long q0), .second, .val (.long q1), .second, .val (.long q2), .second, iv sel, rv f, iv (Int32.ofNat (kk)), .val (.long (Int64.ofNat (w))), .second, rv g, rv o101, .unset, .unset, .unset, .unset, .unset, .unset, .unset, .unset] [(.ref o102)]) _ _ _
  refine yastore X102 hx hby at_263 (hv := rfl) (L' := #[iv p0, iv p1, .val (.long q0), .second, .val (.long q1), .second, .val (.long q2), .second, iv sel, rv f, iv (Int32.ofNat (kk)), .val (.long (Int64.ofNat (w))), .second, rv g, rv o101, rv o102, .unset, .unset, .unset, .unset, .unset, .unset, .unset]) rfl (yaload X102 hx hby at_265 rfl rfl (ycallvW X102 hx hby at_267 hZ hown (w54 hw) (w55 hw) (notFace_of_selects (args := #[]) (mvT hZ (w57 hw))) (w57 hw) (w56 hw) (w58 hw) (w10 hw) e102 hS (fun v1 hv => ibw hI hv) P102_o101.1 (t_cold l hw C (zOd.up O102) hc hcw (m0) (m1) (m2) (m3) (m4) (m5) (m6) (m7) (m8) (by omega) (by omega) (by omega) (by omega) (by omega) (by omega) (by omega) (by omega) (by omega) rfl o101 P102_o101) hml 0 pd_28 (argsL := []) (st := []) fun v103 T103 h103 u103 L103 e103 X103 hZ hown hS hW103 q103 => ?_))
  have Q7 := Q7.stays hW103
  have Q15 := Q15.stays hW103
  have Q17 := Q17.stays hW103
  have Q19 := Q19.stays hW103
  have Q21 := Q21.stays hW103
  have Q23 := Q23.stays hW103
  have Q25 := Q25.stays hW103
  have Q27 := Q27.stays hW103
  have Q29 := Q29.stays hW103
  obtain ⟨t103, x103, rfl, N103q, K103q, L103_s, yt103, yx103, hI, r54, x54, r63, x63, r65, x65, r67, x67, r72, x72, r74, x74, r76, x76, r78, x78, r80, x80, r82, x82, ⟨Q54, L103_r54⟩, ⟨Q63, L103_r63⟩, ⟨Q65, L103_r65⟩, ⟨Q67, L103_r67⟩, ⟨Q72, L103_r72⟩, ⟨Q74, L103_r74⟩, ⟨Q76, L103_r76⟩, ⟨Q78, L103_r78⟩, ⟨Q80, L103_r80⟩, ⟨Q82, L103_r82⟩⟩ := q103
  have A103_f := A102_f.keep K103q nin0
  have O103 := O102.keep K103q all0
  have K103 := Keep.trans K102 K103q all0
  have P103_o102 := P102_o.keep K103q nin0
  have N103 := Fr.app N102 (Fr.down N103q (zodsz O102))
  have zt103 : h0.size ≤ t103 := Nat.le_trans K102.1 yt103
  show yEndsW p e below s0 T103 (mkF m 270 #[iv p0, iv p1, .val (.long q0), .second, .val (.long q1), .second, .val (.long q2), .second, iv sel, rv f, iv (Int32.ofNat (kk)), .val (.long (Int64.ofNat (w))), .second, rv g, rv o101, rv o102, .unset, .unset, .unset, .unset, .unset, .unset, .unset] [(.ref t103)]) _ _ _
  refine yastore X103 hx hby at_270 (hv := rfl) (L' := #[iv p0, iv p1, .val (.long q0), .second, .val (.long q1), .second, .val (.long q2), .second, iv sel, rv f, iv (Int32.ofNat (kk)), .val (.long (Int64.ofNat (w))), .second, rv g, rv o101, rv o102, rv t103, .unset, .unset, .unset, .unset, .unset, .unset]) rfl (yaload X103 hx hby at_272 rfl rfl (ycallvW X103 hx hby at_274 hZ hown (w54 hw) (w55 hw) (notFace_of_selects (args := #[]) (mvT hZ (w57 hw))) (w57 hw) (w56 hw) (w58 hw) (w10 hw) e103 hS (fun v1 hv => ⟨ibw hI hv, Q54.stays hv.wide, Q63.stays hv.wide, Q65.stays hv.wide, Q67.stays hv.wide, Q72.stays hv.wide, Q74.stays hv.wide, Q76.stays hv.wide, Q78.stays hv.wide, Q80.stays hv.wide, Q82.stays hv.wide⟩) P103_o102.1 (t_warm l hw C (zOd.up O103) (g0) (g1) (g2) (g3) (g4) (g5) (g6) (g7) (g8) (by omega) (by omega) (by omega) (by omega) (by omega) (by omega) (by omega) (by omega) (by omega) rfl o102 P103_o102 _ r54 x54 r63 x63 r65 x65 r67 x67 r72 x72 r74 x74 r76 x76 r78 x78 r80 x80 r82 x82 L103_r54 L103_r63 L103_r65 L103_r67 L103_r72 L103_r74 L103_r76 L103_r78 L103_r80 L103_r82) hml 0 pd_28 (argsL := []) (st := []) fun v104 T104 h104 u104 L104 e104 X104 hZ hown hS hW104 q104 => ?_))
  have Q7 := Q7.stays hW104
  have Q15 := Q15.stays hW104
  have Q17 := Q17.stays hW104
  have Q19 := Q19.stays hW104
  have Q21 := Q21.stays hW104
  have Q23 := Q23.stays hW104
  have Q25 := Q25.stays hW104
  have Q27 := Q27.stays hW104
  have Q29 := Q29.stays hW104
  have Q54 := Q54.stays hW104
  have Q63 := Q63.stays hW104
  have Q65 := Q65.stays hW104
  have Q67 := Q67.stays hW104
  have Q72 := Q72.stays hW104
  have Q74 := Q74.stays hW104
  have Q76 := Q76.stays hW104
  have Q78 := Q78.stays hW104
  have Q80 := Q80.stays hW104
  have Q82 := Q82.stays hW104
  obtain ⟨t104, x104, rfl, N104q, K104q, L104_s, yt104, yx104, hI⟩ := q104
  have A104_f := A103_f.keep K104q nin0
  have O104 := O103.keep K104q all0
  have K104 := Keep.trans K103 K104q all0
  have L104_t103 := L103_s.keep K104q nin0 nin0
  have ne104_t103 : t103 ≠ t104 := Nat.ne_of_lt (Nat.lt_of_lt_of_le L103_s.ltr yt104)
  have L104_r54 := L103_r54.keep K104q nin0 nin0
  have L104_r63 := L103_r63.keep K104q nin0 nin0
  have L104_r65 := L103_r65.keep K104q nin0 nin0
  have L104_r67 := L103_r67.keep K104q nin0 nin0
  have L104_r72 := L103_r72.keep K104q nin0 nin0
  have L104_r74 := L103_r74.keep K104q nin0 nin0
  have L104_r76 := L103_r76.keep K104q nin0 nin0
  have L104_r78 := L103_r78.keep K104q nin0 nin0
  have L104_r80 := L103_r80.keep K104q nin0 nin0
  have L104_r82 := L103_r82.keep K104q nin0 nin0
  have N104 := Fr.app N103 (Fr.down N104q (zodsz O103))
  have zt104 : h0.size ≤ t104 := Nat.le_trans K103.1 yt104
  show yEndsW p e below s0 T104 (mkF m 277 #[iv p0, iv p1, .val (.long q0), .second, .val (.long q1), .second, .val (.long q2), .second, iv sel, rv f, iv (Int32.ofNat (kk)), .val (.long (Int64.ofNat (w))), .second, rv g, rv o101, rv o102, rv t103, .unset, .unset, .unset, .unset, .unset, .unset] [(.ref t104)]) _ _ _
  refine yastore X104 hx hby at_277 (hv := rfl) (L' := #[iv p0, iv p1, .val (.long q0), .second, .val (.long q1), .second, .val (.long q2), .second, iv sel, rv f, iv (Int32.ofNat (kk)), .val (.long (Int64.ofNat (w))), .second, rv g, rv o101, rv o102, rv t103, rv t104, .unset, .unset, .unset, .unset, .unset]) rfl (ybipush X104 hx hby at_279 (z := (107 : Int32)) rfl (yaload X104 hx hby at_281 rfl rfl (yiconst X104 hx hby at_283 (z := (0 : Int32)) rfl (ylaload X104 hx hby at_284 hZ e104 A104_f (by decide) (v := (.long (Int64.ofNat (m0)))) rfl ?_))))
  show yEndsW p e below s0 T104 (mkF m 285 #[iv p0, iv p1, .val (.long q0), .second, .val (.long q1), .second, .val (.long q2), .second, iv sel, rv f, iv (Int32.ofNat (kk)), .val (.long (Int64.ofNat (w))), .second, rv g, rv o101, rv o102, rv t103, rv t104, .unset, .unset, .unset, .unset, .unset] [(.long (Int64.ofNat (m0))), (.int 107)]) _ _ _
  refine ycalls X104 hx hby at_285 hZ hown (w241 hw) (w242 hw) (w6 hw) (w243 hw) e104 (c_digits l hw  C O104 (m0) (by omega)) hml 1 pd_14 (argsL := [(.long (Int64.ofNat (m0)))]) (st := [(.int 107)]) (ypureK ⟨rfl, rfl⟩ fun T105 X105 e105 => ?_)
  show yEndsW p e below s0 T105 (mkF m 288 #[iv p0, iv p1, .val (.long q0), .second, .val (.long q1), .second, .val (.long q2), .second, iv sel, rv f, iv (Int32.ofNat (kk)), .val (.long (Int64.ofNat (w))), .second, rv g, rv o101, rv o102, rv t103, rv t104, .unset, .unset, .unset, .unset, .unset] [(.int (Int32.ofNat ((dec m0).length))), (.int 107)]) _ _ _
  refine yiadd X105 hx hby at_288 (Int32.ofNat (107 + (dec m0).length)) (zofN_add _ _) (yaload X105 hx hby at_289 rfl rfl (yiconst X105 hx hby at_291 (z := (1 : Int32)) rfl (ylaload X105 hx hby at_292 hZ e105 A104_f (by decide) (v := (.long (Int64.ofNat (m1)))) rfl ?_)))
  show yEndsW p e below s0 T105 (mkF m 293 #[iv p0, iv p1, .val (.long q0), .second, .val (.long q1), .second, .val (.long q2), .second, iv sel, rv f, iv (Int32.ofNat (kk)), .val (.long (Int64.ofNat (w))), .second, rv g, rv o101, rv o102, rv t103, rv t104, .unset, .unset, .unset, .unset, .unset] [(.long (Int64.ofNat (m1))), (.int (Int32.ofNat (107 + (dec m0).length)))]) _ _ _
  refine ycalls X105 hx hby at_293 hZ hown (w241 hw) (w242 hw) (w6 hw) (w243 hw) e105 (c_digits l hw  C O104 (m1) (by omega)) hml 1 pd_14 (argsL := [(.long (Int64.ofNat (m1)))]) (st := [(.int (Int32.ofNat (107 + (dec m0).length)))]) (ypureK ⟨rfl, rfl⟩ fun T106 X106 e106 => ?_)
  show yEndsW p e below s0 T106 (mkF m 296 #[iv p0, iv p1, .val (.long q0), .second, .val (.long q1), .second, .val (.long q2), .second, iv sel, rv f, iv (Int32.ofNat (kk)), .val (.long (Int64.ofNat (w))), .second, rv g, rv o101, rv o102, rv t103, rv t104, .unset, .unset, .unset, .unset, .unset] [(.int (Int32.ofNat ((dec m1).length))), (.int (Int32.ofNat (107 + (dec m0).length)))]) _ _ _
  refine yiadd X106 hx hby at_296 (Int32.ofNat (107 + (dec m0).length + (dec m1).length)) (zofN_add _ _) (yaload X106 hx hby at_297 rfl rfl (yiconst X106 hx hby at_299 (z := (2 : Int32)) rfl (ylaload X106 hx hby at_300 hZ e106 A104_f (by decide) (v := (.long (Int64.ofNat (m2)))) rfl ?_)))
  show yEndsW p e below s0 T106 (mkF m 301 #[iv p0, iv p1, .val (.long q0), .second, .val (.long q1), .second, .val (.long q2), .second, iv sel, rv f, iv (Int32.ofNat (kk)), .val (.long (Int64.ofNat (w))), .second, rv g, rv o101, rv o102, rv t103, rv t104, .unset, .unset, .unset, .unset, .unset] [(.long (Int64.ofNat (m2))), (.int (Int32.ofNat (107 + (dec m0).length + (dec m1).length)))]) _ _ _
  refine ycalls X106 hx hby at_301 hZ hown (w241 hw) (w242 hw) (w6 hw) (w243 hw) e106 (c_digits l hw  C O104 (m2) (by omega)) hml 1 pd_14 (argsL := [(.long (Int64.ofNat (m2)))]) (st := [(.int (Int32.ofNat (107 + (dec m0).length + (dec m1).length)))]) (ypureK ⟨rfl, rfl⟩ fun T107 X107 e107 => ?_)
  show yEndsW p e below s0 T107 (mkF m 304 #[iv p0, iv p1, .val (.long q0), .second, .val (.long q1), .second, .val (.long q2), .second, iv sel, rv f, iv (Int32.ofNat (kk)), .val (.long (Int64.ofNat (w))), .second, rv g, rv o101, rv o102, rv t103, rv t104, .unset, .unset, .unset, .unset, .unset] [(.int (Int32.ofNat ((dec m2).length))), (.int (Int32.ofNat (107 + (dec m0).length + (dec m1).length)))]) _ _ _
  refine yiadd X107 hx hby at_304 (Int32.ofNat (107 + (dec m0).length + (dec m1).length + (dec m2).length)) (zofN_add _ _) (yaload X107 hx hby at_305 rfl rfl (yiconst X107 hx hby at_307 (z := (3 : Int32)) rfl (ylaload X107 hx hby at_308 hZ e107 A104_f (by decide) (v := (.long (Int64.ofNat (m3)))) rfl ?_)))
  show yEndsW p e below s0 T107 (mkF m 309 #[iv p0, iv p1, .val (.long q0), .second, .val (.long q1), .second, .val (.long q2), .second, iv sel, rv f, iv (Int32.ofNat (kk)), .val (.long (Int64.ofNat (w))), .second, rv g, rv o101, rv o102, rv t103, rv t104, .unset, .unset, .unset, .unset, .unset] [(.long (Int64.ofNat (m3))), (.int (Int32.ofNat (107 + (dec m0).length + (dec m1).length + (dec m2).length)))]) _ _ _
  refine ycalls X107 hx hby at_309 hZ hown (w241 hw) (w242 hw) (w6 hw) (w243 hw) e107 (c_digits l hw  C O104 (m3) (by omega)) hml 1 pd_14 (argsL := [(.long (Int64.ofNat (m3)))]) (st := [(.int (Int32.ofNat (107 + (dec m0).length + (dec m1).length + (dec m2).length)))]) (ypureK ⟨rfl, rfl⟩ fun T108 X108 e108 => ?_)
  show yEndsW p e below s0 T108 (mkF m 312 #[iv p0, iv p1, .val (.long q0), .second, .val (.long q1), .second, .val (.long q2), .second, iv sel, rv f, iv (Int32.ofNat (kk)), .val (.long (Int64.ofNat (w))), .second, rv g, rv o101, rv o102, rv t103, rv t104, .unset, .unset, .unset, .unset, .unset] [(.int (Int32.ofNat ((dec m3).length))), (.int (Int32.ofNat (107 + (dec m0).length + (dec m1).length + (dec m2).length)))]) _ _ _
  refine yiadd X108 hx hby at_312 (Int32.ofNat (107 + (dec m0).length + (dec m1).length + (dec m2).length + (dec m3).length)) (zofN_add _ _) (yaload X108 hx hby at_313 rfl rfl (yiconst X108 hx hby at_315 (z := (4 : Int32)) rfl (ylaload X108 hx hby at_316 hZ e108 A104_f (by decide) (v := (.long (Int64.ofNat (m4)))) rfl ?_)))
  show yEndsW p e below s0 T108 (mkF m 317 #[iv p0, iv p1, .val (.long q0), .second, .val (.long q1), .second, .val (.long q2), .second, iv sel, rv f, iv (Int32.ofNat (kk)), .val (.long (Int64.ofNat (w))), .second, rv g, rv o101, rv o102, rv t103, rv t104, .unset, .unset, .unset, .unset, .unset] [(.long (Int64.ofNat (m4))), (.int (Int32.ofNat (107 + (dec m0).length + (dec m1).length + (dec m2).length + (dec m3).length)))]) _ _ _
  refine ycalls X108 hx hby at_317 hZ hown (w241 hw) (w242 hw) (w6 hw) (w243 hw) e108 (c_digits l hw  C O104 (m4) (by omega)) hml 1 pd_14 (argsL := [(.long (Int64.ofNat (m4)))]) (st := [(.int (Int32.ofNat (107 + (dec m0).length + (dec m1).length + (dec m2).length + (dec m3).length)))]) (ypureK ⟨rfl, rfl⟩ fun T109 X109 e109 => ?_)
  show yEndsW p e below s0 T109 (mkF m 320 #[iv p0, iv p1, .val (.long q0), .second, .val (.long q1), .second, .val (.long q2), .second, iv sel, rv f, iv (Int32.ofNat (kk)), .val (.long (Int64.ofNat (w))), .second, rv g, rv o101, rv o102, rv t103, rv t104, .unset, .unset, .unset, .unset, .unset] [(.int (Int32.ofNat ((dec m4).length))), (.int (Int32.ofNat (107 + (dec m0).length + (dec m1).length + (dec m2).length + (dec m3).length)))]) _ _ _
  refine yiadd X109 hx hby at_320 (Int32.ofNat (107 + (dec m0).length + (dec m1).length + (dec m2).length + (dec m3).length + (dec m4).length)) (zofN_add _ _) (yaload X109 hx hby at_321 rfl rfl (yiconst X109 hx hby at_323 (z := (5 : Int32)) rfl (ylaload X109 hx hby at_324 hZ e109 A104_f (by decide) (v := (.long (Int64.ofNat (m5)))) rfl ?_)))
  show yEndsW p e below s0 T109 (mkF m 325 #[iv p0, iv p1, .val (.long q0), .second, .val (.long q1), .second, .val (.long q2), .second, iv sel, rv f, iv (Int32.ofNat (kk)), .val (.long (Int64.ofNat (w))), .second, rv g, rv o101, rv o102, rv t103, rv t104, .unset, .unset, .unset, .unset, .unset] [(.long (Int64.ofNat (m5))), (.int (Int32.ofNat (107 + (dec m0).length + (dec m1).length + (dec m2).length + (dec m3).length + (dec m4).length)))]) _ _ _
  refine ycalls X109 hx hby at_325 hZ hown (w241 hw) (w242 hw) (w6 hw) (w243 hw) e109 (c_digits l hw  C O104 (m5) (by omega)) hml 1 pd_14 (argsL := [(.long (Int64.ofNat (m5)))]) (st := [(.int (Int32.ofNat (107 + (dec m0).length + (dec m1).length + (dec m2).length + (dec m3).length + (dec m4).length)))]) (ypureK ⟨rfl, rfl⟩ fun T110 X110 e110 => ?_)
  show yEndsW p e below s0 T110 (mkF m 328 #[iv p0, iv p1, .val (.long q0), .second, .val (.long q1), .second, .val (.long q2), .second, iv sel, rv f, iv (Int32.ofNat (kk)), .val (.long (Int64.ofNat (w))), .second, rv g, rv o101, rv o102, rv t103, rv t104, .unset, .unset, .unset, .unset, .unset] [(.int (Int32.ofNat ((dec m5).length))), (.int (Int32.ofNat (107 + (dec m0).length + (dec m1).length + (dec m2).length + (dec m3).length + (dec m4).length)))]) _ _ _
  refine yiadd X110 hx hby at_328 (Int32.ofNat (107 + (dec m0).length + (dec m1).length + (dec m2).length + (dec m3).length + (dec m4).length + (dec m5).length)) (zofN_add _ _) (yaload X110 hx hby at_329 rfl rfl (ybipush X110 hx hby at_331 (z := (6 : Int32)) rfl (ylaload X110 hx hby at_333 hZ e110 A104_f (by decide) (v := (.long (Int64.ofNat (m6)))) rfl ?_)))
  show yEndsW p e below s0 T110 (mkF m 334 #[iv p0, iv p1, .val (.long q0), .second, .val (.long q1), .second, .val (.long q2), .second, iv sel, rv f, iv (Int32.ofNat (kk)), .val (.long (Int64.ofNat (w))), .second, rv g, rv o101, rv o102, rv t103, rv t104, .unset, .unset, .unset, .unset, .unset] [(.long (Int64.ofNat (m6))), (.int (Int32.ofNat (107 + (dec m0).length + (dec m1).length + (dec m2).length + (dec m3).length + (dec m4).length + (dec m5).length)))]) _ _ _
  refine ycalls X110 hx hby at_334 hZ hown (w241 hw) (w242 hw) (w6 hw) (w243 hw) e110 (c_digits l hw  C O104 (m6) (by omega)) hml 1 pd_14 (argsL := [(.long (Int64.ofNat (m6)))]) (st := [(.int (Int32.ofNat (107 + (dec m0).length + (dec m1).length + (dec m2).length + (dec m3).length + (dec m4).length + (dec m5).length)))]) (ypureK ⟨rfl, rfl⟩ fun T111 X111 e111 => ?_)
  show yEndsW p e below s0 T111 (mkF m 337 #[iv p0, iv p1, .val (.long q0), .second, .val (.long q1), .second, .val (.long q2), .second, iv sel, rv f, iv (Int32.ofNat (kk)), .val (.long (Int64.ofNat (w))), .second, rv g, rv o101, rv o102, rv t103, rv t104, .unset, .unset, .unset, .unset, .unset] [(.int (Int32.ofNat ((dec m6).length))), (.int (Int32.ofNat (107 + (dec m0).length + (dec m1).length + (dec m2).length + (dec m3).length + (dec m4).length + (dec m5).length)))]) _ _ _
  refine yiadd X111 hx hby at_337 (Int32.ofNat (107 + (dec m0).length + (dec m1).length + (dec m2).length + (dec m3).length + (dec m4).length + (dec m5).length + (dec m6).length)) (zofN_add _ _) (yaload X111 hx hby at_338 rfl rfl (ybipush X111 hx hby at_340 (z := (7 : Int32)) rfl (ylaload X111 hx hby at_342 hZ e111 A104_f (by decide) (v := (.long (Int64.ofNat (m7)))) rfl ?_)))
  show yEndsW p e below s0 T111 (mkF m 343 #[iv p0, iv p1, .val (.long q0), .second, .val (.long q1), .second, .val (.long q2), .second, iv sel, rv f, iv (Int32.ofNat (kk)), .val (.long (Int64.ofNat (w))), .second, rv g, rv o101, rv o102, rv t103, rv t104, .unset, .unset, .unset, .unset, .unset] [(.long (Int64.ofNat (m7))), (.int (Int32.ofNat (107 + (dec m0).length + (dec m1).length + (dec m2).length + (dec m3).length + (dec m4).length + (dec m5).length + (dec m6).length)))]) _ _ _
  refine ycalls X111 hx hby at_343 hZ hown (w241 hw) (w242 hw) (w6 hw) (w243 hw) e111 (c_digits l hw  C O104 (m7) (by omega)) hml 1 pd_14 (argsL := [(.long (Int64.ofNat (m7)))]) (st := [(.int (Int32.ofNat (107 + (dec m0).length + (dec m1).length + (dec m2).length + (dec m3).length + (dec m4).length + (dec m5).length + (dec m6).length)))]) (ypureK ⟨rfl, rfl⟩ fun T112 X112 e112 => ?_)
  show yEndsW p e below s0 T112 (mkF m 346 #[iv p0, iv p1, .val (.long q0), .second, .val (.long q1), .second, .val (.long q2), .second, iv sel, rv f, iv (Int32.ofNat (kk)), .val (.long (Int64.ofNat (w))), .second, rv g, rv o101, rv o102, rv t103, rv t104, .unset, .unset, .unset, .unset, .unset] [(.int (Int32.ofNat ((dec m7).length))), (.int (Int32.ofNat (107 + (dec m0).length + (dec m1).length + (dec m2).length + (dec m3).length + (dec m4).length + (dec m5).length + (dec m6).length)))]) _ _ _
  refine yiadd X112 hx hby at_346 (Int32.ofNat (107 + (dec m0).length + (dec m1).length + (dec m2).length + (dec m3).length + (dec m4).length + (dec m5).length + (dec m6).length + (dec m7).length)) (zofN_add _ _) (yaload X112 hx hby at_347 rfl rfl (ybipush X112 hx hby at_349 (z := (8 : Int32)) rfl (ylaload X112 hx hby at_351 hZ e112 A104_f (by decide) (v := (.long (Int64.ofNat (m8)))) rfl ?_)))
  show yEndsW p e below s0 T112 (mkF m 352 #[iv p0, iv p1, .val (.long q0), .second, .val (.long q1), .second, .val (.long q2), .second, iv sel, rv f, iv (Int32.ofNat (kk)), .val (.long (Int64.ofNat (w))), .second, rv g, rv o101, rv o102, rv t103, rv t104, .unset, .unset, .unset, .unset, .unset] [(.long (Int64.ofNat (m8))), (.int (Int32.ofNat (107 + (dec m0).length + (dec m1).length + (dec m2).length + (dec m3).length + (dec m4).length + (dec m5).length + (dec m6).length + (dec m7).length)))]) _ _ _
  refine ycalls X112 hx hby at_352 hZ hown (w241 hw) (w242 hw) (w6 hw) (w243 hw) e112 (c_digits l hw  C O104 (m8) (by omega)) hml 1 pd_14 (argsL := [(.long (Int64.ofNat (m8)))]) (st := [(.int (Int32.ofNat (107 + (dec m0).length + (dec m1).length + (dec m2).length + (dec m3).length + (dec m4).length + (dec m5).length + (dec m6).length + (dec m7).length)))]) (ypureK ⟨rfl, rfl⟩ fun T113 X113 e113 => ?_)
  show yEndsW p e below s0 T113 (mkF m 355 #[iv p0, iv p1, .val (.long q0), .second, .val (.long q1), .second, .val (.long q2), .second, iv sel, rv f, iv (Int32.ofNat (kk)), .val (.long (Int64.ofNat (w))), .second, rv g, rv o101, rv o102, rv t103, rv t104, .unset, .unset, .unset, .unset, .unset] [(.int (Int32.ofNat ((dec m8).length))), (.int (Int32.ofNat (107 + (dec m0).length + (dec m1).length + (dec m2).length + (dec m3).length + (dec m4).length + (dec m5).length + (dec m6).length + (dec m7).length)))]) _ _ _
  refine yiadd X113 hx hby at_355 (Int32.ofNat (107 + (dec m0).length + (dec m1).length + (dec m2).length + (dec m3).length + (dec m4).length + (dec m5).length + (dec m6).length + (dec m7).length + (dec m8).length)) (zofN_add _ _) (yistore X113 hx hby at_356 (L' := #[iv p0, iv p1, .val (.long q0), .second, .val (.long q1), .second, .val (.long q2), .second, iv sel, rv f, iv (Int32.ofNat (kk)), .val (.long (Int64.ofNat (w))), .second, rv g, rv o101, rv o102, rv t103, rv t104, iv (Int32.ofNat (107 + (dec m0).length + (dec m1).length + (dec m2).length + (dec m3).length + (dec m4).length + (dec m5).length + (dec m6).length + (dec m7).length + (dec m8).length)), .unset, .unset, .unset, .unset]) rfl (yaload X113 hx hby at_358 rfl rfl ?_))
  show yEndsW p e below s0 T113 (mkF m 360 #[iv p0, iv p1, .val (.long q0), .second, .val (.long q1), .second, .val (.long q2), .second, iv sel, rv f, iv (Int32.ofNat (kk)), .val (.long (Int64.ofNat (w))), .second, rv g, rv o101, rv o102, rv t103, rv t104, iv (Int32.ofNat (107 + (dec m0).length + (dec m1).length + (dec m2).length + (dec m3).length + (dec m4).length + (dec m5).length + (dec m6).length + (dec m7).length + (dec m8).length)), .unset, .unset, .unset, .unset] [(.ref t103)]) _ _ _
  refine ycallv X113 hx hby at_360 hZ hown (w262 hw) (w89 hw) (notFace_of_selects (args := #[]) (mvT hZ (w91 hw))) (w91 hw) (w90 hw) (w92 hw) (w18 hw) e113 L104_t103.1 (c_length l hw  C O104 t103 x103 ((Sm m0 m1 m2 m3 m4 m5 m6 m7 m8)) L104_t103) hml 0 pd_1 (argsL := []) (st := []) (ypureK ⟨rfl, rfl⟩ fun T114 X114 e114 => ?_)
  show yEndsW p e below s0 T114 (mkF m 363 #[iv p0, iv p1, .val (.long q0), .second, .val (.long q1), .second, .val (.long q2), .second, iv sel, rv f, iv (Int32.ofNat (kk)), .val (.long (Int64.ofNat (w))), .second, rv g, rv o101, rv o102, rv t103, rv t104, iv (Int32.ofNat (107 + (dec m0).length + (dec m1).length + (dec m2).length + (dec m3).length + (dec m4).length + (dec m5).length + (dec m6).length + (dec m7).length + (dec m8).length)), .unset, .unset, .unset, .unset] [(.int (Int32.ofNat (((Sm m0 m1 m2 m3 m4 m5 m6 m7 m8)).length)))]) _ _ _
  refine yiload X114 hx hby at_363 rfl (yicmpNo X114 hx hby at_365 (teq (show (Int32.ofNat (((Sm m0 m1 m2 m3 m4 m5 m6 m7 m8)).length)) = (Int32.ofNat (107 + (dec m0).length + (dec m1).length + (dec m2).length + (dec m3).length + (dec m4).length + (dec m5).length + (dec m6).length + (dec m7).length + (dec m8).length)) from by rw [zofN_eq (by omega) (by omega)]; omega)).2 (yiconst X114 hx hby at_368 (z := (1 : Int32)) rfl (ygoto X114 hx hby at_369 373 (by decide) (by decide) (yistore X114 hx hby at_373 (L' := #[iv p0, iv p1, .val (.long q0), .second, .val (.long q1), .second, .val (.long q2), .second, iv sel, rv f, iv (Int32.ofNat (kk)), .val (.long (Int64.ofNat (w))), .second, rv g, rv o101, rv o102, rv t103, rv t104, iv (Int32.ofNat (107 + (dec m0).length + (dec m1).length + (dec m2).length + (dec m3).length + (dec m4).length + (dec m5).length + (dec m6).length + (dec m7).length + (dec m8).length)), iv 1, .unset, .unset, .unset]) rfl (yaload X114 hx hby at_375 rfl rfl (yaload X114 hx hby at_377 rfl rfl ?_))))))
  show yEndsW p e below s0 T114 (mkF m 379 #[iv p0, iv p1, .val (.long q0), .second, .val (.long q1), .second, .val (.long q2), .second, iv sel, rv f, iv (Int32.ofNat (kk)), .val (.long (Int64.ofNat (w))), .second, rv g, rv o101, rv o102, rv t103, rv t104, iv (Int32.ofNat (107 + (dec m0).length + (dec m1).length + (dec m2).length + (dec m3).length + (dec m4).length + (dec m5).length + (dec m6).length + (dec m7).length + (dec m8).length)), iv 1, .unset, .unset, .unset] [(.ref t104), (.ref t103)]) _ _ _
  refine ycallv X114 hx hby at_379 hZ hown (w263 hw) (w264 hw) (notFace_of_selects (args := #[]) (mvT hZ (w266 hw))) (w266 hw) (w265 hw) (w267 hw) (w18 hw) e114 L104_t103.1 (c_eq l hw  C O104 t103 x103 (Sm m0 m1 m2 m3 m4 m5 m6 m7 m8) L104_t103 t104 x104 (Sm g0 g1 g2 g3 g4 g5 g6 g7 g8) L104_s ne104_t103 (by omega) (by omega)) hml 0 pd_31 (argsL := [(.ref t104)]) (st := []) (ypureK ⟨rfl, rfl⟩ fun T115 X115 e115 => ?_)
  show yEndsW p e below s0 T115 (mkF m 382 #[iv p0, iv p1, .val (.long q0), .second, .val (.long q1), .second, .val (.long q2), .second, iv sel, rv f, iv (Int32.ofNat (kk)), .val (.long (Int64.ofNat (w))), .second, rv g, rv o101, rv o102, rv t103, rv t104, iv (Int32.ofNat (107 + (dec m0).length + (dec m1).length + (dec m2).length + (dec m3).length + (dec m4).length + (dec m5).length + (dec m6).length + (dec m7).length + (dec m8).length)), iv 1, .unset, .unset, .unset] [(.int (if (Sm m0 m1 m2 m3 m4 m5 m6 m7 m8) = (Sm g0 g1 g2 g3 g4 g5 g6 g7 g8) then (1 : Int32) else 0))]) _ _ _
  refine ylload X115 hx hby at_382 rfl (yaload X115 hx hby at_384 rfl rfl (yiload X115 hx hby at_386 rfl (ylaload X115 hx hby at_388 hZ e115 A104_f (zofN_nn (by omega)) (v := (.long (Int64.ofNat (fk)))) (by rw [zofN_clamp (by omega)]; exact fkv) (ylcmp X115 hx hby at_389 (lcmpW (Int64.ofNat (w)) (Int64.ofNat (fk))) rfl ?_))))
  show yEndsW p e below s0 T115 (mkF m 390 #[iv p0, iv p1, .val (.long q0), .second, .val (.long q1), .second, .val (.long q2), .second, iv sel, rv f, iv (Int32.ofNat (kk)), .val (.long (Int64.ofNat (w))), .second, rv g, rv o101, rv o102, rv t103, rv t104, iv (Int32.ofNat (107 + (dec m0).length + (dec m1).length + (dec m2).length + (dec m3).length + (dec m4).length + (dec m5).length + (dec m6).length + (dec m7).length + (dec m8).length)), iv 1, .unset, .unset, .unset] [(.int (lcmpW (Int64.ofNat (w)) (Int64.ofNat (fk)))), (.int (if (Sm m0 m1 m2 m3 m4 m5 m6 m7 m8) = (Sm g0 g1 g2 g3 g4 g5 g6 g7 g8) then (1 : Int32) else 0))]) _ _ _
  by_cases hwf : w = fk
  · refine yifNo X115 hx hby at_390 ((if0 _ _).trans (teq (by rw [lcmp_0, ofL_eq hw_ hfkb]; exact hwf)).2) (yiconst X115 hx hby at_393 (z := (1 : Int32)) rfl (ygoto X115 hx hby at_394 398 (by decide) (by decide) (yicmpNo X115 hx hby at_398 (teq (by rw [if_pos ((Sm_iff hfk hgk).mpr hwf)])).2 (yiconst X115 hx hby at_401 (z := (1 : Int32)) rfl (ygoto X115 hx hby at_402 406 (by decide) (by decide) (yistore X115 hx hby at_406 (L' := #[iv p0, iv p1, .val (.long q0), .second, .val (.long q1), .second, .val (.long q2), .second, iv sel, rv f, iv (Int32.ofNat (kk)), .val (.long (Int64.ofNat (w))), .second, rv g, rv o101, rv o102, rv t103, rv t104, iv (Int32.ofNat (107 + (dec m0).length + (dec m1).length + (dec m2).length + (dec m3).length + (dec m4).length + (dec m5).length + (dec m6).length + (dec m7).length + (dec m8).length)), iv 1, iv 1, .unset, .unset]) rfl (ynewobj X115 hx hby at_408 hZ hown (w8 hw) (w9 hw) (w10 hw) e115 (by first | decide | omega | (dsimp only; omega)) (by first | decide | omega | (dsimp only; omega)) fun T116 h116 b116 X116 e116 y116 Ex116 E116_b116 D116 => ?_)))))))
    have O116 := O104.ext Ex116
    have K116 := Keep.ext K104 Ex116
    have hS := hS.ext Ex116
    have L116_r54 := L104_r54.ext Ex116
    have L116_r63 := L104_r63.ext Ex116
    have L116_r65 := L104_r65.ext Ex116
    have L116_r67 := L104_r67.ext Ex116
    have L116_r72 := L104_r72.ext Ex116
    have L116_r74 := L104_r74.ext Ex116
    have L116_r76 := L104_r76.ext Ex116
    have L116_r78 := L104_r78.ext Ex116
    have L116_r80 := L104_r80.ext Ex116
    have L116_r82 := L104_r82.ext Ex116
    have g116 : n0 ≤ b116 := by rw [y116]; exact zodsz O104
    have z116 : h0.size ≤ b116 := by rw [y116]; exact K104.1
    have F116_b116_threads : Fld Z h116 b116 "com/example/kick/kick/value/PoolMetrics" "threads" "I" (.int 0) := D116 (Or.inr (w37 hw)) (ty := .int) (by decide)
    have F116_b116_active : Fld Z h116 b116 "com/example/kick/kick/value/PoolMetrics" "active" "I" (.int 0) := D116 (Or.inr (w39 hw)) (ty := .int) (by decide)
    have F116_b116_queued : Fld Z h116 b116 "com/example/kick/kick/value/PoolMetrics" "queued" "I" (.int 0) := D116 (Or.inr (w41 hw)) (ty := .int) (by decide)
    have F116_b116_submitted : Fld Z h116 b116 "com/example/kick/kick/value/PoolMetrics" "submitted" "J" (.long 0) := D116 (Or.inr (w43 hw)) (ty := .long) (by decide)
    have F116_b116_completed : Fld Z h116 b116 "com/example/kick/kick/value/PoolMetrics" "completed" "J" (.long 0) := D116 (Or.inr (w45 hw)) (ty := .long) (by decide)
    have F116_b116_failed : Fld Z h116 b116 "com/example/kick/kick/value/PoolMetrics" "failed" "J" (.long 0) := D116 (Or.inr (w47 hw)) (ty := .long) (by decide)
    have F116_b116_rejected : Fld Z h116 b116 "com/example/kick/kick/value/PoolMetrics" "rejected" "J" (.long 0) := D116 (Or.inr (w49 hw)) (ty := .long) (by decide)
    have F116_b116_discarded : Fld Z h116 b116 "com/example/kick/kick/value/PoolMetrics" "discarded" "J" (.long 0) := D116 (Or.inr (w51 hw)) (ty := .long) (by decide)
    have F116_b116_callerRan : Fld Z h116 b116 "com/example/kick/kick/value/PoolMetrics" "callerRan" "J" (.long 0) := D116 (Or.inr (w53 hw)) (ty := .long) (by decide)
    show yEndsW p e below s0 T116 (mkF m 411 #[iv p0, iv p1, .val (.long q0), .second, .val (.long q1), .second, .val (.long q2), .second, iv sel, rv f, iv (Int32.ofNat (kk)), .val (.long (Int64.ofNat (w))), .second, rv g, rv o101, rv o102, rv t103, rv t104, iv (Int32.ofNat (107 + (dec m0).length + (dec m1).length + (dec m2).length + (dec m3).length + (dec m4).length + (dec m5).length + (dec m6).length + (dec m7).length + (dec m8).length)), iv 1, iv 1, .unset, .unset] [(.ref b116)]) _ _ _
    have ne116_r54 : r54 ≠ b116 := Nat.ne_of_lt (Nat.lt_of_lt_of_eq L104_r54.ltr y116.symm)
    have ne116_x54 : x54 ≠ b116 := Nat.ne_of_lt (Nat.lt_of_lt_of_eq L104_r54.ltx y116.symm)
    have ne116_r63 : r63 ≠ b116 := Nat.ne_of_lt (Nat.lt_of_lt_of_eq L104_r63.ltr y116.symm)
    have ne116_x63 : x63 ≠ b116 := Nat.ne_of_lt (Nat.lt_of_lt_of_eq L104_r63.ltx y116.symm)
    have ne116_r65 : r65 ≠ b116 := Nat.ne_of_lt (Nat.lt_of_lt_of_eq L104_r65.ltr y116.symm)
    have ne116_x65 : x65 ≠ b116 := Nat.ne_of_lt (Nat.lt_of_lt_of_eq L104_r65.ltx y116.symm)
    have ne116_r67 : r67 ≠ b116 := Nat.ne_of_lt (Nat.lt_of_lt_of_eq L104_r67.ltr y116.symm)
    have ne116_x67 : x67 ≠ b116 := Nat.ne_of_lt (Nat.lt_of_lt_of_eq L104_r67.ltx y116.symm)
    have ne116_r72 : r72 ≠ b116 := Nat.ne_of_lt (Nat.lt_of_lt_of_eq L104_r72.ltr y116.symm)
    have ne116_x72 : x72 ≠ b116 := Nat.ne_of_lt (Nat.lt_of_lt_of_eq L104_r72.ltx y116.symm)
    have ne116_r74 : r74 ≠ b116 := Nat.ne_of_lt (Nat.lt_of_lt_of_eq L104_r74.ltr y116.symm)
    have ne116_x74 : x74 ≠ b116 := Nat.ne_of_lt (Nat.lt_of_lt_of_eq L104_r74.ltx y116.symm)
    have ne116_r76 : r76 ≠ b116 := Nat.ne_of_lt (Nat.lt_of_lt_of_eq L104_r76.ltr y116.symm)
    have ne116_x76 : x76 ≠ b116 := Nat.ne_of_lt (Nat.lt_of_lt_of_eq L104_r76.ltx y116.symm)
    have ne116_r78 : r78 ≠ b116 := Nat.ne_of_lt (Nat.lt_of_lt_of_eq L104_r78.ltr y116.symm)
    have ne116_x78 : x78 ≠ b116 := Nat.ne_of_lt (Nat.lt_of_lt_of_eq L104_r78.ltx y116.symm)
    have ne116_r80 : r80 ≠ b116 := Nat.ne_of_lt (Nat.lt_of_lt_of_eq L104_r80.ltr y116.symm)
    have ne116_x80 : x80 ≠ b116 := Nat.ne_of_lt (Nat.lt_of_lt_of_eq L104_r80.ltx y116.symm)
    have ne116_r82 : r82 ≠ b116 := Nat.ne_of_lt (Nat.lt_of_lt_of_eq L104_r82.ltr y116.symm)
    have ne116_x82 : x82 ≠ b116 := Nat.ne_of_lt (Nat.lt_of_lt_of_eq L104_r82.ltx y116.symm)
    refine ydup X116 hx hby at_411 rfl (yiconst X116 hx hby at_412 (z := (1 : Int32)) rfl (yiconst X116 hx hby at_413 (z := (2 : Int32)) rfl (yiconst X116 hx hby at_414 (z := (3 : Int32)) rfl (yldc2J X116 hx hby at_415 (4 : Int64) hZ hown (w273 hw) (yldc2J X116 hx hby at_418 (5 : Int64) hZ hown (w274 hw) (yldc2J X116 hx hby at_421 (6 : Int64) hZ hown (w275 hw) (yldc2J X116 hx hby at_424 (7 : Int64) hZ hown (w276 hw) (yldc2J X116 hx hby at_427 (8 : Int64) hZ hown (w277 hw) (yldc2J X116 hx hby at_430 (9 : Int64) hZ hown (w278 hw) ?_)))))))))
    show yEndsW p e below s0 T116 (mkF m 433 #[iv p0, iv p1, .val (.long q0), .second, .val (.long q1), .second, .val (.long q2), .second, iv sel, rv f, iv (Int32.ofNat (kk)), .val (.long (Int64.ofNat (w))), .second, rv g, rv o101, rv o102, rv t103, rv t104, iv (Int32.ofNat (107 + (dec m0).length + (dec m1).length + (dec m2).length + (dec m3).length + (dec m4).length + (dec m5).length + (dec m6).length + (dec m7).length + (dec m8).length)), iv 1, iv 1, .unset, .unset] [(.long 9), (.long 8), (.long 7), (.long 6), (.long 5), (.long 4), (.int 3), (.int 2), (.int 1), (.ref b116), (.ref b116)]) _ _ _
    refine ycallspW X116 hx hby at_433 hZ hown rfl (w11 hw) (w12 hw) (w13 hw) (w10 hw) e116 hS (fun v1 hv => ⟨ibw hI hv, Q7.stays hv.wide, Q15.stays hv.wide, Q17.stays hv.wide, Q19.stays hv.wide, Q21.stays hv.wide, Q23.stays hv.wide, Q25.stays hv.wide, Q27.stays hv.wide, Q29.stays hv.wide⟩) (i_warm l hw C O116 b116 E116_b116 F116_b116_threads F116_b116_active F116_b116_queued F116_b116_submitted F116_b116_completed F116_b116_failed F116_b116_rejected F116_b116_discarded F116_b116_callerRan g116 (1) (2) (3) (4) (5) (6) (7) (8) (9) (by omega) (by omega) (by omega) (by omega) (by omega) (by omega) (by omega) (by omega) (by omega) _ r7 r15 r17 r19 r21 r23 r25 r27 r29) hml 1 pd_29 (argsL := [(.int 1), (.int 2), (.int 3), (.long 4), (.long 5), (.long 6), (.long 7), (.long 8), (.long 9)]) (st := [(.ref b116)]) fun v117 T117 h117 u117 L117 e117 X117 hZ hown hS hW117 q117 => ?_
    have Q7 := Q7.stays hW117
    have Q15 := Q15.stays hW117
    have Q17 := Q17.stays hW117
    have Q19 := Q19.stays hW117
    have Q21 := Q21.stays hW117
    have Q23 := Q23.stays hW117
    have Q25 := Q25.stays hW117
    have Q27 := Q27.stays hW117
    have Q29 := Q29.stays hW117
    have Q54 := Q54.stays hW117
    have Q63 := Q63.stays hW117
    have Q65 := Q65.stays hW117
    have Q67 := Q67.stays hW117
    have Q72 := Q72.stays hW117
    have Q74 := Q74.stays hW117
    have Q76 := Q76.stays hW117
    have Q78 := Q78.stays hW117
    have Q80 := Q80.stays hW117
    have Q82 := Q82.stays hW117
    obtain ⟨rfl, N117q, K117q, P117_o, hI⟩ := q117
    have O117 := O116.keep K117q (allS g116 all0)
    have K117 := Keep.trans K116 K117q (allS (Or.inr z116) all0)
    have L117_r54 := L116_r54.keep K117q (ninS ne116_r54 nin0) (ninS ne116_x54 nin0)
    have L117_r63 := L116_r63.keep K117q (ninS ne116_r63 nin0) (ninS ne116_x63 nin0)
    have L117_r65 := L116_r65.keep K117q (ninS ne116_r65 nin0) (ninS ne116_x65 nin0)
    have L117_r67 := L116_r67.keep K117q (ninS ne116_r67 nin0) (ninS ne116_x67 nin0)
    have L117_r72 := L116_r72.keep K117q (ninS ne116_r72 nin0) (ninS ne116_x72 nin0)
    have L117_r74 := L116_r74.keep K117q (ninS ne116_r74 nin0) (ninS ne116_x74 nin0)
    have L117_r76 := L116_r76.keep K117q (ninS ne116_r76 nin0) (ninS ne116_x76 nin0)
    have L117_r78 := L116_r78.keep K117q (ninS ne116_r78 nin0) (ninS ne116_x78 nin0)
    have L117_r80 := L116_r80.keep K117q (ninS ne116_r80 nin0) (ninS ne116_x80 nin0)
    have L117_r82 := L116_r82.keep K117q (ninS ne116_r82 nin0) (ninS ne116_x82 nin0)
    have N117 := Fr.app N104 N117q
    show yEndsW p e below s0 T117 (mkF m 436 #[iv p0, iv p1, .val (.long q0), .second, .val (.long q1), .second, .val (.long q2), .second, iv sel, rv f, iv (Int32.ofNat (kk)), .val (.long (Int64.ofNat (w))), .second, rv g, rv o101, rv o102, rv t103, rv t104, iv (Int32.ofNat (107 + (dec m0).length + (dec m1).length + (dec m2).length + (dec m3).length + (dec m4).length + (dec m5).length + (dec m6).length + (dec m7).length + (dec m8).length)), iv 1, iv 1, .unset, .unset] [(.ref b116)]) _ _ _
    refine ycallvW X117 hx hby at_436 hZ hown (w54 hw) (w55 hw) (notFace_of_selects (args := #[]) (mvT hZ (w57 hw))) (w57 hw) (w56 hw) (w58 hw) (w10 hw) e117 hS (fun v1 hv => ⟨ibw hI hv, Q54.stays hv.wide, Q63.stays hv.wide, Q65.stays hv.wide, Q67.stays hv.wide, Q72.stays hv.wide, Q74.stays hv.wide, Q76.stays hv.wide, Q78.stays hv.wide, Q80.stays hv.wide, Q82.stays hv.wide⟩) P117_o.1 (t_warm l hw C (zOd.up O117) (1) (2) (3) (4) (5) (6) (7) (8) (9) (by omega) (by omega) (by omega) (by omega) (by omega) (by omega) (by omega) (by omega) (by omega) rfl b116 P117_o _ r54 x54 r63 x63 r65 x65 r67 x67 r72 x72 r74 x74 r76 x76 r78 x78 r80 x80 r82 x82 L117_r54 L117_r63 L117_r65 L117_r67 L117_r72 L117_r74 L117_r76 L117_r78 L117_r80 L117_r82) hml 0 pd_28 (argsL := []) (st := []) fun v118 T118 h118 u118 L118 e118 X118 hZ hown hS hW118 q118 => ?_
    have Q7 := Q7.stays hW118
    have Q15 := Q15.stays hW118
    have Q17 := Q17.stays hW118
    have Q19 := Q19.stays hW118
    have Q21 := Q21.stays hW118
    have Q23 := Q23.stays hW118
    have Q25 := Q25.stays hW118
    have Q27 := Q27.stays hW118
    have Q29 := Q29.stays hW118
    have Q54 := Q54.stays hW118
    have Q63 := Q63.stays hW118
    have Q65 := Q65.stays hW118
    have Q67 := Q67.stays hW118
    have Q72 := Q72.stays hW118
    have Q74 := Q74.stays hW118
    have Q76 := Q76.stays hW118
    have Q78 := Q78.stays hW118
    have Q80 := Q80.stays hW118
    have Q82 := Q82.stays hW118
    obtain ⟨t118, x118, rfl, N118q, K118q, L118_s, yt118, yx118, hI⟩ := q118
    have O118 := O117.keep K118q all0
    have N118 := Fr.app N117 (Fr.down N118q (zodsz O117))
    have zt118 : h0.size ≤ t118 := Nat.le_trans K117.1 yt118
    show yEndsW p e below s0 T118 (mkF m 439 #[iv p0, iv p1, .val (.long q0), .second, .val (.long q1), .second, .val (.long q2), .second, iv sel, rv f, iv (Int32.ofNat (kk)), .val (.long (Int64.ofNat (w))), .second, rv g, rv o101, rv o102, rv t103, rv t104, iv (Int32.ofNat (107 + (dec m0).length + (dec m1).length + (dec m2).length + (dec m3).length + (dec m4).length + (dec m5).length + (dec m6).length + (dec m7).length + (dec m8).length)), iv 1, iv 1, .unset, .unset] [(.ref t118)]) _ _ _
    refine yastore X118 hx hby at_439 (hv := rfl) (L' := #[iv p0, iv p1, .val (.long q0), .second, .val (.long q1), .second, .val (.long q2), .second, iv sel, rv f, iv (Int32.ofNat (kk)), .val (.long (Int64.ofNat (w))), .second, rv g, rv o101, rv o102, rv t103, rv t104, iv (Int32.ofNat (107 + (dec m0).length + (dec m1).length + (dec m2).length + (dec m3).length + (dec m4).length + (dec m5).length + (dec m6).length + (dec m7).length + (dec m8).length)), iv 1, iv 1, rv t118, .unset]) rfl (yaload X118 hx hby at_441 rfl rfl (yldcC X118 hx hby at_443 hZ hown (w279 hw) (wS hw) e118 hS eh (hn0 ▸ N118) O0.2.2 hI (by decide +kernel) (hc _ (List.mem_of_getElem? (i := 19) rfl)) hcw t_19 tx_19 (by decide +kernel) 464 (fun v119 T119 h119 r93 x93 X119 e119 Ex119 hZ hown hS hW119 E119_r V119_r C119_r A119_x hI Q93 ww119 => ?_) (by decide +kernel) (by decide +kernel) (by first | decide | omega | (dsimp only; omega)) (by first | decide | omega | (dsimp only; omega))))
    have Q7 := Q7.stays hW119
    have Q15 := Q15.stays hW119
    have Q17 := Q17.stays hW119
    have Q19 := Q19.stays hW119
    have Q21 := Q21.stays hW119
    have Q23 := Q23.stays hW119
    have Q25 := Q25.stays hW119
    have Q27 := Q27.stays hW119
    have Q29 := Q29.stays hW119
    have Q54 := Q54.stays hW119
    have Q63 := Q63.stays hW119
    have Q65 := Q65.stays hW119
    have Q67 := Q67.stays hW119
    have Q72 := Q72.stays hW119
    have Q74 := Q74.stays hW119
    have Q76 := Q76.stays hW119
    have Q78 := Q78.stays hW119
    have Q80 := Q80.stays hW119
    have Q82 := Q82.stays hW119
    have O119 := O118.ext Ex119
    have L119_t118 := L118_s.ext Ex119
    have ne119_r93_t118 : r93 ≠ t118 := ww119.elim (fun q => Nat.ne_of_lt (Nat.lt_of_lt_of_le q.1 zt118)) (fun q => Nat.ne_of_gt (Nat.lt_of_lt_of_le L118_s.ltr q.1))
    have L119_r93 := (Sx.mk E119_r V119_r C119_r A119_x)
    show yEndsW p e below s0 T119 (mkF m 445 #[iv p0, iv p1, .val (.long q0), .second, .val (.long q1), .second, .val (.long q2), .second, iv sel, rv f, iv (Int32.ofNat (kk)), .val (.long (Int64.ofNat (w))), .second, rv g, rv o101, rv o102, rv t103, rv t104, iv (Int32.ofNat (107 + (dec m0).length + (dec m1).length + (dec m2).length + (dec m3).length + (dec m4).length + (dec m5).length + (dec m6).length + (dec m7).length + (dec m8).length)), iv 1, iv 1, rv t118, .unset] [(.ref r93), (.ref t118)]) _ _ _
    refine ycallv X119 hx hby at_445 hZ hown (w263 hw) (w264 hw) (notFace_of_selects (args := #[]) (mvT hZ (w266 hw))) (w266 hw) (w265 hw) (w267 hw) (w18 hw) e119 L119_t118.1 (c_eq l hw  C O119 t118 x118 (Sm 1 2 3 4 5 6 7 8 9) L119_t118 r93 x93 t_19 L119_r93 (Ne.symm ne119_r93_t118) (by omega) (by omega)) hml 0 pd_31 (argsL := [(.ref r93)]) (st := []) (ypureK ⟨rfl, rfl⟩ fun T120 X120 e120 => ?_)
    show yEndsW p e below s0 T120 (mkF m 448 #[iv p0, iv p1, .val (.long q0), .second, .val (.long q1), .second, .val (.long q2), .second, iv sel, rv f, iv (Int32.ofNat (kk)), .val (.long (Int64.ofNat (w))), .second, rv g, rv o101, rv o102, rv t103, rv t104, iv (Int32.ofNat (107 + (dec m0).length + (dec m1).length + (dec m2).length + (dec m3).length + (dec m4).length + (dec m5).length + (dec m6).length + (dec m7).length + (dec m8).length)), iv 1, iv 1, rv t118, .unset] [(.int (if (Sm 1 2 3 4 5 6 7 8 9) = t_19 then (1 : Int32) else 0))]) _ _ _
    refine yistore X120 hx hby at_448 (L' := #[iv p0, iv p1, .val (.long q0), .second, .val (.long q1), .second, .val (.long q2), .second, iv sel, rv f, iv (Int32.ofNat (kk)), .val (.long (Int64.ofNat (w))), .second, rv g, rv o101, rv o102, rv t103, rv t104, iv (Int32.ofNat (107 + (dec m0).length + (dec m1).length + (dec m2).length + (dec m3).length + (dec m4).length + (dec m5).length + (dec m6).length + (dec m7).length + (dec m8).length)), iv 1, iv 1, rv t118, iv (if (Sm 1 2 3 4 5 6 7 8 9) = t_19 then (1 : Int32) else 0)]) rfl (yiload X120 hx hby at_450 rfl (yifNo X120 hx hby at_452 (by decide) (yiload X120 hx hby at_455 rfl (yifNo X120 hx hby at_457 (by decide) (yiload X120 hx hby at_460 rfl (yifNo X120 hx hby at_462 ((if0 _ _).trans (feq (by rw [if_pos Sm_exact]; decide)).1) (yiconst X120 hx hby at_465 (z := (1 : Int32)) rfl (ygoto X120 hx hby at_466 470 (by decide) (by decide) ?_))))))))
    show yEndsW p e below s0 T120 (mkF m 470 #[iv p0, iv p1, .val (.long q0), .second, .val (.long q1), .second, .val (.long q2), .second, iv sel, rv f, iv (Int32.ofNat (kk)), .val (.long (Int64.ofNat (w))), .second, rv g, rv o101, rv o102, rv t103, rv t104, iv (Int32.ofNat (107 + (dec m0).length + (dec m1).length + (dec m2).length + (dec m3).length + (dec m4).length + (dec m5).length + (dec m6).length + (dec m7).length + (dec m8).length)), iv 1, iv 1, rv t118, iv (if (Sm 1 2 3 4 5 6 7 8 9) = t_19 then (1 : Int32) else 0)] [(.int 1)]) _ _ _
    exact yretZ X120 hx hby at_470 hret hlk e120 hS (by simp) rfl (by first | decide | omega | (dsimp only; omega)) (by first | decide | omega | (dsimp only; omega)) (fun v1 hv => ⟨rfl, N118⟩)
  · refine yifYes X115 hx hby at_390 397 ((if0 _ _).trans (feq (by rw [lcmp_0, ofL_eq hw_ hfkb]; exact hwf)).2) (by decide) (by decide) (yiconst X115 hx hby at_397 (z := (0 : Int32)) rfl (yicmpNo X115 hx hby at_398 (teq (by rw [if_neg (fun q => hwf ((Sm_iff hfk hgk).mp q))])).2 (yiconst X115 hx hby at_401 (z := (1 : Int32)) rfl (ygoto X115 hx hby at_402 406 (by decide) (by decide) (yistore X115 hx hby at_406 (L' := #[iv p0, iv p1, .val (.long q0), .second, .val (.long q1), .second, .val (.long q2), .second, iv sel, rv f, iv (Int32.ofNat (kk)), .val (.long (Int64.ofNat (w))), .second, rv g, rv o101, rv o102, rv t103, rv t104, iv (Int32.ofNat (107 + (dec m0).length + (dec m1).length + (dec m2).length + (dec m3).length + (dec m4).length + (dec m5).length + (dec m6).length + (dec m7).length + (dec m8).length)), iv 1, iv 1, .unset, .unset]) rfl (ynewobj X115 hx hby at_408 hZ hown (w8 hw) (w9 hw) (w10 hw) e115 (by first | decide | omega | (dsimp only; omega)) (by first | decide | omega | (dsimp only; omega)) fun T121 h121 b121 X121 e121 y121 Ex121 E121_b121 D121 => ?_))))))
    have O121 := O104.ext Ex121
    have K121 := Keep.ext K104 Ex121
    have hS := hS.ext Ex121
    have L121_r54 := L104_r54.ext Ex121
    have L121_r63 := L104_r63.ext Ex121
    have L121_r65 := L104_r65.ext Ex121
    have L121_r67 := L104_r67.ext Ex121
    have L121_r72 := L104_r72.ext Ex121
    have L121_r74 := L104_r74.ext Ex121
    have L121_r76 := L104_r76.ext Ex121
    have L121_r78 := L104_r78.ext Ex121
    have L121_r80 := L104_r80.ext Ex121
    have L121_r82 := L104_r82.ext Ex121
    have g121 : n0 ≤ b121 := by rw [y121]; exact zodsz O104
    have z121 : h0.size ≤ b121 := by rw [y121]; exact K104.1
    have F121_b121_threads : Fld Z h121 b121 "com/example/kick/kick/value/PoolMetrics" "threads" "I" (.int 0) := D121 (Or.inr (w37 hw)) (ty := .int) (by decide)
    have F121_b121_active : Fld Z h121 b121 "com/example/kick/kick/value/PoolMetrics" "active" "I" (.int 0) := D121 (Or.inr (w39 hw)) (ty := .int) (by decide)
    have F121_b121_queued : Fld Z h121 b121 "com/example/kick/kick/value/PoolMetrics" "queued" "I" (.int 0) := D121 (Or.inr (w41 hw)) (ty := .int) (by decide)
    have F121_b121_submitted : Fld Z h121 b121 "com/example/kick/kick/value/PoolMetrics" "submitted" "J" (.long 0) := D121 (Or.inr (w43 hw)) (ty := .long) (by decide)
    have F121_b121_completed : Fld Z h121 b121 "com/example/kick/kick/value/PoolMetrics" "completed" "J" (.long 0) := D121 (Or.inr (w45 hw)) (ty := .long) (by decide)
    have F121_b121_failed : Fld Z h121 b121 "com/example/kick/kick/value/PoolMetrics" "failed" "J" (.long 0) := D121 (Or.inr (w47 hw)) (ty := .long) (by decide)
    have F121_b121_rejected : Fld Z h121 b121 "com/example/kick/kick/value/PoolMetrics" "rejected" "J" (.long 0) := D121 (Or.inr (w49 hw)) (ty := .long) (by decide)
    have F121_b121_discarded : Fld Z h121 b121 "com/example/kick/kick/value/PoolMetrics" "discarded" "J" (.long 0) := D121 (Or.inr (w51 hw)) (ty := .long) (by decide)
    have F121_b121_callerRan : Fld Z h121 b121 "com/example/kick/kick/value/PoolMetrics" "callerRan" "J" (.long 0) := D121 (Or.inr (w53 hw)) (ty := .long) (by decide)
    show yEndsW p e below s0 T121 (mkF m 411 #[iv p0, iv p1, .val (.long q0), .second, .val (.long q1), .second, .val (.long q2), .second, iv sel, rv f, iv (Int32.ofNat (kk)), .val (.long (Int64.ofNat (w))), .second, rv g, rv o101, rv o102, rv t103, rv t104, iv (Int32.ofNat (107 + (dec m0).length + (dec m1).length + (dec m2).length + (dec m3).length + (dec m4).length + (dec m5).length + (dec m6).length + (dec m7).length + (dec m8).length)), iv 1, iv 1, .unset, .unset] [(.ref b121)]) _ _ _
    have ne121_r54 : r54 ≠ b121 := Nat.ne_of_lt (Nat.lt_of_lt_of_eq L104_r54.ltr y121.symm)
    have ne121_x54 : x54 ≠ b121 := Nat.ne_of_lt (Nat.lt_of_lt_of_eq L104_r54.ltx y121.symm)
    have ne121_r63 : r63 ≠ b121 := Nat.ne_of_lt (Nat.lt_of_lt_of_eq L104_r63.ltr y121.symm)
    have ne121_x63 : x63 ≠ b121 := Nat.ne_of_lt (Nat.lt_of_lt_of_eq L104_r63.ltx y121.symm)
    have ne121_r65 : r65 ≠ b121 := Nat.ne_of_lt (Nat.lt_of_lt_of_eq L104_r65.ltr y121.symm)
    have ne121_x65 : x65 ≠ b121 := Nat.ne_of_lt (Nat.lt_of_lt_of_eq L104_r65.ltx y121.symm)
    have ne121_r67 : r67 ≠ b121 := Nat.ne_of_lt (Nat.lt_of_lt_of_eq L104_r67.ltr y121.symm)
    have ne121_x67 : x67 ≠ b121 := Nat.ne_of_lt (Nat.lt_of_lt_of_eq L104_r67.ltx y121.symm)
    have ne121_r72 : r72 ≠ b121 := Nat.ne_of_lt (Nat.lt_of_lt_of_eq L104_r72.ltr y121.symm)
    have ne121_x72 : x72 ≠ b121 := Nat.ne_of_lt (Nat.lt_of_lt_of_eq L104_r72.ltx y121.symm)
    have ne121_r74 : r74 ≠ b121 := Nat.ne_of_lt (Nat.lt_of_lt_of_eq L104_r74.ltr y121.symm)
    have ne121_x74 : x74 ≠ b121 := Nat.ne_of_lt (Nat.lt_of_lt_of_eq L104_r74.ltx y121.symm)
    have ne121_r76 : r76 ≠ b121 := Nat.ne_of_lt (Nat.lt_of_lt_of_eq L104_r76.ltr y121.symm)
    have ne121_x76 : x76 ≠ b121 := Nat.ne_of_lt (Nat.lt_of_lt_of_eq L104_r76.ltx y121.symm)
    have ne121_r78 : r78 ≠ b121 := Nat.ne_of_lt (Nat.lt_of_lt_of_eq L104_r78.ltr y121.symm)
    have ne121_x78 : x78 ≠ b121 := Nat.ne_of_lt (Nat.lt_of_lt_of_eq L104_r78.ltx y121.symm)
    have ne121_r80 : r80 ≠ b121 := Nat.ne_of_lt (Nat.lt_of_lt_of_eq L104_r80.ltr y121.symm)
    have ne121_x80 : x80 ≠ b121 := Nat.ne_of_lt (Nat.lt_of_lt_of_eq L104_r80.ltx y121.symm)
    have ne121_r82 : r82 ≠ b121 := Nat.ne_of_lt (Nat.lt_of_lt_of_eq L104_r82.ltr y121.symm)
    have ne121_x82 : x82 ≠ b121 := Nat.ne_of_lt (Nat.lt_of_lt_of_eq L104_r82.ltx y121.symm)
    refine ydup X121 hx hby at_411 rfl (yiconst X121 hx hby at_412 (z := (1 : Int32)) rfl (yiconst X121 hx hby at_413 (z := (2 : Int32)) rfl (yiconst X121 hx hby at_414 (z := (3 : Int32)) rfl (yldc2J X121 hx hby at_415 (4 : Int64) hZ hown (w273 hw) (yldc2J X121 hx hby at_418 (5 : Int64) hZ hown (w274 hw) (yldc2J X121 hx hby at_421 (6 : Int64) hZ hown (w275 hw) (yldc2J X121 hx hby at_424 (7 : Int64) hZ hown (w276 hw) (yldc2J X121 hx hby at_427 (8 : Int64) hZ hown (w277 hw) (yldc2J X121 hx hby at_430 (9 : Int64) hZ hown (w278 hw) ?_)))))))))
    show yEndsW p e below s0 T121 (mkF m 433 #[iv p0, iv p1, .val (.long q0), .second, .val (.long q1), .second, .val (.long q2), .second, iv sel, rv f, iv (Int32.ofNat (kk)), .val (.long (Int64.ofNat (w))), .second, rv g, rv o101, rv o102, rv t103, rv t104, iv (Int32.ofNat (107 + (dec m0).length + (dec m1).length + (dec m2).length + (dec m3).length + (dec m4).length + (dec m5).length + (dec m6).length + (dec m7).length + (dec m8).length)), iv 1, iv 1, .unset, .unset] [(.long 9), (.long 8), (.long 7), (.long 6), (.long 5), (.long 4), (.int 3), (.int 2), (.int 1), (.ref b121), (.ref b121)]) _ _ _
    refine ycallspW X121 hx hby at_433 hZ hown rfl (w11 hw) (w12 hw) (w13 hw) (w10 hw) e121 hS (fun v1 hv => ⟨ibw hI hv, Q7.stays hv.wide, Q15.stays hv.wide, Q17.stays hv.wide, Q19.stays hv.wide, Q21.stays hv.wide, Q23.stays hv.wide, Q25.stays hv.wide, Q27.stays hv.wide, Q29.stays hv.wide⟩) (i_warm l hw C O121 b121 E121_b121 F121_b121_threads F121_b121_active F121_b121_queued F121_b121_submitted F121_b121_completed F121_b121_failed F121_b121_rejected F121_b121_discarded F121_b121_callerRan g121 (1) (2) (3) (4) (5) (6) (7) (8) (9) (by omega) (by omega) (by omega) (by omega) (by omega) (by omega) (by omega) (by omega) (by omega) _ r7 r15 r17 r19 r21 r23 r25 r27 r29) hml 1 pd_29 (argsL := [(.int 1), (.int 2), (.int 3), (.long 4), (.long 5), (.long 6), (.long 7), (.long 8), (.long 9)]) (st := [(.ref b121)]) fun v122 T122 h122 u122 L122 e122 X122 hZ hown hS hW122 q122 => ?_
    have Q7 := Q7.stays hW122
    have Q15 := Q15.stays hW122
    have Q17 := Q17.stays hW122
    have Q19 := Q19.stays hW122
    have Q21 := Q21.stays hW122
    have Q23 := Q23.stays hW122
    have Q25 := Q25.stays hW122
    have Q27 := Q27.stays hW122
    have Q29 := Q29.stays hW122
    have Q54 := Q54.stays hW122
    have Q63 := Q63.stays hW122
    have Q65 := Q65.stays hW122
    have Q67 := Q67.stays hW122
    have Q72 := Q72.stays hW122
    have Q74 := Q74.stays hW122
    have Q76 := Q76.stays hW122
    have Q78 := Q78.stays hW122
    have Q80 := Q80.stays hW122
    have Q82 := Q82.stays hW122
    obtain ⟨rfl, N122q, K122q, P122_o, hI⟩ := q122
    have O122 := O121.keep K122q (allS g121 all0)
    have K122 := Keep.trans K121 K122q (allS (Or.inr z121) all0)
    have L122_r54 := L121_r54.keep K122q (ninS ne121_r54 nin0) (ninS ne121_x54 nin0)
    have L122_r63 := L121_r63.keep K122q (ninS ne121_r63 nin0) (ninS ne121_x63 nin0)
    have L122_r65 := L121_r65.keep K122q (ninS ne121_r65 nin0) (ninS ne121_x65 nin0)
    have L122_r67 := L121_r67.keep K122q (ninS ne121_r67 nin0) (ninS ne121_x67 nin0)
    have L122_r72 := L121_r72.keep K122q (ninS ne121_r72 nin0) (ninS ne121_x72 nin0)
    have L122_r74 := L121_r74.keep K122q (ninS ne121_r74 nin0) (ninS ne121_x74 nin0)
    have L122_r76 := L121_r76.keep K122q (ninS ne121_r76 nin0) (ninS ne121_x76 nin0)
    have L122_r78 := L121_r78.keep K122q (ninS ne121_r78 nin0) (ninS ne121_x78 nin0)
    have L122_r80 := L121_r80.keep K122q (ninS ne121_r80 nin0) (ninS ne121_x80 nin0)
    have L122_r82 := L121_r82.keep K122q (ninS ne121_r82 nin0) (ninS ne121_x82 nin0)
    have N122 := Fr.app N104 N122q
    show yEndsW p e below s0 T122 (mkF m 436 #[iv p0, iv p1, .val (.long q0), .second, .val (.long q1), .second, .val (.long q2), .second, iv sel, rv f, iv (Int32.ofNat (kk)), .val (.long (Int64.ofNat (w))), .second, rv g, rv o101, rv o102, rv t103, rv t104, iv (Int32.ofNat (107 + (dec m0).length + (dec m1).length + (dec m2).length + (dec m3).length + (dec m4).length + (dec m5).length + (dec m6).length + (dec m7).length + (dec m8).length)), iv 1, iv 1, .unset, .unset] [(.ref b121)]) _ _ _
    refine ycallvW X122 hx hby at_436 hZ hown (w54 hw) (w55 hw) (notFace_of_selects (args := #[]) (mvT hZ (w57 hw))) (w57 hw) (w56 hw) (w58 hw) (w10 hw) e122 hS (fun v1 hv => ⟨ibw hI hv, Q54.stays hv.wide, Q63.stays hv.wide, Q65.stays hv.wide, Q67.stays hv.wide, Q72.stays hv.wide, Q74.stays hv.wide, Q76.stays hv.wide, Q78.stays hv.wide, Q80.stays hv.wide, Q82.stays hv.wide⟩) P122_o.1 (t_warm l hw C (zOd.up O122) (1) (2) (3) (4) (5) (6) (7) (8) (9) (by omega) (by omega) (by omega) (by omega) (by omega) (by omega) (by omega) (by omega) (by omega) rfl b121 P122_o _ r54 x54 r63 x63 r65 x65 r67 x67 r72 x72 r74 x74 r76 x76 r78 x78 r80 x80 r82 x82 L122_r54 L122_r63 L122_r65 L122_r67 L122_r72 L122_r74 L122_r76 L122_r78 L122_r80 L122_r82) hml 0 pd_28 (argsL := []) (st := []) fun v123 T123 h123 u123 L123 e123 X123 hZ hown hS hW123 q123 => ?_
    have Q7 := Q7.stays hW123
    have Q15 := Q15.stays hW123
    have Q17 := Q17.stays hW123
    have Q19 := Q19.stays hW123
    have Q21 := Q21.stays hW123
    have Q23 := Q23.stays hW123
    have Q25 := Q25.stays hW123
    have Q27 := Q27.stays hW123
    have Q29 := Q29.stays hW123
    have Q54 := Q54.stays hW123
    have Q63 := Q63.stays hW123
    have Q65 := Q65.stays hW123
    have Q67 := Q67.stays hW123
    have Q72 := Q72.stays hW123
    have Q74 := Q74.stays hW123
    have Q76 := Q76.stays hW123
    have Q78 := Q78.stays hW123
    have Q80 := Q80.stays hW123
    have Q82 := Q82.stays hW123
    obtain ⟨t123, x123, rfl, N123q, K123q, L123_s, yt123, yx123, hI⟩ := q123
    have O123 := O122.keep K123q all0
    have N123 := Fr.app N122 (Fr.down N123q (zodsz O122))
    have zt123 : h0.size ≤ t123 := Nat.le_trans K122.1 yt123
    show yEndsW p e below s0 T123 (mkF m 439 #[iv p0, iv p1, .val (.long q0), .second, .val (.long q1), .second, .val (.long q2), .second, iv sel, rv f, iv (Int32.ofNat (kk)), .val (.long (Int64.ofNat (w))), .second, rv g, rv o101, rv o102, rv t103, rv t104, iv (Int32.ofNat (107 + (dec m0).length + (dec m1).length + (dec m2).length + (dec m3).length + (dec m4).length + (dec m5).length + (dec m6).length + (dec m7).length + (dec m8).length)), iv 1, iv 1, .unset, .unset] [(.ref t123)]) _ _ _
    refine yastore X123 hx hby at_439 (hv := rfl) (L' := #[iv p0, iv p1, .val (.long q0), .second, .val (.long q1), .second, .val (.long q2), .second, iv sel, rv f, iv (Int32.ofNat (kk)), .val (.long (Int64.ofNat (w))), .second, rv g, rv o101, rv o102, rv t103, rv t104, iv (Int32.ofNat (107 + (dec m0).length + (dec m1).length + (dec m2).length + (dec m3).length + (dec m4).length + (dec m5).length + (dec m6).length + (dec m7).length + (dec m8).length)), iv 1, iv 1, rv t123, .unset]) rfl (yaload X123 hx hby at_441 rfl rfl (yldcC X123 hx hby at_443 hZ hown (w279 hw) (wS hw) e123 hS eh (hn0 ▸ N123) O0.2.2 hI (by decide +kernel) (hc _ (List.mem_of_getElem? (i := 19) rfl)) hcw t_19 tx_19 (by decide +kernel) 464 (fun v124 T124 h124 r93 x93 X124 e124 Ex124 hZ hown hS hW124 E124_r V124_r C124_r A124_x hI Q93 ww124 => ?_) (by decide +kernel) (by decide +kernel) (by first | decide | omega | (dsimp only; omega)) (by first | decide | omega | (dsimp only; omega))))
    have Q7 := Q7.stays hW124
    have Q15 := Q15.stays hW124
    have Q17 := Q17.stays hW124
    have Q19 := Q19.stays hW124
    have Q21 := Q21.stays hW124
    have Q23 := Q23.stays hW124
    have Q25 := Q25.stays hW124
    have Q27 := Q27.stays hW124
    have Q29 := Q29.stays hW124
    have Q54 := Q54.stays hW124
    have Q63 := Q63.stays hW124
    have Q65 := Q65.stays hW124
    have Q67 := Q67.stays hW124
    have Q72 := Q72.stays hW124
    have Q74 := Q74.stays hW124
    have Q76 := Q76.stays hW124
    have Q78 := Q78.stays hW124
    have Q80 := Q80.stays hW124
    have Q82 := Q82.stays hW124
    have O124 := O123.ext Ex124
    have L124_t123 := L123_s.ext Ex124
    have ne124_r93_t123 : r93 ≠ t123 := ww124.elim (fun q => Nat.ne_of_lt (Nat.lt_of_lt_of_le q.1 zt123)) (fun q => Nat.ne_of_gt (Nat.lt_of_lt_of_le L123_s.ltr q.1))
    have L124_r93 := (Sx.mk E124_r V124_r C124_r A124_x)
    show yEndsW p e below s0 T124 (mkF m 445 #[iv p0, iv p1, .val (.long q0), .second, .val (.long q1), .second, .val (.long q2), .second, iv sel, rv f, iv (Int32.ofNat (kk)), .val (.long (Int64.ofNat (w))), .second, rv g, rv o101, rv o102, rv t103, rv t104, iv (Int32.ofNat (107 + (dec m0).length + (dec m1).length + (dec m2).length + (dec m3).length + (dec m4).length + (dec m5).length + (dec m6).length + (dec m7).length + (dec m8).length)), iv 1, iv 1, rv t123, .unset] [(.ref r93), (.ref t123)]) _ _ _
    refine ycallv X124 hx hby at_445 hZ hown (w263 hw) (w264 hw) (notFace_of_selects (args := #[]) (mvT hZ (w266 hw))) (w266 hw) (w265 hw) (w267 hw) (w18 hw) e124 L124_t123.1 (c_eq l hw  C O124 t123 x123 (Sm 1 2 3 4 5 6 7 8 9) L124_t123 r93 x93 t_19 L124_r93 (Ne.symm ne124_r93_t123) (by omega) (by omega)) hml 0 pd_31 (argsL := [(.ref r93)]) (st := []) (ypureK ⟨rfl, rfl⟩ fun T125 X125 e125 => ?_)
    show yEndsW p e below s0 T125 (mkF m 448 #[iv p0, iv p1, .val (.long q0), .second, .val (.long q1), .second, .val (.long q2), .second, iv sel, rv f, iv (Int32.ofNat (kk)), .val (.long (Int64.ofNat (w))), .second, rv g, rv o101, rv o102, rv t103, rv t104, iv (Int32.ofNat (107 + (dec m0).length + (dec m1).length + (dec m2).length + (dec m3).length + (dec m4).length + (dec m5).length + (dec m6).length + (dec m7).length + (dec m8).length)), iv 1, iv 1, rv t123, .unset] [(.int (if (Sm 1 2 3 4 5 6 7 8 9) = t_19 then (1 : Int32) else 0))]) _ _ _
    refine yistore X125 hx hby at_448 (L' := #[iv p0, iv p1, .val (.long q0), .second, .val (.long q1), .second, .val (.long q2), .second, iv sel, rv f, iv (Int32.ofNat (kk)), .val (.long (Int64.ofNat (w))), .second, rv g, rv o101, rv o102, rv t103, rv t104, iv (Int32.ofNat (107 + (dec m0).length + (dec m1).length + (dec m2).length + (dec m3).length + (dec m4).length + (dec m5).length + (dec m6).length + (dec m7).length + (dec m8).length)), iv 1, iv 1, rv t123, iv (if (Sm 1 2 3 4 5 6 7 8 9) = t_19 then (1 : Int32) else 0)]) rfl (yiload X125 hx hby at_450 rfl (yifNo X125 hx hby at_452 (by decide) (yiload X125 hx hby at_455 rfl (yifNo X125 hx hby at_457 (by decide) (yiload X125 hx hby at_460 rfl (yifNo X125 hx hby at_462 ((if0 _ _).trans (feq (by rw [if_pos Sm_exact]; decide)).1) (yiconst X125 hx hby at_465 (z := (1 : Int32)) rfl (ygoto X125 hx hby at_466 470 (by decide) (by decide) ?_))))))))
    show yEndsW p e below s0 T125 (mkF m 470 #[iv p0, iv p1, .val (.long q0), .second, .val (.long q1), .second, .val (.long q2), .second, iv sel, rv f, iv (Int32.ofNat (kk)), .val (.long (Int64.ofNat (w))), .second, rv g, rv o101, rv o102, rv t103, rv t104, iv (Int32.ofNat (107 + (dec m0).length + (dec m1).length + (dec m2).length + (dec m3).length + (dec m4).length + (dec m5).length + (dec m6).length + (dec m7).length + (dec m8).length)), iv 1, iv 1, rv t123, iv (if (Sm 1 2 3 4 5 6 7 8 9) = t_19 then (1 : Int32) else 0)] [(.int 1)]) _ _ _
    exact yretZ X125 hx hby at_470 hret hlk e125 hS (by simp) rfl (by first | decide | omega | (dsimp only; omega)) (by first | decide | omega | (dsimp only; omega)) (fun v1 hv => ⟨rfl, N123⟩)
theorem w0 (hw : HW a0 Z) : (Cond.arrayClass FieldType.long).before a0 Z = true := hwi hw 0 rfl
theorem w1 (hw : HW a0 Z) : (Cond.constant "com/example/kick/kick/value/PoolMetricsToStringPinLaw" 48 (2147483647 : Int32)).before a0 Z = true := hwi hw 1 rfl
theorem w2 (hw : HW a0 Z) : (Cond.constantLong "com/example/kick/kick/value/PoolMetricsToStringPinLaw" 51 (9223372036854775807 : Int64)).before a0 Z = true := hwi hw 2 rfl
theorem w3 (hw : HW a0 Z) : (Cond.constantLong "com/example/kick/kick/value/PoolMetricsToStringPinLaw" 53 (31 : Int64)).before a0 Z = true := hwi hw 3 rfl
theorem w281 (hw : HW a0 Z) : (Cond.constantLong "com/example/kick/kick/value/PoolMetricsToStringPinLaw" 55 (2147483647 : Int64)).before a0 Z = true := hwi hw 281 rfl
theorem andW (x : Int64) : ∃ n, n < 2147483648 ∧ x &&& 2147483647 = Int64.ofNat n := by
  have b : (x &&& 2147483647).toBitVec.toNat < 2147483648 := by
    rw [Int64.toBitVec_and, BitVec.toNat_and]
    exact Nat.lt_of_le_of_lt Nat.and_le_right (by decide)
  refine ⟨_, b, ?_⟩
  apply Int64.toInt_inj.mp
  rw [ofL_toInt (by omega)]
  exact BitVec.toInt_eq_toNat_of_lt (by omega)
theorem rem9 (x : Int32) : ∃ k, k < 9 ∧ (x &&& 255) % 9 = Int32.ofNat k := by
  have h0 := (c_and x 255 (by decide)).1
  have p := (c_irem (x &&& 255) 9 9 rfl).1 h0
  refine ⟨((x &&& 255) % 9).toInt.toNat, by rw [p]; omega, ?_⟩
  apply Int32.toInt_inj.mp
  rw [zofN_toInt (by rw [p]; omega), p]; omega
theorem pickF {m0 m1 m2 m3 m4 m5 m6 m7 m8 kk : Nat} (hk : kk < 9) (hm0 : m0 < 2147483648) (hm1 : m1 < 2147483648) (hm2 : m2 < 2147483648) (hm3 : m3 < 9223372036854775808) (hm4 : m4 < 9223372036854775808) (hm5 : m5 < 9223372036854775808) (hm6 : m6 < 9223372036854775808) (hm7 : m7 < 9223372036854775808) (hm8 : m8 < 9223372036854775808) : ∃ fk, [m0, m1, m2, m3, m4, m5, m6, m7, m8][kk]? = some fk ∧ fk < 9223372036854775808 ∧ (kk < 3 → fk < 2147483648) := by
  have q : kk = 0 ∨ kk = 1 ∨ kk = 2 ∨ kk = 3 ∨ kk = 4 ∨ kk = 5 ∨ kk = 6 ∨ kk = 7 ∨ kk = 8 := by omega
  rcases q with rfl | rfl | rfl | rfl | rfl | rfl | rfl | rfl | rfl <;> exact ⟨_, rfl, by omega, by omega⟩
theorem pickG {m0 m1 m2 m3 m4 m5 m6 m7 m8 kk w : Nat} (hk : kk < 9) (hm0 : m0 < 2147483648) (hm1 : m1 < 2147483648) (hm2 : m2 < 2147483648) (hm3 : m3 < 9223372036854775808) (hm4 : m4 < 9223372036854775808) (hm5 : m5 < 9223372036854775808) (hm6 : m6 < 9223372036854775808) (hm7 : m7 < 9223372036854775808) (hm8 : m8 < 9223372036854775808) (hw : w < 9223372036854775808) (h3 : kk < 3 → w < 2147483648) : ∃ g0 g1 g2 g3 g4 g5 g6 g7 g8, g0 < 2147483648 ∧ g1 < 2147483648 ∧ g2 < 2147483648 ∧ g3 < 9223372036854775808 ∧ g4 < 9223372036854775808 ∧ g5 < 9223372036854775808 ∧ g6 < 9223372036854775808 ∧ g7 < 9223372036854775808 ∧ g8 < 9223372036854775808 ∧ [g0, g1, g2, g3, g4, g5, g6, g7, g8] = [m0, m1, m2, m3, m4, m5, m6, m7, m8].set kk w := by
  have q : kk = 0 ∨ kk = 1 ∨ kk = 2 ∨ kk = 3 ∨ kk = 4 ∨ kk = 5 ∨ kk = 6 ∨ kk = 7 ∨ kk = 8 := by omega
  rcases q with rfl | rfl | rfl | rfl | rfl | rfl | rfl | rfl | rfl <;> exact ⟨_, _, _, _, _, _, _, _, _, by omega, by omega, by omega, by omega, by omega, by omega, by omega, by omega, by omega, rfl⟩
theorem mid {p : Program} {l : Launch} {e : Env} {s0 : State} {v0 : Vm} {m : MethodId} {args : Array Value} {below : List Frame} {meth : Method} {c : Code} {T1 : State} {locs : List Loc} {Z : State} {a0 : Array Value} {h0 h1 : Heap} {n0 : Nat} {cs : Int32} {d1 d2 : Addr} {o1 o2 : List Int8} {p0 p1 sel : Int32} {q0 q1 q2 : Int64} {f : Addr} (X1 : Stand p l e room_1 (s0.setVm v0) m args below meth c T1 locs 1 9) (hx : p.tables.exec = Jvm.exec) (hZ : Z.Warmed39 v0) (hw : HW a0 Z) (hby : c.code = code) (hml : c.maxLocals = 23) (hown : v0.findClass "com/example/kick/kick/value/PoolMetricsToStringPinLaw" = some m.cls) (hret : meth.sig.returnType = some .boolean) (hlk : meth.locks = false) (C : Ctx Z cs d1 d2 o1 o2) (e1 : T1.heap = h1) (O0 : zOd Z n0 h0) (O1 : zOd Z n0 h1) (K1 : Keep h0 h1 []) (N1 : Fr n0 locs) (hn0 : n0 = h0.size) (hS : ySin s0 v0 h1) (eh : s0.heap = h0) (hI : IB Z v0 []) (hc : ∀ q ∈ consts_1, Jvm.Lit.constHeld Z q.1 q.2) (hcw : Jvm.Lit.compactW.before a0 Z = true) (m0 m1 m2 m3 m4 m5 m6 m7 m8 : Nat) (hm0 : m0 < 2147483648) (hm1 : m1 < 2147483648) (hm2 : m2 < 2147483648) (hm3 : m3 < 9223372036854775808) (hm4 : m4 < 9223372036854775808) (hm5 : m5 < 9223372036854775808) (hm6 : m6 < 9223372036854775808) (hm7 : m7 < 9223372036854775808) (hm8 : m8 < 9223372036854775808) (kk w fk : Nat) (hk : kk < 9) (hw_ : w < 9223372036854775808) (h3 : kk < 3 → w < 2147483648) (hfkb : fk < 9223372036854775808) (hfk : [m0, m1, m2, m3, m4, m5, m6, m7, m8][kk]? = some fk) (A_f : zLst Z h1 f .long [(.long (Int64.ofNat (m0))), (.long (Int64.ofNat (m1))), (.long (Int64.ofNat (m2))), (.long (Int64.ofNat (m3))), (.long (Int64.ofNat (m4))), (.long (Int64.ofNat (m5))), (.long (Int64.ofNat (m6))), (.long (Int64.ofNat (m7))), (.long (Int64.ofNat (m8)))]) : yEndsW p e below s0 T1 (mkF m 160 #[iv p0, iv p1, .val (.long q0), .second, .val (.long q1), .second, .val (.long q2), .second, iv sel, rv f, iv (Int32.ofNat (kk)), .val (.long (Int64.ofNat (w))), .second, .unset, .unset, .unset, .unset, .unset, .unset, .unset, .unset, .unset, .unset] []) room_1.cells room_1.slots (fun v' v h L => v' = some (.int 1) ∧ Fr n0 L) := by
  refine ybipush X1 hx hby at_160 (z := (9 : Int32)) rfl (ynewprim X1 hx hby at_162 hZ (w0 hw) e1 (by decide) 9 (by decide) (by decide) (by decide) (by decide) fun T101 h101 b101 X101 e101 y101 Ex101 A101_b101 => ?_)
  change zLst Z h101 b101 .long [(.long 0), (.long 0), (.long 0), (.long 0), (.long 0), (.long 0), (.long 0), (.long 0), (.long 0)] at A101_b101
  have A101_f := A_f.ext Ex101
  have O101 := O1.ext Ex101
  have K101 := Keep.ext K1 Ex101
  have hS := hS.ext Ex101
  have ne101_f : f ≠ b101 := Nat.ne_of_lt (Nat.lt_of_lt_of_eq A_f.lt y101.symm)
  have g101 : n0 ≤ b101 := by rw [y101]; exact zodsz O1
  have z101 : h0.size ≤ b101 := by rw [y101]; exact K1.1
  refine yastore X101 hx hby at_164 (hv := rfl) (L' := #[iv p0, iv p1, .val (.long q0), .second, .val (.long q1), .second, .val (.long q2), .second, iv sel, rv f, iv (Int32.ofNat (kk)), .val (.long (Int64.ofNat (w))), .second, rv b101, .unset, .unset, .unset, .unset, .unset, .unset, .unset, .unset, .unset]) rfl (yaload X101 hx hby at_166 rfl rfl (yiconst X101 hx hby at_168 (z := (0 : Int32)) rfl (yaload X101 hx hby at_169 rfl rfl (yiconst X101 hx hby at_171 (z := (0 : Int32)) rfl (ylaload X101 hx hby at_172 hZ e101 A101_f (by decide) (v := (.long (Int64.ofNat (m0)))) rfl (ylastore X101 hx hby at_173 hZ e101 A101_b101 (by decide) (by show Int32.toNatClampNeg 0 < 9; decide) fun T102 h102 X102 e102 W102 A102_b101 => ?_))))))
  change zLst Z h102 b101 .long [(.long (Int64.ofNat (m0))), (.long 0), (.long 0), (.long 0), (.long 0), (.long 0), (.long 0), (.long 0), (.long 0)] at A102_b101
  have A102_f := A101_f.other W102 ne101_f
  have hS := hS.wr W102
  have O102 := O101.wr W102 g101
  have K102 := Keep.wr K101 W102 (Or.inr z101)
  have N102 := Fr.snoc X102 N1 g101
  refine yaload X102 hx hby at_174 rfl rfl (yiconst X102 hx hby at_176 (z := (1 : Int32)) rfl (yaload X102 hx hby at_177 rfl rfl (yiconst X102 hx hby at_179 (z := (1 : Int32)) rfl (ylaload X102 hx hby at_180 hZ e102 A102_f (by decide) (v := (.long (Int64.ofNat (m1)))) rfl (ylastore X102 hx hby at_181 hZ e102 A102_b101 (by decide) (by show Int32.toNatClampNeg 1 < 9; decide) fun T103 h103 X103 e103 W103 A103_b101 => ?_)))))
  change zLst Z h103 b101 .long [(.long (Int64.ofNat (m0))), (.long (Int64.ofNat (m1))), (.long 0), (.long 0), (.long 0), (.long 0), (.long 0), (.long 0), (.long 0)] at A103_b101
  have A103_f := A102_f.other W103 ne101_f
  have hS := hS.wr W103
  have O103 := O102.wr W103 g101
  have K103 := Keep.wr K102 W103 (Or.inr z101)
  have N103 := Fr.snoc X103 N102 g101
  refine yaload X103 hx hby at_182 rfl rfl (yiconst X103 hx hby at_184 (z := (2 : Int32)) rfl (yaload X103 hx hby at_185 rfl rfl (yiconst X103 hx hby at_187 (z := (2 : Int32)) rfl (ylaload X103 hx hby at_188 hZ e103 A103_f (by decide) (v := (.long (Int64.ofNat (m2)))) rfl (ylastore X103 hx hby at_189 hZ e103 A103_b101 (by decide) (by show Int32.toNatClampNeg 2 < 9; decide) fun T104 h104 X104 e104 W104 A104_b101 => ?_)))))
  change zLst Z h104 b101 .long [(.long (Int64.ofNat (m0))), (.long (Int64.ofNat (m1))), (.long (Int64.ofNat (m2))), (.long 0), (.long 0), (.long 0), (.long 0), (.long 0), (.long 0)] at A104_b101
  have A104_f := A103_f.other W104 ne101_f
  have hS := hS.wr W104
  have O104 := O103.wr W104 g101
  have K104 := Keep.wr K103 W104 (Or.inr z101)
  have N104 := Fr.snoc X104 N103 g101
  refine yaload X104 hx hby at_190 rfl rfl (yiconst X104 hx hby at_192 (z := (3 : Int32)) rfl (yaload X104 hx hby at_193 rfl rfl (yiconst X104 hx hby at_195 (z := (3 : Int32)) rfl (ylaload X104 hx hby at_196 hZ e104 A104_f (by decide) (v := (.long (Int64.ofNat (m3)))) rfl (ylastore X104 hx hby at_197 hZ e104 A104_b101 (by decide) (by show Int32.toNatClampNeg 3 < 9; decide) fun T105 h105 X105 e105 W105 A105_b101 => ?_)))))
  change zLst Z h105 b101 .long [(.long (Int64.ofNat (m0))), (.long (Int64.ofNat (m1))), (.long (Int64.ofNat (m2))), (.long (Int64.ofNat (m3))), (.long 0), (.long 0), (.long 0), (.long 0), (.long 0)] at A105_b101
  have A105_f := A104_f.other W105 ne101_f
  have hS := hS.wr W105
  have O105 := O104.wr W105 g101
  have K105 := Keep.wr K104 W105 (Or.inr z101)
  have N105 := Fr.snoc X105 N104 g101
  refine yaload X105 hx hby at_198 rfl rfl (yiconst X105 hx hby at_200 (z := (4 : Int32)) rfl (yaload X105 hx hby at_201 rfl rfl (yiconst X105 hx hby at_203 (z := (4 : Int32)) rfl (ylaload X105 hx hby at_204 hZ e105 A105_f (by decide) (v := (.long (Int64.ofNat (m4)))) rfl (ylastore X105 hx hby at_205 hZ e105 A105_b101 (by decide) (by show Int32.toNatClampNeg 4 < 9; decide) fun T106 h106 X106 e106 W106 A106_b101 => ?_)))))
  change zLst Z h106 b101 .long [(.long (Int64.ofNat (m0))), (.long (Int64.ofNat (m1))), (.long (Int64.ofNat (m2))), (.long (Int64.ofNat (m3))), (.long (Int64.ofNat (m4))), (.long 0), (.long 0), (.long 0), (.long 0)] at A106_b101
  have A106_f := A105_f.other W106 ne101_f
  have hS := hS.wr W106
  have O106 := O105.wr W106 g101
  have K106 := Keep.wr K105 W106 (Or.inr z101)
  have N106 := Fr.snoc X106 N105 g101
  show yEndsW p e below s0 T106 (mkF m 206 #[iv p0, iv p1, .val (.long q0), .second, .val (.long q1), .second, .val (.long q2), .second, iv sel, rv f, iv (Int32.ofNat (kk)), .val (.long (Int64.ofNat (w))), .second, rv b101, .unset, .unset, .unset, .unset, .unset, .unset, .unset, .unset, .unset] []) _ _ _
  refine yaload X106 hx hby at_206 rfl rfl (yiconst X106 hx hby at_208 (z := (5 : Int32)) rfl (yaload X106 hx hby at_209 rfl rfl (yiconst X106 hx hby at_211 (z := (5 : Int32)) rfl (ylaload X106 hx hby at_212 hZ e106 A106_f (by decide) (v := (.long (Int64.ofNat (m5)))) rfl (ylastore X106 hx hby at_213 hZ e106 A106_b101 (by decide) (by show Int32.toNatClampNeg 5 < 9; decide) fun T107 h107 X107 e107 W107 A107_b101 => ?_)))))
  change zLst Z h107 b101 .long [(.long (Int64.ofNat (m0))), (.long (Int64.ofNat (m1))), (.long (Int64.ofNat (m2))), (.long (Int64.ofNat (m3))), (.long (Int64.ofNat (m4))), (.long (Int64.ofNat (m5))), (.long 0), (.long 0), (.long 0)] at A107_b101
  have A107_f := A106_f.other W107 ne101_f
  have hS := hS.wr W107
  have O107 := O106.wr W107 g101
  have K107 := Keep.wr K106 W107 (Or.inr z101)
  have N107 := Fr.snoc X107 N106 g101
  refine yaload X107 hx hby at_214 rfl rfl (ybipush X107 hx hby at_216 (z := (6 : Int32)) rfl (yaload X107 hx hby at_218 rfl rfl (ybipush X107 hx hby at_220 (z := (6 : Int32)) rfl (ylaload X107 hx hby at_222 hZ e107 A107_f (by decide) (v := (.long (Int64.ofNat (m6)))) rfl (ylastore X107 hx hby at_223 hZ e107 A107_b101 (by decide) (by show Int32.toNatClampNeg 6 < 9; decide) fun T108 h108 X108 e108 W108 A108_b101 => ?_)))))
  change zLst Z h108 b101 .long [(.long (Int64.ofNat (m0))), (.long (Int64.ofNat (m1))), (.long (Int64.ofNat (m2))), (.long (Int64.ofNat (m3))), (.long (Int64.ofNat (m4))), (.long (Int64.ofNat (m5))), (.long (Int64.ofNat (m6))), (.long 0), (.long 0)] at A108_b101
  have A108_f := A107_f.other W108 ne101_f
  have hS := hS.wr W108
  have O108 := O107.wr W108 g101
  have K108 := Keep.wr K107 W108 (Or.inr z101)
  have N108 := Fr.snoc X108 N107 g101
  refine yaload X108 hx hby at_224 rfl rfl (ybipush X108 hx hby at_226 (z := (7 : Int32)) rfl (yaload X108 hx hby at_228 rfl rfl (ybipush X108 hx hby at_230 (z := (7 : Int32)) rfl (ylaload X108 hx hby at_232 hZ e108 A108_f (by decide) (v := (.long (Int64.ofNat (m7)))) rfl (ylastore X108 hx hby at_233 hZ e108 A108_b101 (by decide) (by show Int32.toNatClampNeg 7 < 9; decide) fun T109 h109 X109 e109 W109 A109_b101 => ?_)))))
  change zLst Z h109 b101 .long [(.long (Int64.ofNat (m0))), (.long (Int64.ofNat (m1))), (.long (Int64.ofNat (m2))), (.long (Int64.ofNat (m3))), (.long (Int64.ofNat (m4))), (.long (Int64.ofNat (m5))), (.long (Int64.ofNat (m6))), (.long (Int64.ofNat (m7))), (.long 0)] at A109_b101
  have A109_f := A108_f.other W109 ne101_f
  have hS := hS.wr W109
  have O109 := O108.wr W109 g101
  have K109 := Keep.wr K108 W109 (Or.inr z101)
  have N109 := Fr.snoc X109 N108 g101
  refine yaload X109 hx hby at_234 rfl rfl (ybipush X109 hx hby at_236 (z := (8 : Int32)) rfl (yaload X109 hx hby at_238 rfl rfl (ybipush X109 hx hby at_240 (z := (8 : Int32)) rfl (ylaload X109 hx hby at_242 hZ e109 A109_f (by decide) (v := (.long (Int64.ofNat (m8)))) rfl (ylastore X109 hx hby at_243 hZ e109 A109_b101 (by decide) (by show Int32.toNatClampNeg 8 < 9; decide) fun T110 h110 X110 e110 W110 A110_b101 => ?_)))))
  change zLst Z h110 b101 .long [(.long (Int64.ofNat (m0))), (.long (Int64.ofNat (m1))), (.long (Int64.ofNat (m2))), (.long (Int64.ofNat (m3))), (.long (Int64.ofNat (m4))), (.long (Int64.ofNat (m5))), (.long (Int64.ofNat (m6))), (.long (Int64.ofNat (m7))), (.long (Int64.ofNat (m8)))] at A110_b101
  have A110_f := A109_f.other W110 ne101_f
  have hS := hS.wr W110
  have O110 := O109.wr W110 g101
  have K110 := Keep.wr K109 W110 (Or.inr z101)
  have N110 := Fr.snoc X110 N109 g101
  refine yaload X110 hx hby at_244 rfl rfl (yiload X110 hx hby at_246 rfl (ylload X110 hx hby at_248 rfl (ylastore X110 hx hby at_250 hZ e110 A110_b101 (zofN_nn (by omega)) (by rw [zofN_clamp (by omega)]; exact hk) fun T111 h111 X111 e111 W111 A111_b101 => ?_)))
  have A111_f := A110_f.other W111 ne101_f
  have hS := hS.wr W111
  have O111 := O110.wr W111 g101
  have K111 := Keep.wr K110 W111 (Or.inr z101)
  have N111 := Fr.snoc X111 N110 g101
  obtain ⟨g0, g1, g2, g3, g4, g5, g6, g7, g8, hg0, hg1, hg2, hg3, hg4, hg5, hg6, hg7, hg8, hgk⟩ := pickG (w := w) hk hm0 hm1 hm2 hm3 hm4 hm5 hm6 hm7 hm8 (by omega) (by omega)
  have A_g : zLst Z h111 b101 .long [(.long (Int64.ofNat (g0))), (.long (Int64.ofNat (g1))), (.long (Int64.ofNat (g2))), (.long (Int64.ofNat (g3))), (.long (Int64.ofNat (g4))), (.long (Int64.ofNat (g5))), (.long (Int64.ofNat (g6))), (.long (Int64.ofNat (g7))), (.long (Int64.ofNat (g8)))] := by
    have r : ([(.long (Int64.ofNat (g0))), (.long (Int64.ofNat (g1))), (.long (Int64.ofNat (g2))), (.long (Int64.ofNat (g3))), (.long (Int64.ofNat (g4))), (.long (Int64.ofNat (g5))), (.long (Int64.ofNat (g6))), (.long (Int64.ofNat (g7))), (.long (Int64.ofNat (g8)))] : List Value) = [(.long (Int64.ofNat (m0))), (.long (Int64.ofNat (m1))), (.long (Int64.ofNat (m2))), (.long (Int64.ofNat (m3))), (.long (Int64.ofNat (m4))), (.long (Int64.ofNat (m5))), (.long (Int64.ofNat (m6))), (.long (Int64.ofNat (m7))), (.long (Int64.ofNat (m8)))].set kk (.long (Int64.ofNat (w))) := by
      have r := congrArg (List.map fun n => Value.long (Int64.ofNat n)) hgk
      rw [List.map_set] at r
      exact r
    have q := A111_b101
    rw [zofN_clamp (by omega)] at q
    rw [r]; exact q
  exact tail X111 hx hZ hw hby hml hown hret hlk C e111 O0 O111 K111 N111 hn0 hS eh hI hc hcw m0 m1 m2 m3 m4 m5 m6 m7 m8 hm0 hm1 hm2 hm3 hm4 hm5 hm6 hm7 hm8 g0 g1 g2 g3 g4 g5 g6 g7 g8 hg0 hg1 hg2 hg3 hg4 hg5 hg6 hg7 hg8 kk (w) fk hk (by omega) hfkb hfk hgk A111_f A_g
theorem rm0 (hw : HW a0 Z) (C : Ctx Z cs d1 d2 o1 o2) (O0 : zOd Z n0 h0) (hc : ∀ q ∈ consts_1, Jvm.Lit.constHeld Z q.1 q.2) (hcw : Jvm.Lit.compactW.before a0 Z = true) (hn0 : n0 = h0.size) (p0 p1 : Int32) (q0 q1 q2 : Int64) (sel : Int32) : yConW l Z x code maxLocals ret tables_1 room_1 #[(.int p0), (.int p1), (.long q0), (.long q1), (.long q2), (.int sel)] (fun v => IB Z v []) h0 (fun v' v h L => v' = some (.int 1) ∧ Fr n0 L) := by
  refine yenterW (plainFor_of_name pn_8) (L0 := #[iv p0, iv p1, .val (.long q0), .second, .val (.long q1), .second, .val (.long q2), .second, iv sel, .unset, .unset, .unset, .unset, .unset, .unset, .unset, .unset, .unset, .unset, .unset, .unset, .unset, .unset]) (fun m => by first | (simp [entryFrame, mkF, argsToLocals, Value.category, maxLocals]; done) | rfl) ?_
  intro p e s0 v0 m below meth c T0 hx hZ hby hml hown0 hnm hret hlk X0 e0 hS eh hP
  have hown : v0.findClass "com/example/kick/kick/value/PoolMetricsToStringPinLaw" = some m.cls := hown0
  have K0 := Keep.refl h0 []
  have N0 := Fr.nil n0
  obtain ⟨m0, hm0, a_0⟩ := andI p0
  obtain ⟨m1, hm1, a_1⟩ := andI p1
  obtain ⟨m2, hm2, a_2⟩ := andI (p0 ^^^ p1)
  obtain ⟨m3, hm3, a_3⟩ := andL q0
  obtain ⟨m4, hm4, a_4⟩ := andL q1
  obtain ⟨m5, hm5, a_5⟩ := andL q2
  obtain ⟨m6, hm6, a_6⟩ := andL (q0 ^^^ q1)
  obtain ⟨m7, hm7, a_7⟩ := andL (q1 ^^^ q2)
  obtain ⟨m8, hm8, a_8⟩ := andL (q0 ^^^ q2)
  obtain ⟨wn, hwn, a_w⟩ := andL (q0 * 31 + q2)
  obtain ⟨wm, hwm, a_wm⟩ := andW (Int64.ofNat wn)
  obtain ⟨kk, hk, a_k⟩ := rem9 sel
  obtain ⟨fk, hfk, hfkb, hfk3⟩ := pickF hk hm0 hm1 hm2 hm3 hm4 hm5 hm6 hm7 hm8
  have fkv : ([(.long (Int64.ofNat (m0))), (.long (Int64.ofNat (m1))), (.long (Int64.ofNat (m2))), (.long (Int64.ofNat (m3))), (.long (Int64.ofNat (m4))), (.long (Int64.ofNat (m5))), (.long (Int64.ofNat (m6))), (.long (Int64.ofNat (m7))), (.long (Int64.ofNat (m8)))] : List Value)[kk]? = some (.long (Int64.ofNat (fk))) := by
    have q := congrArg (Option.map fun n => Value.long (Int64.ofNat n)) hfk
    rw [← List.getElem?_map] at q
    exact q
  have hI := hP
  show yEndsW p e below s0 T0 (mkF m 0 #[iv p0, iv p1, .val (.long q0), .second, .val (.long q1), .second, .val (.long q2), .second, iv sel, .unset, .unset, .unset, .unset, .unset, .unset, .unset, .unset, .unset, .unset, .unset, .unset, .unset, .unset] []) _ _ _
  refine ybipush X0 hx hby at_0 (z := (9 : Int32)) rfl (ynewprim X0 hx hby at_2 hZ (w0 hw) e0 (by decide) 9 (by decide) (by decide) (by decide) (by decide) fun T1 h1 b1 X1 e1 y1 Ex1 A1_b1 => ?_)
  change zLst Z h1 b1 .long [(.long 0), (.long 0), (.long 0), (.long 0), (.long 0), (.long 0), (.long 0), (.long 0), (.long 0)] at A1_b1
  have O1 := O0.ext Ex1
  have K1 := Keep.ext K0 Ex1
  have hS := hS.ext Ex1
  have g1 : n0 ≤ b1 := by rw [y1]; exact zodsz O0
  have z1 : h0.size ≤ b1 := by rw [y1]; exact K0.1
  refine yastore X1 hx hby at_4 (hv := rfl) (L' := #[iv p0, iv p1, .val (.long q0), .second, .val (.long q1), .second, .val (.long q2), .second, iv sel, rv b1, .unset, .unset, .unset, .unset, .unset, .unset, .unset, .unset, .unset, .unset, .unset, .unset, .unset]) rfl (yaload X1 hx hby at_6 rfl rfl (yiconst X1 hx hby at_8 (z := (0 : Int32)) rfl (yiloadN X1 hx hby at_9 rfl (yldcI X1 hx hby at_10 (2147483647 : Int32) hZ hown (w1 hw) (yiand X1 hx hby at_12 (Int32.ofNat (m0)) a_0 (yi2l X1 hx hby at_13 (Int64.ofNat (m0)) (i2l_ofN (by omega)) (ylastore X1 hx hby at_14 hZ e1 A1_b1 (by decide) (by show Int32.toNatClampNeg 0 < 9; decide) fun T2 h2 X2 e2 W2 A2_b1 => ?_)))))))
  change zLst Z h2 b1 .long [(.long (Int64.ofNat (m0))), (.long 0), (.long 0), (.long 0), (.long 0), (.long 0), (.long 0), (.long 0), (.long 0)] at A2_b1
  have hS := hS.wr W2
  have O2 := O1.wr W2 g1
  have K2 := Keep.wr K1 W2 (Or.inr z1)
  have N2 := Fr.snoc X2 N0 g1
  refine yaload X2 hx hby at_15 rfl rfl (yiconst X2 hx hby at_17 (z := (1 : Int32)) rfl (yiloadN X2 hx hby at_18 rfl (yldcI X2 hx hby at_19 (2147483647 : Int32) hZ hown (w1 hw) (yiand X2 hx hby at_21 (Int32.ofNat (m1)) a_1 (yi2l X2 hx hby at_22 (Int64.ofNat (m1)) (i2l_ofN (by omega)) (ylastore X2 hx hby at_23 hZ e2 A2_b1 (by decide) (by show Int32.toNatClampNeg 1 < 9; decide) fun T3 h3 X3 e3 W3 A3_b1 => ?_))))))
  change zLst Z h3 b1 .long [(.long (Int64.ofNat (m0))), (.long (Int64.ofNat (m1))), (.long 0), (.long 0), (.long 0), (.long 0), (.long 0), (.long 0), (.long 0)] at A3_b1
  have hS := hS.wr W3
  have O3 := O2.wr W3 g1
  have K3 := Keep.wr K2 W3 (Or.inr z1)
  have N3 := Fr.snoc X3 N2 g1
  refine yaload X3 hx hby at_24 rfl rfl (yiconst X3 hx hby at_26 (z := (2 : Int32)) rfl (yiloadN X3 hx hby at_27 rfl (yiloadN X3 hx hby at_28 rfl (yixor X3 hx hby at_29 (p0 ^^^ p1) rfl (yldcI X3 hx hby at_30 (2147483647 : Int32) hZ hown (w1 hw) (yiand X3 hx hby at_32 (Int32.ofNat (m2)) a_2 (yi2l X3 hx hby at_33 (Int64.ofNat (m2)) (i2l_ofN (by omega)) (ylastore X3 hx hby at_34 hZ e3 A3_b1 (by decide) (by show Int32.toNatClampNeg 2 < 9; decide) fun T4 h4 X4 e4 W4 A4_b1 => ?_))))))))
  change zLst Z h4 b1 .long [(.long (Int64.ofNat (m0))), (.long (Int64.ofNat (m1))), (.long (Int64.ofNat (m2))), (.long 0), (.long 0), (.long 0), (.long 0), (.long 0), (.long 0)] at A4_b1
  have hS := hS.wr W4
  have O4 := O3.wr W4 g1
  have K4 := Keep.wr K3 W4 (Or.inr z1)
  have N4 := Fr.snoc X4 N3 g1
  refine yaload X4 hx hby at_35 rfl rfl (yiconst X4 hx hby at_37 (z := (3 : Int32)) rfl (ylloadN X4 hx hby at_38 rfl (yldc2J X4 hx hby at_39 (9223372036854775807 : Int64) hZ hown (w2 hw) (yland X4 hx hby at_42 (Int64.ofNat (m3)) a_3 (ylastore X4 hx hby at_43 hZ e4 A4_b1 (by decide) (by show Int32.toNatClampNeg 3 < 9; decide) fun T5 h5 X5 e5 W5 A5_b1 => ?_)))))
  change zLst Z h5 b1 .long [(.long (Int64.ofNat (m0))), (.long (Int64.ofNat (m1))), (.long (Int64.ofNat (m2))), (.long (Int64.ofNat (m3))), (.long 0), (.long 0), (.long 0), (.long 0), (.long 0)] at A5_b1
  have hS := hS.wr W5
  have O5 := O4.wr W5 g1
  have K5 := Keep.wr K4 W5 (Or.inr z1)
  have N5 := Fr.snoc X5 N4 g1
  show yEndsW p e below s0 T5 (mkF m 44 #[iv p0, iv p1, .val (.long q0), .second, .val (.long q1), .second, .val (.long q2), .second, iv sel, rv b1, .unset, .unset, .unset, .unset, .unset, .unset, .unset, .unset, .unset, .unset, .unset, .unset, .unset] []) _ _ _
  refine yaload X5 hx hby at_44 rfl rfl (yiconst X5 hx hby at_46 (z := (4 : Int32)) rfl (ylload X5 hx hby at_47 rfl (yldc2J X5 hx hby at_49 (9223372036854775807 : Int64) hZ hown (w2 hw) (yland X5 hx hby at_52 (Int64.ofNat (m4)) a_4 (ylastore X5 hx hby at_53 hZ e5 A5_b1 (by decide) (by show Int32.toNatClampNeg 4 < 9; decide) fun T6 h6 X6 e6 W6 A6_b1 => ?_)))))
  change zLst Z h6 b1 .long [(.long (Int64.ofNat (m0))), (.long (Int64.ofNat (m1))), (.long (Int64.ofNat (m2))), (.long (Int64.ofNat (m3))), (.long (Int64.ofNat (m4))), (.long 0), (.long 0), (.long 0), (.long 0)] at A6_b1
  have hS := hS.wr W6
  have O6 := O5.wr W6 g1
  have K6 := Keep.wr K5 W6 (Or.inr z1)
  have N6 := Fr.snoc X6 N5 g1
  refine yaload X6 hx hby at_54 rfl rfl (yiconst X6 hx hby at_56 (z := (5 : Int32)) rfl (ylload X6 hx hby at_57 rfl (yldc2J X6 hx hby at_59 (9223372036854775807 : Int64) hZ hown (w2 hw) (yland X6 hx hby at_62 (Int64.ofNat (m5)) a_5 (ylastore X6 hx hby at_63 hZ e6 A6_b1 (by decide) (by show Int32.toNatClampNeg 5 < 9; decide) fun T7 h7 X7 e7 W7 A7_b1 => ?_)))))
  change zLst Z h7 b1 .long [(.long (Int64.ofNat (m0))), (.long (Int64.ofNat (m1))), (.long (Int64.ofNat (m2))), (.long (Int64.ofNat (m3))), (.long (Int64.ofNat (m4))), (.long (Int64.ofNat (m5))), (.long 0), (.long 0), (.long 0)] at A7_b1
  have hS := hS.wr W7
  have O7 := O6.wr W7 g1
  have K7 := Keep.wr K6 W7 (Or.inr z1)
  have N7 := Fr.snoc X7 N6 g1
  refine yaload X7 hx hby at_64 rfl rfl (ybipush X7 hx hby at_66 (z := (6 : Int32)) rfl (ylloadN X7 hx hby at_68 rfl (ylload X7 hx hby at_69 rfl (ylxor X7 hx hby at_71 (q0 ^^^ q1) rfl (yldc2J X7 hx hby at_72 (9223372036854775807 : Int64) hZ hown (w2 hw) (yland X7 hx hby at_75 (Int64.ofNat (m6)) a_6 (ylastore X7 hx hby at_76 hZ e7 A7_b1 (by decide) (by show Int32.toNatClampNeg 6 < 9; decide) fun T8 h8 X8 e8 W8 A8_b1 => ?_)))))))
  change zLst Z h8 b1 .long [(.long (Int64.ofNat (m0))), (.long (Int64.ofNat (m1))), (.long (Int64.ofNat (m2))), (.long (Int64.ofNat (m3))), (.long (Int64.ofNat (m4))), (.long (Int64.ofNat (m5))), (.long (Int64.ofNat (m6))), (.long 0), (.long 0)] at A8_b1
  have hS := hS.wr W8
  have O8 := O7.wr W8 g1
  have K8 := Keep.wr K7 W8 (Or.inr z1)
  have N8 := Fr.snoc X8 N7 g1
  refine yaload X8 hx hby at_77 rfl rfl (ybipush X8 hx hby at_79 (z := (7 : Int32)) rfl (ylload X8 hx hby at_81 rfl (ylload X8 hx hby at_83 rfl (ylxor X8 hx hby at_85 (q1 ^^^ q2) rfl (yldc2J X8 hx hby at_86 (9223372036854775807 : Int64) hZ hown (w2 hw) (yland X8 hx hby at_89 (Int64.ofNat (m7)) a_7 (ylastore X8 hx hby at_90 hZ e8 A8_b1 (by decide) (by show Int32.toNatClampNeg 7 < 9; decide) fun T9 h9 X9 e9 W9 A9_b1 => ?_)))))))
  change zLst Z h9 b1 .long [(.long (Int64.ofNat (m0))), (.long (Int64.ofNat (m1))), (.long (Int64.ofNat (m2))), (.long (Int64.ofNat (m3))), (.long (Int64.ofNat (m4))), (.long (Int64.ofNat (m5))), (.long (Int64.ofNat (m6))), (.long (Int64.ofNat (m7))), (.long 0)] at A9_b1
  have hS := hS.wr W9
  have O9 := O8.wr W9 g1
  have K9 := Keep.wr K8 W9 (Or.inr z1)
  have N9 := Fr.snoc X9 N8 g1
  refine yaload X9 hx hby at_91 rfl rfl (ybipush X9 hx hby at_93 (z := (8 : Int32)) rfl (ylloadN X9 hx hby at_95 rfl (ylload X9 hx hby at_96 rfl (ylxor X9 hx hby at_98 (q0 ^^^ q2) rfl (yldc2J X9 hx hby at_99 (9223372036854775807 : Int64) hZ hown (w2 hw) (yland X9 hx hby at_102 (Int64.ofNat (m8)) a_8 (ylastore X9 hx hby at_103 hZ e9 A9_b1 (by decide) (by show Int32.toNatClampNeg 8 < 9; decide) fun T10 h10 X10 e10 W10 A10_b1 => ?_)))))))
  change zLst Z h10 b1 .long [(.long (Int64.ofNat (m0))), (.long (Int64.ofNat (m1))), (.long (Int64.ofNat (m2))), (.long (Int64.ofNat (m3))), (.long (Int64.ofNat (m4))), (.long (Int64.ofNat (m5))), (.long (Int64.ofNat (m6))), (.long (Int64.ofNat (m7))), (.long (Int64.ofNat (m8)))] at A10_b1
  have hS := hS.wr W10
  have O10 := O9.wr W10 g1
  have K10 := Keep.wr K9 W10 (Or.inr z1)
  have N10 := Fr.snoc X10 N9 g1
  show yEndsW p e below s0 T10 (mkF m 104 #[iv p0, iv p1, .val (.long q0), .second, .val (.long q1), .second, .val (.long q2), .second, iv sel, rv b1, .unset, .unset, .unset, .unset, .unset, .unset, .unset, .unset, .unset, .unset, .unset, .unset, .unset] []) _ _ _
  refine yiload X10 hx hby at_104 rfl (ysipush X10 hx hby at_106 (z := (255 : Int32)) rfl (yiand X10 hx hby at_109 (sel &&& (255 : Int32)) rfl (ybipush X10 hx hby at_110 (z := (9 : Int32)) rfl (yirem X10 hx hby at_112 (Int32.ofNat (kk)) (by decide) a_k (yistore X10 hx hby at_113 (L' := #[iv p0, iv p1, .val (.long q0), .second, .val (.long q1), .second, .val (.long q2), .second, iv sel, rv b1, iv (Int32.ofNat (kk)), .unset, .unset, .unset, .unset, .unset, .unset, .unset, .unset, .unset, .unset, .unset, .unset]) rfl (ylloadN X10 hx hby at_115 rfl (yldc2J X10 hx hby at_116 (31 : Int64) hZ hown (w3 hw) (ylmul X10 hx hby at_119 (q0 * (31 : Int64)) rfl (ylload X10 hx hby at_120 rfl ?_)))))))))
  show yEndsW p e below s0 T10 (mkF m 122 #[iv p0, iv p1, .val (.long q0), .second, .val (.long q1), .second, .val (.long q2), .second, iv sel, rv b1, iv (Int32.ofNat (kk)), .unset, .unset, .unset, .unset, .unset, .unset, .unset, .unset, .unset, .unset, .unset, .unset] [(.long q2), (.long (q0 * (31 : Int64)))]) _ _ _
  refine yladd X10 hx hby at_122 ((q0 * (31 : Int64)) + q2) rfl (yldc2J X10 hx hby at_123 (9223372036854775807 : Int64) hZ hown (w2 hw) (yland X10 hx hby at_126 (Int64.ofNat (wn)) a_w (ylstore X10 hx hby at_127 (L' := #[iv p0, iv p1, .val (.long q0), .second, .val (.long q1), .second, .val (.long q2), .second, iv sel, rv b1, iv (Int32.ofNat (kk)), .val (.long (Int64.ofNat (wn))), .second, .unset, .unset, .unset, .unset, .unset, .unset, .unset, .unset, .unset, .unset]) rfl (yiload X10 hx hby at_129 rfl (yiconst X10 hx hby at_131 (z := (3 : Int32)) rfl ?_)))))
  show yEndsW p e below s0 T10 (mkF m 132 #[iv p0, iv p1, .val (.long q0), .second, .val (.long q1), .second, .val (.long q2), .second, iv sel, rv b1, iv (Int32.ofNat (kk)), .val (.long (Int64.ofNat (wn))), .second, .unset, .unset, .unset, .unset, .unset, .unset, .unset, .unset, .unset, .unset] [(.int 3), (.int (Int32.ofNat (kk)))]) _ _ _
  by_cases hk3 : kk < 3
  · refine yicmpNo X10 hx hby at_132 (tlt (show Int32.ofNat kk < Int32.ofNat 3 from by rw [zofN_lt (by omega) (by omega)]; exact hk3)).2.1 (ylload X10 hx hby at_135 rfl (yldc2J X10 hx hby at_137 (2147483647 : Int64) hZ hown (w281 hw) (yland X10 hx hby at_140 (Int64.ofNat (wm)) a_wm (ylstore X10 hx hby at_141 (L' := #[iv p0, iv p1, .val (.long q0), .second, .val (.long q1), .second, .val (.long q2), .second, iv sel, rv b1, iv (Int32.ofNat (kk)), .val (.long (Int64.ofNat (wm))), .second, .unset, .unset, .unset, .unset, .unset, .unset, .unset, .unset, .unset, .unset]) rfl (yiload X10 hx hby at_143 rfl (ybipush X10 hx hby at_145 (z := (8 : Int32)) rfl (yiushr X10 hx hby at_147 ((sel.toUInt32 >>> ((8 : Int32) &&& 31).toUInt32).toInt32) rfl (yiconst X10 hx hby at_148 (z := (1 : Int32)) rfl (yiand X10 hx hby at_149 (((sel.toUInt32 >>> ((8 : Int32) &&& 31).toUInt32).toInt32) &&& (1 : Int32)) rfl ?_)))))))))
    show yEndsW p e below s0 T10 (mkF m 150 #[iv p0, iv p1, .val (.long q0), .second, .val (.long q1), .second, .val (.long q2), .second, iv sel, rv b1, iv (Int32.ofNat (kk)), .val (.long (Int64.ofNat (wm))), .second, .unset, .unset, .unset, .unset, .unset, .unset, .unset, .unset, .unset, .unset] [(.int (((sel.toUInt32 >>> ((8 : Int32) &&& 31).toUInt32).toInt32) &&& (1 : Int32)))]) _ _ _
    by_cases hc11 : (((sel.toUInt32 >>> ((8 : Int32) &&& 31).toUInt32).toInt32) &&& (1 : Int32)) = (0 : Int32)
    · refine yifYes X10 hx hby at_150 160 ((if0 _ _).trans (teq hc11).1) (by decide) (by decide) ?_
      show yEndsW p e below s0 T10 (mkF m 160 #[iv p0, iv p1, .val (.long q0), .second, .val (.long q1), .second, .val (.long q2), .second, iv sel, rv b1, iv (Int32.ofNat (kk)), .val (.long (Int64.ofNat (wm))), .second, .unset, .unset, .unset, .unset, .unset, .unset, .unset, .unset, .unset, .unset] []) _ _ _
      exact mid X10 hx hZ hw hby hml hown hret hlk C e10 O0 O10 K10 N10 hn0 hS eh hI hc hcw m0 m1 m2 m3 m4 m5 m6 m7 m8 hm0 hm1 hm2 hm3 hm4 hm5 hm6 hm7 hm8 kk (wm) fk hk (by omega) (by omega) hfkb hfk A10_b1
    · refine yifNo X10 hx hby at_150 ((if0 _ _).trans (feq hc11).1) (yaload X10 hx hby at_153 rfl rfl (yiload X10 hx hby at_155 rfl (ylaload X10 hx hby at_157 hZ e10 A10_b1 (zofN_nn (by omega)) (v := (.long (Int64.ofNat (fk)))) (by rw [zofN_clamp (by omega)]; exact fkv) (ylstore X10 hx hby at_158 (L' := #[iv p0, iv p1, .val (.long q0), .second, .val (.long q1), .second, .val (.long q2), .second, iv sel, rv b1, iv (Int32.ofNat (kk)), .val (.long (Int64.ofNat (fk))), .second, .unset, .unset, .unset, .unset, .unset, .unset, .unset, .unset, .unset, .unset]) rfl ?_))))
      show yEndsW p e below s0 T10 (mkF m 160 #[iv p0, iv p1, .val (.long q0), .second, .val (.long q1), .second, .val (.long q2), .second, iv sel, rv b1, iv (Int32.ofNat (kk)), .val (.long (Int64.ofNat (fk))), .second, .unset, .unset, .unset, .unset, .unset, .unset, .unset, .unset, .unset, .unset] []) _ _ _
      exact mid X10 hx hZ hw hby hml hown hret hlk C e10 O0 O10 K10 N10 hn0 hS eh hI hc hcw m0 m1 m2 m3 m4 m5 m6 m7 m8 hm0 hm1 hm2 hm3 hm4 hm5 hm6 hm7 hm8 kk (fk) fk hk (by omega) (by omega) hfkb hfk A10_b1
  · refine yicmpYes X10 hx hby at_132 143 (flt (show ¬ Int32.ofNat kk < Int32.ofNat 3 from by rw [zofN_lt (by omega) (by omega)]; exact hk3)).2.1 (by decide) (by decide) (yiload X10 hx hby at_143 rfl (ybipush X10 hx hby at_145 (z := (8 : Int32)) rfl (yiushr X10 hx hby at_147 ((sel.toUInt32 >>> ((8 : Int32) &&& 31).toUInt32).toInt32) rfl (yiconst X10 hx hby at_148 (z := (1 : Int32)) rfl (yiand X10 hx hby at_149 (((sel.toUInt32 >>> ((8 : Int32) &&& 31).toUInt32).toInt32) &&& (1 : Int32)) rfl ?_)))))
    show yEndsW p e below s0 T10 (mkF m 150 #[iv p0, iv p1, .val (.long q0), .second, .val (.long q1), .second, .val (.long q2), .second, iv sel, rv b1, iv (Int32.ofNat (kk)), .val (.long (Int64.ofNat (wn))), .second, .unset, .unset, .unset, .unset, .unset, .unset, .unset, .unset, .unset, .unset] [(.int (((sel.toUInt32 >>> ((8 : Int32) &&& 31).toUInt32).toInt32) &&& (1 : Int32)))]) _ _ _
    by_cases hc12 : (((sel.toUInt32 >>> ((8 : Int32) &&& 31).toUInt32).toInt32) &&& (1 : Int32)) = (0 : Int32)
    · refine yifYes X10 hx hby at_150 160 ((if0 _ _).trans (teq hc12).1) (by decide) (by decide) ?_
      show yEndsW p e below s0 T10 (mkF m 160 #[iv p0, iv p1, .val (.long q0), .second, .val (.long q1), .second, .val (.long q2), .second, iv sel, rv b1, iv (Int32.ofNat (kk)), .val (.long (Int64.ofNat (wn))), .second, .unset, .unset, .unset, .unset, .unset, .unset, .unset, .unset, .unset, .unset] []) _ _ _
      exact mid X10 hx hZ hw hby hml hown hret hlk C e10 O0 O10 K10 N10 hn0 hS eh hI hc hcw m0 m1 m2 m3 m4 m5 m6 m7 m8 hm0 hm1 hm2 hm3 hm4 hm5 hm6 hm7 hm8 kk (wn) fk hk (by omega) (by omega) hfkb hfk A10_b1
    · refine yifNo X10 hx hby at_150 ((if0 _ _).trans (feq hc12).1) (yaload X10 hx hby at_153 rfl rfl (yiload X10 hx hby at_155 rfl (ylaload X10 hx hby at_157 hZ e10 A10_b1 (zofN_nn (by omega)) (v := (.long (Int64.ofNat (fk)))) (by rw [zofN_clamp (by omega)]; exact fkv) (ylstore X10 hx hby at_158 (L' := #[iv p0, iv p1, .val (.long q0), .second, .val (.long q1), .second, .val (.long q2), .second, iv sel, rv b1, iv (Int32.ofNat (kk)), .val (.long (Int64.ofNat (fk))), .second, .unset, .unset, .unset, .unset, .unset, .unset, .unset, .unset, .unset, .unset]) rfl ?_))))
      show yEndsW p e below s0 T10 (mkF m 160 #[iv p0, iv p1, .val (.long q0), .second, .val (.long q1), .second, .val (.long q2), .second, iv sel, rv b1, iv (Int32.ofNat (kk)), .val (.long (Int64.ofNat (fk))), .second, .unset, .unset, .unset, .unset, .unset, .unset, .unset, .unset, .unset, .unset] []) _ _ _
      exact mid X10 hx hZ hw hby hml hown hret hlk C e10 O0 O10 K10 N10 hn0 hS eh hI hc hcw m0 m1 m2 m3 m4 m5 m6 m7 m8 hm0 hm1 hm2 hm3 hm4 hm5 hm6 hm7 hm8 kk (fk) fk hk (by omega) (by omega) hfkb hfk A10_b1
theorem dtab {args a0 : Array Value} {s : State} {t tg : Term} {G : Nat → Nat} (wx : (Cond.exactly t "[B").value args s none s [] = some true) (wl : (Cond.eq (.length t) (.int 100)).value args s none s [] = some true) (wa : (Cond.arrayClass .byte).before a0 s = true)
    (wA : (Cond.all t (.eq (.elem t (.index 0)) tg)).value args s none s [] = some true) (hG : ∀ i, i < 100 → tg.eval args s none [i] s = some (.int (dg (G i)).toInt32)) (hst : ∀ idx, t.eval args s none idx s = t.eval args s none [] s) :
    ∃ d o, t.eval args s none [] s = some (.ref d) ∧ zBt s s.heap d o ∧ ∀ i, i < 100 → o[i]? = some (dg (G i)) := by
  obtain ⟨d, ev⟩ := exa_v wx
  have hlen : (Term.length t).eval args s none [] s = some (.int 100) := by
    obtain ⟨u, w, e1, e2, k1, k2⟩ := cmp_v (Or.inl wl)
    cases (Term.int_eval (100 : Int32)).symm.trans e2
    obtain ⟨z, rfl⟩ := k2
    have h0 : z = 100 := by simpa [Jvm.Cond.value, e1, Term.int_eval] using wl
    subst h0; exact e1
  obtain ⟨sd, SA, hev, harrAt, -⟩ := Term.length_spec hlen
  cases ev.symm.trans hev
  have h31 := SBG.length_lt hev harrAt hlen
  have hsz : SA.slots.size = 100 := by
    have e : (Term.length t).eval args s none [] s = some (.int (Int32.ofNat SA.slots.size)) := len_f hev harrAt h31
    have h2 : Int32.ofNat SA.slots.size = Int32.ofNat 100 := by simpa using Option.some.inj (e.symm.trans hlen)
    have := congrArg Int32.toInt h2
    rw [Int32.toInt_ofNat_small h31, Int32.toInt_ofNat_small (by omega)] at this; omega
  have hat : ∀ i, i < 100 → SA.slots[i]? = some (.int (dg (G i)).toInt32) := fun i hi => by
    have q := Cond.all_elim ev harrAt wA i (by omega)
    obtain ⟨u, w, e1, e2, k1, k2⟩ := cmp_v (Or.inl q)
    cases (hG i hi).symm.trans e2
    obtain ⟨z, rfl⟩ := k2
    have h0 : z = (dg (G i)).toInt32 := by simpa [Jvm.Cond.value, e1, e2] using q
    subst h0
    have hj : (Term.index 0).eval args s none [i] s = some (.int (Int32.ofNat i)) := rfl
    have e3 := elem_f (t := t) (a := .index 0) (idx := [i]) ((hst [i]).trans ev) hj harrAt (zofN_nn (by omega))
    rw [zofN_clamp (by omega)] at e3
    exact e3.symm.trans e1
  obtain ⟨a3, c3, cell3, k3, e1, e2, e3, e4, e5, e6, -⟩ := Cond.exactly_spec (beq_iff_eq.mpr wx : (Cond.exactly t "[B").holds args s none s [] = true)
  cases ev.symm.trans e1
  obtain ⟨c4, k4, comp, f1, f2, f3⟩ := Cond.arrayClass_spec wa
  have hcell : s.heap[d]? = some SA ∧ SA.vm ≠ .unknown := ⟨(Jvm.Joins.arrayAt_spec harrAt).1, (Jvm.Joins.arrayAt_spec harrAt).2.1⟩
  cases hcell.1.symm.trans e3
  cases (show s.vm.findClass "[B" = some c4 from f1).symm.trans e2
  have hA : s.isArrayOf SA .byte := ⟨(fun q r => by rw [r] at e5; cases e5), k4, by rw [e6]; exact f2, comp, f3⟩
  refine ⟨d, (List.range 100).map fun i => dg (G i), ev, ⟨SA, ⟨hcell.1, hA, hcell.2⟩, ?_⟩, fun i hi => by rw [List.getElem?_map, List.getElem?_range hi]; rfl⟩
  apply List.ext_getElem?
  intro i
  rw [Array.getElem?_toList, List.map_map]
  by_cases hi : i < 100
  · rw [hat i hi, List.getElem?_map, List.getElem?_range hi]; rfl
  · rw [Array.getElem?_eq_none (by omega), List.getElem?_eq_none (by rw [List.length_map, List.length_range]; omega)]
theorem dgI {k : Nat} (h : k < 10) : (48 : Int32) + Int32.ofNat k = (dg k).toInt32 := by
  have q : k = 0 ∨ k = 1 ∨ k = 2 ∨ k = 3 ∨ k = 4 ∨ k = 5 ∨ k = 6 ∨ k = 7 ∨ k = 8 ∨ k = 9 := by omega
  rcases q with rfl | rfl | rfl | rfl | rfl | rfl | rfl | rfl | rfl | rfl <;> decide
theorem add_g {args : Array Value} {s : State} {idx : List Nat} {a b : Term} {x y : Int32} (ha : a.eval args s none idx s = some (.int x)) (hb : b.eval args s none idx s = some (.int y)) : (Term.add a b).eval args s none idx s = some (.int (x + y)) := by simp [Term.eval, ha, hb]
theorem dgO {args : Array Value} {s : State} (i : Nat) (hi : i < 100) : (Term.add (.int 48) (.rem (.index 0) (.int 10))).eval args s none [i] s = some (.int (dg (i % 10)).toInt32) := by
  have hj : (Term.index 0).eval args s none [i] s = some (.int (Int32.ofNat i)) := rfl
  have e := rem_f (b := .int 10) hj (Term.int_eval 10) (by decide)
  have r : Int32.ofNat i % 10 = Int32.ofNat (i % 10) := by
    apply Int32.toInt_inj.mp
    rw [(c_irem (Int32.ofNat i) 10 10 rfl).1 (by rw [zofN_toInt (by omega)]; omega), zofN_toInt (by omega), zofN_toInt (by omega)]; omega
  rw [r] at e
  rw [← dgI (by omega)]
  exact add_g (Term.int_eval 48) e
theorem dgT {args : Array Value} {s : State} (i : Nat) (hi : i < 100) : (Term.add (.int 48) (.div (.index 0) (.int 10))).eval args s none [i] s = some (.int (dg (i / 10)).toInt32) := by
  have hj : (Term.index 0).eval args s none [i] s = some (.int (Int32.ofNat i)) := rfl
  have e := div_f (b := .int 10) hj (Term.int_eval 10) (by decide)
  have r : Int32.ofNat i / 10 = Int32.ofNat (i / 10) := by
    apply Int32.toInt_inj.mp
    rw [(c_idiv (Int32.ofNat i) 10 10 rfl (by decide)).1 (by rw [zofN_toInt (by omega)]; omega), zofN_toInt (by omega), zofN_toInt (by omega)]; omega
  rw [r] at e
  rw [← dgI (by omega)]
  exact add_g (Term.int_eval 48) e

theorem comes_1 {Post : Tables → Env → Array Value → State → Outcome → State → Prop} (hpost : ∀ tb e args s v u, (limb_1_1.after args s (.returned v) u = true ∧ limb_1_2.after args s (.returned v) u = true ∧ True) → FramedW s (.returned v) u (Jvm.fieldLocs frame_1_writes args s ++ Jvm.arrayLocs frame_1_arrays args s ++ Jvm.staticLocs frame_1_statics s) 104 24768 → Post tb e args s (.returned v) u) :
    ArmFor flags0 classFile x code maxLocals ret World_1 tables_1 room_1 Calls_1 rest_1 Pre_1 Post := by
  intro l hfl _ _ p e ha hc hk s m args below hf hA hF happ hP
  obtain ⟨hcalls, hrest, hpre⟩ := hP
  obtain ⟨-, -, -, hnamed, -, -, -, hat⟩ := (Spec.applies_iff hf).mp happ
  obtain ⟨hg, hn⟩ := and_e (Cond.before_iff.mp (show (Jvm.Cond.and given_1 narrow_1).before args s = true from hpre))
  obtain ⟨gc, hg⟩ := and_e hg
  obtain ⟨g0, hg⟩ := and_e hg
  obtain ⟨g1, hg⟩ := and_e hg
  obtain ⟨g2, hg⟩ := and_e hg
  obtain ⟨g3, hg⟩ := and_e hg
  obtain ⟨g4, hg⟩ := and_e hg
  obtain ⟨u0, u1, u2, u3, u4, u5, rfl⟩ : ∃ u0 u1 u2 u3 u4 u5 : Value, args = #[u0, u1, u2, u3, u4, u5] := by
    have hs : args.size = 6 := by simpa [Cond.value, given_1] using gc
    obtain ⟨L⟩ := args
    match L, hs with
    | [u0, u1, u2, u3, u4, u5], _ => exact ⟨u0, u1, u2, u3, u4, u5, rfl⟩
  obtain ⟨i0, ei0⟩ := is_v g0
  obtain rfl : u0 = (.int i0) := Option.some.inj ei0
  obtain ⟨i1, ei1⟩ := is_v g1
  obtain rfl : u1 = (.int i1) := Option.some.inj ei1
  obtain ⟨i2, ei2⟩ := isL_v g2
  obtain rfl : u2 = (.long i2) := Option.some.inj ei2
  obtain ⟨i3, ei3⟩ := isL_v g3
  obtain rfl : u3 = (.long i3) := Option.some.inj ei3
  obtain ⟨i4, ei4⟩ := isL_v g4
  obtain rfl : u4 = (.long i4) := Option.some.inj ei4
  obtain ⟨i5, ei5⟩ := is_v hg
  obtain rfl : u5 = (.int i5) := Option.some.inj ei5
  have hw := fun d (hd : d ∈ tables_1) => atoms_spec (ws := Jvm.Cond.code x code maxLocals ret :: tables_1) hat d (List.mem_cons_of_mem _ hd)
  have r := Cond.before_iff.mp (show rest_1_c.before _ s = true from hrest)
  obtain ⟨r0, r⟩ := and_e r
  obtain ⟨r1, r⟩ := and_e r
  obtain ⟨r2, r⟩ := and_e r
  obtain ⟨r3, r⟩ := and_e r
  obtain ⟨r4, r⟩ := and_e r
  obtain ⟨r5, r⟩ := and_e r
  obtain ⟨r6, r⟩ := and_e r
  obtain ⟨r7, r⟩ := and_e r
  obtain ⟨r8, r⟩ := and_e r
  obtain ⟨r9, r⟩ := and_e r
  obtain ⟨r10, r⟩ := and_e r
  obtain ⟨r11, r⟩ := and_e r
  obtain ⟨r12, r⟩ := and_e r
  obtain ⟨r13, r⟩ := and_e r
  obtain ⟨r14, r⟩ := and_e r
  obtain ⟨r15, r⟩ := and_e r
  obtain ⟨r16, r⟩ := and_e r
  obtain ⟨r17, r⟩ := and_e r
  obtain ⟨r18, r⟩ := and_e r
  obtain ⟨r19, r⟩ := and_e r
  obtain ⟨cs, vcs⟩ := is_v r1
  have ncs := r2
  have hcs : ¬ (cs = (0 : Int32)) := fun q => by
    subst q
    have := (not_v ncs).symm.trans (eq_i vcs (Term.int_eval 0) rfl)
    cases this
  have S_cs := Sta.start vcs (Or.inl (Cond.before_iff.mpr r0))
  obtain ⟨d1, o1, vd1, B_d1, H_d1⟩ := dtab (G := fun i => i % 10) r12 r13 (w20 hw) r14 dgO (fun _ => rfl)
  have S_d1 := Sta.start vd1 (Or.inl (Cond.before_iff.mpr r11))
  obtain ⟨d2, o2, vd2, B_d2, H_d2⟩ := dtab (G := fun i => i / 10) r17 r18 (w20 hw) r19 dgT (fun _ => rfl)
  have S_d2 := Sta.start vd2 (Or.inl (Cond.before_iff.mpr r16))
  obtain ⟨n, o, h1, h2, h3, _, L, rfl, ⟨rfl, N⟩, hq⟩ := rm0 l (Z := s) hw (h0 := s.heap) (n0 := s.heap.size) ⟨S_cs, hcs, S_d1, B_d1, H_d1, S_d2, B_d2, H_d2⟩ ⟨Nat.le_refl _, Nat.le_refl _, Nat.le_refl _, fun _ _ q => q⟩ (fun q hq => hcalls.1 q hq) (Cond.before_iff.mpr ncs) rfl i0 i1 i2 i3 i4 i5 p e ha hc hk s m _ below hf ((Spec.applies_iff_loose hf).mp happ).1 ⟨rfl, State.Warmed39.refl s, rfl, IB.start⟩ trivial
  refine ⟨n, _, h1, h2, h3, hpost _ _ _ _ _ _ ⟨Cond.after_iff.mpr rfl, Cond.after_iff.mpr (eq_i res_at (Term.int_eval (1)) rfl), trivial⟩ ⟨hq.1, hq.2.1, hq.2.2.1, (hq.2.2.2.sift fun y hy => Or.inr (N y hy)).mono (by decide) (by decide)⟩⟩
theorem main_1_1 : Claimed_1_1 := comes_1 fun _ _ _ _ _ _ h hF => ⟨h.1, hF⟩
theorem main_1_2 : Claimed_1_2 := comes_1 fun _ _ _ _ _ _ h hF => ⟨h.2.1, hF⟩

end Jvm.Pilot.@@N@@
namespace Jvm.Pilot.@@N@@
open Jvm Jvm.ClassFile Sem Op Lib Jvm.Free Jvm.Stand Jvm.Pilot.@@N@@.Jvm.D
namespace start1
open Jvm.ClassFile
def u (s : String) : CpInfo := .utf8 (stringToUtf16 s)
def gap : Nat → List CpInfo → List CpInfo
  | 0, r => r
  | n + 1, r => .unusable :: gap n r
def poolList (es : List (Nat × CpInfo)) (last : Nat) : List CpInfo := es.foldr (fun e r => gap e.1 (e.2 :: r)) (gap last [])
def pool (es : List (Nat × CpInfo)) (last : Nat) : Array CpInfo := ⟨poolList es last⟩
def fileOf (pool : Array CpInfo) (this : Nat) (attrs : Array Attribute := #[]) (ms : Array MethodInfo := #[]) (fl : Nat := 33) (sup : Nat := 0) (ifs : Array Nat := #[]) (fds : Array FieldInfo := #[]) : ClassFile where
  minorVersion := 0
  majorVersion := 65
  constantPool := pool
  accessFlags := fl
  thisClass := this
  superClass := sup
  interfaces := ifs
  fields := fds
  methods := ms
  attributes := attrs
def plain (name : String) (sup : Option ClassId) : Class where
  name := name
  kind := .ordinary
  loader := none
  accessFlags := 33
  super := sup
  interfaces := #[]
  cf := none
  fields := #[]
  methods := #[]
  instanceTypes := #[]
  staticTypes := #[]
  resolved := #[]
  callSites := []
  init := .initialized
  statics := none
  mirror := none
def pool0 : Array CpInfo := pool [(5, u "<init>"), (0, u "()V"), (1, .class_ 10), (1, u "java/lang/Object"), (85, u "clone"), (0, u "()Ljava/lang/Object;")] 26
def k0c0 : Code := ⟨0, 1, object_method_1_code, #[], #[]⟩
def k0m0 : Method := ⟨"<init>", "()V", ⟨[], none⟩, 1, some k0c0⟩
def k0m1 : Method := ⟨"clone", "()Ljava/lang/Object;", ⟨[], some (.object "java/lang/Object")⟩, 260, none⟩
def k0 : Class := { plain "java/lang/Object" none with
  accessFlags := 33
  interfaces := #[]
  cf := some (fileOf pool0 8 #[] #[⟨1, 5, 6, #[]⟩, ⟨260, 96, 97, #[]⟩] 33 0 #[] #[])
  fields := #[]
  methods := #[k0m0, k0m1]
  instanceTypes := #[]
  staticTypes := #[]
  resolved := Array.replicate 124 none
  statics := none }
def pool1 : Array CpInfo := pool [(2, .class_ 4), (1, u "java/lang/Object"), (0, u "<init>"), (0, u "()V"), (0, .long 10), (1, .long 100), (1, .long 1000), (1, .long 10000), (1, .long 100000), (1, .long 1000000), (1, .long 10000000), (1, .long 100000000), (1, .long 1000000000), (1, .long 10000000000), (1, .long 100000000000), (1, .long 1000000000000), (1, .long 10000000000000), (1, .long 100000000000000), (1, .long 1000000000000000), (1, .long 10000000000000000), (1, .long 100000000000000000), (1, .long 1000000000000000000), (1, .class_ 44), (0, u "com/example/kick/kick/value/PoolMetrics"), (0, .methodref 43 46), (0, .nameAndType 5 47), (0, u "(IIIJJJJJJ)V"), (0, .integer 2147483647), (2, .long 9223372036854775807), (1, .long 31), (1, .long 2147483647), (1, .methodref 58 59), (0, .class_ 60), (0, .nameAndType 61 62), (0, u "com/example/kick/kick/value/PoolMetricsToStringPinLaw"), (0, u "make"), (0, u "([J)Lcom/example/kick/kick/value/PoolMetrics;"), (0, .methodref 43 64), (0, .nameAndType 65 66), (0, u "toString"), (0, u "()Ljava/lang/String;"), (0, .methodref 58 68), (0, .nameAndType 69 70), (0, u "digits"), (0, u "(J)I"), (0, .methodref 72 73), (0, .class_ 74), (0, .nameAndType 75 76), (0, u "java/lang/String"), (0, u "length"), (0, u "()I"), (0, .methodref 72 78), (0, .nameAndType 79 80), (0, u "equals"), (0, u "(Ljava/lang/Object;)Z"), (0, .long 4), (1, .long 5), (1, .long 6), (1, .long 7), (1, .long 8), (1, .long 9), (1, .string 94), (0, u "PoolMetrics[threads=1, active=2, queued=3, submitted=4, completed=5, failed=6, rejected=7, discarded=8, callerRan=9]"), (3, u "law"), (0, u "(IIJJJI)Z")] 4
def k1m0 : Method := ⟨"<init>", "()V", ⟨[], none⟩, 1, none⟩
def k1c1 : Code := ⟨4, 2, method_2_code, #[], #[]⟩
def k1m1 : Method := ⟨"digits", "(J)I", ⟨[.long], some .int⟩, 10, some k1c1⟩
def k1c2 : Code := ⟨17, 1, method_3_code, #[], #[]⟩
def k1m2 : Method := ⟨"make", "([J)Lcom/example/kick/kick/value/PoolMetrics;", ⟨[(.array .long)], some (.object "com/example/kick/kick/value/PoolMetrics")⟩, 10, some k1c2⟩
def k1c3 : Code := ⟨17, 23, code, #[], #[]⟩
def k1m3 : Method := ⟨"law", "(IIJJJI)Z", ⟨[.int, .int, .long, .long, .long, .int], some .boolean⟩, 9, some k1c3⟩
def k1 : Class := { plain "com/example/kick/kick/value/PoolMetricsToStringPinLaw" (some 0) with
  accessFlags := 49
  interfaces := #[]
  cf := some (fileOf pool1 58 #[] #[⟨1, 5, 6, #[]⟩, ⟨10, 69, 70, #[]⟩, ⟨10, 61, 62, #[]⟩, ⟨9, 98, 99, #[]⟩] 49 2 #[] #[])
  fields := #[]
  methods := #[k1m0, k1m1, k1m2, k1m3]
  instanceTypes := #[]
  staticTypes := #[]
  resolved := Array.replicate 104 none
  statics := none }
def pool2 : Array CpInfo := pool [(1, .methodref 2 3), (0, .class_ 4), (0, .nameAndType 5 6), (0, u "java/lang/Object"), (0, u "<init>"), (0, u "()V"), (0, .string 8), (0, u "threads"), (0, .methodref 10 11), (0, .class_ 12), (0, .nameAndType 13 14), (0, u "com/example/kick/kick/value/PoolMetrics"), (0, u "requireZeroOrMore"), (0, u "(JLjava/lang/String;)V"), (0, .string 16), (0, u "active"), (0, .string 18), (0, u "queued"), (0, .string 20), (0, u "submitted"), (0, .string 22), (0, u "completed"), (0, .string 24), (0, u "failed"), (0, .string 26), (0, u "rejected"), (0, .string 28), (0, u "discarded"), (0, .string 30), (0, u "callerRan"), (0, .fieldref 10 32), (0, .nameAndType 8 33), (0, u "I"), (0, .fieldref 10 35), (0, .nameAndType 16 33), (0, .fieldref 10 37), (0, .nameAndType 18 33), (0, .fieldref 10 39), (0, .nameAndType 20 40), (0, u "J"), (0, .fieldref 10 42), (0, .nameAndType 22 40), (0, .fieldref 10 44), (0, .nameAndType 24 40), (0, .fieldref 10 46), (0, .nameAndType 26 40), (0, .fieldref 10 48), (0, .nameAndType 28 40), (0, .fieldref 10 50), (0, .nameAndType 30 40), (0, .class_ 52), (0, u "java/lang/StringBuilder"), (0, .methodref 51 3), (0, .string 55), (0, u "PoolMetrics[threads="), (0, .methodref 51 57), (0, .nameAndType 58 59), (0, u "append"), (0, u "(Ljava/lang/String;)Ljava/lang/StringBuilder;"), (0, .methodref 51 61), (0, .nameAndType 58 62), (0, u "(I)Ljava/lang/StringBuilder;"), (0, .string 64), (0, u ", active="), (0, .string 66), (0, u ", queued="), (0, .string 68), (0, u ", submitted="), (0, .methodref 51 70), (0, .nameAndType 58 71), (0, u "(J)Ljava/lang/StringBuilder;"), (0, .string 73), (0, u ", completed="), (0, .string 75), (0, u ", failed="), (0, .string 77), (0, u ", rejected="), (0, .string 79), (0, u ", discarded="), (0, .string 81), (0, u ", callerRan="), (0, .string 83), (0, u "]"), (0, .methodref 51 85), (0, .nameAndType 86 87), (0, u "toString"), (0, u "()Ljava/lang/String;"), (7, u "(IIIJJJJJJ)V")] 7
def k2c0 : Code := ⟨3, 16, prog_12_method_1_code, #[], #[]⟩
def k2m0 : Method := ⟨"<init>", "(IIIJJJJJJ)V", ⟨[.int, .int, .int, .long, .long, .long, .long, .long, .long], none⟩, 1, some k2c0⟩
def k2c1 : Code := ⟨3, 1, prog_12_method_11_code, #[], #[]⟩
def k2m1 : Method := ⟨"toString", "()Ljava/lang/String;", ⟨[], some (.object "java/lang/String")⟩, 1, some k2c1⟩
def k2c2 : Code := ⟨5, 3, prog_12_method_12_code, #[], #[]⟩
def k2m2 : Method := ⟨"requireZeroOrMore", "(JLjava/lang/String;)V", ⟨[.long, (.object "java/lang/String")], none⟩, 10, some k2c2⟩
def k2 : Class := { plain "com/example/kick/kick/value/PoolMetrics" (some 0) with
  accessFlags := 49
  interfaces := #[]
  cf := some (fileOf pool2 10 #[] #[⟨1, 5, 95, #[]⟩, ⟨1, 86, 87, #[]⟩, ⟨10, 13, 14, #[]⟩] 49 2 #[] #[⟨18, 8, 33, #[]⟩, ⟨18, 16, 33, #[]⟩, ⟨18, 18, 33, #[]⟩, ⟨18, 20, 40, #[]⟩, ⟨18, 22, 40, #[]⟩, ⟨18, 24, 40, #[]⟩, ⟨18, 26, 40, #[]⟩, ⟨18, 28, 40, #[]⟩, ⟨18, 30, 40, #[]⟩])
  fields := #[⟨"threads", .int, 18, 0, 0⟩, ⟨"active", .int, 18, 1, 0⟩, ⟨"queued", .int, 18, 2, 0⟩, ⟨"submitted", .long, 18, 3, 0⟩, ⟨"completed", .long, 18, 4, 0⟩, ⟨"failed", .long, 18, 5, 0⟩, ⟨"rejected", .long, 18, 6, 0⟩, ⟨"discarded", .long, 18, 7, 0⟩, ⟨"callerRan", .long, 18, 8, 0⟩]
  methods := #[k2m0, k2m1, k2m2]
  instanceTypes := #[.int, .int, .int, .long, .long, .long, .long, .long, .long]
  staticTypes := #[]
  resolved := Array.replicate 103 none
  statics := none }
def pool3 : Array CpInfo := pool [(1, .class_ 2), (0, u "java/io/Serializable"), (0, .class_ 4), (0, u "java/lang/Object")] 2
def k3 : Class := { plain "java/io/Serializable" (some 0) with
  accessFlags := 1537
  interfaces := #[]
  cf := some (fileOf pool3 1 #[] #[] 1537 3 #[] #[])
  fields := #[]
  methods := #[]
  instanceTypes := #[]
  staticTypes := #[]
  resolved := Array.replicate 7 none
  statics := none }
def pool4 : Array CpInfo := pool [(1, .class_ 2), (0, u "java/lang/Comparable"), (0, .class_ 4), (0, u "java/lang/Object")] 7
def k4 : Class := { plain "java/lang/Comparable" (some 0) with
  accessFlags := 1537
  interfaces := #[]
  cf := some (fileOf pool4 1 #[] #[] 1537 3 #[] #[])
  fields := #[]
  methods := #[]
  instanceTypes := #[]
  staticTypes := #[]
  resolved := Array.replicate 12 none
  statics := none }
def pool5 : Array CpInfo := pool [(2, .class_ 4), (1, u "java/lang/CharSequence"), (42, .class_ 48), (0, u "java/lang/CharSequence$1CodePointIterator"), (10, .class_ 60), (0, u "java/lang/CharSequence$1CharIterator"), (5, .class_ 67), (0, u "java/lang/Object")] 63
def k5 : Class := { plain "java/lang/CharSequence" (some 0) with
  accessFlags := 1537
  interfaces := #[]
  cf := some (fileOf pool5 2 #[.nestMembers #[47, 59]] #[] 1537 66 #[] #[])
  fields := #[]
  methods := #[]
  instanceTypes := #[]
  staticTypes := #[]
  resolved := Array.replicate 131 none
  statics := none }
def pool6 : Array CpInfo := pool [(1, .class_ 2), (0, u "java/lang/constant/Constable"), (0, .class_ 4), (0, u "java/lang/Object")] 6
def k6 : Class := { plain "java/lang/constant/Constable" (some 0) with
  accessFlags := 1537
  interfaces := #[]
  cf := some (fileOf pool6 1 #[] #[] 1537 3 #[] #[])
  fields := #[]
  methods := #[]
  instanceTypes := #[]
  staticTypes := #[]
  resolved := Array.replicate 11 none
  statics := none }
def pool7 : Array CpInfo := pool [(1, .class_ 2), (0, u "java/lang/constant/ConstantDesc"), (0, .class_ 4), (0, u "java/lang/Object")] 32
def k7 : Class := { plain "java/lang/constant/ConstantDesc" (some 0) with
  accessFlags := 1537
  interfaces := #[]
  cf := some (fileOf pool7 1 #[] #[] 1537 3 #[] #[])
  fields := #[]
  methods := #[]
  instanceTypes := #[]
  staticTypes := #[]
  resolved := Array.replicate 37 none
  statics := none }
def pool8 : Array CpInfo := pool [(1, .methodref 2 3), (0, .class_ 4), (0, .nameAndType 5 6), (0, u "java/lang/Object"), (0, u "<init>"), (0, u "()V"), (2, .fieldref 10 11), (0, .class_ 12), (0, .nameAndType 13 14), (0, u "java/lang/String"), (0, u "value"), (0, u "[B"), (0, .fieldref 10 16), (0, .nameAndType 17 18), (0, u "coder"), (0, u "B"), (2, u "hash"), (0, u "I"), (2, u "hashIsZero"), (0, u "Z"), (11, .fieldref 10 39), (0, .nameAndType 40 26), (0, u "COMPACT_STRINGS"), (13, .methodref 55 56), (0, .class_ 57), (0, .nameAndType 58 59), (0, u "java/util/Arrays"), (0, u "copyOfRange"), (0, u "([BII)[B"), (47, .class_ 109), (1, u "java/lang/StringLatin1"), (32, u "()Z"), (50, .class_ 195), (1, u "java/lang/System"), (16, .methodref 193 213), (0, .nameAndType 214 215), (0, u "arraycopy"), (0, u "(Ljava/lang/Object;ILjava/lang/Object;II)V"), (118, u "()I"), (0, .methodref 10 336), (0, .nameAndType 17 337), (0, u "()B"), (2, u "()[B"), (148, .methodref 10 490), (0, .nameAndType 5 491), (0, u "(Ljava/lang/AbstractStringBuilder;Ljava/lang/Void;)V"), (1, .nameAndType 494 142), (0, u "isLatin1"), (11, .nameAndType 507 334), (0, u "length"), (24, u "getBytes"), (8, .methodref 107 542), (0, .nameAndType 543 544), (0, u "equals"), (0, u "([B[B)Z"), (4, .methodref 550 506), (0, .class_ 551), (0, u "java/lang/AbstractStringBuilder"), (0, .methodref 550 553), (0, .nameAndType 554 340), (0, u "getValue"), (18, u "(Ljava/lang/Object;)Z"), (1, .class_ 576), (0, u "java/lang/CharSequence"), (22, u "CASE_INSENSITIVE_ORDER"), (0, u "Ljava/util/Comparator;"), (220, u "([BIB)V"), (225, .methodref 550 493), (53, u "serialPersistentFields"), (0, u "[Ljava/io/ObjectStreamField;"), (0, .class_ 1104), (0, u "java/lang/String$CaseInsensitiveComparator"), (1, .class_ 1107), (0, u "java/io/Serializable"), (0, .class_ 1109), (0, u "java/lang/Comparable"), (0, .class_ 1111), (0, u "java/lang/constant/Constable"), (0, .class_ 1113), (0, u "java/lang/constant/ConstantDesc"), (2, u "serialVersionUID"), (0, u "J"), (3, u "REPL"), (0, u "C"), (2, u "LATIN1"), (1, u "UTF16"), (105, u "(Ljava/lang/StringBuilder;)V")] 217
def k8m0 : Method := ⟨"<init>", "()V", ⟨[], none⟩, 1, none⟩
def k8c1 : Code := ⟨3, 2, jdk_42_method_53_code, #[], #[]⟩
def k8m1 : Method := ⟨"<init>", "(Ljava/lang/StringBuilder;)V", ⟨[(.object "java/lang/StringBuilder")], none⟩, 1, some k8c1⟩
def k8c2 : Code := ⟨2, 1, jdk_42_method_54_code, #[], #[]⟩
def k8m2 : Method := ⟨"length", "()I", ⟨[], some .int⟩, 1, some k8c2⟩
def k8c3 : Code := ⟨2, 3, jdk_42_method_66_code, #[], #[]⟩
def k8m3 : Method := ⟨"equals", "(Ljava/lang/Object;)Z", ⟨[(.object "java/lang/Object")], some .boolean⟩, 1, some k8c3⟩
def k8c4 : Code := ⟨5, 4, jdk_42_method_147_code, #[], #[]⟩
def k8m4 : Method := ⟨"getBytes", "([BIB)V", ⟨[(.array .byte), .int, .byte], none⟩, 0, some k8c4⟩
def k8c5 : Code := ⟨5, 5, jdk_42_method_150_code, #[], #[]⟩
def k8m5 : Method := ⟨"<init>", "(Ljava/lang/AbstractStringBuilder;Ljava/lang/Void;)V", ⟨[(.object "java/lang/AbstractStringBuilder"), (.object "java/lang/Void")], none⟩, 0, some k8c5⟩
def k8c6 : Code := ⟨1, 1, jdk_42_method_152_code, #[], #[]⟩
def k8m6 : Method := ⟨"coder", "()B", ⟨[], some .byte⟩, 0, some k8c6⟩
def k8 : Class := { plain "java/lang/String" (some 0) with
  accessFlags := 49
  interfaces := #[3, 4, 5, 6, 7]
  cf := some (fileOf pool8 10 #[.nestMembers #[1103]] #[⟨1, 5, 6, #[]⟩, ⟨1, 5, 1233, #[]⟩, ⟨1, 507, 334, #[]⟩, ⟨1, 543, 573, #[]⟩, ⟨0, 532, 821, #[]⟩, ⟨0, 5, 491, #[]⟩, ⟨0, 17, 337, #[]⟩] 49 2 #[1106, 1108, 575, 1110, 1112] #[⟨18, 13, 14, #[]⟩, ⟨18, 17, 18, #[]⟩, ⟨2, 21, 22, #[]⟩, ⟨2, 25, 26, #[]⟩, ⟨26, 1116, 1117, #[]⟩, ⟨24, 40, 26, #[]⟩, ⟨26, 1101, 1102, #[]⟩, ⟨26, 1121, 1122, #[]⟩, ⟨25, 599, 600, #[]⟩, ⟨24, 1125, 18, #[]⟩, ⟨24, 1127, 18, #[]⟩])
  fields := #[⟨"value", (.array .byte), 18, 0, 0⟩, ⟨"coder", .byte, 18, 1, 0⟩, ⟨"hash", .int, 2, 2, 0⟩, ⟨"hashIsZero", .boolean, 2, 3, 0⟩, ⟨"serialVersionUID", .long, 26, 0, 0⟩, ⟨"COMPACT_STRINGS", .boolean, 24, 1, 0⟩, ⟨"serialPersistentFields", (.array (.object "java/io/ObjectStreamField")), 26, 2, 0⟩, ⟨"REPL", .char, 26, 3, 0⟩, ⟨"CASE_INSENSITIVE_ORDER", (.object "java/util/Comparator"), 25, 4, 0⟩, ⟨"LATIN1", .byte, 24, 5, 0⟩, ⟨"UTF16", .byte, 24, 6, 0⟩]
  methods := #[k8m0, k8m1, k8m2, k8m3, k8m4, k8m5, k8m6]
  instanceTypes := #[(.array .byte), .byte, .int, .boolean]
  staticTypes := #[.long, .boolean, (.array (.object "java/io/ObjectStreamField")), .char, (.object "java/util/Comparator"), .byte, .byte]
  resolved := Array.replicate 1451 none
  statics := some 0 }
def pool9 : Array CpInfo := pool [(1, .class_ 2), (0, u "java/lang/Appendable"), (0, .class_ 4), (0, u "java/lang/Object")] 9
def k9 : Class := { plain "java/lang/Appendable" (some 0) with
  accessFlags := 1537
  interfaces := #[]
  cf := some (fileOf pool9 1 #[] #[] 1537 3 #[] #[])
  fields := #[]
  methods := #[]
  instanceTypes := #[]
  staticTypes := #[]
  resolved := Array.replicate 14 none
  statics := none }
def pool10 : Array CpInfo := pool [(1, .class_ 2), (0, u "java/lang/String"), (0, .methodref 4 5), (0, .class_ 6), (0, .nameAndType 7 8), (0, u "java/lang/Object"), (0, u "<init>"), (0, u "()V"), (1, .class_ 12), (1, u "java/lang/AbstractStringBuilder"), (0, u "EMPTYVALUE"), (0, u "[B"), (0, .fieldref 10 16), (0, .nameAndType 17 14), (0, u "value"), (0, .fieldref 1 19), (0, .nameAndType 20 21), (0, u "COMPACT_STRINGS"), (0, u "Z"), (0, .fieldref 10 23), (0, .nameAndType 24 25), (0, u "coder"), (0, u "B"), (6, .methodref 1 33), (0, .nameAndType 34 35), (0, u "length"), (0, u "()I"), (0, .class_ 37), (0, u "java/lang/Integer"), (1, .integer 2147483647), (0, .methodref 1 41), (0, .nameAndType 24 42), (0, u "()B"), (2, u "append"), (0, u "(Ljava/lang/String;)Ljava/lang/AbstractStringBuilder;"), (1, .class_ 49), (0, u "java/lang/CharSequence"), (19, u "(Ljava/lang/String;)V"), (5, u "maybeLatin1"), (3, .fieldref 10 80), (0, .nameAndType 81 82), (0, u "count"), (0, u "I"), (0, .methodref 10 84), (0, .nameAndType 85 86), (0, u "isLatin1"), (0, u "()Z"), (13, .methodref 10 101), (0, .nameAndType 102 103), (0, u "ensureCapacityInternal"), (0, u "(I)V"), (0, .methodref 10 105), (0, .nameAndType 106 107), (0, u "newCapacity"), (0, u "(I)I"), (0, .methodref 109 110), (0, .class_ 111), (0, .nameAndType 112 113), (0, u "java/util/Arrays"), (0, u "copyOf"), (0, u "([BI)[B"), (0, .methodref 115 116), (0, .class_ 117), (0, .nameAndType 118 119), (0, u "jdk/internal/util/ArraysSupport"), (0, u "newLength"), (0, u "(III)I"), (68, u "getChars"), (19, .methodref 10 209), (0, .nameAndType 210 211), (0, u "putStringAt"), (0, u "(ILjava/lang/String;)V"), (5, u "inflateIfNeededFor"), (2, .nameAndType 221 222), (0, u "getBytes"), (0, u "([BIB)V"), (22, .methodref 36 246), (0, .nameAndType 247 107), (0, u "stringSize"), (0, .methodref 36 249), (0, .nameAndType 188 250), (0, u "(II[B)I"), (3, .methodref 255 256), (0, .class_ 257), (0, .nameAndType 247 258), (0, u "java/lang/Long"), (0, u "(J)I"), (0, .methodref 255 260), (0, .nameAndType 188 261), (0, u "(JI[B)I"), (135, .methodref 10 398), (0, .nameAndType 217 69), (0, .methodref 1 220), (3, u "()[B"), (40, .class_ 445), (0, u "java/lang/Appendable"), (65, u "(I)Ljava/lang/AbstractStringBuilder;"), (1, u "(J)Ljava/lang/AbstractStringBuilder;"), (38, u "getValue")] 56
def k10m0 : Method := ⟨"<init>", "()V", ⟨[], none⟩, 0, none⟩
def k10c1 : Code := ⟨2, 2, jdk_68_method_2_code, #[], #[]⟩
def k10m1 : Method := ⟨"<init>", "(I)V", ⟨[.int], none⟩, 0, some k10c1⟩
def k10c2 : Code := ⟨1, 1, jdk_68_method_6_code, #[], #[]⟩
def k10m2 : Method := ⟨"length", "()I", ⟨[], some .int⟩, 1, some k10c2⟩
def k10c3 : Code := ⟨4, 3, jdk_68_method_9_code, #[], #[]⟩
def k10m3 : Method := ⟨"ensureCapacityInternal", "(I)V", ⟨[.int], none⟩, 2, some k10c3⟩
def k10c4 : Code := ⟨5, 6, jdk_68_method_10_code, #[], #[]⟩
def k10m4 : Method := ⟨"newCapacity", "(I)I", ⟨[.int], some .int⟩, 2, some k10c4⟩
def k10c5 : Code := ⟨3, 3, jdk_68_method_22_code, #[], #[]⟩
def k10m5 : Method := ⟨"append", "(Ljava/lang/String;)Ljava/lang/AbstractStringBuilder;", ⟨[(.object "java/lang/String")], some (.object "java/lang/AbstractStringBuilder")⟩, 1, some k10c5⟩
def k10c6 : Code := ⟨4, 4, jdk_68_method_32_code, #[], #[]⟩
def k10m6 : Method := ⟨"append", "(I)Ljava/lang/AbstractStringBuilder;", ⟨[.int], some (.object "java/lang/AbstractStringBuilder")⟩, 1, some k10c6⟩
def k10c7 : Code := ⟨5, 5, jdk_68_method_33_code, #[], #[]⟩
def k10m7 : Method := ⟨"append", "(J)Ljava/lang/AbstractStringBuilder;", ⟨[.long], some (.object "java/lang/AbstractStringBuilder")⟩, 1, some k10c7⟩
def k10c8 : Code := ⟨1, 1, jdk_68_method_64_code, #[], #[]⟩
def k10m8 : Method := ⟨"getValue", "()[B", ⟨[], some (.array .byte)⟩, 16, some k10c8⟩
def k10c9 : Code := ⟨1, 1, jdk_68_method_68_code, #[], #[]⟩
def k10m9 : Method := ⟨"isLatin1", "()Z", ⟨[], some .boolean⟩, 16, some k10c9⟩
def k10c10 : Code := ⟨2, 2, jdk_68_method_71_code, #[], #[]⟩
def k10m10 : Method := ⟨"inflateIfNeededFor", "(Ljava/lang/String;)V", ⟨[(.object "java/lang/String")], none⟩, 2, some k10c10⟩
def k10c11 : Code := ⟨4, 3, jdk_68_method_73_code, #[], #[]⟩
def k10m11 : Method := ⟨"putStringAt", "(ILjava/lang/String;)V", ⟨[.int, (.object "java/lang/String")], none⟩, 2, some k10c11⟩
def k10 : Class := { plain "java/lang/AbstractStringBuilder" (some 0) with
  accessFlags := 1056
  interfaces := #[9, 5]
  cf := some (fileOf pool10 10 #[] #[⟨0, 7, 8, #[]⟩, ⟨0, 7, 103, #[]⟩, ⟨1, 34, 35, #[]⟩, ⟨2, 102, 103, #[]⟩, ⟨2, 106, 107, #[]⟩, ⟨1, 45, 46, #[]⟩, ⟨1, 45, 511, #[]⟩, ⟨1, 45, 513, #[]⟩, ⟨16, 552, 403, #[]⟩, ⟨16, 85, 86, #[]⟩, ⟨2, 217, 69, #[]⟩, ⟨2, 210, 211, #[]⟩] 1056 4 #[444, 48] #[⟨0, 17, 14, #[]⟩, ⟨0, 24, 25, #[]⟩, ⟨0, 75, 21, #[]⟩, ⟨0, 81, 82, #[]⟩, ⟨26, 13, 14, #[]⟩])
  fields := #[⟨"value", (.array .byte), 0, 0, 0⟩, ⟨"coder", .byte, 0, 1, 0⟩, ⟨"maybeLatin1", .boolean, 0, 2, 0⟩, ⟨"count", .int, 0, 3, 0⟩, ⟨"EMPTYVALUE", (.array .byte), 26, 0, 0⟩]
  methods := #[k10m0, k10m1, k10m2, k10m3, k10m4, k10m5, k10m6, k10m7, k10m8, k10m9, k10m10, k10m11]
  instanceTypes := #[(.array .byte), .byte, .boolean, .int]
  staticTypes := #[(.array .byte)]
  resolved := Array.replicate 609 none
  statics := none }
def pool11 : Array CpInfo := pool [(1, .methodref 2 3), (0, .class_ 4), (0, .nameAndType 5 6), (0, u "java/lang/AbstractStringBuilder"), (0, u "<init>"), (0, u "(I)V"), (11, .class_ 20), (1, u "java/lang/String"), (3, .class_ 26), (1, u "java/lang/StringBuilder"), (0, u "append"), (0, u "(Ljava/lang/String;)Ljava/lang/StringBuilder;"), (0, .methodref 2 30), (0, .nameAndType 27 31), (0, u "(Ljava/lang/String;)Ljava/lang/AbstractStringBuilder;"), (21, .methodref 2 54), (0, .nameAndType 27 55), (0, u "(I)Ljava/lang/AbstractStringBuilder;"), (0, .methodref 2 57), (0, .nameAndType 27 58), (0, u "(J)Ljava/lang/AbstractStringBuilder;"), (78, .methodref 18 138), (0, .nameAndType 5 139), (0, u "(Ljava/lang/StringBuilder;)V"), (5, u "()V"), (10, u "()I"), (111, u "(I)Ljava/lang/StringBuilder;"), (12, u "(J)Ljava/lang/StringBuilder;"), (61, .methodref 2 344), (0, .nameAndType 345 156), (0, u "length"), (3, .class_ 350), (0, u "java/lang/Appendable"), (0, .class_ 352), (0, u "java/io/Serializable"), (0, .class_ 354), (0, u "java/lang/Comparable"), (0, .class_ 356), (0, u "java/lang/CharSequence"), (0, u "serialVersionUID"), (0, u "J"), (40, u "toString"), (0, u "()Ljava/lang/String;")] 21
def k11c0 : Code := ⟨2, 1, jdk_67_method_1_code, #[], #[]⟩
def k11m0 : Method := ⟨"<init>", "()V", ⟨[], none⟩, 1, some k11c0⟩
def k11c1 : Code := ⟨2, 2, jdk_67_method_7_code, #[], #[]⟩
def k11m1 : Method := ⟨"append", "(Ljava/lang/String;)Ljava/lang/StringBuilder;", ⟨[(.object "java/lang/String")], some (.object "java/lang/StringBuilder")⟩, 1, some k11c1⟩
def k11c2 : Code := ⟨2, 2, jdk_67_method_15_code, #[], #[]⟩
def k11m2 : Method := ⟨"append", "(I)Ljava/lang/StringBuilder;", ⟨[.int], some (.object "java/lang/StringBuilder")⟩, 1, some k11c2⟩
def k11c3 : Code := ⟨3, 3, jdk_67_method_16_code, #[], #[]⟩
def k11m3 : Method := ⟨"append", "(J)Ljava/lang/StringBuilder;", ⟨[.long], some (.object "java/lang/StringBuilder")⟩, 1, some k11c3⟩
def k11c4 : Code := ⟨3, 1, jdk_67_method_42_code, #[], #[]⟩
def k11m4 : Method := ⟨"toString", "()Ljava/lang/String;", ⟨[], some (.object "java/lang/String")⟩, 1, some k11c4⟩
def k11c5 : Code := ⟨1, 1, jdk_67_method_93_code, #[], #[]⟩
def k11m5 : Method := ⟨"length", "()I", ⟨[], some .int⟩, 4161, some k11c5⟩
def k11 : Class := { plain "java/lang/StringBuilder" (some 10) with
  accessFlags := 49
  interfaces := #[9, 3, 4, 5]
  cf := some (fileOf pool11 24 #[] #[⟨1, 5, 145, #[]⟩, ⟨1, 27, 28, #[]⟩, ⟨1, 27, 268, #[]⟩, ⟨1, 27, 281, #[]⟩, ⟨1, 399, 400, #[]⟩, ⟨4161, 345, 156, #[]⟩] 49 2 #[349, 351, 353, 355] #[⟨24, 357, 358, #[]⟩])
  fields := #[⟨"serialVersionUID", .long, 24, 0, 0⟩]
  methods := #[k11m0, k11m1, k11m2, k11m3, k11m4, k11m5]
  instanceTypes := #[(.array .byte), .byte, .boolean, .int]
  staticTypes := #[.long]
  resolved := Array.replicate 422 none
  statics := none }
def pool12 : Array CpInfo := pool [(9, u "<init>"), (6, .class_ 18), (1, u "java/lang/Object"), (0, u "()V"), (1, .class_ 23), (1, u "jdk/internal/util/ArraysSupport"), (0, u "LOG2_ARRAY_LONG_INDEX_SCALE"), (0, u "I"), (2, u "U"), (0, u "Ljdk/internal/misc/Unsafe;"), (8, u "BIG_ENDIAN"), (0, u "Z"), (8, u "LOG2_BYTE_BIT_SIZE"), (4, u "LOG2_ARRAY_INT_INDEX_SCALE"), (54, u "JLA"), (0, u "Ljdk/internal/access/JavaLangAccess;"), (11, u "LOG2_ARRAY_BOOLEAN_INDEX_SCALE"), (9, u "LOG2_ARRAY_BYTE_INDEX_SCALE"), (5, u "LOG2_ARRAY_CHAR_INDEX_SCALE"), (5, u "LOG2_ARRAY_SHORT_INDEX_SCALE"), (18, u "LOG2_ARRAY_FLOAT_INDEX_SCALE"), (24, u "LOG2_ARRAY_DOUBLE_INDEX_SCALE"), (6, .methodref 195 196), (0, .class_ 197), (0, .nameAndType 198 199), (0, u "java/lang/Math"), (0, u "max"), (0, u "(II)I"), (0, .integer 2147483639), (76, u "T_BOOLEAN"), (2, u "T_CHAR"), (1, u "T_FLOAT"), (1, u "T_DOUBLE"), (1, u "T_BYTE"), (1, u "T_SHORT"), (1, u "T_INT"), (1, u "T_LONG"), (1, u "SOFT_MAX_ARRAY_LENGTH"), (56, u "newLength"), (0, u "(III)I")] 25
def k12m0 : Method := ⟨"<init>", "()V", ⟨[], none⟩, 2, none⟩
def k12c1 : Code := ⟨3, 4, jdk_48_method_27_code, #[], #[]⟩
def k12m1 : Method := ⟨"newLength", "(III)I", ⟨[.int, .int, .int], some .int⟩, 9, some k12c1⟩
def k12 : Class := { plain "jdk/internal/util/ArraysSupport" (some 0) with
  accessFlags := 33
  interfaces := #[]
  cf := some (fileOf pool12 21 #[] #[⟨2, 9, 19, #[]⟩, ⟨9, 351, 352, #[]⟩] 33 16 #[] #[⟨24, 28, 29, #[]⟩, ⟨26, 38, 39, #[]⟩, ⟨25, 121, 25, #[]⟩, ⟨25, 131, 25, #[]⟩, ⟨25, 137, 25, #[]⟩, ⟨25, 143, 25, #[]⟩, ⟨25, 53, 25, #[]⟩, ⟨25, 24, 25, #[]⟩, ⟨25, 162, 25, #[]⟩, ⟨25, 187, 25, #[]⟩, ⟨26, 48, 25, #[]⟩, ⟨25, 277, 25, #[]⟩, ⟨25, 280, 25, #[]⟩, ⟨25, 282, 25, #[]⟩, ⟨25, 284, 25, #[]⟩, ⟨25, 286, 25, #[]⟩, ⟨25, 288, 25, #[]⟩, ⟨25, 290, 25, #[]⟩, ⟨25, 292, 25, #[]⟩, ⟨26, 108, 109, #[]⟩, ⟨25, 294, 25, #[]⟩])
  fields := #[⟨"U", (.object "jdk/internal/misc/Unsafe"), 24, 0, 0⟩, ⟨"BIG_ENDIAN", .boolean, 26, 1, 0⟩, ⟨"LOG2_ARRAY_BOOLEAN_INDEX_SCALE", .int, 25, 2, 0⟩, ⟨"LOG2_ARRAY_BYTE_INDEX_SCALE", .int, 25, 3, 0⟩, ⟨"LOG2_ARRAY_CHAR_INDEX_SCALE", .int, 25, 4, 0⟩, ⟨"LOG2_ARRAY_SHORT_INDEX_SCALE", .int, 25, 5, 0⟩, ⟨"LOG2_ARRAY_INT_INDEX_SCALE", .int, 25, 6, 0⟩, ⟨"LOG2_ARRAY_LONG_INDEX_SCALE", .int, 25, 7, 0⟩, ⟨"LOG2_ARRAY_FLOAT_INDEX_SCALE", .int, 25, 8, 0⟩, ⟨"LOG2_ARRAY_DOUBLE_INDEX_SCALE", .int, 25, 9, 0⟩, ⟨"LOG2_BYTE_BIT_SIZE", .int, 26, 10, 0⟩, ⟨"T_BOOLEAN", .int, 25, 11, 0⟩, ⟨"T_CHAR", .int, 25, 12, 0⟩, ⟨"T_FLOAT", .int, 25, 13, 0⟩, ⟨"T_DOUBLE", .int, 25, 14, 0⟩, ⟨"T_BYTE", .int, 25, 15, 0⟩, ⟨"T_SHORT", .int, 25, 16, 0⟩, ⟨"T_INT", .int, 25, 17, 0⟩, ⟨"T_LONG", .int, 25, 18, 0⟩, ⟨"JLA", (.object "jdk/internal/access/JavaLangAccess"), 26, 19, 0⟩, ⟨"SOFT_MAX_ARRAY_LENGTH", .int, 25, 20, 0⟩]
  methods := #[k12m0, k12m1]
  instanceTypes := #[]
  staticTypes := #[(.object "jdk/internal/misc/Unsafe"), .boolean, .int, .int, .int, .int, .int, .int, .int, .int, .int, .int, .int, .int, .int, .int, .int, .int, .int, (.object "jdk/internal/access/JavaLangAccess"), .int]
  resolved := Array.replicate 378 none
  statics := none }
def pool13 : Array CpInfo := pool [(1, .class_ 2), (0, u "java/lang/Math"), (1, .class_ 6), (1, u "java/lang/Object"), (0, u "<init>"), (0, u "()V"), (89, .class_ 100), (1, u "java/lang/Math$RandomNumberGeneratorHolder"), (71, u "negativeZeroFloatBits"), (0, u "J"), (2, u "negativeZeroDoubleBits"), (21, u "max"), (2, u "min"), (43, u "$assertionsDisabled"), (0, u "Z"), (88, u "(II)I"), (2, u "twoToTheDoubleScaleDown"), (0, u "D"), (4, u "twoToTheDoubleScaleUp"), (9, u "E"), (3, u "PI"), (2, u "TAU"), (2, u "DEGREES_TO_RADIANS"), (0, u "RADIANS_TO_DEGREES")] 94
def k13m0 : Method := ⟨"<init>", "()V", ⟨[], none⟩, 2, none⟩
def k13c1 : Code := ⟨2, 2, jdk_29_method_65_code, #[], #[]⟩
def k13m1 : Method := ⟨"max", "(II)I", ⟨[.int, .int], some .int⟩, 9, some k13c1⟩
def k13c2 : Code := ⟨2, 2, jdk_29_method_69_code, #[], #[]⟩
def k13m2 : Method := ⟨"min", "(II)I", ⟨[.int, .int], some .int⟩, 9, some k13c2⟩
def k13 : Class := { plain "java/lang/Math" (some 0) with
  accessFlags := 49
  interfaces := #[]
  cf := some (fileOf pool13 1 #[.nestMembers #[98]] #[⟨2, 7, 8, #[]⟩, ⟨9, 198, 335, #[]⟩, ⟨9, 201, 335, #[]⟩] 49 4 #[] #[⟨25, 354, 339, #[]⟩, ⟨25, 358, 339, #[]⟩, ⟨25, 361, 339, #[]⟩, ⟨26, 364, 339, #[]⟩, ⟨26, 365, 339, #[]⟩, ⟨26, 172, 173, #[]⟩, ⟨26, 176, 173, #[]⟩, ⟨8, 344, 339, #[]⟩, ⟨8, 338, 339, #[]⟩, ⟨4120, 245, 246, #[]⟩])
  fields := #[⟨"E", .double, 25, 0, 0⟩, ⟨"PI", .double, 25, 1, 0⟩, ⟨"TAU", .double, 25, 2, 0⟩, ⟨"DEGREES_TO_RADIANS", .double, 26, 3, 0⟩, ⟨"RADIANS_TO_DEGREES", .double, 26, 4, 0⟩, ⟨"negativeZeroFloatBits", .long, 26, 5, 0⟩, ⟨"negativeZeroDoubleBits", .long, 26, 6, 0⟩, ⟨"twoToTheDoubleScaleUp", .double, 8, 7, 0⟩, ⟨"twoToTheDoubleScaleDown", .double, 8, 8, 0⟩, ⟨"$assertionsDisabled", .boolean, 4120, 9, 0⟩]
  methods := #[k13m0, k13m1, k13m2]
  instanceTypes := #[]
  staticTypes := #[.double, .double, .double, .double, .double, .long, .long, .double, .double, .boolean]
  resolved := Array.replicate 460 none
  statics := none }
def pool14 : Array CpInfo := pool [(2, .class_ 4), (1, u "java/lang/Object"), (0, u "<init>"), (0, u "()V"), (7, .class_ 16), (1, u "java/util/Arrays"), (57, .class_ 76), (1, u "java/util/Arrays$NaturalOrder"), (32, u "()Ljava/lang/Object;"), (3, .class_ 115), (1, u "java/util/Arrays$LegacyMergeSort"), (1, u "Z"), (10, .nameAndType 129 109), (0, u "clone"), (9, u "copyOfRange"), (10, .methodref 151 152), (0, .class_ 153), (0, .nameAndType 154 155), (0, u "java/lang/System"), (0, u "arraycopy"), (0, u "(Ljava/lang/Object;ILjava/lang/Object;II)V"), (146, u "copyOf"), (1, .methodref 305 306), (0, .class_ 307), (0, .nameAndType 308 309), (0, u "java/lang/Math"), (0, u "min"), (0, u "(II)I"), (0, .methodref 311 128), (0, .class_ 312), (0, u "[B"), (26, .methodref 14 340), (0, .nameAndType 341 342), (0, u "copyOfRangeByte"), (0, u "([BII)[B"), (0, .methodref 14 344), (0, .nameAndType 345 346), (0, u "checkLength"), (0, u "(II)V"), (28, .class_ 376), (0, u "java/util/Arrays$ArrayList"), (68, u "$assertionsDisabled"), (269, u "MIN_ARRAY_SORT_GRAN"), (0, u "I"), (2, u "INSERTIONSORT_THRESHOLD"), (149, u "([BI)[B"), (105, .class_ 976), (0, u "java/util/Arrays$ArrayItr")] 52
def k14m0 : Method := ⟨"<init>", "()V", ⟨[], none⟩, 2, none⟩
def k14c1 : Code := ⟨6, 3, jdk_65_method_121_code, #[], #[]⟩
def k14m1 : Method := ⟨"copyOf", "([BI)[B", ⟨[(.array .byte), .int], some (.array .byte)⟩, 9, some k14c1⟩
def k14c2 : Code := ⟨4, 2, jdk_65_method_131_code, #[], #[]⟩
def k14m2 : Method := ⟨"checkLength", "(II)V", ⟨[.int, .int], none⟩, 10, some k14c2⟩
def k14c3 : Code := ⟨3, 3, jdk_65_method_132_code, #[], #[]⟩
def k14m3 : Method := ⟨"copyOfRange", "([BII)[B", ⟨[(.array .byte), .int, .int], some (.array .byte)⟩, 9, some k14c3⟩
def k14c4 : Code := ⟨6, 5, jdk_65_method_133_code, #[], #[]⟩
def k14m4 : Method := ⟨"copyOfRangeByte", "([BII)[B", ⟨[(.array .byte), .int, .int], some (.array .byte)⟩, 10, some k14c4⟩
def k14 : Class := { plain "java/util/Arrays" (some 0) with
  accessFlags := 49
  interfaces := #[]
  cf := some (fileOf pool14 14 #[.nestMembers #[975, 375, 113, 74]] #[⟨2, 5, 6, #[]⟩, ⟨9, 302, 869, #[]⟩, ⟨10, 345, 346, #[]⟩, ⟨9, 139, 342, #[]⟩, ⟨10, 341, 342, #[]⟩] 49 2 #[] #[⟨26, 715, 716, #[]⟩, ⟨26, 719, 716, #[]⟩, ⟨4120, 445, 117, #[]⟩])
  fields := #[⟨"MIN_ARRAY_SORT_GRAN", .int, 26, 0, 0⟩, ⟨"INSERTIONSORT_THRESHOLD", .int, 26, 1, 0⟩, ⟨"$assertionsDisabled", .boolean, 4120, 2, 0⟩]
  methods := #[k14m0, k14m1, k14m2, k14m3, k14m4]
  instanceTypes := #[]
  staticTypes := #[.int, .int, .boolean]
  resolved := Array.replicate 1029 none
  statics := none }
def pool15 : Array CpInfo := pool [(2, .class_ 4), (1, u "java/lang/Object"), (0, u "<init>"), (0, u "()V"), (1, .class_ 10), (1, u "java/lang/System"), (0, u "allowSecurityManager"), (0, u "I"), (16, u "cons"), (0, u "Ljava/io/Console;"), (77, .class_ 110), (1, u "java/lang/System$CallersHolder"), (43, u "initialErrStream"), (0, u "Ljava/io/PrintStream;"), (19, u "security"), (0, u "Ljava/lang/SecurityManager;"), (31, .class_ 209), (0, u "java/lang/System$1"), (7, u "props"), (0, u "Ljava/util/Properties;"), (2, u "lineSeparator"), (0, u "Ljava/lang/String;"), (96, .class_ 321), (1, u "java/lang/System$LoggerFinder"), (5, .class_ 328), (0, u "java/lang/System$Logger"), (67, u "err"), (2, u "out"), (91, u "notSupportedJnuEncoding"), (15, u "in"), (17, u "initialIn"), (0, u "Ljava/io/InputStream;"), (35, u "bootLayer"), (0, u "Ljava/lang/ModuleLayer;"), (99, .class_ 664), (0, u "java/lang/System$2"), (9, u "NEVER"), (2, u "MAYBE"), (49, u "arraycopy"), (0, u "(Ljava/lang/Object;ILjava/lang/Object;II)V"), (72, .class_ 802), (0, u "java/lang/System$Logger$Level")] 31
def k15m0 : Method := ⟨"<init>", "()V", ⟨[], none⟩, 2, none⟩
def k15m1 : Method := ⟨"arraycopy", "(Ljava/lang/Object;ILjava/lang/Object;II)V", ⟨[(.object "java/lang/Object"), .int, (.object "java/lang/Object"), .int, .int], none⟩, 265, none⟩
def k15 : Class := { plain "java/lang/System" (some 0) with
  accessFlags := 49
  interfaces := #[]
  cf := some (fileOf pool15 8 #[.nestMembers #[319, 327, 801, 108, 663, 208]] #[⟨2, 5, 6, #[]⟩, ⟨265, 727, 728, #[]⟩] 49 2 #[] #[⟨25, 507, 526, #[]⟩, ⟨25, 399, 155, #[]⟩, ⟨25, 396, 155, #[]⟩, ⟨10, 525, 526, #[]⟩, ⟨26, 674, 12, #[]⟩, ⟨26, 677, 12, #[]⟩, ⟨10, 11, 12, #[]⟩, ⟨74, 175, 176, #[]⟩, ⟨10, 491, 222, #[]⟩, ⟨74, 29, 30, #[]⟩, ⟨74, 154, 155, #[]⟩, ⟨10, 217, 218, #[]⟩, ⟨10, 221, 222, #[]⟩, ⟨8, 562, 563, #[]⟩])
  fields := #[⟨"in", (.object "java/io/InputStream"), 25, 0, 0⟩, ⟨"out", (.object "java/io/PrintStream"), 25, 1, 0⟩, ⟨"err", (.object "java/io/PrintStream"), 25, 2, 0⟩, ⟨"initialIn", (.object "java/io/InputStream"), 10, 3, 0⟩, ⟨"NEVER", .int, 26, 4, 0⟩, ⟨"MAYBE", .int, 26, 5, 0⟩, ⟨"allowSecurityManager", .int, 10, 6, 0⟩, ⟨"security", (.object "java/lang/SecurityManager"), 74, 7, 0⟩, ⟨"notSupportedJnuEncoding", (.object "java/lang/String"), 10, 8, 0⟩, ⟨"cons", (.object "java/io/Console"), 74, 9, 0⟩, ⟨"initialErrStream", (.object "java/io/PrintStream"), 74, 10, 0⟩, ⟨"props", (.object "java/util/Properties"), 10, 11, 0⟩, ⟨"lineSeparator", (.object "java/lang/String"), 10, 12, 0⟩, ⟨"bootLayer", (.object "java/lang/ModuleLayer"), 8, 13, 0⟩]
  methods := #[k15m0, k15m1]
  instanceTypes := #[]
  staticTypes := #[(.object "java/io/InputStream"), (.object "java/io/PrintStream"), (.object "java/io/PrintStream"), (.object "java/io/InputStream"), .int, .int, .int, (.object "java/lang/SecurityManager"), (.object "java/lang/String"), (.object "java/io/Console"), (.object "java/io/PrintStream"), (.object "java/util/Properties"), (.object "java/lang/String"), (.object "java/lang/ModuleLayer")]
  resolved := Array.replicate 834 none
  statics := none }
def pool16 : Array CpInfo := pool [(2, .class_ 4), (1, u "java/lang/Object"), (0, u "<init>"), (0, u "()V"), (1, .class_ 10), (1, u "java/lang/Number"), (2, .class_ 14), (0, u "java/io/Serializable"), (0, u "serialVersionUID"), (0, u "J")] 20
def k16m0 : Method := ⟨"<init>", "()V", ⟨[], none⟩, 1, none⟩
def k16 : Class := { plain "java/lang/Number" (some 0) with
  accessFlags := 1057
  interfaces := #[3]
  cf := some (fileOf pool16 8 #[] #[⟨1, 5, 6, #[]⟩] 1057 2 #[13] #[⟨26, 15, 16, #[]⟩])
  fields := #[⟨"serialVersionUID", .long, 26, 0, 0⟩]
  methods := #[k16m0]
  instanceTypes := #[]
  staticTypes := #[.long]
  resolved := Array.replicate 37 none
  statics := none }
def pool17 : Array CpInfo := pool [(1, .class_ 2), (0, u "java/lang/Integer"), (16, u "digits"), (0, u "[C"), (33, u "(I)I"), (19, u "stringSize"), (2, u "getChars"), (0, u "(II[B)I"), (4, .fieldref 1 84), (0, .nameAndType 85 86), (0, u "DigitOnes"), (0, u "[B"), (0, .fieldref 1 88), (0, .nameAndType 89 86), (0, u "DigitTens"), (99, .class_ 190), (0, u "java/lang/Integer$IntegerCache"), (3, u "I"), (8, .class_ 204), (0, u "java/lang/Number"), (2, u "value"), (94, u "TYPE"), (0, u "Ljava/lang/Class;"), (0, .class_ 305), (0, u "java/lang/Comparable"), (0, .class_ 307), (0, u "java/lang/constant/Constable"), (0, .class_ 309), (0, u "java/lang/constant/ConstantDesc"), (0, u "MIN_VALUE"), (1, u "MAX_VALUE"), (3, u "SIZE"), (1, u "BYTES"), (1, u "serialVersionUID"), (0, u "J")] 131
def k17c0 : Code := ⟨4, 7, jdk_33_method_12_code, #[], #[]⟩
def k17m0 : Method := ⟨"getChars", "(II[B)I", ⟨[.int, .int, (.array .byte)], some .int⟩, 8, some k17c0⟩
def k17c1 : Code := ⟨2, 4, jdk_33_method_13_code, #[], #[]⟩
def k17m1 : Method := ⟨"stringSize", "(I)I", ⟨[.int], some .int⟩, 8, some k17c1⟩
def k17 : Class := { plain "java/lang/Integer" (some 16) with
  accessFlags := 49
  interfaces := #[4, 6, 7]
  cf := some (fileOf pool17 1 #[.nestMembers #[189]] #[⟨8, 77, 78, #[]⟩, ⟨8, 74, 54, #[]⟩] 49 203 #[304, 306, 308] #[⟨25, 310, 194, #[]⟩, ⟨25, 312, 194, #[]⟩, ⟨25, 302, 303, #[]⟩, ⟨24, 19, 20, #[]⟩, ⟨24, 89, 86, #[]⟩, ⟨24, 85, 86, #[]⟩, ⟨18, 207, 194, #[]⟩, ⟨25, 316, 194, #[]⟩, ⟨25, 318, 194, #[]⟩, ⟨26, 320, 321, #[]⟩])
  fields := #[⟨"MIN_VALUE", .int, 25, 0, 0⟩, ⟨"MAX_VALUE", .int, 25, 1, 0⟩, ⟨"TYPE", (.object "java/lang/Class"), 25, 2, 0⟩, ⟨"digits", (.array .char), 24, 3, 0⟩, ⟨"DigitTens", (.array .byte), 24, 4, 0⟩, ⟨"DigitOnes", (.array .byte), 24, 5, 0⟩, ⟨"value", .int, 18, 0, 0⟩, ⟨"SIZE", .int, 25, 6, 0⟩, ⟨"BYTES", .int, 25, 7, 0⟩, ⟨"serialVersionUID", .long, 26, 8, 0⟩]
  methods := #[k17m0, k17m1]
  instanceTypes := #[.int]
  staticTypes := #[.int, .int, (.object "java/lang/Class"), (.array .char), (.array .byte), (.array .byte), .int, .int, .long]
  resolved := Array.replicate 453 none
  statics := some 1 }
def pool18 : Array CpInfo := pool [(1, .class_ 2), (0, u "java/lang/Long"), (15, .class_ 20), (1, u "java/lang/Integer"), (32, .long 10), (47, u "(J)I"), (18, u "stringSize"), (2, u "getChars"), (0, u "(JI[B)I"), (4, .long 18446744071562067968), (1, .long 100), (1, .fieldref 18 134), (0, .nameAndType 135 136), (0, u "DigitOnes"), (0, u "[B"), (0, .fieldref 18 138), (0, .nameAndType 139 136), (0, u "DigitTens"), (0, .long 18446744073709551606), (94, .class_ 237), (1, u "java/lang/Long$LongCache"), (33, .class_ 272), (0, u "java/lang/Number"), (2, u "value"), (0, u "J"), (84, u "TYPE"), (0, u "Ljava/lang/Class;"), (0, .class_ 364), (0, u "java/lang/Comparable"), (0, .class_ 366), (0, u "java/lang/constant/Constable"), (0, .class_ 368), (0, u "java/lang/constant/ConstantDesc"), (0, u "MIN_VALUE"), (1, u "MAX_VALUE"), (4, u "SIZE"), (0, u "I"), (1, u "BYTES"), (1, u "serialVersionUID")] 142
def k18c0 : Code := ⟨4, 11, jdk_35_method_14_code, #[], #[]⟩
def k18m0 : Method := ⟨"getChars", "(JI[B)I", ⟨[.long, .int, (.array .byte)], some .int⟩, 8, some k18c0⟩
def k18c1 : Code := ⟨4, 6, jdk_35_method_15_code, #[], #[]⟩
def k18m1 : Method := ⟨"stringSize", "(J)I", ⟨[.long], some .int⟩, 8, some k18c1⟩
def k18 : Class := { plain "java/lang/Long" (some 16) with
  accessFlags := 49
  interfaces := #[4, 6, 7]
  cf := some (fileOf pool18 1 #[.nestMembers #[235]] #[⟨8, 123, 124, #[]⟩, ⟨8, 120, 101, #[]⟩] 49 271 #[363, 365, 367] #[⟨25, 369, 276, #[]⟩, ⟨25, 371, 276, #[]⟩, ⟨25, 361, 362, #[]⟩, ⟨18, 275, 276, #[]⟩, ⟨25, 376, 377, #[]⟩, ⟨25, 379, 377, #[]⟩, ⟨26, 381, 276, #[]⟩])
  fields := #[⟨"MIN_VALUE", .long, 25, 0, 0⟩, ⟨"MAX_VALUE", .long, 25, 1, 0⟩, ⟨"TYPE", (.object "java/lang/Class"), 25, 2, 0⟩, ⟨"value", .long, 18, 0, 0⟩, ⟨"SIZE", .int, 25, 3, 0⟩, ⟨"BYTES", .int, 25, 4, 0⟩, ⟨"serialVersionUID", .long, 26, 5, 0⟩]
  methods := #[k18m0, k18m1]
  instanceTypes := #[.long]
  staticTypes := #[.long, .long, (.object "java/lang/Class"), .int, .int, .long]
  resolved := Array.replicate 524 none
  statics := none }
def pool19 : Array CpInfo := pool [(4, .class_ 6), (1, u "java/lang/Object"), (0, u "<init>"), (0, u "()V"), (5, .class_ 16), (1, u "java/lang/StringLatin1"), (104, u "$assertionsDisabled"), (0, u "Z"), (98, .class_ 223), (1, u "java/lang/StringLatin1$LinesSpliterator"), (57, u "equals"), (0, u "([B[B)Z"), (107, .class_ 391), (0, u "java/lang/StringLatin1$CharsSpliterator")] 3
def k19m0 : Method := ⟨"<init>", "()V", ⟨[], none⟩, 0, none⟩
def k19c1 : Code := ⟨3, 3, jdk_43_method_13_code, #[], #[]⟩
def k19m1 : Method := ⟨"equals", "([B[B)Z", ⟨[(.array .byte), (.array .byte)], some .boolean⟩, 9, some k19c1⟩
def k19 : Class := { plain "java/lang/StringLatin1" (some 0) with
  accessFlags := 48
  interfaces := #[]
  cf := some (fileOf pool19 14 #[.nestMembers #[390, 221]] #[⟨0, 7, 8, #[]⟩, ⟨9, 281, 282, #[]⟩] 48 4 #[] #[⟨4120, 121, 122, #[]⟩])
  fields := #[⟨"$assertionsDisabled", .boolean, 4120, 0, 0⟩]
  methods := #[k19m0, k19m1]
  instanceTypes := #[]
  staticTypes := #[.boolean]
  resolved := Array.replicate 395 none
  statics := none }
def pool20 : Array CpInfo := pool [(1, .class_ 2), (0, u "java/lang/Cloneable"), (0, .class_ 4), (0, u "java/lang/Object")] 2
def k20 : Class := { plain "java/lang/Cloneable" (some 0) with
  accessFlags := 1537
  interfaces := #[]
  cf := some (fileOf pool20 1 #[] #[] 1537 3 #[] #[])
  fields := #[]
  methods := #[]
  instanceTypes := #[]
  staticTypes := #[]
  resolved := Array.replicate 7 none
  statics := none }
def pool21 : Array CpInfo := pool [(2, .class_ 4), (1, u "java/lang/Object"), (0, u "<init>"), (0, u "()V"), (17, .class_ 26), (1, u "jdk/internal/util/Preconditions"), (28, .class_ 56), (0, u "jdk/internal/util/Preconditions$4"), (57, .class_ 115), (0, u "jdk/internal/util/Preconditions$1"), (7, u "SIOOBE_FORMATTER"), (0, u "Ljava/util/function/BiFunction;"), (0, .class_ 126), (0, u "jdk/internal/util/Preconditions$2"), (3, u "AIOOBE_FORMATTER"), (0, .class_ 132), (0, u "jdk/internal/util/Preconditions$3"), (3, u "IOOBE_FORMATTER")] 57
def k21m0 : Method := ⟨"<init>", "()V", ⟨[], none⟩, 1, none⟩
def k21 : Class := { plain "jdk/internal/util/Preconditions" (some 0) with
  accessFlags := 33
  interfaces := #[]
  cf := some (fileOf pool21 24 #[.nestMembers #[55, 131, 125, 114]] #[⟨1, 5, 6, #[]⟩] 33 2 #[] #[⟨25, 123, 124, #[]⟩, ⟨25, 130, 124, #[]⟩, ⟨25, 136, 124, #[]⟩])
  fields := #[⟨"SIOOBE_FORMATTER", (.object "java/util/function/BiFunction"), 25, 0, 0⟩, ⟨"AIOOBE_FORMATTER", (.object "java/util/function/BiFunction"), 25, 1, 0⟩, ⟨"IOOBE_FORMATTER", (.object "java/util/function/BiFunction"), 25, 2, 0⟩]
  methods := #[k21m0]
  instanceTypes := #[]
  staticTypes := #[(.object "java/util/function/BiFunction"), (.object "java/util/function/BiFunction"), (.object "java/util/function/BiFunction")]
  resolved := Array.replicate 194 none
  statics := some 2 }
def k22 : Class := { plain "byte" none with kind := .primitive 'B', accessFlags := 0x411 }
def k23 : Class := { plain "[B" (some 0) with kind := .array 22 .byte, interfaces := #[20, 3], accessFlags := 1041 }
def k24 : Class := { plain "long" none with kind := .primitive 'J', accessFlags := 0x411 }
def k25 : Class := { plain "[J" (some 0) with kind := .array 24 .long, interfaces := #[20, 3], accessFlags := 1041 }
def heap : Heap := #[{ cls := 8, slots := #[.long 0, .int 1, .null, .int 0, .null, .int 0, .int 0], vm := .statics 8 },
  { cls := 17, slots := #[.int 0, .int 0, .null, .null, .ref 4, .ref 3, .int 0, .int 0, .long 0], vm := .statics 17 },
  { cls := 21, slots := #[.null, .null, .null], vm := .statics 21 },
  { cls := 23, slots := #[.int 48, .int 49, .int 50, .int 51, .int 52, .int 53, .int 54, .int 55, .int 56, .int 57, .int 48, .int 49, .int 50, .int 51, .int 52, .int 53, .int 54, .int 55, .int 56, .int 57, .int 48, .int 49, .int 50, .int 51, .int 52, .int 53, .int 54, .int 55, .int 56, .int 57, .int 48, .int 49, .int 50, .int 51, .int 52, .int 53, .int 54, .int 55, .int 56, .int 57, .int 48, .int 49, .int 50, .int 51, .int 52, .int 53, .int 54, .int 55, .int 56, .int 57, .int 48, .int 49, .int 50, .int 51, .int 52, .int 53, .int 54, .int 55, .int 56, .int 57, .int 48, .int 49, .int 50, .int 51, .int 52, .int 53, .int 54, .int 55, .int 56, .int 57, .int 48, .int 49, .int 50, .int 51, .int 52, .int 53, .int 54, .int 55, .int 56, .int 57, .int 48, .int 49, .int 50, .int 51, .int 52, .int 53, .int 54, .int 55, .int 56, .int 57, .int 48, .int 49, .int 50, .int 51, .int 52, .int 53, .int 54, .int 55, .int 56, .int 57], vm := .none },
  { cls := 23, slots := #[.int 48, .int 48, .int 48, .int 48, .int 48, .int 48, .int 48, .int 48, .int 48, .int 48, .int 49, .int 49, .int 49, .int 49, .int 49, .int 49, .int 49, .int 49, .int 49, .int 49, .int 50, .int 50, .int 50, .int 50, .int 50, .int 50, .int 50, .int 50, .int 50, .int 50, .int 51, .int 51, .int 51, .int 51, .int 51, .int 51, .int 51, .int 51, .int 51, .int 51, .int 52, .int 52, .int 52, .int 52, .int 52, .int 52, .int 52, .int 52, .int 52, .int 52, .int 53, .int 53, .int 53, .int 53, .int 53, .int 53, .int 53, .int 53, .int 53, .int 53, .int 54, .int 54, .int 54, .int 54, .int 54, .int 54, .int 54, .int 54, .int 54, .int 54, .int 55, .int 55, .int 55, .int 55, .int 55, .int 55, .int 55, .int 55, .int 55, .int 55, .int 56, .int 56, .int 56, .int 56, .int 56, .int 56, .int 56, .int 56, .int 56, .int 56, .int 57, .int 57, .int 57, .int 57, .int 57, .int 57, .int 57, .int 57, .int 57, .int 57], vm := .none }]
def classes : Array Class := #[k0, k1, k2, k3, k4, k5, k6, k7, k8, k9, k10, k11, k12, k13, k14, k15, k16, k17, k18, k19, k20, k21, k22, k23, k24, k25]
def interned : List (Array UInt16 × Addr) := []
def slotsUsed : Nat := 219
def theMethod : MethodId := ⟨1, 3⟩
def args0 : Array Value := #[.int 5, .int 6, .long 7, .long 8, .long 9, .int 10]
def aboutOver (below : List Frame) : State where
  vm := { classes := classes, interned := interned.toArray }
  heap := heap
  slotsUsed := slotsUsed
  threads := #[{ frames := .invoking theMethod args0 :: below }]
def below0 : List Frame := [.native { method := ⟨0, 0⟩, args := #[] }]
def about1 : State := aboutOver below0
def p0 : Program := .bare "" "" ""
def e0 : Env := launch0.env 0 0 0
theorem w_frames : about1.frames = Frame.invoking theMethod args0 :: below0 := rfl
theorem w_args : argsFit about1.vm theMethod args0 = true := by decide +kernel
theorem w_heap : heapFits about1 = true := by decide +kernel
theorem w_runnable : about1.curStatus? = some .runnable := by decide +kernel
theorem w_alone : about1.alone = true := by decide +kernel
theorem w_named : about1.methodNamed? x = some theMethod := by decide +kernel
theorem w_hears : about1.hears theMethod below0 = true := by decide +kernel
theorem w_ripe : about1.ripe theMethod args0 below0 = true := by decide +kernel
theorem w_running : about1.status = .running := rfl
theorem w_room : about1.hasRoom e0.platform room_1 = true :=
  launch0.hasRoom_least _ room_1 (by decide +kernel) (by decide +kernel) (by decide +kernel) (by decide +kernel) (by decide +kernel) (by decide +kernel)
theorem allAtoms_all (ts : List Jvm.Cond) (a : Array Jvm.Value) (st : Jvm.State) : (allAtoms ts).before a st = ts.all (fun c => c.before a st) := by
  induction ts with
  | nil => rfl
  | cons c t ih =>
    show (Jvm.Cond.and c (allAtoms t)).before a st = _
    rw [Jvm.Cond.before_and, ih, List.all_cons]
def words1 : List Jvm.Cond := Jvm.Cond.code x code maxLocals ret :: tables_1
theorem code_word {y : MethodName} {bytes : ByteArray} {mx : Nat} {rt : Option FieldType} {a : Array Value} {s : State} {m : MethodId} {meth : Method} {c : Code} (h1 : s.methodNamed? y = some m) (h2 : s.vm.method? m = some meth) (h3 : meth.code = some c) (h4 : c.code = bytes)
    (h5 : (c.maxLocals == mx && c.exceptionTable.isEmpty && decide (c.maxStack ≤ mostOperands) && decide (meth.sig.returnType = rt) && !meth.locks && decide (parseMethodDescriptor y.desc = some meth.sig)) = true) : (Jvm.Cond.code y bytes mx rt).before a s = true := by
  simp only [Bool.and_eq_true, beq_iff_eq, Bool.not_eq_true', decide_eq_true_eq] at h5
  obtain ⟨⟨⟨⟨⟨g1, g2⟩, g3⟩, g4⟩, g5⟩, g6⟩ := h5
  simp [Cond.before, Cond.holds, Cond.value, h1, h2, h3, h4, g1, g2, g3, g4, g5, g6]
def isCode : Jvm.Cond → Bool
  | .code _ _ _ _ => true
  | _ => false
theorem all_split {L : List Jvm.Cond} {P : Jvm.Cond → Bool} (h1 : L.all (fun c => isCode c || P c) = true) (h2 : ∀ c ∈ L.filter isCode, P c = true) : L.all P = true := by
  refine List.all_eq_true.mpr fun c hc => ?_
  have h := List.all_eq_true.mp h1 c hc
  rcases Bool.eq_false_or_eq_true (isCode c) with hi | hi
  · exact h2 c (List.mem_filter.mpr ⟨hc, hi⟩)
  · simpa [hi] using h
theorem w_c0 : (Jvm.Cond.code x code maxLocals ret).before args0 about1 = true := code_word (m := ⟨1, 3⟩) (meth := k1m3) (c := k1c3) (by decide +kernel) rfl rfl rfl (by decide +kernel)
theorem w_c1 : (Jvm.Cond.code ({ cls := "com/example/kick/kick/value/PoolMetricsToStringPinLaw", name := "make", desc := "([J)Lcom/example/kick/kick/value/PoolMetrics;" } : Jvm.MethodName) method_3_code (1 : Nat) (Option.some (Jvm.ClassFile.FieldType.object "com/example/kick/kick/value/PoolMetrics"))).before args0 about1 = true := code_word (m := ⟨1, 2⟩) (meth := k1m2) (c := k1c2) (by decide +kernel) rfl rfl rfl (by decide +kernel)
theorem w_c2 : (Jvm.Cond.code ({ cls := "com/example/kick/kick/value/PoolMetrics", name := "<init>", desc := "(IIIJJJJJJ)V" } : Jvm.MethodName) prog_12_method_1_code (16 : Nat) (Option.none : Option Jvm.ClassFile.FieldType)).before args0 about1 = true := code_word (m := ⟨2, 0⟩) (meth := k2m0) (c := k2c0) (by decide +kernel) rfl rfl rfl (by decide +kernel)
theorem w_c3 : (Jvm.Cond.code ({ cls := "java/lang/Object", name := "<init>", desc := "()V" } : Jvm.MethodName) object_method_1_code (1 : Nat) (Option.none : Option Jvm.ClassFile.FieldType)).before args0 about1 = true := code_word (m := ⟨0, 0⟩) (meth := k0m0) (c := k0c0) (by decide +kernel) rfl rfl rfl (by decide +kernel)
theorem w_c4 : (Jvm.Cond.code ({ cls := "com/example/kick/kick/value/PoolMetrics", name := "requireZeroOrMore", desc := "(JLjava/lang/String;)V" } : Jvm.MethodName) prog_12_method_12_code (3 : Nat) (Option.none : Option Jvm.ClassFile.FieldType)).before args0 about1 = true := code_word (m := ⟨2, 2⟩) (meth := k2m2) (c := k2c2) (by decide +kernel) rfl rfl rfl (by decide +kernel)
theorem w_c5 : (Jvm.Cond.code ({ cls := "com/example/kick/kick/value/PoolMetrics", name := "toString", desc := "()Ljava/lang/String;" } : Jvm.MethodName) prog_12_method_11_code (1 : Nat) (Option.some (Jvm.ClassFile.FieldType.object "java/lang/String"))).before args0 about1 = true := code_word (m := ⟨2, 1⟩) (meth := k2m1) (c := k2c1) (by decide +kernel) rfl rfl rfl (by decide +kernel)
theorem w_c6 : (Jvm.Cond.code ({ cls := "java/lang/StringBuilder", name := "<init>", desc := "()V" } : Jvm.MethodName) jdk_67_method_1_code (1 : Nat) (Option.none : Option Jvm.ClassFile.FieldType)).before args0 about1 = true := code_word (m := ⟨11, 0⟩) (meth := k11m0) (c := k11c0) (by decide +kernel) rfl rfl rfl (by decide +kernel)
theorem w_c7 : (Jvm.Cond.code ({ cls := "java/lang/AbstractStringBuilder", name := "<init>", desc := "(I)V" } : Jvm.MethodName) jdk_68_method_2_code (2 : Nat) (Option.none : Option Jvm.ClassFile.FieldType)).before args0 about1 = true := code_word (m := ⟨10, 1⟩) (meth := k10m1) (c := k10c1) (by decide +kernel) rfl rfl rfl (by decide +kernel)
theorem w_c8 : (Jvm.Cond.code ({ cls := "java/lang/StringBuilder", name := "append", desc := "(Ljava/lang/String;)Ljava/lang/StringBuilder;" } : Jvm.MethodName) jdk_67_method_7_code (2 : Nat) (Option.some (Jvm.ClassFile.FieldType.object "java/lang/StringBuilder"))).before args0 about1 = true := code_word (m := ⟨11, 1⟩) (meth := k11m1) (c := k11c1) (by decide +kernel) rfl rfl rfl (by decide +kernel)
theorem w_c9 : (Jvm.Cond.code ({ cls := "java/lang/AbstractStringBuilder", name := "append", desc := "(Ljava/lang/String;)Ljava/lang/AbstractStringBuilder;" } : Jvm.MethodName) jdk_68_method_22_code (3 : Nat) (Option.some (Jvm.ClassFile.FieldType.object "java/lang/AbstractStringBuilder"))).before args0 about1 = true := code_word (m := ⟨10, 5⟩) (meth := k10m5) (c := k10c5) (by decide +kernel) rfl rfl rfl (by decide +kernel)
theorem w_c10 : (Jvm.Cond.code ({ cls := "java/lang/String", name := "length", desc := "()I" } : Jvm.MethodName) jdk_42_method_54_code (1 : Nat) (Option.some Jvm.ClassFile.FieldType.int)).before args0 about1 = true := code_word (m := ⟨8, 2⟩) (meth := k8m2) (c := k8c2) (by decide +kernel) rfl rfl rfl (by decide +kernel)
theorem w_c11 : (Jvm.Cond.code ({ cls := "java/lang/String", name := "coder", desc := "()B" } : Jvm.MethodName) jdk_42_method_152_code (1 : Nat) (Option.some Jvm.ClassFile.FieldType.byte)).before args0 about1 = true := code_word (m := ⟨8, 6⟩) (meth := k8m6) (c := k8c6) (by decide +kernel) rfl rfl rfl (by decide +kernel)
theorem w_c12 : (Jvm.Cond.code ({ cls := "java/lang/AbstractStringBuilder", name := "ensureCapacityInternal", desc := "(I)V" } : Jvm.MethodName) jdk_68_method_9_code (3 : Nat) (Option.none : Option Jvm.ClassFile.FieldType)).before args0 about1 = true := code_word (m := ⟨10, 3⟩) (meth := k10m3) (c := k10c3) (by decide +kernel) rfl rfl rfl (by decide +kernel)
theorem w_c13 : (Jvm.Cond.code ({ cls := "java/lang/AbstractStringBuilder", name := "newCapacity", desc := "(I)I" } : Jvm.MethodName) jdk_68_method_10_code (6 : Nat) (Option.some Jvm.ClassFile.FieldType.int)).before args0 about1 = true := code_word (m := ⟨10, 4⟩) (meth := k10m4) (c := k10c4) (by decide +kernel) rfl rfl rfl (by decide +kernel)
theorem w_c14 : (Jvm.Cond.code ({ cls := "jdk/internal/util/ArraysSupport", name := "newLength", desc := "(III)I" } : Jvm.MethodName) jdk_48_method_27_code (4 : Nat) (Option.some Jvm.ClassFile.FieldType.int)).before args0 about1 = true := code_word (m := ⟨12, 1⟩) (meth := k12m1) (c := k12c1) (by decide +kernel) rfl rfl rfl (by decide +kernel)
theorem w_c15 : (Jvm.Cond.code ({ cls := "java/lang/Math", name := "max", desc := "(II)I" } : Jvm.MethodName) jdk_29_method_65_code (2 : Nat) (Option.some Jvm.ClassFile.FieldType.int)).before args0 about1 = true := code_word (m := ⟨13, 1⟩) (meth := k13m1) (c := k13c1) (by decide +kernel) rfl rfl rfl (by decide +kernel)
theorem w_c16 : (Jvm.Cond.code ({ cls := "java/util/Arrays", name := "copyOf", desc := "([BI)[B" } : Jvm.MethodName) jdk_65_method_121_code (3 : Nat) (Option.some (Jvm.ClassFile.FieldType.array Jvm.ClassFile.FieldType.byte))).before args0 about1 = true := code_word (m := ⟨14, 1⟩) (meth := k14m1) (c := k14c1) (by decide +kernel) rfl rfl rfl (by decide +kernel)
theorem w_c17 : (Jvm.Cond.code ({ cls := "java/lang/Math", name := "min", desc := "(II)I" } : Jvm.MethodName) jdk_29_method_69_code (2 : Nat) (Option.some Jvm.ClassFile.FieldType.int)).before args0 about1 = true := code_word (m := ⟨13, 2⟩) (meth := k13m2) (c := k13c2) (by decide +kernel) rfl rfl rfl (by decide +kernel)
theorem w_c18 : (Jvm.Cond.code ({ cls := "java/lang/AbstractStringBuilder", name := "putStringAt", desc := "(ILjava/lang/String;)V" } : Jvm.MethodName) jdk_68_method_73_code (3 : Nat) (Option.none : Option Jvm.ClassFile.FieldType)).before args0 about1 = true := code_word (m := ⟨10, 11⟩) (meth := k10m11) (c := k10c11) (by decide +kernel) rfl rfl rfl (by decide +kernel)
theorem w_c19 : (Jvm.Cond.code ({ cls := "java/lang/AbstractStringBuilder", name := "inflateIfNeededFor", desc := "(Ljava/lang/String;)V" } : Jvm.MethodName) jdk_68_method_71_code (2 : Nat) (Option.none : Option Jvm.ClassFile.FieldType)).before args0 about1 = true := code_word (m := ⟨10, 10⟩) (meth := k10m10) (c := k10c10) (by decide +kernel) rfl rfl rfl (by decide +kernel)
theorem w_c20 : (Jvm.Cond.code ({ cls := "java/lang/String", name := "getBytes", desc := "([BIB)V" } : Jvm.MethodName) jdk_42_method_147_code (4 : Nat) (Option.none : Option Jvm.ClassFile.FieldType)).before args0 about1 = true := code_word (m := ⟨8, 4⟩) (meth := k8m4) (c := k8c4) (by decide +kernel) rfl rfl rfl (by decide +kernel)
theorem w_c21 : (Jvm.Cond.code ({ cls := "java/lang/StringBuilder", name := "append", desc := "(I)Ljava/lang/StringBuilder;" } : Jvm.MethodName) jdk_67_method_15_code (2 : Nat) (Option.some (Jvm.ClassFile.FieldType.object "java/lang/StringBuilder"))).before args0 about1 = true := code_word (m := ⟨11, 2⟩) (meth := k11m2) (c := k11c2) (by decide +kernel) rfl rfl rfl (by decide +kernel)
theorem w_c22 : (Jvm.Cond.code ({ cls := "java/lang/AbstractStringBuilder", name := "append", desc := "(I)Ljava/lang/AbstractStringBuilder;" } : Jvm.MethodName) jdk_68_method_32_code (4 : Nat) (Option.some (Jvm.ClassFile.FieldType.object "java/lang/AbstractStringBuilder"))).before args0 about1 = true := code_word (m := ⟨10, 6⟩) (meth := k10m6) (c := k10c6) (by decide +kernel) rfl rfl rfl (by decide +kernel)
theorem w_c23 : (Jvm.Cond.code ({ cls := "java/lang/Integer", name := "stringSize", desc := "(I)I" } : Jvm.MethodName) jdk_33_method_13_code (4 : Nat) (Option.some Jvm.ClassFile.FieldType.int)).before args0 about1 = true := code_word (m := ⟨17, 1⟩) (meth := k17m1) (c := k17c1) (by decide +kernel) rfl rfl rfl (by decide +kernel)
theorem w_c24 : (Jvm.Cond.code ({ cls := "java/lang/AbstractStringBuilder", name := "isLatin1", desc := "()Z" } : Jvm.MethodName) jdk_68_method_68_code (1 : Nat) (Option.some Jvm.ClassFile.FieldType.boolean)).before args0 about1 = true := code_word (m := ⟨10, 9⟩) (meth := k10m9) (c := k10c9) (by decide +kernel) rfl rfl rfl (by decide +kernel)
theorem w_c25 : (Jvm.Cond.code ({ cls := "java/lang/Integer", name := "getChars", desc := "(II[B)I" } : Jvm.MethodName) jdk_33_method_12_code (7 : Nat) (Option.some Jvm.ClassFile.FieldType.int)).before args0 about1 = true := code_word (m := ⟨17, 0⟩) (meth := k17m0) (c := k17c0) (by decide +kernel) rfl rfl rfl (by decide +kernel)
theorem w_c26 : (Jvm.Cond.code ({ cls := "java/lang/StringBuilder", name := "append", desc := "(J)Ljava/lang/StringBuilder;" } : Jvm.MethodName) jdk_67_method_16_code (3 : Nat) (Option.some (Jvm.ClassFile.FieldType.object "java/lang/StringBuilder"))).before args0 about1 = true := code_word (m := ⟨11, 3⟩) (meth := k11m3) (c := k11c3) (by decide +kernel) rfl rfl rfl (by decide +kernel)
theorem w_c27 : (Jvm.Cond.code ({ cls := "java/lang/AbstractStringBuilder", name := "append", desc := "(J)Ljava/lang/AbstractStringBuilder;" } : Jvm.MethodName) jdk_68_method_33_code (5 : Nat) (Option.some (Jvm.ClassFile.FieldType.object "java/lang/AbstractStringBuilder"))).before args0 about1 = true := code_word (m := ⟨10, 7⟩) (meth := k10m7) (c := k10c7) (by decide +kernel) rfl rfl rfl (by decide +kernel)
theorem w_c28 : (Jvm.Cond.code ({ cls := "java/lang/Long", name := "stringSize", desc := "(J)I" } : Jvm.MethodName) jdk_35_method_15_code (6 : Nat) (Option.some Jvm.ClassFile.FieldType.int)).before args0 about1 = true := code_word (m := ⟨18, 1⟩) (meth := k18m1) (c := k18c1) (by decide +kernel) rfl rfl rfl (by decide +kernel)
theorem w_c29 : (Jvm.Cond.code ({ cls := "java/lang/Long", name := "getChars", desc := "(JI[B)I" } : Jvm.MethodName) jdk_35_method_14_code (11 : Nat) (Option.some Jvm.ClassFile.FieldType.int)).before args0 about1 = true := code_word (m := ⟨18, 0⟩) (meth := k18m0) (c := k18c0) (by decide +kernel) rfl rfl rfl (by decide +kernel)
theorem w_c30 : (Jvm.Cond.code ({ cls := "java/lang/StringBuilder", name := "toString", desc := "()Ljava/lang/String;" } : Jvm.MethodName) jdk_67_method_42_code (1 : Nat) (Option.some (Jvm.ClassFile.FieldType.object "java/lang/String"))).before args0 about1 = true := code_word (m := ⟨11, 4⟩) (meth := k11m4) (c := k11c4) (by decide +kernel) rfl rfl rfl (by decide +kernel)
theorem w_c31 : (Jvm.Cond.code ({ cls := "java/lang/String", name := "<init>", desc := "(Ljava/lang/StringBuilder;)V" } : Jvm.MethodName) jdk_42_method_53_code (2 : Nat) (Option.none : Option Jvm.ClassFile.FieldType)).before args0 about1 = true := code_word (m := ⟨8, 1⟩) (meth := k8m1) (c := k8c1) (by decide +kernel) rfl rfl rfl (by decide +kernel)
theorem w_c32 : (Jvm.Cond.code ({ cls := "java/lang/String", name := "<init>", desc := "(Ljava/lang/AbstractStringBuilder;Ljava/lang/Void;)V" } : Jvm.MethodName) jdk_42_method_150_code (5 : Nat) (Option.none : Option Jvm.ClassFile.FieldType)).before args0 about1 = true := code_word (m := ⟨8, 5⟩) (meth := k8m5) (c := k8c5) (by decide +kernel) rfl rfl rfl (by decide +kernel)
theorem w_c33 : (Jvm.Cond.code ({ cls := "java/lang/AbstractStringBuilder", name := "getValue", desc := "()[B" } : Jvm.MethodName) jdk_68_method_64_code (1 : Nat) (Option.some (Jvm.ClassFile.FieldType.array Jvm.ClassFile.FieldType.byte))).before args0 about1 = true := code_word (m := ⟨10, 8⟩) (meth := k10m8) (c := k10c8) (by decide +kernel) rfl rfl rfl (by decide +kernel)
theorem w_c34 : (Jvm.Cond.code ({ cls := "java/lang/StringBuilder", name := "length", desc := "()I" } : Jvm.MethodName) jdk_67_method_93_code (1 : Nat) (Option.some Jvm.ClassFile.FieldType.int)).before args0 about1 = true := code_word (m := ⟨11, 5⟩) (meth := k11m5) (c := k11c5) (by decide +kernel) rfl rfl rfl (by decide +kernel)
theorem w_c35 : (Jvm.Cond.code ({ cls := "java/lang/AbstractStringBuilder", name := "length", desc := "()I" } : Jvm.MethodName) jdk_68_method_6_code (1 : Nat) (Option.some Jvm.ClassFile.FieldType.int)).before args0 about1 = true := code_word (m := ⟨10, 2⟩) (meth := k10m2) (c := k10c2) (by decide +kernel) rfl rfl rfl (by decide +kernel)
theorem w_c36 : (Jvm.Cond.code ({ cls := "java/util/Arrays", name := "copyOfRange", desc := "([BII)[B" } : Jvm.MethodName) jdk_65_method_132_code (3 : Nat) (Option.some (Jvm.ClassFile.FieldType.array Jvm.ClassFile.FieldType.byte))).before args0 about1 = true := code_word (m := ⟨14, 3⟩) (meth := k14m3) (c := k14c3) (by decide +kernel) rfl rfl rfl (by decide +kernel)
theorem w_c37 : (Jvm.Cond.code ({ cls := "java/util/Arrays", name := "copyOfRangeByte", desc := "([BII)[B" } : Jvm.MethodName) jdk_65_method_133_code (5 : Nat) (Option.some (Jvm.ClassFile.FieldType.array Jvm.ClassFile.FieldType.byte))).before args0 about1 = true := code_word (m := ⟨14, 4⟩) (meth := k14m4) (c := k14c4) (by decide +kernel) rfl rfl rfl (by decide +kernel)
theorem w_c38 : (Jvm.Cond.code ({ cls := "java/util/Arrays", name := "checkLength", desc := "(II)V" } : Jvm.MethodName) jdk_65_method_131_code (2 : Nat) (Option.none : Option Jvm.ClassFile.FieldType)).before args0 about1 = true := code_word (m := ⟨14, 2⟩) (meth := k14m2) (c := k14c2) (by decide +kernel) rfl rfl rfl (by decide +kernel)
theorem w_c39 : (Jvm.Cond.code ({ cls := "com/example/kick/kick/value/PoolMetricsToStringPinLaw", name := "digits", desc := "(J)I" } : Jvm.MethodName) method_2_code (2 : Nat) (Option.some Jvm.ClassFile.FieldType.int)).before args0 about1 = true := code_word (m := ⟨1, 1⟩) (meth := k1m1) (c := k1c1) (by decide +kernel) rfl rfl rfl (by decide +kernel)
theorem w_c40 : (Jvm.Cond.code ({ cls := "java/lang/String", name := "equals", desc := "(Ljava/lang/Object;)Z" } : Jvm.MethodName) jdk_42_method_66_code (3 : Nat) (Option.some Jvm.ClassFile.FieldType.boolean)).before args0 about1 = true := code_word (m := ⟨8, 3⟩) (meth := k8m3) (c := k8c3) (by decide +kernel) rfl rfl rfl (by decide +kernel)
theorem w_c41 : (Jvm.Cond.code ({ cls := "java/lang/StringLatin1", name := "equals", desc := "([B[B)Z" } : Jvm.MethodName) jdk_43_method_13_code (3 : Nat) (Option.some Jvm.ClassFile.FieldType.boolean)).before args0 about1 = true := code_word (m := ⟨19, 1⟩) (meth := k19m1) (c := k19c1) (by decide +kernel) rfl rfl rfl (by decide +kernel)
def codes1 : List Jvm.Cond := [Cond.code x code maxLocals ret, Cond.code ⟨"com/example/kick/kick/value/PoolMetricsToStringPinLaw", "make", "([J)Lcom/example/kick/kick/value/PoolMetrics;"⟩ method_3_code 1 (Option.some (FieldType.object "com/example/kick/kick/value/PoolMetrics")), Cond.code ⟨"com/example/kick/kick/value/PoolMetrics", "<init>", "(IIIJJJJJJ)V"⟩ prog_12_method_1_code 16 (Option.none : Option Jvm.ClassFile.FieldType), Cond.code ⟨"java/lang/Object", "<init>", "()V"⟩ object_method_1_code 1 (Option.none : Option Jvm.ClassFile.FieldType), Cond.code ⟨"com/example/kick/kick/value/PoolMetrics", "requireZeroOrMore", "(JLjava/lang/String;)V"⟩ prog_12_method_12_code 3 (Option.none : Option Jvm.ClassFile.FieldType), Cond.code ⟨"com/example/kick/kick/value/PoolMetrics", "toString", "()Ljava/lang/String;"⟩ prog_12_method_11_code 1 (Option.some (FieldType.object "java/lang/String")), Cond.code ⟨"java/lang/StringBuilder", "<init>", "()V"⟩ jdk_67_method_1_code 1 (Option.none : Option Jvm.ClassFile.FieldType), Cond.code ⟨"java/lang/AbstractStringBuilder", "<init>", "(I)V"⟩ jdk_68_method_2_code 2 (Option.none : Option Jvm.ClassFile.FieldType), Cond.code ⟨"java/lang/StringBuilder", "append", "(Ljava/lang/String;)Ljava/lang/StringBuilder;"⟩ jdk_67_method_7_code 2 (Option.some (FieldType.object "java/lang/StringBuilder")), Cond.code ⟨"java/lang/AbstractStringBuilder", "append", "(Ljava/lang/String;)Ljava/lang/AbstractStringBuilder;"⟩ jdk_68_method_22_code 3 (Option.some (FieldType.object "java/lang/AbstractStringBuilder")), Cond.code ⟨"java/lang/String", "length", "()I"⟩ jdk_42_method_54_code 1 (Option.some FieldType.int), Cond.code ⟨"java/lang/String", "coder", "()B"⟩ jdk_42_method_152_code 1 (Option.some FieldType.byte), Cond.code ⟨"java/lang/AbstractStringBuilder", "ensureCapacityInternal", "(I)V"⟩ jdk_68_method_9_code 3 (Option.none : Option Jvm.ClassFile.FieldType), Cond.code ⟨"java/lang/AbstractStringBuilder", "newCapacity", "(I)I"⟩ jdk_68_method_10_code 6 (Option.some FieldType.int), Cond.code ⟨"jdk/internal/util/ArraysSupport", "newLength", "(III)I"⟩ jdk_48_method_27_code 4 (Option.some FieldType.int), Cond.code ⟨"java/lang/Math", "max", "(II)I"⟩ jdk_29_method_65_code 2 (Option.some FieldType.int), Cond.code ⟨"java/util/Arrays", "copyOf", "([BI)[B"⟩ jdk_65_method_121_code 3 (Option.some (FieldType.array FieldType.byte)), Cond.code ⟨"java/lang/Math", "min", "(II)I"⟩ jdk_29_method_69_code 2 (Option.some FieldType.int), Cond.code ⟨"java/lang/AbstractStringBuilder", "putStringAt", "(ILjava/lang/String;)V"⟩ jdk_68_method_73_code 3 (Option.none : Option Jvm.ClassFile.FieldType), Cond.code ⟨"java/lang/AbstractStringBuilder", "inflateIfNeededFor", "(Ljava/lang/String;)V"⟩ jdk_68_method_71_code 2 (Option.none : Option Jvm.ClassFile.FieldType), Cond.code ⟨"java/lang/String", "getBytes", "([BIB)V"⟩ jdk_42_method_147_code 4 (Option.none : Option Jvm.ClassFile.FieldType), Cond.code ⟨"java/lang/StringBuilder", "append", "(I)Ljava/lang/StringBuilder;"⟩ jdk_67_method_15_code 2 (Option.some (FieldType.object "java/lang/StringBuilder")), Cond.code ⟨"java/lang/AbstractStringBuilder", "append", "(I)Ljava/lang/AbstractStringBuilder;"⟩ jdk_68_method_32_code 4 (Option.some (FieldType.object "java/lang/AbstractStringBuilder")), Cond.code ⟨"java/lang/Integer", "stringSize", "(I)I"⟩ jdk_33_method_13_code 4 (Option.some FieldType.int), Cond.code ⟨"java/lang/AbstractStringBuilder", "isLatin1", "()Z"⟩ jdk_68_method_68_code 1 (Option.some FieldType.boolean), Cond.code ⟨"java/lang/Integer", "getChars", "(II[B)I"⟩ jdk_33_method_12_code 7 (Option.some FieldType.int), Cond.code ⟨"java/lang/StringBuilder", "append", "(J)Ljava/lang/StringBuilder;"⟩ jdk_67_method_16_code 3 (Option.some (FieldType.object "java/lang/StringBuilder")), Cond.code ⟨"java/lang/AbstractStringBuilder", "append", "(J)Ljava/lang/AbstractStringBuilder;"⟩ jdk_68_method_33_code 5 (Option.some (FieldType.object "java/lang/AbstractStringBuilder")), Cond.code ⟨"java/lang/Long", "stringSize", "(J)I"⟩ jdk_35_method_15_code 6 (Option.some FieldType.int), Cond.code ⟨"java/lang/Long", "getChars", "(JI[B)I"⟩ jdk_35_method_14_code 11 (Option.some FieldType.int), Cond.code ⟨"java/lang/StringBuilder", "toString", "()Ljava/lang/String;"⟩ jdk_67_method_42_code 1 (Option.some (FieldType.object "java/lang/String")), Cond.code ⟨"java/lang/String", "<init>", "(Ljava/lang/StringBuilder;)V"⟩ jdk_42_method_53_code 2 (Option.none : Option Jvm.ClassFile.FieldType), Cond.code ⟨"java/lang/String", "<init>", "(Ljava/lang/AbstractStringBuilder;Ljava/lang/Void;)V"⟩ jdk_42_method_150_code 5 (Option.none : Option Jvm.ClassFile.FieldType), Cond.code ⟨"java/lang/AbstractStringBuilder", "getValue", "()[B"⟩ jdk_68_method_64_code 1 (Option.some (FieldType.array FieldType.byte)), Cond.code ⟨"java/lang/StringBuilder", "length", "()I"⟩ jdk_67_method_93_code 1 (Option.some FieldType.int), Cond.code ⟨"java/lang/AbstractStringBuilder", "length", "()I"⟩ jdk_68_method_6_code 1 (Option.some FieldType.int), Cond.code ⟨"java/util/Arrays", "copyOfRange", "([BII)[B"⟩ jdk_65_method_132_code 3 (Option.some (FieldType.array FieldType.byte)), Cond.code ⟨"java/util/Arrays", "copyOfRangeByte", "([BII)[B"⟩ jdk_65_method_133_code 5 (Option.some (FieldType.array FieldType.byte)), Cond.code ⟨"java/util/Arrays", "checkLength", "(II)V"⟩ jdk_65_method_131_code 2 (Option.none : Option Jvm.ClassFile.FieldType), Cond.code ⟨"com/example/kick/kick/value/PoolMetricsToStringPinLaw", "digits", "(J)I"⟩ method_2_code 2 (Option.some FieldType.int), Cond.code ⟨"java/lang/String", "equals", "(Ljava/lang/Object;)Z"⟩ jdk_42_method_66_code 3 (Option.some FieldType.boolean), Cond.code ⟨"java/lang/StringLatin1", "equals", "([B[B)Z"⟩ jdk_43_method_13_code 3 (Option.some FieldType.boolean)]
theorem codes_eq : words1.filter isCode = codes1 := rfl
theorem w_codes : ∀ c ∈ words1.filter isCode, c.before args0 about1 = true := by
  rw [codes_eq]
  intro c hc
  simp only [codes1, List.mem_cons, List.not_mem_nil, or_false] at hc
  rcases hc with rfl | rfl | rfl | rfl | rfl | rfl | rfl | rfl | rfl | rfl | rfl | rfl | rfl | rfl | rfl | rfl | rfl | rfl | rfl | rfl | rfl | rfl | rfl | rfl | rfl | rfl | rfl | rfl | rfl | rfl | rfl | rfl | rfl | rfl | rfl | rfl | rfl | rfl | rfl | rfl | rfl | rfl
  · exact w_c0
  · exact w_c1
  · exact w_c2
  · exact w_c3
  · exact w_c4
  · exact w_c5
  · exact w_c6
  · exact w_c7
  · exact w_c8
  · exact w_c9
  · exact w_c10
  · exact w_c11
  · exact w_c12
  · exact w_c13
  · exact w_c14
  · exact w_c15
  · exact w_c16
  · exact w_c17
  · exact w_c18
  · exact w_c19
  · exact w_c20
  · exact w_c21
  · exact w_c22
  · exact w_c23
  · exact w_c24
  · exact w_c25
  · exact w_c26
  · exact w_c27
  · exact w_c28
  · exact w_c29
  · exact w_c30
  · exact w_c31
  · exact w_c32
  · exact w_c33
  · exact w_c34
  · exact w_c35
  · exact w_c36
  · exact w_c37
  · exact w_c38
  · exact w_c39
  · exact w_c40
  · exact w_c41
theorem w_t1 : (words1.take 24).all (fun c => isCode c || c.before args0 about1) = true := by decide +kernel
theorem w_t2 : ((words1.drop 24).take 24).all (fun c => isCode c || c.before args0 about1) = true := by decide +kernel
theorem w_t3 : (((words1.drop 24).drop 24).take 24).all (fun c => isCode c || c.before args0 about1) = true := by decide +kernel
theorem w_t4 : ((((words1.drop 24).drop 24).drop 24).take 24).all (fun c => isCode c || c.before args0 about1) = true := by decide +kernel
theorem w_t5 : (((((words1.drop 24).drop 24).drop 24).drop 24).take 24).all (fun c => isCode c || c.before args0 about1) = true := by decide +kernel
theorem w_t6 : ((((((words1.drop 24).drop 24).drop 24).drop 24).drop 24).take 24).all (fun c => isCode c || c.before args0 about1) = true := by decide +kernel
theorem w_t7 : (((((((words1.drop 24).drop 24).drop 24).drop 24).drop 24).drop 24).take 24).all (fun c => isCode c || c.before args0 about1) = true := by decide +kernel
theorem w_t8 : ((((((((words1.drop 24).drop 24).drop 24).drop 24).drop 24).drop 24).drop 24).take 24).all (fun c => isCode c || c.before args0 about1) = true := by decide +kernel
theorem w_t9 : (((((((((words1.drop 24).drop 24).drop 24).drop 24).drop 24).drop 24).drop 24).drop 24).take 24).all (fun c => isCode c || c.before args0 about1) = true := by decide +kernel
theorem w_t10 : ((((((((((words1.drop 24).drop 24).drop 24).drop 24).drop 24).drop 24).drop 24).drop 24).drop 24).take 24).all (fun c => isCode c || c.before args0 about1) = true := by decide +kernel
theorem w_t11 : (((((((((((words1.drop 24).drop 24).drop 24).drop 24).drop 24).drop 24).drop 24).drop 24).drop 24).drop 24).take 24).all (fun c => isCode c || c.before args0 about1) = true := by decide +kernel
theorem w_t12 : ((((((((((((words1.drop 24).drop 24).drop 24).drop 24).drop 24).drop 24).drop 24).drop 24).drop 24).drop 24).drop 24).take 24).all (fun c => isCode c || c.before args0 about1) = true := by decide +kernel
theorem w_t13 : ((((((((((((words1.drop 24).drop 24).drop 24).drop 24).drop 24).drop 24).drop 24).drop 24).drop 24).drop 24).drop 24).drop 24).all (fun c => isCode c || c.before args0 about1) = true := by decide +kernel
theorem w_tables : (allAtoms (Jvm.Cond.code x code maxLocals ret :: tables_1)).before args0 about1 = true := by
  rw [allAtoms_all]
  show words1.all (fun c => c.before args0 about1) = true
  refine all_split ?_ w_codes
  rw [← List.take_append_drop 24 words1, List.all_append, w_t1, ← List.take_append_drop 24 (words1.drop 24), List.all_append, w_t2, ← List.take_append_drop 24 ((words1.drop 24).drop 24), List.all_append, w_t3, ← List.take_append_drop 24 (((words1.drop 24).drop 24).drop 24), List.all_append, w_t4, ← List.take_append_drop 24 ((((words1.drop 24).drop 24).drop 24).drop 24), List.all_append, w_t5, ← List.take_append_drop 24 (((((words1.drop 24).drop 24).drop 24).drop 24).drop 24), List.all_append, w_t6, ← List.take_append_drop 24 ((((((words1.drop 24).drop 24).drop 24).drop 24).drop 24).drop 24), List.all_append, w_t7, ← List.take_append_drop 24 (((((((words1.drop 24).drop 24).drop 24).drop 24).drop 24).drop 24).drop 24), List.all_append, w_t8, ← List.take_append_drop 24 ((((((((words1.drop 24).drop 24).drop 24).drop 24).drop 24).drop 24).drop 24).drop 24), List.all_append, w_t9, ← List.take_append_drop 24 (((((((((words1.drop 24).drop 24).drop 24).drop 24).drop 24).drop 24).drop 24).drop 24).drop 24), List.all_append, w_t10, ← List.take_append_drop 24 ((((((((((words1.drop 24).drop 24).drop 24).drop 24).drop 24).drop 24).drop 24).drop 24).drop 24).drop 24), List.all_append, w_t11, ← List.take_append_drop 24 (((((((((((words1.drop 24).drop 24).drop 24).drop 24).drop 24).drop 24).drop 24).drop 24).drop 24).drop 24).drop 24), List.all_append, w_t12, w_t13]
  rfl
theorem w_rest : rest_1_c.before args0 about1 = true := by decide +kernel
theorem w_case : (Jvm.Cond.and given_1 narrow_1).before args0 about1 = true := by decide +kernel
theorem w_consts : constsHeld consts_1 about1 := Jvm.Lit.constsHeldB_iff.mp (by decide +kernel)
theorem w_applies : (headSpec (Jvm.Cond.code x code maxLocals ret :: tables_1) room_1).applies x e0.platform about1 = true :=
  (Spec.applies_iff w_frames).mpr ⟨w_running, w_runnable, w_alone, w_named, w_hears, w_ripe, w_room, w_tables⟩
theorem atStart : AtStart classFile x code maxLocals ret World_1 tables_1 room_1 Calls_1 rest_1 Pre_1 launch0 p0 e0 about1 theMethod args0 below0 :=
  ⟨lists_1, trivial, launch0.admits_env _ _ _, launch0.least_env, fairChoices_fair.cas, fairChoices_fair.clock, w_frames, w_args, w_heap, w_applies, ⟨w_consts, trivial⟩, w_rest, w_case⟩
end start1
theorem witness_1 : WitnessClaimed_1 := ⟨start1.p0, start1.e0, start1.about1, start1.theMethod, start1.args0, start1.below0, start1.atStart⟩
end Jvm.Pilot.@@N@@
